import JvmDerived
import JvmDerived.Pilot.@@N@@Statement
import JvmDerived.Pilot.@@N@@Code
set_option linter.unusedVariables false
set_option linter.unusedSimpArgs false
namespace Jvm.RoadKit
open Sem ClassFile Op Lib Jvm.Stand Jvm.Free Jvm.LawKit
abbrev Go (tb : Tables) (e : Env) (below : List Frame) (A B : State) : Prop := ∀ t, Steps tb e below B t → Steps tb e below A t
theorem goT {tb : Tables} {e : Env} {below : List Frame} {A B C : State} (f : Go tb e below A B) (g : Go tb e below B C) : Go tb e below A C := fun t h => f t (g t h)
section New
variable {p : Program} {l : Launch} {e : Env} {R : Room} {s : State} {m : MethodId} {args : Array Value} {below : List Frame} {meth : Method} {c : Code} {T : State} {locs : List Loc} {cells slots : Nat}
theorem retI (X : Stand p l e R s m args below meth c T locs cells slots) (hx : p.tables.exec = Jvm.exec) {pc : Nat} {Ls : Array Slot} {z : Int32} {rest : List Value} (hret : meth.sig.returnType = some .int) (hd : decode c.code pc = .ok (.ireturn, 1)) {fs : List Frame}
    (hl : ∀ (f : JFrame) (acts : List Action), f.method = m → f.locked = none → f.entered = [] → (doReturn e (T.setTop f) acts (some (.int z))).1 = T.setFrames fs) : Steps p.tables e below (T.setTop (mkF m pc Ls (.int z :: rest))) (T.setFrames fs) := by
  have hm' : T.vm.method? m = some meth := X.method'
  have hn : narrow .int (.int z) = .int z := rfl
  show Steps p.tables e below (T.setTop { method := m, pc := pc, locals := Ls, stack := _ :: rest, locked := none }) _
  jvm_step X.here [X.here.top, hx, hd, hm', hret, hn]
  first | (intro acts; rw [hl _ acts rfl rfl rfl]) | rw [hl _ _ rfl rfl rfl]
  exact Steps.refl _
theorem retJ (X : Stand p l e R s m args below meth c T locs cells slots) (hx : p.tables.exec = Jvm.exec) {pc : Nat} {Ls : Array Slot} {z : Int64} {rest : List Value} (hret : meth.sig.returnType = some .long) (hd : decode c.code pc = .ok (.lreturn, 1)) {fs : List Frame}
    (hl : ∀ (f : JFrame) (acts : List Action), f.method = m → f.locked = none → f.entered = [] → (doReturn e (T.setTop f) acts (some (.long z))).1 = T.setFrames fs) : Steps p.tables e below (T.setTop (mkF m pc Ls (.long z :: rest))) (T.setFrames fs) := by
  have hm' : T.vm.method? m = some meth := X.method'
  have hn : narrow .long (.long z) = .long z := rfl
  show Steps p.tables e below (T.setTop { method := m, pc := pc, locals := Ls, stack := _ :: rest, locked := none }) _
  jvm_step X.here [X.here.top, hx, hd, hm', hret, hn]
  first | (intro acts; rw [hl _ acts rfl rfl rfl]) | rw [hl _ _ rfl rfl rfl]
  exact Steps.refl _
theorem retR (X : Stand p l e R s m args below meth c T locs cells slots) (hx : p.tables.exec = Jvm.exec) {pc : Nat} {Ls : Array Slot} {z : Addr} {rest : List Value} {C : String} (hret : meth.sig.returnType = some (.object C)) (hd : decode c.code pc = .ok (.areturn, 1)) {fs : List Frame}
    (hl : ∀ (f : JFrame) (acts : List Action), f.method = m → f.locked = none → f.entered = [] → (doReturn e (T.setTop f) acts (some (.ref z))).1 = T.setFrames fs) : Steps p.tables e below (T.setTop (mkF m pc Ls (.ref z :: rest))) (T.setFrames fs) := by
  have hm' : T.vm.method? m = some meth := X.method'
  show Steps p.tables e below (T.setTop { method := m, pc := pc, locals := Ls, stack := _ :: rest, locked := none }) _
  jvm_step X.here [X.here.top, hx, hd, hm', hret, Value.isRef, FieldType.isReference]
  first | (intro acts; rw [hl _ acts rfl rfl rfl]) | rw [hl _ _ rfl rfl rfl]
  exact Steps.refl _
end New
theorem own_sta_keep {Z : State} {h h' : Heap} {b : Addr} {C n d K : String} {v : Value} (F : Sta Z h C n d v) (E : Exa Z h b K) (Kp : Keep h h' [b]) : Sta Z h' C n d v := by
  obtain ⟨cf, i, k, f, st, cell, h1, h2, h3, h4, h5, h6, h7⟩ := F
  obtain ⟨c2, _, g1, -, -, g4, -⟩ := E
  have ne : st ∉ [b] := fun q => by
    cases List.mem_singleton.mp q
    cases h5.symm.trans g1
    rw [g4] at h6; cases h6
  exact ⟨cf, i, k, f, st, cell, h1, h2, h3, h4, Kp.2.1 st cell h5 ne, h6, h7⟩
theorem own_mvM {Z s : State} {a0 args : Array Value} {own host : String} {index : Nat} {y : MethodName} (hZ : Z.Warmed39 s.vm) (w : (Cond.methodLinkNest own index y host).before a0 Z = true) : (Cond.methodLinkNest own index y host).before args s = true := (Cond.methodLinkNest_wide hZ w :)
theorem own_fld_ne {Z : State} {h : Heap} {a : Addr} {C n d : String} {v w : Value} (F : Fld Z h a C n d v) (G : Fld Z h a C n d w) (ne : v ≠ w) : False := by
  obtain ⟨cell, cf, k, i, f, h1, h2, -, -, -, -, h7⟩ := F
  obtain ⟨cell', cf', k', i', f', g1, g2, -, -, -, -, g7⟩ := G
  cases h1.symm.trans g1
  cases h2.symm.trans g2
  cases h7.symm.trans g7
  exact ne rfl
theorem own_eq_i {args : Array Value} {first s : State} {o : Option Outcome} {idx : List Nat} {a : Term} {z : Int32} (h : (Cond.eq a (.int z)).value args first o s idx = some true) : a.eval args first o idx s = some (.int z) := by
  cases ha : a.eval args first o idx s with
  | none => simp [Cond.value, Term.eval, ha] at h
  | some x => cases x <;> simp [Cond.value, Term.eval, ha] at h ⊢; exact h
theorem own_eq_l {args : Array Value} {first s : State} {o : Option Outcome} {idx : List Nat} {a : Term} {z : Int64} (h : (Cond.eq a (.long z)).value args first o s idx = some true) : a.eval args first o idx s = some (.long z) := by
  cases ha : a.eval args first o idx s with
  | none => simp [Cond.value, Term.eval, ha] at h
  | some x => cases x <;> simp [Cond.value, Term.eval, ha] at h ⊢; exact h
theorem own_ltL {x y : Int64} (h : x < y) : lcmpW x y < 0 := (lw_lt x y).mpr h
theorem own_nltL {x y : Int64} (h : ¬ x < y) : ¬ lcmpW x y < 0 := fun q => h ((lw_lt x y).mp q)
theorem own_gtL {x y : Int64} (h : y < x) : 0 < lcmpW x y := (lw_gt x y).mpr h
theorem own_ngtL {x y : Int64} (h : ¬ y < x) : ¬ 0 < lcmpW x y := fun q => h ((lw_gt x y).mp q)
theorem own_eqL {x y : Int64} (h : x = y) : lcmpW x y = 0 := (lw_eq x y).mpr h
theorem own_neqL {x y : Int64} (h : ¬ x = y) : ¬ lcmpW x y = 0 := fun q => h ((lw_eq x y).mp q)
end Jvm.RoadKit
namespace Jvm.Pilot.@@N@@
open Jvm Jvm.ClassFile Sem Op Lib Jvm.Free Jvm.Stand Jvm.LawKit Jvm.RoadKit Bundle Jvm.Pilot.@@N@@.Jvm.D
theorem own_and (x m : Int32) (k : Nat) (hk : k < 32) (hm : m.toBitVec.toNat = 2 ^ k - 1) : x &&& m = Int32.ofNat (x.toBitVec.toNat % 2 ^ k) := by
  apply Int32.toBitVec_inj.mp
  apply BitVec.eq_of_toNat_eq
  show (x.toBitVec &&& m.toBitVec).toNat = (x.toBitVec.toNat % 2 ^ k) % 2 ^ 32
  have hp : 2 ^ k ≤ 2 ^ 32 := Nat.pow_le_pow_right (by decide) (by omega)
  have hq : x.toBitVec.toNat % 2 ^ k < 2 ^ k := Nat.mod_lt _ (Nat.two_pow_pos k)
  rw [BitVec.toNat_and, hm, Nat.and_two_pow_sub_one_eq_mod, Nat.mod_eq_of_lt (Nat.lt_of_lt_of_le hq hp)]
theorem own_ofNat {n : Nat} (h : n < 2 ^ 31) : (Int32.ofNat n).toInt = n := Int32.toInt_ofNat_of_lt h
theorem own_rem {n k : Nat} (h : n < 2 ^ 31) (hk : 0 < k) (hk2 : k < 2 ^ 31) : Int32.ofNat n % Int32.ofNat k = Int32.ofNat (n % k) := by
  apply Int32.toInt_inj.mp
  have : n % k < k := Nat.mod_lt _ hk
  rw [Int32.toInt_mod, own_ofNat h, own_ofNat hk2, own_ofNat (by omega), Int.tmod_eq_emod_of_nonneg (by omega)]
  rfl
theorem own_bmod {n : Int} (h1 : -2 ^ 31 ≤ n) (h2 : n < 2 ^ 31) : n.bmod (2 ^ 32) = n := by
  rw [Int.bmod_def]; omega
theorem own_remE {n k : Nat} (h : n < 2 ^ 31) (hk : 0 < k) (hk2 : k < 2 ^ 31) : Int32.ofNat n - ((Int32.ofNat n / Int32.ofNat k) * Int32.ofNat k) = Int32.ofNat (n % k) := by
  apply Int32.toInt_inj.mp
  have h3 : n % k < k := Nat.mod_lt _ hk
  have h4 : n / k ≤ n := Nat.div_le_self _ _
  have h5 : (n / k) * k + n % k = n := Nat.div_add_mod' n k
  have e0 : (n : Int).tdiv (k : Int) = ((n / k : Nat) : Int) := rfl
  generalize n / k = d at *
  generalize n % k = r at *
  have e1 : (Int32.ofNat n / Int32.ofNat k).toInt = (d : Int) := by
    rw [Int32.toInt_div, own_ofNat h, own_ofNat hk2, e0]
    exact own_bmod (by omega) (by omega)
  have e2 : ((Int32.ofNat n / Int32.ofNat k) * Int32.ofNat k).toInt = ((d * k : Nat) : Int) := by
    rw [Int32.toInt_mul, e1, own_ofNat hk2, ← Int.natCast_mul]
    exact own_bmod (by omega) (by omega)
  rw [Int32.toInt_sub, e2, own_ofNat h, own_ofNat (by omega), own_bmod (by omega) (by omega)]
  omega
theorem own_inb3 {z j : Int32} (h : ¬ z < (3 : Int32)) (hj : j < 3) : j < z := by
  rw [Int32.lt_iff_toInt_lt] at *
  omega
theorem own_arv3 {Z : State} {args : Array Value} {t : Term} {a : Addr} {cl : Cell} {x0 x1 x2 : Int32} (hf : Fit Z) (A : Arr Z Z.heap a cl .byte) (ev : t.eval args Z none [] Z = some (.ref a))
    (hl : (Term.length t).eval args Z none [] Z = some (.int 3)) (h0 : (Term.elem t (.int 0)).eval args Z none [] Z = some (.int x0)) (h1 : (Term.elem t (.int 1)).eval args Z none [] Z = some (.int x1)) (h2 : (Term.elem t (.int 2)).eval args Z none [] Z = some (.int x2)) :
    Arv Z Z.heap a cl.cls .byte 3 [.int x0, .int x1, .int x2] (.int 0) := by
  have ha : Z.arrayAt? a = some cl := A.fin (Vm.Alike.refl _)
  have hq : cl.slots.size < 2 ^ 31 ∧ cl.slots.size.toInt32 = 3 := by
    by_cases q : cl.slots.size < 2 ^ 31
    · rw [len_f ev ha q] at hl
      exact ⟨q, Value.int.inj (Option.some.inj hl)⟩
    · simp [Term.eval, ev, ha, q] at hl
  have e0 := (elem_in h0 ev (Term.int_eval 0) A.1).2
  have e1 := (elem_in h1 ev (Term.int_eval 1) A.1).2
  have e2 := (elem_in h2 ev (Term.int_eval 2) A.1).2
  exact Arv.start hf A hq.1 hq.2 (by decide) rfl ⟨e0, e1, e2, trivial⟩
theorem d_shorter_0 : decode prog_27_method_5_code 0 = .ok (.aload_n 0, 1) := by decide +kernel
theorem d_shorter_1 : decode prog_27_method_5_code 1 = .ok (.arraylength, 1) := by decide +kernel
theorem d_shorter_2 : decode prog_27_method_5_code 2 = .ok (.getstatic 89, 3) := by decide +kernel
theorem d_shorter_5 : decode prog_27_method_5_code 5 = .ok (.arraylength, 1) := by decide +kernel
theorem d_shorter_6 : decode prog_27_method_5_code 6 = .ok (.if_icmp .lt 7, 3) := by decide +kernel
theorem d_shorter_13 : decode prog_27_method_5_code 13 = .ok (.iconst 0, 1) := by decide +kernel
theorem d_shorter_14 : decode prog_27_method_5_code 14 = .ok (.istore_n 1, 1) := by decide +kernel
theorem d_shorter_15 : decode prog_27_method_5_code 15 = .ok (.iconst 0, 1) := by decide +kernel
theorem d_shorter_16 : decode prog_27_method_5_code 16 = .ok (.istore_n 2, 1) := by decide +kernel
theorem d_shorter_17 : decode prog_27_method_5_code 17 = .ok (.iload_n 1, 1) := by decide +kernel
theorem d_shorter_18 : decode prog_27_method_5_code 18 = .ok (.ifCond .eq 34, 3) := by decide +kernel
theorem d_shorter_52 : decode prog_27_method_5_code 52 = .ok (.iload_n 1, 1) := by decide +kernel
theorem d_shorter_53 : decode prog_27_method_5_code 53 = .ok (.ifCond .eq 10, 3) := by decide +kernel
theorem d_shorter_63 : decode prog_27_method_5_code 63 = .ok (.iconst 0, 1) := by decide +kernel
theorem d_shorter_64 : decode prog_27_method_5_code 64 = .ok (.ireturn, 1) := by decide +kernel
theorem pn_0 : plainName "com/example/role_conflict_finder/roleconflictfinder/Utf8Text" = true := by first | (simp [plainName, overriddenIn]; done) | decide +kernel
theorem ef_shorter (m : MethodId) (x0 : Addr) : entryFrame m #[(.ref x0)] 3 = mkF m 0 #[.val (.ref x0), .unset, .unset] [] := by first | (simp [entryFrame, mkF, argsToLocals, Value.category]; done) | rfl
def Q_shorter (Z : State) (r0 : Addr) (wM : Addr) (kA : ClassId) (zA : Int32) (vsA : List Value) (kM : ClassId) (h0 : Heap) (n0 : Nat) (v : Option Value) (h : Heap) (L : List Loc) : Prop := v = some (.int (0 : Int32)) ∧ Fr n0 L ∧ h = h0
set_option maxRecDepth 65536 in
set_option maxHeartbeats 40000000 in
theorem rm_shorter (l : Launch) (Z : State) (a0 : Array Value) (hw : ∀ d ∈ tables_1, d.before a0 Z = true) (ws : List Jvm.Cond) (r0 : Addr) (wM : Addr) (kA : ClassId) (zA : Int32) (vsA : List Value) (kM : ClassId) (h0 : Heap) (n0 : Nat) (Z0 : n0 ≤ h0.size) (S_M : Sta Z h0 "com/example/role_conflict_finder/roleconflictfinder/Utf8Text" "BYTE_ORDER_MARK" "[B" (.ref wM)) (V_A : Arv Z h0 r0 kA .byte zA vsA (.int (0 : Int32))) (V_M : Arv Z h0 wM kM .byte (3 : Int32) [(.int (-17 : Int32)), (.int (-69 : Int32)), (.int (-65 : Int32))] (.int (0 : Int32))) (hz : zA < (3 : Int32)) :
    MetFree l (⟨"com/example/role_conflict_finder/roleconflictfinder/Utf8Text", "start", "([B)I"⟩ : MethodName) (head1 (Jvm.Cond.code (⟨"com/example/role_conflict_finder/roleconflictfinder/Utf8Text", "start", "([B)I"⟩ : MethodName) prog_27_method_5_code 3 (some .int) :: ws) ({ frames := 0, cells := 0, slots := 0, locals := 0 } : Room)) (fun a U => a = #[(.ref r0)] ∧ Z.Warmed39 U.vm ∧ U.heap = h0) (fun _ _ _ _ _ => True) (fun _ U o U' => ∃ v L, o = .returned v ∧ Q_shorter Z r0 wM kA zA vsA kM h0 n0 v U'.heap L ∧ FrameEnd U o U' L ({ frames := 0, cells := 0, slots := 0, locals := 0 } : Room).cells ({ frames := 0, cells := 0, slots := 0, locals := 0 } : Room).slots) := by
  refine MetFree.of_bodySF (plainFor_of_name pn_0) hisR ?_
  intro p e s m args below meth c s₁ Bd hml0 hP hK
  obtain ⟨rfl, hZ, hh⟩ := hP
  have hx := Bd.exec
  have hby := Bd.bytes
  have hml : c.maxLocals = 3 := hml0
  have hown : s.vm.findClass "com/example/role_conflict_finder/roleconflictfinder/Utf8Text" = some m.cls := findClass_of_methodNamed Bd.named
  have hnm := (name_of_methodNamed Bd.named Bd.method).1
  have X0 : Stand p l e ({ frames := 0, cells := 0, slots := 0, locals := 0 } : Room) s m #[(.ref r0)] below meth c s₁ [] 0 0 := Stand.of_body Bd
  have e0 : s₁.heap = h0 := by rw [← hh, Bd.state]; rfl
  have N0 := Fr.nil n0
  have pre0 : ∀ t, Steps p.tables e below (s₁.setTop (mkF m 0 #[.val (.ref r0), .unset, .unset] [])) t → Steps p.tables e below (s₁.setTop (entryFrame m #[(.ref r0)] 3)) t := fun t k => castTop (ef_shorter m r0) k
  have k1 : Go p.tables e below (s₁.setTop (mkF m 0 #[.val (.ref r0), .unset, .unset] [])) (s₁.setTop (mkF m 1 #[.val (.ref r0), .unset, .unset] [(.ref r0)])) := by
    intro t ht
    refine XS.aloadN X0.here hx rfl (hb hby d_shorter_0) rfl rfl ?_
    exact ht
  obtain ⟨cl2, Ar2, q2, S2, M2, H2, G2⟩ := id V_A
  have k3 : Go p.tables e below (s₁.setTop (mkF m 1 #[.val (.ref r0), .unset, .unset] [(.ref r0)])) (s₁.setTop (mkF m 2 #[.val (.ref r0), .unset, .unset] [(.int zA)])) := by
    intro t ht
    refine X0.arraylength hx (by rw [e0]; exact Ar2.1) (State.isArrayOf_alike hZ.alike Ar2.2.1) (g := (mkF m 1 #[.val (.ref r0), .unset, .unset] [(.ref r0)])) rfl rfl (hb hby d_shorter_1) _ ?_
    rw [len_of S2 M2]
    exact ht
  obtain ⟨T4, X4, e4, st4⟩ := getS2 X0 hx hZ hown (host := "") (Or.inl (hw _ (List.mem_of_getElem? (i := 5) rfl))) Via.refl e0 S_M (g := (mkF m 2 #[.val (.ref r0), .unset, .unset] [(.int zA)])) rfl (hb hby d_shorter_2)
  have k4 : Go p.tables e below (s₁.setTop (mkF m 2 #[.val (.ref r0), .unset, .unset] [(.int zA)])) (T4.setTop (mkF m 5 #[.val (.ref r0), .unset, .unset] [(.ref wM), (.int zA)])) := st4
  obtain ⟨cl5, Ar5, q5, S5, M5, H5, G5⟩ := id V_M
  have k6 : Go p.tables e below (T4.setTop (mkF m 5 #[.val (.ref r0), .unset, .unset] [(.ref wM), (.int zA)])) (T4.setTop (mkF m 64 #[.val (.ref r0), .val (.int (0 : Int32)), .val (.int (0 : Int32))] [(.int (0 : Int32))])) := by
    intro t ht
    refine X4.arraylength hx (by rw [e4]; exact Ar5.1) (State.isArrayOf_alike hZ.alike Ar5.2.1) (g := (mkF m 5 #[.val (.ref r0), .unset, .unset] [(.ref wM), (.int zA)])) rfl rfl (hb hby d_shorter_5) _ ?_
    rw [len_of S5 M5]
    show Steps p.tables e below (T4.setTop (mkF m 6 #[.val (.ref r0), .unset, .unset] [(.int (3 : Int32)), (.int zA)])) _
    refine XS.icmpYes X4.here hx rfl (pc0 := 6) (pc' := 13) rfl (hb hby d_shorter_6) rfl (tlt hz).1 (by decide) (by decide) ?_
    show Steps p.tables e below (T4.setTop (mkF m 13 #[.val (.ref r0), .unset, .unset] [])) _
    refine XS.iconst X4.here hx rfl (hb hby d_shorter_13) ?_
    show Steps p.tables e below (T4.setTop (mkF m 14 #[.val (.ref r0), .unset, .unset] [(.int (0 : Int32))])) _
    refine XS.istoreN X4.here hx rfl (hb hby d_shorter_14) rfl (l' := #[.val (.ref r0), .val (.int (0 : Int32)), .unset]) rfl ?_
    show Steps p.tables e below (T4.setTop (mkF m 15 #[.val (.ref r0), .val (.int (0 : Int32)), .unset] [])) _
    refine XS.iconst X4.here hx rfl (hb hby d_shorter_15) ?_
    show Steps p.tables e below (T4.setTop (mkF m 16 #[.val (.ref r0), .val (.int (0 : Int32)), .unset] [(.int (0 : Int32))])) _
    refine XS.istoreN X4.here hx rfl (hb hby d_shorter_16) rfl (l' := #[.val (.ref r0), .val (.int (0 : Int32)), .val (.int (0 : Int32))]) rfl ?_
    show Steps p.tables e below (T4.setTop (mkF m 17 #[.val (.ref r0), .val (.int (0 : Int32)), .val (.int (0 : Int32))] [])) _
    refine XS.iloadN X4.here hx rfl (hb hby d_shorter_17) rfl ?_
    show Steps p.tables e below (T4.setTop (mkF m 18 #[.val (.ref r0), .val (.int (0 : Int32)), .val (.int (0 : Int32))] [(.int (0 : Int32))])) _
    refine XS.ifYes X4.here hx rfl (pc0 := 18) (pc' := 52) rfl (hb hby d_shorter_18) rfl ((if0 _ _).trans (teq (by decide : (0 : Int32) = (0 : Int32))).1) (by decide) (by decide) ?_
    show Steps p.tables e below (T4.setTop (mkF m 52 #[.val (.ref r0), .val (.int (0 : Int32)), .val (.int (0 : Int32))] [])) _
    refine XS.iloadN X4.here hx rfl (hb hby d_shorter_52) rfl ?_
    show Steps p.tables e below (T4.setTop (mkF m 53 #[.val (.ref r0), .val (.int (0 : Int32)), .val (.int (0 : Int32))] [(.int (0 : Int32))])) _
    refine XS.ifYes X4.here hx rfl (pc0 := 53) (pc' := 63) rfl (hb hby d_shorter_53) rfl ((if0 _ _).trans (teq (by decide : (0 : Int32) = (0 : Int32))).1) (by decide) (by decide) ?_
    show Steps p.tables e below (T4.setTop (mkF m 63 #[.val (.ref r0), .val (.int (0 : Int32)), .val (.int (0 : Int32))] [])) _
    refine XS.iconst X4.here hx rfl (hb hby d_shorter_63) ?_
    exact ht
  obtain ⟨fs, hr, hrun, hended, hW, hsame⟩ := X4.leave (v := some (.int (0 : Int32))) (fun h => by rw [Bd.returns] at h; cases h)
  refine ⟨_, _, pre0 _ ((goT k1 (goT k3 (goT k4 k6))) _ (retI X4 hx Bd.returns (hb hby d_shorter_64) hr)), hrun, hended, _, _, rfl, ?_, ⟨_, rfl⟩, hW, hsame.mono (by decide) (by decide)⟩
  show Q_shorter Z r0 wM kA zA vsA kM h0 n0 _ T4.heap _
  rw [e4]
  exact ⟨rfl, N0, rfl⟩
theorem d_longer_0 : decode prog_27_method_5_code 0 = .ok (.aload_n 0, 1) := by decide +kernel
theorem d_longer_1 : decode prog_27_method_5_code 1 = .ok (.arraylength, 1) := by decide +kernel
theorem d_longer_2 : decode prog_27_method_5_code 2 = .ok (.getstatic 89, 3) := by decide +kernel
theorem d_longer_5 : decode prog_27_method_5_code 5 = .ok (.arraylength, 1) := by decide +kernel
theorem d_longer_6 : decode prog_27_method_5_code 6 = .ok (.if_icmp .lt 7, 3) := by decide +kernel
theorem d_longer_9 : decode prog_27_method_5_code 9 = .ok (.iconst 1, 1) := by decide +kernel
theorem d_longer_10 : decode prog_27_method_5_code 10 = .ok (.goto 4, 3) := by decide +kernel
theorem d_longer_14 : decode prog_27_method_5_code 14 = .ok (.istore_n 1, 1) := by decide +kernel
theorem d_longer_15 : decode prog_27_method_5_code 15 = .ok (.iconst 0, 1) := by decide +kernel
theorem d_longer_16 : decode prog_27_method_5_code 16 = .ok (.istore_n 2, 1) := by decide +kernel
theorem d_longer_17 : decode prog_27_method_5_code 17 = .ok (.iload_n 1, 1) := by decide +kernel
theorem d_longer_18 : decode prog_27_method_5_code 18 = .ok (.ifCond .eq 34, 3) := by decide +kernel
theorem d_longer_21 : decode prog_27_method_5_code 21 = .ok (.iload_n 2, 1) := by decide +kernel
theorem d_longer_22 : decode prog_27_method_5_code 22 = .ok (.getstatic 89, 3) := by decide +kernel
theorem d_longer_25 : decode prog_27_method_5_code 25 = .ok (.arraylength, 1) := by decide +kernel
theorem d_longer_26 : decode prog_27_method_5_code 26 = .ok (.if_icmp .ge 26, 3) := by decide +kernel
theorem d_longer_29 : decode prog_27_method_5_code 29 = .ok (.aload_n 0, 1) := by decide +kernel
theorem d_longer_30 : decode prog_27_method_5_code 30 = .ok (.iload_n 2, 1) := by decide +kernel
theorem d_longer_31 : decode prog_27_method_5_code 31 = .ok (.baload, 1) := by decide +kernel
theorem d_longer_32 : decode prog_27_method_5_code 32 = .ok (.getstatic 89, 3) := by decide +kernel
theorem d_longer_35 : decode prog_27_method_5_code 35 = .ok (.iload_n 2, 1) := by decide +kernel
theorem d_longer_36 : decode prog_27_method_5_code 36 = .ok (.baload, 1) := by decide +kernel
theorem d_longer_37 : decode prog_27_method_5_code 37 = .ok (.if_icmp .ne 7, 3) := by decide +kernel
theorem d_longer_40 : decode prog_27_method_5_code 40 = .ok (.iconst 1, 1) := by decide +kernel
theorem d_longer_41 : decode prog_27_method_5_code 41 = .ok (.goto 4, 3) := by decide +kernel
theorem d_longer_44 : decode prog_27_method_5_code 44 = .ok (.iconst 0, 1) := by decide +kernel
theorem d_longer_45 : decode prog_27_method_5_code 45 = .ok (.istore_n 1, 1) := by decide +kernel
theorem d_longer_46 : decode prog_27_method_5_code 46 = .ok (.iinc 2 1, 3) := by decide +kernel
theorem d_longer_49 : decode prog_27_method_5_code 49 = .ok (.goto (-32), 3) := by decide +kernel
theorem d_longer_52 : decode prog_27_method_5_code 52 = .ok (.iload_n 1, 1) := by decide +kernel
theorem d_longer_53 : decode prog_27_method_5_code 53 = .ok (.ifCond .eq 10, 3) := by decide +kernel
theorem d_longer_56 : decode prog_27_method_5_code 56 = .ok (.getstatic 89, 3) := by decide +kernel
theorem d_longer_59 : decode prog_27_method_5_code 59 = .ok (.arraylength, 1) := by decide +kernel
theorem d_longer_60 : decode prog_27_method_5_code 60 = .ok (.goto 4, 3) := by decide +kernel
theorem d_longer_63 : decode prog_27_method_5_code 63 = .ok (.iconst 0, 1) := by decide +kernel
theorem d_longer_64 : decode prog_27_method_5_code 64 = .ok (.ireturn, 1) := by decide +kernel
theorem ef_longer (m : MethodId) (x0 : Addr) : entryFrame m #[(.ref x0)] 3 = mkF m 0 #[.val (.ref x0), .unset, .unset] [] := by first | (simp [entryFrame, mkF, argsToLocals, Value.category]; done) | rfl
def f_longer (v0 : Int32) (v1 : Int32) (v2 : Int32) : Int32 := (if v0 = (-17 : Int32) then (if v1 = (-69 : Int32) then (if v2 = (-65 : Int32) then (3 : Int32) else (0 : Int32)) else (0 : Int32)) else (0 : Int32))
def Q_longer (Z : State) (r0 : Addr) (wM : Addr) (kA : ClassId) (zA : Int32) (v0 : Int32) (v1 : Int32) (v2 : Int32) (vsA : List Value) (kM : ClassId) (h0 : Heap) (n0 : Nat) (v : Option Value) (h : Heap) (L : List Loc) : Prop := v = some (.int (f_longer v0 v1 v2)) ∧ Fr n0 L ∧ h = h0
set_option maxRecDepth 65536 in
set_option maxHeartbeats 40000000 in
theorem rm_longer (l : Launch) (Z : State) (a0 : Array Value) (hw : ∀ d ∈ tables_1, d.before a0 Z = true) (ws : List Jvm.Cond) (r0 : Addr) (wM : Addr) (kA : ClassId) (zA : Int32) (v0 : Int32) (v1 : Int32) (v2 : Int32) (vsA : List Value) (kM : ClassId) (h0 : Heap) (n0 : Nat) (Z0 : n0 ≤ h0.size) (S_M : Sta Z h0 "com/example/role_conflict_finder/roleconflictfinder/Utf8Text" "BYTE_ORDER_MARK" "[B" (.ref wM)) (V_A : Arv Z h0 r0 kA .byte zA ((.int v0) :: (.int v1) :: (.int v2) :: vsA) (.int (0 : Int32))) (V_M : Arv Z h0 wM kM .byte (3 : Int32) [(.int (-17 : Int32)), (.int (-69 : Int32)), (.int (-65 : Int32))] (.int (0 : Int32))) (hz : ¬ (zA < (3 : Int32))) :
    MetFree l (⟨"com/example/role_conflict_finder/roleconflictfinder/Utf8Text", "start", "([B)I"⟩ : MethodName) (head1 (Jvm.Cond.code (⟨"com/example/role_conflict_finder/roleconflictfinder/Utf8Text", "start", "([B)I"⟩ : MethodName) prog_27_method_5_code 3 (some .int) :: ws) ({ frames := 0, cells := 0, slots := 0, locals := 0 } : Room)) (fun a U => a = #[(.ref r0)] ∧ Z.Warmed39 U.vm ∧ U.heap = h0) (fun _ _ _ _ _ => True) (fun _ U o U' => ∃ v L, o = .returned v ∧ Q_longer Z r0 wM kA zA v0 v1 v2 vsA kM h0 n0 v U'.heap L ∧ FrameEnd U o U' L ({ frames := 0, cells := 0, slots := 0, locals := 0 } : Room).cells ({ frames := 0, cells := 0, slots := 0, locals := 0 } : Room).slots) := by
  refine MetFree.of_bodySF (plainFor_of_name pn_0) hisR ?_
  intro p e s m args below meth c s₁ Bd hml0 hP hK
  obtain ⟨rfl, hZ, hh⟩ := hP
  have hx := Bd.exec
  have hby := Bd.bytes
  have hml : c.maxLocals = 3 := hml0
  have hown : s.vm.findClass "com/example/role_conflict_finder/roleconflictfinder/Utf8Text" = some m.cls := findClass_of_methodNamed Bd.named
  have hnm := (name_of_methodNamed Bd.named Bd.method).1
  have X0 : Stand p l e ({ frames := 0, cells := 0, slots := 0, locals := 0 } : Room) s m #[(.ref r0)] below meth c s₁ [] 0 0 := Stand.of_body Bd
  have e0 : s₁.heap = h0 := by rw [← hh, Bd.state]; rfl
  have N0 := Fr.nil n0
  have pre0 : ∀ t, Steps p.tables e below (s₁.setTop (mkF m 0 #[.val (.ref r0), .unset, .unset] [])) t → Steps p.tables e below (s₁.setTop (entryFrame m #[(.ref r0)] 3)) t := fun t k => castTop (ef_longer m r0) k
  have k1 : Go p.tables e below (s₁.setTop (mkF m 0 #[.val (.ref r0), .unset, .unset] [])) (s₁.setTop (mkF m 1 #[.val (.ref r0), .unset, .unset] [(.ref r0)])) := by
    intro t ht
    refine XS.aloadN X0.here hx rfl (hb hby d_longer_0) rfl rfl ?_
    exact ht
  obtain ⟨cl2, Ar2, q2, S2, M2, H2, G2⟩ := id V_A
  have k3 : Go p.tables e below (s₁.setTop (mkF m 1 #[.val (.ref r0), .unset, .unset] [(.ref r0)])) (s₁.setTop (mkF m 2 #[.val (.ref r0), .unset, .unset] [(.int zA)])) := by
    intro t ht
    refine X0.arraylength hx (by rw [e0]; exact Ar2.1) (State.isArrayOf_alike hZ.alike Ar2.2.1) (g := (mkF m 1 #[.val (.ref r0), .unset, .unset] [(.ref r0)])) rfl rfl (hb hby d_longer_1) _ ?_
    rw [len_of S2 M2]
    exact ht
  obtain ⟨T4, X4, e4, st4⟩ := getS2 X0 hx hZ hown (host := "") (Or.inl (hw _ (List.mem_of_getElem? (i := 5) rfl))) Via.refl e0 S_M (g := (mkF m 2 #[.val (.ref r0), .unset, .unset] [(.int zA)])) rfl (hb hby d_longer_2)
  have k4 : Go p.tables e below (s₁.setTop (mkF m 2 #[.val (.ref r0), .unset, .unset] [(.int zA)])) (T4.setTop (mkF m 5 #[.val (.ref r0), .unset, .unset] [(.ref wM), (.int zA)])) := st4
  obtain ⟨cl5, Ar5, q5, S5, M5, H5, G5⟩ := id V_M
  have k6 : Go p.tables e below (T4.setTop (mkF m 5 #[.val (.ref r0), .unset, .unset] [(.ref wM), (.int zA)])) (T4.setTop (mkF m 22 #[.val (.ref r0), .val (.int (1 : Int32)), .val (.int (0 : Int32))] [(.int (0 : Int32))])) := by
    intro t ht
    refine X4.arraylength hx (by rw [e4]; exact Ar5.1) (State.isArrayOf_alike hZ.alike Ar5.2.1) (g := (mkF m 5 #[.val (.ref r0), .unset, .unset] [(.ref wM), (.int zA)])) rfl rfl (hb hby d_longer_5) _ ?_
    rw [len_of S5 M5]
    show Steps p.tables e below (T4.setTop (mkF m 6 #[.val (.ref r0), .unset, .unset] [(.int (3 : Int32)), (.int zA)])) _
    refine XS.icmpNo X4.here hx rfl (hb hby d_longer_6) rfl (flt hz).1 ?_
    show Steps p.tables e below (T4.setTop (mkF m 9 #[.val (.ref r0), .unset, .unset] [])) _
    refine XS.iconst X4.here hx rfl (hb hby d_longer_9) ?_
    show Steps p.tables e below (T4.setTop (mkF m 10 #[.val (.ref r0), .unset, .unset] [(.int (1 : Int32))])) _
    refine XS.goto X4.here hx rfl (pc0 := 10) (pc' := 14) rfl (hb hby d_longer_10) (by decide) (by decide) ?_
    show Steps p.tables e below (T4.setTop (mkF m 14 #[.val (.ref r0), .unset, .unset] [(.int (1 : Int32))])) _
    refine XS.istoreN X4.here hx rfl (hb hby d_longer_14) rfl (l' := #[.val (.ref r0), .val (.int (1 : Int32)), .unset]) rfl ?_
    show Steps p.tables e below (T4.setTop (mkF m 15 #[.val (.ref r0), .val (.int (1 : Int32)), .unset] [])) _
    refine XS.iconst X4.here hx rfl (hb hby d_longer_15) ?_
    show Steps p.tables e below (T4.setTop (mkF m 16 #[.val (.ref r0), .val (.int (1 : Int32)), .unset] [(.int (0 : Int32))])) _
    refine XS.istoreN X4.here hx rfl (hb hby d_longer_16) rfl (l' := #[.val (.ref r0), .val (.int (1 : Int32)), .val (.int (0 : Int32))]) rfl ?_
    show Steps p.tables e below (T4.setTop (mkF m 17 #[.val (.ref r0), .val (.int (1 : Int32)), .val (.int (0 : Int32))] [])) _
    refine XS.iloadN X4.here hx rfl (hb hby d_longer_17) rfl ?_
    show Steps p.tables e below (T4.setTop (mkF m 18 #[.val (.ref r0), .val (.int (1 : Int32)), .val (.int (0 : Int32))] [(.int (1 : Int32))])) _
    refine XS.ifNo X4.here hx rfl (hb hby d_longer_18) rfl ((if0 _ _).trans (feq (by decide : ¬ ((1 : Int32) = (0 : Int32)))).1) ?_
    show Steps p.tables e below (T4.setTop (mkF m 21 #[.val (.ref r0), .val (.int (1 : Int32)), .val (.int (0 : Int32))] [])) _
    refine XS.iloadN X4.here hx rfl (hb hby d_longer_21) rfl ?_
    exact ht
  obtain ⟨T7, X7, e7, st7⟩ := getS2 X4 hx hZ hown (host := "") (Or.inl (hw _ (List.mem_of_getElem? (i := 5) rfl))) Via.refl e4 S_M (g := (mkF m 22 #[.val (.ref r0), .val (.int (1 : Int32)), .val (.int (0 : Int32))] [(.int (0 : Int32))])) rfl (hb hby d_longer_22)
  have k7 : Go p.tables e below (T4.setTop (mkF m 22 #[.val (.ref r0), .val (.int (1 : Int32)), .val (.int (0 : Int32))] [(.int (0 : Int32))])) (T7.setTop (mkF m 25 #[.val (.ref r0), .val (.int (1 : Int32)), .val (.int (0 : Int32))] [(.ref wM), (.int (0 : Int32))])) := st7
  obtain ⟨cl8, Ar8, q8, S8, M8, H8, G8⟩ := id V_M
  have k9 : Go p.tables e below (T7.setTop (mkF m 25 #[.val (.ref r0), .val (.int (1 : Int32)), .val (.int (0 : Int32))] [(.ref wM), (.int (0 : Int32))])) (T7.setTop (mkF m 31 #[.val (.ref r0), .val (.int (1 : Int32)), .val (.int (0 : Int32))] [(.int (0 : Int32)), (.ref r0)])) := by
    intro t ht
    refine X7.arraylength hx (by rw [e7]; exact Ar8.1) (State.isArrayOf_alike hZ.alike Ar8.2.1) (g := (mkF m 25 #[.val (.ref r0), .val (.int (1 : Int32)), .val (.int (0 : Int32))] [(.ref wM), (.int (0 : Int32))])) rfl rfl (hb hby d_longer_25) _ ?_
    rw [len_of S8 M8]
    show Steps p.tables e below (T7.setTop (mkF m 26 #[.val (.ref r0), .val (.int (1 : Int32)), .val (.int (0 : Int32))] [(.int (3 : Int32)), (.int (0 : Int32))])) _
    refine XS.icmpNo X7.here hx rfl (hb hby d_longer_26) rfl (tlt (by decide : (0 : Int32) < (3 : Int32))).2.1 ?_
    show Steps p.tables e below (T7.setTop (mkF m 29 #[.val (.ref r0), .val (.int (1 : Int32)), .val (.int (0 : Int32))] [])) _
    refine XS.aloadN X7.here hx rfl (hb hby d_longer_29) rfl rfl ?_
    show Steps p.tables e below (T7.setTop (mkF m 30 #[.val (.ref r0), .val (.int (1 : Int32)), .val (.int (0 : Int32))] [(.ref r0)])) _
    refine XS.iloadN X7.here hx rfl (hb hby d_longer_30) rfl ?_
    exact ht
  obtain ⟨cl10, Ar10, q10, S10, M10, H10, G10⟩ := id V_A
  have hin10 : ¬ ((0 : Int32) < 0 ∨ cl10.slots.size ≤ ((0 : Int32)).toNatClampNeg) := inb_of S10 ⟨by decide, own_inb3 hz (by decide)⟩
  have hat10 : cl10.slots[((0 : Int32)).toNatClampNeg]? = some (.int v0) := (H10 _ (Nat.lt_of_not_le fun y => hin10 (Or.inr y))).trans (congrArg some (rfl))
  have k11 : Go p.tables e below (T7.setTop (mkF m 31 #[.val (.ref r0), .val (.int (1 : Int32)), .val (.int (0 : Int32))] [(.int (0 : Int32)), (.ref r0)])) (T7.setTop (mkF m 32 #[.val (.ref r0), .val (.int (1 : Int32)), .val (.int (0 : Int32))] [(.int v0)])) := by
    intro t ht
    refine X7.baloadBytes hx (j := (0 : Int32)) (v := (.int v0)) (by rw [e7]; exact Ar10.1) (State.isArrayOf_alike hZ.alike Ar10.2.1) Ar10.2.2 hin10 hat10 (g := (mkF m 31 #[.val (.ref r0), .val (.int (1 : Int32)), .val (.int (0 : Int32))] [(.int (0 : Int32)), (.ref r0)])) rfl rfl (hb hby d_longer_31) _ ?_
    exact ht
  obtain ⟨T12, X12, e12, st12⟩ := getS2 X7 hx hZ hown (host := "") (Or.inl (hw _ (List.mem_of_getElem? (i := 5) rfl))) Via.refl e7 S_M (g := (mkF m 32 #[.val (.ref r0), .val (.int (1 : Int32)), .val (.int (0 : Int32))] [(.int v0)])) rfl (hb hby d_longer_32)
  have k12 : Go p.tables e below (T7.setTop (mkF m 32 #[.val (.ref r0), .val (.int (1 : Int32)), .val (.int (0 : Int32))] [(.int v0)])) (T12.setTop (mkF m 35 #[.val (.ref r0), .val (.int (1 : Int32)), .val (.int (0 : Int32))] [(.ref wM), (.int v0)])) := st12
  have k13 : Go p.tables e below (T12.setTop (mkF m 35 #[.val (.ref r0), .val (.int (1 : Int32)), .val (.int (0 : Int32))] [(.ref wM), (.int v0)])) (T12.setTop (mkF m 36 #[.val (.ref r0), .val (.int (1 : Int32)), .val (.int (0 : Int32))] [(.int (0 : Int32)), (.ref wM), (.int v0)])) := by
    intro t ht
    refine XS.iloadN X12.here hx rfl (hb hby d_longer_35) rfl ?_
    exact ht
  obtain ⟨cl14, Ar14, q14, S14, M14, H14, G14⟩ := id V_M
  have hin14 : ¬ ((0 : Int32) < 0 ∨ cl14.slots.size ≤ ((0 : Int32)).toNatClampNeg) := inb_of S14 ⟨by decide, by decide⟩
  have hat14 : cl14.slots[((0 : Int32)).toNatClampNeg]? = some (.int (-17 : Int32)) := (H14 _ (Nat.lt_of_not_le fun y => hin14 (Or.inr y))).trans (congrArg some (rfl))
  have k15 : Go p.tables e below (T12.setTop (mkF m 36 #[.val (.ref r0), .val (.int (1 : Int32)), .val (.int (0 : Int32))] [(.int (0 : Int32)), (.ref wM), (.int v0)])) (T12.setTop (mkF m 37 #[.val (.ref r0), .val (.int (1 : Int32)), .val (.int (0 : Int32))] [(.int (-17 : Int32)), (.int v0)])) := by
    intro t ht
    refine X12.baloadBytes hx (j := (0 : Int32)) (v := (.int (-17 : Int32))) (by rw [e12]; exact Ar14.1) (State.isArrayOf_alike hZ.alike Ar14.2.1) Ar14.2.2 hin14 hat14 (g := (mkF m 36 #[.val (.ref r0), .val (.int (1 : Int32)), .val (.int (0 : Int32))] [(.int (0 : Int32)), (.ref wM), (.int v0)])) rfl rfl (hb hby d_longer_36) _ ?_
    exact ht
  by_cases hc16 : v0 = (-17 : Int32)
  · have k17 : Go p.tables e below (T12.setTop (mkF m 37 #[.val (.ref r0), .val (.int (1 : Int32)), .val (.int (0 : Int32))] [(.int (-17 : Int32)), (.int v0)])) (T12.setTop (mkF m 22 #[.val (.ref r0), .val (.int (1 : Int32)), .val (.int (1 : Int32))] [(.int (1 : Int32))])) := by
      intro t ht
      refine XS.icmpNo X12.here hx rfl (hb hby d_longer_37) rfl (teq hc16).2 ?_
      show Steps p.tables e below (T12.setTop (mkF m 40 #[.val (.ref r0), .val (.int (1 : Int32)), .val (.int (0 : Int32))] [])) _
      refine XS.iconst X12.here hx rfl (hb hby d_longer_40) ?_
      show Steps p.tables e below (T12.setTop (mkF m 41 #[.val (.ref r0), .val (.int (1 : Int32)), .val (.int (0 : Int32))] [(.int (1 : Int32))])) _
      refine XS.goto X12.here hx rfl (pc0 := 41) (pc' := 45) rfl (hb hby d_longer_41) (by decide) (by decide) ?_
      show Steps p.tables e below (T12.setTop (mkF m 45 #[.val (.ref r0), .val (.int (1 : Int32)), .val (.int (0 : Int32))] [(.int (1 : Int32))])) _
      refine XS.istoreN X12.here hx rfl (hb hby d_longer_45) rfl (l' := #[.val (.ref r0), .val (.int (1 : Int32)), .val (.int (0 : Int32))]) rfl ?_
      show Steps p.tables e below (T12.setTop (mkF m 46 #[.val (.ref r0), .val (.int (1 : Int32)), .val (.int (0 : Int32))] [])) _
      refine XS.iinc X12.here hx rfl (hb hby d_longer_46) rfl (l' := #[.val (.ref r0), .val (.int (1 : Int32)), .val (.int (1 : Int32))]) rfl ?_
      show Steps p.tables e below (T12.setTop (mkF m 49 #[.val (.ref r0), .val (.int (1 : Int32)), .val (.int (1 : Int32))] [])) _
      refine XS.goto X12.here hx rfl (pc0 := 49) (pc' := 17) rfl (hb hby d_longer_49) (by decide) (by decide) ?_
      show Steps p.tables e below (T12.setTop (mkF m 17 #[.val (.ref r0), .val (.int (1 : Int32)), .val (.int (1 : Int32))] [])) _
      refine XS.iloadN X12.here hx rfl (hb hby d_longer_17) rfl ?_
      show Steps p.tables e below (T12.setTop (mkF m 18 #[.val (.ref r0), .val (.int (1 : Int32)), .val (.int (1 : Int32))] [(.int (1 : Int32))])) _
      refine XS.ifNo X12.here hx rfl (hb hby d_longer_18) rfl ((if0 _ _).trans (feq (by decide : ¬ ((1 : Int32) = (0 : Int32)))).1) ?_
      show Steps p.tables e below (T12.setTop (mkF m 21 #[.val (.ref r0), .val (.int (1 : Int32)), .val (.int (1 : Int32))] [])) _
      refine XS.iloadN X12.here hx rfl (hb hby d_longer_21) rfl ?_
      exact ht
    obtain ⟨T18, X18, e18, st18⟩ := getS2 X12 hx hZ hown (host := "") (Or.inl (hw _ (List.mem_of_getElem? (i := 5) rfl))) Via.refl e12 S_M (g := (mkF m 22 #[.val (.ref r0), .val (.int (1 : Int32)), .val (.int (1 : Int32))] [(.int (1 : Int32))])) rfl (hb hby d_longer_22)
    have k18 : Go p.tables e below (T12.setTop (mkF m 22 #[.val (.ref r0), .val (.int (1 : Int32)), .val (.int (1 : Int32))] [(.int (1 : Int32))])) (T18.setTop (mkF m 25 #[.val (.ref r0), .val (.int (1 : Int32)), .val (.int (1 : Int32))] [(.ref wM), (.int (1 : Int32))])) := st18
    obtain ⟨cl19, Ar19, q19, S19, M19, H19, G19⟩ := id V_M
    have k20 : Go p.tables e below (T18.setTop (mkF m 25 #[.val (.ref r0), .val (.int (1 : Int32)), .val (.int (1 : Int32))] [(.ref wM), (.int (1 : Int32))])) (T18.setTop (mkF m 31 #[.val (.ref r0), .val (.int (1 : Int32)), .val (.int (1 : Int32))] [(.int (1 : Int32)), (.ref r0)])) := by
      intro t ht
      refine X18.arraylength hx (by rw [e18]; exact Ar19.1) (State.isArrayOf_alike hZ.alike Ar19.2.1) (g := (mkF m 25 #[.val (.ref r0), .val (.int (1 : Int32)), .val (.int (1 : Int32))] [(.ref wM), (.int (1 : Int32))])) rfl rfl (hb hby d_longer_25) _ ?_
      rw [len_of S19 M19]
      show Steps p.tables e below (T18.setTop (mkF m 26 #[.val (.ref r0), .val (.int (1 : Int32)), .val (.int (1 : Int32))] [(.int (3 : Int32)), (.int (1 : Int32))])) _
      refine XS.icmpNo X18.here hx rfl (hb hby d_longer_26) rfl (tlt (by decide : (1 : Int32) < (3 : Int32))).2.1 ?_
      show Steps p.tables e below (T18.setTop (mkF m 29 #[.val (.ref r0), .val (.int (1 : Int32)), .val (.int (1 : Int32))] [])) _
      refine XS.aloadN X18.here hx rfl (hb hby d_longer_29) rfl rfl ?_
      show Steps p.tables e below (T18.setTop (mkF m 30 #[.val (.ref r0), .val (.int (1 : Int32)), .val (.int (1 : Int32))] [(.ref r0)])) _
      refine XS.iloadN X18.here hx rfl (hb hby d_longer_30) rfl ?_
      exact ht
    obtain ⟨cl21, Ar21, q21, S21, M21, H21, G21⟩ := id V_A
    have hin21 : ¬ ((1 : Int32) < 0 ∨ cl21.slots.size ≤ ((1 : Int32)).toNatClampNeg) := inb_of S21 ⟨by decide, own_inb3 hz (by decide)⟩
    have hat21 : cl21.slots[((1 : Int32)).toNatClampNeg]? = some (.int v1) := (H21 _ (Nat.lt_of_not_le fun y => hin21 (Or.inr y))).trans (congrArg some (rfl))
    have k22 : Go p.tables e below (T18.setTop (mkF m 31 #[.val (.ref r0), .val (.int (1 : Int32)), .val (.int (1 : Int32))] [(.int (1 : Int32)), (.ref r0)])) (T18.setTop (mkF m 32 #[.val (.ref r0), .val (.int (1 : Int32)), .val (.int (1 : Int32))] [(.int v1)])) := by
      intro t ht
      refine X18.baloadBytes hx (j := (1 : Int32)) (v := (.int v1)) (by rw [e18]; exact Ar21.1) (State.isArrayOf_alike hZ.alike Ar21.2.1) Ar21.2.2 hin21 hat21 (g := (mkF m 31 #[.val (.ref r0), .val (.int (1 : Int32)), .val (.int (1 : Int32))] [(.int (1 : Int32)), (.ref r0)])) rfl rfl (hb hby d_longer_31) _ ?_
      exact ht
    obtain ⟨T23, X23, e23, st23⟩ := getS2 X18 hx hZ hown (host := "") (Or.inl (hw _ (List.mem_of_getElem? (i := 5) rfl))) Via.refl e18 S_M (g := (mkF m 32 #[.val (.ref r0), .val (.int (1 : Int32)), .val (.int (1 : Int32))] [(.int v1)])) rfl (hb hby d_longer_32)
    have k23 : Go p.tables e below (T18.setTop (mkF m 32 #[.val (.ref r0), .val (.int (1 : Int32)), .val (.int (1 : Int32))] [(.int v1)])) (T23.setTop (mkF m 35 #[.val (.ref r0), .val (.int (1 : Int32)), .val (.int (1 : Int32))] [(.ref wM), (.int v1)])) := st23
    have k24 : Go p.tables e below (T23.setTop (mkF m 35 #[.val (.ref r0), .val (.int (1 : Int32)), .val (.int (1 : Int32))] [(.ref wM), (.int v1)])) (T23.setTop (mkF m 36 #[.val (.ref r0), .val (.int (1 : Int32)), .val (.int (1 : Int32))] [(.int (1 : Int32)), (.ref wM), (.int v1)])) := by
      intro t ht
      refine XS.iloadN X23.here hx rfl (hb hby d_longer_35) rfl ?_
      exact ht
    obtain ⟨cl25, Ar25, q25, S25, M25, H25, G25⟩ := id V_M
    have hin25 : ¬ ((1 : Int32) < 0 ∨ cl25.slots.size ≤ ((1 : Int32)).toNatClampNeg) := inb_of S25 ⟨by decide, by decide⟩
    have hat25 : cl25.slots[((1 : Int32)).toNatClampNeg]? = some (.int (-69 : Int32)) := (H25 _ (Nat.lt_of_not_le fun y => hin25 (Or.inr y))).trans (congrArg some (rfl))
    have k26 : Go p.tables e below (T23.setTop (mkF m 36 #[.val (.ref r0), .val (.int (1 : Int32)), .val (.int (1 : Int32))] [(.int (1 : Int32)), (.ref wM), (.int v1)])) (T23.setTop (mkF m 37 #[.val (.ref r0), .val (.int (1 : Int32)), .val (.int (1 : Int32))] [(.int (-69 : Int32)), (.int v1)])) := by
      intro t ht
      refine X23.baloadBytes hx (j := (1 : Int32)) (v := (.int (-69 : Int32))) (by rw [e23]; exact Ar25.1) (State.isArrayOf_alike hZ.alike Ar25.2.1) Ar25.2.2 hin25 hat25 (g := (mkF m 36 #[.val (.ref r0), .val (.int (1 : Int32)), .val (.int (1 : Int32))] [(.int (1 : Int32)), (.ref wM), (.int v1)])) rfl rfl (hb hby d_longer_36) _ ?_
      exact ht
    by_cases hc27 : v1 = (-69 : Int32)
    · have k28 : Go p.tables e below (T23.setTop (mkF m 37 #[.val (.ref r0), .val (.int (1 : Int32)), .val (.int (1 : Int32))] [(.int (-69 : Int32)), (.int v1)])) (T23.setTop (mkF m 22 #[.val (.ref r0), .val (.int (1 : Int32)), .val (.int (2 : Int32))] [(.int (2 : Int32))])) := by
        intro t ht
        refine XS.icmpNo X23.here hx rfl (hb hby d_longer_37) rfl (teq hc27).2 ?_
        show Steps p.tables e below (T23.setTop (mkF m 40 #[.val (.ref r0), .val (.int (1 : Int32)), .val (.int (1 : Int32))] [])) _
        refine XS.iconst X23.here hx rfl (hb hby d_longer_40) ?_
        show Steps p.tables e below (T23.setTop (mkF m 41 #[.val (.ref r0), .val (.int (1 : Int32)), .val (.int (1 : Int32))] [(.int (1 : Int32))])) _
        refine XS.goto X23.here hx rfl (pc0 := 41) (pc' := 45) rfl (hb hby d_longer_41) (by decide) (by decide) ?_
        show Steps p.tables e below (T23.setTop (mkF m 45 #[.val (.ref r0), .val (.int (1 : Int32)), .val (.int (1 : Int32))] [(.int (1 : Int32))])) _
        refine XS.istoreN X23.here hx rfl (hb hby d_longer_45) rfl (l' := #[.val (.ref r0), .val (.int (1 : Int32)), .val (.int (1 : Int32))]) rfl ?_
        show Steps p.tables e below (T23.setTop (mkF m 46 #[.val (.ref r0), .val (.int (1 : Int32)), .val (.int (1 : Int32))] [])) _
        refine XS.iinc X23.here hx rfl (hb hby d_longer_46) rfl (l' := #[.val (.ref r0), .val (.int (1 : Int32)), .val (.int (2 : Int32))]) rfl ?_
        show Steps p.tables e below (T23.setTop (mkF m 49 #[.val (.ref r0), .val (.int (1 : Int32)), .val (.int (2 : Int32))] [])) _
        refine XS.goto X23.here hx rfl (pc0 := 49) (pc' := 17) rfl (hb hby d_longer_49) (by decide) (by decide) ?_
        show Steps p.tables e below (T23.setTop (mkF m 17 #[.val (.ref r0), .val (.int (1 : Int32)), .val (.int (2 : Int32))] [])) _
        refine XS.iloadN X23.here hx rfl (hb hby d_longer_17) rfl ?_
        show Steps p.tables e below (T23.setTop (mkF m 18 #[.val (.ref r0), .val (.int (1 : Int32)), .val (.int (2 : Int32))] [(.int (1 : Int32))])) _
        refine XS.ifNo X23.here hx rfl (hb hby d_longer_18) rfl ((if0 _ _).trans (feq (by decide : ¬ ((1 : Int32) = (0 : Int32)))).1) ?_
        show Steps p.tables e below (T23.setTop (mkF m 21 #[.val (.ref r0), .val (.int (1 : Int32)), .val (.int (2 : Int32))] [])) _
        refine XS.iloadN X23.here hx rfl (hb hby d_longer_21) rfl ?_
        exact ht
      obtain ⟨T29, X29, e29, st29⟩ := getS2 X23 hx hZ hown (host := "") (Or.inl (hw _ (List.mem_of_getElem? (i := 5) rfl))) Via.refl e23 S_M (g := (mkF m 22 #[.val (.ref r0), .val (.int (1 : Int32)), .val (.int (2 : Int32))] [(.int (2 : Int32))])) rfl (hb hby d_longer_22)
      have k29 : Go p.tables e below (T23.setTop (mkF m 22 #[.val (.ref r0), .val (.int (1 : Int32)), .val (.int (2 : Int32))] [(.int (2 : Int32))])) (T29.setTop (mkF m 25 #[.val (.ref r0), .val (.int (1 : Int32)), .val (.int (2 : Int32))] [(.ref wM), (.int (2 : Int32))])) := st29
      obtain ⟨cl30, Ar30, q30, S30, M30, H30, G30⟩ := id V_M
      have k31 : Go p.tables e below (T29.setTop (mkF m 25 #[.val (.ref r0), .val (.int (1 : Int32)), .val (.int (2 : Int32))] [(.ref wM), (.int (2 : Int32))])) (T29.setTop (mkF m 31 #[.val (.ref r0), .val (.int (1 : Int32)), .val (.int (2 : Int32))] [(.int (2 : Int32)), (.ref r0)])) := by
        intro t ht
        refine X29.arraylength hx (by rw [e29]; exact Ar30.1) (State.isArrayOf_alike hZ.alike Ar30.2.1) (g := (mkF m 25 #[.val (.ref r0), .val (.int (1 : Int32)), .val (.int (2 : Int32))] [(.ref wM), (.int (2 : Int32))])) rfl rfl (hb hby d_longer_25) _ ?_
        rw [len_of S30 M30]
        show Steps p.tables e below (T29.setTop (mkF m 26 #[.val (.ref r0), .val (.int (1 : Int32)), .val (.int (2 : Int32))] [(.int (3 : Int32)), (.int (2 : Int32))])) _
        refine XS.icmpNo X29.here hx rfl (hb hby d_longer_26) rfl (tlt (by decide : (2 : Int32) < (3 : Int32))).2.1 ?_
        show Steps p.tables e below (T29.setTop (mkF m 29 #[.val (.ref r0), .val (.int (1 : Int32)), .val (.int (2 : Int32))] [])) _
        refine XS.aloadN X29.here hx rfl (hb hby d_longer_29) rfl rfl ?_
        show Steps p.tables e below (T29.setTop (mkF m 30 #[.val (.ref r0), .val (.int (1 : Int32)), .val (.int (2 : Int32))] [(.ref r0)])) _
        refine XS.iloadN X29.here hx rfl (hb hby d_longer_30) rfl ?_
        exact ht
      obtain ⟨cl32, Ar32, q32, S32, M32, H32, G32⟩ := id V_A
      have hin32 : ¬ ((2 : Int32) < 0 ∨ cl32.slots.size ≤ ((2 : Int32)).toNatClampNeg) := inb_of S32 ⟨by decide, own_inb3 hz (by decide)⟩
      have hat32 : cl32.slots[((2 : Int32)).toNatClampNeg]? = some (.int v2) := (H32 _ (Nat.lt_of_not_le fun y => hin32 (Or.inr y))).trans (congrArg some (rfl))
      have k33 : Go p.tables e below (T29.setTop (mkF m 31 #[.val (.ref r0), .val (.int (1 : Int32)), .val (.int (2 : Int32))] [(.int (2 : Int32)), (.ref r0)])) (T29.setTop (mkF m 32 #[.val (.ref r0), .val (.int (1 : Int32)), .val (.int (2 : Int32))] [(.int v2)])) := by
        intro t ht
        refine X29.baloadBytes hx (j := (2 : Int32)) (v := (.int v2)) (by rw [e29]; exact Ar32.1) (State.isArrayOf_alike hZ.alike Ar32.2.1) Ar32.2.2 hin32 hat32 (g := (mkF m 31 #[.val (.ref r0), .val (.int (1 : Int32)), .val (.int (2 : Int32))] [(.int (2 : Int32)), (.ref r0)])) rfl rfl (hb hby d_longer_31) _ ?_
        exact ht
      obtain ⟨T34, X34, e34, st34⟩ := getS2 X29 hx hZ hown (host := "") (Or.inl (hw _ (List.mem_of_getElem? (i := 5) rfl))) Via.refl e29 S_M (g := (mkF m 32 #[.val (.ref r0), .val (.int (1 : Int32)), .val (.int (2 : Int32))] [(.int v2)])) rfl (hb hby d_longer_32)
      have k34 : Go p.tables e below (T29.setTop (mkF m 32 #[.val (.ref r0), .val (.int (1 : Int32)), .val (.int (2 : Int32))] [(.int v2)])) (T34.setTop (mkF m 35 #[.val (.ref r0), .val (.int (1 : Int32)), .val (.int (2 : Int32))] [(.ref wM), (.int v2)])) := st34
      have k35 : Go p.tables e below (T34.setTop (mkF m 35 #[.val (.ref r0), .val (.int (1 : Int32)), .val (.int (2 : Int32))] [(.ref wM), (.int v2)])) (T34.setTop (mkF m 36 #[.val (.ref r0), .val (.int (1 : Int32)), .val (.int (2 : Int32))] [(.int (2 : Int32)), (.ref wM), (.int v2)])) := by
        intro t ht
        refine XS.iloadN X34.here hx rfl (hb hby d_longer_35) rfl ?_
        exact ht
      obtain ⟨cl36, Ar36, q36, S36, M36, H36, G36⟩ := id V_M
      have hin36 : ¬ ((2 : Int32) < 0 ∨ cl36.slots.size ≤ ((2 : Int32)).toNatClampNeg) := inb_of S36 ⟨by decide, by decide⟩
      have hat36 : cl36.slots[((2 : Int32)).toNatClampNeg]? = some (.int (-65 : Int32)) := (H36 _ (Nat.lt_of_not_le fun y => hin36 (Or.inr y))).trans (congrArg some (rfl))
      have k37 : Go p.tables e below (T34.setTop (mkF m 36 #[.val (.ref r0), .val (.int (1 : Int32)), .val (.int (2 : Int32))] [(.int (2 : Int32)), (.ref wM), (.int v2)])) (T34.setTop (mkF m 37 #[.val (.ref r0), .val (.int (1 : Int32)), .val (.int (2 : Int32))] [(.int (-65 : Int32)), (.int v2)])) := by
        intro t ht
        refine X34.baloadBytes hx (j := (2 : Int32)) (v := (.int (-65 : Int32))) (by rw [e34]; exact Ar36.1) (State.isArrayOf_alike hZ.alike Ar36.2.1) Ar36.2.2 hin36 hat36 (g := (mkF m 36 #[.val (.ref r0), .val (.int (1 : Int32)), .val (.int (2 : Int32))] [(.int (2 : Int32)), (.ref wM), (.int v2)])) rfl rfl (hb hby d_longer_36) _ ?_
        exact ht
      by_cases hc38 : v2 = (-65 : Int32)
      · have k39 : Go p.tables e below (T34.setTop (mkF m 37 #[.val (.ref r0), .val (.int (1 : Int32)), .val (.int (2 : Int32))] [(.int (-65 : Int32)), (.int v2)])) (T34.setTop (mkF m 22 #[.val (.ref r0), .val (.int (1 : Int32)), .val (.int (3 : Int32))] [(.int (3 : Int32))])) := by
          intro t ht
          refine XS.icmpNo X34.here hx rfl (hb hby d_longer_37) rfl (teq hc38).2 ?_
          show Steps p.tables e below (T34.setTop (mkF m 40 #[.val (.ref r0), .val (.int (1 : Int32)), .val (.int (2 : Int32))] [])) _
          refine XS.iconst X34.here hx rfl (hb hby d_longer_40) ?_
          show Steps p.tables e below (T34.setTop (mkF m 41 #[.val (.ref r0), .val (.int (1 : Int32)), .val (.int (2 : Int32))] [(.int (1 : Int32))])) _
          refine XS.goto X34.here hx rfl (pc0 := 41) (pc' := 45) rfl (hb hby d_longer_41) (by decide) (by decide) ?_
          show Steps p.tables e below (T34.setTop (mkF m 45 #[.val (.ref r0), .val (.int (1 : Int32)), .val (.int (2 : Int32))] [(.int (1 : Int32))])) _
          refine XS.istoreN X34.here hx rfl (hb hby d_longer_45) rfl (l' := #[.val (.ref r0), .val (.int (1 : Int32)), .val (.int (2 : Int32))]) rfl ?_
          show Steps p.tables e below (T34.setTop (mkF m 46 #[.val (.ref r0), .val (.int (1 : Int32)), .val (.int (2 : Int32))] [])) _
          refine XS.iinc X34.here hx rfl (hb hby d_longer_46) rfl (l' := #[.val (.ref r0), .val (.int (1 : Int32)), .val (.int (3 : Int32))]) rfl ?_
          show Steps p.tables e below (T34.setTop (mkF m 49 #[.val (.ref r0), .val (.int (1 : Int32)), .val (.int (3 : Int32))] [])) _
          refine XS.goto X34.here hx rfl (pc0 := 49) (pc' := 17) rfl (hb hby d_longer_49) (by decide) (by decide) ?_
          show Steps p.tables e below (T34.setTop (mkF m 17 #[.val (.ref r0), .val (.int (1 : Int32)), .val (.int (3 : Int32))] [])) _
          refine XS.iloadN X34.here hx rfl (hb hby d_longer_17) rfl ?_
          show Steps p.tables e below (T34.setTop (mkF m 18 #[.val (.ref r0), .val (.int (1 : Int32)), .val (.int (3 : Int32))] [(.int (1 : Int32))])) _
          refine XS.ifNo X34.here hx rfl (hb hby d_longer_18) rfl ((if0 _ _).trans (feq (by decide : ¬ ((1 : Int32) = (0 : Int32)))).1) ?_
          show Steps p.tables e below (T34.setTop (mkF m 21 #[.val (.ref r0), .val (.int (1 : Int32)), .val (.int (3 : Int32))] [])) _
          refine XS.iloadN X34.here hx rfl (hb hby d_longer_21) rfl ?_
          exact ht
        obtain ⟨T40, X40, e40, st40⟩ := getS2 X34 hx hZ hown (host := "") (Or.inl (hw _ (List.mem_of_getElem? (i := 5) rfl))) Via.refl e34 S_M (g := (mkF m 22 #[.val (.ref r0), .val (.int (1 : Int32)), .val (.int (3 : Int32))] [(.int (3 : Int32))])) rfl (hb hby d_longer_22)
        have k40 : Go p.tables e below (T34.setTop (mkF m 22 #[.val (.ref r0), .val (.int (1 : Int32)), .val (.int (3 : Int32))] [(.int (3 : Int32))])) (T40.setTop (mkF m 25 #[.val (.ref r0), .val (.int (1 : Int32)), .val (.int (3 : Int32))] [(.ref wM), (.int (3 : Int32))])) := st40
        obtain ⟨cl41, Ar41, q41, S41, M41, H41, G41⟩ := id V_M
        have k42 : Go p.tables e below (T40.setTop (mkF m 25 #[.val (.ref r0), .val (.int (1 : Int32)), .val (.int (3 : Int32))] [(.ref wM), (.int (3 : Int32))])) (T40.setTop (mkF m 56 #[.val (.ref r0), .val (.int (1 : Int32)), .val (.int (3 : Int32))] [])) := by
          intro t ht
          refine X40.arraylength hx (by rw [e40]; exact Ar41.1) (State.isArrayOf_alike hZ.alike Ar41.2.1) (g := (mkF m 25 #[.val (.ref r0), .val (.int (1 : Int32)), .val (.int (3 : Int32))] [(.ref wM), (.int (3 : Int32))])) rfl rfl (hb hby d_longer_25) _ ?_
          rw [len_of S41 M41]
          show Steps p.tables e below (T40.setTop (mkF m 26 #[.val (.ref r0), .val (.int (1 : Int32)), .val (.int (3 : Int32))] [(.int (3 : Int32)), (.int (3 : Int32))])) _
          refine XS.icmpYes X40.here hx rfl (pc0 := 26) (pc' := 52) rfl (hb hby d_longer_26) rfl (flt (by decide : ¬ ((3 : Int32) < (3 : Int32)))).2.1 (by decide) (by decide) ?_
          show Steps p.tables e below (T40.setTop (mkF m 52 #[.val (.ref r0), .val (.int (1 : Int32)), .val (.int (3 : Int32))] [])) _
          refine XS.iloadN X40.here hx rfl (hb hby d_longer_52) rfl ?_
          show Steps p.tables e below (T40.setTop (mkF m 53 #[.val (.ref r0), .val (.int (1 : Int32)), .val (.int (3 : Int32))] [(.int (1 : Int32))])) _
          refine XS.ifNo X40.here hx rfl (hb hby d_longer_53) rfl ((if0 _ _).trans (feq (by decide : ¬ ((1 : Int32) = (0 : Int32)))).1) ?_
          exact ht
        obtain ⟨T43, X43, e43, st43⟩ := getS2 X40 hx hZ hown (host := "") (Or.inl (hw _ (List.mem_of_getElem? (i := 5) rfl))) Via.refl e40 S_M (g := (mkF m 56 #[.val (.ref r0), .val (.int (1 : Int32)), .val (.int (3 : Int32))] [])) rfl (hb hby d_longer_56)
        have k43 : Go p.tables e below (T40.setTop (mkF m 56 #[.val (.ref r0), .val (.int (1 : Int32)), .val (.int (3 : Int32))] [])) (T43.setTop (mkF m 59 #[.val (.ref r0), .val (.int (1 : Int32)), .val (.int (3 : Int32))] [(.ref wM)])) := st43
        obtain ⟨cl44, Ar44, q44, S44, M44, H44, G44⟩ := id V_M
        have k45 : Go p.tables e below (T43.setTop (mkF m 59 #[.val (.ref r0), .val (.int (1 : Int32)), .val (.int (3 : Int32))] [(.ref wM)])) (T43.setTop (mkF m 64 #[.val (.ref r0), .val (.int (1 : Int32)), .val (.int (3 : Int32))] [(.int (3 : Int32))])) := by
          intro t ht
          refine X43.arraylength hx (by rw [e43]; exact Ar44.1) (State.isArrayOf_alike hZ.alike Ar44.2.1) (g := (mkF m 59 #[.val (.ref r0), .val (.int (1 : Int32)), .val (.int (3 : Int32))] [(.ref wM)])) rfl rfl (hb hby d_longer_59) _ ?_
          rw [len_of S44 M44]
          show Steps p.tables e below (T43.setTop (mkF m 60 #[.val (.ref r0), .val (.int (1 : Int32)), .val (.int (3 : Int32))] [(.int (3 : Int32))])) _
          refine XS.goto X43.here hx rfl (pc0 := 60) (pc' := 64) rfl (hb hby d_longer_60) (by decide) (by decide) ?_
          exact ht
        obtain ⟨fs, hr, hrun, hended, hW, hsame⟩ := X43.leave (v := some (.int (3 : Int32))) (fun h => by rw [Bd.returns] at h; cases h)
        refine ⟨_, _, pre0 _ ((goT k1 (goT k3 (goT k4 (goT k6 (goT k7 (goT k9 (goT k11 (goT k12 (goT k13 (goT k15 (goT k17 (goT k18 (goT k20 (goT k22 (goT k23 (goT k24 (goT k26 (goT k28 (goT k29 (goT k31 (goT k33 (goT k34 (goT k35 (goT k37 (goT k39 (goT k40 (goT k42 (goT k43 k45)))))))))))))))))))))))))))) _ (retI X43 hx Bd.returns (hb hby d_longer_64) hr)), hrun, hended, _, _, rfl, ?_, ⟨_, rfl⟩, hW, hsame.mono (by decide) (by decide)⟩
        show Q_longer Z r0 wM kA zA v0 v1 v2 vsA kM h0 n0 _ T43.heap _
        rw [e43]
        exact ⟨by simp only [f_longer, if_neg hz, if_pos hc16, if_pos hc27, if_pos hc38], N0, rfl⟩
      · have k46 : Go p.tables e below (T34.setTop (mkF m 37 #[.val (.ref r0), .val (.int (1 : Int32)), .val (.int (2 : Int32))] [(.int (-65 : Int32)), (.int v2)])) (T34.setTop (mkF m 64 #[.val (.ref r0), .val (.int (0 : Int32)), .val (.int (3 : Int32))] [(.int (0 : Int32))])) := by
          intro t ht
          refine XS.icmpYes X34.here hx rfl (pc0 := 37) (pc' := 44) rfl (hb hby d_longer_37) rfl (feq hc38).2 (by decide) (by decide) ?_
          show Steps p.tables e below (T34.setTop (mkF m 44 #[.val (.ref r0), .val (.int (1 : Int32)), .val (.int (2 : Int32))] [])) _
          refine XS.iconst X34.here hx rfl (hb hby d_longer_44) ?_
          show Steps p.tables e below (T34.setTop (mkF m 45 #[.val (.ref r0), .val (.int (1 : Int32)), .val (.int (2 : Int32))] [(.int (0 : Int32))])) _
          refine XS.istoreN X34.here hx rfl (hb hby d_longer_45) rfl (l' := #[.val (.ref r0), .val (.int (0 : Int32)), .val (.int (2 : Int32))]) rfl ?_
          show Steps p.tables e below (T34.setTop (mkF m 46 #[.val (.ref r0), .val (.int (0 : Int32)), .val (.int (2 : Int32))] [])) _
          refine XS.iinc X34.here hx rfl (hb hby d_longer_46) rfl (l' := #[.val (.ref r0), .val (.int (0 : Int32)), .val (.int (3 : Int32))]) rfl ?_
          show Steps p.tables e below (T34.setTop (mkF m 49 #[.val (.ref r0), .val (.int (0 : Int32)), .val (.int (3 : Int32))] [])) _
          refine XS.goto X34.here hx rfl (pc0 := 49) (pc' := 17) rfl (hb hby d_longer_49) (by decide) (by decide) ?_
          show Steps p.tables e below (T34.setTop (mkF m 17 #[.val (.ref r0), .val (.int (0 : Int32)), .val (.int (3 : Int32))] [])) _
          refine XS.iloadN X34.here hx rfl (hb hby d_longer_17) rfl ?_
          show Steps p.tables e below (T34.setTop (mkF m 18 #[.val (.ref r0), .val (.int (0 : Int32)), .val (.int (3 : Int32))] [(.int (0 : Int32))])) _
          refine XS.ifYes X34.here hx rfl (pc0 := 18) (pc' := 52) rfl (hb hby d_longer_18) rfl ((if0 _ _).trans (teq (by decide : (0 : Int32) = (0 : Int32))).1) (by decide) (by decide) ?_
          show Steps p.tables e below (T34.setTop (mkF m 52 #[.val (.ref r0), .val (.int (0 : Int32)), .val (.int (3 : Int32))] [])) _
          refine XS.iloadN X34.here hx rfl (hb hby d_longer_52) rfl ?_
          show Steps p.tables e below (T34.setTop (mkF m 53 #[.val (.ref r0), .val (.int (0 : Int32)), .val (.int (3 : Int32))] [(.int (0 : Int32))])) _
          refine XS.ifYes X34.here hx rfl (pc0 := 53) (pc' := 63) rfl (hb hby d_longer_53) rfl ((if0 _ _).trans (teq (by decide : (0 : Int32) = (0 : Int32))).1) (by decide) (by decide) ?_
          show Steps p.tables e below (T34.setTop (mkF m 63 #[.val (.ref r0), .val (.int (0 : Int32)), .val (.int (3 : Int32))] [])) _
          refine XS.iconst X34.here hx rfl (hb hby d_longer_63) ?_
          exact ht
        obtain ⟨fs, hr, hrun, hended, hW, hsame⟩ := X34.leave (v := some (.int (0 : Int32))) (fun h => by rw [Bd.returns] at h; cases h)
        refine ⟨_, _, pre0 _ ((goT k1 (goT k3 (goT k4 (goT k6 (goT k7 (goT k9 (goT k11 (goT k12 (goT k13 (goT k15 (goT k17 (goT k18 (goT k20 (goT k22 (goT k23 (goT k24 (goT k26 (goT k28 (goT k29 (goT k31 (goT k33 (goT k34 (goT k35 (goT k37 k46)))))))))))))))))))))))) _ (retI X34 hx Bd.returns (hb hby d_longer_64) hr)), hrun, hended, _, _, rfl, ?_, ⟨_, rfl⟩, hW, hsame.mono (by decide) (by decide)⟩
        show Q_longer Z r0 wM kA zA v0 v1 v2 vsA kM h0 n0 _ T34.heap _
        rw [e34]
        exact ⟨by simp only [f_longer, if_neg hz, if_pos hc16, if_pos hc27, if_neg hc38], N0, rfl⟩
    · have k47 : Go p.tables e below (T23.setTop (mkF m 37 #[.val (.ref r0), .val (.int (1 : Int32)), .val (.int (1 : Int32))] [(.int (-69 : Int32)), (.int v1)])) (T23.setTop (mkF m 64 #[.val (.ref r0), .val (.int (0 : Int32)), .val (.int (2 : Int32))] [(.int (0 : Int32))])) := by
        intro t ht
        refine XS.icmpYes X23.here hx rfl (pc0 := 37) (pc' := 44) rfl (hb hby d_longer_37) rfl (feq hc27).2 (by decide) (by decide) ?_
        show Steps p.tables e below (T23.setTop (mkF m 44 #[.val (.ref r0), .val (.int (1 : Int32)), .val (.int (1 : Int32))] [])) _
        refine XS.iconst X23.here hx rfl (hb hby d_longer_44) ?_
        show Steps p.tables e below (T23.setTop (mkF m 45 #[.val (.ref r0), .val (.int (1 : Int32)), .val (.int (1 : Int32))] [(.int (0 : Int32))])) _
        refine XS.istoreN X23.here hx rfl (hb hby d_longer_45) rfl (l' := #[.val (.ref r0), .val (.int (0 : Int32)), .val (.int (1 : Int32))]) rfl ?_
        show Steps p.tables e below (T23.setTop (mkF m 46 #[.val (.ref r0), .val (.int (0 : Int32)), .val (.int (1 : Int32))] [])) _
        refine XS.iinc X23.here hx rfl (hb hby d_longer_46) rfl (l' := #[.val (.ref r0), .val (.int (0 : Int32)), .val (.int (2 : Int32))]) rfl ?_
        show Steps p.tables e below (T23.setTop (mkF m 49 #[.val (.ref r0), .val (.int (0 : Int32)), .val (.int (2 : Int32))] [])) _
        refine XS.goto X23.here hx rfl (pc0 := 49) (pc' := 17) rfl (hb hby d_longer_49) (by decide) (by decide) ?_
        show Steps p.tables e below (T23.setTop (mkF m 17 #[.val (.ref r0), .val (.int (0 : Int32)), .val (.int (2 : Int32))] [])) _
        refine XS.iloadN X23.here hx rfl (hb hby d_longer_17) rfl ?_
        show Steps p.tables e below (T23.setTop (mkF m 18 #[.val (.ref r0), .val (.int (0 : Int32)), .val (.int (2 : Int32))] [(.int (0 : Int32))])) _
        refine XS.ifYes X23.here hx rfl (pc0 := 18) (pc' := 52) rfl (hb hby d_longer_18) rfl ((if0 _ _).trans (teq (by decide : (0 : Int32) = (0 : Int32))).1) (by decide) (by decide) ?_
        show Steps p.tables e below (T23.setTop (mkF m 52 #[.val (.ref r0), .val (.int (0 : Int32)), .val (.int (2 : Int32))] [])) _
        refine XS.iloadN X23.here hx rfl (hb hby d_longer_52) rfl ?_
        show Steps p.tables e below (T23.setTop (mkF m 53 #[.val (.ref r0), .val (.int (0 : Int32)), .val (.int (2 : Int32))] [(.int (0 : Int32))])) _
        refine XS.ifYes X23.here hx rfl (pc0 := 53) (pc' := 63) rfl (hb hby d_longer_53) rfl ((if0 _ _).trans (teq (by decide : (0 : Int32) = (0 : Int32))).1) (by decide) (by decide) ?_
        show Steps p.tables e below (T23.setTop (mkF m 63 #[.val (.ref r0), .val (.int (0 : Int32)), .val (.int (2 : Int32))] [])) _
        refine XS.iconst X23.here hx rfl (hb hby d_longer_63) ?_
        exact ht
      obtain ⟨fs, hr, hrun, hended, hW, hsame⟩ := X23.leave (v := some (.int (0 : Int32))) (fun h => by rw [Bd.returns] at h; cases h)
      refine ⟨_, _, pre0 _ ((goT k1 (goT k3 (goT k4 (goT k6 (goT k7 (goT k9 (goT k11 (goT k12 (goT k13 (goT k15 (goT k17 (goT k18 (goT k20 (goT k22 (goT k23 (goT k24 (goT k26 k47))))))))))))))))) _ (retI X23 hx Bd.returns (hb hby d_longer_64) hr)), hrun, hended, _, _, rfl, ?_, ⟨_, rfl⟩, hW, hsame.mono (by decide) (by decide)⟩
      show Q_longer Z r0 wM kA zA v0 v1 v2 vsA kM h0 n0 _ T23.heap _
      rw [e23]
      exact ⟨by simp only [f_longer, if_neg hz, if_pos hc16, if_neg hc27], N0, rfl⟩
  · have k48 : Go p.tables e below (T12.setTop (mkF m 37 #[.val (.ref r0), .val (.int (1 : Int32)), .val (.int (0 : Int32))] [(.int (-17 : Int32)), (.int v0)])) (T12.setTop (mkF m 64 #[.val (.ref r0), .val (.int (0 : Int32)), .val (.int (1 : Int32))] [(.int (0 : Int32))])) := by
      intro t ht
      refine XS.icmpYes X12.here hx rfl (pc0 := 37) (pc' := 44) rfl (hb hby d_longer_37) rfl (feq hc16).2 (by decide) (by decide) ?_
      show Steps p.tables e below (T12.setTop (mkF m 44 #[.val (.ref r0), .val (.int (1 : Int32)), .val (.int (0 : Int32))] [])) _
      refine XS.iconst X12.here hx rfl (hb hby d_longer_44) ?_
      show Steps p.tables e below (T12.setTop (mkF m 45 #[.val (.ref r0), .val (.int (1 : Int32)), .val (.int (0 : Int32))] [(.int (0 : Int32))])) _
      refine XS.istoreN X12.here hx rfl (hb hby d_longer_45) rfl (l' := #[.val (.ref r0), .val (.int (0 : Int32)), .val (.int (0 : Int32))]) rfl ?_
      show Steps p.tables e below (T12.setTop (mkF m 46 #[.val (.ref r0), .val (.int (0 : Int32)), .val (.int (0 : Int32))] [])) _
      refine XS.iinc X12.here hx rfl (hb hby d_longer_46) rfl (l' := #[.val (.ref r0), .val (.int (0 : Int32)), .val (.int (1 : Int32))]) rfl ?_
      show Steps p.tables e below (T12.setTop (mkF m 49 #[.val (.ref r0), .val (.int (0 : Int32)), .val (.int (1 : Int32))] [])) _
      refine XS.goto X12.here hx rfl (pc0 := 49) (pc' := 17) rfl (hb hby d_longer_49) (by decide) (by decide) ?_
      show Steps p.tables e below (T12.setTop (mkF m 17 #[.val (.ref r0), .val (.int (0 : Int32)), .val (.int (1 : Int32))] [])) _
      refine XS.iloadN X12.here hx rfl (hb hby d_longer_17) rfl ?_
      show Steps p.tables e below (T12.setTop (mkF m 18 #[.val (.ref r0), .val (.int (0 : Int32)), .val (.int (1 : Int32))] [(.int (0 : Int32))])) _
      refine XS.ifYes X12.here hx rfl (pc0 := 18) (pc' := 52) rfl (hb hby d_longer_18) rfl ((if0 _ _).trans (teq (by decide : (0 : Int32) = (0 : Int32))).1) (by decide) (by decide) ?_
      show Steps p.tables e below (T12.setTop (mkF m 52 #[.val (.ref r0), .val (.int (0 : Int32)), .val (.int (1 : Int32))] [])) _
      refine XS.iloadN X12.here hx rfl (hb hby d_longer_52) rfl ?_
      show Steps p.tables e below (T12.setTop (mkF m 53 #[.val (.ref r0), .val (.int (0 : Int32)), .val (.int (1 : Int32))] [(.int (0 : Int32))])) _
      refine XS.ifYes X12.here hx rfl (pc0 := 53) (pc' := 63) rfl (hb hby d_longer_53) rfl ((if0 _ _).trans (teq (by decide : (0 : Int32) = (0 : Int32))).1) (by decide) (by decide) ?_
      show Steps p.tables e below (T12.setTop (mkF m 63 #[.val (.ref r0), .val (.int (0 : Int32)), .val (.int (1 : Int32))] [])) _
      refine XS.iconst X12.here hx rfl (hb hby d_longer_63) ?_
      exact ht
    obtain ⟨fs, hr, hrun, hended, hW, hsame⟩ := X12.leave (v := some (.int (0 : Int32))) (fun h => by rw [Bd.returns] at h; cases h)
    refine ⟨_, _, pre0 _ ((goT k1 (goT k3 (goT k4 (goT k6 (goT k7 (goT k9 (goT k11 (goT k12 (goT k13 (goT k15 k48)))))))))) _ (retI X12 hx Bd.returns (hb hby d_longer_64) hr)), hrun, hended, _, _, rfl, ?_, ⟨_, rfl⟩, hW, hsame.mono (by decide) (by decide)⟩
    show Q_longer Z r0 wM kA zA v0 v1 v2 vsA kM h0 n0 _ T12.heap _
    rw [e12]
    exact ⟨by simp only [f_longer, if_neg hz, if_neg hc16], N0, rfl⟩
theorem own_and7c (x : Int32) : (x &&& (7 : Int32)) = 0 ∨ (x &&& (7 : Int32)) = 1 ∨ (x &&& (7 : Int32)) = 2 ∨ (x &&& (7 : Int32)) = 3 ∨ (x &&& (7 : Int32)) = 4 ∨ (x &&& (7 : Int32)) = 5 ∨ (x &&& (7 : Int32)) = 6 ∨ (x &&& (7 : Int32)) = 7 := by
  rw [own_and x 7 3 (by decide) (by decide)]
  have h : x.toBitVec.toNat % 2 ^ 3 < 8 := Nat.mod_lt _ (by decide)
  generalize x.toBitVec.toNat % 2 ^ 3 = n at h
  have := (by decide : ∀ n : Fin 8, Int32.ofNat n.val = 0 ∨ Int32.ofNat n.val = 1 ∨ Int32.ofNat n.val = 2 ∨ Int32.ofNat n.val = 3 ∨ Int32.ofNat n.val = 4 ∨ Int32.ofNat n.val = 5 ∨ Int32.ofNat n.val = 6 ∨ Int32.ofNat n.val = 7) ⟨n, h⟩
  exact this
theorem own_byte (x : Int32) (n : Fin 256) : x.toInt8.toInt32 = (Int32.ofNat n.val).toInt8.toInt32 ↔ (x &&& (255 : Int32)) = Int32.ofNat n.val := by
  have hn := n.isLt
  have hx := x.toBitVec.isLt
  have e2 := own_and x 255 8 (by decide) (by decide)
  have e3 : (Int32.ofNat (x.toBitVec.toNat % 2 ^ 8)).toInt = ((x.toBitVec.toNat % 2 ^ 8 : Nat) : Int) := own_ofNat (by omega)
  have e4 : (Int32.ofNat n.val).toInt = n.val := own_ofNat (by omega)
  have e5 : x.toInt = if 2 * x.toBitVec.toNat < 2 ^ 32 then (x.toBitVec.toNat : Int) else (x.toBitVec.toNat : Int) - ((2 ^ 32 : Nat) : Int) := by
    show x.toBitVec.toInt = _
    rw [BitVec.toInt_eq_toNat_cond]
  rw [e2, ← Int32.toInt_inj, ← Int32.toInt_inj, e3, e4, Int8.toInt_toInt32, Int8.toInt_toInt32, Int32.toInt_toInt8, Int32.toInt_toInt8, e4, e5]
  generalize x.toBitVec.toNat = k at *
  simp only [Int.bmod_def]
  split <;> omega
theorem own_law (x y z : Int32) : f_longer (nar .byte x) (nar .byte y) (nar .byte z) = (if (x &&& (255 : Int32)) = (239 : Int32) then (if (y &&& (255 : Int32)) = (187 : Int32) then (if (z &&& (255 : Int32)) = (191 : Int32) then (3 : Int32) else (0 : Int32)) else (0 : Int32)) else (0 : Int32)) := by
  have h1 : nar .byte x = (-17 : Int32) ↔ (x &&& (255 : Int32)) = (239 : Int32) := own_byte x ⟨239, by decide⟩
  have h2 : nar .byte y = (-69 : Int32) ↔ (y &&& (255 : Int32)) = (187 : Int32) := own_byte y ⟨187, by decide⟩
  have h3 : nar .byte z = (-65 : Int32) ↔ (z &&& (255 : Int32)) = (191 : Int32) := own_byte z ⟨191, by decide⟩
  simp only [f_longer, h1, h2, h3]
theorem pd_0 : parseMethodDescriptor "([B)I" = some ⟨[(.array .byte)], some .int⟩ := by decide +kernel
theorem pn_1 : plainName "com/example/role_conflict_finder/roleconflictfinder/Utf8TextStartPinLaw" = true := by first | (simp [plainName, overriddenIn]; done) | decide +kernel
theorem ef_law (m : MethodId) (x0 : Int32) (x1 : Int32) (x2 : Int32) (x3 : Int32) (x4 : Int32) : entryFrame m #[(.int x0), (.int x1), (.int x2), (.int x3), (.int x4)] maxLocals = mkF m 0 #[.val (.int x0), .val (.int x1), .val (.int x2), .val (.int x3), .val (.int x4), .unset, .unset, .unset, .unset, .unset, .unset, .unset] [] := by first | (simp [entryFrame, mkF, argsToLocals, Value.category, maxLocals]; done) | rfl
def Q_law (Z : State) (p0 : Int32) (p1 : Int32) (p2 : Int32) (p3 : Int32) (p4 : Int32) (wM : Addr) (kM : ClassId) (h0 : Heap) (n0 : Nat) (v : Option Value) (h : Heap) (L : List Loc) : Prop := v = some (.int (1 : Int32)) ∧ Fr n0 L
set_option maxRecDepth 65536 in
set_option maxHeartbeats 40000000 in
theorem rm_law (l : Launch) (Z : State) (a0 : Array Value) (hw : ∀ d ∈ tables_1, d.before a0 Z = true) (ws : List Jvm.Cond) (p0 : Int32) (p1 : Int32) (p2 : Int32) (p3 : Int32) (p4 : Int32) (wM : Addr) (kM : ClassId) (h0 : Heap) (n0 : Nat) (Z0 : n0 ≤ h0.size) (S_M : Sta Z h0 "com/example/role_conflict_finder/roleconflictfinder/Utf8Text" "BYTE_ORDER_MARK" "[B" (.ref wM)) (V_M : Arv Z h0 wM kM .byte (3 : Int32) [(.int (-17 : Int32)), (.int (-69 : Int32)), (.int (-65 : Int32))] (.int (0 : Int32))) :
    MetFree l x (head1 (Jvm.Cond.code x code maxLocals ret :: ws) room_1) (fun a U => a = #[(.int p0), (.int p1), (.int p2), (.int p3), (.int p4)] ∧ Z.Warmed39 U.vm ∧ U.heap = h0) (fun _ _ _ _ _ => True) (fun _ U o U' => ∃ v L, o = .returned v ∧ Q_law Z p0 p1 p2 p3 p4 wM kM h0 n0 v U'.heap L ∧ FrameEnd U o U' L room_1.cells room_1.slots) := by
  refine MetFree.of_bodySF (plainFor_of_name pn_1) hisR ?_
  intro p e s m args below meth c s₁ Bd hml0 hP hK
  obtain ⟨rfl, hZ, hh⟩ := hP
  have hx := Bd.exec
  have hby := Bd.bytes
  have hml : c.maxLocals = 12 := hml0
  have hown : s.vm.findClass "com/example/role_conflict_finder/roleconflictfinder/Utf8TextStartPinLaw" = some m.cls := findClass_of_methodNamed Bd.named
  have hnm := (name_of_methodNamed Bd.named Bd.method).1
  have X0 : Stand p l e room_1 s m #[(.int p0), (.int p1), (.int p2), (.int p3), (.int p4)] below meth c s₁ [] 0 0 := Stand.of_body Bd
  have e0 : s₁.heap = h0 := by rw [← hh, Bd.state]; rfl
  have N0 := Fr.nil n0
  have pre0 : ∀ t, Steps p.tables e below (s₁.setTop (mkF m 0 #[.val (.int p0), .val (.int p1), .val (.int p2), .val (.int p3), .val (.int p4), .unset, .unset, .unset, .unset, .unset, .unset, .unset] [])) t → Steps p.tables e below (s₁.setTop (entryFrame m #[(.int p0), (.int p1), (.int p2), (.int p3), (.int p4)] maxLocals)) t := fun t k => castTop (ef_law m p0 p1 p2 p3 p4) k
  have k1 : Go p.tables e below (s₁.setTop (mkF m 0 #[.val (.int p0), .val (.int p1), .val (.int p2), .val (.int p3), .val (.int p4), .unset, .unset, .unset, .unset, .unset, .unset, .unset] [])) (s₁.setTop (mkF m 10 #[.val (.int p0), .val (.int p1), .val (.int p2), .val (.int p3), .val (.int p4), .val (.int (p0 &&& (7 : Int32))), .unset, .unset, .unset, .unset, .unset, .unset] [(.int (p4 &&& (1 : Int32)))])) := by
    intro t ht
    refine XS.iloadN X0.here hx rfl (hb hby at_0) rfl ?_
    show Steps p.tables e below (s₁.setTop (mkF m 1 #[.val (.int p0), .val (.int p1), .val (.int p2), .val (.int p3), .val (.int p4), .unset, .unset, .unset, .unset, .unset, .unset, .unset] [(.int p0)])) _
    refine XS.bipush X0.here hx rfl (hb hby at_1) ?_
    show Steps p.tables e below (s₁.setTop (mkF m 3 #[.val (.int p0), .val (.int p1), .val (.int p2), .val (.int p3), .val (.int p4), .unset, .unset, .unset, .unset, .unset, .unset, .unset] [(.int (7 : Int32)), (.int p0)])) _
    refine XS.iand X0.here hx rfl (hb hby at_3) rfl ?_
    show Steps p.tables e below (s₁.setTop (mkF m 4 #[.val (.int p0), .val (.int p1), .val (.int p2), .val (.int p3), .val (.int p4), .unset, .unset, .unset, .unset, .unset, .unset, .unset] [(.int (p0 &&& (7 : Int32)))])) _
    refine XS.istore X0.here hx rfl (hb hby at_4) rfl (l' := #[.val (.int p0), .val (.int p1), .val (.int p2), .val (.int p3), .val (.int p4), .val (.int (p0 &&& (7 : Int32))), .unset, .unset, .unset, .unset, .unset, .unset]) rfl ?_
    show Steps p.tables e below (s₁.setTop (mkF m 6 #[.val (.int p0), .val (.int p1), .val (.int p2), .val (.int p3), .val (.int p4), .val (.int (p0 &&& (7 : Int32))), .unset, .unset, .unset, .unset, .unset, .unset] [])) _
    refine XS.iload X0.here hx rfl (hb hby at_6) rfl ?_
    show Steps p.tables e below (s₁.setTop (mkF m 8 #[.val (.int p0), .val (.int p1), .val (.int p2), .val (.int p3), .val (.int p4), .val (.int (p0 &&& (7 : Int32))), .unset, .unset, .unset, .unset, .unset, .unset] [(.int p4)])) _
    refine XS.iconst X0.here hx rfl (hb hby at_8) ?_
    show Steps p.tables e below (s₁.setTop (mkF m 9 #[.val (.int p0), .val (.int p1), .val (.int p2), .val (.int p3), .val (.int p4), .val (.int (p0 &&& (7 : Int32))), .unset, .unset, .unset, .unset, .unset, .unset] [(.int (1 : Int32)), (.int p4)])) _
    refine XS.iand X0.here hx rfl (hb hby at_9) rfl ?_
    exact ht
  have k2 : Go p.tables e below (s₁.setTop (mkF m 10 #[.val (.int p0), .val (.int p1), .val (.int p2), .val (.int p3), .val (.int p4), .val (.int (p0 &&& (7 : Int32))), .unset, .unset, .unset, .unset, .unset, .unset] [(.int (p4 &&& (1 : Int32)))])) (s₁.setTop (mkF m 20 #[.val (.int p0), .val (.int p1), .val (.int p2), .val (.int p3), .val (.int p4), .val (.int (p0 &&& (7 : Int32))), .unset, .unset, .unset, .unset, .unset, .unset] [(.int (if (p4 &&& (1 : Int32)) = (0 : Int32) then (p1.toInt8.toInt32) else (-17 : Int32)))])) := by
    by_cases hc3 : (p4 &&& (1 : Int32)) = (0 : Int32)
    · have k4 : Go p.tables e below (s₁.setTop (mkF m 10 #[.val (.int p0), .val (.int p1), .val (.int p2), .val (.int p3), .val (.int p4), .val (.int (p0 &&& (7 : Int32))), .unset, .unset, .unset, .unset, .unset, .unset] [(.int (p4 &&& (1 : Int32)))])) (s₁.setTop (mkF m 20 #[.val (.int p0), .val (.int p1), .val (.int p2), .val (.int p3), .val (.int p4), .val (.int (p0 &&& (7 : Int32))), .unset, .unset, .unset, .unset, .unset, .unset] [(.int (p1.toInt8.toInt32))])) := by
        intro t ht
        refine XS.ifYes X0.here hx rfl (pc0 := 10) (pc' := 18) rfl (hb hby at_10) rfl ((if0 _ _).trans (teq hc3).1) (by decide) (by decide) ?_
        show Steps p.tables e below (s₁.setTop (mkF m 18 #[.val (.int p0), .val (.int p1), .val (.int p2), .val (.int p3), .val (.int p4), .val (.int (p0 &&& (7 : Int32))), .unset, .unset, .unset, .unset, .unset, .unset] [])) _
        refine XS.iloadN X0.here hx rfl (hb hby at_18) rfl ?_
        show Steps p.tables e below (s₁.setTop (mkF m 19 #[.val (.int p0), .val (.int p1), .val (.int p2), .val (.int p3), .val (.int p4), .val (.int (p0 &&& (7 : Int32))), .unset, .unset, .unset, .unset, .unset, .unset] [(.int p1)])) _
        refine XS.i2b X0.here hx rfl (hb hby at_19) rfl ?_
        exact ht
      have kk := k4
      simpa only [if_pos hc3] using kk
    · have k5 : Go p.tables e below (s₁.setTop (mkF m 10 #[.val (.int p0), .val (.int p1), .val (.int p2), .val (.int p3), .val (.int p4), .val (.int (p0 &&& (7 : Int32))), .unset, .unset, .unset, .unset, .unset, .unset] [(.int (p4 &&& (1 : Int32)))])) (s₁.setTop (mkF m 20 #[.val (.int p0), .val (.int p1), .val (.int p2), .val (.int p3), .val (.int p4), .val (.int (p0 &&& (7 : Int32))), .unset, .unset, .unset, .unset, .unset, .unset] [(.int (-17 : Int32))])) := by
        intro t ht
        refine XS.ifNo X0.here hx rfl (hb hby at_10) rfl ((if0 _ _).trans (feq hc3).1) ?_
        show Steps p.tables e below (s₁.setTop (mkF m 13 #[.val (.int p0), .val (.int p1), .val (.int p2), .val (.int p3), .val (.int p4), .val (.int (p0 &&& (7 : Int32))), .unset, .unset, .unset, .unset, .unset, .unset] [])) _
        refine XS.bipush X0.here hx rfl (hb hby at_13) ?_
        show Steps p.tables e below (s₁.setTop (mkF m 15 #[.val (.int p0), .val (.int p1), .val (.int p2), .val (.int p3), .val (.int p4), .val (.int (p0 &&& (7 : Int32))), .unset, .unset, .unset, .unset, .unset, .unset] [(.int (-17 : Int32))])) _
        refine XS.goto X0.here hx rfl (pc0 := 15) (pc' := 20) rfl (hb hby at_15) (by decide) (by decide) ?_
        exact ht
      have kk := k5
      simpa only [if_neg hc3] using kk
  have k6 : Go p.tables e below (s₁.setTop (mkF m 20 #[.val (.int p0), .val (.int p1), .val (.int p2), .val (.int p3), .val (.int p4), .val (.int (p0 &&& (7 : Int32))), .unset, .unset, .unset, .unset, .unset, .unset] [(.int (if (p4 &&& (1 : Int32)) = (0 : Int32) then (p1.toInt8.toInt32) else (-17 : Int32)))])) (s₁.setTop (mkF m 26 #[.val (.int p0), .val (.int p1), .val (.int p2), .val (.int p3), .val (.int p4), .val (.int (p0 &&& (7 : Int32))), .val (.int (if (p4 &&& (1 : Int32)) = (0 : Int32) then (p1.toInt8.toInt32) else (-17 : Int32))), .unset, .unset, .unset, .unset, .unset] [(.int (p4 &&& (2 : Int32)))])) := by
    intro t ht
    refine XS.istore X0.here hx rfl (hb hby at_20) rfl (l' := #[.val (.int p0), .val (.int p1), .val (.int p2), .val (.int p3), .val (.int p4), .val (.int (p0 &&& (7 : Int32))), .val (.int (if (p4 &&& (1 : Int32)) = (0 : Int32) then (p1.toInt8.toInt32) else (-17 : Int32))), .unset, .unset, .unset, .unset, .unset]) rfl ?_
    show Steps p.tables e below (s₁.setTop (mkF m 22 #[.val (.int p0), .val (.int p1), .val (.int p2), .val (.int p3), .val (.int p4), .val (.int (p0 &&& (7 : Int32))), .val (.int (if (p4 &&& (1 : Int32)) = (0 : Int32) then (p1.toInt8.toInt32) else (-17 : Int32))), .unset, .unset, .unset, .unset, .unset] [])) _
    refine XS.iload X0.here hx rfl (hb hby at_22) rfl ?_
    show Steps p.tables e below (s₁.setTop (mkF m 24 #[.val (.int p0), .val (.int p1), .val (.int p2), .val (.int p3), .val (.int p4), .val (.int (p0 &&& (7 : Int32))), .val (.int (if (p4 &&& (1 : Int32)) = (0 : Int32) then (p1.toInt8.toInt32) else (-17 : Int32))), .unset, .unset, .unset, .unset, .unset] [(.int p4)])) _
    refine XS.iconst X0.here hx rfl (hb hby at_24) ?_
    show Steps p.tables e below (s₁.setTop (mkF m 25 #[.val (.int p0), .val (.int p1), .val (.int p2), .val (.int p3), .val (.int p4), .val (.int (p0 &&& (7 : Int32))), .val (.int (if (p4 &&& (1 : Int32)) = (0 : Int32) then (p1.toInt8.toInt32) else (-17 : Int32))), .unset, .unset, .unset, .unset, .unset] [(.int (2 : Int32)), (.int p4)])) _
    refine XS.iand X0.here hx rfl (hb hby at_25) rfl ?_
    exact ht
  have k7 : Go p.tables e below (s₁.setTop (mkF m 26 #[.val (.int p0), .val (.int p1), .val (.int p2), .val (.int p3), .val (.int p4), .val (.int (p0 &&& (7 : Int32))), .val (.int (if (p4 &&& (1 : Int32)) = (0 : Int32) then (p1.toInt8.toInt32) else (-17 : Int32))), .unset, .unset, .unset, .unset, .unset] [(.int (p4 &&& (2 : Int32)))])) (s₁.setTop (mkF m 36 #[.val (.int p0), .val (.int p1), .val (.int p2), .val (.int p3), .val (.int p4), .val (.int (p0 &&& (7 : Int32))), .val (.int (if (p4 &&& (1 : Int32)) = (0 : Int32) then (p1.toInt8.toInt32) else (-17 : Int32))), .unset, .unset, .unset, .unset, .unset] [(.int (if (p4 &&& (2 : Int32)) = (0 : Int32) then (p2.toInt8.toInt32) else (-69 : Int32)))])) := by
    by_cases hc8 : (p4 &&& (2 : Int32)) = (0 : Int32)
    · have k9 : Go p.tables e below (s₁.setTop (mkF m 26 #[.val (.int p0), .val (.int p1), .val (.int p2), .val (.int p3), .val (.int p4), .val (.int (p0 &&& (7 : Int32))), .val (.int (if (p4 &&& (1 : Int32)) = (0 : Int32) then (p1.toInt8.toInt32) else (-17 : Int32))), .unset, .unset, .unset, .unset, .unset] [(.int (p4 &&& (2 : Int32)))])) (s₁.setTop (mkF m 36 #[.val (.int p0), .val (.int p1), .val (.int p2), .val (.int p3), .val (.int p4), .val (.int (p0 &&& (7 : Int32))), .val (.int (if (p4 &&& (1 : Int32)) = (0 : Int32) then (p1.toInt8.toInt32) else (-17 : Int32))), .unset, .unset, .unset, .unset, .unset] [(.int (p2.toInt8.toInt32))])) := by
        intro t ht
        refine XS.ifYes X0.here hx rfl (pc0 := 26) (pc' := 34) rfl (hb hby at_26) rfl ((if0 _ _).trans (teq hc8).1) (by decide) (by decide) ?_
        show Steps p.tables e below (s₁.setTop (mkF m 34 #[.val (.int p0), .val (.int p1), .val (.int p2), .val (.int p3), .val (.int p4), .val (.int (p0 &&& (7 : Int32))), .val (.int (if (p4 &&& (1 : Int32)) = (0 : Int32) then (p1.toInt8.toInt32) else (-17 : Int32))), .unset, .unset, .unset, .unset, .unset] [])) _
        refine XS.iloadN X0.here hx rfl (hb hby at_34) rfl ?_
        show Steps p.tables e below (s₁.setTop (mkF m 35 #[.val (.int p0), .val (.int p1), .val (.int p2), .val (.int p3), .val (.int p4), .val (.int (p0 &&& (7 : Int32))), .val (.int (if (p4 &&& (1 : Int32)) = (0 : Int32) then (p1.toInt8.toInt32) else (-17 : Int32))), .unset, .unset, .unset, .unset, .unset] [(.int p2)])) _
        refine XS.i2b X0.here hx rfl (hb hby at_35) rfl ?_
        exact ht
      have kk := k9
      simpa only [if_pos hc8] using kk
    · have k10 : Go p.tables e below (s₁.setTop (mkF m 26 #[.val (.int p0), .val (.int p1), .val (.int p2), .val (.int p3), .val (.int p4), .val (.int (p0 &&& (7 : Int32))), .val (.int (if (p4 &&& (1 : Int32)) = (0 : Int32) then (p1.toInt8.toInt32) else (-17 : Int32))), .unset, .unset, .unset, .unset, .unset] [(.int (p4 &&& (2 : Int32)))])) (s₁.setTop (mkF m 36 #[.val (.int p0), .val (.int p1), .val (.int p2), .val (.int p3), .val (.int p4), .val (.int (p0 &&& (7 : Int32))), .val (.int (if (p4 &&& (1 : Int32)) = (0 : Int32) then (p1.toInt8.toInt32) else (-17 : Int32))), .unset, .unset, .unset, .unset, .unset] [(.int (-69 : Int32))])) := by
        intro t ht
        refine XS.ifNo X0.here hx rfl (hb hby at_26) rfl ((if0 _ _).trans (feq hc8).1) ?_
        show Steps p.tables e below (s₁.setTop (mkF m 29 #[.val (.int p0), .val (.int p1), .val (.int p2), .val (.int p3), .val (.int p4), .val (.int (p0 &&& (7 : Int32))), .val (.int (if (p4 &&& (1 : Int32)) = (0 : Int32) then (p1.toInt8.toInt32) else (-17 : Int32))), .unset, .unset, .unset, .unset, .unset] [])) _
        refine XS.bipush X0.here hx rfl (hb hby at_29) ?_
        show Steps p.tables e below (s₁.setTop (mkF m 31 #[.val (.int p0), .val (.int p1), .val (.int p2), .val (.int p3), .val (.int p4), .val (.int (p0 &&& (7 : Int32))), .val (.int (if (p4 &&& (1 : Int32)) = (0 : Int32) then (p1.toInt8.toInt32) else (-17 : Int32))), .unset, .unset, .unset, .unset, .unset] [(.int (-69 : Int32))])) _
        refine XS.goto X0.here hx rfl (pc0 := 31) (pc' := 36) rfl (hb hby at_31) (by decide) (by decide) ?_
        exact ht
      have kk := k10
      simpa only [if_neg hc8] using kk
  have k11 : Go p.tables e below (s₁.setTop (mkF m 36 #[.val (.int p0), .val (.int p1), .val (.int p2), .val (.int p3), .val (.int p4), .val (.int (p0 &&& (7 : Int32))), .val (.int (if (p4 &&& (1 : Int32)) = (0 : Int32) then (p1.toInt8.toInt32) else (-17 : Int32))), .unset, .unset, .unset, .unset, .unset] [(.int (if (p4 &&& (2 : Int32)) = (0 : Int32) then (p2.toInt8.toInt32) else (-69 : Int32)))])) (s₁.setTop (mkF m 42 #[.val (.int p0), .val (.int p1), .val (.int p2), .val (.int p3), .val (.int p4), .val (.int (p0 &&& (7 : Int32))), .val (.int (if (p4 &&& (1 : Int32)) = (0 : Int32) then (p1.toInt8.toInt32) else (-17 : Int32))), .val (.int (if (p4 &&& (2 : Int32)) = (0 : Int32) then (p2.toInt8.toInt32) else (-69 : Int32))), .unset, .unset, .unset, .unset] [(.int (p4 &&& (4 : Int32)))])) := by
    intro t ht
    refine XS.istore X0.here hx rfl (hb hby at_36) rfl (l' := #[.val (.int p0), .val (.int p1), .val (.int p2), .val (.int p3), .val (.int p4), .val (.int (p0 &&& (7 : Int32))), .val (.int (if (p4 &&& (1 : Int32)) = (0 : Int32) then (p1.toInt8.toInt32) else (-17 : Int32))), .val (.int (if (p4 &&& (2 : Int32)) = (0 : Int32) then (p2.toInt8.toInt32) else (-69 : Int32))), .unset, .unset, .unset, .unset]) rfl ?_
    show Steps p.tables e below (s₁.setTop (mkF m 38 #[.val (.int p0), .val (.int p1), .val (.int p2), .val (.int p3), .val (.int p4), .val (.int (p0 &&& (7 : Int32))), .val (.int (if (p4 &&& (1 : Int32)) = (0 : Int32) then (p1.toInt8.toInt32) else (-17 : Int32))), .val (.int (if (p4 &&& (2 : Int32)) = (0 : Int32) then (p2.toInt8.toInt32) else (-69 : Int32))), .unset, .unset, .unset, .unset] [])) _
    refine XS.iload X0.here hx rfl (hb hby at_38) rfl ?_
    show Steps p.tables e below (s₁.setTop (mkF m 40 #[.val (.int p0), .val (.int p1), .val (.int p2), .val (.int p3), .val (.int p4), .val (.int (p0 &&& (7 : Int32))), .val (.int (if (p4 &&& (1 : Int32)) = (0 : Int32) then (p1.toInt8.toInt32) else (-17 : Int32))), .val (.int (if (p4 &&& (2 : Int32)) = (0 : Int32) then (p2.toInt8.toInt32) else (-69 : Int32))), .unset, .unset, .unset, .unset] [(.int p4)])) _
    refine XS.iconst X0.here hx rfl (hb hby at_40) ?_
    show Steps p.tables e below (s₁.setTop (mkF m 41 #[.val (.int p0), .val (.int p1), .val (.int p2), .val (.int p3), .val (.int p4), .val (.int (p0 &&& (7 : Int32))), .val (.int (if (p4 &&& (1 : Int32)) = (0 : Int32) then (p1.toInt8.toInt32) else (-17 : Int32))), .val (.int (if (p4 &&& (2 : Int32)) = (0 : Int32) then (p2.toInt8.toInt32) else (-69 : Int32))), .unset, .unset, .unset, .unset] [(.int (4 : Int32)), (.int p4)])) _
    refine XS.iand X0.here hx rfl (hb hby at_41) rfl ?_
    exact ht
  have k12 : Go p.tables e below (s₁.setTop (mkF m 42 #[.val (.int p0), .val (.int p1), .val (.int p2), .val (.int p3), .val (.int p4), .val (.int (p0 &&& (7 : Int32))), .val (.int (if (p4 &&& (1 : Int32)) = (0 : Int32) then (p1.toInt8.toInt32) else (-17 : Int32))), .val (.int (if (p4 &&& (2 : Int32)) = (0 : Int32) then (p2.toInt8.toInt32) else (-69 : Int32))), .unset, .unset, .unset, .unset] [(.int (p4 &&& (4 : Int32)))])) (s₁.setTop (mkF m 52 #[.val (.int p0), .val (.int p1), .val (.int p2), .val (.int p3), .val (.int p4), .val (.int (p0 &&& (7 : Int32))), .val (.int (if (p4 &&& (1 : Int32)) = (0 : Int32) then (p1.toInt8.toInt32) else (-17 : Int32))), .val (.int (if (p4 &&& (2 : Int32)) = (0 : Int32) then (p2.toInt8.toInt32) else (-69 : Int32))), .unset, .unset, .unset, .unset] [(.int (if (p4 &&& (4 : Int32)) = (0 : Int32) then (p3.toInt8.toInt32) else (-65 : Int32)))])) := by
    by_cases hc13 : (p4 &&& (4 : Int32)) = (0 : Int32)
    · have k14 : Go p.tables e below (s₁.setTop (mkF m 42 #[.val (.int p0), .val (.int p1), .val (.int p2), .val (.int p3), .val (.int p4), .val (.int (p0 &&& (7 : Int32))), .val (.int (if (p4 &&& (1 : Int32)) = (0 : Int32) then (p1.toInt8.toInt32) else (-17 : Int32))), .val (.int (if (p4 &&& (2 : Int32)) = (0 : Int32) then (p2.toInt8.toInt32) else (-69 : Int32))), .unset, .unset, .unset, .unset] [(.int (p4 &&& (4 : Int32)))])) (s₁.setTop (mkF m 52 #[.val (.int p0), .val (.int p1), .val (.int p2), .val (.int p3), .val (.int p4), .val (.int (p0 &&& (7 : Int32))), .val (.int (if (p4 &&& (1 : Int32)) = (0 : Int32) then (p1.toInt8.toInt32) else (-17 : Int32))), .val (.int (if (p4 &&& (2 : Int32)) = (0 : Int32) then (p2.toInt8.toInt32) else (-69 : Int32))), .unset, .unset, .unset, .unset] [(.int (p3.toInt8.toInt32))])) := by
        intro t ht
        refine XS.ifYes X0.here hx rfl (pc0 := 42) (pc' := 50) rfl (hb hby at_42) rfl ((if0 _ _).trans (teq hc13).1) (by decide) (by decide) ?_
        show Steps p.tables e below (s₁.setTop (mkF m 50 #[.val (.int p0), .val (.int p1), .val (.int p2), .val (.int p3), .val (.int p4), .val (.int (p0 &&& (7 : Int32))), .val (.int (if (p4 &&& (1 : Int32)) = (0 : Int32) then (p1.toInt8.toInt32) else (-17 : Int32))), .val (.int (if (p4 &&& (2 : Int32)) = (0 : Int32) then (p2.toInt8.toInt32) else (-69 : Int32))), .unset, .unset, .unset, .unset] [])) _
        refine XS.iloadN X0.here hx rfl (hb hby at_50) rfl ?_
        show Steps p.tables e below (s₁.setTop (mkF m 51 #[.val (.int p0), .val (.int p1), .val (.int p2), .val (.int p3), .val (.int p4), .val (.int (p0 &&& (7 : Int32))), .val (.int (if (p4 &&& (1 : Int32)) = (0 : Int32) then (p1.toInt8.toInt32) else (-17 : Int32))), .val (.int (if (p4 &&& (2 : Int32)) = (0 : Int32) then (p2.toInt8.toInt32) else (-69 : Int32))), .unset, .unset, .unset, .unset] [(.int p3)])) _
        refine XS.i2b X0.here hx rfl (hb hby at_51) rfl ?_
        exact ht
      have kk := k14
      simpa only [if_pos hc13] using kk
    · have k15 : Go p.tables e below (s₁.setTop (mkF m 42 #[.val (.int p0), .val (.int p1), .val (.int p2), .val (.int p3), .val (.int p4), .val (.int (p0 &&& (7 : Int32))), .val (.int (if (p4 &&& (1 : Int32)) = (0 : Int32) then (p1.toInt8.toInt32) else (-17 : Int32))), .val (.int (if (p4 &&& (2 : Int32)) = (0 : Int32) then (p2.toInt8.toInt32) else (-69 : Int32))), .unset, .unset, .unset, .unset] [(.int (p4 &&& (4 : Int32)))])) (s₁.setTop (mkF m 52 #[.val (.int p0), .val (.int p1), .val (.int p2), .val (.int p3), .val (.int p4), .val (.int (p0 &&& (7 : Int32))), .val (.int (if (p4 &&& (1 : Int32)) = (0 : Int32) then (p1.toInt8.toInt32) else (-17 : Int32))), .val (.int (if (p4 &&& (2 : Int32)) = (0 : Int32) then (p2.toInt8.toInt32) else (-69 : Int32))), .unset, .unset, .unset, .unset] [(.int (-65 : Int32))])) := by
        intro t ht
        refine XS.ifNo X0.here hx rfl (hb hby at_42) rfl ((if0 _ _).trans (feq hc13).1) ?_
        show Steps p.tables e below (s₁.setTop (mkF m 45 #[.val (.int p0), .val (.int p1), .val (.int p2), .val (.int p3), .val (.int p4), .val (.int (p0 &&& (7 : Int32))), .val (.int (if (p4 &&& (1 : Int32)) = (0 : Int32) then (p1.toInt8.toInt32) else (-17 : Int32))), .val (.int (if (p4 &&& (2 : Int32)) = (0 : Int32) then (p2.toInt8.toInt32) else (-69 : Int32))), .unset, .unset, .unset, .unset] [])) _
        refine XS.bipush X0.here hx rfl (hb hby at_45) ?_
        show Steps p.tables e below (s₁.setTop (mkF m 47 #[.val (.int p0), .val (.int p1), .val (.int p2), .val (.int p3), .val (.int p4), .val (.int (p0 &&& (7 : Int32))), .val (.int (if (p4 &&& (1 : Int32)) = (0 : Int32) then (p1.toInt8.toInt32) else (-17 : Int32))), .val (.int (if (p4 &&& (2 : Int32)) = (0 : Int32) then (p2.toInt8.toInt32) else (-69 : Int32))), .unset, .unset, .unset, .unset] [(.int (-65 : Int32))])) _
        refine XS.goto X0.here hx rfl (pc0 := 47) (pc' := 52) rfl (hb hby at_47) (by decide) (by decide) ?_
        exact ht
      have kk := k15
      simpa only [if_neg hc13] using kk
  have k16 : Go p.tables e below (s₁.setTop (mkF m 52 #[.val (.int p0), .val (.int p1), .val (.int p2), .val (.int p3), .val (.int p4), .val (.int (p0 &&& (7 : Int32))), .val (.int (if (p4 &&& (1 : Int32)) = (0 : Int32) then (p1.toInt8.toInt32) else (-17 : Int32))), .val (.int (if (p4 &&& (2 : Int32)) = (0 : Int32) then (p2.toInt8.toInt32) else (-69 : Int32))), .unset, .unset, .unset, .unset] [(.int (if (p4 &&& (4 : Int32)) = (0 : Int32) then (p3.toInt8.toInt32) else (-65 : Int32)))])) (s₁.setTop (mkF m 54 #[.val (.int p0), .val (.int p1), .val (.int p2), .val (.int p3), .val (.int p4), .val (.int (p0 &&& (7 : Int32))), .val (.int (if (p4 &&& (1 : Int32)) = (0 : Int32) then (p1.toInt8.toInt32) else (-17 : Int32))), .val (.int (if (p4 &&& (2 : Int32)) = (0 : Int32) then (p2.toInt8.toInt32) else (-69 : Int32))), .val (.int (if (p4 &&& (4 : Int32)) = (0 : Int32) then (p3.toInt8.toInt32) else (-65 : Int32))), .unset, .unset, .unset] [])) := by
    intro t ht
    refine XS.istore X0.here hx rfl (hb hby at_52) rfl (l' := #[.val (.int p0), .val (.int p1), .val (.int p2), .val (.int p3), .val (.int p4), .val (.int (p0 &&& (7 : Int32))), .val (.int (if (p4 &&& (1 : Int32)) = (0 : Int32) then (p1.toInt8.toInt32) else (-17 : Int32))), .val (.int (if (p4 &&& (2 : Int32)) = (0 : Int32) then (p2.toInt8.toInt32) else (-69 : Int32))), .val (.int (if (p4 &&& (4 : Int32)) = (0 : Int32) then (p3.toInt8.toInt32) else (-65 : Int32))), .unset, .unset, .unset]) rfl ?_
    exact ht
  obtain ⟨y17, ey17⟩ : ∃ z : Int32, z = (if (p4 &&& (1 : Int32)) = (0 : Int32) then (p1.toInt8.toInt32) else (-17 : Int32)) := ⟨_, rfl⟩
  obtain ⟨y18, ey18⟩ : ∃ z : Int32, z = (if (p4 &&& (2 : Int32)) = (0 : Int32) then (p2.toInt8.toInt32) else (-69 : Int32)) := ⟨_, rfl⟩
  obtain ⟨y19, ey19⟩ : ∃ z : Int32, z = (if (p4 &&& (4 : Int32)) = (0 : Int32) then (p3.toInt8.toInt32) else (-65 : Int32)) := ⟨_, rfl⟩
  have k20 : Go p.tables e below (s₁.setTop (mkF m 54 #[.val (.int p0), .val (.int p1), .val (.int p2), .val (.int p3), .val (.int p4), .val (.int (p0 &&& (7 : Int32))), .val (.int (if (p4 &&& (1 : Int32)) = (0 : Int32) then (p1.toInt8.toInt32) else (-17 : Int32))), .val (.int (if (p4 &&& (2 : Int32)) = (0 : Int32) then (p2.toInt8.toInt32) else (-69 : Int32))), .val (.int (if (p4 &&& (4 : Int32)) = (0 : Int32) then (p3.toInt8.toInt32) else (-65 : Int32))), .unset, .unset, .unset] [])) (s₁.setTop (mkF m 54 #[.val (.int p0), .val (.int p1), .val (.int p2), .val (.int p3), .val (.int p4), .val (.int (p0 &&& (7 : Int32))), .val (.int y17), .val (.int y18), .val (.int y19), .unset, .unset, .unset] [])) := by rw [ey17, ey18, ey19]; exact fun _ h => h
  rcases own_and7c p0 with hk21 | hk21 | hk21 | hk21 | hk21 | hk21 | hk21 | hk21
  · have k22 : Go p.tables e below (s₁.setTop (mkF m 54 #[.val (.int p0), .val (.int p1), .val (.int p2), .val (.int p3), .val (.int p4), .val (.int (p0 &&& (7 : Int32))), .val (.int y17), .val (.int y18), .val (.int y19), .unset, .unset, .unset] [])) (s₁.setTop (mkF m 54 #[.val (.int p0), .val (.int p1), .val (.int p2), .val (.int p3), .val (.int p4), .val (.int (0 : Int32)), .val (.int y17), .val (.int y18), .val (.int y19), .unset, .unset, .unset] [])) := by rw [hk21]; exact fun _ h => h
    have k23 : Go p.tables e below (s₁.setTop (mkF m 54 #[.val (.int p0), .val (.int p1), .val (.int p2), .val (.int p3), .val (.int p4), .val (.int (0 : Int32)), .val (.int y17), .val (.int y18), .val (.int y19), .unset, .unset, .unset] [])) (s₁.setTop (mkF m 56 #[.val (.int p0), .val (.int p1), .val (.int p2), .val (.int p3), .val (.int p4), .val (.int (0 : Int32)), .val (.int y17), .val (.int y18), .val (.int y19), .unset, .unset, .unset] [(.int (0 : Int32))])) := by
      intro t ht
      refine XS.iload X0.here hx rfl (hb hby at_54) rfl ?_
      exact ht
    obtain ⟨T24, h24, kc24, X24, e24, E24, A24, st24⟩ := newP X0 hx hZ (hw _ (List.mem_of_getElem? (i := 0) rfl)) e0 (g := (mkF m 56 #[.val (.int p0), .val (.int p1), .val (.int p2), .val (.int p3), .val (.int p4), .val (.int (0 : Int32)), .val (.int y17), .val (.int y18), .val (.int y19), .unset, .unset, .unset] [(.int (0 : Int32))])) rfl (hb hby at_56) rfl (by decide) (cap := 0) (by decide) (by decide) (by decide) (by decide)
    obtain ⟨b24, g24⟩ : ∃ z, z = h0.size := ⟨_, rfl⟩
    rw [← g24] at A24 st24
    have g_b24 : n0 ≤ b24 := Nat.le_trans Z0 (Nat.le_of_eq g24.symm)
    have sz_b24 : h0.size ≤ b24 := Nat.le_trans (Keep.refl h0 []).1 (Nat.le_of_eq g24.symm)
    have ne_wM_b24 : wM ≠ b24 := Nat.ne_of_lt (Nat.lt_of_lt_of_le V_M.lt (Nat.le_of_eq g24.symm))
    have Kp24 : Keep h0 h24 [] := (Keep.refl h0 []).ext E24
    have Z24 : n0 ≤ h24.size := Nat.le_trans Z0 E24.1
    have S_M_c_24 := S_M.ext E24
    have V_M_c_24 := V_M.ext E24
    have V_b24 : Arv Z h24 b24 kc24 .byte (0 : Int32) [] (.int (0 : Int32)) := (Arv.new A24 (by decide)).pad (pad_rep [] (.int (0 : Int32)) 0)
    have k24 : Go p.tables e below (s₁.setTop (mkF m 56 #[.val (.int p0), .val (.int p1), .val (.int p2), .val (.int p3), .val (.int p4), .val (.int (0 : Int32)), .val (.int y17), .val (.int y18), .val (.int y19), .unset, .unset, .unset] [(.int (0 : Int32))])) (T24.setTop (mkF m 58 #[.val (.int p0), .val (.int p1), .val (.int p2), .val (.int p3), .val (.int p4), .val (.int (0 : Int32)), .val (.int y17), .val (.int y18), .val (.int y19), .unset, .unset, .unset] [(.ref b24)])) := st24
    have k25 : Go p.tables e below (T24.setTop (mkF m 58 #[.val (.int p0), .val (.int p1), .val (.int p2), .val (.int p3), .val (.int p4), .val (.int (0 : Int32)), .val (.int y17), .val (.int y18), .val (.int y19), .unset, .unset, .unset] [(.ref b24)])) (T24.setTop (mkF m 221 #[.val (.int p0), .val (.int p1), .val (.int p2), .val (.int p3), .val (.int p4), .val (.int (0 : Int32)), .val (.int y17), .val (.int y18), .val (.int y19), .val (.ref b24), .val (.int (0 : Int32)), .val (.int (0 : Int32))] [(.ref b24)])) := by
      intro t ht
      refine XS.astore X24.here hx rfl (hb hby at_58) rfl rfl (l' := #[.val (.int p0), .val (.int p1), .val (.int p2), .val (.int p3), .val (.int p4), .val (.int (0 : Int32)), .val (.int y17), .val (.int y18), .val (.int y19), .val (.ref b24), .unset, .unset]) rfl ?_
      show Steps p.tables e below (T24.setTop (mkF m 60 #[.val (.int p0), .val (.int p1), .val (.int p2), .val (.int p3), .val (.int p4), .val (.int (0 : Int32)), .val (.int y17), .val (.int y18), .val (.int y19), .val (.ref b24), .unset, .unset] [])) _
      refine XS.iload X24.here hx rfl (hb hby at_60) rfl ?_
      show Steps p.tables e below (T24.setTop (mkF m 62 #[.val (.int p0), .val (.int p1), .val (.int p2), .val (.int p3), .val (.int p4), .val (.int (0 : Int32)), .val (.int y17), .val (.int y18), .val (.int y19), .val (.ref b24), .unset, .unset] [(.int (0 : Int32))])) _
      refine XS.ifYes X24.here hx rfl (pc0 := 62) (pc' := 71) rfl (hb hby at_62) rfl ((if0 _ _).trans (flt (by decide : ¬ ((0 : Int32) < (0 : Int32)))).2.2.2) (by decide) (by decide) ?_
      show Steps p.tables e below (T24.setTop (mkF m 71 #[.val (.int p0), .val (.int p1), .val (.int p2), .val (.int p3), .val (.int p4), .val (.int (0 : Int32)), .val (.int y17), .val (.int y18), .val (.int y19), .val (.ref b24), .unset, .unset] [])) _
      refine XS.iload X24.here hx rfl (hb hby at_71) rfl ?_
      show Steps p.tables e below (T24.setTop (mkF m 73 #[.val (.int p0), .val (.int p1), .val (.int p2), .val (.int p3), .val (.int p4), .val (.int (0 : Int32)), .val (.int y17), .val (.int y18), .val (.int y19), .val (.ref b24), .unset, .unset] [(.int (0 : Int32))])) _
      refine XS.iconst X24.here hx rfl (hb hby at_73) ?_
      show Steps p.tables e below (T24.setTop (mkF m 74 #[.val (.int p0), .val (.int p1), .val (.int p2), .val (.int p3), .val (.int p4), .val (.int (0 : Int32)), .val (.int y17), .val (.int y18), .val (.int y19), .val (.ref b24), .unset, .unset] [(.int (1 : Int32)), (.int (0 : Int32))])) _
      refine XS.icmpYes X24.here hx rfl (pc0 := 74) (pc' := 83) rfl (hb hby at_74) rfl (flt (by decide : ¬ ((1 : Int32) < (0 : Int32)))).2.2.2 (by decide) (by decide) ?_
      show Steps p.tables e below (T24.setTop (mkF m 83 #[.val (.int p0), .val (.int p1), .val (.int p2), .val (.int p3), .val (.int p4), .val (.int (0 : Int32)), .val (.int y17), .val (.int y18), .val (.int y19), .val (.ref b24), .unset, .unset] [])) _
      refine XS.iload X24.here hx rfl (hb hby at_83) rfl ?_
      show Steps p.tables e below (T24.setTop (mkF m 85 #[.val (.int p0), .val (.int p1), .val (.int p2), .val (.int p3), .val (.int p4), .val (.int (0 : Int32)), .val (.int y17), .val (.int y18), .val (.int y19), .val (.ref b24), .unset, .unset] [(.int (0 : Int32))])) _
      refine XS.iconst X24.here hx rfl (hb hby at_85) ?_
      show Steps p.tables e below (T24.setTop (mkF m 86 #[.val (.int p0), .val (.int p1), .val (.int p2), .val (.int p3), .val (.int p4), .val (.int (0 : Int32)), .val (.int y17), .val (.int y18), .val (.int y19), .val (.ref b24), .unset, .unset] [(.int (2 : Int32)), (.int (0 : Int32))])) _
      refine XS.icmpYes X24.here hx rfl (pc0 := 86) (pc' := 95) rfl (hb hby at_86) rfl (flt (by decide : ¬ ((2 : Int32) < (0 : Int32)))).2.2.2 (by decide) (by decide) ?_
      show Steps p.tables e below (T24.setTop (mkF m 95 #[.val (.int p0), .val (.int p1), .val (.int p2), .val (.int p3), .val (.int p4), .val (.int (0 : Int32)), .val (.int y17), .val (.int y18), .val (.int y19), .val (.ref b24), .unset, .unset] [])) _
      refine XS.iload X24.here hx rfl (hb hby at_95) rfl ?_
      show Steps p.tables e below (T24.setTop (mkF m 97 #[.val (.int p0), .val (.int p1), .val (.int p2), .val (.int p3), .val (.int p4), .val (.int (0 : Int32)), .val (.int y17), .val (.int y18), .val (.int y19), .val (.ref b24), .unset, .unset] [(.int (0 : Int32))])) _
      refine XS.iconst X24.here hx rfl (hb hby at_97) ?_
      show Steps p.tables e below (T24.setTop (mkF m 98 #[.val (.int p0), .val (.int p1), .val (.int p2), .val (.int p3), .val (.int p4), .val (.int (0 : Int32)), .val (.int y17), .val (.int y18), .val (.int y19), .val (.ref b24), .unset, .unset] [(.int (3 : Int32)), (.int (0 : Int32))])) _
      refine XS.icmpYes X24.here hx rfl (pc0 := 98) (pc' := 110) rfl (hb hby at_98) rfl (flt (by decide : ¬ ((3 : Int32) < (0 : Int32)))).2.2.2 (by decide) (by decide) ?_
      show Steps p.tables e below (T24.setTop (mkF m 110 #[.val (.int p0), .val (.int p1), .val (.int p2), .val (.int p3), .val (.int p4), .val (.int (0 : Int32)), .val (.int y17), .val (.int y18), .val (.int y19), .val (.ref b24), .unset, .unset] [])) _
      refine XS.iload X24.here hx rfl (hb hby at_110) rfl ?_
      show Steps p.tables e below (T24.setTop (mkF m 112 #[.val (.int p0), .val (.int p1), .val (.int p2), .val (.int p3), .val (.int p4), .val (.int (0 : Int32)), .val (.int y17), .val (.int y18), .val (.int y19), .val (.ref b24), .unset, .unset] [(.int (0 : Int32))])) _
      refine XS.iconst X24.here hx rfl (hb hby at_112) ?_
      show Steps p.tables e below (T24.setTop (mkF m 113 #[.val (.int p0), .val (.int p1), .val (.int p2), .val (.int p3), .val (.int p4), .val (.int (0 : Int32)), .val (.int y17), .val (.int y18), .val (.int y19), .val (.ref b24), .unset, .unset] [(.int (4 : Int32)), (.int (0 : Int32))])) _
      refine XS.icmpYes X24.here hx rfl (pc0 := 113) (pc' := 125) rfl (hb hby at_113) rfl (flt (by decide : ¬ ((4 : Int32) < (0 : Int32)))).2.2.2 (by decide) (by decide) ?_
      show Steps p.tables e below (T24.setTop (mkF m 125 #[.val (.int p0), .val (.int p1), .val (.int p2), .val (.int p3), .val (.int p4), .val (.int (0 : Int32)), .val (.int y17), .val (.int y18), .val (.int y19), .val (.ref b24), .unset, .unset] [])) _
      refine XS.iload X24.here hx rfl (hb hby at_125) rfl ?_
      show Steps p.tables e below (T24.setTop (mkF m 127 #[.val (.int p0), .val (.int p1), .val (.int p2), .val (.int p3), .val (.int p4), .val (.int (0 : Int32)), .val (.int y17), .val (.int y18), .val (.int y19), .val (.ref b24), .unset, .unset] [(.int (0 : Int32))])) _
      refine XS.iconst X24.here hx rfl (hb hby at_127) ?_
      show Steps p.tables e below (T24.setTop (mkF m 128 #[.val (.int p0), .val (.int p1), .val (.int p2), .val (.int p3), .val (.int p4), .val (.int (0 : Int32)), .val (.int y17), .val (.int y18), .val (.int y19), .val (.ref b24), .unset, .unset] [(.int (5 : Int32)), (.int (0 : Int32))])) _
      refine XS.icmpYes X24.here hx rfl (pc0 := 128) (pc' := 140) rfl (hb hby at_128) rfl (flt (by decide : ¬ ((5 : Int32) < (0 : Int32)))).2.2.2 (by decide) (by decide) ?_
      show Steps p.tables e below (T24.setTop (mkF m 140 #[.val (.int p0), .val (.int p1), .val (.int p2), .val (.int p3), .val (.int p4), .val (.int (0 : Int32)), .val (.int y17), .val (.int y18), .val (.int y19), .val (.ref b24), .unset, .unset] [])) _
      refine XS.iload X24.here hx rfl (hb hby at_140) rfl ?_
      show Steps p.tables e below (T24.setTop (mkF m 142 #[.val (.int p0), .val (.int p1), .val (.int p2), .val (.int p3), .val (.int p4), .val (.int (0 : Int32)), .val (.int y17), .val (.int y18), .val (.int y19), .val (.ref b24), .unset, .unset] [(.int (0 : Int32))])) _
      refine XS.bipush X24.here hx rfl (hb hby at_142) ?_
      show Steps p.tables e below (T24.setTop (mkF m 144 #[.val (.int p0), .val (.int p1), .val (.int p2), .val (.int p3), .val (.int p4), .val (.int (0 : Int32)), .val (.int y17), .val (.int y18), .val (.int y19), .val (.ref b24), .unset, .unset] [(.int (6 : Int32)), (.int (0 : Int32))])) _
      refine XS.icmpYes X24.here hx rfl (pc0 := 144) (pc' := 158) rfl (hb hby at_144) rfl (flt (by decide : ¬ ((6 : Int32) < (0 : Int32)))).2.2.2 (by decide) (by decide) ?_
      show Steps p.tables e below (T24.setTop (mkF m 158 #[.val (.int p0), .val (.int p1), .val (.int p2), .val (.int p3), .val (.int p4), .val (.int (0 : Int32)), .val (.int y17), .val (.int y18), .val (.int y19), .val (.ref b24), .unset, .unset] [])) _
      refine XS.iload X24.here hx rfl (hb hby at_158) rfl ?_
      show Steps p.tables e below (T24.setTop (mkF m 160 #[.val (.int p0), .val (.int p1), .val (.int p2), .val (.int p3), .val (.int p4), .val (.int (0 : Int32)), .val (.int y17), .val (.int y18), .val (.int y19), .val (.ref b24), .unset, .unset] [(.int (0 : Int32))])) _
      refine XS.iconst X24.here hx rfl (hb hby at_160) ?_
      show Steps p.tables e below (T24.setTop (mkF m 161 #[.val (.int p0), .val (.int p1), .val (.int p2), .val (.int p3), .val (.int p4), .val (.int (0 : Int32)), .val (.int y17), .val (.int y18), .val (.int y19), .val (.ref b24), .unset, .unset] [(.int (3 : Int32)), (.int (0 : Int32))])) _
      refine XS.icmpYes X24.here hx rfl (pc0 := 161) (pc' := 204) rfl (hb hby at_161) rfl (tlt (by decide : (0 : Int32) < (3 : Int32))).1 (by decide) (by decide) ?_
      show Steps p.tables e below (T24.setTop (mkF m 204 #[.val (.int p0), .val (.int p1), .val (.int p2), .val (.int p3), .val (.int p4), .val (.int (0 : Int32)), .val (.int y17), .val (.int y18), .val (.int y19), .val (.ref b24), .unset, .unset] [])) _
      refine XS.iconst X24.here hx rfl (hb hby at_204) ?_
      show Steps p.tables e below (T24.setTop (mkF m 205 #[.val (.int p0), .val (.int p1), .val (.int p2), .val (.int p3), .val (.int p4), .val (.int (0 : Int32)), .val (.int y17), .val (.int y18), .val (.int y19), .val (.ref b24), .unset, .unset] [(.int (0 : Int32))])) _
      refine XS.istore X24.here hx rfl (hb hby at_205) rfl (l' := #[.val (.int p0), .val (.int p1), .val (.int p2), .val (.int p3), .val (.int p4), .val (.int (0 : Int32)), .val (.int y17), .val (.int y18), .val (.int y19), .val (.ref b24), .val (.int (0 : Int32)), .unset]) rfl ?_
      show Steps p.tables e below (T24.setTop (mkF m 207 #[.val (.int p0), .val (.int p1), .val (.int p2), .val (.int p3), .val (.int p4), .val (.int (0 : Int32)), .val (.int y17), .val (.int y18), .val (.int y19), .val (.ref b24), .val (.int (0 : Int32)), .unset] [])) _
      refine XS.iload X24.here hx rfl (hb hby at_207) rfl ?_
      show Steps p.tables e below (T24.setTop (mkF m 209 #[.val (.int p0), .val (.int p1), .val (.int p2), .val (.int p3), .val (.int p4), .val (.int (0 : Int32)), .val (.int y17), .val (.int y18), .val (.int y19), .val (.ref b24), .val (.int (0 : Int32)), .unset] [(.int (0 : Int32))])) _
      refine XS.ifYes X24.here hx rfl (pc0 := 209) (pc' := 216) rfl (hb hby at_209) rfl ((if0 _ _).trans (teq (by decide : (0 : Int32) = (0 : Int32))).1) (by decide) (by decide) ?_
      show Steps p.tables e below (T24.setTop (mkF m 216 #[.val (.int p0), .val (.int p1), .val (.int p2), .val (.int p3), .val (.int p4), .val (.int (0 : Int32)), .val (.int y17), .val (.int y18), .val (.int y19), .val (.ref b24), .val (.int (0 : Int32)), .unset] [])) _
      refine XS.iconst X24.here hx rfl (hb hby at_216) ?_
      show Steps p.tables e below (T24.setTop (mkF m 217 #[.val (.int p0), .val (.int p1), .val (.int p2), .val (.int p3), .val (.int p4), .val (.int (0 : Int32)), .val (.int y17), .val (.int y18), .val (.int y19), .val (.ref b24), .val (.int (0 : Int32)), .unset] [(.int (0 : Int32))])) _
      refine XS.istore X24.here hx rfl (hb hby at_217) rfl (l' := #[.val (.int p0), .val (.int p1), .val (.int p2), .val (.int p3), .val (.int p4), .val (.int (0 : Int32)), .val (.int y17), .val (.int y18), .val (.int y19), .val (.ref b24), .val (.int (0 : Int32)), .val (.int (0 : Int32))]) rfl ?_
      show Steps p.tables e below (T24.setTop (mkF m 219 #[.val (.int p0), .val (.int p1), .val (.int p2), .val (.int p3), .val (.int p4), .val (.int (0 : Int32)), .val (.int y17), .val (.int y18), .val (.int y19), .val (.ref b24), .val (.int (0 : Int32)), .val (.int (0 : Int32))] [])) _
      refine XS.aload X24.here hx rfl (hb hby at_219) rfl rfl ?_
      exact ht
    obtain ⟨_, _, ⟨T26, L26, kq26, n26⟩, -, X26, ⟨Lc26, hQ26, l26, y26, z26⟩, st26⟩ := Jvm.LawKit.callS X24 hx (y := (⟨"com/example/role_conflict_finder/roleconflictfinder/Utf8Text", "start", "([B)I"⟩ : MethodName)) hown (mvT hZ (hw _ (List.mem_of_getElem? (i := 1) rfl))) (mvT hZ (hw _ (List.mem_of_getElem? (i := 2) rfl))) (mvT hZ (hw _ (List.mem_of_getElem? (i := 3) rfl))) (mvT hZ (hw _ (List.mem_of_getElem? (i := 4) rfl))) (by decide) (backOf (W := 0) (rm_shorter l Z a0 hw [] b24 wM kc24 (0 : Int32) [] kM h24 n0 Z24 S_M_c_24 V_b24 V_M_c_24 (by decide : (0 : Int32) < (3 : Int32))) hZ (hw _ (List.mem_of_getElem? (i := 4) rfl)) (hw _ (List.mem_of_getElem? (i := 3) rfl)) (by decide) (by decide)) (g := (mkF m 221 #[.val (.int p0), .val (.int p1), .val (.int p2), .val (.int p3), .val (.int p4), .val (.int (0 : Int32)), .val (.int y17), .val (.int y18), .val (.int y19), .val (.ref b24), .val (.int (0 : Int32)), .val (.int (0 : Int32))] [(.ref b24)])) rfl (by rw [hml]; rfl) (argsL := [(.ref b24)]) (rest := []) (lenOf pd_0 rfl) rfl (by show 2 * 0 + _ ≤ _; exact Nat.le_of_eq rfl) (hb hby at_221) (fun _ _ => ⟨rfl, e24, (by decide : 1 + 0 ≤ _), (by decide : 0 + 0 ≤ _)⟩)
    dsimp only [Pt.U, Pt.locs, Pt.cells, Pt.slots] at X26 l26 y26 z26 st26 hQ26
    subst l26 y26 z26
    obtain ⟨rfl, N26q, eq26⟩ := hQ26
    have N26 := Fr.app N0 N26q
    have k26 : Go p.tables e below (T24.setTop (mkF m 221 #[.val (.int p0), .val (.int p1), .val (.int p2), .val (.int p3), .val (.int p4), .val (.int (0 : Int32)), .val (.int y17), .val (.int y18), .val (.int y19), .val (.ref b24), .val (.int (0 : Int32)), .val (.int (0 : Int32))] [(.ref b24)])) (T26.setTop (mkF m 224 #[.val (.int p0), .val (.int p1), .val (.int p2), .val (.int p3), .val (.int p4), .val (.int (0 : Int32)), .val (.int y17), .val (.int y18), .val (.int y19), .val (.ref b24), .val (.int (0 : Int32)), .val (.int (0 : Int32))] [(.int (0 : Int32))])) := st26
    have k27 : Go p.tables e below (T26.setTop (mkF m 224 #[.val (.int p0), .val (.int p1), .val (.int p2), .val (.int p3), .val (.int p4), .val (.int (0 : Int32)), .val (.int y17), .val (.int y18), .val (.int y19), .val (.ref b24), .val (.int (0 : Int32)), .val (.int (0 : Int32))] [(.int (0 : Int32))])) (T26.setTop (mkF m 234 #[.val (.int p0), .val (.int p1), .val (.int p2), .val (.int p3), .val (.int p4), .val (.int (0 : Int32)), .val (.int y17), .val (.int y18), .val (.int y19), .val (.ref b24), .val (.int (0 : Int32)), .val (.int (0 : Int32))] [(.int (1 : Int32))])) := by
      intro t ht
      refine XS.iload X26.here hx rfl (hb hby at_224) rfl ?_
      show Steps p.tables e below (T26.setTop (mkF m 226 #[.val (.int p0), .val (.int p1), .val (.int p2), .val (.int p3), .val (.int p4), .val (.int (0 : Int32)), .val (.int y17), .val (.int y18), .val (.int y19), .val (.ref b24), .val (.int (0 : Int32)), .val (.int (0 : Int32))] [(.int (0 : Int32)), (.int (0 : Int32))])) _
      refine XS.icmpNo X26.here hx rfl (hb hby at_226) rfl (teq (by decide : (0 : Int32) = (0 : Int32))).2 ?_
      show Steps p.tables e below (T26.setTop (mkF m 229 #[.val (.int p0), .val (.int p1), .val (.int p2), .val (.int p3), .val (.int p4), .val (.int (0 : Int32)), .val (.int y17), .val (.int y18), .val (.int y19), .val (.ref b24), .val (.int (0 : Int32)), .val (.int (0 : Int32))] [])) _
      refine XS.iconst X26.here hx rfl (hb hby at_229) ?_
      show Steps p.tables e below (T26.setTop (mkF m 230 #[.val (.int p0), .val (.int p1), .val (.int p2), .val (.int p3), .val (.int p4), .val (.int (0 : Int32)), .val (.int y17), .val (.int y18), .val (.int y19), .val (.ref b24), .val (.int (0 : Int32)), .val (.int (0 : Int32))] [(.int (1 : Int32))])) _
      refine XS.goto X26.here hx rfl (pc0 := 230) (pc' := 234) rfl (hb hby at_230) (by decide) (by decide) ?_
      exact ht
    obtain ⟨fs, hr, hrun, hended, hW, hsame⟩ := X26.leave (v := some (.int (1 : Int32))) (fun h => by rw [Bd.returns] at h; cases h)
    refine ⟨_, _, pre0 _ ((goT k1 (goT k2 (goT k6 (goT k7 (goT k11 (goT k12 (goT k16 (goT k20 (goT k22 (goT k23 (goT k24 (goT k25 (goT k26 k27))))))))))))) _ (retN X26 hx (t := .boolean) Bd.returns (by simp) (hb hby at_234) hr)), hrun, hended, _, _, rfl, ?_, ⟨_, rfl⟩, hW, hsame.mono (by decide) (by decide)⟩
    show Q_law Z p0 p1 p2 p3 p4 wM kM h0 n0 _ T26.heap _
    rw [eq26]
    exact ⟨rfl, N26⟩
  · have k28 : Go p.tables e below (s₁.setTop (mkF m 54 #[.val (.int p0), .val (.int p1), .val (.int p2), .val (.int p3), .val (.int p4), .val (.int (p0 &&& (7 : Int32))), .val (.int y17), .val (.int y18), .val (.int y19), .unset, .unset, .unset] [])) (s₁.setTop (mkF m 54 #[.val (.int p0), .val (.int p1), .val (.int p2), .val (.int p3), .val (.int p4), .val (.int (1 : Int32)), .val (.int y17), .val (.int y18), .val (.int y19), .unset, .unset, .unset] [])) := by rw [hk21]; exact fun _ h => h
    have k29 : Go p.tables e below (s₁.setTop (mkF m 54 #[.val (.int p0), .val (.int p1), .val (.int p2), .val (.int p3), .val (.int p4), .val (.int (1 : Int32)), .val (.int y17), .val (.int y18), .val (.int y19), .unset, .unset, .unset] [])) (s₁.setTop (mkF m 56 #[.val (.int p0), .val (.int p1), .val (.int p2), .val (.int p3), .val (.int p4), .val (.int (1 : Int32)), .val (.int y17), .val (.int y18), .val (.int y19), .unset, .unset, .unset] [(.int (1 : Int32))])) := by
      intro t ht
      refine XS.iload X0.here hx rfl (hb hby at_54) rfl ?_
      exact ht
    obtain ⟨T30, h30, kc30, X30, e30, E30, A30, st30⟩ := newP X0 hx hZ (hw _ (List.mem_of_getElem? (i := 0) rfl)) e0 (g := (mkF m 56 #[.val (.int p0), .val (.int p1), .val (.int p2), .val (.int p3), .val (.int p4), .val (.int (1 : Int32)), .val (.int y17), .val (.int y18), .val (.int y19), .unset, .unset, .unset] [(.int (1 : Int32))])) rfl (hb hby at_56) rfl (by decide) (cap := 1) (by decide) (by decide) (by decide) (by decide)
    obtain ⟨b30, g30⟩ : ∃ z, z = h0.size := ⟨_, rfl⟩
    rw [← g30] at A30 st30
    have g_b30 : n0 ≤ b30 := Nat.le_trans Z0 (Nat.le_of_eq g30.symm)
    have sz_b30 : h0.size ≤ b30 := Nat.le_trans (Keep.refl h0 []).1 (Nat.le_of_eq g30.symm)
    have ne_wM_b30 : wM ≠ b30 := Nat.ne_of_lt (Nat.lt_of_lt_of_le V_M.lt (Nat.le_of_eq g30.symm))
    have Kp30 : Keep h0 h30 [] := (Keep.refl h0 []).ext E30
    have Z30 : n0 ≤ h30.size := Nat.le_trans Z0 E30.1
    have S_M_c_30 := S_M.ext E30
    have V_M_c_30 := V_M.ext E30
    have V_b30 : Arv Z h30 b30 kc30 .byte (1 : Int32) [(.int (0 : Int32))] (.int (0 : Int32)) := (Arv.new A30 (by decide)).pad (pad_rep [] (.int (0 : Int32)) 1)
    have k30 : Go p.tables e below (s₁.setTop (mkF m 56 #[.val (.int p0), .val (.int p1), .val (.int p2), .val (.int p3), .val (.int p4), .val (.int (1 : Int32)), .val (.int y17), .val (.int y18), .val (.int y19), .unset, .unset, .unset] [(.int (1 : Int32))])) (T30.setTop (mkF m 58 #[.val (.int p0), .val (.int p1), .val (.int p2), .val (.int p3), .val (.int p4), .val (.int (1 : Int32)), .val (.int y17), .val (.int y18), .val (.int y19), .unset, .unset, .unset] [(.ref b30)])) := st30
    have k31 : Go p.tables e below (T30.setTop (mkF m 58 #[.val (.int p0), .val (.int p1), .val (.int p2), .val (.int p3), .val (.int p4), .val (.int (1 : Int32)), .val (.int y17), .val (.int y18), .val (.int y19), .unset, .unset, .unset] [(.ref b30)])) (T30.setTop (mkF m 70 #[.val (.int p0), .val (.int p1), .val (.int p2), .val (.int p3), .val (.int p4), .val (.int (1 : Int32)), .val (.int y17), .val (.int y18), .val (.int y19), .val (.ref b30), .unset, .unset] [(.int y17), (.int (0 : Int32)), (.ref b30)])) := by
      intro t ht
      refine XS.astore X30.here hx rfl (hb hby at_58) rfl rfl (l' := #[.val (.int p0), .val (.int p1), .val (.int p2), .val (.int p3), .val (.int p4), .val (.int (1 : Int32)), .val (.int y17), .val (.int y18), .val (.int y19), .val (.ref b30), .unset, .unset]) rfl ?_
      show Steps p.tables e below (T30.setTop (mkF m 60 #[.val (.int p0), .val (.int p1), .val (.int p2), .val (.int p3), .val (.int p4), .val (.int (1 : Int32)), .val (.int y17), .val (.int y18), .val (.int y19), .val (.ref b30), .unset, .unset] [])) _
      refine XS.iload X30.here hx rfl (hb hby at_60) rfl ?_
      show Steps p.tables e below (T30.setTop (mkF m 62 #[.val (.int p0), .val (.int p1), .val (.int p2), .val (.int p3), .val (.int p4), .val (.int (1 : Int32)), .val (.int y17), .val (.int y18), .val (.int y19), .val (.ref b30), .unset, .unset] [(.int (1 : Int32))])) _
      refine XS.ifNo X30.here hx rfl (hb hby at_62) rfl ((if0 _ _).trans (tlt (by decide : (0 : Int32) < (1 : Int32))).2.2.2) ?_
      show Steps p.tables e below (T30.setTop (mkF m 65 #[.val (.int p0), .val (.int p1), .val (.int p2), .val (.int p3), .val (.int p4), .val (.int (1 : Int32)), .val (.int y17), .val (.int y18), .val (.int y19), .val (.ref b30), .unset, .unset] [])) _
      refine XS.aload X30.here hx rfl (hb hby at_65) rfl rfl ?_
      show Steps p.tables e below (T30.setTop (mkF m 67 #[.val (.int p0), .val (.int p1), .val (.int p2), .val (.int p3), .val (.int p4), .val (.int (1 : Int32)), .val (.int y17), .val (.int y18), .val (.int y19), .val (.ref b30), .unset, .unset] [(.ref b30)])) _
      refine XS.iconst X30.here hx rfl (hb hby at_67) ?_
      show Steps p.tables e below (T30.setTop (mkF m 68 #[.val (.int p0), .val (.int p1), .val (.int p2), .val (.int p3), .val (.int p4), .val (.int (1 : Int32)), .val (.int y17), .val (.int y18), .val (.int y19), .val (.ref b30), .unset, .unset] [(.int (0 : Int32)), (.ref b30)])) _
      refine XS.iload X30.here hx rfl (hb hby at_68) rfl ?_
      exact ht
    obtain ⟨cl32, Ar32, q32, S32, M32, H32, G32⟩ := id V_b30
    have hin32 : ¬ ((0 : Int32) < 0 ∨ cl32.slots.size ≤ ((0 : Int32)).toNatClampNeg) := inb_of S32 ⟨by decide, by decide⟩
    obtain ⟨T32, h32, X32, e32, W32, st32⟩ := stB X30 hx hZ e30 Ar32 (j := (0 : Int32)) hin32 (g := (mkF m 70 #[.val (.int p0), .val (.int p1), .val (.int p2), .val (.int p3), .val (.int p4), .val (.int (1 : Int32)), .val (.int y17), .val (.int y18), .val (.int y19), .val (.ref b30), .unset, .unset] [(.int y17), (.int (0 : Int32)), (.ref b30)])) rfl rfl (hb hby at_70)
    have V32_b30 : Arv Z h32 b30 kc30 .byte (1 : Int32) [(.int (nar .byte y17))] (.int (0 : Int32)) := Arv.set Ar32 q32 S32 M32 H32 G32 (fits_nar_byte _) W32 0 rfl (Nat.le_of_ble_eq_true rfl)
    have Kp32 : Keep h0 h32 [] := Kp30.wr W32 (Or.inr sz_b30)
    have Z32 : n0 ≤ h32.size := Nat.le_trans Z30 (Keep.of_wr W32).1
    have S_M_c_32 := S_M_c_30.wr W32
    have V_M_c_32 := V_M_c_30.other W32 ne_wM_b30
    have k32 : Go p.tables e below (T30.setTop (mkF m 70 #[.val (.int p0), .val (.int p1), .val (.int p2), .val (.int p3), .val (.int p4), .val (.int (1 : Int32)), .val (.int y17), .val (.int y18), .val (.int y19), .val (.ref b30), .unset, .unset] [(.int y17), (.int (0 : Int32)), (.ref b30)])) (T32.setTop (mkF m 71 #[.val (.int p0), .val (.int p1), .val (.int p2), .val (.int p3), .val (.int p4), .val (.int (1 : Int32)), .val (.int y17), .val (.int y18), .val (.int y19), .val (.ref b30), .unset, .unset] [])) := st32
    have N32 := Fr.snoc X32 N0 g_b30
    have k33 : Go p.tables e below (T32.setTop (mkF m 71 #[.val (.int p0), .val (.int p1), .val (.int p2), .val (.int p3), .val (.int p4), .val (.int (1 : Int32)), .val (.int y17), .val (.int y18), .val (.int y19), .val (.ref b30), .unset, .unset] [])) (T32.setTop (mkF m 221 #[.val (.int p0), .val (.int p1), .val (.int p2), .val (.int p3), .val (.int p4), .val (.int (1 : Int32)), .val (.int y17), .val (.int y18), .val (.int y19), .val (.ref b30), .val (.int (0 : Int32)), .val (.int (0 : Int32))] [(.ref b30)])) := by
      intro t ht
      refine XS.iload X32.here hx rfl (hb hby at_71) rfl ?_
      show Steps p.tables e below (T32.setTop (mkF m 73 #[.val (.int p0), .val (.int p1), .val (.int p2), .val (.int p3), .val (.int p4), .val (.int (1 : Int32)), .val (.int y17), .val (.int y18), .val (.int y19), .val (.ref b30), .unset, .unset] [(.int (1 : Int32))])) _
      refine XS.iconst X32.here hx rfl (hb hby at_73) ?_
      show Steps p.tables e below (T32.setTop (mkF m 74 #[.val (.int p0), .val (.int p1), .val (.int p2), .val (.int p3), .val (.int p4), .val (.int (1 : Int32)), .val (.int y17), .val (.int y18), .val (.int y19), .val (.ref b30), .unset, .unset] [(.int (1 : Int32)), (.int (1 : Int32))])) _
      refine XS.icmpYes X32.here hx rfl (pc0 := 74) (pc' := 83) rfl (hb hby at_74) rfl (flt (by decide : ¬ ((1 : Int32) < (1 : Int32)))).2.2.2 (by decide) (by decide) ?_
      show Steps p.tables e below (T32.setTop (mkF m 83 #[.val (.int p0), .val (.int p1), .val (.int p2), .val (.int p3), .val (.int p4), .val (.int (1 : Int32)), .val (.int y17), .val (.int y18), .val (.int y19), .val (.ref b30), .unset, .unset] [])) _
      refine XS.iload X32.here hx rfl (hb hby at_83) rfl ?_
      show Steps p.tables e below (T32.setTop (mkF m 85 #[.val (.int p0), .val (.int p1), .val (.int p2), .val (.int p3), .val (.int p4), .val (.int (1 : Int32)), .val (.int y17), .val (.int y18), .val (.int y19), .val (.ref b30), .unset, .unset] [(.int (1 : Int32))])) _
      refine XS.iconst X32.here hx rfl (hb hby at_85) ?_
      show Steps p.tables e below (T32.setTop (mkF m 86 #[.val (.int p0), .val (.int p1), .val (.int p2), .val (.int p3), .val (.int p4), .val (.int (1 : Int32)), .val (.int y17), .val (.int y18), .val (.int y19), .val (.ref b30), .unset, .unset] [(.int (2 : Int32)), (.int (1 : Int32))])) _
      refine XS.icmpYes X32.here hx rfl (pc0 := 86) (pc' := 95) rfl (hb hby at_86) rfl (flt (by decide : ¬ ((2 : Int32) < (1 : Int32)))).2.2.2 (by decide) (by decide) ?_
      show Steps p.tables e below (T32.setTop (mkF m 95 #[.val (.int p0), .val (.int p1), .val (.int p2), .val (.int p3), .val (.int p4), .val (.int (1 : Int32)), .val (.int y17), .val (.int y18), .val (.int y19), .val (.ref b30), .unset, .unset] [])) _
      refine XS.iload X32.here hx rfl (hb hby at_95) rfl ?_
      show Steps p.tables e below (T32.setTop (mkF m 97 #[.val (.int p0), .val (.int p1), .val (.int p2), .val (.int p3), .val (.int p4), .val (.int (1 : Int32)), .val (.int y17), .val (.int y18), .val (.int y19), .val (.ref b30), .unset, .unset] [(.int (1 : Int32))])) _
      refine XS.iconst X32.here hx rfl (hb hby at_97) ?_
      show Steps p.tables e below (T32.setTop (mkF m 98 #[.val (.int p0), .val (.int p1), .val (.int p2), .val (.int p3), .val (.int p4), .val (.int (1 : Int32)), .val (.int y17), .val (.int y18), .val (.int y19), .val (.ref b30), .unset, .unset] [(.int (3 : Int32)), (.int (1 : Int32))])) _
      refine XS.icmpYes X32.here hx rfl (pc0 := 98) (pc' := 110) rfl (hb hby at_98) rfl (flt (by decide : ¬ ((3 : Int32) < (1 : Int32)))).2.2.2 (by decide) (by decide) ?_
      show Steps p.tables e below (T32.setTop (mkF m 110 #[.val (.int p0), .val (.int p1), .val (.int p2), .val (.int p3), .val (.int p4), .val (.int (1 : Int32)), .val (.int y17), .val (.int y18), .val (.int y19), .val (.ref b30), .unset, .unset] [])) _
      refine XS.iload X32.here hx rfl (hb hby at_110) rfl ?_
      show Steps p.tables e below (T32.setTop (mkF m 112 #[.val (.int p0), .val (.int p1), .val (.int p2), .val (.int p3), .val (.int p4), .val (.int (1 : Int32)), .val (.int y17), .val (.int y18), .val (.int y19), .val (.ref b30), .unset, .unset] [(.int (1 : Int32))])) _
      refine XS.iconst X32.here hx rfl (hb hby at_112) ?_
      show Steps p.tables e below (T32.setTop (mkF m 113 #[.val (.int p0), .val (.int p1), .val (.int p2), .val (.int p3), .val (.int p4), .val (.int (1 : Int32)), .val (.int y17), .val (.int y18), .val (.int y19), .val (.ref b30), .unset, .unset] [(.int (4 : Int32)), (.int (1 : Int32))])) _
      refine XS.icmpYes X32.here hx rfl (pc0 := 113) (pc' := 125) rfl (hb hby at_113) rfl (flt (by decide : ¬ ((4 : Int32) < (1 : Int32)))).2.2.2 (by decide) (by decide) ?_
      show Steps p.tables e below (T32.setTop (mkF m 125 #[.val (.int p0), .val (.int p1), .val (.int p2), .val (.int p3), .val (.int p4), .val (.int (1 : Int32)), .val (.int y17), .val (.int y18), .val (.int y19), .val (.ref b30), .unset, .unset] [])) _
      refine XS.iload X32.here hx rfl (hb hby at_125) rfl ?_
      show Steps p.tables e below (T32.setTop (mkF m 127 #[.val (.int p0), .val (.int p1), .val (.int p2), .val (.int p3), .val (.int p4), .val (.int (1 : Int32)), .val (.int y17), .val (.int y18), .val (.int y19), .val (.ref b30), .unset, .unset] [(.int (1 : Int32))])) _
      refine XS.iconst X32.here hx rfl (hb hby at_127) ?_
      show Steps p.tables e below (T32.setTop (mkF m 128 #[.val (.int p0), .val (.int p1), .val (.int p2), .val (.int p3), .val (.int p4), .val (.int (1 : Int32)), .val (.int y17), .val (.int y18), .val (.int y19), .val (.ref b30), .unset, .unset] [(.int (5 : Int32)), (.int (1 : Int32))])) _
      refine XS.icmpYes X32.here hx rfl (pc0 := 128) (pc' := 140) rfl (hb hby at_128) rfl (flt (by decide : ¬ ((5 : Int32) < (1 : Int32)))).2.2.2 (by decide) (by decide) ?_
      show Steps p.tables e below (T32.setTop (mkF m 140 #[.val (.int p0), .val (.int p1), .val (.int p2), .val (.int p3), .val (.int p4), .val (.int (1 : Int32)), .val (.int y17), .val (.int y18), .val (.int y19), .val (.ref b30), .unset, .unset] [])) _
      refine XS.iload X32.here hx rfl (hb hby at_140) rfl ?_
      show Steps p.tables e below (T32.setTop (mkF m 142 #[.val (.int p0), .val (.int p1), .val (.int p2), .val (.int p3), .val (.int p4), .val (.int (1 : Int32)), .val (.int y17), .val (.int y18), .val (.int y19), .val (.ref b30), .unset, .unset] [(.int (1 : Int32))])) _
      refine XS.bipush X32.here hx rfl (hb hby at_142) ?_
      show Steps p.tables e below (T32.setTop (mkF m 144 #[.val (.int p0), .val (.int p1), .val (.int p2), .val (.int p3), .val (.int p4), .val (.int (1 : Int32)), .val (.int y17), .val (.int y18), .val (.int y19), .val (.ref b30), .unset, .unset] [(.int (6 : Int32)), (.int (1 : Int32))])) _
      refine XS.icmpYes X32.here hx rfl (pc0 := 144) (pc' := 158) rfl (hb hby at_144) rfl (flt (by decide : ¬ ((6 : Int32) < (1 : Int32)))).2.2.2 (by decide) (by decide) ?_
      show Steps p.tables e below (T32.setTop (mkF m 158 #[.val (.int p0), .val (.int p1), .val (.int p2), .val (.int p3), .val (.int p4), .val (.int (1 : Int32)), .val (.int y17), .val (.int y18), .val (.int y19), .val (.ref b30), .unset, .unset] [])) _
      refine XS.iload X32.here hx rfl (hb hby at_158) rfl ?_
      show Steps p.tables e below (T32.setTop (mkF m 160 #[.val (.int p0), .val (.int p1), .val (.int p2), .val (.int p3), .val (.int p4), .val (.int (1 : Int32)), .val (.int y17), .val (.int y18), .val (.int y19), .val (.ref b30), .unset, .unset] [(.int (1 : Int32))])) _
      refine XS.iconst X32.here hx rfl (hb hby at_160) ?_
      show Steps p.tables e below (T32.setTop (mkF m 161 #[.val (.int p0), .val (.int p1), .val (.int p2), .val (.int p3), .val (.int p4), .val (.int (1 : Int32)), .val (.int y17), .val (.int y18), .val (.int y19), .val (.ref b30), .unset, .unset] [(.int (3 : Int32)), (.int (1 : Int32))])) _
      refine XS.icmpYes X32.here hx rfl (pc0 := 161) (pc' := 204) rfl (hb hby at_161) rfl (tlt (by decide : (1 : Int32) < (3 : Int32))).1 (by decide) (by decide) ?_
      show Steps p.tables e below (T32.setTop (mkF m 204 #[.val (.int p0), .val (.int p1), .val (.int p2), .val (.int p3), .val (.int p4), .val (.int (1 : Int32)), .val (.int y17), .val (.int y18), .val (.int y19), .val (.ref b30), .unset, .unset] [])) _
      refine XS.iconst X32.here hx rfl (hb hby at_204) ?_
      show Steps p.tables e below (T32.setTop (mkF m 205 #[.val (.int p0), .val (.int p1), .val (.int p2), .val (.int p3), .val (.int p4), .val (.int (1 : Int32)), .val (.int y17), .val (.int y18), .val (.int y19), .val (.ref b30), .unset, .unset] [(.int (0 : Int32))])) _
      refine XS.istore X32.here hx rfl (hb hby at_205) rfl (l' := #[.val (.int p0), .val (.int p1), .val (.int p2), .val (.int p3), .val (.int p4), .val (.int (1 : Int32)), .val (.int y17), .val (.int y18), .val (.int y19), .val (.ref b30), .val (.int (0 : Int32)), .unset]) rfl ?_
      show Steps p.tables e below (T32.setTop (mkF m 207 #[.val (.int p0), .val (.int p1), .val (.int p2), .val (.int p3), .val (.int p4), .val (.int (1 : Int32)), .val (.int y17), .val (.int y18), .val (.int y19), .val (.ref b30), .val (.int (0 : Int32)), .unset] [])) _
      refine XS.iload X32.here hx rfl (hb hby at_207) rfl ?_
      show Steps p.tables e below (T32.setTop (mkF m 209 #[.val (.int p0), .val (.int p1), .val (.int p2), .val (.int p3), .val (.int p4), .val (.int (1 : Int32)), .val (.int y17), .val (.int y18), .val (.int y19), .val (.ref b30), .val (.int (0 : Int32)), .unset] [(.int (0 : Int32))])) _
      refine XS.ifYes X32.here hx rfl (pc0 := 209) (pc' := 216) rfl (hb hby at_209) rfl ((if0 _ _).trans (teq (by decide : (0 : Int32) = (0 : Int32))).1) (by decide) (by decide) ?_
      show Steps p.tables e below (T32.setTop (mkF m 216 #[.val (.int p0), .val (.int p1), .val (.int p2), .val (.int p3), .val (.int p4), .val (.int (1 : Int32)), .val (.int y17), .val (.int y18), .val (.int y19), .val (.ref b30), .val (.int (0 : Int32)), .unset] [])) _
      refine XS.iconst X32.here hx rfl (hb hby at_216) ?_
      show Steps p.tables e below (T32.setTop (mkF m 217 #[.val (.int p0), .val (.int p1), .val (.int p2), .val (.int p3), .val (.int p4), .val (.int (1 : Int32)), .val (.int y17), .val (.int y18), .val (.int y19), .val (.ref b30), .val (.int (0 : Int32)), .unset] [(.int (0 : Int32))])) _
      refine XS.istore X32.here hx rfl (hb hby at_217) rfl (l' := #[.val (.int p0), .val (.int p1), .val (.int p2), .val (.int p3), .val (.int p4), .val (.int (1 : Int32)), .val (.int y17), .val (.int y18), .val (.int y19), .val (.ref b30), .val (.int (0 : Int32)), .val (.int (0 : Int32))]) rfl ?_
      show Steps p.tables e below (T32.setTop (mkF m 219 #[.val (.int p0), .val (.int p1), .val (.int p2), .val (.int p3), .val (.int p4), .val (.int (1 : Int32)), .val (.int y17), .val (.int y18), .val (.int y19), .val (.ref b30), .val (.int (0 : Int32)), .val (.int (0 : Int32))] [])) _
      refine XS.aload X32.here hx rfl (hb hby at_219) rfl rfl ?_
      exact ht
    obtain ⟨_, _, ⟨T34, L34, kq34, n34⟩, -, X34, ⟨Lc34, hQ34, l34, y34, z34⟩, st34⟩ := Jvm.LawKit.callS X32 hx (y := (⟨"com/example/role_conflict_finder/roleconflictfinder/Utf8Text", "start", "([B)I"⟩ : MethodName)) hown (mvT hZ (hw _ (List.mem_of_getElem? (i := 1) rfl))) (mvT hZ (hw _ (List.mem_of_getElem? (i := 2) rfl))) (mvT hZ (hw _ (List.mem_of_getElem? (i := 3) rfl))) (mvT hZ (hw _ (List.mem_of_getElem? (i := 4) rfl))) (by decide) (backOf (W := 0) (rm_shorter l Z a0 hw [] b30 wM kc30 (1 : Int32) [(.int (nar .byte y17))] kM h32 n0 Z32 S_M_c_32 V32_b30 V_M_c_32 (by decide : (1 : Int32) < (3 : Int32))) hZ (hw _ (List.mem_of_getElem? (i := 4) rfl)) (hw _ (List.mem_of_getElem? (i := 3) rfl)) (by decide) (by decide)) (g := (mkF m 221 #[.val (.int p0), .val (.int p1), .val (.int p2), .val (.int p3), .val (.int p4), .val (.int (1 : Int32)), .val (.int y17), .val (.int y18), .val (.int y19), .val (.ref b30), .val (.int (0 : Int32)), .val (.int (0 : Int32))] [(.ref b30)])) rfl (by rw [hml]; rfl) (argsL := [(.ref b30)]) (rest := []) (lenOf pd_0 rfl) rfl (by show 2 * 0 + _ ≤ _; exact Nat.le_of_eq rfl) (hb hby at_221) (fun _ _ => ⟨rfl, e32, (by decide : 1 + 0 ≤ _), (by decide : 1 + 0 ≤ _)⟩)
    dsimp only [Pt.U, Pt.locs, Pt.cells, Pt.slots] at X34 l34 y34 z34 st34 hQ34
    subst l34 y34 z34
    obtain ⟨rfl, N34q, eq34⟩ := hQ34
    have N34 := Fr.app N32 N34q
    have k34 : Go p.tables e below (T32.setTop (mkF m 221 #[.val (.int p0), .val (.int p1), .val (.int p2), .val (.int p3), .val (.int p4), .val (.int (1 : Int32)), .val (.int y17), .val (.int y18), .val (.int y19), .val (.ref b30), .val (.int (0 : Int32)), .val (.int (0 : Int32))] [(.ref b30)])) (T34.setTop (mkF m 224 #[.val (.int p0), .val (.int p1), .val (.int p2), .val (.int p3), .val (.int p4), .val (.int (1 : Int32)), .val (.int y17), .val (.int y18), .val (.int y19), .val (.ref b30), .val (.int (0 : Int32)), .val (.int (0 : Int32))] [(.int (0 : Int32))])) := st34
    have k35 : Go p.tables e below (T34.setTop (mkF m 224 #[.val (.int p0), .val (.int p1), .val (.int p2), .val (.int p3), .val (.int p4), .val (.int (1 : Int32)), .val (.int y17), .val (.int y18), .val (.int y19), .val (.ref b30), .val (.int (0 : Int32)), .val (.int (0 : Int32))] [(.int (0 : Int32))])) (T34.setTop (mkF m 234 #[.val (.int p0), .val (.int p1), .val (.int p2), .val (.int p3), .val (.int p4), .val (.int (1 : Int32)), .val (.int y17), .val (.int y18), .val (.int y19), .val (.ref b30), .val (.int (0 : Int32)), .val (.int (0 : Int32))] [(.int (1 : Int32))])) := by
      intro t ht
      refine XS.iload X34.here hx rfl (hb hby at_224) rfl ?_
      show Steps p.tables e below (T34.setTop (mkF m 226 #[.val (.int p0), .val (.int p1), .val (.int p2), .val (.int p3), .val (.int p4), .val (.int (1 : Int32)), .val (.int y17), .val (.int y18), .val (.int y19), .val (.ref b30), .val (.int (0 : Int32)), .val (.int (0 : Int32))] [(.int (0 : Int32)), (.int (0 : Int32))])) _
      refine XS.icmpNo X34.here hx rfl (hb hby at_226) rfl (teq (by decide : (0 : Int32) = (0 : Int32))).2 ?_
      show Steps p.tables e below (T34.setTop (mkF m 229 #[.val (.int p0), .val (.int p1), .val (.int p2), .val (.int p3), .val (.int p4), .val (.int (1 : Int32)), .val (.int y17), .val (.int y18), .val (.int y19), .val (.ref b30), .val (.int (0 : Int32)), .val (.int (0 : Int32))] [])) _
      refine XS.iconst X34.here hx rfl (hb hby at_229) ?_
      show Steps p.tables e below (T34.setTop (mkF m 230 #[.val (.int p0), .val (.int p1), .val (.int p2), .val (.int p3), .val (.int p4), .val (.int (1 : Int32)), .val (.int y17), .val (.int y18), .val (.int y19), .val (.ref b30), .val (.int (0 : Int32)), .val (.int (0 : Int32))] [(.int (1 : Int32))])) _
      refine XS.goto X34.here hx rfl (pc0 := 230) (pc' := 234) rfl (hb hby at_230) (by decide) (by decide) ?_
      exact ht
    obtain ⟨fs, hr, hrun, hended, hW, hsame⟩ := X34.leave (v := some (.int (1 : Int32))) (fun h => by rw [Bd.returns] at h; cases h)
    refine ⟨_, _, pre0 _ ((goT k1 (goT k2 (goT k6 (goT k7 (goT k11 (goT k12 (goT k16 (goT k20 (goT k28 (goT k29 (goT k30 (goT k31 (goT k32 (goT k33 (goT k34 k35))))))))))))))) _ (retN X34 hx (t := .boolean) Bd.returns (by simp) (hb hby at_234) hr)), hrun, hended, _, _, rfl, ?_, ⟨_, rfl⟩, hW, hsame.mono (by decide) (by decide)⟩
    show Q_law Z p0 p1 p2 p3 p4 wM kM h0 n0 _ T34.heap _
    rw [eq34]
    exact ⟨rfl, N34⟩
  · have k36 : Go p.tables e below (s₁.setTop (mkF m 54 #[.val (.int p0), .val (.int p1), .val (.int p2), .val (.int p3), .val (.int p4), .val (.int (p0 &&& (7 : Int32))), .val (.int y17), .val (.int y18), .val (.int y19), .unset, .unset, .unset] [])) (s₁.setTop (mkF m 54 #[.val (.int p0), .val (.int p1), .val (.int p2), .val (.int p3), .val (.int p4), .val (.int (2 : Int32)), .val (.int y17), .val (.int y18), .val (.int y19), .unset, .unset, .unset] [])) := by rw [hk21]; exact fun _ h => h
    have k37 : Go p.tables e below (s₁.setTop (mkF m 54 #[.val (.int p0), .val (.int p1), .val (.int p2), .val (.int p3), .val (.int p4), .val (.int (2 : Int32)), .val (.int y17), .val (.int y18), .val (.int y19), .unset, .unset, .unset] [])) (s₁.setTop (mkF m 56 #[.val (.int p0), .val (.int p1), .val (.int p2), .val (.int p3), .val (.int p4), .val (.int (2 : Int32)), .val (.int y17), .val (.int y18), .val (.int y19), .unset, .unset, .unset] [(.int (2 : Int32))])) := by
      intro t ht
      refine XS.iload X0.here hx rfl (hb hby at_54) rfl ?_
      exact ht
    obtain ⟨T38, h38, kc38, X38, e38, E38, A38, st38⟩ := newP X0 hx hZ (hw _ (List.mem_of_getElem? (i := 0) rfl)) e0 (g := (mkF m 56 #[.val (.int p0), .val (.int p1), .val (.int p2), .val (.int p3), .val (.int p4), .val (.int (2 : Int32)), .val (.int y17), .val (.int y18), .val (.int y19), .unset, .unset, .unset] [(.int (2 : Int32))])) rfl (hb hby at_56) rfl (by decide) (cap := 2) (by decide) (by decide) (by decide) (by decide)
    obtain ⟨b38, g38⟩ : ∃ z, z = h0.size := ⟨_, rfl⟩
    rw [← g38] at A38 st38
    have g_b38 : n0 ≤ b38 := Nat.le_trans Z0 (Nat.le_of_eq g38.symm)
    have sz_b38 : h0.size ≤ b38 := Nat.le_trans (Keep.refl h0 []).1 (Nat.le_of_eq g38.symm)
    have ne_wM_b38 : wM ≠ b38 := Nat.ne_of_lt (Nat.lt_of_lt_of_le V_M.lt (Nat.le_of_eq g38.symm))
    have Kp38 : Keep h0 h38 [] := (Keep.refl h0 []).ext E38
    have Z38 : n0 ≤ h38.size := Nat.le_trans Z0 E38.1
    have S_M_c_38 := S_M.ext E38
    have V_M_c_38 := V_M.ext E38
    have V_b38 : Arv Z h38 b38 kc38 .byte (2 : Int32) [(.int (0 : Int32)), (.int (0 : Int32))] (.int (0 : Int32)) := (Arv.new A38 (by decide)).pad (pad_rep [] (.int (0 : Int32)) 2)
    have k38 : Go p.tables e below (s₁.setTop (mkF m 56 #[.val (.int p0), .val (.int p1), .val (.int p2), .val (.int p3), .val (.int p4), .val (.int (2 : Int32)), .val (.int y17), .val (.int y18), .val (.int y19), .unset, .unset, .unset] [(.int (2 : Int32))])) (T38.setTop (mkF m 58 #[.val (.int p0), .val (.int p1), .val (.int p2), .val (.int p3), .val (.int p4), .val (.int (2 : Int32)), .val (.int y17), .val (.int y18), .val (.int y19), .unset, .unset, .unset] [(.ref b38)])) := st38
    have k39 : Go p.tables e below (T38.setTop (mkF m 58 #[.val (.int p0), .val (.int p1), .val (.int p2), .val (.int p3), .val (.int p4), .val (.int (2 : Int32)), .val (.int y17), .val (.int y18), .val (.int y19), .unset, .unset, .unset] [(.ref b38)])) (T38.setTop (mkF m 70 #[.val (.int p0), .val (.int p1), .val (.int p2), .val (.int p3), .val (.int p4), .val (.int (2 : Int32)), .val (.int y17), .val (.int y18), .val (.int y19), .val (.ref b38), .unset, .unset] [(.int y17), (.int (0 : Int32)), (.ref b38)])) := by
      intro t ht
      refine XS.astore X38.here hx rfl (hb hby at_58) rfl rfl (l' := #[.val (.int p0), .val (.int p1), .val (.int p2), .val (.int p3), .val (.int p4), .val (.int (2 : Int32)), .val (.int y17), .val (.int y18), .val (.int y19), .val (.ref b38), .unset, .unset]) rfl ?_
      show Steps p.tables e below (T38.setTop (mkF m 60 #[.val (.int p0), .val (.int p1), .val (.int p2), .val (.int p3), .val (.int p4), .val (.int (2 : Int32)), .val (.int y17), .val (.int y18), .val (.int y19), .val (.ref b38), .unset, .unset] [])) _
      refine XS.iload X38.here hx rfl (hb hby at_60) rfl ?_
      show Steps p.tables e below (T38.setTop (mkF m 62 #[.val (.int p0), .val (.int p1), .val (.int p2), .val (.int p3), .val (.int p4), .val (.int (2 : Int32)), .val (.int y17), .val (.int y18), .val (.int y19), .val (.ref b38), .unset, .unset] [(.int (2 : Int32))])) _
      refine XS.ifNo X38.here hx rfl (hb hby at_62) rfl ((if0 _ _).trans (tlt (by decide : (0 : Int32) < (2 : Int32))).2.2.2) ?_
      show Steps p.tables e below (T38.setTop (mkF m 65 #[.val (.int p0), .val (.int p1), .val (.int p2), .val (.int p3), .val (.int p4), .val (.int (2 : Int32)), .val (.int y17), .val (.int y18), .val (.int y19), .val (.ref b38), .unset, .unset] [])) _
      refine XS.aload X38.here hx rfl (hb hby at_65) rfl rfl ?_
      show Steps p.tables e below (T38.setTop (mkF m 67 #[.val (.int p0), .val (.int p1), .val (.int p2), .val (.int p3), .val (.int p4), .val (.int (2 : Int32)), .val (.int y17), .val (.int y18), .val (.int y19), .val (.ref b38), .unset, .unset] [(.ref b38)])) _
      refine XS.iconst X38.here hx rfl (hb hby at_67) ?_
      show Steps p.tables e below (T38.setTop (mkF m 68 #[.val (.int p0), .val (.int p1), .val (.int p2), .val (.int p3), .val (.int p4), .val (.int (2 : Int32)), .val (.int y17), .val (.int y18), .val (.int y19), .val (.ref b38), .unset, .unset] [(.int (0 : Int32)), (.ref b38)])) _
      refine XS.iload X38.here hx rfl (hb hby at_68) rfl ?_
      exact ht
    obtain ⟨cl40, Ar40, q40, S40, M40, H40, G40⟩ := id V_b38
    have hin40 : ¬ ((0 : Int32) < 0 ∨ cl40.slots.size ≤ ((0 : Int32)).toNatClampNeg) := inb_of S40 ⟨by decide, by decide⟩
    obtain ⟨T40, h40, X40, e40, W40, st40⟩ := stB X38 hx hZ e38 Ar40 (j := (0 : Int32)) hin40 (g := (mkF m 70 #[.val (.int p0), .val (.int p1), .val (.int p2), .val (.int p3), .val (.int p4), .val (.int (2 : Int32)), .val (.int y17), .val (.int y18), .val (.int y19), .val (.ref b38), .unset, .unset] [(.int y17), (.int (0 : Int32)), (.ref b38)])) rfl rfl (hb hby at_70)
    have V40_b38 : Arv Z h40 b38 kc38 .byte (2 : Int32) [(.int (nar .byte y17)), (.int (0 : Int32))] (.int (0 : Int32)) := Arv.set Ar40 q40 S40 M40 H40 G40 (fits_nar_byte _) W40 0 rfl (Nat.le_of_ble_eq_true rfl)
    have Kp40 : Keep h0 h40 [] := Kp38.wr W40 (Or.inr sz_b38)
    have Z40 : n0 ≤ h40.size := Nat.le_trans Z38 (Keep.of_wr W40).1
    have S_M_c_40 := S_M_c_38.wr W40
    have V_M_c_40 := V_M_c_38.other W40 ne_wM_b38
    have k40 : Go p.tables e below (T38.setTop (mkF m 70 #[.val (.int p0), .val (.int p1), .val (.int p2), .val (.int p3), .val (.int p4), .val (.int (2 : Int32)), .val (.int y17), .val (.int y18), .val (.int y19), .val (.ref b38), .unset, .unset] [(.int y17), (.int (0 : Int32)), (.ref b38)])) (T40.setTop (mkF m 71 #[.val (.int p0), .val (.int p1), .val (.int p2), .val (.int p3), .val (.int p4), .val (.int (2 : Int32)), .val (.int y17), .val (.int y18), .val (.int y19), .val (.ref b38), .unset, .unset] [])) := st40
    have N40 := Fr.snoc X40 N0 g_b38
    have k41 : Go p.tables e below (T40.setTop (mkF m 71 #[.val (.int p0), .val (.int p1), .val (.int p2), .val (.int p3), .val (.int p4), .val (.int (2 : Int32)), .val (.int y17), .val (.int y18), .val (.int y19), .val (.ref b38), .unset, .unset] [])) (T40.setTop (mkF m 82 #[.val (.int p0), .val (.int p1), .val (.int p2), .val (.int p3), .val (.int p4), .val (.int (2 : Int32)), .val (.int y17), .val (.int y18), .val (.int y19), .val (.ref b38), .unset, .unset] [(.int y18), (.int (1 : Int32)), (.ref b38)])) := by
      intro t ht
      refine XS.iload X40.here hx rfl (hb hby at_71) rfl ?_
      show Steps p.tables e below (T40.setTop (mkF m 73 #[.val (.int p0), .val (.int p1), .val (.int p2), .val (.int p3), .val (.int p4), .val (.int (2 : Int32)), .val (.int y17), .val (.int y18), .val (.int y19), .val (.ref b38), .unset, .unset] [(.int (2 : Int32))])) _
      refine XS.iconst X40.here hx rfl (hb hby at_73) ?_
      show Steps p.tables e below (T40.setTop (mkF m 74 #[.val (.int p0), .val (.int p1), .val (.int p2), .val (.int p3), .val (.int p4), .val (.int (2 : Int32)), .val (.int y17), .val (.int y18), .val (.int y19), .val (.ref b38), .unset, .unset] [(.int (1 : Int32)), (.int (2 : Int32))])) _
      refine XS.icmpNo X40.here hx rfl (hb hby at_74) rfl (tlt (by decide : (1 : Int32) < (2 : Int32))).2.2.2 ?_
      show Steps p.tables e below (T40.setTop (mkF m 77 #[.val (.int p0), .val (.int p1), .val (.int p2), .val (.int p3), .val (.int p4), .val (.int (2 : Int32)), .val (.int y17), .val (.int y18), .val (.int y19), .val (.ref b38), .unset, .unset] [])) _
      refine XS.aload X40.here hx rfl (hb hby at_77) rfl rfl ?_
      show Steps p.tables e below (T40.setTop (mkF m 79 #[.val (.int p0), .val (.int p1), .val (.int p2), .val (.int p3), .val (.int p4), .val (.int (2 : Int32)), .val (.int y17), .val (.int y18), .val (.int y19), .val (.ref b38), .unset, .unset] [(.ref b38)])) _
      refine XS.iconst X40.here hx rfl (hb hby at_79) ?_
      show Steps p.tables e below (T40.setTop (mkF m 80 #[.val (.int p0), .val (.int p1), .val (.int p2), .val (.int p3), .val (.int p4), .val (.int (2 : Int32)), .val (.int y17), .val (.int y18), .val (.int y19), .val (.ref b38), .unset, .unset] [(.int (1 : Int32)), (.ref b38)])) _
      refine XS.iload X40.here hx rfl (hb hby at_80) rfl ?_
      exact ht
    obtain ⟨cl42, Ar42, q42, S42, M42, H42, G42⟩ := id V40_b38
    have hin42 : ¬ ((1 : Int32) < 0 ∨ cl42.slots.size ≤ ((1 : Int32)).toNatClampNeg) := inb_of S42 ⟨by decide, by decide⟩
    obtain ⟨T42, h42, X42, e42, W42, st42⟩ := stB X40 hx hZ e40 Ar42 (j := (1 : Int32)) hin42 (g := (mkF m 82 #[.val (.int p0), .val (.int p1), .val (.int p2), .val (.int p3), .val (.int p4), .val (.int (2 : Int32)), .val (.int y17), .val (.int y18), .val (.int y19), .val (.ref b38), .unset, .unset] [(.int y18), (.int (1 : Int32)), (.ref b38)])) rfl rfl (hb hby at_82)
    have V42_b38 : Arv Z h42 b38 kc38 .byte (2 : Int32) [(.int (nar .byte y17)), (.int (nar .byte y18))] (.int (0 : Int32)) := Arv.set Ar42 q42 S42 M42 H42 G42 (fits_nar_byte _) W42 1 rfl (Nat.le_of_ble_eq_true rfl)
    have Kp42 : Keep h0 h42 [] := Kp40.wr W42 (Or.inr sz_b38)
    have Z42 : n0 ≤ h42.size := Nat.le_trans Z40 (Keep.of_wr W42).1
    have S_M_c_42 := S_M_c_40.wr W42
    have V_M_c_42 := V_M_c_40.other W42 ne_wM_b38
    have k42 : Go p.tables e below (T40.setTop (mkF m 82 #[.val (.int p0), .val (.int p1), .val (.int p2), .val (.int p3), .val (.int p4), .val (.int (2 : Int32)), .val (.int y17), .val (.int y18), .val (.int y19), .val (.ref b38), .unset, .unset] [(.int y18), (.int (1 : Int32)), (.ref b38)])) (T42.setTop (mkF m 83 #[.val (.int p0), .val (.int p1), .val (.int p2), .val (.int p3), .val (.int p4), .val (.int (2 : Int32)), .val (.int y17), .val (.int y18), .val (.int y19), .val (.ref b38), .unset, .unset] [])) := st42
    have N42 := Fr.snoc X42 N40 g_b38
    have k43 : Go p.tables e below (T42.setTop (mkF m 83 #[.val (.int p0), .val (.int p1), .val (.int p2), .val (.int p3), .val (.int p4), .val (.int (2 : Int32)), .val (.int y17), .val (.int y18), .val (.int y19), .val (.ref b38), .unset, .unset] [])) (T42.setTop (mkF m 221 #[.val (.int p0), .val (.int p1), .val (.int p2), .val (.int p3), .val (.int p4), .val (.int (2 : Int32)), .val (.int y17), .val (.int y18), .val (.int y19), .val (.ref b38), .val (.int (0 : Int32)), .val (.int (0 : Int32))] [(.ref b38)])) := by
      intro t ht
      refine XS.iload X42.here hx rfl (hb hby at_83) rfl ?_
      show Steps p.tables e below (T42.setTop (mkF m 85 #[.val (.int p0), .val (.int p1), .val (.int p2), .val (.int p3), .val (.int p4), .val (.int (2 : Int32)), .val (.int y17), .val (.int y18), .val (.int y19), .val (.ref b38), .unset, .unset] [(.int (2 : Int32))])) _
      refine XS.iconst X42.here hx rfl (hb hby at_85) ?_
      show Steps p.tables e below (T42.setTop (mkF m 86 #[.val (.int p0), .val (.int p1), .val (.int p2), .val (.int p3), .val (.int p4), .val (.int (2 : Int32)), .val (.int y17), .val (.int y18), .val (.int y19), .val (.ref b38), .unset, .unset] [(.int (2 : Int32)), (.int (2 : Int32))])) _
      refine XS.icmpYes X42.here hx rfl (pc0 := 86) (pc' := 95) rfl (hb hby at_86) rfl (flt (by decide : ¬ ((2 : Int32) < (2 : Int32)))).2.2.2 (by decide) (by decide) ?_
      show Steps p.tables e below (T42.setTop (mkF m 95 #[.val (.int p0), .val (.int p1), .val (.int p2), .val (.int p3), .val (.int p4), .val (.int (2 : Int32)), .val (.int y17), .val (.int y18), .val (.int y19), .val (.ref b38), .unset, .unset] [])) _
      refine XS.iload X42.here hx rfl (hb hby at_95) rfl ?_
      show Steps p.tables e below (T42.setTop (mkF m 97 #[.val (.int p0), .val (.int p1), .val (.int p2), .val (.int p3), .val (.int p4), .val (.int (2 : Int32)), .val (.int y17), .val (.int y18), .val (.int y19), .val (.ref b38), .unset, .unset] [(.int (2 : Int32))])) _
      refine XS.iconst X42.here hx rfl (hb hby at_97) ?_
      show Steps p.tables e below (T42.setTop (mkF m 98 #[.val (.int p0), .val (.int p1), .val (.int p2), .val (.int p3), .val (.int p4), .val (.int (2 : Int32)), .val (.int y17), .val (.int y18), .val (.int y19), .val (.ref b38), .unset, .unset] [(.int (3 : Int32)), (.int (2 : Int32))])) _
      refine XS.icmpYes X42.here hx rfl (pc0 := 98) (pc' := 110) rfl (hb hby at_98) rfl (flt (by decide : ¬ ((3 : Int32) < (2 : Int32)))).2.2.2 (by decide) (by decide) ?_
      show Steps p.tables e below (T42.setTop (mkF m 110 #[.val (.int p0), .val (.int p1), .val (.int p2), .val (.int p3), .val (.int p4), .val (.int (2 : Int32)), .val (.int y17), .val (.int y18), .val (.int y19), .val (.ref b38), .unset, .unset] [])) _
      refine XS.iload X42.here hx rfl (hb hby at_110) rfl ?_
      show Steps p.tables e below (T42.setTop (mkF m 112 #[.val (.int p0), .val (.int p1), .val (.int p2), .val (.int p3), .val (.int p4), .val (.int (2 : Int32)), .val (.int y17), .val (.int y18), .val (.int y19), .val (.ref b38), .unset, .unset] [(.int (2 : Int32))])) _
      refine XS.iconst X42.here hx rfl (hb hby at_112) ?_
      show Steps p.tables e below (T42.setTop (mkF m 113 #[.val (.int p0), .val (.int p1), .val (.int p2), .val (.int p3), .val (.int p4), .val (.int (2 : Int32)), .val (.int y17), .val (.int y18), .val (.int y19), .val (.ref b38), .unset, .unset] [(.int (4 : Int32)), (.int (2 : Int32))])) _
      refine XS.icmpYes X42.here hx rfl (pc0 := 113) (pc' := 125) rfl (hb hby at_113) rfl (flt (by decide : ¬ ((4 : Int32) < (2 : Int32)))).2.2.2 (by decide) (by decide) ?_
      show Steps p.tables e below (T42.setTop (mkF m 125 #[.val (.int p0), .val (.int p1), .val (.int p2), .val (.int p3), .val (.int p4), .val (.int (2 : Int32)), .val (.int y17), .val (.int y18), .val (.int y19), .val (.ref b38), .unset, .unset] [])) _
      refine XS.iload X42.here hx rfl (hb hby at_125) rfl ?_
      show Steps p.tables e below (T42.setTop (mkF m 127 #[.val (.int p0), .val (.int p1), .val (.int p2), .val (.int p3), .val (.int p4), .val (.int (2 : Int32)), .val (.int y17), .val (.int y18), .val (.int y19), .val (.ref b38), .unset, .unset] [(.int (2 : Int32))])) _
      refine XS.iconst X42.here hx rfl (hb hby at_127) ?_
      show Steps p.tables e below (T42.setTop (mkF m 128 #[.val (.int p0), .val (.int p1), .val (.int p2), .val (.int p3), .val (.int p4), .val (.int (2 : Int32)), .val (.int y17), .val (.int y18), .val (.int y19), .val (.ref b38), .unset, .unset] [(.int (5 : Int32)), (.int (2 : Int32))])) _
      refine XS.icmpYes X42.here hx rfl (pc0 := 128) (pc' := 140) rfl (hb hby at_128) rfl (flt (by decide : ¬ ((5 : Int32) < (2 : Int32)))).2.2.2 (by decide) (by decide) ?_
      show Steps p.tables e below (T42.setTop (mkF m 140 #[.val (.int p0), .val (.int p1), .val (.int p2), .val (.int p3), .val (.int p4), .val (.int (2 : Int32)), .val (.int y17), .val (.int y18), .val (.int y19), .val (.ref b38), .unset, .unset] [])) _
      refine XS.iload X42.here hx rfl (hb hby at_140) rfl ?_
      show Steps p.tables e below (T42.setTop (mkF m 142 #[.val (.int p0), .val (.int p1), .val (.int p2), .val (.int p3), .val (.int p4), .val (.int (2 : Int32)), .val (.int y17), .val (.int y18), .val (.int y19), .val (.ref b38), .unset, .unset] [(.int (2 : Int32))])) _
      refine XS.bipush X42.here hx rfl (hb hby at_142) ?_
      show Steps p.tables e below (T42.setTop (mkF m 144 #[.val (.int p0), .val (.int p1), .val (.int p2), .val (.int p3), .val (.int p4), .val (.int (2 : Int32)), .val (.int y17), .val (.int y18), .val (.int y19), .val (.ref b38), .unset, .unset] [(.int (6 : Int32)), (.int (2 : Int32))])) _
      refine XS.icmpYes X42.here hx rfl (pc0 := 144) (pc' := 158) rfl (hb hby at_144) rfl (flt (by decide : ¬ ((6 : Int32) < (2 : Int32)))).2.2.2 (by decide) (by decide) ?_
      show Steps p.tables e below (T42.setTop (mkF m 158 #[.val (.int p0), .val (.int p1), .val (.int p2), .val (.int p3), .val (.int p4), .val (.int (2 : Int32)), .val (.int y17), .val (.int y18), .val (.int y19), .val (.ref b38), .unset, .unset] [])) _
      refine XS.iload X42.here hx rfl (hb hby at_158) rfl ?_
      show Steps p.tables e below (T42.setTop (mkF m 160 #[.val (.int p0), .val (.int p1), .val (.int p2), .val (.int p3), .val (.int p4), .val (.int (2 : Int32)), .val (.int y17), .val (.int y18), .val (.int y19), .val (.ref b38), .unset, .unset] [(.int (2 : Int32))])) _
      refine XS.iconst X42.here hx rfl (hb hby at_160) ?_
      show Steps p.tables e below (T42.setTop (mkF m 161 #[.val (.int p0), .val (.int p1), .val (.int p2), .val (.int p3), .val (.int p4), .val (.int (2 : Int32)), .val (.int y17), .val (.int y18), .val (.int y19), .val (.ref b38), .unset, .unset] [(.int (3 : Int32)), (.int (2 : Int32))])) _
      refine XS.icmpYes X42.here hx rfl (pc0 := 161) (pc' := 204) rfl (hb hby at_161) rfl (tlt (by decide : (2 : Int32) < (3 : Int32))).1 (by decide) (by decide) ?_
      show Steps p.tables e below (T42.setTop (mkF m 204 #[.val (.int p0), .val (.int p1), .val (.int p2), .val (.int p3), .val (.int p4), .val (.int (2 : Int32)), .val (.int y17), .val (.int y18), .val (.int y19), .val (.ref b38), .unset, .unset] [])) _
      refine XS.iconst X42.here hx rfl (hb hby at_204) ?_
      show Steps p.tables e below (T42.setTop (mkF m 205 #[.val (.int p0), .val (.int p1), .val (.int p2), .val (.int p3), .val (.int p4), .val (.int (2 : Int32)), .val (.int y17), .val (.int y18), .val (.int y19), .val (.ref b38), .unset, .unset] [(.int (0 : Int32))])) _
      refine XS.istore X42.here hx rfl (hb hby at_205) rfl (l' := #[.val (.int p0), .val (.int p1), .val (.int p2), .val (.int p3), .val (.int p4), .val (.int (2 : Int32)), .val (.int y17), .val (.int y18), .val (.int y19), .val (.ref b38), .val (.int (0 : Int32)), .unset]) rfl ?_
      show Steps p.tables e below (T42.setTop (mkF m 207 #[.val (.int p0), .val (.int p1), .val (.int p2), .val (.int p3), .val (.int p4), .val (.int (2 : Int32)), .val (.int y17), .val (.int y18), .val (.int y19), .val (.ref b38), .val (.int (0 : Int32)), .unset] [])) _
      refine XS.iload X42.here hx rfl (hb hby at_207) rfl ?_
      show Steps p.tables e below (T42.setTop (mkF m 209 #[.val (.int p0), .val (.int p1), .val (.int p2), .val (.int p3), .val (.int p4), .val (.int (2 : Int32)), .val (.int y17), .val (.int y18), .val (.int y19), .val (.ref b38), .val (.int (0 : Int32)), .unset] [(.int (0 : Int32))])) _
      refine XS.ifYes X42.here hx rfl (pc0 := 209) (pc' := 216) rfl (hb hby at_209) rfl ((if0 _ _).trans (teq (by decide : (0 : Int32) = (0 : Int32))).1) (by decide) (by decide) ?_
      show Steps p.tables e below (T42.setTop (mkF m 216 #[.val (.int p0), .val (.int p1), .val (.int p2), .val (.int p3), .val (.int p4), .val (.int (2 : Int32)), .val (.int y17), .val (.int y18), .val (.int y19), .val (.ref b38), .val (.int (0 : Int32)), .unset] [])) _
      refine XS.iconst X42.here hx rfl (hb hby at_216) ?_
      show Steps p.tables e below (T42.setTop (mkF m 217 #[.val (.int p0), .val (.int p1), .val (.int p2), .val (.int p3), .val (.int p4), .val (.int (2 : Int32)), .val (.int y17), .val (.int y18), .val (.int y19), .val (.ref b38), .val (.int (0 : Int32)), .unset] [(.int (0 : Int32))])) _
      refine XS.istore X42.here hx rfl (hb hby at_217) rfl (l' := #[.val (.int p0), .val (.int p1), .val (.int p2), .val (.int p3), .val (.int p4), .val (.int (2 : Int32)), .val (.int y17), .val (.int y18), .val (.int y19), .val (.ref b38), .val (.int (0 : Int32)), .val (.int (0 : Int32))]) rfl ?_
      show Steps p.tables e below (T42.setTop (mkF m 219 #[.val (.int p0), .val (.int p1), .val (.int p2), .val (.int p3), .val (.int p4), .val (.int (2 : Int32)), .val (.int y17), .val (.int y18), .val (.int y19), .val (.ref b38), .val (.int (0 : Int32)), .val (.int (0 : Int32))] [])) _
      refine XS.aload X42.here hx rfl (hb hby at_219) rfl rfl ?_
      exact ht
    obtain ⟨_, _, ⟨T44, L44, kq44, n44⟩, -, X44, ⟨Lc44, hQ44, l44, y44, z44⟩, st44⟩ := Jvm.LawKit.callS X42 hx (y := (⟨"com/example/role_conflict_finder/roleconflictfinder/Utf8Text", "start", "([B)I"⟩ : MethodName)) hown (mvT hZ (hw _ (List.mem_of_getElem? (i := 1) rfl))) (mvT hZ (hw _ (List.mem_of_getElem? (i := 2) rfl))) (mvT hZ (hw _ (List.mem_of_getElem? (i := 3) rfl))) (mvT hZ (hw _ (List.mem_of_getElem? (i := 4) rfl))) (by decide) (backOf (W := 0) (rm_shorter l Z a0 hw [] b38 wM kc38 (2 : Int32) [(.int (nar .byte y17)), (.int (nar .byte y18))] kM h42 n0 Z42 S_M_c_42 V42_b38 V_M_c_42 (by decide : (2 : Int32) < (3 : Int32))) hZ (hw _ (List.mem_of_getElem? (i := 4) rfl)) (hw _ (List.mem_of_getElem? (i := 3) rfl)) (by decide) (by decide)) (g := (mkF m 221 #[.val (.int p0), .val (.int p1), .val (.int p2), .val (.int p3), .val (.int p4), .val (.int (2 : Int32)), .val (.int y17), .val (.int y18), .val (.int y19), .val (.ref b38), .val (.int (0 : Int32)), .val (.int (0 : Int32))] [(.ref b38)])) rfl (by rw [hml]; rfl) (argsL := [(.ref b38)]) (rest := []) (lenOf pd_0 rfl) rfl (by show 2 * 0 + _ ≤ _; exact Nat.le_of_eq rfl) (hb hby at_221) (fun _ _ => ⟨rfl, e42, (by decide : 1 + 0 ≤ _), (by decide : 2 + 0 ≤ _)⟩)
    dsimp only [Pt.U, Pt.locs, Pt.cells, Pt.slots] at X44 l44 y44 z44 st44 hQ44
    subst l44 y44 z44
    obtain ⟨rfl, N44q, eq44⟩ := hQ44
    have N44 := Fr.app N42 N44q
    have k44 : Go p.tables e below (T42.setTop (mkF m 221 #[.val (.int p0), .val (.int p1), .val (.int p2), .val (.int p3), .val (.int p4), .val (.int (2 : Int32)), .val (.int y17), .val (.int y18), .val (.int y19), .val (.ref b38), .val (.int (0 : Int32)), .val (.int (0 : Int32))] [(.ref b38)])) (T44.setTop (mkF m 224 #[.val (.int p0), .val (.int p1), .val (.int p2), .val (.int p3), .val (.int p4), .val (.int (2 : Int32)), .val (.int y17), .val (.int y18), .val (.int y19), .val (.ref b38), .val (.int (0 : Int32)), .val (.int (0 : Int32))] [(.int (0 : Int32))])) := st44
    have k45 : Go p.tables e below (T44.setTop (mkF m 224 #[.val (.int p0), .val (.int p1), .val (.int p2), .val (.int p3), .val (.int p4), .val (.int (2 : Int32)), .val (.int y17), .val (.int y18), .val (.int y19), .val (.ref b38), .val (.int (0 : Int32)), .val (.int (0 : Int32))] [(.int (0 : Int32))])) (T44.setTop (mkF m 234 #[.val (.int p0), .val (.int p1), .val (.int p2), .val (.int p3), .val (.int p4), .val (.int (2 : Int32)), .val (.int y17), .val (.int y18), .val (.int y19), .val (.ref b38), .val (.int (0 : Int32)), .val (.int (0 : Int32))] [(.int (1 : Int32))])) := by
      intro t ht
      refine XS.iload X44.here hx rfl (hb hby at_224) rfl ?_
      show Steps p.tables e below (T44.setTop (mkF m 226 #[.val (.int p0), .val (.int p1), .val (.int p2), .val (.int p3), .val (.int p4), .val (.int (2 : Int32)), .val (.int y17), .val (.int y18), .val (.int y19), .val (.ref b38), .val (.int (0 : Int32)), .val (.int (0 : Int32))] [(.int (0 : Int32)), (.int (0 : Int32))])) _
      refine XS.icmpNo X44.here hx rfl (hb hby at_226) rfl (teq (by decide : (0 : Int32) = (0 : Int32))).2 ?_
      show Steps p.tables e below (T44.setTop (mkF m 229 #[.val (.int p0), .val (.int p1), .val (.int p2), .val (.int p3), .val (.int p4), .val (.int (2 : Int32)), .val (.int y17), .val (.int y18), .val (.int y19), .val (.ref b38), .val (.int (0 : Int32)), .val (.int (0 : Int32))] [])) _
      refine XS.iconst X44.here hx rfl (hb hby at_229) ?_
      show Steps p.tables e below (T44.setTop (mkF m 230 #[.val (.int p0), .val (.int p1), .val (.int p2), .val (.int p3), .val (.int p4), .val (.int (2 : Int32)), .val (.int y17), .val (.int y18), .val (.int y19), .val (.ref b38), .val (.int (0 : Int32)), .val (.int (0 : Int32))] [(.int (1 : Int32))])) _
      refine XS.goto X44.here hx rfl (pc0 := 230) (pc' := 234) rfl (hb hby at_230) (by decide) (by decide) ?_
      exact ht
    obtain ⟨fs, hr, hrun, hended, hW, hsame⟩ := X44.leave (v := some (.int (1 : Int32))) (fun h => by rw [Bd.returns] at h; cases h)
    refine ⟨_, _, pre0 _ ((goT k1 (goT k2 (goT k6 (goT k7 (goT k11 (goT k12 (goT k16 (goT k20 (goT k36 (goT k37 (goT k38 (goT k39 (goT k40 (goT k41 (goT k42 (goT k43 (goT k44 k45))))))))))))))))) _ (retN X44 hx (t := .boolean) Bd.returns (by simp) (hb hby at_234) hr)), hrun, hended, _, _, rfl, ?_, ⟨_, rfl⟩, hW, hsame.mono (by decide) (by decide)⟩
    show Q_law Z p0 p1 p2 p3 p4 wM kM h0 n0 _ T44.heap _
    rw [eq44]
    exact ⟨rfl, N44⟩
  · have k46 : Go p.tables e below (s₁.setTop (mkF m 54 #[.val (.int p0), .val (.int p1), .val (.int p2), .val (.int p3), .val (.int p4), .val (.int (p0 &&& (7 : Int32))), .val (.int y17), .val (.int y18), .val (.int y19), .unset, .unset, .unset] [])) (s₁.setTop (mkF m 54 #[.val (.int p0), .val (.int p1), .val (.int p2), .val (.int p3), .val (.int p4), .val (.int (3 : Int32)), .val (.int y17), .val (.int y18), .val (.int y19), .unset, .unset, .unset] [])) := by rw [hk21]; exact fun _ h => h
    have k47 : Go p.tables e below (s₁.setTop (mkF m 54 #[.val (.int p0), .val (.int p1), .val (.int p2), .val (.int p3), .val (.int p4), .val (.int (3 : Int32)), .val (.int y17), .val (.int y18), .val (.int y19), .unset, .unset, .unset] [])) (s₁.setTop (mkF m 56 #[.val (.int p0), .val (.int p1), .val (.int p2), .val (.int p3), .val (.int p4), .val (.int (3 : Int32)), .val (.int y17), .val (.int y18), .val (.int y19), .unset, .unset, .unset] [(.int (3 : Int32))])) := by
      intro t ht
      refine XS.iload X0.here hx rfl (hb hby at_54) rfl ?_
      exact ht
    obtain ⟨T48, h48, kc48, X48, e48, E48, A48, st48⟩ := newP X0 hx hZ (hw _ (List.mem_of_getElem? (i := 0) rfl)) e0 (g := (mkF m 56 #[.val (.int p0), .val (.int p1), .val (.int p2), .val (.int p3), .val (.int p4), .val (.int (3 : Int32)), .val (.int y17), .val (.int y18), .val (.int y19), .unset, .unset, .unset] [(.int (3 : Int32))])) rfl (hb hby at_56) rfl (by decide) (cap := 3) (by decide) (by decide) (by decide) (by decide)
    obtain ⟨b48, g48⟩ : ∃ z, z = h0.size := ⟨_, rfl⟩
    rw [← g48] at A48 st48
    have g_b48 : n0 ≤ b48 := Nat.le_trans Z0 (Nat.le_of_eq g48.symm)
    have sz_b48 : h0.size ≤ b48 := Nat.le_trans (Keep.refl h0 []).1 (Nat.le_of_eq g48.symm)
    have ne_wM_b48 : wM ≠ b48 := Nat.ne_of_lt (Nat.lt_of_lt_of_le V_M.lt (Nat.le_of_eq g48.symm))
    have Kp48 : Keep h0 h48 [] := (Keep.refl h0 []).ext E48
    have Z48 : n0 ≤ h48.size := Nat.le_trans Z0 E48.1
    have S_M_c_48 := S_M.ext E48
    have V_M_c_48 := V_M.ext E48
    have V_b48 : Arv Z h48 b48 kc48 .byte (3 : Int32) [(.int (0 : Int32)), (.int (0 : Int32)), (.int (0 : Int32))] (.int (0 : Int32)) := (Arv.new A48 (by decide)).pad (pad_rep [] (.int (0 : Int32)) 3)
    have k48 : Go p.tables e below (s₁.setTop (mkF m 56 #[.val (.int p0), .val (.int p1), .val (.int p2), .val (.int p3), .val (.int p4), .val (.int (3 : Int32)), .val (.int y17), .val (.int y18), .val (.int y19), .unset, .unset, .unset] [(.int (3 : Int32))])) (T48.setTop (mkF m 58 #[.val (.int p0), .val (.int p1), .val (.int p2), .val (.int p3), .val (.int p4), .val (.int (3 : Int32)), .val (.int y17), .val (.int y18), .val (.int y19), .unset, .unset, .unset] [(.ref b48)])) := st48
    have k49 : Go p.tables e below (T48.setTop (mkF m 58 #[.val (.int p0), .val (.int p1), .val (.int p2), .val (.int p3), .val (.int p4), .val (.int (3 : Int32)), .val (.int y17), .val (.int y18), .val (.int y19), .unset, .unset, .unset] [(.ref b48)])) (T48.setTop (mkF m 70 #[.val (.int p0), .val (.int p1), .val (.int p2), .val (.int p3), .val (.int p4), .val (.int (3 : Int32)), .val (.int y17), .val (.int y18), .val (.int y19), .val (.ref b48), .unset, .unset] [(.int y17), (.int (0 : Int32)), (.ref b48)])) := by
      intro t ht
      refine XS.astore X48.here hx rfl (hb hby at_58) rfl rfl (l' := #[.val (.int p0), .val (.int p1), .val (.int p2), .val (.int p3), .val (.int p4), .val (.int (3 : Int32)), .val (.int y17), .val (.int y18), .val (.int y19), .val (.ref b48), .unset, .unset]) rfl ?_
      show Steps p.tables e below (T48.setTop (mkF m 60 #[.val (.int p0), .val (.int p1), .val (.int p2), .val (.int p3), .val (.int p4), .val (.int (3 : Int32)), .val (.int y17), .val (.int y18), .val (.int y19), .val (.ref b48), .unset, .unset] [])) _
      refine XS.iload X48.here hx rfl (hb hby at_60) rfl ?_
      show Steps p.tables e below (T48.setTop (mkF m 62 #[.val (.int p0), .val (.int p1), .val (.int p2), .val (.int p3), .val (.int p4), .val (.int (3 : Int32)), .val (.int y17), .val (.int y18), .val (.int y19), .val (.ref b48), .unset, .unset] [(.int (3 : Int32))])) _
      refine XS.ifNo X48.here hx rfl (hb hby at_62) rfl ((if0 _ _).trans (tlt (by decide : (0 : Int32) < (3 : Int32))).2.2.2) ?_
      show Steps p.tables e below (T48.setTop (mkF m 65 #[.val (.int p0), .val (.int p1), .val (.int p2), .val (.int p3), .val (.int p4), .val (.int (3 : Int32)), .val (.int y17), .val (.int y18), .val (.int y19), .val (.ref b48), .unset, .unset] [])) _
      refine XS.aload X48.here hx rfl (hb hby at_65) rfl rfl ?_
      show Steps p.tables e below (T48.setTop (mkF m 67 #[.val (.int p0), .val (.int p1), .val (.int p2), .val (.int p3), .val (.int p4), .val (.int (3 : Int32)), .val (.int y17), .val (.int y18), .val (.int y19), .val (.ref b48), .unset, .unset] [(.ref b48)])) _
      refine XS.iconst X48.here hx rfl (hb hby at_67) ?_
      show Steps p.tables e below (T48.setTop (mkF m 68 #[.val (.int p0), .val (.int p1), .val (.int p2), .val (.int p3), .val (.int p4), .val (.int (3 : Int32)), .val (.int y17), .val (.int y18), .val (.int y19), .val (.ref b48), .unset, .unset] [(.int (0 : Int32)), (.ref b48)])) _
      refine XS.iload X48.here hx rfl (hb hby at_68) rfl ?_
      exact ht
    obtain ⟨cl50, Ar50, q50, S50, M50, H50, G50⟩ := id V_b48
    have hin50 : ¬ ((0 : Int32) < 0 ∨ cl50.slots.size ≤ ((0 : Int32)).toNatClampNeg) := inb_of S50 ⟨by decide, by decide⟩
    obtain ⟨T50, h50, X50, e50, W50, st50⟩ := stB X48 hx hZ e48 Ar50 (j := (0 : Int32)) hin50 (g := (mkF m 70 #[.val (.int p0), .val (.int p1), .val (.int p2), .val (.int p3), .val (.int p4), .val (.int (3 : Int32)), .val (.int y17), .val (.int y18), .val (.int y19), .val (.ref b48), .unset, .unset] [(.int y17), (.int (0 : Int32)), (.ref b48)])) rfl rfl (hb hby at_70)
    have V50_b48 : Arv Z h50 b48 kc48 .byte (3 : Int32) [(.int (nar .byte y17)), (.int (0 : Int32)), (.int (0 : Int32))] (.int (0 : Int32)) := Arv.set Ar50 q50 S50 M50 H50 G50 (fits_nar_byte _) W50 0 rfl (Nat.le_of_ble_eq_true rfl)
    have Kp50 : Keep h0 h50 [] := Kp48.wr W50 (Or.inr sz_b48)
    have Z50 : n0 ≤ h50.size := Nat.le_trans Z48 (Keep.of_wr W50).1
    have S_M_c_50 := S_M_c_48.wr W50
    have V_M_c_50 := V_M_c_48.other W50 ne_wM_b48
    have k50 : Go p.tables e below (T48.setTop (mkF m 70 #[.val (.int p0), .val (.int p1), .val (.int p2), .val (.int p3), .val (.int p4), .val (.int (3 : Int32)), .val (.int y17), .val (.int y18), .val (.int y19), .val (.ref b48), .unset, .unset] [(.int y17), (.int (0 : Int32)), (.ref b48)])) (T50.setTop (mkF m 71 #[.val (.int p0), .val (.int p1), .val (.int p2), .val (.int p3), .val (.int p4), .val (.int (3 : Int32)), .val (.int y17), .val (.int y18), .val (.int y19), .val (.ref b48), .unset, .unset] [])) := st50
    have N50 := Fr.snoc X50 N0 g_b48
    have k51 : Go p.tables e below (T50.setTop (mkF m 71 #[.val (.int p0), .val (.int p1), .val (.int p2), .val (.int p3), .val (.int p4), .val (.int (3 : Int32)), .val (.int y17), .val (.int y18), .val (.int y19), .val (.ref b48), .unset, .unset] [])) (T50.setTop (mkF m 82 #[.val (.int p0), .val (.int p1), .val (.int p2), .val (.int p3), .val (.int p4), .val (.int (3 : Int32)), .val (.int y17), .val (.int y18), .val (.int y19), .val (.ref b48), .unset, .unset] [(.int y18), (.int (1 : Int32)), (.ref b48)])) := by
      intro t ht
      refine XS.iload X50.here hx rfl (hb hby at_71) rfl ?_
      show Steps p.tables e below (T50.setTop (mkF m 73 #[.val (.int p0), .val (.int p1), .val (.int p2), .val (.int p3), .val (.int p4), .val (.int (3 : Int32)), .val (.int y17), .val (.int y18), .val (.int y19), .val (.ref b48), .unset, .unset] [(.int (3 : Int32))])) _
      refine XS.iconst X50.here hx rfl (hb hby at_73) ?_
      show Steps p.tables e below (T50.setTop (mkF m 74 #[.val (.int p0), .val (.int p1), .val (.int p2), .val (.int p3), .val (.int p4), .val (.int (3 : Int32)), .val (.int y17), .val (.int y18), .val (.int y19), .val (.ref b48), .unset, .unset] [(.int (1 : Int32)), (.int (3 : Int32))])) _
      refine XS.icmpNo X50.here hx rfl (hb hby at_74) rfl (tlt (by decide : (1 : Int32) < (3 : Int32))).2.2.2 ?_
      show Steps p.tables e below (T50.setTop (mkF m 77 #[.val (.int p0), .val (.int p1), .val (.int p2), .val (.int p3), .val (.int p4), .val (.int (3 : Int32)), .val (.int y17), .val (.int y18), .val (.int y19), .val (.ref b48), .unset, .unset] [])) _
      refine XS.aload X50.here hx rfl (hb hby at_77) rfl rfl ?_
      show Steps p.tables e below (T50.setTop (mkF m 79 #[.val (.int p0), .val (.int p1), .val (.int p2), .val (.int p3), .val (.int p4), .val (.int (3 : Int32)), .val (.int y17), .val (.int y18), .val (.int y19), .val (.ref b48), .unset, .unset] [(.ref b48)])) _
      refine XS.iconst X50.here hx rfl (hb hby at_79) ?_
      show Steps p.tables e below (T50.setTop (mkF m 80 #[.val (.int p0), .val (.int p1), .val (.int p2), .val (.int p3), .val (.int p4), .val (.int (3 : Int32)), .val (.int y17), .val (.int y18), .val (.int y19), .val (.ref b48), .unset, .unset] [(.int (1 : Int32)), (.ref b48)])) _
      refine XS.iload X50.here hx rfl (hb hby at_80) rfl ?_
      exact ht
    obtain ⟨cl52, Ar52, q52, S52, M52, H52, G52⟩ := id V50_b48
    have hin52 : ¬ ((1 : Int32) < 0 ∨ cl52.slots.size ≤ ((1 : Int32)).toNatClampNeg) := inb_of S52 ⟨by decide, by decide⟩
    obtain ⟨T52, h52, X52, e52, W52, st52⟩ := stB X50 hx hZ e50 Ar52 (j := (1 : Int32)) hin52 (g := (mkF m 82 #[.val (.int p0), .val (.int p1), .val (.int p2), .val (.int p3), .val (.int p4), .val (.int (3 : Int32)), .val (.int y17), .val (.int y18), .val (.int y19), .val (.ref b48), .unset, .unset] [(.int y18), (.int (1 : Int32)), (.ref b48)])) rfl rfl (hb hby at_82)
    have V52_b48 : Arv Z h52 b48 kc48 .byte (3 : Int32) [(.int (nar .byte y17)), (.int (nar .byte y18)), (.int (0 : Int32))] (.int (0 : Int32)) := Arv.set Ar52 q52 S52 M52 H52 G52 (fits_nar_byte _) W52 1 rfl (Nat.le_of_ble_eq_true rfl)
    have Kp52 : Keep h0 h52 [] := Kp50.wr W52 (Or.inr sz_b48)
    have Z52 : n0 ≤ h52.size := Nat.le_trans Z50 (Keep.of_wr W52).1
    have S_M_c_52 := S_M_c_50.wr W52
    have V_M_c_52 := V_M_c_50.other W52 ne_wM_b48
    have k52 : Go p.tables e below (T50.setTop (mkF m 82 #[.val (.int p0), .val (.int p1), .val (.int p2), .val (.int p3), .val (.int p4), .val (.int (3 : Int32)), .val (.int y17), .val (.int y18), .val (.int y19), .val (.ref b48), .unset, .unset] [(.int y18), (.int (1 : Int32)), (.ref b48)])) (T52.setTop (mkF m 83 #[.val (.int p0), .val (.int p1), .val (.int p2), .val (.int p3), .val (.int p4), .val (.int (3 : Int32)), .val (.int y17), .val (.int y18), .val (.int y19), .val (.ref b48), .unset, .unset] [])) := st52
    have N52 := Fr.snoc X52 N50 g_b48
    have k53 : Go p.tables e below (T52.setTop (mkF m 83 #[.val (.int p0), .val (.int p1), .val (.int p2), .val (.int p3), .val (.int p4), .val (.int (3 : Int32)), .val (.int y17), .val (.int y18), .val (.int y19), .val (.ref b48), .unset, .unset] [])) (T52.setTop (mkF m 94 #[.val (.int p0), .val (.int p1), .val (.int p2), .val (.int p3), .val (.int p4), .val (.int (3 : Int32)), .val (.int y17), .val (.int y18), .val (.int y19), .val (.ref b48), .unset, .unset] [(.int y19), (.int (2 : Int32)), (.ref b48)])) := by
      intro t ht
      refine XS.iload X52.here hx rfl (hb hby at_83) rfl ?_
      show Steps p.tables e below (T52.setTop (mkF m 85 #[.val (.int p0), .val (.int p1), .val (.int p2), .val (.int p3), .val (.int p4), .val (.int (3 : Int32)), .val (.int y17), .val (.int y18), .val (.int y19), .val (.ref b48), .unset, .unset] [(.int (3 : Int32))])) _
      refine XS.iconst X52.here hx rfl (hb hby at_85) ?_
      show Steps p.tables e below (T52.setTop (mkF m 86 #[.val (.int p0), .val (.int p1), .val (.int p2), .val (.int p3), .val (.int p4), .val (.int (3 : Int32)), .val (.int y17), .val (.int y18), .val (.int y19), .val (.ref b48), .unset, .unset] [(.int (2 : Int32)), (.int (3 : Int32))])) _
      refine XS.icmpNo X52.here hx rfl (hb hby at_86) rfl (tlt (by decide : (2 : Int32) < (3 : Int32))).2.2.2 ?_
      show Steps p.tables e below (T52.setTop (mkF m 89 #[.val (.int p0), .val (.int p1), .val (.int p2), .val (.int p3), .val (.int p4), .val (.int (3 : Int32)), .val (.int y17), .val (.int y18), .val (.int y19), .val (.ref b48), .unset, .unset] [])) _
      refine XS.aload X52.here hx rfl (hb hby at_89) rfl rfl ?_
      show Steps p.tables e below (T52.setTop (mkF m 91 #[.val (.int p0), .val (.int p1), .val (.int p2), .val (.int p3), .val (.int p4), .val (.int (3 : Int32)), .val (.int y17), .val (.int y18), .val (.int y19), .val (.ref b48), .unset, .unset] [(.ref b48)])) _
      refine XS.iconst X52.here hx rfl (hb hby at_91) ?_
      show Steps p.tables e below (T52.setTop (mkF m 92 #[.val (.int p0), .val (.int p1), .val (.int p2), .val (.int p3), .val (.int p4), .val (.int (3 : Int32)), .val (.int y17), .val (.int y18), .val (.int y19), .val (.ref b48), .unset, .unset] [(.int (2 : Int32)), (.ref b48)])) _
      refine XS.iload X52.here hx rfl (hb hby at_92) rfl ?_
      exact ht
    obtain ⟨cl54, Ar54, q54, S54, M54, H54, G54⟩ := id V52_b48
    have hin54 : ¬ ((2 : Int32) < 0 ∨ cl54.slots.size ≤ ((2 : Int32)).toNatClampNeg) := inb_of S54 ⟨by decide, by decide⟩
    obtain ⟨T54, h54, X54, e54, W54, st54⟩ := stB X52 hx hZ e52 Ar54 (j := (2 : Int32)) hin54 (g := (mkF m 94 #[.val (.int p0), .val (.int p1), .val (.int p2), .val (.int p3), .val (.int p4), .val (.int (3 : Int32)), .val (.int y17), .val (.int y18), .val (.int y19), .val (.ref b48), .unset, .unset] [(.int y19), (.int (2 : Int32)), (.ref b48)])) rfl rfl (hb hby at_94)
    have V54_b48 : Arv Z h54 b48 kc48 .byte (3 : Int32) [(.int (nar .byte y17)), (.int (nar .byte y18)), (.int (nar .byte y19))] (.int (0 : Int32)) := Arv.set Ar54 q54 S54 M54 H54 G54 (fits_nar_byte _) W54 2 rfl (Nat.le_of_ble_eq_true rfl)
    have Kp54 : Keep h0 h54 [] := Kp52.wr W54 (Or.inr sz_b48)
    have Z54 : n0 ≤ h54.size := Nat.le_trans Z52 (Keep.of_wr W54).1
    have S_M_c_54 := S_M_c_52.wr W54
    have V_M_c_54 := V_M_c_52.other W54 ne_wM_b48
    have k54 : Go p.tables e below (T52.setTop (mkF m 94 #[.val (.int p0), .val (.int p1), .val (.int p2), .val (.int p3), .val (.int p4), .val (.int (3 : Int32)), .val (.int y17), .val (.int y18), .val (.int y19), .val (.ref b48), .unset, .unset] [(.int y19), (.int (2 : Int32)), (.ref b48)])) (T54.setTop (mkF m 95 #[.val (.int p0), .val (.int p1), .val (.int p2), .val (.int p3), .val (.int p4), .val (.int (3 : Int32)), .val (.int y17), .val (.int y18), .val (.int y19), .val (.ref b48), .unset, .unset] [])) := st54
    have N54 := Fr.snoc X54 N52 g_b48
    have k55 : Go p.tables e below (T54.setTop (mkF m 95 #[.val (.int p0), .val (.int p1), .val (.int p2), .val (.int p3), .val (.int p4), .val (.int (3 : Int32)), .val (.int y17), .val (.int y18), .val (.int y19), .val (.ref b48), .unset, .unset] [])) (T54.setTop (mkF m 173 #[.val (.int p0), .val (.int p1), .val (.int p2), .val (.int p3), .val (.int p4), .val (.int (3 : Int32)), .val (.int y17), .val (.int y18), .val (.int y19), .val (.ref b48), .unset, .unset] [(.int (239 : Int32)), (.int (y17 &&& (255 : Int32)))])) := by
      intro t ht
      refine XS.iload X54.here hx rfl (hb hby at_95) rfl ?_
      show Steps p.tables e below (T54.setTop (mkF m 97 #[.val (.int p0), .val (.int p1), .val (.int p2), .val (.int p3), .val (.int p4), .val (.int (3 : Int32)), .val (.int y17), .val (.int y18), .val (.int y19), .val (.ref b48), .unset, .unset] [(.int (3 : Int32))])) _
      refine XS.iconst X54.here hx rfl (hb hby at_97) ?_
      show Steps p.tables e below (T54.setTop (mkF m 98 #[.val (.int p0), .val (.int p1), .val (.int p2), .val (.int p3), .val (.int p4), .val (.int (3 : Int32)), .val (.int y17), .val (.int y18), .val (.int y19), .val (.ref b48), .unset, .unset] [(.int (3 : Int32)), (.int (3 : Int32))])) _
      refine XS.icmpYes X54.here hx rfl (pc0 := 98) (pc' := 110) rfl (hb hby at_98) rfl (flt (by decide : ¬ ((3 : Int32) < (3 : Int32)))).2.2.2 (by decide) (by decide) ?_
      show Steps p.tables e below (T54.setTop (mkF m 110 #[.val (.int p0), .val (.int p1), .val (.int p2), .val (.int p3), .val (.int p4), .val (.int (3 : Int32)), .val (.int y17), .val (.int y18), .val (.int y19), .val (.ref b48), .unset, .unset] [])) _
      refine XS.iload X54.here hx rfl (hb hby at_110) rfl ?_
      show Steps p.tables e below (T54.setTop (mkF m 112 #[.val (.int p0), .val (.int p1), .val (.int p2), .val (.int p3), .val (.int p4), .val (.int (3 : Int32)), .val (.int y17), .val (.int y18), .val (.int y19), .val (.ref b48), .unset, .unset] [(.int (3 : Int32))])) _
      refine XS.iconst X54.here hx rfl (hb hby at_112) ?_
      show Steps p.tables e below (T54.setTop (mkF m 113 #[.val (.int p0), .val (.int p1), .val (.int p2), .val (.int p3), .val (.int p4), .val (.int (3 : Int32)), .val (.int y17), .val (.int y18), .val (.int y19), .val (.ref b48), .unset, .unset] [(.int (4 : Int32)), (.int (3 : Int32))])) _
      refine XS.icmpYes X54.here hx rfl (pc0 := 113) (pc' := 125) rfl (hb hby at_113) rfl (flt (by decide : ¬ ((4 : Int32) < (3 : Int32)))).2.2.2 (by decide) (by decide) ?_
      show Steps p.tables e below (T54.setTop (mkF m 125 #[.val (.int p0), .val (.int p1), .val (.int p2), .val (.int p3), .val (.int p4), .val (.int (3 : Int32)), .val (.int y17), .val (.int y18), .val (.int y19), .val (.ref b48), .unset, .unset] [])) _
      refine XS.iload X54.here hx rfl (hb hby at_125) rfl ?_
      show Steps p.tables e below (T54.setTop (mkF m 127 #[.val (.int p0), .val (.int p1), .val (.int p2), .val (.int p3), .val (.int p4), .val (.int (3 : Int32)), .val (.int y17), .val (.int y18), .val (.int y19), .val (.ref b48), .unset, .unset] [(.int (3 : Int32))])) _
      refine XS.iconst X54.here hx rfl (hb hby at_127) ?_
      show Steps p.tables e below (T54.setTop (mkF m 128 #[.val (.int p0), .val (.int p1), .val (.int p2), .val (.int p3), .val (.int p4), .val (.int (3 : Int32)), .val (.int y17), .val (.int y18), .val (.int y19), .val (.ref b48), .unset, .unset] [(.int (5 : Int32)), (.int (3 : Int32))])) _
      refine XS.icmpYes X54.here hx rfl (pc0 := 128) (pc' := 140) rfl (hb hby at_128) rfl (flt (by decide : ¬ ((5 : Int32) < (3 : Int32)))).2.2.2 (by decide) (by decide) ?_
      show Steps p.tables e below (T54.setTop (mkF m 140 #[.val (.int p0), .val (.int p1), .val (.int p2), .val (.int p3), .val (.int p4), .val (.int (3 : Int32)), .val (.int y17), .val (.int y18), .val (.int y19), .val (.ref b48), .unset, .unset] [])) _
      refine XS.iload X54.here hx rfl (hb hby at_140) rfl ?_
      show Steps p.tables e below (T54.setTop (mkF m 142 #[.val (.int p0), .val (.int p1), .val (.int p2), .val (.int p3), .val (.int p4), .val (.int (3 : Int32)), .val (.int y17), .val (.int y18), .val (.int y19), .val (.ref b48), .unset, .unset] [(.int (3 : Int32))])) _
      refine XS.bipush X54.here hx rfl (hb hby at_142) ?_
      show Steps p.tables e below (T54.setTop (mkF m 144 #[.val (.int p0), .val (.int p1), .val (.int p2), .val (.int p3), .val (.int p4), .val (.int (3 : Int32)), .val (.int y17), .val (.int y18), .val (.int y19), .val (.ref b48), .unset, .unset] [(.int (6 : Int32)), (.int (3 : Int32))])) _
      refine XS.icmpYes X54.here hx rfl (pc0 := 144) (pc' := 158) rfl (hb hby at_144) rfl (flt (by decide : ¬ ((6 : Int32) < (3 : Int32)))).2.2.2 (by decide) (by decide) ?_
      show Steps p.tables e below (T54.setTop (mkF m 158 #[.val (.int p0), .val (.int p1), .val (.int p2), .val (.int p3), .val (.int p4), .val (.int (3 : Int32)), .val (.int y17), .val (.int y18), .val (.int y19), .val (.ref b48), .unset, .unset] [])) _
      refine XS.iload X54.here hx rfl (hb hby at_158) rfl ?_
      show Steps p.tables e below (T54.setTop (mkF m 160 #[.val (.int p0), .val (.int p1), .val (.int p2), .val (.int p3), .val (.int p4), .val (.int (3 : Int32)), .val (.int y17), .val (.int y18), .val (.int y19), .val (.ref b48), .unset, .unset] [(.int (3 : Int32))])) _
      refine XS.iconst X54.here hx rfl (hb hby at_160) ?_
      show Steps p.tables e below (T54.setTop (mkF m 161 #[.val (.int p0), .val (.int p1), .val (.int p2), .val (.int p3), .val (.int p4), .val (.int (3 : Int32)), .val (.int y17), .val (.int y18), .val (.int y19), .val (.ref b48), .unset, .unset] [(.int (3 : Int32)), (.int (3 : Int32))])) _
      refine XS.icmpNo X54.here hx rfl (hb hby at_161) rfl (flt (by decide : ¬ ((3 : Int32) < (3 : Int32)))).1 ?_
      show Steps p.tables e below (T54.setTop (mkF m 164 #[.val (.int p0), .val (.int p1), .val (.int p2), .val (.int p3), .val (.int p4), .val (.int (3 : Int32)), .val (.int y17), .val (.int y18), .val (.int y19), .val (.ref b48), .unset, .unset] [])) _
      refine XS.iload X54.here hx rfl (hb hby at_164) rfl ?_
      show Steps p.tables e below (T54.setTop (mkF m 166 #[.val (.int p0), .val (.int p1), .val (.int p2), .val (.int p3), .val (.int p4), .val (.int (3 : Int32)), .val (.int y17), .val (.int y18), .val (.int y19), .val (.ref b48), .unset, .unset] [(.int y17)])) _
      refine XS.sipush X54.here hx rfl (hb hby at_166) ?_
      show Steps p.tables e below (T54.setTop (mkF m 169 #[.val (.int p0), .val (.int p1), .val (.int p2), .val (.int p3), .val (.int p4), .val (.int (3 : Int32)), .val (.int y17), .val (.int y18), .val (.int y19), .val (.ref b48), .unset, .unset] [(.int (255 : Int32)), (.int y17)])) _
      refine XS.iand X54.here hx rfl (hb hby at_169) rfl ?_
      show Steps p.tables e below (T54.setTop (mkF m 170 #[.val (.int p0), .val (.int p1), .val (.int p2), .val (.int p3), .val (.int p4), .val (.int (3 : Int32)), .val (.int y17), .val (.int y18), .val (.int y19), .val (.ref b48), .unset, .unset] [(.int (y17 &&& (255 : Int32)))])) _
      refine XS.sipush X54.here hx rfl (hb hby at_170) ?_
      exact ht
    have k56 : Go p.tables e below (T54.setTop (mkF m 173 #[.val (.int p0), .val (.int p1), .val (.int p2), .val (.int p3), .val (.int p4), .val (.int (3 : Int32)), .val (.int y17), .val (.int y18), .val (.int y19), .val (.ref b48), .unset, .unset] [(.int (239 : Int32)), (.int (y17 &&& (255 : Int32)))])) (T54.setTop (mkF m 205 #[.val (.int p0), .val (.int p1), .val (.int p2), .val (.int p3), .val (.int p4), .val (.int (3 : Int32)), .val (.int y17), .val (.int y18), .val (.int y19), .val (.ref b48), .unset, .unset] [(.int (if (y17 &&& (255 : Int32)) = (239 : Int32) then (if (y18 &&& (255 : Int32)) = (187 : Int32) then (if (y19 &&& (255 : Int32)) = (191 : Int32) then (1 : Int32) else (0 : Int32)) else (0 : Int32)) else (0 : Int32)))])) := by
      by_cases hc57 : (y17 &&& (255 : Int32)) = (239 : Int32)
      · have k58 : Go p.tables e below (T54.setTop (mkF m 173 #[.val (.int p0), .val (.int p1), .val (.int p2), .val (.int p3), .val (.int p4), .val (.int (3 : Int32)), .val (.int y17), .val (.int y18), .val (.int y19), .val (.ref b48), .unset, .unset] [(.int (239 : Int32)), (.int (y17 &&& (255 : Int32)))])) (T54.setTop (mkF m 185 #[.val (.int p0), .val (.int p1), .val (.int p2), .val (.int p3), .val (.int p4), .val (.int (3 : Int32)), .val (.int y17), .val (.int y18), .val (.int y19), .val (.ref b48), .unset, .unset] [(.int (187 : Int32)), (.int (y18 &&& (255 : Int32)))])) := by
          intro t ht
          refine XS.icmpNo X54.here hx rfl (hb hby at_173) rfl (teq hc57).2 ?_
          show Steps p.tables e below (T54.setTop (mkF m 176 #[.val (.int p0), .val (.int p1), .val (.int p2), .val (.int p3), .val (.int p4), .val (.int (3 : Int32)), .val (.int y17), .val (.int y18), .val (.int y19), .val (.ref b48), .unset, .unset] [])) _
          refine XS.iload X54.here hx rfl (hb hby at_176) rfl ?_
          show Steps p.tables e below (T54.setTop (mkF m 178 #[.val (.int p0), .val (.int p1), .val (.int p2), .val (.int p3), .val (.int p4), .val (.int (3 : Int32)), .val (.int y17), .val (.int y18), .val (.int y19), .val (.ref b48), .unset, .unset] [(.int y18)])) _
          refine XS.sipush X54.here hx rfl (hb hby at_178) ?_
          show Steps p.tables e below (T54.setTop (mkF m 181 #[.val (.int p0), .val (.int p1), .val (.int p2), .val (.int p3), .val (.int p4), .val (.int (3 : Int32)), .val (.int y17), .val (.int y18), .val (.int y19), .val (.ref b48), .unset, .unset] [(.int (255 : Int32)), (.int y18)])) _
          refine XS.iand X54.here hx rfl (hb hby at_181) rfl ?_
          show Steps p.tables e below (T54.setTop (mkF m 182 #[.val (.int p0), .val (.int p1), .val (.int p2), .val (.int p3), .val (.int p4), .val (.int (3 : Int32)), .val (.int y17), .val (.int y18), .val (.int y19), .val (.ref b48), .unset, .unset] [(.int (y18 &&& (255 : Int32)))])) _
          refine XS.sipush X54.here hx rfl (hb hby at_182) ?_
          exact ht
        by_cases hc59 : (y18 &&& (255 : Int32)) = (187 : Int32)
        · have k60 : Go p.tables e below (T54.setTop (mkF m 185 #[.val (.int p0), .val (.int p1), .val (.int p2), .val (.int p3), .val (.int p4), .val (.int (3 : Int32)), .val (.int y17), .val (.int y18), .val (.int y19), .val (.ref b48), .unset, .unset] [(.int (187 : Int32)), (.int (y18 &&& (255 : Int32)))])) (T54.setTop (mkF m 197 #[.val (.int p0), .val (.int p1), .val (.int p2), .val (.int p3), .val (.int p4), .val (.int (3 : Int32)), .val (.int y17), .val (.int y18), .val (.int y19), .val (.ref b48), .unset, .unset] [(.int (191 : Int32)), (.int (y19 &&& (255 : Int32)))])) := by
            intro t ht
            refine XS.icmpNo X54.here hx rfl (hb hby at_185) rfl (teq hc59).2 ?_
            show Steps p.tables e below (T54.setTop (mkF m 188 #[.val (.int p0), .val (.int p1), .val (.int p2), .val (.int p3), .val (.int p4), .val (.int (3 : Int32)), .val (.int y17), .val (.int y18), .val (.int y19), .val (.ref b48), .unset, .unset] [])) _
            refine XS.iload X54.here hx rfl (hb hby at_188) rfl ?_
            show Steps p.tables e below (T54.setTop (mkF m 190 #[.val (.int p0), .val (.int p1), .val (.int p2), .val (.int p3), .val (.int p4), .val (.int (3 : Int32)), .val (.int y17), .val (.int y18), .val (.int y19), .val (.ref b48), .unset, .unset] [(.int y19)])) _
            refine XS.sipush X54.here hx rfl (hb hby at_190) ?_
            show Steps p.tables e below (T54.setTop (mkF m 193 #[.val (.int p0), .val (.int p1), .val (.int p2), .val (.int p3), .val (.int p4), .val (.int (3 : Int32)), .val (.int y17), .val (.int y18), .val (.int y19), .val (.ref b48), .unset, .unset] [(.int (255 : Int32)), (.int y19)])) _
            refine XS.iand X54.here hx rfl (hb hby at_193) rfl ?_
            show Steps p.tables e below (T54.setTop (mkF m 194 #[.val (.int p0), .val (.int p1), .val (.int p2), .val (.int p3), .val (.int p4), .val (.int (3 : Int32)), .val (.int y17), .val (.int y18), .val (.int y19), .val (.ref b48), .unset, .unset] [(.int (y19 &&& (255 : Int32)))])) _
            refine XS.sipush X54.here hx rfl (hb hby at_194) ?_
            exact ht
          by_cases hc61 : (y19 &&& (255 : Int32)) = (191 : Int32)
          · have k62 : Go p.tables e below (T54.setTop (mkF m 197 #[.val (.int p0), .val (.int p1), .val (.int p2), .val (.int p3), .val (.int p4), .val (.int (3 : Int32)), .val (.int y17), .val (.int y18), .val (.int y19), .val (.ref b48), .unset, .unset] [(.int (191 : Int32)), (.int (y19 &&& (255 : Int32)))])) (T54.setTop (mkF m 205 #[.val (.int p0), .val (.int p1), .val (.int p2), .val (.int p3), .val (.int p4), .val (.int (3 : Int32)), .val (.int y17), .val (.int y18), .val (.int y19), .val (.ref b48), .unset, .unset] [(.int (1 : Int32))])) := by
              intro t ht
              refine XS.icmpNo X54.here hx rfl (hb hby at_197) rfl (teq hc61).2 ?_
              show Steps p.tables e below (T54.setTop (mkF m 200 #[.val (.int p0), .val (.int p1), .val (.int p2), .val (.int p3), .val (.int p4), .val (.int (3 : Int32)), .val (.int y17), .val (.int y18), .val (.int y19), .val (.ref b48), .unset, .unset] [])) _
              refine XS.iconst X54.here hx rfl (hb hby at_200) ?_
              show Steps p.tables e below (T54.setTop (mkF m 201 #[.val (.int p0), .val (.int p1), .val (.int p2), .val (.int p3), .val (.int p4), .val (.int (3 : Int32)), .val (.int y17), .val (.int y18), .val (.int y19), .val (.ref b48), .unset, .unset] [(.int (1 : Int32))])) _
              refine XS.goto X54.here hx rfl (pc0 := 201) (pc' := 205) rfl (hb hby at_201) (by decide) (by decide) ?_
              exact ht
            have kk := (goT k58 (goT k60 k62))
            simpa only [if_pos hc57, if_pos hc59, if_pos hc61] using kk
          · have k63 : Go p.tables e below (T54.setTop (mkF m 197 #[.val (.int p0), .val (.int p1), .val (.int p2), .val (.int p3), .val (.int p4), .val (.int (3 : Int32)), .val (.int y17), .val (.int y18), .val (.int y19), .val (.ref b48), .unset, .unset] [(.int (191 : Int32)), (.int (y19 &&& (255 : Int32)))])) (T54.setTop (mkF m 205 #[.val (.int p0), .val (.int p1), .val (.int p2), .val (.int p3), .val (.int p4), .val (.int (3 : Int32)), .val (.int y17), .val (.int y18), .val (.int y19), .val (.ref b48), .unset, .unset] [(.int (0 : Int32))])) := by
              intro t ht
              refine XS.icmpYes X54.here hx rfl (pc0 := 197) (pc' := 204) rfl (hb hby at_197) rfl (feq hc61).2 (by decide) (by decide) ?_
              show Steps p.tables e below (T54.setTop (mkF m 204 #[.val (.int p0), .val (.int p1), .val (.int p2), .val (.int p3), .val (.int p4), .val (.int (3 : Int32)), .val (.int y17), .val (.int y18), .val (.int y19), .val (.ref b48), .unset, .unset] [])) _
              refine XS.iconst X54.here hx rfl (hb hby at_204) ?_
              exact ht
            have kk := (goT k58 (goT k60 k63))
            simpa only [if_pos hc57, if_pos hc59, if_neg hc61] using kk
        · have k64 : Go p.tables e below (T54.setTop (mkF m 185 #[.val (.int p0), .val (.int p1), .val (.int p2), .val (.int p3), .val (.int p4), .val (.int (3 : Int32)), .val (.int y17), .val (.int y18), .val (.int y19), .val (.ref b48), .unset, .unset] [(.int (187 : Int32)), (.int (y18 &&& (255 : Int32)))])) (T54.setTop (mkF m 205 #[.val (.int p0), .val (.int p1), .val (.int p2), .val (.int p3), .val (.int p4), .val (.int (3 : Int32)), .val (.int y17), .val (.int y18), .val (.int y19), .val (.ref b48), .unset, .unset] [(.int (0 : Int32))])) := by
            intro t ht
            refine XS.icmpYes X54.here hx rfl (pc0 := 185) (pc' := 204) rfl (hb hby at_185) rfl (feq hc59).2 (by decide) (by decide) ?_
            show Steps p.tables e below (T54.setTop (mkF m 204 #[.val (.int p0), .val (.int p1), .val (.int p2), .val (.int p3), .val (.int p4), .val (.int (3 : Int32)), .val (.int y17), .val (.int y18), .val (.int y19), .val (.ref b48), .unset, .unset] [])) _
            refine XS.iconst X54.here hx rfl (hb hby at_204) ?_
            exact ht
          have kk := (goT k58 k64)
          simpa only [if_pos hc57, if_neg hc59] using kk
      · have k65 : Go p.tables e below (T54.setTop (mkF m 173 #[.val (.int p0), .val (.int p1), .val (.int p2), .val (.int p3), .val (.int p4), .val (.int (3 : Int32)), .val (.int y17), .val (.int y18), .val (.int y19), .val (.ref b48), .unset, .unset] [(.int (239 : Int32)), (.int (y17 &&& (255 : Int32)))])) (T54.setTop (mkF m 205 #[.val (.int p0), .val (.int p1), .val (.int p2), .val (.int p3), .val (.int p4), .val (.int (3 : Int32)), .val (.int y17), .val (.int y18), .val (.int y19), .val (.ref b48), .unset, .unset] [(.int (0 : Int32))])) := by
          intro t ht
          refine XS.icmpYes X54.here hx rfl (pc0 := 173) (pc' := 204) rfl (hb hby at_173) rfl (feq hc57).2 (by decide) (by decide) ?_
          show Steps p.tables e below (T54.setTop (mkF m 204 #[.val (.int p0), .val (.int p1), .val (.int p2), .val (.int p3), .val (.int p4), .val (.int (3 : Int32)), .val (.int y17), .val (.int y18), .val (.int y19), .val (.ref b48), .unset, .unset] [])) _
          refine XS.iconst X54.here hx rfl (hb hby at_204) ?_
          exact ht
        have kk := k65
        simpa only [if_neg hc57] using kk
    have k66 : Go p.tables e below (T54.setTop (mkF m 205 #[.val (.int p0), .val (.int p1), .val (.int p2), .val (.int p3), .val (.int p4), .val (.int (3 : Int32)), .val (.int y17), .val (.int y18), .val (.int y19), .val (.ref b48), .unset, .unset] [(.int (if (y17 &&& (255 : Int32)) = (239 : Int32) then (if (y18 &&& (255 : Int32)) = (187 : Int32) then (if (y19 &&& (255 : Int32)) = (191 : Int32) then (1 : Int32) else (0 : Int32)) else (0 : Int32)) else (0 : Int32)))])) (T54.setTop (mkF m 209 #[.val (.int p0), .val (.int p1), .val (.int p2), .val (.int p3), .val (.int p4), .val (.int (3 : Int32)), .val (.int y17), .val (.int y18), .val (.int y19), .val (.ref b48), .val (.int (if (y17 &&& (255 : Int32)) = (239 : Int32) then (if (y18 &&& (255 : Int32)) = (187 : Int32) then (if (y19 &&& (255 : Int32)) = (191 : Int32) then (1 : Int32) else (0 : Int32)) else (0 : Int32)) else (0 : Int32))), .unset] [(.int (if (y17 &&& (255 : Int32)) = (239 : Int32) then (if (y18 &&& (255 : Int32)) = (187 : Int32) then (if (y19 &&& (255 : Int32)) = (191 : Int32) then (1 : Int32) else (0 : Int32)) else (0 : Int32)) else (0 : Int32)))])) := by
      intro t ht
      refine XS.istore X54.here hx rfl (hb hby at_205) rfl (l' := #[.val (.int p0), .val (.int p1), .val (.int p2), .val (.int p3), .val (.int p4), .val (.int (3 : Int32)), .val (.int y17), .val (.int y18), .val (.int y19), .val (.ref b48), .val (.int (if (y17 &&& (255 : Int32)) = (239 : Int32) then (if (y18 &&& (255 : Int32)) = (187 : Int32) then (if (y19 &&& (255 : Int32)) = (191 : Int32) then (1 : Int32) else (0 : Int32)) else (0 : Int32)) else (0 : Int32))), .unset]) rfl ?_
      show Steps p.tables e below (T54.setTop (mkF m 207 #[.val (.int p0), .val (.int p1), .val (.int p2), .val (.int p3), .val (.int p4), .val (.int (3 : Int32)), .val (.int y17), .val (.int y18), .val (.int y19), .val (.ref b48), .val (.int (if (y17 &&& (255 : Int32)) = (239 : Int32) then (if (y18 &&& (255 : Int32)) = (187 : Int32) then (if (y19 &&& (255 : Int32)) = (191 : Int32) then (1 : Int32) else (0 : Int32)) else (0 : Int32)) else (0 : Int32))), .unset] [])) _
      refine XS.iload X54.here hx rfl (hb hby at_207) rfl ?_
      exact ht
    have k67 : Go p.tables e below (T54.setTop (mkF m 209 #[.val (.int p0), .val (.int p1), .val (.int p2), .val (.int p3), .val (.int p4), .val (.int (3 : Int32)), .val (.int y17), .val (.int y18), .val (.int y19), .val (.ref b48), .val (.int (if (y17 &&& (255 : Int32)) = (239 : Int32) then (if (y18 &&& (255 : Int32)) = (187 : Int32) then (if (y19 &&& (255 : Int32)) = (191 : Int32) then (1 : Int32) else (0 : Int32)) else (0 : Int32)) else (0 : Int32))), .unset] [(.int (if (y17 &&& (255 : Int32)) = (239 : Int32) then (if (y18 &&& (255 : Int32)) = (187 : Int32) then (if (y19 &&& (255 : Int32)) = (191 : Int32) then (1 : Int32) else (0 : Int32)) else (0 : Int32)) else (0 : Int32)))])) (T54.setTop (mkF m 217 #[.val (.int p0), .val (.int p1), .val (.int p2), .val (.int p3), .val (.int p4), .val (.int (3 : Int32)), .val (.int y17), .val (.int y18), .val (.int y19), .val (.ref b48), .val (.int (if (y17 &&& (255 : Int32)) = (239 : Int32) then (if (y18 &&& (255 : Int32)) = (187 : Int32) then (if (y19 &&& (255 : Int32)) = (191 : Int32) then (1 : Int32) else (0 : Int32)) else (0 : Int32)) else (0 : Int32))), .unset] [(.int (if (y17 &&& (255 : Int32)) = (239 : Int32) then (if (y18 &&& (255 : Int32)) = (187 : Int32) then (if (y19 &&& (255 : Int32)) = (191 : Int32) then (3 : Int32) else (0 : Int32)) else (0 : Int32)) else (0 : Int32)))])) := by
      by_cases hc68 : (y17 &&& (255 : Int32)) = (239 : Int32)
      · have k69 : Go p.tables e below (T54.setTop (mkF m 209 #[.val (.int p0), .val (.int p1), .val (.int p2), .val (.int p3), .val (.int p4), .val (.int (3 : Int32)), .val (.int y17), .val (.int y18), .val (.int y19), .val (.ref b48), .val (.int (if (y17 &&& (255 : Int32)) = (239 : Int32) then (if (y18 &&& (255 : Int32)) = (187 : Int32) then (if (y19 &&& (255 : Int32)) = (191 : Int32) then (1 : Int32) else (0 : Int32)) else (0 : Int32)) else (0 : Int32))), .unset] [(.int (if (y17 &&& (255 : Int32)) = (239 : Int32) then (if (y18 &&& (255 : Int32)) = (187 : Int32) then (if (y19 &&& (255 : Int32)) = (191 : Int32) then (1 : Int32) else (0 : Int32)) else (0 : Int32)) else (0 : Int32)))])) (T54.setTop (mkF m 209 #[.val (.int p0), .val (.int p1), .val (.int p2), .val (.int p3), .val (.int p4), .val (.int (3 : Int32)), .val (.int y17), .val (.int y18), .val (.int y19), .val (.ref b48), .val (.int (if (y18 &&& (255 : Int32)) = (187 : Int32) then (if (y19 &&& (255 : Int32)) = (191 : Int32) then (1 : Int32) else (0 : Int32)) else (0 : Int32))), .unset] [(.int (if (y18 &&& (255 : Int32)) = (187 : Int32) then (if (y19 &&& (255 : Int32)) = (191 : Int32) then (1 : Int32) else (0 : Int32)) else (0 : Int32)))])) := by
          simp only [if_pos hc68]; exact fun _ h => h
        by_cases hc70 : (y18 &&& (255 : Int32)) = (187 : Int32)
        · have k71 : Go p.tables e below (T54.setTop (mkF m 209 #[.val (.int p0), .val (.int p1), .val (.int p2), .val (.int p3), .val (.int p4), .val (.int (3 : Int32)), .val (.int y17), .val (.int y18), .val (.int y19), .val (.ref b48), .val (.int (if (y18 &&& (255 : Int32)) = (187 : Int32) then (if (y19 &&& (255 : Int32)) = (191 : Int32) then (1 : Int32) else (0 : Int32)) else (0 : Int32))), .unset] [(.int (if (y18 &&& (255 : Int32)) = (187 : Int32) then (if (y19 &&& (255 : Int32)) = (191 : Int32) then (1 : Int32) else (0 : Int32)) else (0 : Int32)))])) (T54.setTop (mkF m 209 #[.val (.int p0), .val (.int p1), .val (.int p2), .val (.int p3), .val (.int p4), .val (.int (3 : Int32)), .val (.int y17), .val (.int y18), .val (.int y19), .val (.ref b48), .val (.int (if (y19 &&& (255 : Int32)) = (191 : Int32) then (1 : Int32) else (0 : Int32))), .unset] [(.int (if (y19 &&& (255 : Int32)) = (191 : Int32) then (1 : Int32) else (0 : Int32)))])) := by
            simp only [if_pos hc70]; exact fun _ h => h
          by_cases hc72 : (y19 &&& (255 : Int32)) = (191 : Int32)
          · have k73 : Go p.tables e below (T54.setTop (mkF m 209 #[.val (.int p0), .val (.int p1), .val (.int p2), .val (.int p3), .val (.int p4), .val (.int (3 : Int32)), .val (.int y17), .val (.int y18), .val (.int y19), .val (.ref b48), .val (.int (if (y19 &&& (255 : Int32)) = (191 : Int32) then (1 : Int32) else (0 : Int32))), .unset] [(.int (if (y19 &&& (255 : Int32)) = (191 : Int32) then (1 : Int32) else (0 : Int32)))])) (T54.setTop (mkF m 209 #[.val (.int p0), .val (.int p1), .val (.int p2), .val (.int p3), .val (.int p4), .val (.int (3 : Int32)), .val (.int y17), .val (.int y18), .val (.int y19), .val (.ref b48), .val (.int (1 : Int32)), .unset] [(.int (1 : Int32))])) := by
              simp only [if_pos hc72]; exact fun _ h => h
            have k74 : Go p.tables e below (T54.setTop (mkF m 209 #[.val (.int p0), .val (.int p1), .val (.int p2), .val (.int p3), .val (.int p4), .val (.int (3 : Int32)), .val (.int y17), .val (.int y18), .val (.int y19), .val (.ref b48), .val (.int (1 : Int32)), .unset] [(.int (1 : Int32))])) (T54.setTop (mkF m 217 #[.val (.int p0), .val (.int p1), .val (.int p2), .val (.int p3), .val (.int p4), .val (.int (3 : Int32)), .val (.int y17), .val (.int y18), .val (.int y19), .val (.ref b48), .val (.int (1 : Int32)), .unset] [(.int (3 : Int32))])) := by
              intro t ht
              refine XS.ifNo X54.here hx rfl (hb hby at_209) rfl ((if0 _ _).trans (feq (by decide : ¬ ((1 : Int32) = (0 : Int32)))).1) ?_
              show Steps p.tables e below (T54.setTop (mkF m 212 #[.val (.int p0), .val (.int p1), .val (.int p2), .val (.int p3), .val (.int p4), .val (.int (3 : Int32)), .val (.int y17), .val (.int y18), .val (.int y19), .val (.ref b48), .val (.int (1 : Int32)), .unset] [])) _
              refine XS.iconst X54.here hx rfl (hb hby at_212) ?_
              show Steps p.tables e below (T54.setTop (mkF m 213 #[.val (.int p0), .val (.int p1), .val (.int p2), .val (.int p3), .val (.int p4), .val (.int (3 : Int32)), .val (.int y17), .val (.int y18), .val (.int y19), .val (.ref b48), .val (.int (1 : Int32)), .unset] [(.int (3 : Int32))])) _
              refine XS.goto X54.here hx rfl (pc0 := 213) (pc' := 217) rfl (hb hby at_213) (by decide) (by decide) ?_
              exact ht
            have kk := (goT k69 (goT k71 (goT k73 k74)))
            simpa only [if_pos hc68, if_pos hc70, if_pos hc72] using kk
          · have k75 : Go p.tables e below (T54.setTop (mkF m 209 #[.val (.int p0), .val (.int p1), .val (.int p2), .val (.int p3), .val (.int p4), .val (.int (3 : Int32)), .val (.int y17), .val (.int y18), .val (.int y19), .val (.ref b48), .val (.int (if (y19 &&& (255 : Int32)) = (191 : Int32) then (1 : Int32) else (0 : Int32))), .unset] [(.int (if (y19 &&& (255 : Int32)) = (191 : Int32) then (1 : Int32) else (0 : Int32)))])) (T54.setTop (mkF m 209 #[.val (.int p0), .val (.int p1), .val (.int p2), .val (.int p3), .val (.int p4), .val (.int (3 : Int32)), .val (.int y17), .val (.int y18), .val (.int y19), .val (.ref b48), .val (.int (0 : Int32)), .unset] [(.int (0 : Int32))])) := by
              simp only [if_neg hc72]; exact fun _ h => h
            have k76 : Go p.tables e below (T54.setTop (mkF m 209 #[.val (.int p0), .val (.int p1), .val (.int p2), .val (.int p3), .val (.int p4), .val (.int (3 : Int32)), .val (.int y17), .val (.int y18), .val (.int y19), .val (.ref b48), .val (.int (0 : Int32)), .unset] [(.int (0 : Int32))])) (T54.setTop (mkF m 217 #[.val (.int p0), .val (.int p1), .val (.int p2), .val (.int p3), .val (.int p4), .val (.int (3 : Int32)), .val (.int y17), .val (.int y18), .val (.int y19), .val (.ref b48), .val (.int (0 : Int32)), .unset] [(.int (0 : Int32))])) := by
              intro t ht
              refine XS.ifYes X54.here hx rfl (pc0 := 209) (pc' := 216) rfl (hb hby at_209) rfl ((if0 _ _).trans (teq (by decide : (0 : Int32) = (0 : Int32))).1) (by decide) (by decide) ?_
              show Steps p.tables e below (T54.setTop (mkF m 216 #[.val (.int p0), .val (.int p1), .val (.int p2), .val (.int p3), .val (.int p4), .val (.int (3 : Int32)), .val (.int y17), .val (.int y18), .val (.int y19), .val (.ref b48), .val (.int (0 : Int32)), .unset] [])) _
              refine XS.iconst X54.here hx rfl (hb hby at_216) ?_
              exact ht
            have kk := (goT k69 (goT k71 (goT k75 k76)))
            simpa only [if_pos hc68, if_pos hc70, if_neg hc72] using kk
        · have k77 : Go p.tables e below (T54.setTop (mkF m 209 #[.val (.int p0), .val (.int p1), .val (.int p2), .val (.int p3), .val (.int p4), .val (.int (3 : Int32)), .val (.int y17), .val (.int y18), .val (.int y19), .val (.ref b48), .val (.int (if (y18 &&& (255 : Int32)) = (187 : Int32) then (if (y19 &&& (255 : Int32)) = (191 : Int32) then (1 : Int32) else (0 : Int32)) else (0 : Int32))), .unset] [(.int (if (y18 &&& (255 : Int32)) = (187 : Int32) then (if (y19 &&& (255 : Int32)) = (191 : Int32) then (1 : Int32) else (0 : Int32)) else (0 : Int32)))])) (T54.setTop (mkF m 209 #[.val (.int p0), .val (.int p1), .val (.int p2), .val (.int p3), .val (.int p4), .val (.int (3 : Int32)), .val (.int y17), .val (.int y18), .val (.int y19), .val (.ref b48), .val (.int (0 : Int32)), .unset] [(.int (0 : Int32))])) := by
            simp only [if_neg hc70]; exact fun _ h => h
          have k78 : Go p.tables e below (T54.setTop (mkF m 209 #[.val (.int p0), .val (.int p1), .val (.int p2), .val (.int p3), .val (.int p4), .val (.int (3 : Int32)), .val (.int y17), .val (.int y18), .val (.int y19), .val (.ref b48), .val (.int (0 : Int32)), .unset] [(.int (0 : Int32))])) (T54.setTop (mkF m 217 #[.val (.int p0), .val (.int p1), .val (.int p2), .val (.int p3), .val (.int p4), .val (.int (3 : Int32)), .val (.int y17), .val (.int y18), .val (.int y19), .val (.ref b48), .val (.int (0 : Int32)), .unset] [(.int (0 : Int32))])) := by
            intro t ht
            refine XS.ifYes X54.here hx rfl (pc0 := 209) (pc' := 216) rfl (hb hby at_209) rfl ((if0 _ _).trans (teq (by decide : (0 : Int32) = (0 : Int32))).1) (by decide) (by decide) ?_
            show Steps p.tables e below (T54.setTop (mkF m 216 #[.val (.int p0), .val (.int p1), .val (.int p2), .val (.int p3), .val (.int p4), .val (.int (3 : Int32)), .val (.int y17), .val (.int y18), .val (.int y19), .val (.ref b48), .val (.int (0 : Int32)), .unset] [])) _
            refine XS.iconst X54.here hx rfl (hb hby at_216) ?_
            exact ht
          have kk := (goT k69 (goT k77 k78))
          simpa only [if_pos hc68, if_neg hc70] using kk
      · have k79 : Go p.tables e below (T54.setTop (mkF m 209 #[.val (.int p0), .val (.int p1), .val (.int p2), .val (.int p3), .val (.int p4), .val (.int (3 : Int32)), .val (.int y17), .val (.int y18), .val (.int y19), .val (.ref b48), .val (.int (if (y17 &&& (255 : Int32)) = (239 : Int32) then (if (y18 &&& (255 : Int32)) = (187 : Int32) then (if (y19 &&& (255 : Int32)) = (191 : Int32) then (1 : Int32) else (0 : Int32)) else (0 : Int32)) else (0 : Int32))), .unset] [(.int (if (y17 &&& (255 : Int32)) = (239 : Int32) then (if (y18 &&& (255 : Int32)) = (187 : Int32) then (if (y19 &&& (255 : Int32)) = (191 : Int32) then (1 : Int32) else (0 : Int32)) else (0 : Int32)) else (0 : Int32)))])) (T54.setTop (mkF m 209 #[.val (.int p0), .val (.int p1), .val (.int p2), .val (.int p3), .val (.int p4), .val (.int (3 : Int32)), .val (.int y17), .val (.int y18), .val (.int y19), .val (.ref b48), .val (.int (0 : Int32)), .unset] [(.int (0 : Int32))])) := by
          simp only [if_neg hc68]; exact fun _ h => h
        have k80 : Go p.tables e below (T54.setTop (mkF m 209 #[.val (.int p0), .val (.int p1), .val (.int p2), .val (.int p3), .val (.int p4), .val (.int (3 : Int32)), .val (.int y17), .val (.int y18), .val (.int y19), .val (.ref b48), .val (.int (0 : Int32)), .unset] [(.int (0 : Int32))])) (T54.setTop (mkF m 217 #[.val (.int p0), .val (.int p1), .val (.int p2), .val (.int p3), .val (.int p4), .val (.int (3 : Int32)), .val (.int y17), .val (.int y18), .val (.int y19), .val (.ref b48), .val (.int (0 : Int32)), .unset] [(.int (0 : Int32))])) := by
          intro t ht
          refine XS.ifYes X54.here hx rfl (pc0 := 209) (pc' := 216) rfl (hb hby at_209) rfl ((if0 _ _).trans (teq (by decide : (0 : Int32) = (0 : Int32))).1) (by decide) (by decide) ?_
          show Steps p.tables e below (T54.setTop (mkF m 216 #[.val (.int p0), .val (.int p1), .val (.int p2), .val (.int p3), .val (.int p4), .val (.int (3 : Int32)), .val (.int y17), .val (.int y18), .val (.int y19), .val (.ref b48), .val (.int (0 : Int32)), .unset] [])) _
          refine XS.iconst X54.here hx rfl (hb hby at_216) ?_
          exact ht
        have kk := (goT k79 k80)
        simpa only [if_neg hc68] using kk
    have k81 : Go p.tables e below (T54.setTop (mkF m 217 #[.val (.int p0), .val (.int p1), .val (.int p2), .val (.int p3), .val (.int p4), .val (.int (3 : Int32)), .val (.int y17), .val (.int y18), .val (.int y19), .val (.ref b48), .val (.int (if (y17 &&& (255 : Int32)) = (239 : Int32) then (if (y18 &&& (255 : Int32)) = (187 : Int32) then (if (y19 &&& (255 : Int32)) = (191 : Int32) then (1 : Int32) else (0 : Int32)) else (0 : Int32)) else (0 : Int32))), .unset] [(.int (if (y17 &&& (255 : Int32)) = (239 : Int32) then (if (y18 &&& (255 : Int32)) = (187 : Int32) then (if (y19 &&& (255 : Int32)) = (191 : Int32) then (3 : Int32) else (0 : Int32)) else (0 : Int32)) else (0 : Int32)))])) (T54.setTop (mkF m 221 #[.val (.int p0), .val (.int p1), .val (.int p2), .val (.int p3), .val (.int p4), .val (.int (3 : Int32)), .val (.int y17), .val (.int y18), .val (.int y19), .val (.ref b48), .val (.int (if (y17 &&& (255 : Int32)) = (239 : Int32) then (if (y18 &&& (255 : Int32)) = (187 : Int32) then (if (y19 &&& (255 : Int32)) = (191 : Int32) then (1 : Int32) else (0 : Int32)) else (0 : Int32)) else (0 : Int32))), .val (.int (if (y17 &&& (255 : Int32)) = (239 : Int32) then (if (y18 &&& (255 : Int32)) = (187 : Int32) then (if (y19 &&& (255 : Int32)) = (191 : Int32) then (3 : Int32) else (0 : Int32)) else (0 : Int32)) else (0 : Int32)))] [(.ref b48)])) := by
      intro t ht
      refine XS.istore X54.here hx rfl (hb hby at_217) rfl (l' := #[.val (.int p0), .val (.int p1), .val (.int p2), .val (.int p3), .val (.int p4), .val (.int (3 : Int32)), .val (.int y17), .val (.int y18), .val (.int y19), .val (.ref b48), .val (.int (if (y17 &&& (255 : Int32)) = (239 : Int32) then (if (y18 &&& (255 : Int32)) = (187 : Int32) then (if (y19 &&& (255 : Int32)) = (191 : Int32) then (1 : Int32) else (0 : Int32)) else (0 : Int32)) else (0 : Int32))), .val (.int (if (y17 &&& (255 : Int32)) = (239 : Int32) then (if (y18 &&& (255 : Int32)) = (187 : Int32) then (if (y19 &&& (255 : Int32)) = (191 : Int32) then (3 : Int32) else (0 : Int32)) else (0 : Int32)) else (0 : Int32)))]) rfl ?_
      show Steps p.tables e below (T54.setTop (mkF m 219 #[.val (.int p0), .val (.int p1), .val (.int p2), .val (.int p3), .val (.int p4), .val (.int (3 : Int32)), .val (.int y17), .val (.int y18), .val (.int y19), .val (.ref b48), .val (.int (if (y17 &&& (255 : Int32)) = (239 : Int32) then (if (y18 &&& (255 : Int32)) = (187 : Int32) then (if (y19 &&& (255 : Int32)) = (191 : Int32) then (1 : Int32) else (0 : Int32)) else (0 : Int32)) else (0 : Int32))), .val (.int (if (y17 &&& (255 : Int32)) = (239 : Int32) then (if (y18 &&& (255 : Int32)) = (187 : Int32) then (if (y19 &&& (255 : Int32)) = (191 : Int32) then (3 : Int32) else (0 : Int32)) else (0 : Int32)) else (0 : Int32)))] [])) _
      refine XS.aload X54.here hx rfl (hb hby at_219) rfl rfl ?_
      exact ht
    obtain ⟨_, _, ⟨T82, L82, kq82, n82⟩, -, X82, ⟨Lc82, hQ82, l82, y82, z82⟩, st82⟩ := Jvm.LawKit.callS X54 hx (y := (⟨"com/example/role_conflict_finder/roleconflictfinder/Utf8Text", "start", "([B)I"⟩ : MethodName)) hown (mvT hZ (hw _ (List.mem_of_getElem? (i := 1) rfl))) (mvT hZ (hw _ (List.mem_of_getElem? (i := 2) rfl))) (mvT hZ (hw _ (List.mem_of_getElem? (i := 3) rfl))) (mvT hZ (hw _ (List.mem_of_getElem? (i := 4) rfl))) (by decide) (backOf (W := 0) (rm_longer l Z a0 hw [] b48 wM kc48 (3 : Int32) (nar .byte y17) (nar .byte y18) (nar .byte y19) [] kM h54 n0 Z54 S_M_c_54 V54_b48 V_M_c_54 (by decide : ¬ ((3 : Int32) < (3 : Int32)))) hZ (hw _ (List.mem_of_getElem? (i := 4) rfl)) (hw _ (List.mem_of_getElem? (i := 3) rfl)) (by decide) (by decide)) (g := (mkF m 221 #[.val (.int p0), .val (.int p1), .val (.int p2), .val (.int p3), .val (.int p4), .val (.int (3 : Int32)), .val (.int y17), .val (.int y18), .val (.int y19), .val (.ref b48), .val (.int (if (y17 &&& (255 : Int32)) = (239 : Int32) then (if (y18 &&& (255 : Int32)) = (187 : Int32) then (if (y19 &&& (255 : Int32)) = (191 : Int32) then (1 : Int32) else (0 : Int32)) else (0 : Int32)) else (0 : Int32))), .val (.int (if (y17 &&& (255 : Int32)) = (239 : Int32) then (if (y18 &&& (255 : Int32)) = (187 : Int32) then (if (y19 &&& (255 : Int32)) = (191 : Int32) then (3 : Int32) else (0 : Int32)) else (0 : Int32)) else (0 : Int32)))] [(.ref b48)])) rfl (by rw [hml]; rfl) (argsL := [(.ref b48)]) (rest := []) (lenOf pd_0 rfl) rfl (by show 2 * 0 + _ ≤ _; exact Nat.le_of_eq rfl) (hb hby at_221) (fun _ _ => ⟨rfl, e54, (by decide : 1 + 0 ≤ _), (by decide : 3 + 0 ≤ _)⟩)
    dsimp only [Pt.U, Pt.locs, Pt.cells, Pt.slots] at X82 l82 y82 z82 st82 hQ82
    subst l82 y82 z82
    obtain ⟨rfl, N82q, eq82⟩ := hQ82
    have N82 := Fr.app N54 N82q
    have k82 : Go p.tables e below (T54.setTop (mkF m 221 #[.val (.int p0), .val (.int p1), .val (.int p2), .val (.int p3), .val (.int p4), .val (.int (3 : Int32)), .val (.int y17), .val (.int y18), .val (.int y19), .val (.ref b48), .val (.int (if (y17 &&& (255 : Int32)) = (239 : Int32) then (if (y18 &&& (255 : Int32)) = (187 : Int32) then (if (y19 &&& (255 : Int32)) = (191 : Int32) then (1 : Int32) else (0 : Int32)) else (0 : Int32)) else (0 : Int32))), .val (.int (if (y17 &&& (255 : Int32)) = (239 : Int32) then (if (y18 &&& (255 : Int32)) = (187 : Int32) then (if (y19 &&& (255 : Int32)) = (191 : Int32) then (3 : Int32) else (0 : Int32)) else (0 : Int32)) else (0 : Int32)))] [(.ref b48)])) (T82.setTop (mkF m 224 #[.val (.int p0), .val (.int p1), .val (.int p2), .val (.int p3), .val (.int p4), .val (.int (3 : Int32)), .val (.int y17), .val (.int y18), .val (.int y19), .val (.ref b48), .val (.int (if (y17 &&& (255 : Int32)) = (239 : Int32) then (if (y18 &&& (255 : Int32)) = (187 : Int32) then (if (y19 &&& (255 : Int32)) = (191 : Int32) then (1 : Int32) else (0 : Int32)) else (0 : Int32)) else (0 : Int32))), .val (.int (if (y17 &&& (255 : Int32)) = (239 : Int32) then (if (y18 &&& (255 : Int32)) = (187 : Int32) then (if (y19 &&& (255 : Int32)) = (191 : Int32) then (3 : Int32) else (0 : Int32)) else (0 : Int32)) else (0 : Int32)))] [(.int (f_longer (nar .byte y17) (nar .byte y18) (nar .byte y19)))])) := st82
    have k83 : Go p.tables e below (T82.setTop (mkF m 224 #[.val (.int p0), .val (.int p1), .val (.int p2), .val (.int p3), .val (.int p4), .val (.int (3 : Int32)), .val (.int y17), .val (.int y18), .val (.int y19), .val (.ref b48), .val (.int (if (y17 &&& (255 : Int32)) = (239 : Int32) then (if (y18 &&& (255 : Int32)) = (187 : Int32) then (if (y19 &&& (255 : Int32)) = (191 : Int32) then (1 : Int32) else (0 : Int32)) else (0 : Int32)) else (0 : Int32))), .val (.int (if (y17 &&& (255 : Int32)) = (239 : Int32) then (if (y18 &&& (255 : Int32)) = (187 : Int32) then (if (y19 &&& (255 : Int32)) = (191 : Int32) then (3 : Int32) else (0 : Int32)) else (0 : Int32)) else (0 : Int32)))] [(.int (f_longer (nar .byte y17) (nar .byte y18) (nar .byte y19)))])) (T82.setTop (mkF m 234 #[.val (.int p0), .val (.int p1), .val (.int p2), .val (.int p3), .val (.int p4), .val (.int (3 : Int32)), .val (.int y17), .val (.int y18), .val (.int y19), .val (.ref b48), .val (.int (if (y17 &&& (255 : Int32)) = (239 : Int32) then (if (y18 &&& (255 : Int32)) = (187 : Int32) then (if (y19 &&& (255 : Int32)) = (191 : Int32) then (1 : Int32) else (0 : Int32)) else (0 : Int32)) else (0 : Int32))), .val (.int (if (y17 &&& (255 : Int32)) = (239 : Int32) then (if (y18 &&& (255 : Int32)) = (187 : Int32) then (if (y19 &&& (255 : Int32)) = (191 : Int32) then (3 : Int32) else (0 : Int32)) else (0 : Int32)) else (0 : Int32)))] [(.int (1 : Int32))])) := by
      intro t ht
      refine XS.iload X82.here hx rfl (hb hby at_224) rfl ?_
      show Steps p.tables e below (T82.setTop (mkF m 226 #[.val (.int p0), .val (.int p1), .val (.int p2), .val (.int p3), .val (.int p4), .val (.int (3 : Int32)), .val (.int y17), .val (.int y18), .val (.int y19), .val (.ref b48), .val (.int (if (y17 &&& (255 : Int32)) = (239 : Int32) then (if (y18 &&& (255 : Int32)) = (187 : Int32) then (if (y19 &&& (255 : Int32)) = (191 : Int32) then (1 : Int32) else (0 : Int32)) else (0 : Int32)) else (0 : Int32))), .val (.int (if (y17 &&& (255 : Int32)) = (239 : Int32) then (if (y18 &&& (255 : Int32)) = (187 : Int32) then (if (y19 &&& (255 : Int32)) = (191 : Int32) then (3 : Int32) else (0 : Int32)) else (0 : Int32)) else (0 : Int32)))] [(.int (if (y17 &&& (255 : Int32)) = (239 : Int32) then (if (y18 &&& (255 : Int32)) = (187 : Int32) then (if (y19 &&& (255 : Int32)) = (191 : Int32) then (3 : Int32) else (0 : Int32)) else (0 : Int32)) else (0 : Int32))), (.int (f_longer (nar .byte y17) (nar .byte y18) (nar .byte y19)))])) _
      refine XS.icmpNo X82.here hx rfl (hb hby at_226) rfl (teq (own_law _ _ _ : (f_longer (nar .byte y17) (nar .byte y18) (nar .byte y19)) = (if (y17 &&& (255 : Int32)) = (239 : Int32) then (if (y18 &&& (255 : Int32)) = (187 : Int32) then (if (y19 &&& (255 : Int32)) = (191 : Int32) then (3 : Int32) else (0 : Int32)) else (0 : Int32)) else (0 : Int32)))).2 ?_
      show Steps p.tables e below (T82.setTop (mkF m 229 #[.val (.int p0), .val (.int p1), .val (.int p2), .val (.int p3), .val (.int p4), .val (.int (3 : Int32)), .val (.int y17), .val (.int y18), .val (.int y19), .val (.ref b48), .val (.int (if (y17 &&& (255 : Int32)) = (239 : Int32) then (if (y18 &&& (255 : Int32)) = (187 : Int32) then (if (y19 &&& (255 : Int32)) = (191 : Int32) then (1 : Int32) else (0 : Int32)) else (0 : Int32)) else (0 : Int32))), .val (.int (if (y17 &&& (255 : Int32)) = (239 : Int32) then (if (y18 &&& (255 : Int32)) = (187 : Int32) then (if (y19 &&& (255 : Int32)) = (191 : Int32) then (3 : Int32) else (0 : Int32)) else (0 : Int32)) else (0 : Int32)))] [])) _
      refine XS.iconst X82.here hx rfl (hb hby at_229) ?_
      show Steps p.tables e below (T82.setTop (mkF m 230 #[.val (.int p0), .val (.int p1), .val (.int p2), .val (.int p3), .val (.int p4), .val (.int (3 : Int32)), .val (.int y17), .val (.int y18), .val (.int y19), .val (.ref b48), .val (.int (if (y17 &&& (255 : Int32)) = (239 : Int32) then (if (y18 &&& (255 : Int32)) = (187 : Int32) then (if (y19 &&& (255 : Int32)) = (191 : Int32) then (1 : Int32) else (0 : Int32)) else (0 : Int32)) else (0 : Int32))), .val (.int (if (y17 &&& (255 : Int32)) = (239 : Int32) then (if (y18 &&& (255 : Int32)) = (187 : Int32) then (if (y19 &&& (255 : Int32)) = (191 : Int32) then (3 : Int32) else (0 : Int32)) else (0 : Int32)) else (0 : Int32)))] [(.int (1 : Int32))])) _
      refine XS.goto X82.here hx rfl (pc0 := 230) (pc' := 234) rfl (hb hby at_230) (by decide) (by decide) ?_
      exact ht
    obtain ⟨fs, hr, hrun, hended, hW, hsame⟩ := X82.leave (v := some (.int (1 : Int32))) (fun h => by rw [Bd.returns] at h; cases h)
    refine ⟨_, _, pre0 _ ((goT k1 (goT k2 (goT k6 (goT k7 (goT k11 (goT k12 (goT k16 (goT k20 (goT k46 (goT k47 (goT k48 (goT k49 (goT k50 (goT k51 (goT k52 (goT k53 (goT k54 (goT k55 (goT k56 (goT k66 (goT k67 (goT k81 (goT k82 k83))))))))))))))))))))))) _ (retN X82 hx (t := .boolean) Bd.returns (by simp) (hb hby at_234) hr)), hrun, hended, _, _, rfl, ?_, ⟨_, rfl⟩, hW, hsame.mono (by decide) (by decide)⟩
    show Q_law Z p0 p1 p2 p3 p4 wM kM h0 n0 _ T82.heap _
    rw [eq82]
    exact ⟨rfl, N82⟩
  · have k84 : Go p.tables e below (s₁.setTop (mkF m 54 #[.val (.int p0), .val (.int p1), .val (.int p2), .val (.int p3), .val (.int p4), .val (.int (p0 &&& (7 : Int32))), .val (.int y17), .val (.int y18), .val (.int y19), .unset, .unset, .unset] [])) (s₁.setTop (mkF m 54 #[.val (.int p0), .val (.int p1), .val (.int p2), .val (.int p3), .val (.int p4), .val (.int (4 : Int32)), .val (.int y17), .val (.int y18), .val (.int y19), .unset, .unset, .unset] [])) := by rw [hk21]; exact fun _ h => h
    have k85 : Go p.tables e below (s₁.setTop (mkF m 54 #[.val (.int p0), .val (.int p1), .val (.int p2), .val (.int p3), .val (.int p4), .val (.int (4 : Int32)), .val (.int y17), .val (.int y18), .val (.int y19), .unset, .unset, .unset] [])) (s₁.setTop (mkF m 56 #[.val (.int p0), .val (.int p1), .val (.int p2), .val (.int p3), .val (.int p4), .val (.int (4 : Int32)), .val (.int y17), .val (.int y18), .val (.int y19), .unset, .unset, .unset] [(.int (4 : Int32))])) := by
      intro t ht
      refine XS.iload X0.here hx rfl (hb hby at_54) rfl ?_
      exact ht
    obtain ⟨T86, h86, kc86, X86, e86, E86, A86, st86⟩ := newP X0 hx hZ (hw _ (List.mem_of_getElem? (i := 0) rfl)) e0 (g := (mkF m 56 #[.val (.int p0), .val (.int p1), .val (.int p2), .val (.int p3), .val (.int p4), .val (.int (4 : Int32)), .val (.int y17), .val (.int y18), .val (.int y19), .unset, .unset, .unset] [(.int (4 : Int32))])) rfl (hb hby at_56) rfl (by decide) (cap := 4) (by decide) (by decide) (by decide) (by decide)
    obtain ⟨b86, g86⟩ : ∃ z, z = h0.size := ⟨_, rfl⟩
    rw [← g86] at A86 st86
    have g_b86 : n0 ≤ b86 := Nat.le_trans Z0 (Nat.le_of_eq g86.symm)
    have sz_b86 : h0.size ≤ b86 := Nat.le_trans (Keep.refl h0 []).1 (Nat.le_of_eq g86.symm)
    have ne_wM_b86 : wM ≠ b86 := Nat.ne_of_lt (Nat.lt_of_lt_of_le V_M.lt (Nat.le_of_eq g86.symm))
    have Kp86 : Keep h0 h86 [] := (Keep.refl h0 []).ext E86
    have Z86 : n0 ≤ h86.size := Nat.le_trans Z0 E86.1
    have S_M_c_86 := S_M.ext E86
    have V_M_c_86 := V_M.ext E86
    have V_b86 : Arv Z h86 b86 kc86 .byte (4 : Int32) [(.int (0 : Int32)), (.int (0 : Int32)), (.int (0 : Int32)), (.int (0 : Int32))] (.int (0 : Int32)) := (Arv.new A86 (by decide)).pad (pad_rep [] (.int (0 : Int32)) 4)
    have k86 : Go p.tables e below (s₁.setTop (mkF m 56 #[.val (.int p0), .val (.int p1), .val (.int p2), .val (.int p3), .val (.int p4), .val (.int (4 : Int32)), .val (.int y17), .val (.int y18), .val (.int y19), .unset, .unset, .unset] [(.int (4 : Int32))])) (T86.setTop (mkF m 58 #[.val (.int p0), .val (.int p1), .val (.int p2), .val (.int p3), .val (.int p4), .val (.int (4 : Int32)), .val (.int y17), .val (.int y18), .val (.int y19), .unset, .unset, .unset] [(.ref b86)])) := st86
    have k87 : Go p.tables e below (T86.setTop (mkF m 58 #[.val (.int p0), .val (.int p1), .val (.int p2), .val (.int p3), .val (.int p4), .val (.int (4 : Int32)), .val (.int y17), .val (.int y18), .val (.int y19), .unset, .unset, .unset] [(.ref b86)])) (T86.setTop (mkF m 70 #[.val (.int p0), .val (.int p1), .val (.int p2), .val (.int p3), .val (.int p4), .val (.int (4 : Int32)), .val (.int y17), .val (.int y18), .val (.int y19), .val (.ref b86), .unset, .unset] [(.int y17), (.int (0 : Int32)), (.ref b86)])) := by
      intro t ht
      refine XS.astore X86.here hx rfl (hb hby at_58) rfl rfl (l' := #[.val (.int p0), .val (.int p1), .val (.int p2), .val (.int p3), .val (.int p4), .val (.int (4 : Int32)), .val (.int y17), .val (.int y18), .val (.int y19), .val (.ref b86), .unset, .unset]) rfl ?_
      show Steps p.tables e below (T86.setTop (mkF m 60 #[.val (.int p0), .val (.int p1), .val (.int p2), .val (.int p3), .val (.int p4), .val (.int (4 : Int32)), .val (.int y17), .val (.int y18), .val (.int y19), .val (.ref b86), .unset, .unset] [])) _
      refine XS.iload X86.here hx rfl (hb hby at_60) rfl ?_
      show Steps p.tables e below (T86.setTop (mkF m 62 #[.val (.int p0), .val (.int p1), .val (.int p2), .val (.int p3), .val (.int p4), .val (.int (4 : Int32)), .val (.int y17), .val (.int y18), .val (.int y19), .val (.ref b86), .unset, .unset] [(.int (4 : Int32))])) _
      refine XS.ifNo X86.here hx rfl (hb hby at_62) rfl ((if0 _ _).trans (tlt (by decide : (0 : Int32) < (4 : Int32))).2.2.2) ?_
      show Steps p.tables e below (T86.setTop (mkF m 65 #[.val (.int p0), .val (.int p1), .val (.int p2), .val (.int p3), .val (.int p4), .val (.int (4 : Int32)), .val (.int y17), .val (.int y18), .val (.int y19), .val (.ref b86), .unset, .unset] [])) _
      refine XS.aload X86.here hx rfl (hb hby at_65) rfl rfl ?_
      show Steps p.tables e below (T86.setTop (mkF m 67 #[.val (.int p0), .val (.int p1), .val (.int p2), .val (.int p3), .val (.int p4), .val (.int (4 : Int32)), .val (.int y17), .val (.int y18), .val (.int y19), .val (.ref b86), .unset, .unset] [(.ref b86)])) _
      refine XS.iconst X86.here hx rfl (hb hby at_67) ?_
      show Steps p.tables e below (T86.setTop (mkF m 68 #[.val (.int p0), .val (.int p1), .val (.int p2), .val (.int p3), .val (.int p4), .val (.int (4 : Int32)), .val (.int y17), .val (.int y18), .val (.int y19), .val (.ref b86), .unset, .unset] [(.int (0 : Int32)), (.ref b86)])) _
      refine XS.iload X86.here hx rfl (hb hby at_68) rfl ?_
      exact ht
    obtain ⟨cl88, Ar88, q88, S88, M88, H88, G88⟩ := id V_b86
    have hin88 : ¬ ((0 : Int32) < 0 ∨ cl88.slots.size ≤ ((0 : Int32)).toNatClampNeg) := inb_of S88 ⟨by decide, by decide⟩
    obtain ⟨T88, h88, X88, e88, W88, st88⟩ := stB X86 hx hZ e86 Ar88 (j := (0 : Int32)) hin88 (g := (mkF m 70 #[.val (.int p0), .val (.int p1), .val (.int p2), .val (.int p3), .val (.int p4), .val (.int (4 : Int32)), .val (.int y17), .val (.int y18), .val (.int y19), .val (.ref b86), .unset, .unset] [(.int y17), (.int (0 : Int32)), (.ref b86)])) rfl rfl (hb hby at_70)
    have V88_b86 : Arv Z h88 b86 kc86 .byte (4 : Int32) [(.int (nar .byte y17)), (.int (0 : Int32)), (.int (0 : Int32)), (.int (0 : Int32))] (.int (0 : Int32)) := Arv.set Ar88 q88 S88 M88 H88 G88 (fits_nar_byte _) W88 0 rfl (Nat.le_of_ble_eq_true rfl)
    have Kp88 : Keep h0 h88 [] := Kp86.wr W88 (Or.inr sz_b86)
    have Z88 : n0 ≤ h88.size := Nat.le_trans Z86 (Keep.of_wr W88).1
    have S_M_c_88 := S_M_c_86.wr W88
    have V_M_c_88 := V_M_c_86.other W88 ne_wM_b86
    have k88 : Go p.tables e below (T86.setTop (mkF m 70 #[.val (.int p0), .val (.int p1), .val (.int p2), .val (.int p3), .val (.int p4), .val (.int (4 : Int32)), .val (.int y17), .val (.int y18), .val (.int y19), .val (.ref b86), .unset, .unset] [(.int y17), (.int (0 : Int32)), (.ref b86)])) (T88.setTop (mkF m 71 #[.val (.int p0), .val (.int p1), .val (.int p2), .val (.int p3), .val (.int p4), .val (.int (4 : Int32)), .val (.int y17), .val (.int y18), .val (.int y19), .val (.ref b86), .unset, .unset] [])) := st88
    have N88 := Fr.snoc X88 N0 g_b86
    have k89 : Go p.tables e below (T88.setTop (mkF m 71 #[.val (.int p0), .val (.int p1), .val (.int p2), .val (.int p3), .val (.int p4), .val (.int (4 : Int32)), .val (.int y17), .val (.int y18), .val (.int y19), .val (.ref b86), .unset, .unset] [])) (T88.setTop (mkF m 82 #[.val (.int p0), .val (.int p1), .val (.int p2), .val (.int p3), .val (.int p4), .val (.int (4 : Int32)), .val (.int y17), .val (.int y18), .val (.int y19), .val (.ref b86), .unset, .unset] [(.int y18), (.int (1 : Int32)), (.ref b86)])) := by
      intro t ht
      refine XS.iload X88.here hx rfl (hb hby at_71) rfl ?_
      show Steps p.tables e below (T88.setTop (mkF m 73 #[.val (.int p0), .val (.int p1), .val (.int p2), .val (.int p3), .val (.int p4), .val (.int (4 : Int32)), .val (.int y17), .val (.int y18), .val (.int y19), .val (.ref b86), .unset, .unset] [(.int (4 : Int32))])) _
      refine XS.iconst X88.here hx rfl (hb hby at_73) ?_
      show Steps p.tables e below (T88.setTop (mkF m 74 #[.val (.int p0), .val (.int p1), .val (.int p2), .val (.int p3), .val (.int p4), .val (.int (4 : Int32)), .val (.int y17), .val (.int y18), .val (.int y19), .val (.ref b86), .unset, .unset] [(.int (1 : Int32)), (.int (4 : Int32))])) _
      refine XS.icmpNo X88.here hx rfl (hb hby at_74) rfl (tlt (by decide : (1 : Int32) < (4 : Int32))).2.2.2 ?_
      show Steps p.tables e below (T88.setTop (mkF m 77 #[.val (.int p0), .val (.int p1), .val (.int p2), .val (.int p3), .val (.int p4), .val (.int (4 : Int32)), .val (.int y17), .val (.int y18), .val (.int y19), .val (.ref b86), .unset, .unset] [])) _
      refine XS.aload X88.here hx rfl (hb hby at_77) rfl rfl ?_
      show Steps p.tables e below (T88.setTop (mkF m 79 #[.val (.int p0), .val (.int p1), .val (.int p2), .val (.int p3), .val (.int p4), .val (.int (4 : Int32)), .val (.int y17), .val (.int y18), .val (.int y19), .val (.ref b86), .unset, .unset] [(.ref b86)])) _
      refine XS.iconst X88.here hx rfl (hb hby at_79) ?_
      show Steps p.tables e below (T88.setTop (mkF m 80 #[.val (.int p0), .val (.int p1), .val (.int p2), .val (.int p3), .val (.int p4), .val (.int (4 : Int32)), .val (.int y17), .val (.int y18), .val (.int y19), .val (.ref b86), .unset, .unset] [(.int (1 : Int32)), (.ref b86)])) _
      refine XS.iload X88.here hx rfl (hb hby at_80) rfl ?_
      exact ht
    obtain ⟨cl90, Ar90, q90, S90, M90, H90, G90⟩ := id V88_b86
    have hin90 : ¬ ((1 : Int32) < 0 ∨ cl90.slots.size ≤ ((1 : Int32)).toNatClampNeg) := inb_of S90 ⟨by decide, by decide⟩
    obtain ⟨T90, h90, X90, e90, W90, st90⟩ := stB X88 hx hZ e88 Ar90 (j := (1 : Int32)) hin90 (g := (mkF m 82 #[.val (.int p0), .val (.int p1), .val (.int p2), .val (.int p3), .val (.int p4), .val (.int (4 : Int32)), .val (.int y17), .val (.int y18), .val (.int y19), .val (.ref b86), .unset, .unset] [(.int y18), (.int (1 : Int32)), (.ref b86)])) rfl rfl (hb hby at_82)
    have V90_b86 : Arv Z h90 b86 kc86 .byte (4 : Int32) [(.int (nar .byte y17)), (.int (nar .byte y18)), (.int (0 : Int32)), (.int (0 : Int32))] (.int (0 : Int32)) := Arv.set Ar90 q90 S90 M90 H90 G90 (fits_nar_byte _) W90 1 rfl (Nat.le_of_ble_eq_true rfl)
    have Kp90 : Keep h0 h90 [] := Kp88.wr W90 (Or.inr sz_b86)
    have Z90 : n0 ≤ h90.size := Nat.le_trans Z88 (Keep.of_wr W90).1
    have S_M_c_90 := S_M_c_88.wr W90
    have V_M_c_90 := V_M_c_88.other W90 ne_wM_b86
    have k90 : Go p.tables e below (T88.setTop (mkF m 82 #[.val (.int p0), .val (.int p1), .val (.int p2), .val (.int p3), .val (.int p4), .val (.int (4 : Int32)), .val (.int y17), .val (.int y18), .val (.int y19), .val (.ref b86), .unset, .unset] [(.int y18), (.int (1 : Int32)), (.ref b86)])) (T90.setTop (mkF m 83 #[.val (.int p0), .val (.int p1), .val (.int p2), .val (.int p3), .val (.int p4), .val (.int (4 : Int32)), .val (.int y17), .val (.int y18), .val (.int y19), .val (.ref b86), .unset, .unset] [])) := st90
    have N90 := Fr.snoc X90 N88 g_b86
    have k91 : Go p.tables e below (T90.setTop (mkF m 83 #[.val (.int p0), .val (.int p1), .val (.int p2), .val (.int p3), .val (.int p4), .val (.int (4 : Int32)), .val (.int y17), .val (.int y18), .val (.int y19), .val (.ref b86), .unset, .unset] [])) (T90.setTop (mkF m 94 #[.val (.int p0), .val (.int p1), .val (.int p2), .val (.int p3), .val (.int p4), .val (.int (4 : Int32)), .val (.int y17), .val (.int y18), .val (.int y19), .val (.ref b86), .unset, .unset] [(.int y19), (.int (2 : Int32)), (.ref b86)])) := by
      intro t ht
      refine XS.iload X90.here hx rfl (hb hby at_83) rfl ?_
      show Steps p.tables e below (T90.setTop (mkF m 85 #[.val (.int p0), .val (.int p1), .val (.int p2), .val (.int p3), .val (.int p4), .val (.int (4 : Int32)), .val (.int y17), .val (.int y18), .val (.int y19), .val (.ref b86), .unset, .unset] [(.int (4 : Int32))])) _
      refine XS.iconst X90.here hx rfl (hb hby at_85) ?_
      show Steps p.tables e below (T90.setTop (mkF m 86 #[.val (.int p0), .val (.int p1), .val (.int p2), .val (.int p3), .val (.int p4), .val (.int (4 : Int32)), .val (.int y17), .val (.int y18), .val (.int y19), .val (.ref b86), .unset, .unset] [(.int (2 : Int32)), (.int (4 : Int32))])) _
      refine XS.icmpNo X90.here hx rfl (hb hby at_86) rfl (tlt (by decide : (2 : Int32) < (4 : Int32))).2.2.2 ?_
      show Steps p.tables e below (T90.setTop (mkF m 89 #[.val (.int p0), .val (.int p1), .val (.int p2), .val (.int p3), .val (.int p4), .val (.int (4 : Int32)), .val (.int y17), .val (.int y18), .val (.int y19), .val (.ref b86), .unset, .unset] [])) _
      refine XS.aload X90.here hx rfl (hb hby at_89) rfl rfl ?_
      show Steps p.tables e below (T90.setTop (mkF m 91 #[.val (.int p0), .val (.int p1), .val (.int p2), .val (.int p3), .val (.int p4), .val (.int (4 : Int32)), .val (.int y17), .val (.int y18), .val (.int y19), .val (.ref b86), .unset, .unset] [(.ref b86)])) _
      refine XS.iconst X90.here hx rfl (hb hby at_91) ?_
      show Steps p.tables e below (T90.setTop (mkF m 92 #[.val (.int p0), .val (.int p1), .val (.int p2), .val (.int p3), .val (.int p4), .val (.int (4 : Int32)), .val (.int y17), .val (.int y18), .val (.int y19), .val (.ref b86), .unset, .unset] [(.int (2 : Int32)), (.ref b86)])) _
      refine XS.iload X90.here hx rfl (hb hby at_92) rfl ?_
      exact ht
    obtain ⟨cl92, Ar92, q92, S92, M92, H92, G92⟩ := id V90_b86
    have hin92 : ¬ ((2 : Int32) < 0 ∨ cl92.slots.size ≤ ((2 : Int32)).toNatClampNeg) := inb_of S92 ⟨by decide, by decide⟩
    obtain ⟨T92, h92, X92, e92, W92, st92⟩ := stB X90 hx hZ e90 Ar92 (j := (2 : Int32)) hin92 (g := (mkF m 94 #[.val (.int p0), .val (.int p1), .val (.int p2), .val (.int p3), .val (.int p4), .val (.int (4 : Int32)), .val (.int y17), .val (.int y18), .val (.int y19), .val (.ref b86), .unset, .unset] [(.int y19), (.int (2 : Int32)), (.ref b86)])) rfl rfl (hb hby at_94)
    have V92_b86 : Arv Z h92 b86 kc86 .byte (4 : Int32) [(.int (nar .byte y17)), (.int (nar .byte y18)), (.int (nar .byte y19)), (.int (0 : Int32))] (.int (0 : Int32)) := Arv.set Ar92 q92 S92 M92 H92 G92 (fits_nar_byte _) W92 2 rfl (Nat.le_of_ble_eq_true rfl)
    have Kp92 : Keep h0 h92 [] := Kp90.wr W92 (Or.inr sz_b86)
    have Z92 : n0 ≤ h92.size := Nat.le_trans Z90 (Keep.of_wr W92).1
    have S_M_c_92 := S_M_c_90.wr W92
    have V_M_c_92 := V_M_c_90.other W92 ne_wM_b86
    have k92 : Go p.tables e below (T90.setTop (mkF m 94 #[.val (.int p0), .val (.int p1), .val (.int p2), .val (.int p3), .val (.int p4), .val (.int (4 : Int32)), .val (.int y17), .val (.int y18), .val (.int y19), .val (.ref b86), .unset, .unset] [(.int y19), (.int (2 : Int32)), (.ref b86)])) (T92.setTop (mkF m 95 #[.val (.int p0), .val (.int p1), .val (.int p2), .val (.int p3), .val (.int p4), .val (.int (4 : Int32)), .val (.int y17), .val (.int y18), .val (.int y19), .val (.ref b86), .unset, .unset] [])) := st92
    have N92 := Fr.snoc X92 N90 g_b86
    have k93 : Go p.tables e below (T92.setTop (mkF m 95 #[.val (.int p0), .val (.int p1), .val (.int p2), .val (.int p3), .val (.int p4), .val (.int (4 : Int32)), .val (.int y17), .val (.int y18), .val (.int y19), .val (.ref b86), .unset, .unset] [])) (T92.setTop (mkF m 109 #[.val (.int p0), .val (.int p1), .val (.int p2), .val (.int p3), .val (.int p4), .val (.int (4 : Int32)), .val (.int y17), .val (.int y18), .val (.int y19), .val (.ref b86), .unset, .unset] [(.int (((p1.toUInt32 >>> ((8 : Int32) &&& 31).toUInt32).toInt32).toInt8.toInt32)), (.int (3 : Int32)), (.ref b86)])) := by
      intro t ht
      refine XS.iload X92.here hx rfl (hb hby at_95) rfl ?_
      show Steps p.tables e below (T92.setTop (mkF m 97 #[.val (.int p0), .val (.int p1), .val (.int p2), .val (.int p3), .val (.int p4), .val (.int (4 : Int32)), .val (.int y17), .val (.int y18), .val (.int y19), .val (.ref b86), .unset, .unset] [(.int (4 : Int32))])) _
      refine XS.iconst X92.here hx rfl (hb hby at_97) ?_
      show Steps p.tables e below (T92.setTop (mkF m 98 #[.val (.int p0), .val (.int p1), .val (.int p2), .val (.int p3), .val (.int p4), .val (.int (4 : Int32)), .val (.int y17), .val (.int y18), .val (.int y19), .val (.ref b86), .unset, .unset] [(.int (3 : Int32)), (.int (4 : Int32))])) _
      refine XS.icmpNo X92.here hx rfl (hb hby at_98) rfl (tlt (by decide : (3 : Int32) < (4 : Int32))).2.2.2 ?_
      show Steps p.tables e below (T92.setTop (mkF m 101 #[.val (.int p0), .val (.int p1), .val (.int p2), .val (.int p3), .val (.int p4), .val (.int (4 : Int32)), .val (.int y17), .val (.int y18), .val (.int y19), .val (.ref b86), .unset, .unset] [])) _
      refine XS.aload X92.here hx rfl (hb hby at_101) rfl rfl ?_
      show Steps p.tables e below (T92.setTop (mkF m 103 #[.val (.int p0), .val (.int p1), .val (.int p2), .val (.int p3), .val (.int p4), .val (.int (4 : Int32)), .val (.int y17), .val (.int y18), .val (.int y19), .val (.ref b86), .unset, .unset] [(.ref b86)])) _
      refine XS.iconst X92.here hx rfl (hb hby at_103) ?_
      show Steps p.tables e below (T92.setTop (mkF m 104 #[.val (.int p0), .val (.int p1), .val (.int p2), .val (.int p3), .val (.int p4), .val (.int (4 : Int32)), .val (.int y17), .val (.int y18), .val (.int y19), .val (.ref b86), .unset, .unset] [(.int (3 : Int32)), (.ref b86)])) _
      refine XS.iloadN X92.here hx rfl (hb hby at_104) rfl ?_
      show Steps p.tables e below (T92.setTop (mkF m 105 #[.val (.int p0), .val (.int p1), .val (.int p2), .val (.int p3), .val (.int p4), .val (.int (4 : Int32)), .val (.int y17), .val (.int y18), .val (.int y19), .val (.ref b86), .unset, .unset] [(.int p1), (.int (3 : Int32)), (.ref b86)])) _
      refine XS.bipush X92.here hx rfl (hb hby at_105) ?_
      show Steps p.tables e below (T92.setTop (mkF m 107 #[.val (.int p0), .val (.int p1), .val (.int p2), .val (.int p3), .val (.int p4), .val (.int (4 : Int32)), .val (.int y17), .val (.int y18), .val (.int y19), .val (.ref b86), .unset, .unset] [(.int (8 : Int32)), (.int p1), (.int (3 : Int32)), (.ref b86)])) _
      refine XS.iushr X92.here hx rfl (hb hby at_107) rfl ?_
      show Steps p.tables e below (T92.setTop (mkF m 108 #[.val (.int p0), .val (.int p1), .val (.int p2), .val (.int p3), .val (.int p4), .val (.int (4 : Int32)), .val (.int y17), .val (.int y18), .val (.int y19), .val (.ref b86), .unset, .unset] [(.int ((p1.toUInt32 >>> ((8 : Int32) &&& 31).toUInt32).toInt32)), (.int (3 : Int32)), (.ref b86)])) _
      refine XS.i2b X92.here hx rfl (hb hby at_108) rfl ?_
      exact ht
    obtain ⟨cl94, Ar94, q94, S94, M94, H94, G94⟩ := id V92_b86
    have hin94 : ¬ ((3 : Int32) < 0 ∨ cl94.slots.size ≤ ((3 : Int32)).toNatClampNeg) := inb_of S94 ⟨by decide, by decide⟩
    obtain ⟨T94, h94, X94, e94, W94, st94⟩ := stB X92 hx hZ e92 Ar94 (j := (3 : Int32)) hin94 (g := (mkF m 109 #[.val (.int p0), .val (.int p1), .val (.int p2), .val (.int p3), .val (.int p4), .val (.int (4 : Int32)), .val (.int y17), .val (.int y18), .val (.int y19), .val (.ref b86), .unset, .unset] [(.int (((p1.toUInt32 >>> ((8 : Int32) &&& 31).toUInt32).toInt32).toInt8.toInt32)), (.int (3 : Int32)), (.ref b86)])) rfl rfl (hb hby at_109)
    have V94_b86 : Arv Z h94 b86 kc86 .byte (4 : Int32) [(.int (nar .byte y17)), (.int (nar .byte y18)), (.int (nar .byte y19)), (.int (nar .byte (((p1.toUInt32 >>> ((8 : Int32) &&& 31).toUInt32).toInt32).toInt8.toInt32)))] (.int (0 : Int32)) := Arv.set Ar94 q94 S94 M94 H94 G94 (fits_nar_byte _) W94 3 rfl (Nat.le_of_ble_eq_true rfl)
    have Kp94 : Keep h0 h94 [] := Kp92.wr W94 (Or.inr sz_b86)
    have Z94 : n0 ≤ h94.size := Nat.le_trans Z92 (Keep.of_wr W94).1
    have S_M_c_94 := S_M_c_92.wr W94
    have V_M_c_94 := V_M_c_92.other W94 ne_wM_b86
    have k94 : Go p.tables e below (T92.setTop (mkF m 109 #[.val (.int p0), .val (.int p1), .val (.int p2), .val (.int p3), .val (.int p4), .val (.int (4 : Int32)), .val (.int y17), .val (.int y18), .val (.int y19), .val (.ref b86), .unset, .unset] [(.int (((p1.toUInt32 >>> ((8 : Int32) &&& 31).toUInt32).toInt32).toInt8.toInt32)), (.int (3 : Int32)), (.ref b86)])) (T94.setTop (mkF m 110 #[.val (.int p0), .val (.int p1), .val (.int p2), .val (.int p3), .val (.int p4), .val (.int (4 : Int32)), .val (.int y17), .val (.int y18), .val (.int y19), .val (.ref b86), .unset, .unset] [])) := st94
    have N94 := Fr.snoc X94 N92 g_b86
    have k95 : Go p.tables e below (T94.setTop (mkF m 110 #[.val (.int p0), .val (.int p1), .val (.int p2), .val (.int p3), .val (.int p4), .val (.int (4 : Int32)), .val (.int y17), .val (.int y18), .val (.int y19), .val (.ref b86), .unset, .unset] [])) (T94.setTop (mkF m 173 #[.val (.int p0), .val (.int p1), .val (.int p2), .val (.int p3), .val (.int p4), .val (.int (4 : Int32)), .val (.int y17), .val (.int y18), .val (.int y19), .val (.ref b86), .unset, .unset] [(.int (239 : Int32)), (.int (y17 &&& (255 : Int32)))])) := by
      intro t ht
      refine XS.iload X94.here hx rfl (hb hby at_110) rfl ?_
      show Steps p.tables e below (T94.setTop (mkF m 112 #[.val (.int p0), .val (.int p1), .val (.int p2), .val (.int p3), .val (.int p4), .val (.int (4 : Int32)), .val (.int y17), .val (.int y18), .val (.int y19), .val (.ref b86), .unset, .unset] [(.int (4 : Int32))])) _
      refine XS.iconst X94.here hx rfl (hb hby at_112) ?_
      show Steps p.tables e below (T94.setTop (mkF m 113 #[.val (.int p0), .val (.int p1), .val (.int p2), .val (.int p3), .val (.int p4), .val (.int (4 : Int32)), .val (.int y17), .val (.int y18), .val (.int y19), .val (.ref b86), .unset, .unset] [(.int (4 : Int32)), (.int (4 : Int32))])) _
      refine XS.icmpYes X94.here hx rfl (pc0 := 113) (pc' := 125) rfl (hb hby at_113) rfl (flt (by decide : ¬ ((4 : Int32) < (4 : Int32)))).2.2.2 (by decide) (by decide) ?_
      show Steps p.tables e below (T94.setTop (mkF m 125 #[.val (.int p0), .val (.int p1), .val (.int p2), .val (.int p3), .val (.int p4), .val (.int (4 : Int32)), .val (.int y17), .val (.int y18), .val (.int y19), .val (.ref b86), .unset, .unset] [])) _
      refine XS.iload X94.here hx rfl (hb hby at_125) rfl ?_
      show Steps p.tables e below (T94.setTop (mkF m 127 #[.val (.int p0), .val (.int p1), .val (.int p2), .val (.int p3), .val (.int p4), .val (.int (4 : Int32)), .val (.int y17), .val (.int y18), .val (.int y19), .val (.ref b86), .unset, .unset] [(.int (4 : Int32))])) _
      refine XS.iconst X94.here hx rfl (hb hby at_127) ?_
      show Steps p.tables e below (T94.setTop (mkF m 128 #[.val (.int p0), .val (.int p1), .val (.int p2), .val (.int p3), .val (.int p4), .val (.int (4 : Int32)), .val (.int y17), .val (.int y18), .val (.int y19), .val (.ref b86), .unset, .unset] [(.int (5 : Int32)), (.int (4 : Int32))])) _
      refine XS.icmpYes X94.here hx rfl (pc0 := 128) (pc' := 140) rfl (hb hby at_128) rfl (flt (by decide : ¬ ((5 : Int32) < (4 : Int32)))).2.2.2 (by decide) (by decide) ?_
      show Steps p.tables e below (T94.setTop (mkF m 140 #[.val (.int p0), .val (.int p1), .val (.int p2), .val (.int p3), .val (.int p4), .val (.int (4 : Int32)), .val (.int y17), .val (.int y18), .val (.int y19), .val (.ref b86), .unset, .unset] [])) _
      refine XS.iload X94.here hx rfl (hb hby at_140) rfl ?_
      show Steps p.tables e below (T94.setTop (mkF m 142 #[.val (.int p0), .val (.int p1), .val (.int p2), .val (.int p3), .val (.int p4), .val (.int (4 : Int32)), .val (.int y17), .val (.int y18), .val (.int y19), .val (.ref b86), .unset, .unset] [(.int (4 : Int32))])) _
      refine XS.bipush X94.here hx rfl (hb hby at_142) ?_
      show Steps p.tables e below (T94.setTop (mkF m 144 #[.val (.int p0), .val (.int p1), .val (.int p2), .val (.int p3), .val (.int p4), .val (.int (4 : Int32)), .val (.int y17), .val (.int y18), .val (.int y19), .val (.ref b86), .unset, .unset] [(.int (6 : Int32)), (.int (4 : Int32))])) _
      refine XS.icmpYes X94.here hx rfl (pc0 := 144) (pc' := 158) rfl (hb hby at_144) rfl (flt (by decide : ¬ ((6 : Int32) < (4 : Int32)))).2.2.2 (by decide) (by decide) ?_
      show Steps p.tables e below (T94.setTop (mkF m 158 #[.val (.int p0), .val (.int p1), .val (.int p2), .val (.int p3), .val (.int p4), .val (.int (4 : Int32)), .val (.int y17), .val (.int y18), .val (.int y19), .val (.ref b86), .unset, .unset] [])) _
      refine XS.iload X94.here hx rfl (hb hby at_158) rfl ?_
      show Steps p.tables e below (T94.setTop (mkF m 160 #[.val (.int p0), .val (.int p1), .val (.int p2), .val (.int p3), .val (.int p4), .val (.int (4 : Int32)), .val (.int y17), .val (.int y18), .val (.int y19), .val (.ref b86), .unset, .unset] [(.int (4 : Int32))])) _
      refine XS.iconst X94.here hx rfl (hb hby at_160) ?_
      show Steps p.tables e below (T94.setTop (mkF m 161 #[.val (.int p0), .val (.int p1), .val (.int p2), .val (.int p3), .val (.int p4), .val (.int (4 : Int32)), .val (.int y17), .val (.int y18), .val (.int y19), .val (.ref b86), .unset, .unset] [(.int (3 : Int32)), (.int (4 : Int32))])) _
      refine XS.icmpNo X94.here hx rfl (hb hby at_161) rfl (flt (by decide : ¬ ((4 : Int32) < (3 : Int32)))).1 ?_
      show Steps p.tables e below (T94.setTop (mkF m 164 #[.val (.int p0), .val (.int p1), .val (.int p2), .val (.int p3), .val (.int p4), .val (.int (4 : Int32)), .val (.int y17), .val (.int y18), .val (.int y19), .val (.ref b86), .unset, .unset] [])) _
      refine XS.iload X94.here hx rfl (hb hby at_164) rfl ?_
      show Steps p.tables e below (T94.setTop (mkF m 166 #[.val (.int p0), .val (.int p1), .val (.int p2), .val (.int p3), .val (.int p4), .val (.int (4 : Int32)), .val (.int y17), .val (.int y18), .val (.int y19), .val (.ref b86), .unset, .unset] [(.int y17)])) _
      refine XS.sipush X94.here hx rfl (hb hby at_166) ?_
      show Steps p.tables e below (T94.setTop (mkF m 169 #[.val (.int p0), .val (.int p1), .val (.int p2), .val (.int p3), .val (.int p4), .val (.int (4 : Int32)), .val (.int y17), .val (.int y18), .val (.int y19), .val (.ref b86), .unset, .unset] [(.int (255 : Int32)), (.int y17)])) _
      refine XS.iand X94.here hx rfl (hb hby at_169) rfl ?_
      show Steps p.tables e below (T94.setTop (mkF m 170 #[.val (.int p0), .val (.int p1), .val (.int p2), .val (.int p3), .val (.int p4), .val (.int (4 : Int32)), .val (.int y17), .val (.int y18), .val (.int y19), .val (.ref b86), .unset, .unset] [(.int (y17 &&& (255 : Int32)))])) _
      refine XS.sipush X94.here hx rfl (hb hby at_170) ?_
      exact ht
    have k96 : Go p.tables e below (T94.setTop (mkF m 173 #[.val (.int p0), .val (.int p1), .val (.int p2), .val (.int p3), .val (.int p4), .val (.int (4 : Int32)), .val (.int y17), .val (.int y18), .val (.int y19), .val (.ref b86), .unset, .unset] [(.int (239 : Int32)), (.int (y17 &&& (255 : Int32)))])) (T94.setTop (mkF m 205 #[.val (.int p0), .val (.int p1), .val (.int p2), .val (.int p3), .val (.int p4), .val (.int (4 : Int32)), .val (.int y17), .val (.int y18), .val (.int y19), .val (.ref b86), .unset, .unset] [(.int (if (y17 &&& (255 : Int32)) = (239 : Int32) then (if (y18 &&& (255 : Int32)) = (187 : Int32) then (if (y19 &&& (255 : Int32)) = (191 : Int32) then (1 : Int32) else (0 : Int32)) else (0 : Int32)) else (0 : Int32)))])) := by
      by_cases hc97 : (y17 &&& (255 : Int32)) = (239 : Int32)
      · have k98 : Go p.tables e below (T94.setTop (mkF m 173 #[.val (.int p0), .val (.int p1), .val (.int p2), .val (.int p3), .val (.int p4), .val (.int (4 : Int32)), .val (.int y17), .val (.int y18), .val (.int y19), .val (.ref b86), .unset, .unset] [(.int (239 : Int32)), (.int (y17 &&& (255 : Int32)))])) (T94.setTop (mkF m 185 #[.val (.int p0), .val (.int p1), .val (.int p2), .val (.int p3), .val (.int p4), .val (.int (4 : Int32)), .val (.int y17), .val (.int y18), .val (.int y19), .val (.ref b86), .unset, .unset] [(.int (187 : Int32)), (.int (y18 &&& (255 : Int32)))])) := by
          intro t ht
          refine XS.icmpNo X94.here hx rfl (hb hby at_173) rfl (teq hc97).2 ?_
          show Steps p.tables e below (T94.setTop (mkF m 176 #[.val (.int p0), .val (.int p1), .val (.int p2), .val (.int p3), .val (.int p4), .val (.int (4 : Int32)), .val (.int y17), .val (.int y18), .val (.int y19), .val (.ref b86), .unset, .unset] [])) _
          refine XS.iload X94.here hx rfl (hb hby at_176) rfl ?_
          show Steps p.tables e below (T94.setTop (mkF m 178 #[.val (.int p0), .val (.int p1), .val (.int p2), .val (.int p3), .val (.int p4), .val (.int (4 : Int32)), .val (.int y17), .val (.int y18), .val (.int y19), .val (.ref b86), .unset, .unset] [(.int y18)])) _
          refine XS.sipush X94.here hx rfl (hb hby at_178) ?_
          show Steps p.tables e below (T94.setTop (mkF m 181 #[.val (.int p0), .val (.int p1), .val (.int p2), .val (.int p3), .val (.int p4), .val (.int (4 : Int32)), .val (.int y17), .val (.int y18), .val (.int y19), .val (.ref b86), .unset, .unset] [(.int (255 : Int32)), (.int y18)])) _
          refine XS.iand X94.here hx rfl (hb hby at_181) rfl ?_
          show Steps p.tables e below (T94.setTop (mkF m 182 #[.val (.int p0), .val (.int p1), .val (.int p2), .val (.int p3), .val (.int p4), .val (.int (4 : Int32)), .val (.int y17), .val (.int y18), .val (.int y19), .val (.ref b86), .unset, .unset] [(.int (y18 &&& (255 : Int32)))])) _
          refine XS.sipush X94.here hx rfl (hb hby at_182) ?_
          exact ht
        by_cases hc99 : (y18 &&& (255 : Int32)) = (187 : Int32)
        · have k100 : Go p.tables e below (T94.setTop (mkF m 185 #[.val (.int p0), .val (.int p1), .val (.int p2), .val (.int p3), .val (.int p4), .val (.int (4 : Int32)), .val (.int y17), .val (.int y18), .val (.int y19), .val (.ref b86), .unset, .unset] [(.int (187 : Int32)), (.int (y18 &&& (255 : Int32)))])) (T94.setTop (mkF m 197 #[.val (.int p0), .val (.int p1), .val (.int p2), .val (.int p3), .val (.int p4), .val (.int (4 : Int32)), .val (.int y17), .val (.int y18), .val (.int y19), .val (.ref b86), .unset, .unset] [(.int (191 : Int32)), (.int (y19 &&& (255 : Int32)))])) := by
            intro t ht
            refine XS.icmpNo X94.here hx rfl (hb hby at_185) rfl (teq hc99).2 ?_
            show Steps p.tables e below (T94.setTop (mkF m 188 #[.val (.int p0), .val (.int p1), .val (.int p2), .val (.int p3), .val (.int p4), .val (.int (4 : Int32)), .val (.int y17), .val (.int y18), .val (.int y19), .val (.ref b86), .unset, .unset] [])) _
            refine XS.iload X94.here hx rfl (hb hby at_188) rfl ?_
            show Steps p.tables e below (T94.setTop (mkF m 190 #[.val (.int p0), .val (.int p1), .val (.int p2), .val (.int p3), .val (.int p4), .val (.int (4 : Int32)), .val (.int y17), .val (.int y18), .val (.int y19), .val (.ref b86), .unset, .unset] [(.int y19)])) _
            refine XS.sipush X94.here hx rfl (hb hby at_190) ?_
            show Steps p.tables e below (T94.setTop (mkF m 193 #[.val (.int p0), .val (.int p1), .val (.int p2), .val (.int p3), .val (.int p4), .val (.int (4 : Int32)), .val (.int y17), .val (.int y18), .val (.int y19), .val (.ref b86), .unset, .unset] [(.int (255 : Int32)), (.int y19)])) _
            refine XS.iand X94.here hx rfl (hb hby at_193) rfl ?_
            show Steps p.tables e below (T94.setTop (mkF m 194 #[.val (.int p0), .val (.int p1), .val (.int p2), .val (.int p3), .val (.int p4), .val (.int (4 : Int32)), .val (.int y17), .val (.int y18), .val (.int y19), .val (.ref b86), .unset, .unset] [(.int (y19 &&& (255 : Int32)))])) _
            refine XS.sipush X94.here hx rfl (hb hby at_194) ?_
            exact ht
          by_cases hc101 : (y19 &&& (255 : Int32)) = (191 : Int32)
          · have k102 : Go p.tables e below (T94.setTop (mkF m 197 #[.val (.int p0), .val (.int p1), .val (.int p2), .val (.int p3), .val (.int p4), .val (.int (4 : Int32)), .val (.int y17), .val (.int y18), .val (.int y19), .val (.ref b86), .unset, .unset] [(.int (191 : Int32)), (.int (y19 &&& (255 : Int32)))])) (T94.setTop (mkF m 205 #[.val (.int p0), .val (.int p1), .val (.int p2), .val (.int p3), .val (.int p4), .val (.int (4 : Int32)), .val (.int y17), .val (.int y18), .val (.int y19), .val (.ref b86), .unset, .unset] [(.int (1 : Int32))])) := by
              intro t ht
              refine XS.icmpNo X94.here hx rfl (hb hby at_197) rfl (teq hc101).2 ?_
              show Steps p.tables e below (T94.setTop (mkF m 200 #[.val (.int p0), .val (.int p1), .val (.int p2), .val (.int p3), .val (.int p4), .val (.int (4 : Int32)), .val (.int y17), .val (.int y18), .val (.int y19), .val (.ref b86), .unset, .unset] [])) _
              refine XS.iconst X94.here hx rfl (hb hby at_200) ?_
              show Steps p.tables e below (T94.setTop (mkF m 201 #[.val (.int p0), .val (.int p1), .val (.int p2), .val (.int p3), .val (.int p4), .val (.int (4 : Int32)), .val (.int y17), .val (.int y18), .val (.int y19), .val (.ref b86), .unset, .unset] [(.int (1 : Int32))])) _
              refine XS.goto X94.here hx rfl (pc0 := 201) (pc' := 205) rfl (hb hby at_201) (by decide) (by decide) ?_
              exact ht
            have kk := (goT k98 (goT k100 k102))
            simpa only [if_pos hc97, if_pos hc99, if_pos hc101] using kk
          · have k103 : Go p.tables e below (T94.setTop (mkF m 197 #[.val (.int p0), .val (.int p1), .val (.int p2), .val (.int p3), .val (.int p4), .val (.int (4 : Int32)), .val (.int y17), .val (.int y18), .val (.int y19), .val (.ref b86), .unset, .unset] [(.int (191 : Int32)), (.int (y19 &&& (255 : Int32)))])) (T94.setTop (mkF m 205 #[.val (.int p0), .val (.int p1), .val (.int p2), .val (.int p3), .val (.int p4), .val (.int (4 : Int32)), .val (.int y17), .val (.int y18), .val (.int y19), .val (.ref b86), .unset, .unset] [(.int (0 : Int32))])) := by
              intro t ht
              refine XS.icmpYes X94.here hx rfl (pc0 := 197) (pc' := 204) rfl (hb hby at_197) rfl (feq hc101).2 (by decide) (by decide) ?_
              show Steps p.tables e below (T94.setTop (mkF m 204 #[.val (.int p0), .val (.int p1), .val (.int p2), .val (.int p3), .val (.int p4), .val (.int (4 : Int32)), .val (.int y17), .val (.int y18), .val (.int y19), .val (.ref b86), .unset, .unset] [])) _
              refine XS.iconst X94.here hx rfl (hb hby at_204) ?_
              exact ht
            have kk := (goT k98 (goT k100 k103))
            simpa only [if_pos hc97, if_pos hc99, if_neg hc101] using kk
        · have k104 : Go p.tables e below (T94.setTop (mkF m 185 #[.val (.int p0), .val (.int p1), .val (.int p2), .val (.int p3), .val (.int p4), .val (.int (4 : Int32)), .val (.int y17), .val (.int y18), .val (.int y19), .val (.ref b86), .unset, .unset] [(.int (187 : Int32)), (.int (y18 &&& (255 : Int32)))])) (T94.setTop (mkF m 205 #[.val (.int p0), .val (.int p1), .val (.int p2), .val (.int p3), .val (.int p4), .val (.int (4 : Int32)), .val (.int y17), .val (.int y18), .val (.int y19), .val (.ref b86), .unset, .unset] [(.int (0 : Int32))])) := by
            intro t ht
            refine XS.icmpYes X94.here hx rfl (pc0 := 185) (pc' := 204) rfl (hb hby at_185) rfl (feq hc99).2 (by decide) (by decide) ?_
            show Steps p.tables e below (T94.setTop (mkF m 204 #[.val (.int p0), .val (.int p1), .val (.int p2), .val (.int p3), .val (.int p4), .val (.int (4 : Int32)), .val (.int y17), .val (.int y18), .val (.int y19), .val (.ref b86), .unset, .unset] [])) _
            refine XS.iconst X94.here hx rfl (hb hby at_204) ?_
            exact ht
          have kk := (goT k98 k104)
          simpa only [if_pos hc97, if_neg hc99] using kk
      · have k105 : Go p.tables e below (T94.setTop (mkF m 173 #[.val (.int p0), .val (.int p1), .val (.int p2), .val (.int p3), .val (.int p4), .val (.int (4 : Int32)), .val (.int y17), .val (.int y18), .val (.int y19), .val (.ref b86), .unset, .unset] [(.int (239 : Int32)), (.int (y17 &&& (255 : Int32)))])) (T94.setTop (mkF m 205 #[.val (.int p0), .val (.int p1), .val (.int p2), .val (.int p3), .val (.int p4), .val (.int (4 : Int32)), .val (.int y17), .val (.int y18), .val (.int y19), .val (.ref b86), .unset, .unset] [(.int (0 : Int32))])) := by
          intro t ht
          refine XS.icmpYes X94.here hx rfl (pc0 := 173) (pc' := 204) rfl (hb hby at_173) rfl (feq hc97).2 (by decide) (by decide) ?_
          show Steps p.tables e below (T94.setTop (mkF m 204 #[.val (.int p0), .val (.int p1), .val (.int p2), .val (.int p3), .val (.int p4), .val (.int (4 : Int32)), .val (.int y17), .val (.int y18), .val (.int y19), .val (.ref b86), .unset, .unset] [])) _
          refine XS.iconst X94.here hx rfl (hb hby at_204) ?_
          exact ht
        have kk := k105
        simpa only [if_neg hc97] using kk
    have k106 : Go p.tables e below (T94.setTop (mkF m 205 #[.val (.int p0), .val (.int p1), .val (.int p2), .val (.int p3), .val (.int p4), .val (.int (4 : Int32)), .val (.int y17), .val (.int y18), .val (.int y19), .val (.ref b86), .unset, .unset] [(.int (if (y17 &&& (255 : Int32)) = (239 : Int32) then (if (y18 &&& (255 : Int32)) = (187 : Int32) then (if (y19 &&& (255 : Int32)) = (191 : Int32) then (1 : Int32) else (0 : Int32)) else (0 : Int32)) else (0 : Int32)))])) (T94.setTop (mkF m 209 #[.val (.int p0), .val (.int p1), .val (.int p2), .val (.int p3), .val (.int p4), .val (.int (4 : Int32)), .val (.int y17), .val (.int y18), .val (.int y19), .val (.ref b86), .val (.int (if (y17 &&& (255 : Int32)) = (239 : Int32) then (if (y18 &&& (255 : Int32)) = (187 : Int32) then (if (y19 &&& (255 : Int32)) = (191 : Int32) then (1 : Int32) else (0 : Int32)) else (0 : Int32)) else (0 : Int32))), .unset] [(.int (if (y17 &&& (255 : Int32)) = (239 : Int32) then (if (y18 &&& (255 : Int32)) = (187 : Int32) then (if (y19 &&& (255 : Int32)) = (191 : Int32) then (1 : Int32) else (0 : Int32)) else (0 : Int32)) else (0 : Int32)))])) := by
      intro t ht
      refine XS.istore X94.here hx rfl (hb hby at_205) rfl (l' := #[.val (.int p0), .val (.int p1), .val (.int p2), .val (.int p3), .val (.int p4), .val (.int (4 : Int32)), .val (.int y17), .val (.int y18), .val (.int y19), .val (.ref b86), .val (.int (if (y17 &&& (255 : Int32)) = (239 : Int32) then (if (y18 &&& (255 : Int32)) = (187 : Int32) then (if (y19 &&& (255 : Int32)) = (191 : Int32) then (1 : Int32) else (0 : Int32)) else (0 : Int32)) else (0 : Int32))), .unset]) rfl ?_
      show Steps p.tables e below (T94.setTop (mkF m 207 #[.val (.int p0), .val (.int p1), .val (.int p2), .val (.int p3), .val (.int p4), .val (.int (4 : Int32)), .val (.int y17), .val (.int y18), .val (.int y19), .val (.ref b86), .val (.int (if (y17 &&& (255 : Int32)) = (239 : Int32) then (if (y18 &&& (255 : Int32)) = (187 : Int32) then (if (y19 &&& (255 : Int32)) = (191 : Int32) then (1 : Int32) else (0 : Int32)) else (0 : Int32)) else (0 : Int32))), .unset] [])) _
      refine XS.iload X94.here hx rfl (hb hby at_207) rfl ?_
      exact ht
    have k107 : Go p.tables e below (T94.setTop (mkF m 209 #[.val (.int p0), .val (.int p1), .val (.int p2), .val (.int p3), .val (.int p4), .val (.int (4 : Int32)), .val (.int y17), .val (.int y18), .val (.int y19), .val (.ref b86), .val (.int (if (y17 &&& (255 : Int32)) = (239 : Int32) then (if (y18 &&& (255 : Int32)) = (187 : Int32) then (if (y19 &&& (255 : Int32)) = (191 : Int32) then (1 : Int32) else (0 : Int32)) else (0 : Int32)) else (0 : Int32))), .unset] [(.int (if (y17 &&& (255 : Int32)) = (239 : Int32) then (if (y18 &&& (255 : Int32)) = (187 : Int32) then (if (y19 &&& (255 : Int32)) = (191 : Int32) then (1 : Int32) else (0 : Int32)) else (0 : Int32)) else (0 : Int32)))])) (T94.setTop (mkF m 217 #[.val (.int p0), .val (.int p1), .val (.int p2), .val (.int p3), .val (.int p4), .val (.int (4 : Int32)), .val (.int y17), .val (.int y18), .val (.int y19), .val (.ref b86), .val (.int (if (y17 &&& (255 : Int32)) = (239 : Int32) then (if (y18 &&& (255 : Int32)) = (187 : Int32) then (if (y19 &&& (255 : Int32)) = (191 : Int32) then (1 : Int32) else (0 : Int32)) else (0 : Int32)) else (0 : Int32))), .unset] [(.int (if (y17 &&& (255 : Int32)) = (239 : Int32) then (if (y18 &&& (255 : Int32)) = (187 : Int32) then (if (y19 &&& (255 : Int32)) = (191 : Int32) then (3 : Int32) else (0 : Int32)) else (0 : Int32)) else (0 : Int32)))])) := by
      by_cases hc108 : (y17 &&& (255 : Int32)) = (239 : Int32)
      · have k109 : Go p.tables e below (T94.setTop (mkF m 209 #[.val (.int p0), .val (.int p1), .val (.int p2), .val (.int p3), .val (.int p4), .val (.int (4 : Int32)), .val (.int y17), .val (.int y18), .val (.int y19), .val (.ref b86), .val (.int (if (y17 &&& (255 : Int32)) = (239 : Int32) then (if (y18 &&& (255 : Int32)) = (187 : Int32) then (if (y19 &&& (255 : Int32)) = (191 : Int32) then (1 : Int32) else (0 : Int32)) else (0 : Int32)) else (0 : Int32))), .unset] [(.int (if (y17 &&& (255 : Int32)) = (239 : Int32) then (if (y18 &&& (255 : Int32)) = (187 : Int32) then (if (y19 &&& (255 : Int32)) = (191 : Int32) then (1 : Int32) else (0 : Int32)) else (0 : Int32)) else (0 : Int32)))])) (T94.setTop (mkF m 209 #[.val (.int p0), .val (.int p1), .val (.int p2), .val (.int p3), .val (.int p4), .val (.int (4 : Int32)), .val (.int y17), .val (.int y18), .val (.int y19), .val (.ref b86), .val (.int (if (y18 &&& (255 : Int32)) = (187 : Int32) then (if (y19 &&& (255 : Int32)) = (191 : Int32) then (1 : Int32) else (0 : Int32)) else (0 : Int32))), .unset] [(.int (if (y18 &&& (255 : Int32)) = (187 : Int32) then (if (y19 &&& (255 : Int32)) = (191 : Int32) then (1 : Int32) else (0 : Int32)) else (0 : Int32)))])) := by
          simp only [if_pos hc108]; exact fun _ h => h
        by_cases hc110 : (y18 &&& (255 : Int32)) = (187 : Int32)
        · have k111 : Go p.tables e below (T94.setTop (mkF m 209 #[.val (.int p0), .val (.int p1), .val (.int p2), .val (.int p3), .val (.int p4), .val (.int (4 : Int32)), .val (.int y17), .val (.int y18), .val (.int y19), .val (.ref b86), .val (.int (if (y18 &&& (255 : Int32)) = (187 : Int32) then (if (y19 &&& (255 : Int32)) = (191 : Int32) then (1 : Int32) else (0 : Int32)) else (0 : Int32))), .unset] [(.int (if (y18 &&& (255 : Int32)) = (187 : Int32) then (if (y19 &&& (255 : Int32)) = (191 : Int32) then (1 : Int32) else (0 : Int32)) else (0 : Int32)))])) (T94.setTop (mkF m 209 #[.val (.int p0), .val (.int p1), .val (.int p2), .val (.int p3), .val (.int p4), .val (.int (4 : Int32)), .val (.int y17), .val (.int y18), .val (.int y19), .val (.ref b86), .val (.int (if (y19 &&& (255 : Int32)) = (191 : Int32) then (1 : Int32) else (0 : Int32))), .unset] [(.int (if (y19 &&& (255 : Int32)) = (191 : Int32) then (1 : Int32) else (0 : Int32)))])) := by
            simp only [if_pos hc110]; exact fun _ h => h
          by_cases hc112 : (y19 &&& (255 : Int32)) = (191 : Int32)
          · have k113 : Go p.tables e below (T94.setTop (mkF m 209 #[.val (.int p0), .val (.int p1), .val (.int p2), .val (.int p3), .val (.int p4), .val (.int (4 : Int32)), .val (.int y17), .val (.int y18), .val (.int y19), .val (.ref b86), .val (.int (if (y19 &&& (255 : Int32)) = (191 : Int32) then (1 : Int32) else (0 : Int32))), .unset] [(.int (if (y19 &&& (255 : Int32)) = (191 : Int32) then (1 : Int32) else (0 : Int32)))])) (T94.setTop (mkF m 209 #[.val (.int p0), .val (.int p1), .val (.int p2), .val (.int p3), .val (.int p4), .val (.int (4 : Int32)), .val (.int y17), .val (.int y18), .val (.int y19), .val (.ref b86), .val (.int (1 : Int32)), .unset] [(.int (1 : Int32))])) := by
              simp only [if_pos hc112]; exact fun _ h => h
            have k114 : Go p.tables e below (T94.setTop (mkF m 209 #[.val (.int p0), .val (.int p1), .val (.int p2), .val (.int p3), .val (.int p4), .val (.int (4 : Int32)), .val (.int y17), .val (.int y18), .val (.int y19), .val (.ref b86), .val (.int (1 : Int32)), .unset] [(.int (1 : Int32))])) (T94.setTop (mkF m 217 #[.val (.int p0), .val (.int p1), .val (.int p2), .val (.int p3), .val (.int p4), .val (.int (4 : Int32)), .val (.int y17), .val (.int y18), .val (.int y19), .val (.ref b86), .val (.int (1 : Int32)), .unset] [(.int (3 : Int32))])) := by
              intro t ht
              refine XS.ifNo X94.here hx rfl (hb hby at_209) rfl ((if0 _ _).trans (feq (by decide : ¬ ((1 : Int32) = (0 : Int32)))).1) ?_
              show Steps p.tables e below (T94.setTop (mkF m 212 #[.val (.int p0), .val (.int p1), .val (.int p2), .val (.int p3), .val (.int p4), .val (.int (4 : Int32)), .val (.int y17), .val (.int y18), .val (.int y19), .val (.ref b86), .val (.int (1 : Int32)), .unset] [])) _
              refine XS.iconst X94.here hx rfl (hb hby at_212) ?_
              show Steps p.tables e below (T94.setTop (mkF m 213 #[.val (.int p0), .val (.int p1), .val (.int p2), .val (.int p3), .val (.int p4), .val (.int (4 : Int32)), .val (.int y17), .val (.int y18), .val (.int y19), .val (.ref b86), .val (.int (1 : Int32)), .unset] [(.int (3 : Int32))])) _
              refine XS.goto X94.here hx rfl (pc0 := 213) (pc' := 217) rfl (hb hby at_213) (by decide) (by decide) ?_
              exact ht
            have kk := (goT k109 (goT k111 (goT k113 k114)))
            simpa only [if_pos hc108, if_pos hc110, if_pos hc112] using kk
          · have k115 : Go p.tables e below (T94.setTop (mkF m 209 #[.val (.int p0), .val (.int p1), .val (.int p2), .val (.int p3), .val (.int p4), .val (.int (4 : Int32)), .val (.int y17), .val (.int y18), .val (.int y19), .val (.ref b86), .val (.int (if (y19 &&& (255 : Int32)) = (191 : Int32) then (1 : Int32) else (0 : Int32))), .unset] [(.int (if (y19 &&& (255 : Int32)) = (191 : Int32) then (1 : Int32) else (0 : Int32)))])) (T94.setTop (mkF m 209 #[.val (.int p0), .val (.int p1), .val (.int p2), .val (.int p3), .val (.int p4), .val (.int (4 : Int32)), .val (.int y17), .val (.int y18), .val (.int y19), .val (.ref b86), .val (.int (0 : Int32)), .unset] [(.int (0 : Int32))])) := by
              simp only [if_neg hc112]; exact fun _ h => h
            have k116 : Go p.tables e below (T94.setTop (mkF m 209 #[.val (.int p0), .val (.int p1), .val (.int p2), .val (.int p3), .val (.int p4), .val (.int (4 : Int32)), .val (.int y17), .val (.int y18), .val (.int y19), .val (.ref b86), .val (.int (0 : Int32)), .unset] [(.int (0 : Int32))])) (T94.setTop (mkF m 217 #[.val (.int p0), .val (.int p1), .val (.int p2), .val (.int p3), .val (.int p4), .val (.int (4 : Int32)), .val (.int y17), .val (.int y18), .val (.int y19), .val (.ref b86), .val (.int (0 : Int32)), .unset] [(.int (0 : Int32))])) := by
              intro t ht
              refine XS.ifYes X94.here hx rfl (pc0 := 209) (pc' := 216) rfl (hb hby at_209) rfl ((if0 _ _).trans (teq (by decide : (0 : Int32) = (0 : Int32))).1) (by decide) (by decide) ?_
              show Steps p.tables e below (T94.setTop (mkF m 216 #[.val (.int p0), .val (.int p1), .val (.int p2), .val (.int p3), .val (.int p4), .val (.int (4 : Int32)), .val (.int y17), .val (.int y18), .val (.int y19), .val (.ref b86), .val (.int (0 : Int32)), .unset] [])) _
              refine XS.iconst X94.here hx rfl (hb hby at_216) ?_
              exact ht
            have kk := (goT k109 (goT k111 (goT k115 k116)))
            simpa only [if_pos hc108, if_pos hc110, if_neg hc112] using kk
        · have k117 : Go p.tables e below (T94.setTop (mkF m 209 #[.val (.int p0), .val (.int p1), .val (.int p2), .val (.int p3), .val (.int p4), .val (.int (4 : Int32)), .val (.int y17), .val (.int y18), .val (.int y19), .val (.ref b86), .val (.int (if (y18 &&& (255 : Int32)) = (187 : Int32) then (if (y19 &&& (255 : Int32)) = (191 : Int32) then (1 : Int32) else (0 : Int32)) else (0 : Int32))), .unset] [(.int (if (y18 &&& (255 : Int32)) = (187 : Int32) then (if (y19 &&& (255 : Int32)) = (191 : Int32) then (1 : Int32) else (0 : Int32)) else (0 : Int32)))])) (T94.setTop (mkF m 209 #[.val (.int p0), .val (.int p1), .val (.int p2), .val (.int p3), .val (.int p4), .val (.int (4 : Int32)), .val (.int y17), .val (.int y18), .val (.int y19), .val (.ref b86), .val (.int (0 : Int32)), .unset] [(.int (0 : Int32))])) := by
            simp only [if_neg hc110]; exact fun _ h => h
          have k118 : Go p.tables e below (T94.setTop (mkF m 209 #[.val (.int p0), .val (.int p1), .val (.int p2), .val (.int p3), .val (.int p4), .val (.int (4 : Int32)), .val (.int y17), .val (.int y18), .val (.int y19), .val (.ref b86), .val (.int (0 : Int32)), .unset] [(.int (0 : Int32))])) (T94.setTop (mkF m 217 #[.val (.int p0), .val (.int p1), .val (.int p2), .val (.int p3), .val (.int p4), .val (.int (4 : Int32)), .val (.int y17), .val (.int y18), .val (.int y19), .val (.ref b86), .val (.int (0 : Int32)), .unset] [(.int (0 : Int32))])) := by
            intro t ht
            refine XS.ifYes X94.here hx rfl (pc0 := 209) (pc' := 216) rfl (hb hby at_209) rfl ((if0 _ _).trans (teq (by decide : (0 : Int32) = (0 : Int32))).1) (by decide) (by decide) ?_
            show Steps p.tables e below (T94.setTop (mkF m 216 #[.val (.int p0), .val (.int p1), .val (.int p2), .val (.int p3), .val (.int p4), .val (.int (4 : Int32)), .val (.int y17), .val (.int y18), .val (.int y19), .val (.ref b86), .val (.int (0 : Int32)), .unset] [])) _
            refine XS.iconst X94.here hx rfl (hb hby at_216) ?_
            exact ht
          have kk := (goT k109 (goT k117 k118))
          simpa only [if_pos hc108, if_neg hc110] using kk
      · have k119 : Go p.tables e below (T94.setTop (mkF m 209 #[.val (.int p0), .val (.int p1), .val (.int p2), .val (.int p3), .val (.int p4), .val (.int (4 : Int32)), .val (.int y17), .val (.int y18), .val (.int y19), .val (.ref b86), .val (.int (if (y17 &&& (255 : Int32)) = (239 : Int32) then (if (y18 &&& (255 : Int32)) = (187 : Int32) then (if (y19 &&& (255 : Int32)) = (191 : Int32) then (1 : Int32) else (0 : Int32)) else (0 : Int32)) else (0 : Int32))), .unset] [(.int (if (y17 &&& (255 : Int32)) = (239 : Int32) then (if (y18 &&& (255 : Int32)) = (187 : Int32) then (if (y19 &&& (255 : Int32)) = (191 : Int32) then (1 : Int32) else (0 : Int32)) else (0 : Int32)) else (0 : Int32)))])) (T94.setTop (mkF m 209 #[.val (.int p0), .val (.int p1), .val (.int p2), .val (.int p3), .val (.int p4), .val (.int (4 : Int32)), .val (.int y17), .val (.int y18), .val (.int y19), .val (.ref b86), .val (.int (0 : Int32)), .unset] [(.int (0 : Int32))])) := by
          simp only [if_neg hc108]; exact fun _ h => h
        have k120 : Go p.tables e below (T94.setTop (mkF m 209 #[.val (.int p0), .val (.int p1), .val (.int p2), .val (.int p3), .val (.int p4), .val (.int (4 : Int32)), .val (.int y17), .val (.int y18), .val (.int y19), .val (.ref b86), .val (.int (0 : Int32)), .unset] [(.int (0 : Int32))])) (T94.setTop (mkF m 217 #[.val (.int p0), .val (.int p1), .val (.int p2), .val (.int p3), .val (.int p4), .val (.int (4 : Int32)), .val (.int y17), .val (.int y18), .val (.int y19), .val (.ref b86), .val (.int (0 : Int32)), .unset] [(.int (0 : Int32))])) := by
          intro t ht
          refine XS.ifYes X94.here hx rfl (pc0 := 209) (pc' := 216) rfl (hb hby at_209) rfl ((if0 _ _).trans (teq (by decide : (0 : Int32) = (0 : Int32))).1) (by decide) (by decide) ?_
          show Steps p.tables e below (T94.setTop (mkF m 216 #[.val (.int p0), .val (.int p1), .val (.int p2), .val (.int p3), .val (.int p4), .val (.int (4 : Int32)), .val (.int y17), .val (.int y18), .val (.int y19), .val (.ref b86), .val (.int (0 : Int32)), .unset] [])) _
          refine XS.iconst X94.here hx rfl (hb hby at_216) ?_
          exact ht
        have kk := (goT k119 k120)
        simpa only [if_neg hc108] using kk
    have k121 : Go p.tables e below (T94.setTop (mkF m 217 #[.val (.int p0), .val (.int p1), .val (.int p2), .val (.int p3), .val (.int p4), .val (.int (4 : Int32)), .val (.int y17), .val (.int y18), .val (.int y19), .val (.ref b86), .val (.int (if (y17 &&& (255 : Int32)) = (239 : Int32) then (if (y18 &&& (255 : Int32)) = (187 : Int32) then (if (y19 &&& (255 : Int32)) = (191 : Int32) then (1 : Int32) else (0 : Int32)) else (0 : Int32)) else (0 : Int32))), .unset] [(.int (if (y17 &&& (255 : Int32)) = (239 : Int32) then (if (y18 &&& (255 : Int32)) = (187 : Int32) then (if (y19 &&& (255 : Int32)) = (191 : Int32) then (3 : Int32) else (0 : Int32)) else (0 : Int32)) else (0 : Int32)))])) (T94.setTop (mkF m 221 #[.val (.int p0), .val (.int p1), .val (.int p2), .val (.int p3), .val (.int p4), .val (.int (4 : Int32)), .val (.int y17), .val (.int y18), .val (.int y19), .val (.ref b86), .val (.int (if (y17 &&& (255 : Int32)) = (239 : Int32) then (if (y18 &&& (255 : Int32)) = (187 : Int32) then (if (y19 &&& (255 : Int32)) = (191 : Int32) then (1 : Int32) else (0 : Int32)) else (0 : Int32)) else (0 : Int32))), .val (.int (if (y17 &&& (255 : Int32)) = (239 : Int32) then (if (y18 &&& (255 : Int32)) = (187 : Int32) then (if (y19 &&& (255 : Int32)) = (191 : Int32) then (3 : Int32) else (0 : Int32)) else (0 : Int32)) else (0 : Int32)))] [(.ref b86)])) := by
      intro t ht
      refine XS.istore X94.here hx rfl (hb hby at_217) rfl (l' := #[.val (.int p0), .val (.int p1), .val (.int p2), .val (.int p3), .val (.int p4), .val (.int (4 : Int32)), .val (.int y17), .val (.int y18), .val (.int y19), .val (.ref b86), .val (.int (if (y17 &&& (255 : Int32)) = (239 : Int32) then (if (y18 &&& (255 : Int32)) = (187 : Int32) then (if (y19 &&& (255 : Int32)) = (191 : Int32) then (1 : Int32) else (0 : Int32)) else (0 : Int32)) else (0 : Int32))), .val (.int (if (y17 &&& (255 : Int32)) = (239 : Int32) then (if (y18 &&& (255 : Int32)) = (187 : Int32) then (if (y19 &&& (255 : Int32)) = (191 : Int32) then (3 : Int32) else (0 : Int32)) else (0 : Int32)) else (0 : Int32)))]) rfl ?_
      show Steps p.tables e below (T94.setTop (mkF m 219 #[.val (.int p0), .val (.int p1), .val (.int p2), .val (.int p3), .val (.int p4), .val (.int (4 : Int32)), .val (.int y17), .val (.int y18), .val (.int y19), .val (.ref b86), .val (.int (if (y17 &&& (255 : Int32)) = (239 : Int32) then (if (y18 &&& (255 : Int32)) = (187 : Int32) then (if (y19 &&& (255 : Int32)) = (191 : Int32) then (1 : Int32) else (0 : Int32)) else (0 : Int32)) else (0 : Int32))), .val (.int (if (y17 &&& (255 : Int32)) = (239 : Int32) then (if (y18 &&& (255 : Int32)) = (187 : Int32) then (if (y19 &&& (255 : Int32)) = (191 : Int32) then (3 : Int32) else (0 : Int32)) else (0 : Int32)) else (0 : Int32)))] [])) _
      refine XS.aload X94.here hx rfl (hb hby at_219) rfl rfl ?_
      exact ht
    obtain ⟨_, _, ⟨T122, L122, kq122, n122⟩, -, X122, ⟨Lc122, hQ122, l122, y122, z122⟩, st122⟩ := Jvm.LawKit.callS X94 hx (y := (⟨"com/example/role_conflict_finder/roleconflictfinder/Utf8Text", "start", "([B)I"⟩ : MethodName)) hown (mvT hZ (hw _ (List.mem_of_getElem? (i := 1) rfl))) (mvT hZ (hw _ (List.mem_of_getElem? (i := 2) rfl))) (mvT hZ (hw _ (List.mem_of_getElem? (i := 3) rfl))) (mvT hZ (hw _ (List.mem_of_getElem? (i := 4) rfl))) (by decide) (backOf (W := 0) (rm_longer l Z a0 hw [] b86 wM kc86 (4 : Int32) (nar .byte y17) (nar .byte y18) (nar .byte y19) [(.int (nar .byte (((p1.toUInt32 >>> ((8 : Int32) &&& 31).toUInt32).toInt32).toInt8.toInt32)))] kM h94 n0 Z94 S_M_c_94 V94_b86 V_M_c_94 (by decide : ¬ ((4 : Int32) < (3 : Int32)))) hZ (hw _ (List.mem_of_getElem? (i := 4) rfl)) (hw _ (List.mem_of_getElem? (i := 3) rfl)) (by decide) (by decide)) (g := (mkF m 221 #[.val (.int p0), .val (.int p1), .val (.int p2), .val (.int p3), .val (.int p4), .val (.int (4 : Int32)), .val (.int y17), .val (.int y18), .val (.int y19), .val (.ref b86), .val (.int (if (y17 &&& (255 : Int32)) = (239 : Int32) then (if (y18 &&& (255 : Int32)) = (187 : Int32) then (if (y19 &&& (255 : Int32)) = (191 : Int32) then (1 : Int32) else (0 : Int32)) else (0 : Int32)) else (0 : Int32))), .val (.int (if (y17 &&& (255 : Int32)) = (239 : Int32) then (if (y18 &&& (255 : Int32)) = (187 : Int32) then (if (y19 &&& (255 : Int32)) = (191 : Int32) then (3 : Int32) else (0 : Int32)) else (0 : Int32)) else (0 : Int32)))] [(.ref b86)])) rfl (by rw [hml]; rfl) (argsL := [(.ref b86)]) (rest := []) (lenOf pd_0 rfl) rfl (by show 2 * 0 + _ ≤ _; exact Nat.le_of_eq rfl) (hb hby at_221) (fun _ _ => ⟨rfl, e94, (by decide : 1 + 0 ≤ _), (by decide : 4 + 0 ≤ _)⟩)
    dsimp only [Pt.U, Pt.locs, Pt.cells, Pt.slots] at X122 l122 y122 z122 st122 hQ122
    subst l122 y122 z122
    obtain ⟨rfl, N122q, eq122⟩ := hQ122
    have N122 := Fr.app N94 N122q
    have k122 : Go p.tables e below (T94.setTop (mkF m 221 #[.val (.int p0), .val (.int p1), .val (.int p2), .val (.int p3), .val (.int p4), .val (.int (4 : Int32)), .val (.int y17), .val (.int y18), .val (.int y19), .val (.ref b86), .val (.int (if (y17 &&& (255 : Int32)) = (239 : Int32) then (if (y18 &&& (255 : Int32)) = (187 : Int32) then (if (y19 &&& (255 : Int32)) = (191 : Int32) then (1 : Int32) else (0 : Int32)) else (0 : Int32)) else (0 : Int32))), .val (.int (if (y17 &&& (255 : Int32)) = (239 : Int32) then (if (y18 &&& (255 : Int32)) = (187 : Int32) then (if (y19 &&& (255 : Int32)) = (191 : Int32) then (3 : Int32) else (0 : Int32)) else (0 : Int32)) else (0 : Int32)))] [(.ref b86)])) (T122.setTop (mkF m 224 #[.val (.int p0), .val (.int p1), .val (.int p2), .val (.int p3), .val (.int p4), .val (.int (4 : Int32)), .val (.int y17), .val (.int y18), .val (.int y19), .val (.ref b86), .val (.int (if (y17 &&& (255 : Int32)) = (239 : Int32) then (if (y18 &&& (255 : Int32)) = (187 : Int32) then (if (y19 &&& (255 : Int32)) = (191 : Int32) then (1 : Int32) else (0 : Int32)) else (0 : Int32)) else (0 : Int32))), .val (.int (if (y17 &&& (255 : Int32)) = (239 : Int32) then (if (y18 &&& (255 : Int32)) = (187 : Int32) then (if (y19 &&& (255 : Int32)) = (191 : Int32) then (3 : Int32) else (0 : Int32)) else (0 : Int32)) else (0 : Int32)))] [(.int (f_longer (nar .byte y17) (nar .byte y18) (nar .byte y19)))])) := st122
    have k123 : Go p.tables e below (T122.setTop (mkF m 224 #[.val (.int p0), .val (.int p1), .val (.int p2), .val (.int p3), .val (.int p4), .val (.int (4 : Int32)), .val (.int y17), .val (.int y18), .val (.int y19), .val (.ref b86), .val (.int (if (y17 &&& (255 : Int32)) = (239 : Int32) then (if (y18 &&& (255 : Int32)) = (187 : Int32) then (if (y19 &&& (255 : Int32)) = (191 : Int32) then (1 : Int32) else (0 : Int32)) else (0 : Int32)) else (0 : Int32))), .val (.int (if (y17 &&& (255 : Int32)) = (239 : Int32) then (if (y18 &&& (255 : Int32)) = (187 : Int32) then (if (y19 &&& (255 : Int32)) = (191 : Int32) then (3 : Int32) else (0 : Int32)) else (0 : Int32)) else (0 : Int32)))] [(.int (f_longer (nar .byte y17) (nar .byte y18) (nar .byte y19)))])) (T122.setTop (mkF m 234 #[.val (.int p0), .val (.int p1), .val (.int p2), .val (.int p3), .val (.int p4), .val (.int (4 : Int32)), .val (.int y17), .val (.int y18), .val (.int y19), .val (.ref b86), .val (.int (if (y17 &&& (255 : Int32)) = (239 : Int32) then (if (y18 &&& (255 : Int32)) = (187 : Int32) then (if (y19 &&& (255 : Int32)) = (191 : Int32) then (1 : Int32) else (0 : Int32)) else (0 : Int32)) else (0 : Int32))), .val (.int (if (y17 &&& (255 : Int32)) = (239 : Int32) then (if (y18 &&& (255 : Int32)) = (187 : Int32) then (if (y19 &&& (255 : Int32)) = (191 : Int32) then (3 : Int32) else (0 : Int32)) else (0 : Int32)) else (0 : Int32)))] [(.int (1 : Int32))])) := by
      intro t ht
      refine XS.iload X122.here hx rfl (hb hby at_224) rfl ?_
      show Steps p.tables e below (T122.setTop (mkF m 226 #[.val (.int p0), .val (.int p1), .val (.int p2), .val (.int p3), .val (.int p4), .val (.int (4 : Int32)), .val (.int y17), .val (.int y18), .val (.int y19), .val (.ref b86), .val (.int (if (y17 &&& (255 : Int32)) = (239 : Int32) then (if (y18 &&& (255 : Int32)) = (187 : Int32) then (if (y19 &&& (255 : Int32)) = (191 : Int32) then (1 : Int32) else (0 : Int32)) else (0 : Int32)) else (0 : Int32))), .val (.int (if (y17 &&& (255 : Int32)) = (239 : Int32) then (if (y18 &&& (255 : Int32)) = (187 : Int32) then (if (y19 &&& (255 : Int32)) = (191 : Int32) then (3 : Int32) else (0 : Int32)) else (0 : Int32)) else (0 : Int32)))] [(.int (if (y17 &&& (255 : Int32)) = (239 : Int32) then (if (y18 &&& (255 : Int32)) = (187 : Int32) then (if (y19 &&& (255 : Int32)) = (191 : Int32) then (3 : Int32) else (0 : Int32)) else (0 : Int32)) else (0 : Int32))), (.int (f_longer (nar .byte y17) (nar .byte y18) (nar .byte y19)))])) _
      refine XS.icmpNo X122.here hx rfl (hb hby at_226) rfl (teq (own_law _ _ _ : (f_longer (nar .byte y17) (nar .byte y18) (nar .byte y19)) = (if (y17 &&& (255 : Int32)) = (239 : Int32) then (if (y18 &&& (255 : Int32)) = (187 : Int32) then (if (y19 &&& (255 : Int32)) = (191 : Int32) then (3 : Int32) else (0 : Int32)) else (0 : Int32)) else (0 : Int32)))).2 ?_
      show Steps p.tables e below (T122.setTop (mkF m 229 #[.val (.int p0), .val (.int p1), .val (.int p2), .val (.int p3), .val (.int p4), .val (.int (4 : Int32)), .val (.int y17), .val (.int y18), .val (.int y19), .val (.ref b86), .val (.int (if (y17 &&& (255 : Int32)) = (239 : Int32) then (if (y18 &&& (255 : Int32)) = (187 : Int32) then (if (y19 &&& (255 : Int32)) = (191 : Int32) then (1 : Int32) else (0 : Int32)) else (0 : Int32)) else (0 : Int32))), .val (.int (if (y17 &&& (255 : Int32)) = (239 : Int32) then (if (y18 &&& (255 : Int32)) = (187 : Int32) then (if (y19 &&& (255 : Int32)) = (191 : Int32) then (3 : Int32) else (0 : Int32)) else (0 : Int32)) else (0 : Int32)))] [])) _
      refine XS.iconst X122.here hx rfl (hb hby at_229) ?_
      show Steps p.tables e below (T122.setTop (mkF m 230 #[.val (.int p0), .val (.int p1), .val (.int p2), .val (.int p3), .val (.int p4), .val (.int (4 : Int32)), .val (.int y17), .val (.int y18), .val (.int y19), .val (.ref b86), .val (.int (if (y17 &&& (255 : Int32)) = (239 : Int32) then (if (y18 &&& (255 : Int32)) = (187 : Int32) then (if (y19 &&& (255 : Int32)) = (191 : Int32) then (1 : Int32) else (0 : Int32)) else (0 : Int32)) else (0 : Int32))), .val (.int (if (y17 &&& (255 : Int32)) = (239 : Int32) then (if (y18 &&& (255 : Int32)) = (187 : Int32) then (if (y19 &&& (255 : Int32)) = (191 : Int32) then (3 : Int32) else (0 : Int32)) else (0 : Int32)) else (0 : Int32)))] [(.int (1 : Int32))])) _
      refine XS.goto X122.here hx rfl (pc0 := 230) (pc' := 234) rfl (hb hby at_230) (by decide) (by decide) ?_
      exact ht
    obtain ⟨fs, hr, hrun, hended, hW, hsame⟩ := X122.leave (v := some (.int (1 : Int32))) (fun h => by rw [Bd.returns] at h; cases h)
    refine ⟨_, _, pre0 _ ((goT k1 (goT k2 (goT k6 (goT k7 (goT k11 (goT k12 (goT k16 (goT k20 (goT k84 (goT k85 (goT k86 (goT k87 (goT k88 (goT k89 (goT k90 (goT k91 (goT k92 (goT k93 (goT k94 (goT k95 (goT k96 (goT k106 (goT k107 (goT k121 (goT k122 k123))))))))))))))))))))))))) _ (retN X122 hx (t := .boolean) Bd.returns (by simp) (hb hby at_234) hr)), hrun, hended, _, _, rfl, ?_, ⟨_, rfl⟩, hW, hsame.mono (by decide) (by decide)⟩
    show Q_law Z p0 p1 p2 p3 p4 wM kM h0 n0 _ T122.heap _
    rw [eq122]
    exact ⟨rfl, N122⟩
  · have k124 : Go p.tables e below (s₁.setTop (mkF m 54 #[.val (.int p0), .val (.int p1), .val (.int p2), .val (.int p3), .val (.int p4), .val (.int (p0 &&& (7 : Int32))), .val (.int y17), .val (.int y18), .val (.int y19), .unset, .unset, .unset] [])) (s₁.setTop (mkF m 54 #[.val (.int p0), .val (.int p1), .val (.int p2), .val (.int p3), .val (.int p4), .val (.int (5 : Int32)), .val (.int y17), .val (.int y18), .val (.int y19), .unset, .unset, .unset] [])) := by rw [hk21]; exact fun _ h => h
    have k125 : Go p.tables e below (s₁.setTop (mkF m 54 #[.val (.int p0), .val (.int p1), .val (.int p2), .val (.int p3), .val (.int p4), .val (.int (5 : Int32)), .val (.int y17), .val (.int y18), .val (.int y19), .unset, .unset, .unset] [])) (s₁.setTop (mkF m 56 #[.val (.int p0), .val (.int p1), .val (.int p2), .val (.int p3), .val (.int p4), .val (.int (5 : Int32)), .val (.int y17), .val (.int y18), .val (.int y19), .unset, .unset, .unset] [(.int (5 : Int32))])) := by
      intro t ht
      refine XS.iload X0.here hx rfl (hb hby at_54) rfl ?_
      exact ht
    obtain ⟨T126, h126, kc126, X126, e126, E126, A126, st126⟩ := newP X0 hx hZ (hw _ (List.mem_of_getElem? (i := 0) rfl)) e0 (g := (mkF m 56 #[.val (.int p0), .val (.int p1), .val (.int p2), .val (.int p3), .val (.int p4), .val (.int (5 : Int32)), .val (.int y17), .val (.int y18), .val (.int y19), .unset, .unset, .unset] [(.int (5 : Int32))])) rfl (hb hby at_56) rfl (by decide) (cap := 5) (by decide) (by decide) (by decide) (by decide)
    obtain ⟨b126, g126⟩ : ∃ z, z = h0.size := ⟨_, rfl⟩
    rw [← g126] at A126 st126
    have g_b126 : n0 ≤ b126 := Nat.le_trans Z0 (Nat.le_of_eq g126.symm)
    have sz_b126 : h0.size ≤ b126 := Nat.le_trans (Keep.refl h0 []).1 (Nat.le_of_eq g126.symm)
    have ne_wM_b126 : wM ≠ b126 := Nat.ne_of_lt (Nat.lt_of_lt_of_le V_M.lt (Nat.le_of_eq g126.symm))
    have Kp126 : Keep h0 h126 [] := (Keep.refl h0 []).ext E126
    have Z126 : n0 ≤ h126.size := Nat.le_trans Z0 E126.1
    have S_M_c_126 := S_M.ext E126
    have V_M_c_126 := V_M.ext E126
    have V_b126 : Arv Z h126 b126 kc126 .byte (5 : Int32) [(.int (0 : Int32)), (.int (0 : Int32)), (.int (0 : Int32)), (.int (0 : Int32)), (.int (0 : Int32))] (.int (0 : Int32)) := (Arv.new A126 (by decide)).pad (pad_rep [] (.int (0 : Int32)) 5)
    have k126 : Go p.tables e below (s₁.setTop (mkF m 56 #[.val (.int p0), .val (.int p1), .val (.int p2), .val (.int p3), .val (.int p4), .val (.int (5 : Int32)), .val (.int y17), .val (.int y18), .val (.int y19), .unset, .unset, .unset] [(.int (5 : Int32))])) (T126.setTop (mkF m 58 #[.val (.int p0), .val (.int p1), .val (.int p2), .val (.int p3), .val (.int p4), .val (.int (5 : Int32)), .val (.int y17), .val (.int y18), .val (.int y19), .unset, .unset, .unset] [(.ref b126)])) := st126
    have k127 : Go p.tables e below (T126.setTop (mkF m 58 #[.val (.int p0), .val (.int p1), .val (.int p2), .val (.int p3), .val (.int p4), .val (.int (5 : Int32)), .val (.int y17), .val (.int y18), .val (.int y19), .unset, .unset, .unset] [(.ref b126)])) (T126.setTop (mkF m 70 #[.val (.int p0), .val (.int p1), .val (.int p2), .val (.int p3), .val (.int p4), .val (.int (5 : Int32)), .val (.int y17), .val (.int y18), .val (.int y19), .val (.ref b126), .unset, .unset] [(.int y17), (.int (0 : Int32)), (.ref b126)])) := by
      intro t ht
      refine XS.astore X126.here hx rfl (hb hby at_58) rfl rfl (l' := #[.val (.int p0), .val (.int p1), .val (.int p2), .val (.int p3), .val (.int p4), .val (.int (5 : Int32)), .val (.int y17), .val (.int y18), .val (.int y19), .val (.ref b126), .unset, .unset]) rfl ?_
      show Steps p.tables e below (T126.setTop (mkF m 60 #[.val (.int p0), .val (.int p1), .val (.int p2), .val (.int p3), .val (.int p4), .val (.int (5 : Int32)), .val (.int y17), .val (.int y18), .val (.int y19), .val (.ref b126), .unset, .unset] [])) _
      refine XS.iload X126.here hx rfl (hb hby at_60) rfl ?_
      show Steps p.tables e below (T126.setTop (mkF m 62 #[.val (.int p0), .val (.int p1), .val (.int p2), .val (.int p3), .val (.int p4), .val (.int (5 : Int32)), .val (.int y17), .val (.int y18), .val (.int y19), .val (.ref b126), .unset, .unset] [(.int (5 : Int32))])) _
      refine XS.ifNo X126.here hx rfl (hb hby at_62) rfl ((if0 _ _).trans (tlt (by decide : (0 : Int32) < (5 : Int32))).2.2.2) ?_
      show Steps p.tables e below (T126.setTop (mkF m 65 #[.val (.int p0), .val (.int p1), .val (.int p2), .val (.int p3), .val (.int p4), .val (.int (5 : Int32)), .val (.int y17), .val (.int y18), .val (.int y19), .val (.ref b126), .unset, .unset] [])) _
      refine XS.aload X126.here hx rfl (hb hby at_65) rfl rfl ?_
      show Steps p.tables e below (T126.setTop (mkF m 67 #[.val (.int p0), .val (.int p1), .val (.int p2), .val (.int p3), .val (.int p4), .val (.int (5 : Int32)), .val (.int y17), .val (.int y18), .val (.int y19), .val (.ref b126), .unset, .unset] [(.ref b126)])) _
      refine XS.iconst X126.here hx rfl (hb hby at_67) ?_
      show Steps p.tables e below (T126.setTop (mkF m 68 #[.val (.int p0), .val (.int p1), .val (.int p2), .val (.int p3), .val (.int p4), .val (.int (5 : Int32)), .val (.int y17), .val (.int y18), .val (.int y19), .val (.ref b126), .unset, .unset] [(.int (0 : Int32)), (.ref b126)])) _
      refine XS.iload X126.here hx rfl (hb hby at_68) rfl ?_
      exact ht
    obtain ⟨cl128, Ar128, q128, S128, M128, H128, G128⟩ := id V_b126
    have hin128 : ¬ ((0 : Int32) < 0 ∨ cl128.slots.size ≤ ((0 : Int32)).toNatClampNeg) := inb_of S128 ⟨by decide, by decide⟩
    obtain ⟨T128, h128, X128, e128, W128, st128⟩ := stB X126 hx hZ e126 Ar128 (j := (0 : Int32)) hin128 (g := (mkF m 70 #[.val (.int p0), .val (.int p1), .val (.int p2), .val (.int p3), .val (.int p4), .val (.int (5 : Int32)), .val (.int y17), .val (.int y18), .val (.int y19), .val (.ref b126), .unset, .unset] [(.int y17), (.int (0 : Int32)), (.ref b126)])) rfl rfl (hb hby at_70)
    have V128_b126 : Arv Z h128 b126 kc126 .byte (5 : Int32) [(.int (nar .byte y17)), (.int (0 : Int32)), (.int (0 : Int32)), (.int (0 : Int32)), (.int (0 : Int32))] (.int (0 : Int32)) := Arv.set Ar128 q128 S128 M128 H128 G128 (fits_nar_byte _) W128 0 rfl (Nat.le_of_ble_eq_true rfl)
    have Kp128 : Keep h0 h128 [] := Kp126.wr W128 (Or.inr sz_b126)
    have Z128 : n0 ≤ h128.size := Nat.le_trans Z126 (Keep.of_wr W128).1
    have S_M_c_128 := S_M_c_126.wr W128
    have V_M_c_128 := V_M_c_126.other W128 ne_wM_b126
    have k128 : Go p.tables e below (T126.setTop (mkF m 70 #[.val (.int p0), .val (.int p1), .val (.int p2), .val (.int p3), .val (.int p4), .val (.int (5 : Int32)), .val (.int y17), .val (.int y18), .val (.int y19), .val (.ref b126), .unset, .unset] [(.int y17), (.int (0 : Int32)), (.ref b126)])) (T128.setTop (mkF m 71 #[.val (.int p0), .val (.int p1), .val (.int p2), .val (.int p3), .val (.int p4), .val (.int (5 : Int32)), .val (.int y17), .val (.int y18), .val (.int y19), .val (.ref b126), .unset, .unset] [])) := st128
    have N128 := Fr.snoc X128 N0 g_b126
    have k129 : Go p.tables e below (T128.setTop (mkF m 71 #[.val (.int p0), .val (.int p1), .val (.int p2), .val (.int p3), .val (.int p4), .val (.int (5 : Int32)), .val (.int y17), .val (.int y18), .val (.int y19), .val (.ref b126), .unset, .unset] [])) (T128.setTop (mkF m 82 #[.val (.int p0), .val (.int p1), .val (.int p2), .val (.int p3), .val (.int p4), .val (.int (5 : Int32)), .val (.int y17), .val (.int y18), .val (.int y19), .val (.ref b126), .unset, .unset] [(.int y18), (.int (1 : Int32)), (.ref b126)])) := by
      intro t ht
      refine XS.iload X128.here hx rfl (hb hby at_71) rfl ?_
      show Steps p.tables e below (T128.setTop (mkF m 73 #[.val (.int p0), .val (.int p1), .val (.int p2), .val (.int p3), .val (.int p4), .val (.int (5 : Int32)), .val (.int y17), .val (.int y18), .val (.int y19), .val (.ref b126), .unset, .unset] [(.int (5 : Int32))])) _
      refine XS.iconst X128.here hx rfl (hb hby at_73) ?_
      show Steps p.tables e below (T128.setTop (mkF m 74 #[.val (.int p0), .val (.int p1), .val (.int p2), .val (.int p3), .val (.int p4), .val (.int (5 : Int32)), .val (.int y17), .val (.int y18), .val (.int y19), .val (.ref b126), .unset, .unset] [(.int (1 : Int32)), (.int (5 : Int32))])) _
      refine XS.icmpNo X128.here hx rfl (hb hby at_74) rfl (tlt (by decide : (1 : Int32) < (5 : Int32))).2.2.2 ?_
      show Steps p.tables e below (T128.setTop (mkF m 77 #[.val (.int p0), .val (.int p1), .val (.int p2), .val (.int p3), .val (.int p4), .val (.int (5 : Int32)), .val (.int y17), .val (.int y18), .val (.int y19), .val (.ref b126), .unset, .unset] [])) _
      refine XS.aload X128.here hx rfl (hb hby at_77) rfl rfl ?_
      show Steps p.tables e below (T128.setTop (mkF m 79 #[.val (.int p0), .val (.int p1), .val (.int p2), .val (.int p3), .val (.int p4), .val (.int (5 : Int32)), .val (.int y17), .val (.int y18), .val (.int y19), .val (.ref b126), .unset, .unset] [(.ref b126)])) _
      refine XS.iconst X128.here hx rfl (hb hby at_79) ?_
      show Steps p.tables e below (T128.setTop (mkF m 80 #[.val (.int p0), .val (.int p1), .val (.int p2), .val (.int p3), .val (.int p4), .val (.int (5 : Int32)), .val (.int y17), .val (.int y18), .val (.int y19), .val (.ref b126), .unset, .unset] [(.int (1 : Int32)), (.ref b126)])) _
      refine XS.iload X128.here hx rfl (hb hby at_80) rfl ?_
      exact ht
    obtain ⟨cl130, Ar130, q130, S130, M130, H130, G130⟩ := id V128_b126
    have hin130 : ¬ ((1 : Int32) < 0 ∨ cl130.slots.size ≤ ((1 : Int32)).toNatClampNeg) := inb_of S130 ⟨by decide, by decide⟩
    obtain ⟨T130, h130, X130, e130, W130, st130⟩ := stB X128 hx hZ e128 Ar130 (j := (1 : Int32)) hin130 (g := (mkF m 82 #[.val (.int p0), .val (.int p1), .val (.int p2), .val (.int p3), .val (.int p4), .val (.int (5 : Int32)), .val (.int y17), .val (.int y18), .val (.int y19), .val (.ref b126), .unset, .unset] [(.int y18), (.int (1 : Int32)), (.ref b126)])) rfl rfl (hb hby at_82)
    have V130_b126 : Arv Z h130 b126 kc126 .byte (5 : Int32) [(.int (nar .byte y17)), (.int (nar .byte y18)), (.int (0 : Int32)), (.int (0 : Int32)), (.int (0 : Int32))] (.int (0 : Int32)) := Arv.set Ar130 q130 S130 M130 H130 G130 (fits_nar_byte _) W130 1 rfl (Nat.le_of_ble_eq_true rfl)
    have Kp130 : Keep h0 h130 [] := Kp128.wr W130 (Or.inr sz_b126)
    have Z130 : n0 ≤ h130.size := Nat.le_trans Z128 (Keep.of_wr W130).1
    have S_M_c_130 := S_M_c_128.wr W130
    have V_M_c_130 := V_M_c_128.other W130 ne_wM_b126
    have k130 : Go p.tables e below (T128.setTop (mkF m 82 #[.val (.int p0), .val (.int p1), .val (.int p2), .val (.int p3), .val (.int p4), .val (.int (5 : Int32)), .val (.int y17), .val (.int y18), .val (.int y19), .val (.ref b126), .unset, .unset] [(.int y18), (.int (1 : Int32)), (.ref b126)])) (T130.setTop (mkF m 83 #[.val (.int p0), .val (.int p1), .val (.int p2), .val (.int p3), .val (.int p4), .val (.int (5 : Int32)), .val (.int y17), .val (.int y18), .val (.int y19), .val (.ref b126), .unset, .unset] [])) := st130
    have N130 := Fr.snoc X130 N128 g_b126
    have k131 : Go p.tables e below (T130.setTop (mkF m 83 #[.val (.int p0), .val (.int p1), .val (.int p2), .val (.int p3), .val (.int p4), .val (.int (5 : Int32)), .val (.int y17), .val (.int y18), .val (.int y19), .val (.ref b126), .unset, .unset] [])) (T130.setTop (mkF m 94 #[.val (.int p0), .val (.int p1), .val (.int p2), .val (.int p3), .val (.int p4), .val (.int (5 : Int32)), .val (.int y17), .val (.int y18), .val (.int y19), .val (.ref b126), .unset, .unset] [(.int y19), (.int (2 : Int32)), (.ref b126)])) := by
      intro t ht
      refine XS.iload X130.here hx rfl (hb hby at_83) rfl ?_
      show Steps p.tables e below (T130.setTop (mkF m 85 #[.val (.int p0), .val (.int p1), .val (.int p2), .val (.int p3), .val (.int p4), .val (.int (5 : Int32)), .val (.int y17), .val (.int y18), .val (.int y19), .val (.ref b126), .unset, .unset] [(.int (5 : Int32))])) _
      refine XS.iconst X130.here hx rfl (hb hby at_85) ?_
      show Steps p.tables e below (T130.setTop (mkF m 86 #[.val (.int p0), .val (.int p1), .val (.int p2), .val (.int p3), .val (.int p4), .val (.int (5 : Int32)), .val (.int y17), .val (.int y18), .val (.int y19), .val (.ref b126), .unset, .unset] [(.int (2 : Int32)), (.int (5 : Int32))])) _
      refine XS.icmpNo X130.here hx rfl (hb hby at_86) rfl (tlt (by decide : (2 : Int32) < (5 : Int32))).2.2.2 ?_
      show Steps p.tables e below (T130.setTop (mkF m 89 #[.val (.int p0), .val (.int p1), .val (.int p2), .val (.int p3), .val (.int p4), .val (.int (5 : Int32)), .val (.int y17), .val (.int y18), .val (.int y19), .val (.ref b126), .unset, .unset] [])) _
      refine XS.aload X130.here hx rfl (hb hby at_89) rfl rfl ?_
      show Steps p.tables e below (T130.setTop (mkF m 91 #[.val (.int p0), .val (.int p1), .val (.int p2), .val (.int p3), .val (.int p4), .val (.int (5 : Int32)), .val (.int y17), .val (.int y18), .val (.int y19), .val (.ref b126), .unset, .unset] [(.ref b126)])) _
      refine XS.iconst X130.here hx rfl (hb hby at_91) ?_
      show Steps p.tables e below (T130.setTop (mkF m 92 #[.val (.int p0), .val (.int p1), .val (.int p2), .val (.int p3), .val (.int p4), .val (.int (5 : Int32)), .val (.int y17), .val (.int y18), .val (.int y19), .val (.ref b126), .unset, .unset] [(.int (2 : Int32)), (.ref b126)])) _
      refine XS.iload X130.here hx rfl (hb hby at_92) rfl ?_
      exact ht
    obtain ⟨cl132, Ar132, q132, S132, M132, H132, G132⟩ := id V130_b126
    have hin132 : ¬ ((2 : Int32) < 0 ∨ cl132.slots.size ≤ ((2 : Int32)).toNatClampNeg) := inb_of S132 ⟨by decide, by decide⟩
    obtain ⟨T132, h132, X132, e132, W132, st132⟩ := stB X130 hx hZ e130 Ar132 (j := (2 : Int32)) hin132 (g := (mkF m 94 #[.val (.int p0), .val (.int p1), .val (.int p2), .val (.int p3), .val (.int p4), .val (.int (5 : Int32)), .val (.int y17), .val (.int y18), .val (.int y19), .val (.ref b126), .unset, .unset] [(.int y19), (.int (2 : Int32)), (.ref b126)])) rfl rfl (hb hby at_94)
    have V132_b126 : Arv Z h132 b126 kc126 .byte (5 : Int32) [(.int (nar .byte y17)), (.int (nar .byte y18)), (.int (nar .byte y19)), (.int (0 : Int32)), (.int (0 : Int32))] (.int (0 : Int32)) := Arv.set Ar132 q132 S132 M132 H132 G132 (fits_nar_byte _) W132 2 rfl (Nat.le_of_ble_eq_true rfl)
    have Kp132 : Keep h0 h132 [] := Kp130.wr W132 (Or.inr sz_b126)
    have Z132 : n0 ≤ h132.size := Nat.le_trans Z130 (Keep.of_wr W132).1
    have S_M_c_132 := S_M_c_130.wr W132
    have V_M_c_132 := V_M_c_130.other W132 ne_wM_b126
    have k132 : Go p.tables e below (T130.setTop (mkF m 94 #[.val (.int p0), .val (.int p1), .val (.int p2), .val (.int p3), .val (.int p4), .val (.int (5 : Int32)), .val (.int y17), .val (.int y18), .val (.int y19), .val (.ref b126), .unset, .unset] [(.int y19), (.int (2 : Int32)), (.ref b126)])) (T132.setTop (mkF m 95 #[.val (.int p0), .val (.int p1), .val (.int p2), .val (.int p3), .val (.int p4), .val (.int (5 : Int32)), .val (.int y17), .val (.int y18), .val (.int y19), .val (.ref b126), .unset, .unset] [])) := st132
    have N132 := Fr.snoc X132 N130 g_b126
    have k133 : Go p.tables e below (T132.setTop (mkF m 95 #[.val (.int p0), .val (.int p1), .val (.int p2), .val (.int p3), .val (.int p4), .val (.int (5 : Int32)), .val (.int y17), .val (.int y18), .val (.int y19), .val (.ref b126), .unset, .unset] [])) (T132.setTop (mkF m 109 #[.val (.int p0), .val (.int p1), .val (.int p2), .val (.int p3), .val (.int p4), .val (.int (5 : Int32)), .val (.int y17), .val (.int y18), .val (.int y19), .val (.ref b126), .unset, .unset] [(.int (((p1.toUInt32 >>> ((8 : Int32) &&& 31).toUInt32).toInt32).toInt8.toInt32)), (.int (3 : Int32)), (.ref b126)])) := by
      intro t ht
      refine XS.iload X132.here hx rfl (hb hby at_95) rfl ?_
      show Steps p.tables e below (T132.setTop (mkF m 97 #[.val (.int p0), .val (.int p1), .val (.int p2), .val (.int p3), .val (.int p4), .val (.int (5 : Int32)), .val (.int y17), .val (.int y18), .val (.int y19), .val (.ref b126), .unset, .unset] [(.int (5 : Int32))])) _
      refine XS.iconst X132.here hx rfl (hb hby at_97) ?_
      show Steps p.tables e below (T132.setTop (mkF m 98 #[.val (.int p0), .val (.int p1), .val (.int p2), .val (.int p3), .val (.int p4), .val (.int (5 : Int32)), .val (.int y17), .val (.int y18), .val (.int y19), .val (.ref b126), .unset, .unset] [(.int (3 : Int32)), (.int (5 : Int32))])) _
      refine XS.icmpNo X132.here hx rfl (hb hby at_98) rfl (tlt (by decide : (3 : Int32) < (5 : Int32))).2.2.2 ?_
      show Steps p.tables e below (T132.setTop (mkF m 101 #[.val (.int p0), .val (.int p1), .val (.int p2), .val (.int p3), .val (.int p4), .val (.int (5 : Int32)), .val (.int y17), .val (.int y18), .val (.int y19), .val (.ref b126), .unset, .unset] [])) _
      refine XS.aload X132.here hx rfl (hb hby at_101) rfl rfl ?_
      show Steps p.tables e below (T132.setTop (mkF m 103 #[.val (.int p0), .val (.int p1), .val (.int p2), .val (.int p3), .val (.int p4), .val (.int (5 : Int32)), .val (.int y17), .val (.int y18), .val (.int y19), .val (.ref b126), .unset, .unset] [(.ref b126)])) _
      refine XS.iconst X132.here hx rfl (hb hby at_103) ?_
      show Steps p.tables e below (T132.setTop (mkF m 104 #[.val (.int p0), .val (.int p1), .val (.int p2), .val (.int p3), .val (.int p4), .val (.int (5 : Int32)), .val (.int y17), .val (.int y18), .val (.int y19), .val (.ref b126), .unset, .unset] [(.int (3 : Int32)), (.ref b126)])) _
      refine XS.iloadN X132.here hx rfl (hb hby at_104) rfl ?_
      show Steps p.tables e below (T132.setTop (mkF m 105 #[.val (.int p0), .val (.int p1), .val (.int p2), .val (.int p3), .val (.int p4), .val (.int (5 : Int32)), .val (.int y17), .val (.int y18), .val (.int y19), .val (.ref b126), .unset, .unset] [(.int p1), (.int (3 : Int32)), (.ref b126)])) _
      refine XS.bipush X132.here hx rfl (hb hby at_105) ?_
      show Steps p.tables e below (T132.setTop (mkF m 107 #[.val (.int p0), .val (.int p1), .val (.int p2), .val (.int p3), .val (.int p4), .val (.int (5 : Int32)), .val (.int y17), .val (.int y18), .val (.int y19), .val (.ref b126), .unset, .unset] [(.int (8 : Int32)), (.int p1), (.int (3 : Int32)), (.ref b126)])) _
      refine XS.iushr X132.here hx rfl (hb hby at_107) rfl ?_
      show Steps p.tables e below (T132.setTop (mkF m 108 #[.val (.int p0), .val (.int p1), .val (.int p2), .val (.int p3), .val (.int p4), .val (.int (5 : Int32)), .val (.int y17), .val (.int y18), .val (.int y19), .val (.ref b126), .unset, .unset] [(.int ((p1.toUInt32 >>> ((8 : Int32) &&& 31).toUInt32).toInt32)), (.int (3 : Int32)), (.ref b126)])) _
      refine XS.i2b X132.here hx rfl (hb hby at_108) rfl ?_
      exact ht
    obtain ⟨cl134, Ar134, q134, S134, M134, H134, G134⟩ := id V132_b126
    have hin134 : ¬ ((3 : Int32) < 0 ∨ cl134.slots.size ≤ ((3 : Int32)).toNatClampNeg) := inb_of S134 ⟨by decide, by decide⟩
    obtain ⟨T134, h134, X134, e134, W134, st134⟩ := stB X132 hx hZ e132 Ar134 (j := (3 : Int32)) hin134 (g := (mkF m 109 #[.val (.int p0), .val (.int p1), .val (.int p2), .val (.int p3), .val (.int p4), .val (.int (5 : Int32)), .val (.int y17), .val (.int y18), .val (.int y19), .val (.ref b126), .unset, .unset] [(.int (((p1.toUInt32 >>> ((8 : Int32) &&& 31).toUInt32).toInt32).toInt8.toInt32)), (.int (3 : Int32)), (.ref b126)])) rfl rfl (hb hby at_109)
    have V134_b126 : Arv Z h134 b126 kc126 .byte (5 : Int32) [(.int (nar .byte y17)), (.int (nar .byte y18)), (.int (nar .byte y19)), (.int (nar .byte (((p1.toUInt32 >>> ((8 : Int32) &&& 31).toUInt32).toInt32).toInt8.toInt32))), (.int (0 : Int32))] (.int (0 : Int32)) := Arv.set Ar134 q134 S134 M134 H134 G134 (fits_nar_byte _) W134 3 rfl (Nat.le_of_ble_eq_true rfl)
    have Kp134 : Keep h0 h134 [] := Kp132.wr W134 (Or.inr sz_b126)
    have Z134 : n0 ≤ h134.size := Nat.le_trans Z132 (Keep.of_wr W134).1
    have S_M_c_134 := S_M_c_132.wr W134
    have V_M_c_134 := V_M_c_132.other W134 ne_wM_b126
    have k134 : Go p.tables e below (T132.setTop (mkF m 109 #[.val (.int p0), .val (.int p1), .val (.int p2), .val (.int p3), .val (.int p4), .val (.int (5 : Int32)), .val (.int y17), .val (.int y18), .val (.int y19), .val (.ref b126), .unset, .unset] [(.int (((p1.toUInt32 >>> ((8 : Int32) &&& 31).toUInt32).toInt32).toInt8.toInt32)), (.int (3 : Int32)), (.ref b126)])) (T134.setTop (mkF m 110 #[.val (.int p0), .val (.int p1), .val (.int p2), .val (.int p3), .val (.int p4), .val (.int (5 : Int32)), .val (.int y17), .val (.int y18), .val (.int y19), .val (.ref b126), .unset, .unset] [])) := st134
    have N134 := Fr.snoc X134 N132 g_b126
    have k135 : Go p.tables e below (T134.setTop (mkF m 110 #[.val (.int p0), .val (.int p1), .val (.int p2), .val (.int p3), .val (.int p4), .val (.int (5 : Int32)), .val (.int y17), .val (.int y18), .val (.int y19), .val (.ref b126), .unset, .unset] [])) (T134.setTop (mkF m 124 #[.val (.int p0), .val (.int p1), .val (.int p2), .val (.int p3), .val (.int p4), .val (.int (5 : Int32)), .val (.int y17), .val (.int y18), .val (.int y19), .val (.ref b126), .unset, .unset] [(.int (((p2.toUInt32 >>> ((8 : Int32) &&& 31).toUInt32).toInt32).toInt8.toInt32)), (.int (4 : Int32)), (.ref b126)])) := by
      intro t ht
      refine XS.iload X134.here hx rfl (hb hby at_110) rfl ?_
      show Steps p.tables e below (T134.setTop (mkF m 112 #[.val (.int p0), .val (.int p1), .val (.int p2), .val (.int p3), .val (.int p4), .val (.int (5 : Int32)), .val (.int y17), .val (.int y18), .val (.int y19), .val (.ref b126), .unset, .unset] [(.int (5 : Int32))])) _
      refine XS.iconst X134.here hx rfl (hb hby at_112) ?_
      show Steps p.tables e below (T134.setTop (mkF m 113 #[.val (.int p0), .val (.int p1), .val (.int p2), .val (.int p3), .val (.int p4), .val (.int (5 : Int32)), .val (.int y17), .val (.int y18), .val (.int y19), .val (.ref b126), .unset, .unset] [(.int (4 : Int32)), (.int (5 : Int32))])) _
      refine XS.icmpNo X134.here hx rfl (hb hby at_113) rfl (tlt (by decide : (4 : Int32) < (5 : Int32))).2.2.2 ?_
      show Steps p.tables e below (T134.setTop (mkF m 116 #[.val (.int p0), .val (.int p1), .val (.int p2), .val (.int p3), .val (.int p4), .val (.int (5 : Int32)), .val (.int y17), .val (.int y18), .val (.int y19), .val (.ref b126), .unset, .unset] [])) _
      refine XS.aload X134.here hx rfl (hb hby at_116) rfl rfl ?_
      show Steps p.tables e below (T134.setTop (mkF m 118 #[.val (.int p0), .val (.int p1), .val (.int p2), .val (.int p3), .val (.int p4), .val (.int (5 : Int32)), .val (.int y17), .val (.int y18), .val (.int y19), .val (.ref b126), .unset, .unset] [(.ref b126)])) _
      refine XS.iconst X134.here hx rfl (hb hby at_118) ?_
      show Steps p.tables e below (T134.setTop (mkF m 119 #[.val (.int p0), .val (.int p1), .val (.int p2), .val (.int p3), .val (.int p4), .val (.int (5 : Int32)), .val (.int y17), .val (.int y18), .val (.int y19), .val (.ref b126), .unset, .unset] [(.int (4 : Int32)), (.ref b126)])) _
      refine XS.iloadN X134.here hx rfl (hb hby at_119) rfl ?_
      show Steps p.tables e below (T134.setTop (mkF m 120 #[.val (.int p0), .val (.int p1), .val (.int p2), .val (.int p3), .val (.int p4), .val (.int (5 : Int32)), .val (.int y17), .val (.int y18), .val (.int y19), .val (.ref b126), .unset, .unset] [(.int p2), (.int (4 : Int32)), (.ref b126)])) _
      refine XS.bipush X134.here hx rfl (hb hby at_120) ?_
      show Steps p.tables e below (T134.setTop (mkF m 122 #[.val (.int p0), .val (.int p1), .val (.int p2), .val (.int p3), .val (.int p4), .val (.int (5 : Int32)), .val (.int y17), .val (.int y18), .val (.int y19), .val (.ref b126), .unset, .unset] [(.int (8 : Int32)), (.int p2), (.int (4 : Int32)), (.ref b126)])) _
      refine XS.iushr X134.here hx rfl (hb hby at_122) rfl ?_
      show Steps p.tables e below (T134.setTop (mkF m 123 #[.val (.int p0), .val (.int p1), .val (.int p2), .val (.int p3), .val (.int p4), .val (.int (5 : Int32)), .val (.int y17), .val (.int y18), .val (.int y19), .val (.ref b126), .unset, .unset] [(.int ((p2.toUInt32 >>> ((8 : Int32) &&& 31).toUInt32).toInt32)), (.int (4 : Int32)), (.ref b126)])) _
      refine XS.i2b X134.here hx rfl (hb hby at_123) rfl ?_
      exact ht
    obtain ⟨cl136, Ar136, q136, S136, M136, H136, G136⟩ := id V134_b126
    have hin136 : ¬ ((4 : Int32) < 0 ∨ cl136.slots.size ≤ ((4 : Int32)).toNatClampNeg) := inb_of S136 ⟨by decide, by decide⟩
    obtain ⟨T136, h136, X136, e136, W136, st136⟩ := stB X134 hx hZ e134 Ar136 (j := (4 : Int32)) hin136 (g := (mkF m 124 #[.val (.int p0), .val (.int p1), .val (.int p2), .val (.int p3), .val (.int p4), .val (.int (5 : Int32)), .val (.int y17), .val (.int y18), .val (.int y19), .val (.ref b126), .unset, .unset] [(.int (((p2.toUInt32 >>> ((8 : Int32) &&& 31).toUInt32).toInt32).toInt8.toInt32)), (.int (4 : Int32)), (.ref b126)])) rfl rfl (hb hby at_124)
    have V136_b126 : Arv Z h136 b126 kc126 .byte (5 : Int32) [(.int (nar .byte y17)), (.int (nar .byte y18)), (.int (nar .byte y19)), (.int (nar .byte (((p1.toUInt32 >>> ((8 : Int32) &&& 31).toUInt32).toInt32).toInt8.toInt32))), (.int (nar .byte (((p2.toUInt32 >>> ((8 : Int32) &&& 31).toUInt32).toInt32).toInt8.toInt32)))] (.int (0 : Int32)) := Arv.set Ar136 q136 S136 M136 H136 G136 (fits_nar_byte _) W136 4 rfl (Nat.le_of_ble_eq_true rfl)
    have Kp136 : Keep h0 h136 [] := Kp134.wr W136 (Or.inr sz_b126)
    have Z136 : n0 ≤ h136.size := Nat.le_trans Z134 (Keep.of_wr W136).1
    have S_M_c_136 := S_M_c_134.wr W136
    have V_M_c_136 := V_M_c_134.other W136 ne_wM_b126
    have k136 : Go p.tables e below (T134.setTop (mkF m 124 #[.val (.int p0), .val (.int p1), .val (.int p2), .val (.int p3), .val (.int p4), .val (.int (5 : Int32)), .val (.int y17), .val (.int y18), .val (.int y19), .val (.ref b126), .unset, .unset] [(.int (((p2.toUInt32 >>> ((8 : Int32) &&& 31).toUInt32).toInt32).toInt8.toInt32)), (.int (4 : Int32)), (.ref b126)])) (T136.setTop (mkF m 125 #[.val (.int p0), .val (.int p1), .val (.int p2), .val (.int p3), .val (.int p4), .val (.int (5 : Int32)), .val (.int y17), .val (.int y18), .val (.int y19), .val (.ref b126), .unset, .unset] [])) := st136
    have N136 := Fr.snoc X136 N134 g_b126
    have k137 : Go p.tables e below (T136.setTop (mkF m 125 #[.val (.int p0), .val (.int p1), .val (.int p2), .val (.int p3), .val (.int p4), .val (.int (5 : Int32)), .val (.int y17), .val (.int y18), .val (.int y19), .val (.ref b126), .unset, .unset] [])) (T136.setTop (mkF m 173 #[.val (.int p0), .val (.int p1), .val (.int p2), .val (.int p3), .val (.int p4), .val (.int (5 : Int32)), .val (.int y17), .val (.int y18), .val (.int y19), .val (.ref b126), .unset, .unset] [(.int (239 : Int32)), (.int (y17 &&& (255 : Int32)))])) := by
      intro t ht
      refine XS.iload X136.here hx rfl (hb hby at_125) rfl ?_
      show Steps p.tables e below (T136.setTop (mkF m 127 #[.val (.int p0), .val (.int p1), .val (.int p2), .val (.int p3), .val (.int p4), .val (.int (5 : Int32)), .val (.int y17), .val (.int y18), .val (.int y19), .val (.ref b126), .unset, .unset] [(.int (5 : Int32))])) _
      refine XS.iconst X136.here hx rfl (hb hby at_127) ?_
      show Steps p.tables e below (T136.setTop (mkF m 128 #[.val (.int p0), .val (.int p1), .val (.int p2), .val (.int p3), .val (.int p4), .val (.int (5 : Int32)), .val (.int y17), .val (.int y18), .val (.int y19), .val (.ref b126), .unset, .unset] [(.int (5 : Int32)), (.int (5 : Int32))])) _
      refine XS.icmpYes X136.here hx rfl (pc0 := 128) (pc' := 140) rfl (hb hby at_128) rfl (flt (by decide : ¬ ((5 : Int32) < (5 : Int32)))).2.2.2 (by decide) (by decide) ?_
      show Steps p.tables e below (T136.setTop (mkF m 140 #[.val (.int p0), .val (.int p1), .val (.int p2), .val (.int p3), .val (.int p4), .val (.int (5 : Int32)), .val (.int y17), .val (.int y18), .val (.int y19), .val (.ref b126), .unset, .unset] [])) _
      refine XS.iload X136.here hx rfl (hb hby at_140) rfl ?_
      show Steps p.tables e below (T136.setTop (mkF m 142 #[.val (.int p0), .val (.int p1), .val (.int p2), .val (.int p3), .val (.int p4), .val (.int (5 : Int32)), .val (.int y17), .val (.int y18), .val (.int y19), .val (.ref b126), .unset, .unset] [(.int (5 : Int32))])) _
      refine XS.bipush X136.here hx rfl (hb hby at_142) ?_
      show Steps p.tables e below (T136.setTop (mkF m 144 #[.val (.int p0), .val (.int p1), .val (.int p2), .val (.int p3), .val (.int p4), .val (.int (5 : Int32)), .val (.int y17), .val (.int y18), .val (.int y19), .val (.ref b126), .unset, .unset] [(.int (6 : Int32)), (.int (5 : Int32))])) _
      refine XS.icmpYes X136.here hx rfl (pc0 := 144) (pc' := 158) rfl (hb hby at_144) rfl (flt (by decide : ¬ ((6 : Int32) < (5 : Int32)))).2.2.2 (by decide) (by decide) ?_
      show Steps p.tables e below (T136.setTop (mkF m 158 #[.val (.int p0), .val (.int p1), .val (.int p2), .val (.int p3), .val (.int p4), .val (.int (5 : Int32)), .val (.int y17), .val (.int y18), .val (.int y19), .val (.ref b126), .unset, .unset] [])) _
      refine XS.iload X136.here hx rfl (hb hby at_158) rfl ?_
      show Steps p.tables e below (T136.setTop (mkF m 160 #[.val (.int p0), .val (.int p1), .val (.int p2), .val (.int p3), .val (.int p4), .val (.int (5 : Int32)), .val (.int y17), .val (.int y18), .val (.int y19), .val (.ref b126), .unset, .unset] [(.int (5 : Int32))])) _
      refine XS.iconst X136.here hx rfl (hb hby at_160) ?_
      show Steps p.tables e below (T136.setTop (mkF m 161 #[.val (.int p0), .val (.int p1), .val (.int p2), .val (.int p3), .val (.int p4), .val (.int (5 : Int32)), .val (.int y17), .val (.int y18), .val (.int y19), .val (.ref b126), .unset, .unset] [(.int (3 : Int32)), (.int (5 : Int32))])) _
      refine XS.icmpNo X136.here hx rfl (hb hby at_161) rfl (flt (by decide : ¬ ((5 : Int32) < (3 : Int32)))).1 ?_
      show Steps p.tables e below (T136.setTop (mkF m 164 #[.val (.int p0), .val (.int p1), .val (.int p2), .val (.int p3), .val (.int p4), .val (.int (5 : Int32)), .val (.int y17), .val (.int y18), .val (.int y19), .val (.ref b126), .unset, .unset] [])) _
      refine XS.iload X136.here hx rfl (hb hby at_164) rfl ?_
      show Steps p.tables e below (T136.setTop (mkF m 166 #[.val (.int p0), .val (.int p1), .val (.int p2), .val (.int p3), .val (.int p4), .val (.int (5 : Int32)), .val (.int y17), .val (.int y18), .val (.int y19), .val (.ref b126), .unset, .unset] [(.int y17)])) _
      refine XS.sipush X136.here hx rfl (hb hby at_166) ?_
      show Steps p.tables e below (T136.setTop (mkF m 169 #[.val (.int p0), .val (.int p1), .val (.int p2), .val (.int p3), .val (.int p4), .val (.int (5 : Int32)), .val (.int y17), .val (.int y18), .val (.int y19), .val (.ref b126), .unset, .unset] [(.int (255 : Int32)), (.int y17)])) _
      refine XS.iand X136.here hx rfl (hb hby at_169) rfl ?_
      show Steps p.tables e below (T136.setTop (mkF m 170 #[.val (.int p0), .val (.int p1), .val (.int p2), .val (.int p3), .val (.int p4), .val (.int (5 : Int32)), .val (.int y17), .val (.int y18), .val (.int y19), .val (.ref b126), .unset, .unset] [(.int (y17 &&& (255 : Int32)))])) _
      refine XS.sipush X136.here hx rfl (hb hby at_170) ?_
      exact ht
    have k138 : Go p.tables e below (T136.setTop (mkF m 173 #[.val (.int p0), .val (.int p1), .val (.int p2), .val (.int p3), .val (.int p4), .val (.int (5 : Int32)), .val (.int y17), .val (.int y18), .val (.int y19), .val (.ref b126), .unset, .unset] [(.int (239 : Int32)), (.int (y17 &&& (255 : Int32)))])) (T136.setTop (mkF m 205 #[.val (.int p0), .val (.int p1), .val (.int p2), .val (.int p3), .val (.int p4), .val (.int (5 : Int32)), .val (.int y17), .val (.int y18), .val (.int y19), .val (.ref b126), .unset, .unset] [(.int (if (y17 &&& (255 : Int32)) = (239 : Int32) then (if (y18 &&& (255 : Int32)) = (187 : Int32) then (if (y19 &&& (255 : Int32)) = (191 : Int32) then (1 : Int32) else (0 : Int32)) else (0 : Int32)) else (0 : Int32)))])) := by
      by_cases hc139 : (y17 &&& (255 : Int32)) = (239 : Int32)
      · have k140 : Go p.tables e below (T136.setTop (mkF m 173 #[.val (.int p0), .val (.int p1), .val (.int p2), .val (.int p3), .val (.int p4), .val (.int (5 : Int32)), .val (.int y17), .val (.int y18), .val (.int y19), .val (.ref b126), .unset, .unset] [(.int (239 : Int32)), (.int (y17 &&& (255 : Int32)))])) (T136.setTop (mkF m 185 #[.val (.int p0), .val (.int p1), .val (.int p2), .val (.int p3), .val (.int p4), .val (.int (5 : Int32)), .val (.int y17), .val (.int y18), .val (.int y19), .val (.ref b126), .unset, .unset] [(.int (187 : Int32)), (.int (y18 &&& (255 : Int32)))])) := by
          intro t ht
          refine XS.icmpNo X136.here hx rfl (hb hby at_173) rfl (teq hc139).2 ?_
          show Steps p.tables e below (T136.setTop (mkF m 176 #[.val (.int p0), .val (.int p1), .val (.int p2), .val (.int p3), .val (.int p4), .val (.int (5 : Int32)), .val (.int y17), .val (.int y18), .val (.int y19), .val (.ref b126), .unset, .unset] [])) _
          refine XS.iload X136.here hx rfl (hb hby at_176) rfl ?_
          show Steps p.tables e below (T136.setTop (mkF m 178 #[.val (.int p0), .val (.int p1), .val (.int p2), .val (.int p3), .val (.int p4), .val (.int (5 : Int32)), .val (.int y17), .val (.int y18), .val (.int y19), .val (.ref b126), .unset, .unset] [(.int y18)])) _
          refine XS.sipush X136.here hx rfl (hb hby at_178) ?_
          show Steps p.tables e below (T136.setTop (mkF m 181 #[.val (.int p0), .val (.int p1), .val (.int p2), .val (.int p3), .val (.int p4), .val (.int (5 : Int32)), .val (.int y17), .val (.int y18), .val (.int y19), .val (.ref b126), .unset, .unset] [(.int (255 : Int32)), (.int y18)])) _
          refine XS.iand X136.here hx rfl (hb hby at_181) rfl ?_
          show Steps p.tables e below (T136.setTop (mkF m 182 #[.val (.int p0), .val (.int p1), .val (.int p2), .val (.int p3), .val (.int p4), .val (.int (5 : Int32)), .val (.int y17), .val (.int y18), .val (.int y19), .val (.ref b126), .unset, .unset] [(.int (y18 &&& (255 : Int32)))])) _
          refine XS.sipush X136.here hx rfl (hb hby at_182) ?_
          exact ht
        by_cases hc141 : (y18 &&& (255 : Int32)) = (187 : Int32)
        · have k142 : Go p.tables e below (T136.setTop (mkF m 185 #[.val (.int p0), .val (.int p1), .val (.int p2), .val (.int p3), .val (.int p4), .val (.int (5 : Int32)), .val (.int y17), .val (.int y18), .val (.int y19), .val (.ref b126), .unset, .unset] [(.int (187 : Int32)), (.int (y18 &&& (255 : Int32)))])) (T136.setTop (mkF m 197 #[.val (.int p0), .val (.int p1), .val (.int p2), .val (.int p3), .val (.int p4), .val (.int (5 : Int32)), .val (.int y17), .val (.int y18), .val (.int y19), .val (.ref b126), .unset, .unset] [(.int (191 : Int32)), (.int (y19 &&& (255 : Int32)))])) := by
            intro t ht
            refine XS.icmpNo X136.here hx rfl (hb hby at_185) rfl (teq hc141).2 ?_
            show Steps p.tables e below (T136.setTop (mkF m 188 #[.val (.int p0), .val (.int p1), .val (.int p2), .val (.int p3), .val (.int p4), .val (.int (5 : Int32)), .val (.int y17), .val (.int y18), .val (.int y19), .val (.ref b126), .unset, .unset] [])) _
            refine XS.iload X136.here hx rfl (hb hby at_188) rfl ?_
            show Steps p.tables e below (T136.setTop (mkF m 190 #[.val (.int p0), .val (.int p1), .val (.int p2), .val (.int p3), .val (.int p4), .val (.int (5 : Int32)), .val (.int y17), .val (.int y18), .val (.int y19), .val (.ref b126), .unset, .unset] [(.int y19)])) _
            refine XS.sipush X136.here hx rfl (hb hby at_190) ?_
            show Steps p.tables e below (T136.setTop (mkF m 193 #[.val (.int p0), .val (.int p1), .val (.int p2), .val (.int p3), .val (.int p4), .val (.int (5 : Int32)), .val (.int y17), .val (.int y18), .val (.int y19), .val (.ref b126), .unset, .unset] [(.int (255 : Int32)), (.int y19)])) _
            refine XS.iand X136.here hx rfl (hb hby at_193) rfl ?_
            show Steps p.tables e below (T136.setTop (mkF m 194 #[.val (.int p0), .val (.int p1), .val (.int p2), .val (.int p3), .val (.int p4), .val (.int (5 : Int32)), .val (.int y17), .val (.int y18), .val (.int y19), .val (.ref b126), .unset, .unset] [(.int (y19 &&& (255 : Int32)))])) _
            refine XS.sipush X136.here hx rfl (hb hby at_194) ?_
            exact ht
          by_cases hc143 : (y19 &&& (255 : Int32)) = (191 : Int32)
          · have k144 : Go p.tables e below (T136.setTop (mkF m 197 #[.val (.int p0), .val (.int p1), .val (.int p2), .val (.int p3), .val (.int p4), .val (.int (5 : Int32)), .val (.int y17), .val (.int y18), .val (.int y19), .val (.ref b126), .unset, .unset] [(.int (191 : Int32)), (.int (y19 &&& (255 : Int32)))])) (T136.setTop (mkF m 205 #[.val (.int p0), .val (.int p1), .val (.int p2), .val (.int p3), .val (.int p4), .val (.int (5 : Int32)), .val (.int y17), .val (.int y18), .val (.int y19), .val (.ref b126), .unset, .unset] [(.int (1 : Int32))])) := by
              intro t ht
              refine XS.icmpNo X136.here hx rfl (hb hby at_197) rfl (teq hc143).2 ?_
              show Steps p.tables e below (T136.setTop (mkF m 200 #[.val (.int p0), .val (.int p1), .val (.int p2), .val (.int p3), .val (.int p4), .val (.int (5 : Int32)), .val (.int y17), .val (.int y18), .val (.int y19), .val (.ref b126), .unset, .unset] [])) _
              refine XS.iconst X136.here hx rfl (hb hby at_200) ?_
              show Steps p.tables e below (T136.setTop (mkF m 201 #[.val (.int p0), .val (.int p1), .val (.int p2), .val (.int p3), .val (.int p4), .val (.int (5 : Int32)), .val (.int y17), .val (.int y18), .val (.int y19), .val (.ref b126), .unset, .unset] [(.int (1 : Int32))])) _
              refine XS.goto X136.here hx rfl (pc0 := 201) (pc' := 205) rfl (hb hby at_201) (by decide) (by decide) ?_
              exact ht
            have kk := (goT k140 (goT k142 k144))
            simpa only [if_pos hc139, if_pos hc141, if_pos hc143] using kk
          · have k145 : Go p.tables e below (T136.setTop (mkF m 197 #[.val (.int p0), .val (.int p1), .val (.int p2), .val (.int p3), .val (.int p4), .val (.int (5 : Int32)), .val (.int y17), .val (.int y18), .val (.int y19), .val (.ref b126), .unset, .unset] [(.int (191 : Int32)), (.int (y19 &&& (255 : Int32)))])) (T136.setTop (mkF m 205 #[.val (.int p0), .val (.int p1), .val (.int p2), .val (.int p3), .val (.int p4), .val (.int (5 : Int32)), .val (.int y17), .val (.int y18), .val (.int y19), .val (.ref b126), .unset, .unset] [(.int (0 : Int32))])) := by
              intro t ht
              refine XS.icmpYes X136.here hx rfl (pc0 := 197) (pc' := 204) rfl (hb hby at_197) rfl (feq hc143).2 (by decide) (by decide) ?_
              show Steps p.tables e below (T136.setTop (mkF m 204 #[.val (.int p0), .val (.int p1), .val (.int p2), .val (.int p3), .val (.int p4), .val (.int (5 : Int32)), .val (.int y17), .val (.int y18), .val (.int y19), .val (.ref b126), .unset, .unset] [])) _
              refine XS.iconst X136.here hx rfl (hb hby at_204) ?_
              exact ht
            have kk := (goT k140 (goT k142 k145))
            simpa only [if_pos hc139, if_pos hc141, if_neg hc143] using kk
        · have k146 : Go p.tables e below (T136.setTop (mkF m 185 #[.val (.int p0), .val (.int p1), .val (.int p2), .val (.int p3), .val (.int p4), .val (.int (5 : Int32)), .val (.int y17), .val (.int y18), .val (.int y19), .val (.ref b126), .unset, .unset] [(.int (187 : Int32)), (.int (y18 &&& (255 : Int32)))])) (T136.setTop (mkF m 205 #[.val (.int p0), .val (.int p1), .val (.int p2), .val (.int p3), .val (.int p4), .val (.int (5 : Int32)), .val (.int y17), .val (.int y18), .val (.int y19), .val (.ref b126), .unset, .unset] [(.int (0 : Int32))])) := by
            intro t ht
            refine XS.icmpYes X136.here hx rfl (pc0 := 185) (pc' := 204) rfl (hb hby at_185) rfl (feq hc141).2 (by decide) (by decide) ?_
            show Steps p.tables e below (T136.setTop (mkF m 204 #[.val (.int p0), .val (.int p1), .val (.int p2), .val (.int p3), .val (.int p4), .val (.int (5 : Int32)), .val (.int y17), .val (.int y18), .val (.int y19), .val (.ref b126), .unset, .unset] [])) _
            refine XS.iconst X136.here hx rfl (hb hby at_204) ?_
            exact ht
          have kk := (goT k140 k146)
          simpa only [if_pos hc139, if_neg hc141] using kk
      · have k147 : Go p.tables e below (T136.setTop (mkF m 173 #[.val (.int p0), .val (.int p1), .val (.int p2), .val (.int p3), .val (.int p4), .val (.int (5 : Int32)), .val (.int y17), .val (.int y18), .val (.int y19), .val (.ref b126), .unset, .unset] [(.int (239 : Int32)), (.int (y17 &&& (255 : Int32)))])) (T136.setTop (mkF m 205 #[.val (.int p0), .val (.int p1), .val (.int p2), .val (.int p3), .val (.int p4), .val (.int (5 : Int32)), .val (.int y17), .val (.int y18), .val (.int y19), .val (.ref b126), .unset, .unset] [(.int (0 : Int32))])) := by
          intro t ht
          refine XS.icmpYes X136.here hx rfl (pc0 := 173) (pc' := 204) rfl (hb hby at_173) rfl (feq hc139).2 (by decide) (by decide) ?_
          show Steps p.tables e below (T136.setTop (mkF m 204 #[.val (.int p0), .val (.int p1), .val (.int p2), .val (.int p3), .val (.int p4), .val (.int (5 : Int32)), .val (.int y17), .val (.int y18), .val (.int y19), .val (.ref b126), .unset, .unset] [])) _
          refine XS.iconst X136.here hx rfl (hb hby at_204) ?_
          exact ht
        have kk := k147
        simpa only [if_neg hc139] using kk
    have k148 : Go p.tables e below (T136.setTop (mkF m 205 #[.val (.int p0), .val (.int p1), .val (.int p2), .val (.int p3), .val (.int p4), .val (.int (5 : Int32)), .val (.int y17), .val (.int y18), .val (.int y19), .val (.ref b126), .unset, .unset] [(.int (if (y17 &&& (255 : Int32)) = (239 : Int32) then (if (y18 &&& (255 : Int32)) = (187 : Int32) then (if (y19 &&& (255 : Int32)) = (191 : Int32) then (1 : Int32) else (0 : Int32)) else (0 : Int32)) else (0 : Int32)))])) (T136.setTop (mkF m 209 #[.val (.int p0), .val (.int p1), .val (.int p2), .val (.int p3), .val (.int p4), .val (.int (5 : Int32)), .val (.int y17), .val (.int y18), .val (.int y19), .val (.ref b126), .val (.int (if (y17 &&& (255 : Int32)) = (239 : Int32) then (if (y18 &&& (255 : Int32)) = (187 : Int32) then (if (y19 &&& (255 : Int32)) = (191 : Int32) then (1 : Int32) else (0 : Int32)) else (0 : Int32)) else (0 : Int32))), .unset] [(.int (if (y17 &&& (255 : Int32)) = (239 : Int32) then (if (y18 &&& (255 : Int32)) = (187 : Int32) then (if (y19 &&& (255 : Int32)) = (191 : Int32) then (1 : Int32) else (0 : Int32)) else (0 : Int32)) else (0 : Int32)))])) := by
      intro t ht
      refine XS.istore X136.here hx rfl (hb hby at_205) rfl (l' := #[.val (.int p0), .val (.int p1), .val (.int p2), .val (.int p3), .val (.int p4), .val (.int (5 : Int32)), .val (.int y17), .val (.int y18), .val (.int y19), .val (.ref b126), .val (.int (if (y17 &&& (255 : Int32)) = (239 : Int32) then (if (y18 &&& (255 : Int32)) = (187 : Int32) then (if (y19 &&& (255 : Int32)) = (191 : Int32) then (1 : Int32) else (0 : Int32)) else (0 : Int32)) else (0 : Int32))), .unset]) rfl ?_
      show Steps p.tables e below (T136.setTop (mkF m 207 #[.val (.int p0), .val (.int p1), .val (.int p2), .val (.int p3), .val (.int p4), .val (.int (5 : Int32)), .val (.int y17), .val (.int y18), .val (.int y19), .val (.ref b126), .val (.int (if (y17 &&& (255 : Int32)) = (239 : Int32) then (if (y18 &&& (255 : Int32)) = (187 : Int32) then (if (y19 &&& (255 : Int32)) = (191 : Int32) then (1 : Int32) else (0 : Int32)) else (0 : Int32)) else (0 : Int32))), .unset] [])) _
      refine XS.iload X136.here hx rfl (hb hby at_207) rfl ?_
      exact ht
    have k149 : Go p.tables e below (T136.setTop (mkF m 209 #[.val (.int p0), .val (.int p1), .val (.int p2), .val (.int p3), .val (.int p4), .val (.int (5 : Int32)), .val (.int y17), .val (.int y18), .val (.int y19), .val (.ref b126), .val (.int (if (y17 &&& (255 : Int32)) = (239 : Int32) then (if (y18 &&& (255 : Int32)) = (187 : Int32) then (if (y19 &&& (255 : Int32)) = (191 : Int32) then (1 : Int32) else (0 : Int32)) else (0 : Int32)) else (0 : Int32))), .unset] [(.int (if (y17 &&& (255 : Int32)) = (239 : Int32) then (if (y18 &&& (255 : Int32)) = (187 : Int32) then (if (y19 &&& (255 : Int32)) = (191 : Int32) then (1 : Int32) else (0 : Int32)) else (0 : Int32)) else (0 : Int32)))])) (T136.setTop (mkF m 217 #[.val (.int p0), .val (.int p1), .val (.int p2), .val (.int p3), .val (.int p4), .val (.int (5 : Int32)), .val (.int y17), .val (.int y18), .val (.int y19), .val (.ref b126), .val (.int (if (y17 &&& (255 : Int32)) = (239 : Int32) then (if (y18 &&& (255 : Int32)) = (187 : Int32) then (if (y19 &&& (255 : Int32)) = (191 : Int32) then (1 : Int32) else (0 : Int32)) else (0 : Int32)) else (0 : Int32))), .unset] [(.int (if (y17 &&& (255 : Int32)) = (239 : Int32) then (if (y18 &&& (255 : Int32)) = (187 : Int32) then (if (y19 &&& (255 : Int32)) = (191 : Int32) then (3 : Int32) else (0 : Int32)) else (0 : Int32)) else (0 : Int32)))])) := by
      by_cases hc150 : (y17 &&& (255 : Int32)) = (239 : Int32)
      · have k151 : Go p.tables e below (T136.setTop (mkF m 209 #[.val (.int p0), .val (.int p1), .val (.int p2), .val (.int p3), .val (.int p4), .val (.int (5 : Int32)), .val (.int y17), .val (.int y18), .val (.int y19), .val (.ref b126), .val (.int (if (y17 &&& (255 : Int32)) = (239 : Int32) then (if (y18 &&& (255 : Int32)) = (187 : Int32) then (if (y19 &&& (255 : Int32)) = (191 : Int32) then (1 : Int32) else (0 : Int32)) else (0 : Int32)) else (0 : Int32))), .unset] [(.int (if (y17 &&& (255 : Int32)) = (239 : Int32) then (if (y18 &&& (255 : Int32)) = (187 : Int32) then (if (y19 &&& (255 : Int32)) = (191 : Int32) then (1 : Int32) else (0 : Int32)) else (0 : Int32)) else (0 : Int32)))])) (T136.setTop (mkF m 209 #[.val (.int p0), .val (.int p1), .val (.int p2), .val (.int p3), .val (.int p4), .val (.int (5 : Int32)), .val (.int y17), .val (.int y18), .val (.int y19), .val (.ref b126), .val (.int (if (y18 &&& (255 : Int32)) = (187 : Int32) then (if (y19 &&& (255 : Int32)) = (191 : Int32) then (1 : Int32) else (0 : Int32)) else (0 : Int32))), .unset] [(.int (if (y18 &&& (255 : Int32)) = (187 : Int32) then (if (y19 &&& (255 : Int32)) = (191 : Int32) then (1 : Int32) else (0 : Int32)) else (0 : Int32)))])) := by
          simp only [if_pos hc150]; exact fun _ h => h
        by_cases hc152 : (y18 &&& (255 : Int32)) = (187 : Int32)
        · have k153 : Go p.tables e below (T136.setTop (mkF m 209 #[.val (.int p0), .val (.int p1), .val (.int p2), .val (.int p3), .val (.int p4), .val (.int (5 : Int32)), .val (.int y17), .val (.int y18), .val (.int y19), .val (.ref b126), .val (.int (if (y18 &&& (255 : Int32)) = (187 : Int32) then (if (y19 &&& (255 : Int32)) = (191 : Int32) then (1 : Int32) else (0 : Int32)) else (0 : Int32))), .unset] [(.int (if (y18 &&& (255 : Int32)) = (187 : Int32) then (if (y19 &&& (255 : Int32)) = (191 : Int32) then (1 : Int32) else (0 : Int32)) else (0 : Int32)))])) (T136.setTop (mkF m 209 #[.val (.int p0), .val (.int p1), .val (.int p2), .val (.int p3), .val (.int p4), .val (.int (5 : Int32)), .val (.int y17), .val (.int y18), .val (.int y19), .val (.ref b126), .val (.int (if (y19 &&& (255 : Int32)) = (191 : Int32) then (1 : Int32) else (0 : Int32))), .unset] [(.int (if (y19 &&& (255 : Int32)) = (191 : Int32) then (1 : Int32) else (0 : Int32)))])) := by
            simp only [if_pos hc152]; exact fun _ h => h
          by_cases hc154 : (y19 &&& (255 : Int32)) = (191 : Int32)
          · have k155 : Go p.tables e below (T136.setTop (mkF m 209 #[.val (.int p0), .val (.int p1), .val (.int p2), .val (.int p3), .val (.int p4), .val (.int (5 : Int32)), .val (.int y17), .val (.int y18), .val (.int y19), .val (.ref b126), .val (.int (if (y19 &&& (255 : Int32)) = (191 : Int32) then (1 : Int32) else (0 : Int32))), .unset] [(.int (if (y19 &&& (255 : Int32)) = (191 : Int32) then (1 : Int32) else (0 : Int32)))])) (T136.setTop (mkF m 209 #[.val (.int p0), .val (.int p1), .val (.int p2), .val (.int p3), .val (.int p4), .val (.int (5 : Int32)), .val (.int y17), .val (.int y18), .val (.int y19), .val (.ref b126), .val (.int (1 : Int32)), .unset] [(.int (1 : Int32))])) := by
              simp only [if_pos hc154]; exact fun _ h => h
            have k156 : Go p.tables e below (T136.setTop (mkF m 209 #[.val (.int p0), .val (.int p1), .val (.int p2), .val (.int p3), .val (.int p4), .val (.int (5 : Int32)), .val (.int y17), .val (.int y18), .val (.int y19), .val (.ref b126), .val (.int (1 : Int32)), .unset] [(.int (1 : Int32))])) (T136.setTop (mkF m 217 #[.val (.int p0), .val (.int p1), .val (.int p2), .val (.int p3), .val (.int p4), .val (.int (5 : Int32)), .val (.int y17), .val (.int y18), .val (.int y19), .val (.ref b126), .val (.int (1 : Int32)), .unset] [(.int (3 : Int32))])) := by
              intro t ht
              refine XS.ifNo X136.here hx rfl (hb hby at_209) rfl ((if0 _ _).trans (feq (by decide : ¬ ((1 : Int32) = (0 : Int32)))).1) ?_
              show Steps p.tables e below (T136.setTop (mkF m 212 #[.val (.int p0), .val (.int p1), .val (.int p2), .val (.int p3), .val (.int p4), .val (.int (5 : Int32)), .val (.int y17), .val (.int y18), .val (.int y19), .val (.ref b126), .val (.int (1 : Int32)), .unset] [])) _
              refine XS.iconst X136.here hx rfl (hb hby at_212) ?_
              show Steps p.tables e below (T136.setTop (mkF m 213 #[.val (.int p0), .val (.int p1), .val (.int p2), .val (.int p3), .val (.int p4), .val (.int (5 : Int32)), .val (.int y17), .val (.int y18), .val (.int y19), .val (.ref b126), .val (.int (1 : Int32)), .unset] [(.int (3 : Int32))])) _
              refine XS.goto X136.here hx rfl (pc0 := 213) (pc' := 217) rfl (hb hby at_213) (by decide) (by decide) ?_
              exact ht
            have kk := (goT k151 (goT k153 (goT k155 k156)))
            simpa only [if_pos hc150, if_pos hc152, if_pos hc154] using kk
          · have k157 : Go p.tables e below (T136.setTop (mkF m 209 #[.val (.int p0), .val (.int p1), .val (.int p2), .val (.int p3), .val (.int p4), .val (.int (5 : Int32)), .val (.int y17), .val (.int y18), .val (.int y19), .val (.ref b126), .val (.int (if (y19 &&& (255 : Int32)) = (191 : Int32) then (1 : Int32) else (0 : Int32))), .unset] [(.int (if (y19 &&& (255 : Int32)) = (191 : Int32) then (1 : Int32) else (0 : Int32)))])) (T136.setTop (mkF m 209 #[.val (.int p0), .val (.int p1), .val (.int p2), .val (.int p3), .val (.int p4), .val (.int (5 : Int32)), .val (.int y17), .val (.int y18), .val (.int y19), .val (.ref b126), .val (.int (0 : Int32)), .unset] [(.int (0 : Int32))])) := by
              simp only [if_neg hc154]; exact fun _ h => h
            have k158 : Go p.tables e below (T136.setTop (mkF m 209 #[.val (.int p0), .val (.int p1), .val (.int p2), .val (.int p3), .val (.int p4), .val (.int (5 : Int32)), .val (.int y17), .val (.int y18), .val (.int y19), .val (.ref b126), .val (.int (0 : Int32)), .unset] [(.int (0 : Int32))])) (T136.setTop (mkF m 217 #[.val (.int p0), .val (.int p1), .val (.int p2), .val (.int p3), .val (.int p4), .val (.int (5 : Int32)), .val (.int y17), .val (.int y18), .val (.int y19), .val (.ref b126), .val (.int (0 : Int32)), .unset] [(.int (0 : Int32))])) := by
              intro t ht
              refine XS.ifYes X136.here hx rfl (pc0 := 209) (pc' := 216) rfl (hb hby at_209) rfl ((if0 _ _).trans (teq (by decide : (0 : Int32) = (0 : Int32))).1) (by decide) (by decide) ?_
              show Steps p.tables e below (T136.setTop (mkF m 216 #[.val (.int p0), .val (.int p1), .val (.int p2), .val (.int p3), .val (.int p4), .val (.int (5 : Int32)), .val (.int y17), .val (.int y18), .val (.int y19), .val (.ref b126), .val (.int (0 : Int32)), .unset] [])) _
              refine XS.iconst X136.here hx rfl (hb hby at_216) ?_
              exact ht
            have kk := (goT k151 (goT k153 (goT k157 k158)))
            simpa only [if_pos hc150, if_pos hc152, if_neg hc154] using kk
        · have k159 : Go p.tables e below (T136.setTop (mkF m 209 #[.val (.int p0), .val (.int p1), .val (.int p2), .val (.int p3), .val (.int p4), .val (.int (5 : Int32)), .val (.int y17), .val (.int y18), .val (.int y19), .val (.ref b126), .val (.int (if (y18 &&& (255 : Int32)) = (187 : Int32) then (if (y19 &&& (255 : Int32)) = (191 : Int32) then (1 : Int32) else (0 : Int32)) else (0 : Int32))), .unset] [(.int (if (y18 &&& (255 : Int32)) = (187 : Int32) then (if (y19 &&& (255 : Int32)) = (191 : Int32) then (1 : Int32) else (0 : Int32)) else (0 : Int32)))])) (T136.setTop (mkF m 209 #[.val (.int p0), .val (.int p1), .val (.int p2), .val (.int p3), .val (.int p4), .val (.int (5 : Int32)), .val (.int y17), .val (.int y18), .val (.int y19), .val (.ref b126), .val (.int (0 : Int32)), .unset] [(.int (0 : Int32))])) := by
            simp only [if_neg hc152]; exact fun _ h => h
          have k160 : Go p.tables e below (T136.setTop (mkF m 209 #[.val (.int p0), .val (.int p1), .val (.int p2), .val (.int p3), .val (.int p4), .val (.int (5 : Int32)), .val (.int y17), .val (.int y18), .val (.int y19), .val (.ref b126), .val (.int (0 : Int32)), .unset] [(.int (0 : Int32))])) (T136.setTop (mkF m 217 #[.val (.int p0), .val (.int p1), .val (.int p2), .val (.int p3), .val (.int p4), .val (.int (5 : Int32)), .val (.int y17), .val (.int y18), .val (.int y19), .val (.ref b126), .val (.int (0 : Int32)), .unset] [(.int (0 : Int32))])) := by
            intro t ht
            refine XS.ifYes X136.here hx rfl (pc0 := 209) (pc' := 216) rfl (hb hby at_209) rfl ((if0 _ _).trans (teq (by decide : (0 : Int32) = (0 : Int32))).1) (by decide) (by decide) ?_
            show Steps p.tables e below (T136.setTop (mkF m 216 #[.val (.int p0), .val (.int p1), .val (.int p2), .val (.int p3), .val (.int p4), .val (.int (5 : Int32)), .val (.int y17), .val (.int y18), .val (.int y19), .val (.ref b126), .val (.int (0 : Int32)), .unset] [])) _
            refine XS.iconst X136.here hx rfl (hb hby at_216) ?_
            exact ht
          have kk := (goT k151 (goT k159 k160))
          simpa only [if_pos hc150, if_neg hc152] using kk
      · have k161 : Go p.tables e below (T136.setTop (mkF m 209 #[.val (.int p0), .val (.int p1), .val (.int p2), .val (.int p3), .val (.int p4), .val (.int (5 : Int32)), .val (.int y17), .val (.int y18), .val (.int y19), .val (.ref b126), .val (.int (if (y17 &&& (255 : Int32)) = (239 : Int32) then (if (y18 &&& (255 : Int32)) = (187 : Int32) then (if (y19 &&& (255 : Int32)) = (191 : Int32) then (1 : Int32) else (0 : Int32)) else (0 : Int32)) else (0 : Int32))), .unset] [(.int (if (y17 &&& (255 : Int32)) = (239 : Int32) then (if (y18 &&& (255 : Int32)) = (187 : Int32) then (if (y19 &&& (255 : Int32)) = (191 : Int32) then (1 : Int32) else (0 : Int32)) else (0 : Int32)) else (0 : Int32)))])) (T136.setTop (mkF m 209 #[.val (.int p0), .val (.int p1), .val (.int p2), .val (.int p3), .val (.int p4), .val (.int (5 : Int32)), .val (.int y17), .val (.int y18), .val (.int y19), .val (.ref b126), .val (.int (0 : Int32)), .unset] [(.int (0 : Int32))])) := by
          simp only [if_neg hc150]; exact fun _ h => h
        have k162 : Go p.tables e below (T136.setTop (mkF m 209 #[.val (.int p0), .val (.int p1), .val (.int p2), .val (.int p3), .val (.int p4), .val (.int (5 : Int32)), .val (.int y17), .val (.int y18), .val (.int y19), .val (.ref b126), .val (.int (0 : Int32)), .unset] [(.int (0 : Int32))])) (T136.setTop (mkF m 217 #[.val (.int p0), .val (.int p1), .val (.int p2), .val (.int p3), .val (.int p4), .val (.int (5 : Int32)), .val (.int y17), .val (.int y18), .val (.int y19), .val (.ref b126), .val (.int (0 : Int32)), .unset] [(.int (0 : Int32))])) := by
          intro t ht
          refine XS.ifYes X136.here hx rfl (pc0 := 209) (pc' := 216) rfl (hb hby at_209) rfl ((if0 _ _).trans (teq (by decide : (0 : Int32) = (0 : Int32))).1) (by decide) (by decide) ?_
          show Steps p.tables e below (T136.setTop (mkF m 216 #[.val (.int p0), .val (.int p1), .val (.int p2), .val (.int p3), .val (.int p4), .val (.int (5 : Int32)), .val (.int y17), .val (.int y18), .val (.int y19), .val (.ref b126), .val (.int (0 : Int32)), .unset] [])) _
          refine XS.iconst X136.here hx rfl (hb hby at_216) ?_
          exact ht
        have kk := (goT k161 k162)
        simpa only [if_neg hc150] using kk
    have k163 : Go p.tables e below (T136.setTop (mkF m 217 #[.val (.int p0), .val (.int p1), .val (.int p2), .val (.int p3), .val (.int p4), .val (.int (5 : Int32)), .val (.int y17), .val (.int y18), .val (.int y19), .val (.ref b126), .val (.int (if (y17 &&& (255 : Int32)) = (239 : Int32) then (if (y18 &&& (255 : Int32)) = (187 : Int32) then (if (y19 &&& (255 : Int32)) = (191 : Int32) then (1 : Int32) else (0 : Int32)) else (0 : Int32)) else (0 : Int32))), .unset] [(.int (if (y17 &&& (255 : Int32)) = (239 : Int32) then (if (y18 &&& (255 : Int32)) = (187 : Int32) then (if (y19 &&& (255 : Int32)) = (191 : Int32) then (3 : Int32) else (0 : Int32)) else (0 : Int32)) else (0 : Int32)))])) (T136.setTop (mkF m 221 #[.val (.int p0), .val (.int p1), .val (.int p2), .val (.int p3), .val (.int p4), .val (.int (5 : Int32)), .val (.int y17), .val (.int y18), .val (.int y19), .val (.ref b126), .val (.int (if (y17 &&& (255 : Int32)) = (239 : Int32) then (if (y18 &&& (255 : Int32)) = (187 : Int32) then (if (y19 &&& (255 : Int32)) = (191 : Int32) then (1 : Int32) else (0 : Int32)) else (0 : Int32)) else (0 : Int32))), .val (.int (if (y17 &&& (255 : Int32)) = (239 : Int32) then (if (y18 &&& (255 : Int32)) = (187 : Int32) then (if (y19 &&& (255 : Int32)) = (191 : Int32) then (3 : Int32) else (0 : Int32)) else (0 : Int32)) else (0 : Int32)))] [(.ref b126)])) := by
      intro t ht
      refine XS.istore X136.here hx rfl (hb hby at_217) rfl (l' := #[.val (.int p0), .val (.int p1), .val (.int p2), .val (.int p3), .val (.int p4), .val (.int (5 : Int32)), .val (.int y17), .val (.int y18), .val (.int y19), .val (.ref b126), .val (.int (if (y17 &&& (255 : Int32)) = (239 : Int32) then (if (y18 &&& (255 : Int32)) = (187 : Int32) then (if (y19 &&& (255 : Int32)) = (191 : Int32) then (1 : Int32) else (0 : Int32)) else (0 : Int32)) else (0 : Int32))), .val (.int (if (y17 &&& (255 : Int32)) = (239 : Int32) then (if (y18 &&& (255 : Int32)) = (187 : Int32) then (if (y19 &&& (255 : Int32)) = (191 : Int32) then (3 : Int32) else (0 : Int32)) else (0 : Int32)) else (0 : Int32)))]) rfl ?_
      show Steps p.tables e below (T136.setTop (mkF m 219 #[.val (.int p0), .val (.int p1), .val (.int p2), .val (.int p3), .val (.int p4), .val (.int (5 : Int32)), .val (.int y17), .val (.int y18), .val (.int y19), .val (.ref b126), .val (.int (if (y17 &&& (255 : Int32)) = (239 : Int32) then (if (y18 &&& (255 : Int32)) = (187 : Int32) then (if (y19 &&& (255 : Int32)) = (191 : Int32) then (1 : Int32) else (0 : Int32)) else (0 : Int32)) else (0 : Int32))), .val (.int (if (y17 &&& (255 : Int32)) = (239 : Int32) then (if (y18 &&& (255 : Int32)) = (187 : Int32) then (if (y19 &&& (255 : Int32)) = (191 : Int32) then (3 : Int32) else (0 : Int32)) else (0 : Int32)) else (0 : Int32)))] [])) _
      refine XS.aload X136.here hx rfl (hb hby at_219) rfl rfl ?_
      exact ht
    obtain ⟨_, _, ⟨T164, L164, kq164, n164⟩, -, X164, ⟨Lc164, hQ164, l164, y164, z164⟩, st164⟩ := Jvm.LawKit.callS X136 hx (y := (⟨"com/example/role_conflict_finder/roleconflictfinder/Utf8Text", "start", "([B)I"⟩ : MethodName)) hown (mvT hZ (hw _ (List.mem_of_getElem? (i := 1) rfl))) (mvT hZ (hw _ (List.mem_of_getElem? (i := 2) rfl))) (mvT hZ (hw _ (List.mem_of_getElem? (i := 3) rfl))) (mvT hZ (hw _ (List.mem_of_getElem? (i := 4) rfl))) (by decide) (backOf (W := 0) (rm_longer l Z a0 hw [] b126 wM kc126 (5 : Int32) (nar .byte y17) (nar .byte y18) (nar .byte y19) [(.int (nar .byte (((p1.toUInt32 >>> ((8 : Int32) &&& 31).toUInt32).toInt32).toInt8.toInt32))), (.int (nar .byte (((p2.toUInt32 >>> ((8 : Int32) &&& 31).toUInt32).toInt32).toInt8.toInt32)))] kM h136 n0 Z136 S_M_c_136 V136_b126 V_M_c_136 (by decide : ¬ ((5 : Int32) < (3 : Int32)))) hZ (hw _ (List.mem_of_getElem? (i := 4) rfl)) (hw _ (List.mem_of_getElem? (i := 3) rfl)) (by decide) (by decide)) (g := (mkF m 221 #[.val (.int p0), .val (.int p1), .val (.int p2), .val (.int p3), .val (.int p4), .val (.int (5 : Int32)), .val (.int y17), .val (.int y18), .val (.int y19), .val (.ref b126), .val (.int (if (y17 &&& (255 : Int32)) = (239 : Int32) then (if (y18 &&& (255 : Int32)) = (187 : Int32) then (if (y19 &&& (255 : Int32)) = (191 : Int32) then (1 : Int32) else (0 : Int32)) else (0 : Int32)) else (0 : Int32))), .val (.int (if (y17 &&& (255 : Int32)) = (239 : Int32) then (if (y18 &&& (255 : Int32)) = (187 : Int32) then (if (y19 &&& (255 : Int32)) = (191 : Int32) then (3 : Int32) else (0 : Int32)) else (0 : Int32)) else (0 : Int32)))] [(.ref b126)])) rfl (by rw [hml]; rfl) (argsL := [(.ref b126)]) (rest := []) (lenOf pd_0 rfl) rfl (by show 2 * 0 + _ ≤ _; exact Nat.le_of_eq rfl) (hb hby at_221) (fun _ _ => ⟨rfl, e136, (by decide : 1 + 0 ≤ _), (by decide : 5 + 0 ≤ _)⟩)
    dsimp only [Pt.U, Pt.locs, Pt.cells, Pt.slots] at X164 l164 y164 z164 st164 hQ164
    subst l164 y164 z164
    obtain ⟨rfl, N164q, eq164⟩ := hQ164
    have N164 := Fr.app N136 N164q
    have k164 : Go p.tables e below (T136.setTop (mkF m 221 #[.val (.int p0), .val (.int p1), .val (.int p2), .val (.int p3), .val (.int p4), .val (.int (5 : Int32)), .val (.int y17), .val (.int y18), .val (.int y19), .val (.ref b126), .val (.int (if (y17 &&& (255 : Int32)) = (239 : Int32) then (if (y18 &&& (255 : Int32)) = (187 : Int32) then (if (y19 &&& (255 : Int32)) = (191 : Int32) then (1 : Int32) else (0 : Int32)) else (0 : Int32)) else (0 : Int32))), .val (.int (if (y17 &&& (255 : Int32)) = (239 : Int32) then (if (y18 &&& (255 : Int32)) = (187 : Int32) then (if (y19 &&& (255 : Int32)) = (191 : Int32) then (3 : Int32) else (0 : Int32)) else (0 : Int32)) else (0 : Int32)))] [(.ref b126)])) (T164.setTop (mkF m 224 #[.val (.int p0), .val (.int p1), .val (.int p2), .val (.int p3), .val (.int p4), .val (.int (5 : Int32)), .val (.int y17), .val (.int y18), .val (.int y19), .val (.ref b126), .val (.int (if (y17 &&& (255 : Int32)) = (239 : Int32) then (if (y18 &&& (255 : Int32)) = (187 : Int32) then (if (y19 &&& (255 : Int32)) = (191 : Int32) then (1 : Int32) else (0 : Int32)) else (0 : Int32)) else (0 : Int32))), .val (.int (if (y17 &&& (255 : Int32)) = (239 : Int32) then (if (y18 &&& (255 : Int32)) = (187 : Int32) then (if (y19 &&& (255 : Int32)) = (191 : Int32) then (3 : Int32) else (0 : Int32)) else (0 : Int32)) else (0 : Int32)))] [(.int (f_longer (nar .byte y17) (nar .byte y18) (nar .byte y19)))])) := st164
    have k165 : Go p.tables e below (T164.setTop (mkF m 224 #[.val (.int p0), .val (.int p1), .val (.int p2), .val (.int p3), .val (.int p4), .val (.int (5 : Int32)), .val (.int y17), .val (.int y18), .val (.int y19), .val (.ref b126), .val (.int (if (y17 &&& (255 : Int32)) = (239 : Int32) then (if (y18 &&& (255 : Int32)) = (187 : Int32) then (if (y19 &&& (255 : Int32)) = (191 : Int32) then (1 : Int32) else (0 : Int32)) else (0 : Int32)) else (0 : Int32))), .val (.int (if (y17 &&& (255 : Int32)) = (239 : Int32) then (if (y18 &&& (255 : Int32)) = (187 : Int32) then (if (y19 &&& (255 : Int32)) = (191 : Int32) then (3 : Int32) else (0 : Int32)) else (0 : Int32)) else (0 : Int32)))] [(.int (f_longer (nar .byte y17) (nar .byte y18) (nar .byte y19)))])) (T164.setTop (mkF m 234 #[.val (.int p0), .val (.int p1), .val (.int p2), .val (.int p3), .val (.int p4), .val (.int (5 : Int32)), .val (.int y17), .val (.int y18), .val (.int y19), .val (.ref b126), .val (.int (if (y17 &&& (255 : Int32)) = (239 : Int32) then (if (y18 &&& (255 : Int32)) = (187 : Int32) then (if (y19 &&& (255 : Int32)) = (191 : Int32) then (1 : Int32) else (0 : Int32)) else (0 : Int32)) else (0 : Int32))), .val (.int (if (y17 &&& (255 : Int32)) = (239 : Int32) then (if (y18 &&& (255 : Int32)) = (187 : Int32) then (if (y19 &&& (255 : Int32)) = (191 : Int32) then (3 : Int32) else (0 : Int32)) else (0 : Int32)) else (0 : Int32)))] [(.int (1 : Int32))])) := by
      intro t ht
      refine XS.iload X164.here hx rfl (hb hby at_224) rfl ?_
      show Steps p.tables e below (T164.setTop (mkF m 226 #[.val (.int p0), .val (.int p1), .val (.int p2), .val (.int p3), .val (.int p4), .val (.int (5 : Int32)), .val (.int y17), .val (.int y18), .val (.int y19), .val (.ref b126), .val (.int (if (y17 &&& (255 : Int32)) = (239 : Int32) then (if (y18 &&& (255 : Int32)) = (187 : Int32) then (if (y19 &&& (255 : Int32)) = (191 : Int32) then (1 : Int32) else (0 : Int32)) else (0 : Int32)) else (0 : Int32))), .val (.int (if (y17 &&& (255 : Int32)) = (239 : Int32) then (if (y18 &&& (255 : Int32)) = (187 : Int32) then (if (y19 &&& (255 : Int32)) = (191 : Int32) then (3 : Int32) else (0 : Int32)) else (0 : Int32)) else (0 : Int32)))] [(.int (if (y17 &&& (255 : Int32)) = (239 : Int32) then (if (y18 &&& (255 : Int32)) = (187 : Int32) then (if (y19 &&& (255 : Int32)) = (191 : Int32) then (3 : Int32) else (0 : Int32)) else (0 : Int32)) else (0 : Int32))), (.int (f_longer (nar .byte y17) (nar .byte y18) (nar .byte y19)))])) _
      refine XS.icmpNo X164.here hx rfl (hb hby at_226) rfl (teq (own_law _ _ _ : (f_longer (nar .byte y17) (nar .byte y18) (nar .byte y19)) = (if (y17 &&& (255 : Int32)) = (239 : Int32) then (if (y18 &&& (255 : Int32)) = (187 : Int32) then (if (y19 &&& (255 : Int32)) = (191 : Int32) then (3 : Int32) else (0 : Int32)) else (0 : Int32)) else (0 : Int32)))).2 ?_
      show Steps p.tables e below (T164.setTop (mkF m 229 #[.val (.int p0), .val (.int p1), .val (.int p2), .val (.int p3), .val (.int p4), .val (.int (5 : Int32)), .val (.int y17), .val (.int y18), .val (.int y19), .val (.ref b126), .val (.int (if (y17 &&& (255 : Int32)) = (239 : Int32) then (if (y18 &&& (255 : Int32)) = (187 : Int32) then (if (y19 &&& (255 : Int32)) = (191 : Int32) then (1 : Int32) else (0 : Int32)) else (0 : Int32)) else (0 : Int32))), .val (.int (if (y17 &&& (255 : Int32)) = (239 : Int32) then (if (y18 &&& (255 : Int32)) = (187 : Int32) then (if (y19 &&& (255 : Int32)) = (191 : Int32) then (3 : Int32) else (0 : Int32)) else (0 : Int32)) else (0 : Int32)))] [])) _
      refine XS.iconst X164.here hx rfl (hb hby at_229) ?_
      show Steps p.tables e below (T164.setTop (mkF m 230 #[.val (.int p0), .val (.int p1), .val (.int p2), .val (.int p3), .val (.int p4), .val (.int (5 : Int32)), .val (.int y17), .val (.int y18), .val (.int y19), .val (.ref b126), .val (.int (if (y17 &&& (255 : Int32)) = (239 : Int32) then (if (y18 &&& (255 : Int32)) = (187 : Int32) then (if (y19 &&& (255 : Int32)) = (191 : Int32) then (1 : Int32) else (0 : Int32)) else (0 : Int32)) else (0 : Int32))), .val (.int (if (y17 &&& (255 : Int32)) = (239 : Int32) then (if (y18 &&& (255 : Int32)) = (187 : Int32) then (if (y19 &&& (255 : Int32)) = (191 : Int32) then (3 : Int32) else (0 : Int32)) else (0 : Int32)) else (0 : Int32)))] [(.int (1 : Int32))])) _
      refine XS.goto X164.here hx rfl (pc0 := 230) (pc' := 234) rfl (hb hby at_230) (by decide) (by decide) ?_
      exact ht
    obtain ⟨fs, hr, hrun, hended, hW, hsame⟩ := X164.leave (v := some (.int (1 : Int32))) (fun h => by rw [Bd.returns] at h; cases h)
    refine ⟨_, _, pre0 _ ((goT k1 (goT k2 (goT k6 (goT k7 (goT k11 (goT k12 (goT k16 (goT k20 (goT k124 (goT k125 (goT k126 (goT k127 (goT k128 (goT k129 (goT k130 (goT k131 (goT k132 (goT k133 (goT k134 (goT k135 (goT k136 (goT k137 (goT k138 (goT k148 (goT k149 (goT k163 (goT k164 k165))))))))))))))))))))))))))) _ (retN X164 hx (t := .boolean) Bd.returns (by simp) (hb hby at_234) hr)), hrun, hended, _, _, rfl, ?_, ⟨_, rfl⟩, hW, hsame.mono (by decide) (by decide)⟩
    show Q_law Z p0 p1 p2 p3 p4 wM kM h0 n0 _ T164.heap _
    rw [eq164]
    exact ⟨rfl, N164⟩
  · have k166 : Go p.tables e below (s₁.setTop (mkF m 54 #[.val (.int p0), .val (.int p1), .val (.int p2), .val (.int p3), .val (.int p4), .val (.int (p0 &&& (7 : Int32))), .val (.int y17), .val (.int y18), .val (.int y19), .unset, .unset, .unset] [])) (s₁.setTop (mkF m 54 #[.val (.int p0), .val (.int p1), .val (.int p2), .val (.int p3), .val (.int p4), .val (.int (6 : Int32)), .val (.int y17), .val (.int y18), .val (.int y19), .unset, .unset, .unset] [])) := by rw [hk21]; exact fun _ h => h
    have k167 : Go p.tables e below (s₁.setTop (mkF m 54 #[.val (.int p0), .val (.int p1), .val (.int p2), .val (.int p3), .val (.int p4), .val (.int (6 : Int32)), .val (.int y17), .val (.int y18), .val (.int y19), .unset, .unset, .unset] [])) (s₁.setTop (mkF m 56 #[.val (.int p0), .val (.int p1), .val (.int p2), .val (.int p3), .val (.int p4), .val (.int (6 : Int32)), .val (.int y17), .val (.int y18), .val (.int y19), .unset, .unset, .unset] [(.int (6 : Int32))])) := by
      intro t ht
      refine XS.iload X0.here hx rfl (hb hby at_54) rfl ?_
      exact ht
    obtain ⟨T168, h168, kc168, X168, e168, E168, A168, st168⟩ := newP X0 hx hZ (hw _ (List.mem_of_getElem? (i := 0) rfl)) e0 (g := (mkF m 56 #[.val (.int p0), .val (.int p1), .val (.int p2), .val (.int p3), .val (.int p4), .val (.int (6 : Int32)), .val (.int y17), .val (.int y18), .val (.int y19), .unset, .unset, .unset] [(.int (6 : Int32))])) rfl (hb hby at_56) rfl (by decide) (cap := 6) (by decide) (by decide) (by decide) (by decide)
    obtain ⟨b168, g168⟩ : ∃ z, z = h0.size := ⟨_, rfl⟩
    rw [← g168] at A168 st168
    have g_b168 : n0 ≤ b168 := Nat.le_trans Z0 (Nat.le_of_eq g168.symm)
    have sz_b168 : h0.size ≤ b168 := Nat.le_trans (Keep.refl h0 []).1 (Nat.le_of_eq g168.symm)
    have ne_wM_b168 : wM ≠ b168 := Nat.ne_of_lt (Nat.lt_of_lt_of_le V_M.lt (Nat.le_of_eq g168.symm))
    have Kp168 : Keep h0 h168 [] := (Keep.refl h0 []).ext E168
    have Z168 : n0 ≤ h168.size := Nat.le_trans Z0 E168.1
    have S_M_c_168 := S_M.ext E168
    have V_M_c_168 := V_M.ext E168
    have V_b168 : Arv Z h168 b168 kc168 .byte (6 : Int32) [(.int (0 : Int32)), (.int (0 : Int32)), (.int (0 : Int32)), (.int (0 : Int32)), (.int (0 : Int32)), (.int (0 : Int32))] (.int (0 : Int32)) := (Arv.new A168 (by decide)).pad (pad_rep [] (.int (0 : Int32)) 6)
    have k168 : Go p.tables e below (s₁.setTop (mkF m 56 #[.val (.int p0), .val (.int p1), .val (.int p2), .val (.int p3), .val (.int p4), .val (.int (6 : Int32)), .val (.int y17), .val (.int y18), .val (.int y19), .unset, .unset, .unset] [(.int (6 : Int32))])) (T168.setTop (mkF m 58 #[.val (.int p0), .val (.int p1), .val (.int p2), .val (.int p3), .val (.int p4), .val (.int (6 : Int32)), .val (.int y17), .val (.int y18), .val (.int y19), .unset, .unset, .unset] [(.ref b168)])) := st168
    have k169 : Go p.tables e below (T168.setTop (mkF m 58 #[.val (.int p0), .val (.int p1), .val (.int p2), .val (.int p3), .val (.int p4), .val (.int (6 : Int32)), .val (.int y17), .val (.int y18), .val (.int y19), .unset, .unset, .unset] [(.ref b168)])) (T168.setTop (mkF m 70 #[.val (.int p0), .val (.int p1), .val (.int p2), .val (.int p3), .val (.int p4), .val (.int (6 : Int32)), .val (.int y17), .val (.int y18), .val (.int y19), .val (.ref b168), .unset, .unset] [(.int y17), (.int (0 : Int32)), (.ref b168)])) := by
      intro t ht
      refine XS.astore X168.here hx rfl (hb hby at_58) rfl rfl (l' := #[.val (.int p0), .val (.int p1), .val (.int p2), .val (.int p3), .val (.int p4), .val (.int (6 : Int32)), .val (.int y17), .val (.int y18), .val (.int y19), .val (.ref b168), .unset, .unset]) rfl ?_
      show Steps p.tables e below (T168.setTop (mkF m 60 #[.val (.int p0), .val (.int p1), .val (.int p2), .val (.int p3), .val (.int p4), .val (.int (6 : Int32)), .val (.int y17), .val (.int y18), .val (.int y19), .val (.ref b168), .unset, .unset] [])) _
      refine XS.iload X168.here hx rfl (hb hby at_60) rfl ?_
      show Steps p.tables e below (T168.setTop (mkF m 62 #[.val (.int p0), .val (.int p1), .val (.int p2), .val (.int p3), .val (.int p4), .val (.int (6 : Int32)), .val (.int y17), .val (.int y18), .val (.int y19), .val (.ref b168), .unset, .unset] [(.int (6 : Int32))])) _
      refine XS.ifNo X168.here hx rfl (hb hby at_62) rfl ((if0 _ _).trans (tlt (by decide : (0 : Int32) < (6 : Int32))).2.2.2) ?_
      show Steps p.tables e below (T168.setTop (mkF m 65 #[.val (.int p0), .val (.int p1), .val (.int p2), .val (.int p3), .val (.int p4), .val (.int (6 : Int32)), .val (.int y17), .val (.int y18), .val (.int y19), .val (.ref b168), .unset, .unset] [])) _
      refine XS.aload X168.here hx rfl (hb hby at_65) rfl rfl ?_
      show Steps p.tables e below (T168.setTop (mkF m 67 #[.val (.int p0), .val (.int p1), .val (.int p2), .val (.int p3), .val (.int p4), .val (.int (6 : Int32)), .val (.int y17), .val (.int y18), .val (.int y19), .val (.ref b168), .unset, .unset] [(.ref b168)])) _
      refine XS.iconst X168.here hx rfl (hb hby at_67) ?_
      show Steps p.tables e below (T168.setTop (mkF m 68 #[.val (.int p0), .val (.int p1), .val (.int p2), .val (.int p3), .val (.int p4), .val (.int (6 : Int32)), .val (.int y17), .val (.int y18), .val (.int y19), .val (.ref b168), .unset, .unset] [(.int (0 : Int32)), (.ref b168)])) _
      refine XS.iload X168.here hx rfl (hb hby at_68) rfl ?_
      exact ht
    obtain ⟨cl170, Ar170, q170, S170, M170, H170, G170⟩ := id V_b168
    have hin170 : ¬ ((0 : Int32) < 0 ∨ cl170.slots.size ≤ ((0 : Int32)).toNatClampNeg) := inb_of S170 ⟨by decide, by decide⟩
    obtain ⟨T170, h170, X170, e170, W170, st170⟩ := stB X168 hx hZ e168 Ar170 (j := (0 : Int32)) hin170 (g := (mkF m 70 #[.val (.int p0), .val (.int p1), .val (.int p2), .val (.int p3), .val (.int p4), .val (.int (6 : Int32)), .val (.int y17), .val (.int y18), .val (.int y19), .val (.ref b168), .unset, .unset] [(.int y17), (.int (0 : Int32)), (.ref b168)])) rfl rfl (hb hby at_70)
    have V170_b168 : Arv Z h170 b168 kc168 .byte (6 : Int32) [(.int (nar .byte y17)), (.int (0 : Int32)), (.int (0 : Int32)), (.int (0 : Int32)), (.int (0 : Int32)), (.int (0 : Int32))] (.int (0 : Int32)) := Arv.set Ar170 q170 S170 M170 H170 G170 (fits_nar_byte _) W170 0 rfl (Nat.le_of_ble_eq_true rfl)
    have Kp170 : Keep h0 h170 [] := Kp168.wr W170 (Or.inr sz_b168)
    have Z170 : n0 ≤ h170.size := Nat.le_trans Z168 (Keep.of_wr W170).1
    have S_M_c_170 := S_M_c_168.wr W170
    have V_M_c_170 := V_M_c_168.other W170 ne_wM_b168
    have k170 : Go p.tables e below (T168.setTop (mkF m 70 #[.val (.int p0), .val (.int p1), .val (.int p2), .val (.int p3), .val (.int p4), .val (.int (6 : Int32)), .val (.int y17), .val (.int y18), .val (.int y19), .val (.ref b168), .unset, .unset] [(.int y17), (.int (0 : Int32)), (.ref b168)])) (T170.setTop (mkF m 71 #[.val (.int p0), .val (.int p1), .val (.int p2), .val (.int p3), .val (.int p4), .val (.int (6 : Int32)), .val (.int y17), .val (.int y18), .val (.int y19), .val (.ref b168), .unset, .unset] [])) := st170
    have N170 := Fr.snoc X170 N0 g_b168
    have k171 : Go p.tables e below (T170.setTop (mkF m 71 #[.val (.int p0), .val (.int p1), .val (.int p2), .val (.int p3), .val (.int p4), .val (.int (6 : Int32)), .val (.int y17), .val (.int y18), .val (.int y19), .val (.ref b168), .unset, .unset] [])) (T170.setTop (mkF m 82 #[.val (.int p0), .val (.int p1), .val (.int p2), .val (.int p3), .val (.int p4), .val (.int (6 : Int32)), .val (.int y17), .val (.int y18), .val (.int y19), .val (.ref b168), .unset, .unset] [(.int y18), (.int (1 : Int32)), (.ref b168)])) := by
      intro t ht
      refine XS.iload X170.here hx rfl (hb hby at_71) rfl ?_
      show Steps p.tables e below (T170.setTop (mkF m 73 #[.val (.int p0), .val (.int p1), .val (.int p2), .val (.int p3), .val (.int p4), .val (.int (6 : Int32)), .val (.int y17), .val (.int y18), .val (.int y19), .val (.ref b168), .unset, .unset] [(.int (6 : Int32))])) _
      refine XS.iconst X170.here hx rfl (hb hby at_73) ?_
      show Steps p.tables e below (T170.setTop (mkF m 74 #[.val (.int p0), .val (.int p1), .val (.int p2), .val (.int p3), .val (.int p4), .val (.int (6 : Int32)), .val (.int y17), .val (.int y18), .val (.int y19), .val (.ref b168), .unset, .unset] [(.int (1 : Int32)), (.int (6 : Int32))])) _
      refine XS.icmpNo X170.here hx rfl (hb hby at_74) rfl (tlt (by decide : (1 : Int32) < (6 : Int32))).2.2.2 ?_
      show Steps p.tables e below (T170.setTop (mkF m 77 #[.val (.int p0), .val (.int p1), .val (.int p2), .val (.int p3), .val (.int p4), .val (.int (6 : Int32)), .val (.int y17), .val (.int y18), .val (.int y19), .val (.ref b168), .unset, .unset] [])) _
      refine XS.aload X170.here hx rfl (hb hby at_77) rfl rfl ?_
      show Steps p.tables e below (T170.setTop (mkF m 79 #[.val (.int p0), .val (.int p1), .val (.int p2), .val (.int p3), .val (.int p4), .val (.int (6 : Int32)), .val (.int y17), .val (.int y18), .val (.int y19), .val (.ref b168), .unset, .unset] [(.ref b168)])) _
      refine XS.iconst X170.here hx rfl (hb hby at_79) ?_
      show Steps p.tables e below (T170.setTop (mkF m 80 #[.val (.int p0), .val (.int p1), .val (.int p2), .val (.int p3), .val (.int p4), .val (.int (6 : Int32)), .val (.int y17), .val (.int y18), .val (.int y19), .val (.ref b168), .unset, .unset] [(.int (1 : Int32)), (.ref b168)])) _
      refine XS.iload X170.here hx rfl (hb hby at_80) rfl ?_
      exact ht
    obtain ⟨cl172, Ar172, q172, S172, M172, H172, G172⟩ := id V170_b168
    have hin172 : ¬ ((1 : Int32) < 0 ∨ cl172.slots.size ≤ ((1 : Int32)).toNatClampNeg) := inb_of S172 ⟨by decide, by decide⟩
    obtain ⟨T172, h172, X172, e172, W172, st172⟩ := stB X170 hx hZ e170 Ar172 (j := (1 : Int32)) hin172 (g := (mkF m 82 #[.val (.int p0), .val (.int p1), .val (.int p2), .val (.int p3), .val (.int p4), .val (.int (6 : Int32)), .val (.int y17), .val (.int y18), .val (.int y19), .val (.ref b168), .unset, .unset] [(.int y18), (.int (1 : Int32)), (.ref b168)])) rfl rfl (hb hby at_82)
    have V172_b168 : Arv Z h172 b168 kc168 .byte (6 : Int32) [(.int (nar .byte y17)), (.int (nar .byte y18)), (.int (0 : Int32)), (.int (0 : Int32)), (.int (0 : Int32)), (.int (0 : Int32))] (.int (0 : Int32)) := Arv.set Ar172 q172 S172 M172 H172 G172 (fits_nar_byte _) W172 1 rfl (Nat.le_of_ble_eq_true rfl)
    have Kp172 : Keep h0 h172 [] := Kp170.wr W172 (Or.inr sz_b168)
    have Z172 : n0 ≤ h172.size := Nat.le_trans Z170 (Keep.of_wr W172).1
    have S_M_c_172 := S_M_c_170.wr W172
    have V_M_c_172 := V_M_c_170.other W172 ne_wM_b168
    have k172 : Go p.tables e below (T170.setTop (mkF m 82 #[.val (.int p0), .val (.int p1), .val (.int p2), .val (.int p3), .val (.int p4), .val (.int (6 : Int32)), .val (.int y17), .val (.int y18), .val (.int y19), .val (.ref b168), .unset, .unset] [(.int y18), (.int (1 : Int32)), (.ref b168)])) (T172.setTop (mkF m 83 #[.val (.int p0), .val (.int p1), .val (.int p2), .val (.int p3), .val (.int p4), .val (.int (6 : Int32)), .val (.int y17), .val (.int y18), .val (.int y19), .val (.ref b168), .unset, .unset] [])) := st172
    have N172 := Fr.snoc X172 N170 g_b168
    have k173 : Go p.tables e below (T172.setTop (mkF m 83 #[.val (.int p0), .val (.int p1), .val (.int p2), .val (.int p3), .val (.int p4), .val (.int (6 : Int32)), .val (.int y17), .val (.int y18), .val (.int y19), .val (.ref b168), .unset, .unset] [])) (T172.setTop (mkF m 94 #[.val (.int p0), .val (.int p1), .val (.int p2), .val (.int p3), .val (.int p4), .val (.int (6 : Int32)), .val (.int y17), .val (.int y18), .val (.int y19), .val (.ref b168), .unset, .unset] [(.int y19), (.int (2 : Int32)), (.ref b168)])) := by
      intro t ht
      refine XS.iload X172.here hx rfl (hb hby at_83) rfl ?_
      show Steps p.tables e below (T172.setTop (mkF m 85 #[.val (.int p0), .val (.int p1), .val (.int p2), .val (.int p3), .val (.int p4), .val (.int (6 : Int32)), .val (.int y17), .val (.int y18), .val (.int y19), .val (.ref b168), .unset, .unset] [(.int (6 : Int32))])) _
      refine XS.iconst X172.here hx rfl (hb hby at_85) ?_
      show Steps p.tables e below (T172.setTop (mkF m 86 #[.val (.int p0), .val (.int p1), .val (.int p2), .val (.int p3), .val (.int p4), .val (.int (6 : Int32)), .val (.int y17), .val (.int y18), .val (.int y19), .val (.ref b168), .unset, .unset] [(.int (2 : Int32)), (.int (6 : Int32))])) _
      refine XS.icmpNo X172.here hx rfl (hb hby at_86) rfl (tlt (by decide : (2 : Int32) < (6 : Int32))).2.2.2 ?_
      show Steps p.tables e below (T172.setTop (mkF m 89 #[.val (.int p0), .val (.int p1), .val (.int p2), .val (.int p3), .val (.int p4), .val (.int (6 : Int32)), .val (.int y17), .val (.int y18), .val (.int y19), .val (.ref b168), .unset, .unset] [])) _
      refine XS.aload X172.here hx rfl (hb hby at_89) rfl rfl ?_
      show Steps p.tables e below (T172.setTop (mkF m 91 #[.val (.int p0), .val (.int p1), .val (.int p2), .val (.int p3), .val (.int p4), .val (.int (6 : Int32)), .val (.int y17), .val (.int y18), .val (.int y19), .val (.ref b168), .unset, .unset] [(.ref b168)])) _
      refine XS.iconst X172.here hx rfl (hb hby at_91) ?_
      show Steps p.tables e below (T172.setTop (mkF m 92 #[.val (.int p0), .val (.int p1), .val (.int p2), .val (.int p3), .val (.int p4), .val (.int (6 : Int32)), .val (.int y17), .val (.int y18), .val (.int y19), .val (.ref b168), .unset, .unset] [(.int (2 : Int32)), (.ref b168)])) _
      refine XS.iload X172.here hx rfl (hb hby at_92) rfl ?_
      exact ht
    obtain ⟨cl174, Ar174, q174, S174, M174, H174, G174⟩ := id V172_b168
    have hin174 : ¬ ((2 : Int32) < 0 ∨ cl174.slots.size ≤ ((2 : Int32)).toNatClampNeg) := inb_of S174 ⟨by decide, by decide⟩
    obtain ⟨T174, h174, X174, e174, W174, st174⟩ := stB X172 hx hZ e172 Ar174 (j := (2 : Int32)) hin174 (g := (mkF m 94 #[.val (.int p0), .val (.int p1), .val (.int p2), .val (.int p3), .val (.int p4), .val (.int (6 : Int32)), .val (.int y17), .val (.int y18), .val (.int y19), .val (.ref b168), .unset, .unset] [(.int y19), (.int (2 : Int32)), (.ref b168)])) rfl rfl (hb hby at_94)
    have V174_b168 : Arv Z h174 b168 kc168 .byte (6 : Int32) [(.int (nar .byte y17)), (.int (nar .byte y18)), (.int (nar .byte y19)), (.int (0 : Int32)), (.int (0 : Int32)), (.int (0 : Int32))] (.int (0 : Int32)) := Arv.set Ar174 q174 S174 M174 H174 G174 (fits_nar_byte _) W174 2 rfl (Nat.le_of_ble_eq_true rfl)
    have Kp174 : Keep h0 h174 [] := Kp172.wr W174 (Or.inr sz_b168)
    have Z174 : n0 ≤ h174.size := Nat.le_trans Z172 (Keep.of_wr W174).1
    have S_M_c_174 := S_M_c_172.wr W174
    have V_M_c_174 := V_M_c_172.other W174 ne_wM_b168
    have k174 : Go p.tables e below (T172.setTop (mkF m 94 #[.val (.int p0), .val (.int p1), .val (.int p2), .val (.int p3), .val (.int p4), .val (.int (6 : Int32)), .val (.int y17), .val (.int y18), .val (.int y19), .val (.ref b168), .unset, .unset] [(.int y19), (.int (2 : Int32)), (.ref b168)])) (T174.setTop (mkF m 95 #[.val (.int p0), .val (.int p1), .val (.int p2), .val (.int p3), .val (.int p4), .val (.int (6 : Int32)), .val (.int y17), .val (.int y18), .val (.int y19), .val (.ref b168), .unset, .unset] [])) := st174
    have N174 := Fr.snoc X174 N172 g_b168
    have k175 : Go p.tables e below (T174.setTop (mkF m 95 #[.val (.int p0), .val (.int p1), .val (.int p2), .val (.int p3), .val (.int p4), .val (.int (6 : Int32)), .val (.int y17), .val (.int y18), .val (.int y19), .val (.ref b168), .unset, .unset] [])) (T174.setTop (mkF m 109 #[.val (.int p0), .val (.int p1), .val (.int p2), .val (.int p3), .val (.int p4), .val (.int (6 : Int32)), .val (.int y17), .val (.int y18), .val (.int y19), .val (.ref b168), .unset, .unset] [(.int (((p1.toUInt32 >>> ((8 : Int32) &&& 31).toUInt32).toInt32).toInt8.toInt32)), (.int (3 : Int32)), (.ref b168)])) := by
      intro t ht
      refine XS.iload X174.here hx rfl (hb hby at_95) rfl ?_
      show Steps p.tables e below (T174.setTop (mkF m 97 #[.val (.int p0), .val (.int p1), .val (.int p2), .val (.int p3), .val (.int p4), .val (.int (6 : Int32)), .val (.int y17), .val (.int y18), .val (.int y19), .val (.ref b168), .unset, .unset] [(.int (6 : Int32))])) _
      refine XS.iconst X174.here hx rfl (hb hby at_97) ?_
      show Steps p.tables e below (T174.setTop (mkF m 98 #[.val (.int p0), .val (.int p1), .val (.int p2), .val (.int p3), .val (.int p4), .val (.int (6 : Int32)), .val (.int y17), .val (.int y18), .val (.int y19), .val (.ref b168), .unset, .unset] [(.int (3 : Int32)), (.int (6 : Int32))])) _
      refine XS.icmpNo X174.here hx rfl (hb hby at_98) rfl (tlt (by decide : (3 : Int32) < (6 : Int32))).2.2.2 ?_
      show Steps p.tables e below (T174.setTop (mkF m 101 #[.val (.int p0), .val (.int p1), .val (.int p2), .val (.int p3), .val (.int p4), .val (.int (6 : Int32)), .val (.int y17), .val (.int y18), .val (.int y19), .val (.ref b168), .unset, .unset] [])) _
      refine XS.aload X174.here hx rfl (hb hby at_101) rfl rfl ?_
      show Steps p.tables e below (T174.setTop (mkF m 103 #[.val (.int p0), .val (.int p1), .val (.int p2), .val (.int p3), .val (.int p4), .val (.int (6 : Int32)), .val (.int y17), .val (.int y18), .val (.int y19), .val (.ref b168), .unset, .unset] [(.ref b168)])) _
      refine XS.iconst X174.here hx rfl (hb hby at_103) ?_
      show Steps p.tables e below (T174.setTop (mkF m 104 #[.val (.int p0), .val (.int p1), .val (.int p2), .val (.int p3), .val (.int p4), .val (.int (6 : Int32)), .val (.int y17), .val (.int y18), .val (.int y19), .val (.ref b168), .unset, .unset] [(.int (3 : Int32)), (.ref b168)])) _
      refine XS.iloadN X174.here hx rfl (hb hby at_104) rfl ?_
      show Steps p.tables e below (T174.setTop (mkF m 105 #[.val (.int p0), .val (.int p1), .val (.int p2), .val (.int p3), .val (.int p4), .val (.int (6 : Int32)), .val (.int y17), .val (.int y18), .val (.int y19), .val (.ref b168), .unset, .unset] [(.int p1), (.int (3 : Int32)), (.ref b168)])) _
      refine XS.bipush X174.here hx rfl (hb hby at_105) ?_
      show Steps p.tables e below (T174.setTop (mkF m 107 #[.val (.int p0), .val (.int p1), .val (.int p2), .val (.int p3), .val (.int p4), .val (.int (6 : Int32)), .val (.int y17), .val (.int y18), .val (.int y19), .val (.ref b168), .unset, .unset] [(.int (8 : Int32)), (.int p1), (.int (3 : Int32)), (.ref b168)])) _
      refine XS.iushr X174.here hx rfl (hb hby at_107) rfl ?_
      show Steps p.tables e below (T174.setTop (mkF m 108 #[.val (.int p0), .val (.int p1), .val (.int p2), .val (.int p3), .val (.int p4), .val (.int (6 : Int32)), .val (.int y17), .val (.int y18), .val (.int y19), .val (.ref b168), .unset, .unset] [(.int ((p1.toUInt32 >>> ((8 : Int32) &&& 31).toUInt32).toInt32)), (.int (3 : Int32)), (.ref b168)])) _
      refine XS.i2b X174.here hx rfl (hb hby at_108) rfl ?_
      exact ht
    obtain ⟨cl176, Ar176, q176, S176, M176, H176, G176⟩ := id V174_b168
    have hin176 : ¬ ((3 : Int32) < 0 ∨ cl176.slots.size ≤ ((3 : Int32)).toNatClampNeg) := inb_of S176 ⟨by decide, by decide⟩
    obtain ⟨T176, h176, X176, e176, W176, st176⟩ := stB X174 hx hZ e174 Ar176 (j := (3 : Int32)) hin176 (g := (mkF m 109 #[.val (.int p0), .val (.int p1), .val (.int p2), .val (.int p3), .val (.int p4), .val (.int (6 : Int32)), .val (.int y17), .val (.int y18), .val (.int y19), .val (.ref b168), .unset, .unset] [(.int (((p1.toUInt32 >>> ((8 : Int32) &&& 31).toUInt32).toInt32).toInt8.toInt32)), (.int (3 : Int32)), (.ref b168)])) rfl rfl (hb hby at_109)
    have V176_b168 : Arv Z h176 b168 kc168 .byte (6 : Int32) [(.int (nar .byte y17)), (.int (nar .byte y18)), (.int (nar .byte y19)), (.int (nar .byte (((p1.toUInt32 >>> ((8 : Int32) &&& 31).toUInt32).toInt32).toInt8.toInt32))), (.int (0 : Int32)), (.int (0 : Int32))] (.int (0 : Int32)) := Arv.set Ar176 q176 S176 M176 H176 G176 (fits_nar_byte _) W176 3 rfl (Nat.le_of_ble_eq_true rfl)
    have Kp176 : Keep h0 h176 [] := Kp174.wr W176 (Or.inr sz_b168)
    have Z176 : n0 ≤ h176.size := Nat.le_trans Z174 (Keep.of_wr W176).1
    have S_M_c_176 := S_M_c_174.wr W176
    have V_M_c_176 := V_M_c_174.other W176 ne_wM_b168
    have k176 : Go p.tables e below (T174.setTop (mkF m 109 #[.val (.int p0), .val (.int p1), .val (.int p2), .val (.int p3), .val (.int p4), .val (.int (6 : Int32)), .val (.int y17), .val (.int y18), .val (.int y19), .val (.ref b168), .unset, .unset] [(.int (((p1.toUInt32 >>> ((8 : Int32) &&& 31).toUInt32).toInt32).toInt8.toInt32)), (.int (3 : Int32)), (.ref b168)])) (T176.setTop (mkF m 110 #[.val (.int p0), .val (.int p1), .val (.int p2), .val (.int p3), .val (.int p4), .val (.int (6 : Int32)), .val (.int y17), .val (.int y18), .val (.int y19), .val (.ref b168), .unset, .unset] [])) := st176
    have N176 := Fr.snoc X176 N174 g_b168
    have k177 : Go p.tables e below (T176.setTop (mkF m 110 #[.val (.int p0), .val (.int p1), .val (.int p2), .val (.int p3), .val (.int p4), .val (.int (6 : Int32)), .val (.int y17), .val (.int y18), .val (.int y19), .val (.ref b168), .unset, .unset] [])) (T176.setTop (mkF m 124 #[.val (.int p0), .val (.int p1), .val (.int p2), .val (.int p3), .val (.int p4), .val (.int (6 : Int32)), .val (.int y17), .val (.int y18), .val (.int y19), .val (.ref b168), .unset, .unset] [(.int (((p2.toUInt32 >>> ((8 : Int32) &&& 31).toUInt32).toInt32).toInt8.toInt32)), (.int (4 : Int32)), (.ref b168)])) := by
      intro t ht
      refine XS.iload X176.here hx rfl (hb hby at_110) rfl ?_
      show Steps p.tables e below (T176.setTop (mkF m 112 #[.val (.int p0), .val (.int p1), .val (.int p2), .val (.int p3), .val (.int p4), .val (.int (6 : Int32)), .val (.int y17), .val (.int y18), .val (.int y19), .val (.ref b168), .unset, .unset] [(.int (6 : Int32))])) _
      refine XS.iconst X176.here hx rfl (hb hby at_112) ?_
      show Steps p.tables e below (T176.setTop (mkF m 113 #[.val (.int p0), .val (.int p1), .val (.int p2), .val (.int p3), .val (.int p4), .val (.int (6 : Int32)), .val (.int y17), .val (.int y18), .val (.int y19), .val (.ref b168), .unset, .unset] [(.int (4 : Int32)), (.int (6 : Int32))])) _
      refine XS.icmpNo X176.here hx rfl (hb hby at_113) rfl (tlt (by decide : (4 : Int32) < (6 : Int32))).2.2.2 ?_
      show Steps p.tables e below (T176.setTop (mkF m 116 #[.val (.int p0), .val (.int p1), .val (.int p2), .val (.int p3), .val (.int p4), .val (.int (6 : Int32)), .val (.int y17), .val (.int y18), .val (.int y19), .val (.ref b168), .unset, .unset] [])) _
      refine XS.aload X176.here hx rfl (hb hby at_116) rfl rfl ?_
      show Steps p.tables e below (T176.setTop (mkF m 118 #[.val (.int p0), .val (.int p1), .val (.int p2), .val (.int p3), .val (.int p4), .val (.int (6 : Int32)), .val (.int y17), .val (.int y18), .val (.int y19), .val (.ref b168), .unset, .unset] [(.ref b168)])) _
      refine XS.iconst X176.here hx rfl (hb hby at_118) ?_
      show Steps p.tables e below (T176.setTop (mkF m 119 #[.val (.int p0), .val (.int p1), .val (.int p2), .val (.int p3), .val (.int p4), .val (.int (6 : Int32)), .val (.int y17), .val (.int y18), .val (.int y19), .val (.ref b168), .unset, .unset] [(.int (4 : Int32)), (.ref b168)])) _
      refine XS.iloadN X176.here hx rfl (hb hby at_119) rfl ?_
      show Steps p.tables e below (T176.setTop (mkF m 120 #[.val (.int p0), .val (.int p1), .val (.int p2), .val (.int p3), .val (.int p4), .val (.int (6 : Int32)), .val (.int y17), .val (.int y18), .val (.int y19), .val (.ref b168), .unset, .unset] [(.int p2), (.int (4 : Int32)), (.ref b168)])) _
      refine XS.bipush X176.here hx rfl (hb hby at_120) ?_
      show Steps p.tables e below (T176.setTop (mkF m 122 #[.val (.int p0), .val (.int p1), .val (.int p2), .val (.int p3), .val (.int p4), .val (.int (6 : Int32)), .val (.int y17), .val (.int y18), .val (.int y19), .val (.ref b168), .unset, .unset] [(.int (8 : Int32)), (.int p2), (.int (4 : Int32)), (.ref b168)])) _
      refine XS.iushr X176.here hx rfl (hb hby at_122) rfl ?_
      show Steps p.tables e below (T176.setTop (mkF m 123 #[.val (.int p0), .val (.int p1), .val (.int p2), .val (.int p3), .val (.int p4), .val (.int (6 : Int32)), .val (.int y17), .val (.int y18), .val (.int y19), .val (.ref b168), .unset, .unset] [(.int ((p2.toUInt32 >>> ((8 : Int32) &&& 31).toUInt32).toInt32)), (.int (4 : Int32)), (.ref b168)])) _
      refine XS.i2b X176.here hx rfl (hb hby at_123) rfl ?_
      exact ht
    obtain ⟨cl178, Ar178, q178, S178, M178, H178, G178⟩ := id V176_b168
    have hin178 : ¬ ((4 : Int32) < 0 ∨ cl178.slots.size ≤ ((4 : Int32)).toNatClampNeg) := inb_of S178 ⟨by decide, by decide⟩
    obtain ⟨T178, h178, X178, e178, W178, st178⟩ := stB X176 hx hZ e176 Ar178 (j := (4 : Int32)) hin178 (g := (mkF m 124 #[.val (.int p0), .val (.int p1), .val (.int p2), .val (.int p3), .val (.int p4), .val (.int (6 : Int32)), .val (.int y17), .val (.int y18), .val (.int y19), .val (.ref b168), .unset, .unset] [(.int (((p2.toUInt32 >>> ((8 : Int32) &&& 31).toUInt32).toInt32).toInt8.toInt32)), (.int (4 : Int32)), (.ref b168)])) rfl rfl (hb hby at_124)
    have V178_b168 : Arv Z h178 b168 kc168 .byte (6 : Int32) [(.int (nar .byte y17)), (.int (nar .byte y18)), (.int (nar .byte y19)), (.int (nar .byte (((p1.toUInt32 >>> ((8 : Int32) &&& 31).toUInt32).toInt32).toInt8.toInt32))), (.int (nar .byte (((p2.toUInt32 >>> ((8 : Int32) &&& 31).toUInt32).toInt32).toInt8.toInt32))), (.int (0 : Int32))] (.int (0 : Int32)) := Arv.set Ar178 q178 S178 M178 H178 G178 (fits_nar_byte _) W178 4 rfl (Nat.le_of_ble_eq_true rfl)
    have Kp178 : Keep h0 h178 [] := Kp176.wr W178 (Or.inr sz_b168)
    have Z178 : n0 ≤ h178.size := Nat.le_trans Z176 (Keep.of_wr W178).1
    have S_M_c_178 := S_M_c_176.wr W178
    have V_M_c_178 := V_M_c_176.other W178 ne_wM_b168
    have k178 : Go p.tables e below (T176.setTop (mkF m 124 #[.val (.int p0), .val (.int p1), .val (.int p2), .val (.int p3), .val (.int p4), .val (.int (6 : Int32)), .val (.int y17), .val (.int y18), .val (.int y19), .val (.ref b168), .unset, .unset] [(.int (((p2.toUInt32 >>> ((8 : Int32) &&& 31).toUInt32).toInt32).toInt8.toInt32)), (.int (4 : Int32)), (.ref b168)])) (T178.setTop (mkF m 125 #[.val (.int p0), .val (.int p1), .val (.int p2), .val (.int p3), .val (.int p4), .val (.int (6 : Int32)), .val (.int y17), .val (.int y18), .val (.int y19), .val (.ref b168), .unset, .unset] [])) := st178
    have N178 := Fr.snoc X178 N176 g_b168
    have k179 : Go p.tables e below (T178.setTop (mkF m 125 #[.val (.int p0), .val (.int p1), .val (.int p2), .val (.int p3), .val (.int p4), .val (.int (6 : Int32)), .val (.int y17), .val (.int y18), .val (.int y19), .val (.ref b168), .unset, .unset] [])) (T178.setTop (mkF m 139 #[.val (.int p0), .val (.int p1), .val (.int p2), .val (.int p3), .val (.int p4), .val (.int (6 : Int32)), .val (.int y17), .val (.int y18), .val (.int y19), .val (.ref b168), .unset, .unset] [(.int (((p3.toUInt32 >>> ((8 : Int32) &&& 31).toUInt32).toInt32).toInt8.toInt32)), (.int (5 : Int32)), (.ref b168)])) := by
      intro t ht
      refine XS.iload X178.here hx rfl (hb hby at_125) rfl ?_
      show Steps p.tables e below (T178.setTop (mkF m 127 #[.val (.int p0), .val (.int p1), .val (.int p2), .val (.int p3), .val (.int p4), .val (.int (6 : Int32)), .val (.int y17), .val (.int y18), .val (.int y19), .val (.ref b168), .unset, .unset] [(.int (6 : Int32))])) _
      refine XS.iconst X178.here hx rfl (hb hby at_127) ?_
      show Steps p.tables e below (T178.setTop (mkF m 128 #[.val (.int p0), .val (.int p1), .val (.int p2), .val (.int p3), .val (.int p4), .val (.int (6 : Int32)), .val (.int y17), .val (.int y18), .val (.int y19), .val (.ref b168), .unset, .unset] [(.int (5 : Int32)), (.int (6 : Int32))])) _
      refine XS.icmpNo X178.here hx rfl (hb hby at_128) rfl (tlt (by decide : (5 : Int32) < (6 : Int32))).2.2.2 ?_
      show Steps p.tables e below (T178.setTop (mkF m 131 #[.val (.int p0), .val (.int p1), .val (.int p2), .val (.int p3), .val (.int p4), .val (.int (6 : Int32)), .val (.int y17), .val (.int y18), .val (.int y19), .val (.ref b168), .unset, .unset] [])) _
      refine XS.aload X178.here hx rfl (hb hby at_131) rfl rfl ?_
      show Steps p.tables e below (T178.setTop (mkF m 133 #[.val (.int p0), .val (.int p1), .val (.int p2), .val (.int p3), .val (.int p4), .val (.int (6 : Int32)), .val (.int y17), .val (.int y18), .val (.int y19), .val (.ref b168), .unset, .unset] [(.ref b168)])) _
      refine XS.iconst X178.here hx rfl (hb hby at_133) ?_
      show Steps p.tables e below (T178.setTop (mkF m 134 #[.val (.int p0), .val (.int p1), .val (.int p2), .val (.int p3), .val (.int p4), .val (.int (6 : Int32)), .val (.int y17), .val (.int y18), .val (.int y19), .val (.ref b168), .unset, .unset] [(.int (5 : Int32)), (.ref b168)])) _
      refine XS.iloadN X178.here hx rfl (hb hby at_134) rfl ?_
      show Steps p.tables e below (T178.setTop (mkF m 135 #[.val (.int p0), .val (.int p1), .val (.int p2), .val (.int p3), .val (.int p4), .val (.int (6 : Int32)), .val (.int y17), .val (.int y18), .val (.int y19), .val (.ref b168), .unset, .unset] [(.int p3), (.int (5 : Int32)), (.ref b168)])) _
      refine XS.bipush X178.here hx rfl (hb hby at_135) ?_
      show Steps p.tables e below (T178.setTop (mkF m 137 #[.val (.int p0), .val (.int p1), .val (.int p2), .val (.int p3), .val (.int p4), .val (.int (6 : Int32)), .val (.int y17), .val (.int y18), .val (.int y19), .val (.ref b168), .unset, .unset] [(.int (8 : Int32)), (.int p3), (.int (5 : Int32)), (.ref b168)])) _
      refine XS.iushr X178.here hx rfl (hb hby at_137) rfl ?_
      show Steps p.tables e below (T178.setTop (mkF m 138 #[.val (.int p0), .val (.int p1), .val (.int p2), .val (.int p3), .val (.int p4), .val (.int (6 : Int32)), .val (.int y17), .val (.int y18), .val (.int y19), .val (.ref b168), .unset, .unset] [(.int ((p3.toUInt32 >>> ((8 : Int32) &&& 31).toUInt32).toInt32)), (.int (5 : Int32)), (.ref b168)])) _
      refine XS.i2b X178.here hx rfl (hb hby at_138) rfl ?_
      exact ht
    obtain ⟨cl180, Ar180, q180, S180, M180, H180, G180⟩ := id V178_b168
    have hin180 : ¬ ((5 : Int32) < 0 ∨ cl180.slots.size ≤ ((5 : Int32)).toNatClampNeg) := inb_of S180 ⟨by decide, by decide⟩
    obtain ⟨T180, h180, X180, e180, W180, st180⟩ := stB X178 hx hZ e178 Ar180 (j := (5 : Int32)) hin180 (g := (mkF m 139 #[.val (.int p0), .val (.int p1), .val (.int p2), .val (.int p3), .val (.int p4), .val (.int (6 : Int32)), .val (.int y17), .val (.int y18), .val (.int y19), .val (.ref b168), .unset, .unset] [(.int (((p3.toUInt32 >>> ((8 : Int32) &&& 31).toUInt32).toInt32).toInt8.toInt32)), (.int (5 : Int32)), (.ref b168)])) rfl rfl (hb hby at_139)
    have V180_b168 : Arv Z h180 b168 kc168 .byte (6 : Int32) [(.int (nar .byte y17)), (.int (nar .byte y18)), (.int (nar .byte y19)), (.int (nar .byte (((p1.toUInt32 >>> ((8 : Int32) &&& 31).toUInt32).toInt32).toInt8.toInt32))), (.int (nar .byte (((p2.toUInt32 >>> ((8 : Int32) &&& 31).toUInt32).toInt32).toInt8.toInt32))), (.int (nar .byte (((p3.toUInt32 >>> ((8 : Int32) &&& 31).toUInt32).toInt32).toInt8.toInt32)))] (.int (0 : Int32)) := Arv.set Ar180 q180 S180 M180 H180 G180 (fits_nar_byte _) W180 5 rfl (Nat.le_of_ble_eq_true rfl)
    have Kp180 : Keep h0 h180 [] := Kp178.wr W180 (Or.inr sz_b168)
    have Z180 : n0 ≤ h180.size := Nat.le_trans Z178 (Keep.of_wr W180).1
    have S_M_c_180 := S_M_c_178.wr W180
    have V_M_c_180 := V_M_c_178.other W180 ne_wM_b168
    have k180 : Go p.tables e below (T178.setTop (mkF m 139 #[.val (.int p0), .val (.int p1), .val (.int p2), .val (.int p3), .val (.int p4), .val (.int (6 : Int32)), .val (.int y17), .val (.int y18), .val (.int y19), .val (.ref b168), .unset, .unset] [(.int (((p3.toUInt32 >>> ((8 : Int32) &&& 31).toUInt32).toInt32).toInt8.toInt32)), (.int (5 : Int32)), (.ref b168)])) (T180.setTop (mkF m 140 #[.val (.int p0), .val (.int p1), .val (.int p2), .val (.int p3), .val (.int p4), .val (.int (6 : Int32)), .val (.int y17), .val (.int y18), .val (.int y19), .val (.ref b168), .unset, .unset] [])) := st180
    have N180 := Fr.snoc X180 N178 g_b168
    have k181 : Go p.tables e below (T180.setTop (mkF m 140 #[.val (.int p0), .val (.int p1), .val (.int p2), .val (.int p3), .val (.int p4), .val (.int (6 : Int32)), .val (.int y17), .val (.int y18), .val (.int y19), .val (.ref b168), .unset, .unset] [])) (T180.setTop (mkF m 173 #[.val (.int p0), .val (.int p1), .val (.int p2), .val (.int p3), .val (.int p4), .val (.int (6 : Int32)), .val (.int y17), .val (.int y18), .val (.int y19), .val (.ref b168), .unset, .unset] [(.int (239 : Int32)), (.int (y17 &&& (255 : Int32)))])) := by
      intro t ht
      refine XS.iload X180.here hx rfl (hb hby at_140) rfl ?_
      show Steps p.tables e below (T180.setTop (mkF m 142 #[.val (.int p0), .val (.int p1), .val (.int p2), .val (.int p3), .val (.int p4), .val (.int (6 : Int32)), .val (.int y17), .val (.int y18), .val (.int y19), .val (.ref b168), .unset, .unset] [(.int (6 : Int32))])) _
      refine XS.bipush X180.here hx rfl (hb hby at_142) ?_
      show Steps p.tables e below (T180.setTop (mkF m 144 #[.val (.int p0), .val (.int p1), .val (.int p2), .val (.int p3), .val (.int p4), .val (.int (6 : Int32)), .val (.int y17), .val (.int y18), .val (.int y19), .val (.ref b168), .unset, .unset] [(.int (6 : Int32)), (.int (6 : Int32))])) _
      refine XS.icmpYes X180.here hx rfl (pc0 := 144) (pc' := 158) rfl (hb hby at_144) rfl (flt (by decide : ¬ ((6 : Int32) < (6 : Int32)))).2.2.2 (by decide) (by decide) ?_
      show Steps p.tables e below (T180.setTop (mkF m 158 #[.val (.int p0), .val (.int p1), .val (.int p2), .val (.int p3), .val (.int p4), .val (.int (6 : Int32)), .val (.int y17), .val (.int y18), .val (.int y19), .val (.ref b168), .unset, .unset] [])) _
      refine XS.iload X180.here hx rfl (hb hby at_158) rfl ?_
      show Steps p.tables e below (T180.setTop (mkF m 160 #[.val (.int p0), .val (.int p1), .val (.int p2), .val (.int p3), .val (.int p4), .val (.int (6 : Int32)), .val (.int y17), .val (.int y18), .val (.int y19), .val (.ref b168), .unset, .unset] [(.int (6 : Int32))])) _
      refine XS.iconst X180.here hx rfl (hb hby at_160) ?_
      show Steps p.tables e below (T180.setTop (mkF m 161 #[.val (.int p0), .val (.int p1), .val (.int p2), .val (.int p3), .val (.int p4), .val (.int (6 : Int32)), .val (.int y17), .val (.int y18), .val (.int y19), .val (.ref b168), .unset, .unset] [(.int (3 : Int32)), (.int (6 : Int32))])) _
      refine XS.icmpNo X180.here hx rfl (hb hby at_161) rfl (flt (by decide : ¬ ((6 : Int32) < (3 : Int32)))).1 ?_
      show Steps p.tables e below (T180.setTop (mkF m 164 #[.val (.int p0), .val (.int p1), .val (.int p2), .val (.int p3), .val (.int p4), .val (.int (6 : Int32)), .val (.int y17), .val (.int y18), .val (.int y19), .val (.ref b168), .unset, .unset] [])) _
      refine XS.iload X180.here hx rfl (hb hby at_164) rfl ?_
      show Steps p.tables e below (T180.setTop (mkF m 166 #[.val (.int p0), .val (.int p1), .val (.int p2), .val (.int p3), .val (.int p4), .val (.int (6 : Int32)), .val (.int y17), .val (.int y18), .val (.int y19), .val (.ref b168), .unset, .unset] [(.int y17)])) _
      refine XS.sipush X180.here hx rfl (hb hby at_166) ?_
      show Steps p.tables e below (T180.setTop (mkF m 169 #[.val (.int p0), .val (.int p1), .val (.int p2), .val (.int p3), .val (.int p4), .val (.int (6 : Int32)), .val (.int y17), .val (.int y18), .val (.int y19), .val (.ref b168), .unset, .unset] [(.int (255 : Int32)), (.int y17)])) _
      refine XS.iand X180.here hx rfl (hb hby at_169) rfl ?_
      show Steps p.tables e below (T180.setTop (mkF m 170 #[.val (.int p0), .val (.int p1), .val (.int p2), .val (.int p3), .val (.int p4), .val (.int (6 : Int32)), .val (.int y17), .val (.int y18), .val (.int y19), .val (.ref b168), .unset, .unset] [(.int (y17 &&& (255 : Int32)))])) _
      refine XS.sipush X180.here hx rfl (hb hby at_170) ?_
      exact ht
    have k182 : Go p.tables e below (T180.setTop (mkF m 173 #[.val (.int p0), .val (.int p1), .val (.int p2), .val (.int p3), .val (.int p4), .val (.int (6 : Int32)), .val (.int y17), .val (.int y18), .val (.int y19), .val (.ref b168), .unset, .unset] [(.int (239 : Int32)), (.int (y17 &&& (255 : Int32)))])) (T180.setTop (mkF m 205 #[.val (.int p0), .val (.int p1), .val (.int p2), .val (.int p3), .val (.int p4), .val (.int (6 : Int32)), .val (.int y17), .val (.int y18), .val (.int y19), .val (.ref b168), .unset, .unset] [(.int (if (y17 &&& (255 : Int32)) = (239 : Int32) then (if (y18 &&& (255 : Int32)) = (187 : Int32) then (if (y19 &&& (255 : Int32)) = (191 : Int32) then (1 : Int32) else (0 : Int32)) else (0 : Int32)) else (0 : Int32)))])) := by
      by_cases hc183 : (y17 &&& (255 : Int32)) = (239 : Int32)
      · have k184 : Go p.tables e below (T180.setTop (mkF m 173 #[.val (.int p0), .val (.int p1), .val (.int p2), .val (.int p3), .val (.int p4), .val (.int (6 : Int32)), .val (.int y17), .val (.int y18), .val (.int y19), .val (.ref b168), .unset, .unset] [(.int (239 : Int32)), (.int (y17 &&& (255 : Int32)))])) (T180.setTop (mkF m 185 #[.val (.int p0), .val (.int p1), .val (.int p2), .val (.int p3), .val (.int p4), .val (.int (6 : Int32)), .val (.int y17), .val (.int y18), .val (.int y19), .val (.ref b168), .unset, .unset] [(.int (187 : Int32)), (.int (y18 &&& (255 : Int32)))])) := by
          intro t ht
          refine XS.icmpNo X180.here hx rfl (hb hby at_173) rfl (teq hc183).2 ?_
          show Steps p.tables e below (T180.setTop (mkF m 176 #[.val (.int p0), .val (.int p1), .val (.int p2), .val (.int p3), .val (.int p4), .val (.int (6 : Int32)), .val (.int y17), .val (.int y18), .val (.int y19), .val (.ref b168), .unset, .unset] [])) _
          refine XS.iload X180.here hx rfl (hb hby at_176) rfl ?_
          show Steps p.tables e below (T180.setTop (mkF m 178 #[.val (.int p0), .val (.int p1), .val (.int p2), .val (.int p3), .val (.int p4), .val (.int (6 : Int32)), .val (.int y17), .val (.int y18), .val (.int y19), .val (.ref b168), .unset, .unset] [(.int y18)])) _
          refine XS.sipush X180.here hx rfl (hb hby at_178) ?_
          show Steps p.tables e below (T180.setTop (mkF m 181 #[.val (.int p0), .val (.int p1), .val (.int p2), .val (.int p3), .val (.int p4), .val (.int (6 : Int32)), .val (.int y17), .val (.int y18), .val (.int y19), .val (.ref b168), .unset, .unset] [(.int (255 : Int32)), (.int y18)])) _
          refine XS.iand X180.here hx rfl (hb hby at_181) rfl ?_
          show Steps p.tables e below (T180.setTop (mkF m 182 #[.val (.int p0), .val (.int p1), .val (.int p2), .val (.int p3), .val (.int p4), .val (.int (6 : Int32)), .val (.int y17), .val (.int y18), .val (.int y19), .val (.ref b168), .unset, .unset] [(.int (y18 &&& (255 : Int32)))])) _
          refine XS.sipush X180.here hx rfl (hb hby at_182) ?_
          exact ht
        by_cases hc185 : (y18 &&& (255 : Int32)) = (187 : Int32)
        · have k186 : Go p.tables e below (T180.setTop (mkF m 185 #[.val (.int p0), .val (.int p1), .val (.int p2), .val (.int p3), .val (.int p4), .val (.int (6 : Int32)), .val (.int y17), .val (.int y18), .val (.int y19), .val (.ref b168), .unset, .unset] [(.int (187 : Int32)), (.int (y18 &&& (255 : Int32)))])) (T180.setTop (mkF m 197 #[.val (.int p0), .val (.int p1), .val (.int p2), .val (.int p3), .val (.int p4), .val (.int (6 : Int32)), .val (.int y17), .val (.int y18), .val (.int y19), .val (.ref b168), .unset, .unset] [(.int (191 : Int32)), (.int (y19 &&& (255 : Int32)))])) := by
            intro t ht
            refine XS.icmpNo X180.here hx rfl (hb hby at_185) rfl (teq hc185).2 ?_
            show Steps p.tables e below (T180.setTop (mkF m 188 #[.val (.int p0), .val (.int p1), .val (.int p2), .val (.int p3), .val (.int p4), .val (.int (6 : Int32)), .val (.int y17), .val (.int y18), .val (.int y19), .val (.ref b168), .unset, .unset] [])) _
            refine XS.iload X180.here hx rfl (hb hby at_188) rfl ?_
            show Steps p.tables e below (T180.setTop (mkF m 190 #[.val (.int p0), .val (.int p1), .val (.int p2), .val (.int p3), .val (.int p4), .val (.int (6 : Int32)), .val (.int y17), .val (.int y18), .val (.int y19), .val (.ref b168), .unset, .unset] [(.int y19)])) _
            refine XS.sipush X180.here hx rfl (hb hby at_190) ?_
            show Steps p.tables e below (T180.setTop (mkF m 193 #[.val (.int p0), .val (.int p1), .val (.int p2), .val (.int p3), .val (.int p4), .val (.int (6 : Int32)), .val (.int y17), .val (.int y18), .val (.int y19), .val (.ref b168), .unset, .unset] [(.int (255 : Int32)), (.int y19)])) _
            refine XS.iand X180.here hx rfl (hb hby at_193) rfl ?_
            show Steps p.tables e below (T180.setTop (mkF m 194 #[.val (.int p0), .val (.int p1), .val (.int p2), .val (.int p3), .val (.int p4), .val (.int (6 : Int32)), .val (.int y17), .val (.int y18), .val (.int y19), .val (.ref b168), .unset, .unset] [(.int (y19 &&& (255 : Int32)))])) _
            refine XS.sipush X180.here hx rfl (hb hby at_194) ?_
            exact ht
          by_cases hc187 : (y19 &&& (255 : Int32)) = (191 : Int32)
          · have k188 : Go p.tables e below (T180.setTop (mkF m 197 #[.val (.int p0), .val (.int p1), .val (.int p2), .val (.int p3), .val (.int p4), .val (.int (6 : Int32)), .val (.int y17), .val (.int y18), .val (.int y19), .val (.ref b168), .unset, .unset] [(.int (191 : Int32)), (.int (y19 &&& (255 : Int32)))])) (T180.setTop (mkF m 205 #[.val (.int p0), .val (.int p1), .val (.int p2), .val (.int p3), .val (.int p4), .val (.int (6 : Int32)), .val (.int y17), .val (.int y18), .val (.int y19), .val (.ref b168), .unset, .unset] [(.int (1 : Int32))])) := by
              intro t ht
              refine XS.icmpNo X180.here hx rfl (hb hby at_197) rfl (teq hc187).2 ?_
              show Steps p.tables e below (T180.setTop (mkF m 200 #[.val (.int p0), .val (.int p1), .val (.int p2), .val (.int p3), .val (.int p4), .val (.int (6 : Int32)), .val (.int y17), .val (.int y18), .val (.int y19), .val (.ref b168), .unset, .unset] [])) _
              refine XS.iconst X180.here hx rfl (hb hby at_200) ?_
              show Steps p.tables e below (T180.setTop (mkF m 201 #[.val (.int p0), .val (.int p1), .val (.int p2), .val (.int p3), .val (.int p4), .val (.int (6 : Int32)), .val (.int y17), .val (.int y18), .val (.int y19), .val (.ref b168), .unset, .unset] [(.int (1 : Int32))])) _
              refine XS.goto X180.here hx rfl (pc0 := 201) (pc' := 205) rfl (hb hby at_201) (by decide) (by decide) ?_
              exact ht
            have kk := (goT k184 (goT k186 k188))
            simpa only [if_pos hc183, if_pos hc185, if_pos hc187] using kk
          · have k189 : Go p.tables e below (T180.setTop (mkF m 197 #[.val (.int p0), .val (.int p1), .val (.int p2), .val (.int p3), .val (.int p4), .val (.int (6 : Int32)), .val (.int y17), .val (.int y18), .val (.int y19), .val (.ref b168), .unset, .unset] [(.int (191 : Int32)), (.int (y19 &&& (255 : Int32)))])) (T180.setTop (mkF m 205 #[.val (.int p0), .val (.int p1), .val (.int p2), .val (.int p3), .val (.int p4), .val (.int (6 : Int32)), .val (.int y17), .val (.int y18), .val (.int y19), .val (.ref b168), .unset, .unset] [(.int (0 : Int32))])) := by
              intro t ht
              refine XS.icmpYes X180.here hx rfl (pc0 := 197) (pc' := 204) rfl (hb hby at_197) rfl (feq hc187).2 (by decide) (by decide) ?_
              show Steps p.tables e below (T180.setTop (mkF m 204 #[.val (.int p0), .val (.int p1), .val (.int p2), .val (.int p3), .val (.int p4), .val (.int (6 : Int32)), .val (.int y17), .val (.int y18), .val (.int y19), .val (.ref b168), .unset, .unset] [])) _
              refine XS.iconst X180.here hx rfl (hb hby at_204) ?_
              exact ht
            have kk := (goT k184 (goT k186 k189))
            simpa only [if_pos hc183, if_pos hc185, if_neg hc187] using kk
        · have k190 : Go p.tables e below (T180.setTop (mkF m 185 #[.val (.int p0), .val (.int p1), .val (.int p2), .val (.int p3), .val (.int p4), .val (.int (6 : Int32)), .val (.int y17), .val (.int y18), .val (.int y19), .val (.ref b168), .unset, .unset] [(.int (187 : Int32)), (.int (y18 &&& (255 : Int32)))])) (T180.setTop (mkF m 205 #[.val (.int p0), .val (.int p1), .val (.int p2), .val (.int p3), .val (.int p4), .val (.int (6 : Int32)), .val (.int y17), .val (.int y18), .val (.int y19), .val (.ref b168), .unset, .unset] [(.int (0 : Int32))])) := by
            intro t ht
            refine XS.icmpYes X180.here hx rfl (pc0 := 185) (pc' := 204) rfl (hb hby at_185) rfl (feq hc185).2 (by decide) (by decide) ?_
            show Steps p.tables e below (T180.setTop (mkF m 204 #[.val (.int p0), .val (.int p1), .val (.int p2), .val (.int p3), .val (.int p4), .val (.int (6 : Int32)), .val (.int y17), .val (.int y18), .val (.int y19), .val (.ref b168), .unset, .unset] [])) _
            refine XS.iconst X180.here hx rfl (hb hby at_204) ?_
            exact ht
          have kk := (goT k184 k190)
          simpa only [if_pos hc183, if_neg hc185] using kk
      · have k191 : Go p.tables e below (T180.setTop (mkF m 173 #[.val (.int p0), .val (.int p1), .val (.int p2), .val (.int p3), .val (.int p4), .val (.int (6 : Int32)), .val (.int y17), .val (.int y18), .val (.int y19), .val (.ref b168), .unset, .unset] [(.int (239 : Int32)), (.int (y17 &&& (255 : Int32)))])) (T180.setTop (mkF m 205 #[.val (.int p0), .val (.int p1), .val (.int p2), .val (.int p3), .val (.int p4), .val (.int (6 : Int32)), .val (.int y17), .val (.int y18), .val (.int y19), .val (.ref b168), .unset, .unset] [(.int (0 : Int32))])) := by
          intro t ht
          refine XS.icmpYes X180.here hx rfl (pc0 := 173) (pc' := 204) rfl (hb hby at_173) rfl (feq hc183).2 (by decide) (by decide) ?_
          show Steps p.tables e below (T180.setTop (mkF m 204 #[.val (.int p0), .val (.int p1), .val (.int p2), .val (.int p3), .val (.int p4), .val (.int (6 : Int32)), .val (.int y17), .val (.int y18), .val (.int y19), .val (.ref b168), .unset, .unset] [])) _
          refine XS.iconst X180.here hx rfl (hb hby at_204) ?_
          exact ht
        have kk := k191
        simpa only [if_neg hc183] using kk
    have k192 : Go p.tables e below (T180.setTop (mkF m 205 #[.val (.int p0), .val (.int p1), .val (.int p2), .val (.int p3), .val (.int p4), .val (.int (6 : Int32)), .val (.int y17), .val (.int y18), .val (.int y19), .val (.ref b168), .unset, .unset] [(.int (if (y17 &&& (255 : Int32)) = (239 : Int32) then (if (y18 &&& (255 : Int32)) = (187 : Int32) then (if (y19 &&& (255 : Int32)) = (191 : Int32) then (1 : Int32) else (0 : Int32)) else (0 : Int32)) else (0 : Int32)))])) (T180.setTop (mkF m 209 #[.val (.int p0), .val (.int p1), .val (.int p2), .val (.int p3), .val (.int p4), .val (.int (6 : Int32)), .val (.int y17), .val (.int y18), .val (.int y19), .val (.ref b168), .val (.int (if (y17 &&& (255 : Int32)) = (239 : Int32) then (if (y18 &&& (255 : Int32)) = (187 : Int32) then (if (y19 &&& (255 : Int32)) = (191 : Int32) then (1 : Int32) else (0 : Int32)) else (0 : Int32)) else (0 : Int32))), .unset] [(.int (if (y17 &&& (255 : Int32)) = (239 : Int32) then (if (y18 &&& (255 : Int32)) = (187 : Int32) then (if (y19 &&& (255 : Int32)) = (191 : Int32) then (1 : Int32) else (0 : Int32)) else (0 : Int32)) else (0 : Int32)))])) := by
      intro t ht
      refine XS.istore X180.here hx rfl (hb hby at_205) rfl (l' := #[.val (.int p0), .val (.int p1), .val (.int p2), .val (.int p3), .val (.int p4), .val (.int (6 : Int32)), .val (.int y17), .val (.int y18), .val (.int y19), .val (.ref b168), .val (.int (if (y17 &&& (255 : Int32)) = (239 : Int32) then (if (y18 &&& (255 : Int32)) = (187 : Int32) then (if (y19 &&& (255 : Int32)) = (191 : Int32) then (1 : Int32) else (0 : Int32)) else (0 : Int32)) else (0 : Int32))), .unset]) rfl ?_
      show Steps p.tables e below (T180.setTop (mkF m 207 #[.val (.int p0), .val (.int p1), .val (.int p2), .val (.int p3), .val (.int p4), .val (.int (6 : Int32)), .val (.int y17), .val (.int y18), .val (.int y19), .val (.ref b168), .val (.int (if (y17 &&& (255 : Int32)) = (239 : Int32) then (if (y18 &&& (255 : Int32)) = (187 : Int32) then (if (y19 &&& (255 : Int32)) = (191 : Int32) then (1 : Int32) else (0 : Int32)) else (0 : Int32)) else (0 : Int32))), .unset] [])) _
      refine XS.iload X180.here hx rfl (hb hby at_207) rfl ?_
      exact ht
    have k193 : Go p.tables e below (T180.setTop (mkF m 209 #[.val (.int p0), .val (.int p1), .val (.int p2), .val (.int p3), .val (.int p4), .val (.int (6 : Int32)), .val (.int y17), .val (.int y18), .val (.int y19), .val (.ref b168), .val (.int (if (y17 &&& (255 : Int32)) = (239 : Int32) then (if (y18 &&& (255 : Int32)) = (187 : Int32) then (if (y19 &&& (255 : Int32)) = (191 : Int32) then (1 : Int32) else (0 : Int32)) else (0 : Int32)) else (0 : Int32))), .unset] [(.int (if (y17 &&& (255 : Int32)) = (239 : Int32) then (if (y18 &&& (255 : Int32)) = (187 : Int32) then (if (y19 &&& (255 : Int32)) = (191 : Int32) then (1 : Int32) else (0 : Int32)) else (0 : Int32)) else (0 : Int32)))])) (T180.setTop (mkF m 217 #[.val (.int p0), .val (.int p1), .val (.int p2), .val (.int p3), .val (.int p4), .val (.int (6 : Int32)), .val (.int y17), .val (.int y18), .val (.int y19), .val (.ref b168), .val (.int (if (y17 &&& (255 : Int32)) = (239 : Int32) then (if (y18 &&& (255 : Int32)) = (187 : Int32) then (if (y19 &&& (255 : Int32)) = (191 : Int32) then (1 : Int32) else (0 : Int32)) else (0 : Int32)) else (0 : Int32))), .unset] [(.int (if (y17 &&& (255 : Int32)) = (239 : Int32) then (if (y18 &&& (255 : Int32)) = (187 : Int32) then (if (y19 &&& (255 : Int32)) = (191 : Int32) then (3 : Int32) else (0 : Int32)) else (0 : Int32)) else (0 : Int32)))])) := by
      by_cases hc194 : (y17 &&& (255 : Int32)) = (239 : Int32)
      · have k195 : Go p.tables e below (T180.setTop (mkF m 209 #[.val (.int p0), .val (.int p1), .val (.int p2), .val (.int p3), .val (.int p4), .val (.int (6 : Int32)), .val (.int y17), .val (.int y18), .val (.int y19), .val (.ref b168), .val (.int (if (y17 &&& (255 : Int32)) = (239 : Int32) then (if (y18 &&& (255 : Int32)) = (187 : Int32) then (if (y19 &&& (255 : Int32)) = (191 : Int32) then (1 : Int32) else (0 : Int32)) else (0 : Int32)) else (0 : Int32))), .unset] [(.int (if (y17 &&& (255 : Int32)) = (239 : Int32) then (if (y18 &&& (255 : Int32)) = (187 : Int32) then (if (y19 &&& (255 : Int32)) = (191 : Int32) then (1 : Int32) else (0 : Int32)) else (0 : Int32)) else (0 : Int32)))])) (T180.setTop (mkF m 209 #[.val (.int p0), .val (.int p1), .val (.int p2), .val (.int p3), .val (.int p4), .val (.int (6 : Int32)), .val (.int y17), .val (.int y18), .val (.int y19), .val (.ref b168), .val (.int (if (y18 &&& (255 : Int32)) = (187 : Int32) then (if (y19 &&& (255 : Int32)) = (191 : Int32) then (1 : Int32) else (0 : Int32)) else (0 : Int32))), .unset] [(.int (if (y18 &&& (255 : Int32)) = (187 : Int32) then (if (y19 &&& (255 : Int32)) = (191 : Int32) then (1 : Int32) else (0 : Int32)) else (0 : Int32)))])) := by
          simp only [if_pos hc194]; exact fun _ h => h
        by_cases hc196 : (y18 &&& (255 : Int32)) = (187 : Int32)
        · have k197 : Go p.tables e below (T180.setTop (mkF m 209 #[.val (.int p0), .val (.int p1), .val (.int p2), .val (.int p3), .val (.int p4), .val (.int (6 : Int32)), .val (.int y17), .val (.int y18), .val (.int y19), .val (.ref b168), .val (.int (if (y18 &&& (255 : Int32)) = (187 : Int32) then (if (y19 &&& (255 : Int32)) = (191 : Int32) then (1 : Int32) else (0 : Int32)) else (0 : Int32))), .unset] [(.int (if (y18 &&& (255 : Int32)) = (187 : Int32) then (if (y19 &&& (255 : Int32)) = (191 : Int32) then (1 : Int32) else (0 : Int32)) else (0 : Int32)))])) (T180.setTop (mkF m 209 #[.val (.int p0), .val (.int p1), .val (.int p2), .val (.int p3), .val (.int p4), .val (.int (6 : Int32)), .val (.int y17), .val (.int y18), .val (.int y19), .val (.ref b168), .val (.int (if (y19 &&& (255 : Int32)) = (191 : Int32) then (1 : Int32) else (0 : Int32))), .unset] [(.int (if (y19 &&& (255 : Int32)) = (191 : Int32) then (1 : Int32) else (0 : Int32)))])) := by
            simp only [if_pos hc196]; exact fun _ h => h
          by_cases hc198 : (y19 &&& (255 : Int32)) = (191 : Int32)
          · have k199 : Go p.tables e below (T180.setTop (mkF m 209 #[.val (.int p0), .val (.int p1), .val (.int p2), .val (.int p3), .val (.int p4), .val (.int (6 : Int32)), .val (.int y17), .val (.int y18), .val (.int y19), .val (.ref b168), .val (.int (if (y19 &&& (255 : Int32)) = (191 : Int32) then (1 : Int32) else (0 : Int32))), .unset] [(.int (if (y19 &&& (255 : Int32)) = (191 : Int32) then (1 : Int32) else (0 : Int32)))])) (T180.setTop (mkF m 209 #[.val (.int p0), .val (.int p1), .val (.int p2), .val (.int p3), .val (.int p4), .val (.int (6 : Int32)), .val (.int y17), .val (.int y18), .val (.int y19), .val (.ref b168), .val (.int (1 : Int32)), .unset] [(.int (1 : Int32))])) := by
              simp only [if_pos hc198]; exact fun _ h => h
            have k200 : Go p.tables e below (T180.setTop (mkF m 209 #[.val (.int p0), .val (.int p1), .val (.int p2), .val (.int p3), .val (.int p4), .val (.int (6 : Int32)), .val (.int y17), .val (.int y18), .val (.int y19), .val (.ref b168), .val (.int (1 : Int32)), .unset] [(.int (1 : Int32))])) (T180.setTop (mkF m 217 #[.val (.int p0), .val (.int p1), .val (.int p2), .val (.int p3), .val (.int p4), .val (.int (6 : Int32)), .val (.int y17), .val (.int y18), .val (.int y19), .val (.ref b168), .val (.int (1 : Int32)), .unset] [(.int (3 : Int32))])) := by
              intro t ht
              refine XS.ifNo X180.here hx rfl (hb hby at_209) rfl ((if0 _ _).trans (feq (by decide : ¬ ((1 : Int32) = (0 : Int32)))).1) ?_
              show Steps p.tables e below (T180.setTop (mkF m 212 #[.val (.int p0), .val (.int p1), .val (.int p2), .val (.int p3), .val (.int p4), .val (.int (6 : Int32)), .val (.int y17), .val (.int y18), .val (.int y19), .val (.ref b168), .val (.int (1 : Int32)), .unset] [])) _
              refine XS.iconst X180.here hx rfl (hb hby at_212) ?_
              show Steps p.tables e below (T180.setTop (mkF m 213 #[.val (.int p0), .val (.int p1), .val (.int p2), .val (.int p3), .val (.int p4), .val (.int (6 : Int32)), .val (.int y17), .val (.int y18), .val (.int y19), .val (.ref b168), .val (.int (1 : Int32)), .unset] [(.int (3 : Int32))])) _
              refine XS.goto X180.here hx rfl (pc0 := 213) (pc' := 217) rfl (hb hby at_213) (by decide) (by decide) ?_
              exact ht
            have kk := (goT k195 (goT k197 (goT k199 k200)))
            simpa only [if_pos hc194, if_pos hc196, if_pos hc198] using kk
          · have k201 : Go p.tables e below (T180.setTop (mkF m 209 #[.val (.int p0), .val (.int p1), .val (.int p2), .val (.int p3), .val (.int p4), .val (.int (6 : Int32)), .val (.int y17), .val (.int y18), .val (.int y19), .val (.ref b168), .val (.int (if (y19 &&& (255 : Int32)) = (191 : Int32) then (1 : Int32) else (0 : Int32))), .unset] [(.int (if (y19 &&& (255 : Int32)) = (191 : Int32) then (1 : Int32) else (0 : Int32)))])) (T180.setTop (mkF m 209 #[.val (.int p0), .val (.int p1), .val (.int p2), .val (.int p3), .val (.int p4), .val (.int (6 : Int32)), .val (.int y17), .val (.int y18), .val (.int y19), .val (.ref b168), .val (.int (0 : Int32)), .unset] [(.int (0 : Int32))])) := by
              simp only [if_neg hc198]; exact fun _ h => h
            have k202 : Go p.tables e below (T180.setTop (mkF m 209 #[.val (.int p0), .val (.int p1), .val (.int p2), .val (.int p3), .val (.int p4), .val (.int (6 : Int32)), .val (.int y17), .val (.int y18), .val (.int y19), .val (.ref b168), .val (.int (0 : Int32)), .unset] [(.int (0 : Int32))])) (T180.setTop (mkF m 217 #[.val (.int p0), .val (.int p1), .val (.int p2), .val (.int p3), .val (.int p4), .val (.int (6 : Int32)), .val (.int y17), .val (.int y18), .val (.int y19), .val (.ref b168), .val (.int (0 : Int32)), .unset] [(.int (0 : Int32))])) := by
              intro t ht
              refine XS.ifYes X180.here hx rfl (pc0 := 209) (pc' := 216) rfl (hb hby at_209) rfl ((if0 _ _).trans (teq (by decide : (0 : Int32) = (0 : Int32))).1) (by decide) (by decide) ?_
              show Steps p.tables e below (T180.setTop (mkF m 216 #[.val (.int p0), .val (.int p1), .val (.int p2), .val (.int p3), .val (.int p4), .val (.int (6 : Int32)), .val (.int y17), .val (.int y18), .val (.int y19), .val (.ref b168), .val (.int (0 : Int32)), .unset] [])) _
              refine XS.iconst X180.here hx rfl (hb hby at_216) ?_
              exact ht
            have kk := (goT k195 (goT k197 (goT k201 k202)))
            simpa only [if_pos hc194, if_pos hc196, if_neg hc198] using kk
        · have k203 : Go p.tables e below (T180.setTop (mkF m 209 #[.val (.int p0), .val (.int p1), .val (.int p2), .val (.int p3), .val (.int p4), .val (.int (6 : Int32)), .val (.int y17), .val (.int y18), .val (.int y19), .val (.ref b168), .val (.int (if (y18 &&& (255 : Int32)) = (187 : Int32) then (if (y19 &&& (255 : Int32)) = (191 : Int32) then (1 : Int32) else (0 : Int32)) else (0 : Int32))), .unset] [(.int (if (y18 &&& (255 : Int32)) = (187 : Int32) then (if (y19 &&& (255 : Int32)) = (191 : Int32) then (1 : Int32) else (0 : Int32)) else (0 : Int32)))])) (T180.setTop (mkF m 209 #[.val (.int p0), .val (.int p1), .val (.int p2), .val (.int p3), .val (.int p4), .val (.int (6 : Int32)), .val (.int y17), .val (.int y18), .val (.int y19), .val (.ref b168), .val (.int (0 : Int32)), .unset] [(.int (0 : Int32))])) := by
            simp only [if_neg hc196]; exact fun _ h => h
          have k204 : Go p.tables e below (T180.setTop (mkF m 209 #[.val (.int p0), .val (.int p1), .val (.int p2), .val (.int p3), .val (.int p4), .val (.int (6 : Int32)), .val (.int y17), .val (.int y18), .val (.int y19), .val (.ref b168), .val (.int (0 : Int32)), .unset] [(.int (0 : Int32))])) (T180.setTop (mkF m 217 #[.val (.int p0), .val (.int p1), .val (.int p2), .val (.int p3), .val (.int p4), .val (.int (6 : Int32)), .val (.int y17), .val (.int y18), .val (.int y19), .val (.ref b168), .val (.int (0 : Int32)), .unset] [(.int (0 : Int32))])) := by
            intro t ht
            refine XS.ifYes X180.here hx rfl (pc0 := 209) (pc' := 216) rfl (hb hby at_209) rfl ((if0 _ _).trans (teq (by decide : (0 : Int32) = (0 : Int32))).1) (by decide) (by decide) ?_
            show Steps p.tables e below (T180.setTop (mkF m 216 #[.val (.int p0), .val (.int p1), .val (.int p2), .val (.int p3), .val (.int p4), .val (.int (6 : Int32)), .val (.int y17), .val (.int y18), .val (.int y19), .val (.ref b168), .val (.int (0 : Int32)), .unset] [])) _
            refine XS.iconst X180.here hx rfl (hb hby at_216) ?_
            exact ht
          have kk := (goT k195 (goT k203 k204))
          simpa only [if_pos hc194, if_neg hc196] using kk
      · have k205 : Go p.tables e below (T180.setTop (mkF m 209 #[.val (.int p0), .val (.int p1), .val (.int p2), .val (.int p3), .val (.int p4), .val (.int (6 : Int32)), .val (.int y17), .val (.int y18), .val (.int y19), .val (.ref b168), .val (.int (if (y17 &&& (255 : Int32)) = (239 : Int32) then (if (y18 &&& (255 : Int32)) = (187 : Int32) then (if (y19 &&& (255 : Int32)) = (191 : Int32) then (1 : Int32) else (0 : Int32)) else (0 : Int32)) else (0 : Int32))), .unset] [(.int (if (y17 &&& (255 : Int32)) = (239 : Int32) then (if (y18 &&& (255 : Int32)) = (187 : Int32) then (if (y19 &&& (255 : Int32)) = (191 : Int32) then (1 : Int32) else (0 : Int32)) else (0 : Int32)) else (0 : Int32)))])) (T180.setTop (mkF m 209 #[.val (.int p0), .val (.int p1), .val (.int p2), .val (.int p3), .val (.int p4), .val (.int (6 : Int32)), .val (.int y17), .val (.int y18), .val (.int y19), .val (.ref b168), .val (.int (0 : Int32)), .unset] [(.int (0 : Int32))])) := by
          simp only [if_neg hc194]; exact fun _ h => h
        have k206 : Go p.tables e below (T180.setTop (mkF m 209 #[.val (.int p0), .val (.int p1), .val (.int p2), .val (.int p3), .val (.int p4), .val (.int (6 : Int32)), .val (.int y17), .val (.int y18), .val (.int y19), .val (.ref b168), .val (.int (0 : Int32)), .unset] [(.int (0 : Int32))])) (T180.setTop (mkF m 217 #[.val (.int p0), .val (.int p1), .val (.int p2), .val (.int p3), .val (.int p4), .val (.int (6 : Int32)), .val (.int y17), .val (.int y18), .val (.int y19), .val (.ref b168), .val (.int (0 : Int32)), .unset] [(.int (0 : Int32))])) := by
          intro t ht
          refine XS.ifYes X180.here hx rfl (pc0 := 209) (pc' := 216) rfl (hb hby at_209) rfl ((if0 _ _).trans (teq (by decide : (0 : Int32) = (0 : Int32))).1) (by decide) (by decide) ?_
          show Steps p.tables e below (T180.setTop (mkF m 216 #[.val (.int p0), .val (.int p1), .val (.int p2), .val (.int p3), .val (.int p4), .val (.int (6 : Int32)), .val (.int y17), .val (.int y18), .val (.int y19), .val (.ref b168), .val (.int (0 : Int32)), .unset] [])) _
          refine XS.iconst X180.here hx rfl (hb hby at_216) ?_
          exact ht
        have kk := (goT k205 k206)
        simpa only [if_neg hc194] using kk
    have k207 : Go p.tables e below (T180.setTop (mkF m 217 #[.val (.int p0), .val (.int p1), .val (.int p2), .val (.int p3), .val (.int p4), .val (.int (6 : Int32)), .val (.int y17), .val (.int y18), .val (.int y19), .val (.ref b168), .val (.int (if (y17 &&& (255 : Int32)) = (239 : Int32) then (if (y18 &&& (255 : Int32)) = (187 : Int32) then (if (y19 &&& (255 : Int32)) = (191 : Int32) then (1 : Int32) else (0 : Int32)) else (0 : Int32)) else (0 : Int32))), .unset] [(.int (if (y17 &&& (255 : Int32)) = (239 : Int32) then (if (y18 &&& (255 : Int32)) = (187 : Int32) then (if (y19 &&& (255 : Int32)) = (191 : Int32) then (3 : Int32) else (0 : Int32)) else (0 : Int32)) else (0 : Int32)))])) (T180.setTop (mkF m 221 #[.val (.int p0), .val (.int p1), .val (.int p2), .val (.int p3), .val (.int p4), .val (.int (6 : Int32)), .val (.int y17), .val (.int y18), .val (.int y19), .val (.ref b168), .val (.int (if (y17 &&& (255 : Int32)) = (239 : Int32) then (if (y18 &&& (255 : Int32)) = (187 : Int32) then (if (y19 &&& (255 : Int32)) = (191 : Int32) then (1 : Int32) else (0 : Int32)) else (0 : Int32)) else (0 : Int32))), .val (.int (if (y17 &&& (255 : Int32)) = (239 : Int32) then (if (y18 &&& (255 : Int32)) = (187 : Int32) then (if (y19 &&& (255 : Int32)) = (191 : Int32) then (3 : Int32) else (0 : Int32)) else (0 : Int32)) else (0 : Int32)))] [(.ref b168)])) := by
      intro t ht
      refine XS.istore X180.here hx rfl (hb hby at_217) rfl (l' := #[.val (.int p0), .val (.int p1), .val (.int p2), .val (.int p3), .val (.int p4), .val (.int (6 : Int32)), .val (.int y17), .val (.int y18), .val (.int y19), .val (.ref b168), .val (.int (if (y17 &&& (255 : Int32)) = (239 : Int32) then (if (y18 &&& (255 : Int32)) = (187 : Int32) then (if (y19 &&& (255 : Int32)) = (191 : Int32) then (1 : Int32) else (0 : Int32)) else (0 : Int32)) else (0 : Int32))), .val (.int (if (y17 &&& (255 : Int32)) = (239 : Int32) then (if (y18 &&& (255 : Int32)) = (187 : Int32) then (if (y19 &&& (255 : Int32)) = (191 : Int32) then (3 : Int32) else (0 : Int32)) else (0 : Int32)) else (0 : Int32)))]) rfl ?_
      show Steps p.tables e below (T180.setTop (mkF m 219 #[.val (.int p0), .val (.int p1), .val (.int p2), .val (.int p3), .val (.int p4), .val (.int (6 : Int32)), .val (.int y17), .val (.int y18), .val (.int y19), .val (.ref b168), .val (.int (if (y17 &&& (255 : Int32)) = (239 : Int32) then (if (y18 &&& (255 : Int32)) = (187 : Int32) then (if (y19 &&& (255 : Int32)) = (191 : Int32) then (1 : Int32) else (0 : Int32)) else (0 : Int32)) else (0 : Int32))), .val (.int (if (y17 &&& (255 : Int32)) = (239 : Int32) then (if (y18 &&& (255 : Int32)) = (187 : Int32) then (if (y19 &&& (255 : Int32)) = (191 : Int32) then (3 : Int32) else (0 : Int32)) else (0 : Int32)) else (0 : Int32)))] [])) _
      refine XS.aload X180.here hx rfl (hb hby at_219) rfl rfl ?_
      exact ht
    obtain ⟨_, _, ⟨T208, L208, kq208, n208⟩, -, X208, ⟨Lc208, hQ208, l208, y208, z208⟩, st208⟩ := Jvm.LawKit.callS X180 hx (y := (⟨"com/example/role_conflict_finder/roleconflictfinder/Utf8Text", "start", "([B)I"⟩ : MethodName)) hown (mvT hZ (hw _ (List.mem_of_getElem? (i := 1) rfl))) (mvT hZ (hw _ (List.mem_of_getElem? (i := 2) rfl))) (mvT hZ (hw _ (List.mem_of_getElem? (i := 3) rfl))) (mvT hZ (hw _ (List.mem_of_getElem? (i := 4) rfl))) (by decide) (backOf (W := 0) (rm_longer l Z a0 hw [] b168 wM kc168 (6 : Int32) (nar .byte y17) (nar .byte y18) (nar .byte y19) [(.int (nar .byte (((p1.toUInt32 >>> ((8 : Int32) &&& 31).toUInt32).toInt32).toInt8.toInt32))), (.int (nar .byte (((p2.toUInt32 >>> ((8 : Int32) &&& 31).toUInt32).toInt32).toInt8.toInt32))), (.int (nar .byte (((p3.toUInt32 >>> ((8 : Int32) &&& 31).toUInt32).toInt32).toInt8.toInt32)))] kM h180 n0 Z180 S_M_c_180 V180_b168 V_M_c_180 (by decide : ¬ ((6 : Int32) < (3 : Int32)))) hZ (hw _ (List.mem_of_getElem? (i := 4) rfl)) (hw _ (List.mem_of_getElem? (i := 3) rfl)) (by decide) (by decide)) (g := (mkF m 221 #[.val (.int p0), .val (.int p1), .val (.int p2), .val (.int p3), .val (.int p4), .val (.int (6 : Int32)), .val (.int y17), .val (.int y18), .val (.int y19), .val (.ref b168), .val (.int (if (y17 &&& (255 : Int32)) = (239 : Int32) then (if (y18 &&& (255 : Int32)) = (187 : Int32) then (if (y19 &&& (255 : Int32)) = (191 : Int32) then (1 : Int32) else (0 : Int32)) else (0 : Int32)) else (0 : Int32))), .val (.int (if (y17 &&& (255 : Int32)) = (239 : Int32) then (if (y18 &&& (255 : Int32)) = (187 : Int32) then (if (y19 &&& (255 : Int32)) = (191 : Int32) then (3 : Int32) else (0 : Int32)) else (0 : Int32)) else (0 : Int32)))] [(.ref b168)])) rfl (by rw [hml]; rfl) (argsL := [(.ref b168)]) (rest := []) (lenOf pd_0 rfl) rfl (by show 2 * 0 + _ ≤ _; exact Nat.le_of_eq rfl) (hb hby at_221) (fun _ _ => ⟨rfl, e180, (by decide : 1 + 0 ≤ _), (by decide : 6 + 0 ≤ _)⟩)
    dsimp only [Pt.U, Pt.locs, Pt.cells, Pt.slots] at X208 l208 y208 z208 st208 hQ208
    subst l208 y208 z208
    obtain ⟨rfl, N208q, eq208⟩ := hQ208
    have N208 := Fr.app N180 N208q
    have k208 : Go p.tables e below (T180.setTop (mkF m 221 #[.val (.int p0), .val (.int p1), .val (.int p2), .val (.int p3), .val (.int p4), .val (.int (6 : Int32)), .val (.int y17), .val (.int y18), .val (.int y19), .val (.ref b168), .val (.int (if (y17 &&& (255 : Int32)) = (239 : Int32) then (if (y18 &&& (255 : Int32)) = (187 : Int32) then (if (y19 &&& (255 : Int32)) = (191 : Int32) then (1 : Int32) else (0 : Int32)) else (0 : Int32)) else (0 : Int32))), .val (.int (if (y17 &&& (255 : Int32)) = (239 : Int32) then (if (y18 &&& (255 : Int32)) = (187 : Int32) then (if (y19 &&& (255 : Int32)) = (191 : Int32) then (3 : Int32) else (0 : Int32)) else (0 : Int32)) else (0 : Int32)))] [(.ref b168)])) (T208.setTop (mkF m 224 #[.val (.int p0), .val (.int p1), .val (.int p2), .val (.int p3), .val (.int p4), .val (.int (6 : Int32)), .val (.int y17), .val (.int y18), .val (.int y19), .val (.ref b168), .val (.int (if (y17 &&& (255 : Int32)) = (239 : Int32) then (if (y18 &&& (255 : Int32)) = (187 : Int32) then (if (y19 &&& (255 : Int32)) = (191 : Int32) then (1 : Int32) else (0 : Int32)) else (0 : Int32)) else (0 : Int32))), .val (.int (if (y17 &&& (255 : Int32)) = (239 : Int32) then (if (y18 &&& (255 : Int32)) = (187 : Int32) then (if (y19 &&& (255 : Int32)) = (191 : Int32) then (3 : Int32) else (0 : Int32)) else (0 : Int32)) else (0 : Int32)))] [(.int (f_longer (nar .byte y17) (nar .byte y18) (nar .byte y19)))])) := st208
    have k209 : Go p.tables e below (T208.setTop (mkF m 224 #[.val (.int p0), .val (.int p1), .val (.int p2), .val (.int p3), .val (.int p4), .val (.int (6 : Int32)), .val (.int y17), .val (.int y18), .val (.int y19), .val (.ref b168), .val (.int (if (y17 &&& (255 : Int32)) = (239 : Int32) then (if (y18 &&& (255 : Int32)) = (187 : Int32) then (if (y19 &&& (255 : Int32)) = (191 : Int32) then (1 : Int32) else (0 : Int32)) else (0 : Int32)) else (0 : Int32))), .val (.int (if (y17 &&& (255 : Int32)) = (239 : Int32) then (if (y18 &&& (255 : Int32)) = (187 : Int32) then (if (y19 &&& (255 : Int32)) = (191 : Int32) then (3 : Int32) else (0 : Int32)) else (0 : Int32)) else (0 : Int32)))] [(.int (f_longer (nar .byte y17) (nar .byte y18) (nar .byte y19)))])) (T208.setTop (mkF m 234 #[.val (.int p0), .val (.int p1), .val (.int p2), .val (.int p3), .val (.int p4), .val (.int (6 : Int32)), .val (.int y17), .val (.int y18), .val (.int y19), .val (.ref b168), .val (.int (if (y17 &&& (255 : Int32)) = (239 : Int32) then (if (y18 &&& (255 : Int32)) = (187 : Int32) then (if (y19 &&& (255 : Int32)) = (191 : Int32) then (1 : Int32) else (0 : Int32)) else (0 : Int32)) else (0 : Int32))), .val (.int (if (y17 &&& (255 : Int32)) = (239 : Int32) then (if (y18 &&& (255 : Int32)) = (187 : Int32) then (if (y19 &&& (255 : Int32)) = (191 : Int32) then (3 : Int32) else (0 : Int32)) else (0 : Int32)) else (0 : Int32)))] [(.int (1 : Int32))])) := by
      intro t ht
      refine XS.iload X208.here hx rfl (hb hby at_224) rfl ?_
      show Steps p.tables e below (T208.setTop (mkF m 226 #[.val (.int p0), .val (.int p1), .val (.int p2), .val (.int p3), .val (.int p4), .val (.int (6 : Int32)), .val (.int y17), .val (.int y18), .val (.int y19), .val (.ref b168), .val (.int (if (y17 &&& (255 : Int32)) = (239 : Int32) then (if (y18 &&& (255 : Int32)) = (187 : Int32) then (if (y19 &&& (255 : Int32)) = (191 : Int32) then (1 : Int32) else (0 : Int32)) else (0 : Int32)) else (0 : Int32))), .val (.int (if (y17 &&& (255 : Int32)) = (239 : Int32) then (if (y18 &&& (255 : Int32)) = (187 : Int32) then (if (y19 &&& (255 : Int32)) = (191 : Int32) then (3 : Int32) else (0 : Int32)) else (0 : Int32)) else (0 : Int32)))] [(.int (if (y17 &&& (255 : Int32)) = (239 : Int32) then (if (y18 &&& (255 : Int32)) = (187 : Int32) then (if (y19 &&& (255 : Int32)) = (191 : Int32) then (3 : Int32) else (0 : Int32)) else (0 : Int32)) else (0 : Int32))), (.int (f_longer (nar .byte y17) (nar .byte y18) (nar .byte y19)))])) _
      refine XS.icmpNo X208.here hx rfl (hb hby at_226) rfl (teq (own_law _ _ _ : (f_longer (nar .byte y17) (nar .byte y18) (nar .byte y19)) = (if (y17 &&& (255 : Int32)) = (239 : Int32) then (if (y18 &&& (255 : Int32)) = (187 : Int32) then (if (y19 &&& (255 : Int32)) = (191 : Int32) then (3 : Int32) else (0 : Int32)) else (0 : Int32)) else (0 : Int32)))).2 ?_
      show Steps p.tables e below (T208.setTop (mkF m 229 #[.val (.int p0), .val (.int p1), .val (.int p2), .val (.int p3), .val (.int p4), .val (.int (6 : Int32)), .val (.int y17), .val (.int y18), .val (.int y19), .val (.ref b168), .val (.int (if (y17 &&& (255 : Int32)) = (239 : Int32) then (if (y18 &&& (255 : Int32)) = (187 : Int32) then (if (y19 &&& (255 : Int32)) = (191 : Int32) then (1 : Int32) else (0 : Int32)) else (0 : Int32)) else (0 : Int32))), .val (.int (if (y17 &&& (255 : Int32)) = (239 : Int32) then (if (y18 &&& (255 : Int32)) = (187 : Int32) then (if (y19 &&& (255 : Int32)) = (191 : Int32) then (3 : Int32) else (0 : Int32)) else (0 : Int32)) else (0 : Int32)))] [])) _
      refine XS.iconst X208.here hx rfl (hb hby at_229) ?_
      show Steps p.tables e below (T208.setTop (mkF m 230 #[.val (.int p0), .val (.int p1), .val (.int p2), .val (.int p3), .val (.int p4), .val (.int (6 : Int32)), .val (.int y17), .val (.int y18), .val (.int y19), .val (.ref b168), .val (.int (if (y17 &&& (255 : Int32)) = (239 : Int32) then (if (y18 &&& (255 : Int32)) = (187 : Int32) then (if (y19 &&& (255 : Int32)) = (191 : Int32) then (1 : Int32) else (0 : Int32)) else (0 : Int32)) else (0 : Int32))), .val (.int (if (y17 &&& (255 : Int32)) = (239 : Int32) then (if (y18 &&& (255 : Int32)) = (187 : Int32) then (if (y19 &&& (255 : Int32)) = (191 : Int32) then (3 : Int32) else (0 : Int32)) else (0 : Int32)) else (0 : Int32)))] [(.int (1 : Int32))])) _
      refine XS.goto X208.here hx rfl (pc0 := 230) (pc' := 234) rfl (hb hby at_230) (by decide) (by decide) ?_
      exact ht
    obtain ⟨fs, hr, hrun, hended, hW, hsame⟩ := X208.leave (v := some (.int (1 : Int32))) (fun h => by rw [Bd.returns] at h; cases h)
    refine ⟨_, _, pre0 _ ((goT k1 (goT k2 (goT k6 (goT k7 (goT k11 (goT k12 (goT k16 (goT k20 (goT k166 (goT k167 (goT k168 (goT k169 (goT k170 (goT k171 (goT k172 (goT k173 (goT k174 (goT k175 (goT k176 (goT k177 (goT k178 (goT k179 (goT k180 (goT k181 (goT k182 (goT k192 (goT k193 (goT k207 (goT k208 k209))))))))))))))))))))))))))))) _ (retN X208 hx (t := .boolean) Bd.returns (by simp) (hb hby at_234) hr)), hrun, hended, _, _, rfl, ?_, ⟨_, rfl⟩, hW, hsame.mono (by decide) (by decide)⟩
    show Q_law Z p0 p1 p2 p3 p4 wM kM h0 n0 _ T208.heap _
    rw [eq208]
    exact ⟨rfl, N208⟩
  · have k210 : Go p.tables e below (s₁.setTop (mkF m 54 #[.val (.int p0), .val (.int p1), .val (.int p2), .val (.int p3), .val (.int p4), .val (.int (p0 &&& (7 : Int32))), .val (.int y17), .val (.int y18), .val (.int y19), .unset, .unset, .unset] [])) (s₁.setTop (mkF m 54 #[.val (.int p0), .val (.int p1), .val (.int p2), .val (.int p3), .val (.int p4), .val (.int (7 : Int32)), .val (.int y17), .val (.int y18), .val (.int y19), .unset, .unset, .unset] [])) := by rw [hk21]; exact fun _ h => h
    have k211 : Go p.tables e below (s₁.setTop (mkF m 54 #[.val (.int p0), .val (.int p1), .val (.int p2), .val (.int p3), .val (.int p4), .val (.int (7 : Int32)), .val (.int y17), .val (.int y18), .val (.int y19), .unset, .unset, .unset] [])) (s₁.setTop (mkF m 56 #[.val (.int p0), .val (.int p1), .val (.int p2), .val (.int p3), .val (.int p4), .val (.int (7 : Int32)), .val (.int y17), .val (.int y18), .val (.int y19), .unset, .unset, .unset] [(.int (7 : Int32))])) := by
      intro t ht
      refine XS.iload X0.here hx rfl (hb hby at_54) rfl ?_
      exact ht
    obtain ⟨T212, h212, kc212, X212, e212, E212, A212, st212⟩ := newP X0 hx hZ (hw _ (List.mem_of_getElem? (i := 0) rfl)) e0 (g := (mkF m 56 #[.val (.int p0), .val (.int p1), .val (.int p2), .val (.int p3), .val (.int p4), .val (.int (7 : Int32)), .val (.int y17), .val (.int y18), .val (.int y19), .unset, .unset, .unset] [(.int (7 : Int32))])) rfl (hb hby at_56) rfl (by decide) (cap := 7) (by decide) (by decide) (by decide) (by decide)
    obtain ⟨b212, g212⟩ : ∃ z, z = h0.size := ⟨_, rfl⟩
    rw [← g212] at A212 st212
    have g_b212 : n0 ≤ b212 := Nat.le_trans Z0 (Nat.le_of_eq g212.symm)
    have sz_b212 : h0.size ≤ b212 := Nat.le_trans (Keep.refl h0 []).1 (Nat.le_of_eq g212.symm)
    have ne_wM_b212 : wM ≠ b212 := Nat.ne_of_lt (Nat.lt_of_lt_of_le V_M.lt (Nat.le_of_eq g212.symm))
    have Kp212 : Keep h0 h212 [] := (Keep.refl h0 []).ext E212
    have Z212 : n0 ≤ h212.size := Nat.le_trans Z0 E212.1
    have S_M_c_212 := S_M.ext E212
    have V_M_c_212 := V_M.ext E212
    have V_b212 : Arv Z h212 b212 kc212 .byte (7 : Int32) [(.int (0 : Int32)), (.int (0 : Int32)), (.int (0 : Int32)), (.int (0 : Int32)), (.int (0 : Int32)), (.int (0 : Int32)), (.int (0 : Int32))] (.int (0 : Int32)) := (Arv.new A212 (by decide)).pad (pad_rep [] (.int (0 : Int32)) 7)
    have k212 : Go p.tables e below (s₁.setTop (mkF m 56 #[.val (.int p0), .val (.int p1), .val (.int p2), .val (.int p3), .val (.int p4), .val (.int (7 : Int32)), .val (.int y17), .val (.int y18), .val (.int y19), .unset, .unset, .unset] [(.int (7 : Int32))])) (T212.setTop (mkF m 58 #[.val (.int p0), .val (.int p1), .val (.int p2), .val (.int p3), .val (.int p4), .val (.int (7 : Int32)), .val (.int y17), .val (.int y18), .val (.int y19), .unset, .unset, .unset] [(.ref b212)])) := st212
    have k213 : Go p.tables e below (T212.setTop (mkF m 58 #[.val (.int p0), .val (.int p1), .val (.int p2), .val (.int p3), .val (.int p4), .val (.int (7 : Int32)), .val (.int y17), .val (.int y18), .val (.int y19), .unset, .unset, .unset] [(.ref b212)])) (T212.setTop (mkF m 70 #[.val (.int p0), .val (.int p1), .val (.int p2), .val (.int p3), .val (.int p4), .val (.int (7 : Int32)), .val (.int y17), .val (.int y18), .val (.int y19), .val (.ref b212), .unset, .unset] [(.int y17), (.int (0 : Int32)), (.ref b212)])) := by
      intro t ht
      refine XS.astore X212.here hx rfl (hb hby at_58) rfl rfl (l' := #[.val (.int p0), .val (.int p1), .val (.int p2), .val (.int p3), .val (.int p4), .val (.int (7 : Int32)), .val (.int y17), .val (.int y18), .val (.int y19), .val (.ref b212), .unset, .unset]) rfl ?_
      show Steps p.tables e below (T212.setTop (mkF m 60 #[.val (.int p0), .val (.int p1), .val (.int p2), .val (.int p3), .val (.int p4), .val (.int (7 : Int32)), .val (.int y17), .val (.int y18), .val (.int y19), .val (.ref b212), .unset, .unset] [])) _
      refine XS.iload X212.here hx rfl (hb hby at_60) rfl ?_
      show Steps p.tables e below (T212.setTop (mkF m 62 #[.val (.int p0), .val (.int p1), .val (.int p2), .val (.int p3), .val (.int p4), .val (.int (7 : Int32)), .val (.int y17), .val (.int y18), .val (.int y19), .val (.ref b212), .unset, .unset] [(.int (7 : Int32))])) _
      refine XS.ifNo X212.here hx rfl (hb hby at_62) rfl ((if0 _ _).trans (tlt (by decide : (0 : Int32) < (7 : Int32))).2.2.2) ?_
      show Steps p.tables e below (T212.setTop (mkF m 65 #[.val (.int p0), .val (.int p1), .val (.int p2), .val (.int p3), .val (.int p4), .val (.int (7 : Int32)), .val (.int y17), .val (.int y18), .val (.int y19), .val (.ref b212), .unset, .unset] [])) _
      refine XS.aload X212.here hx rfl (hb hby at_65) rfl rfl ?_
      show Steps p.tables e below (T212.setTop (mkF m 67 #[.val (.int p0), .val (.int p1), .val (.int p2), .val (.int p3), .val (.int p4), .val (.int (7 : Int32)), .val (.int y17), .val (.int y18), .val (.int y19), .val (.ref b212), .unset, .unset] [(.ref b212)])) _
      refine XS.iconst X212.here hx rfl (hb hby at_67) ?_
      show Steps p.tables e below (T212.setTop (mkF m 68 #[.val (.int p0), .val (.int p1), .val (.int p2), .val (.int p3), .val (.int p4), .val (.int (7 : Int32)), .val (.int y17), .val (.int y18), .val (.int y19), .val (.ref b212), .unset, .unset] [(.int (0 : Int32)), (.ref b212)])) _
      refine XS.iload X212.here hx rfl (hb hby at_68) rfl ?_
      exact ht
    obtain ⟨cl214, Ar214, q214, S214, M214, H214, G214⟩ := id V_b212
    have hin214 : ¬ ((0 : Int32) < 0 ∨ cl214.slots.size ≤ ((0 : Int32)).toNatClampNeg) := inb_of S214 ⟨by decide, by decide⟩
    obtain ⟨T214, h214, X214, e214, W214, st214⟩ := stB X212 hx hZ e212 Ar214 (j := (0 : Int32)) hin214 (g := (mkF m 70 #[.val (.int p0), .val (.int p1), .val (.int p2), .val (.int p3), .val (.int p4), .val (.int (7 : Int32)), .val (.int y17), .val (.int y18), .val (.int y19), .val (.ref b212), .unset, .unset] [(.int y17), (.int (0 : Int32)), (.ref b212)])) rfl rfl (hb hby at_70)
    have V214_b212 : Arv Z h214 b212 kc212 .byte (7 : Int32) [(.int (nar .byte y17)), (.int (0 : Int32)), (.int (0 : Int32)), (.int (0 : Int32)), (.int (0 : Int32)), (.int (0 : Int32)), (.int (0 : Int32))] (.int (0 : Int32)) := Arv.set Ar214 q214 S214 M214 H214 G214 (fits_nar_byte _) W214 0 rfl (Nat.le_of_ble_eq_true rfl)
    have Kp214 : Keep h0 h214 [] := Kp212.wr W214 (Or.inr sz_b212)
    have Z214 : n0 ≤ h214.size := Nat.le_trans Z212 (Keep.of_wr W214).1
    have S_M_c_214 := S_M_c_212.wr W214
    have V_M_c_214 := V_M_c_212.other W214 ne_wM_b212
    have k214 : Go p.tables e below (T212.setTop (mkF m 70 #[.val (.int p0), .val (.int p1), .val (.int p2), .val (.int p3), .val (.int p4), .val (.int (7 : Int32)), .val (.int y17), .val (.int y18), .val (.int y19), .val (.ref b212), .unset, .unset] [(.int y17), (.int (0 : Int32)), (.ref b212)])) (T214.setTop (mkF m 71 #[.val (.int p0), .val (.int p1), .val (.int p2), .val (.int p3), .val (.int p4), .val (.int (7 : Int32)), .val (.int y17), .val (.int y18), .val (.int y19), .val (.ref b212), .unset, .unset] [])) := st214
    have N214 := Fr.snoc X214 N0 g_b212
    have k215 : Go p.tables e below (T214.setTop (mkF m 71 #[.val (.int p0), .val (.int p1), .val (.int p2), .val (.int p3), .val (.int p4), .val (.int (7 : Int32)), .val (.int y17), .val (.int y18), .val (.int y19), .val (.ref b212), .unset, .unset] [])) (T214.setTop (mkF m 82 #[.val (.int p0), .val (.int p1), .val (.int p2), .val (.int p3), .val (.int p4), .val (.int (7 : Int32)), .val (.int y17), .val (.int y18), .val (.int y19), .val (.ref b212), .unset, .unset] [(.int y18), (.int (1 : Int32)), (.ref b212)])) := by
      intro t ht
      refine XS.iload X214.here hx rfl (hb hby at_71) rfl ?_
      show Steps p.tables e below (T214.setTop (mkF m 73 #[.val (.int p0), .val (.int p1), .val (.int p2), .val (.int p3), .val (.int p4), .val (.int (7 : Int32)), .val (.int y17), .val (.int y18), .val (.int y19), .val (.ref b212), .unset, .unset] [(.int (7 : Int32))])) _
      refine XS.iconst X214.here hx rfl (hb hby at_73) ?_
      show Steps p.tables e below (T214.setTop (mkF m 74 #[.val (.int p0), .val (.int p1), .val (.int p2), .val (.int p3), .val (.int p4), .val (.int (7 : Int32)), .val (.int y17), .val (.int y18), .val (.int y19), .val (.ref b212), .unset, .unset] [(.int (1 : Int32)), (.int (7 : Int32))])) _
      refine XS.icmpNo X214.here hx rfl (hb hby at_74) rfl (tlt (by decide : (1 : Int32) < (7 : Int32))).2.2.2 ?_
      show Steps p.tables e below (T214.setTop (mkF m 77 #[.val (.int p0), .val (.int p1), .val (.int p2), .val (.int p3), .val (.int p4), .val (.int (7 : Int32)), .val (.int y17), .val (.int y18), .val (.int y19), .val (.ref b212), .unset, .unset] [])) _
      refine XS.aload X214.here hx rfl (hb hby at_77) rfl rfl ?_
      show Steps p.tables e below (T214.setTop (mkF m 79 #[.val (.int p0), .val (.int p1), .val (.int p2), .val (.int p3), .val (.int p4), .val (.int (7 : Int32)), .val (.int y17), .val (.int y18), .val (.int y19), .val (.ref b212), .unset, .unset] [(.ref b212)])) _
      refine XS.iconst X214.here hx rfl (hb hby at_79) ?_
      show Steps p.tables e below (T214.setTop (mkF m 80 #[.val (.int p0), .val (.int p1), .val (.int p2), .val (.int p3), .val (.int p4), .val (.int (7 : Int32)), .val (.int y17), .val (.int y18), .val (.int y19), .val (.ref b212), .unset, .unset] [(.int (1 : Int32)), (.ref b212)])) _
      refine XS.iload X214.here hx rfl (hb hby at_80) rfl ?_
      exact ht
    obtain ⟨cl216, Ar216, q216, S216, M216, H216, G216⟩ := id V214_b212
    have hin216 : ¬ ((1 : Int32) < 0 ∨ cl216.slots.size ≤ ((1 : Int32)).toNatClampNeg) := inb_of S216 ⟨by decide, by decide⟩
    obtain ⟨T216, h216, X216, e216, W216, st216⟩ := stB X214 hx hZ e214 Ar216 (j := (1 : Int32)) hin216 (g := (mkF m 82 #[.val (.int p0), .val (.int p1), .val (.int p2), .val (.int p3), .val (.int p4), .val (.int (7 : Int32)), .val (.int y17), .val (.int y18), .val (.int y19), .val (.ref b212), .unset, .unset] [(.int y18), (.int (1 : Int32)), (.ref b212)])) rfl rfl (hb hby at_82)
    have V216_b212 : Arv Z h216 b212 kc212 .byte (7 : Int32) [(.int (nar .byte y17)), (.int (nar .byte y18)), (.int (0 : Int32)), (.int (0 : Int32)), (.int (0 : Int32)), (.int (0 : Int32)), (.int (0 : Int32))] (.int (0 : Int32)) := Arv.set Ar216 q216 S216 M216 H216 G216 (fits_nar_byte _) W216 1 rfl (Nat.le_of_ble_eq_true rfl)
    have Kp216 : Keep h0 h216 [] := Kp214.wr W216 (Or.inr sz_b212)
    have Z216 : n0 ≤ h216.size := Nat.le_trans Z214 (Keep.of_wr W216).1
    have S_M_c_216 := S_M_c_214.wr W216
    have V_M_c_216 := V_M_c_214.other W216 ne_wM_b212
    have k216 : Go p.tables e below (T214.setTop (mkF m 82 #[.val (.int p0), .val (.int p1), .val (.int p2), .val (.int p3), .val (.int p4), .val (.int (7 : Int32)), .val (.int y17), .val (.int y18), .val (.int y19), .val (.ref b212), .unset, .unset] [(.int y18), (.int (1 : Int32)), (.ref b212)])) (T216.setTop (mkF m 83 #[.val (.int p0), .val (.int p1), .val (.int p2), .val (.int p3), .val (.int p4), .val (.int (7 : Int32)), .val (.int y17), .val (.int y18), .val (.int y19), .val (.ref b212), .unset, .unset] [])) := st216
    have N216 := Fr.snoc X216 N214 g_b212
    have k217 : Go p.tables e below (T216.setTop (mkF m 83 #[.val (.int p0), .val (.int p1), .val (.int p2), .val (.int p3), .val (.int p4), .val (.int (7 : Int32)), .val (.int y17), .val (.int y18), .val (.int y19), .val (.ref b212), .unset, .unset] [])) (T216.setTop (mkF m 94 #[.val (.int p0), .val (.int p1), .val (.int p2), .val (.int p3), .val (.int p4), .val (.int (7 : Int32)), .val (.int y17), .val (.int y18), .val (.int y19), .val (.ref b212), .unset, .unset] [(.int y19), (.int (2 : Int32)), (.ref b212)])) := by
      intro t ht
      refine XS.iload X216.here hx rfl (hb hby at_83) rfl ?_
      show Steps p.tables e below (T216.setTop (mkF m 85 #[.val (.int p0), .val (.int p1), .val (.int p2), .val (.int p3), .val (.int p4), .val (.int (7 : Int32)), .val (.int y17), .val (.int y18), .val (.int y19), .val (.ref b212), .unset, .unset] [(.int (7 : Int32))])) _
      refine XS.iconst X216.here hx rfl (hb hby at_85) ?_
      show Steps p.tables e below (T216.setTop (mkF m 86 #[.val (.int p0), .val (.int p1), .val (.int p2), .val (.int p3), .val (.int p4), .val (.int (7 : Int32)), .val (.int y17), .val (.int y18), .val (.int y19), .val (.ref b212), .unset, .unset] [(.int (2 : Int32)), (.int (7 : Int32))])) _
      refine XS.icmpNo X216.here hx rfl (hb hby at_86) rfl (tlt (by decide : (2 : Int32) < (7 : Int32))).2.2.2 ?_
      show Steps p.tables e below (T216.setTop (mkF m 89 #[.val (.int p0), .val (.int p1), .val (.int p2), .val (.int p3), .val (.int p4), .val (.int (7 : Int32)), .val (.int y17), .val (.int y18), .val (.int y19), .val (.ref b212), .unset, .unset] [])) _
      refine XS.aload X216.here hx rfl (hb hby at_89) rfl rfl ?_
      show Steps p.tables e below (T216.setTop (mkF m 91 #[.val (.int p0), .val (.int p1), .val (.int p2), .val (.int p3), .val (.int p4), .val (.int (7 : Int32)), .val (.int y17), .val (.int y18), .val (.int y19), .val (.ref b212), .unset, .unset] [(.ref b212)])) _
      refine XS.iconst X216.here hx rfl (hb hby at_91) ?_
      show Steps p.tables e below (T216.setTop (mkF m 92 #[.val (.int p0), .val (.int p1), .val (.int p2), .val (.int p3), .val (.int p4), .val (.int (7 : Int32)), .val (.int y17), .val (.int y18), .val (.int y19), .val (.ref b212), .unset, .unset] [(.int (2 : Int32)), (.ref b212)])) _
      refine XS.iload X216.here hx rfl (hb hby at_92) rfl ?_
      exact ht
    obtain ⟨cl218, Ar218, q218, S218, M218, H218, G218⟩ := id V216_b212
    have hin218 : ¬ ((2 : Int32) < 0 ∨ cl218.slots.size ≤ ((2 : Int32)).toNatClampNeg) := inb_of S218 ⟨by decide, by decide⟩
    obtain ⟨T218, h218, X218, e218, W218, st218⟩ := stB X216 hx hZ e216 Ar218 (j := (2 : Int32)) hin218 (g := (mkF m 94 #[.val (.int p0), .val (.int p1), .val (.int p2), .val (.int p3), .val (.int p4), .val (.int (7 : Int32)), .val (.int y17), .val (.int y18), .val (.int y19), .val (.ref b212), .unset, .unset] [(.int y19), (.int (2 : Int32)), (.ref b212)])) rfl rfl (hb hby at_94)
    have V218_b212 : Arv Z h218 b212 kc212 .byte (7 : Int32) [(.int (nar .byte y17)), (.int (nar .byte y18)), (.int (nar .byte y19)), (.int (0 : Int32)), (.int (0 : Int32)), (.int (0 : Int32)), (.int (0 : Int32))] (.int (0 : Int32)) := Arv.set Ar218 q218 S218 M218 H218 G218 (fits_nar_byte _) W218 2 rfl (Nat.le_of_ble_eq_true rfl)
    have Kp218 : Keep h0 h218 [] := Kp216.wr W218 (Or.inr sz_b212)
    have Z218 : n0 ≤ h218.size := Nat.le_trans Z216 (Keep.of_wr W218).1
    have S_M_c_218 := S_M_c_216.wr W218
    have V_M_c_218 := V_M_c_216.other W218 ne_wM_b212
    have k218 : Go p.tables e below (T216.setTop (mkF m 94 #[.val (.int p0), .val (.int p1), .val (.int p2), .val (.int p3), .val (.int p4), .val (.int (7 : Int32)), .val (.int y17), .val (.int y18), .val (.int y19), .val (.ref b212), .unset, .unset] [(.int y19), (.int (2 : Int32)), (.ref b212)])) (T218.setTop (mkF m 95 #[.val (.int p0), .val (.int p1), .val (.int p2), .val (.int p3), .val (.int p4), .val (.int (7 : Int32)), .val (.int y17), .val (.int y18), .val (.int y19), .val (.ref b212), .unset, .unset] [])) := st218
    have N218 := Fr.snoc X218 N216 g_b212
    have k219 : Go p.tables e below (T218.setTop (mkF m 95 #[.val (.int p0), .val (.int p1), .val (.int p2), .val (.int p3), .val (.int p4), .val (.int (7 : Int32)), .val (.int y17), .val (.int y18), .val (.int y19), .val (.ref b212), .unset, .unset] [])) (T218.setTop (mkF m 109 #[.val (.int p0), .val (.int p1), .val (.int p2), .val (.int p3), .val (.int p4), .val (.int (7 : Int32)), .val (.int y17), .val (.int y18), .val (.int y19), .val (.ref b212), .unset, .unset] [(.int (((p1.toUInt32 >>> ((8 : Int32) &&& 31).toUInt32).toInt32).toInt8.toInt32)), (.int (3 : Int32)), (.ref b212)])) := by
      intro t ht
      refine XS.iload X218.here hx rfl (hb hby at_95) rfl ?_
      show Steps p.tables e below (T218.setTop (mkF m 97 #[.val (.int p0), .val (.int p1), .val (.int p2), .val (.int p3), .val (.int p4), .val (.int (7 : Int32)), .val (.int y17), .val (.int y18), .val (.int y19), .val (.ref b212), .unset, .unset] [(.int (7 : Int32))])) _
      refine XS.iconst X218.here hx rfl (hb hby at_97) ?_
      show Steps p.tables e below (T218.setTop (mkF m 98 #[.val (.int p0), .val (.int p1), .val (.int p2), .val (.int p3), .val (.int p4), .val (.int (7 : Int32)), .val (.int y17), .val (.int y18), .val (.int y19), .val (.ref b212), .unset, .unset] [(.int (3 : Int32)), (.int (7 : Int32))])) _
      refine XS.icmpNo X218.here hx rfl (hb hby at_98) rfl (tlt (by decide : (3 : Int32) < (7 : Int32))).2.2.2 ?_
      show Steps p.tables e below (T218.setTop (mkF m 101 #[.val (.int p0), .val (.int p1), .val (.int p2), .val (.int p3), .val (.int p4), .val (.int (7 : Int32)), .val (.int y17), .val (.int y18), .val (.int y19), .val (.ref b212), .unset, .unset] [])) _
      refine XS.aload X218.here hx rfl (hb hby at_101) rfl rfl ?_
      show Steps p.tables e below (T218.setTop (mkF m 103 #[.val (.int p0), .val (.int p1), .val (.int p2), .val (.int p3), .val (.int p4), .val (.int (7 : Int32)), .val (.int y17), .val (.int y18), .val (.int y19), .val (.ref b212), .unset, .unset] [(.ref b212)])) _
      refine XS.iconst X218.here hx rfl (hb hby at_103) ?_
      show Steps p.tables e below (T218.setTop (mkF m 104 #[.val (.int p0), .val (.int p1), .val (.int p2), .val (.int p3), .val (.int p4), .val (.int (7 : Int32)), .val (.int y17), .val (.int y18), .val (.int y19), .val (.ref b212), .unset, .unset] [(.int (3 : Int32)), (.ref b212)])) _
      refine XS.iloadN X218.here hx rfl (hb hby at_104) rfl ?_
      show Steps p.tables e below (T218.setTop (mkF m 105 #[.val (.int p0), .val (.int p1), .val (.int p2), .val (.int p3), .val (.int p4), .val (.int (7 : Int32)), .val (.int y17), .val (.int y18), .val (.int y19), .val (.ref b212), .unset, .unset] [(.int p1), (.int (3 : Int32)), (.ref b212)])) _
      refine XS.bipush X218.here hx rfl (hb hby at_105) ?_
      show Steps p.tables e below (T218.setTop (mkF m 107 #[.val (.int p0), .val (.int p1), .val (.int p2), .val (.int p3), .val (.int p4), .val (.int (7 : Int32)), .val (.int y17), .val (.int y18), .val (.int y19), .val (.ref b212), .unset, .unset] [(.int (8 : Int32)), (.int p1), (.int (3 : Int32)), (.ref b212)])) _
      refine XS.iushr X218.here hx rfl (hb hby at_107) rfl ?_
      show Steps p.tables e below (T218.setTop (mkF m 108 #[.val (.int p0), .val (.int p1), .val (.int p2), .val (.int p3), .val (.int p4), .val (.int (7 : Int32)), .val (.int y17), .val (.int y18), .val (.int y19), .val (.ref b212), .unset, .unset] [(.int ((p1.toUInt32 >>> ((8 : Int32) &&& 31).toUInt32).toInt32)), (.int (3 : Int32)), (.ref b212)])) _
      refine XS.i2b X218.here hx rfl (hb hby at_108) rfl ?_
      exact ht
    obtain ⟨cl220, Ar220, q220, S220, M220, H220, G220⟩ := id V218_b212
    have hin220 : ¬ ((3 : Int32) < 0 ∨ cl220.slots.size ≤ ((3 : Int32)).toNatClampNeg) := inb_of S220 ⟨by decide, by decide⟩
    obtain ⟨T220, h220, X220, e220, W220, st220⟩ := stB X218 hx hZ e218 Ar220 (j := (3 : Int32)) hin220 (g := (mkF m 109 #[.val (.int p0), .val (.int p1), .val (.int p2), .val (.int p3), .val (.int p4), .val (.int (7 : Int32)), .val (.int y17), .val (.int y18), .val (.int y19), .val (.ref b212), .unset, .unset] [(.int (((p1.toUInt32 >>> ((8 : Int32) &&& 31).toUInt32).toInt32).toInt8.toInt32)), (.int (3 : Int32)), (.ref b212)])) rfl rfl (hb hby at_109)
    have V220_b212 : Arv Z h220 b212 kc212 .byte (7 : Int32) [(.int (nar .byte y17)), (.int (nar .byte y18)), (.int (nar .byte y19)), (.int (nar .byte (((p1.toUInt32 >>> ((8 : Int32) &&& 31).toUInt32).toInt32).toInt8.toInt32))), (.int (0 : Int32)), (.int (0 : Int32)), (.int (0 : Int32))] (.int (0 : Int32)) := Arv.set Ar220 q220 S220 M220 H220 G220 (fits_nar_byte _) W220 3 rfl (Nat.le_of_ble_eq_true rfl)
    have Kp220 : Keep h0 h220 [] := Kp218.wr W220 (Or.inr sz_b212)
    have Z220 : n0 ≤ h220.size := Nat.le_trans Z218 (Keep.of_wr W220).1
    have S_M_c_220 := S_M_c_218.wr W220
    have V_M_c_220 := V_M_c_218.other W220 ne_wM_b212
    have k220 : Go p.tables e below (T218.setTop (mkF m 109 #[.val (.int p0), .val (.int p1), .val (.int p2), .val (.int p3), .val (.int p4), .val (.int (7 : Int32)), .val (.int y17), .val (.int y18), .val (.int y19), .val (.ref b212), .unset, .unset] [(.int (((p1.toUInt32 >>> ((8 : Int32) &&& 31).toUInt32).toInt32).toInt8.toInt32)), (.int (3 : Int32)), (.ref b212)])) (T220.setTop (mkF m 110 #[.val (.int p0), .val (.int p1), .val (.int p2), .val (.int p3), .val (.int p4), .val (.int (7 : Int32)), .val (.int y17), .val (.int y18), .val (.int y19), .val (.ref b212), .unset, .unset] [])) := st220
    have N220 := Fr.snoc X220 N218 g_b212
    have k221 : Go p.tables e below (T220.setTop (mkF m 110 #[.val (.int p0), .val (.int p1), .val (.int p2), .val (.int p3), .val (.int p4), .val (.int (7 : Int32)), .val (.int y17), .val (.int y18), .val (.int y19), .val (.ref b212), .unset, .unset] [])) (T220.setTop (mkF m 124 #[.val (.int p0), .val (.int p1), .val (.int p2), .val (.int p3), .val (.int p4), .val (.int (7 : Int32)), .val (.int y17), .val (.int y18), .val (.int y19), .val (.ref b212), .unset, .unset] [(.int (((p2.toUInt32 >>> ((8 : Int32) &&& 31).toUInt32).toInt32).toInt8.toInt32)), (.int (4 : Int32)), (.ref b212)])) := by
      intro t ht
      refine XS.iload X220.here hx rfl (hb hby at_110) rfl ?_
      show Steps p.tables e below (T220.setTop (mkF m 112 #[.val (.int p0), .val (.int p1), .val (.int p2), .val (.int p3), .val (.int p4), .val (.int (7 : Int32)), .val (.int y17), .val (.int y18), .val (.int y19), .val (.ref b212), .unset, .unset] [(.int (7 : Int32))])) _
      refine XS.iconst X220.here hx rfl (hb hby at_112) ?_
      show Steps p.tables e below (T220.setTop (mkF m 113 #[.val (.int p0), .val (.int p1), .val (.int p2), .val (.int p3), .val (.int p4), .val (.int (7 : Int32)), .val (.int y17), .val (.int y18), .val (.int y19), .val (.ref b212), .unset, .unset] [(.int (4 : Int32)), (.int (7 : Int32))])) _
      refine XS.icmpNo X220.here hx rfl (hb hby at_113) rfl (tlt (by decide : (4 : Int32) < (7 : Int32))).2.2.2 ?_
      show Steps p.tables e below (T220.setTop (mkF m 116 #[.val (.int p0), .val (.int p1), .val (.int p2), .val (.int p3), .val (.int p4), .val (.int (7 : Int32)), .val (.int y17), .val (.int y18), .val (.int y19), .val (.ref b212), .unset, .unset] [])) _
      refine XS.aload X220.here hx rfl (hb hby at_116) rfl rfl ?_
      show Steps p.tables e below (T220.setTop (mkF m 118 #[.val (.int p0), .val (.int p1), .val (.int p2), .val (.int p3), .val (.int p4), .val (.int (7 : Int32)), .val (.int y17), .val (.int y18), .val (.int y19), .val (.ref b212), .unset, .unset] [(.ref b212)])) _
      refine XS.iconst X220.here hx rfl (hb hby at_118) ?_
      show Steps p.tables e below (T220.setTop (mkF m 119 #[.val (.int p0), .val (.int p1), .val (.int p2), .val (.int p3), .val (.int p4), .val (.int (7 : Int32)), .val (.int y17), .val (.int y18), .val (.int y19), .val (.ref b212), .unset, .unset] [(.int (4 : Int32)), (.ref b212)])) _
      refine XS.iloadN X220.here hx rfl (hb hby at_119) rfl ?_
      show Steps p.tables e below (T220.setTop (mkF m 120 #[.val (.int p0), .val (.int p1), .val (.int p2), .val (.int p3), .val (.int p4), .val (.int (7 : Int32)), .val (.int y17), .val (.int y18), .val (.int y19), .val (.ref b212), .unset, .unset] [(.int p2), (.int (4 : Int32)), (.ref b212)])) _
      refine XS.bipush X220.here hx rfl (hb hby at_120) ?_
      show Steps p.tables e below (T220.setTop (mkF m 122 #[.val (.int p0), .val (.int p1), .val (.int p2), .val (.int p3), .val (.int p4), .val (.int (7 : Int32)), .val (.int y17), .val (.int y18), .val (.int y19), .val (.ref b212), .unset, .unset] [(.int (8 : Int32)), (.int p2), (.int (4 : Int32)), (.ref b212)])) _
      refine XS.iushr X220.here hx rfl (hb hby at_122) rfl ?_
      show Steps p.tables e below (T220.setTop (mkF m 123 #[.val (.int p0), .val (.int p1), .val (.int p2), .val (.int p3), .val (.int p4), .val (.int (7 : Int32)), .val (.int y17), .val (.int y18), .val (.int y19), .val (.ref b212), .unset, .unset] [(.int ((p2.toUInt32 >>> ((8 : Int32) &&& 31).toUInt32).toInt32)), (.int (4 : Int32)), (.ref b212)])) _
      refine XS.i2b X220.here hx rfl (hb hby at_123) rfl ?_
      exact ht
    obtain ⟨cl222, Ar222, q222, S222, M222, H222, G222⟩ := id V220_b212
    have hin222 : ¬ ((4 : Int32) < 0 ∨ cl222.slots.size ≤ ((4 : Int32)).toNatClampNeg) := inb_of S222 ⟨by decide, by decide⟩
    obtain ⟨T222, h222, X222, e222, W222, st222⟩ := stB X220 hx hZ e220 Ar222 (j := (4 : Int32)) hin222 (g := (mkF m 124 #[.val (.int p0), .val (.int p1), .val (.int p2), .val (.int p3), .val (.int p4), .val (.int (7 : Int32)), .val (.int y17), .val (.int y18), .val (.int y19), .val (.ref b212), .unset, .unset] [(.int (((p2.toUInt32 >>> ((8 : Int32) &&& 31).toUInt32).toInt32).toInt8.toInt32)), (.int (4 : Int32)), (.ref b212)])) rfl rfl (hb hby at_124)
    have V222_b212 : Arv Z h222 b212 kc212 .byte (7 : Int32) [(.int (nar .byte y17)), (.int (nar .byte y18)), (.int (nar .byte y19)), (.int (nar .byte (((p1.toUInt32 >>> ((8 : Int32) &&& 31).toUInt32).toInt32).toInt8.toInt32))), (.int (nar .byte (((p2.toUInt32 >>> ((8 : Int32) &&& 31).toUInt32).toInt32).toInt8.toInt32))), (.int (0 : Int32)), (.int (0 : Int32))] (.int (0 : Int32)) := Arv.set Ar222 q222 S222 M222 H222 G222 (fits_nar_byte _) W222 4 rfl (Nat.le_of_ble_eq_true rfl)
    have Kp222 : Keep h0 h222 [] := Kp220.wr W222 (Or.inr sz_b212)
    have Z222 : n0 ≤ h222.size := Nat.le_trans Z220 (Keep.of_wr W222).1
    have S_M_c_222 := S_M_c_220.wr W222
    have V_M_c_222 := V_M_c_220.other W222 ne_wM_b212
    have k222 : Go p.tables e below (T220.setTop (mkF m 124 #[.val (.int p0), .val (.int p1), .val (.int p2), .val (.int p3), .val (.int p4), .val (.int (7 : Int32)), .val (.int y17), .val (.int y18), .val (.int y19), .val (.ref b212), .unset, .unset] [(.int (((p2.toUInt32 >>> ((8 : Int32) &&& 31).toUInt32).toInt32).toInt8.toInt32)), (.int (4 : Int32)), (.ref b212)])) (T222.setTop (mkF m 125 #[.val (.int p0), .val (.int p1), .val (.int p2), .val (.int p3), .val (.int p4), .val (.int (7 : Int32)), .val (.int y17), .val (.int y18), .val (.int y19), .val (.ref b212), .unset, .unset] [])) := st222
    have N222 := Fr.snoc X222 N220 g_b212
    have k223 : Go p.tables e below (T222.setTop (mkF m 125 #[.val (.int p0), .val (.int p1), .val (.int p2), .val (.int p3), .val (.int p4), .val (.int (7 : Int32)), .val (.int y17), .val (.int y18), .val (.int y19), .val (.ref b212), .unset, .unset] [])) (T222.setTop (mkF m 139 #[.val (.int p0), .val (.int p1), .val (.int p2), .val (.int p3), .val (.int p4), .val (.int (7 : Int32)), .val (.int y17), .val (.int y18), .val (.int y19), .val (.ref b212), .unset, .unset] [(.int (((p3.toUInt32 >>> ((8 : Int32) &&& 31).toUInt32).toInt32).toInt8.toInt32)), (.int (5 : Int32)), (.ref b212)])) := by
      intro t ht
      refine XS.iload X222.here hx rfl (hb hby at_125) rfl ?_
      show Steps p.tables e below (T222.setTop (mkF m 127 #[.val (.int p0), .val (.int p1), .val (.int p2), .val (.int p3), .val (.int p4), .val (.int (7 : Int32)), .val (.int y17), .val (.int y18), .val (.int y19), .val (.ref b212), .unset, .unset] [(.int (7 : Int32))])) _
      refine XS.iconst X222.here hx rfl (hb hby at_127) ?_
      show Steps p.tables e below (T222.setTop (mkF m 128 #[.val (.int p0), .val (.int p1), .val (.int p2), .val (.int p3), .val (.int p4), .val (.int (7 : Int32)), .val (.int y17), .val (.int y18), .val (.int y19), .val (.ref b212), .unset, .unset] [(.int (5 : Int32)), (.int (7 : Int32))])) _
      refine XS.icmpNo X222.here hx rfl (hb hby at_128) rfl (tlt (by decide : (5 : Int32) < (7 : Int32))).2.2.2 ?_
      show Steps p.tables e below (T222.setTop (mkF m 131 #[.val (.int p0), .val (.int p1), .val (.int p2), .val (.int p3), .val (.int p4), .val (.int (7 : Int32)), .val (.int y17), .val (.int y18), .val (.int y19), .val (.ref b212), .unset, .unset] [])) _
      refine XS.aload X222.here hx rfl (hb hby at_131) rfl rfl ?_
      show Steps p.tables e below (T222.setTop (mkF m 133 #[.val (.int p0), .val (.int p1), .val (.int p2), .val (.int p3), .val (.int p4), .val (.int (7 : Int32)), .val (.int y17), .val (.int y18), .val (.int y19), .val (.ref b212), .unset, .unset] [(.ref b212)])) _
      refine XS.iconst X222.here hx rfl (hb hby at_133) ?_
      show Steps p.tables e below (T222.setTop (mkF m 134 #[.val (.int p0), .val (.int p1), .val (.int p2), .val (.int p3), .val (.int p4), .val (.int (7 : Int32)), .val (.int y17), .val (.int y18), .val (.int y19), .val (.ref b212), .unset, .unset] [(.int (5 : Int32)), (.ref b212)])) _
      refine XS.iloadN X222.here hx rfl (hb hby at_134) rfl ?_
      show Steps p.tables e below (T222.setTop (mkF m 135 #[.val (.int p0), .val (.int p1), .val (.int p2), .val (.int p3), .val (.int p4), .val (.int (7 : Int32)), .val (.int y17), .val (.int y18), .val (.int y19), .val (.ref b212), .unset, .unset] [(.int p3), (.int (5 : Int32)), (.ref b212)])) _
      refine XS.bipush X222.here hx rfl (hb hby at_135) ?_
      show Steps p.tables e below (T222.setTop (mkF m 137 #[.val (.int p0), .val (.int p1), .val (.int p2), .val (.int p3), .val (.int p4), .val (.int (7 : Int32)), .val (.int y17), .val (.int y18), .val (.int y19), .val (.ref b212), .unset, .unset] [(.int (8 : Int32)), (.int p3), (.int (5 : Int32)), (.ref b212)])) _
      refine XS.iushr X222.here hx rfl (hb hby at_137) rfl ?_
      show Steps p.tables e below (T222.setTop (mkF m 138 #[.val (.int p0), .val (.int p1), .val (.int p2), .val (.int p3), .val (.int p4), .val (.int (7 : Int32)), .val (.int y17), .val (.int y18), .val (.int y19), .val (.ref b212), .unset, .unset] [(.int ((p3.toUInt32 >>> ((8 : Int32) &&& 31).toUInt32).toInt32)), (.int (5 : Int32)), (.ref b212)])) _
      refine XS.i2b X222.here hx rfl (hb hby at_138) rfl ?_
      exact ht
    obtain ⟨cl224, Ar224, q224, S224, M224, H224, G224⟩ := id V222_b212
    have hin224 : ¬ ((5 : Int32) < 0 ∨ cl224.slots.size ≤ ((5 : Int32)).toNatClampNeg) := inb_of S224 ⟨by decide, by decide⟩
    obtain ⟨T224, h224, X224, e224, W224, st224⟩ := stB X222 hx hZ e222 Ar224 (j := (5 : Int32)) hin224 (g := (mkF m 139 #[.val (.int p0), .val (.int p1), .val (.int p2), .val (.int p3), .val (.int p4), .val (.int (7 : Int32)), .val (.int y17), .val (.int y18), .val (.int y19), .val (.ref b212), .unset, .unset] [(.int (((p3.toUInt32 >>> ((8 : Int32) &&& 31).toUInt32).toInt32).toInt8.toInt32)), (.int (5 : Int32)), (.ref b212)])) rfl rfl (hb hby at_139)
    have V224_b212 : Arv Z h224 b212 kc212 .byte (7 : Int32) [(.int (nar .byte y17)), (.int (nar .byte y18)), (.int (nar .byte y19)), (.int (nar .byte (((p1.toUInt32 >>> ((8 : Int32) &&& 31).toUInt32).toInt32).toInt8.toInt32))), (.int (nar .byte (((p2.toUInt32 >>> ((8 : Int32) &&& 31).toUInt32).toInt32).toInt8.toInt32))), (.int (nar .byte (((p3.toUInt32 >>> ((8 : Int32) &&& 31).toUInt32).toInt32).toInt8.toInt32))), (.int (0 : Int32))] (.int (0 : Int32)) := Arv.set Ar224 q224 S224 M224 H224 G224 (fits_nar_byte _) W224 5 rfl (Nat.le_of_ble_eq_true rfl)
    have Kp224 : Keep h0 h224 [] := Kp222.wr W224 (Or.inr sz_b212)
    have Z224 : n0 ≤ h224.size := Nat.le_trans Z222 (Keep.of_wr W224).1
    have S_M_c_224 := S_M_c_222.wr W224
    have V_M_c_224 := V_M_c_222.other W224 ne_wM_b212
    have k224 : Go p.tables e below (T222.setTop (mkF m 139 #[.val (.int p0), .val (.int p1), .val (.int p2), .val (.int p3), .val (.int p4), .val (.int (7 : Int32)), .val (.int y17), .val (.int y18), .val (.int y19), .val (.ref b212), .unset, .unset] [(.int (((p3.toUInt32 >>> ((8 : Int32) &&& 31).toUInt32).toInt32).toInt8.toInt32)), (.int (5 : Int32)), (.ref b212)])) (T224.setTop (mkF m 140 #[.val (.int p0), .val (.int p1), .val (.int p2), .val (.int p3), .val (.int p4), .val (.int (7 : Int32)), .val (.int y17), .val (.int y18), .val (.int y19), .val (.ref b212), .unset, .unset] [])) := st224
    have N224 := Fr.snoc X224 N222 g_b212
    have k225 : Go p.tables e below (T224.setTop (mkF m 140 #[.val (.int p0), .val (.int p1), .val (.int p2), .val (.int p3), .val (.int p4), .val (.int (7 : Int32)), .val (.int y17), .val (.int y18), .val (.int y19), .val (.ref b212), .unset, .unset] [])) (T224.setTop (mkF m 157 #[.val (.int p0), .val (.int p1), .val (.int p2), .val (.int p3), .val (.int p4), .val (.int (7 : Int32)), .val (.int y17), .val (.int y18), .val (.int y19), .val (.ref b212), .unset, .unset] [(.int (((p4.toUInt32 >>> ((8 : Int32) &&& 31).toUInt32).toInt32).toInt8.toInt32)), (.int (6 : Int32)), (.ref b212)])) := by
      intro t ht
      refine XS.iload X224.here hx rfl (hb hby at_140) rfl ?_
      show Steps p.tables e below (T224.setTop (mkF m 142 #[.val (.int p0), .val (.int p1), .val (.int p2), .val (.int p3), .val (.int p4), .val (.int (7 : Int32)), .val (.int y17), .val (.int y18), .val (.int y19), .val (.ref b212), .unset, .unset] [(.int (7 : Int32))])) _
      refine XS.bipush X224.here hx rfl (hb hby at_142) ?_
      show Steps p.tables e below (T224.setTop (mkF m 144 #[.val (.int p0), .val (.int p1), .val (.int p2), .val (.int p3), .val (.int p4), .val (.int (7 : Int32)), .val (.int y17), .val (.int y18), .val (.int y19), .val (.ref b212), .unset, .unset] [(.int (6 : Int32)), (.int (7 : Int32))])) _
      refine XS.icmpNo X224.here hx rfl (hb hby at_144) rfl (tlt (by decide : (6 : Int32) < (7 : Int32))).2.2.2 ?_
      show Steps p.tables e below (T224.setTop (mkF m 147 #[.val (.int p0), .val (.int p1), .val (.int p2), .val (.int p3), .val (.int p4), .val (.int (7 : Int32)), .val (.int y17), .val (.int y18), .val (.int y19), .val (.ref b212), .unset, .unset] [])) _
      refine XS.aload X224.here hx rfl (hb hby at_147) rfl rfl ?_
      show Steps p.tables e below (T224.setTop (mkF m 149 #[.val (.int p0), .val (.int p1), .val (.int p2), .val (.int p3), .val (.int p4), .val (.int (7 : Int32)), .val (.int y17), .val (.int y18), .val (.int y19), .val (.ref b212), .unset, .unset] [(.ref b212)])) _
      refine XS.bipush X224.here hx rfl (hb hby at_149) ?_
      show Steps p.tables e below (T224.setTop (mkF m 151 #[.val (.int p0), .val (.int p1), .val (.int p2), .val (.int p3), .val (.int p4), .val (.int (7 : Int32)), .val (.int y17), .val (.int y18), .val (.int y19), .val (.ref b212), .unset, .unset] [(.int (6 : Int32)), (.ref b212)])) _
      refine XS.iload X224.here hx rfl (hb hby at_151) rfl ?_
      show Steps p.tables e below (T224.setTop (mkF m 153 #[.val (.int p0), .val (.int p1), .val (.int p2), .val (.int p3), .val (.int p4), .val (.int (7 : Int32)), .val (.int y17), .val (.int y18), .val (.int y19), .val (.ref b212), .unset, .unset] [(.int p4), (.int (6 : Int32)), (.ref b212)])) _
      refine XS.bipush X224.here hx rfl (hb hby at_153) ?_
      show Steps p.tables e below (T224.setTop (mkF m 155 #[.val (.int p0), .val (.int p1), .val (.int p2), .val (.int p3), .val (.int p4), .val (.int (7 : Int32)), .val (.int y17), .val (.int y18), .val (.int y19), .val (.ref b212), .unset, .unset] [(.int (8 : Int32)), (.int p4), (.int (6 : Int32)), (.ref b212)])) _
      refine XS.iushr X224.here hx rfl (hb hby at_155) rfl ?_
      show Steps p.tables e below (T224.setTop (mkF m 156 #[.val (.int p0), .val (.int p1), .val (.int p2), .val (.int p3), .val (.int p4), .val (.int (7 : Int32)), .val (.int y17), .val (.int y18), .val (.int y19), .val (.ref b212), .unset, .unset] [(.int ((p4.toUInt32 >>> ((8 : Int32) &&& 31).toUInt32).toInt32)), (.int (6 : Int32)), (.ref b212)])) _
      refine XS.i2b X224.here hx rfl (hb hby at_156) rfl ?_
      exact ht
    obtain ⟨cl226, Ar226, q226, S226, M226, H226, G226⟩ := id V224_b212
    have hin226 : ¬ ((6 : Int32) < 0 ∨ cl226.slots.size ≤ ((6 : Int32)).toNatClampNeg) := inb_of S226 ⟨by decide, by decide⟩
    obtain ⟨T226, h226, X226, e226, W226, st226⟩ := stB X224 hx hZ e224 Ar226 (j := (6 : Int32)) hin226 (g := (mkF m 157 #[.val (.int p0), .val (.int p1), .val (.int p2), .val (.int p3), .val (.int p4), .val (.int (7 : Int32)), .val (.int y17), .val (.int y18), .val (.int y19), .val (.ref b212), .unset, .unset] [(.int (((p4.toUInt32 >>> ((8 : Int32) &&& 31).toUInt32).toInt32).toInt8.toInt32)), (.int (6 : Int32)), (.ref b212)])) rfl rfl (hb hby at_157)
    have V226_b212 : Arv Z h226 b212 kc212 .byte (7 : Int32) [(.int (nar .byte y17)), (.int (nar .byte y18)), (.int (nar .byte y19)), (.int (nar .byte (((p1.toUInt32 >>> ((8 : Int32) &&& 31).toUInt32).toInt32).toInt8.toInt32))), (.int (nar .byte (((p2.toUInt32 >>> ((8 : Int32) &&& 31).toUInt32).toInt32).toInt8.toInt32))), (.int (nar .byte (((p3.toUInt32 >>> ((8 : Int32) &&& 31).toUInt32).toInt32).toInt8.toInt32))), (.int (nar .byte (((p4.toUInt32 >>> ((8 : Int32) &&& 31).toUInt32).toInt32).toInt8.toInt32)))] (.int (0 : Int32)) := Arv.set Ar226 q226 S226 M226 H226 G226 (fits_nar_byte _) W226 6 rfl (Nat.le_of_ble_eq_true rfl)
    have Kp226 : Keep h0 h226 [] := Kp224.wr W226 (Or.inr sz_b212)
    have Z226 : n0 ≤ h226.size := Nat.le_trans Z224 (Keep.of_wr W226).1
    have S_M_c_226 := S_M_c_224.wr W226
    have V_M_c_226 := V_M_c_224.other W226 ne_wM_b212
    have k226 : Go p.tables e below (T224.setTop (mkF m 157 #[.val (.int p0), .val (.int p1), .val (.int p2), .val (.int p3), .val (.int p4), .val (.int (7 : Int32)), .val (.int y17), .val (.int y18), .val (.int y19), .val (.ref b212), .unset, .unset] [(.int (((p4.toUInt32 >>> ((8 : Int32) &&& 31).toUInt32).toInt32).toInt8.toInt32)), (.int (6 : Int32)), (.ref b212)])) (T226.setTop (mkF m 158 #[.val (.int p0), .val (.int p1), .val (.int p2), .val (.int p3), .val (.int p4), .val (.int (7 : Int32)), .val (.int y17), .val (.int y18), .val (.int y19), .val (.ref b212), .unset, .unset] [])) := st226
    have N226 := Fr.snoc X226 N224 g_b212
    have k227 : Go p.tables e below (T226.setTop (mkF m 158 #[.val (.int p0), .val (.int p1), .val (.int p2), .val (.int p3), .val (.int p4), .val (.int (7 : Int32)), .val (.int y17), .val (.int y18), .val (.int y19), .val (.ref b212), .unset, .unset] [])) (T226.setTop (mkF m 173 #[.val (.int p0), .val (.int p1), .val (.int p2), .val (.int p3), .val (.int p4), .val (.int (7 : Int32)), .val (.int y17), .val (.int y18), .val (.int y19), .val (.ref b212), .unset, .unset] [(.int (239 : Int32)), (.int (y17 &&& (255 : Int32)))])) := by
      intro t ht
      refine XS.iload X226.here hx rfl (hb hby at_158) rfl ?_
      show Steps p.tables e below (T226.setTop (mkF m 160 #[.val (.int p0), .val (.int p1), .val (.int p2), .val (.int p3), .val (.int p4), .val (.int (7 : Int32)), .val (.int y17), .val (.int y18), .val (.int y19), .val (.ref b212), .unset, .unset] [(.int (7 : Int32))])) _
      refine XS.iconst X226.here hx rfl (hb hby at_160) ?_
      show Steps p.tables e below (T226.setTop (mkF m 161 #[.val (.int p0), .val (.int p1), .val (.int p2), .val (.int p3), .val (.int p4), .val (.int (7 : Int32)), .val (.int y17), .val (.int y18), .val (.int y19), .val (.ref b212), .unset, .unset] [(.int (3 : Int32)), (.int (7 : Int32))])) _
      refine XS.icmpNo X226.here hx rfl (hb hby at_161) rfl (flt (by decide : ¬ ((7 : Int32) < (3 : Int32)))).1 ?_
      show Steps p.tables e below (T226.setTop (mkF m 164 #[.val (.int p0), .val (.int p1), .val (.int p2), .val (.int p3), .val (.int p4), .val (.int (7 : Int32)), .val (.int y17), .val (.int y18), .val (.int y19), .val (.ref b212), .unset, .unset] [])) _
      refine XS.iload X226.here hx rfl (hb hby at_164) rfl ?_
      show Steps p.tables e below (T226.setTop (mkF m 166 #[.val (.int p0), .val (.int p1), .val (.int p2), .val (.int p3), .val (.int p4), .val (.int (7 : Int32)), .val (.int y17), .val (.int y18), .val (.int y19), .val (.ref b212), .unset, .unset] [(.int y17)])) _
      refine XS.sipush X226.here hx rfl (hb hby at_166) ?_
      show Steps p.tables e below (T226.setTop (mkF m 169 #[.val (.int p0), .val (.int p1), .val (.int p2), .val (.int p3), .val (.int p4), .val (.int (7 : Int32)), .val (.int y17), .val (.int y18), .val (.int y19), .val (.ref b212), .unset, .unset] [(.int (255 : Int32)), (.int y17)])) _
      refine XS.iand X226.here hx rfl (hb hby at_169) rfl ?_
      show Steps p.tables e below (T226.setTop (mkF m 170 #[.val (.int p0), .val (.int p1), .val (.int p2), .val (.int p3), .val (.int p4), .val (.int (7 : Int32)), .val (.int y17), .val (.int y18), .val (.int y19), .val (.ref b212), .unset, .unset] [(.int (y17 &&& (255 : Int32)))])) _
      refine XS.sipush X226.here hx rfl (hb hby at_170) ?_
      exact ht
    have k228 : Go p.tables e below (T226.setTop (mkF m 173 #[.val (.int p0), .val (.int p1), .val (.int p2), .val (.int p3), .val (.int p4), .val (.int (7 : Int32)), .val (.int y17), .val (.int y18), .val (.int y19), .val (.ref b212), .unset, .unset] [(.int (239 : Int32)), (.int (y17 &&& (255 : Int32)))])) (T226.setTop (mkF m 205 #[.val (.int p0), .val (.int p1), .val (.int p2), .val (.int p3), .val (.int p4), .val (.int (7 : Int32)), .val (.int y17), .val (.int y18), .val (.int y19), .val (.ref b212), .unset, .unset] [(.int (if (y17 &&& (255 : Int32)) = (239 : Int32) then (if (y18 &&& (255 : Int32)) = (187 : Int32) then (if (y19 &&& (255 : Int32)) = (191 : Int32) then (1 : Int32) else (0 : Int32)) else (0 : Int32)) else (0 : Int32)))])) := by
      by_cases hc229 : (y17 &&& (255 : Int32)) = (239 : Int32)
      · have k230 : Go p.tables e below (T226.setTop (mkF m 173 #[.val (.int p0), .val (.int p1), .val (.int p2), .val (.int p3), .val (.int p4), .val (.int (7 : Int32)), .val (.int y17), .val (.int y18), .val (.int y19), .val (.ref b212), .unset, .unset] [(.int (239 : Int32)), (.int (y17 &&& (255 : Int32)))])) (T226.setTop (mkF m 185 #[.val (.int p0), .val (.int p1), .val (.int p2), .val (.int p3), .val (.int p4), .val (.int (7 : Int32)), .val (.int y17), .val (.int y18), .val (.int y19), .val (.ref b212), .unset, .unset] [(.int (187 : Int32)), (.int (y18 &&& (255 : Int32)))])) := by
          intro t ht
          refine XS.icmpNo X226.here hx rfl (hb hby at_173) rfl (teq hc229).2 ?_
          show Steps p.tables e below (T226.setTop (mkF m 176 #[.val (.int p0), .val (.int p1), .val (.int p2), .val (.int p3), .val (.int p4), .val (.int (7 : Int32)), .val (.int y17), .val (.int y18), .val (.int y19), .val (.ref b212), .unset, .unset] [])) _
          refine XS.iload X226.here hx rfl (hb hby at_176) rfl ?_
          show Steps p.tables e below (T226.setTop (mkF m 178 #[.val (.int p0), .val (.int p1), .val (.int p2), .val (.int p3), .val (.int p4), .val (.int (7 : Int32)), .val (.int y17), .val (.int y18), .val (.int y19), .val (.ref b212), .unset, .unset] [(.int y18)])) _
          refine XS.sipush X226.here hx rfl (hb hby at_178) ?_
          show Steps p.tables e below (T226.setTop (mkF m 181 #[.val (.int p0), .val (.int p1), .val (.int p2), .val (.int p3), .val (.int p4), .val (.int (7 : Int32)), .val (.int y17), .val (.int y18), .val (.int y19), .val (.ref b212), .unset, .unset] [(.int (255 : Int32)), (.int y18)])) _
          refine XS.iand X226.here hx rfl (hb hby at_181) rfl ?_
          show Steps p.tables e below (T226.setTop (mkF m 182 #[.val (.int p0), .val (.int p1), .val (.int p2), .val (.int p3), .val (.int p4), .val (.int (7 : Int32)), .val (.int y17), .val (.int y18), .val (.int y19), .val (.ref b212), .unset, .unset] [(.int (y18 &&& (255 : Int32)))])) _
          refine XS.sipush X226.here hx rfl (hb hby at_182) ?_
          exact ht
        by_cases hc231 : (y18 &&& (255 : Int32)) = (187 : Int32)
        · have k232 : Go p.tables e below (T226.setTop (mkF m 185 #[.val (.int p0), .val (.int p1), .val (.int p2), .val (.int p3), .val (.int p4), .val (.int (7 : Int32)), .val (.int y17), .val (.int y18), .val (.int y19), .val (.ref b212), .unset, .unset] [(.int (187 : Int32)), (.int (y18 &&& (255 : Int32)))])) (T226.setTop (mkF m 197 #[.val (.int p0), .val (.int p1), .val (.int p2), .val (.int p3), .val (.int p4), .val (.int (7 : Int32)), .val (.int y17), .val (.int y18), .val (.int y19), .val (.ref b212), .unset, .unset] [(.int (191 : Int32)), (.int (y19 &&& (255 : Int32)))])) := by
            intro t ht
            refine XS.icmpNo X226.here hx rfl (hb hby at_185) rfl (teq hc231).2 ?_
            show Steps p.tables e below (T226.setTop (mkF m 188 #[.val (.int p0), .val (.int p1), .val (.int p2), .val (.int p3), .val (.int p4), .val (.int (7 : Int32)), .val (.int y17), .val (.int y18), .val (.int y19), .val (.ref b212), .unset, .unset] [])) _
            refine XS.iload X226.here hx rfl (hb hby at_188) rfl ?_
            show Steps p.tables e below (T226.setTop (mkF m 190 #[.val (.int p0), .val (.int p1), .val (.int p2), .val (.int p3), .val (.int p4), .val (.int (7 : Int32)), .val (.int y17), .val (.int y18), .val (.int y19), .val (.ref b212), .unset, .unset] [(.int y19)])) _
            refine XS.sipush X226.here hx rfl (hb hby at_190) ?_
            show Steps p.tables e below (T226.setTop (mkF m 193 #[.val (.int p0), .val (.int p1), .val (.int p2), .val (.int p3), .val (.int p4), .val (.int (7 : Int32)), .val (.int y17), .val (.int y18), .val (.int y19), .val (.ref b212), .unset, .unset] [(.int (255 : Int32)), (.int y19)])) _
            refine XS.iand X226.here hx rfl (hb hby at_193) rfl ?_
            show Steps p.tables e below (T226.setTop (mkF m 194 #[.val (.int p0), .val (.int p1), .val (.int p2), .val (.int p3), .val (.int p4), .val (.int (7 : Int32)), .val (.int y17), .val (.int y18), .val (.int y19), .val (.ref b212), .unset, .unset] [(.int (y19 &&& (255 : Int32)))])) _
            refine XS.sipush X226.here hx rfl (hb hby at_194) ?_
            exact ht
          by_cases hc233 : (y19 &&& (255 : Int32)) = (191 : Int32)
          · have k234 : Go p.tables e below (T226.setTop (mkF m 197 #[.val (.int p0), .val (.int p1), .val (.int p2), .val (.int p3), .val (.int p4), .val (.int (7 : Int32)), .val (.int y17), .val (.int y18), .val (.int y19), .val (.ref b212), .unset, .unset] [(.int (191 : Int32)), (.int (y19 &&& (255 : Int32)))])) (T226.setTop (mkF m 205 #[.val (.int p0), .val (.int p1), .val (.int p2), .val (.int p3), .val (.int p4), .val (.int (7 : Int32)), .val (.int y17), .val (.int y18), .val (.int y19), .val (.ref b212), .unset, .unset] [(.int (1 : Int32))])) := by
              intro t ht
              refine XS.icmpNo X226.here hx rfl (hb hby at_197) rfl (teq hc233).2 ?_
              show Steps p.tables e below (T226.setTop (mkF m 200 #[.val (.int p0), .val (.int p1), .val (.int p2), .val (.int p3), .val (.int p4), .val (.int (7 : Int32)), .val (.int y17), .val (.int y18), .val (.int y19), .val (.ref b212), .unset, .unset] [])) _
              refine XS.iconst X226.here hx rfl (hb hby at_200) ?_
              show Steps p.tables e below (T226.setTop (mkF m 201 #[.val (.int p0), .val (.int p1), .val (.int p2), .val (.int p3), .val (.int p4), .val (.int (7 : Int32)), .val (.int y17), .val (.int y18), .val (.int y19), .val (.ref b212), .unset, .unset] [(.int (1 : Int32))])) _
              refine XS.goto X226.here hx rfl (pc0 := 201) (pc' := 205) rfl (hb hby at_201) (by decide) (by decide) ?_
              exact ht
            have kk := (goT k230 (goT k232 k234))
            simpa only [if_pos hc229, if_pos hc231, if_pos hc233] using kk
          · have k235 : Go p.tables e below (T226.setTop (mkF m 197 #[.val (.int p0), .val (.int p1), .val (.int p2), .val (.int p3), .val (.int p4), .val (.int (7 : Int32)), .val (.int y17), .val (.int y18), .val (.int y19), .val (.ref b212), .unset, .unset] [(.int (191 : Int32)), (.int (y19 &&& (255 : Int32)))])) (T226.setTop (mkF m 205 #[.val (.int p0), .val (.int p1), .val (.int p2), .val (.int p3), .val (.int p4), .val (.int (7 : Int32)), .val (.int y17), .val (.int y18), .val (.int y19), .val (.ref b212), .unset, .unset] [(.int (0 : Int32))])) := by
              intro t ht
              refine XS.icmpYes X226.here hx rfl (pc0 := 197) (pc' := 204) rfl (hb hby at_197) rfl (feq hc233).2 (by decide) (by decide) ?_
              show Steps p.tables e below (T226.setTop (mkF m 204 #[.val (.int p0), .val (.int p1), .val (.int p2), .val (.int p3), .val (.int p4), .val (.int (7 : Int32)), .val (.int y17), .val (.int y18), .val (.int y19), .val (.ref b212), .unset, .unset] [])) _
              refine XS.iconst X226.here hx rfl (hb hby at_204) ?_
              exact ht
            have kk := (goT k230 (goT k232 k235))
            simpa only [if_pos hc229, if_pos hc231, if_neg hc233] using kk
        · have k236 : Go p.tables e below (T226.setTop (mkF m 185 #[.val (.int p0), .val (.int p1), .val (.int p2), .val (.int p3), .val (.int p4), .val (.int (7 : Int32)), .val (.int y17), .val (.int y18), .val (.int y19), .val (.ref b212), .unset, .unset] [(.int (187 : Int32)), (.int (y18 &&& (255 : Int32)))])) (T226.setTop (mkF m 205 #[.val (.int p0), .val (.int p1), .val (.int p2), .val (.int p3), .val (.int p4), .val (.int (7 : Int32)), .val (.int y17), .val (.int y18), .val (.int y19), .val (.ref b212), .unset, .unset] [(.int (0 : Int32))])) := by
            intro t ht
            refine XS.icmpYes X226.here hx rfl (pc0 := 185) (pc' := 204) rfl (hb hby at_185) rfl (feq hc231).2 (by decide) (by decide) ?_
            show Steps p.tables e below (T226.setTop (mkF m 204 #[.val (.int p0), .val (.int p1), .val (.int p2), .val (.int p3), .val (.int p4), .val (.int (7 : Int32)), .val (.int y17), .val (.int y18), .val (.int y19), .val (.ref b212), .unset, .unset] [])) _
            refine XS.iconst X226.here hx rfl (hb hby at_204) ?_
            exact ht
          have kk := (goT k230 k236)
          simpa only [if_pos hc229, if_neg hc231] using kk
      · have k237 : Go p.tables e below (T226.setTop (mkF m 173 #[.val (.int p0), .val (.int p1), .val (.int p2), .val (.int p3), .val (.int p4), .val (.int (7 : Int32)), .val (.int y17), .val (.int y18), .val (.int y19), .val (.ref b212), .unset, .unset] [(.int (239 : Int32)), (.int (y17 &&& (255 : Int32)))])) (T226.setTop (mkF m 205 #[.val (.int p0), .val (.int p1), .val (.int p2), .val (.int p3), .val (.int p4), .val (.int (7 : Int32)), .val (.int y17), .val (.int y18), .val (.int y19), .val (.ref b212), .unset, .unset] [(.int (0 : Int32))])) := by
          intro t ht
          refine XS.icmpYes X226.here hx rfl (pc0 := 173) (pc' := 204) rfl (hb hby at_173) rfl (feq hc229).2 (by decide) (by decide) ?_
          show Steps p.tables e below (T226.setTop (mkF m 204 #[.val (.int p0), .val (.int p1), .val (.int p2), .val (.int p3), .val (.int p4), .val (.int (7 : Int32)), .val (.int y17), .val (.int y18), .val (.int y19), .val (.ref b212), .unset, .unset] [])) _
          refine XS.iconst X226.here hx rfl (hb hby at_204) ?_
          exact ht
        have kk := k237
        simpa only [if_neg hc229] using kk
    have k238 : Go p.tables e below (T226.setTop (mkF m 205 #[.val (.int p0), .val (.int p1), .val (.int p2), .val (.int p3), .val (.int p4), .val (.int (7 : Int32)), .val (.int y17), .val (.int y18), .val (.int y19), .val (.ref b212), .unset, .unset] [(.int (if (y17 &&& (255 : Int32)) = (239 : Int32) then (if (y18 &&& (255 : Int32)) = (187 : Int32) then (if (y19 &&& (255 : Int32)) = (191 : Int32) then (1 : Int32) else (0 : Int32)) else (0 : Int32)) else (0 : Int32)))])) (T226.setTop (mkF m 209 #[.val (.int p0), .val (.int p1), .val (.int p2), .val (.int p3), .val (.int p4), .val (.int (7 : Int32)), .val (.int y17), .val (.int y18), .val (.int y19), .val (.ref b212), .val (.int (if (y17 &&& (255 : Int32)) = (239 : Int32) then (if (y18 &&& (255 : Int32)) = (187 : Int32) then (if (y19 &&& (255 : Int32)) = (191 : Int32) then (1 : Int32) else (0 : Int32)) else (0 : Int32)) else (0 : Int32))), .unset] [(.int (if (y17 &&& (255 : Int32)) = (239 : Int32) then (if (y18 &&& (255 : Int32)) = (187 : Int32) then (if (y19 &&& (255 : Int32)) = (191 : Int32) then (1 : Int32) else (0 : Int32)) else (0 : Int32)) else (0 : Int32)))])) := by
      intro t ht
      refine XS.istore X226.here hx rfl (hb hby at_205) rfl (l' := #[.val (.int p0), .val (.int p1), .val (.int p2), .val (.int p3), .val (.int p4), .val (.int (7 : Int32)), .val (.int y17), .val (.int y18), .val (.int y19), .val (.ref b212), .val (.int (if (y17 &&& (255 : Int32)) = (239 : Int32) then (if (y18 &&& (255 : Int32)) = (187 : Int32) then (if (y19 &&& (255 : Int32)) = (191 : Int32) then (1 : Int32) else (0 : Int32)) else (0 : Int32)) else (0 : Int32))), .unset]) rfl ?_
      show Steps p.tables e below (T226.setTop (mkF m 207 #[.val (.int p0), .val (.int p1), .val (.int p2), .val (.int p3), .val (.int p4), .val (.int (7 : Int32)), .val (.int y17), .val (.int y18), .val (.int y19), .val (.ref b212), .val (.int (if (y17 &&& (255 : Int32)) = (239 : Int32) then (if (y18 &&& (255 : Int32)) = (187 : Int32) then (if (y19 &&& (255 : Int32)) = (191 : Int32) then (1 : Int32) else (0 : Int32)) else (0 : Int32)) else (0 : Int32))), .unset] [])) _
      refine XS.iload X226.here hx rfl (hb hby at_207) rfl ?_
      exact ht
    have k239 : Go p.tables e below (T226.setTop (mkF m 209 #[.val (.int p0), .val (.int p1), .val (.int p2), .val (.int p3), .val (.int p4), .val (.int (7 : Int32)), .val (.int y17), .val (.int y18), .val (.int y19), .val (.ref b212), .val (.int (if (y17 &&& (255 : Int32)) = (239 : Int32) then (if (y18 &&& (255 : Int32)) = (187 : Int32) then (if (y19 &&& (255 : Int32)) = (191 : Int32) then (1 : Int32) else (0 : Int32)) else (0 : Int32)) else (0 : Int32))), .unset] [(.int (if (y17 &&& (255 : Int32)) = (239 : Int32) then (if (y18 &&& (255 : Int32)) = (187 : Int32) then (if (y19 &&& (255 : Int32)) = (191 : Int32) then (1 : Int32) else (0 : Int32)) else (0 : Int32)) else (0 : Int32)))])) (T226.setTop (mkF m 217 #[.val (.int p0), .val (.int p1), .val (.int p2), .val (.int p3), .val (.int p4), .val (.int (7 : Int32)), .val (.int y17), .val (.int y18), .val (.int y19), .val (.ref b212), .val (.int (if (y17 &&& (255 : Int32)) = (239 : Int32) then (if (y18 &&& (255 : Int32)) = (187 : Int32) then (if (y19 &&& (255 : Int32)) = (191 : Int32) then (1 : Int32) else (0 : Int32)) else (0 : Int32)) else (0 : Int32))), .unset] [(.int (if (y17 &&& (255 : Int32)) = (239 : Int32) then (if (y18 &&& (255 : Int32)) = (187 : Int32) then (if (y19 &&& (255 : Int32)) = (191 : Int32) then (3 : Int32) else (0 : Int32)) else (0 : Int32)) else (0 : Int32)))])) := by
      by_cases hc240 : (y17 &&& (255 : Int32)) = (239 : Int32)
      · have k241 : Go p.tables e below (T226.setTop (mkF m 209 #[.val (.int p0), .val (.int p1), .val (.int p2), .val (.int p3), .val (.int p4), .val (.int (7 : Int32)), .val (.int y17), .val (.int y18), .val (.int y19), .val (.ref b212), .val (.int (if (y17 &&& (255 : Int32)) = (239 : Int32) then (if (y18 &&& (255 : Int32)) = (187 : Int32) then (if (y19 &&& (255 : Int32)) = (191 : Int32) then (1 : Int32) else (0 : Int32)) else (0 : Int32)) else (0 : Int32))), .unset] [(.int (if (y17 &&& (255 : Int32)) = (239 : Int32) then (if (y18 &&& (255 : Int32)) = (187 : Int32) then (if (y19 &&& (255 : Int32)) = (191 : Int32) then (1 : Int32) else (0 : Int32)) else (0 : Int32)) else (0 : Int32)))])) (T226.setTop (mkF m 209 #[.val (.int p0), .val (.int p1), .val (.int p2), .val (.int p3), .val (.int p4), .val (.int (7 : Int32)), .val (.int y17), .val (.int y18), .val (.int y19), .val (.ref b212), .val (.int (if (y18 &&& (255 : Int32)) = (187 : Int32) then (if (y19 &&& (255 : Int32)) = (191 : Int32) then (1 : Int32) else (0 : Int32)) else (0 : Int32))), .unset] [(.int (if (y18 &&& (255 : Int32)) = (187 : Int32) then (if (y19 &&& (255 : Int32)) = (191 : Int32) then (1 : Int32) else (0 : Int32)) else (0 : Int32)))])) := by
          simp only [if_pos hc240]; exact fun _ h => h
        by_cases hc242 : (y18 &&& (255 : Int32)) = (187 : Int32)
        · have k243 : Go p.tables e below (T226.setTop (mkF m 209 #[.val (.int p0), .val (.int p1), .val (.int p2), .val (.int p3), .val (.int p4), .val (.int (7 : Int32)), .val (.int y17), .val (.int y18), .val (.int y19), .val (.ref b212), .val (.int (if (y18 &&& (255 : Int32)) = (187 : Int32) then (if (y19 &&& (255 : Int32)) = (191 : Int32) then (1 : Int32) else (0 : Int32)) else (0 : Int32))), .unset] [(.int (if (y18 &&& (255 : Int32)) = (187 : Int32) then (if (y19 &&& (255 : Int32)) = (191 : Int32) then (1 : Int32) else (0 : Int32)) else (0 : Int32)))])) (T226.setTop (mkF m 209 #[.val (.int p0), .val (.int p1), .val (.int p2), .val (.int p3), .val (.int p4), .val (.int (7 : Int32)), .val (.int y17), .val (.int y18), .val (.int y19), .val (.ref b212), .val (.int (if (y19 &&& (255 : Int32)) = (191 : Int32) then (1 : Int32) else (0 : Int32))), .unset] [(.int (if (y19 &&& (255 : Int32)) = (191 : Int32) then (1 : Int32) else (0 : Int32)))])) := by
            simp only [if_pos hc242]; exact fun _ h => h
          by_cases hc244 : (y19 &&& (255 : Int32)) = (191 : Int32)
          · have k245 : Go p.tables e below (T226.setTop (mkF m 209 #[.val (.int p0), .val (.int p1), .val (.int p2), .val (.int p3), .val (.int p4), .val (.int (7 : Int32)), .val (.int y17), .val (.int y18), .val (.int y19), .val (.ref b212), .val (.int (if (y19 &&& (255 : Int32)) = (191 : Int32) then (1 : Int32) else (0 : Int32))), .unset] [(.int (if (y19 &&& (255 : Int32)) = (191 : Int32) then (1 : Int32) else (0 : Int32)))])) (T226.setTop (mkF m 209 #[.val (.int p0), .val (.int p1), .val (.int p2), .val (.int p3), .val (.int p4), .val (.int (7 : Int32)), .val (.int y17), .val (.int y18), .val (.int y19), .val (.ref b212), .val (.int (1 : Int32)), .unset] [(.int (1 : Int32))])) := by
              simp only [if_pos hc244]; exact fun _ h => h
            have k246 : Go p.tables e below (T226.setTop (mkF m 209 #[.val (.int p0), .val (.int p1), .val (.int p2), .val (.int p3), .val (.int p4), .val (.int (7 : Int32)), .val (.int y17), .val (.int y18), .val (.int y19), .val (.ref b212), .val (.int (1 : Int32)), .unset] [(.int (1 : Int32))])) (T226.setTop (mkF m 217 #[.val (.int p0), .val (.int p1), .val (.int p2), .val (.int p3), .val (.int p4), .val (.int (7 : Int32)), .val (.int y17), .val (.int y18), .val (.int y19), .val (.ref b212), .val (.int (1 : Int32)), .unset] [(.int (3 : Int32))])) := by
              intro t ht
              refine XS.ifNo X226.here hx rfl (hb hby at_209) rfl ((if0 _ _).trans (feq (by decide : ¬ ((1 : Int32) = (0 : Int32)))).1) ?_
              show Steps p.tables e below (T226.setTop (mkF m 212 #[.val (.int p0), .val (.int p1), .val (.int p2), .val (.int p3), .val (.int p4), .val (.int (7 : Int32)), .val (.int y17), .val (.int y18), .val (.int y19), .val (.ref b212), .val (.int (1 : Int32)), .unset] [])) _
              refine XS.iconst X226.here hx rfl (hb hby at_212) ?_
              show Steps p.tables e below (T226.setTop (mkF m 213 #[.val (.int p0), .val (.int p1), .val (.int p2), .val (.int p3), .val (.int p4), .val (.int (7 : Int32)), .val (.int y17), .val (.int y18), .val (.int y19), .val (.ref b212), .val (.int (1 : Int32)), .unset] [(.int (3 : Int32))])) _
              refine XS.goto X226.here hx rfl (pc0 := 213) (pc' := 217) rfl (hb hby at_213) (by decide) (by decide) ?_
              exact ht
            have kk := (goT k241 (goT k243 (goT k245 k246)))
            simpa only [if_pos hc240, if_pos hc242, if_pos hc244] using kk
          · have k247 : Go p.tables e below (T226.setTop (mkF m 209 #[.val (.int p0), .val (.int p1), .val (.int p2), .val (.int p3), .val (.int p4), .val (.int (7 : Int32)), .val (.int y17), .val (.int y18), .val (.int y19), .val (.ref b212), .val (.int (if (y19 &&& (255 : Int32)) = (191 : Int32) then (1 : Int32) else (0 : Int32))), .unset] [(.int (if (y19 &&& (255 : Int32)) = (191 : Int32) then (1 : Int32) else (0 : Int32)))])) (T226.setTop (mkF m 209 #[.val (.int p0), .val (.int p1), .val (.int p2), .val (.int p3), .val (.int p4), .val (.int (7 : Int32)), .val (.int y17), .val (.int y18), .val (.int y19), .val (.ref b212), .val (.int (0 : Int32)), .unset] [(.int (0 : Int32))])) := by
              simp only [if_neg hc244]; exact fun _ h => h
            have k248 : Go p.tables e below (T226.setTop (mkF m 209 #[.val (.int p0), .val (.int p1), .val (.int p2), .val (.int p3), .val (.int p4), .val (.int (7 : Int32)), .val (.int y17), .val (.int y18), .val (.int y19), .val (.ref b212), .val (.int (0 : Int32)), .unset] [(.int (0 : Int32))])) (T226.setTop (mkF m 217 #[.val (.int p0), .val (.int p1), .val (.int p2), .val (.int p3), .val (.int p4), .val (.int (7 : Int32)), .val (.int y17), .val (.int y18), .val (.int y19), .val (.ref b212), .val (.int (0 : Int32)), .unset] [(.int (0 : Int32))])) := by
              intro t ht
              refine XS.ifYes X226.here hx rfl (pc0 := 209) (pc' := 216) rfl (hb hby at_209) rfl ((if0 _ _).trans (teq (by decide : (0 : Int32) = (0 : Int32))).1) (by decide) (by decide) ?_
              show Steps p.tables e below (T226.setTop (mkF m 216 #[.val (.int p0), .val (.int p1), .val (.int p2), .val (.int p3), .val (.int p4), .val (.int (7 : Int32)), .val (.int y17), .val (.int y18), .val (.int y19), .val (.ref b212), .val (.int (0 : Int32)), .unset] [])) _
              refine XS.iconst X226.here hx rfl (hb hby at_216) ?_
              exact ht
            have kk := (goT k241 (goT k243 (goT k247 k248)))
            simpa only [if_pos hc240, if_pos hc242, if_neg hc244] using kk
        · have k249 : Go p.tables e below (T226.setTop (mkF m 209 #[.val (.int p0), .val (.int p1), .val (.int p2), .val (.int p3), .val (.int p4), .val (.int (7 : Int32)), .val (.int y17), .val (.int y18), .val (.int y19), .val (.ref b212), .val (.int (if (y18 &&& (255 : Int32)) = (187 : Int32) then (if (y19 &&& (255 : Int32)) = (191 : Int32) then (1 : Int32) else (0 : Int32)) else (0 : Int32))), .unset] [(.int (if (y18 &&& (255 : Int32)) = (187 : Int32) then (if (y19 &&& (255 : Int32)) = (191 : Int32) then (1 : Int32) else (0 : Int32)) else (0 : Int32)))])) (T226.setTop (mkF m 209 #[.val (.int p0), .val (.int p1), .val (.int p2), .val (.int p3), .val (.int p4), .val (.int (7 : Int32)), .val (.int y17), .val (.int y18), .val (.int y19), .val (.ref b212), .val (.int (0 : Int32)), .unset] [(.int (0 : Int32))])) := by
            simp only [if_neg hc242]; exact fun _ h => h
          have k250 : Go p.tables e below (T226.setTop (mkF m 209 #[.val (.int p0), .val (.int p1), .val (.int p2), .val (.int p3), .val (.int p4), .val (.int (7 : Int32)), .val (.int y17), .val (.int y18), .val (.int y19), .val (.ref b212), .val (.int (0 : Int32)), .unset] [(.int (0 : Int32))])) (T226.setTop (mkF m 217 #[.val (.int p0), .val (.int p1), .val (.int p2), .val (.int p3), .val (.int p4), .val (.int (7 : Int32)), .val (.int y17), .val (.int y18), .val (.int y19), .val (.ref b212), .val (.int (0 : Int32)), .unset] [(.int (0 : Int32))])) := by
            intro t ht
            refine XS.ifYes X226.here hx rfl (pc0 := 209) (pc' := 216) rfl (hb hby at_209) rfl ((if0 _ _).trans (teq (by decide : (0 : Int32) = (0 : Int32))).1) (by decide) (by decide) ?_
            show Steps p.tables e below (T226.setTop (mkF m 216 #[.val (.int p0), .val (.int p1), .val (.int p2), .val (.int p3), .val (.int p4), .val (.int (7 : Int32)), .val (.int y17), .val (.int y18), .val (.int y19), .val (.ref b212), .val (.int (0 : Int32)), .unset] [])) _
            refine XS.iconst X226.here hx rfl (hb hby at_216) ?_
            exact ht
          have kk := (goT k241 (goT k249 k250))
          simpa only [if_pos hc240, if_neg hc242] using kk
      · have k251 : Go p.tables e below (T226.setTop (mkF m 209 #[.val (.int p0), .val (.int p1), .val (.int p2), .val (.int p3), .val (.int p4), .val (.int (7 : Int32)), .val (.int y17), .val (.int y18), .val (.int y19), .val (.ref b212), .val (.int (if (y17 &&& (255 : Int32)) = (239 : Int32) then (if (y18 &&& (255 : Int32)) = (187 : Int32) then (if (y19 &&& (255 : Int32)) = (191 : Int32) then (1 : Int32) else (0 : Int32)) else (0 : Int32)) else (0 : Int32))), .unset] [(.int (if (y17 &&& (255 : Int32)) = (239 : Int32) then (if (y18 &&& (255 : Int32)) = (187 : Int32) then (if (y19 &&& (255 : Int32)) = (191 : Int32) then (1 : Int32) else (0 : Int32)) else (0 : Int32)) else (0 : Int32)))])) (T226.setTop (mkF m 209 #[.val (.int p0), .val (.int p1), .val (.int p2), .val (.int p3), .val (.int p4), .val (.int (7 : Int32)), .val (.int y17), .val (.int y18), .val (.int y19), .val (.ref b212), .val (.int (0 : Int32)), .unset] [(.int (0 : Int32))])) := by
          simp only [if_neg hc240]; exact fun _ h => h
        have k252 : Go p.tables e below (T226.setTop (mkF m 209 #[.val (.int p0), .val (.int p1), .val (.int p2), .val (.int p3), .val (.int p4), .val (.int (7 : Int32)), .val (.int y17), .val (.int y18), .val (.int y19), .val (.ref b212), .val (.int (0 : Int32)), .unset] [(.int (0 : Int32))])) (T226.setTop (mkF m 217 #[.val (.int p0), .val (.int p1), .val (.int p2), .val (.int p3), .val (.int p4), .val (.int (7 : Int32)), .val (.int y17), .val (.int y18), .val (.int y19), .val (.ref b212), .val (.int (0 : Int32)), .unset] [(.int (0 : Int32))])) := by
          intro t ht
          refine XS.ifYes X226.here hx rfl (pc0 := 209) (pc' := 216) rfl (hb hby at_209) rfl ((if0 _ _).trans (teq (by decide : (0 : Int32) = (0 : Int32))).1) (by decide) (by decide) ?_
          show Steps p.tables e below (T226.setTop (mkF m 216 #[.val (.int p0), .val (.int p1), .val (.int p2), .val (.int p3), .val (.int p4), .val (.int (7 : Int32)), .val (.int y17), .val (.int y18), .val (.int y19), .val (.ref b212), .val (.int (0 : Int32)), .unset] [])) _
          refine XS.iconst X226.here hx rfl (hb hby at_216) ?_
          exact ht
        have kk := (goT k251 k252)
        simpa only [if_neg hc240] using kk
    have k253 : Go p.tables e below (T226.setTop (mkF m 217 #[.val (.int p0), .val (.int p1), .val (.int p2), .val (.int p3), .val (.int p4), .val (.int (7 : Int32)), .val (.int y17), .val (.int y18), .val (.int y19), .val (.ref b212), .val (.int (if (y17 &&& (255 : Int32)) = (239 : Int32) then (if (y18 &&& (255 : Int32)) = (187 : Int32) then (if (y19 &&& (255 : Int32)) = (191 : Int32) then (1 : Int32) else (0 : Int32)) else (0 : Int32)) else (0 : Int32))), .unset] [(.int (if (y17 &&& (255 : Int32)) = (239 : Int32) then (if (y18 &&& (255 : Int32)) = (187 : Int32) then (if (y19 &&& (255 : Int32)) = (191 : Int32) then (3 : Int32) else (0 : Int32)) else (0 : Int32)) else (0 : Int32)))])) (T226.setTop (mkF m 221 #[.val (.int p0), .val (.int p1), .val (.int p2), .val (.int p3), .val (.int p4), .val (.int (7 : Int32)), .val (.int y17), .val (.int y18), .val (.int y19), .val (.ref b212), .val (.int (if (y17 &&& (255 : Int32)) = (239 : Int32) then (if (y18 &&& (255 : Int32)) = (187 : Int32) then (if (y19 &&& (255 : Int32)) = (191 : Int32) then (1 : Int32) else (0 : Int32)) else (0 : Int32)) else (0 : Int32))), .val (.int (if (y17 &&& (255 : Int32)) = (239 : Int32) then (if (y18 &&& (255 : Int32)) = (187 : Int32) then (if (y19 &&& (255 : Int32)) = (191 : Int32) then (3 : Int32) else (0 : Int32)) else (0 : Int32)) else (0 : Int32)))] [(.ref b212)])) := by
      intro t ht
      refine XS.istore X226.here hx rfl (hb hby at_217) rfl (l' := #[.val (.int p0), .val (.int p1), .val (.int p2), .val (.int p3), .val (.int p4), .val (.int (7 : Int32)), .val (.int y17), .val (.int y18), .val (.int y19), .val (.ref b212), .val (.int (if (y17 &&& (255 : Int32)) = (239 : Int32) then (if (y18 &&& (255 : Int32)) = (187 : Int32) then (if (y19 &&& (255 : Int32)) = (191 : Int32) then (1 : Int32) else (0 : Int32)) else (0 : Int32)) else (0 : Int32))), .val (.int (if (y17 &&& (255 : Int32)) = (239 : Int32) then (if (y18 &&& (255 : Int32)) = (187 : Int32) then (if (y19 &&& (255 : Int32)) = (191 : Int32) then (3 : Int32) else (0 : Int32)) else (0 : Int32)) else (0 : Int32)))]) rfl ?_
      show Steps p.tables e below (T226.setTop (mkF m 219 #[.val (.int p0), .val (.int p1), .val (.int p2), .val (.int p3), .val (.int p4), .val (.int (7 : Int32)), .val (.int y17), .val (.int y18), .val (.int y19), .val (.ref b212), .val (.int (if (y17 &&& (255 : Int32)) = (239 : Int32) then (if (y18 &&& (255 : Int32)) = (187 : Int32) then (if (y19 &&& (255 : Int32)) = (191 : Int32) then (1 : Int32) else (0 : Int32)) else (0 : Int32)) else (0 : Int32))), .val (.int (if (y17 &&& (255 : Int32)) = (239 : Int32) then (if (y18 &&& (255 : Int32)) = (187 : Int32) then (if (y19 &&& (255 : Int32)) = (191 : Int32) then (3 : Int32) else (0 : Int32)) else (0 : Int32)) else (0 : Int32)))] [])) _
      refine XS.aload X226.here hx rfl (hb hby at_219) rfl rfl ?_
      exact ht
    obtain ⟨_, _, ⟨T254, L254, kq254, n254⟩, -, X254, ⟨Lc254, hQ254, l254, y254, z254⟩, st254⟩ := Jvm.LawKit.callS X226 hx (y := (⟨"com/example/role_conflict_finder/roleconflictfinder/Utf8Text", "start", "([B)I"⟩ : MethodName)) hown (mvT hZ (hw _ (List.mem_of_getElem? (i := 1) rfl))) (mvT hZ (hw _ (List.mem_of_getElem? (i := 2) rfl))) (mvT hZ (hw _ (List.mem_of_getElem? (i := 3) rfl))) (mvT hZ (hw _ (List.mem_of_getElem? (i := 4) rfl))) (by decide) (backOf (W := 0) (rm_longer l Z a0 hw [] b212 wM kc212 (7 : Int32) (nar .byte y17) (nar .byte y18) (nar .byte y19) [(.int (nar .byte (((p1.toUInt32 >>> ((8 : Int32) &&& 31).toUInt32).toInt32).toInt8.toInt32))), (.int (nar .byte (((p2.toUInt32 >>> ((8 : Int32) &&& 31).toUInt32).toInt32).toInt8.toInt32))), (.int (nar .byte (((p3.toUInt32 >>> ((8 : Int32) &&& 31).toUInt32).toInt32).toInt8.toInt32))), (.int (nar .byte (((p4.toUInt32 >>> ((8 : Int32) &&& 31).toUInt32).toInt32).toInt8.toInt32)))] kM h226 n0 Z226 S_M_c_226 V226_b212 V_M_c_226 (by decide : ¬ ((7 : Int32) < (3 : Int32)))) hZ (hw _ (List.mem_of_getElem? (i := 4) rfl)) (hw _ (List.mem_of_getElem? (i := 3) rfl)) (by decide) (by decide)) (g := (mkF m 221 #[.val (.int p0), .val (.int p1), .val (.int p2), .val (.int p3), .val (.int p4), .val (.int (7 : Int32)), .val (.int y17), .val (.int y18), .val (.int y19), .val (.ref b212), .val (.int (if (y17 &&& (255 : Int32)) = (239 : Int32) then (if (y18 &&& (255 : Int32)) = (187 : Int32) then (if (y19 &&& (255 : Int32)) = (191 : Int32) then (1 : Int32) else (0 : Int32)) else (0 : Int32)) else (0 : Int32))), .val (.int (if (y17 &&& (255 : Int32)) = (239 : Int32) then (if (y18 &&& (255 : Int32)) = (187 : Int32) then (if (y19 &&& (255 : Int32)) = (191 : Int32) then (3 : Int32) else (0 : Int32)) else (0 : Int32)) else (0 : Int32)))] [(.ref b212)])) rfl (by rw [hml]; rfl) (argsL := [(.ref b212)]) (rest := []) (lenOf pd_0 rfl) rfl (by show 2 * 0 + _ ≤ _; exact Nat.le_of_eq rfl) (hb hby at_221) (fun _ _ => ⟨rfl, e226, (by decide : 1 + 0 ≤ _), (by decide : 7 + 0 ≤ _)⟩)
    dsimp only [Pt.U, Pt.locs, Pt.cells, Pt.slots] at X254 l254 y254 z254 st254 hQ254
    subst l254 y254 z254
    obtain ⟨rfl, N254q, eq254⟩ := hQ254
    have N254 := Fr.app N226 N254q
    have k254 : Go p.tables e below (T226.setTop (mkF m 221 #[.val (.int p0), .val (.int p1), .val (.int p2), .val (.int p3), .val (.int p4), .val (.int (7 : Int32)), .val (.int y17), .val (.int y18), .val (.int y19), .val (.ref b212), .val (.int (if (y17 &&& (255 : Int32)) = (239 : Int32) then (if (y18 &&& (255 : Int32)) = (187 : Int32) then (if (y19 &&& (255 : Int32)) = (191 : Int32) then (1 : Int32) else (0 : Int32)) else (0 : Int32)) else (0 : Int32))), .val (.int (if (y17 &&& (255 : Int32)) = (239 : Int32) then (if (y18 &&& (255 : Int32)) = (187 : Int32) then (if (y19 &&& (255 : Int32)) = (191 : Int32) then (3 : Int32) else (0 : Int32)) else (0 : Int32)) else (0 : Int32)))] [(.ref b212)])) (T254.setTop (mkF m 224 #[.val (.int p0), .val (.int p1), .val (.int p2), .val (.int p3), .val (.int p4), .val (.int (7 : Int32)), .val (.int y17), .val (.int y18), .val (.int y19), .val (.ref b212), .val (.int (if (y17 &&& (255 : Int32)) = (239 : Int32) then (if (y18 &&& (255 : Int32)) = (187 : Int32) then (if (y19 &&& (255 : Int32)) = (191 : Int32) then (1 : Int32) else (0 : Int32)) else (0 : Int32)) else (0 : Int32))), .val (.int (if (y17 &&& (255 : Int32)) = (239 : Int32) then (if (y18 &&& (255 : Int32)) = (187 : Int32) then (if (y19 &&& (255 : Int32)) = (191 : Int32) then (3 : Int32) else (0 : Int32)) else (0 : Int32)) else (0 : Int32)))] [(.int (f_longer (nar .byte y17) (nar .byte y18) (nar .byte y19)))])) := st254
    have k255 : Go p.tables e below (T254.setTop (mkF m 224 #[.val (.int p0), .val (.int p1), .val (.int p2), .val (.int p3), .val (.int p4), .val (.int (7 : Int32)), .val (.int y17), .val (.int y18), .val (.int y19), .val (.ref b212), .val (.int (if (y17 &&& (255 : Int32)) = (239 : Int32) then (if (y18 &&& (255 : Int32)) = (187 : Int32) then (if (y19 &&& (255 : Int32)) = (191 : Int32) then (1 : Int32) else (0 : Int32)) else (0 : Int32)) else (0 : Int32))), .val (.int (if (y17 &&& (255 : Int32)) = (239 : Int32) then (if (y18 &&& (255 : Int32)) = (187 : Int32) then (if (y19 &&& (255 : Int32)) = (191 : Int32) then (3 : Int32) else (0 : Int32)) else (0 : Int32)) else (0 : Int32)))] [(.int (f_longer (nar .byte y17) (nar .byte y18) (nar .byte y19)))])) (T254.setTop (mkF m 234 #[.val (.int p0), .val (.int p1), .val (.int p2), .val (.int p3), .val (.int p4), .val (.int (7 : Int32)), .val (.int y17), .val (.int y18), .val (.int y19), .val (.ref b212), .val (.int (if (y17 &&& (255 : Int32)) = (239 : Int32) then (if (y18 &&& (255 : Int32)) = (187 : Int32) then (if (y19 &&& (255 : Int32)) = (191 : Int32) then (1 : Int32) else (0 : Int32)) else (0 : Int32)) else (0 : Int32))), .val (.int (if (y17 &&& (255 : Int32)) = (239 : Int32) then (if (y18 &&& (255 : Int32)) = (187 : Int32) then (if (y19 &&& (255 : Int32)) = (191 : Int32) then (3 : Int32) else (0 : Int32)) else (0 : Int32)) else (0 : Int32)))] [(.int (1 : Int32))])) := by
      intro t ht
      refine XS.iload X254.here hx rfl (hb hby at_224) rfl ?_
      show Steps p.tables e below (T254.setTop (mkF m 226 #[.val (.int p0), .val (.int p1), .val (.int p2), .val (.int p3), .val (.int p4), .val (.int (7 : Int32)), .val (.int y17), .val (.int y18), .val (.int y19), .val (.ref b212), .val (.int (if (y17 &&& (255 : Int32)) = (239 : Int32) then (if (y18 &&& (255 : Int32)) = (187 : Int32) then (if (y19 &&& (255 : Int32)) = (191 : Int32) then (1 : Int32) else (0 : Int32)) else (0 : Int32)) else (0 : Int32))), .val (.int (if (y17 &&& (255 : Int32)) = (239 : Int32) then (if (y18 &&& (255 : Int32)) = (187 : Int32) then (if (y19 &&& (255 : Int32)) = (191 : Int32) then (3 : Int32) else (0 : Int32)) else (0 : Int32)) else (0 : Int32)))] [(.int (if (y17 &&& (255 : Int32)) = (239 : Int32) then (if (y18 &&& (255 : Int32)) = (187 : Int32) then (if (y19 &&& (255 : Int32)) = (191 : Int32) then (3 : Int32) else (0 : Int32)) else (0 : Int32)) else (0 : Int32))), (.int (f_longer (nar .byte y17) (nar .byte y18) (nar .byte y19)))])) _
      refine XS.icmpNo X254.here hx rfl (hb hby at_226) rfl (teq (own_law _ _ _ : (f_longer (nar .byte y17) (nar .byte y18) (nar .byte y19)) = (if (y17 &&& (255 : Int32)) = (239 : Int32) then (if (y18 &&& (255 : Int32)) = (187 : Int32) then (if (y19 &&& (255 : Int32)) = (191 : Int32) then (3 : Int32) else (0 : Int32)) else (0 : Int32)) else (0 : Int32)))).2 ?_
      show Steps p.tables e below (T254.setTop (mkF m 229 #[.val (.int p0), .val (.int p1), .val (.int p2), .val (.int p3), .val (.int p4), .val (.int (7 : Int32)), .val (.int y17), .val (.int y18), .val (.int y19), .val (.ref b212), .val (.int (if (y17 &&& (255 : Int32)) = (239 : Int32) then (if (y18 &&& (255 : Int32)) = (187 : Int32) then (if (y19 &&& (255 : Int32)) = (191 : Int32) then (1 : Int32) else (0 : Int32)) else (0 : Int32)) else (0 : Int32))), .val (.int (if (y17 &&& (255 : Int32)) = (239 : Int32) then (if (y18 &&& (255 : Int32)) = (187 : Int32) then (if (y19 &&& (255 : Int32)) = (191 : Int32) then (3 : Int32) else (0 : Int32)) else (0 : Int32)) else (0 : Int32)))] [])) _
      refine XS.iconst X254.here hx rfl (hb hby at_229) ?_
      show Steps p.tables e below (T254.setTop (mkF m 230 #[.val (.int p0), .val (.int p1), .val (.int p2), .val (.int p3), .val (.int p4), .val (.int (7 : Int32)), .val (.int y17), .val (.int y18), .val (.int y19), .val (.ref b212), .val (.int (if (y17 &&& (255 : Int32)) = (239 : Int32) then (if (y18 &&& (255 : Int32)) = (187 : Int32) then (if (y19 &&& (255 : Int32)) = (191 : Int32) then (1 : Int32) else (0 : Int32)) else (0 : Int32)) else (0 : Int32))), .val (.int (if (y17 &&& (255 : Int32)) = (239 : Int32) then (if (y18 &&& (255 : Int32)) = (187 : Int32) then (if (y19 &&& (255 : Int32)) = (191 : Int32) then (3 : Int32) else (0 : Int32)) else (0 : Int32)) else (0 : Int32)))] [(.int (1 : Int32))])) _
      refine XS.goto X254.here hx rfl (pc0 := 230) (pc' := 234) rfl (hb hby at_230) (by decide) (by decide) ?_
      exact ht
    obtain ⟨fs, hr, hrun, hended, hW, hsame⟩ := X254.leave (v := some (.int (1 : Int32))) (fun h => by rw [Bd.returns] at h; cases h)
    refine ⟨_, _, pre0 _ ((goT k1 (goT k2 (goT k6 (goT k7 (goT k11 (goT k12 (goT k16 (goT k20 (goT k210 (goT k211 (goT k212 (goT k213 (goT k214 (goT k215 (goT k216 (goT k217 (goT k218 (goT k219 (goT k220 (goT k221 (goT k222 (goT k223 (goT k224 (goT k225 (goT k226 (goT k227 (goT k228 (goT k238 (goT k239 (goT k253 (goT k254 k255))))))))))))))))))))))))))))))) _ (retN X254 hx (t := .boolean) Bd.returns (by simp) (hb hby at_234) hr)), hrun, hended, _, _, rfl, ?_, ⟨_, rfl⟩, hW, hsame.mono (by decide) (by decide)⟩
    show Q_law Z p0 p1 p2 p3 p4 wM kM h0 n0 _ T254.heap _
    rw [eq254]
    exact ⟨rfl, N254⟩
set_option maxRecDepth 65536 in
set_option maxHeartbeats 40000000 in
theorem comes_1 {Post : Tables → Env → Array Value → State → Outcome → State → Prop} (hpost : ∀ tb e args s v u, (limb_1_1.after args s (.returned v) u = true ∧ limb_1_2.after args s (.returned v) u = true ∧ True) → FrameEnd s (.returned v) u (Jvm.fieldLocs frame_1_writes args s ++ Jvm.arrayLocs frame_1_arrays args s ++ Jvm.staticLocs frame_1_statics s) 16 128 → Post tb e args s (.returned v) u) :
    ArmFor flags0 classFile x code maxLocals ret World_1 tables_1 room_1 Calls_1 rest_1 Pre_1 Post := by
  intro l hfl _ _ p e ha hc hk s m args below hf hA hF happ hP
  obtain ⟨hcalls, hrest, hpre⟩ := hP
  obtain ⟨-, -, -, hnamed, -, -, -, hat⟩ := (Spec.applies_iff hf).mp happ
  obtain ⟨hg, hn⟩ := and_e (Cond.before_iff.mp (show (Jvm.Cond.and given_1 narrow_1).before args s = true from hpre))
  obtain ⟨hcnt, hg⟩ := and_e hg
  obtain ⟨ha0, hg⟩ := and_e hg
  obtain ⟨ha1, hg⟩ := and_e hg
  obtain ⟨ha2, hg⟩ := and_e hg
  obtain ⟨ha3, hg⟩ := and_e hg
  have ha4 := hg
  obtain ⟨w0, w1, w2, w3, w4, rfl⟩ : ∃ w0 w1 w2 w3 w4 : Value, args = #[w0, w1, w2, w3, w4] := by
    have hs : args.size = 5 := by simpa [Cond.value, given_1] using hcnt
    obtain ⟨L⟩ := args
    match L, hs with
    | [w0, w1, w2, w3, w4], _ => exact ⟨w0, w1, w2, w3, w4, rfl⟩
  have hw := fun d (hd : d ∈ tables_1) => atoms_spec (ws := Jvm.Cond.code x code maxLocals ret :: tables_1) hat d (List.mem_cons_of_mem _ hd)
  have hfit : Fit s := fun {y c} hc i hi => by
    obtain ⟨ha, rfl⟩ := Array.getElem?_eq_some_iff.mp hc
    have q := List.all_eq_true.mp ((Array.all_eq_true_iff_forall_mem.mp hF) _ (Array.getElem_mem ha)) i (List.mem_range.mpr hi)
    simpa [Array.getElem?_eq_getElem hi] using q
  obtain ⟨i0, ei0⟩ := is_v ha0
  obtain rfl : w0 = (.int i0) := Option.some.inj ei0
  obtain ⟨i1, ei1⟩ := is_v ha1
  obtain rfl : w1 = (.int i1) := Option.some.inj ei1
  obtain ⟨i2, ei2⟩ := is_v ha2
  obtain rfl : w2 = (.int i2) := Option.some.inj ei2
  obtain ⟨i3, ei3⟩ := is_v ha3
  obtain rfl : w3 = (.int i3) := Option.some.inj ei3
  obtain ⟨i4, ei4⟩ := is_v ha4
  obtain rfl : w4 = (.int i4) := Option.some.inj ei4
  obtain ⟨hn0, hn⟩ := and_e hn
  obtain ⟨hn1, hn⟩ := and_e hn
  obtain ⟨hn2, hn⟩ := and_e hn
  obtain ⟨hn3, hn4⟩ := and_e hn
  obtain ⟨wM, evM⟩ := arr_v hn0
  have S_M := Sta.start evM (Or.inr ⟨(hw _ (List.mem_of_getElem? (i := 3) rfl)), (hw _ (List.mem_of_getElem? (i := 6) rfl))⟩)
  obtain ⟨clM, ArM⟩ := Arr.start evM hn0
  have V_M := own_arv3 hfit ArM evM (own_eq_i hn1) (own_eq_i hn2) (own_eq_i hn3) (own_eq_i hn4)
  obtain ⟨n, o, h1, h2, h3, _, L, rfl, ⟨rfl, N⟩, hq⟩ := rm_law l s _ hw tables_1 i0 i1 i2 i3 i4 wM clM.cls s.heap s.heap.size (Nat.le_refl _) S_M V_M p e ha hc hk s m _ below hf ((Spec.applies_iff_loose hf).mp happ).1 ⟨rfl, State.Warmed39.refl s, rfl⟩ trivial
  refine ⟨n, _, h1, h2, h3, hpost _ _ _ _ _ _ ⟨Cond.after_iff.mpr rfl, Cond.after_iff.mpr (eq_i res_at (Term.int_eval (1)) rfl), trivial⟩ ⟨hq.1, hq.2.1, (hq.2.2.sift fun y hy => Or.inr (N y hy)).mono (by decide) (by decide)⟩⟩
theorem main_1_1 : Claimed_1_1 := comes_1 fun _ _ _ _ _ _ h hF => ⟨h.1, hF⟩
theorem main_1_2 : Claimed_1_2 := comes_1 fun _ _ _ _ _ _ h hF => ⟨h.2.1, hF⟩
end Jvm.Pilot.@@N@@
namespace Jvm.Pilot.@@N@@
open Jvm Jvm.ClassFile Sem Op Lib Jvm.Free Jvm.Stand Jvm.Pilot.@@N@@.Jvm.D
/-! MADE BY PROGRAM (witnessworld.py) out of the Statement's table words and the real class files: 9 classes; the members and pool entries that the words name. The judged class is class 1, her method 1. -/
namespace start1
open Jvm.ClassFile
def u (s : String) : CpInfo := .utf8 (stringToUtf16 s)
/-- a pool by its gaps: so many unusable entries, then the entry; so many at the end -/
def gap : Nat → List CpInfo → List CpInfo
  | 0, r => r
  | n + 1, r => .unusable :: gap n r
def poolList (es : List (Nat × CpInfo)) (last : Nat) : List CpInfo := es.foldr (fun e r => gap e.1 (e.2 :: r)) (gap last [])
def pool (es : List (Nat × CpInfo)) (last : Nat) : Array CpInfo := ⟨poolList es last⟩
def fileOf (pool : Array CpInfo) (this : Nat) (attrs : Array Attribute := #[]) (ms : Array MethodInfo := #[]) (fl : Nat := 33) (sup : Nat := 0) (ifs : Array Nat := #[]) (fds : Array FieldInfo := #[]) : ClassFile where
  minorVersion := 0
  majorVersion := 65
  constantPool := pool
  accessFlags := fl
  thisClass := this
  superClass := sup
  interfaces := ifs
  fields := fds
  methods := ms
  attributes := attrs
def plain (name : String) (sup : Option ClassId) : Class where
  name := name
  kind := .ordinary
  loader := none
  accessFlags := 33
  super := sup
  interfaces := #[]
  cf := none
  fields := #[]
  methods := #[]
  instanceTypes := #[]
  staticTypes := #[]
  resolved := #[]
  callSites := []
  init := .initialized
  statics := none
  mirror := none

def pool0 : Array CpInfo := pool [(5, u "<init>"), (0, u "()V"), (1, .class_ 10), (1, u "java/lang/Object")] 113

def k0m0 : Method := { name := "<init>", desc := "()V", sig := { parameters := [], returnType := none }, accessFlags := 1, code := none }
/-- java/lang/Object -/
def k0 : Class := { plain "java/lang/Object" none with
  accessFlags := 33
  interfaces := #[]
  cf := some (fileOf pool0 8 #[] #[{ accessFlags := 1, nameIndex := 5, descriptorIndex := 6, attributes := #[] }] 33 0 #[] #[])
  fields := #[]
  methods := #[k0m0]
  instanceTypes := #[]
  staticTypes := #[]
  resolved := Array.replicate 124 none
  statics := none }

def pool1 : Array CpInfo := pool [(2, .class_ 4), (1, u "java/lang/Object"), (0, u "<init>"), (0, u "()V"), (0, .methodref 8 9), (0, .class_ 10), (0, .nameAndType 11 12), (0, u "com/example/role_conflict_finder/roleconflictfinder/Utf8Text"), (0, u "start"), (0, u "([B)I"), (0, .class_ 14), (0, u "com/example/role_conflict_finder/roleconflictfinder/Utf8TextStartPinLaw"), (2, u "law"), (0, u "(IIIII)Z")] 5

def k1m0 : Method := { name := "<init>", desc := "()V", sig := { parameters := [], returnType := none }, accessFlags := 2, code := none }
def k1c1 : Code := { maxStack := 4, maxLocals := 12, code := code, exceptionTable := #[], attributes := #[] }
def k1m1 : Method := { name := "law", desc := "(IIIII)Z", sig := { parameters := [.int, .int, .int, .int, .int], returnType := some .boolean }, accessFlags := 9, code := some k1c1 }
/-- com/example/role_conflict_finder/roleconflictfinder/Utf8TextStartPinLaw -/
def k1 : Class := { plain "com/example/role_conflict_finder/roleconflictfinder/Utf8TextStartPinLaw" (some 0) with
  accessFlags := 49
  interfaces := #[]
  cf := some (fileOf pool1 13 #[] #[{ accessFlags := 2, nameIndex := 5, descriptorIndex := 6, attributes := #[] }, { accessFlags := 9, nameIndex := 17, descriptorIndex := 18, attributes := #[] }] 49 2 #[] #[])
  fields := #[]
  methods := #[k1m0, k1m1]
  instanceTypes := #[]
  staticTypes := #[]
  resolved := Array.replicate 24 none
  statics := none }

def pool2 : Array CpInfo := pool [(4, .class_ 6), (1, u "java/lang/Object"), (0, u "<init>"), (0, u "()V"), (14, .class_ 24), (0, u "com/example/role_conflict_finder/roleconflictfinder/Utf8Text"), (64, .fieldref 23 90), (0, .nameAndType 91 92), (0, u "BYTE_ORDER_MARK"), (0, u "[B"), (54, u "WELL_FORMED"), (0, u "I"), (2, u "LARGEST_FILE"), (0, u "LEAST_GROWTH"), (10, u "start"), (0, u "([B)I")] 23

def k2m0 : Method := { name := "<init>", desc := "()V", sig := { parameters := [], returnType := none }, accessFlags := 2, code := none }
def k2c1 : Code := { maxStack := 3, maxLocals := 3, code := prog_27_method_5_code, exceptionTable := #[], attributes := #[] }
def k2m1 : Method := { name := "start", desc := "([B)I", sig := { parameters := [(.array .byte)], returnType := some .int }, accessFlags := 8, code := some k2c1 }
/-- com/example/role_conflict_finder/roleconflictfinder/Utf8Text -/
def k2 : Class := { plain "com/example/role_conflict_finder/roleconflictfinder/Utf8Text" (some 0) with
  accessFlags := 48
  interfaces := #[]
  cf := some (fileOf pool2 23 #[] #[{ accessFlags := 2, nameIndex := 7, descriptorIndex := 8, attributes := #[] }, { accessFlags := 8, nameIndex := 163, descriptorIndex := 164, attributes := #[] }] 48 4 #[] #[{ accessFlags := 24, nameIndex := 147, descriptorIndex := 148, attributes := #[] }, { accessFlags := 24, nameIndex := 151, descriptorIndex := 148, attributes := #[] }, { accessFlags := 26, nameIndex := 152, descriptorIndex := 148, attributes := #[] }, { accessFlags := 26, nameIndex := 91, descriptorIndex := 92, attributes := #[] }])
  fields := #[{ name := "WELL_FORMED", type := .int, accessFlags := 24, slot := 0, constantValue := 0 }, { name := "LARGEST_FILE", type := .int, accessFlags := 24, slot := 1, constantValue := 0 }, { name := "LEAST_GROWTH", type := .int, accessFlags := 26, slot := 2, constantValue := 0 }, { name := "BYTE_ORDER_MARK", type := (.array .byte), accessFlags := 26, slot := 3, constantValue := 0 }]
  methods := #[k2m0, k2m1]
  instanceTypes := #[]
  staticTypes := #[.int, .int, .int, (.array .byte)]
  resolved := Array.replicate 188 none
  statics := some 0 }

def pool3 : Array CpInfo := pool [(1, u "java/lang/Cloneable"), (0, .class_ 1), (0, u "java/lang/Object"), (0, .class_ 3)] 3

/-- java/lang/Cloneable -/
def k3 : Class := { plain "java/lang/Cloneable" (some 0) with
  accessFlags := 1537
  interfaces := #[]
  cf := some (fileOf pool3 2 #[] #[] 1537 4 #[] #[])
  fields := #[]
  methods := #[]
  instanceTypes := #[]
  staticTypes := #[]
  resolved := Array.replicate 8 none
  statics := none }

def pool4 : Array CpInfo := pool [(1, u "java/io/Serializable"), (0, .class_ 1), (0, u "java/lang/Object"), (0, .class_ 3)] 3

/-- java/io/Serializable -/
def k4 : Class := { plain "java/io/Serializable" (some 0) with
  accessFlags := 1537
  interfaces := #[]
  cf := some (fileOf pool4 2 #[] #[] 1537 4 #[] #[])
  fields := #[]
  methods := #[]
  instanceTypes := #[]
  staticTypes := #[]
  resolved := Array.replicate 8 none
  statics := none }

/-- the primitive byte -/
def k5 : Class := { plain "byte" none with kind := .primitive 'B', accessFlags := 0x411 }
/-- [B -/
def k6 : Class := { plain "[B" (some 0) with kind := .array 5 .byte, interfaces := #[3, 4], accessFlags := 1041 }

/-- the primitive int -/
def k7 : Class := { plain "int" none with kind := .primitive 'I', accessFlags := 0x411 }
/-- [I -/
def k8 : Class := { plain "[I" (some 0) with kind := .array 7 .int, interfaces := #[3, 4], accessFlags := 1041 }

def heap : Heap := #[{ cls := 2, slots := #[.int 0, .int 0, .int 0, .ref 1], vm := .statics 2 },
  { cls := 6, slots := #[.int (-17), .int (-69), .int (-65)], vm := .none }]
def classes : Array Class := #[k0, k1, k2, k3, k4, k5, k6, k7, k8]
def interned : List (Array UInt16 × Addr) := []
def slotsUsed : Nat := 7
def theMethod : MethodId := ⟨1, 1⟩
def args0 : Array Value := #[.int 3, .int 4, .int 5, .int 2, .int 7]
def aboutOver (below : List Frame) : State where
  vm := { classes := classes, interned := interned.toArray }
  heap := heap
  slotsUsed := slotsUsed
  threads := #[{ frames := .invoking theMethod args0 :: below }]
def below0 : List Frame := [.native { method := ⟨0, 0⟩, args := #[] }]
def about1 : State := aboutOver below0
def p0 : Program := .bare "" "" ""
def e0 : Env := launch0.env 0 0 0
theorem w_frames : about1.frames = Frame.invoking theMethod args0 :: below0 := rfl
set_option maxRecDepth 65536 in
theorem w_args : argsFit about1.vm theMethod args0 = true := by decide +kernel
set_option maxRecDepth 65536 in
theorem w_heap : heapFits about1 = true := by decide +kernel
set_option maxRecDepth 65536 in
theorem w_runnable : about1.curStatus? = some .runnable := by decide +kernel
set_option maxRecDepth 65536 in
theorem w_alone : about1.alone = true := by decide +kernel
set_option maxRecDepth 65536 in
theorem w_named : about1.methodNamed? x = some theMethod := by decide +kernel
set_option maxRecDepth 65536 in
theorem w_hears : about1.hears theMethod below0 = true := by decide +kernel
set_option maxRecDepth 65536 in
theorem w_ripe : about1.ripe theMethod args0 below0 = true := by decide +kernel
theorem w_running : about1.status = .running := rfl
set_option maxRecDepth 65536 in
theorem w_room : about1.hasRoom e0.platform room_1 = true :=
  launch0.hasRoom_least _ room_1 (by decide +kernel) (by decide +kernel) (by decide +kernel) (by decide +kernel) (by decide +kernel) (by decide +kernel)
theorem allAtoms_all (ts : List Jvm.Cond) (a : Array Jvm.Value) (st : Jvm.State) : (allAtoms ts).before a st = ts.all (fun c => c.before a st) := by
  induction ts with
  | nil => rfl
  | cons c t ih =>
    show (Jvm.Cond.and c (allAtoms t)).before a st = _
    rw [Jvm.Cond.before_and, ih, List.all_cons]
def words1 : List Jvm.Cond := Jvm.Cond.code x code maxLocals ret :: tables_1
/-- a 'code' word, met by the world's own term for the bytes: nothing is compared byte by byte -/
theorem code_word {y : MethodName} {bytes : ByteArray} {mx : Nat} {rt : Option FieldType} {a : Array Value} {s : State} {m : MethodId} {meth : Method} {c : Code} (h1 : s.methodNamed? y = some m) (h2 : s.vm.method? m = some meth) (h3 : meth.code = some c) (h4 : c.code = bytes)
    (h5 : (c.maxLocals == mx && c.exceptionTable.isEmpty && decide (c.maxStack ≤ mostOperands) && decide (meth.sig.returnType = rt) && !meth.locks && decide (parseMethodDescriptor y.desc = some meth.sig)) = true) : (Jvm.Cond.code y bytes mx rt).before a s = true := by
  simp only [Bool.and_eq_true, beq_iff_eq, Bool.not_eq_true', decide_eq_true_eq] at h5
  obtain ⟨⟨⟨⟨⟨g1, g2⟩, g3⟩, g4⟩, g5⟩, g6⟩ := h5
  simp [Cond.before, Cond.holds, Cond.value, h1, h2, h3, h4, g1, g2, g3, g4, g5, g6]
def isCode : Jvm.Cond → Bool
  | .code _ _ _ _ => true
  | _ => false
theorem all_split {L : List Jvm.Cond} {P : Jvm.Cond → Bool} (h1 : L.all (fun c => isCode c || P c) = true) (h2 : ∀ c ∈ L.filter isCode, P c = true) : L.all P = true := by
  refine List.all_eq_true.mpr fun c hc => ?_
  have h := List.all_eq_true.mp h1 c hc
  rcases Bool.eq_false_or_eq_true (isCode c) with hi | hi
  · exact h2 c (List.mem_filter.mpr ⟨hc, hi⟩)
  · simpa [hi] using h
set_option maxRecDepth 65536 in
theorem w_c0 : (Jvm.Cond.code x code maxLocals ret).before args0 about1 = true := code_word (m := ⟨1, 1⟩) (meth := k1m1) (c := k1c1) (by decide +kernel) rfl rfl rfl (by decide +kernel)
set_option maxRecDepth 65536 in
theorem w_c1 : (Jvm.Cond.code ({ cls := "com/example/role_conflict_finder/roleconflictfinder/Utf8Text", name := "start", desc := "([B)I" } : Jvm.MethodName) prog_27_method_5_code (3 : Nat) (Option.some Jvm.ClassFile.FieldType.int)).before args0 about1 = true := code_word (m := ⟨2, 1⟩) (meth := k2m1) (c := k2c1) (by decide +kernel) rfl rfl rfl (by decide +kernel)
def codes1 : List Jvm.Cond := [Jvm.Cond.code x code maxLocals ret, Jvm.Cond.code ({ cls := "com/example/role_conflict_finder/roleconflictfinder/Utf8Text", name := "start", desc := "([B)I" } : Jvm.MethodName) prog_27_method_5_code (3 : Nat) (Option.some Jvm.ClassFile.FieldType.int)]
set_option maxRecDepth 65536 in
theorem codes_eq : words1.filter isCode = codes1 := rfl
theorem w_codes : ∀ c ∈ words1.filter isCode, c.before args0 about1 = true := by
  rw [codes_eq]
  intro c hc
  simp only [codes1, List.mem_cons, List.not_mem_nil, or_false] at hc
  rcases hc with rfl | rfl
  · exact w_c0
  · exact w_c1
set_option maxRecDepth 65536 in
theorem w_t1 : words1.all (fun c => isCode c || c.before args0 about1) = true := by decide +kernel
theorem w_tables : (allAtoms (Jvm.Cond.code x code maxLocals ret :: tables_1)).before args0 about1 = true := by
  rw [allAtoms_all]
  show words1.all (fun c => c.before args0 about1) = true
  refine all_split ?_ w_codes
  rw [w_t1]
set_option maxRecDepth 65536 in
theorem w_case : (Jvm.Cond.and given_1 narrow_1).before args0 about1 = true := by decide +kernel
theorem w_applies : (headSpec (Jvm.Cond.code x code maxLocals ret :: tables_1) room_1).applies x e0.platform about1 = true :=
  (Spec.applies_iff w_frames).mpr ⟨w_running, w_runnable, w_alone, w_named, w_hears, w_ripe, w_room, w_tables⟩
theorem atStart : AtStart classFile x code maxLocals ret World_1 tables_1 room_1 Calls_1 rest_1 Pre_1 launch0 p0 e0 about1 theMethod args0 below0 :=
  ⟨lists_1, trivial, launch0.admits_env _ _ _, launch0.least_env, fairChoices_fair.cas, fairChoices_fair.clock, w_frames, w_args, w_heap, w_applies, trivial, trivial, w_case⟩
end start1
theorem witness_1 : WitnessClaimed_1 := ⟨start1.p0, start1.e0, start1.about1, start1.theMethod, start1.args0, start1.below0, start1.atStart⟩
end Jvm.Pilot.@@N@@
