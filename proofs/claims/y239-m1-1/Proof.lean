import JvmDerived
import JvmDerived.Pilot.@@N@@Statement
import JvmDerived.Pilot.@@N@@Code
set_option linter.unusedVariables false
set_option linter.unusedSimpArgs false
namespace Jvm.RoadKit
open Sem ClassFile Op Lib Jvm.Stand Jvm.Free Jvm.LawKit
abbrev Go (tb : Tables) (e : Env) (below : List Frame) (A B : State) : Prop := ∀ t, Steps tb e below B t → Steps tb e below A t
theorem goT {tb : Tables} {e : Env} {below : List Frame} {A B C : State} (f : Go tb e below A B) (g : Go tb e below B C) : Go tb e below A C := fun t h => f t (g t h)
section New
variable {p : Program} {l : Launch} {e : Env} {R : Room} {s : State} {m : MethodId} {args : Array Value} {below : List Frame} {meth : Method} {c : Code} {T : State} {locs : List Loc} {cells slots : Nat}
theorem retI (X : Stand p l e R s m args below meth c T locs cells slots) (hx : p.tables.exec = Jvm.exec) {pc : Nat} {Ls : Array Slot} {z : Int32} {rest : List Value} (hret : meth.sig.returnType = some .int) (hd : decode c.code pc = .ok (.ireturn, 1)) {fs : List Frame}
    (hl : ∀ (f : JFrame) (acts : List Action), f.method = m → f.locked = none → f.entered = [] → (doReturn e (T.setTop f) acts (some (.int z))).1 = T.setFrames fs) : Steps p.tables e below (T.setTop (mkF m pc Ls (.int z :: rest))) (T.setFrames fs) := by
  have hm' : T.vm.method? m = some meth := X.method'
  have hn : narrow .int (.int z) = .int z := rfl
  show Steps p.tables e below (T.setTop { method := m, pc := pc, locals := Ls, stack := _ :: rest, locked := none }) _
  jvm_step X.here [X.here.top, hx, hd, hm', hret, hn]
  first | (intro acts; rw [hl _ acts rfl rfl rfl]) | rw [hl _ _ rfl rfl rfl]
  exact Steps.refl _
theorem retJ (X : Stand p l e R s m args below meth c T locs cells slots) (hx : p.tables.exec = Jvm.exec) {pc : Nat} {Ls : Array Slot} {z : Int64} {rest : List Value} (hret : meth.sig.returnType = some .long) (hd : decode c.code pc = .ok (.lreturn, 1)) {fs : List Frame}
    (hl : ∀ (f : JFrame) (acts : List Action), f.method = m → f.locked = none → f.entered = [] → (doReturn e (T.setTop f) acts (some (.long z))).1 = T.setFrames fs) : Steps p.tables e below (T.setTop (mkF m pc Ls (.long z :: rest))) (T.setFrames fs) := by
  have hm' : T.vm.method? m = some meth := X.method'
  have hn : narrow .long (.long z) = .long z := rfl
  show Steps p.tables e below (T.setTop { method := m, pc := pc, locals := Ls, stack := _ :: rest, locked := none }) _
  jvm_step X.here [X.here.top, hx, hd, hm', hret, hn]
  first | (intro acts; rw [hl _ acts rfl rfl rfl]) | rw [hl _ _ rfl rfl rfl]
  exact Steps.refl _
theorem retD (X : Stand p l e R s m args below meth c T locs cells slots) (hx : p.tables.exec = Jvm.exec) {pc : Nat} {Ls : Array Slot} {z : UInt64} {rest : List Value} (hret : meth.sig.returnType = some .double) (hd : decode c.code pc = .ok (.dreturn, 1)) {fs : List Frame}
    (hl : ∀ (f : JFrame) (acts : List Action), f.method = m → f.locked = none → f.entered = [] → (doReturn e (T.setTop f) acts (some (.double z))).1 = T.setFrames fs) : Steps p.tables e below (T.setTop (mkF m pc Ls (.double z :: rest))) (T.setFrames fs) := by
  have hm' : T.vm.method? m = some meth := X.method'
  have hn : narrow .double (.double z) = .double z := rfl
  show Steps p.tables e below (T.setTop { method := m, pc := pc, locals := Ls, stack := _ :: rest, locked := none }) _
  jvm_step X.here [X.here.top, hx, hd, hm', hret, hn]
  first | (intro acts; rw [hl _ acts rfl rfl rfl]) | rw [hl _ _ rfl rfl rfl]
  exact Steps.refl _
theorem retR (X : Stand p l e R s m args below meth c T locs cells slots) (hx : p.tables.exec = Jvm.exec) {pc : Nat} {Ls : Array Slot} {z : Addr} {rest : List Value} {C : String} (hret : meth.sig.returnType = some (.object C)) (hd : decode c.code pc = .ok (.areturn, 1)) {fs : List Frame}
    (hl : ∀ (f : JFrame) (acts : List Action), f.method = m → f.locked = none → f.entered = [] → (doReturn e (T.setTop f) acts (some (.ref z))).1 = T.setFrames fs) : Steps p.tables e below (T.setTop (mkF m pc Ls (.ref z :: rest))) (T.setFrames fs) := by
  have hm' : T.vm.method? m = some meth := X.method'
  show Steps p.tables e below (T.setTop { method := m, pc := pc, locals := Ls, stack := _ :: rest, locked := none }) _
  jvm_step X.here [X.here.top, hx, hd, hm', hret, Value.isRef, FieldType.isReference]
  first | (intro acts; rw [hl _ acts rfl rfl rfl]) | rw [hl _ _ rfl rfl rfl]
  exact Steps.refl _
theorem retA (X : Stand p l e R s m args below meth c T locs cells slots) (hx : p.tables.exec = Jvm.exec) {pc : Nat} {Ls : Array Slot} {z : Addr} {rest : List Value} {ty : FieldType} (hret : meth.sig.returnType = some (.array ty)) (hd : decode c.code pc = .ok (.areturn, 1)) {fs : List Frame}
    (hl : ∀ (f : JFrame) (acts : List Action), f.method = m → f.locked = none → f.entered = [] → (doReturn e (T.setTop f) acts (some (.ref z))).1 = T.setFrames fs) : Steps p.tables e below (T.setTop (mkF m pc Ls (.ref z :: rest))) (T.setFrames fs) := by
  have hm' : T.vm.method? m = some meth := X.method'
  show Steps p.tables e below (T.setTop { method := m, pc := pc, locals := Ls, stack := _ :: rest, locked := none }) _
  jvm_step X.here [X.here.top, hx, hd, hm', hret, Value.isRef, FieldType.isReference]
  first | (intro acts; rw [hl _ acts rfl rfl rfl]) | rw [hl _ _ rfl rfl rfl]
  exact Steps.refl _
end New
theorem own_sta_keep0 {Z : State} {h h' : Heap} {C n d : String} {v : Value} (F : Sta Z h C n d v) (Kp : Keep h h' []) : Sta Z h' C n d v := by
  obtain ⟨cf, i, k, f, st, cell, h1, h2, h3, h4, h5, h6, h7⟩ := F
  exact ⟨cf, i, k, f, st, cell, h1, h2, h3, h4, Kp.2.1 st cell h5 nin0, h6, h7⟩
theorem own_sta_keep {Z : State} {h h' : Heap} {b : Addr} {C n d K : String} {v : Value} (F : Sta Z h C n d v) (E : Exa Z h b K) (Kp : Keep h h' [b]) : Sta Z h' C n d v := by
  obtain ⟨cf, i, k, f, st, cell, h1, h2, h3, h4, h5, h6, h7⟩ := F
  obtain ⟨c2, _, g1, -, -, g4, -⟩ := E
  have ne : st ∉ [b] := fun q => by
    cases List.mem_singleton.mp q
    cases h5.symm.trans g1
    rw [g4] at h6; cases h6
  exact ⟨cf, i, k, f, st, cell, h1, h2, h3, h4, Kp.2.1 st cell h5 ne, h6, h7⟩
theorem own_fld_ne {Z : State} {h : Heap} {a : Addr} {C n d : String} {v w : Value} (F : Fld Z h a C n d v) (G : Fld Z h a C n d w) (ne : v ≠ w) : False := by
  obtain ⟨cell, cf, k, i, f, h1, h2, -, -, -, -, h7⟩ := F
  obtain ⟨cell', cf', k', i', f', g1, g2, -, -, -, -, g7⟩ := G
  cases h1.symm.trans g1
  cases h2.symm.trans g2
  cases h7.symm.trans g7
  exact ne rfl
theorem own_safe {Z : State} {a0 : Array Value} {EL : List (String × Nat)} {vm : Vm} {h : Heap} {x : Addr} {n : Nat} (hal : Z.vm.Alike vm) (wi : (Cond.instantiable "java/lang/String" n).before a0 Z = true) (E : Exa Z h x "java/lang/String") (G : Fld Z h x "java/lang/String" "value" "[B" .null) : Safe Z EL vm h x := fun B => by
  obtain ⟨p, -, u, a, -, q, -, F, hx⟩ := B
  obtain ⟨cS, ⟨⟨s1, s2, s3, ⟨cv, kv, iv, s4, s4'⟩, -, s6, -, s8, -, s10, s11, s12, -⟩, -⟩, -, -, -⟩ := F
  obtain ⟨kv', z4⟩ := ff_back (U := Wst Z vm h) hal s4
  rcases hx with rfl | rfl
  · have G' : Fld Z h q.sa "java/lang/String" "value" "[B" (.ref q.sd) := ⟨q.sC, cv, kv', iv, q.fSV, s1, z4, s6, s2, s3, by rw [← hal.assignable]; exact s4', s8⟩
    exact own_fld_ne G G' (by intro e; cases e)
  · obtain ⟨hst, k9, hk9, comp, hkind9⟩ := s11
    obtain ⟨c1, k1, h1, h2, h3, -⟩ := E
    cases h1.symm.trans s10
    obtain ⟨c2, k2, i1, i2, i3, -⟩ := Cond.instantiable_spec wi
    cases h2.symm.trans i1
    cases h3.symm.trans i2
    obtain ⟨k4, q1, q2⟩ := hal.2.2 _ _ h3
    have e9 : k9 = k4 := Option.some.inj ((show vm.classes[q.SA.cls]? = some k9 from hk9).symm.trans q1)
    have e10 : k9.kind = k1.kind := by rw [e9, q2]
    rw [e10, i3] at hkind9; cases hkind9
theorem own_backOfSC {p : Program} {l : Launch} {e : Env} {R : Room} {s : State} {args : Array Value} {below : List Frame} {Z : State} {a0 : Array Value} {EL : List (String × Nat)} {h : Heap} {vm0 : Vm} {y : MethodName} {bytes : ByteArray} {maxL : Nat} {ret : Option FieldType} {rm : Room} {len W : Nat} {as' : Array Value} {Q : Option Value → Heap → List Loc → Prop}
    (hM : MetFree l y (head1 [Cond.code y bytes maxL ret] rm) (fun a U => a = as' ∧ Z.Warmed39 U.vm ∧ U.heap = h ∧ CHv Z EL U.vm h) (fun _ _ _ _ _ => True) (fun _ U o U' => ∃ v L, o = .returned v ∧ Q v U'.heap L ∧ ReturnedEndW U o U' L rm.cells rm.slots))
    (hZ : Z.Warmed39 vm0) (wc : (Cond.code y bytes maxL ret).before a0 Z = true) (wz : (Cond.initialized y.cls).before a0 Z = true) (hf : rm.frames + 1 ≤ R.frames) (hl : W + (maxL + 11) + rm.locals ≤ R.locals) (hEL : EW Z a0 EL) (H : CHv Z EL vm0 h) :
    BackS l R p e below (s.setVm vm0) args y len W (fun A a => a = as' ∧ A.U.heap = h ∧ A.cells + rm.cells ≤ R.cells ∧ A.slots + rm.slots ≤ R.slots)
      (fun A _ v B => ∃ L, Q v B.U.heap L ∧ B.locs = A.locs ++ L ∧ B.cells = A.cells + rm.cells ∧ B.slots = A.slots + rm.slots) :=
  BackS.of_freeW (bytes := bytes) (maxL := maxL) (ret := ret) (E := fun _ _ o t L k n => k = rm.cells ∧ n = rm.slots ∧ ∃ v, o = .returned v ∧ Q v t.heap L) hM hf hl
    (fun m meth c A a Y hp => have hU : Z.Warmed39 A.U.vm := wtrans (s := s.setVm vm0) hZ Y.warmed
      ⟨by show (Cond.and _ .tt).before a A.U = true; rw [Cond.before_and, mv hU wc]; rfl, mv hU wc, mv hU wz, hp.2.2.1, hp.2.2.2⟩)
    (fun m meth c A a g mk Y hp => ⟨hp.1, wtrans (s := s.setVm vm0) hZ Y.warmed, hp.2.1, (CHv.at Y hZ hEL H).1⟩) (fun _ _ _ _ _ _ _ _ _ => trivial)
    (fun _ _ _ _ ⟨v, L, h1, h2, h3⟩ => ⟨L, _, _, h3, rfl, rfl, v, h1, h2⟩)
    (fun m meth c A a g mk v t L k n Y hp _ _ ⟨e1, e2, v', e3, e4⟩ => by cases e3; subst e1 e2; exact ⟨L, e4, rfl, rfl, rfl⟩)
theorem own_mvM {Z s : State} {a0 args : Array Value} {own host : String} {index : Nat} {y : MethodName} (hZ : Z.Warmed39 s.vm) (w : (Cond.methodLinkNest own index y host).before a0 Z = true) : (Cond.methodLinkNest own index y host).before args s = true := (Cond.methodLinkNest_wide hZ w :)
theorem own_eq_i {args : Array Value} {first s : State} {o : Option Outcome} {idx : List Nat} {a : Term} {z : Int32} (h : (Cond.eq a (.int z)).value args first o s idx = some true) : a.eval args first o idx s = some (.int z) := by
  cases ha : a.eval args first o idx s with
  | none => simp [Cond.value, Term.eval, ha] at h
  | some x => cases x <;> simp [Cond.value, Term.eval, ha] at h ⊢; exact h
theorem own_eq_l {args : Array Value} {first s : State} {o : Option Outcome} {idx : List Nat} {a : Term} {z : Int64} (h : (Cond.eq a (.long z)).value args first o s idx = some true) : a.eval args first o idx s = some (.long z) := by
  cases ha : a.eval args first o idx s with
  | none => simp [Cond.value, Term.eval, ha] at h
  | some x => cases x <;> simp [Cond.value, Term.eval, ha] at h ⊢; exact h
theorem own_selp {s : State} {args args' : Array Value} {y r z : MethodName} (hsel : (Cond.selects y.cls r z).before args' s = true) (hinst : (Cond.instanceMethod y).before args s = true) (hpriv : s.PrivateAt y) (hz : z.cls = y.cls ∧ y.cls ≠ "java/lang/invoke/MethodHandle" ∧ y.cls ≠ "java/lang/invoke/VarHandle") : (Cond.selects y.cls y y).before args s = true := by
  obtain ⟨c, r', m, h1, -, h3, -, k, h5, h6⟩ := Cond.selects_spec hsel
  have hc : s.vm.findClass z.cls = some m.cls := findClass_of_methodNamed h3
  rw [hz.1] at hc
  exact Jvm.Stand.selects_self_of_private hc h5 h6 hpriv hinst hz.2
theorem own_irr (x : Int32) : ¬ (x < x) := by rw [Int32.lt_iff_toInt_lt]; omega
theorem own_ltL {x y : Int64} (h : x < y) : lcmpW x y < 0 := (lw_lt x y).mpr h
theorem own_nltL {x y : Int64} (h : ¬ x < y) : ¬ lcmpW x y < 0 := fun q => h ((lw_lt x y).mp q)
theorem own_gtL {x y : Int64} (h : y < x) : 0 < lcmpW x y := (lw_gt x y).mpr h
theorem own_ngtL {x y : Int64} (h : ¬ y < x) : ¬ 0 < lcmpW x y := fun q => h ((lw_gt x y).mp q)
theorem own_eqL {x y : Int64} (h : x = y) : lcmpW x y = 0 := (lw_eq x y).mpr h
theorem own_neqL {x y : Int64} (h : ¬ x = y) : ¬ lcmpW x y = 0 := fun q => h ((lw_eq x y).mp q)
end Jvm.RoadKit
namespace Jvm.Pilot.@@N@@
open Jvm Jvm.ClassFile Sem Op Lib Jvm.Free Jvm.Stand Jvm.LawKit Jvm.RoadKit Bundle Jvm.Pilot.@@N@@.Jvm.D
theorem own_and (x m : Int32) (k : Nat) (hk : k < 32) (hm : m.toBitVec.toNat = 2 ^ k - 1) : x &&& m = Int32.ofNat (x.toBitVec.toNat % 2 ^ k) := by
  apply Int32.toBitVec_inj.mp
  apply BitVec.eq_of_toNat_eq
  show (x.toBitVec &&& m.toBitVec).toNat = (x.toBitVec.toNat % 2 ^ k) % 2 ^ 32
  have hp : 2 ^ k ≤ 2 ^ 32 := Nat.pow_le_pow_right (by decide) (by omega)
  have hq : x.toBitVec.toNat % 2 ^ k < 2 ^ k := Nat.mod_lt _ (Nat.two_pow_pos k)
  rw [BitVec.toNat_and, hm, Nat.and_two_pow_sub_one_eq_mod, Nat.mod_eq_of_lt (Nat.lt_of_lt_of_le hq hp)]
theorem own_ofNat {n : Nat} (h : n < 2 ^ 31) : (Int32.ofNat n).toInt = n := Int32.toInt_ofNat_of_lt h
theorem own_rem {n k : Nat} (h : n < 2 ^ 31) (hk : 0 < k) (hk2 : k < 2 ^ 31) : Int32.ofNat n % Int32.ofNat k = Int32.ofNat (n % k) := by
  apply Int32.toInt_inj.mp
  have : n % k < k := Nat.mod_lt _ hk
  rw [Int32.toInt_mod, own_ofNat h, own_ofNat hk2, own_ofNat (by omega), Int.tmod_eq_emod_of_nonneg (by omega)]
  rfl
theorem own_bmod {n : Int} (h1 : -2 ^ 31 ≤ n) (h2 : n < 2 ^ 31) : n.bmod (2 ^ 32) = n := by
  rw [Int.bmod_def]; omega
theorem own_remE {n k : Nat} (h : n < 2 ^ 31) (hk : 0 < k) (hk2 : k < 2 ^ 31) : Int32.ofNat n - ((Int32.ofNat n / Int32.ofNat k) * Int32.ofNat k) = Int32.ofNat (n % k) := by
  apply Int32.toInt_inj.mp
  have h3 : n % k < k := Nat.mod_lt _ hk
  have h4 : n / k ≤ n := Nat.div_le_self _ _
  have h5 : (n / k) * k + n % k = n := Nat.div_add_mod' n k
  have e0 : (n : Int).tdiv (k : Int) = ((n / k : Nat) : Int) := rfl
  generalize n / k = d at *
  generalize n % k = r at *
  have e1 : (Int32.ofNat n / Int32.ofNat k).toInt = (d : Int) := by
    rw [Int32.toInt_div, own_ofNat h, own_ofNat hk2, e0]
    exact own_bmod (by omega) (by omega)
  have e2 : ((Int32.ofNat n / Int32.ofNat k) * Int32.ofNat k).toInt = ((d * k : Nat) : Int) := by
    rw [Int32.toInt_mul, e1, own_ofNat hk2, ← Int.natCast_mul]
    exact own_bmod (by omega) (by omega)
  rw [Int32.toInt_sub, e2, own_ofNat h, own_ofNat (by omega), own_bmod (by omega) (by omega)]
  omega
theorem own_and255 (x : Int32) : ¬ (x &&& 255) < 0 ∧ ¬ (255 : Int32) < (x &&& 255) := by
  rw [own_and x 255 8 (by decide) (by decide)]
  have h : x.toBitVec.toNat % 2 ^ 8 < 256 := Nat.mod_lt _ (by decide)
  generalize x.toBitVec.toNat % 2 ^ 8 = n at h
  have c0 : (0 : Int32).toInt = 0 := rfl
  have c1 : (255 : Int32).toInt = 255 := rfl
  rw [Int32.lt_iff_toInt_lt, Int32.lt_iff_toInt_lt, own_ofNat (by omega), c0, c1]
  omega
theorem own_lt_len {k n : Nat} (h : Int32.ofNat k < Int32.ofNat n) (hk : k < 2 ^ 31) (hn : n ≤ 4000) : k < n := by
  rw [Int32.lt_iff_toInt_lt, own_ofNat hk, own_ofNat (by omega)] at h; omega
theorem own_up {cs : List Int32} (h : ∀ c ∈ cs, ¬ c < 0 ∧ ¬ (255 : Int32) < c) : ∀ c ∈ cs, ¬ c < 0 ∧ ¬ (65535 : Int32) < c := fun c hc => by
  obtain ⟨h1, h2⟩ := h c hc
  refine ⟨h1, ?_⟩
  rw [Int32.lt_iff_toInt_lt] at *
  have c1 : (255 : Int32).toInt = 255 := rfl
  have c2 : (65535 : Int32).toInt = 65535 := rfl
  omega
theorem own_all {P : Nat → Nat → Prop} (h : ∀ b : Fin 5, ∀ s : Fin 4, 1 ≤ b.val → 1 ≤ s.val → P b.val s.val) {B S : Nat} (hB : 1 ≤ B ∧ B ≤ 4) (hS : 1 ≤ S ∧ S ≤ 3) : P B S := h ⟨B, by omega⟩ ⟨S, by omega⟩ hB.1 hS.1
theorem own_allB {P : Nat → Prop} (h : ∀ b : Fin 5, 1 ≤ b.val → P b.val) {B : Nat} (hB : 1 ≤ B ∧ B ≤ 4) : P B := h ⟨B, by omega⟩ hB.1
theorem own_ltk {a b : Nat} (h : a < b) (hb : b ≤ 24) : Int32.ofNat a < Int32.ofNat b := by
  rw [Int32.lt_iff_toInt_lt, own_ofNat (by omega), own_ofNat (by omega)]; omega
theorem own_nltk (n : Nat) : ¬ Int32.ofNat n < Int32.ofNat n := by
  rw [Int32.lt_iff_toInt_lt]; omega
theorem own_nek {a b : Nat} (h : a < b) (hb : b ≤ 24) : ¬ Int32.ofNat a = Int32.ofNat b := by
  intro e
  have := own_ltk h hb
  rw [e] at this
  exact own_nltk _ this
theorem own_addk1 {k : Nat} : Int32.ofNat k + (1 : Int32) = Int32.ofNat (k + 1) := (Int32.ofNat_add k 1).symm
theorem own_addk2 {k : Nat} : Int32.ofNat k + (2 : Int32) = Int32.ofNat (k + 2) := (Int32.ofNat_add k 2).symm
theorem own_addk3 {k : Nat} : Int32.ofNat k + (3 : Int32) = Int32.ofNat (k + 3) := (Int32.ofNat_add k 3).symm
theorem own_inck0 {k : Nat} : Int32.ofNat k + (1 : Int32) = Int32.ofNat (k + 1) := own_addk1
theorem own_inck1 {k : Nat} : Int32.ofNat (k + 1) + (1 : Int32) = Int32.ofNat (k + 2) := own_addk1
theorem own_inck2 {k : Nat} : Int32.ofNat (k + 2) + (1 : Int32) = Int32.ofNat (k + 3) := own_addk1
theorem own_ge1 {B : Nat} (hB : 1 ≤ B ∧ B ≤ 4) : ¬ Int32.ofNat B < (1 : Int32) := own_allB (P := fun B => ¬ Int32.ofNat B < (1 : Int32)) (by decide +kernel) hB
theorem own_S4 {S : Nat} (hS : 1 ≤ S ∧ S ≤ 3) : 1 ≤ S ∧ S ≤ 4 := by omega
theorem own_prodL {B S : Nat} (hB : 1 ≤ B ∧ B ≤ 4) (hS : 1 ≤ S ∧ S ≤ 3) : ¬ (1073741824 : Int64) < (((Int32.ofNat B).toInt64) * ((Int32.ofNat S).toInt64)) := own_all (P := fun B S => ¬ (1073741824 : Int64) < (((Int32.ofNat B).toInt64) * ((Int32.ofNat S).toInt64))) (by decide +kernel) hB hS
theorem own_prod {B S : Nat} (hB : 1 ≤ B ∧ B ≤ 4) (hS : 1 ≤ S ∧ S ≤ 3) : ((((Int32.ofNat B).toInt64) * ((Int32.ofNat S).toInt64)).toInt32) = Int32.ofNat (B * S) := own_all (P := fun B S => ((((Int32.ofNat B).toInt64) * ((Int32.ofNat S).toInt64)).toInt32) = Int32.ofNat (B * S)) (by decide +kernel) hB hS
theorem own_BS {B S : Nat} (hB : 1 ≤ B ∧ B ≤ 4) (hS : 1 ≤ S ∧ S ≤ 3) : B * S ≤ 12 := own_all (P := fun B S => B * S ≤ 12) (by decide +kernel) hB hS
theorem own_nneg {n : Nat} (h : n ≤ 12) : ¬ Int32.ofNat n < 0 := by
  have c0 : (0 : Int32).toInt = 0 := rfl
  rw [Int32.lt_iff_toInt_lt, own_ofNat (by omega), c0]; omega
theorem own_clamp' {n : Nat} (h : n ≤ 12) : (Int32.ofNat n).toNatClampNeg = n := by
  show (Int32.ofNat n).toInt.toNat = n
  rw [own_ofNat (by omega)]; rfl
theorem own_clamp {n : Nat} (h : n < 12) : (Int32.ofNat n).toNatClampNeg = n := own_clamp' (Nat.le_of_lt h)
theorem own_clampLe {n : Nat} (h : n ≤ 12) : (Int32.ofNat n).toNatClampNeg ≤ 12 := by rw [own_clamp' h]; exact h
theorem own_Bnn {B : Nat} (hB : 1 ≤ B ∧ B ≤ 4) : ¬ (((Int32.ofNat B).toInt64) < (0 : Int64)) := own_allB (P := fun B => ¬ (((Int32.ofNat B).toInt64) < (0 : Int64))) (by decide +kernel) hB
theorem own_Bnz {B : Nat} (hB : 1 ≤ B ∧ B ≤ 4) : ¬ (((Int32.ofNat B).toInt64) = 0) := own_allB (P := fun B => ¬ (((Int32.ofNat B).toInt64) = 0)) (by decide +kernel) hB
def own_H (h : Int64) : Prop := ∃ x : Nat, x < 256 ∧ h = Int64.ofNat x
theorem own_ltM {i M : Nat} (h : i < M) (hM : M ≤ 12) : Int32.ofNat i < Int32.ofNat M := own_ltk h (by omega)
theorem own_getJ (ls : List Int64) {i : Nat} (h : i ≤ 12) : (ls.map Value.long).getD (Int32.ofNat i).toNatClampNeg (.long (0 : Int64)) = .long (ls.getD i 0) := by
  rw [own_clamp' h, List.getD_eq_getElem?_getD, List.getD_eq_getElem?_getD, List.getElem?_map]
  cases ls[i]? <;> rfl
theorem own_st4 {r : Slot} {F : Int64} {a v : Int32} {s4 : Slot} (h : One s4) : storeLocals #[r, .val (.long F), .second, .val (.int a), s4] 4 (.int v) = some #[r, .val (.long F), .second, .val (.int a), .val (.int v)] := by
  rcases h with rfl | ⟨w, rfl, hw⟩
  · rfl
  · cases w <;> first | rfl | (simp [Value.category] at hw)
def own_Z : List Int64 := List.replicate 12 (0 : Int64)
theorem d_init_0 : decode prog_25_method_1_code 0 = .ok (.aload_n 0, 1) := by decide +kernel
theorem d_init_1 : decode prog_25_method_1_code 1 = .ok (.invokespecial 3, 3) := by decide +kernel
theorem d_init_4 : decode prog_25_method_1_code 4 = .ok (.iload_n 1, 1) := by decide +kernel
theorem d_init_5 : decode prog_25_method_1_code 5 = .ok (.i2l, 1) := by decide +kernel
theorem d_init_6 : decode prog_25_method_1_code 6 = .ok (.iload_n 2, 1) := by decide +kernel
theorem d_init_7 : decode prog_25_method_1_code 7 = .ok (.i2l, 1) := by decide +kernel
theorem d_init_8 : decode prog_25_method_1_code 8 = .ok (.lmul, 1) := by decide +kernel
theorem d_init_9 : decode prog_25_method_1_code 9 = .ok (.lstore_n 3, 1) := by decide +kernel
theorem d_init_10 : decode prog_25_method_1_code 10 = .ok (.iload_n 1, 1) := by decide +kernel
theorem d_init_11 : decode prog_25_method_1_code 11 = .ok (.iconst 1, 1) := by decide +kernel
theorem d_init_12 : decode prog_25_method_1_code 12 = .ok (.if_icmp .lt 16, 3) := by decide +kernel
theorem d_init_15 : decode prog_25_method_1_code 15 = .ok (.iload_n 2, 1) := by decide +kernel
theorem d_init_16 : decode prog_25_method_1_code 16 = .ok (.iconst 1, 1) := by decide +kernel
theorem d_init_17 : decode prog_25_method_1_code 17 = .ok (.if_icmp .lt 11, 3) := by decide +kernel
theorem d_init_20 : decode prog_25_method_1_code 20 = .ok (.lload_n 3, 1) := by decide +kernel
theorem d_init_21 : decode prog_25_method_1_code 21 = .ok (.ldc2_w 11, 3) := by decide +kernel
theorem d_init_24 : decode prog_25_method_1_code 24 = .ok (.lcmp, 1) := by decide +kernel
theorem d_init_25 : decode prog_25_method_1_code 25 = .ok (.ifCond .le 18, 3) := by decide +kernel
theorem d_init_43 : decode prog_25_method_1_code 43 = .ok (.aload_n 0, 1) := by decide +kernel
theorem d_init_44 : decode prog_25_method_1_code 44 = .ok (.iload_n 1, 1) := by decide +kernel
theorem d_init_45 : decode prog_25_method_1_code 45 = .ok (.putfield 22, 3) := by decide +kernel
theorem d_init_48 : decode prog_25_method_1_code 48 = .ok (.aload_n 0, 1) := by decide +kernel
theorem d_init_49 : decode prog_25_method_1_code 49 = .ok (.iload_n 2, 1) := by decide +kernel
theorem d_init_50 : decode prog_25_method_1_code 50 = .ok (.putfield 26, 3) := by decide +kernel
theorem d_init_53 : decode prog_25_method_1_code 53 = .ok (.aload_n 0, 1) := by decide +kernel
theorem d_init_54 : decode prog_25_method_1_code 54 = .ok (.lload_n 3, 1) := by decide +kernel
theorem d_init_55 : decode prog_25_method_1_code 55 = .ok (.l2i, 1) := by decide +kernel
theorem d_init_56 : decode prog_25_method_1_code 56 = .ok (.newarray .long, 2) := by decide +kernel
theorem d_init_58 : decode prog_25_method_1_code 58 = .ok (.putfield 29, 3) := by decide +kernel
theorem d_init_61 : decode prog_25_method_1_code 61 = .ok (.aload_n 0, 1) := by decide +kernel
theorem d_init_62 : decode prog_25_method_1_code 62 = .ok (.lload_n 3, 1) := by decide +kernel
theorem d_init_63 : decode prog_25_method_1_code 63 = .ok (.l2i, 1) := by decide +kernel
theorem d_init_64 : decode prog_25_method_1_code 64 = .ok (.newarray .long, 2) := by decide +kernel
theorem d_init_66 : decode prog_25_method_1_code 66 = .ok (.putfield 33, 3) := by decide +kernel
theorem d_init_69 : decode prog_25_method_1_code 69 = .ok (.return_, 1) := by decide +kernel
theorem pn_0 : plainName "com/example/auspex/auspex/manager/ConflictTable" = true := by first | (simp [plainName, overriddenIn]; done) | decide +kernel
theorem ef_init (m : MethodId) (x0 : Addr) (x1 : Int32) (x2 : Int32) : entryFrame m #[(.ref x0), (.int x1), (.int x2)] 5 = mkF m 0 #[.val (.ref x0), .val (.int x1), .val (.int x2), .unset, .unset] [] := by first | (simp [entryFrame, mkF, argsToLocals, Value.category]; done) | rfl
def Q_init (Z : State) (r0 : Addr) (B : Nat) (S : Nat) (h0 : Heap) (n0 : Nat) (v : Option Value) (h : Heap) (L : List Loc) : Prop := ∃ (xa : Addr) (xk : ClassId) (xc : Addr) (xl : ClassId), v = none ∧ Fr n0 L ∧ Keep h0 h [r0] ∧ h0.size ≤ xa ∧ h0.size ≤ xc ∧ xa ≠ xc ∧ Exa Z h r0 "com/example/auspex/auspex/manager/ConflictTable" ∧ Fld Z h r0 "com/example/auspex/auspex/manager/ConflictTable" "buckets" "I" (.int (Int32.ofNat B)) ∧ Fld Z h r0 "com/example/auspex/auspex/manager/ConflictTable" "slotsPerBucket" "I" (.int (Int32.ofNat S)) ∧ Fld Z h r0 "com/example/auspex/auspex/manager/ConflictTable" "hashes" "[J" (.ref xa) ∧ Fld Z h r0 "com/example/auspex/auspex/manager/ConflictTable" "commits" "[J" (.ref xc) ∧ Arv Z h xa xk .long (Int32.ofNat (B * S)) (own_Z.map Value.long) (.long (0 : Int64)) ∧ Arv Z h xc xl .long (Int32.ofNat (B * S)) (own_Z.map Value.long) (.long (0 : Int64))
set_option maxRecDepth 65536 in
set_option maxHeartbeats 40000000 in
theorem rm_init (l : Launch) (Z : State) (a0 : Array Value) (hw : ∀ d ∈ tables_1, d.before a0 Z = true) (ws : List Jvm.Cond) (r0 : Addr) (B : Nat) (S : Nat) (h0 : Heap) (n0 : Nat) (Z0 : n0 ≤ h0.size) (F_buckets : Fld Z h0 r0 "com/example/auspex/auspex/manager/ConflictTable" "buckets" "I" (.int (0 : Int32))) (F_slotsPerBucket : Fld Z h0 r0 "com/example/auspex/auspex/manager/ConflictTable" "slotsPerBucket" "I" (.int (0 : Int32))) (F_hashes : Fld Z h0 r0 "com/example/auspex/auspex/manager/ConflictTable" "hashes" "[J" .null) (F_commits : Fld Z h0 r0 "com/example/auspex/auspex/manager/ConflictTable" "commits" "[J" .null) (E_r0 : Exa Z h0 r0 "com/example/auspex/auspex/manager/ConflictTable") (g_r0 : n0 ≤ r0) (hB : 1 ≤ B ∧ B ≤ 4) (hS : 1 ≤ S ∧ S ≤ 3) :
    MetFree l (⟨"com/example/auspex/auspex/manager/ConflictTable", "<init>", "(II)V"⟩ : MethodName) (head1 (Jvm.Cond.code (⟨"com/example/auspex/auspex/manager/ConflictTable", "<init>", "(II)V"⟩ : MethodName) prog_25_method_1_code 5 none :: ws) ({ frames := 1, cells := 2, slots := 24, locals := 12 } : Room)) (fun a U => a = #[(.ref r0), (.int (Int32.ofNat B)), (.int (Int32.ofNat S))] ∧ Z.Warmed39 U.vm ∧ U.heap = h0) (fun _ _ _ _ _ => True) (fun _ U o U' => ∃ v L, o = .returned v ∧ Q_init Z r0 B S h0 n0 v U'.heap L ∧ FrameEnd U o U' L ({ frames := 1, cells := 2, slots := 24, locals := 12 } : Room).cells ({ frames := 1, cells := 2, slots := 24, locals := 12 } : Room).slots) := by
  refine MetFree.of_bodySF (plainFor_of_name pn_0) hisR ?_
  intro p e s m args below meth c s₁ Bd hml0 hP hK
  obtain ⟨rfl, hZ, hh⟩ := hP
  have hx := Bd.exec
  have hby := Bd.bytes
  have hml : c.maxLocals = 5 := hml0
  have hown : s.vm.findClass "com/example/auspex/auspex/manager/ConflictTable" = some m.cls := findClass_of_methodNamed Bd.named
  have hnm := (name_of_methodNamed Bd.named Bd.method).1
  have X0 : Stand p l e ({ frames := 1, cells := 2, slots := 24, locals := 12 } : Room) s m #[(.ref r0), (.int (Int32.ofNat B)), (.int (Int32.ofNat S))] below meth c s₁ [] 0 0 := Stand.of_body Bd
  have e0 : s₁.heap = h0 := by rw [← hh, Bd.state]; rfl
  have N0 := Fr.nil n0
  have pre0 : ∀ t, Steps p.tables e below (s₁.setTop (mkF m 0 #[.val (.ref r0), .val (.int (Int32.ofNat B)), .val (.int (Int32.ofNat S)), .unset, .unset] [])) t → Steps p.tables e below (s₁.setTop (entryFrame m #[(.ref r0), (.int (Int32.ofNat B)), (.int (Int32.ofNat S))] 5)) t := fun t k => castTop (ef_init m r0 (Int32.ofNat B) (Int32.ofNat S)) k
  have k1 : Go p.tables e below (s₁.setTop (mkF m 0 #[.val (.ref r0), .val (.int (Int32.ofNat B)), .val (.int (Int32.ofNat S)), .unset, .unset] [])) (s₁.setTop (mkF m 1 #[.val (.ref r0), .val (.int (Int32.ofNat B)), .val (.int (Int32.ofNat S)), .unset, .unset] [(.ref r0)])) := by
    intro t ht
    refine XS.aloadN X0.here hx rfl (hb hby d_init_0) rfl rfl ?_
    exact ht
  obtain ⟨T2, X2, e2, st2⟩ := initO X0 hx hZ hown (hw _ (List.mem_of_getElem? (i := 7) rfl)) (hw _ (List.mem_of_getElem? (i := 8) rfl)) (hw _ (List.mem_of_getElem? (i := 9) rfl)) e0 (g := (mkF m 1 #[.val (.ref r0), .val (.int (Int32.ofNat B)), .val (.int (Int32.ofNat S)), .unset, .unset] [(.ref r0)])) rfl (by rw [hml]; rfl) rfl (hb hby d_init_1) (by decide) (W := 0) (by show 2 * 0 + _ ≤ _; exact Nat.le_of_eq rfl) (by decide)
  have k2 : Go p.tables e below (s₁.setTop (mkF m 1 #[.val (.ref r0), .val (.int (Int32.ofNat B)), .val (.int (Int32.ofNat S)), .unset, .unset] [(.ref r0)])) (T2.setTop (mkF m 4 #[.val (.ref r0), .val (.int (Int32.ofNat B)), .val (.int (Int32.ofNat S)), .unset, .unset] [])) := st2
  have k3 : Go p.tables e below (T2.setTop (mkF m 4 #[.val (.ref r0), .val (.int (Int32.ofNat B)), .val (.int (Int32.ofNat S)), .unset, .unset] [])) (T2.setTop (mkF m 45 #[.val (.ref r0), .val (.int (Int32.ofNat B)), .val (.int (Int32.ofNat S)), .val (.long (((Int32.ofNat B).toInt64) * ((Int32.ofNat S).toInt64))), .second] [(.int (Int32.ofNat B)), (.ref r0)])) := by
    intro t ht
    refine XS.iloadN X2.here hx rfl (hb hby d_init_4) rfl ?_
    show Steps p.tables e below (T2.setTop (mkF m 5 #[.val (.ref r0), .val (.int (Int32.ofNat B)), .val (.int (Int32.ofNat S)), .unset, .unset] [(.int (Int32.ofNat B))])) _
    refine XS.i2l X2.here hx rfl (hb hby d_init_5) rfl ?_
    show Steps p.tables e below (T2.setTop (mkF m 6 #[.val (.ref r0), .val (.int (Int32.ofNat B)), .val (.int (Int32.ofNat S)), .unset, .unset] [(.long ((Int32.ofNat B).toInt64))])) _
    refine XS.iloadN X2.here hx rfl (hb hby d_init_6) rfl ?_
    show Steps p.tables e below (T2.setTop (mkF m 7 #[.val (.ref r0), .val (.int (Int32.ofNat B)), .val (.int (Int32.ofNat S)), .unset, .unset] [(.int (Int32.ofNat S)), (.long ((Int32.ofNat B).toInt64))])) _
    refine XS.i2l X2.here hx rfl (hb hby d_init_7) rfl ?_
    show Steps p.tables e below (T2.setTop (mkF m 8 #[.val (.ref r0), .val (.int (Int32.ofNat B)), .val (.int (Int32.ofNat S)), .unset, .unset] [(.long ((Int32.ofNat S).toInt64)), (.long ((Int32.ofNat B).toInt64))])) _
    refine XS.lmul X2.here hx rfl (hb hby d_init_8) rfl ?_
    show Steps p.tables e below (T2.setTop (mkF m 9 #[.val (.ref r0), .val (.int (Int32.ofNat B)), .val (.int (Int32.ofNat S)), .unset, .unset] [(.long (((Int32.ofNat B).toInt64) * ((Int32.ofNat S).toInt64)))])) _
    refine XS.lstoreN X2.here hx rfl (hb hby d_init_9) rfl (l' := #[.val (.ref r0), .val (.int (Int32.ofNat B)), .val (.int (Int32.ofNat S)), .val (.long (((Int32.ofNat B).toInt64) * ((Int32.ofNat S).toInt64))), .second]) rfl ?_
    show Steps p.tables e below (T2.setTop (mkF m 10 #[.val (.ref r0), .val (.int (Int32.ofNat B)), .val (.int (Int32.ofNat S)), .val (.long (((Int32.ofNat B).toInt64) * ((Int32.ofNat S).toInt64))), .second] [])) _
    refine XS.iloadN X2.here hx rfl (hb hby d_init_10) rfl ?_
    show Steps p.tables e below (T2.setTop (mkF m 11 #[.val (.ref r0), .val (.int (Int32.ofNat B)), .val (.int (Int32.ofNat S)), .val (.long (((Int32.ofNat B).toInt64) * ((Int32.ofNat S).toInt64))), .second] [(.int (Int32.ofNat B))])) _
    refine XS.iconst X2.here hx rfl (hb hby d_init_11) ?_
    show Steps p.tables e below (T2.setTop (mkF m 12 #[.val (.ref r0), .val (.int (Int32.ofNat B)), .val (.int (Int32.ofNat S)), .val (.long (((Int32.ofNat B).toInt64) * ((Int32.ofNat S).toInt64))), .second] [(.int (1 : Int32)), (.int (Int32.ofNat B))])) _
    refine XS.icmpNo X2.here hx rfl (hb hby d_init_12) rfl (flt (own_ge1 hB)).1 ?_
    show Steps p.tables e below (T2.setTop (mkF m 15 #[.val (.ref r0), .val (.int (Int32.ofNat B)), .val (.int (Int32.ofNat S)), .val (.long (((Int32.ofNat B).toInt64) * ((Int32.ofNat S).toInt64))), .second] [])) _
    refine XS.iloadN X2.here hx rfl (hb hby d_init_15) rfl ?_
    show Steps p.tables e below (T2.setTop (mkF m 16 #[.val (.ref r0), .val (.int (Int32.ofNat B)), .val (.int (Int32.ofNat S)), .val (.long (((Int32.ofNat B).toInt64) * ((Int32.ofNat S).toInt64))), .second] [(.int (Int32.ofNat S))])) _
    refine XS.iconst X2.here hx rfl (hb hby d_init_16) ?_
    show Steps p.tables e below (T2.setTop (mkF m 17 #[.val (.ref r0), .val (.int (Int32.ofNat B)), .val (.int (Int32.ofNat S)), .val (.long (((Int32.ofNat B).toInt64) * ((Int32.ofNat S).toInt64))), .second] [(.int (1 : Int32)), (.int (Int32.ofNat S))])) _
    refine XS.icmpNo X2.here hx rfl (hb hby d_init_17) rfl (flt (own_ge1 (own_S4 hS))).1 ?_
    show Steps p.tables e below (T2.setTop (mkF m 20 #[.val (.ref r0), .val (.int (Int32.ofNat B)), .val (.int (Int32.ofNat S)), .val (.long (((Int32.ofNat B).toInt64) * ((Int32.ofNat S).toInt64))), .second] [])) _
    refine XS.lloadN X2.here hx rfl (hb hby d_init_20) rfl ?_
    show Steps p.tables e below (T2.setTop (mkF m 21 #[.val (.ref r0), .val (.int (Int32.ofNat B)), .val (.int (Int32.ofNat S)), .val (.long (((Int32.ofNat B).toInt64) * ((Int32.ofNat S).toInt64))), .second] [(.long (((Int32.ofNat B).toInt64) * ((Int32.ofNat S).toInt64)))])) _
    refine X2.ldc2Long hx hown (mvT hZ (hw _ (List.mem_of_getElem? (i := 10) rfl))) (g := (mkF m 21 #[.val (.ref r0), .val (.int (Int32.ofNat B)), .val (.int (Int32.ofNat S)), .val (.long (((Int32.ofNat B).toInt64) * ((Int32.ofNat S).toInt64))), .second] [(.long (((Int32.ofNat B).toInt64) * ((Int32.ofNat S).toInt64)))])) rfl (hb hby d_init_21) _ ?_
    show Steps p.tables e below (T2.setTop (mkF m 24 #[.val (.ref r0), .val (.int (Int32.ofNat B)), .val (.int (Int32.ofNat S)), .val (.long (((Int32.ofNat B).toInt64) * ((Int32.ofNat S).toInt64))), .second] [(.long (1073741824 : Int64)), (.long (((Int32.ofNat B).toInt64) * ((Int32.ofNat S).toInt64)))])) _
    refine XS.lcmp X2.here hx rfl (hb hby d_init_24) rfl ?_
    show Steps p.tables e below (T2.setTop (mkF m 25 #[.val (.ref r0), .val (.int (Int32.ofNat B)), .val (.int (Int32.ofNat S)), .val (.long (((Int32.ofNat B).toInt64) * ((Int32.ofNat S).toInt64))), .second] [(.int (lcmpW (((Int32.ofNat B).toInt64) * ((Int32.ofNat S).toInt64)) (1073741824 : Int64)))])) _
    refine XS.ifYes X2.here hx rfl (pc0 := 25) (pc' := 43) rfl (hb hby d_init_25) rfl ((if0 _ _).trans (flt (own_ngtL (own_prodL hB hS))).2.2.2) (by decide) (by decide) ?_
    show Steps p.tables e below (T2.setTop (mkF m 43 #[.val (.ref r0), .val (.int (Int32.ofNat B)), .val (.int (Int32.ofNat S)), .val (.long (((Int32.ofNat B).toInt64) * ((Int32.ofNat S).toInt64))), .second] [])) _
    refine XS.aloadN X2.here hx rfl (hb hby d_init_43) rfl rfl ?_
    show Steps p.tables e below (T2.setTop (mkF m 44 #[.val (.ref r0), .val (.int (Int32.ofNat B)), .val (.int (Int32.ofNat S)), .val (.long (((Int32.ofNat B).toInt64) * ((Int32.ofNat S).toInt64))), .second] [(.ref r0)])) _
    refine XS.iloadN X2.here hx rfl (hb hby d_init_44) rfl ?_
    exact ht
  obtain ⟨T4, h4, X4, e4, W4, st4⟩ := putF X2 hx hZ hown (host := "") (Or.inl (hw _ (List.mem_of_getElem? (i := 11) rfl))) Via.refl e2 F_buckets E_r0 (Or.inr ⟨(hw _ (List.mem_of_getElem? (i := 12) rfl)), rfl, hnm⟩) (hw _ (List.mem_of_getElem? (i := 2) rfl)) (ty := .int) (by decide) rfl rfl (g := (mkF m 45 #[.val (.ref r0), .val (.int (Int32.ofNat B)), .val (.int (Int32.ofNat S)), .val (.long (((Int32.ofNat B).toInt64) * ((Int32.ofNat S).toInt64))), .second] [(.int (Int32.ofNat B)), (.ref r0)])) rfl rfl (hb hby d_init_45)
  have Kp4 : Keep h0 h4 [r0] := (Keep.refl h0 [r0]).wr W4 (Or.inl (by simp))
  have Z4 : n0 ≤ h4.size := Nat.le_trans Z0 (Keep.of_wr W4).1
  have F_buckets_c_4 := F_buckets.same W4
  have F_slotsPerBucket_c_4 := F_slotsPerBucket.other W4 (Or.inr (slot_ne (Or.inr (hw _ (List.mem_of_getElem? (i := 14) rfl))) (Or.inr (hw _ (List.mem_of_getElem? (i := 12) rfl))) (by decide) (t := .int) (t' := .int) (by decide) (by decide)))
  have F_hashes_c_4 := F_hashes.other W4 (Or.inr (slot_ne (Or.inr (hw _ (List.mem_of_getElem? (i := 17) rfl))) (Or.inr (hw _ (List.mem_of_getElem? (i := 12) rfl))) (by decide) (t := (.array .long)) (t' := .int) (by decide) (by decide)))
  have F_c_4 := F_commits.other W4 (Or.inr (slot_ne (Or.inr (hw _ (List.mem_of_getElem? (i := 19) rfl))) (Or.inr (hw _ (List.mem_of_getElem? (i := 12) rfl))) (by decide) (t := (.array .long)) (t' := .int) (by decide) (by decide)))
  have E_r0_c_4 := E_r0.wr W4
  have k4 : Go p.tables e below (T2.setTop (mkF m 45 #[.val (.ref r0), .val (.int (Int32.ofNat B)), .val (.int (Int32.ofNat S)), .val (.long (((Int32.ofNat B).toInt64) * ((Int32.ofNat S).toInt64))), .second] [(.int (Int32.ofNat B)), (.ref r0)])) (T4.setTop (mkF m 48 #[.val (.ref r0), .val (.int (Int32.ofNat B)), .val (.int (Int32.ofNat S)), .val (.long (((Int32.ofNat B).toInt64) * ((Int32.ofNat S).toInt64))), .second] [])) := st4
  have N4 := Fr.snoc X4 N0 g_r0
  have k5 : Go p.tables e below (T4.setTop (mkF m 48 #[.val (.ref r0), .val (.int (Int32.ofNat B)), .val (.int (Int32.ofNat S)), .val (.long (((Int32.ofNat B).toInt64) * ((Int32.ofNat S).toInt64))), .second] [])) (T4.setTop (mkF m 50 #[.val (.ref r0), .val (.int (Int32.ofNat B)), .val (.int (Int32.ofNat S)), .val (.long (((Int32.ofNat B).toInt64) * ((Int32.ofNat S).toInt64))), .second] [(.int (Int32.ofNat S)), (.ref r0)])) := by
    intro t ht
    refine XS.aloadN X4.here hx rfl (hb hby d_init_48) rfl rfl ?_
    show Steps p.tables e below (T4.setTop (mkF m 49 #[.val (.ref r0), .val (.int (Int32.ofNat B)), .val (.int (Int32.ofNat S)), .val (.long (((Int32.ofNat B).toInt64) * ((Int32.ofNat S).toInt64))), .second] [(.ref r0)])) _
    refine XS.iloadN X4.here hx rfl (hb hby d_init_49) rfl ?_
    exact ht
  obtain ⟨T6, h6, X6, e6, W6, st6⟩ := putF X4 hx hZ hown (host := "") (Or.inl (hw _ (List.mem_of_getElem? (i := 13) rfl))) Via.refl e4 F_slotsPerBucket_c_4 E_r0_c_4 (Or.inr ⟨(hw _ (List.mem_of_getElem? (i := 14) rfl)), rfl, hnm⟩) (hw _ (List.mem_of_getElem? (i := 2) rfl)) (ty := .int) (by decide) rfl rfl (g := (mkF m 50 #[.val (.ref r0), .val (.int (Int32.ofNat B)), .val (.int (Int32.ofNat S)), .val (.long (((Int32.ofNat B).toInt64) * ((Int32.ofNat S).toInt64))), .second] [(.int (Int32.ofNat S)), (.ref r0)])) rfl rfl (hb hby d_init_50)
  have Kp6 : Keep h0 h6 [r0] := Kp4.wr W6 (Or.inl (by simp))
  have Z6 : n0 ≤ h6.size := Nat.le_trans Z4 (Keep.of_wr W6).1
  have F_buckets_c_6 := F_buckets_c_4.other W6 (Or.inr (slot_ne (Or.inr (hw _ (List.mem_of_getElem? (i := 12) rfl))) (Or.inr (hw _ (List.mem_of_getElem? (i := 14) rfl))) (by decide) (t := .int) (t' := .int) (by decide) (by decide)))
  have F_slotsPerBucket_c_6 := F_slotsPerBucket_c_4.same W6
  have F_hashes_c_6 := F_hashes_c_4.other W6 (Or.inr (slot_ne (Or.inr (hw _ (List.mem_of_getElem? (i := 17) rfl))) (Or.inr (hw _ (List.mem_of_getElem? (i := 14) rfl))) (by decide) (t := (.array .long)) (t' := .int) (by decide) (by decide)))
  have F_c_6 := F_c_4.other W6 (Or.inr (slot_ne (Or.inr (hw _ (List.mem_of_getElem? (i := 19) rfl))) (Or.inr (hw _ (List.mem_of_getElem? (i := 14) rfl))) (by decide) (t := (.array .long)) (t' := .int) (by decide) (by decide)))
  have E_r0_c_6 := E_r0_c_4.wr W6
  have k6 : Go p.tables e below (T4.setTop (mkF m 50 #[.val (.ref r0), .val (.int (Int32.ofNat B)), .val (.int (Int32.ofNat S)), .val (.long (((Int32.ofNat B).toInt64) * ((Int32.ofNat S).toInt64))), .second] [(.int (Int32.ofNat S)), (.ref r0)])) (T6.setTop (mkF m 53 #[.val (.ref r0), .val (.int (Int32.ofNat B)), .val (.int (Int32.ofNat S)), .val (.long (((Int32.ofNat B).toInt64) * ((Int32.ofNat S).toInt64))), .second] [])) := st6
  have N6 := Fr.snoc X6 N4 g_r0
  have k7 : Go p.tables e below (T6.setTop (mkF m 53 #[.val (.ref r0), .val (.int (Int32.ofNat B)), .val (.int (Int32.ofNat S)), .val (.long (((Int32.ofNat B).toInt64) * ((Int32.ofNat S).toInt64))), .second] [])) (T6.setTop (mkF m 56 #[.val (.ref r0), .val (.int (Int32.ofNat B)), .val (.int (Int32.ofNat S)), .val (.long (((Int32.ofNat B).toInt64) * ((Int32.ofNat S).toInt64))), .second] [(.int ((((Int32.ofNat B).toInt64) * ((Int32.ofNat S).toInt64)).toInt32)), (.ref r0)])) := by
    intro t ht
    refine XS.aloadN X6.here hx rfl (hb hby d_init_53) rfl rfl ?_
    show Steps p.tables e below (T6.setTop (mkF m 54 #[.val (.ref r0), .val (.int (Int32.ofNat B)), .val (.int (Int32.ofNat S)), .val (.long (((Int32.ofNat B).toInt64) * ((Int32.ofNat S).toInt64))), .second] [(.ref r0)])) _
    refine XS.lloadN X6.here hx rfl (hb hby d_init_54) rfl ?_
    show Steps p.tables e below (T6.setTop (mkF m 55 #[.val (.ref r0), .val (.int (Int32.ofNat B)), .val (.int (Int32.ofNat S)), .val (.long (((Int32.ofNat B).toInt64) * ((Int32.ofNat S).toInt64))), .second] [(.long (((Int32.ofNat B).toInt64) * ((Int32.ofNat S).toInt64))), (.ref r0)])) _
    refine XS.l2i X6.here hx rfl (hb hby d_init_55) rfl ?_
    exact ht
  have k8 : Go p.tables e below (T6.setTop (mkF m 56 #[.val (.ref r0), .val (.int (Int32.ofNat B)), .val (.int (Int32.ofNat S)), .val (.long (((Int32.ofNat B).toInt64) * ((Int32.ofNat S).toInt64))), .second] [(.int ((((Int32.ofNat B).toInt64) * ((Int32.ofNat S).toInt64)).toInt32)), (.ref r0)])) (T6.setTop (mkF m 56 #[.val (.ref r0), .val (.int (Int32.ofNat B)), .val (.int (Int32.ofNat S)), .val (.long (((Int32.ofNat B).toInt64) * ((Int32.ofNat S).toInt64))), .second] [(.int (Int32.ofNat (B * S))), (.ref r0)])) := by rw [own_prod hB hS]; exact fun _ h => h
  obtain ⟨T9, h9, kc9, X9, e9, E9, A9, st9⟩ := newP X6 hx hZ (hw _ (List.mem_of_getElem? (i := 15) rfl)) e6 (g := (mkF m 56 #[.val (.ref r0), .val (.int (Int32.ofNat B)), .val (.int (Int32.ofNat S)), .val (.long (((Int32.ofNat B).toInt64) * ((Int32.ofNat S).toInt64))), .second] [(.int (Int32.ofNat (B * S))), (.ref r0)])) rfl (hb hby d_init_56) rfl (own_nneg (own_BS hB hS)) (cap := 12) (own_clampLe (own_BS hB hS)) (by decide) (by decide) (by decide)
  obtain ⟨b9, g9⟩ : ∃ z, z = h6.size := ⟨_, rfl⟩
  rw [← g9] at A9 st9
  have g_b9 : n0 ≤ b9 := Nat.le_trans Z6 (Nat.le_of_eq g9.symm)
  have sz_b9 : h0.size ≤ b9 := Nat.le_trans Kp6.1 (Nat.le_of_eq g9.symm)
  have ne_r0_b9 : r0 ≠ b9 := Nat.ne_of_lt (Nat.lt_of_lt_of_le F_buckets_c_6.lt (Nat.le_of_eq g9.symm))
  have Kp9 : Keep h0 h9 [r0] := Kp6.ext E9
  have Z9 : n0 ≤ h9.size := Nat.le_trans Z6 E9.1
  have F_buckets_c_9 := F_buckets_c_6.ext E9
  have F_slotsPerBucket_c_9 := F_slotsPerBucket_c_6.ext E9
  have F_hashes_c_9 := F_hashes_c_6.ext E9
  have F_c_9 := F_c_6.ext E9
  have E_r0_c_9 := E_r0_c_6.ext E9
  have V_b9 : Arv Z h9 b9 kc9 .long (Int32.ofNat (B * S)) ((List.replicate 12 (0 : Int64)).map Value.long) (.long (0 : Int64)) := (Arv.new A9 (own_nneg (own_BS hB hS))).pad (pad_rep [] (.long (0 : Int64)) 12)
  have k9 : Go p.tables e below (T6.setTop (mkF m 56 #[.val (.ref r0), .val (.int (Int32.ofNat B)), .val (.int (Int32.ofNat S)), .val (.long (((Int32.ofNat B).toInt64) * ((Int32.ofNat S).toInt64))), .second] [(.int (Int32.ofNat (B * S))), (.ref r0)])) (T9.setTop (mkF m 58 #[.val (.ref r0), .val (.int (Int32.ofNat B)), .val (.int (Int32.ofNat S)), .val (.long (((Int32.ofNat B).toInt64) * ((Int32.ofNat S).toInt64))), .second] [(.ref b9), (.ref r0)])) := st9
  obtain ⟨T10, h10, X10, e10, W10, st10⟩ := putF X9 hx hZ hown (host := "") (Or.inl (hw _ (List.mem_of_getElem? (i := 16) rfl))) Via.refl e9 F_hashes_c_9 E_r0_c_9 (Or.inr ⟨(hw _ (List.mem_of_getElem? (i := 17) rfl)), rfl, hnm⟩) (hw _ (List.mem_of_getElem? (i := 2) rfl)) (ty := (.array .long)) (by decide) rfl rfl (g := (mkF m 58 #[.val (.ref r0), .val (.int (Int32.ofNat B)), .val (.int (Int32.ofNat S)), .val (.long (((Int32.ofNat B).toInt64) * ((Int32.ofNat S).toInt64))), .second] [(.ref b9), (.ref r0)])) rfl rfl (hb hby d_init_58)
  have Kp10 : Keep h0 h10 [r0] := Kp9.wr W10 (Or.inl (by simp))
  have Z10 : n0 ≤ h10.size := Nat.le_trans Z9 (Keep.of_wr W10).1
  have F_buckets_c_10 := F_buckets_c_9.other W10 (Or.inr (slot_ne (Or.inr (hw _ (List.mem_of_getElem? (i := 12) rfl))) (Or.inr (hw _ (List.mem_of_getElem? (i := 17) rfl))) (by decide) (t := .int) (t' := (.array .long)) (by decide) (by decide)))
  have F_slotsPerBucket_c_10 := F_slotsPerBucket_c_9.other W10 (Or.inr (slot_ne (Or.inr (hw _ (List.mem_of_getElem? (i := 14) rfl))) (Or.inr (hw _ (List.mem_of_getElem? (i := 17) rfl))) (by decide) (t := .int) (t' := (.array .long)) (by decide) (by decide)))
  have F_hashes_c_10 := F_hashes_c_9.same W10
  have F_c_10 := F_c_9.other W10 (Or.inr (slot_ne (Or.inr (hw _ (List.mem_of_getElem? (i := 19) rfl))) (Or.inr (hw _ (List.mem_of_getElem? (i := 17) rfl))) (by decide) (t := (.array .long)) (t' := (.array .long)) (by decide) (by decide)))
  have E_r0_c_10 := E_r0_c_9.wr W10
  have V_b9_c_10 := V_b9.other W10 (Ne.symm ne_r0_b9)
  have k10 : Go p.tables e below (T9.setTop (mkF m 58 #[.val (.ref r0), .val (.int (Int32.ofNat B)), .val (.int (Int32.ofNat S)), .val (.long (((Int32.ofNat B).toInt64) * ((Int32.ofNat S).toInt64))), .second] [(.ref b9), (.ref r0)])) (T10.setTop (mkF m 61 #[.val (.ref r0), .val (.int (Int32.ofNat B)), .val (.int (Int32.ofNat S)), .val (.long (((Int32.ofNat B).toInt64) * ((Int32.ofNat S).toInt64))), .second] [])) := st10
  have N10 := Fr.snoc X10 N6 g_r0
  have k11 : Go p.tables e below (T10.setTop (mkF m 61 #[.val (.ref r0), .val (.int (Int32.ofNat B)), .val (.int (Int32.ofNat S)), .val (.long (((Int32.ofNat B).toInt64) * ((Int32.ofNat S).toInt64))), .second] [])) (T10.setTop (mkF m 64 #[.val (.ref r0), .val (.int (Int32.ofNat B)), .val (.int (Int32.ofNat S)), .val (.long (((Int32.ofNat B).toInt64) * ((Int32.ofNat S).toInt64))), .second] [(.int ((((Int32.ofNat B).toInt64) * ((Int32.ofNat S).toInt64)).toInt32)), (.ref r0)])) := by
    intro t ht
    refine XS.aloadN X10.here hx rfl (hb hby d_init_61) rfl rfl ?_
    show Steps p.tables e below (T10.setTop (mkF m 62 #[.val (.ref r0), .val (.int (Int32.ofNat B)), .val (.int (Int32.ofNat S)), .val (.long (((Int32.ofNat B).toInt64) * ((Int32.ofNat S).toInt64))), .second] [(.ref r0)])) _
    refine XS.lloadN X10.here hx rfl (hb hby d_init_62) rfl ?_
    show Steps p.tables e below (T10.setTop (mkF m 63 #[.val (.ref r0), .val (.int (Int32.ofNat B)), .val (.int (Int32.ofNat S)), .val (.long (((Int32.ofNat B).toInt64) * ((Int32.ofNat S).toInt64))), .second] [(.long (((Int32.ofNat B).toInt64) * ((Int32.ofNat S).toInt64))), (.ref r0)])) _
    refine XS.l2i X10.here hx rfl (hb hby d_init_63) rfl ?_
    exact ht
  have k12 : Go p.tables e below (T10.setTop (mkF m 64 #[.val (.ref r0), .val (.int (Int32.ofNat B)), .val (.int (Int32.ofNat S)), .val (.long (((Int32.ofNat B).toInt64) * ((Int32.ofNat S).toInt64))), .second] [(.int ((((Int32.ofNat B).toInt64) * ((Int32.ofNat S).toInt64)).toInt32)), (.ref r0)])) (T10.setTop (mkF m 64 #[.val (.ref r0), .val (.int (Int32.ofNat B)), .val (.int (Int32.ofNat S)), .val (.long (((Int32.ofNat B).toInt64) * ((Int32.ofNat S).toInt64))), .second] [(.int (Int32.ofNat (B * S))), (.ref r0)])) := by rw [own_prod hB hS]; exact fun _ h => h
  obtain ⟨T13, h13, kc13, X13, e13, E13, A13, st13⟩ := newP X10 hx hZ (hw _ (List.mem_of_getElem? (i := 15) rfl)) e10 (g := (mkF m 64 #[.val (.ref r0), .val (.int (Int32.ofNat B)), .val (.int (Int32.ofNat S)), .val (.long (((Int32.ofNat B).toInt64) * ((Int32.ofNat S).toInt64))), .second] [(.int (Int32.ofNat (B * S))), (.ref r0)])) rfl (hb hby d_init_64) rfl (own_nneg (own_BS hB hS)) (cap := 12) (own_clampLe (own_BS hB hS)) (by decide) (by decide) (by decide)
  obtain ⟨b13, g13⟩ : ∃ z, z = h10.size := ⟨_, rfl⟩
  rw [← g13] at A13 st13
  have g_b13 : n0 ≤ b13 := Nat.le_trans Z10 (Nat.le_of_eq g13.symm)
  have sz_b13 : h0.size ≤ b13 := Nat.le_trans Kp10.1 (Nat.le_of_eq g13.symm)
  have ne_r0_b13 : r0 ≠ b13 := Nat.ne_of_lt (Nat.lt_of_lt_of_le F_buckets_c_10.lt (Nat.le_of_eq g13.symm))
  have ne_b9_b13 : b9 ≠ b13 := Nat.ne_of_lt (Nat.lt_of_lt_of_le V_b9_c_10.lt (Nat.le_of_eq g13.symm))
  have Kp13 : Keep h0 h13 [r0] := Kp10.ext E13
  have Z13 : n0 ≤ h13.size := Nat.le_trans Z10 E13.1
  have F_buckets_c_13 := F_buckets_c_10.ext E13
  have F_slotsPerBucket_c_13 := F_slotsPerBucket_c_10.ext E13
  have F_hashes_c_13 := F_hashes_c_10.ext E13
  have F_c_13 := F_c_10.ext E13
  have E_r0_c_13 := E_r0_c_10.ext E13
  have V_b9_c_13 := V_b9_c_10.ext E13
  have V_b13 : Arv Z h13 b13 kc13 .long (Int32.ofNat (B * S)) ((List.replicate 12 (0 : Int64)).map Value.long) (.long (0 : Int64)) := (Arv.new A13 (own_nneg (own_BS hB hS))).pad (pad_rep [] (.long (0 : Int64)) 12)
  have k13 : Go p.tables e below (T10.setTop (mkF m 64 #[.val (.ref r0), .val (.int (Int32.ofNat B)), .val (.int (Int32.ofNat S)), .val (.long (((Int32.ofNat B).toInt64) * ((Int32.ofNat S).toInt64))), .second] [(.int (Int32.ofNat (B * S))), (.ref r0)])) (T13.setTop (mkF m 66 #[.val (.ref r0), .val (.int (Int32.ofNat B)), .val (.int (Int32.ofNat S)), .val (.long (((Int32.ofNat B).toInt64) * ((Int32.ofNat S).toInt64))), .second] [(.ref b13), (.ref r0)])) := st13
  obtain ⟨T14, h14, X14, e14, W14, st14⟩ := putF X13 hx hZ hown (host := "") (Or.inl (hw _ (List.mem_of_getElem? (i := 18) rfl))) Via.refl e13 F_c_13 E_r0_c_13 (Or.inr ⟨(hw _ (List.mem_of_getElem? (i := 19) rfl)), rfl, hnm⟩) (hw _ (List.mem_of_getElem? (i := 2) rfl)) (ty := (.array .long)) (by decide) rfl rfl (g := (mkF m 66 #[.val (.ref r0), .val (.int (Int32.ofNat B)), .val (.int (Int32.ofNat S)), .val (.long (((Int32.ofNat B).toInt64) * ((Int32.ofNat S).toInt64))), .second] [(.ref b13), (.ref r0)])) rfl rfl (hb hby d_init_66)
  have Kp14 : Keep h0 h14 [r0] := Kp13.wr W14 (Or.inl (by simp))
  have Z14 : n0 ≤ h14.size := Nat.le_trans Z13 (Keep.of_wr W14).1
  have F_buckets_c_14 := F_buckets_c_13.other W14 (Or.inr (slot_ne (Or.inr (hw _ (List.mem_of_getElem? (i := 12) rfl))) (Or.inr (hw _ (List.mem_of_getElem? (i := 19) rfl))) (by decide) (t := .int) (t' := (.array .long)) (by decide) (by decide)))
  have F_slotsPerBucket_c_14 := F_slotsPerBucket_c_13.other W14 (Or.inr (slot_ne (Or.inr (hw _ (List.mem_of_getElem? (i := 14) rfl))) (Or.inr (hw _ (List.mem_of_getElem? (i := 19) rfl))) (by decide) (t := .int) (t' := (.array .long)) (by decide) (by decide)))
  have F_hashes_c_14 := F_hashes_c_13.other W14 (Or.inr (slot_ne (Or.inr (hw _ (List.mem_of_getElem? (i := 17) rfl))) (Or.inr (hw _ (List.mem_of_getElem? (i := 19) rfl))) (by decide) (t := (.array .long)) (t' := (.array .long)) (by decide) (by decide)))
  have F_c_14 := F_c_13.same W14
  have E_r0_c_14 := E_r0_c_13.wr W14
  have V_b9_c_14 := V_b9_c_13.other W14 (Ne.symm ne_r0_b9)
  have V_b13_c_14 := V_b13.other W14 (Ne.symm ne_r0_b13)
  have k14 : Go p.tables e below (T13.setTop (mkF m 66 #[.val (.ref r0), .val (.int (Int32.ofNat B)), .val (.int (Int32.ofNat S)), .val (.long (((Int32.ofNat B).toInt64) * ((Int32.ofNat S).toInt64))), .second] [(.ref b13), (.ref r0)])) (T14.setTop (mkF m 69 #[.val (.ref r0), .val (.int (Int32.ofNat B)), .val (.int (Int32.ofNat S)), .val (.long (((Int32.ofNat B).toInt64) * ((Int32.ofNat S).toInt64))), .second] [])) := st14
  have N14 := Fr.snoc X14 N10 g_r0
  obtain ⟨fs, hr, hrun, hended, hW, hsame⟩ := X14.leave (v := none) (fun _ => rfl)
  refine ⟨_, _, pre0 _ ((goT k1 (goT k2 (goT k3 (goT k4 (goT k5 (goT k6 (goT k7 (goT k8 (goT k9 (goT k10 (goT k11 (goT k12 (goT k13 k14))))))))))))) _ (X14.returnOut hx Bd.returns (hb hby d_init_69) hr)), hrun, hended, _, _, rfl, ?_, ⟨_, rfl⟩, hW, hsame.mono (by decide) (by decide)⟩
  show Q_init Z r0 B S h0 n0 _ T14.heap _
  rw [e14]
  exact ⟨b9, kc9, b13, kc13, rfl, N14, Kp14, sz_b9, sz_b13, ne_b9_b13, E_r0_c_14, F_buckets_c_14, F_slotsPerBucket_c_14, F_hashes_c_14, F_c_14, V_b9_c_14, V_b13_c_14⟩
theorem d_remU_0 : decode jdk_35_method_45_code 0 = .ok (.lload_n 2, 1) := by decide +kernel
theorem d_remU_1 : decode jdk_35_method_45_code 1 = .ok (.lconst 0, 1) := by decide +kernel
theorem d_remU_2 : decode jdk_35_method_45_code 2 = .ok (.lcmp, 1) := by decide +kernel
theorem d_remU_3 : decode jdk_35_method_45_code 3 = .ok (.ifCond .lt 37, 3) := by decide +kernel
theorem d_remU_6 : decode jdk_35_method_45_code 6 = .ok (.lload_n 0, 1) := by decide +kernel
theorem d_remU_7 : decode jdk_35_method_45_code 7 = .ok (.iconst 1, 1) := by decide +kernel
theorem d_remU_8 : decode jdk_35_method_45_code 8 = .ok (.lushr, 1) := by decide +kernel
theorem d_remU_9 : decode jdk_35_method_45_code 9 = .ok (.lload_n 2, 1) := by decide +kernel
theorem d_remU_10 : decode jdk_35_method_45_code 10 = .ok (.ldiv, 1) := by decide +kernel
theorem d_remU_11 : decode jdk_35_method_45_code 11 = .ok (.iconst 1, 1) := by decide +kernel
theorem d_remU_12 : decode jdk_35_method_45_code 12 = .ok (.lshl, 1) := by decide +kernel
theorem d_remU_13 : decode jdk_35_method_45_code 13 = .ok (.lstore 4, 2) := by decide +kernel
theorem d_remU_15 : decode jdk_35_method_45_code 15 = .ok (.lload_n 0, 1) := by decide +kernel
theorem d_remU_16 : decode jdk_35_method_45_code 16 = .ok (.lload 4, 2) := by decide +kernel
theorem d_remU_18 : decode jdk_35_method_45_code 18 = .ok (.lload_n 2, 1) := by decide +kernel
theorem d_remU_19 : decode jdk_35_method_45_code 19 = .ok (.lmul, 1) := by decide +kernel
theorem d_remU_20 : decode jdk_35_method_45_code 20 = .ok (.lsub, 1) := by decide +kernel
theorem d_remU_21 : decode jdk_35_method_45_code 21 = .ok (.lstore 6, 2) := by decide +kernel
theorem d_remU_23 : decode jdk_35_method_45_code 23 = .ok (.lload 6, 2) := by decide +kernel
theorem d_remU_25 : decode jdk_35_method_45_code 25 = .ok (.lload 6, 2) := by decide +kernel
theorem d_remU_27 : decode jdk_35_method_45_code 27 = .ok (.lload_n 2, 1) := by decide +kernel
theorem d_remU_28 : decode jdk_35_method_45_code 28 = .ok (.lsub, 1) := by decide +kernel
theorem d_remU_29 : decode jdk_35_method_45_code 29 = .ok (.ldc2_w 306, 3) := by decide +kernel
theorem d_remU_32 : decode jdk_35_method_45_code 32 = .ok (.lxor, 1) := by decide +kernel
theorem d_remU_33 : decode jdk_35_method_45_code 33 = .ok (.bipush 63, 2) := by decide +kernel
theorem d_remU_35 : decode jdk_35_method_45_code 35 = .ok (.lshr, 1) := by decide +kernel
theorem d_remU_36 : decode jdk_35_method_45_code 36 = .ok (.lload_n 2, 1) := by decide +kernel
theorem d_remU_37 : decode jdk_35_method_45_code 37 = .ok (.land, 1) := by decide +kernel
theorem d_remU_38 : decode jdk_35_method_45_code 38 = .ok (.lsub, 1) := by decide +kernel
theorem d_remU_39 : decode jdk_35_method_45_code 39 = .ok (.lreturn, 1) := by decide +kernel
theorem pn_1 : plainName "java/lang/Long" = true := by first | (simp [plainName, overriddenIn]; done) | decide +kernel
theorem ef_remU (m : MethodId) (x0 : Int64) (x1 : Int64) : entryFrame m #[(.long x0), (.long x1)] 8 = mkF m 0 #[.val (.long x0), .second, .val (.long x1), .second, .unset, .unset, .unset, .unset] [] := by first | (simp [entryFrame, mkF, argsToLocals, Value.category]; done) | rfl
def f_remU (q0 : Int64) (q1 : Int64) : Int64 := ((q0 - (((((q0.toUInt64 >>> ((1 : Int32) &&& 0x3f).toInt64.toUInt64).toInt64) / q1) <<< ((1 : Int32) &&& 0x3f).toInt64) * q1)) - (((((q0 - (((((q0.toUInt64 >>> ((1 : Int32) &&& 0x3f).toInt64.toUInt64).toInt64) / q1) <<< ((1 : Int32) &&& 0x3f).toInt64) * q1)) - q1) ^^^ (-1 : Int64)) >>> ((63 : Int32) &&& 0x3f).toInt64) &&& q1))
def Q_remU (Z : State) (q0 : Int64) (q1 : Int64) (h0 : Heap) (n0 : Nat) (v : Option Value) (h : Heap) (L : List Loc) : Prop := v = some (.long (f_remU q0 q1)) ∧ Fr n0 L ∧ h = h0
set_option maxRecDepth 65536 in
set_option maxHeartbeats 40000000 in
theorem rm_remU (l : Launch) (Z : State) (a0 : Array Value) (hw : ∀ d ∈ tables_1, d.before a0 Z = true) (ws : List Jvm.Cond) (q0 : Int64) (q1 : Int64) (h0 : Heap) (n0 : Nat) (Z0 : n0 ≤ h0.size) (hq : ¬ (q1 < (0 : Int64))) (hz : ¬ (q1 = 0)) :
    MetFree l (⟨"java/lang/Long", "remainderUnsigned", "(JJ)J"⟩ : MethodName) (head1 (Jvm.Cond.code (⟨"java/lang/Long", "remainderUnsigned", "(JJ)J"⟩ : MethodName) jdk_35_method_45_code 8 (some .long) :: ws) ({ frames := 0, cells := 0, slots := 0, locals := 0 } : Room)) (fun a U => a = #[(.long q0), (.long q1)] ∧ Z.Warmed39 U.vm ∧ U.heap = h0) (fun _ _ _ _ _ => True) (fun _ U o U' => ∃ v L, o = .returned v ∧ Q_remU Z q0 q1 h0 n0 v U'.heap L ∧ FrameEnd U o U' L ({ frames := 0, cells := 0, slots := 0, locals := 0 } : Room).cells ({ frames := 0, cells := 0, slots := 0, locals := 0 } : Room).slots) := by
  refine MetFree.of_bodySF (plainFor_of_name pn_1) hisR ?_
  intro p e s m args below meth c s₁ Bd hml0 hP hK
  obtain ⟨rfl, hZ, hh⟩ := hP
  have hx := Bd.exec
  have hby := Bd.bytes
  have hml : c.maxLocals = 8 := hml0
  have hown : s.vm.findClass "java/lang/Long" = some m.cls := findClass_of_methodNamed Bd.named
  have hnm := (name_of_methodNamed Bd.named Bd.method).1
  have X0 : Stand p l e ({ frames := 0, cells := 0, slots := 0, locals := 0 } : Room) s m #[(.long q0), (.long q1)] below meth c s₁ [] 0 0 := Stand.of_body Bd
  have e0 : s₁.heap = h0 := by rw [← hh, Bd.state]; rfl
  have N0 := Fr.nil n0
  have pre0 : ∀ t, Steps p.tables e below (s₁.setTop (mkF m 0 #[.val (.long q0), .second, .val (.long q1), .second, .unset, .unset, .unset, .unset] [])) t → Steps p.tables e below (s₁.setTop (entryFrame m #[(.long q0), (.long q1)] 8)) t := fun t k => castTop (ef_remU m q0 q1) k
  have k1 : Go p.tables e below (s₁.setTop (mkF m 0 #[.val (.long q0), .second, .val (.long q1), .second, .unset, .unset, .unset, .unset] [])) (s₁.setTop (mkF m 39 #[.val (.long q0), .second, .val (.long q1), .second, .val (.long ((((q0.toUInt64 >>> ((1 : Int32) &&& 0x3f).toInt64.toUInt64).toInt64) / q1) <<< ((1 : Int32) &&& 0x3f).toInt64)), .second, .val (.long (q0 - (((((q0.toUInt64 >>> ((1 : Int32) &&& 0x3f).toInt64.toUInt64).toInt64) / q1) <<< ((1 : Int32) &&& 0x3f).toInt64) * q1))), .second] [(.long ((q0 - (((((q0.toUInt64 >>> ((1 : Int32) &&& 0x3f).toInt64.toUInt64).toInt64) / q1) <<< ((1 : Int32) &&& 0x3f).toInt64) * q1)) - (((((q0 - (((((q0.toUInt64 >>> ((1 : Int32) &&& 0x3f).toInt64.toUInt64).toInt64) / q1) <<< ((1 : Int32) &&& 0x3f).toInt64) * q1)) - q1) ^^^ (-1 : Int64)) >>> ((63 : Int32) &&& 0x3f).toInt64) &&& q1)))])) := by
    intro t ht
    refine XS.lloadN X0.here hx rfl (hb hby d_remU_0) rfl ?_
    show Steps p.tables e below (s₁.setTop (mkF m 1 #[.val (.long q0), .second, .val (.long q1), .second, .unset, .unset, .unset, .unset] [(.long q1)])) _
    refine XS.lconst X0.here hx rfl (hb hby d_remU_1) ?_
    show Steps p.tables e below (s₁.setTop (mkF m 2 #[.val (.long q0), .second, .val (.long q1), .second, .unset, .unset, .unset, .unset] [(.long (0 : Int64)), (.long q1)])) _
    refine XS.lcmp X0.here hx rfl (hb hby d_remU_2) rfl ?_
    show Steps p.tables e below (s₁.setTop (mkF m 3 #[.val (.long q0), .second, .val (.long q1), .second, .unset, .unset, .unset, .unset] [(.int (lcmpW q1 (0 : Int64)))])) _
    refine XS.ifNo X0.here hx rfl (hb hby d_remU_3) rfl ((if0 _ _).trans (flt (own_nltL hq)).1) ?_
    show Steps p.tables e below (s₁.setTop (mkF m 6 #[.val (.long q0), .second, .val (.long q1), .second, .unset, .unset, .unset, .unset] [])) _
    refine XS.lloadN X0.here hx rfl (hb hby d_remU_6) rfl ?_
    show Steps p.tables e below (s₁.setTop (mkF m 7 #[.val (.long q0), .second, .val (.long q1), .second, .unset, .unset, .unset, .unset] [(.long q0)])) _
    refine XS.iconst X0.here hx rfl (hb hby d_remU_7) ?_
    show Steps p.tables e below (s₁.setTop (mkF m 8 #[.val (.long q0), .second, .val (.long q1), .second, .unset, .unset, .unset, .unset] [(.int (1 : Int32)), (.long q0)])) _
    refine XS.lushr X0.here hx rfl (hb hby d_remU_8) rfl ?_
    show Steps p.tables e below (s₁.setTop (mkF m 9 #[.val (.long q0), .second, .val (.long q1), .second, .unset, .unset, .unset, .unset] [(.long ((q0.toUInt64 >>> ((1 : Int32) &&& 0x3f).toInt64.toUInt64).toInt64))])) _
    refine XS.lloadN X0.here hx rfl (hb hby d_remU_9) rfl ?_
    show Steps p.tables e below (s₁.setTop (mkF m 10 #[.val (.long q0), .second, .val (.long q1), .second, .unset, .unset, .unset, .unset] [(.long q1), (.long ((q0.toUInt64 >>> ((1 : Int32) &&& 0x3f).toInt64.toUInt64).toInt64))])) _
    refine XS.ldiv X0.here hx rfl (hb hby d_remU_10) rfl (hz : ¬ (q1 = 0)) ?_
    show Steps p.tables e below (s₁.setTop (mkF m 11 #[.val (.long q0), .second, .val (.long q1), .second, .unset, .unset, .unset, .unset] [(.long (((q0.toUInt64 >>> ((1 : Int32) &&& 0x3f).toInt64.toUInt64).toInt64) / q1))])) _
    refine XS.iconst X0.here hx rfl (hb hby d_remU_11) ?_
    show Steps p.tables e below (s₁.setTop (mkF m 12 #[.val (.long q0), .second, .val (.long q1), .second, .unset, .unset, .unset, .unset] [(.int (1 : Int32)), (.long (((q0.toUInt64 >>> ((1 : Int32) &&& 0x3f).toInt64.toUInt64).toInt64) / q1))])) _
    refine XS.lshl X0.here hx rfl (hb hby d_remU_12) rfl ?_
    show Steps p.tables e below (s₁.setTop (mkF m 13 #[.val (.long q0), .second, .val (.long q1), .second, .unset, .unset, .unset, .unset] [(.long ((((q0.toUInt64 >>> ((1 : Int32) &&& 0x3f).toInt64.toUInt64).toInt64) / q1) <<< ((1 : Int32) &&& 0x3f).toInt64))])) _
    refine XS.lstore X0.here hx rfl (hb hby d_remU_13) rfl (l' := #[.val (.long q0), .second, .val (.long q1), .second, .val (.long ((((q0.toUInt64 >>> ((1 : Int32) &&& 0x3f).toInt64.toUInt64).toInt64) / q1) <<< ((1 : Int32) &&& 0x3f).toInt64)), .second, .unset, .unset]) rfl ?_
    show Steps p.tables e below (s₁.setTop (mkF m 15 #[.val (.long q0), .second, .val (.long q1), .second, .val (.long ((((q0.toUInt64 >>> ((1 : Int32) &&& 0x3f).toInt64.toUInt64).toInt64) / q1) <<< ((1 : Int32) &&& 0x3f).toInt64)), .second, .unset, .unset] [])) _
    refine XS.lloadN X0.here hx rfl (hb hby d_remU_15) rfl ?_
    show Steps p.tables e below (s₁.setTop (mkF m 16 #[.val (.long q0), .second, .val (.long q1), .second, .val (.long ((((q0.toUInt64 >>> ((1 : Int32) &&& 0x3f).toInt64.toUInt64).toInt64) / q1) <<< ((1 : Int32) &&& 0x3f).toInt64)), .second, .unset, .unset] [(.long q0)])) _
    refine XS.lload X0.here hx rfl (hb hby d_remU_16) rfl ?_
    show Steps p.tables e below (s₁.setTop (mkF m 18 #[.val (.long q0), .second, .val (.long q1), .second, .val (.long ((((q0.toUInt64 >>> ((1 : Int32) &&& 0x3f).toInt64.toUInt64).toInt64) / q1) <<< ((1 : Int32) &&& 0x3f).toInt64)), .second, .unset, .unset] [(.long ((((q0.toUInt64 >>> ((1 : Int32) &&& 0x3f).toInt64.toUInt64).toInt64) / q1) <<< ((1 : Int32) &&& 0x3f).toInt64)), (.long q0)])) _
    refine XS.lloadN X0.here hx rfl (hb hby d_remU_18) rfl ?_
    show Steps p.tables e below (s₁.setTop (mkF m 19 #[.val (.long q0), .second, .val (.long q1), .second, .val (.long ((((q0.toUInt64 >>> ((1 : Int32) &&& 0x3f).toInt64.toUInt64).toInt64) / q1) <<< ((1 : Int32) &&& 0x3f).toInt64)), .second, .unset, .unset] [(.long q1), (.long ((((q0.toUInt64 >>> ((1 : Int32) &&& 0x3f).toInt64.toUInt64).toInt64) / q1) <<< ((1 : Int32) &&& 0x3f).toInt64)), (.long q0)])) _
    refine XS.lmul X0.here hx rfl (hb hby d_remU_19) rfl ?_
    show Steps p.tables e below (s₁.setTop (mkF m 20 #[.val (.long q0), .second, .val (.long q1), .second, .val (.long ((((q0.toUInt64 >>> ((1 : Int32) &&& 0x3f).toInt64.toUInt64).toInt64) / q1) <<< ((1 : Int32) &&& 0x3f).toInt64)), .second, .unset, .unset] [(.long (((((q0.toUInt64 >>> ((1 : Int32) &&& 0x3f).toInt64.toUInt64).toInt64) / q1) <<< ((1 : Int32) &&& 0x3f).toInt64) * q1)), (.long q0)])) _
    refine XS.lsub X0.here hx rfl (hb hby d_remU_20) rfl ?_
    show Steps p.tables e below (s₁.setTop (mkF m 21 #[.val (.long q0), .second, .val (.long q1), .second, .val (.long ((((q0.toUInt64 >>> ((1 : Int32) &&& 0x3f).toInt64.toUInt64).toInt64) / q1) <<< ((1 : Int32) &&& 0x3f).toInt64)), .second, .unset, .unset] [(.long (q0 - (((((q0.toUInt64 >>> ((1 : Int32) &&& 0x3f).toInt64.toUInt64).toInt64) / q1) <<< ((1 : Int32) &&& 0x3f).toInt64) * q1)))])) _
    refine XS.lstore X0.here hx rfl (hb hby d_remU_21) rfl (l' := #[.val (.long q0), .second, .val (.long q1), .second, .val (.long ((((q0.toUInt64 >>> ((1 : Int32) &&& 0x3f).toInt64.toUInt64).toInt64) / q1) <<< ((1 : Int32) &&& 0x3f).toInt64)), .second, .val (.long (q0 - (((((q0.toUInt64 >>> ((1 : Int32) &&& 0x3f).toInt64.toUInt64).toInt64) / q1) <<< ((1 : Int32) &&& 0x3f).toInt64) * q1))), .second]) rfl ?_
    show Steps p.tables e below (s₁.setTop (mkF m 23 #[.val (.long q0), .second, .val (.long q1), .second, .val (.long ((((q0.toUInt64 >>> ((1 : Int32) &&& 0x3f).toInt64.toUInt64).toInt64) / q1) <<< ((1 : Int32) &&& 0x3f).toInt64)), .second, .val (.long (q0 - (((((q0.toUInt64 >>> ((1 : Int32) &&& 0x3f).toInt64.toUInt64).toInt64) / q1) <<< ((1 : Int32) &&& 0x3f).toInt64) * q1))), .second] [])) _
    refine XS.lload X0.here hx rfl (hb hby d_remU_23) rfl ?_
    show Steps p.tables e below (s₁.setTop (mkF m 25 #[.val (.long q0), .second, .val (.long q1), .second, .val (.long ((((q0.toUInt64 >>> ((1 : Int32) &&& 0x3f).toInt64.toUInt64).toInt64) / q1) <<< ((1 : Int32) &&& 0x3f).toInt64)), .second, .val (.long (q0 - (((((q0.toUInt64 >>> ((1 : Int32) &&& 0x3f).toInt64.toUInt64).toInt64) / q1) <<< ((1 : Int32) &&& 0x3f).toInt64) * q1))), .second] [(.long (q0 - (((((q0.toUInt64 >>> ((1 : Int32) &&& 0x3f).toInt64.toUInt64).toInt64) / q1) <<< ((1 : Int32) &&& 0x3f).toInt64) * q1)))])) _
    refine XS.lload X0.here hx rfl (hb hby d_remU_25) rfl ?_
    show Steps p.tables e below (s₁.setTop (mkF m 27 #[.val (.long q0), .second, .val (.long q1), .second, .val (.long ((((q0.toUInt64 >>> ((1 : Int32) &&& 0x3f).toInt64.toUInt64).toInt64) / q1) <<< ((1 : Int32) &&& 0x3f).toInt64)), .second, .val (.long (q0 - (((((q0.toUInt64 >>> ((1 : Int32) &&& 0x3f).toInt64.toUInt64).toInt64) / q1) <<< ((1 : Int32) &&& 0x3f).toInt64) * q1))), .second] [(.long (q0 - (((((q0.toUInt64 >>> ((1 : Int32) &&& 0x3f).toInt64.toUInt64).toInt64) / q1) <<< ((1 : Int32) &&& 0x3f).toInt64) * q1))), (.long (q0 - (((((q0.toUInt64 >>> ((1 : Int32) &&& 0x3f).toInt64.toUInt64).toInt64) / q1) <<< ((1 : Int32) &&& 0x3f).toInt64) * q1)))])) _
    refine XS.lloadN X0.here hx rfl (hb hby d_remU_27) rfl ?_
    show Steps p.tables e below (s₁.setTop (mkF m 28 #[.val (.long q0), .second, .val (.long q1), .second, .val (.long ((((q0.toUInt64 >>> ((1 : Int32) &&& 0x3f).toInt64.toUInt64).toInt64) / q1) <<< ((1 : Int32) &&& 0x3f).toInt64)), .second, .val (.long (q0 - (((((q0.toUInt64 >>> ((1 : Int32) &&& 0x3f).toInt64.toUInt64).toInt64) / q1) <<< ((1 : Int32) &&& 0x3f).toInt64) * q1))), .second] [(.long q1), (.long (q0 - (((((q0.toUInt64 >>> ((1 : Int32) &&& 0x3f).toInt64.toUInt64).toInt64) / q1) <<< ((1 : Int32) &&& 0x3f).toInt64) * q1))), (.long (q0 - (((((q0.toUInt64 >>> ((1 : Int32) &&& 0x3f).toInt64.toUInt64).toInt64) / q1) <<< ((1 : Int32) &&& 0x3f).toInt64) * q1)))])) _
    refine XS.lsub X0.here hx rfl (hb hby d_remU_28) rfl ?_
    show Steps p.tables e below (s₁.setTop (mkF m 29 #[.val (.long q0), .second, .val (.long q1), .second, .val (.long ((((q0.toUInt64 >>> ((1 : Int32) &&& 0x3f).toInt64.toUInt64).toInt64) / q1) <<< ((1 : Int32) &&& 0x3f).toInt64)), .second, .val (.long (q0 - (((((q0.toUInt64 >>> ((1 : Int32) &&& 0x3f).toInt64.toUInt64).toInt64) / q1) <<< ((1 : Int32) &&& 0x3f).toInt64) * q1))), .second] [(.long ((q0 - (((((q0.toUInt64 >>> ((1 : Int32) &&& 0x3f).toInt64.toUInt64).toInt64) / q1) <<< ((1 : Int32) &&& 0x3f).toInt64) * q1)) - q1)), (.long (q0 - (((((q0.toUInt64 >>> ((1 : Int32) &&& 0x3f).toInt64.toUInt64).toInt64) / q1) <<< ((1 : Int32) &&& 0x3f).toInt64) * q1)))])) _
    refine X0.ldc2Long hx hown (mvT hZ (hw _ (List.mem_of_getElem? (i := 33) rfl))) (g := (mkF m 29 #[.val (.long q0), .second, .val (.long q1), .second, .val (.long ((((q0.toUInt64 >>> ((1 : Int32) &&& 0x3f).toInt64.toUInt64).toInt64) / q1) <<< ((1 : Int32) &&& 0x3f).toInt64)), .second, .val (.long (q0 - (((((q0.toUInt64 >>> ((1 : Int32) &&& 0x3f).toInt64.toUInt64).toInt64) / q1) <<< ((1 : Int32) &&& 0x3f).toInt64) * q1))), .second] [(.long ((q0 - (((((q0.toUInt64 >>> ((1 : Int32) &&& 0x3f).toInt64.toUInt64).toInt64) / q1) <<< ((1 : Int32) &&& 0x3f).toInt64) * q1)) - q1)), (.long (q0 - (((((q0.toUInt64 >>> ((1 : Int32) &&& 0x3f).toInt64.toUInt64).toInt64) / q1) <<< ((1 : Int32) &&& 0x3f).toInt64) * q1)))])) rfl (hb hby d_remU_29) _ ?_
    show Steps p.tables e below (s₁.setTop (mkF m 32 #[.val (.long q0), .second, .val (.long q1), .second, .val (.long ((((q0.toUInt64 >>> ((1 : Int32) &&& 0x3f).toInt64.toUInt64).toInt64) / q1) <<< ((1 : Int32) &&& 0x3f).toInt64)), .second, .val (.long (q0 - (((((q0.toUInt64 >>> ((1 : Int32) &&& 0x3f).toInt64.toUInt64).toInt64) / q1) <<< ((1 : Int32) &&& 0x3f).toInt64) * q1))), .second] [(.long (-1 : Int64)), (.long ((q0 - (((((q0.toUInt64 >>> ((1 : Int32) &&& 0x3f).toInt64.toUInt64).toInt64) / q1) <<< ((1 : Int32) &&& 0x3f).toInt64) * q1)) - q1)), (.long (q0 - (((((q0.toUInt64 >>> ((1 : Int32) &&& 0x3f).toInt64.toUInt64).toInt64) / q1) <<< ((1 : Int32) &&& 0x3f).toInt64) * q1)))])) _
    refine XS.lxor X0.here hx rfl (hb hby d_remU_32) rfl ?_
    show Steps p.tables e below (s₁.setTop (mkF m 33 #[.val (.long q0), .second, .val (.long q1), .second, .val (.long ((((q0.toUInt64 >>> ((1 : Int32) &&& 0x3f).toInt64.toUInt64).toInt64) / q1) <<< ((1 : Int32) &&& 0x3f).toInt64)), .second, .val (.long (q0 - (((((q0.toUInt64 >>> ((1 : Int32) &&& 0x3f).toInt64.toUInt64).toInt64) / q1) <<< ((1 : Int32) &&& 0x3f).toInt64) * q1))), .second] [(.long (((q0 - (((((q0.toUInt64 >>> ((1 : Int32) &&& 0x3f).toInt64.toUInt64).toInt64) / q1) <<< ((1 : Int32) &&& 0x3f).toInt64) * q1)) - q1) ^^^ (-1 : Int64))), (.long (q0 - (((((q0.toUInt64 >>> ((1 : Int32) &&& 0x3f).toInt64.toUInt64).toInt64) / q1) <<< ((1 : Int32) &&& 0x3f).toInt64) * q1)))])) _
    refine XS.bipush X0.here hx rfl (hb hby d_remU_33) ?_
    show Steps p.tables e below (s₁.setTop (mkF m 35 #[.val (.long q0), .second, .val (.long q1), .second, .val (.long ((((q0.toUInt64 >>> ((1 : Int32) &&& 0x3f).toInt64.toUInt64).toInt64) / q1) <<< ((1 : Int32) &&& 0x3f).toInt64)), .second, .val (.long (q0 - (((((q0.toUInt64 >>> ((1 : Int32) &&& 0x3f).toInt64.toUInt64).toInt64) / q1) <<< ((1 : Int32) &&& 0x3f).toInt64) * q1))), .second] [(.int (63 : Int32)), (.long (((q0 - (((((q0.toUInt64 >>> ((1 : Int32) &&& 0x3f).toInt64.toUInt64).toInt64) / q1) <<< ((1 : Int32) &&& 0x3f).toInt64) * q1)) - q1) ^^^ (-1 : Int64))), (.long (q0 - (((((q0.toUInt64 >>> ((1 : Int32) &&& 0x3f).toInt64.toUInt64).toInt64) / q1) <<< ((1 : Int32) &&& 0x3f).toInt64) * q1)))])) _
    refine XS.lshr X0.here hx rfl (hb hby d_remU_35) rfl ?_
    show Steps p.tables e below (s₁.setTop (mkF m 36 #[.val (.long q0), .second, .val (.long q1), .second, .val (.long ((((q0.toUInt64 >>> ((1 : Int32) &&& 0x3f).toInt64.toUInt64).toInt64) / q1) <<< ((1 : Int32) &&& 0x3f).toInt64)), .second, .val (.long (q0 - (((((q0.toUInt64 >>> ((1 : Int32) &&& 0x3f).toInt64.toUInt64).toInt64) / q1) <<< ((1 : Int32) &&& 0x3f).toInt64) * q1))), .second] [(.long ((((q0 - (((((q0.toUInt64 >>> ((1 : Int32) &&& 0x3f).toInt64.toUInt64).toInt64) / q1) <<< ((1 : Int32) &&& 0x3f).toInt64) * q1)) - q1) ^^^ (-1 : Int64)) >>> ((63 : Int32) &&& 0x3f).toInt64)), (.long (q0 - (((((q0.toUInt64 >>> ((1 : Int32) &&& 0x3f).toInt64.toUInt64).toInt64) / q1) <<< ((1 : Int32) &&& 0x3f).toInt64) * q1)))])) _
    refine XS.lloadN X0.here hx rfl (hb hby d_remU_36) rfl ?_
    show Steps p.tables e below (s₁.setTop (mkF m 37 #[.val (.long q0), .second, .val (.long q1), .second, .val (.long ((((q0.toUInt64 >>> ((1 : Int32) &&& 0x3f).toInt64.toUInt64).toInt64) / q1) <<< ((1 : Int32) &&& 0x3f).toInt64)), .second, .val (.long (q0 - (((((q0.toUInt64 >>> ((1 : Int32) &&& 0x3f).toInt64.toUInt64).toInt64) / q1) <<< ((1 : Int32) &&& 0x3f).toInt64) * q1))), .second] [(.long q1), (.long ((((q0 - (((((q0.toUInt64 >>> ((1 : Int32) &&& 0x3f).toInt64.toUInt64).toInt64) / q1) <<< ((1 : Int32) &&& 0x3f).toInt64) * q1)) - q1) ^^^ (-1 : Int64)) >>> ((63 : Int32) &&& 0x3f).toInt64)), (.long (q0 - (((((q0.toUInt64 >>> ((1 : Int32) &&& 0x3f).toInt64.toUInt64).toInt64) / q1) <<< ((1 : Int32) &&& 0x3f).toInt64) * q1)))])) _
    refine XS.land X0.here hx rfl (hb hby d_remU_37) rfl ?_
    show Steps p.tables e below (s₁.setTop (mkF m 38 #[.val (.long q0), .second, .val (.long q1), .second, .val (.long ((((q0.toUInt64 >>> ((1 : Int32) &&& 0x3f).toInt64.toUInt64).toInt64) / q1) <<< ((1 : Int32) &&& 0x3f).toInt64)), .second, .val (.long (q0 - (((((q0.toUInt64 >>> ((1 : Int32) &&& 0x3f).toInt64.toUInt64).toInt64) / q1) <<< ((1 : Int32) &&& 0x3f).toInt64) * q1))), .second] [(.long (((((q0 - (((((q0.toUInt64 >>> ((1 : Int32) &&& 0x3f).toInt64.toUInt64).toInt64) / q1) <<< ((1 : Int32) &&& 0x3f).toInt64) * q1)) - q1) ^^^ (-1 : Int64)) >>> ((63 : Int32) &&& 0x3f).toInt64) &&& q1)), (.long (q0 - (((((q0.toUInt64 >>> ((1 : Int32) &&& 0x3f).toInt64.toUInt64).toInt64) / q1) <<< ((1 : Int32) &&& 0x3f).toInt64) * q1)))])) _
    refine XS.lsub X0.here hx rfl (hb hby d_remU_38) rfl ?_
    exact ht
  obtain ⟨fs, hr, hrun, hended, hW, hsame⟩ := X0.leave (v := some (.long ((q0 - (((((q0.toUInt64 >>> ((1 : Int32) &&& 0x3f).toInt64.toUInt64).toInt64) / q1) <<< ((1 : Int32) &&& 0x3f).toInt64) * q1)) - (((((q0 - (((((q0.toUInt64 >>> ((1 : Int32) &&& 0x3f).toInt64.toUInt64).toInt64) / q1) <<< ((1 : Int32) &&& 0x3f).toInt64) * q1)) - q1) ^^^ (-1 : Int64)) >>> ((63 : Int32) &&& 0x3f).toInt64) &&& q1)))) (fun h => by rw [Bd.returns] at h; cases h)
  refine ⟨_, _, pre0 _ (k1 _ (retJ X0 hx Bd.returns (hb hby d_remU_39) hr)), hrun, hended, _, _, rfl, ?_, ⟨_, rfl⟩, hW, hsame.mono (by decide) (by decide)⟩
  show Q_remU Z q0 q1 h0 n0 _ s₁.heap _
  rw [e0]
  exact ⟨by simp only [f_remU, if_neg hq], N0, rfl⟩
theorem pd_0 : parseMethodDescriptor "(JJ)J" = some ⟨[.long, .long], some .long⟩ := by decide +kernel
theorem d_first_0 : decode prog_25_method_8_code 0 = .ok (.lload_n 1, 1) := by decide +kernel
theorem d_first_1 : decode prog_25_method_8_code 1 = .ok (.aload_n 0, 1) := by decide +kernel
theorem d_first_2 : decode prog_25_method_8_code 2 = .ok (.getfield 22, 3) := by decide +kernel
theorem d_first_5 : decode prog_25_method_8_code 5 = .ok (.i2l, 1) := by decide +kernel
theorem d_first_6 : decode prog_25_method_8_code 6 = .ok (.invokestatic 44, 3) := by decide +kernel
theorem d_first_9 : decode prog_25_method_8_code 9 = .ok (.l2i, 1) := by decide +kernel
theorem d_first_10 : decode prog_25_method_8_code 10 = .ok (.aload_n 0, 1) := by decide +kernel
theorem d_first_11 : decode prog_25_method_8_code 11 = .ok (.getfield 26, 3) := by decide +kernel
theorem d_first_14 : decode prog_25_method_8_code 14 = .ok (.imul, 1) := by decide +kernel
theorem d_first_15 : decode prog_25_method_8_code 15 = .ok (.ireturn, 1) := by decide +kernel
theorem ef_first (m : MethodId) (x0 : Addr) (x1 : Int64) : entryFrame m #[(.ref x0), (.long x1)] 3 = mkF m 0 #[.val (.ref x0), .val (.long x1), .second] [] := by first | (simp [entryFrame, mkF, argsToLocals, Value.category]; done) | rfl
def f_first (q1 : Int64) (B : Nat) (S : Nat) : Int32 := (((f_remU q1 ((Int32.ofNat B).toInt64)).toInt32) * (Int32.ofNat S))
def Q_first (Z : State) (r0 : Addr) (q1 : Int64) (B : Nat) (S : Nat) (h0 : Heap) (n0 : Nat) (v : Option Value) (h : Heap) (L : List Loc) : Prop := v = some (.int (f_first q1 B S)) ∧ Fr n0 L ∧ h = h0
set_option maxRecDepth 65536 in
set_option maxHeartbeats 40000000 in
theorem rm_first (l : Launch) (Z : State) (a0 : Array Value) (hw : ∀ d ∈ tables_1, d.before a0 Z = true) (ws : List Jvm.Cond) (r0 : Addr) (q1 : Int64) (B : Nat) (S : Nat) (h0 : Heap) (n0 : Nat) (Z0 : n0 ≤ h0.size) (Fb : Fld Z h0 r0 "com/example/auspex/auspex/manager/ConflictTable" "buckets" "I" (.int (Int32.ofNat B))) (Fs : Fld Z h0 r0 "com/example/auspex/auspex/manager/ConflictTable" "slotsPerBucket" "I" (.int (Int32.ofNat S))) (hB : 1 ≤ B ∧ B ≤ 4) (hS : 1 ≤ S ∧ S ≤ 3) :
    MetFree l (⟨"com/example/auspex/auspex/manager/ConflictTable", "firstSlot", "(J)I"⟩ : MethodName) (head1 (Jvm.Cond.code (⟨"com/example/auspex/auspex/manager/ConflictTable", "firstSlot", "(J)I"⟩ : MethodName) prog_25_method_8_code 3 (some .int) :: ws) ({ frames := 1, cells := 0, slots := 0, locals := 19 } : Room)) (fun a U => a = #[(.ref r0), (.long q1)] ∧ Z.Warmed39 U.vm ∧ U.heap = h0) (fun _ _ _ _ _ => True) (fun _ U o U' => ∃ v L, o = .returned v ∧ Q_first Z r0 q1 B S h0 n0 v U'.heap L ∧ FrameEnd U o U' L ({ frames := 1, cells := 0, slots := 0, locals := 19 } : Room).cells ({ frames := 1, cells := 0, slots := 0, locals := 19 } : Room).slots) := by
  refine MetFree.of_bodySF (plainFor_of_name pn_0) hisR ?_
  intro p e s m args below meth c s₁ Bd hml0 hP hK
  obtain ⟨rfl, hZ, hh⟩ := hP
  have hx := Bd.exec
  have hby := Bd.bytes
  have hml : c.maxLocals = 3 := hml0
  have hown : s.vm.findClass "com/example/auspex/auspex/manager/ConflictTable" = some m.cls := findClass_of_methodNamed Bd.named
  have hnm := (name_of_methodNamed Bd.named Bd.method).1
  have X0 : Stand p l e ({ frames := 1, cells := 0, slots := 0, locals := 19 } : Room) s m #[(.ref r0), (.long q1)] below meth c s₁ [] 0 0 := Stand.of_body Bd
  have e0 : s₁.heap = h0 := by rw [← hh, Bd.state]; rfl
  have N0 := Fr.nil n0
  have pre0 : ∀ t, Steps p.tables e below (s₁.setTop (mkF m 0 #[.val (.ref r0), .val (.long q1), .second] [])) t → Steps p.tables e below (s₁.setTop (entryFrame m #[(.ref r0), (.long q1)] 3)) t := fun t k => castTop (ef_first m r0 q1) k
  have k1 : Go p.tables e below (s₁.setTop (mkF m 0 #[.val (.ref r0), .val (.long q1), .second] [])) (s₁.setTop (mkF m 2 #[.val (.ref r0), .val (.long q1), .second] [(.ref r0), (.long q1)])) := by
    intro t ht
    refine XS.lloadN X0.here hx rfl (hb hby d_first_0) rfl ?_
    show Steps p.tables e below (s₁.setTop (mkF m 1 #[.val (.ref r0), .val (.long q1), .second] [(.long q1)])) _
    refine XS.aloadN X0.here hx rfl (hb hby d_first_1) rfl rfl ?_
    exact ht
  obtain ⟨T2, X2, e2, st2⟩ := getF X0 hx hZ hown (host := "") (Or.inl (hw _ (List.mem_of_getElem? (i := 11) rfl))) Via.refl e0 Fb (g := (mkF m 2 #[.val (.ref r0), .val (.long q1), .second] [(.ref r0), (.long q1)])) rfl rfl (hb hby d_first_2)
  have k2 : Go p.tables e below (s₁.setTop (mkF m 2 #[.val (.ref r0), .val (.long q1), .second] [(.ref r0), (.long q1)])) (T2.setTop (mkF m 5 #[.val (.ref r0), .val (.long q1), .second] [(.int (Int32.ofNat B)), (.long q1)])) := st2
  have k3 : Go p.tables e below (T2.setTop (mkF m 5 #[.val (.ref r0), .val (.long q1), .second] [(.int (Int32.ofNat B)), (.long q1)])) (T2.setTop (mkF m 6 #[.val (.ref r0), .val (.long q1), .second] [(.long ((Int32.ofNat B).toInt64)), (.long q1)])) := by
    intro t ht
    refine XS.i2l X2.here hx rfl (hb hby d_first_5) rfl ?_
    exact ht
  obtain ⟨_, _, ⟨T4, L4, kq4, n4⟩, -, X4, ⟨Lc4, hQ4, l4, y4, z4⟩, st4⟩ := Jvm.LawKit.callS X2 hx (y := (⟨"java/lang/Long", "remainderUnsigned", "(JJ)J"⟩ : MethodName)) hown (mvT hZ (hw _ (List.mem_of_getElem? (i := 29) rfl))) (mvT hZ (hw _ (List.mem_of_getElem? (i := 30) rfl))) (mvT hZ (hw _ (List.mem_of_getElem? (i := 31) rfl))) (mvT hZ (hw _ (List.mem_of_getElem? (i := 32) rfl))) (by decide) (backOf (W := 0) (rm_remU l Z a0 hw [] q1 ((Int32.ofNat B).toInt64) h0 n0 Z0 (own_Bnn hB : ¬ (((Int32.ofNat B).toInt64) < (0 : Int64))) (own_Bnz hB : ¬ (((Int32.ofNat B).toInt64) = 0))) hZ (hw _ (List.mem_of_getElem? (i := 32) rfl)) (hw _ (List.mem_of_getElem? (i := 31) rfl)) (by decide) (by decide)) (g := (mkF m 6 #[.val (.ref r0), .val (.long q1), .second] [(.long ((Int32.ofNat B).toInt64)), (.long q1)])) rfl (by rw [hml]; rfl) (argsL := [(.long q1), (.long ((Int32.ofNat B).toInt64))]) (rest := []) (lenOf pd_0 rfl) rfl (by show 2 * 0 + _ ≤ _; exact Nat.le_of_eq rfl) (hb hby d_first_6) (fun _ _ => ⟨rfl, e2, (by decide : 0 + 0 ≤ _), (by decide : 0 + 0 ≤ _)⟩)
  dsimp only [Pt.U, Pt.locs, Pt.cells, Pt.slots] at X4 l4 y4 z4 st4 hQ4
  subst l4 y4 z4
  obtain ⟨rfl, N4q, eq4⟩ := hQ4
  have N4 := Fr.app N0 N4q
  have k4 : Go p.tables e below (T2.setTop (mkF m 6 #[.val (.ref r0), .val (.long q1), .second] [(.long ((Int32.ofNat B).toInt64)), (.long q1)])) (T4.setTop (mkF m 9 #[.val (.ref r0), .val (.long q1), .second] [(.long (f_remU q1 ((Int32.ofNat B).toInt64)))])) := st4
  have k5 : Go p.tables e below (T4.setTop (mkF m 9 #[.val (.ref r0), .val (.long q1), .second] [(.long (f_remU q1 ((Int32.ofNat B).toInt64)))])) (T4.setTop (mkF m 11 #[.val (.ref r0), .val (.long q1), .second] [(.ref r0), (.int ((f_remU q1 ((Int32.ofNat B).toInt64)).toInt32))])) := by
    intro t ht
    refine XS.l2i X4.here hx rfl (hb hby d_first_9) rfl ?_
    show Steps p.tables e below (T4.setTop (mkF m 10 #[.val (.ref r0), .val (.long q1), .second] [(.int ((f_remU q1 ((Int32.ofNat B).toInt64)).toInt32))])) _
    refine XS.aloadN X4.here hx rfl (hb hby d_first_10) rfl rfl ?_
    exact ht
  obtain ⟨T6, X6, e6, st6⟩ := getF X4 hx hZ hown (host := "") (Or.inl (hw _ (List.mem_of_getElem? (i := 13) rfl))) Via.refl eq4 Fs (g := (mkF m 11 #[.val (.ref r0), .val (.long q1), .second] [(.ref r0), (.int ((f_remU q1 ((Int32.ofNat B).toInt64)).toInt32))])) rfl rfl (hb hby d_first_11)
  have k6 : Go p.tables e below (T4.setTop (mkF m 11 #[.val (.ref r0), .val (.long q1), .second] [(.ref r0), (.int ((f_remU q1 ((Int32.ofNat B).toInt64)).toInt32))])) (T6.setTop (mkF m 14 #[.val (.ref r0), .val (.long q1), .second] [(.int (Int32.ofNat S)), (.int ((f_remU q1 ((Int32.ofNat B).toInt64)).toInt32))])) := st6
  have k7 : Go p.tables e below (T6.setTop (mkF m 14 #[.val (.ref r0), .val (.long q1), .second] [(.int (Int32.ofNat S)), (.int ((f_remU q1 ((Int32.ofNat B).toInt64)).toInt32))])) (T6.setTop (mkF m 15 #[.val (.ref r0), .val (.long q1), .second] [(.int (((f_remU q1 ((Int32.ofNat B).toInt64)).toInt32) * (Int32.ofNat S)))])) := by
    intro t ht
    refine XS.imul X6.here hx rfl (hb hby d_first_14) rfl ?_
    exact ht
  obtain ⟨fs, hr, hrun, hended, hW, hsame⟩ := X6.leave (v := some (.int (((f_remU q1 ((Int32.ofNat B).toInt64)).toInt32) * (Int32.ofNat S)))) (fun h => by rw [Bd.returns] at h; cases h)
  refine ⟨_, _, pre0 _ ((goT k1 (goT k2 (goT k3 (goT k4 (goT k5 (goT k6 k7)))))) _ (retI X6 hx Bd.returns (hb hby d_first_15) hr)), hrun, hended, _, _, rfl, ?_, ⟨_, rfl⟩, hW, hsame.mono (by decide) (by decide)⟩
  show Q_first Z r0 q1 B S h0 n0 _ T6.heap _
  rw [e6]
  exact ⟨by simp only [f_first], N4, rfl⟩
theorem own_cond {n S M j : Nat} (hM : M ≤ 12) (hn : n + S ≤ M) (hj : j ≤ 3) : (Int32.ofNat (n + j) < (Int32.ofNat n) + (Int32.ofNat S)) ↔ j < S := by
  rw [← Int32.ofNat_add, Int32.lt_iff_toInt_lt, own_ofNat (by omega), own_ofNat (by omega)]; omega
theorem own_j3 {n S M : Nat} (hS : 1 ≤ S ∧ S ≤ 3) (hM : M ≤ 12) (hn : n + S ≤ M) : ¬ Int32.ofNat (n + 3) < (Int32.ofNat n) + (Int32.ofNat S) := fun h => by
  have := (own_cond hM hn (by decide)).mp h
  omega
theorem own_jS {n S M j : Nat} (hM : M ≤ 12) (hn : n + S ≤ M) (h : Int32.ofNat (n + j) < (Int32.ofNat n) + (Int32.ofNat S)) (hj : j ≤ 3) : j < S := (own_cond hM hn hj).mp h
theorem own_inc {n j : Nat} : Int32.ofNat (n + j) + (1 : Int32) = Int32.ofNat (n + (j + 1)) := own_addk1
def own_n (h : Int64) (B S : Nat) : Nat := (h.toInt.toNat % B) * S
theorem d_rec30_41 : decode prog_25_method_5_code 41 = .ok (.iload 11, 2) := by decide +kernel
theorem d_rec30_43 : decode prog_25_method_5_code 43 = .ok (.iload 9, 2) := by decide +kernel
theorem d_rec30_45 : decode prog_25_method_5_code 45 = .ok (.aload_n 0, 1) := by decide +kernel
theorem d_rec30_46 : decode prog_25_method_5_code 46 = .ok (.getfield 26, 3) := by decide +kernel
theorem d_rec30_49 : decode prog_25_method_5_code 49 = .ok (.iadd, 1) := by decide +kernel
theorem d_rec30_50 : decode prog_25_method_5_code 50 = .ok (.if_icmp .ge 63, 3) := by decide +kernel
def f_rec30 (n S : Nat) (h : Int64) (hs cs : List Int64) : Nat := 0
set_option maxRecDepth 65536 in
set_option maxHeartbeats 40000000 in
theorem pc_rec30 {p : Program} {l : Launch} {e : Env} {s : State} {m : MethodId} {below : List Frame} {meth : Method} {c : Code} {T0 : State} {locs : List Loc} {Z : State} {a0 : Array Value} {h0 : Heap} {n0 : Nat} (r0 r3 ra rc : Addr) (q1 h : Int64) (B S M n : Nat) (ka kc : ClassId) (hs cs : List Int64)
    (X0 : Stand p l e ({ frames := 2, cells := 0, slots := 0, locals := 33 } : Room) s m #[(.ref r0), (.long q1), (.ref r3)] below meth c T0 locs 0 0) (hx : p.tables.exec = Jvm.exec) (hZ : Z.Warmed39 s.vm) (hw : ∀ d ∈ tables_1, d.before a0 Z = true) (hby : c.code = prog_25_method_5_code) (hml : c.maxLocals = 12) (hown : s.vm.findClass "com/example/auspex/auspex/manager/ConflictTable" = some m.cls) (e0 : T0.heap = h0) (N0 : Fr n0 locs) (Z0 : n0 ≤ h0.size) (Fb : Fld Z h0 r0 "com/example/auspex/auspex/manager/ConflictTable" "buckets" "I" (.int (Int32.ofNat B))) (Fs : Fld Z h0 r0 "com/example/auspex/auspex/manager/ConflictTable" "slotsPerBucket" "I" (.int (Int32.ofNat S))) (Fh : Fld Z h0 r0 "com/example/auspex/auspex/manager/ConflictTable" "hashes" "[J" (.ref ra)) (Fc : Fld Z h0 r0 "com/example/auspex/auspex/manager/ConflictTable" "commits" "[J" (.ref rc)) (E_r0 : Exa Z h0 r0 "com/example/auspex/auspex/manager/ConflictTable") (Va : Arv Z h0 ra ka .long (Int32.ofNat M) (hs.map Value.long) (.long (0 : Int64))) (Vc : Arv Z h0 rc kc .long (Int32.ofNat M) (cs.map Value.long) (.long (0 : Int64))) (hS : 1 ≤ S ∧ S ≤ 3) (hM : M ≤ 12) (hn : n + S ≤ M) :
    ∃ (T' : State) (L' : List Loc) (w11 : Slot), Stand p l e ({ frames := 2, cells := 0, slots := 0, locals := 33 } : Room) s m #[(.ref r0), (.long q1), (.ref r3)] below meth c T' L' 0 0 ∧ Fr n0 L' ∧ T'.heap = h0 ∧ Go p.tables e below (T0.setTop (mkF m 41 #[.val (.ref r0), .val (.long q1), .second, .val (.ref r3), .val (.ref r3), .val (.int (1 : Int32)), .val (.int (0 : Int32)), .val (.long h), .second, .val (.int (Int32.ofNat n)), .val (.int (Int32.ofNat (n + 0))), .val (.int (Int32.ofNat (n + 3)))] [])) (T'.setTop (mkF m 113 #[.val (.ref r0), .val (.long q1), .second, .val (.ref r3), .val (.ref r3), .val (.int (1 : Int32)), .val (.int (0 : Int32)), .val (.long h), .second, .val (.int (Int32.ofNat n)), .val (.int (Int32.ofNat (n + (f_rec30 n S h hs cs)))), w11] [])) := by
  have k1 : Go p.tables e below (T0.setTop (mkF m 41 #[.val (.ref r0), .val (.long q1), .second, .val (.ref r3), .val (.ref r3), .val (.int (1 : Int32)), .val (.int (0 : Int32)), .val (.long h), .second, .val (.int (Int32.ofNat n)), .val (.int (Int32.ofNat (n + 0))), .val (.int (Int32.ofNat (n + 3)))] [])) (T0.setTop (mkF m 46 #[.val (.ref r0), .val (.long q1), .second, .val (.ref r3), .val (.ref r3), .val (.int (1 : Int32)), .val (.int (0 : Int32)), .val (.long h), .second, .val (.int (Int32.ofNat n)), .val (.int (Int32.ofNat (n + 0))), .val (.int (Int32.ofNat (n + 3)))] [(.ref r0), (.int (Int32.ofNat n)), (.int (Int32.ofNat (n + 3)))])) := by
    intro t ht
    refine XS.iload X0.here hx rfl (hb hby d_rec30_41) rfl ?_
    show Steps p.tables e below (T0.setTop (mkF m 43 #[.val (.ref r0), .val (.long q1), .second, .val (.ref r3), .val (.ref r3), .val (.int (1 : Int32)), .val (.int (0 : Int32)), .val (.long h), .second, .val (.int (Int32.ofNat n)), .val (.int (Int32.ofNat (n + 0))), .val (.int (Int32.ofNat (n + 3)))] [(.int (Int32.ofNat (n + 3)))])) _
    refine XS.iload X0.here hx rfl (hb hby d_rec30_43) rfl ?_
    show Steps p.tables e below (T0.setTop (mkF m 45 #[.val (.ref r0), .val (.long q1), .second, .val (.ref r3), .val (.ref r3), .val (.int (1 : Int32)), .val (.int (0 : Int32)), .val (.long h), .second, .val (.int (Int32.ofNat n)), .val (.int (Int32.ofNat (n + 0))), .val (.int (Int32.ofNat (n + 3)))] [(.int (Int32.ofNat n)), (.int (Int32.ofNat (n + 3)))])) _
    refine XS.aloadN X0.here hx rfl (hb hby d_rec30_45) rfl rfl ?_
    exact ht
  obtain ⟨T2, X2, e2, st2⟩ := getF X0 hx hZ hown (host := "") (Or.inl (hw _ (List.mem_of_getElem? (i := 13) rfl))) Via.refl e0 Fs (g := (mkF m 46 #[.val (.ref r0), .val (.long q1), .second, .val (.ref r3), .val (.ref r3), .val (.int (1 : Int32)), .val (.int (0 : Int32)), .val (.long h), .second, .val (.int (Int32.ofNat n)), .val (.int (Int32.ofNat (n + 0))), .val (.int (Int32.ofNat (n + 3)))] [(.ref r0), (.int (Int32.ofNat n)), (.int (Int32.ofNat (n + 3)))])) rfl rfl (hb hby d_rec30_46)
  have k2 : Go p.tables e below (T0.setTop (mkF m 46 #[.val (.ref r0), .val (.long q1), .second, .val (.ref r3), .val (.ref r3), .val (.int (1 : Int32)), .val (.int (0 : Int32)), .val (.long h), .second, .val (.int (Int32.ofNat n)), .val (.int (Int32.ofNat (n + 0))), .val (.int (Int32.ofNat (n + 3)))] [(.ref r0), (.int (Int32.ofNat n)), (.int (Int32.ofNat (n + 3)))])) (T2.setTop (mkF m 49 #[.val (.ref r0), .val (.long q1), .second, .val (.ref r3), .val (.ref r3), .val (.int (1 : Int32)), .val (.int (0 : Int32)), .val (.long h), .second, .val (.int (Int32.ofNat n)), .val (.int (Int32.ofNat (n + 0))), .val (.int (Int32.ofNat (n + 3)))] [(.int (Int32.ofNat S)), (.int (Int32.ofNat n)), (.int (Int32.ofNat (n + 3)))])) := st2
  have k3 : Go p.tables e below (T2.setTop (mkF m 49 #[.val (.ref r0), .val (.long q1), .second, .val (.ref r3), .val (.ref r3), .val (.int (1 : Int32)), .val (.int (0 : Int32)), .val (.long h), .second, .val (.int (Int32.ofNat n)), .val (.int (Int32.ofNat (n + 0))), .val (.int (Int32.ofNat (n + 3)))] [(.int (Int32.ofNat S)), (.int (Int32.ofNat n)), (.int (Int32.ofNat (n + 3)))])) (T2.setTop (mkF m 113 #[.val (.ref r0), .val (.long q1), .second, .val (.ref r3), .val (.ref r3), .val (.int (1 : Int32)), .val (.int (0 : Int32)), .val (.long h), .second, .val (.int (Int32.ofNat n)), .val (.int (Int32.ofNat (n + 0))), .val (.int (Int32.ofNat (n + 3)))] [])) := by
    intro t ht
    refine XS.iadd X2.here hx rfl (hb hby d_rec30_49) rfl ?_
    show Steps p.tables e below (T2.setTop (mkF m 50 #[.val (.ref r0), .val (.long q1), .second, .val (.ref r3), .val (.ref r3), .val (.int (1 : Int32)), .val (.int (0 : Int32)), .val (.long h), .second, .val (.int (Int32.ofNat n)), .val (.int (Int32.ofNat (n + 0))), .val (.int (Int32.ofNat (n + 3)))] [(.int ((Int32.ofNat n) + (Int32.ofNat S))), (.int (Int32.ofNat (n + 3)))])) _
    refine XS.icmpYes X2.here hx rfl (pc0 := 50) (pc' := 113) rfl (hb hby d_rec30_50) rfl (flt (own_j3 hS hM hn)).2.1 (by decide) (by decide) ?_
    exact ht
  refine ⟨T2, _, (.val (.int (Int32.ofNat (n + 3)))), X2, N0, e2, ?_⟩
  have kk := (goT k1 (goT k2 k3))
  simpa only [f_rec30] using kk
theorem d_rec31_41 : decode prog_25_method_5_code 41 = .ok (.iload 11, 2) := by decide +kernel
theorem d_rec31_43 : decode prog_25_method_5_code 43 = .ok (.iload 9, 2) := by decide +kernel
theorem d_rec31_45 : decode prog_25_method_5_code 45 = .ok (.aload_n 0, 1) := by decide +kernel
theorem d_rec31_46 : decode prog_25_method_5_code 46 = .ok (.getfield 26, 3) := by decide +kernel
theorem d_rec31_49 : decode prog_25_method_5_code 49 = .ok (.iadd, 1) := by decide +kernel
theorem d_rec31_50 : decode prog_25_method_5_code 50 = .ok (.if_icmp .ge 63, 3) := by decide +kernel
def f_rec31 (n S : Nat) (h : Int64) (hs cs : List Int64) : Nat := 1
set_option maxRecDepth 65536 in
set_option maxHeartbeats 40000000 in
theorem pc_rec31 {p : Program} {l : Launch} {e : Env} {s : State} {m : MethodId} {below : List Frame} {meth : Method} {c : Code} {T0 : State} {locs : List Loc} {Z : State} {a0 : Array Value} {h0 : Heap} {n0 : Nat} (r0 r3 ra rc : Addr) (q1 h : Int64) (B S M n : Nat) (ka kc : ClassId) (hs cs : List Int64)
    (X0 : Stand p l e ({ frames := 2, cells := 0, slots := 0, locals := 33 } : Room) s m #[(.ref r0), (.long q1), (.ref r3)] below meth c T0 locs 0 0) (hx : p.tables.exec = Jvm.exec) (hZ : Z.Warmed39 s.vm) (hw : ∀ d ∈ tables_1, d.before a0 Z = true) (hby : c.code = prog_25_method_5_code) (hml : c.maxLocals = 12) (hown : s.vm.findClass "com/example/auspex/auspex/manager/ConflictTable" = some m.cls) (e0 : T0.heap = h0) (N0 : Fr n0 locs) (Z0 : n0 ≤ h0.size) (Fb : Fld Z h0 r0 "com/example/auspex/auspex/manager/ConflictTable" "buckets" "I" (.int (Int32.ofNat B))) (Fs : Fld Z h0 r0 "com/example/auspex/auspex/manager/ConflictTable" "slotsPerBucket" "I" (.int (Int32.ofNat S))) (Fh : Fld Z h0 r0 "com/example/auspex/auspex/manager/ConflictTable" "hashes" "[J" (.ref ra)) (Fc : Fld Z h0 r0 "com/example/auspex/auspex/manager/ConflictTable" "commits" "[J" (.ref rc)) (E_r0 : Exa Z h0 r0 "com/example/auspex/auspex/manager/ConflictTable") (Va : Arv Z h0 ra ka .long (Int32.ofNat M) (hs.map Value.long) (.long (0 : Int64))) (Vc : Arv Z h0 rc kc .long (Int32.ofNat M) (cs.map Value.long) (.long (0 : Int64))) (hS : 1 ≤ S ∧ S ≤ 3) (hM : M ≤ 12) (hn : n + S ≤ M) :
    ∃ (T' : State) (L' : List Loc) (w11 : Slot), Stand p l e ({ frames := 2, cells := 0, slots := 0, locals := 33 } : Room) s m #[(.ref r0), (.long q1), (.ref r3)] below meth c T' L' 0 0 ∧ Fr n0 L' ∧ T'.heap = h0 ∧ Go p.tables e below (T0.setTop (mkF m 41 #[.val (.ref r0), .val (.long q1), .second, .val (.ref r3), .val (.ref r3), .val (.int (1 : Int32)), .val (.int (0 : Int32)), .val (.long h), .second, .val (.int (Int32.ofNat n)), .val (.int (Int32.ofNat (n + 1))), .val (.int (Int32.ofNat (n + 3)))] [])) (T'.setTop (mkF m 113 #[.val (.ref r0), .val (.long q1), .second, .val (.ref r3), .val (.ref r3), .val (.int (1 : Int32)), .val (.int (0 : Int32)), .val (.long h), .second, .val (.int (Int32.ofNat n)), .val (.int (Int32.ofNat (n + (f_rec31 n S h hs cs)))), w11] [])) := by
  have k1 : Go p.tables e below (T0.setTop (mkF m 41 #[.val (.ref r0), .val (.long q1), .second, .val (.ref r3), .val (.ref r3), .val (.int (1 : Int32)), .val (.int (0 : Int32)), .val (.long h), .second, .val (.int (Int32.ofNat n)), .val (.int (Int32.ofNat (n + 1))), .val (.int (Int32.ofNat (n + 3)))] [])) (T0.setTop (mkF m 46 #[.val (.ref r0), .val (.long q1), .second, .val (.ref r3), .val (.ref r3), .val (.int (1 : Int32)), .val (.int (0 : Int32)), .val (.long h), .second, .val (.int (Int32.ofNat n)), .val (.int (Int32.ofNat (n + 1))), .val (.int (Int32.ofNat (n + 3)))] [(.ref r0), (.int (Int32.ofNat n)), (.int (Int32.ofNat (n + 3)))])) := by
    intro t ht
    refine XS.iload X0.here hx rfl (hb hby d_rec31_41) rfl ?_
    show Steps p.tables e below (T0.setTop (mkF m 43 #[.val (.ref r0), .val (.long q1), .second, .val (.ref r3), .val (.ref r3), .val (.int (1 : Int32)), .val (.int (0 : Int32)), .val (.long h), .second, .val (.int (Int32.ofNat n)), .val (.int (Int32.ofNat (n + 1))), .val (.int (Int32.ofNat (n + 3)))] [(.int (Int32.ofNat (n + 3)))])) _
    refine XS.iload X0.here hx rfl (hb hby d_rec31_43) rfl ?_
    show Steps p.tables e below (T0.setTop (mkF m 45 #[.val (.ref r0), .val (.long q1), .second, .val (.ref r3), .val (.ref r3), .val (.int (1 : Int32)), .val (.int (0 : Int32)), .val (.long h), .second, .val (.int (Int32.ofNat n)), .val (.int (Int32.ofNat (n + 1))), .val (.int (Int32.ofNat (n + 3)))] [(.int (Int32.ofNat n)), (.int (Int32.ofNat (n + 3)))])) _
    refine XS.aloadN X0.here hx rfl (hb hby d_rec31_45) rfl rfl ?_
    exact ht
  obtain ⟨T2, X2, e2, st2⟩ := getF X0 hx hZ hown (host := "") (Or.inl (hw _ (List.mem_of_getElem? (i := 13) rfl))) Via.refl e0 Fs (g := (mkF m 46 #[.val (.ref r0), .val (.long q1), .second, .val (.ref r3), .val (.ref r3), .val (.int (1 : Int32)), .val (.int (0 : Int32)), .val (.long h), .second, .val (.int (Int32.ofNat n)), .val (.int (Int32.ofNat (n + 1))), .val (.int (Int32.ofNat (n + 3)))] [(.ref r0), (.int (Int32.ofNat n)), (.int (Int32.ofNat (n + 3)))])) rfl rfl (hb hby d_rec31_46)
  have k2 : Go p.tables e below (T0.setTop (mkF m 46 #[.val (.ref r0), .val (.long q1), .second, .val (.ref r3), .val (.ref r3), .val (.int (1 : Int32)), .val (.int (0 : Int32)), .val (.long h), .second, .val (.int (Int32.ofNat n)), .val (.int (Int32.ofNat (n + 1))), .val (.int (Int32.ofNat (n + 3)))] [(.ref r0), (.int (Int32.ofNat n)), (.int (Int32.ofNat (n + 3)))])) (T2.setTop (mkF m 49 #[.val (.ref r0), .val (.long q1), .second, .val (.ref r3), .val (.ref r3), .val (.int (1 : Int32)), .val (.int (0 : Int32)), .val (.long h), .second, .val (.int (Int32.ofNat n)), .val (.int (Int32.ofNat (n + 1))), .val (.int (Int32.ofNat (n + 3)))] [(.int (Int32.ofNat S)), (.int (Int32.ofNat n)), (.int (Int32.ofNat (n + 3)))])) := st2
  have k3 : Go p.tables e below (T2.setTop (mkF m 49 #[.val (.ref r0), .val (.long q1), .second, .val (.ref r3), .val (.ref r3), .val (.int (1 : Int32)), .val (.int (0 : Int32)), .val (.long h), .second, .val (.int (Int32.ofNat n)), .val (.int (Int32.ofNat (n + 1))), .val (.int (Int32.ofNat (n + 3)))] [(.int (Int32.ofNat S)), (.int (Int32.ofNat n)), (.int (Int32.ofNat (n + 3)))])) (T2.setTop (mkF m 113 #[.val (.ref r0), .val (.long q1), .second, .val (.ref r3), .val (.ref r3), .val (.int (1 : Int32)), .val (.int (0 : Int32)), .val (.long h), .second, .val (.int (Int32.ofNat n)), .val (.int (Int32.ofNat (n + 1))), .val (.int (Int32.ofNat (n + 3)))] [])) := by
    intro t ht
    refine XS.iadd X2.here hx rfl (hb hby d_rec31_49) rfl ?_
    show Steps p.tables e below (T2.setTop (mkF m 50 #[.val (.ref r0), .val (.long q1), .second, .val (.ref r3), .val (.ref r3), .val (.int (1 : Int32)), .val (.int (0 : Int32)), .val (.long h), .second, .val (.int (Int32.ofNat n)), .val (.int (Int32.ofNat (n + 1))), .val (.int (Int32.ofNat (n + 3)))] [(.int ((Int32.ofNat n) + (Int32.ofNat S))), (.int (Int32.ofNat (n + 3)))])) _
    refine XS.icmpYes X2.here hx rfl (pc0 := 50) (pc' := 113) rfl (hb hby d_rec31_50) rfl (flt (own_j3 hS hM hn)).2.1 (by decide) (by decide) ?_
    exact ht
  refine ⟨T2, _, (.val (.int (Int32.ofNat (n + 3)))), X2, N0, e2, ?_⟩
  have kk := (goT k1 (goT k2 k3))
  simpa only [f_rec31] using kk
theorem d_rec32_41 : decode prog_25_method_5_code 41 = .ok (.iload 11, 2) := by decide +kernel
theorem d_rec32_43 : decode prog_25_method_5_code 43 = .ok (.iload 9, 2) := by decide +kernel
theorem d_rec32_45 : decode prog_25_method_5_code 45 = .ok (.aload_n 0, 1) := by decide +kernel
theorem d_rec32_46 : decode prog_25_method_5_code 46 = .ok (.getfield 26, 3) := by decide +kernel
theorem d_rec32_49 : decode prog_25_method_5_code 49 = .ok (.iadd, 1) := by decide +kernel
theorem d_rec32_50 : decode prog_25_method_5_code 50 = .ok (.if_icmp .ge 63, 3) := by decide +kernel
def f_rec32 (n S : Nat) (h : Int64) (hs cs : List Int64) : Nat := 2
set_option maxRecDepth 65536 in
set_option maxHeartbeats 40000000 in
theorem pc_rec32 {p : Program} {l : Launch} {e : Env} {s : State} {m : MethodId} {below : List Frame} {meth : Method} {c : Code} {T0 : State} {locs : List Loc} {Z : State} {a0 : Array Value} {h0 : Heap} {n0 : Nat} (r0 r3 ra rc : Addr) (q1 h : Int64) (B S M n : Nat) (ka kc : ClassId) (hs cs : List Int64)
    (X0 : Stand p l e ({ frames := 2, cells := 0, slots := 0, locals := 33 } : Room) s m #[(.ref r0), (.long q1), (.ref r3)] below meth c T0 locs 0 0) (hx : p.tables.exec = Jvm.exec) (hZ : Z.Warmed39 s.vm) (hw : ∀ d ∈ tables_1, d.before a0 Z = true) (hby : c.code = prog_25_method_5_code) (hml : c.maxLocals = 12) (hown : s.vm.findClass "com/example/auspex/auspex/manager/ConflictTable" = some m.cls) (e0 : T0.heap = h0) (N0 : Fr n0 locs) (Z0 : n0 ≤ h0.size) (Fb : Fld Z h0 r0 "com/example/auspex/auspex/manager/ConflictTable" "buckets" "I" (.int (Int32.ofNat B))) (Fs : Fld Z h0 r0 "com/example/auspex/auspex/manager/ConflictTable" "slotsPerBucket" "I" (.int (Int32.ofNat S))) (Fh : Fld Z h0 r0 "com/example/auspex/auspex/manager/ConflictTable" "hashes" "[J" (.ref ra)) (Fc : Fld Z h0 r0 "com/example/auspex/auspex/manager/ConflictTable" "commits" "[J" (.ref rc)) (E_r0 : Exa Z h0 r0 "com/example/auspex/auspex/manager/ConflictTable") (Va : Arv Z h0 ra ka .long (Int32.ofNat M) (hs.map Value.long) (.long (0 : Int64))) (Vc : Arv Z h0 rc kc .long (Int32.ofNat M) (cs.map Value.long) (.long (0 : Int64))) (hS : 1 ≤ S ∧ S ≤ 3) (hM : M ≤ 12) (hn : n + S ≤ M) :
    ∃ (T' : State) (L' : List Loc) (w11 : Slot), Stand p l e ({ frames := 2, cells := 0, slots := 0, locals := 33 } : Room) s m #[(.ref r0), (.long q1), (.ref r3)] below meth c T' L' 0 0 ∧ Fr n0 L' ∧ T'.heap = h0 ∧ Go p.tables e below (T0.setTop (mkF m 41 #[.val (.ref r0), .val (.long q1), .second, .val (.ref r3), .val (.ref r3), .val (.int (1 : Int32)), .val (.int (0 : Int32)), .val (.long h), .second, .val (.int (Int32.ofNat n)), .val (.int (Int32.ofNat (n + 2))), .val (.int (Int32.ofNat (n + 3)))] [])) (T'.setTop (mkF m 113 #[.val (.ref r0), .val (.long q1), .second, .val (.ref r3), .val (.ref r3), .val (.int (1 : Int32)), .val (.int (0 : Int32)), .val (.long h), .second, .val (.int (Int32.ofNat n)), .val (.int (Int32.ofNat (n + (f_rec32 n S h hs cs)))), w11] [])) := by
  have k1 : Go p.tables e below (T0.setTop (mkF m 41 #[.val (.ref r0), .val (.long q1), .second, .val (.ref r3), .val (.ref r3), .val (.int (1 : Int32)), .val (.int (0 : Int32)), .val (.long h), .second, .val (.int (Int32.ofNat n)), .val (.int (Int32.ofNat (n + 2))), .val (.int (Int32.ofNat (n + 3)))] [])) (T0.setTop (mkF m 46 #[.val (.ref r0), .val (.long q1), .second, .val (.ref r3), .val (.ref r3), .val (.int (1 : Int32)), .val (.int (0 : Int32)), .val (.long h), .second, .val (.int (Int32.ofNat n)), .val (.int (Int32.ofNat (n + 2))), .val (.int (Int32.ofNat (n + 3)))] [(.ref r0), (.int (Int32.ofNat n)), (.int (Int32.ofNat (n + 3)))])) := by
    intro t ht
    refine XS.iload X0.here hx rfl (hb hby d_rec32_41) rfl ?_
    show Steps p.tables e below (T0.setTop (mkF m 43 #[.val (.ref r0), .val (.long q1), .second, .val (.ref r3), .val (.ref r3), .val (.int (1 : Int32)), .val (.int (0 : Int32)), .val (.long h), .second, .val (.int (Int32.ofNat n)), .val (.int (Int32.ofNat (n + 2))), .val (.int (Int32.ofNat (n + 3)))] [(.int (Int32.ofNat (n + 3)))])) _
    refine XS.iload X0.here hx rfl (hb hby d_rec32_43) rfl ?_
    show Steps p.tables e below (T0.setTop (mkF m 45 #[.val (.ref r0), .val (.long q1), .second, .val (.ref r3), .val (.ref r3), .val (.int (1 : Int32)), .val (.int (0 : Int32)), .val (.long h), .second, .val (.int (Int32.ofNat n)), .val (.int (Int32.ofNat (n + 2))), .val (.int (Int32.ofNat (n + 3)))] [(.int (Int32.ofNat n)), (.int (Int32.ofNat (n + 3)))])) _
    refine XS.aloadN X0.here hx rfl (hb hby d_rec32_45) rfl rfl ?_
    exact ht
  obtain ⟨T2, X2, e2, st2⟩ := getF X0 hx hZ hown (host := "") (Or.inl (hw _ (List.mem_of_getElem? (i := 13) rfl))) Via.refl e0 Fs (g := (mkF m 46 #[.val (.ref r0), .val (.long q1), .second, .val (.ref r3), .val (.ref r3), .val (.int (1 : Int32)), .val (.int (0 : Int32)), .val (.long h), .second, .val (.int (Int32.ofNat n)), .val (.int (Int32.ofNat (n + 2))), .val (.int (Int32.ofNat (n + 3)))] [(.ref r0), (.int (Int32.ofNat n)), (.int (Int32.ofNat (n + 3)))])) rfl rfl (hb hby d_rec32_46)
  have k2 : Go p.tables e below (T0.setTop (mkF m 46 #[.val (.ref r0), .val (.long q1), .second, .val (.ref r3), .val (.ref r3), .val (.int (1 : Int32)), .val (.int (0 : Int32)), .val (.long h), .second, .val (.int (Int32.ofNat n)), .val (.int (Int32.ofNat (n + 2))), .val (.int (Int32.ofNat (n + 3)))] [(.ref r0), (.int (Int32.ofNat n)), (.int (Int32.ofNat (n + 3)))])) (T2.setTop (mkF m 49 #[.val (.ref r0), .val (.long q1), .second, .val (.ref r3), .val (.ref r3), .val (.int (1 : Int32)), .val (.int (0 : Int32)), .val (.long h), .second, .val (.int (Int32.ofNat n)), .val (.int (Int32.ofNat (n + 2))), .val (.int (Int32.ofNat (n + 3)))] [(.int (Int32.ofNat S)), (.int (Int32.ofNat n)), (.int (Int32.ofNat (n + 3)))])) := st2
  have k3 : Go p.tables e below (T2.setTop (mkF m 49 #[.val (.ref r0), .val (.long q1), .second, .val (.ref r3), .val (.ref r3), .val (.int (1 : Int32)), .val (.int (0 : Int32)), .val (.long h), .second, .val (.int (Int32.ofNat n)), .val (.int (Int32.ofNat (n + 2))), .val (.int (Int32.ofNat (n + 3)))] [(.int (Int32.ofNat S)), (.int (Int32.ofNat n)), (.int (Int32.ofNat (n + 3)))])) (T2.setTop (mkF m 113 #[.val (.ref r0), .val (.long q1), .second, .val (.ref r3), .val (.ref r3), .val (.int (1 : Int32)), .val (.int (0 : Int32)), .val (.long h), .second, .val (.int (Int32.ofNat n)), .val (.int (Int32.ofNat (n + 2))), .val (.int (Int32.ofNat (n + 3)))] [])) := by
    intro t ht
    refine XS.iadd X2.here hx rfl (hb hby d_rec32_49) rfl ?_
    show Steps p.tables e below (T2.setTop (mkF m 50 #[.val (.ref r0), .val (.long q1), .second, .val (.ref r3), .val (.ref r3), .val (.int (1 : Int32)), .val (.int (0 : Int32)), .val (.long h), .second, .val (.int (Int32.ofNat n)), .val (.int (Int32.ofNat (n + 2))), .val (.int (Int32.ofNat (n + 3)))] [(.int ((Int32.ofNat n) + (Int32.ofNat S))), (.int (Int32.ofNat (n + 3)))])) _
    refine XS.icmpYes X2.here hx rfl (pc0 := 50) (pc' := 113) rfl (hb hby d_rec32_50) rfl (flt (own_j3 hS hM hn)).2.1 (by decide) (by decide) ?_
    exact ht
  refine ⟨T2, _, (.val (.int (Int32.ofNat (n + 3)))), X2, N0, e2, ?_⟩
  have kk := (goT k1 (goT k2 k3))
  simpa only [f_rec32] using kk
theorem d_rec20_41 : decode prog_25_method_5_code 41 = .ok (.iload 11, 2) := by decide +kernel
theorem d_rec20_43 : decode prog_25_method_5_code 43 = .ok (.iload 9, 2) := by decide +kernel
theorem d_rec20_45 : decode prog_25_method_5_code 45 = .ok (.aload_n 0, 1) := by decide +kernel
theorem d_rec20_46 : decode prog_25_method_5_code 46 = .ok (.getfield 26, 3) := by decide +kernel
theorem d_rec20_49 : decode prog_25_method_5_code 49 = .ok (.iadd, 1) := by decide +kernel
theorem d_rec20_50 : decode prog_25_method_5_code 50 = .ok (.if_icmp .ge 63, 3) := by decide +kernel
theorem d_rec20_53 : decode prog_25_method_5_code 53 = .ok (.aload_n 0, 1) := by decide +kernel
theorem d_rec20_54 : decode prog_25_method_5_code 54 = .ok (.getfield 29, 3) := by decide +kernel
theorem d_rec20_57 : decode prog_25_method_5_code 57 = .ok (.iload 11, 2) := by decide +kernel
theorem d_rec20_59 : decode prog_25_method_5_code 59 = .ok (.laload, 1) := by decide +kernel
theorem d_rec20_60 : decode prog_25_method_5_code 60 = .ok (.lload 7, 2) := by decide +kernel
theorem d_rec20_62 : decode prog_25_method_5_code 62 = .ok (.lcmp, 1) := by decide +kernel
theorem d_rec20_63 : decode prog_25_method_5_code 63 = .ok (.ifCond .ne 22, 3) := by decide +kernel
theorem d_rec20_66 : decode prog_25_method_5_code 66 = .ok (.aload_n 0, 1) := by decide +kernel
theorem d_rec20_67 : decode prog_25_method_5_code 67 = .ok (.getfield 33, 3) := by decide +kernel
theorem d_rec20_70 : decode prog_25_method_5_code 70 = .ok (.iload 11, 2) := by decide +kernel
theorem d_rec20_72 : decode prog_25_method_5_code 72 = .ok (.laload, 1) := by decide +kernel
theorem d_rec20_73 : decode prog_25_method_5_code 73 = .ok (.lconst 0, 1) := by decide +kernel
theorem d_rec20_74 : decode prog_25_method_5_code 74 = .ok (.lcmp, 1) := by decide +kernel
theorem d_rec20_75 : decode prog_25_method_5_code 75 = .ok (.ifCond .eq 10, 3) := by decide +kernel
theorem d_rec20_78 : decode prog_25_method_5_code 78 = .ok (.iload 11, 2) := by decide +kernel
theorem d_rec20_80 : decode prog_25_method_5_code 80 = .ok (.istore 10, 2) := by decide +kernel
theorem d_rec20_82 : decode prog_25_method_5_code 82 = .ok (.goto 31, 3) := by decide +kernel
theorem d_rec20_85 : decode prog_25_method_5_code 85 = .ok (.aload_n 0, 1) := by decide +kernel
theorem d_rec20_86 : decode prog_25_method_5_code 86 = .ok (.getfield 33, 3) := by decide +kernel
theorem d_rec20_89 : decode prog_25_method_5_code 89 = .ok (.iload 11, 2) := by decide +kernel
theorem d_rec20_91 : decode prog_25_method_5_code 91 = .ok (.laload, 1) := by decide +kernel
theorem d_rec20_92 : decode prog_25_method_5_code 92 = .ok (.aload_n 0, 1) := by decide +kernel
theorem d_rec20_93 : decode prog_25_method_5_code 93 = .ok (.getfield 33, 3) := by decide +kernel
theorem d_rec20_96 : decode prog_25_method_5_code 96 = .ok (.iload 10, 2) := by decide +kernel
theorem d_rec20_98 : decode prog_25_method_5_code 98 = .ok (.laload, 1) := by decide +kernel
theorem d_rec20_99 : decode prog_25_method_5_code 99 = .ok (.lcmp, 1) := by decide +kernel
theorem d_rec20_100 : decode prog_25_method_5_code 100 = .ok (.ifCond .ge 7, 3) := by decide +kernel
theorem d_rec20_103 : decode prog_25_method_5_code 103 = .ok (.iload 11, 2) := by decide +kernel
theorem d_rec20_105 : decode prog_25_method_5_code 105 = .ok (.istore 10, 2) := by decide +kernel
theorem d_rec20_107 : decode prog_25_method_5_code 107 = .ok (.iinc 11 1, 3) := by decide +kernel
theorem d_rec20_110 : decode prog_25_method_5_code 110 = .ok (.goto (-69), 3) := by decide +kernel
def f_rec20 (n S : Nat) (h : Int64) (hs cs : List Int64) : Nat := (if (Int32.ofNat (n + 2)) < ((Int32.ofNat n) + (Int32.ofNat S)) then (if (hs.getD (n + 2) 0) = h then (if (cs.getD (n + 2) 0) = (0 : Int64) then (if (cs.getD (n + 2) 0) < (cs.getD (n + 0) 0) then (f_rec32 n S h hs cs) else (f_rec30 n S h hs cs)) else 2) else (if (cs.getD (n + 2) 0) < (cs.getD (n + 0) 0) then (f_rec32 n S h hs cs) else (f_rec30 n S h hs cs))) else 0)
set_option maxRecDepth 65536 in
set_option maxHeartbeats 40000000 in
theorem pc_rec20 {p : Program} {l : Launch} {e : Env} {s : State} {m : MethodId} {below : List Frame} {meth : Method} {c : Code} {T0 : State} {locs : List Loc} {Z : State} {a0 : Array Value} {h0 : Heap} {n0 : Nat} (r0 r3 ra rc : Addr) (q1 h : Int64) (B S M n : Nat) (ka kc : ClassId) (hs cs : List Int64)
    (X0 : Stand p l e ({ frames := 2, cells := 0, slots := 0, locals := 33 } : Room) s m #[(.ref r0), (.long q1), (.ref r3)] below meth c T0 locs 0 0) (hx : p.tables.exec = Jvm.exec) (hZ : Z.Warmed39 s.vm) (hw : ∀ d ∈ tables_1, d.before a0 Z = true) (hby : c.code = prog_25_method_5_code) (hml : c.maxLocals = 12) (hown : s.vm.findClass "com/example/auspex/auspex/manager/ConflictTable" = some m.cls) (e0 : T0.heap = h0) (N0 : Fr n0 locs) (Z0 : n0 ≤ h0.size) (Fb : Fld Z h0 r0 "com/example/auspex/auspex/manager/ConflictTable" "buckets" "I" (.int (Int32.ofNat B))) (Fs : Fld Z h0 r0 "com/example/auspex/auspex/manager/ConflictTable" "slotsPerBucket" "I" (.int (Int32.ofNat S))) (Fh : Fld Z h0 r0 "com/example/auspex/auspex/manager/ConflictTable" "hashes" "[J" (.ref ra)) (Fc : Fld Z h0 r0 "com/example/auspex/auspex/manager/ConflictTable" "commits" "[J" (.ref rc)) (E_r0 : Exa Z h0 r0 "com/example/auspex/auspex/manager/ConflictTable") (Va : Arv Z h0 ra ka .long (Int32.ofNat M) (hs.map Value.long) (.long (0 : Int64))) (Vc : Arv Z h0 rc kc .long (Int32.ofNat M) (cs.map Value.long) (.long (0 : Int64))) (hS : 1 ≤ S ∧ S ≤ 3) (hM : M ≤ 12) (hn : n + S ≤ M) :
    ∃ (T' : State) (L' : List Loc) (w11 : Slot), Stand p l e ({ frames := 2, cells := 0, slots := 0, locals := 33 } : Room) s m #[(.ref r0), (.long q1), (.ref r3)] below meth c T' L' 0 0 ∧ Fr n0 L' ∧ T'.heap = h0 ∧ Go p.tables e below (T0.setTop (mkF m 41 #[.val (.ref r0), .val (.long q1), .second, .val (.ref r3), .val (.ref r3), .val (.int (1 : Int32)), .val (.int (0 : Int32)), .val (.long h), .second, .val (.int (Int32.ofNat n)), .val (.int (Int32.ofNat (n + 0))), .val (.int (Int32.ofNat (n + 2)))] [])) (T'.setTop (mkF m 113 #[.val (.ref r0), .val (.long q1), .second, .val (.ref r3), .val (.ref r3), .val (.int (1 : Int32)), .val (.int (0 : Int32)), .val (.long h), .second, .val (.int (Int32.ofNat n)), .val (.int (Int32.ofNat (n + (f_rec20 n S h hs cs)))), w11] [])) := by
  have k1 : Go p.tables e below (T0.setTop (mkF m 41 #[.val (.ref r0), .val (.long q1), .second, .val (.ref r3), .val (.ref r3), .val (.int (1 : Int32)), .val (.int (0 : Int32)), .val (.long h), .second, .val (.int (Int32.ofNat n)), .val (.int (Int32.ofNat (n + 0))), .val (.int (Int32.ofNat (n + 2)))] [])) (T0.setTop (mkF m 46 #[.val (.ref r0), .val (.long q1), .second, .val (.ref r3), .val (.ref r3), .val (.int (1 : Int32)), .val (.int (0 : Int32)), .val (.long h), .second, .val (.int (Int32.ofNat n)), .val (.int (Int32.ofNat (n + 0))), .val (.int (Int32.ofNat (n + 2)))] [(.ref r0), (.int (Int32.ofNat n)), (.int (Int32.ofNat (n + 2)))])) := by
    intro t ht
    refine XS.iload X0.here hx rfl (hb hby d_rec20_41) rfl ?_
    show Steps p.tables e below (T0.setTop (mkF m 43 #[.val (.ref r0), .val (.long q1), .second, .val (.ref r3), .val (.ref r3), .val (.int (1 : Int32)), .val (.int (0 : Int32)), .val (.long h), .second, .val (.int (Int32.ofNat n)), .val (.int (Int32.ofNat (n + 0))), .val (.int (Int32.ofNat (n + 2)))] [(.int (Int32.ofNat (n + 2)))])) _
    refine XS.iload X0.here hx rfl (hb hby d_rec20_43) rfl ?_
    show Steps p.tables e below (T0.setTop (mkF m 45 #[.val (.ref r0), .val (.long q1), .second, .val (.ref r3), .val (.ref r3), .val (.int (1 : Int32)), .val (.int (0 : Int32)), .val (.long h), .second, .val (.int (Int32.ofNat n)), .val (.int (Int32.ofNat (n + 0))), .val (.int (Int32.ofNat (n + 2)))] [(.int (Int32.ofNat n)), (.int (Int32.ofNat (n + 2)))])) _
    refine XS.aloadN X0.here hx rfl (hb hby d_rec20_45) rfl rfl ?_
    exact ht
  obtain ⟨T2, X2, e2, st2⟩ := getF X0 hx hZ hown (host := "") (Or.inl (hw _ (List.mem_of_getElem? (i := 13) rfl))) Via.refl e0 Fs (g := (mkF m 46 #[.val (.ref r0), .val (.long q1), .second, .val (.ref r3), .val (.ref r3), .val (.int (1 : Int32)), .val (.int (0 : Int32)), .val (.long h), .second, .val (.int (Int32.ofNat n)), .val (.int (Int32.ofNat (n + 0))), .val (.int (Int32.ofNat (n + 2)))] [(.ref r0), (.int (Int32.ofNat n)), (.int (Int32.ofNat (n + 2)))])) rfl rfl (hb hby d_rec20_46)
  have k2 : Go p.tables e below (T0.setTop (mkF m 46 #[.val (.ref r0), .val (.long q1), .second, .val (.ref r3), .val (.ref r3), .val (.int (1 : Int32)), .val (.int (0 : Int32)), .val (.long h), .second, .val (.int (Int32.ofNat n)), .val (.int (Int32.ofNat (n + 0))), .val (.int (Int32.ofNat (n + 2)))] [(.ref r0), (.int (Int32.ofNat n)), (.int (Int32.ofNat (n + 2)))])) (T2.setTop (mkF m 49 #[.val (.ref r0), .val (.long q1), .second, .val (.ref r3), .val (.ref r3), .val (.int (1 : Int32)), .val (.int (0 : Int32)), .val (.long h), .second, .val (.int (Int32.ofNat n)), .val (.int (Int32.ofNat (n + 0))), .val (.int (Int32.ofNat (n + 2)))] [(.int (Int32.ofNat S)), (.int (Int32.ofNat n)), (.int (Int32.ofNat (n + 2)))])) := st2
  have k3 : Go p.tables e below (T2.setTop (mkF m 49 #[.val (.ref r0), .val (.long q1), .second, .val (.ref r3), .val (.ref r3), .val (.int (1 : Int32)), .val (.int (0 : Int32)), .val (.long h), .second, .val (.int (Int32.ofNat n)), .val (.int (Int32.ofNat (n + 0))), .val (.int (Int32.ofNat (n + 2)))] [(.int (Int32.ofNat S)), (.int (Int32.ofNat n)), (.int (Int32.ofNat (n + 2)))])) (T2.setTop (mkF m 50 #[.val (.ref r0), .val (.long q1), .second, .val (.ref r3), .val (.ref r3), .val (.int (1 : Int32)), .val (.int (0 : Int32)), .val (.long h), .second, .val (.int (Int32.ofNat n)), .val (.int (Int32.ofNat (n + 0))), .val (.int (Int32.ofNat (n + 2)))] [(.int ((Int32.ofNat n) + (Int32.ofNat S))), (.int (Int32.ofNat (n + 2)))])) := by
    intro t ht
    refine XS.iadd X2.here hx rfl (hb hby d_rec20_49) rfl ?_
    exact ht
  by_cases hc4 : (Int32.ofNat (n + 2)) < ((Int32.ofNat n) + (Int32.ofNat S))
  · have k5 : Go p.tables e below (T2.setTop (mkF m 50 #[.val (.ref r0), .val (.long q1), .second, .val (.ref r3), .val (.ref r3), .val (.int (1 : Int32)), .val (.int (0 : Int32)), .val (.long h), .second, .val (.int (Int32.ofNat n)), .val (.int (Int32.ofNat (n + 0))), .val (.int (Int32.ofNat (n + 2)))] [(.int ((Int32.ofNat n) + (Int32.ofNat S))), (.int (Int32.ofNat (n + 2)))])) (T2.setTop (mkF m 54 #[.val (.ref r0), .val (.long q1), .second, .val (.ref r3), .val (.ref r3), .val (.int (1 : Int32)), .val (.int (0 : Int32)), .val (.long h), .second, .val (.int (Int32.ofNat n)), .val (.int (Int32.ofNat (n + 0))), .val (.int (Int32.ofNat (n + 2)))] [(.ref r0)])) := by
      intro t ht
      refine XS.icmpNo X2.here hx rfl (hb hby d_rec20_50) rfl (tlt hc4).2.1 ?_
      show Steps p.tables e below (T2.setTop (mkF m 53 #[.val (.ref r0), .val (.long q1), .second, .val (.ref r3), .val (.ref r3), .val (.int (1 : Int32)), .val (.int (0 : Int32)), .val (.long h), .second, .val (.int (Int32.ofNat n)), .val (.int (Int32.ofNat (n + 0))), .val (.int (Int32.ofNat (n + 2)))] [])) _
      refine XS.aloadN X2.here hx rfl (hb hby d_rec20_53) rfl rfl ?_
      exact ht
    obtain ⟨T6, X6, e6, st6⟩ := getF X2 hx hZ hown (host := "") (Or.inl (hw _ (List.mem_of_getElem? (i := 16) rfl))) Via.refl e2 Fh (g := (mkF m 54 #[.val (.ref r0), .val (.long q1), .second, .val (.ref r3), .val (.ref r3), .val (.int (1 : Int32)), .val (.int (0 : Int32)), .val (.long h), .second, .val (.int (Int32.ofNat n)), .val (.int (Int32.ofNat (n + 0))), .val (.int (Int32.ofNat (n + 2)))] [(.ref r0)])) rfl rfl (hb hby d_rec20_54)
    have k6 : Go p.tables e below (T2.setTop (mkF m 54 #[.val (.ref r0), .val (.long q1), .second, .val (.ref r3), .val (.ref r3), .val (.int (1 : Int32)), .val (.int (0 : Int32)), .val (.long h), .second, .val (.int (Int32.ofNat n)), .val (.int (Int32.ofNat (n + 0))), .val (.int (Int32.ofNat (n + 2)))] [(.ref r0)])) (T6.setTop (mkF m 57 #[.val (.ref r0), .val (.long q1), .second, .val (.ref r3), .val (.ref r3), .val (.int (1 : Int32)), .val (.int (0 : Int32)), .val (.long h), .second, .val (.int (Int32.ofNat n)), .val (.int (Int32.ofNat (n + 0))), .val (.int (Int32.ofNat (n + 2)))] [(.ref ra)])) := st6
    have k7 : Go p.tables e below (T6.setTop (mkF m 57 #[.val (.ref r0), .val (.long q1), .second, .val (.ref r3), .val (.ref r3), .val (.int (1 : Int32)), .val (.int (0 : Int32)), .val (.long h), .second, .val (.int (Int32.ofNat n)), .val (.int (Int32.ofNat (n + 0))), .val (.int (Int32.ofNat (n + 2)))] [(.ref ra)])) (T6.setTop (mkF m 59 #[.val (.ref r0), .val (.long q1), .second, .val (.ref r3), .val (.ref r3), .val (.int (1 : Int32)), .val (.int (0 : Int32)), .val (.long h), .second, .val (.int (Int32.ofNat n)), .val (.int (Int32.ofNat (n + 0))), .val (.int (Int32.ofNat (n + 2)))] [(.int (Int32.ofNat (n + 2))), (.ref ra)])) := by
      intro t ht
      refine XS.iload X6.here hx rfl (hb hby d_rec20_57) rfl ?_
      exact ht
    obtain ⟨cl8, Ar8, q8, S8, M8, H8, G8⟩ := id Va
    have hjn9 : 2 < S := own_jS hM hn hc4 (by decide)
    have hin8 : ¬ ((Int32.ofNat (n + 2)) < 0 ∨ cl8.slots.size ≤ ((Int32.ofNat (n + 2))).toNatClampNeg) := inb_of S8 ⟨own_nneg (by omega), own_ltM (by omega) hM⟩
    have hat8 : cl8.slots[((Int32.ofNat (n + 2))).toNatClampNeg]? = some (.long (hs.getD (n + 2) 0)) := (H8 _ (Nat.lt_of_not_le fun y => hin8 (Or.inr y))).trans (congrArg some (own_getJ _ (by omega)))
    have k10 : Go p.tables e below (T6.setTop (mkF m 59 #[.val (.ref r0), .val (.long q1), .second, .val (.ref r3), .val (.ref r3), .val (.int (1 : Int32)), .val (.int (0 : Int32)), .val (.long h), .second, .val (.int (Int32.ofNat n)), .val (.int (Int32.ofNat (n + 0))), .val (.int (Int32.ofNat (n + 2)))] [(.int (Int32.ofNat (n + 2))), (.ref ra)])) (T6.setTop (mkF m 63 #[.val (.ref r0), .val (.long q1), .second, .val (.ref r3), .val (.ref r3), .val (.int (1 : Int32)), .val (.int (0 : Int32)), .val (.long h), .second, .val (.int (Int32.ofNat n)), .val (.int (Int32.ofNat (n + 0))), .val (.int (Int32.ofNat (n + 2)))] [(.int (lcmpW (hs.getD (n + 2) 0) h))])) := by
      intro t ht
      refine X6.laload hx (j := (Int32.ofNat (n + 2))) (v := (.long (hs.getD (n + 2) 0))) (by rw [e6]; exact Ar8.1) (State.isArrayOf_alike hZ.alike Ar8.2.1) Ar8.2.2 hin8 hat8 (g := (mkF m 59 #[.val (.ref r0), .val (.long q1), .second, .val (.ref r3), .val (.ref r3), .val (.int (1 : Int32)), .val (.int (0 : Int32)), .val (.long h), .second, .val (.int (Int32.ofNat n)), .val (.int (Int32.ofNat (n + 0))), .val (.int (Int32.ofNat (n + 2)))] [(.int (Int32.ofNat (n + 2))), (.ref ra)])) rfl rfl (hb hby d_rec20_59) _ ?_
      show Steps p.tables e below (T6.setTop (mkF m 60 #[.val (.ref r0), .val (.long q1), .second, .val (.ref r3), .val (.ref r3), .val (.int (1 : Int32)), .val (.int (0 : Int32)), .val (.long h), .second, .val (.int (Int32.ofNat n)), .val (.int (Int32.ofNat (n + 0))), .val (.int (Int32.ofNat (n + 2)))] [(.long (hs.getD (n + 2) 0))])) _
      refine XS.lload X6.here hx rfl (hb hby d_rec20_60) rfl ?_
      show Steps p.tables e below (T6.setTop (mkF m 62 #[.val (.ref r0), .val (.long q1), .second, .val (.ref r3), .val (.ref r3), .val (.int (1 : Int32)), .val (.int (0 : Int32)), .val (.long h), .second, .val (.int (Int32.ofNat n)), .val (.int (Int32.ofNat (n + 0))), .val (.int (Int32.ofNat (n + 2)))] [(.long h), (.long (hs.getD (n + 2) 0))])) _
      refine XS.lcmp X6.here hx rfl (hb hby d_rec20_62) rfl ?_
      exact ht
    by_cases hc11 : (hs.getD (n + 2) 0) = h
    · have k12 : Go p.tables e below (T6.setTop (mkF m 63 #[.val (.ref r0), .val (.long q1), .second, .val (.ref r3), .val (.ref r3), .val (.int (1 : Int32)), .val (.int (0 : Int32)), .val (.long h), .second, .val (.int (Int32.ofNat n)), .val (.int (Int32.ofNat (n + 0))), .val (.int (Int32.ofNat (n + 2)))] [(.int (lcmpW (hs.getD (n + 2) 0) h))])) (T6.setTop (mkF m 67 #[.val (.ref r0), .val (.long q1), .second, .val (.ref r3), .val (.ref r3), .val (.int (1 : Int32)), .val (.int (0 : Int32)), .val (.long h), .second, .val (.int (Int32.ofNat n)), .val (.int (Int32.ofNat (n + 0))), .val (.int (Int32.ofNat (n + 2)))] [(.ref r0)])) := by
        intro t ht
        refine XS.ifNo X6.here hx rfl (hb hby d_rec20_63) rfl ((if0 _ _).trans (teq (own_eqL hc11)).2) ?_
        show Steps p.tables e below (T6.setTop (mkF m 66 #[.val (.ref r0), .val (.long q1), .second, .val (.ref r3), .val (.ref r3), .val (.int (1 : Int32)), .val (.int (0 : Int32)), .val (.long h), .second, .val (.int (Int32.ofNat n)), .val (.int (Int32.ofNat (n + 0))), .val (.int (Int32.ofNat (n + 2)))] [])) _
        refine XS.aloadN X6.here hx rfl (hb hby d_rec20_66) rfl rfl ?_
        exact ht
      obtain ⟨T13, X13, e13, st13⟩ := getF X6 hx hZ hown (host := "") (Or.inl (hw _ (List.mem_of_getElem? (i := 18) rfl))) Via.refl e6 Fc (g := (mkF m 67 #[.val (.ref r0), .val (.long q1), .second, .val (.ref r3), .val (.ref r3), .val (.int (1 : Int32)), .val (.int (0 : Int32)), .val (.long h), .second, .val (.int (Int32.ofNat n)), .val (.int (Int32.ofNat (n + 0))), .val (.int (Int32.ofNat (n + 2)))] [(.ref r0)])) rfl rfl (hb hby d_rec20_67)
      have k13 : Go p.tables e below (T6.setTop (mkF m 67 #[.val (.ref r0), .val (.long q1), .second, .val (.ref r3), .val (.ref r3), .val (.int (1 : Int32)), .val (.int (0 : Int32)), .val (.long h), .second, .val (.int (Int32.ofNat n)), .val (.int (Int32.ofNat (n + 0))), .val (.int (Int32.ofNat (n + 2)))] [(.ref r0)])) (T13.setTop (mkF m 70 #[.val (.ref r0), .val (.long q1), .second, .val (.ref r3), .val (.ref r3), .val (.int (1 : Int32)), .val (.int (0 : Int32)), .val (.long h), .second, .val (.int (Int32.ofNat n)), .val (.int (Int32.ofNat (n + 0))), .val (.int (Int32.ofNat (n + 2)))] [(.ref rc)])) := st13
      have k14 : Go p.tables e below (T13.setTop (mkF m 70 #[.val (.ref r0), .val (.long q1), .second, .val (.ref r3), .val (.ref r3), .val (.int (1 : Int32)), .val (.int (0 : Int32)), .val (.long h), .second, .val (.int (Int32.ofNat n)), .val (.int (Int32.ofNat (n + 0))), .val (.int (Int32.ofNat (n + 2)))] [(.ref rc)])) (T13.setTop (mkF m 72 #[.val (.ref r0), .val (.long q1), .second, .val (.ref r3), .val (.ref r3), .val (.int (1 : Int32)), .val (.int (0 : Int32)), .val (.long h), .second, .val (.int (Int32.ofNat n)), .val (.int (Int32.ofNat (n + 0))), .val (.int (Int32.ofNat (n + 2)))] [(.int (Int32.ofNat (n + 2))), (.ref rc)])) := by
        intro t ht
        refine XS.iload X13.here hx rfl (hb hby d_rec20_70) rfl ?_
        exact ht
      obtain ⟨cl15, Ar15, q15, S15, M15, H15, G15⟩ := id Vc
      have hjn16 : 2 < S := own_jS hM hn hc4 (by decide)
      have hin15 : ¬ ((Int32.ofNat (n + 2)) < 0 ∨ cl15.slots.size ≤ ((Int32.ofNat (n + 2))).toNatClampNeg) := inb_of S15 ⟨own_nneg (by omega), own_ltM (by omega) hM⟩
      have hat15 : cl15.slots[((Int32.ofNat (n + 2))).toNatClampNeg]? = some (.long (cs.getD (n + 2) 0)) := (H15 _ (Nat.lt_of_not_le fun y => hin15 (Or.inr y))).trans (congrArg some (own_getJ _ (by omega)))
      have k17 : Go p.tables e below (T13.setTop (mkF m 72 #[.val (.ref r0), .val (.long q1), .second, .val (.ref r3), .val (.ref r3), .val (.int (1 : Int32)), .val (.int (0 : Int32)), .val (.long h), .second, .val (.int (Int32.ofNat n)), .val (.int (Int32.ofNat (n + 0))), .val (.int (Int32.ofNat (n + 2)))] [(.int (Int32.ofNat (n + 2))), (.ref rc)])) (T13.setTop (mkF m 75 #[.val (.ref r0), .val (.long q1), .second, .val (.ref r3), .val (.ref r3), .val (.int (1 : Int32)), .val (.int (0 : Int32)), .val (.long h), .second, .val (.int (Int32.ofNat n)), .val (.int (Int32.ofNat (n + 0))), .val (.int (Int32.ofNat (n + 2)))] [(.int (lcmpW (cs.getD (n + 2) 0) (0 : Int64)))])) := by
        intro t ht
        refine X13.laload hx (j := (Int32.ofNat (n + 2))) (v := (.long (cs.getD (n + 2) 0))) (by rw [e13]; exact Ar15.1) (State.isArrayOf_alike hZ.alike Ar15.2.1) Ar15.2.2 hin15 hat15 (g := (mkF m 72 #[.val (.ref r0), .val (.long q1), .second, .val (.ref r3), .val (.ref r3), .val (.int (1 : Int32)), .val (.int (0 : Int32)), .val (.long h), .second, .val (.int (Int32.ofNat n)), .val (.int (Int32.ofNat (n + 0))), .val (.int (Int32.ofNat (n + 2)))] [(.int (Int32.ofNat (n + 2))), (.ref rc)])) rfl rfl (hb hby d_rec20_72) _ ?_
        show Steps p.tables e below (T13.setTop (mkF m 73 #[.val (.ref r0), .val (.long q1), .second, .val (.ref r3), .val (.ref r3), .val (.int (1 : Int32)), .val (.int (0 : Int32)), .val (.long h), .second, .val (.int (Int32.ofNat n)), .val (.int (Int32.ofNat (n + 0))), .val (.int (Int32.ofNat (n + 2)))] [(.long (cs.getD (n + 2) 0))])) _
        refine XS.lconst X13.here hx rfl (hb hby d_rec20_73) ?_
        show Steps p.tables e below (T13.setTop (mkF m 74 #[.val (.ref r0), .val (.long q1), .second, .val (.ref r3), .val (.ref r3), .val (.int (1 : Int32)), .val (.int (0 : Int32)), .val (.long h), .second, .val (.int (Int32.ofNat n)), .val (.int (Int32.ofNat (n + 0))), .val (.int (Int32.ofNat (n + 2)))] [(.long (0 : Int64)), (.long (cs.getD (n + 2) 0))])) _
        refine XS.lcmp X13.here hx rfl (hb hby d_rec20_74) rfl ?_
        exact ht
      by_cases hc18 : (cs.getD (n + 2) 0) = (0 : Int64)
      · have k19 : Go p.tables e below (T13.setTop (mkF m 75 #[.val (.ref r0), .val (.long q1), .second, .val (.ref r3), .val (.ref r3), .val (.int (1 : Int32)), .val (.int (0 : Int32)), .val (.long h), .second, .val (.int (Int32.ofNat n)), .val (.int (Int32.ofNat (n + 0))), .val (.int (Int32.ofNat (n + 2)))] [(.int (lcmpW (cs.getD (n + 2) 0) (0 : Int64)))])) (T13.setTop (mkF m 86 #[.val (.ref r0), .val (.long q1), .second, .val (.ref r3), .val (.ref r3), .val (.int (1 : Int32)), .val (.int (0 : Int32)), .val (.long h), .second, .val (.int (Int32.ofNat n)), .val (.int (Int32.ofNat (n + 0))), .val (.int (Int32.ofNat (n + 2)))] [(.ref r0)])) := by
          intro t ht
          refine XS.ifYes X13.here hx rfl (pc0 := 75) (pc' := 85) rfl (hb hby d_rec20_75) rfl ((if0 _ _).trans (teq (own_eqL hc18)).1) (by decide) (by decide) ?_
          show Steps p.tables e below (T13.setTop (mkF m 85 #[.val (.ref r0), .val (.long q1), .second, .val (.ref r3), .val (.ref r3), .val (.int (1 : Int32)), .val (.int (0 : Int32)), .val (.long h), .second, .val (.int (Int32.ofNat n)), .val (.int (Int32.ofNat (n + 0))), .val (.int (Int32.ofNat (n + 2)))] [])) _
          refine XS.aloadN X13.here hx rfl (hb hby d_rec20_85) rfl rfl ?_
          exact ht
        obtain ⟨T20, X20, e20, st20⟩ := getF X13 hx hZ hown (host := "") (Or.inl (hw _ (List.mem_of_getElem? (i := 18) rfl))) Via.refl e13 Fc (g := (mkF m 86 #[.val (.ref r0), .val (.long q1), .second, .val (.ref r3), .val (.ref r3), .val (.int (1 : Int32)), .val (.int (0 : Int32)), .val (.long h), .second, .val (.int (Int32.ofNat n)), .val (.int (Int32.ofNat (n + 0))), .val (.int (Int32.ofNat (n + 2)))] [(.ref r0)])) rfl rfl (hb hby d_rec20_86)
        have k20 : Go p.tables e below (T13.setTop (mkF m 86 #[.val (.ref r0), .val (.long q1), .second, .val (.ref r3), .val (.ref r3), .val (.int (1 : Int32)), .val (.int (0 : Int32)), .val (.long h), .second, .val (.int (Int32.ofNat n)), .val (.int (Int32.ofNat (n + 0))), .val (.int (Int32.ofNat (n + 2)))] [(.ref r0)])) (T20.setTop (mkF m 89 #[.val (.ref r0), .val (.long q1), .second, .val (.ref r3), .val (.ref r3), .val (.int (1 : Int32)), .val (.int (0 : Int32)), .val (.long h), .second, .val (.int (Int32.ofNat n)), .val (.int (Int32.ofNat (n + 0))), .val (.int (Int32.ofNat (n + 2)))] [(.ref rc)])) := st20
        have k21 : Go p.tables e below (T20.setTop (mkF m 89 #[.val (.ref r0), .val (.long q1), .second, .val (.ref r3), .val (.ref r3), .val (.int (1 : Int32)), .val (.int (0 : Int32)), .val (.long h), .second, .val (.int (Int32.ofNat n)), .val (.int (Int32.ofNat (n + 0))), .val (.int (Int32.ofNat (n + 2)))] [(.ref rc)])) (T20.setTop (mkF m 91 #[.val (.ref r0), .val (.long q1), .second, .val (.ref r3), .val (.ref r3), .val (.int (1 : Int32)), .val (.int (0 : Int32)), .val (.long h), .second, .val (.int (Int32.ofNat n)), .val (.int (Int32.ofNat (n + 0))), .val (.int (Int32.ofNat (n + 2)))] [(.int (Int32.ofNat (n + 2))), (.ref rc)])) := by
          intro t ht
          refine XS.iload X20.here hx rfl (hb hby d_rec20_89) rfl ?_
          exact ht
        obtain ⟨cl22, Ar22, q22, S22, M22, H22, G22⟩ := id Vc
        have hjn23 : 2 < S := own_jS hM hn hc4 (by decide)
        have hin22 : ¬ ((Int32.ofNat (n + 2)) < 0 ∨ cl22.slots.size ≤ ((Int32.ofNat (n + 2))).toNatClampNeg) := inb_of S22 ⟨own_nneg (by omega), own_ltM (by omega) hM⟩
        have hat22 : cl22.slots[((Int32.ofNat (n + 2))).toNatClampNeg]? = some (.long (cs.getD (n + 2) 0)) := (H22 _ (Nat.lt_of_not_le fun y => hin22 (Or.inr y))).trans (congrArg some (own_getJ _ (by omega)))
        have k24 : Go p.tables e below (T20.setTop (mkF m 91 #[.val (.ref r0), .val (.long q1), .second, .val (.ref r3), .val (.ref r3), .val (.int (1 : Int32)), .val (.int (0 : Int32)), .val (.long h), .second, .val (.int (Int32.ofNat n)), .val (.int (Int32.ofNat (n + 0))), .val (.int (Int32.ofNat (n + 2)))] [(.int (Int32.ofNat (n + 2))), (.ref rc)])) (T20.setTop (mkF m 93 #[.val (.ref r0), .val (.long q1), .second, .val (.ref r3), .val (.ref r3), .val (.int (1 : Int32)), .val (.int (0 : Int32)), .val (.long h), .second, .val (.int (Int32.ofNat n)), .val (.int (Int32.ofNat (n + 0))), .val (.int (Int32.ofNat (n + 2)))] [(.ref r0), (.long (cs.getD (n + 2) 0))])) := by
          intro t ht
          refine X20.laload hx (j := (Int32.ofNat (n + 2))) (v := (.long (cs.getD (n + 2) 0))) (by rw [e20]; exact Ar22.1) (State.isArrayOf_alike hZ.alike Ar22.2.1) Ar22.2.2 hin22 hat22 (g := (mkF m 91 #[.val (.ref r0), .val (.long q1), .second, .val (.ref r3), .val (.ref r3), .val (.int (1 : Int32)), .val (.int (0 : Int32)), .val (.long h), .second, .val (.int (Int32.ofNat n)), .val (.int (Int32.ofNat (n + 0))), .val (.int (Int32.ofNat (n + 2)))] [(.int (Int32.ofNat (n + 2))), (.ref rc)])) rfl rfl (hb hby d_rec20_91) _ ?_
          show Steps p.tables e below (T20.setTop (mkF m 92 #[.val (.ref r0), .val (.long q1), .second, .val (.ref r3), .val (.ref r3), .val (.int (1 : Int32)), .val (.int (0 : Int32)), .val (.long h), .second, .val (.int (Int32.ofNat n)), .val (.int (Int32.ofNat (n + 0))), .val (.int (Int32.ofNat (n + 2)))] [(.long (cs.getD (n + 2) 0))])) _
          refine XS.aloadN X20.here hx rfl (hb hby d_rec20_92) rfl rfl ?_
          exact ht
        obtain ⟨T25, X25, e25, st25⟩ := getF X20 hx hZ hown (host := "") (Or.inl (hw _ (List.mem_of_getElem? (i := 18) rfl))) Via.refl e20 Fc (g := (mkF m 93 #[.val (.ref r0), .val (.long q1), .second, .val (.ref r3), .val (.ref r3), .val (.int (1 : Int32)), .val (.int (0 : Int32)), .val (.long h), .second, .val (.int (Int32.ofNat n)), .val (.int (Int32.ofNat (n + 0))), .val (.int (Int32.ofNat (n + 2)))] [(.ref r0), (.long (cs.getD (n + 2) 0))])) rfl rfl (hb hby d_rec20_93)
        have k25 : Go p.tables e below (T20.setTop (mkF m 93 #[.val (.ref r0), .val (.long q1), .second, .val (.ref r3), .val (.ref r3), .val (.int (1 : Int32)), .val (.int (0 : Int32)), .val (.long h), .second, .val (.int (Int32.ofNat n)), .val (.int (Int32.ofNat (n + 0))), .val (.int (Int32.ofNat (n + 2)))] [(.ref r0), (.long (cs.getD (n + 2) 0))])) (T25.setTop (mkF m 96 #[.val (.ref r0), .val (.long q1), .second, .val (.ref r3), .val (.ref r3), .val (.int (1 : Int32)), .val (.int (0 : Int32)), .val (.long h), .second, .val (.int (Int32.ofNat n)), .val (.int (Int32.ofNat (n + 0))), .val (.int (Int32.ofNat (n + 2)))] [(.ref rc), (.long (cs.getD (n + 2) 0))])) := st25
        have k26 : Go p.tables e below (T25.setTop (mkF m 96 #[.val (.ref r0), .val (.long q1), .second, .val (.ref r3), .val (.ref r3), .val (.int (1 : Int32)), .val (.int (0 : Int32)), .val (.long h), .second, .val (.int (Int32.ofNat n)), .val (.int (Int32.ofNat (n + 0))), .val (.int (Int32.ofNat (n + 2)))] [(.ref rc), (.long (cs.getD (n + 2) 0))])) (T25.setTop (mkF m 98 #[.val (.ref r0), .val (.long q1), .second, .val (.ref r3), .val (.ref r3), .val (.int (1 : Int32)), .val (.int (0 : Int32)), .val (.long h), .second, .val (.int (Int32.ofNat n)), .val (.int (Int32.ofNat (n + 0))), .val (.int (Int32.ofNat (n + 2)))] [(.int (Int32.ofNat (n + 0))), (.ref rc), (.long (cs.getD (n + 2) 0))])) := by
          intro t ht
          refine XS.iload X25.here hx rfl (hb hby d_rec20_96) rfl ?_
          exact ht
        obtain ⟨cl27, Ar27, q27, S27, M27, H27, G27⟩ := id Vc
        have hjn28 : 2 < S := own_jS hM hn hc4 (by decide)
        have hin27 : ¬ ((Int32.ofNat (n + 0)) < 0 ∨ cl27.slots.size ≤ ((Int32.ofNat (n + 0))).toNatClampNeg) := inb_of S27 ⟨own_nneg (by omega), own_ltM (by omega) hM⟩
        have hat27 : cl27.slots[((Int32.ofNat (n + 0))).toNatClampNeg]? = some (.long (cs.getD (n + 0) 0)) := (H27 _ (Nat.lt_of_not_le fun y => hin27 (Or.inr y))).trans (congrArg some (own_getJ _ (by omega)))
        have k29 : Go p.tables e below (T25.setTop (mkF m 98 #[.val (.ref r0), .val (.long q1), .second, .val (.ref r3), .val (.ref r3), .val (.int (1 : Int32)), .val (.int (0 : Int32)), .val (.long h), .second, .val (.int (Int32.ofNat n)), .val (.int (Int32.ofNat (n + 0))), .val (.int (Int32.ofNat (n + 2)))] [(.int (Int32.ofNat (n + 0))), (.ref rc), (.long (cs.getD (n + 2) 0))])) (T25.setTop (mkF m 100 #[.val (.ref r0), .val (.long q1), .second, .val (.ref r3), .val (.ref r3), .val (.int (1 : Int32)), .val (.int (0 : Int32)), .val (.long h), .second, .val (.int (Int32.ofNat n)), .val (.int (Int32.ofNat (n + 0))), .val (.int (Int32.ofNat (n + 2)))] [(.int (lcmpW (cs.getD (n + 2) 0) (cs.getD (n + 0) 0)))])) := by
          intro t ht
          refine X25.laload hx (j := (Int32.ofNat (n + 0))) (v := (.long (cs.getD (n + 0) 0))) (by rw [e25]; exact Ar27.1) (State.isArrayOf_alike hZ.alike Ar27.2.1) Ar27.2.2 hin27 hat27 (g := (mkF m 98 #[.val (.ref r0), .val (.long q1), .second, .val (.ref r3), .val (.ref r3), .val (.int (1 : Int32)), .val (.int (0 : Int32)), .val (.long h), .second, .val (.int (Int32.ofNat n)), .val (.int (Int32.ofNat (n + 0))), .val (.int (Int32.ofNat (n + 2)))] [(.int (Int32.ofNat (n + 0))), (.ref rc), (.long (cs.getD (n + 2) 0))])) rfl rfl (hb hby d_rec20_98) _ ?_
          show Steps p.tables e below (T25.setTop (mkF m 99 #[.val (.ref r0), .val (.long q1), .second, .val (.ref r3), .val (.ref r3), .val (.int (1 : Int32)), .val (.int (0 : Int32)), .val (.long h), .second, .val (.int (Int32.ofNat n)), .val (.int (Int32.ofNat (n + 0))), .val (.int (Int32.ofNat (n + 2)))] [(.long (cs.getD (n + 0) 0)), (.long (cs.getD (n + 2) 0))])) _
          refine XS.lcmp X25.here hx rfl (hb hby d_rec20_99) rfl ?_
          exact ht
        by_cases hc30 : (cs.getD (n + 2) 0) < (cs.getD (n + 0) 0)
        · have k31 : Go p.tables e below (T25.setTop (mkF m 100 #[.val (.ref r0), .val (.long q1), .second, .val (.ref r3), .val (.ref r3), .val (.int (1 : Int32)), .val (.int (0 : Int32)), .val (.long h), .second, .val (.int (Int32.ofNat n)), .val (.int (Int32.ofNat (n + 0))), .val (.int (Int32.ofNat (n + 2)))] [(.int (lcmpW (cs.getD (n + 2) 0) (cs.getD (n + 0) 0)))])) (T25.setTop (mkF m 110 #[.val (.ref r0), .val (.long q1), .second, .val (.ref r3), .val (.ref r3), .val (.int (1 : Int32)), .val (.int (0 : Int32)), .val (.long h), .second, .val (.int (Int32.ofNat n)), .val (.int (Int32.ofNat (n + 2))), .val (.int ((Int32.ofNat (n + 2)) + (1 : Int32)))] [])) := by
            intro t ht
            refine XS.ifNo X25.here hx rfl (hb hby d_rec20_100) rfl ((if0 _ _).trans (tlt (own_ltL hc30)).2.1) ?_
            show Steps p.tables e below (T25.setTop (mkF m 103 #[.val (.ref r0), .val (.long q1), .second, .val (.ref r3), .val (.ref r3), .val (.int (1 : Int32)), .val (.int (0 : Int32)), .val (.long h), .second, .val (.int (Int32.ofNat n)), .val (.int (Int32.ofNat (n + 0))), .val (.int (Int32.ofNat (n + 2)))] [])) _
            refine XS.iload X25.here hx rfl (hb hby d_rec20_103) rfl ?_
            show Steps p.tables e below (T25.setTop (mkF m 105 #[.val (.ref r0), .val (.long q1), .second, .val (.ref r3), .val (.ref r3), .val (.int (1 : Int32)), .val (.int (0 : Int32)), .val (.long h), .second, .val (.int (Int32.ofNat n)), .val (.int (Int32.ofNat (n + 0))), .val (.int (Int32.ofNat (n + 2)))] [(.int (Int32.ofNat (n + 2)))])) _
            refine XS.istore X25.here hx rfl (hb hby d_rec20_105) rfl (l' := #[.val (.ref r0), .val (.long q1), .second, .val (.ref r3), .val (.ref r3), .val (.int (1 : Int32)), .val (.int (0 : Int32)), .val (.long h), .second, .val (.int (Int32.ofNat n)), .val (.int (Int32.ofNat (n + 2))), .val (.int (Int32.ofNat (n + 2)))]) rfl ?_
            show Steps p.tables e below (T25.setTop (mkF m 107 #[.val (.ref r0), .val (.long q1), .second, .val (.ref r3), .val (.ref r3), .val (.int (1 : Int32)), .val (.int (0 : Int32)), .val (.long h), .second, .val (.int (Int32.ofNat n)), .val (.int (Int32.ofNat (n + 2))), .val (.int (Int32.ofNat (n + 2)))] [])) _
            refine XS.iinc X25.here hx rfl (hb hby d_rec20_107) rfl (l' := #[.val (.ref r0), .val (.long q1), .second, .val (.ref r3), .val (.ref r3), .val (.int (1 : Int32)), .val (.int (0 : Int32)), .val (.long h), .second, .val (.int (Int32.ofNat n)), .val (.int (Int32.ofNat (n + 2))), .val (.int ((Int32.ofNat (n + 2)) + (1 : Int32)))]) rfl ?_
            exact ht
          have k32 : Go p.tables e below (T25.setTop (mkF m 110 #[.val (.ref r0), .val (.long q1), .second, .val (.ref r3), .val (.ref r3), .val (.int (1 : Int32)), .val (.int (0 : Int32)), .val (.long h), .second, .val (.int (Int32.ofNat n)), .val (.int (Int32.ofNat (n + 2))), .val (.int ((Int32.ofNat (n + 2)) + (1 : Int32)))] [])) (T25.setTop (mkF m 110 #[.val (.ref r0), .val (.long q1), .second, .val (.ref r3), .val (.ref r3), .val (.int (1 : Int32)), .val (.int (0 : Int32)), .val (.long h), .second, .val (.int (Int32.ofNat n)), .val (.int (Int32.ofNat (n + 2))), .val (.int (Int32.ofNat (n + 3)))] [])) := by rw [own_inc]; exact fun _ h => h
          have k33 : Go p.tables e below (T25.setTop (mkF m 110 #[.val (.ref r0), .val (.long q1), .second, .val (.ref r3), .val (.ref r3), .val (.int (1 : Int32)), .val (.int (0 : Int32)), .val (.long h), .second, .val (.int (Int32.ofNat n)), .val (.int (Int32.ofNat (n + 2))), .val (.int (Int32.ofNat (n + 3)))] [])) (T25.setTop (mkF m 41 #[.val (.ref r0), .val (.long q1), .second, .val (.ref r3), .val (.ref r3), .val (.int (1 : Int32)), .val (.int (0 : Int32)), .val (.long h), .second, .val (.int (Int32.ofNat n)), .val (.int (Int32.ofNat (n + 2))), .val (.int (Int32.ofNat (n + 3)))] [])) := by
            intro t ht
            refine XS.goto X25.here hx rfl (pc0 := 110) (pc' := 41) rfl (hb hby d_rec20_110) (by decide) (by decide) ?_
            exact ht
          obtain ⟨T34, L34, x34_0, X34, N34, e34, kr34⟩ := pc_rec32 r0 r3 ra rc q1 h B S M n ka kc hs cs X25 hx hZ hw hby hml hown e25 N0 Z0 Fb Fs Fh Fc E_r0 Va Vc hS hM hn
          refine ⟨T34, L34, x34_0, X34, N34, e34, ?_⟩
          have kk := goT (goT k1 (goT k2 (goT k3 (goT k5 (goT k6 (goT k7 (goT k10 (goT k12 (goT k13 (goT k14 (goT k17 (goT k19 (goT k20 (goT k21 (goT k24 (goT k25 (goT k26 (goT k29 (goT k31 (goT k32 k33)))))))))))))))))))) kr34
          simpa only [f_rec20, if_pos hc4, if_pos hc11, if_pos hc18, if_pos hc30] using kk
        · have k35 : Go p.tables e below (T25.setTop (mkF m 100 #[.val (.ref r0), .val (.long q1), .second, .val (.ref r3), .val (.ref r3), .val (.int (1 : Int32)), .val (.int (0 : Int32)), .val (.long h), .second, .val (.int (Int32.ofNat n)), .val (.int (Int32.ofNat (n + 0))), .val (.int (Int32.ofNat (n + 2)))] [(.int (lcmpW (cs.getD (n + 2) 0) (cs.getD (n + 0) 0)))])) (T25.setTop (mkF m 110 #[.val (.ref r0), .val (.long q1), .second, .val (.ref r3), .val (.ref r3), .val (.int (1 : Int32)), .val (.int (0 : Int32)), .val (.long h), .second, .val (.int (Int32.ofNat n)), .val (.int (Int32.ofNat (n + 0))), .val (.int ((Int32.ofNat (n + 2)) + (1 : Int32)))] [])) := by
            intro t ht
            refine XS.ifYes X25.here hx rfl (pc0 := 100) (pc' := 107) rfl (hb hby d_rec20_100) rfl ((if0 _ _).trans (flt (own_nltL hc30)).2.1) (by decide) (by decide) ?_
            show Steps p.tables e below (T25.setTop (mkF m 107 #[.val (.ref r0), .val (.long q1), .second, .val (.ref r3), .val (.ref r3), .val (.int (1 : Int32)), .val (.int (0 : Int32)), .val (.long h), .second, .val (.int (Int32.ofNat n)), .val (.int (Int32.ofNat (n + 0))), .val (.int (Int32.ofNat (n + 2)))] [])) _
            refine XS.iinc X25.here hx rfl (hb hby d_rec20_107) rfl (l' := #[.val (.ref r0), .val (.long q1), .second, .val (.ref r3), .val (.ref r3), .val (.int (1 : Int32)), .val (.int (0 : Int32)), .val (.long h), .second, .val (.int (Int32.ofNat n)), .val (.int (Int32.ofNat (n + 0))), .val (.int ((Int32.ofNat (n + 2)) + (1 : Int32)))]) rfl ?_
            exact ht
          have k36 : Go p.tables e below (T25.setTop (mkF m 110 #[.val (.ref r0), .val (.long q1), .second, .val (.ref r3), .val (.ref r3), .val (.int (1 : Int32)), .val (.int (0 : Int32)), .val (.long h), .second, .val (.int (Int32.ofNat n)), .val (.int (Int32.ofNat (n + 0))), .val (.int ((Int32.ofNat (n + 2)) + (1 : Int32)))] [])) (T25.setTop (mkF m 110 #[.val (.ref r0), .val (.long q1), .second, .val (.ref r3), .val (.ref r3), .val (.int (1 : Int32)), .val (.int (0 : Int32)), .val (.long h), .second, .val (.int (Int32.ofNat n)), .val (.int (Int32.ofNat (n + 0))), .val (.int (Int32.ofNat (n + 3)))] [])) := by rw [own_inc]; exact fun _ h => h
          have k37 : Go p.tables e below (T25.setTop (mkF m 110 #[.val (.ref r0), .val (.long q1), .second, .val (.ref r3), .val (.ref r3), .val (.int (1 : Int32)), .val (.int (0 : Int32)), .val (.long h), .second, .val (.int (Int32.ofNat n)), .val (.int (Int32.ofNat (n + 0))), .val (.int (Int32.ofNat (n + 3)))] [])) (T25.setTop (mkF m 41 #[.val (.ref r0), .val (.long q1), .second, .val (.ref r3), .val (.ref r3), .val (.int (1 : Int32)), .val (.int (0 : Int32)), .val (.long h), .second, .val (.int (Int32.ofNat n)), .val (.int (Int32.ofNat (n + 0))), .val (.int (Int32.ofNat (n + 3)))] [])) := by
            intro t ht
            refine XS.goto X25.here hx rfl (pc0 := 110) (pc' := 41) rfl (hb hby d_rec20_110) (by decide) (by decide) ?_
            exact ht
          obtain ⟨T38, L38, x38_0, X38, N38, e38, kr38⟩ := pc_rec30 r0 r3 ra rc q1 h B S M n ka kc hs cs X25 hx hZ hw hby hml hown e25 N0 Z0 Fb Fs Fh Fc E_r0 Va Vc hS hM hn
          refine ⟨T38, L38, x38_0, X38, N38, e38, ?_⟩
          have kk := goT (goT k1 (goT k2 (goT k3 (goT k5 (goT k6 (goT k7 (goT k10 (goT k12 (goT k13 (goT k14 (goT k17 (goT k19 (goT k20 (goT k21 (goT k24 (goT k25 (goT k26 (goT k29 (goT k35 (goT k36 k37)))))))))))))))))))) kr38
          simpa only [f_rec20, if_pos hc4, if_pos hc11, if_pos hc18, if_neg hc30] using kk
      · have k39 : Go p.tables e below (T13.setTop (mkF m 75 #[.val (.ref r0), .val (.long q1), .second, .val (.ref r3), .val (.ref r3), .val (.int (1 : Int32)), .val (.int (0 : Int32)), .val (.long h), .second, .val (.int (Int32.ofNat n)), .val (.int (Int32.ofNat (n + 0))), .val (.int (Int32.ofNat (n + 2)))] [(.int (lcmpW (cs.getD (n + 2) 0) (0 : Int64)))])) (T13.setTop (mkF m 113 #[.val (.ref r0), .val (.long q1), .second, .val (.ref r3), .val (.ref r3), .val (.int (1 : Int32)), .val (.int (0 : Int32)), .val (.long h), .second, .val (.int (Int32.ofNat n)), .val (.int (Int32.ofNat (n + 2))), .val (.int (Int32.ofNat (n + 2)))] [])) := by
          intro t ht
          refine XS.ifNo X13.here hx rfl (hb hby d_rec20_75) rfl ((if0 _ _).trans (feq (own_neqL hc18)).1) ?_
          show Steps p.tables e below (T13.setTop (mkF m 78 #[.val (.ref r0), .val (.long q1), .second, .val (.ref r3), .val (.ref r3), .val (.int (1 : Int32)), .val (.int (0 : Int32)), .val (.long h), .second, .val (.int (Int32.ofNat n)), .val (.int (Int32.ofNat (n + 0))), .val (.int (Int32.ofNat (n + 2)))] [])) _
          refine XS.iload X13.here hx rfl (hb hby d_rec20_78) rfl ?_
          show Steps p.tables e below (T13.setTop (mkF m 80 #[.val (.ref r0), .val (.long q1), .second, .val (.ref r3), .val (.ref r3), .val (.int (1 : Int32)), .val (.int (0 : Int32)), .val (.long h), .second, .val (.int (Int32.ofNat n)), .val (.int (Int32.ofNat (n + 0))), .val (.int (Int32.ofNat (n + 2)))] [(.int (Int32.ofNat (n + 2)))])) _
          refine XS.istore X13.here hx rfl (hb hby d_rec20_80) rfl (l' := #[.val (.ref r0), .val (.long q1), .second, .val (.ref r3), .val (.ref r3), .val (.int (1 : Int32)), .val (.int (0 : Int32)), .val (.long h), .second, .val (.int (Int32.ofNat n)), .val (.int (Int32.ofNat (n + 2))), .val (.int (Int32.ofNat (n + 2)))]) rfl ?_
          show Steps p.tables e below (T13.setTop (mkF m 82 #[.val (.ref r0), .val (.long q1), .second, .val (.ref r3), .val (.ref r3), .val (.int (1 : Int32)), .val (.int (0 : Int32)), .val (.long h), .second, .val (.int (Int32.ofNat n)), .val (.int (Int32.ofNat (n + 2))), .val (.int (Int32.ofNat (n + 2)))] [])) _
          refine XS.goto X13.here hx rfl (pc0 := 82) (pc' := 113) rfl (hb hby d_rec20_82) (by decide) (by decide) ?_
          exact ht
        refine ⟨T13, _, (.val (.int (Int32.ofNat (n + 2)))), X13, N0, e13, ?_⟩
        have kk := (goT k1 (goT k2 (goT k3 (goT k5 (goT k6 (goT k7 (goT k10 (goT k12 (goT k13 (goT k14 (goT k17 k39)))))))))))
        simpa only [f_rec20, if_pos hc4, if_pos hc11, if_neg hc18] using kk
    · have k40 : Go p.tables e below (T6.setTop (mkF m 63 #[.val (.ref r0), .val (.long q1), .second, .val (.ref r3), .val (.ref r3), .val (.int (1 : Int32)), .val (.int (0 : Int32)), .val (.long h), .second, .val (.int (Int32.ofNat n)), .val (.int (Int32.ofNat (n + 0))), .val (.int (Int32.ofNat (n + 2)))] [(.int (lcmpW (hs.getD (n + 2) 0) h))])) (T6.setTop (mkF m 86 #[.val (.ref r0), .val (.long q1), .second, .val (.ref r3), .val (.ref r3), .val (.int (1 : Int32)), .val (.int (0 : Int32)), .val (.long h), .second, .val (.int (Int32.ofNat n)), .val (.int (Int32.ofNat (n + 0))), .val (.int (Int32.ofNat (n + 2)))] [(.ref r0)])) := by
        intro t ht
        refine XS.ifYes X6.here hx rfl (pc0 := 63) (pc' := 85) rfl (hb hby d_rec20_63) rfl ((if0 _ _).trans (feq (own_neqL hc11)).2) (by decide) (by decide) ?_
        show Steps p.tables e below (T6.setTop (mkF m 85 #[.val (.ref r0), .val (.long q1), .second, .val (.ref r3), .val (.ref r3), .val (.int (1 : Int32)), .val (.int (0 : Int32)), .val (.long h), .second, .val (.int (Int32.ofNat n)), .val (.int (Int32.ofNat (n + 0))), .val (.int (Int32.ofNat (n + 2)))] [])) _
        refine XS.aloadN X6.here hx rfl (hb hby d_rec20_85) rfl rfl ?_
        exact ht
      obtain ⟨T41, X41, e41, st41⟩ := getF X6 hx hZ hown (host := "") (Or.inl (hw _ (List.mem_of_getElem? (i := 18) rfl))) Via.refl e6 Fc (g := (mkF m 86 #[.val (.ref r0), .val (.long q1), .second, .val (.ref r3), .val (.ref r3), .val (.int (1 : Int32)), .val (.int (0 : Int32)), .val (.long h), .second, .val (.int (Int32.ofNat n)), .val (.int (Int32.ofNat (n + 0))), .val (.int (Int32.ofNat (n + 2)))] [(.ref r0)])) rfl rfl (hb hby d_rec20_86)
      have k41 : Go p.tables e below (T6.setTop (mkF m 86 #[.val (.ref r0), .val (.long q1), .second, .val (.ref r3), .val (.ref r3), .val (.int (1 : Int32)), .val (.int (0 : Int32)), .val (.long h), .second, .val (.int (Int32.ofNat n)), .val (.int (Int32.ofNat (n + 0))), .val (.int (Int32.ofNat (n + 2)))] [(.ref r0)])) (T41.setTop (mkF m 89 #[.val (.ref r0), .val (.long q1), .second, .val (.ref r3), .val (.ref r3), .val (.int (1 : Int32)), .val (.int (0 : Int32)), .val (.long h), .second, .val (.int (Int32.ofNat n)), .val (.int (Int32.ofNat (n + 0))), .val (.int (Int32.ofNat (n + 2)))] [(.ref rc)])) := st41
      have k42 : Go p.tables e below (T41.setTop (mkF m 89 #[.val (.ref r0), .val (.long q1), .second, .val (.ref r3), .val (.ref r3), .val (.int (1 : Int32)), .val (.int (0 : Int32)), .val (.long h), .second, .val (.int (Int32.ofNat n)), .val (.int (Int32.ofNat (n + 0))), .val (.int (Int32.ofNat (n + 2)))] [(.ref rc)])) (T41.setTop (mkF m 91 #[.val (.ref r0), .val (.long q1), .second, .val (.ref r3), .val (.ref r3), .val (.int (1 : Int32)), .val (.int (0 : Int32)), .val (.long h), .second, .val (.int (Int32.ofNat n)), .val (.int (Int32.ofNat (n + 0))), .val (.int (Int32.ofNat (n + 2)))] [(.int (Int32.ofNat (n + 2))), (.ref rc)])) := by
        intro t ht
        refine XS.iload X41.here hx rfl (hb hby d_rec20_89) rfl ?_
        exact ht
      obtain ⟨cl43, Ar43, q43, S43, M43, H43, G43⟩ := id Vc
      have hjn44 : 2 < S := own_jS hM hn hc4 (by decide)
      have hin43 : ¬ ((Int32.ofNat (n + 2)) < 0 ∨ cl43.slots.size ≤ ((Int32.ofNat (n + 2))).toNatClampNeg) := inb_of S43 ⟨own_nneg (by omega), own_ltM (by omega) hM⟩
      have hat43 : cl43.slots[((Int32.ofNat (n + 2))).toNatClampNeg]? = some (.long (cs.getD (n + 2) 0)) := (H43 _ (Nat.lt_of_not_le fun y => hin43 (Or.inr y))).trans (congrArg some (own_getJ _ (by omega)))
      have k45 : Go p.tables e below (T41.setTop (mkF m 91 #[.val (.ref r0), .val (.long q1), .second, .val (.ref r3), .val (.ref r3), .val (.int (1 : Int32)), .val (.int (0 : Int32)), .val (.long h), .second, .val (.int (Int32.ofNat n)), .val (.int (Int32.ofNat (n + 0))), .val (.int (Int32.ofNat (n + 2)))] [(.int (Int32.ofNat (n + 2))), (.ref rc)])) (T41.setTop (mkF m 93 #[.val (.ref r0), .val (.long q1), .second, .val (.ref r3), .val (.ref r3), .val (.int (1 : Int32)), .val (.int (0 : Int32)), .val (.long h), .second, .val (.int (Int32.ofNat n)), .val (.int (Int32.ofNat (n + 0))), .val (.int (Int32.ofNat (n + 2)))] [(.ref r0), (.long (cs.getD (n + 2) 0))])) := by
        intro t ht
        refine X41.laload hx (j := (Int32.ofNat (n + 2))) (v := (.long (cs.getD (n + 2) 0))) (by rw [e41]; exact Ar43.1) (State.isArrayOf_alike hZ.alike Ar43.2.1) Ar43.2.2 hin43 hat43 (g := (mkF m 91 #[.val (.ref r0), .val (.long q1), .second, .val (.ref r3), .val (.ref r3), .val (.int (1 : Int32)), .val (.int (0 : Int32)), .val (.long h), .second, .val (.int (Int32.ofNat n)), .val (.int (Int32.ofNat (n + 0))), .val (.int (Int32.ofNat (n + 2)))] [(.int (Int32.ofNat (n + 2))), (.ref rc)])) rfl rfl (hb hby d_rec20_91) _ ?_
        show Steps p.tables e below (T41.setTop (mkF m 92 #[.val (.ref r0), .val (.long q1), .second, .val (.ref r3), .val (.ref r3), .val (.int (1 : Int32)), .val (.int (0 : Int32)), .val (.long h), .second, .val (.int (Int32.ofNat n)), .val (.int (Int32.ofNat (n + 0))), .val (.int (Int32.ofNat (n + 2)))] [(.long (cs.getD (n + 2) 0))])) _
        refine XS.aloadN X41.here hx rfl (hb hby d_rec20_92) rfl rfl ?_
        exact ht
      obtain ⟨T46, X46, e46, st46⟩ := getF X41 hx hZ hown (host := "") (Or.inl (hw _ (List.mem_of_getElem? (i := 18) rfl))) Via.refl e41 Fc (g := (mkF m 93 #[.val (.ref r0), .val (.long q1), .second, .val (.ref r3), .val (.ref r3), .val (.int (1 : Int32)), .val (.int (0 : Int32)), .val (.long h), .second, .val (.int (Int32.ofNat n)), .val (.int (Int32.ofNat (n + 0))), .val (.int (Int32.ofNat (n + 2)))] [(.ref r0), (.long (cs.getD (n + 2) 0))])) rfl rfl (hb hby d_rec20_93)
      have k46 : Go p.tables e below (T41.setTop (mkF m 93 #[.val (.ref r0), .val (.long q1), .second, .val (.ref r3), .val (.ref r3), .val (.int (1 : Int32)), .val (.int (0 : Int32)), .val (.long h), .second, .val (.int (Int32.ofNat n)), .val (.int (Int32.ofNat (n + 0))), .val (.int (Int32.ofNat (n + 2)))] [(.ref r0), (.long (cs.getD (n + 2) 0))])) (T46.setTop (mkF m 96 #[.val (.ref r0), .val (.long q1), .second, .val (.ref r3), .val (.ref r3), .val (.int (1 : Int32)), .val (.int (0 : Int32)), .val (.long h), .second, .val (.int (Int32.ofNat n)), .val (.int (Int32.ofNat (n + 0))), .val (.int (Int32.ofNat (n + 2)))] [(.ref rc), (.long (cs.getD (n + 2) 0))])) := st46
      have k47 : Go p.tables e below (T46.setTop (mkF m 96 #[.val (.ref r0), .val (.long q1), .second, .val (.ref r3), .val (.ref r3), .val (.int (1 : Int32)), .val (.int (0 : Int32)), .val (.long h), .second, .val (.int (Int32.ofNat n)), .val (.int (Int32.ofNat (n + 0))), .val (.int (Int32.ofNat (n + 2)))] [(.ref rc), (.long (cs.getD (n + 2) 0))])) (T46.setTop (mkF m 98 #[.val (.ref r0), .val (.long q1), .second, .val (.ref r3), .val (.ref r3), .val (.int (1 : Int32)), .val (.int (0 : Int32)), .val (.long h), .second, .val (.int (Int32.ofNat n)), .val (.int (Int32.ofNat (n + 0))), .val (.int (Int32.ofNat (n + 2)))] [(.int (Int32.ofNat (n + 0))), (.ref rc), (.long (cs.getD (n + 2) 0))])) := by
        intro t ht
        refine XS.iload X46.here hx rfl (hb hby d_rec20_96) rfl ?_
        exact ht
      obtain ⟨cl48, Ar48, q48, S48, M48, H48, G48⟩ := id Vc
      have hjn49 : 2 < S := own_jS hM hn hc4 (by decide)
      have hin48 : ¬ ((Int32.ofNat (n + 0)) < 0 ∨ cl48.slots.size ≤ ((Int32.ofNat (n + 0))).toNatClampNeg) := inb_of S48 ⟨own_nneg (by omega), own_ltM (by omega) hM⟩
      have hat48 : cl48.slots[((Int32.ofNat (n + 0))).toNatClampNeg]? = some (.long (cs.getD (n + 0) 0)) := (H48 _ (Nat.lt_of_not_le fun y => hin48 (Or.inr y))).trans (congrArg some (own_getJ _ (by omega)))
      have k50 : Go p.tables e below (T46.setTop (mkF m 98 #[.val (.ref r0), .val (.long q1), .second, .val (.ref r3), .val (.ref r3), .val (.int (1 : Int32)), .val (.int (0 : Int32)), .val (.long h), .second, .val (.int (Int32.ofNat n)), .val (.int (Int32.ofNat (n + 0))), .val (.int (Int32.ofNat (n + 2)))] [(.int (Int32.ofNat (n + 0))), (.ref rc), (.long (cs.getD (n + 2) 0))])) (T46.setTop (mkF m 100 #[.val (.ref r0), .val (.long q1), .second, .val (.ref r3), .val (.ref r3), .val (.int (1 : Int32)), .val (.int (0 : Int32)), .val (.long h), .second, .val (.int (Int32.ofNat n)), .val (.int (Int32.ofNat (n + 0))), .val (.int (Int32.ofNat (n + 2)))] [(.int (lcmpW (cs.getD (n + 2) 0) (cs.getD (n + 0) 0)))])) := by
        intro t ht
        refine X46.laload hx (j := (Int32.ofNat (n + 0))) (v := (.long (cs.getD (n + 0) 0))) (by rw [e46]; exact Ar48.1) (State.isArrayOf_alike hZ.alike Ar48.2.1) Ar48.2.2 hin48 hat48 (g := (mkF m 98 #[.val (.ref r0), .val (.long q1), .second, .val (.ref r3), .val (.ref r3), .val (.int (1 : Int32)), .val (.int (0 : Int32)), .val (.long h), .second, .val (.int (Int32.ofNat n)), .val (.int (Int32.ofNat (n + 0))), .val (.int (Int32.ofNat (n + 2)))] [(.int (Int32.ofNat (n + 0))), (.ref rc), (.long (cs.getD (n + 2) 0))])) rfl rfl (hb hby d_rec20_98) _ ?_
        show Steps p.tables e below (T46.setTop (mkF m 99 #[.val (.ref r0), .val (.long q1), .second, .val (.ref r3), .val (.ref r3), .val (.int (1 : Int32)), .val (.int (0 : Int32)), .val (.long h), .second, .val (.int (Int32.ofNat n)), .val (.int (Int32.ofNat (n + 0))), .val (.int (Int32.ofNat (n + 2)))] [(.long (cs.getD (n + 0) 0)), (.long (cs.getD (n + 2) 0))])) _
        refine XS.lcmp X46.here hx rfl (hb hby d_rec20_99) rfl ?_
        exact ht
      by_cases hc51 : (cs.getD (n + 2) 0) < (cs.getD (n + 0) 0)
      · have k52 : Go p.tables e below (T46.setTop (mkF m 100 #[.val (.ref r0), .val (.long q1), .second, .val (.ref r3), .val (.ref r3), .val (.int (1 : Int32)), .val (.int (0 : Int32)), .val (.long h), .second, .val (.int (Int32.ofNat n)), .val (.int (Int32.ofNat (n + 0))), .val (.int (Int32.ofNat (n + 2)))] [(.int (lcmpW (cs.getD (n + 2) 0) (cs.getD (n + 0) 0)))])) (T46.setTop (mkF m 110 #[.val (.ref r0), .val (.long q1), .second, .val (.ref r3), .val (.ref r3), .val (.int (1 : Int32)), .val (.int (0 : Int32)), .val (.long h), .second, .val (.int (Int32.ofNat n)), .val (.int (Int32.ofNat (n + 2))), .val (.int ((Int32.ofNat (n + 2)) + (1 : Int32)))] [])) := by
          intro t ht
          refine XS.ifNo X46.here hx rfl (hb hby d_rec20_100) rfl ((if0 _ _).trans (tlt (own_ltL hc51)).2.1) ?_
          show Steps p.tables e below (T46.setTop (mkF m 103 #[.val (.ref r0), .val (.long q1), .second, .val (.ref r3), .val (.ref r3), .val (.int (1 : Int32)), .val (.int (0 : Int32)), .val (.long h), .second, .val (.int (Int32.ofNat n)), .val (.int (Int32.ofNat (n + 0))), .val (.int (Int32.ofNat (n + 2)))] [])) _
          refine XS.iload X46.here hx rfl (hb hby d_rec20_103) rfl ?_
          show Steps p.tables e below (T46.setTop (mkF m 105 #[.val (.ref r0), .val (.long q1), .second, .val (.ref r3), .val (.ref r3), .val (.int (1 : Int32)), .val (.int (0 : Int32)), .val (.long h), .second, .val (.int (Int32.ofNat n)), .val (.int (Int32.ofNat (n + 0))), .val (.int (Int32.ofNat (n + 2)))] [(.int (Int32.ofNat (n + 2)))])) _
          refine XS.istore X46.here hx rfl (hb hby d_rec20_105) rfl (l' := #[.val (.ref r0), .val (.long q1), .second, .val (.ref r3), .val (.ref r3), .val (.int (1 : Int32)), .val (.int (0 : Int32)), .val (.long h), .second, .val (.int (Int32.ofNat n)), .val (.int (Int32.ofNat (n + 2))), .val (.int (Int32.ofNat (n + 2)))]) rfl ?_
          show Steps p.tables e below (T46.setTop (mkF m 107 #[.val (.ref r0), .val (.long q1), .second, .val (.ref r3), .val (.ref r3), .val (.int (1 : Int32)), .val (.int (0 : Int32)), .val (.long h), .second, .val (.int (Int32.ofNat n)), .val (.int (Int32.ofNat (n + 2))), .val (.int (Int32.ofNat (n + 2)))] [])) _
          refine XS.iinc X46.here hx rfl (hb hby d_rec20_107) rfl (l' := #[.val (.ref r0), .val (.long q1), .second, .val (.ref r3), .val (.ref r3), .val (.int (1 : Int32)), .val (.int (0 : Int32)), .val (.long h), .second, .val (.int (Int32.ofNat n)), .val (.int (Int32.ofNat (n + 2))), .val (.int ((Int32.ofNat (n + 2)) + (1 : Int32)))]) rfl ?_
          exact ht
        have k53 : Go p.tables e below (T46.setTop (mkF m 110 #[.val (.ref r0), .val (.long q1), .second, .val (.ref r3), .val (.ref r3), .val (.int (1 : Int32)), .val (.int (0 : Int32)), .val (.long h), .second, .val (.int (Int32.ofNat n)), .val (.int (Int32.ofNat (n + 2))), .val (.int ((Int32.ofNat (n + 2)) + (1 : Int32)))] [])) (T46.setTop (mkF m 110 #[.val (.ref r0), .val (.long q1), .second, .val (.ref r3), .val (.ref r3), .val (.int (1 : Int32)), .val (.int (0 : Int32)), .val (.long h), .second, .val (.int (Int32.ofNat n)), .val (.int (Int32.ofNat (n + 2))), .val (.int (Int32.ofNat (n + 3)))] [])) := by rw [own_inc]; exact fun _ h => h
        have k54 : Go p.tables e below (T46.setTop (mkF m 110 #[.val (.ref r0), .val (.long q1), .second, .val (.ref r3), .val (.ref r3), .val (.int (1 : Int32)), .val (.int (0 : Int32)), .val (.long h), .second, .val (.int (Int32.ofNat n)), .val (.int (Int32.ofNat (n + 2))), .val (.int (Int32.ofNat (n + 3)))] [])) (T46.setTop (mkF m 41 #[.val (.ref r0), .val (.long q1), .second, .val (.ref r3), .val (.ref r3), .val (.int (1 : Int32)), .val (.int (0 : Int32)), .val (.long h), .second, .val (.int (Int32.ofNat n)), .val (.int (Int32.ofNat (n + 2))), .val (.int (Int32.ofNat (n + 3)))] [])) := by
          intro t ht
          refine XS.goto X46.here hx rfl (pc0 := 110) (pc' := 41) rfl (hb hby d_rec20_110) (by decide) (by decide) ?_
          exact ht
        obtain ⟨T55, L55, x55_0, X55, N55, e55, kr55⟩ := pc_rec32 r0 r3 ra rc q1 h B S M n ka kc hs cs X46 hx hZ hw hby hml hown e46 N0 Z0 Fb Fs Fh Fc E_r0 Va Vc hS hM hn
        refine ⟨T55, L55, x55_0, X55, N55, e55, ?_⟩
        have kk := goT (goT k1 (goT k2 (goT k3 (goT k5 (goT k6 (goT k7 (goT k10 (goT k40 (goT k41 (goT k42 (goT k45 (goT k46 (goT k47 (goT k50 (goT k52 (goT k53 k54)))))))))))))))) kr55
        simpa only [f_rec20, if_pos hc4, if_neg hc11, if_pos hc51] using kk
      · have k56 : Go p.tables e below (T46.setTop (mkF m 100 #[.val (.ref r0), .val (.long q1), .second, .val (.ref r3), .val (.ref r3), .val (.int (1 : Int32)), .val (.int (0 : Int32)), .val (.long h), .second, .val (.int (Int32.ofNat n)), .val (.int (Int32.ofNat (n + 0))), .val (.int (Int32.ofNat (n + 2)))] [(.int (lcmpW (cs.getD (n + 2) 0) (cs.getD (n + 0) 0)))])) (T46.setTop (mkF m 110 #[.val (.ref r0), .val (.long q1), .second, .val (.ref r3), .val (.ref r3), .val (.int (1 : Int32)), .val (.int (0 : Int32)), .val (.long h), .second, .val (.int (Int32.ofNat n)), .val (.int (Int32.ofNat (n + 0))), .val (.int ((Int32.ofNat (n + 2)) + (1 : Int32)))] [])) := by
          intro t ht
          refine XS.ifYes X46.here hx rfl (pc0 := 100) (pc' := 107) rfl (hb hby d_rec20_100) rfl ((if0 _ _).trans (flt (own_nltL hc51)).2.1) (by decide) (by decide) ?_
          show Steps p.tables e below (T46.setTop (mkF m 107 #[.val (.ref r0), .val (.long q1), .second, .val (.ref r3), .val (.ref r3), .val (.int (1 : Int32)), .val (.int (0 : Int32)), .val (.long h), .second, .val (.int (Int32.ofNat n)), .val (.int (Int32.ofNat (n + 0))), .val (.int (Int32.ofNat (n + 2)))] [])) _
          refine XS.iinc X46.here hx rfl (hb hby d_rec20_107) rfl (l' := #[.val (.ref r0), .val (.long q1), .second, .val (.ref r3), .val (.ref r3), .val (.int (1 : Int32)), .val (.int (0 : Int32)), .val (.long h), .second, .val (.int (Int32.ofNat n)), .val (.int (Int32.ofNat (n + 0))), .val (.int ((Int32.ofNat (n + 2)) + (1 : Int32)))]) rfl ?_
          exact ht
        have k57 : Go p.tables e below (T46.setTop (mkF m 110 #[.val (.ref r0), .val (.long q1), .second, .val (.ref r3), .val (.ref r3), .val (.int (1 : Int32)), .val (.int (0 : Int32)), .val (.long h), .second, .val (.int (Int32.ofNat n)), .val (.int (Int32.ofNat (n + 0))), .val (.int ((Int32.ofNat (n + 2)) + (1 : Int32)))] [])) (T46.setTop (mkF m 110 #[.val (.ref r0), .val (.long q1), .second, .val (.ref r3), .val (.ref r3), .val (.int (1 : Int32)), .val (.int (0 : Int32)), .val (.long h), .second, .val (.int (Int32.ofNat n)), .val (.int (Int32.ofNat (n + 0))), .val (.int (Int32.ofNat (n + 3)))] [])) := by rw [own_inc]; exact fun _ h => h
        have k58 : Go p.tables e below (T46.setTop (mkF m 110 #[.val (.ref r0), .val (.long q1), .second, .val (.ref r3), .val (.ref r3), .val (.int (1 : Int32)), .val (.int (0 : Int32)), .val (.long h), .second, .val (.int (Int32.ofNat n)), .val (.int (Int32.ofNat (n + 0))), .val (.int (Int32.ofNat (n + 3)))] [])) (T46.setTop (mkF m 41 #[.val (.ref r0), .val (.long q1), .second, .val (.ref r3), .val (.ref r3), .val (.int (1 : Int32)), .val (.int (0 : Int32)), .val (.long h), .second, .val (.int (Int32.ofNat n)), .val (.int (Int32.ofNat (n + 0))), .val (.int (Int32.ofNat (n + 3)))] [])) := by
          intro t ht
          refine XS.goto X46.here hx rfl (pc0 := 110) (pc' := 41) rfl (hb hby d_rec20_110) (by decide) (by decide) ?_
          exact ht
        obtain ⟨T59, L59, x59_0, X59, N59, e59, kr59⟩ := pc_rec30 r0 r3 ra rc q1 h B S M n ka kc hs cs X46 hx hZ hw hby hml hown e46 N0 Z0 Fb Fs Fh Fc E_r0 Va Vc hS hM hn
        refine ⟨T59, L59, x59_0, X59, N59, e59, ?_⟩
        have kk := goT (goT k1 (goT k2 (goT k3 (goT k5 (goT k6 (goT k7 (goT k10 (goT k40 (goT k41 (goT k42 (goT k45 (goT k46 (goT k47 (goT k50 (goT k56 (goT k57 k58)))))))))))))))) kr59
        simpa only [f_rec20, if_pos hc4, if_neg hc11, if_neg hc51] using kk
  · have k60 : Go p.tables e below (T2.setTop (mkF m 50 #[.val (.ref r0), .val (.long q1), .second, .val (.ref r3), .val (.ref r3), .val (.int (1 : Int32)), .val (.int (0 : Int32)), .val (.long h), .second, .val (.int (Int32.ofNat n)), .val (.int (Int32.ofNat (n + 0))), .val (.int (Int32.ofNat (n + 2)))] [(.int ((Int32.ofNat n) + (Int32.ofNat S))), (.int (Int32.ofNat (n + 2)))])) (T2.setTop (mkF m 113 #[.val (.ref r0), .val (.long q1), .second, .val (.ref r3), .val (.ref r3), .val (.int (1 : Int32)), .val (.int (0 : Int32)), .val (.long h), .second, .val (.int (Int32.ofNat n)), .val (.int (Int32.ofNat (n + 0))), .val (.int (Int32.ofNat (n + 2)))] [])) := by
      intro t ht
      refine XS.icmpYes X2.here hx rfl (pc0 := 50) (pc' := 113) rfl (hb hby d_rec20_50) rfl (flt hc4).2.1 (by decide) (by decide) ?_
      exact ht
    refine ⟨T2, _, (.val (.int (Int32.ofNat (n + 2)))), X2, N0, e2, ?_⟩
    have kk := (goT k1 (goT k2 (goT k3 k60)))
    simpa only [f_rec20, if_neg hc4] using kk
theorem d_rec21_41 : decode prog_25_method_5_code 41 = .ok (.iload 11, 2) := by decide +kernel
theorem d_rec21_43 : decode prog_25_method_5_code 43 = .ok (.iload 9, 2) := by decide +kernel
theorem d_rec21_45 : decode prog_25_method_5_code 45 = .ok (.aload_n 0, 1) := by decide +kernel
theorem d_rec21_46 : decode prog_25_method_5_code 46 = .ok (.getfield 26, 3) := by decide +kernel
theorem d_rec21_49 : decode prog_25_method_5_code 49 = .ok (.iadd, 1) := by decide +kernel
theorem d_rec21_50 : decode prog_25_method_5_code 50 = .ok (.if_icmp .ge 63, 3) := by decide +kernel
theorem d_rec21_53 : decode prog_25_method_5_code 53 = .ok (.aload_n 0, 1) := by decide +kernel
theorem d_rec21_54 : decode prog_25_method_5_code 54 = .ok (.getfield 29, 3) := by decide +kernel
theorem d_rec21_57 : decode prog_25_method_5_code 57 = .ok (.iload 11, 2) := by decide +kernel
theorem d_rec21_59 : decode prog_25_method_5_code 59 = .ok (.laload, 1) := by decide +kernel
theorem d_rec21_60 : decode prog_25_method_5_code 60 = .ok (.lload 7, 2) := by decide +kernel
theorem d_rec21_62 : decode prog_25_method_5_code 62 = .ok (.lcmp, 1) := by decide +kernel
theorem d_rec21_63 : decode prog_25_method_5_code 63 = .ok (.ifCond .ne 22, 3) := by decide +kernel
theorem d_rec21_66 : decode prog_25_method_5_code 66 = .ok (.aload_n 0, 1) := by decide +kernel
theorem d_rec21_67 : decode prog_25_method_5_code 67 = .ok (.getfield 33, 3) := by decide +kernel
theorem d_rec21_70 : decode prog_25_method_5_code 70 = .ok (.iload 11, 2) := by decide +kernel
theorem d_rec21_72 : decode prog_25_method_5_code 72 = .ok (.laload, 1) := by decide +kernel
theorem d_rec21_73 : decode prog_25_method_5_code 73 = .ok (.lconst 0, 1) := by decide +kernel
theorem d_rec21_74 : decode prog_25_method_5_code 74 = .ok (.lcmp, 1) := by decide +kernel
theorem d_rec21_75 : decode prog_25_method_5_code 75 = .ok (.ifCond .eq 10, 3) := by decide +kernel
theorem d_rec21_78 : decode prog_25_method_5_code 78 = .ok (.iload 11, 2) := by decide +kernel
theorem d_rec21_80 : decode prog_25_method_5_code 80 = .ok (.istore 10, 2) := by decide +kernel
theorem d_rec21_82 : decode prog_25_method_5_code 82 = .ok (.goto 31, 3) := by decide +kernel
theorem d_rec21_85 : decode prog_25_method_5_code 85 = .ok (.aload_n 0, 1) := by decide +kernel
theorem d_rec21_86 : decode prog_25_method_5_code 86 = .ok (.getfield 33, 3) := by decide +kernel
theorem d_rec21_89 : decode prog_25_method_5_code 89 = .ok (.iload 11, 2) := by decide +kernel
theorem d_rec21_91 : decode prog_25_method_5_code 91 = .ok (.laload, 1) := by decide +kernel
theorem d_rec21_92 : decode prog_25_method_5_code 92 = .ok (.aload_n 0, 1) := by decide +kernel
theorem d_rec21_93 : decode prog_25_method_5_code 93 = .ok (.getfield 33, 3) := by decide +kernel
theorem d_rec21_96 : decode prog_25_method_5_code 96 = .ok (.iload 10, 2) := by decide +kernel
theorem d_rec21_98 : decode prog_25_method_5_code 98 = .ok (.laload, 1) := by decide +kernel
theorem d_rec21_99 : decode prog_25_method_5_code 99 = .ok (.lcmp, 1) := by decide +kernel
theorem d_rec21_100 : decode prog_25_method_5_code 100 = .ok (.ifCond .ge 7, 3) := by decide +kernel
theorem d_rec21_103 : decode prog_25_method_5_code 103 = .ok (.iload 11, 2) := by decide +kernel
theorem d_rec21_105 : decode prog_25_method_5_code 105 = .ok (.istore 10, 2) := by decide +kernel
theorem d_rec21_107 : decode prog_25_method_5_code 107 = .ok (.iinc 11 1, 3) := by decide +kernel
theorem d_rec21_110 : decode prog_25_method_5_code 110 = .ok (.goto (-69), 3) := by decide +kernel
def f_rec21 (n S : Nat) (h : Int64) (hs cs : List Int64) : Nat := (if (Int32.ofNat (n + 2)) < ((Int32.ofNat n) + (Int32.ofNat S)) then (if (hs.getD (n + 2) 0) = h then (if (cs.getD (n + 2) 0) = (0 : Int64) then (if (cs.getD (n + 2) 0) < (cs.getD (n + 1) 0) then (f_rec32 n S h hs cs) else (f_rec31 n S h hs cs)) else 2) else (if (cs.getD (n + 2) 0) < (cs.getD (n + 1) 0) then (f_rec32 n S h hs cs) else (f_rec31 n S h hs cs))) else 1)
set_option maxRecDepth 65536 in
set_option maxHeartbeats 40000000 in
theorem pc_rec21 {p : Program} {l : Launch} {e : Env} {s : State} {m : MethodId} {below : List Frame} {meth : Method} {c : Code} {T0 : State} {locs : List Loc} {Z : State} {a0 : Array Value} {h0 : Heap} {n0 : Nat} (r0 r3 ra rc : Addr) (q1 h : Int64) (B S M n : Nat) (ka kc : ClassId) (hs cs : List Int64)
    (X0 : Stand p l e ({ frames := 2, cells := 0, slots := 0, locals := 33 } : Room) s m #[(.ref r0), (.long q1), (.ref r3)] below meth c T0 locs 0 0) (hx : p.tables.exec = Jvm.exec) (hZ : Z.Warmed39 s.vm) (hw : ∀ d ∈ tables_1, d.before a0 Z = true) (hby : c.code = prog_25_method_5_code) (hml : c.maxLocals = 12) (hown : s.vm.findClass "com/example/auspex/auspex/manager/ConflictTable" = some m.cls) (e0 : T0.heap = h0) (N0 : Fr n0 locs) (Z0 : n0 ≤ h0.size) (Fb : Fld Z h0 r0 "com/example/auspex/auspex/manager/ConflictTable" "buckets" "I" (.int (Int32.ofNat B))) (Fs : Fld Z h0 r0 "com/example/auspex/auspex/manager/ConflictTable" "slotsPerBucket" "I" (.int (Int32.ofNat S))) (Fh : Fld Z h0 r0 "com/example/auspex/auspex/manager/ConflictTable" "hashes" "[J" (.ref ra)) (Fc : Fld Z h0 r0 "com/example/auspex/auspex/manager/ConflictTable" "commits" "[J" (.ref rc)) (E_r0 : Exa Z h0 r0 "com/example/auspex/auspex/manager/ConflictTable") (Va : Arv Z h0 ra ka .long (Int32.ofNat M) (hs.map Value.long) (.long (0 : Int64))) (Vc : Arv Z h0 rc kc .long (Int32.ofNat M) (cs.map Value.long) (.long (0 : Int64))) (hS : 1 ≤ S ∧ S ≤ 3) (hM : M ≤ 12) (hn : n + S ≤ M) :
    ∃ (T' : State) (L' : List Loc) (w11 : Slot), Stand p l e ({ frames := 2, cells := 0, slots := 0, locals := 33 } : Room) s m #[(.ref r0), (.long q1), (.ref r3)] below meth c T' L' 0 0 ∧ Fr n0 L' ∧ T'.heap = h0 ∧ Go p.tables e below (T0.setTop (mkF m 41 #[.val (.ref r0), .val (.long q1), .second, .val (.ref r3), .val (.ref r3), .val (.int (1 : Int32)), .val (.int (0 : Int32)), .val (.long h), .second, .val (.int (Int32.ofNat n)), .val (.int (Int32.ofNat (n + 1))), .val (.int (Int32.ofNat (n + 2)))] [])) (T'.setTop (mkF m 113 #[.val (.ref r0), .val (.long q1), .second, .val (.ref r3), .val (.ref r3), .val (.int (1 : Int32)), .val (.int (0 : Int32)), .val (.long h), .second, .val (.int (Int32.ofNat n)), .val (.int (Int32.ofNat (n + (f_rec21 n S h hs cs)))), w11] [])) := by
  have k1 : Go p.tables e below (T0.setTop (mkF m 41 #[.val (.ref r0), .val (.long q1), .second, .val (.ref r3), .val (.ref r3), .val (.int (1 : Int32)), .val (.int (0 : Int32)), .val (.long h), .second, .val (.int (Int32.ofNat n)), .val (.int (Int32.ofNat (n + 1))), .val (.int (Int32.ofNat (n + 2)))] [])) (T0.setTop (mkF m 46 #[.val (.ref r0), .val (.long q1), .second, .val (.ref r3), .val (.ref r3), .val (.int (1 : Int32)), .val (.int (0 : Int32)), .val (.long h), .second, .val (.int (Int32.ofNat n)), .val (.int (Int32.ofNat (n + 1))), .val (.int (Int32.ofNat (n + 2)))] [(.ref r0), (.int (Int32.ofNat n)), (.int (Int32.ofNat (n + 2)))])) := by
    intro t ht
    refine XS.iload X0.here hx rfl (hb hby d_rec21_41) rfl ?_
    show Steps p.tables e below (T0.setTop (mkF m 43 #[.val (.ref r0), .val (.long q1), .second, .val (.ref r3), .val (.ref r3), .val (.int (1 : Int32)), .val (.int (0 : Int32)), .val (.long h), .second, .val (.int (Int32.ofNat n)), .val (.int (Int32.ofNat (n + 1))), .val (.int (Int32.ofNat (n + 2)))] [(.int (Int32.ofNat (n + 2)))])) _
    refine XS.iload X0.here hx rfl (hb hby d_rec21_43) rfl ?_
    show Steps p.tables e below (T0.setTop (mkF m 45 #[.val (.ref r0), .val (.long q1), .second, .val (.ref r3), .val (.ref r3), .val (.int (1 : Int32)), .val (.int (0 : Int32)), .val (.long h), .second, .val (.int (Int32.ofNat n)), .val (.int (Int32.ofNat (n + 1))), .val (.int (Int32.ofNat (n + 2)))] [(.int (Int32.ofNat n)), (.int (Int32.ofNat (n + 2)))])) _
    refine XS.aloadN X0.here hx rfl (hb hby d_rec21_45) rfl rfl ?_
    exact ht
  obtain ⟨T2, X2, e2, st2⟩ := getF X0 hx hZ hown (host := "") (Or.inl (hw _ (List.mem_of_getElem? (i := 13) rfl))) Via.refl e0 Fs (g := (mkF m 46 #[.val (.ref r0), .val (.long q1), .second, .val (.ref r3), .val (.ref r3), .val (.int (1 : Int32)), .val (.int (0 : Int32)), .val (.long h), .second, .val (.int (Int32.ofNat n)), .val (.int (Int32.ofNat (n + 1))), .val (.int (Int32.ofNat (n + 2)))] [(.ref r0), (.int (Int32.ofNat n)), (.int (Int32.ofNat (n + 2)))])) rfl rfl (hb hby d_rec21_46)
  have k2 : Go p.tables e below (T0.setTop (mkF m 46 #[.val (.ref r0), .val (.long q1), .second, .val (.ref r3), .val (.ref r3), .val (.int (1 : Int32)), .val (.int (0 : Int32)), .val (.long h), .second, .val (.int (Int32.ofNat n)), .val (.int (Int32.ofNat (n + 1))), .val (.int (Int32.ofNat (n + 2)))] [(.ref r0), (.int (Int32.ofNat n)), (.int (Int32.ofNat (n + 2)))])) (T2.setTop (mkF m 49 #[.val (.ref r0), .val (.long q1), .second, .val (.ref r3), .val (.ref r3), .val (.int (1 : Int32)), .val (.int (0 : Int32)), .val (.long h), .second, .val (.int (Int32.ofNat n)), .val (.int (Int32.ofNat (n + 1))), .val (.int (Int32.ofNat (n + 2)))] [(.int (Int32.ofNat S)), (.int (Int32.ofNat n)), (.int (Int32.ofNat (n + 2)))])) := st2
  have k3 : Go p.tables e below (T2.setTop (mkF m 49 #[.val (.ref r0), .val (.long q1), .second, .val (.ref r3), .val (.ref r3), .val (.int (1 : Int32)), .val (.int (0 : Int32)), .val (.long h), .second, .val (.int (Int32.ofNat n)), .val (.int (Int32.ofNat (n + 1))), .val (.int (Int32.ofNat (n + 2)))] [(.int (Int32.ofNat S)), (.int (Int32.ofNat n)), (.int (Int32.ofNat (n + 2)))])) (T2.setTop (mkF m 50 #[.val (.ref r0), .val (.long q1), .second, .val (.ref r3), .val (.ref r3), .val (.int (1 : Int32)), .val (.int (0 : Int32)), .val (.long h), .second, .val (.int (Int32.ofNat n)), .val (.int (Int32.ofNat (n + 1))), .val (.int (Int32.ofNat (n + 2)))] [(.int ((Int32.ofNat n) + (Int32.ofNat S))), (.int (Int32.ofNat (n + 2)))])) := by
    intro t ht
    refine XS.iadd X2.here hx rfl (hb hby d_rec21_49) rfl ?_
    exact ht
  by_cases hc4 : (Int32.ofNat (n + 2)) < ((Int32.ofNat n) + (Int32.ofNat S))
  · have k5 : Go p.tables e below (T2.setTop (mkF m 50 #[.val (.ref r0), .val (.long q1), .second, .val (.ref r3), .val (.ref r3), .val (.int (1 : Int32)), .val (.int (0 : Int32)), .val (.long h), .second, .val (.int (Int32.ofNat n)), .val (.int (Int32.ofNat (n + 1))), .val (.int (Int32.ofNat (n + 2)))] [(.int ((Int32.ofNat n) + (Int32.ofNat S))), (.int (Int32.ofNat (n + 2)))])) (T2.setTop (mkF m 54 #[.val (.ref r0), .val (.long q1), .second, .val (.ref r3), .val (.ref r3), .val (.int (1 : Int32)), .val (.int (0 : Int32)), .val (.long h), .second, .val (.int (Int32.ofNat n)), .val (.int (Int32.ofNat (n + 1))), .val (.int (Int32.ofNat (n + 2)))] [(.ref r0)])) := by
      intro t ht
      refine XS.icmpNo X2.here hx rfl (hb hby d_rec21_50) rfl (tlt hc4).2.1 ?_
      show Steps p.tables e below (T2.setTop (mkF m 53 #[.val (.ref r0), .val (.long q1), .second, .val (.ref r3), .val (.ref r3), .val (.int (1 : Int32)), .val (.int (0 : Int32)), .val (.long h), .second, .val (.int (Int32.ofNat n)), .val (.int (Int32.ofNat (n + 1))), .val (.int (Int32.ofNat (n + 2)))] [])) _
      refine XS.aloadN X2.here hx rfl (hb hby d_rec21_53) rfl rfl ?_
      exact ht
    obtain ⟨T6, X6, e6, st6⟩ := getF X2 hx hZ hown (host := "") (Or.inl (hw _ (List.mem_of_getElem? (i := 16) rfl))) Via.refl e2 Fh (g := (mkF m 54 #[.val (.ref r0), .val (.long q1), .second, .val (.ref r3), .val (.ref r3), .val (.int (1 : Int32)), .val (.int (0 : Int32)), .val (.long h), .second, .val (.int (Int32.ofNat n)), .val (.int (Int32.ofNat (n + 1))), .val (.int (Int32.ofNat (n + 2)))] [(.ref r0)])) rfl rfl (hb hby d_rec21_54)
    have k6 : Go p.tables e below (T2.setTop (mkF m 54 #[.val (.ref r0), .val (.long q1), .second, .val (.ref r3), .val (.ref r3), .val (.int (1 : Int32)), .val (.int (0 : Int32)), .val (.long h), .second, .val (.int (Int32.ofNat n)), .val (.int (Int32.ofNat (n + 1))), .val (.int (Int32.ofNat (n + 2)))] [(.ref r0)])) (T6.setTop (mkF m 57 #[.val (.ref r0), .val (.long q1), .second, .val (.ref r3), .val (.ref r3), .val (.int (1 : Int32)), .val (.int (0 : Int32)), .val (.long h), .second, .val (.int (Int32.ofNat n)), .val (.int (Int32.ofNat (n + 1))), .val (.int (Int32.ofNat (n + 2)))] [(.ref ra)])) := st6
    have k7 : Go p.tables e below (T6.setTop (mkF m 57 #[.val (.ref r0), .val (.long q1), .second, .val (.ref r3), .val (.ref r3), .val (.int (1 : Int32)), .val (.int (0 : Int32)), .val (.long h), .second, .val (.int (Int32.ofNat n)), .val (.int (Int32.ofNat (n + 1))), .val (.int (Int32.ofNat (n + 2)))] [(.ref ra)])) (T6.setTop (mkF m 59 #[.val (.ref r0), .val (.long q1), .second, .val (.ref r3), .val (.ref r3), .val (.int (1 : Int32)), .val (.int (0 : Int32)), .val (.long h), .second, .val (.int (Int32.ofNat n)), .val (.int (Int32.ofNat (n + 1))), .val (.int (Int32.ofNat (n + 2)))] [(.int (Int32.ofNat (n + 2))), (.ref ra)])) := by
      intro t ht
      refine XS.iload X6.here hx rfl (hb hby d_rec21_57) rfl ?_
      exact ht
    obtain ⟨cl8, Ar8, q8, S8, M8, H8, G8⟩ := id Va
    have hjn9 : 2 < S := own_jS hM hn hc4 (by decide)
    have hin8 : ¬ ((Int32.ofNat (n + 2)) < 0 ∨ cl8.slots.size ≤ ((Int32.ofNat (n + 2))).toNatClampNeg) := inb_of S8 ⟨own_nneg (by omega), own_ltM (by omega) hM⟩
    have hat8 : cl8.slots[((Int32.ofNat (n + 2))).toNatClampNeg]? = some (.long (hs.getD (n + 2) 0)) := (H8 _ (Nat.lt_of_not_le fun y => hin8 (Or.inr y))).trans (congrArg some (own_getJ _ (by omega)))
    have k10 : Go p.tables e below (T6.setTop (mkF m 59 #[.val (.ref r0), .val (.long q1), .second, .val (.ref r3), .val (.ref r3), .val (.int (1 : Int32)), .val (.int (0 : Int32)), .val (.long h), .second, .val (.int (Int32.ofNat n)), .val (.int (Int32.ofNat (n + 1))), .val (.int (Int32.ofNat (n + 2)))] [(.int (Int32.ofNat (n + 2))), (.ref ra)])) (T6.setTop (mkF m 63 #[.val (.ref r0), .val (.long q1), .second, .val (.ref r3), .val (.ref r3), .val (.int (1 : Int32)), .val (.int (0 : Int32)), .val (.long h), .second, .val (.int (Int32.ofNat n)), .val (.int (Int32.ofNat (n + 1))), .val (.int (Int32.ofNat (n + 2)))] [(.int (lcmpW (hs.getD (n + 2) 0) h))])) := by
      intro t ht
      refine X6.laload hx (j := (Int32.ofNat (n + 2))) (v := (.long (hs.getD (n + 2) 0))) (by rw [e6]; exact Ar8.1) (State.isArrayOf_alike hZ.alike Ar8.2.1) Ar8.2.2 hin8 hat8 (g := (mkF m 59 #[.val (.ref r0), .val (.long q1), .second, .val (.ref r3), .val (.ref r3), .val (.int (1 : Int32)), .val (.int (0 : Int32)), .val (.long h), .second, .val (.int (Int32.ofNat n)), .val (.int (Int32.ofNat (n + 1))), .val (.int (Int32.ofNat (n + 2)))] [(.int (Int32.ofNat (n + 2))), (.ref ra)])) rfl rfl (hb hby d_rec21_59) _ ?_
      show Steps p.tables e below (T6.setTop (mkF m 60 #[.val (.ref r0), .val (.long q1), .second, .val (.ref r3), .val (.ref r3), .val (.int (1 : Int32)), .val (.int (0 : Int32)), .val (.long h), .second, .val (.int (Int32.ofNat n)), .val (.int (Int32.ofNat (n + 1))), .val (.int (Int32.ofNat (n + 2)))] [(.long (hs.getD (n + 2) 0))])) _
      refine XS.lload X6.here hx rfl (hb hby d_rec21_60) rfl ?_
      show Steps p.tables e below (T6.setTop (mkF m 62 #[.val (.ref r0), .val (.long q1), .second, .val (.ref r3), .val (.ref r3), .val (.int (1 : Int32)), .val (.int (0 : Int32)), .val (.long h), .second, .val (.int (Int32.ofNat n)), .val (.int (Int32.ofNat (n + 1))), .val (.int (Int32.ofNat (n + 2)))] [(.long h), (.long (hs.getD (n + 2) 0))])) _
      refine XS.lcmp X6.here hx rfl (hb hby d_rec21_62) rfl ?_
      exact ht
    by_cases hc11 : (hs.getD (n + 2) 0) = h
    · have k12 : Go p.tables e below (T6.setTop (mkF m 63 #[.val (.ref r0), .val (.long q1), .second, .val (.ref r3), .val (.ref r3), .val (.int (1 : Int32)), .val (.int (0 : Int32)), .val (.long h), .second, .val (.int (Int32.ofNat n)), .val (.int (Int32.ofNat (n + 1))), .val (.int (Int32.ofNat (n + 2)))] [(.int (lcmpW (hs.getD (n + 2) 0) h))])) (T6.setTop (mkF m 67 #[.val (.ref r0), .val (.long q1), .second, .val (.ref r3), .val (.ref r3), .val (.int (1 : Int32)), .val (.int (0 : Int32)), .val (.long h), .second, .val (.int (Int32.ofNat n)), .val (.int (Int32.ofNat (n + 1))), .val (.int (Int32.ofNat (n + 2)))] [(.ref r0)])) := by
        intro t ht
        refine XS.ifNo X6.here hx rfl (hb hby d_rec21_63) rfl ((if0 _ _).trans (teq (own_eqL hc11)).2) ?_
        show Steps p.tables e below (T6.setTop (mkF m 66 #[.val (.ref r0), .val (.long q1), .second, .val (.ref r3), .val (.ref r3), .val (.int (1 : Int32)), .val (.int (0 : Int32)), .val (.long h), .second, .val (.int (Int32.ofNat n)), .val (.int (Int32.ofNat (n + 1))), .val (.int (Int32.ofNat (n + 2)))] [])) _
        refine XS.aloadN X6.here hx rfl (hb hby d_rec21_66) rfl rfl ?_
        exact ht
      obtain ⟨T13, X13, e13, st13⟩ := getF X6 hx hZ hown (host := "") (Or.inl (hw _ (List.mem_of_getElem? (i := 18) rfl))) Via.refl e6 Fc (g := (mkF m 67 #[.val (.ref r0), .val (.long q1), .second, .val (.ref r3), .val (.ref r3), .val (.int (1 : Int32)), .val (.int (0 : Int32)), .val (.long h), .second, .val (.int (Int32.ofNat n)), .val (.int (Int32.ofNat (n + 1))), .val (.int (Int32.ofNat (n + 2)))] [(.ref r0)])) rfl rfl (hb hby d_rec21_67)
      have k13 : Go p.tables e below (T6.setTop (mkF m 67 #[.val (.ref r0), .val (.long q1), .second, .val (.ref r3), .val (.ref r3), .val (.int (1 : Int32)), .val (.int (0 : Int32)), .val (.long h), .second, .val (.int (Int32.ofNat n)), .val (.int (Int32.ofNat (n + 1))), .val (.int (Int32.ofNat (n + 2)))] [(.ref r0)])) (T13.setTop (mkF m 70 #[.val (.ref r0), .val (.long q1), .second, .val (.ref r3), .val (.ref r3), .val (.int (1 : Int32)), .val (.int (0 : Int32)), .val (.long h), .second, .val (.int (Int32.ofNat n)), .val (.int (Int32.ofNat (n + 1))), .val (.int (Int32.ofNat (n + 2)))] [(.ref rc)])) := st13
      have k14 : Go p.tables e below (T13.setTop (mkF m 70 #[.val (.ref r0), .val (.long q1), .second, .val (.ref r3), .val (.ref r3), .val (.int (1 : Int32)), .val (.int (0 : Int32)), .val (.long h), .second, .val (.int (Int32.ofNat n)), .val (.int (Int32.ofNat (n + 1))), .val (.int (Int32.ofNat (n + 2)))] [(.ref rc)])) (T13.setTop (mkF m 72 #[.val (.ref r0), .val (.long q1), .second, .val (.ref r3), .val (.ref r3), .val (.int (1 : Int32)), .val (.int (0 : Int32)), .val (.long h), .second, .val (.int (Int32.ofNat n)), .val (.int (Int32.ofNat (n + 1))), .val (.int (Int32.ofNat (n + 2)))] [(.int (Int32.ofNat (n + 2))), (.ref rc)])) := by
        intro t ht
        refine XS.iload X13.here hx rfl (hb hby d_rec21_70) rfl ?_
        exact ht
      obtain ⟨cl15, Ar15, q15, S15, M15, H15, G15⟩ := id Vc
      have hjn16 : 2 < S := own_jS hM hn hc4 (by decide)
      have hin15 : ¬ ((Int32.ofNat (n + 2)) < 0 ∨ cl15.slots.size ≤ ((Int32.ofNat (n + 2))).toNatClampNeg) := inb_of S15 ⟨own_nneg (by omega), own_ltM (by omega) hM⟩
      have hat15 : cl15.slots[((Int32.ofNat (n + 2))).toNatClampNeg]? = some (.long (cs.getD (n + 2) 0)) := (H15 _ (Nat.lt_of_not_le fun y => hin15 (Or.inr y))).trans (congrArg some (own_getJ _ (by omega)))
      have k17 : Go p.tables e below (T13.setTop (mkF m 72 #[.val (.ref r0), .val (.long q1), .second, .val (.ref r3), .val (.ref r3), .val (.int (1 : Int32)), .val (.int (0 : Int32)), .val (.long h), .second, .val (.int (Int32.ofNat n)), .val (.int (Int32.ofNat (n + 1))), .val (.int (Int32.ofNat (n + 2)))] [(.int (Int32.ofNat (n + 2))), (.ref rc)])) (T13.setTop (mkF m 75 #[.val (.ref r0), .val (.long q1), .second, .val (.ref r3), .val (.ref r3), .val (.int (1 : Int32)), .val (.int (0 : Int32)), .val (.long h), .second, .val (.int (Int32.ofNat n)), .val (.int (Int32.ofNat (n + 1))), .val (.int (Int32.ofNat (n + 2)))] [(.int (lcmpW (cs.getD (n + 2) 0) (0 : Int64)))])) := by
        intro t ht
        refine X13.laload hx (j := (Int32.ofNat (n + 2))) (v := (.long (cs.getD (n + 2) 0))) (by rw [e13]; exact Ar15.1) (State.isArrayOf_alike hZ.alike Ar15.2.1) Ar15.2.2 hin15 hat15 (g := (mkF m 72 #[.val (.ref r0), .val (.long q1), .second, .val (.ref r3), .val (.ref r3), .val (.int (1 : Int32)), .val (.int (0 : Int32)), .val (.long h), .second, .val (.int (Int32.ofNat n)), .val (.int (Int32.ofNat (n + 1))), .val (.int (Int32.ofNat (n + 2)))] [(.int (Int32.ofNat (n + 2))), (.ref rc)])) rfl rfl (hb hby d_rec21_72) _ ?_
        show Steps p.tables e below (T13.setTop (mkF m 73 #[.val (.ref r0), .val (.long q1), .second, .val (.ref r3), .val (.ref r3), .val (.int (1 : Int32)), .val (.int (0 : Int32)), .val (.long h), .second, .val (.int (Int32.ofNat n)), .val (.int (Int32.ofNat (n + 1))), .val (.int (Int32.ofNat (n + 2)))] [(.long (cs.getD (n + 2) 0))])) _
        refine XS.lconst X13.here hx rfl (hb hby d_rec21_73) ?_
        show Steps p.tables e below (T13.setTop (mkF m 74 #[.val (.ref r0), .val (.long q1), .second, .val (.ref r3), .val (.ref r3), .val (.int (1 : Int32)), .val (.int (0 : Int32)), .val (.long h), .second, .val (.int (Int32.ofNat n)), .val (.int (Int32.ofNat (n + 1))), .val (.int (Int32.ofNat (n + 2)))] [(.long (0 : Int64)), (.long (cs.getD (n + 2) 0))])) _
        refine XS.lcmp X13.here hx rfl (hb hby d_rec21_74) rfl ?_
        exact ht
      by_cases hc18 : (cs.getD (n + 2) 0) = (0 : Int64)
      · have k19 : Go p.tables e below (T13.setTop (mkF m 75 #[.val (.ref r0), .val (.long q1), .second, .val (.ref r3), .val (.ref r3), .val (.int (1 : Int32)), .val (.int (0 : Int32)), .val (.long h), .second, .val (.int (Int32.ofNat n)), .val (.int (Int32.ofNat (n + 1))), .val (.int (Int32.ofNat (n + 2)))] [(.int (lcmpW (cs.getD (n + 2) 0) (0 : Int64)))])) (T13.setTop (mkF m 86 #[.val (.ref r0), .val (.long q1), .second, .val (.ref r3), .val (.ref r3), .val (.int (1 : Int32)), .val (.int (0 : Int32)), .val (.long h), .second, .val (.int (Int32.ofNat n)), .val (.int (Int32.ofNat (n + 1))), .val (.int (Int32.ofNat (n + 2)))] [(.ref r0)])) := by
          intro t ht
          refine XS.ifYes X13.here hx rfl (pc0 := 75) (pc' := 85) rfl (hb hby d_rec21_75) rfl ((if0 _ _).trans (teq (own_eqL hc18)).1) (by decide) (by decide) ?_
          show Steps p.tables e below (T13.setTop (mkF m 85 #[.val (.ref r0), .val (.long q1), .second, .val (.ref r3), .val (.ref r3), .val (.int (1 : Int32)), .val (.int (0 : Int32)), .val (.long h), .second, .val (.int (Int32.ofNat n)), .val (.int (Int32.ofNat (n + 1))), .val (.int (Int32.ofNat (n + 2)))] [])) _
          refine XS.aloadN X13.here hx rfl (hb hby d_rec21_85) rfl rfl ?_
          exact ht
        obtain ⟨T20, X20, e20, st20⟩ := getF X13 hx hZ hown (host := "") (Or.inl (hw _ (List.mem_of_getElem? (i := 18) rfl))) Via.refl e13 Fc (g := (mkF m 86 #[.val (.ref r0), .val (.long q1), .second, .val (.ref r3), .val (.ref r3), .val (.int (1 : Int32)), .val (.int (0 : Int32)), .val (.long h), .second, .val (.int (Int32.ofNat n)), .val (.int (Int32.ofNat (n + 1))), .val (.int (Int32.ofNat (n + 2)))] [(.ref r0)])) rfl rfl (hb hby d_rec21_86)
        have k20 : Go p.tables e below (T13.setTop (mkF m 86 #[.val (.ref r0), .val (.long q1), .second, .val (.ref r3), .val (.ref r3), .val (.int (1 : Int32)), .val (.int (0 : Int32)), .val (.long h), .second, .val (.int (Int32.ofNat n)), .val (.int (Int32.ofNat (n + 1))), .val (.int (Int32.ofNat (n + 2)))] [(.ref r0)])) (T20.setTop (mkF m 89 #[.val (.ref r0), .val (.long q1), .second, .val (.ref r3), .val (.ref r3), .val (.int (1 : Int32)), .val (.int (0 : Int32)), .val (.long h), .second, .val (.int (Int32.ofNat n)), .val (.int (Int32.ofNat (n + 1))), .val (.int (Int32.ofNat (n + 2)))] [(.ref rc)])) := st20
        have k21 : Go p.tables e below (T20.setTop (mkF m 89 #[.val (.ref r0), .val (.long q1), .second, .val (.ref r3), .val (.ref r3), .val (.int (1 : Int32)), .val (.int (0 : Int32)), .val (.long h), .second, .val (.int (Int32.ofNat n)), .val (.int (Int32.ofNat (n + 1))), .val (.int (Int32.ofNat (n + 2)))] [(.ref rc)])) (T20.setTop (mkF m 91 #[.val (.ref r0), .val (.long q1), .second, .val (.ref r3), .val (.ref r3), .val (.int (1 : Int32)), .val (.int (0 : Int32)), .val (.long h), .second, .val (.int (Int32.ofNat n)), .val (.int (Int32.ofNat (n + 1))), .val (.int (Int32.ofNat (n + 2)))] [(.int (Int32.ofNat (n + 2))), (.ref rc)])) := by
          intro t ht
          refine XS.iload X20.here hx rfl (hb hby d_rec21_89) rfl ?_
          exact ht
        obtain ⟨cl22, Ar22, q22, S22, M22, H22, G22⟩ := id Vc
        have hjn23 : 2 < S := own_jS hM hn hc4 (by decide)
        have hin22 : ¬ ((Int32.ofNat (n + 2)) < 0 ∨ cl22.slots.size ≤ ((Int32.ofNat (n + 2))).toNatClampNeg) := inb_of S22 ⟨own_nneg (by omega), own_ltM (by omega) hM⟩
        have hat22 : cl22.slots[((Int32.ofNat (n + 2))).toNatClampNeg]? = some (.long (cs.getD (n + 2) 0)) := (H22 _ (Nat.lt_of_not_le fun y => hin22 (Or.inr y))).trans (congrArg some (own_getJ _ (by omega)))
        have k24 : Go p.tables e below (T20.setTop (mkF m 91 #[.val (.ref r0), .val (.long q1), .second, .val (.ref r3), .val (.ref r3), .val (.int (1 : Int32)), .val (.int (0 : Int32)), .val (.long h), .second, .val (.int (Int32.ofNat n)), .val (.int (Int32.ofNat (n + 1))), .val (.int (Int32.ofNat (n + 2)))] [(.int (Int32.ofNat (n + 2))), (.ref rc)])) (T20.setTop (mkF m 93 #[.val (.ref r0), .val (.long q1), .second, .val (.ref r3), .val (.ref r3), .val (.int (1 : Int32)), .val (.int (0 : Int32)), .val (.long h), .second, .val (.int (Int32.ofNat n)), .val (.int (Int32.ofNat (n + 1))), .val (.int (Int32.ofNat (n + 2)))] [(.ref r0), (.long (cs.getD (n + 2) 0))])) := by
          intro t ht
          refine X20.laload hx (j := (Int32.ofNat (n + 2))) (v := (.long (cs.getD (n + 2) 0))) (by rw [e20]; exact Ar22.1) (State.isArrayOf_alike hZ.alike Ar22.2.1) Ar22.2.2 hin22 hat22 (g := (mkF m 91 #[.val (.ref r0), .val (.long q1), .second, .val (.ref r3), .val (.ref r3), .val (.int (1 : Int32)), .val (.int (0 : Int32)), .val (.long h), .second, .val (.int (Int32.ofNat n)), .val (.int (Int32.ofNat (n + 1))), .val (.int (Int32.ofNat (n + 2)))] [(.int (Int32.ofNat (n + 2))), (.ref rc)])) rfl rfl (hb hby d_rec21_91) _ ?_
          show Steps p.tables e below (T20.setTop (mkF m 92 #[.val (.ref r0), .val (.long q1), .second, .val (.ref r3), .val (.ref r3), .val (.int (1 : Int32)), .val (.int (0 : Int32)), .val (.long h), .second, .val (.int (Int32.ofNat n)), .val (.int (Int32.ofNat (n + 1))), .val (.int (Int32.ofNat (n + 2)))] [(.long (cs.getD (n + 2) 0))])) _
          refine XS.aloadN X20.here hx rfl (hb hby d_rec21_92) rfl rfl ?_
          exact ht
        obtain ⟨T25, X25, e25, st25⟩ := getF X20 hx hZ hown (host := "") (Or.inl (hw _ (List.mem_of_getElem? (i := 18) rfl))) Via.refl e20 Fc (g := (mkF m 93 #[.val (.ref r0), .val (.long q1), .second, .val (.ref r3), .val (.ref r3), .val (.int (1 : Int32)), .val (.int (0 : Int32)), .val (.long h), .second, .val (.int (Int32.ofNat n)), .val (.int (Int32.ofNat (n + 1))), .val (.int (Int32.ofNat (n + 2)))] [(.ref r0), (.long (cs.getD (n + 2) 0))])) rfl rfl (hb hby d_rec21_93)
        have k25 : Go p.tables e below (T20.setTop (mkF m 93 #[.val (.ref r0), .val (.long q1), .second, .val (.ref r3), .val (.ref r3), .val (.int (1 : Int32)), .val (.int (0 : Int32)), .val (.long h), .second, .val (.int (Int32.ofNat n)), .val (.int (Int32.ofNat (n + 1))), .val (.int (Int32.ofNat (n + 2)))] [(.ref r0), (.long (cs.getD (n + 2) 0))])) (T25.setTop (mkF m 96 #[.val (.ref r0), .val (.long q1), .second, .val (.ref r3), .val (.ref r3), .val (.int (1 : Int32)), .val (.int (0 : Int32)), .val (.long h), .second, .val (.int (Int32.ofNat n)), .val (.int (Int32.ofNat (n + 1))), .val (.int (Int32.ofNat (n + 2)))] [(.ref rc), (.long (cs.getD (n + 2) 0))])) := st25
        have k26 : Go p.tables e below (T25.setTop (mkF m 96 #[.val (.ref r0), .val (.long q1), .second, .val (.ref r3), .val (.ref r3), .val (.int (1 : Int32)), .val (.int (0 : Int32)), .val (.long h), .second, .val (.int (Int32.ofNat n)), .val (.int (Int32.ofNat (n + 1))), .val (.int (Int32.ofNat (n + 2)))] [(.ref rc), (.long (cs.getD (n + 2) 0))])) (T25.setTop (mkF m 98 #[.val (.ref r0), .val (.long q1), .second, .val (.ref r3), .val (.ref r3), .val (.int (1 : Int32)), .val (.int (0 : Int32)), .val (.long h), .second, .val (.int (Int32.ofNat n)), .val (.int (Int32.ofNat (n + 1))), .val (.int (Int32.ofNat (n + 2)))] [(.int (Int32.ofNat (n + 1))), (.ref rc), (.long (cs.getD (n + 2) 0))])) := by
          intro t ht
          refine XS.iload X25.here hx rfl (hb hby d_rec21_96) rfl ?_
          exact ht
        obtain ⟨cl27, Ar27, q27, S27, M27, H27, G27⟩ := id Vc
        have hjn28 : 2 < S := own_jS hM hn hc4 (by decide)
        have hin27 : ¬ ((Int32.ofNat (n + 1)) < 0 ∨ cl27.slots.size ≤ ((Int32.ofNat (n + 1))).toNatClampNeg) := inb_of S27 ⟨own_nneg (by omega), own_ltM (by omega) hM⟩
        have hat27 : cl27.slots[((Int32.ofNat (n + 1))).toNatClampNeg]? = some (.long (cs.getD (n + 1) 0)) := (H27 _ (Nat.lt_of_not_le fun y => hin27 (Or.inr y))).trans (congrArg some (own_getJ _ (by omega)))
        have k29 : Go p.tables e below (T25.setTop (mkF m 98 #[.val (.ref r0), .val (.long q1), .second, .val (.ref r3), .val (.ref r3), .val (.int (1 : Int32)), .val (.int (0 : Int32)), .val (.long h), .second, .val (.int (Int32.ofNat n)), .val (.int (Int32.ofNat (n + 1))), .val (.int (Int32.ofNat (n + 2)))] [(.int (Int32.ofNat (n + 1))), (.ref rc), (.long (cs.getD (n + 2) 0))])) (T25.setTop (mkF m 100 #[.val (.ref r0), .val (.long q1), .second, .val (.ref r3), .val (.ref r3), .val (.int (1 : Int32)), .val (.int (0 : Int32)), .val (.long h), .second, .val (.int (Int32.ofNat n)), .val (.int (Int32.ofNat (n + 1))), .val (.int (Int32.ofNat (n + 2)))] [(.int (lcmpW (cs.getD (n + 2) 0) (cs.getD (n + 1) 0)))])) := by
          intro t ht
          refine X25.laload hx (j := (Int32.ofNat (n + 1))) (v := (.long (cs.getD (n + 1) 0))) (by rw [e25]; exact Ar27.1) (State.isArrayOf_alike hZ.alike Ar27.2.1) Ar27.2.2 hin27 hat27 (g := (mkF m 98 #[.val (.ref r0), .val (.long q1), .second, .val (.ref r3), .val (.ref r3), .val (.int (1 : Int32)), .val (.int (0 : Int32)), .val (.long h), .second, .val (.int (Int32.ofNat n)), .val (.int (Int32.ofNat (n + 1))), .val (.int (Int32.ofNat (n + 2)))] [(.int (Int32.ofNat (n + 1))), (.ref rc), (.long (cs.getD (n + 2) 0))])) rfl rfl (hb hby d_rec21_98) _ ?_
          show Steps p.tables e below (T25.setTop (mkF m 99 #[.val (.ref r0), .val (.long q1), .second, .val (.ref r3), .val (.ref r3), .val (.int (1 : Int32)), .val (.int (0 : Int32)), .val (.long h), .second, .val (.int (Int32.ofNat n)), .val (.int (Int32.ofNat (n + 1))), .val (.int (Int32.ofNat (n + 2)))] [(.long (cs.getD (n + 1) 0)), (.long (cs.getD (n + 2) 0))])) _
          refine XS.lcmp X25.here hx rfl (hb hby d_rec21_99) rfl ?_
          exact ht
        by_cases hc30 : (cs.getD (n + 2) 0) < (cs.getD (n + 1) 0)
        · have k31 : Go p.tables e below (T25.setTop (mkF m 100 #[.val (.ref r0), .val (.long q1), .second, .val (.ref r3), .val (.ref r3), .val (.int (1 : Int32)), .val (.int (0 : Int32)), .val (.long h), .second, .val (.int (Int32.ofNat n)), .val (.int (Int32.ofNat (n + 1))), .val (.int (Int32.ofNat (n + 2)))] [(.int (lcmpW (cs.getD (n + 2) 0) (cs.getD (n + 1) 0)))])) (T25.setTop (mkF m 110 #[.val (.ref r0), .val (.long q1), .second, .val (.ref r3), .val (.ref r3), .val (.int (1 : Int32)), .val (.int (0 : Int32)), .val (.long h), .second, .val (.int (Int32.ofNat n)), .val (.int (Int32.ofNat (n + 2))), .val (.int ((Int32.ofNat (n + 2)) + (1 : Int32)))] [])) := by
            intro t ht
            refine XS.ifNo X25.here hx rfl (hb hby d_rec21_100) rfl ((if0 _ _).trans (tlt (own_ltL hc30)).2.1) ?_
            show Steps p.tables e below (T25.setTop (mkF m 103 #[.val (.ref r0), .val (.long q1), .second, .val (.ref r3), .val (.ref r3), .val (.int (1 : Int32)), .val (.int (0 : Int32)), .val (.long h), .second, .val (.int (Int32.ofNat n)), .val (.int (Int32.ofNat (n + 1))), .val (.int (Int32.ofNat (n + 2)))] [])) _
            refine XS.iload X25.here hx rfl (hb hby d_rec21_103) rfl ?_
            show Steps p.tables e below (T25.setTop (mkF m 105 #[.val (.ref r0), .val (.long q1), .second, .val (.ref r3), .val (.ref r3), .val (.int (1 : Int32)), .val (.int (0 : Int32)), .val (.long h), .second, .val (.int (Int32.ofNat n)), .val (.int (Int32.ofNat (n + 1))), .val (.int (Int32.ofNat (n + 2)))] [(.int (Int32.ofNat (n + 2)))])) _
            refine XS.istore X25.here hx rfl (hb hby d_rec21_105) rfl (l' := #[.val (.ref r0), .val (.long q1), .second, .val (.ref r3), .val (.ref r3), .val (.int (1 : Int32)), .val (.int (0 : Int32)), .val (.long h), .second, .val (.int (Int32.ofNat n)), .val (.int (Int32.ofNat (n + 2))), .val (.int (Int32.ofNat (n + 2)))]) rfl ?_
            show Steps p.tables e below (T25.setTop (mkF m 107 #[.val (.ref r0), .val (.long q1), .second, .val (.ref r3), .val (.ref r3), .val (.int (1 : Int32)), .val (.int (0 : Int32)), .val (.long h), .second, .val (.int (Int32.ofNat n)), .val (.int (Int32.ofNat (n + 2))), .val (.int (Int32.ofNat (n + 2)))] [])) _
            refine XS.iinc X25.here hx rfl (hb hby d_rec21_107) rfl (l' := #[.val (.ref r0), .val (.long q1), .second, .val (.ref r3), .val (.ref r3), .val (.int (1 : Int32)), .val (.int (0 : Int32)), .val (.long h), .second, .val (.int (Int32.ofNat n)), .val (.int (Int32.ofNat (n + 2))), .val (.int ((Int32.ofNat (n + 2)) + (1 : Int32)))]) rfl ?_
            exact ht
          have k32 : Go p.tables e below (T25.setTop (mkF m 110 #[.val (.ref r0), .val (.long q1), .second, .val (.ref r3), .val (.ref r3), .val (.int (1 : Int32)), .val (.int (0 : Int32)), .val (.long h), .second, .val (.int (Int32.ofNat n)), .val (.int (Int32.ofNat (n + 2))), .val (.int ((Int32.ofNat (n + 2)) + (1 : Int32)))] [])) (T25.setTop (mkF m 110 #[.val (.ref r0), .val (.long q1), .second, .val (.ref r3), .val (.ref r3), .val (.int (1 : Int32)), .val (.int (0 : Int32)), .val (.long h), .second, .val (.int (Int32.ofNat n)), .val (.int (Int32.ofNat (n + 2))), .val (.int (Int32.ofNat (n + 3)))] [])) := by rw [own_inc]; exact fun _ h => h
          have k33 : Go p.tables e below (T25.setTop (mkF m 110 #[.val (.ref r0), .val (.long q1), .second, .val (.ref r3), .val (.ref r3), .val (.int (1 : Int32)), .val (.int (0 : Int32)), .val (.long h), .second, .val (.int (Int32.ofNat n)), .val (.int (Int32.ofNat (n + 2))), .val (.int (Int32.ofNat (n + 3)))] [])) (T25.setTop (mkF m 41 #[.val (.ref r0), .val (.long q1), .second, .val (.ref r3), .val (.ref r3), .val (.int (1 : Int32)), .val (.int (0 : Int32)), .val (.long h), .second, .val (.int (Int32.ofNat n)), .val (.int (Int32.ofNat (n + 2))), .val (.int (Int32.ofNat (n + 3)))] [])) := by
            intro t ht
            refine XS.goto X25.here hx rfl (pc0 := 110) (pc' := 41) rfl (hb hby d_rec21_110) (by decide) (by decide) ?_
            exact ht
          obtain ⟨T34, L34, x34_0, X34, N34, e34, kr34⟩ := pc_rec32 r0 r3 ra rc q1 h B S M n ka kc hs cs X25 hx hZ hw hby hml hown e25 N0 Z0 Fb Fs Fh Fc E_r0 Va Vc hS hM hn
          refine ⟨T34, L34, x34_0, X34, N34, e34, ?_⟩
          have kk := goT (goT k1 (goT k2 (goT k3 (goT k5 (goT k6 (goT k7 (goT k10 (goT k12 (goT k13 (goT k14 (goT k17 (goT k19 (goT k20 (goT k21 (goT k24 (goT k25 (goT k26 (goT k29 (goT k31 (goT k32 k33)))))))))))))))))))) kr34
          simpa only [f_rec21, if_pos hc4, if_pos hc11, if_pos hc18, if_pos hc30] using kk
        · have k35 : Go p.tables e below (T25.setTop (mkF m 100 #[.val (.ref r0), .val (.long q1), .second, .val (.ref r3), .val (.ref r3), .val (.int (1 : Int32)), .val (.int (0 : Int32)), .val (.long h), .second, .val (.int (Int32.ofNat n)), .val (.int (Int32.ofNat (n + 1))), .val (.int (Int32.ofNat (n + 2)))] [(.int (lcmpW (cs.getD (n + 2) 0) (cs.getD (n + 1) 0)))])) (T25.setTop (mkF m 110 #[.val (.ref r0), .val (.long q1), .second, .val (.ref r3), .val (.ref r3), .val (.int (1 : Int32)), .val (.int (0 : Int32)), .val (.long h), .second, .val (.int (Int32.ofNat n)), .val (.int (Int32.ofNat (n + 1))), .val (.int ((Int32.ofNat (n + 2)) + (1 : Int32)))] [])) := by
            intro t ht
            refine XS.ifYes X25.here hx rfl (pc0 := 100) (pc' := 107) rfl (hb hby d_rec21_100) rfl ((if0 _ _).trans (flt (own_nltL hc30)).2.1) (by decide) (by decide) ?_
            show Steps p.tables e below (T25.setTop (mkF m 107 #[.val (.ref r0), .val (.long q1), .second, .val (.ref r3), .val (.ref r3), .val (.int (1 : Int32)), .val (.int (0 : Int32)), .val (.long h), .second, .val (.int (Int32.ofNat n)), .val (.int (Int32.ofNat (n + 1))), .val (.int (Int32.ofNat (n + 2)))] [])) _
            refine XS.iinc X25.here hx rfl (hb hby d_rec21_107) rfl (l' := #[.val (.ref r0), .val (.long q1), .second, .val (.ref r3), .val (.ref r3), .val (.int (1 : Int32)), .val (.int (0 : Int32)), .val (.long h), .second, .val (.int (Int32.ofNat n)), .val (.int (Int32.ofNat (n + 1))), .val (.int ((Int32.ofNat (n + 2)) + (1 : Int32)))]) rfl ?_
            exact ht
          have k36 : Go p.tables e below (T25.setTop (mkF m 110 #[.val (.ref r0), .val (.long q1), .second, .val (.ref r3), .val (.ref r3), .val (.int (1 : Int32)), .val (.int (0 : Int32)), .val (.long h), .second, .val (.int (Int32.ofNat n)), .val (.int (Int32.ofNat (n + 1))), .val (.int ((Int32.ofNat (n + 2)) + (1 : Int32)))] [])) (T25.setTop (mkF m 110 #[.val (.ref r0), .val (.long q1), .second, .val (.ref r3), .val (.ref r3), .val (.int (1 : Int32)), .val (.int (0 : Int32)), .val (.long h), .second, .val (.int (Int32.ofNat n)), .val (.int (Int32.ofNat (n + 1))), .val (.int (Int32.ofNat (n + 3)))] [])) := by rw [own_inc]; exact fun _ h => h
          have k37 : Go p.tables e below (T25.setTop (mkF m 110 #[.val (.ref r0), .val (.long q1), .second, .val (.ref r3), .val (.ref r3), .val (.int (1 : Int32)), .val (.int (0 : Int32)), .val (.long h), .second, .val (.int (Int32.ofNat n)), .val (.int (Int32.ofNat (n + 1))), .val (.int (Int32.ofNat (n + 3)))] [])) (T25.setTop (mkF m 41 #[.val (.ref r0), .val (.long q1), .second, .val (.ref r3), .val (.ref r3), .val (.int (1 : Int32)), .val (.int (0 : Int32)), .val (.long h), .second, .val (.int (Int32.ofNat n)), .val (.int (Int32.ofNat (n + 1))), .val (.int (Int32.ofNat (n + 3)))] [])) := by
            intro t ht
            refine XS.goto X25.here hx rfl (pc0 := 110) (pc' := 41) rfl (hb hby d_rec21_110) (by decide) (by decide) ?_
            exact ht
          obtain ⟨T38, L38, x38_0, X38, N38, e38, kr38⟩ := pc_rec31 r0 r3 ra rc q1 h B S M n ka kc hs cs X25 hx hZ hw hby hml hown e25 N0 Z0 Fb Fs Fh Fc E_r0 Va Vc hS hM hn
          refine ⟨T38, L38, x38_0, X38, N38, e38, ?_⟩
          have kk := goT (goT k1 (goT k2 (goT k3 (goT k5 (goT k6 (goT k7 (goT k10 (goT k12 (goT k13 (goT k14 (goT k17 (goT k19 (goT k20 (goT k21 (goT k24 (goT k25 (goT k26 (goT k29 (goT k35 (goT k36 k37)))))))))))))))))))) kr38
          simpa only [f_rec21, if_pos hc4, if_pos hc11, if_pos hc18, if_neg hc30] using kk
      · have k39 : Go p.tables e below (T13.setTop (mkF m 75 #[.val (.ref r0), .val (.long q1), .second, .val (.ref r3), .val (.ref r3), .val (.int (1 : Int32)), .val (.int (0 : Int32)), .val (.long h), .second, .val (.int (Int32.ofNat n)), .val (.int (Int32.ofNat (n + 1))), .val (.int (Int32.ofNat (n + 2)))] [(.int (lcmpW (cs.getD (n + 2) 0) (0 : Int64)))])) (T13.setTop (mkF m 113 #[.val (.ref r0), .val (.long q1), .second, .val (.ref r3), .val (.ref r3), .val (.int (1 : Int32)), .val (.int (0 : Int32)), .val (.long h), .second, .val (.int (Int32.ofNat n)), .val (.int (Int32.ofNat (n + 2))), .val (.int (Int32.ofNat (n + 2)))] [])) := by
          intro t ht
          refine XS.ifNo X13.here hx rfl (hb hby d_rec21_75) rfl ((if0 _ _).trans (feq (own_neqL hc18)).1) ?_
          show Steps p.tables e below (T13.setTop (mkF m 78 #[.val (.ref r0), .val (.long q1), .second, .val (.ref r3), .val (.ref r3), .val (.int (1 : Int32)), .val (.int (0 : Int32)), .val (.long h), .second, .val (.int (Int32.ofNat n)), .val (.int (Int32.ofNat (n + 1))), .val (.int (Int32.ofNat (n + 2)))] [])) _
          refine XS.iload X13.here hx rfl (hb hby d_rec21_78) rfl ?_
          show Steps p.tables e below (T13.setTop (mkF m 80 #[.val (.ref r0), .val (.long q1), .second, .val (.ref r3), .val (.ref r3), .val (.int (1 : Int32)), .val (.int (0 : Int32)), .val (.long h), .second, .val (.int (Int32.ofNat n)), .val (.int (Int32.ofNat (n + 1))), .val (.int (Int32.ofNat (n + 2)))] [(.int (Int32.ofNat (n + 2)))])) _
          refine XS.istore X13.here hx rfl (hb hby d_rec21_80) rfl (l' := #[.val (.ref r0), .val (.long q1), .second, .val (.ref r3), .val (.ref r3), .val (.int (1 : Int32)), .val (.int (0 : Int32)), .val (.long h), .second, .val (.int (Int32.ofNat n)), .val (.int (Int32.ofNat (n + 2))), .val (.int (Int32.ofNat (n + 2)))]) rfl ?_
          show Steps p.tables e below (T13.setTop (mkF m 82 #[.val (.ref r0), .val (.long q1), .second, .val (.ref r3), .val (.ref r3), .val (.int (1 : Int32)), .val (.int (0 : Int32)), .val (.long h), .second, .val (.int (Int32.ofNat n)), .val (.int (Int32.ofNat (n + 2))), .val (.int (Int32.ofNat (n + 2)))] [])) _
          refine XS.goto X13.here hx rfl (pc0 := 82) (pc' := 113) rfl (hb hby d_rec21_82) (by decide) (by decide) ?_
          exact ht
        refine ⟨T13, _, (.val (.int (Int32.ofNat (n + 2)))), X13, N0, e13, ?_⟩
        have kk := (goT k1 (goT k2 (goT k3 (goT k5 (goT k6 (goT k7 (goT k10 (goT k12 (goT k13 (goT k14 (goT k17 k39)))))))))))
        simpa only [f_rec21, if_pos hc4, if_pos hc11, if_neg hc18] using kk
    · have k40 : Go p.tables e below (T6.setTop (mkF m 63 #[.val (.ref r0), .val (.long q1), .second, .val (.ref r3), .val (.ref r3), .val (.int (1 : Int32)), .val (.int (0 : Int32)), .val (.long h), .second, .val (.int (Int32.ofNat n)), .val (.int (Int32.ofNat (n + 1))), .val (.int (Int32.ofNat (n + 2)))] [(.int (lcmpW (hs.getD (n + 2) 0) h))])) (T6.setTop (mkF m 86 #[.val (.ref r0), .val (.long q1), .second, .val (.ref r3), .val (.ref r3), .val (.int (1 : Int32)), .val (.int (0 : Int32)), .val (.long h), .second, .val (.int (Int32.ofNat n)), .val (.int (Int32.ofNat (n + 1))), .val (.int (Int32.ofNat (n + 2)))] [(.ref r0)])) := by
        intro t ht
        refine XS.ifYes X6.here hx rfl (pc0 := 63) (pc' := 85) rfl (hb hby d_rec21_63) rfl ((if0 _ _).trans (feq (own_neqL hc11)).2) (by decide) (by decide) ?_
        show Steps p.tables e below (T6.setTop (mkF m 85 #[.val (.ref r0), .val (.long q1), .second, .val (.ref r3), .val (.ref r3), .val (.int (1 : Int32)), .val (.int (0 : Int32)), .val (.long h), .second, .val (.int (Int32.ofNat n)), .val (.int (Int32.ofNat (n + 1))), .val (.int (Int32.ofNat (n + 2)))] [])) _
        refine XS.aloadN X6.here hx rfl (hb hby d_rec21_85) rfl rfl ?_
        exact ht
      obtain ⟨T41, X41, e41, st41⟩ := getF X6 hx hZ hown (host := "") (Or.inl (hw _ (List.mem_of_getElem? (i := 18) rfl))) Via.refl e6 Fc (g := (mkF m 86 #[.val (.ref r0), .val (.long q1), .second, .val (.ref r3), .val (.ref r3), .val (.int (1 : Int32)), .val (.int (0 : Int32)), .val (.long h), .second, .val (.int (Int32.ofNat n)), .val (.int (Int32.ofNat (n + 1))), .val (.int (Int32.ofNat (n + 2)))] [(.ref r0)])) rfl rfl (hb hby d_rec21_86)
      have k41 : Go p.tables e below (T6.setTop (mkF m 86 #[.val (.ref r0), .val (.long q1), .second, .val (.ref r3), .val (.ref r3), .val (.int (1 : Int32)), .val (.int (0 : Int32)), .val (.long h), .second, .val (.int (Int32.ofNat n)), .val (.int (Int32.ofNat (n + 1))), .val (.int (Int32.ofNat (n + 2)))] [(.ref r0)])) (T41.setTop (mkF m 89 #[.val (.ref r0), .val (.long q1), .second, .val (.ref r3), .val (.ref r3), .val (.int (1 : Int32)), .val (.int (0 : Int32)), .val (.long h), .second, .val (.int (Int32.ofNat n)), .val (.int (Int32.ofNat (n + 1))), .val (.int (Int32.ofNat (n + 2)))] [(.ref rc)])) := st41
      have k42 : Go p.tables e below (T41.setTop (mkF m 89 #[.val (.ref r0), .val (.long q1), .second, .val (.ref r3), .val (.ref r3), .val (.int (1 : Int32)), .val (.int (0 : Int32)), .val (.long h), .second, .val (.int (Int32.ofNat n)), .val (.int (Int32.ofNat (n + 1))), .val (.int (Int32.ofNat (n + 2)))] [(.ref rc)])) (T41.setTop (mkF m 91 #[.val (.ref r0), .val (.long q1), .second, .val (.ref r3), .val (.ref r3), .val (.int (1 : Int32)), .val (.int (0 : Int32)), .val (.long h), .second, .val (.int (Int32.ofNat n)), .val (.int (Int32.ofNat (n + 1))), .val (.int (Int32.ofNat (n + 2)))] [(.int (Int32.ofNat (n + 2))), (.ref rc)])) := by
        intro t ht
        refine XS.iload X41.here hx rfl (hb hby d_rec21_89) rfl ?_
        exact ht
      obtain ⟨cl43, Ar43, q43, S43, M43, H43, G43⟩ := id Vc
      have hjn44 : 2 < S := own_jS hM hn hc4 (by decide)
      have hin43 : ¬ ((Int32.ofNat (n + 2)) < 0 ∨ cl43.slots.size ≤ ((Int32.ofNat (n + 2))).toNatClampNeg) := inb_of S43 ⟨own_nneg (by omega), own_ltM (by omega) hM⟩
      have hat43 : cl43.slots[((Int32.ofNat (n + 2))).toNatClampNeg]? = some (.long (cs.getD (n + 2) 0)) := (H43 _ (Nat.lt_of_not_le fun y => hin43 (Or.inr y))).trans (congrArg some (own_getJ _ (by omega)))
      have k45 : Go p.tables e below (T41.setTop (mkF m 91 #[.val (.ref r0), .val (.long q1), .second, .val (.ref r3), .val (.ref r3), .val (.int (1 : Int32)), .val (.int (0 : Int32)), .val (.long h), .second, .val (.int (Int32.ofNat n)), .val (.int (Int32.ofNat (n + 1))), .val (.int (Int32.ofNat (n + 2)))] [(.int (Int32.ofNat (n + 2))), (.ref rc)])) (T41.setTop (mkF m 93 #[.val (.ref r0), .val (.long q1), .second, .val (.ref r3), .val (.ref r3), .val (.int (1 : Int32)), .val (.int (0 : Int32)), .val (.long h), .second, .val (.int (Int32.ofNat n)), .val (.int (Int32.ofNat (n + 1))), .val (.int (Int32.ofNat (n + 2)))] [(.ref r0), (.long (cs.getD (n + 2) 0))])) := by
        intro t ht
        refine X41.laload hx (j := (Int32.ofNat (n + 2))) (v := (.long (cs.getD (n + 2) 0))) (by rw [e41]; exact Ar43.1) (State.isArrayOf_alike hZ.alike Ar43.2.1) Ar43.2.2 hin43 hat43 (g := (mkF m 91 #[.val (.ref r0), .val (.long q1), .second, .val (.ref r3), .val (.ref r3), .val (.int (1 : Int32)), .val (.int (0 : Int32)), .val (.long h), .second, .val (.int (Int32.ofNat n)), .val (.int (Int32.ofNat (n + 1))), .val (.int (Int32.ofNat (n + 2)))] [(.int (Int32.ofNat (n + 2))), (.ref rc)])) rfl rfl (hb hby d_rec21_91) _ ?_
        show Steps p.tables e below (T41.setTop (mkF m 92 #[.val (.ref r0), .val (.long q1), .second, .val (.ref r3), .val (.ref r3), .val (.int (1 : Int32)), .val (.int (0 : Int32)), .val (.long h), .second, .val (.int (Int32.ofNat n)), .val (.int (Int32.ofNat (n + 1))), .val (.int (Int32.ofNat (n + 2)))] [(.long (cs.getD (n + 2) 0))])) _
        refine XS.aloadN X41.here hx rfl (hb hby d_rec21_92) rfl rfl ?_
        exact ht
      obtain ⟨T46, X46, e46, st46⟩ := getF X41 hx hZ hown (host := "") (Or.inl (hw _ (List.mem_of_getElem? (i := 18) rfl))) Via.refl e41 Fc (g := (mkF m 93 #[.val (.ref r0), .val (.long q1), .second, .val (.ref r3), .val (.ref r3), .val (.int (1 : Int32)), .val (.int (0 : Int32)), .val (.long h), .second, .val (.int (Int32.ofNat n)), .val (.int (Int32.ofNat (n + 1))), .val (.int (Int32.ofNat (n + 2)))] [(.ref r0), (.long (cs.getD (n + 2) 0))])) rfl rfl (hb hby d_rec21_93)
      have k46 : Go p.tables e below (T41.setTop (mkF m 93 #[.val (.ref r0), .val (.long q1), .second, .val (.ref r3), .val (.ref r3), .val (.int (1 : Int32)), .val (.int (0 : Int32)), .val (.long h), .second, .val (.int (Int32.ofNat n)), .val (.int (Int32.ofNat (n + 1))), .val (.int (Int32.ofNat (n + 2)))] [(.ref r0), (.long (cs.getD (n + 2) 0))])) (T46.setTop (mkF m 96 #[.val (.ref r0), .val (.long q1), .second, .val (.ref r3), .val (.ref r3), .val (.int (1 : Int32)), .val (.int (0 : Int32)), .val (.long h), .second, .val (.int (Int32.ofNat n)), .val (.int (Int32.ofNat (n + 1))), .val (.int (Int32.ofNat (n + 2)))] [(.ref rc), (.long (cs.getD (n + 2) 0))])) := st46
      have k47 : Go p.tables e below (T46.setTop (mkF m 96 #[.val (.ref r0), .val (.long q1), .second, .val (.ref r3), .val (.ref r3), .val (.int (1 : Int32)), .val (.int (0 : Int32)), .val (.long h), .second, .val (.int (Int32.ofNat n)), .val (.int (Int32.ofNat (n + 1))), .val (.int (Int32.ofNat (n + 2)))] [(.ref rc), (.long (cs.getD (n + 2) 0))])) (T46.setTop (mkF m 98 #[.val (.ref r0), .val (.long q1), .second, .val (.ref r3), .val (.ref r3), .val (.int (1 : Int32)), .val (.int (0 : Int32)), .val (.long h), .second, .val (.int (Int32.ofNat n)), .val (.int (Int32.ofNat (n + 1))), .val (.int (Int32.ofNat (n + 2)))] [(.int (Int32.ofNat (n + 1))), (.ref rc), (.long (cs.getD (n + 2) 0))])) := by
        intro t ht
        refine XS.iload X46.here hx rfl (hb hby d_rec21_96) rfl ?_
        exact ht
      obtain ⟨cl48, Ar48, q48, S48, M48, H48, G48⟩ := id Vc
      have hjn49 : 2 < S := own_jS hM hn hc4 (by decide)
      have hin48 : ¬ ((Int32.ofNat (n + 1)) < 0 ∨ cl48.slots.size ≤ ((Int32.ofNat (n + 1))).toNatClampNeg) := inb_of S48 ⟨own_nneg (by omega), own_ltM (by omega) hM⟩
      have hat48 : cl48.slots[((Int32.ofNat (n + 1))).toNatClampNeg]? = some (.long (cs.getD (n + 1) 0)) := (H48 _ (Nat.lt_of_not_le fun y => hin48 (Or.inr y))).trans (congrArg some (own_getJ _ (by omega)))
      have k50 : Go p.tables e below (T46.setTop (mkF m 98 #[.val (.ref r0), .val (.long q1), .second, .val (.ref r3), .val (.ref r3), .val (.int (1 : Int32)), .val (.int (0 : Int32)), .val (.long h), .second, .val (.int (Int32.ofNat n)), .val (.int (Int32.ofNat (n + 1))), .val (.int (Int32.ofNat (n + 2)))] [(.int (Int32.ofNat (n + 1))), (.ref rc), (.long (cs.getD (n + 2) 0))])) (T46.setTop (mkF m 100 #[.val (.ref r0), .val (.long q1), .second, .val (.ref r3), .val (.ref r3), .val (.int (1 : Int32)), .val (.int (0 : Int32)), .val (.long h), .second, .val (.int (Int32.ofNat n)), .val (.int (Int32.ofNat (n + 1))), .val (.int (Int32.ofNat (n + 2)))] [(.int (lcmpW (cs.getD (n + 2) 0) (cs.getD (n + 1) 0)))])) := by
        intro t ht
        refine X46.laload hx (j := (Int32.ofNat (n + 1))) (v := (.long (cs.getD (n + 1) 0))) (by rw [e46]; exact Ar48.1) (State.isArrayOf_alike hZ.alike Ar48.2.1) Ar48.2.2 hin48 hat48 (g := (mkF m 98 #[.val (.ref r0), .val (.long q1), .second, .val (.ref r3), .val (.ref r3), .val (.int (1 : Int32)), .val (.int (0 : Int32)), .val (.long h), .second, .val (.int (Int32.ofNat n)), .val (.int (Int32.ofNat (n + 1))), .val (.int (Int32.ofNat (n + 2)))] [(.int (Int32.ofNat (n + 1))), (.ref rc), (.long (cs.getD (n + 2) 0))])) rfl rfl (hb hby d_rec21_98) _ ?_
        show Steps p.tables e below (T46.setTop (mkF m 99 #[.val (.ref r0), .val (.long q1), .second, .val (.ref r3), .val (.ref r3), .val (.int (1 : Int32)), .val (.int (0 : Int32)), .val (.long h), .second, .val (.int (Int32.ofNat n)), .val (.int (Int32.ofNat (n + 1))), .val (.int (Int32.ofNat (n + 2)))] [(.long (cs.getD (n + 1) 0)), (.long (cs.getD (n + 2) 0))])) _
        refine XS.lcmp X46.here hx rfl (hb hby d_rec21_99) rfl ?_
        exact ht
      by_cases hc51 : (cs.getD (n + 2) 0) < (cs.getD (n + 1) 0)
      · have k52 : Go p.tables e below (T46.setTop (mkF m 100 #[.val (.ref r0), .val (.long q1), .second, .val (.ref r3), .val (.ref r3), .val (.int (1 : Int32)), .val (.int (0 : Int32)), .val (.long h), .second, .val (.int (Int32.ofNat n)), .val (.int (Int32.ofNat (n + 1))), .val (.int (Int32.ofNat (n + 2)))] [(.int (lcmpW (cs.getD (n + 2) 0) (cs.getD (n + 1) 0)))])) (T46.setTop (mkF m 110 #[.val (.ref r0), .val (.long q1), .second, .val (.ref r3), .val (.ref r3), .val (.int (1 : Int32)), .val (.int (0 : Int32)), .val (.long h), .second, .val (.int (Int32.ofNat n)), .val (.int (Int32.ofNat (n + 2))), .val (.int ((Int32.ofNat (n + 2)) + (1 : Int32)))] [])) := by
          intro t ht
          refine XS.ifNo X46.here hx rfl (hb hby d_rec21_100) rfl ((if0 _ _).trans (tlt (own_ltL hc51)).2.1) ?_
          show Steps p.tables e below (T46.setTop (mkF m 103 #[.val (.ref r0), .val (.long q1), .second, .val (.ref r3), .val (.ref r3), .val (.int (1 : Int32)), .val (.int (0 : Int32)), .val (.long h), .second, .val (.int (Int32.ofNat n)), .val (.int (Int32.ofNat (n + 1))), .val (.int (Int32.ofNat (n + 2)))] [])) _
          refine XS.iload X46.here hx rfl (hb hby d_rec21_103) rfl ?_
          show Steps p.tables e below (T46.setTop (mkF m 105 #[.val (.ref r0), .val (.long q1), .second, .val (.ref r3), .val (.ref r3), .val (.int (1 : Int32)), .val (.int (0 : Int32)), .val (.long h), .second, .val (.int (Int32.ofNat n)), .val (.int (Int32.ofNat (n + 1))), .val (.int (Int32.ofNat (n + 2)))] [(.int (Int32.ofNat (n + 2)))])) _
          refine XS.istore X46.here hx rfl (hb hby d_rec21_105) rfl (l' := #[.val (.ref r0), .val (.long q1), .second, .val (.ref r3), .val (.ref r3), .val (.int (1 : Int32)), .val (.int (0 : Int32)), .val (.long h), .second, .val (.int (Int32.ofNat n)), .val (.int (Int32.ofNat (n + 2))), .val (.int (Int32.ofNat (n + 2)))]) rfl ?_
          show Steps p.tables e below (T46.setTop (mkF m 107 #[.val (.ref r0), .val (.long q1), .second, .val (.ref r3), .val (.ref r3), .val (.int (1 : Int32)), .val (.int (0 : Int32)), .val (.long h), .second, .val (.int (Int32.ofNat n)), .val (.int (Int32.ofNat (n + 2))), .val (.int (Int32.ofNat (n + 2)))] [])) _
          refine XS.iinc X46.here hx rfl (hb hby d_rec21_107) rfl (l' := #[.val (.ref r0), .val (.long q1), .second, .val (.ref r3), .val (.ref r3), .val (.int (1 : Int32)), .val (.int (0 : Int32)), .val (.long h), .second, .val (.int (Int32.ofNat n)), .val (.int (Int32.ofNat (n + 2))), .val (.int ((Int32.ofNat (n + 2)) + (1 : Int32)))]) rfl ?_
          exact ht
        have k53 : Go p.tables e below (T46.setTop (mkF m 110 #[.val (.ref r0), .val (.long q1), .second, .val (.ref r3), .val (.ref r3), .val (.int (1 : Int32)), .val (.int (0 : Int32)), .val (.long h), .second, .val (.int (Int32.ofNat n)), .val (.int (Int32.ofNat (n + 2))), .val (.int ((Int32.ofNat (n + 2)) + (1 : Int32)))] [])) (T46.setTop (mkF m 110 #[.val (.ref r0), .val (.long q1), .second, .val (.ref r3), .val (.ref r3), .val (.int (1 : Int32)), .val (.int (0 : Int32)), .val (.long h), .second, .val (.int (Int32.ofNat n)), .val (.int (Int32.ofNat (n + 2))), .val (.int (Int32.ofNat (n + 3)))] [])) := by rw [own_inc]; exact fun _ h => h
        have k54 : Go p.tables e below (T46.setTop (mkF m 110 #[.val (.ref r0), .val (.long q1), .second, .val (.ref r3), .val (.ref r3), .val (.int (1 : Int32)), .val (.int (0 : Int32)), .val (.long h), .second, .val (.int (Int32.ofNat n)), .val (.int (Int32.ofNat (n + 2))), .val (.int (Int32.ofNat (n + 3)))] [])) (T46.setTop (mkF m 41 #[.val (.ref r0), .val (.long q1), .second, .val (.ref r3), .val (.ref r3), .val (.int (1 : Int32)), .val (.int (0 : Int32)), .val (.long h), .second, .val (.int (Int32.ofNat n)), .val (.int (Int32.ofNat (n + 2))), .val (.int (Int32.ofNat (n + 3)))] [])) := by
          intro t ht
          refine XS.goto X46.here hx rfl (pc0 := 110) (pc' := 41) rfl (hb hby d_rec21_110) (by decide) (by decide) ?_
          exact ht
        obtain ⟨T55, L55, x55_0, X55, N55, e55, kr55⟩ := pc_rec32 r0 r3 ra rc q1 h B S M n ka kc hs cs X46 hx hZ hw hby hml hown e46 N0 Z0 Fb Fs Fh Fc E_r0 Va Vc hS hM hn
        refine ⟨T55, L55, x55_0, X55, N55, e55, ?_⟩
        have kk := goT (goT k1 (goT k2 (goT k3 (goT k5 (goT k6 (goT k7 (goT k10 (goT k40 (goT k41 (goT k42 (goT k45 (goT k46 (goT k47 (goT k50 (goT k52 (goT k53 k54)))))))))))))))) kr55
        simpa only [f_rec21, if_pos hc4, if_neg hc11, if_pos hc51] using kk
      · have k56 : Go p.tables e below (T46.setTop (mkF m 100 #[.val (.ref r0), .val (.long q1), .second, .val (.ref r3), .val (.ref r3), .val (.int (1 : Int32)), .val (.int (0 : Int32)), .val (.long h), .second, .val (.int (Int32.ofNat n)), .val (.int (Int32.ofNat (n + 1))), .val (.int (Int32.ofNat (n + 2)))] [(.int (lcmpW (cs.getD (n + 2) 0) (cs.getD (n + 1) 0)))])) (T46.setTop (mkF m 110 #[.val (.ref r0), .val (.long q1), .second, .val (.ref r3), .val (.ref r3), .val (.int (1 : Int32)), .val (.int (0 : Int32)), .val (.long h), .second, .val (.int (Int32.ofNat n)), .val (.int (Int32.ofNat (n + 1))), .val (.int ((Int32.ofNat (n + 2)) + (1 : Int32)))] [])) := by
          intro t ht
          refine XS.ifYes X46.here hx rfl (pc0 := 100) (pc' := 107) rfl (hb hby d_rec21_100) rfl ((if0 _ _).trans (flt (own_nltL hc51)).2.1) (by decide) (by decide) ?_
          show Steps p.tables e below (T46.setTop (mkF m 107 #[.val (.ref r0), .val (.long q1), .second, .val (.ref r3), .val (.ref r3), .val (.int (1 : Int32)), .val (.int (0 : Int32)), .val (.long h), .second, .val (.int (Int32.ofNat n)), .val (.int (Int32.ofNat (n + 1))), .val (.int (Int32.ofNat (n + 2)))] [])) _
          refine XS.iinc X46.here hx rfl (hb hby d_rec21_107) rfl (l' := #[.val (.ref r0), .val (.long q1), .second, .val (.ref r3), .val (.ref r3), .val (.int (1 : Int32)), .val (.int (0 : Int32)), .val (.long h), .second, .val (.int (Int32.ofNat n)), .val (.int (Int32.ofNat (n + 1))), .val (.int ((Int32.ofNat (n + 2)) + (1 : Int32)))]) rfl ?_
          exact ht
        have k57 : Go p.tables e below (T46.setTop (mkF m 110 #[.val (.ref r0), .val (.long q1), .second, .val (.ref r3), .val (.ref r3), .val (.int (1 : Int32)), .val (.int (0 : Int32)), .val (.long h), .second, .val (.int (Int32.ofNat n)), .val (.int (Int32.ofNat (n + 1))), .val (.int ((Int32.ofNat (n + 2)) + (1 : Int32)))] [])) (T46.setTop (mkF m 110 #[.val (.ref r0), .val (.long q1), .second, .val (.ref r3), .val (.ref r3), .val (.int (1 : Int32)), .val (.int (0 : Int32)), .val (.long h), .second, .val (.int (Int32.ofNat n)), .val (.int (Int32.ofNat (n + 1))), .val (.int (Int32.ofNat (n + 3)))] [])) := by rw [own_inc]; exact fun _ h => h
        have k58 : Go p.tables e below (T46.setTop (mkF m 110 #[.val (.ref r0), .val (.long q1), .second, .val (.ref r3), .val (.ref r3), .val (.int (1 : Int32)), .val (.int (0 : Int32)), .val (.long h), .second, .val (.int (Int32.ofNat n)), .val (.int (Int32.ofNat (n + 1))), .val (.int (Int32.ofNat (n + 3)))] [])) (T46.setTop (mkF m 41 #[.val (.ref r0), .val (.long q1), .second, .val (.ref r3), .val (.ref r3), .val (.int (1 : Int32)), .val (.int (0 : Int32)), .val (.long h), .second, .val (.int (Int32.ofNat n)), .val (.int (Int32.ofNat (n + 1))), .val (.int (Int32.ofNat (n + 3)))] [])) := by
          intro t ht
          refine XS.goto X46.here hx rfl (pc0 := 110) (pc' := 41) rfl (hb hby d_rec21_110) (by decide) (by decide) ?_
          exact ht
        obtain ⟨T59, L59, x59_0, X59, N59, e59, kr59⟩ := pc_rec31 r0 r3 ra rc q1 h B S M n ka kc hs cs X46 hx hZ hw hby hml hown e46 N0 Z0 Fb Fs Fh Fc E_r0 Va Vc hS hM hn
        refine ⟨T59, L59, x59_0, X59, N59, e59, ?_⟩
        have kk := goT (goT k1 (goT k2 (goT k3 (goT k5 (goT k6 (goT k7 (goT k10 (goT k40 (goT k41 (goT k42 (goT k45 (goT k46 (goT k47 (goT k50 (goT k56 (goT k57 k58)))))))))))))))) kr59
        simpa only [f_rec21, if_pos hc4, if_neg hc11, if_neg hc51] using kk
  · have k60 : Go p.tables e below (T2.setTop (mkF m 50 #[.val (.ref r0), .val (.long q1), .second, .val (.ref r3), .val (.ref r3), .val (.int (1 : Int32)), .val (.int (0 : Int32)), .val (.long h), .second, .val (.int (Int32.ofNat n)), .val (.int (Int32.ofNat (n + 1))), .val (.int (Int32.ofNat (n + 2)))] [(.int ((Int32.ofNat n) + (Int32.ofNat S))), (.int (Int32.ofNat (n + 2)))])) (T2.setTop (mkF m 113 #[.val (.ref r0), .val (.long q1), .second, .val (.ref r3), .val (.ref r3), .val (.int (1 : Int32)), .val (.int (0 : Int32)), .val (.long h), .second, .val (.int (Int32.ofNat n)), .val (.int (Int32.ofNat (n + 1))), .val (.int (Int32.ofNat (n + 2)))] [])) := by
      intro t ht
      refine XS.icmpYes X2.here hx rfl (pc0 := 50) (pc' := 113) rfl (hb hby d_rec21_50) rfl (flt hc4).2.1 (by decide) (by decide) ?_
      exact ht
    refine ⟨T2, _, (.val (.int (Int32.ofNat (n + 2)))), X2, N0, e2, ?_⟩
    have kk := (goT k1 (goT k2 (goT k3 k60)))
    simpa only [f_rec21, if_neg hc4] using kk
theorem d_rec10_41 : decode prog_25_method_5_code 41 = .ok (.iload 11, 2) := by decide +kernel
theorem d_rec10_43 : decode prog_25_method_5_code 43 = .ok (.iload 9, 2) := by decide +kernel
theorem d_rec10_45 : decode prog_25_method_5_code 45 = .ok (.aload_n 0, 1) := by decide +kernel
theorem d_rec10_46 : decode prog_25_method_5_code 46 = .ok (.getfield 26, 3) := by decide +kernel
theorem d_rec10_49 : decode prog_25_method_5_code 49 = .ok (.iadd, 1) := by decide +kernel
theorem d_rec10_50 : decode prog_25_method_5_code 50 = .ok (.if_icmp .ge 63, 3) := by decide +kernel
theorem d_rec10_53 : decode prog_25_method_5_code 53 = .ok (.aload_n 0, 1) := by decide +kernel
theorem d_rec10_54 : decode prog_25_method_5_code 54 = .ok (.getfield 29, 3) := by decide +kernel
theorem d_rec10_57 : decode prog_25_method_5_code 57 = .ok (.iload 11, 2) := by decide +kernel
theorem d_rec10_59 : decode prog_25_method_5_code 59 = .ok (.laload, 1) := by decide +kernel
theorem d_rec10_60 : decode prog_25_method_5_code 60 = .ok (.lload 7, 2) := by decide +kernel
theorem d_rec10_62 : decode prog_25_method_5_code 62 = .ok (.lcmp, 1) := by decide +kernel
theorem d_rec10_63 : decode prog_25_method_5_code 63 = .ok (.ifCond .ne 22, 3) := by decide +kernel
theorem d_rec10_66 : decode prog_25_method_5_code 66 = .ok (.aload_n 0, 1) := by decide +kernel
theorem d_rec10_67 : decode prog_25_method_5_code 67 = .ok (.getfield 33, 3) := by decide +kernel
theorem d_rec10_70 : decode prog_25_method_5_code 70 = .ok (.iload 11, 2) := by decide +kernel
theorem d_rec10_72 : decode prog_25_method_5_code 72 = .ok (.laload, 1) := by decide +kernel
theorem d_rec10_73 : decode prog_25_method_5_code 73 = .ok (.lconst 0, 1) := by decide +kernel
theorem d_rec10_74 : decode prog_25_method_5_code 74 = .ok (.lcmp, 1) := by decide +kernel
theorem d_rec10_75 : decode prog_25_method_5_code 75 = .ok (.ifCond .eq 10, 3) := by decide +kernel
theorem d_rec10_78 : decode prog_25_method_5_code 78 = .ok (.iload 11, 2) := by decide +kernel
theorem d_rec10_80 : decode prog_25_method_5_code 80 = .ok (.istore 10, 2) := by decide +kernel
theorem d_rec10_82 : decode prog_25_method_5_code 82 = .ok (.goto 31, 3) := by decide +kernel
theorem d_rec10_85 : decode prog_25_method_5_code 85 = .ok (.aload_n 0, 1) := by decide +kernel
theorem d_rec10_86 : decode prog_25_method_5_code 86 = .ok (.getfield 33, 3) := by decide +kernel
theorem d_rec10_89 : decode prog_25_method_5_code 89 = .ok (.iload 11, 2) := by decide +kernel
theorem d_rec10_91 : decode prog_25_method_5_code 91 = .ok (.laload, 1) := by decide +kernel
theorem d_rec10_92 : decode prog_25_method_5_code 92 = .ok (.aload_n 0, 1) := by decide +kernel
theorem d_rec10_93 : decode prog_25_method_5_code 93 = .ok (.getfield 33, 3) := by decide +kernel
theorem d_rec10_96 : decode prog_25_method_5_code 96 = .ok (.iload 10, 2) := by decide +kernel
theorem d_rec10_98 : decode prog_25_method_5_code 98 = .ok (.laload, 1) := by decide +kernel
theorem d_rec10_99 : decode prog_25_method_5_code 99 = .ok (.lcmp, 1) := by decide +kernel
theorem d_rec10_100 : decode prog_25_method_5_code 100 = .ok (.ifCond .ge 7, 3) := by decide +kernel
theorem d_rec10_103 : decode prog_25_method_5_code 103 = .ok (.iload 11, 2) := by decide +kernel
theorem d_rec10_105 : decode prog_25_method_5_code 105 = .ok (.istore 10, 2) := by decide +kernel
theorem d_rec10_107 : decode prog_25_method_5_code 107 = .ok (.iinc 11 1, 3) := by decide +kernel
theorem d_rec10_110 : decode prog_25_method_5_code 110 = .ok (.goto (-69), 3) := by decide +kernel
def f_rec10 (n S : Nat) (h : Int64) (hs cs : List Int64) : Nat := (if (Int32.ofNat (n + 1)) < ((Int32.ofNat n) + (Int32.ofNat S)) then (if (hs.getD (n + 1) 0) = h then (if (cs.getD (n + 1) 0) = (0 : Int64) then (if (cs.getD (n + 1) 0) < (cs.getD (n + 0) 0) then (f_rec21 n S h hs cs) else (f_rec20 n S h hs cs)) else 1) else (if (cs.getD (n + 1) 0) < (cs.getD (n + 0) 0) then (f_rec21 n S h hs cs) else (f_rec20 n S h hs cs))) else 0)
set_option maxRecDepth 65536 in
set_option maxHeartbeats 40000000 in
theorem pc_rec10 {p : Program} {l : Launch} {e : Env} {s : State} {m : MethodId} {below : List Frame} {meth : Method} {c : Code} {T0 : State} {locs : List Loc} {Z : State} {a0 : Array Value} {h0 : Heap} {n0 : Nat} (r0 r3 ra rc : Addr) (q1 h : Int64) (B S M n : Nat) (ka kc : ClassId) (hs cs : List Int64)
    (X0 : Stand p l e ({ frames := 2, cells := 0, slots := 0, locals := 33 } : Room) s m #[(.ref r0), (.long q1), (.ref r3)] below meth c T0 locs 0 0) (hx : p.tables.exec = Jvm.exec) (hZ : Z.Warmed39 s.vm) (hw : ∀ d ∈ tables_1, d.before a0 Z = true) (hby : c.code = prog_25_method_5_code) (hml : c.maxLocals = 12) (hown : s.vm.findClass "com/example/auspex/auspex/manager/ConflictTable" = some m.cls) (e0 : T0.heap = h0) (N0 : Fr n0 locs) (Z0 : n0 ≤ h0.size) (Fb : Fld Z h0 r0 "com/example/auspex/auspex/manager/ConflictTable" "buckets" "I" (.int (Int32.ofNat B))) (Fs : Fld Z h0 r0 "com/example/auspex/auspex/manager/ConflictTable" "slotsPerBucket" "I" (.int (Int32.ofNat S))) (Fh : Fld Z h0 r0 "com/example/auspex/auspex/manager/ConflictTable" "hashes" "[J" (.ref ra)) (Fc : Fld Z h0 r0 "com/example/auspex/auspex/manager/ConflictTable" "commits" "[J" (.ref rc)) (E_r0 : Exa Z h0 r0 "com/example/auspex/auspex/manager/ConflictTable") (Va : Arv Z h0 ra ka .long (Int32.ofNat M) (hs.map Value.long) (.long (0 : Int64))) (Vc : Arv Z h0 rc kc .long (Int32.ofNat M) (cs.map Value.long) (.long (0 : Int64))) (hS : 1 ≤ S ∧ S ≤ 3) (hM : M ≤ 12) (hn : n + S ≤ M) :
    ∃ (T' : State) (L' : List Loc) (w11 : Slot), Stand p l e ({ frames := 2, cells := 0, slots := 0, locals := 33 } : Room) s m #[(.ref r0), (.long q1), (.ref r3)] below meth c T' L' 0 0 ∧ Fr n0 L' ∧ T'.heap = h0 ∧ Go p.tables e below (T0.setTop (mkF m 41 #[.val (.ref r0), .val (.long q1), .second, .val (.ref r3), .val (.ref r3), .val (.int (1 : Int32)), .val (.int (0 : Int32)), .val (.long h), .second, .val (.int (Int32.ofNat n)), .val (.int (Int32.ofNat (n + 0))), .val (.int (Int32.ofNat (n + 1)))] [])) (T'.setTop (mkF m 113 #[.val (.ref r0), .val (.long q1), .second, .val (.ref r3), .val (.ref r3), .val (.int (1 : Int32)), .val (.int (0 : Int32)), .val (.long h), .second, .val (.int (Int32.ofNat n)), .val (.int (Int32.ofNat (n + (f_rec10 n S h hs cs)))), w11] [])) := by
  have k1 : Go p.tables e below (T0.setTop (mkF m 41 #[.val (.ref r0), .val (.long q1), .second, .val (.ref r3), .val (.ref r3), .val (.int (1 : Int32)), .val (.int (0 : Int32)), .val (.long h), .second, .val (.int (Int32.ofNat n)), .val (.int (Int32.ofNat (n + 0))), .val (.int (Int32.ofNat (n + 1)))] [])) (T0.setTop (mkF m 46 #[.val (.ref r0), .val (.long q1), .second, .val (.ref r3), .val (.ref r3), .val (.int (1 : Int32)), .val (.int (0 : Int32)), .val (.long h), .second, .val (.int (Int32.ofNat n)), .val (.int (Int32.ofNat (n + 0))), .val (.int (Int32.ofNat (n + 1)))] [(.ref r0), (.int (Int32.ofNat n)), (.int (Int32.ofNat (n + 1)))])) := by
    intro t ht
    refine XS.iload X0.here hx rfl (hb hby d_rec10_41) rfl ?_
    show Steps p.tables e below (T0.setTop (mkF m 43 #[.val (.ref r0), .val (.long q1), .second, .val (.ref r3), .val (.ref r3), .val (.int (1 : Int32)), .val (.int (0 : Int32)), .val (.long h), .second, .val (.int (Int32.ofNat n)), .val (.int (Int32.ofNat (n + 0))), .val (.int (Int32.ofNat (n + 1)))] [(.int (Int32.ofNat (n + 1)))])) _
    refine XS.iload X0.here hx rfl (hb hby d_rec10_43) rfl ?_
    show Steps p.tables e below (T0.setTop (mkF m 45 #[.val (.ref r0), .val (.long q1), .second, .val (.ref r3), .val (.ref r3), .val (.int (1 : Int32)), .val (.int (0 : Int32)), .val (.long h), .second, .val (.int (Int32.ofNat n)), .val (.int (Int32.ofNat (n + 0))), .val (.int (Int32.ofNat (n + 1)))] [(.int (Int32.ofNat n)), (.int (Int32.ofNat (n + 1)))])) _
    refine XS.aloadN X0.here hx rfl (hb hby d_rec10_45) rfl rfl ?_
    exact ht
  obtain ⟨T2, X2, e2, st2⟩ := getF X0 hx hZ hown (host := "") (Or.inl (hw _ (List.mem_of_getElem? (i := 13) rfl))) Via.refl e0 Fs (g := (mkF m 46 #[.val (.ref r0), .val (.long q1), .second, .val (.ref r3), .val (.ref r3), .val (.int (1 : Int32)), .val (.int (0 : Int32)), .val (.long h), .second, .val (.int (Int32.ofNat n)), .val (.int (Int32.ofNat (n + 0))), .val (.int (Int32.ofNat (n + 1)))] [(.ref r0), (.int (Int32.ofNat n)), (.int (Int32.ofNat (n + 1)))])) rfl rfl (hb hby d_rec10_46)
  have k2 : Go p.tables e below (T0.setTop (mkF m 46 #[.val (.ref r0), .val (.long q1), .second, .val (.ref r3), .val (.ref r3), .val (.int (1 : Int32)), .val (.int (0 : Int32)), .val (.long h), .second, .val (.int (Int32.ofNat n)), .val (.int (Int32.ofNat (n + 0))), .val (.int (Int32.ofNat (n + 1)))] [(.ref r0), (.int (Int32.ofNat n)), (.int (Int32.ofNat (n + 1)))])) (T2.setTop (mkF m 49 #[.val (.ref r0), .val (.long q1), .second, .val (.ref r3), .val (.ref r3), .val (.int (1 : Int32)), .val (.int (0 : Int32)), .val (.long h), .second, .val (.int (Int32.ofNat n)), .val (.int (Int32.ofNat (n + 0))), .val (.int (Int32.ofNat (n + 1)))] [(.int (Int32.ofNat S)), (.int (Int32.ofNat n)), (.int (Int32.ofNat (n + 1)))])) := st2
  have k3 : Go p.tables e below (T2.setTop (mkF m 49 #[.val (.ref r0), .val (.long q1), .second, .val (.ref r3), .val (.ref r3), .val (.int (1 : Int32)), .val (.int (0 : Int32)), .val (.long h), .second, .val (.int (Int32.ofNat n)), .val (.int (Int32.ofNat (n + 0))), .val (.int (Int32.ofNat (n + 1)))] [(.int (Int32.ofNat S)), (.int (Int32.ofNat n)), (.int (Int32.ofNat (n + 1)))])) (T2.setTop (mkF m 50 #[.val (.ref r0), .val (.long q1), .second, .val (.ref r3), .val (.ref r3), .val (.int (1 : Int32)), .val (.int (0 : Int32)), .val (.long h), .second, .val (.int (Int32.ofNat n)), .val (.int (Int32.ofNat (n + 0))), .val (.int (Int32.ofNat (n + 1)))] [(.int ((Int32.ofNat n) + (Int32.ofNat S))), (.int (Int32.ofNat (n + 1)))])) := by
    intro t ht
    refine XS.iadd X2.here hx rfl (hb hby d_rec10_49) rfl ?_
    exact ht
  by_cases hc4 : (Int32.ofNat (n + 1)) < ((Int32.ofNat n) + (Int32.ofNat S))
  · have k5 : Go p.tables e below (T2.setTop (mkF m 50 #[.val (.ref r0), .val (.long q1), .second, .val (.ref r3), .val (.ref r3), .val (.int (1 : Int32)), .val (.int (0 : Int32)), .val (.long h), .second, .val (.int (Int32.ofNat n)), .val (.int (Int32.ofNat (n + 0))), .val (.int (Int32.ofNat (n + 1)))] [(.int ((Int32.ofNat n) + (Int32.ofNat S))), (.int (Int32.ofNat (n + 1)))])) (T2.setTop (mkF m 54 #[.val (.ref r0), .val (.long q1), .second, .val (.ref r3), .val (.ref r3), .val (.int (1 : Int32)), .val (.int (0 : Int32)), .val (.long h), .second, .val (.int (Int32.ofNat n)), .val (.int (Int32.ofNat (n + 0))), .val (.int (Int32.ofNat (n + 1)))] [(.ref r0)])) := by
      intro t ht
      refine XS.icmpNo X2.here hx rfl (hb hby d_rec10_50) rfl (tlt hc4).2.1 ?_
      show Steps p.tables e below (T2.setTop (mkF m 53 #[.val (.ref r0), .val (.long q1), .second, .val (.ref r3), .val (.ref r3), .val (.int (1 : Int32)), .val (.int (0 : Int32)), .val (.long h), .second, .val (.int (Int32.ofNat n)), .val (.int (Int32.ofNat (n + 0))), .val (.int (Int32.ofNat (n + 1)))] [])) _
      refine XS.aloadN X2.here hx rfl (hb hby d_rec10_53) rfl rfl ?_
      exact ht
    obtain ⟨T6, X6, e6, st6⟩ := getF X2 hx hZ hown (host := "") (Or.inl (hw _ (List.mem_of_getElem? (i := 16) rfl))) Via.refl e2 Fh (g := (mkF m 54 #[.val (.ref r0), .val (.long q1), .second, .val (.ref r3), .val (.ref r3), .val (.int (1 : Int32)), .val (.int (0 : Int32)), .val (.long h), .second, .val (.int (Int32.ofNat n)), .val (.int (Int32.ofNat (n + 0))), .val (.int (Int32.ofNat (n + 1)))] [(.ref r0)])) rfl rfl (hb hby d_rec10_54)
    have k6 : Go p.tables e below (T2.setTop (mkF m 54 #[.val (.ref r0), .val (.long q1), .second, .val (.ref r3), .val (.ref r3), .val (.int (1 : Int32)), .val (.int (0 : Int32)), .val (.long h), .second, .val (.int (Int32.ofNat n)), .val (.int (Int32.ofNat (n + 0))), .val (.int (Int32.ofNat (n + 1)))] [(.ref r0)])) (T6.setTop (mkF m 57 #[.val (.ref r0), .val (.long q1), .second, .val (.ref r3), .val (.ref r3), .val (.int (1 : Int32)), .val (.int (0 : Int32)), .val (.long h), .second, .val (.int (Int32.ofNat n)), .val (.int (Int32.ofNat (n + 0))), .val (.int (Int32.ofNat (n + 1)))] [(.ref ra)])) := st6
    have k7 : Go p.tables e below (T6.setTop (mkF m 57 #[.val (.ref r0), .val (.long q1), .second, .val (.ref r3), .val (.ref r3), .val (.int (1 : Int32)), .val (.int (0 : Int32)), .val (.long h), .second, .val (.int (Int32.ofNat n)), .val (.int (Int32.ofNat (n + 0))), .val (.int (Int32.ofNat (n + 1)))] [(.ref ra)])) (T6.setTop (mkF m 59 #[.val (.ref r0), .val (.long q1), .second, .val (.ref r3), .val (.ref r3), .val (.int (1 : Int32)), .val (.int (0 : Int32)), .val (.long h), .second, .val (.int (Int32.ofNat n)), .val (.int (Int32.ofNat (n + 0))), .val (.int (Int32.ofNat (n + 1)))] [(.int (Int32.ofNat (n + 1))), (.ref ra)])) := by
      intro t ht
      refine XS.iload X6.here hx rfl (hb hby d_rec10_57) rfl ?_
      exact ht
    obtain ⟨cl8, Ar8, q8, S8, M8, H8, G8⟩ := id Va
    have hjn9 : 1 < S := own_jS hM hn hc4 (by decide)
    have hin8 : ¬ ((Int32.ofNat (n + 1)) < 0 ∨ cl8.slots.size ≤ ((Int32.ofNat (n + 1))).toNatClampNeg) := inb_of S8 ⟨own_nneg (by omega), own_ltM (by omega) hM⟩
    have hat8 : cl8.slots[((Int32.ofNat (n + 1))).toNatClampNeg]? = some (.long (hs.getD (n + 1) 0)) := (H8 _ (Nat.lt_of_not_le fun y => hin8 (Or.inr y))).trans (congrArg some (own_getJ _ (by omega)))
    have k10 : Go p.tables e below (T6.setTop (mkF m 59 #[.val (.ref r0), .val (.long q1), .second, .val (.ref r3), .val (.ref r3), .val (.int (1 : Int32)), .val (.int (0 : Int32)), .val (.long h), .second, .val (.int (Int32.ofNat n)), .val (.int (Int32.ofNat (n + 0))), .val (.int (Int32.ofNat (n + 1)))] [(.int (Int32.ofNat (n + 1))), (.ref ra)])) (T6.setTop (mkF m 63 #[.val (.ref r0), .val (.long q1), .second, .val (.ref r3), .val (.ref r3), .val (.int (1 : Int32)), .val (.int (0 : Int32)), .val (.long h), .second, .val (.int (Int32.ofNat n)), .val (.int (Int32.ofNat (n + 0))), .val (.int (Int32.ofNat (n + 1)))] [(.int (lcmpW (hs.getD (n + 1) 0) h))])) := by
      intro t ht
      refine X6.laload hx (j := (Int32.ofNat (n + 1))) (v := (.long (hs.getD (n + 1) 0))) (by rw [e6]; exact Ar8.1) (State.isArrayOf_alike hZ.alike Ar8.2.1) Ar8.2.2 hin8 hat8 (g := (mkF m 59 #[.val (.ref r0), .val (.long q1), .second, .val (.ref r3), .val (.ref r3), .val (.int (1 : Int32)), .val (.int (0 : Int32)), .val (.long h), .second, .val (.int (Int32.ofNat n)), .val (.int (Int32.ofNat (n + 0))), .val (.int (Int32.ofNat (n + 1)))] [(.int (Int32.ofNat (n + 1))), (.ref ra)])) rfl rfl (hb hby d_rec10_59) _ ?_
      show Steps p.tables e below (T6.setTop (mkF m 60 #[.val (.ref r0), .val (.long q1), .second, .val (.ref r3), .val (.ref r3), .val (.int (1 : Int32)), .val (.int (0 : Int32)), .val (.long h), .second, .val (.int (Int32.ofNat n)), .val (.int (Int32.ofNat (n + 0))), .val (.int (Int32.ofNat (n + 1)))] [(.long (hs.getD (n + 1) 0))])) _
      refine XS.lload X6.here hx rfl (hb hby d_rec10_60) rfl ?_
      show Steps p.tables e below (T6.setTop (mkF m 62 #[.val (.ref r0), .val (.long q1), .second, .val (.ref r3), .val (.ref r3), .val (.int (1 : Int32)), .val (.int (0 : Int32)), .val (.long h), .second, .val (.int (Int32.ofNat n)), .val (.int (Int32.ofNat (n + 0))), .val (.int (Int32.ofNat (n + 1)))] [(.long h), (.long (hs.getD (n + 1) 0))])) _
      refine XS.lcmp X6.here hx rfl (hb hby d_rec10_62) rfl ?_
      exact ht
    by_cases hc11 : (hs.getD (n + 1) 0) = h
    · have k12 : Go p.tables e below (T6.setTop (mkF m 63 #[.val (.ref r0), .val (.long q1), .second, .val (.ref r3), .val (.ref r3), .val (.int (1 : Int32)), .val (.int (0 : Int32)), .val (.long h), .second, .val (.int (Int32.ofNat n)), .val (.int (Int32.ofNat (n + 0))), .val (.int (Int32.ofNat (n + 1)))] [(.int (lcmpW (hs.getD (n + 1) 0) h))])) (T6.setTop (mkF m 67 #[.val (.ref r0), .val (.long q1), .second, .val (.ref r3), .val (.ref r3), .val (.int (1 : Int32)), .val (.int (0 : Int32)), .val (.long h), .second, .val (.int (Int32.ofNat n)), .val (.int (Int32.ofNat (n + 0))), .val (.int (Int32.ofNat (n + 1)))] [(.ref r0)])) := by
        intro t ht
        refine XS.ifNo X6.here hx rfl (hb hby d_rec10_63) rfl ((if0 _ _).trans (teq (own_eqL hc11)).2) ?_
        show Steps p.tables e below (T6.setTop (mkF m 66 #[.val (.ref r0), .val (.long q1), .second, .val (.ref r3), .val (.ref r3), .val (.int (1 : Int32)), .val (.int (0 : Int32)), .val (.long h), .second, .val (.int (Int32.ofNat n)), .val (.int (Int32.ofNat (n + 0))), .val (.int (Int32.ofNat (n + 1)))] [])) _
        refine XS.aloadN X6.here hx rfl (hb hby d_rec10_66) rfl rfl ?_
        exact ht
      obtain ⟨T13, X13, e13, st13⟩ := getF X6 hx hZ hown (host := "") (Or.inl (hw _ (List.mem_of_getElem? (i := 18) rfl))) Via.refl e6 Fc (g := (mkF m 67 #[.val (.ref r0), .val (.long q1), .second, .val (.ref r3), .val (.ref r3), .val (.int (1 : Int32)), .val (.int (0 : Int32)), .val (.long h), .second, .val (.int (Int32.ofNat n)), .val (.int (Int32.ofNat (n + 0))), .val (.int (Int32.ofNat (n + 1)))] [(.ref r0)])) rfl rfl (hb hby d_rec10_67)
      have k13 : Go p.tables e below (T6.setTop (mkF m 67 #[.val (.ref r0), .val (.long q1), .second, .val (.ref r3), .val (.ref r3), .val (.int (1 : Int32)), .val (.int (0 : Int32)), .val (.long h), .second, .val (.int (Int32.ofNat n)), .val (.int (Int32.ofNat (n + 0))), .val (.int (Int32.ofNat (n + 1)))] [(.ref r0)])) (T13.setTop (mkF m 70 #[.val (.ref r0), .val (.long q1), .second, .val (.ref r3), .val (.ref r3), .val (.int (1 : Int32)), .val (.int (0 : Int32)), .val (.long h), .second, .val (.int (Int32.ofNat n)), .val (.int (Int32.ofNat (n + 0))), .val (.int (Int32.ofNat (n + 1)))] [(.ref rc)])) := st13
      have k14 : Go p.tables e below (T13.setTop (mkF m 70 #[.val (.ref r0), .val (.long q1), .second, .val (.ref r3), .val (.ref r3), .val (.int (1 : Int32)), .val (.int (0 : Int32)), .val (.long h), .second, .val (.int (Int32.ofNat n)), .val (.int (Int32.ofNat (n + 0))), .val (.int (Int32.ofNat (n + 1)))] [(.ref rc)])) (T13.setTop (mkF m 72 #[.val (.ref r0), .val (.long q1), .second, .val (.ref r3), .val (.ref r3), .val (.int (1 : Int32)), .val (.int (0 : Int32)), .val (.long h), .second, .val (.int (Int32.ofNat n)), .val (.int (Int32.ofNat (n + 0))), .val (.int (Int32.ofNat (n + 1)))] [(.int (Int32.ofNat (n + 1))), (.ref rc)])) := by
        intro t ht
        refine XS.iload X13.here hx rfl (hb hby d_rec10_70) rfl ?_
        exact ht
      obtain ⟨cl15, Ar15, q15, S15, M15, H15, G15⟩ := id Vc
      have hjn16 : 1 < S := own_jS hM hn hc4 (by decide)
      have hin15 : ¬ ((Int32.ofNat (n + 1)) < 0 ∨ cl15.slots.size ≤ ((Int32.ofNat (n + 1))).toNatClampNeg) := inb_of S15 ⟨own_nneg (by omega), own_ltM (by omega) hM⟩
      have hat15 : cl15.slots[((Int32.ofNat (n + 1))).toNatClampNeg]? = some (.long (cs.getD (n + 1) 0)) := (H15 _ (Nat.lt_of_not_le fun y => hin15 (Or.inr y))).trans (congrArg some (own_getJ _ (by omega)))
      have k17 : Go p.tables e below (T13.setTop (mkF m 72 #[.val (.ref r0), .val (.long q1), .second, .val (.ref r3), .val (.ref r3), .val (.int (1 : Int32)), .val (.int (0 : Int32)), .val (.long h), .second, .val (.int (Int32.ofNat n)), .val (.int (Int32.ofNat (n + 0))), .val (.int (Int32.ofNat (n + 1)))] [(.int (Int32.ofNat (n + 1))), (.ref rc)])) (T13.setTop (mkF m 75 #[.val (.ref r0), .val (.long q1), .second, .val (.ref r3), .val (.ref r3), .val (.int (1 : Int32)), .val (.int (0 : Int32)), .val (.long h), .second, .val (.int (Int32.ofNat n)), .val (.int (Int32.ofNat (n + 0))), .val (.int (Int32.ofNat (n + 1)))] [(.int (lcmpW (cs.getD (n + 1) 0) (0 : Int64)))])) := by
        intro t ht
        refine X13.laload hx (j := (Int32.ofNat (n + 1))) (v := (.long (cs.getD (n + 1) 0))) (by rw [e13]; exact Ar15.1) (State.isArrayOf_alike hZ.alike Ar15.2.1) Ar15.2.2 hin15 hat15 (g := (mkF m 72 #[.val (.ref r0), .val (.long q1), .second, .val (.ref r3), .val (.ref r3), .val (.int (1 : Int32)), .val (.int (0 : Int32)), .val (.long h), .second, .val (.int (Int32.ofNat n)), .val (.int (Int32.ofNat (n + 0))), .val (.int (Int32.ofNat (n + 1)))] [(.int (Int32.ofNat (n + 1))), (.ref rc)])) rfl rfl (hb hby d_rec10_72) _ ?_
        show Steps p.tables e below (T13.setTop (mkF m 73 #[.val (.ref r0), .val (.long q1), .second, .val (.ref r3), .val (.ref r3), .val (.int (1 : Int32)), .val (.int (0 : Int32)), .val (.long h), .second, .val (.int (Int32.ofNat n)), .val (.int (Int32.ofNat (n + 0))), .val (.int (Int32.ofNat (n + 1)))] [(.long (cs.getD (n + 1) 0))])) _
        refine XS.lconst X13.here hx rfl (hb hby d_rec10_73) ?_
        show Steps p.tables e below (T13.setTop (mkF m 74 #[.val (.ref r0), .val (.long q1), .second, .val (.ref r3), .val (.ref r3), .val (.int (1 : Int32)), .val (.int (0 : Int32)), .val (.long h), .second, .val (.int (Int32.ofNat n)), .val (.int (Int32.ofNat (n + 0))), .val (.int (Int32.ofNat (n + 1)))] [(.long (0 : Int64)), (.long (cs.getD (n + 1) 0))])) _
        refine XS.lcmp X13.here hx rfl (hb hby d_rec10_74) rfl ?_
        exact ht
      by_cases hc18 : (cs.getD (n + 1) 0) = (0 : Int64)
      · have k19 : Go p.tables e below (T13.setTop (mkF m 75 #[.val (.ref r0), .val (.long q1), .second, .val (.ref r3), .val (.ref r3), .val (.int (1 : Int32)), .val (.int (0 : Int32)), .val (.long h), .second, .val (.int (Int32.ofNat n)), .val (.int (Int32.ofNat (n + 0))), .val (.int (Int32.ofNat (n + 1)))] [(.int (lcmpW (cs.getD (n + 1) 0) (0 : Int64)))])) (T13.setTop (mkF m 86 #[.val (.ref r0), .val (.long q1), .second, .val (.ref r3), .val (.ref r3), .val (.int (1 : Int32)), .val (.int (0 : Int32)), .val (.long h), .second, .val (.int (Int32.ofNat n)), .val (.int (Int32.ofNat (n + 0))), .val (.int (Int32.ofNat (n + 1)))] [(.ref r0)])) := by
          intro t ht
          refine XS.ifYes X13.here hx rfl (pc0 := 75) (pc' := 85) rfl (hb hby d_rec10_75) rfl ((if0 _ _).trans (teq (own_eqL hc18)).1) (by decide) (by decide) ?_
          show Steps p.tables e below (T13.setTop (mkF m 85 #[.val (.ref r0), .val (.long q1), .second, .val (.ref r3), .val (.ref r3), .val (.int (1 : Int32)), .val (.int (0 : Int32)), .val (.long h), .second, .val (.int (Int32.ofNat n)), .val (.int (Int32.ofNat (n + 0))), .val (.int (Int32.ofNat (n + 1)))] [])) _
          refine XS.aloadN X13.here hx rfl (hb hby d_rec10_85) rfl rfl ?_
          exact ht
        obtain ⟨T20, X20, e20, st20⟩ := getF X13 hx hZ hown (host := "") (Or.inl (hw _ (List.mem_of_getElem? (i := 18) rfl))) Via.refl e13 Fc (g := (mkF m 86 #[.val (.ref r0), .val (.long q1), .second, .val (.ref r3), .val (.ref r3), .val (.int (1 : Int32)), .val (.int (0 : Int32)), .val (.long h), .second, .val (.int (Int32.ofNat n)), .val (.int (Int32.ofNat (n + 0))), .val (.int (Int32.ofNat (n + 1)))] [(.ref r0)])) rfl rfl (hb hby d_rec10_86)
        have k20 : Go p.tables e below (T13.setTop (mkF m 86 #[.val (.ref r0), .val (.long q1), .second, .val (.ref r3), .val (.ref r3), .val (.int (1 : Int32)), .val (.int (0 : Int32)), .val (.long h), .second, .val (.int (Int32.ofNat n)), .val (.int (Int32.ofNat (n + 0))), .val (.int (Int32.ofNat (n + 1)))] [(.ref r0)])) (T20.setTop (mkF m 89 #[.val (.ref r0), .val (.long q1), .second, .val (.ref r3), .val (.ref r3), .val (.int (1 : Int32)), .val (.int (0 : Int32)), .val (.long h), .second, .val (.int (Int32.ofNat n)), .val (.int (Int32.ofNat (n + 0))), .val (.int (Int32.ofNat (n + 1)))] [(.ref rc)])) := st20
        have k21 : Go p.tables e below (T20.setTop (mkF m 89 #[.val (.ref r0), .val (.long q1), .second, .val (.ref r3), .val (.ref r3), .val (.int (1 : Int32)), .val (.int (0 : Int32)), .val (.long h), .second, .val (.int (Int32.ofNat n)), .val (.int (Int32.ofNat (n + 0))), .val (.int (Int32.ofNat (n + 1)))] [(.ref rc)])) (T20.setTop (mkF m 91 #[.val (.ref r0), .val (.long q1), .second, .val (.ref r3), .val (.ref r3), .val (.int (1 : Int32)), .val (.int (0 : Int32)), .val (.long h), .second, .val (.int (Int32.ofNat n)), .val (.int (Int32.ofNat (n + 0))), .val (.int (Int32.ofNat (n + 1)))] [(.int (Int32.ofNat (n + 1))), (.ref rc)])) := by
          intro t ht
          refine XS.iload X20.here hx rfl (hb hby d_rec10_89) rfl ?_
          exact ht
        obtain ⟨cl22, Ar22, q22, S22, M22, H22, G22⟩ := id Vc
        have hjn23 : 1 < S := own_jS hM hn hc4 (by decide)
        have hin22 : ¬ ((Int32.ofNat (n + 1)) < 0 ∨ cl22.slots.size ≤ ((Int32.ofNat (n + 1))).toNatClampNeg) := inb_of S22 ⟨own_nneg (by omega), own_ltM (by omega) hM⟩
        have hat22 : cl22.slots[((Int32.ofNat (n + 1))).toNatClampNeg]? = some (.long (cs.getD (n + 1) 0)) := (H22 _ (Nat.lt_of_not_le fun y => hin22 (Or.inr y))).trans (congrArg some (own_getJ _ (by omega)))
        have k24 : Go p.tables e below (T20.setTop (mkF m 91 #[.val (.ref r0), .val (.long q1), .second, .val (.ref r3), .val (.ref r3), .val (.int (1 : Int32)), .val (.int (0 : Int32)), .val (.long h), .second, .val (.int (Int32.ofNat n)), .val (.int (Int32.ofNat (n + 0))), .val (.int (Int32.ofNat (n + 1)))] [(.int (Int32.ofNat (n + 1))), (.ref rc)])) (T20.setTop (mkF m 93 #[.val (.ref r0), .val (.long q1), .second, .val (.ref r3), .val (.ref r3), .val (.int (1 : Int32)), .val (.int (0 : Int32)), .val (.long h), .second, .val (.int (Int32.ofNat n)), .val (.int (Int32.ofNat (n + 0))), .val (.int (Int32.ofNat (n + 1)))] [(.ref r0), (.long (cs.getD (n + 1) 0))])) := by
          intro t ht
          refine X20.laload hx (j := (Int32.ofNat (n + 1))) (v := (.long (cs.getD (n + 1) 0))) (by rw [e20]; exact Ar22.1) (State.isArrayOf_alike hZ.alike Ar22.2.1) Ar22.2.2 hin22 hat22 (g := (mkF m 91 #[.val (.ref r0), .val (.long q1), .second, .val (.ref r3), .val (.ref r3), .val (.int (1 : Int32)), .val (.int (0 : Int32)), .val (.long h), .second, .val (.int (Int32.ofNat n)), .val (.int (Int32.ofNat (n + 0))), .val (.int (Int32.ofNat (n + 1)))] [(.int (Int32.ofNat (n + 1))), (.ref rc)])) rfl rfl (hb hby d_rec10_91) _ ?_
          show Steps p.tables e below (T20.setTop (mkF m 92 #[.val (.ref r0), .val (.long q1), .second, .val (.ref r3), .val (.ref r3), .val (.int (1 : Int32)), .val (.int (0 : Int32)), .val (.long h), .second, .val (.int (Int32.ofNat n)), .val (.int (Int32.ofNat (n + 0))), .val (.int (Int32.ofNat (n + 1)))] [(.long (cs.getD (n + 1) 0))])) _
          refine XS.aloadN X20.here hx rfl (hb hby d_rec10_92) rfl rfl ?_
          exact ht
        obtain ⟨T25, X25, e25, st25⟩ := getF X20 hx hZ hown (host := "") (Or.inl (hw _ (List.mem_of_getElem? (i := 18) rfl))) Via.refl e20 Fc (g := (mkF m 93 #[.val (.ref r0), .val (.long q1), .second, .val (.ref r3), .val (.ref r3), .val (.int (1 : Int32)), .val (.int (0 : Int32)), .val (.long h), .second, .val (.int (Int32.ofNat n)), .val (.int (Int32.ofNat (n + 0))), .val (.int (Int32.ofNat (n + 1)))] [(.ref r0), (.long (cs.getD (n + 1) 0))])) rfl rfl (hb hby d_rec10_93)
        have k25 : Go p.tables e below (T20.setTop (mkF m 93 #[.val (.ref r0), .val (.long q1), .second, .val (.ref r3), .val (.ref r3), .val (.int (1 : Int32)), .val (.int (0 : Int32)), .val (.long h), .second, .val (.int (Int32.ofNat n)), .val (.int (Int32.ofNat (n + 0))), .val (.int (Int32.ofNat (n + 1)))] [(.ref r0), (.long (cs.getD (n + 1) 0))])) (T25.setTop (mkF m 96 #[.val (.ref r0), .val (.long q1), .second, .val (.ref r3), .val (.ref r3), .val (.int (1 : Int32)), .val (.int (0 : Int32)), .val (.long h), .second, .val (.int (Int32.ofNat n)), .val (.int (Int32.ofNat (n + 0))), .val (.int (Int32.ofNat (n + 1)))] [(.ref rc), (.long (cs.getD (n + 1) 0))])) := st25
        have k26 : Go p.tables e below (T25.setTop (mkF m 96 #[.val (.ref r0), .val (.long q1), .second, .val (.ref r3), .val (.ref r3), .val (.int (1 : Int32)), .val (.int (0 : Int32)), .val (.long h), .second, .val (.int (Int32.ofNat n)), .val (.int (Int32.ofNat (n + 0))), .val (.int (Int32.ofNat (n + 1)))] [(.ref rc), (.long (cs.getD (n + 1) 0))])) (T25.setTop (mkF m 98 #[.val (.ref r0), .val (.long q1), .second, .val (.ref r3), .val (.ref r3), .val (.int (1 : Int32)), .val (.int (0 : Int32)), .val (.long h), .second, .val (.int (Int32.ofNat n)), .val (.int (Int32.ofNat (n + 0))), .val (.int (Int32.ofNat (n + 1)))] [(.int (Int32.ofNat (n + 0))), (.ref rc), (.long (cs.getD (n + 1) 0))])) := by
          intro t ht
          refine XS.iload X25.here hx rfl (hb hby d_rec10_96) rfl ?_
          exact ht
        obtain ⟨cl27, Ar27, q27, S27, M27, H27, G27⟩ := id Vc
        have hjn28 : 1 < S := own_jS hM hn hc4 (by decide)
        have hin27 : ¬ ((Int32.ofNat (n + 0)) < 0 ∨ cl27.slots.size ≤ ((Int32.ofNat (n + 0))).toNatClampNeg) := inb_of S27 ⟨own_nneg (by omega), own_ltM (by omega) hM⟩
        have hat27 : cl27.slots[((Int32.ofNat (n + 0))).toNatClampNeg]? = some (.long (cs.getD (n + 0) 0)) := (H27 _ (Nat.lt_of_not_le fun y => hin27 (Or.inr y))).trans (congrArg some (own_getJ _ (by omega)))
        have k29 : Go p.tables e below (T25.setTop (mkF m 98 #[.val (.ref r0), .val (.long q1), .second, .val (.ref r3), .val (.ref r3), .val (.int (1 : Int32)), .val (.int (0 : Int32)), .val (.long h), .second, .val (.int (Int32.ofNat n)), .val (.int (Int32.ofNat (n + 0))), .val (.int (Int32.ofNat (n + 1)))] [(.int (Int32.ofNat (n + 0))), (.ref rc), (.long (cs.getD (n + 1) 0))])) (T25.setTop (mkF m 100 #[.val (.ref r0), .val (.long q1), .second, .val (.ref r3), .val (.ref r3), .val (.int (1 : Int32)), .val (.int (0 : Int32)), .val (.long h), .second, .val (.int (Int32.ofNat n)), .val (.int (Int32.ofNat (n + 0))), .val (.int (Int32.ofNat (n + 1)))] [(.int (lcmpW (cs.getD (n + 1) 0) (cs.getD (n + 0) 0)))])) := by
          intro t ht
          refine X25.laload hx (j := (Int32.ofNat (n + 0))) (v := (.long (cs.getD (n + 0) 0))) (by rw [e25]; exact Ar27.1) (State.isArrayOf_alike hZ.alike Ar27.2.1) Ar27.2.2 hin27 hat27 (g := (mkF m 98 #[.val (.ref r0), .val (.long q1), .second, .val (.ref r3), .val (.ref r3), .val (.int (1 : Int32)), .val (.int (0 : Int32)), .val (.long h), .second, .val (.int (Int32.ofNat n)), .val (.int (Int32.ofNat (n + 0))), .val (.int (Int32.ofNat (n + 1)))] [(.int (Int32.ofNat (n + 0))), (.ref rc), (.long (cs.getD (n + 1) 0))])) rfl rfl (hb hby d_rec10_98) _ ?_
          show Steps p.tables e below (T25.setTop (mkF m 99 #[.val (.ref r0), .val (.long q1), .second, .val (.ref r3), .val (.ref r3), .val (.int (1 : Int32)), .val (.int (0 : Int32)), .val (.long h), .second, .val (.int (Int32.ofNat n)), .val (.int (Int32.ofNat (n + 0))), .val (.int (Int32.ofNat (n + 1)))] [(.long (cs.getD (n + 0) 0)), (.long (cs.getD (n + 1) 0))])) _
          refine XS.lcmp X25.here hx rfl (hb hby d_rec10_99) rfl ?_
          exact ht
        by_cases hc30 : (cs.getD (n + 1) 0) < (cs.getD (n + 0) 0)
        · have k31 : Go p.tables e below (T25.setTop (mkF m 100 #[.val (.ref r0), .val (.long q1), .second, .val (.ref r3), .val (.ref r3), .val (.int (1 : Int32)), .val (.int (0 : Int32)), .val (.long h), .second, .val (.int (Int32.ofNat n)), .val (.int (Int32.ofNat (n + 0))), .val (.int (Int32.ofNat (n + 1)))] [(.int (lcmpW (cs.getD (n + 1) 0) (cs.getD (n + 0) 0)))])) (T25.setTop (mkF m 110 #[.val (.ref r0), .val (.long q1), .second, .val (.ref r3), .val (.ref r3), .val (.int (1 : Int32)), .val (.int (0 : Int32)), .val (.long h), .second, .val (.int (Int32.ofNat n)), .val (.int (Int32.ofNat (n + 1))), .val (.int ((Int32.ofNat (n + 1)) + (1 : Int32)))] [])) := by
            intro t ht
            refine XS.ifNo X25.here hx rfl (hb hby d_rec10_100) rfl ((if0 _ _).trans (tlt (own_ltL hc30)).2.1) ?_
            show Steps p.tables e below (T25.setTop (mkF m 103 #[.val (.ref r0), .val (.long q1), .second, .val (.ref r3), .val (.ref r3), .val (.int (1 : Int32)), .val (.int (0 : Int32)), .val (.long h), .second, .val (.int (Int32.ofNat n)), .val (.int (Int32.ofNat (n + 0))), .val (.int (Int32.ofNat (n + 1)))] [])) _
            refine XS.iload X25.here hx rfl (hb hby d_rec10_103) rfl ?_
            show Steps p.tables e below (T25.setTop (mkF m 105 #[.val (.ref r0), .val (.long q1), .second, .val (.ref r3), .val (.ref r3), .val (.int (1 : Int32)), .val (.int (0 : Int32)), .val (.long h), .second, .val (.int (Int32.ofNat n)), .val (.int (Int32.ofNat (n + 0))), .val (.int (Int32.ofNat (n + 1)))] [(.int (Int32.ofNat (n + 1)))])) _
            refine XS.istore X25.here hx rfl (hb hby d_rec10_105) rfl (l' := #[.val (.ref r0), .val (.long q1), .second, .val (.ref r3), .val (.ref r3), .val (.int (1 : Int32)), .val (.int (0 : Int32)), .val (.long h), .second, .val (.int (Int32.ofNat n)), .val (.int (Int32.ofNat (n + 1))), .val (.int (Int32.ofNat (n + 1)))]) rfl ?_
            show Steps p.tables e below (T25.setTop (mkF m 107 #[.val (.ref r0), .val (.long q1), .second, .val (.ref r3), .val (.ref r3), .val (.int (1 : Int32)), .val (.int (0 : Int32)), .val (.long h), .second, .val (.int (Int32.ofNat n)), .val (.int (Int32.ofNat (n + 1))), .val (.int (Int32.ofNat (n + 1)))] [])) _
            refine XS.iinc X25.here hx rfl (hb hby d_rec10_107) rfl (l' := #[.val (.ref r0), .val (.long q1), .second, .val (.ref r3), .val (.ref r3), .val (.int (1 : Int32)), .val (.int (0 : Int32)), .val (.long h), .second, .val (.int (Int32.ofNat n)), .val (.int (Int32.ofNat (n + 1))), .val (.int ((Int32.ofNat (n + 1)) + (1 : Int32)))]) rfl ?_
            exact ht
          have k32 : Go p.tables e below (T25.setTop (mkF m 110 #[.val (.ref r0), .val (.long q1), .second, .val (.ref r3), .val (.ref r3), .val (.int (1 : Int32)), .val (.int (0 : Int32)), .val (.long h), .second, .val (.int (Int32.ofNat n)), .val (.int (Int32.ofNat (n + 1))), .val (.int ((Int32.ofNat (n + 1)) + (1 : Int32)))] [])) (T25.setTop (mkF m 110 #[.val (.ref r0), .val (.long q1), .second, .val (.ref r3), .val (.ref r3), .val (.int (1 : Int32)), .val (.int (0 : Int32)), .val (.long h), .second, .val (.int (Int32.ofNat n)), .val (.int (Int32.ofNat (n + 1))), .val (.int (Int32.ofNat (n + 2)))] [])) := by rw [own_inc]; exact fun _ h => h
          have k33 : Go p.tables e below (T25.setTop (mkF m 110 #[.val (.ref r0), .val (.long q1), .second, .val (.ref r3), .val (.ref r3), .val (.int (1 : Int32)), .val (.int (0 : Int32)), .val (.long h), .second, .val (.int (Int32.ofNat n)), .val (.int (Int32.ofNat (n + 1))), .val (.int (Int32.ofNat (n + 2)))] [])) (T25.setTop (mkF m 41 #[.val (.ref r0), .val (.long q1), .second, .val (.ref r3), .val (.ref r3), .val (.int (1 : Int32)), .val (.int (0 : Int32)), .val (.long h), .second, .val (.int (Int32.ofNat n)), .val (.int (Int32.ofNat (n + 1))), .val (.int (Int32.ofNat (n + 2)))] [])) := by
            intro t ht
            refine XS.goto X25.here hx rfl (pc0 := 110) (pc' := 41) rfl (hb hby d_rec10_110) (by decide) (by decide) ?_
            exact ht
          obtain ⟨T34, L34, x34_0, X34, N34, e34, kr34⟩ := pc_rec21 r0 r3 ra rc q1 h B S M n ka kc hs cs X25 hx hZ hw hby hml hown e25 N0 Z0 Fb Fs Fh Fc E_r0 Va Vc hS hM hn
          refine ⟨T34, L34, x34_0, X34, N34, e34, ?_⟩
          have kk := goT (goT k1 (goT k2 (goT k3 (goT k5 (goT k6 (goT k7 (goT k10 (goT k12 (goT k13 (goT k14 (goT k17 (goT k19 (goT k20 (goT k21 (goT k24 (goT k25 (goT k26 (goT k29 (goT k31 (goT k32 k33)))))))))))))))))))) kr34
          simpa only [f_rec10, if_pos hc4, if_pos hc11, if_pos hc18, if_pos hc30] using kk
        · have k35 : Go p.tables e below (T25.setTop (mkF m 100 #[.val (.ref r0), .val (.long q1), .second, .val (.ref r3), .val (.ref r3), .val (.int (1 : Int32)), .val (.int (0 : Int32)), .val (.long h), .second, .val (.int (Int32.ofNat n)), .val (.int (Int32.ofNat (n + 0))), .val (.int (Int32.ofNat (n + 1)))] [(.int (lcmpW (cs.getD (n + 1) 0) (cs.getD (n + 0) 0)))])) (T25.setTop (mkF m 110 #[.val (.ref r0), .val (.long q1), .second, .val (.ref r3), .val (.ref r3), .val (.int (1 : Int32)), .val (.int (0 : Int32)), .val (.long h), .second, .val (.int (Int32.ofNat n)), .val (.int (Int32.ofNat (n + 0))), .val (.int ((Int32.ofNat (n + 1)) + (1 : Int32)))] [])) := by
            intro t ht
            refine XS.ifYes X25.here hx rfl (pc0 := 100) (pc' := 107) rfl (hb hby d_rec10_100) rfl ((if0 _ _).trans (flt (own_nltL hc30)).2.1) (by decide) (by decide) ?_
            show Steps p.tables e below (T25.setTop (mkF m 107 #[.val (.ref r0), .val (.long q1), .second, .val (.ref r3), .val (.ref r3), .val (.int (1 : Int32)), .val (.int (0 : Int32)), .val (.long h), .second, .val (.int (Int32.ofNat n)), .val (.int (Int32.ofNat (n + 0))), .val (.int (Int32.ofNat (n + 1)))] [])) _
            refine XS.iinc X25.here hx rfl (hb hby d_rec10_107) rfl (l' := #[.val (.ref r0), .val (.long q1), .second, .val (.ref r3), .val (.ref r3), .val (.int (1 : Int32)), .val (.int (0 : Int32)), .val (.long h), .second, .val (.int (Int32.ofNat n)), .val (.int (Int32.ofNat (n + 0))), .val (.int ((Int32.ofNat (n + 1)) + (1 : Int32)))]) rfl ?_
            exact ht
          have k36 : Go p.tables e below (T25.setTop (mkF m 110 #[.val (.ref r0), .val (.long q1), .second, .val (.ref r3), .val (.ref r3), .val (.int (1 : Int32)), .val (.int (0 : Int32)), .val (.long h), .second, .val (.int (Int32.ofNat n)), .val (.int (Int32.ofNat (n + 0))), .val (.int ((Int32.ofNat (n + 1)) + (1 : Int32)))] [])) (T25.setTop (mkF m 110 #[.val (.ref r0), .val (.long q1), .second, .val (.ref r3), .val (.ref r3), .val (.int (1 : Int32)), .val (.int (0 : Int32)), .val (.long h), .second, .val (.int (Int32.ofNat n)), .val (.int (Int32.ofNat (n + 0))), .val (.int (Int32.ofNat (n + 2)))] [])) := by rw [own_inc]; exact fun _ h => h
          have k37 : Go p.tables e below (T25.setTop (mkF m 110 #[.val (.ref r0), .val (.long q1), .second, .val (.ref r3), .val (.ref r3), .val (.int (1 : Int32)), .val (.int (0 : Int32)), .val (.long h), .second, .val (.int (Int32.ofNat n)), .val (.int (Int32.ofNat (n + 0))), .val (.int (Int32.ofNat (n + 2)))] [])) (T25.setTop (mkF m 41 #[.val (.ref r0), .val (.long q1), .second, .val (.ref r3), .val (.ref r3), .val (.int (1 : Int32)), .val (.int (0 : Int32)), .val (.long h), .second, .val (.int (Int32.ofNat n)), .val (.int (Int32.ofNat (n + 0))), .val (.int (Int32.ofNat (n + 2)))] [])) := by
            intro t ht
            refine XS.goto X25.here hx rfl (pc0 := 110) (pc' := 41) rfl (hb hby d_rec10_110) (by decide) (by decide) ?_
            exact ht
          obtain ⟨T38, L38, x38_0, X38, N38, e38, kr38⟩ := pc_rec20 r0 r3 ra rc q1 h B S M n ka kc hs cs X25 hx hZ hw hby hml hown e25 N0 Z0 Fb Fs Fh Fc E_r0 Va Vc hS hM hn
          refine ⟨T38, L38, x38_0, X38, N38, e38, ?_⟩
          have kk := goT (goT k1 (goT k2 (goT k3 (goT k5 (goT k6 (goT k7 (goT k10 (goT k12 (goT k13 (goT k14 (goT k17 (goT k19 (goT k20 (goT k21 (goT k24 (goT k25 (goT k26 (goT k29 (goT k35 (goT k36 k37)))))))))))))))))))) kr38
          simpa only [f_rec10, if_pos hc4, if_pos hc11, if_pos hc18, if_neg hc30] using kk
      · have k39 : Go p.tables e below (T13.setTop (mkF m 75 #[.val (.ref r0), .val (.long q1), .second, .val (.ref r3), .val (.ref r3), .val (.int (1 : Int32)), .val (.int (0 : Int32)), .val (.long h), .second, .val (.int (Int32.ofNat n)), .val (.int (Int32.ofNat (n + 0))), .val (.int (Int32.ofNat (n + 1)))] [(.int (lcmpW (cs.getD (n + 1) 0) (0 : Int64)))])) (T13.setTop (mkF m 113 #[.val (.ref r0), .val (.long q1), .second, .val (.ref r3), .val (.ref r3), .val (.int (1 : Int32)), .val (.int (0 : Int32)), .val (.long h), .second, .val (.int (Int32.ofNat n)), .val (.int (Int32.ofNat (n + 1))), .val (.int (Int32.ofNat (n + 1)))] [])) := by
          intro t ht
          refine XS.ifNo X13.here hx rfl (hb hby d_rec10_75) rfl ((if0 _ _).trans (feq (own_neqL hc18)).1) ?_
          show Steps p.tables e below (T13.setTop (mkF m 78 #[.val (.ref r0), .val (.long q1), .second, .val (.ref r3), .val (.ref r3), .val (.int (1 : Int32)), .val (.int (0 : Int32)), .val (.long h), .second, .val (.int (Int32.ofNat n)), .val (.int (Int32.ofNat (n + 0))), .val (.int (Int32.ofNat (n + 1)))] [])) _
          refine XS.iload X13.here hx rfl (hb hby d_rec10_78) rfl ?_
          show Steps p.tables e below (T13.setTop (mkF m 80 #[.val (.ref r0), .val (.long q1), .second, .val (.ref r3), .val (.ref r3), .val (.int (1 : Int32)), .val (.int (0 : Int32)), .val (.long h), .second, .val (.int (Int32.ofNat n)), .val (.int (Int32.ofNat (n + 0))), .val (.int (Int32.ofNat (n + 1)))] [(.int (Int32.ofNat (n + 1)))])) _
          refine XS.istore X13.here hx rfl (hb hby d_rec10_80) rfl (l' := #[.val (.ref r0), .val (.long q1), .second, .val (.ref r3), .val (.ref r3), .val (.int (1 : Int32)), .val (.int (0 : Int32)), .val (.long h), .second, .val (.int (Int32.ofNat n)), .val (.int (Int32.ofNat (n + 1))), .val (.int (Int32.ofNat (n + 1)))]) rfl ?_
          show Steps p.tables e below (T13.setTop (mkF m 82 #[.val (.ref r0), .val (.long q1), .second, .val (.ref r3), .val (.ref r3), .val (.int (1 : Int32)), .val (.int (0 : Int32)), .val (.long h), .second, .val (.int (Int32.ofNat n)), .val (.int (Int32.ofNat (n + 1))), .val (.int (Int32.ofNat (n + 1)))] [])) _
          refine XS.goto X13.here hx rfl (pc0 := 82) (pc' := 113) rfl (hb hby d_rec10_82) (by decide) (by decide) ?_
          exact ht
        refine ⟨T13, _, (.val (.int (Int32.ofNat (n + 1)))), X13, N0, e13, ?_⟩
        have kk := (goT k1 (goT k2 (goT k3 (goT k5 (goT k6 (goT k7 (goT k10 (goT k12 (goT k13 (goT k14 (goT k17 k39)))))))))))
        simpa only [f_rec10, if_pos hc4, if_pos hc11, if_neg hc18] using kk
    · have k40 : Go p.tables e below (T6.setTop (mkF m 63 #[.val (.ref r0), .val (.long q1), .second, .val (.ref r3), .val (.ref r3), .val (.int (1 : Int32)), .val (.int (0 : Int32)), .val (.long h), .second, .val (.int (Int32.ofNat n)), .val (.int (Int32.ofNat (n + 0))), .val (.int (Int32.ofNat (n + 1)))] [(.int (lcmpW (hs.getD (n + 1) 0) h))])) (T6.setTop (mkF m 86 #[.val (.ref r0), .val (.long q1), .second, .val (.ref r3), .val (.ref r3), .val (.int (1 : Int32)), .val (.int (0 : Int32)), .val (.long h), .second, .val (.int (Int32.ofNat n)), .val (.int (Int32.ofNat (n + 0))), .val (.int (Int32.ofNat (n + 1)))] [(.ref r0)])) := by
        intro t ht
        refine XS.ifYes X6.here hx rfl (pc0 := 63) (pc' := 85) rfl (hb hby d_rec10_63) rfl ((if0 _ _).trans (feq (own_neqL hc11)).2) (by decide) (by decide) ?_
        show Steps p.tables e below (T6.setTop (mkF m 85 #[.val (.ref r0), .val (.long q1), .second, .val (.ref r3), .val (.ref r3), .val (.int (1 : Int32)), .val (.int (0 : Int32)), .val (.long h), .second, .val (.int (Int32.ofNat n)), .val (.int (Int32.ofNat (n + 0))), .val (.int (Int32.ofNat (n + 1)))] [])) _
        refine XS.aloadN X6.here hx rfl (hb hby d_rec10_85) rfl rfl ?_
        exact ht
      obtain ⟨T41, X41, e41, st41⟩ := getF X6 hx hZ hown (host := "") (Or.inl (hw _ (List.mem_of_getElem? (i := 18) rfl))) Via.refl e6 Fc (g := (mkF m 86 #[.val (.ref r0), .val (.long q1), .second, .val (.ref r3), .val (.ref r3), .val (.int (1 : Int32)), .val (.int (0 : Int32)), .val (.long h), .second, .val (.int (Int32.ofNat n)), .val (.int (Int32.ofNat (n + 0))), .val (.int (Int32.ofNat (n + 1)))] [(.ref r0)])) rfl rfl (hb hby d_rec10_86)
      have k41 : Go p.tables e below (T6.setTop (mkF m 86 #[.val (.ref r0), .val (.long q1), .second, .val (.ref r3), .val (.ref r3), .val (.int (1 : Int32)), .val (.int (0 : Int32)), .val (.long h), .second, .val (.int (Int32.ofNat n)), .val (.int (Int32.ofNat (n + 0))), .val (.int (Int32.ofNat (n + 1)))] [(.ref r0)])) (T41.setTop (mkF m 89 #[.val (.ref r0), .val (.long q1), .second, .val (.ref r3), .val (.ref r3), .val (.int (1 : Int32)), .val (.int (0 : Int32)), .val (.long h), .second, .val (.int (Int32.ofNat n)), .val (.int (Int32.ofNat (n + 0))), .val (.int (Int32.ofNat (n + 1)))] [(.ref rc)])) := st41
      have k42 : Go p.tables e below (T41.setTop (mkF m 89 #[.val (.ref r0), .val (.long q1), .second, .val (.ref r3), .val (.ref r3), .val (.int (1 : Int32)), .val (.int (0 : Int32)), .val (.long h), .second, .val (.int (Int32.ofNat n)), .val (.int (Int32.ofNat (n + 0))), .val (.int (Int32.ofNat (n + 1)))] [(.ref rc)])) (T41.setTop (mkF m 91 #[.val (.ref r0), .val (.long q1), .second, .val (.ref r3), .val (.ref r3), .val (.int (1 : Int32)), .val (.int (0 : Int32)), .val (.long h), .second, .val (.int (Int32.ofNat n)), .val (.int (Int32.ofNat (n + 0))), .val (.int (Int32.ofNat (n + 1)))] [(.int (Int32.ofNat (n + 1))), (.ref rc)])) := by
        intro t ht
        refine XS.iload X41.here hx rfl (hb hby d_rec10_89) rfl ?_
        exact ht
      obtain ⟨cl43, Ar43, q43, S43, M43, H43, G43⟩ := id Vc
      have hjn44 : 1 < S := own_jS hM hn hc4 (by decide)
      have hin43 : ¬ ((Int32.ofNat (n + 1)) < 0 ∨ cl43.slots.size ≤ ((Int32.ofNat (n + 1))).toNatClampNeg) := inb_of S43 ⟨own_nneg (by omega), own_ltM (by omega) hM⟩
      have hat43 : cl43.slots[((Int32.ofNat (n + 1))).toNatClampNeg]? = some (.long (cs.getD (n + 1) 0)) := (H43 _ (Nat.lt_of_not_le fun y => hin43 (Or.inr y))).trans (congrArg some (own_getJ _ (by omega)))
      have k45 : Go p.tables e below (T41.setTop (mkF m 91 #[.val (.ref r0), .val (.long q1), .second, .val (.ref r3), .val (.ref r3), .val (.int (1 : Int32)), .val (.int (0 : Int32)), .val (.long h), .second, .val (.int (Int32.ofNat n)), .val (.int (Int32.ofNat (n + 0))), .val (.int (Int32.ofNat (n + 1)))] [(.int (Int32.ofNat (n + 1))), (.ref rc)])) (T41.setTop (mkF m 93 #[.val (.ref r0), .val (.long q1), .second, .val (.ref r3), .val (.ref r3), .val (.int (1 : Int32)), .val (.int (0 : Int32)), .val (.long h), .second, .val (.int (Int32.ofNat n)), .val (.int (Int32.ofNat (n + 0))), .val (.int (Int32.ofNat (n + 1)))] [(.ref r0), (.long (cs.getD (n + 1) 0))])) := by
        intro t ht
        refine X41.laload hx (j := (Int32.ofNat (n + 1))) (v := (.long (cs.getD (n + 1) 0))) (by rw [e41]; exact Ar43.1) (State.isArrayOf_alike hZ.alike Ar43.2.1) Ar43.2.2 hin43 hat43 (g := (mkF m 91 #[.val (.ref r0), .val (.long q1), .second, .val (.ref r3), .val (.ref r3), .val (.int (1 : Int32)), .val (.int (0 : Int32)), .val (.long h), .second, .val (.int (Int32.ofNat n)), .val (.int (Int32.ofNat (n + 0))), .val (.int (Int32.ofNat (n + 1)))] [(.int (Int32.ofNat (n + 1))), (.ref rc)])) rfl rfl (hb hby d_rec10_91) _ ?_
        show Steps p.tables e below (T41.setTop (mkF m 92 #[.val (.ref r0), .val (.long q1), .second, .val (.ref r3), .val (.ref r3), .val (.int (1 : Int32)), .val (.int (0 : Int32)), .val (.long h), .second, .val (.int (Int32.ofNat n)), .val (.int (Int32.ofNat (n + 0))), .val (.int (Int32.ofNat (n + 1)))] [(.long (cs.getD (n + 1) 0))])) _
        refine XS.aloadN X41.here hx rfl (hb hby d_rec10_92) rfl rfl ?_
        exact ht
      obtain ⟨T46, X46, e46, st46⟩ := getF X41 hx hZ hown (host := "") (Or.inl (hw _ (List.mem_of_getElem? (i := 18) rfl))) Via.refl e41 Fc (g := (mkF m 93 #[.val (.ref r0), .val (.long q1), .second, .val (.ref r3), .val (.ref r3), .val (.int (1 : Int32)), .val (.int (0 : Int32)), .val (.long h), .second, .val (.int (Int32.ofNat n)), .val (.int (Int32.ofNat (n + 0))), .val (.int (Int32.ofNat (n + 1)))] [(.ref r0), (.long (cs.getD (n + 1) 0))])) rfl rfl (hb hby d_rec10_93)
      have k46 : Go p.tables e below (T41.setTop (mkF m 93 #[.val (.ref r0), .val (.long q1), .second, .val (.ref r3), .val (.ref r3), .val (.int (1 : Int32)), .val (.int (0 : Int32)), .val (.long h), .second, .val (.int (Int32.ofNat n)), .val (.int (Int32.ofNat (n + 0))), .val (.int (Int32.ofNat (n + 1)))] [(.ref r0), (.long (cs.getD (n + 1) 0))])) (T46.setTop (mkF m 96 #[.val (.ref r0), .val (.long q1), .second, .val (.ref r3), .val (.ref r3), .val (.int (1 : Int32)), .val (.int (0 : Int32)), .val (.long h), .second, .val (.int (Int32.ofNat n)), .val (.int (Int32.ofNat (n + 0))), .val (.int (Int32.ofNat (n + 1)))] [(.ref rc), (.long (cs.getD (n + 1) 0))])) := st46
      have k47 : Go p.tables e below (T46.setTop (mkF m 96 #[.val (.ref r0), .val (.long q1), .second, .val (.ref r3), .val (.ref r3), .val (.int (1 : Int32)), .val (.int (0 : Int32)), .val (.long h), .second, .val (.int (Int32.ofNat n)), .val (.int (Int32.ofNat (n + 0))), .val (.int (Int32.ofNat (n + 1)))] [(.ref rc), (.long (cs.getD (n + 1) 0))])) (T46.setTop (mkF m 98 #[.val (.ref r0), .val (.long q1), .second, .val (.ref r3), .val (.ref r3), .val (.int (1 : Int32)), .val (.int (0 : Int32)), .val (.long h), .second, .val (.int (Int32.ofNat n)), .val (.int (Int32.ofNat (n + 0))), .val (.int (Int32.ofNat (n + 1)))] [(.int (Int32.ofNat (n + 0))), (.ref rc), (.long (cs.getD (n + 1) 0))])) := by
        intro t ht
        refine XS.iload X46.here hx rfl (hb hby d_rec10_96) rfl ?_
        exact ht
      obtain ⟨cl48, Ar48, q48, S48, M48, H48, G48⟩ := id Vc
      have hjn49 : 1 < S := own_jS hM hn hc4 (by decide)
      have hin48 : ¬ ((Int32.ofNat (n + 0)) < 0 ∨ cl48.slots.size ≤ ((Int32.ofNat (n + 0))).toNatClampNeg) := inb_of S48 ⟨own_nneg (by omega), own_ltM (by omega) hM⟩
      have hat48 : cl48.slots[((Int32.ofNat (n + 0))).toNatClampNeg]? = some (.long (cs.getD (n + 0) 0)) := (H48 _ (Nat.lt_of_not_le fun y => hin48 (Or.inr y))).trans (congrArg some (own_getJ _ (by omega)))
      have k50 : Go p.tables e below (T46.setTop (mkF m 98 #[.val (.ref r0), .val (.long q1), .second, .val (.ref r3), .val (.ref r3), .val (.int (1 : Int32)), .val (.int (0 : Int32)), .val (.long h), .second, .val (.int (Int32.ofNat n)), .val (.int (Int32.ofNat (n + 0))), .val (.int (Int32.ofNat (n + 1)))] [(.int (Int32.ofNat (n + 0))), (.ref rc), (.long (cs.getD (n + 1) 0))])) (T46.setTop (mkF m 100 #[.val (.ref r0), .val (.long q1), .second, .val (.ref r3), .val (.ref r3), .val (.int (1 : Int32)), .val (.int (0 : Int32)), .val (.long h), .second, .val (.int (Int32.ofNat n)), .val (.int (Int32.ofNat (n + 0))), .val (.int (Int32.ofNat (n + 1)))] [(.int (lcmpW (cs.getD (n + 1) 0) (cs.getD (n + 0) 0)))])) := by
        intro t ht
        refine X46.laload hx (j := (Int32.ofNat (n + 0))) (v := (.long (cs.getD (n + 0) 0))) (by rw [e46]; exact Ar48.1) (State.isArrayOf_alike hZ.alike Ar48.2.1) Ar48.2.2 hin48 hat48 (g := (mkF m 98 #[.val (.ref r0), .val (.long q1), .second, .val (.ref r3), .val (.ref r3), .val (.int (1 : Int32)), .val (.int (0 : Int32)), .val (.long h), .second, .val (.int (Int32.ofNat n)), .val (.int (Int32.ofNat (n + 0))), .val (.int (Int32.ofNat (n + 1)))] [(.int (Int32.ofNat (n + 0))), (.ref rc), (.long (cs.getD (n + 1) 0))])) rfl rfl (hb hby d_rec10_98) _ ?_
        show Steps p.tables e below (T46.setTop (mkF m 99 #[.val (.ref r0), .val (.long q1), .second, .val (.ref r3), .val (.ref r3), .val (.int (1 : Int32)), .val (.int (0 : Int32)), .val (.long h), .second, .val (.int (Int32.ofNat n)), .val (.int (Int32.ofNat (n + 0))), .val (.int (Int32.ofNat (n + 1)))] [(.long (cs.getD (n + 0) 0)), (.long (cs.getD (n + 1) 0))])) _
        refine XS.lcmp X46.here hx rfl (hb hby d_rec10_99) rfl ?_
        exact ht
      by_cases hc51 : (cs.getD (n + 1) 0) < (cs.getD (n + 0) 0)
      · have k52 : Go p.tables e below (T46.setTop (mkF m 100 #[.val (.ref r0), .val (.long q1), .second, .val (.ref r3), .val (.ref r3), .val (.int (1 : Int32)), .val (.int (0 : Int32)), .val (.long h), .second, .val (.int (Int32.ofNat n)), .val (.int (Int32.ofNat (n + 0))), .val (.int (Int32.ofNat (n + 1)))] [(.int (lcmpW (cs.getD (n + 1) 0) (cs.getD (n + 0) 0)))])) (T46.setTop (mkF m 110 #[.val (.ref r0), .val (.long q1), .second, .val (.ref r3), .val (.ref r3), .val (.int (1 : Int32)), .val (.int (0 : Int32)), .val (.long h), .second, .val (.int (Int32.ofNat n)), .val (.int (Int32.ofNat (n + 1))), .val (.int ((Int32.ofNat (n + 1)) + (1 : Int32)))] [])) := by
          intro t ht
          refine XS.ifNo X46.here hx rfl (hb hby d_rec10_100) rfl ((if0 _ _).trans (tlt (own_ltL hc51)).2.1) ?_
          show Steps p.tables e below (T46.setTop (mkF m 103 #[.val (.ref r0), .val (.long q1), .second, .val (.ref r3), .val (.ref r3), .val (.int (1 : Int32)), .val (.int (0 : Int32)), .val (.long h), .second, .val (.int (Int32.ofNat n)), .val (.int (Int32.ofNat (n + 0))), .val (.int (Int32.ofNat (n + 1)))] [])) _
          refine XS.iload X46.here hx rfl (hb hby d_rec10_103) rfl ?_
          show Steps p.tables e below (T46.setTop (mkF m 105 #[.val (.ref r0), .val (.long q1), .second, .val (.ref r3), .val (.ref r3), .val (.int (1 : Int32)), .val (.int (0 : Int32)), .val (.long h), .second, .val (.int (Int32.ofNat n)), .val (.int (Int32.ofNat (n + 0))), .val (.int (Int32.ofNat (n + 1)))] [(.int (Int32.ofNat (n + 1)))])) _
          refine XS.istore X46.here hx rfl (hb hby d_rec10_105) rfl (l' := #[.val (.ref r0), .val (.long q1), .second, .val (.ref r3), .val (.ref r3), .val (.int (1 : Int32)), .val (.int (0 : Int32)), .val (.long h), .second, .val (.int (Int32.ofNat n)), .val (.int (Int32.ofNat (n + 1))), .val (.int (Int32.ofNat (n + 1)))]) rfl ?_
          show Steps p.tables e below (T46.setTop (mkF m 107 #[.val (.ref r0), .val (.long q1), .second, .val (.ref r3), .val (.ref r3), .val (.int (1 : Int32)), .val (.int (0 : Int32)), .val (.long h), .second, .val (.int (Int32.ofNat n)), .val (.int (Int32.ofNat (n + 1))), .val (.int (Int32.ofNat (n + 1)))] [])) _
          refine XS.iinc X46.here hx rfl (hb hby d_rec10_107) rfl (l' := #[.val (.ref r0), .val (.long q1), .second, .val (.ref r3), .val (.ref r3), .val (.int (1 : Int32)), .val (.int (0 : Int32)), .val (.long h), .second, .val (.int (Int32.ofNat n)), .val (.int (Int32.ofNat (n + 1))), .val (.int ((Int32.ofNat (n + 1)) + (1 : Int32)))]) rfl ?_
          exact ht
        have k53 : Go p.tables e below (T46.setTop (mkF m 110 #[.val (.ref r0), .val (.long q1), .second, .val (.ref r3), .val (.ref r3), .val (.int (1 : Int32)), .val (.int (0 : Int32)), .val (.long h), .second, .val (.int (Int32.ofNat n)), .val (.int (Int32.ofNat (n + 1))), .val (.int ((Int32.ofNat (n + 1)) + (1 : Int32)))] [])) (T46.setTop (mkF m 110 #[.val (.ref r0), .val (.long q1), .second, .val (.ref r3), .val (.ref r3), .val (.int (1 : Int32)), .val (.int (0 : Int32)), .val (.long h), .second, .val (.int (Int32.ofNat n)), .val (.int (Int32.ofNat (n + 1))), .val (.int (Int32.ofNat (n + 2)))] [])) := by rw [own_inc]; exact fun _ h => h
        have k54 : Go p.tables e below (T46.setTop (mkF m 110 #[.val (.ref r0), .val (.long q1), .second, .val (.ref r3), .val (.ref r3), .val (.int (1 : Int32)), .val (.int (0 : Int32)), .val (.long h), .second, .val (.int (Int32.ofNat n)), .val (.int (Int32.ofNat (n + 1))), .val (.int (Int32.ofNat (n + 2)))] [])) (T46.setTop (mkF m 41 #[.val (.ref r0), .val (.long q1), .second, .val (.ref r3), .val (.ref r3), .val (.int (1 : Int32)), .val (.int (0 : Int32)), .val (.long h), .second, .val (.int (Int32.ofNat n)), .val (.int (Int32.ofNat (n + 1))), .val (.int (Int32.ofNat (n + 2)))] [])) := by
          intro t ht
          refine XS.goto X46.here hx rfl (pc0 := 110) (pc' := 41) rfl (hb hby d_rec10_110) (by decide) (by decide) ?_
          exact ht
        obtain ⟨T55, L55, x55_0, X55, N55, e55, kr55⟩ := pc_rec21 r0 r3 ra rc q1 h B S M n ka kc hs cs X46 hx hZ hw hby hml hown e46 N0 Z0 Fb Fs Fh Fc E_r0 Va Vc hS hM hn
        refine ⟨T55, L55, x55_0, X55, N55, e55, ?_⟩
        have kk := goT (goT k1 (goT k2 (goT k3 (goT k5 (goT k6 (goT k7 (goT k10 (goT k40 (goT k41 (goT k42 (goT k45 (goT k46 (goT k47 (goT k50 (goT k52 (goT k53 k54)))))))))))))))) kr55
        simpa only [f_rec10, if_pos hc4, if_neg hc11, if_pos hc51] using kk
      · have k56 : Go p.tables e below (T46.setTop (mkF m 100 #[.val (.ref r0), .val (.long q1), .second, .val (.ref r3), .val (.ref r3), .val (.int (1 : Int32)), .val (.int (0 : Int32)), .val (.long h), .second, .val (.int (Int32.ofNat n)), .val (.int (Int32.ofNat (n + 0))), .val (.int (Int32.ofNat (n + 1)))] [(.int (lcmpW (cs.getD (n + 1) 0) (cs.getD (n + 0) 0)))])) (T46.setTop (mkF m 110 #[.val (.ref r0), .val (.long q1), .second, .val (.ref r3), .val (.ref r3), .val (.int (1 : Int32)), .val (.int (0 : Int32)), .val (.long h), .second, .val (.int (Int32.ofNat n)), .val (.int (Int32.ofNat (n + 0))), .val (.int ((Int32.ofNat (n + 1)) + (1 : Int32)))] [])) := by
          intro t ht
          refine XS.ifYes X46.here hx rfl (pc0 := 100) (pc' := 107) rfl (hb hby d_rec10_100) rfl ((if0 _ _).trans (flt (own_nltL hc51)).2.1) (by decide) (by decide) ?_
          show Steps p.tables e below (T46.setTop (mkF m 107 #[.val (.ref r0), .val (.long q1), .second, .val (.ref r3), .val (.ref r3), .val (.int (1 : Int32)), .val (.int (0 : Int32)), .val (.long h), .second, .val (.int (Int32.ofNat n)), .val (.int (Int32.ofNat (n + 0))), .val (.int (Int32.ofNat (n + 1)))] [])) _
          refine XS.iinc X46.here hx rfl (hb hby d_rec10_107) rfl (l' := #[.val (.ref r0), .val (.long q1), .second, .val (.ref r3), .val (.ref r3), .val (.int (1 : Int32)), .val (.int (0 : Int32)), .val (.long h), .second, .val (.int (Int32.ofNat n)), .val (.int (Int32.ofNat (n + 0))), .val (.int ((Int32.ofNat (n + 1)) + (1 : Int32)))]) rfl ?_
          exact ht
        have k57 : Go p.tables e below (T46.setTop (mkF m 110 #[.val (.ref r0), .val (.long q1), .second, .val (.ref r3), .val (.ref r3), .val (.int (1 : Int32)), .val (.int (0 : Int32)), .val (.long h), .second, .val (.int (Int32.ofNat n)), .val (.int (Int32.ofNat (n + 0))), .val (.int ((Int32.ofNat (n + 1)) + (1 : Int32)))] [])) (T46.setTop (mkF m 110 #[.val (.ref r0), .val (.long q1), .second, .val (.ref r3), .val (.ref r3), .val (.int (1 : Int32)), .val (.int (0 : Int32)), .val (.long h), .second, .val (.int (Int32.ofNat n)), .val (.int (Int32.ofNat (n + 0))), .val (.int (Int32.ofNat (n + 2)))] [])) := by rw [own_inc]; exact fun _ h => h
        have k58 : Go p.tables e below (T46.setTop (mkF m 110 #[.val (.ref r0), .val (.long q1), .second, .val (.ref r3), .val (.ref r3), .val (.int (1 : Int32)), .val (.int (0 : Int32)), .val (.long h), .second, .val (.int (Int32.ofNat n)), .val (.int (Int32.ofNat (n + 0))), .val (.int (Int32.ofNat (n + 2)))] [])) (T46.setTop (mkF m 41 #[.val (.ref r0), .val (.long q1), .second, .val (.ref r3), .val (.ref r3), .val (.int (1 : Int32)), .val (.int (0 : Int32)), .val (.long h), .second, .val (.int (Int32.ofNat n)), .val (.int (Int32.ofNat (n + 0))), .val (.int (Int32.ofNat (n + 2)))] [])) := by
          intro t ht
          refine XS.goto X46.here hx rfl (pc0 := 110) (pc' := 41) rfl (hb hby d_rec10_110) (by decide) (by decide) ?_
          exact ht
        obtain ⟨T59, L59, x59_0, X59, N59, e59, kr59⟩ := pc_rec20 r0 r3 ra rc q1 h B S M n ka kc hs cs X46 hx hZ hw hby hml hown e46 N0 Z0 Fb Fs Fh Fc E_r0 Va Vc hS hM hn
        refine ⟨T59, L59, x59_0, X59, N59, e59, ?_⟩
        have kk := goT (goT k1 (goT k2 (goT k3 (goT k5 (goT k6 (goT k7 (goT k10 (goT k40 (goT k41 (goT k42 (goT k45 (goT k46 (goT k47 (goT k50 (goT k56 (goT k57 k58)))))))))))))))) kr59
        simpa only [f_rec10, if_pos hc4, if_neg hc11, if_neg hc51] using kk
  · have k60 : Go p.tables e below (T2.setTop (mkF m 50 #[.val (.ref r0), .val (.long q1), .second, .val (.ref r3), .val (.ref r3), .val (.int (1 : Int32)), .val (.int (0 : Int32)), .val (.long h), .second, .val (.int (Int32.ofNat n)), .val (.int (Int32.ofNat (n + 0))), .val (.int (Int32.ofNat (n + 1)))] [(.int ((Int32.ofNat n) + (Int32.ofNat S))), (.int (Int32.ofNat (n + 1)))])) (T2.setTop (mkF m 113 #[.val (.ref r0), .val (.long q1), .second, .val (.ref r3), .val (.ref r3), .val (.int (1 : Int32)), .val (.int (0 : Int32)), .val (.long h), .second, .val (.int (Int32.ofNat n)), .val (.int (Int32.ofNat (n + 0))), .val (.int (Int32.ofNat (n + 1)))] [])) := by
      intro t ht
      refine XS.icmpYes X2.here hx rfl (pc0 := 50) (pc' := 113) rfl (hb hby d_rec10_50) rfl (flt hc4).2.1 (by decide) (by decide) ?_
      exact ht
    refine ⟨T2, _, (.val (.int (Int32.ofNat (n + 1)))), X2, N0, e2, ?_⟩
    have kk := (goT k1 (goT k2 (goT k3 k60)))
    simpa only [f_rec10, if_neg hc4] using kk
theorem d_rec00_41 : decode prog_25_method_5_code 41 = .ok (.iload 11, 2) := by decide +kernel
theorem d_rec00_43 : decode prog_25_method_5_code 43 = .ok (.iload 9, 2) := by decide +kernel
theorem d_rec00_45 : decode prog_25_method_5_code 45 = .ok (.aload_n 0, 1) := by decide +kernel
theorem d_rec00_46 : decode prog_25_method_5_code 46 = .ok (.getfield 26, 3) := by decide +kernel
theorem d_rec00_49 : decode prog_25_method_5_code 49 = .ok (.iadd, 1) := by decide +kernel
theorem d_rec00_50 : decode prog_25_method_5_code 50 = .ok (.if_icmp .ge 63, 3) := by decide +kernel
theorem d_rec00_53 : decode prog_25_method_5_code 53 = .ok (.aload_n 0, 1) := by decide +kernel
theorem d_rec00_54 : decode prog_25_method_5_code 54 = .ok (.getfield 29, 3) := by decide +kernel
theorem d_rec00_57 : decode prog_25_method_5_code 57 = .ok (.iload 11, 2) := by decide +kernel
theorem d_rec00_59 : decode prog_25_method_5_code 59 = .ok (.laload, 1) := by decide +kernel
theorem d_rec00_60 : decode prog_25_method_5_code 60 = .ok (.lload 7, 2) := by decide +kernel
theorem d_rec00_62 : decode prog_25_method_5_code 62 = .ok (.lcmp, 1) := by decide +kernel
theorem d_rec00_63 : decode prog_25_method_5_code 63 = .ok (.ifCond .ne 22, 3) := by decide +kernel
theorem d_rec00_66 : decode prog_25_method_5_code 66 = .ok (.aload_n 0, 1) := by decide +kernel
theorem d_rec00_67 : decode prog_25_method_5_code 67 = .ok (.getfield 33, 3) := by decide +kernel
theorem d_rec00_70 : decode prog_25_method_5_code 70 = .ok (.iload 11, 2) := by decide +kernel
theorem d_rec00_72 : decode prog_25_method_5_code 72 = .ok (.laload, 1) := by decide +kernel
theorem d_rec00_73 : decode prog_25_method_5_code 73 = .ok (.lconst 0, 1) := by decide +kernel
theorem d_rec00_74 : decode prog_25_method_5_code 74 = .ok (.lcmp, 1) := by decide +kernel
theorem d_rec00_75 : decode prog_25_method_5_code 75 = .ok (.ifCond .eq 10, 3) := by decide +kernel
theorem d_rec00_78 : decode prog_25_method_5_code 78 = .ok (.iload 11, 2) := by decide +kernel
theorem d_rec00_80 : decode prog_25_method_5_code 80 = .ok (.istore 10, 2) := by decide +kernel
theorem d_rec00_82 : decode prog_25_method_5_code 82 = .ok (.goto 31, 3) := by decide +kernel
theorem d_rec00_85 : decode prog_25_method_5_code 85 = .ok (.aload_n 0, 1) := by decide +kernel
theorem d_rec00_86 : decode prog_25_method_5_code 86 = .ok (.getfield 33, 3) := by decide +kernel
theorem d_rec00_89 : decode prog_25_method_5_code 89 = .ok (.iload 11, 2) := by decide +kernel
theorem d_rec00_91 : decode prog_25_method_5_code 91 = .ok (.laload, 1) := by decide +kernel
theorem d_rec00_92 : decode prog_25_method_5_code 92 = .ok (.aload_n 0, 1) := by decide +kernel
theorem d_rec00_93 : decode prog_25_method_5_code 93 = .ok (.getfield 33, 3) := by decide +kernel
theorem d_rec00_96 : decode prog_25_method_5_code 96 = .ok (.iload 10, 2) := by decide +kernel
theorem d_rec00_98 : decode prog_25_method_5_code 98 = .ok (.laload, 1) := by decide +kernel
theorem d_rec00_99 : decode prog_25_method_5_code 99 = .ok (.lcmp, 1) := by decide +kernel
theorem d_rec00_100 : decode prog_25_method_5_code 100 = .ok (.ifCond .ge 7, 3) := by decide +kernel
theorem d_rec00_107 : decode prog_25_method_5_code 107 = .ok (.iinc 11 1, 3) := by decide +kernel
theorem d_rec00_110 : decode prog_25_method_5_code 110 = .ok (.goto (-69), 3) := by decide +kernel
def f_rec00 (n S : Nat) (h : Int64) (hs cs : List Int64) : Nat := (if (Int32.ofNat (n + 0)) < ((Int32.ofNat n) + (Int32.ofNat S)) then (if (hs.getD (n + 0) 0) = h then (if (cs.getD (n + 0) 0) = (0 : Int64) then (f_rec10 n S h hs cs) else 0) else (f_rec10 n S h hs cs)) else 0)
set_option maxRecDepth 65536 in
set_option maxHeartbeats 40000000 in
theorem pc_rec00 {p : Program} {l : Launch} {e : Env} {s : State} {m : MethodId} {below : List Frame} {meth : Method} {c : Code} {T0 : State} {locs : List Loc} {Z : State} {a0 : Array Value} {h0 : Heap} {n0 : Nat} (r0 r3 ra rc : Addr) (q1 h : Int64) (B S M n : Nat) (ka kc : ClassId) (hs cs : List Int64)
    (X0 : Stand p l e ({ frames := 2, cells := 0, slots := 0, locals := 33 } : Room) s m #[(.ref r0), (.long q1), (.ref r3)] below meth c T0 locs 0 0) (hx : p.tables.exec = Jvm.exec) (hZ : Z.Warmed39 s.vm) (hw : ∀ d ∈ tables_1, d.before a0 Z = true) (hby : c.code = prog_25_method_5_code) (hml : c.maxLocals = 12) (hown : s.vm.findClass "com/example/auspex/auspex/manager/ConflictTable" = some m.cls) (e0 : T0.heap = h0) (N0 : Fr n0 locs) (Z0 : n0 ≤ h0.size) (Fb : Fld Z h0 r0 "com/example/auspex/auspex/manager/ConflictTable" "buckets" "I" (.int (Int32.ofNat B))) (Fs : Fld Z h0 r0 "com/example/auspex/auspex/manager/ConflictTable" "slotsPerBucket" "I" (.int (Int32.ofNat S))) (Fh : Fld Z h0 r0 "com/example/auspex/auspex/manager/ConflictTable" "hashes" "[J" (.ref ra)) (Fc : Fld Z h0 r0 "com/example/auspex/auspex/manager/ConflictTable" "commits" "[J" (.ref rc)) (E_r0 : Exa Z h0 r0 "com/example/auspex/auspex/manager/ConflictTable") (Va : Arv Z h0 ra ka .long (Int32.ofNat M) (hs.map Value.long) (.long (0 : Int64))) (Vc : Arv Z h0 rc kc .long (Int32.ofNat M) (cs.map Value.long) (.long (0 : Int64))) (hS : 1 ≤ S ∧ S ≤ 3) (hM : M ≤ 12) (hn : n + S ≤ M) :
    ∃ (T' : State) (L' : List Loc) (w11 : Slot), Stand p l e ({ frames := 2, cells := 0, slots := 0, locals := 33 } : Room) s m #[(.ref r0), (.long q1), (.ref r3)] below meth c T' L' 0 0 ∧ Fr n0 L' ∧ T'.heap = h0 ∧ Go p.tables e below (T0.setTop (mkF m 41 #[.val (.ref r0), .val (.long q1), .second, .val (.ref r3), .val (.ref r3), .val (.int (1 : Int32)), .val (.int (0 : Int32)), .val (.long h), .second, .val (.int (Int32.ofNat n)), .val (.int (Int32.ofNat (n + 0))), .val (.int (Int32.ofNat (n + 0)))] [])) (T'.setTop (mkF m 113 #[.val (.ref r0), .val (.long q1), .second, .val (.ref r3), .val (.ref r3), .val (.int (1 : Int32)), .val (.int (0 : Int32)), .val (.long h), .second, .val (.int (Int32.ofNat n)), .val (.int (Int32.ofNat (n + (f_rec00 n S h hs cs)))), w11] [])) := by
  have k1 : Go p.tables e below (T0.setTop (mkF m 41 #[.val (.ref r0), .val (.long q1), .second, .val (.ref r3), .val (.ref r3), .val (.int (1 : Int32)), .val (.int (0 : Int32)), .val (.long h), .second, .val (.int (Int32.ofNat n)), .val (.int (Int32.ofNat (n + 0))), .val (.int (Int32.ofNat (n + 0)))] [])) (T0.setTop (mkF m 46 #[.val (.ref r0), .val (.long q1), .second, .val (.ref r3), .val (.ref r3), .val (.int (1 : Int32)), .val (.int (0 : Int32)), .val (.long h), .second, .val (.int (Int32.ofNat n)), .val (.int (Int32.ofNat (n + 0))), .val (.int (Int32.ofNat (n + 0)))] [(.ref r0), (.int (Int32.ofNat n)), (.int (Int32.ofNat (n + 0)))])) := by
    intro t ht
    refine XS.iload X0.here hx rfl (hb hby d_rec00_41) rfl ?_
    show Steps p.tables e below (T0.setTop (mkF m 43 #[.val (.ref r0), .val (.long q1), .second, .val (.ref r3), .val (.ref r3), .val (.int (1 : Int32)), .val (.int (0 : Int32)), .val (.long h), .second, .val (.int (Int32.ofNat n)), .val (.int (Int32.ofNat (n + 0))), .val (.int (Int32.ofNat (n + 0)))] [(.int (Int32.ofNat (n + 0)))])) _
    refine XS.iload X0.here hx rfl (hb hby d_rec00_43) rfl ?_
    show Steps p.tables e below (T0.setTop (mkF m 45 #[.val (.ref r0), .val (.long q1), .second, .val (.ref r3), .val (.ref r3), .val (.int (1 : Int32)), .val (.int (0 : Int32)), .val (.long h), .second, .val (.int (Int32.ofNat n)), .val (.int (Int32.ofNat (n + 0))), .val (.int (Int32.ofNat (n + 0)))] [(.int (Int32.ofNat n)), (.int (Int32.ofNat (n + 0)))])) _
    refine XS.aloadN X0.here hx rfl (hb hby d_rec00_45) rfl rfl ?_
    exact ht
  obtain ⟨T2, X2, e2, st2⟩ := getF X0 hx hZ hown (host := "") (Or.inl (hw _ (List.mem_of_getElem? (i := 13) rfl))) Via.refl e0 Fs (g := (mkF m 46 #[.val (.ref r0), .val (.long q1), .second, .val (.ref r3), .val (.ref r3), .val (.int (1 : Int32)), .val (.int (0 : Int32)), .val (.long h), .second, .val (.int (Int32.ofNat n)), .val (.int (Int32.ofNat (n + 0))), .val (.int (Int32.ofNat (n + 0)))] [(.ref r0), (.int (Int32.ofNat n)), (.int (Int32.ofNat (n + 0)))])) rfl rfl (hb hby d_rec00_46)
  have k2 : Go p.tables e below (T0.setTop (mkF m 46 #[.val (.ref r0), .val (.long q1), .second, .val (.ref r3), .val (.ref r3), .val (.int (1 : Int32)), .val (.int (0 : Int32)), .val (.long h), .second, .val (.int (Int32.ofNat n)), .val (.int (Int32.ofNat (n + 0))), .val (.int (Int32.ofNat (n + 0)))] [(.ref r0), (.int (Int32.ofNat n)), (.int (Int32.ofNat (n + 0)))])) (T2.setTop (mkF m 49 #[.val (.ref r0), .val (.long q1), .second, .val (.ref r3), .val (.ref r3), .val (.int (1 : Int32)), .val (.int (0 : Int32)), .val (.long h), .second, .val (.int (Int32.ofNat n)), .val (.int (Int32.ofNat (n + 0))), .val (.int (Int32.ofNat (n + 0)))] [(.int (Int32.ofNat S)), (.int (Int32.ofNat n)), (.int (Int32.ofNat (n + 0)))])) := st2
  have k3 : Go p.tables e below (T2.setTop (mkF m 49 #[.val (.ref r0), .val (.long q1), .second, .val (.ref r3), .val (.ref r3), .val (.int (1 : Int32)), .val (.int (0 : Int32)), .val (.long h), .second, .val (.int (Int32.ofNat n)), .val (.int (Int32.ofNat (n + 0))), .val (.int (Int32.ofNat (n + 0)))] [(.int (Int32.ofNat S)), (.int (Int32.ofNat n)), (.int (Int32.ofNat (n + 0)))])) (T2.setTop (mkF m 50 #[.val (.ref r0), .val (.long q1), .second, .val (.ref r3), .val (.ref r3), .val (.int (1 : Int32)), .val (.int (0 : Int32)), .val (.long h), .second, .val (.int (Int32.ofNat n)), .val (.int (Int32.ofNat (n + 0))), .val (.int (Int32.ofNat (n + 0)))] [(.int ((Int32.ofNat n) + (Int32.ofNat S))), (.int (Int32.ofNat (n + 0)))])) := by
    intro t ht
    refine XS.iadd X2.here hx rfl (hb hby d_rec00_49) rfl ?_
    exact ht
  by_cases hc4 : (Int32.ofNat (n + 0)) < ((Int32.ofNat n) + (Int32.ofNat S))
  · have k5 : Go p.tables e below (T2.setTop (mkF m 50 #[.val (.ref r0), .val (.long q1), .second, .val (.ref r3), .val (.ref r3), .val (.int (1 : Int32)), .val (.int (0 : Int32)), .val (.long h), .second, .val (.int (Int32.ofNat n)), .val (.int (Int32.ofNat (n + 0))), .val (.int (Int32.ofNat (n + 0)))] [(.int ((Int32.ofNat n) + (Int32.ofNat S))), (.int (Int32.ofNat (n + 0)))])) (T2.setTop (mkF m 54 #[.val (.ref r0), .val (.long q1), .second, .val (.ref r3), .val (.ref r3), .val (.int (1 : Int32)), .val (.int (0 : Int32)), .val (.long h), .second, .val (.int (Int32.ofNat n)), .val (.int (Int32.ofNat (n + 0))), .val (.int (Int32.ofNat (n + 0)))] [(.ref r0)])) := by
      intro t ht
      refine XS.icmpNo X2.here hx rfl (hb hby d_rec00_50) rfl (tlt hc4).2.1 ?_
      show Steps p.tables e below (T2.setTop (mkF m 53 #[.val (.ref r0), .val (.long q1), .second, .val (.ref r3), .val (.ref r3), .val (.int (1 : Int32)), .val (.int (0 : Int32)), .val (.long h), .second, .val (.int (Int32.ofNat n)), .val (.int (Int32.ofNat (n + 0))), .val (.int (Int32.ofNat (n + 0)))] [])) _
      refine XS.aloadN X2.here hx rfl (hb hby d_rec00_53) rfl rfl ?_
      exact ht
    obtain ⟨T6, X6, e6, st6⟩ := getF X2 hx hZ hown (host := "") (Or.inl (hw _ (List.mem_of_getElem? (i := 16) rfl))) Via.refl e2 Fh (g := (mkF m 54 #[.val (.ref r0), .val (.long q1), .second, .val (.ref r3), .val (.ref r3), .val (.int (1 : Int32)), .val (.int (0 : Int32)), .val (.long h), .second, .val (.int (Int32.ofNat n)), .val (.int (Int32.ofNat (n + 0))), .val (.int (Int32.ofNat (n + 0)))] [(.ref r0)])) rfl rfl (hb hby d_rec00_54)
    have k6 : Go p.tables e below (T2.setTop (mkF m 54 #[.val (.ref r0), .val (.long q1), .second, .val (.ref r3), .val (.ref r3), .val (.int (1 : Int32)), .val (.int (0 : Int32)), .val (.long h), .second, .val (.int (Int32.ofNat n)), .val (.int (Int32.ofNat (n + 0))), .val (.int (Int32.ofNat (n + 0)))] [(.ref r0)])) (T6.setTop (mkF m 57 #[.val (.ref r0), .val (.long q1), .second, .val (.ref r3), .val (.ref r3), .val (.int (1 : Int32)), .val (.int (0 : Int32)), .val (.long h), .second, .val (.int (Int32.ofNat n)), .val (.int (Int32.ofNat (n + 0))), .val (.int (Int32.ofNat (n + 0)))] [(.ref ra)])) := st6
    have k7 : Go p.tables e below (T6.setTop (mkF m 57 #[.val (.ref r0), .val (.long q1), .second, .val (.ref r3), .val (.ref r3), .val (.int (1 : Int32)), .val (.int (0 : Int32)), .val (.long h), .second, .val (.int (Int32.ofNat n)), .val (.int (Int32.ofNat (n + 0))), .val (.int (Int32.ofNat (n + 0)))] [(.ref ra)])) (T6.setTop (mkF m 59 #[.val (.ref r0), .val (.long q1), .second, .val (.ref r3), .val (.ref r3), .val (.int (1 : Int32)), .val (.int (0 : Int32)), .val (.long h), .second, .val (.int (Int32.ofNat n)), .val (.int (Int32.ofNat (n + 0))), .val (.int (Int32.ofNat (n + 0)))] [(.int (Int32.ofNat (n + 0))), (.ref ra)])) := by
      intro t ht
      refine XS.iload X6.here hx rfl (hb hby d_rec00_57) rfl ?_
      exact ht
    obtain ⟨cl8, Ar8, q8, S8, M8, H8, G8⟩ := id Va
    have hjn9 : 0 < S := own_jS hM hn hc4 (by decide)
    have hin8 : ¬ ((Int32.ofNat (n + 0)) < 0 ∨ cl8.slots.size ≤ ((Int32.ofNat (n + 0))).toNatClampNeg) := inb_of S8 ⟨own_nneg (by omega), own_ltM (by omega) hM⟩
    have hat8 : cl8.slots[((Int32.ofNat (n + 0))).toNatClampNeg]? = some (.long (hs.getD (n + 0) 0)) := (H8 _ (Nat.lt_of_not_le fun y => hin8 (Or.inr y))).trans (congrArg some (own_getJ _ (by omega)))
    have k10 : Go p.tables e below (T6.setTop (mkF m 59 #[.val (.ref r0), .val (.long q1), .second, .val (.ref r3), .val (.ref r3), .val (.int (1 : Int32)), .val (.int (0 : Int32)), .val (.long h), .second, .val (.int (Int32.ofNat n)), .val (.int (Int32.ofNat (n + 0))), .val (.int (Int32.ofNat (n + 0)))] [(.int (Int32.ofNat (n + 0))), (.ref ra)])) (T6.setTop (mkF m 63 #[.val (.ref r0), .val (.long q1), .second, .val (.ref r3), .val (.ref r3), .val (.int (1 : Int32)), .val (.int (0 : Int32)), .val (.long h), .second, .val (.int (Int32.ofNat n)), .val (.int (Int32.ofNat (n + 0))), .val (.int (Int32.ofNat (n + 0)))] [(.int (lcmpW (hs.getD (n + 0) 0) h))])) := by
      intro t ht
      refine X6.laload hx (j := (Int32.ofNat (n + 0))) (v := (.long (hs.getD (n + 0) 0))) (by rw [e6]; exact Ar8.1) (State.isArrayOf_alike hZ.alike Ar8.2.1) Ar8.2.2 hin8 hat8 (g := (mkF m 59 #[.val (.ref r0), .val (.long q1), .second, .val (.ref r3), .val (.ref r3), .val (.int (1 : Int32)), .val (.int (0 : Int32)), .val (.long h), .second, .val (.int (Int32.ofNat n)), .val (.int (Int32.ofNat (n + 0))), .val (.int (Int32.ofNat (n + 0)))] [(.int (Int32.ofNat (n + 0))), (.ref ra)])) rfl rfl (hb hby d_rec00_59) _ ?_
      show Steps p.tables e below (T6.setTop (mkF m 60 #[.val (.ref r0), .val (.long q1), .second, .val (.ref r3), .val (.ref r3), .val (.int (1 : Int32)), .val (.int (0 : Int32)), .val (.long h), .second, .val (.int (Int32.ofNat n)), .val (.int (Int32.ofNat (n + 0))), .val (.int (Int32.ofNat (n + 0)))] [(.long (hs.getD (n + 0) 0))])) _
      refine XS.lload X6.here hx rfl (hb hby d_rec00_60) rfl ?_
      show Steps p.tables e below (T6.setTop (mkF m 62 #[.val (.ref r0), .val (.long q1), .second, .val (.ref r3), .val (.ref r3), .val (.int (1 : Int32)), .val (.int (0 : Int32)), .val (.long h), .second, .val (.int (Int32.ofNat n)), .val (.int (Int32.ofNat (n + 0))), .val (.int (Int32.ofNat (n + 0)))] [(.long h), (.long (hs.getD (n + 0) 0))])) _
      refine XS.lcmp X6.here hx rfl (hb hby d_rec00_62) rfl ?_
      exact ht
    by_cases hc11 : (hs.getD (n + 0) 0) = h
    · have k12 : Go p.tables e below (T6.setTop (mkF m 63 #[.val (.ref r0), .val (.long q1), .second, .val (.ref r3), .val (.ref r3), .val (.int (1 : Int32)), .val (.int (0 : Int32)), .val (.long h), .second, .val (.int (Int32.ofNat n)), .val (.int (Int32.ofNat (n + 0))), .val (.int (Int32.ofNat (n + 0)))] [(.int (lcmpW (hs.getD (n + 0) 0) h))])) (T6.setTop (mkF m 67 #[.val (.ref r0), .val (.long q1), .second, .val (.ref r3), .val (.ref r3), .val (.int (1 : Int32)), .val (.int (0 : Int32)), .val (.long h), .second, .val (.int (Int32.ofNat n)), .val (.int (Int32.ofNat (n + 0))), .val (.int (Int32.ofNat (n + 0)))] [(.ref r0)])) := by
        intro t ht
        refine XS.ifNo X6.here hx rfl (hb hby d_rec00_63) rfl ((if0 _ _).trans (teq (own_eqL hc11)).2) ?_
        show Steps p.tables e below (T6.setTop (mkF m 66 #[.val (.ref r0), .val (.long q1), .second, .val (.ref r3), .val (.ref r3), .val (.int (1 : Int32)), .val (.int (0 : Int32)), .val (.long h), .second, .val (.int (Int32.ofNat n)), .val (.int (Int32.ofNat (n + 0))), .val (.int (Int32.ofNat (n + 0)))] [])) _
        refine XS.aloadN X6.here hx rfl (hb hby d_rec00_66) rfl rfl ?_
        exact ht
      obtain ⟨T13, X13, e13, st13⟩ := getF X6 hx hZ hown (host := "") (Or.inl (hw _ (List.mem_of_getElem? (i := 18) rfl))) Via.refl e6 Fc (g := (mkF m 67 #[.val (.ref r0), .val (.long q1), .second, .val (.ref r3), .val (.ref r3), .val (.int (1 : Int32)), .val (.int (0 : Int32)), .val (.long h), .second, .val (.int (Int32.ofNat n)), .val (.int (Int32.ofNat (n + 0))), .val (.int (Int32.ofNat (n + 0)))] [(.ref r0)])) rfl rfl (hb hby d_rec00_67)
      have k13 : Go p.tables e below (T6.setTop (mkF m 67 #[.val (.ref r0), .val (.long q1), .second, .val (.ref r3), .val (.ref r3), .val (.int (1 : Int32)), .val (.int (0 : Int32)), .val (.long h), .second, .val (.int (Int32.ofNat n)), .val (.int (Int32.ofNat (n + 0))), .val (.int (Int32.ofNat (n + 0)))] [(.ref r0)])) (T13.setTop (mkF m 70 #[.val (.ref r0), .val (.long q1), .second, .val (.ref r3), .val (.ref r3), .val (.int (1 : Int32)), .val (.int (0 : Int32)), .val (.long h), .second, .val (.int (Int32.ofNat n)), .val (.int (Int32.ofNat (n + 0))), .val (.int (Int32.ofNat (n + 0)))] [(.ref rc)])) := st13
      have k14 : Go p.tables e below (T13.setTop (mkF m 70 #[.val (.ref r0), .val (.long q1), .second, .val (.ref r3), .val (.ref r3), .val (.int (1 : Int32)), .val (.int (0 : Int32)), .val (.long h), .second, .val (.int (Int32.ofNat n)), .val (.int (Int32.ofNat (n + 0))), .val (.int (Int32.ofNat (n + 0)))] [(.ref rc)])) (T13.setTop (mkF m 72 #[.val (.ref r0), .val (.long q1), .second, .val (.ref r3), .val (.ref r3), .val (.int (1 : Int32)), .val (.int (0 : Int32)), .val (.long h), .second, .val (.int (Int32.ofNat n)), .val (.int (Int32.ofNat (n + 0))), .val (.int (Int32.ofNat (n + 0)))] [(.int (Int32.ofNat (n + 0))), (.ref rc)])) := by
        intro t ht
        refine XS.iload X13.here hx rfl (hb hby d_rec00_70) rfl ?_
        exact ht
      obtain ⟨cl15, Ar15, q15, S15, M15, H15, G15⟩ := id Vc
      have hjn16 : 0 < S := own_jS hM hn hc4 (by decide)
      have hin15 : ¬ ((Int32.ofNat (n + 0)) < 0 ∨ cl15.slots.size ≤ ((Int32.ofNat (n + 0))).toNatClampNeg) := inb_of S15 ⟨own_nneg (by omega), own_ltM (by omega) hM⟩
      have hat15 : cl15.slots[((Int32.ofNat (n + 0))).toNatClampNeg]? = some (.long (cs.getD (n + 0) 0)) := (H15 _ (Nat.lt_of_not_le fun y => hin15 (Or.inr y))).trans (congrArg some (own_getJ _ (by omega)))
      have k17 : Go p.tables e below (T13.setTop (mkF m 72 #[.val (.ref r0), .val (.long q1), .second, .val (.ref r3), .val (.ref r3), .val (.int (1 : Int32)), .val (.int (0 : Int32)), .val (.long h), .second, .val (.int (Int32.ofNat n)), .val (.int (Int32.ofNat (n + 0))), .val (.int (Int32.ofNat (n + 0)))] [(.int (Int32.ofNat (n + 0))), (.ref rc)])) (T13.setTop (mkF m 75 #[.val (.ref r0), .val (.long q1), .second, .val (.ref r3), .val (.ref r3), .val (.int (1 : Int32)), .val (.int (0 : Int32)), .val (.long h), .second, .val (.int (Int32.ofNat n)), .val (.int (Int32.ofNat (n + 0))), .val (.int (Int32.ofNat (n + 0)))] [(.int (lcmpW (cs.getD (n + 0) 0) (0 : Int64)))])) := by
        intro t ht
        refine X13.laload hx (j := (Int32.ofNat (n + 0))) (v := (.long (cs.getD (n + 0) 0))) (by rw [e13]; exact Ar15.1) (State.isArrayOf_alike hZ.alike Ar15.2.1) Ar15.2.2 hin15 hat15 (g := (mkF m 72 #[.val (.ref r0), .val (.long q1), .second, .val (.ref r3), .val (.ref r3), .val (.int (1 : Int32)), .val (.int (0 : Int32)), .val (.long h), .second, .val (.int (Int32.ofNat n)), .val (.int (Int32.ofNat (n + 0))), .val (.int (Int32.ofNat (n + 0)))] [(.int (Int32.ofNat (n + 0))), (.ref rc)])) rfl rfl (hb hby d_rec00_72) _ ?_
        show Steps p.tables e below (T13.setTop (mkF m 73 #[.val (.ref r0), .val (.long q1), .second, .val (.ref r3), .val (.ref r3), .val (.int (1 : Int32)), .val (.int (0 : Int32)), .val (.long h), .second, .val (.int (Int32.ofNat n)), .val (.int (Int32.ofNat (n + 0))), .val (.int (Int32.ofNat (n + 0)))] [(.long (cs.getD (n + 0) 0))])) _
        refine XS.lconst X13.here hx rfl (hb hby d_rec00_73) ?_
        show Steps p.tables e below (T13.setTop (mkF m 74 #[.val (.ref r0), .val (.long q1), .second, .val (.ref r3), .val (.ref r3), .val (.int (1 : Int32)), .val (.int (0 : Int32)), .val (.long h), .second, .val (.int (Int32.ofNat n)), .val (.int (Int32.ofNat (n + 0))), .val (.int (Int32.ofNat (n + 0)))] [(.long (0 : Int64)), (.long (cs.getD (n + 0) 0))])) _
        refine XS.lcmp X13.here hx rfl (hb hby d_rec00_74) rfl ?_
        exact ht
      by_cases hc18 : (cs.getD (n + 0) 0) = (0 : Int64)
      · have k19 : Go p.tables e below (T13.setTop (mkF m 75 #[.val (.ref r0), .val (.long q1), .second, .val (.ref r3), .val (.ref r3), .val (.int (1 : Int32)), .val (.int (0 : Int32)), .val (.long h), .second, .val (.int (Int32.ofNat n)), .val (.int (Int32.ofNat (n + 0))), .val (.int (Int32.ofNat (n + 0)))] [(.int (lcmpW (cs.getD (n + 0) 0) (0 : Int64)))])) (T13.setTop (mkF m 86 #[.val (.ref r0), .val (.long q1), .second, .val (.ref r3), .val (.ref r3), .val (.int (1 : Int32)), .val (.int (0 : Int32)), .val (.long h), .second, .val (.int (Int32.ofNat n)), .val (.int (Int32.ofNat (n + 0))), .val (.int (Int32.ofNat (n + 0)))] [(.ref r0)])) := by
          intro t ht
          refine XS.ifYes X13.here hx rfl (pc0 := 75) (pc' := 85) rfl (hb hby d_rec00_75) rfl ((if0 _ _).trans (teq (own_eqL hc18)).1) (by decide) (by decide) ?_
          show Steps p.tables e below (T13.setTop (mkF m 85 #[.val (.ref r0), .val (.long q1), .second, .val (.ref r3), .val (.ref r3), .val (.int (1 : Int32)), .val (.int (0 : Int32)), .val (.long h), .second, .val (.int (Int32.ofNat n)), .val (.int (Int32.ofNat (n + 0))), .val (.int (Int32.ofNat (n + 0)))] [])) _
          refine XS.aloadN X13.here hx rfl (hb hby d_rec00_85) rfl rfl ?_
          exact ht
        obtain ⟨T20, X20, e20, st20⟩ := getF X13 hx hZ hown (host := "") (Or.inl (hw _ (List.mem_of_getElem? (i := 18) rfl))) Via.refl e13 Fc (g := (mkF m 86 #[.val (.ref r0), .val (.long q1), .second, .val (.ref r3), .val (.ref r3), .val (.int (1 : Int32)), .val (.int (0 : Int32)), .val (.long h), .second, .val (.int (Int32.ofNat n)), .val (.int (Int32.ofNat (n + 0))), .val (.int (Int32.ofNat (n + 0)))] [(.ref r0)])) rfl rfl (hb hby d_rec00_86)
        have k20 : Go p.tables e below (T13.setTop (mkF m 86 #[.val (.ref r0), .val (.long q1), .second, .val (.ref r3), .val (.ref r3), .val (.int (1 : Int32)), .val (.int (0 : Int32)), .val (.long h), .second, .val (.int (Int32.ofNat n)), .val (.int (Int32.ofNat (n + 0))), .val (.int (Int32.ofNat (n + 0)))] [(.ref r0)])) (T20.setTop (mkF m 89 #[.val (.ref r0), .val (.long q1), .second, .val (.ref r3), .val (.ref r3), .val (.int (1 : Int32)), .val (.int (0 : Int32)), .val (.long h), .second, .val (.int (Int32.ofNat n)), .val (.int (Int32.ofNat (n + 0))), .val (.int (Int32.ofNat (n + 0)))] [(.ref rc)])) := st20
        have k21 : Go p.tables e below (T20.setTop (mkF m 89 #[.val (.ref r0), .val (.long q1), .second, .val (.ref r3), .val (.ref r3), .val (.int (1 : Int32)), .val (.int (0 : Int32)), .val (.long h), .second, .val (.int (Int32.ofNat n)), .val (.int (Int32.ofNat (n + 0))), .val (.int (Int32.ofNat (n + 0)))] [(.ref rc)])) (T20.setTop (mkF m 91 #[.val (.ref r0), .val (.long q1), .second, .val (.ref r3), .val (.ref r3), .val (.int (1 : Int32)), .val (.int (0 : Int32)), .val (.long h), .second, .val (.int (Int32.ofNat n)), .val (.int (Int32.ofNat (n + 0))), .val (.int (Int32.ofNat (n + 0)))] [(.int (Int32.ofNat (n + 0))), (.ref rc)])) := by
          intro t ht
          refine XS.iload X20.here hx rfl (hb hby d_rec00_89) rfl ?_
          exact ht
        obtain ⟨cl22, Ar22, q22, S22, M22, H22, G22⟩ := id Vc
        have hjn23 : 0 < S := own_jS hM hn hc4 (by decide)
        have hin22 : ¬ ((Int32.ofNat (n + 0)) < 0 ∨ cl22.slots.size ≤ ((Int32.ofNat (n + 0))).toNatClampNeg) := inb_of S22 ⟨own_nneg (by omega), own_ltM (by omega) hM⟩
        have hat22 : cl22.slots[((Int32.ofNat (n + 0))).toNatClampNeg]? = some (.long (cs.getD (n + 0) 0)) := (H22 _ (Nat.lt_of_not_le fun y => hin22 (Or.inr y))).trans (congrArg some (own_getJ _ (by omega)))
        have k24 : Go p.tables e below (T20.setTop (mkF m 91 #[.val (.ref r0), .val (.long q1), .second, .val (.ref r3), .val (.ref r3), .val (.int (1 : Int32)), .val (.int (0 : Int32)), .val (.long h), .second, .val (.int (Int32.ofNat n)), .val (.int (Int32.ofNat (n + 0))), .val (.int (Int32.ofNat (n + 0)))] [(.int (Int32.ofNat (n + 0))), (.ref rc)])) (T20.setTop (mkF m 93 #[.val (.ref r0), .val (.long q1), .second, .val (.ref r3), .val (.ref r3), .val (.int (1 : Int32)), .val (.int (0 : Int32)), .val (.long h), .second, .val (.int (Int32.ofNat n)), .val (.int (Int32.ofNat (n + 0))), .val (.int (Int32.ofNat (n + 0)))] [(.ref r0), (.long (cs.getD (n + 0) 0))])) := by
          intro t ht
          refine X20.laload hx (j := (Int32.ofNat (n + 0))) (v := (.long (cs.getD (n + 0) 0))) (by rw [e20]; exact Ar22.1) (State.isArrayOf_alike hZ.alike Ar22.2.1) Ar22.2.2 hin22 hat22 (g := (mkF m 91 #[.val (.ref r0), .val (.long q1), .second, .val (.ref r3), .val (.ref r3), .val (.int (1 : Int32)), .val (.int (0 : Int32)), .val (.long h), .second, .val (.int (Int32.ofNat n)), .val (.int (Int32.ofNat (n + 0))), .val (.int (Int32.ofNat (n + 0)))] [(.int (Int32.ofNat (n + 0))), (.ref rc)])) rfl rfl (hb hby d_rec00_91) _ ?_
          show Steps p.tables e below (T20.setTop (mkF m 92 #[.val (.ref r0), .val (.long q1), .second, .val (.ref r3), .val (.ref r3), .val (.int (1 : Int32)), .val (.int (0 : Int32)), .val (.long h), .second, .val (.int (Int32.ofNat n)), .val (.int (Int32.ofNat (n + 0))), .val (.int (Int32.ofNat (n + 0)))] [(.long (cs.getD (n + 0) 0))])) _
          refine XS.aloadN X20.here hx rfl (hb hby d_rec00_92) rfl rfl ?_
          exact ht
        obtain ⟨T25, X25, e25, st25⟩ := getF X20 hx hZ hown (host := "") (Or.inl (hw _ (List.mem_of_getElem? (i := 18) rfl))) Via.refl e20 Fc (g := (mkF m 93 #[.val (.ref r0), .val (.long q1), .second, .val (.ref r3), .val (.ref r3), .val (.int (1 : Int32)), .val (.int (0 : Int32)), .val (.long h), .second, .val (.int (Int32.ofNat n)), .val (.int (Int32.ofNat (n + 0))), .val (.int (Int32.ofNat (n + 0)))] [(.ref r0), (.long (cs.getD (n + 0) 0))])) rfl rfl (hb hby d_rec00_93)
        have k25 : Go p.tables e below (T20.setTop (mkF m 93 #[.val (.ref r0), .val (.long q1), .second, .val (.ref r3), .val (.ref r3), .val (.int (1 : Int32)), .val (.int (0 : Int32)), .val (.long h), .second, .val (.int (Int32.ofNat n)), .val (.int (Int32.ofNat (n + 0))), .val (.int (Int32.ofNat (n + 0)))] [(.ref r0), (.long (cs.getD (n + 0) 0))])) (T25.setTop (mkF m 96 #[.val (.ref r0), .val (.long q1), .second, .val (.ref r3), .val (.ref r3), .val (.int (1 : Int32)), .val (.int (0 : Int32)), .val (.long h), .second, .val (.int (Int32.ofNat n)), .val (.int (Int32.ofNat (n + 0))), .val (.int (Int32.ofNat (n + 0)))] [(.ref rc), (.long (cs.getD (n + 0) 0))])) := st25
        have k26 : Go p.tables e below (T25.setTop (mkF m 96 #[.val (.ref r0), .val (.long q1), .second, .val (.ref r3), .val (.ref r3), .val (.int (1 : Int32)), .val (.int (0 : Int32)), .val (.long h), .second, .val (.int (Int32.ofNat n)), .val (.int (Int32.ofNat (n + 0))), .val (.int (Int32.ofNat (n + 0)))] [(.ref rc), (.long (cs.getD (n + 0) 0))])) (T25.setTop (mkF m 98 #[.val (.ref r0), .val (.long q1), .second, .val (.ref r3), .val (.ref r3), .val (.int (1 : Int32)), .val (.int (0 : Int32)), .val (.long h), .second, .val (.int (Int32.ofNat n)), .val (.int (Int32.ofNat (n + 0))), .val (.int (Int32.ofNat (n + 0)))] [(.int (Int32.ofNat (n + 0))), (.ref rc), (.long (cs.getD (n + 0) 0))])) := by
          intro t ht
          refine XS.iload X25.here hx rfl (hb hby d_rec00_96) rfl ?_
          exact ht
        obtain ⟨cl27, Ar27, q27, S27, M27, H27, G27⟩ := id Vc
        have hjn28 : 0 < S := own_jS hM hn hc4 (by decide)
        have hin27 : ¬ ((Int32.ofNat (n + 0)) < 0 ∨ cl27.slots.size ≤ ((Int32.ofNat (n + 0))).toNatClampNeg) := inb_of S27 ⟨own_nneg (by omega), own_ltM (by omega) hM⟩
        have hat27 : cl27.slots[((Int32.ofNat (n + 0))).toNatClampNeg]? = some (.long (cs.getD (n + 0) 0)) := (H27 _ (Nat.lt_of_not_le fun y => hin27 (Or.inr y))).trans (congrArg some (own_getJ _ (by omega)))
        have k29 : Go p.tables e below (T25.setTop (mkF m 98 #[.val (.ref r0), .val (.long q1), .second, .val (.ref r3), .val (.ref r3), .val (.int (1 : Int32)), .val (.int (0 : Int32)), .val (.long h), .second, .val (.int (Int32.ofNat n)), .val (.int (Int32.ofNat (n + 0))), .val (.int (Int32.ofNat (n + 0)))] [(.int (Int32.ofNat (n + 0))), (.ref rc), (.long (cs.getD (n + 0) 0))])) (T25.setTop (mkF m 110 #[.val (.ref r0), .val (.long q1), .second, .val (.ref r3), .val (.ref r3), .val (.int (1 : Int32)), .val (.int (0 : Int32)), .val (.long h), .second, .val (.int (Int32.ofNat n)), .val (.int (Int32.ofNat (n + 0))), .val (.int ((Int32.ofNat (n + 0)) + (1 : Int32)))] [])) := by
          intro t ht
          refine X25.laload hx (j := (Int32.ofNat (n + 0))) (v := (.long (cs.getD (n + 0) 0))) (by rw [e25]; exact Ar27.1) (State.isArrayOf_alike hZ.alike Ar27.2.1) Ar27.2.2 hin27 hat27 (g := (mkF m 98 #[.val (.ref r0), .val (.long q1), .second, .val (.ref r3), .val (.ref r3), .val (.int (1 : Int32)), .val (.int (0 : Int32)), .val (.long h), .second, .val (.int (Int32.ofNat n)), .val (.int (Int32.ofNat (n + 0))), .val (.int (Int32.ofNat (n + 0)))] [(.int (Int32.ofNat (n + 0))), (.ref rc), (.long (cs.getD (n + 0) 0))])) rfl rfl (hb hby d_rec00_98) _ ?_
          show Steps p.tables e below (T25.setTop (mkF m 99 #[.val (.ref r0), .val (.long q1), .second, .val (.ref r3), .val (.ref r3), .val (.int (1 : Int32)), .val (.int (0 : Int32)), .val (.long h), .second, .val (.int (Int32.ofNat n)), .val (.int (Int32.ofNat (n + 0))), .val (.int (Int32.ofNat (n + 0)))] [(.long (cs.getD (n + 0) 0)), (.long (cs.getD (n + 0) 0))])) _
          refine XS.lcmp X25.here hx rfl (hb hby d_rec00_99) rfl ?_
          show Steps p.tables e below (T25.setTop (mkF m 100 #[.val (.ref r0), .val (.long q1), .second, .val (.ref r3), .val (.ref r3), .val (.int (1 : Int32)), .val (.int (0 : Int32)), .val (.long h), .second, .val (.int (Int32.ofNat n)), .val (.int (Int32.ofNat (n + 0))), .val (.int (Int32.ofNat (n + 0)))] [(.int (lcmpW (cs.getD (n + 0) 0) (cs.getD (n + 0) 0)))])) _
          refine XS.ifYes X25.here hx rfl (pc0 := 100) (pc' := 107) rfl (hb hby d_rec00_100) rfl ((if0 _ _).trans (flt (own_nltL (by first | exact own_irr _ | exact fun q => Int64.lt_irrefl q : ¬ ((cs.getD (n + 0) 0) < (cs.getD (n + 0) 0))))).2.1) (by decide) (by decide) ?_
          show Steps p.tables e below (T25.setTop (mkF m 107 #[.val (.ref r0), .val (.long q1), .second, .val (.ref r3), .val (.ref r3), .val (.int (1 : Int32)), .val (.int (0 : Int32)), .val (.long h), .second, .val (.int (Int32.ofNat n)), .val (.int (Int32.ofNat (n + 0))), .val (.int (Int32.ofNat (n + 0)))] [])) _
          refine XS.iinc X25.here hx rfl (hb hby d_rec00_107) rfl (l' := #[.val (.ref r0), .val (.long q1), .second, .val (.ref r3), .val (.ref r3), .val (.int (1 : Int32)), .val (.int (0 : Int32)), .val (.long h), .second, .val (.int (Int32.ofNat n)), .val (.int (Int32.ofNat (n + 0))), .val (.int ((Int32.ofNat (n + 0)) + (1 : Int32)))]) rfl ?_
          exact ht
        have k30 : Go p.tables e below (T25.setTop (mkF m 110 #[.val (.ref r0), .val (.long q1), .second, .val (.ref r3), .val (.ref r3), .val (.int (1 : Int32)), .val (.int (0 : Int32)), .val (.long h), .second, .val (.int (Int32.ofNat n)), .val (.int (Int32.ofNat (n + 0))), .val (.int ((Int32.ofNat (n + 0)) + (1 : Int32)))] [])) (T25.setTop (mkF m 110 #[.val (.ref r0), .val (.long q1), .second, .val (.ref r3), .val (.ref r3), .val (.int (1 : Int32)), .val (.int (0 : Int32)), .val (.long h), .second, .val (.int (Int32.ofNat n)), .val (.int (Int32.ofNat (n + 0))), .val (.int (Int32.ofNat (n + 1)))] [])) := by rw [own_inc]; exact fun _ h => h
        have k31 : Go p.tables e below (T25.setTop (mkF m 110 #[.val (.ref r0), .val (.long q1), .second, .val (.ref r3), .val (.ref r3), .val (.int (1 : Int32)), .val (.int (0 : Int32)), .val (.long h), .second, .val (.int (Int32.ofNat n)), .val (.int (Int32.ofNat (n + 0))), .val (.int (Int32.ofNat (n + 1)))] [])) (T25.setTop (mkF m 41 #[.val (.ref r0), .val (.long q1), .second, .val (.ref r3), .val (.ref r3), .val (.int (1 : Int32)), .val (.int (0 : Int32)), .val (.long h), .second, .val (.int (Int32.ofNat n)), .val (.int (Int32.ofNat (n + 0))), .val (.int (Int32.ofNat (n + 1)))] [])) := by
          intro t ht
          refine XS.goto X25.here hx rfl (pc0 := 110) (pc' := 41) rfl (hb hby d_rec00_110) (by decide) (by decide) ?_
          exact ht
        obtain ⟨T32, L32, x32_0, X32, N32, e32, kr32⟩ := pc_rec10 r0 r3 ra rc q1 h B S M n ka kc hs cs X25 hx hZ hw hby hml hown e25 N0 Z0 Fb Fs Fh Fc E_r0 Va Vc hS hM hn
        refine ⟨T32, L32, x32_0, X32, N32, e32, ?_⟩
        have kk := goT (goT k1 (goT k2 (goT k3 (goT k5 (goT k6 (goT k7 (goT k10 (goT k12 (goT k13 (goT k14 (goT k17 (goT k19 (goT k20 (goT k21 (goT k24 (goT k25 (goT k26 (goT k29 (goT k30 k31))))))))))))))))))) kr32
        simpa only [f_rec00, if_pos hc4, if_pos hc11, if_pos hc18] using kk
      · have k33 : Go p.tables e below (T13.setTop (mkF m 75 #[.val (.ref r0), .val (.long q1), .second, .val (.ref r3), .val (.ref r3), .val (.int (1 : Int32)), .val (.int (0 : Int32)), .val (.long h), .second, .val (.int (Int32.ofNat n)), .val (.int (Int32.ofNat (n + 0))), .val (.int (Int32.ofNat (n + 0)))] [(.int (lcmpW (cs.getD (n + 0) 0) (0 : Int64)))])) (T13.setTop (mkF m 113 #[.val (.ref r0), .val (.long q1), .second, .val (.ref r3), .val (.ref r3), .val (.int (1 : Int32)), .val (.int (0 : Int32)), .val (.long h), .second, .val (.int (Int32.ofNat n)), .val (.int (Int32.ofNat (n + 0))), .val (.int (Int32.ofNat (n + 0)))] [])) := by
          intro t ht
          refine XS.ifNo X13.here hx rfl (hb hby d_rec00_75) rfl ((if0 _ _).trans (feq (own_neqL hc18)).1) ?_
          show Steps p.tables e below (T13.setTop (mkF m 78 #[.val (.ref r0), .val (.long q1), .second, .val (.ref r3), .val (.ref r3), .val (.int (1 : Int32)), .val (.int (0 : Int32)), .val (.long h), .second, .val (.int (Int32.ofNat n)), .val (.int (Int32.ofNat (n + 0))), .val (.int (Int32.ofNat (n + 0)))] [])) _
          refine XS.iload X13.here hx rfl (hb hby d_rec00_78) rfl ?_
          show Steps p.tables e below (T13.setTop (mkF m 80 #[.val (.ref r0), .val (.long q1), .second, .val (.ref r3), .val (.ref r3), .val (.int (1 : Int32)), .val (.int (0 : Int32)), .val (.long h), .second, .val (.int (Int32.ofNat n)), .val (.int (Int32.ofNat (n + 0))), .val (.int (Int32.ofNat (n + 0)))] [(.int (Int32.ofNat (n + 0)))])) _
          refine XS.istore X13.here hx rfl (hb hby d_rec00_80) rfl (l' := #[.val (.ref r0), .val (.long q1), .second, .val (.ref r3), .val (.ref r3), .val (.int (1 : Int32)), .val (.int (0 : Int32)), .val (.long h), .second, .val (.int (Int32.ofNat n)), .val (.int (Int32.ofNat (n + 0))), .val (.int (Int32.ofNat (n + 0)))]) rfl ?_
          show Steps p.tables e below (T13.setTop (mkF m 82 #[.val (.ref r0), .val (.long q1), .second, .val (.ref r3), .val (.ref r3), .val (.int (1 : Int32)), .val (.int (0 : Int32)), .val (.long h), .second, .val (.int (Int32.ofNat n)), .val (.int (Int32.ofNat (n + 0))), .val (.int (Int32.ofNat (n + 0)))] [])) _
          refine XS.goto X13.here hx rfl (pc0 := 82) (pc' := 113) rfl (hb hby d_rec00_82) (by decide) (by decide) ?_
          exact ht
        refine ⟨T13, _, (.val (.int (Int32.ofNat (n + 0)))), X13, N0, e13, ?_⟩
        have kk := (goT k1 (goT k2 (goT k3 (goT k5 (goT k6 (goT k7 (goT k10 (goT k12 (goT k13 (goT k14 (goT k17 k33)))))))))))
        simpa only [f_rec00, if_pos hc4, if_pos hc11, if_neg hc18] using kk
    · have k34 : Go p.tables e below (T6.setTop (mkF m 63 #[.val (.ref r0), .val (.long q1), .second, .val (.ref r3), .val (.ref r3), .val (.int (1 : Int32)), .val (.int (0 : Int32)), .val (.long h), .second, .val (.int (Int32.ofNat n)), .val (.int (Int32.ofNat (n + 0))), .val (.int (Int32.ofNat (n + 0)))] [(.int (lcmpW (hs.getD (n + 0) 0) h))])) (T6.setTop (mkF m 86 #[.val (.ref r0), .val (.long q1), .second, .val (.ref r3), .val (.ref r3), .val (.int (1 : Int32)), .val (.int (0 : Int32)), .val (.long h), .second, .val (.int (Int32.ofNat n)), .val (.int (Int32.ofNat (n + 0))), .val (.int (Int32.ofNat (n + 0)))] [(.ref r0)])) := by
        intro t ht
        refine XS.ifYes X6.here hx rfl (pc0 := 63) (pc' := 85) rfl (hb hby d_rec00_63) rfl ((if0 _ _).trans (feq (own_neqL hc11)).2) (by decide) (by decide) ?_
        show Steps p.tables e below (T6.setTop (mkF m 85 #[.val (.ref r0), .val (.long q1), .second, .val (.ref r3), .val (.ref r3), .val (.int (1 : Int32)), .val (.int (0 : Int32)), .val (.long h), .second, .val (.int (Int32.ofNat n)), .val (.int (Int32.ofNat (n + 0))), .val (.int (Int32.ofNat (n + 0)))] [])) _
        refine XS.aloadN X6.here hx rfl (hb hby d_rec00_85) rfl rfl ?_
        exact ht
      obtain ⟨T35, X35, e35, st35⟩ := getF X6 hx hZ hown (host := "") (Or.inl (hw _ (List.mem_of_getElem? (i := 18) rfl))) Via.refl e6 Fc (g := (mkF m 86 #[.val (.ref r0), .val (.long q1), .second, .val (.ref r3), .val (.ref r3), .val (.int (1 : Int32)), .val (.int (0 : Int32)), .val (.long h), .second, .val (.int (Int32.ofNat n)), .val (.int (Int32.ofNat (n + 0))), .val (.int (Int32.ofNat (n + 0)))] [(.ref r0)])) rfl rfl (hb hby d_rec00_86)
      have k35 : Go p.tables e below (T6.setTop (mkF m 86 #[.val (.ref r0), .val (.long q1), .second, .val (.ref r3), .val (.ref r3), .val (.int (1 : Int32)), .val (.int (0 : Int32)), .val (.long h), .second, .val (.int (Int32.ofNat n)), .val (.int (Int32.ofNat (n + 0))), .val (.int (Int32.ofNat (n + 0)))] [(.ref r0)])) (T35.setTop (mkF m 89 #[.val (.ref r0), .val (.long q1), .second, .val (.ref r3), .val (.ref r3), .val (.int (1 : Int32)), .val (.int (0 : Int32)), .val (.long h), .second, .val (.int (Int32.ofNat n)), .val (.int (Int32.ofNat (n + 0))), .val (.int (Int32.ofNat (n + 0)))] [(.ref rc)])) := st35
      have k36 : Go p.tables e below (T35.setTop (mkF m 89 #[.val (.ref r0), .val (.long q1), .second, .val (.ref r3), .val (.ref r3), .val (.int (1 : Int32)), .val (.int (0 : Int32)), .val (.long h), .second, .val (.int (Int32.ofNat n)), .val (.int (Int32.ofNat (n + 0))), .val (.int (Int32.ofNat (n + 0)))] [(.ref rc)])) (T35.setTop (mkF m 91 #[.val (.ref r0), .val (.long q1), .second, .val (.ref r3), .val (.ref r3), .val (.int (1 : Int32)), .val (.int (0 : Int32)), .val (.long h), .second, .val (.int (Int32.ofNat n)), .val (.int (Int32.ofNat (n + 0))), .val (.int (Int32.ofNat (n + 0)))] [(.int (Int32.ofNat (n + 0))), (.ref rc)])) := by
        intro t ht
        refine XS.iload X35.here hx rfl (hb hby d_rec00_89) rfl ?_
        exact ht
      obtain ⟨cl37, Ar37, q37, S37, M37, H37, G37⟩ := id Vc
      have hjn38 : 0 < S := own_jS hM hn hc4 (by decide)
      have hin37 : ¬ ((Int32.ofNat (n + 0)) < 0 ∨ cl37.slots.size ≤ ((Int32.ofNat (n + 0))).toNatClampNeg) := inb_of S37 ⟨own_nneg (by omega), own_ltM (by omega) hM⟩
      have hat37 : cl37.slots[((Int32.ofNat (n + 0))).toNatClampNeg]? = some (.long (cs.getD (n + 0) 0)) := (H37 _ (Nat.lt_of_not_le fun y => hin37 (Or.inr y))).trans (congrArg some (own_getJ _ (by omega)))
      have k39 : Go p.tables e below (T35.setTop (mkF m 91 #[.val (.ref r0), .val (.long q1), .second, .val (.ref r3), .val (.ref r3), .val (.int (1 : Int32)), .val (.int (0 : Int32)), .val (.long h), .second, .val (.int (Int32.ofNat n)), .val (.int (Int32.ofNat (n + 0))), .val (.int (Int32.ofNat (n + 0)))] [(.int (Int32.ofNat (n + 0))), (.ref rc)])) (T35.setTop (mkF m 93 #[.val (.ref r0), .val (.long q1), .second, .val (.ref r3), .val (.ref r3), .val (.int (1 : Int32)), .val (.int (0 : Int32)), .val (.long h), .second, .val (.int (Int32.ofNat n)), .val (.int (Int32.ofNat (n + 0))), .val (.int (Int32.ofNat (n + 0)))] [(.ref r0), (.long (cs.getD (n + 0) 0))])) := by
        intro t ht
        refine X35.laload hx (j := (Int32.ofNat (n + 0))) (v := (.long (cs.getD (n + 0) 0))) (by rw [e35]; exact Ar37.1) (State.isArrayOf_alike hZ.alike Ar37.2.1) Ar37.2.2 hin37 hat37 (g := (mkF m 91 #[.val (.ref r0), .val (.long q1), .second, .val (.ref r3), .val (.ref r3), .val (.int (1 : Int32)), .val (.int (0 : Int32)), .val (.long h), .second, .val (.int (Int32.ofNat n)), .val (.int (Int32.ofNat (n + 0))), .val (.int (Int32.ofNat (n + 0)))] [(.int (Int32.ofNat (n + 0))), (.ref rc)])) rfl rfl (hb hby d_rec00_91) _ ?_
        show Steps p.tables e below (T35.setTop (mkF m 92 #[.val (.ref r0), .val (.long q1), .second, .val (.ref r3), .val (.ref r3), .val (.int (1 : Int32)), .val (.int (0 : Int32)), .val (.long h), .second, .val (.int (Int32.ofNat n)), .val (.int (Int32.ofNat (n + 0))), .val (.int (Int32.ofNat (n + 0)))] [(.long (cs.getD (n + 0) 0))])) _
        refine XS.aloadN X35.here hx rfl (hb hby d_rec00_92) rfl rfl ?_
        exact ht
      obtain ⟨T40, X40, e40, st40⟩ := getF X35 hx hZ hown (host := "") (Or.inl (hw _ (List.mem_of_getElem? (i := 18) rfl))) Via.refl e35 Fc (g := (mkF m 93 #[.val (.ref r0), .val (.long q1), .second, .val (.ref r3), .val (.ref r3), .val (.int (1 : Int32)), .val (.int (0 : Int32)), .val (.long h), .second, .val (.int (Int32.ofNat n)), .val (.int (Int32.ofNat (n + 0))), .val (.int (Int32.ofNat (n + 0)))] [(.ref r0), (.long (cs.getD (n + 0) 0))])) rfl rfl (hb hby d_rec00_93)
      have k40 : Go p.tables e below (T35.setTop (mkF m 93 #[.val (.ref r0), .val (.long q1), .second, .val (.ref r3), .val (.ref r3), .val (.int (1 : Int32)), .val (.int (0 : Int32)), .val (.long h), .second, .val (.int (Int32.ofNat n)), .val (.int (Int32.ofNat (n + 0))), .val (.int (Int32.ofNat (n + 0)))] [(.ref r0), (.long (cs.getD (n + 0) 0))])) (T40.setTop (mkF m 96 #[.val (.ref r0), .val (.long q1), .second, .val (.ref r3), .val (.ref r3), .val (.int (1 : Int32)), .val (.int (0 : Int32)), .val (.long h), .second, .val (.int (Int32.ofNat n)), .val (.int (Int32.ofNat (n + 0))), .val (.int (Int32.ofNat (n + 0)))] [(.ref rc), (.long (cs.getD (n + 0) 0))])) := st40
      have k41 : Go p.tables e below (T40.setTop (mkF m 96 #[.val (.ref r0), .val (.long q1), .second, .val (.ref r3), .val (.ref r3), .val (.int (1 : Int32)), .val (.int (0 : Int32)), .val (.long h), .second, .val (.int (Int32.ofNat n)), .val (.int (Int32.ofNat (n + 0))), .val (.int (Int32.ofNat (n + 0)))] [(.ref rc), (.long (cs.getD (n + 0) 0))])) (T40.setTop (mkF m 98 #[.val (.ref r0), .val (.long q1), .second, .val (.ref r3), .val (.ref r3), .val (.int (1 : Int32)), .val (.int (0 : Int32)), .val (.long h), .second, .val (.int (Int32.ofNat n)), .val (.int (Int32.ofNat (n + 0))), .val (.int (Int32.ofNat (n + 0)))] [(.int (Int32.ofNat (n + 0))), (.ref rc), (.long (cs.getD (n + 0) 0))])) := by
        intro t ht
        refine XS.iload X40.here hx rfl (hb hby d_rec00_96) rfl ?_
        exact ht
      obtain ⟨cl42, Ar42, q42, S42, M42, H42, G42⟩ := id Vc
      have hjn43 : 0 < S := own_jS hM hn hc4 (by decide)
      have hin42 : ¬ ((Int32.ofNat (n + 0)) < 0 ∨ cl42.slots.size ≤ ((Int32.ofNat (n + 0))).toNatClampNeg) := inb_of S42 ⟨own_nneg (by omega), own_ltM (by omega) hM⟩
      have hat42 : cl42.slots[((Int32.ofNat (n + 0))).toNatClampNeg]? = some (.long (cs.getD (n + 0) 0)) := (H42 _ (Nat.lt_of_not_le fun y => hin42 (Or.inr y))).trans (congrArg some (own_getJ _ (by omega)))
      have k44 : Go p.tables e below (T40.setTop (mkF m 98 #[.val (.ref r0), .val (.long q1), .second, .val (.ref r3), .val (.ref r3), .val (.int (1 : Int32)), .val (.int (0 : Int32)), .val (.long h), .second, .val (.int (Int32.ofNat n)), .val (.int (Int32.ofNat (n + 0))), .val (.int (Int32.ofNat (n + 0)))] [(.int (Int32.ofNat (n + 0))), (.ref rc), (.long (cs.getD (n + 0) 0))])) (T40.setTop (mkF m 110 #[.val (.ref r0), .val (.long q1), .second, .val (.ref r3), .val (.ref r3), .val (.int (1 : Int32)), .val (.int (0 : Int32)), .val (.long h), .second, .val (.int (Int32.ofNat n)), .val (.int (Int32.ofNat (n + 0))), .val (.int ((Int32.ofNat (n + 0)) + (1 : Int32)))] [])) := by
        intro t ht
        refine X40.laload hx (j := (Int32.ofNat (n + 0))) (v := (.long (cs.getD (n + 0) 0))) (by rw [e40]; exact Ar42.1) (State.isArrayOf_alike hZ.alike Ar42.2.1) Ar42.2.2 hin42 hat42 (g := (mkF m 98 #[.val (.ref r0), .val (.long q1), .second, .val (.ref r3), .val (.ref r3), .val (.int (1 : Int32)), .val (.int (0 : Int32)), .val (.long h), .second, .val (.int (Int32.ofNat n)), .val (.int (Int32.ofNat (n + 0))), .val (.int (Int32.ofNat (n + 0)))] [(.int (Int32.ofNat (n + 0))), (.ref rc), (.long (cs.getD (n + 0) 0))])) rfl rfl (hb hby d_rec00_98) _ ?_
        show Steps p.tables e below (T40.setTop (mkF m 99 #[.val (.ref r0), .val (.long q1), .second, .val (.ref r3), .val (.ref r3), .val (.int (1 : Int32)), .val (.int (0 : Int32)), .val (.long h), .second, .val (.int (Int32.ofNat n)), .val (.int (Int32.ofNat (n + 0))), .val (.int (Int32.ofNat (n + 0)))] [(.long (cs.getD (n + 0) 0)), (.long (cs.getD (n + 0) 0))])) _
        refine XS.lcmp X40.here hx rfl (hb hby d_rec00_99) rfl ?_
        show Steps p.tables e below (T40.setTop (mkF m 100 #[.val (.ref r0), .val (.long q1), .second, .val (.ref r3), .val (.ref r3), .val (.int (1 : Int32)), .val (.int (0 : Int32)), .val (.long h), .second, .val (.int (Int32.ofNat n)), .val (.int (Int32.ofNat (n + 0))), .val (.int (Int32.ofNat (n + 0)))] [(.int (lcmpW (cs.getD (n + 0) 0) (cs.getD (n + 0) 0)))])) _
        refine XS.ifYes X40.here hx rfl (pc0 := 100) (pc' := 107) rfl (hb hby d_rec00_100) rfl ((if0 _ _).trans (flt (own_nltL (by first | exact own_irr _ | exact fun q => Int64.lt_irrefl q : ¬ ((cs.getD (n + 0) 0) < (cs.getD (n + 0) 0))))).2.1) (by decide) (by decide) ?_
        show Steps p.tables e below (T40.setTop (mkF m 107 #[.val (.ref r0), .val (.long q1), .second, .val (.ref r3), .val (.ref r3), .val (.int (1 : Int32)), .val (.int (0 : Int32)), .val (.long h), .second, .val (.int (Int32.ofNat n)), .val (.int (Int32.ofNat (n + 0))), .val (.int (Int32.ofNat (n + 0)))] [])) _
        refine XS.iinc X40.here hx rfl (hb hby d_rec00_107) rfl (l' := #[.val (.ref r0), .val (.long q1), .second, .val (.ref r3), .val (.ref r3), .val (.int (1 : Int32)), .val (.int (0 : Int32)), .val (.long h), .second, .val (.int (Int32.ofNat n)), .val (.int (Int32.ofNat (n + 0))), .val (.int ((Int32.ofNat (n + 0)) + (1 : Int32)))]) rfl ?_
        exact ht
      have k45 : Go p.tables e below (T40.setTop (mkF m 110 #[.val (.ref r0), .val (.long q1), .second, .val (.ref r3), .val (.ref r3), .val (.int (1 : Int32)), .val (.int (0 : Int32)), .val (.long h), .second, .val (.int (Int32.ofNat n)), .val (.int (Int32.ofNat (n + 0))), .val (.int ((Int32.ofNat (n + 0)) + (1 : Int32)))] [])) (T40.setTop (mkF m 110 #[.val (.ref r0), .val (.long q1), .second, .val (.ref r3), .val (.ref r3), .val (.int (1 : Int32)), .val (.int (0 : Int32)), .val (.long h), .second, .val (.int (Int32.ofNat n)), .val (.int (Int32.ofNat (n + 0))), .val (.int (Int32.ofNat (n + 1)))] [])) := by rw [own_inc]; exact fun _ h => h
      have k46 : Go p.tables e below (T40.setTop (mkF m 110 #[.val (.ref r0), .val (.long q1), .second, .val (.ref r3), .val (.ref r3), .val (.int (1 : Int32)), .val (.int (0 : Int32)), .val (.long h), .second, .val (.int (Int32.ofNat n)), .val (.int (Int32.ofNat (n + 0))), .val (.int (Int32.ofNat (n + 1)))] [])) (T40.setTop (mkF m 41 #[.val (.ref r0), .val (.long q1), .second, .val (.ref r3), .val (.ref r3), .val (.int (1 : Int32)), .val (.int (0 : Int32)), .val (.long h), .second, .val (.int (Int32.ofNat n)), .val (.int (Int32.ofNat (n + 0))), .val (.int (Int32.ofNat (n + 1)))] [])) := by
        intro t ht
        refine XS.goto X40.here hx rfl (pc0 := 110) (pc' := 41) rfl (hb hby d_rec00_110) (by decide) (by decide) ?_
        exact ht
      obtain ⟨T47, L47, x47_0, X47, N47, e47, kr47⟩ := pc_rec10 r0 r3 ra rc q1 h B S M n ka kc hs cs X40 hx hZ hw hby hml hown e40 N0 Z0 Fb Fs Fh Fc E_r0 Va Vc hS hM hn
      refine ⟨T47, L47, x47_0, X47, N47, e47, ?_⟩
      have kk := goT (goT k1 (goT k2 (goT k3 (goT k5 (goT k6 (goT k7 (goT k10 (goT k34 (goT k35 (goT k36 (goT k39 (goT k40 (goT k41 (goT k44 (goT k45 k46))))))))))))))) kr47
      simpa only [f_rec00, if_pos hc4, if_neg hc11] using kk
  · have k48 : Go p.tables e below (T2.setTop (mkF m 50 #[.val (.ref r0), .val (.long q1), .second, .val (.ref r3), .val (.ref r3), .val (.int (1 : Int32)), .val (.int (0 : Int32)), .val (.long h), .second, .val (.int (Int32.ofNat n)), .val (.int (Int32.ofNat (n + 0))), .val (.int (Int32.ofNat (n + 0)))] [(.int ((Int32.ofNat n) + (Int32.ofNat S))), (.int (Int32.ofNat (n + 0)))])) (T2.setTop (mkF m 113 #[.val (.ref r0), .val (.long q1), .second, .val (.ref r3), .val (.ref r3), .val (.int (1 : Int32)), .val (.int (0 : Int32)), .val (.long h), .second, .val (.int (Int32.ofNat n)), .val (.int (Int32.ofNat (n + 0))), .val (.int (Int32.ofNat (n + 0)))] [])) := by
      intro t ht
      refine XS.icmpYes X2.here hx rfl (pc0 := 50) (pc' := 113) rfl (hb hby d_rec00_50) rfl (flt hc4).2.1 (by decide) (by decide) ?_
      exact ht
    refine ⟨T2, _, (.val (.int (Int32.ofNat (n + 0)))), X2, N0, e2, ?_⟩
    have kk := (goT k1 (goT k2 (goT k3 k48)))
    simpa only [f_rec00, if_neg hc4] using kk
theorem own_remH : ∀ x : Fin 256, ∀ b : Fin 5, 1 ≤ b.val → (f_remU (Int64.ofNat x.val) ((Int32.ofNat b.val).toInt64)).toInt32 = Int32.ofNat (x.val % b.val) := by decide +kernel
theorem own_toNat {x : Nat} (h : x < 256) : (Int64.ofNat x).toInt.toNat = x := by
  rw [Int64.toInt_ofNat_of_lt (by omega)]; rfl
theorem own_first {B S : Nat} {h : Int64} (hB : 1 ≤ B ∧ B ≤ 4) (hS : 1 ≤ S ∧ S ≤ 3) (hH : own_H h) : f_first h B S = Int32.ofNat (own_n h B S) := by
  obtain ⟨x, hx, rfl⟩ := hH
  have e := own_remH ⟨x, hx⟩ ⟨B, by omega⟩ hB.1
  unfold f_first own_n
  rw [own_toNat hx, Int32.ofNat_mul]
  exact congrArg (fun z => z * Int32.ofNat S) e
theorem own_nS {B S : Nat} {h : Int64} (hB : 1 ≤ B ∧ B ≤ 4) (hS : 1 ≤ S ∧ S ≤ 3) (hH : own_H h) : own_n h B S + S ≤ B * S := by
  unfold own_n
  have h1 : h.toInt.toNat % B < B := Nat.mod_lt _ hB.1
  have h2 : (h.toInt.toNat % B + 1) * S ≤ B * S := Nat.mul_le_mul_right S h1
  rw [Nat.add_mul, Nat.one_mul] at h2
  exact h2
theorem own_recS {n S M : Nat} {h : Int64} {hs cs : List Int64} (hS : 1 ≤ S ∧ S ≤ 3) (hM : M ≤ 12) (hn : n + S ≤ M) : f_rec00 n S h hs cs < S := by
  have a20 : f_rec20 n S h hs cs < S := by
    unfold f_rec20 f_rec30 f_rec32
    by_cases q : Int32.ofNat (n + 2) < (Int32.ofNat n) + (Int32.ofNat S)
    · have := own_jS hM hn q (by decide)
      rw [if_pos q]; (repeat' split) <;> omega
    · rw [if_neg q]; omega
  have a21 : 1 < S → f_rec21 n S h hs cs < S := fun h1 => by
    unfold f_rec21 f_rec31 f_rec32
    by_cases q : Int32.ofNat (n + 2) < (Int32.ofNat n) + (Int32.ofNat S)
    · have := own_jS hM hn q (by decide)
      rw [if_pos q]; (repeat' split) <;> omega
    · rw [if_neg q]; omega
  have a10 : f_rec10 n S h hs cs < S := by
    unfold f_rec10
    by_cases q : Int32.ofNat (n + 1) < (Int32.ofNat n) + (Int32.ofNat S)
    · have h1 := own_jS hM hn q (by decide)
      have := a21 h1
      rw [if_pos q]; (repeat' split) <;> omega
    · rw [if_neg q]; omega
  unfold f_rec00
  (repeat' split) <;> omega
theorem own_ltBS {B S : Nat} {h : Int64} {hs cs : List Int64} (hB : 1 ≤ B ∧ B ≤ 4) (hS : 1 ≤ S ∧ S ≤ 3) (hH : own_H h) : own_n h B S + f_rec00 (own_n h B S) S h hs cs < B * S := by
  have h1 := own_nS hB hS hH
  have h2 := own_recS (h := h) (hs := hs) (cs := cs) hS (own_BS hB hS) h1
  omega
theorem own_lt12 {B S : Nat} {h : Int64} {hs cs : List Int64} (hB : 1 ≤ B ∧ B ≤ 4) (hS : 1 ≤ S ∧ S ≤ 3) (hH : own_H h) : own_n h B S + f_rec00 (own_n h B S) S h hs cs < 12 := Nat.lt_of_lt_of_le (own_ltBS hB hS hH) (own_BS hB hS)
theorem pd_1 : parseMethodDescriptor "(J)I" = some ⟨[.long], some .int⟩ := by decide +kernel
theorem d_record_0 : decode prog_25_method_5_code 0 = .ok (.aload_n 3, 1) := by decide +kernel
theorem d_record_1 : decode prog_25_method_5_code 1 = .ok (.astore 4, 2) := by decide +kernel
theorem d_record_3 : decode prog_25_method_5_code 3 = .ok (.aload 4, 2) := by decide +kernel
theorem d_record_5 : decode prog_25_method_5_code 5 = .ok (.arraylength, 1) := by decide +kernel
theorem d_record_6 : decode prog_25_method_5_code 6 = .ok (.istore 5, 2) := by decide +kernel
theorem d_record_8 : decode prog_25_method_5_code 8 = .ok (.iconst 0, 1) := by decide +kernel
theorem d_record_9 : decode prog_25_method_5_code 9 = .ok (.istore 6, 2) := by decide +kernel
theorem d_record_11 : decode prog_25_method_5_code 11 = .ok (.iload 6, 2) := by decide +kernel
theorem d_record_13 : decode prog_25_method_5_code 13 = .ok (.iload 5, 2) := by decide +kernel
theorem d_record_15 : decode prog_25_method_5_code 15 = .ok (.if_icmp .ge 121, 3) := by decide +kernel
theorem d_record_18 : decode prog_25_method_5_code 18 = .ok (.aload 4, 2) := by decide +kernel
theorem d_record_20 : decode prog_25_method_5_code 20 = .ok (.iload 6, 2) := by decide +kernel
theorem d_record_22 : decode prog_25_method_5_code 22 = .ok (.laload, 1) := by decide +kernel
theorem d_record_23 : decode prog_25_method_5_code 23 = .ok (.lstore 7, 2) := by decide +kernel
theorem d_record_25 : decode prog_25_method_5_code 25 = .ok (.aload_n 0, 1) := by decide +kernel
theorem d_record_26 : decode prog_25_method_5_code 26 = .ok (.lload 7, 2) := by decide +kernel
theorem d_record_28 : decode prog_25_method_5_code 28 = .ok (.invokevirtual 40, 3) := by decide +kernel
theorem d_record_31 : decode prog_25_method_5_code 31 = .ok (.istore 9, 2) := by decide +kernel
theorem d_record_33 : decode prog_25_method_5_code 33 = .ok (.iload 9, 2) := by decide +kernel
theorem d_record_35 : decode prog_25_method_5_code 35 = .ok (.istore 10, 2) := by decide +kernel
theorem d_record_37 : decode prog_25_method_5_code 37 = .ok (.iload 9, 2) := by decide +kernel
theorem d_record_39 : decode prog_25_method_5_code 39 = .ok (.istore 11, 2) := by decide +kernel
theorem d_record_113 : decode prog_25_method_5_code 113 = .ok (.aload_n 0, 1) := by decide +kernel
theorem d_record_114 : decode prog_25_method_5_code 114 = .ok (.getfield 29, 3) := by decide +kernel
theorem d_record_117 : decode prog_25_method_5_code 117 = .ok (.iload 10, 2) := by decide +kernel
theorem d_record_119 : decode prog_25_method_5_code 119 = .ok (.lload 7, 2) := by decide +kernel
theorem d_record_121 : decode prog_25_method_5_code 121 = .ok (.lastore, 1) := by decide +kernel
theorem d_record_122 : decode prog_25_method_5_code 122 = .ok (.aload_n 0, 1) := by decide +kernel
theorem d_record_123 : decode prog_25_method_5_code 123 = .ok (.getfield 33, 3) := by decide +kernel
theorem d_record_126 : decode prog_25_method_5_code 126 = .ok (.iload 10, 2) := by decide +kernel
theorem d_record_128 : decode prog_25_method_5_code 128 = .ok (.lload_n 1, 1) := by decide +kernel
theorem d_record_129 : decode prog_25_method_5_code 129 = .ok (.lastore, 1) := by decide +kernel
theorem d_record_130 : decode prog_25_method_5_code 130 = .ok (.iinc 6 1, 3) := by decide +kernel
theorem d_record_133 : decode prog_25_method_5_code 133 = .ok (.goto (-122), 3) := by decide +kernel
theorem d_record_136 : decode prog_25_method_5_code 136 = .ok (.return_, 1) := by decide +kernel
theorem ef_record (m : MethodId) (x0 : Addr) (x1 : Int64) (x2 : Addr) : entryFrame m #[(.ref x0), (.long x1), (.ref x2)] 12 = mkF m 0 #[.val (.ref x0), .val (.long x1), .second, .val (.ref x2), .unset, .unset, .unset, .unset, .unset, .unset, .unset, .unset] [] := by first | (simp [entryFrame, mkF, argsToLocals, Value.category]; done) | rfl
def Q_record (Z : State) (r0 : Addr) (q1 : Int64) (r3 : Addr) (B : Nat) (S : Nat) (ra : Addr) (rc : Addr) (ka : ClassId) (kc : ClassId) (kr : ClassId) (hs : List Int64) (cs : List Int64) (hv : Int64) (h0 : Heap) (n0 : Nat) (v : Option Value) (h : Heap) (L : List Loc) : Prop := v = none ∧ Fr n0 L ∧ Keep h0 h [ra, rc] ∧ Exa Z h r0 "com/example/auspex/auspex/manager/ConflictTable" ∧ Fld Z h r0 "com/example/auspex/auspex/manager/ConflictTable" "buckets" "I" (.int (Int32.ofNat B)) ∧ Fld Z h r0 "com/example/auspex/auspex/manager/ConflictTable" "slotsPerBucket" "I" (.int (Int32.ofNat S)) ∧ Fld Z h r0 "com/example/auspex/auspex/manager/ConflictTable" "hashes" "[J" (.ref ra) ∧ Fld Z h r0 "com/example/auspex/auspex/manager/ConflictTable" "commits" "[J" (.ref rc) ∧ Arv Z h ra ka .long (Int32.ofNat (B * S)) ((hs.set ((own_n hv B S) + (f_rec00 (own_n hv B S) S hv hs cs)) hv).map Value.long) (.long (0 : Int64)) ∧ Arv Z h rc kc .long (Int32.ofNat (B * S)) ((cs.set ((own_n hv B S) + (f_rec00 (own_n hv B S) S hv hs cs)) q1).map Value.long) (.long (0 : Int64))
set_option maxRecDepth 65536 in
set_option maxHeartbeats 40000000 in
theorem rm_record (l : Launch) (Z : State) (a0 : Array Value) (hw : ∀ d ∈ tables_1, d.before a0 Z = true) (ws : List Jvm.Cond) (r0 : Addr) (q1 : Int64) (r3 : Addr) (B : Nat) (S : Nat) (ra : Addr) (rc : Addr) (ka : ClassId) (kc : ClassId) (kr : ClassId) (hs : List Int64) (cs : List Int64) (hv : Int64) (h0 : Heap) (n0 : Nat) (Z0 : n0 ≤ h0.size) (Fb : Fld Z h0 r0 "com/example/auspex/auspex/manager/ConflictTable" "buckets" "I" (.int (Int32.ofNat B))) (Fs : Fld Z h0 r0 "com/example/auspex/auspex/manager/ConflictTable" "slotsPerBucket" "I" (.int (Int32.ofNat S))) (Fh : Fld Z h0 r0 "com/example/auspex/auspex/manager/ConflictTable" "hashes" "[J" (.ref ra)) (Fc : Fld Z h0 r0 "com/example/auspex/auspex/manager/ConflictTable" "commits" "[J" (.ref rc)) (E_r0 : Exa Z h0 r0 "com/example/auspex/auspex/manager/ConflictTable") (Va : Arv Z h0 ra ka .long (Int32.ofNat (B * S)) (hs.map Value.long) (.long (0 : Int64))) (Vc : Arv Z h0 rc kc .long (Int32.ofNat (B * S)) (cs.map Value.long) (.long (0 : Int64))) (Vr : Arv Z h0 r3 kr .long (1 : Int32) [(.long hv)] (.long (0 : Int64))) (g_ra : n0 ≤ ra) (g_rc : n0 ≤ rc) (hB : 1 ≤ B ∧ B ≤ 4) (hS : 1 ≤ S ∧ S ≤ 3) (hH : own_H hv) (hlh : hs.length = 12) (hlc : cs.length = 12) (hn1 : ra ≠ rc) (hn2 : r0 ≠ ra) (hn3 : r0 ≠ rc) :
    MetFree l (⟨"com/example/auspex/auspex/manager/ConflictTable", "record", "(J[J)V"⟩ : MethodName) (head1 (Jvm.Cond.code (⟨"com/example/auspex/auspex/manager/ConflictTable", "record", "(J[J)V"⟩ : MethodName) prog_25_method_5_code 12 none :: ws) ({ frames := 2, cells := 0, slots := 0, locals := 33 } : Room)) (fun a U => a = #[(.ref r0), (.long q1), (.ref r3)] ∧ Z.Warmed39 U.vm ∧ U.heap = h0) (fun _ _ _ _ _ => True) (fun _ U o U' => ∃ v L, o = .returned v ∧ Q_record Z r0 q1 r3 B S ra rc ka kc kr hs cs hv h0 n0 v U'.heap L ∧ FrameEnd U o U' L ({ frames := 2, cells := 0, slots := 0, locals := 33 } : Room).cells ({ frames := 2, cells := 0, slots := 0, locals := 33 } : Room).slots) := by
  refine MetFree.of_bodySF (plainFor_of_name pn_0) hisR ?_
  intro p e s m args below meth c s₁ Bd hml0 hP hK
  obtain ⟨rfl, hZ, hh⟩ := hP
  have hx := Bd.exec
  have hby := Bd.bytes
  have hml : c.maxLocals = 12 := hml0
  have hown : s.vm.findClass "com/example/auspex/auspex/manager/ConflictTable" = some m.cls := findClass_of_methodNamed Bd.named
  have hnm := (name_of_methodNamed Bd.named Bd.method).1
  have X0 : Stand p l e ({ frames := 2, cells := 0, slots := 0, locals := 33 } : Room) s m #[(.ref r0), (.long q1), (.ref r3)] below meth c s₁ [] 0 0 := Stand.of_body Bd
  have e0 : s₁.heap = h0 := by rw [← hh, Bd.state]; rfl
  have N0 := Fr.nil n0
  have pre0 : ∀ t, Steps p.tables e below (s₁.setTop (mkF m 0 #[.val (.ref r0), .val (.long q1), .second, .val (.ref r3), .unset, .unset, .unset, .unset, .unset, .unset, .unset, .unset] [])) t → Steps p.tables e below (s₁.setTop (entryFrame m #[(.ref r0), (.long q1), (.ref r3)] 12)) t := fun t k => castTop (ef_record m r0 q1 r3) k
  have k1 : Go p.tables e below (s₁.setTop (mkF m 0 #[.val (.ref r0), .val (.long q1), .second, .val (.ref r3), .unset, .unset, .unset, .unset, .unset, .unset, .unset, .unset] [])) (s₁.setTop (mkF m 5 #[.val (.ref r0), .val (.long q1), .second, .val (.ref r3), .val (.ref r3), .unset, .unset, .unset, .unset, .unset, .unset, .unset] [(.ref r3)])) := by
    intro t ht
    refine XS.aloadN X0.here hx rfl (hb hby d_record_0) rfl rfl ?_
    show Steps p.tables e below (s₁.setTop (mkF m 1 #[.val (.ref r0), .val (.long q1), .second, .val (.ref r3), .unset, .unset, .unset, .unset, .unset, .unset, .unset, .unset] [(.ref r3)])) _
    refine XS.astore X0.here hx rfl (hb hby d_record_1) rfl rfl (l' := #[.val (.ref r0), .val (.long q1), .second, .val (.ref r3), .val (.ref r3), .unset, .unset, .unset, .unset, .unset, .unset, .unset]) rfl ?_
    show Steps p.tables e below (s₁.setTop (mkF m 3 #[.val (.ref r0), .val (.long q1), .second, .val (.ref r3), .val (.ref r3), .unset, .unset, .unset, .unset, .unset, .unset, .unset] [])) _
    refine XS.aload X0.here hx rfl (hb hby d_record_3) rfl rfl ?_
    exact ht
  obtain ⟨cl2, Ar2, q2, S2, M2, H2, G2⟩ := id Vr
  have k3 : Go p.tables e below (s₁.setTop (mkF m 5 #[.val (.ref r0), .val (.long q1), .second, .val (.ref r3), .val (.ref r3), .unset, .unset, .unset, .unset, .unset, .unset, .unset] [(.ref r3)])) (s₁.setTop (mkF m 22 #[.val (.ref r0), .val (.long q1), .second, .val (.ref r3), .val (.ref r3), .val (.int (1 : Int32)), .val (.int (0 : Int32)), .unset, .unset, .unset, .unset, .unset] [(.int (0 : Int32)), (.ref r3)])) := by
    intro t ht
    refine X0.arraylength hx (by rw [e0]; exact Ar2.1) (State.isArrayOf_alike hZ.alike Ar2.2.1) (g := (mkF m 5 #[.val (.ref r0), .val (.long q1), .second, .val (.ref r3), .val (.ref r3), .unset, .unset, .unset, .unset, .unset, .unset, .unset] [(.ref r3)])) rfl rfl (hb hby d_record_5) _ ?_
    rw [len_of S2 M2]
    show Steps p.tables e below (s₁.setTop (mkF m 6 #[.val (.ref r0), .val (.long q1), .second, .val (.ref r3), .val (.ref r3), .unset, .unset, .unset, .unset, .unset, .unset, .unset] [(.int (1 : Int32))])) _
    refine XS.istore X0.here hx rfl (hb hby d_record_6) rfl (l' := #[.val (.ref r0), .val (.long q1), .second, .val (.ref r3), .val (.ref r3), .val (.int (1 : Int32)), .unset, .unset, .unset, .unset, .unset, .unset]) rfl ?_
    show Steps p.tables e below (s₁.setTop (mkF m 8 #[.val (.ref r0), .val (.long q1), .second, .val (.ref r3), .val (.ref r3), .val (.int (1 : Int32)), .unset, .unset, .unset, .unset, .unset, .unset] [])) _
    refine XS.iconst X0.here hx rfl (hb hby d_record_8) ?_
    show Steps p.tables e below (s₁.setTop (mkF m 9 #[.val (.ref r0), .val (.long q1), .second, .val (.ref r3), .val (.ref r3), .val (.int (1 : Int32)), .unset, .unset, .unset, .unset, .unset, .unset] [(.int (0 : Int32))])) _
    refine XS.istore X0.here hx rfl (hb hby d_record_9) rfl (l' := #[.val (.ref r0), .val (.long q1), .second, .val (.ref r3), .val (.ref r3), .val (.int (1 : Int32)), .val (.int (0 : Int32)), .unset, .unset, .unset, .unset, .unset]) rfl ?_
    show Steps p.tables e below (s₁.setTop (mkF m 11 #[.val (.ref r0), .val (.long q1), .second, .val (.ref r3), .val (.ref r3), .val (.int (1 : Int32)), .val (.int (0 : Int32)), .unset, .unset, .unset, .unset, .unset] [])) _
    refine XS.iload X0.here hx rfl (hb hby d_record_11) rfl ?_
    show Steps p.tables e below (s₁.setTop (mkF m 13 #[.val (.ref r0), .val (.long q1), .second, .val (.ref r3), .val (.ref r3), .val (.int (1 : Int32)), .val (.int (0 : Int32)), .unset, .unset, .unset, .unset, .unset] [(.int (0 : Int32))])) _
    refine XS.iload X0.here hx rfl (hb hby d_record_13) rfl ?_
    show Steps p.tables e below (s₁.setTop (mkF m 15 #[.val (.ref r0), .val (.long q1), .second, .val (.ref r3), .val (.ref r3), .val (.int (1 : Int32)), .val (.int (0 : Int32)), .unset, .unset, .unset, .unset, .unset] [(.int (1 : Int32)), (.int (0 : Int32))])) _
    refine XS.icmpNo X0.here hx rfl (hb hby d_record_15) rfl (tlt (by decide : (0 : Int32) < (1 : Int32))).2.1 ?_
    show Steps p.tables e below (s₁.setTop (mkF m 18 #[.val (.ref r0), .val (.long q1), .second, .val (.ref r3), .val (.ref r3), .val (.int (1 : Int32)), .val (.int (0 : Int32)), .unset, .unset, .unset, .unset, .unset] [])) _
    refine XS.aload X0.here hx rfl (hb hby d_record_18) rfl rfl ?_
    show Steps p.tables e below (s₁.setTop (mkF m 20 #[.val (.ref r0), .val (.long q1), .second, .val (.ref r3), .val (.ref r3), .val (.int (1 : Int32)), .val (.int (0 : Int32)), .unset, .unset, .unset, .unset, .unset] [(.ref r3)])) _
    refine XS.iload X0.here hx rfl (hb hby d_record_20) rfl ?_
    exact ht
  obtain ⟨cl4, Ar4, q4, S4, M4, H4, G4⟩ := id Vr
  have hin4 : ¬ ((0 : Int32) < 0 ∨ cl4.slots.size ≤ ((0 : Int32)).toNatClampNeg) := inb_of S4 ⟨by decide, by decide⟩
  have hat4 : cl4.slots[((0 : Int32)).toNatClampNeg]? = some (.long hv) := (H4 _ (Nat.lt_of_not_le fun y => hin4 (Or.inr y))).trans (congrArg some (rfl))
  have k5 : Go p.tables e below (s₁.setTop (mkF m 22 #[.val (.ref r0), .val (.long q1), .second, .val (.ref r3), .val (.ref r3), .val (.int (1 : Int32)), .val (.int (0 : Int32)), .unset, .unset, .unset, .unset, .unset] [(.int (0 : Int32)), (.ref r3)])) (s₁.setTop (mkF m 28 #[.val (.ref r0), .val (.long q1), .second, .val (.ref r3), .val (.ref r3), .val (.int (1 : Int32)), .val (.int (0 : Int32)), .val (.long hv), .second, .unset, .unset, .unset] [(.long hv), (.ref r0)])) := by
    intro t ht
    refine X0.laload hx (j := (0 : Int32)) (v := (.long hv)) (by rw [e0]; exact Ar4.1) (State.isArrayOf_alike hZ.alike Ar4.2.1) Ar4.2.2 hin4 hat4 (g := (mkF m 22 #[.val (.ref r0), .val (.long q1), .second, .val (.ref r3), .val (.ref r3), .val (.int (1 : Int32)), .val (.int (0 : Int32)), .unset, .unset, .unset, .unset, .unset] [(.int (0 : Int32)), (.ref r3)])) rfl rfl (hb hby d_record_22) _ ?_
    show Steps p.tables e below (s₁.setTop (mkF m 23 #[.val (.ref r0), .val (.long q1), .second, .val (.ref r3), .val (.ref r3), .val (.int (1 : Int32)), .val (.int (0 : Int32)), .unset, .unset, .unset, .unset, .unset] [(.long hv)])) _
    refine XS.lstore X0.here hx rfl (hb hby d_record_23) rfl (l' := #[.val (.ref r0), .val (.long q1), .second, .val (.ref r3), .val (.ref r3), .val (.int (1 : Int32)), .val (.int (0 : Int32)), .val (.long hv), .second, .unset, .unset, .unset]) rfl ?_
    show Steps p.tables e below (s₁.setTop (mkF m 25 #[.val (.ref r0), .val (.long q1), .second, .val (.ref r3), .val (.ref r3), .val (.int (1 : Int32)), .val (.int (0 : Int32)), .val (.long hv), .second, .unset, .unset, .unset] [])) _
    refine XS.aloadN X0.here hx rfl (hb hby d_record_25) rfl rfl ?_
    show Steps p.tables e below (s₁.setTop (mkF m 26 #[.val (.ref r0), .val (.long q1), .second, .val (.ref r3), .val (.ref r3), .val (.int (1 : Int32)), .val (.int (0 : Int32)), .val (.long hv), .second, .unset, .unset, .unset] [(.ref r0)])) _
    refine XS.lload X0.here hx rfl (hb hby d_record_26) rfl ?_
    exact ht
  obtain ⟨cq6, q6, q6'⟩ := E_r0.cell
  obtain ⟨_, _, ⟨T6, L6, kq6, n6⟩, -, X6, ⟨Lc6, hQ6, l6, y6, z6⟩, st6⟩ := X0.privateBack hx (y := (⟨"com/example/auspex/auspex/manager/ConflictTable", "firstSlot", "(J)I"⟩ : MethodName)) hown (mvT hZ (hw _ (List.mem_of_getElem? (i := 25) rfl))) (mvT hZ (hw _ (List.mem_of_getElem? (i := 26) rfl))) (own_selp (mvT hZ (hw _ (List.mem_of_getElem? (i := 23) rfl)) (args := #[])) (mvT hZ (hw _ (List.mem_of_getElem? (i := 26) rfl))) (Cond.privateMethod_at (mvP hZ (hw _ (List.mem_of_getElem? (i := 27) rfl)) (args := #[]))) (by decide)) (Cond.privateMethod_at (mvP hZ (hw _ (List.mem_of_getElem? (i := 27) rfl)) (args := #[]))) (mvT hZ (hw _ (List.mem_of_getElem? (i := 28) rfl))) (by decide) (backOf (W := 0) (rm_first l Z a0 hw [] r0 hv B S h0 n0 Z0 Fb Fs (hB : 1 ≤ B ∧ B ≤ 4) (hS : 1 ≤ S ∧ S ≤ 3)) hZ (hw _ (List.mem_of_getElem? (i := 28) rfl)) (hw _ (List.mem_of_getElem? (i := 3) rfl)) (by decide) (by decide)) (g := (mkF m 28 #[.val (.ref r0), .val (.long q1), .second, .val (.ref r3), .val (.ref r3), .val (.int (1 : Int32)), .val (.int (0 : Int32)), .val (.long hv), .second, .unset, .unset, .unset] [(.long hv), (.ref r0)])) rfl (by rw [hml]; rfl) (Steps.refl _) (a := r0) (by rw [e0]; exact q6) q6' (argsL := [(.long hv)]) (rest := []) (lenOf pd_1 rfl) rfl (by show 2 * 0 + _ ≤ _; exact Nat.le_of_eq rfl) (hb hby d_record_28) (fun _ _ => ⟨rfl, e0, (by decide : 0 + 0 ≤ _), (by decide : 0 + 0 ≤ _)⟩)
  dsimp only [Pt.U, Pt.locs, Pt.cells, Pt.slots] at X6 l6 y6 z6 st6 hQ6
  subst l6 y6 z6
  obtain ⟨rfl, N6q, eq6⟩ := hQ6
  have N6 := Fr.app N0 N6q
  have k6 : Go p.tables e below (s₁.setTop (mkF m 28 #[.val (.ref r0), .val (.long q1), .second, .val (.ref r3), .val (.ref r3), .val (.int (1 : Int32)), .val (.int (0 : Int32)), .val (.long hv), .second, .unset, .unset, .unset] [(.long hv), (.ref r0)])) (T6.setTop (mkF m 31 #[.val (.ref r0), .val (.long q1), .second, .val (.ref r3), .val (.ref r3), .val (.int (1 : Int32)), .val (.int (0 : Int32)), .val (.long hv), .second, .unset, .unset, .unset] [(.int (f_first hv B S))])) := fun _ ht => st6.trans ht
  have k7 : Go p.tables e below (T6.setTop (mkF m 31 #[.val (.ref r0), .val (.long q1), .second, .val (.ref r3), .val (.ref r3), .val (.int (1 : Int32)), .val (.int (0 : Int32)), .val (.long hv), .second, .unset, .unset, .unset] [(.int (f_first hv B S))])) (T6.setTop (mkF m 31 #[.val (.ref r0), .val (.long q1), .second, .val (.ref r3), .val (.ref r3), .val (.int (1 : Int32)), .val (.int (0 : Int32)), .val (.long hv), .second, .unset, .unset, .unset] [(.int (Int32.ofNat (own_n hv B S)))])) := by rw [own_first hB hS hH]; exact fun _ h => h
  have k8 : Go p.tables e below (T6.setTop (mkF m 31 #[.val (.ref r0), .val (.long q1), .second, .val (.ref r3), .val (.ref r3), .val (.int (1 : Int32)), .val (.int (0 : Int32)), .val (.long hv), .second, .unset, .unset, .unset] [(.int (Int32.ofNat (own_n hv B S)))])) (T6.setTop (mkF m 41 #[.val (.ref r0), .val (.long q1), .second, .val (.ref r3), .val (.ref r3), .val (.int (1 : Int32)), .val (.int (0 : Int32)), .val (.long hv), .second, .val (.int (Int32.ofNat (own_n hv B S))), .val (.int (Int32.ofNat (own_n hv B S))), .val (.int (Int32.ofNat (own_n hv B S)))] [])) := by
    intro t ht
    refine XS.istore X6.here hx rfl (hb hby d_record_31) rfl (l' := #[.val (.ref r0), .val (.long q1), .second, .val (.ref r3), .val (.ref r3), .val (.int (1 : Int32)), .val (.int (0 : Int32)), .val (.long hv), .second, .val (.int (Int32.ofNat (own_n hv B S))), .unset, .unset]) rfl ?_
    show Steps p.tables e below (T6.setTop (mkF m 33 #[.val (.ref r0), .val (.long q1), .second, .val (.ref r3), .val (.ref r3), .val (.int (1 : Int32)), .val (.int (0 : Int32)), .val (.long hv), .second, .val (.int (Int32.ofNat (own_n hv B S))), .unset, .unset] [])) _
    refine XS.iload X6.here hx rfl (hb hby d_record_33) rfl ?_
    show Steps p.tables e below (T6.setTop (mkF m 35 #[.val (.ref r0), .val (.long q1), .second, .val (.ref r3), .val (.ref r3), .val (.int (1 : Int32)), .val (.int (0 : Int32)), .val (.long hv), .second, .val (.int (Int32.ofNat (own_n hv B S))), .unset, .unset] [(.int (Int32.ofNat (own_n hv B S)))])) _
    refine XS.istore X6.here hx rfl (hb hby d_record_35) rfl (l' := #[.val (.ref r0), .val (.long q1), .second, .val (.ref r3), .val (.ref r3), .val (.int (1 : Int32)), .val (.int (0 : Int32)), .val (.long hv), .second, .val (.int (Int32.ofNat (own_n hv B S))), .val (.int (Int32.ofNat (own_n hv B S))), .unset]) rfl ?_
    show Steps p.tables e below (T6.setTop (mkF m 37 #[.val (.ref r0), .val (.long q1), .second, .val (.ref r3), .val (.ref r3), .val (.int (1 : Int32)), .val (.int (0 : Int32)), .val (.long hv), .second, .val (.int (Int32.ofNat (own_n hv B S))), .val (.int (Int32.ofNat (own_n hv B S))), .unset] [])) _
    refine XS.iload X6.here hx rfl (hb hby d_record_37) rfl ?_
    show Steps p.tables e below (T6.setTop (mkF m 39 #[.val (.ref r0), .val (.long q1), .second, .val (.ref r3), .val (.ref r3), .val (.int (1 : Int32)), .val (.int (0 : Int32)), .val (.long hv), .second, .val (.int (Int32.ofNat (own_n hv B S))), .val (.int (Int32.ofNat (own_n hv B S))), .unset] [(.int (Int32.ofNat (own_n hv B S)))])) _
    refine XS.istore X6.here hx rfl (hb hby d_record_39) rfl (l' := #[.val (.ref r0), .val (.long q1), .second, .val (.ref r3), .val (.ref r3), .val (.int (1 : Int32)), .val (.int (0 : Int32)), .val (.long hv), .second, .val (.int (Int32.ofNat (own_n hv B S))), .val (.int (Int32.ofNat (own_n hv B S))), .val (.int (Int32.ofNat (own_n hv B S)))]) rfl ?_
    exact ht
  obtain ⟨T9, L9, w11, X9, N9, e9, k9⟩ := pc_rec00 r0 r3 ra rc q1 hv B S (B * S) (own_n hv B S) ka kc hs cs X6 hx hZ hw hby hml hown eq6 N6 Z0 Fb Fs Fh Fc E_r0 Va Vc hS (own_BS hB hS) (own_nS hB hS hH)
  have k10 : Go p.tables e below (T9.setTop (mkF m 113 #[.val (.ref r0), .val (.long q1), .second, .val (.ref r3), .val (.ref r3), .val (.int (1 : Int32)), .val (.int (0 : Int32)), .val (.long hv), .second, .val (.int (Int32.ofNat (own_n hv B S))), .val (.int (Int32.ofNat ((own_n hv B S) + (f_rec00 (own_n hv B S) S hv hs cs)))), w11] [])) (T9.setTop (mkF m 114 #[.val (.ref r0), .val (.long q1), .second, .val (.ref r3), .val (.ref r3), .val (.int (1 : Int32)), .val (.int (0 : Int32)), .val (.long hv), .second, .val (.int (Int32.ofNat (own_n hv B S))), .val (.int (Int32.ofNat ((own_n hv B S) + (f_rec00 (own_n hv B S) S hv hs cs)))), w11] [(.ref r0)])) := by
    intro t ht
    refine XS.aloadN X9.here hx rfl (hb hby d_record_113) rfl rfl ?_
    exact ht
  obtain ⟨T11, X11, e11, st11⟩ := getF X9 hx hZ hown (host := "") (Or.inl (hw _ (List.mem_of_getElem? (i := 16) rfl))) Via.refl e9 Fh (g := (mkF m 114 #[.val (.ref r0), .val (.long q1), .second, .val (.ref r3), .val (.ref r3), .val (.int (1 : Int32)), .val (.int (0 : Int32)), .val (.long hv), .second, .val (.int (Int32.ofNat (own_n hv B S))), .val (.int (Int32.ofNat ((own_n hv B S) + (f_rec00 (own_n hv B S) S hv hs cs)))), w11] [(.ref r0)])) rfl rfl (hb hby d_record_114)
  have k11 : Go p.tables e below (T9.setTop (mkF m 114 #[.val (.ref r0), .val (.long q1), .second, .val (.ref r3), .val (.ref r3), .val (.int (1 : Int32)), .val (.int (0 : Int32)), .val (.long hv), .second, .val (.int (Int32.ofNat (own_n hv B S))), .val (.int (Int32.ofNat ((own_n hv B S) + (f_rec00 (own_n hv B S) S hv hs cs)))), w11] [(.ref r0)])) (T11.setTop (mkF m 117 #[.val (.ref r0), .val (.long q1), .second, .val (.ref r3), .val (.ref r3), .val (.int (1 : Int32)), .val (.int (0 : Int32)), .val (.long hv), .second, .val (.int (Int32.ofNat (own_n hv B S))), .val (.int (Int32.ofNat ((own_n hv B S) + (f_rec00 (own_n hv B S) S hv hs cs)))), w11] [(.ref ra)])) := st11
  have k12 : Go p.tables e below (T11.setTop (mkF m 117 #[.val (.ref r0), .val (.long q1), .second, .val (.ref r3), .val (.ref r3), .val (.int (1 : Int32)), .val (.int (0 : Int32)), .val (.long hv), .second, .val (.int (Int32.ofNat (own_n hv B S))), .val (.int (Int32.ofNat ((own_n hv B S) + (f_rec00 (own_n hv B S) S hv hs cs)))), w11] [(.ref ra)])) (T11.setTop (mkF m 121 #[.val (.ref r0), .val (.long q1), .second, .val (.ref r3), .val (.ref r3), .val (.int (1 : Int32)), .val (.int (0 : Int32)), .val (.long hv), .second, .val (.int (Int32.ofNat (own_n hv B S))), .val (.int (Int32.ofNat ((own_n hv B S) + (f_rec00 (own_n hv B S) S hv hs cs)))), w11] [(.long hv), (.int (Int32.ofNat ((own_n hv B S) + (f_rec00 (own_n hv B S) S hv hs cs)))), (.ref ra)])) := by
    intro t ht
    refine XS.iload X11.here hx rfl (hb hby d_record_117) rfl ?_
    show Steps p.tables e below (T11.setTop (mkF m 119 #[.val (.ref r0), .val (.long q1), .second, .val (.ref r3), .val (.ref r3), .val (.int (1 : Int32)), .val (.int (0 : Int32)), .val (.long hv), .second, .val (.int (Int32.ofNat (own_n hv B S))), .val (.int (Int32.ofNat ((own_n hv B S) + (f_rec00 (own_n hv B S) S hv hs cs)))), w11] [(.int (Int32.ofNat ((own_n hv B S) + (f_rec00 (own_n hv B S) S hv hs cs)))), (.ref ra)])) _
    refine XS.lload X11.here hx rfl (hb hby d_record_119) rfl ?_
    exact ht
  obtain ⟨cl13, Ar13, q13, S13, M13, H13, G13⟩ := id Va
  have hin13 : ¬ ((Int32.ofNat ((own_n hv B S) + (f_rec00 (own_n hv B S) S hv hs cs))) < 0 ∨ cl13.slots.size ≤ ((Int32.ofNat ((own_n hv B S) + (f_rec00 (own_n hv B S) S hv hs cs)))).toNatClampNeg) := inb_of S13 ⟨own_nneg (Nat.le_of_lt (own_lt12 hB hS hH)), own_ltM (own_ltBS hB hS hH) (own_BS hB hS)⟩
  obtain ⟨T13, h13, X13, e13, W13, st13⟩ := stJ X11 hx hZ e11 Ar13 (j := (Int32.ofNat ((own_n hv B S) + (f_rec00 (own_n hv B S) S hv hs cs)))) hin13 (g := (mkF m 121 #[.val (.ref r0), .val (.long q1), .second, .val (.ref r3), .val (.ref r3), .val (.int (1 : Int32)), .val (.int (0 : Int32)), .val (.long hv), .second, .val (.int (Int32.ofNat (own_n hv B S))), .val (.int (Int32.ofNat ((own_n hv B S) + (f_rec00 (own_n hv B S) S hv hs cs)))), w11] [(.long hv), (.int (Int32.ofNat ((own_n hv B S) + (f_rec00 (own_n hv B S) S hv hs cs)))), (.ref ra)])) rfl rfl (hb hby d_record_121)
  have V13_ra : Arv Z h13 ra ka .long (Int32.ofNat (B * S)) ((hs.set (((own_n hv B S) + (f_rec00 (own_n hv B S) S hv hs cs))) hv).map Value.long) (.long (0 : Int64)) := by rw [List.map_set]; exact Arv.set Ar13 q13 S13 M13 H13 G13 rfl W13 (((own_n hv B S) + (f_rec00 (own_n hv B S) S hv hs cs))) (own_clamp (own_lt12 hB hS hH)) (by rw [List.length_map, hlh]; exact own_lt12 hB hS hH)
  have Kp13 : Keep h0 h13 [ra, rc] := (Keep.refl h0 [ra, rc]).wr W13 (Or.inl (by simp))
  have Z13 : n0 ≤ h13.size := Nat.le_trans Z0 (Keep.of_wr W13).1
  have Fb_c_13 := Fb.other W13 (Or.inl hn2)
  have Fs_c_13 := Fs.other W13 (Or.inl hn2)
  have Fh_c_13 := Fh.other W13 (Or.inl hn2)
  have Fc_c_13 := Fc.other W13 (Or.inl hn2)
  have E_r0_c_13 := E_r0.wr W13
  have Vc_c_13 := Vc.other W13 (Ne.symm hn1)
  have k13 : Go p.tables e below (T11.setTop (mkF m 121 #[.val (.ref r0), .val (.long q1), .second, .val (.ref r3), .val (.ref r3), .val (.int (1 : Int32)), .val (.int (0 : Int32)), .val (.long hv), .second, .val (.int (Int32.ofNat (own_n hv B S))), .val (.int (Int32.ofNat ((own_n hv B S) + (f_rec00 (own_n hv B S) S hv hs cs)))), w11] [(.long hv), (.int (Int32.ofNat ((own_n hv B S) + (f_rec00 (own_n hv B S) S hv hs cs)))), (.ref ra)])) (T13.setTop (mkF m 122 #[.val (.ref r0), .val (.long q1), .second, .val (.ref r3), .val (.ref r3), .val (.int (1 : Int32)), .val (.int (0 : Int32)), .val (.long hv), .second, .val (.int (Int32.ofNat (own_n hv B S))), .val (.int (Int32.ofNat ((own_n hv B S) + (f_rec00 (own_n hv B S) S hv hs cs)))), w11] [])) := st13
  have N13 := Fr.snoc X13 N9 g_ra
  have k14 : Go p.tables e below (T13.setTop (mkF m 122 #[.val (.ref r0), .val (.long q1), .second, .val (.ref r3), .val (.ref r3), .val (.int (1 : Int32)), .val (.int (0 : Int32)), .val (.long hv), .second, .val (.int (Int32.ofNat (own_n hv B S))), .val (.int (Int32.ofNat ((own_n hv B S) + (f_rec00 (own_n hv B S) S hv hs cs)))), w11] [])) (T13.setTop (mkF m 123 #[.val (.ref r0), .val (.long q1), .second, .val (.ref r3), .val (.ref r3), .val (.int (1 : Int32)), .val (.int (0 : Int32)), .val (.long hv), .second, .val (.int (Int32.ofNat (own_n hv B S))), .val (.int (Int32.ofNat ((own_n hv B S) + (f_rec00 (own_n hv B S) S hv hs cs)))), w11] [(.ref r0)])) := by
    intro t ht
    refine XS.aloadN X13.here hx rfl (hb hby d_record_122) rfl rfl ?_
    exact ht
  obtain ⟨T15, X15, e15, st15⟩ := getF X13 hx hZ hown (host := "") (Or.inl (hw _ (List.mem_of_getElem? (i := 18) rfl))) Via.refl e13 Fc_c_13 (g := (mkF m 123 #[.val (.ref r0), .val (.long q1), .second, .val (.ref r3), .val (.ref r3), .val (.int (1 : Int32)), .val (.int (0 : Int32)), .val (.long hv), .second, .val (.int (Int32.ofNat (own_n hv B S))), .val (.int (Int32.ofNat ((own_n hv B S) + (f_rec00 (own_n hv B S) S hv hs cs)))), w11] [(.ref r0)])) rfl rfl (hb hby d_record_123)
  have k15 : Go p.tables e below (T13.setTop (mkF m 123 #[.val (.ref r0), .val (.long q1), .second, .val (.ref r3), .val (.ref r3), .val (.int (1 : Int32)), .val (.int (0 : Int32)), .val (.long hv), .second, .val (.int (Int32.ofNat (own_n hv B S))), .val (.int (Int32.ofNat ((own_n hv B S) + (f_rec00 (own_n hv B S) S hv hs cs)))), w11] [(.ref r0)])) (T15.setTop (mkF m 126 #[.val (.ref r0), .val (.long q1), .second, .val (.ref r3), .val (.ref r3), .val (.int (1 : Int32)), .val (.int (0 : Int32)), .val (.long hv), .second, .val (.int (Int32.ofNat (own_n hv B S))), .val (.int (Int32.ofNat ((own_n hv B S) + (f_rec00 (own_n hv B S) S hv hs cs)))), w11] [(.ref rc)])) := st15
  have k16 : Go p.tables e below (T15.setTop (mkF m 126 #[.val (.ref r0), .val (.long q1), .second, .val (.ref r3), .val (.ref r3), .val (.int (1 : Int32)), .val (.int (0 : Int32)), .val (.long hv), .second, .val (.int (Int32.ofNat (own_n hv B S))), .val (.int (Int32.ofNat ((own_n hv B S) + (f_rec00 (own_n hv B S) S hv hs cs)))), w11] [(.ref rc)])) (T15.setTop (mkF m 129 #[.val (.ref r0), .val (.long q1), .second, .val (.ref r3), .val (.ref r3), .val (.int (1 : Int32)), .val (.int (0 : Int32)), .val (.long hv), .second, .val (.int (Int32.ofNat (own_n hv B S))), .val (.int (Int32.ofNat ((own_n hv B S) + (f_rec00 (own_n hv B S) S hv hs cs)))), w11] [(.long q1), (.int (Int32.ofNat ((own_n hv B S) + (f_rec00 (own_n hv B S) S hv hs cs)))), (.ref rc)])) := by
    intro t ht
    refine XS.iload X15.here hx rfl (hb hby d_record_126) rfl ?_
    show Steps p.tables e below (T15.setTop (mkF m 128 #[.val (.ref r0), .val (.long q1), .second, .val (.ref r3), .val (.ref r3), .val (.int (1 : Int32)), .val (.int (0 : Int32)), .val (.long hv), .second, .val (.int (Int32.ofNat (own_n hv B S))), .val (.int (Int32.ofNat ((own_n hv B S) + (f_rec00 (own_n hv B S) S hv hs cs)))), w11] [(.int (Int32.ofNat ((own_n hv B S) + (f_rec00 (own_n hv B S) S hv hs cs)))), (.ref rc)])) _
    refine XS.lloadN X15.here hx rfl (hb hby d_record_128) rfl ?_
    exact ht
  obtain ⟨cl17, Ar17, q17, S17, M17, H17, G17⟩ := id Vc_c_13
  have hin17 : ¬ ((Int32.ofNat ((own_n hv B S) + (f_rec00 (own_n hv B S) S hv hs cs))) < 0 ∨ cl17.slots.size ≤ ((Int32.ofNat ((own_n hv B S) + (f_rec00 (own_n hv B S) S hv hs cs)))).toNatClampNeg) := inb_of S17 ⟨own_nneg (Nat.le_of_lt (own_lt12 hB hS hH)), own_ltM (own_ltBS hB hS hH) (own_BS hB hS)⟩
  obtain ⟨T17, h17, X17, e17, W17, st17⟩ := stJ X15 hx hZ e15 Ar17 (j := (Int32.ofNat ((own_n hv B S) + (f_rec00 (own_n hv B S) S hv hs cs)))) hin17 (g := (mkF m 129 #[.val (.ref r0), .val (.long q1), .second, .val (.ref r3), .val (.ref r3), .val (.int (1 : Int32)), .val (.int (0 : Int32)), .val (.long hv), .second, .val (.int (Int32.ofNat (own_n hv B S))), .val (.int (Int32.ofNat ((own_n hv B S) + (f_rec00 (own_n hv B S) S hv hs cs)))), w11] [(.long q1), (.int (Int32.ofNat ((own_n hv B S) + (f_rec00 (own_n hv B S) S hv hs cs)))), (.ref rc)])) rfl rfl (hb hby d_record_129)
  have V17_rc : Arv Z h17 rc kc .long (Int32.ofNat (B * S)) ((cs.set (((own_n hv B S) + (f_rec00 (own_n hv B S) S hv hs cs))) q1).map Value.long) (.long (0 : Int64)) := by rw [List.map_set]; exact Arv.set Ar17 q17 S17 M17 H17 G17 rfl W17 (((own_n hv B S) + (f_rec00 (own_n hv B S) S hv hs cs))) (own_clamp (own_lt12 hB hS hH)) (by rw [List.length_map, hlc]; exact own_lt12 hB hS hH)
  have Kp17 : Keep h0 h17 [ra, rc] := Kp13.wr W17 (Or.inl (by simp))
  have Z17 : n0 ≤ h17.size := Nat.le_trans Z13 (Keep.of_wr W17).1
  have Fb_c_17 := Fb_c_13.other W17 (Or.inl hn3)
  have Fs_c_17 := Fs_c_13.other W17 (Or.inl hn3)
  have Fh_c_17 := Fh_c_13.other W17 (Or.inl hn3)
  have Fc_c_17 := Fc_c_13.other W17 (Or.inl hn3)
  have E_r0_c_17 := E_r0_c_13.wr W17
  have V13_ra_c_17 := V13_ra.other W17 hn1
  have k17 : Go p.tables e below (T15.setTop (mkF m 129 #[.val (.ref r0), .val (.long q1), .second, .val (.ref r3), .val (.ref r3), .val (.int (1 : Int32)), .val (.int (0 : Int32)), .val (.long hv), .second, .val (.int (Int32.ofNat (own_n hv B S))), .val (.int (Int32.ofNat ((own_n hv B S) + (f_rec00 (own_n hv B S) S hv hs cs)))), w11] [(.long q1), (.int (Int32.ofNat ((own_n hv B S) + (f_rec00 (own_n hv B S) S hv hs cs)))), (.ref rc)])) (T17.setTop (mkF m 130 #[.val (.ref r0), .val (.long q1), .second, .val (.ref r3), .val (.ref r3), .val (.int (1 : Int32)), .val (.int (0 : Int32)), .val (.long hv), .second, .val (.int (Int32.ofNat (own_n hv B S))), .val (.int (Int32.ofNat ((own_n hv B S) + (f_rec00 (own_n hv B S) S hv hs cs)))), w11] [])) := st17
  have N17 := Fr.snoc X17 N13 g_rc
  have k18 : Go p.tables e below (T17.setTop (mkF m 130 #[.val (.ref r0), .val (.long q1), .second, .val (.ref r3), .val (.ref r3), .val (.int (1 : Int32)), .val (.int (0 : Int32)), .val (.long hv), .second, .val (.int (Int32.ofNat (own_n hv B S))), .val (.int (Int32.ofNat ((own_n hv B S) + (f_rec00 (own_n hv B S) S hv hs cs)))), w11] [])) (T17.setTop (mkF m 136 #[.val (.ref r0), .val (.long q1), .second, .val (.ref r3), .val (.ref r3), .val (.int (1 : Int32)), .val (.int (1 : Int32)), .val (.long hv), .second, .val (.int (Int32.ofNat (own_n hv B S))), .val (.int (Int32.ofNat ((own_n hv B S) + (f_rec00 (own_n hv B S) S hv hs cs)))), w11] [])) := by
    intro t ht
    refine XS.iinc X17.here hx rfl (hb hby d_record_130) rfl (l' := #[.val (.ref r0), .val (.long q1), .second, .val (.ref r3), .val (.ref r3), .val (.int (1 : Int32)), .val (.int (1 : Int32)), .val (.long hv), .second, .val (.int (Int32.ofNat (own_n hv B S))), .val (.int (Int32.ofNat ((own_n hv B S) + (f_rec00 (own_n hv B S) S hv hs cs)))), w11]) rfl ?_
    show Steps p.tables e below (T17.setTop (mkF m 133 #[.val (.ref r0), .val (.long q1), .second, .val (.ref r3), .val (.ref r3), .val (.int (1 : Int32)), .val (.int (1 : Int32)), .val (.long hv), .second, .val (.int (Int32.ofNat (own_n hv B S))), .val (.int (Int32.ofNat ((own_n hv B S) + (f_rec00 (own_n hv B S) S hv hs cs)))), w11] [])) _
    refine XS.goto X17.here hx rfl (pc0 := 133) (pc' := 11) rfl (hb hby d_record_133) (by decide) (by decide) ?_
    show Steps p.tables e below (T17.setTop (mkF m 11 #[.val (.ref r0), .val (.long q1), .second, .val (.ref r3), .val (.ref r3), .val (.int (1 : Int32)), .val (.int (1 : Int32)), .val (.long hv), .second, .val (.int (Int32.ofNat (own_n hv B S))), .val (.int (Int32.ofNat ((own_n hv B S) + (f_rec00 (own_n hv B S) S hv hs cs)))), w11] [])) _
    refine XS.iload X17.here hx rfl (hb hby d_record_11) rfl ?_
    show Steps p.tables e below (T17.setTop (mkF m 13 #[.val (.ref r0), .val (.long q1), .second, .val (.ref r3), .val (.ref r3), .val (.int (1 : Int32)), .val (.int (1 : Int32)), .val (.long hv), .second, .val (.int (Int32.ofNat (own_n hv B S))), .val (.int (Int32.ofNat ((own_n hv B S) + (f_rec00 (own_n hv B S) S hv hs cs)))), w11] [(.int (1 : Int32))])) _
    refine XS.iload X17.here hx rfl (hb hby d_record_13) rfl ?_
    show Steps p.tables e below (T17.setTop (mkF m 15 #[.val (.ref r0), .val (.long q1), .second, .val (.ref r3), .val (.ref r3), .val (.int (1 : Int32)), .val (.int (1 : Int32)), .val (.long hv), .second, .val (.int (Int32.ofNat (own_n hv B S))), .val (.int (Int32.ofNat ((own_n hv B S) + (f_rec00 (own_n hv B S) S hv hs cs)))), w11] [(.int (1 : Int32)), (.int (1 : Int32))])) _
    refine XS.icmpYes X17.here hx rfl (pc0 := 15) (pc' := 136) rfl (hb hby d_record_15) rfl (flt (by decide : ¬ ((1 : Int32) < (1 : Int32)))).2.1 (by decide) (by decide) ?_
    exact ht
  obtain ⟨fs, hr, hrun, hended, hW, hsame⟩ := X17.leave (v := none) (fun _ => rfl)
  refine ⟨_, _, pre0 _ ((goT k1 (goT k3 (goT k5 (goT k6 (goT k7 (goT k8 (goT k9 (goT k10 (goT k11 (goT k12 (goT k13 (goT k14 (goT k15 (goT k16 (goT k17 k18))))))))))))))) _ (X17.returnOut hx Bd.returns (hb hby d_record_136) hr)), hrun, hended, _, _, rfl, ?_, ⟨_, rfl⟩, hW, hsame.mono (by decide) (by decide)⟩
  show Q_record Z r0 q1 r3 B S ra rc ka kc kr hs cs hv h0 n0 _ T17.heap _
  rw [e17]
  exact ⟨rfl, N17, Kp17, E_r0_c_17, Fb_c_17, Fs_c_17, Fh_c_17, Fc_c_17, V13_ra_c_17, V17_rc⟩
theorem d_shk1_4 : decode prog_25_method_6_code 4 = .ok (.iload_n 3, 1) := by decide +kernel
theorem d_shk1_5 : decode prog_25_method_6_code 5 = .ok (.aload_n 0, 1) := by decide +kernel
theorem d_shk1_6 : decode prog_25_method_6_code 6 = .ok (.getfield 33, 3) := by decide +kernel
theorem d_shk1_9 : decode prog_25_method_6_code 9 = .ok (.arraylength, 1) := by decide +kernel
theorem d_shk1_10 : decode prog_25_method_6_code 10 = .ok (.if_icmp .ge 60, 3) := by decide +kernel
theorem d_shk1_13 : decode prog_25_method_6_code 13 = .ok (.iload_n 3, 1) := by decide +kernel
theorem d_shk1_14 : decode prog_25_method_6_code 14 = .ok (.istore 4, 2) := by decide +kernel
theorem d_shk1_16 : decode prog_25_method_6_code 16 = .ok (.iload 4, 2) := by decide +kernel
theorem d_shk1_18 : decode prog_25_method_6_code 18 = .ok (.iload_n 3, 1) := by decide +kernel
theorem d_shk1_19 : decode prog_25_method_6_code 19 = .ok (.aload_n 0, 1) := by decide +kernel
theorem d_shk1_20 : decode prog_25_method_6_code 20 = .ok (.getfield 26, 3) := by decide +kernel
theorem d_shk1_23 : decode prog_25_method_6_code 23 = .ok (.iadd, 1) := by decide +kernel
theorem d_shk1_24 : decode prog_25_method_6_code 24 = .ok (.if_icmp .ge 21, 3) := by decide +kernel
theorem d_shk1_27 : decode prog_25_method_6_code 27 = .ok (.aload_n 0, 1) := by decide +kernel
theorem d_shk1_28 : decode prog_25_method_6_code 28 = .ok (.getfield 33, 3) := by decide +kernel
theorem d_shk1_31 : decode prog_25_method_6_code 31 = .ok (.iload 4, 2) := by decide +kernel
theorem d_shk1_33 : decode prog_25_method_6_code 33 = .ok (.laload, 1) := by decide +kernel
theorem d_shk1_34 : decode prog_25_method_6_code 34 = .ok (.lconst 0, 1) := by decide +kernel
theorem d_shk1_35 : decode prog_25_method_6_code 35 = .ok (.lcmp, 1) := by decide +kernel
theorem d_shk1_36 : decode prog_25_method_6_code 36 = .ok (.ifCond .eq 9, 3) := by decide +kernel
theorem d_shk1_39 : decode prog_25_method_6_code 39 = .ok (.iinc 4 1, 3) := by decide +kernel
theorem d_shk1_42 : decode prog_25_method_6_code 42 = .ok (.goto (-26), 3) := by decide +kernel
theorem d_shk1_45 : decode prog_25_method_6_code 45 = .ok (.iload 4, 2) := by decide +kernel
theorem d_shk1_47 : decode prog_25_method_6_code 47 = .ok (.iload_n 3, 1) := by decide +kernel
theorem d_shk1_48 : decode prog_25_method_6_code 48 = .ok (.aload_n 0, 1) := by decide +kernel
theorem d_shk1_49 : decode prog_25_method_6_code 49 = .ok (.getfield 26, 3) := by decide +kernel
theorem d_shk1_52 : decode prog_25_method_6_code 52 = .ok (.iadd, 1) := by decide +kernel
theorem d_shk1_53 : decode prog_25_method_6_code 53 = .ok (.if_icmp .ne 7, 3) := by decide +kernel
theorem d_shk1_56 : decode prog_25_method_6_code 56 = .ok (.lload_n 1, 1) := by decide +kernel
theorem d_shk1_57 : decode prog_25_method_6_code 57 = .ok (.lconst 1, 1) := by decide +kernel
theorem d_shk1_58 : decode prog_25_method_6_code 58 = .ok (.ladd, 1) := by decide +kernel
theorem d_shk1_59 : decode prog_25_method_6_code 59 = .ok (.lstore_n 1, 1) := by decide +kernel
theorem d_shk1_60 : decode prog_25_method_6_code 60 = .ok (.iload_n 3, 1) := by decide +kernel
theorem d_shk1_61 : decode prog_25_method_6_code 61 = .ok (.aload_n 0, 1) := by decide +kernel
theorem d_shk1_62 : decode prog_25_method_6_code 62 = .ok (.getfield 26, 3) := by decide +kernel
theorem d_shk1_65 : decode prog_25_method_6_code 65 = .ok (.iadd, 1) := by decide +kernel
theorem d_shk1_66 : decode prog_25_method_6_code 66 = .ok (.istore_n 3, 1) := by decide +kernel
theorem d_shk1_67 : decode prog_25_method_6_code 67 = .ok (.goto (-63), 3) := by decide +kernel
def f_shk1 (k : Nat) (F : Int64) (cs : List Int64) : Int64 := (if (cs.getD k 0) = (0 : Int64) then F else (F + (1 : Int64)))
set_option maxRecDepth 65536 in
set_option maxHeartbeats 40000000 in
theorem pc_shk1 {p : Program} {l : Launch} {e : Env} {s : State} {m : MethodId} {below : List Frame} {meth : Method} {c : Code} {T0 : State} {locs : List Loc} {Z : State} {a0 : Array Value} {h0 : Heap} {n0 : Nat} (r0 rc : Addr) (F : Int64) (B k : Nat) (kc : ClassId) (cs : List Int64) (s4 : Slot)
    (X0 : Stand p l e ({ frames := 0, cells := 0, slots := 0, locals := 0 } : Room) s m #[(.ref r0)] below meth c T0 locs 0 0) (hx : p.tables.exec = Jvm.exec) (hZ : Z.Warmed39 s.vm) (hw : ∀ d ∈ tables_1, d.before a0 Z = true) (hby : c.code = prog_25_method_6_code) (hml : c.maxLocals = 5) (hown : s.vm.findClass "com/example/auspex/auspex/manager/ConflictTable" = some m.cls) (e0 : T0.heap = h0) (N0 : Fr n0 locs) (Z0 : n0 ≤ h0.size) (Fs : Fld Z h0 r0 "com/example/auspex/auspex/manager/ConflictTable" "slotsPerBucket" "I" (.int (1 : Int32))) (Fc : Fld Z h0 r0 "com/example/auspex/auspex/manager/ConflictTable" "commits" "[J" (.ref rc)) (Vc : Arv Z h0 rc kc .long (Int32.ofNat (B * 1)) (cs.map Value.long) (.long (0 : Int64))) (hB : 1 ≤ B ∧ B ≤ 4) (hk : k + 1 ≤ B * 1) (h4 : One s4) :
    ∃ (T' : State) (L' : List Loc) (w4 : Int32), Stand p l e ({ frames := 0, cells := 0, slots := 0, locals := 0 } : Room) s m #[(.ref r0)] below meth c T' L' 0 0 ∧ Fr n0 L' ∧ T'.heap = h0 ∧ Go p.tables e below (T0.setTop (mkF m 4 #[.val (.ref r0), .val (.long F), .second, .val (.int (Int32.ofNat k)), s4] [])) (T'.setTop (mkF m 4 #[.val (.ref r0), .val (.long (f_shk1 k F cs)), .second, .val (.int (Int32.ofNat (k + 1))), .val (.int w4)] [])) := by
  have k1 : Go p.tables e below (T0.setTop (mkF m 4 #[.val (.ref r0), .val (.long F), .second, .val (.int (Int32.ofNat k)), s4] [])) (T0.setTop (mkF m 6 #[.val (.ref r0), .val (.long F), .second, .val (.int (Int32.ofNat k)), s4] [(.ref r0), (.int (Int32.ofNat k))])) := by
    intro t ht
    refine XS.iloadN X0.here hx rfl (hb hby d_shk1_4) rfl ?_
    show Steps p.tables e below (T0.setTop (mkF m 5 #[.val (.ref r0), .val (.long F), .second, .val (.int (Int32.ofNat k)), s4] [(.int (Int32.ofNat k))])) _
    refine XS.aloadN X0.here hx rfl (hb hby d_shk1_5) rfl rfl ?_
    exact ht
  obtain ⟨T2, X2, e2, st2⟩ := getF X0 hx hZ hown (host := "") (Or.inl (hw _ (List.mem_of_getElem? (i := 18) rfl))) Via.refl e0 Fc (g := (mkF m 6 #[.val (.ref r0), .val (.long F), .second, .val (.int (Int32.ofNat k)), s4] [(.ref r0), (.int (Int32.ofNat k))])) rfl rfl (hb hby d_shk1_6)
  have k2 : Go p.tables e below (T0.setTop (mkF m 6 #[.val (.ref r0), .val (.long F), .second, .val (.int (Int32.ofNat k)), s4] [(.ref r0), (.int (Int32.ofNat k))])) (T2.setTop (mkF m 9 #[.val (.ref r0), .val (.long F), .second, .val (.int (Int32.ofNat k)), s4] [(.ref rc), (.int (Int32.ofNat k))])) := st2
  obtain ⟨cl3, Ar3, q3, S3, M3, H3, G3⟩ := id Vc
  have k4 : Go p.tables e below (T2.setTop (mkF m 9 #[.val (.ref r0), .val (.long F), .second, .val (.int (Int32.ofNat k)), s4] [(.ref rc), (.int (Int32.ofNat k))])) (T2.setTop (mkF m 20 #[.val (.ref r0), .val (.long F), .second, .val (.int (Int32.ofNat k)), .val (.int (Int32.ofNat k))] [(.ref r0), (.int (Int32.ofNat k)), (.int (Int32.ofNat k))])) := by
    intro t ht
    refine X2.arraylength hx (by rw [e2]; exact Ar3.1) (State.isArrayOf_alike hZ.alike Ar3.2.1) (g := (mkF m 9 #[.val (.ref r0), .val (.long F), .second, .val (.int (Int32.ofNat k)), s4] [(.ref rc), (.int (Int32.ofNat k))])) rfl rfl (hb hby d_shk1_9) _ ?_
    rw [len_of S3 M3]
    show Steps p.tables e below (T2.setTop (mkF m 10 #[.val (.ref r0), .val (.long F), .second, .val (.int (Int32.ofNat k)), s4] [(.int (Int32.ofNat (B * 1))), (.int (Int32.ofNat k))])) _
    refine XS.icmpNo X2.here hx rfl (hb hby d_shk1_10) rfl (tlt (own_ltk (by omega) (by omega))).2.1 ?_
    show Steps p.tables e below (T2.setTop (mkF m 13 #[.val (.ref r0), .val (.long F), .second, .val (.int (Int32.ofNat k)), s4] [])) _
    refine XS.iloadN X2.here hx rfl (hb hby d_shk1_13) rfl ?_
    show Steps p.tables e below (T2.setTop (mkF m 14 #[.val (.ref r0), .val (.long F), .second, .val (.int (Int32.ofNat k)), s4] [(.int (Int32.ofNat k))])) _
    refine XS.istore X2.here hx rfl (hb hby d_shk1_14) rfl (l' := #[.val (.ref r0), .val (.long F), .second, .val (.int (Int32.ofNat k)), .val (.int (Int32.ofNat k))]) (own_st4 h4) ?_
    show Steps p.tables e below (T2.setTop (mkF m 16 #[.val (.ref r0), .val (.long F), .second, .val (.int (Int32.ofNat k)), .val (.int (Int32.ofNat k))] [])) _
    refine XS.iload X2.here hx rfl (hb hby d_shk1_16) rfl ?_
    show Steps p.tables e below (T2.setTop (mkF m 18 #[.val (.ref r0), .val (.long F), .second, .val (.int (Int32.ofNat k)), .val (.int (Int32.ofNat k))] [(.int (Int32.ofNat k))])) _
    refine XS.iloadN X2.here hx rfl (hb hby d_shk1_18) rfl ?_
    show Steps p.tables e below (T2.setTop (mkF m 19 #[.val (.ref r0), .val (.long F), .second, .val (.int (Int32.ofNat k)), .val (.int (Int32.ofNat k))] [(.int (Int32.ofNat k)), (.int (Int32.ofNat k))])) _
    refine XS.aloadN X2.here hx rfl (hb hby d_shk1_19) rfl rfl ?_
    exact ht
  obtain ⟨T5, X5, e5, st5⟩ := getF X2 hx hZ hown (host := "") (Or.inl (hw _ (List.mem_of_getElem? (i := 13) rfl))) Via.refl e2 Fs (g := (mkF m 20 #[.val (.ref r0), .val (.long F), .second, .val (.int (Int32.ofNat k)), .val (.int (Int32.ofNat k))] [(.ref r0), (.int (Int32.ofNat k)), (.int (Int32.ofNat k))])) rfl rfl (hb hby d_shk1_20)
  have k5 : Go p.tables e below (T2.setTop (mkF m 20 #[.val (.ref r0), .val (.long F), .second, .val (.int (Int32.ofNat k)), .val (.int (Int32.ofNat k))] [(.ref r0), (.int (Int32.ofNat k)), (.int (Int32.ofNat k))])) (T5.setTop (mkF m 23 #[.val (.ref r0), .val (.long F), .second, .val (.int (Int32.ofNat k)), .val (.int (Int32.ofNat k))] [(.int (1 : Int32)), (.int (Int32.ofNat k)), (.int (Int32.ofNat k))])) := st5
  have k6 : Go p.tables e below (T5.setTop (mkF m 23 #[.val (.ref r0), .val (.long F), .second, .val (.int (Int32.ofNat k)), .val (.int (Int32.ofNat k))] [(.int (1 : Int32)), (.int (Int32.ofNat k)), (.int (Int32.ofNat k))])) (T5.setTop (mkF m 24 #[.val (.ref r0), .val (.long F), .second, .val (.int (Int32.ofNat k)), .val (.int (Int32.ofNat k))] [(.int ((Int32.ofNat k) + (1 : Int32))), (.int (Int32.ofNat k))])) := by
    intro t ht
    refine XS.iadd X5.here hx rfl (hb hby d_shk1_23) rfl ?_
    exact ht
  have k7 : Go p.tables e below (T5.setTop (mkF m 24 #[.val (.ref r0), .val (.long F), .second, .val (.int (Int32.ofNat k)), .val (.int (Int32.ofNat k))] [(.int ((Int32.ofNat k) + (1 : Int32))), (.int (Int32.ofNat k))])) (T5.setTop (mkF m 24 #[.val (.ref r0), .val (.long F), .second, .val (.int (Int32.ofNat k)), .val (.int (Int32.ofNat k))] [(.int (Int32.ofNat (k + 1))), (.int (Int32.ofNat k))])) := by rw [own_addk1]; exact fun _ h => h
  have k8 : Go p.tables e below (T5.setTop (mkF m 24 #[.val (.ref r0), .val (.long F), .second, .val (.int (Int32.ofNat k)), .val (.int (Int32.ofNat k))] [(.int (Int32.ofNat (k + 1))), (.int (Int32.ofNat k))])) (T5.setTop (mkF m 28 #[.val (.ref r0), .val (.long F), .second, .val (.int (Int32.ofNat k)), .val (.int (Int32.ofNat k))] [(.ref r0)])) := by
    intro t ht
    refine XS.icmpNo X5.here hx rfl (hb hby d_shk1_24) rfl (tlt (own_ltk (by omega) (by omega))).2.1 ?_
    show Steps p.tables e below (T5.setTop (mkF m 27 #[.val (.ref r0), .val (.long F), .second, .val (.int (Int32.ofNat k)), .val (.int (Int32.ofNat k))] [])) _
    refine XS.aloadN X5.here hx rfl (hb hby d_shk1_27) rfl rfl ?_
    exact ht
  obtain ⟨T9, X9, e9, st9⟩ := getF X5 hx hZ hown (host := "") (Or.inl (hw _ (List.mem_of_getElem? (i := 18) rfl))) Via.refl e5 Fc (g := (mkF m 28 #[.val (.ref r0), .val (.long F), .second, .val (.int (Int32.ofNat k)), .val (.int (Int32.ofNat k))] [(.ref r0)])) rfl rfl (hb hby d_shk1_28)
  have k9 : Go p.tables e below (T5.setTop (mkF m 28 #[.val (.ref r0), .val (.long F), .second, .val (.int (Int32.ofNat k)), .val (.int (Int32.ofNat k))] [(.ref r0)])) (T9.setTop (mkF m 31 #[.val (.ref r0), .val (.long F), .second, .val (.int (Int32.ofNat k)), .val (.int (Int32.ofNat k))] [(.ref rc)])) := st9
  have k10 : Go p.tables e below (T9.setTop (mkF m 31 #[.val (.ref r0), .val (.long F), .second, .val (.int (Int32.ofNat k)), .val (.int (Int32.ofNat k))] [(.ref rc)])) (T9.setTop (mkF m 33 #[.val (.ref r0), .val (.long F), .second, .val (.int (Int32.ofNat k)), .val (.int (Int32.ofNat k))] [(.int (Int32.ofNat k)), (.ref rc)])) := by
    intro t ht
    refine XS.iload X9.here hx rfl (hb hby d_shk1_31) rfl ?_
    exact ht
  obtain ⟨cl11, Ar11, q11, S11, M11, H11, G11⟩ := id Vc
  have hin11 : ¬ ((Int32.ofNat k) < 0 ∨ cl11.slots.size ≤ ((Int32.ofNat k)).toNatClampNeg) := inb_of S11 ⟨own_nneg (by omega), own_ltM (by omega) (by omega)⟩
  have hat11 : cl11.slots[((Int32.ofNat k)).toNatClampNeg]? = some (.long (cs.getD k 0)) := (H11 _ (Nat.lt_of_not_le fun y => hin11 (Or.inr y))).trans (congrArg some (own_getJ _ (by omega)))
  have k12 : Go p.tables e below (T9.setTop (mkF m 33 #[.val (.ref r0), .val (.long F), .second, .val (.int (Int32.ofNat k)), .val (.int (Int32.ofNat k))] [(.int (Int32.ofNat k)), (.ref rc)])) (T9.setTop (mkF m 36 #[.val (.ref r0), .val (.long F), .second, .val (.int (Int32.ofNat k)), .val (.int (Int32.ofNat k))] [(.int (lcmpW (cs.getD k 0) (0 : Int64)))])) := by
    intro t ht
    refine X9.laload hx (j := (Int32.ofNat k)) (v := (.long (cs.getD k 0))) (by rw [e9]; exact Ar11.1) (State.isArrayOf_alike hZ.alike Ar11.2.1) Ar11.2.2 hin11 hat11 (g := (mkF m 33 #[.val (.ref r0), .val (.long F), .second, .val (.int (Int32.ofNat k)), .val (.int (Int32.ofNat k))] [(.int (Int32.ofNat k)), (.ref rc)])) rfl rfl (hb hby d_shk1_33) _ ?_
    show Steps p.tables e below (T9.setTop (mkF m 34 #[.val (.ref r0), .val (.long F), .second, .val (.int (Int32.ofNat k)), .val (.int (Int32.ofNat k))] [(.long (cs.getD k 0))])) _
    refine XS.lconst X9.here hx rfl (hb hby d_shk1_34) ?_
    show Steps p.tables e below (T9.setTop (mkF m 35 #[.val (.ref r0), .val (.long F), .second, .val (.int (Int32.ofNat k)), .val (.int (Int32.ofNat k))] [(.long (0 : Int64)), (.long (cs.getD k 0))])) _
    refine XS.lcmp X9.here hx rfl (hb hby d_shk1_35) rfl ?_
    exact ht
  by_cases hc13 : (cs.getD k 0) = (0 : Int64)
  · have k14 : Go p.tables e below (T9.setTop (mkF m 36 #[.val (.ref r0), .val (.long F), .second, .val (.int (Int32.ofNat k)), .val (.int (Int32.ofNat k))] [(.int (lcmpW (cs.getD k 0) (0 : Int64)))])) (T9.setTop (mkF m 49 #[.val (.ref r0), .val (.long F), .second, .val (.int (Int32.ofNat k)), .val (.int (Int32.ofNat k))] [(.ref r0), (.int (Int32.ofNat k)), (.int (Int32.ofNat k))])) := by
      intro t ht
      refine XS.ifYes X9.here hx rfl (pc0 := 36) (pc' := 45) rfl (hb hby d_shk1_36) rfl ((if0 _ _).trans (teq (own_eqL hc13)).1) (by decide) (by decide) ?_
      show Steps p.tables e below (T9.setTop (mkF m 45 #[.val (.ref r0), .val (.long F), .second, .val (.int (Int32.ofNat k)), .val (.int (Int32.ofNat k))] [])) _
      refine XS.iload X9.here hx rfl (hb hby d_shk1_45) rfl ?_
      show Steps p.tables e below (T9.setTop (mkF m 47 #[.val (.ref r0), .val (.long F), .second, .val (.int (Int32.ofNat k)), .val (.int (Int32.ofNat k))] [(.int (Int32.ofNat k))])) _
      refine XS.iloadN X9.here hx rfl (hb hby d_shk1_47) rfl ?_
      show Steps p.tables e below (T9.setTop (mkF m 48 #[.val (.ref r0), .val (.long F), .second, .val (.int (Int32.ofNat k)), .val (.int (Int32.ofNat k))] [(.int (Int32.ofNat k)), (.int (Int32.ofNat k))])) _
      refine XS.aloadN X9.here hx rfl (hb hby d_shk1_48) rfl rfl ?_
      exact ht
    obtain ⟨T15, X15, e15, st15⟩ := getF X9 hx hZ hown (host := "") (Or.inl (hw _ (List.mem_of_getElem? (i := 13) rfl))) Via.refl e9 Fs (g := (mkF m 49 #[.val (.ref r0), .val (.long F), .second, .val (.int (Int32.ofNat k)), .val (.int (Int32.ofNat k))] [(.ref r0), (.int (Int32.ofNat k)), (.int (Int32.ofNat k))])) rfl rfl (hb hby d_shk1_49)
    have k15 : Go p.tables e below (T9.setTop (mkF m 49 #[.val (.ref r0), .val (.long F), .second, .val (.int (Int32.ofNat k)), .val (.int (Int32.ofNat k))] [(.ref r0), (.int (Int32.ofNat k)), (.int (Int32.ofNat k))])) (T15.setTop (mkF m 52 #[.val (.ref r0), .val (.long F), .second, .val (.int (Int32.ofNat k)), .val (.int (Int32.ofNat k))] [(.int (1 : Int32)), (.int (Int32.ofNat k)), (.int (Int32.ofNat k))])) := st15
    have k16 : Go p.tables e below (T15.setTop (mkF m 52 #[.val (.ref r0), .val (.long F), .second, .val (.int (Int32.ofNat k)), .val (.int (Int32.ofNat k))] [(.int (1 : Int32)), (.int (Int32.ofNat k)), (.int (Int32.ofNat k))])) (T15.setTop (mkF m 53 #[.val (.ref r0), .val (.long F), .second, .val (.int (Int32.ofNat k)), .val (.int (Int32.ofNat k))] [(.int ((Int32.ofNat k) + (1 : Int32))), (.int (Int32.ofNat k))])) := by
      intro t ht
      refine XS.iadd X15.here hx rfl (hb hby d_shk1_52) rfl ?_
      exact ht
    have k17 : Go p.tables e below (T15.setTop (mkF m 53 #[.val (.ref r0), .val (.long F), .second, .val (.int (Int32.ofNat k)), .val (.int (Int32.ofNat k))] [(.int ((Int32.ofNat k) + (1 : Int32))), (.int (Int32.ofNat k))])) (T15.setTop (mkF m 53 #[.val (.ref r0), .val (.long F), .second, .val (.int (Int32.ofNat k)), .val (.int (Int32.ofNat k))] [(.int (Int32.ofNat (k + 1))), (.int (Int32.ofNat k))])) := by rw [own_addk1]; exact fun _ h => h
    have k18 : Go p.tables e below (T15.setTop (mkF m 53 #[.val (.ref r0), .val (.long F), .second, .val (.int (Int32.ofNat k)), .val (.int (Int32.ofNat k))] [(.int (Int32.ofNat (k + 1))), (.int (Int32.ofNat k))])) (T15.setTop (mkF m 62 #[.val (.ref r0), .val (.long F), .second, .val (.int (Int32.ofNat k)), .val (.int (Int32.ofNat k))] [(.ref r0), (.int (Int32.ofNat k))])) := by
      intro t ht
      refine XS.icmpYes X15.here hx rfl (pc0 := 53) (pc' := 60) rfl (hb hby d_shk1_53) rfl (feq (own_nek (by omega) (by omega))).2 (by decide) (by decide) ?_
      show Steps p.tables e below (T15.setTop (mkF m 60 #[.val (.ref r0), .val (.long F), .second, .val (.int (Int32.ofNat k)), .val (.int (Int32.ofNat k))] [])) _
      refine XS.iloadN X15.here hx rfl (hb hby d_shk1_60) rfl ?_
      show Steps p.tables e below (T15.setTop (mkF m 61 #[.val (.ref r0), .val (.long F), .second, .val (.int (Int32.ofNat k)), .val (.int (Int32.ofNat k))] [(.int (Int32.ofNat k))])) _
      refine XS.aloadN X15.here hx rfl (hb hby d_shk1_61) rfl rfl ?_
      exact ht
    obtain ⟨T19, X19, e19, st19⟩ := getF X15 hx hZ hown (host := "") (Or.inl (hw _ (List.mem_of_getElem? (i := 13) rfl))) Via.refl e15 Fs (g := (mkF m 62 #[.val (.ref r0), .val (.long F), .second, .val (.int (Int32.ofNat k)), .val (.int (Int32.ofNat k))] [(.ref r0), (.int (Int32.ofNat k))])) rfl rfl (hb hby d_shk1_62)
    have k19 : Go p.tables e below (T15.setTop (mkF m 62 #[.val (.ref r0), .val (.long F), .second, .val (.int (Int32.ofNat k)), .val (.int (Int32.ofNat k))] [(.ref r0), (.int (Int32.ofNat k))])) (T19.setTop (mkF m 65 #[.val (.ref r0), .val (.long F), .second, .val (.int (Int32.ofNat k)), .val (.int (Int32.ofNat k))] [(.int (1 : Int32)), (.int (Int32.ofNat k))])) := st19
    have k20 : Go p.tables e below (T19.setTop (mkF m 65 #[.val (.ref r0), .val (.long F), .second, .val (.int (Int32.ofNat k)), .val (.int (Int32.ofNat k))] [(.int (1 : Int32)), (.int (Int32.ofNat k))])) (T19.setTop (mkF m 66 #[.val (.ref r0), .val (.long F), .second, .val (.int (Int32.ofNat k)), .val (.int (Int32.ofNat k))] [(.int ((Int32.ofNat k) + (1 : Int32)))])) := by
      intro t ht
      refine XS.iadd X19.here hx rfl (hb hby d_shk1_65) rfl ?_
      exact ht
    have k21 : Go p.tables e below (T19.setTop (mkF m 66 #[.val (.ref r0), .val (.long F), .second, .val (.int (Int32.ofNat k)), .val (.int (Int32.ofNat k))] [(.int ((Int32.ofNat k) + (1 : Int32)))])) (T19.setTop (mkF m 66 #[.val (.ref r0), .val (.long F), .second, .val (.int (Int32.ofNat k)), .val (.int (Int32.ofNat k))] [(.int (Int32.ofNat (k + 1)))])) := by rw [own_addk1]; exact fun _ h => h
    have k22 : Go p.tables e below (T19.setTop (mkF m 66 #[.val (.ref r0), .val (.long F), .second, .val (.int (Int32.ofNat k)), .val (.int (Int32.ofNat k))] [(.int (Int32.ofNat (k + 1)))])) (T19.setTop (mkF m 4 #[.val (.ref r0), .val (.long F), .second, .val (.int (Int32.ofNat (k + 1))), .val (.int (Int32.ofNat k))] [])) := by
      intro t ht
      refine XS.istoreN X19.here hx rfl (hb hby d_shk1_66) rfl (l' := #[.val (.ref r0), .val (.long F), .second, .val (.int (Int32.ofNat (k + 1))), .val (.int (Int32.ofNat k))]) rfl ?_
      show Steps p.tables e below (T19.setTop (mkF m 67 #[.val (.ref r0), .val (.long F), .second, .val (.int (Int32.ofNat (k + 1))), .val (.int (Int32.ofNat k))] [])) _
      refine XS.goto X19.here hx rfl (pc0 := 67) (pc' := 4) rfl (hb hby d_shk1_67) (by decide) (by decide) ?_
      exact ht
    refine ⟨T19, _, ((Int32.ofNat k)), X19, N0, e19, ?_⟩
    have kk := (goT k1 (goT k2 (goT k4 (goT k5 (goT k6 (goT k7 (goT k8 (goT k9 (goT k10 (goT k12 (goT k14 (goT k15 (goT k16 (goT k17 (goT k18 (goT k19 (goT k20 (goT k21 k22))))))))))))))))))
    simpa only [f_shk1, if_pos hc13] using kk
  · have k23 : Go p.tables e below (T9.setTop (mkF m 36 #[.val (.ref r0), .val (.long F), .second, .val (.int (Int32.ofNat k)), .val (.int (Int32.ofNat k))] [(.int (lcmpW (cs.getD k 0) (0 : Int64)))])) (T9.setTop (mkF m 42 #[.val (.ref r0), .val (.long F), .second, .val (.int (Int32.ofNat k)), .val (.int ((Int32.ofNat k) + (1 : Int32)))] [])) := by
      intro t ht
      refine XS.ifNo X9.here hx rfl (hb hby d_shk1_36) rfl ((if0 _ _).trans (feq (own_neqL hc13)).1) ?_
      show Steps p.tables e below (T9.setTop (mkF m 39 #[.val (.ref r0), .val (.long F), .second, .val (.int (Int32.ofNat k)), .val (.int (Int32.ofNat k))] [])) _
      refine XS.iinc X9.here hx rfl (hb hby d_shk1_39) rfl (l' := #[.val (.ref r0), .val (.long F), .second, .val (.int (Int32.ofNat k)), .val (.int ((Int32.ofNat k) + (1 : Int32)))]) rfl ?_
      exact ht
    have k24 : Go p.tables e below (T9.setTop (mkF m 42 #[.val (.ref r0), .val (.long F), .second, .val (.int (Int32.ofNat k)), .val (.int ((Int32.ofNat k) + (1 : Int32)))] [])) (T9.setTop (mkF m 42 #[.val (.ref r0), .val (.long F), .second, .val (.int (Int32.ofNat k)), .val (.int (Int32.ofNat (k + 1)))] [])) := by rw [own_inck0]; exact fun _ h => h
    have k25 : Go p.tables e below (T9.setTop (mkF m 42 #[.val (.ref r0), .val (.long F), .second, .val (.int (Int32.ofNat k)), .val (.int (Int32.ofNat (k + 1)))] [])) (T9.setTop (mkF m 20 #[.val (.ref r0), .val (.long F), .second, .val (.int (Int32.ofNat k)), .val (.int (Int32.ofNat (k + 1)))] [(.ref r0), (.int (Int32.ofNat k)), (.int (Int32.ofNat (k + 1)))])) := by
      intro t ht
      refine XS.goto X9.here hx rfl (pc0 := 42) (pc' := 16) rfl (hb hby d_shk1_42) (by decide) (by decide) ?_
      show Steps p.tables e below (T9.setTop (mkF m 16 #[.val (.ref r0), .val (.long F), .second, .val (.int (Int32.ofNat k)), .val (.int (Int32.ofNat (k + 1)))] [])) _
      refine XS.iload X9.here hx rfl (hb hby d_shk1_16) rfl ?_
      show Steps p.tables e below (T9.setTop (mkF m 18 #[.val (.ref r0), .val (.long F), .second, .val (.int (Int32.ofNat k)), .val (.int (Int32.ofNat (k + 1)))] [(.int (Int32.ofNat (k + 1)))])) _
      refine XS.iloadN X9.here hx rfl (hb hby d_shk1_18) rfl ?_
      show Steps p.tables e below (T9.setTop (mkF m 19 #[.val (.ref r0), .val (.long F), .second, .val (.int (Int32.ofNat k)), .val (.int (Int32.ofNat (k + 1)))] [(.int (Int32.ofNat k)), (.int (Int32.ofNat (k + 1)))])) _
      refine XS.aloadN X9.here hx rfl (hb hby d_shk1_19) rfl rfl ?_
      exact ht
    obtain ⟨T26, X26, e26, st26⟩ := getF X9 hx hZ hown (host := "") (Or.inl (hw _ (List.mem_of_getElem? (i := 13) rfl))) Via.refl e9 Fs (g := (mkF m 20 #[.val (.ref r0), .val (.long F), .second, .val (.int (Int32.ofNat k)), .val (.int (Int32.ofNat (k + 1)))] [(.ref r0), (.int (Int32.ofNat k)), (.int (Int32.ofNat (k + 1)))])) rfl rfl (hb hby d_shk1_20)
    have k26 : Go p.tables e below (T9.setTop (mkF m 20 #[.val (.ref r0), .val (.long F), .second, .val (.int (Int32.ofNat k)), .val (.int (Int32.ofNat (k + 1)))] [(.ref r0), (.int (Int32.ofNat k)), (.int (Int32.ofNat (k + 1)))])) (T26.setTop (mkF m 23 #[.val (.ref r0), .val (.long F), .second, .val (.int (Int32.ofNat k)), .val (.int (Int32.ofNat (k + 1)))] [(.int (1 : Int32)), (.int (Int32.ofNat k)), (.int (Int32.ofNat (k + 1)))])) := st26
    have k27 : Go p.tables e below (T26.setTop (mkF m 23 #[.val (.ref r0), .val (.long F), .second, .val (.int (Int32.ofNat k)), .val (.int (Int32.ofNat (k + 1)))] [(.int (1 : Int32)), (.int (Int32.ofNat k)), (.int (Int32.ofNat (k + 1)))])) (T26.setTop (mkF m 24 #[.val (.ref r0), .val (.long F), .second, .val (.int (Int32.ofNat k)), .val (.int (Int32.ofNat (k + 1)))] [(.int ((Int32.ofNat k) + (1 : Int32))), (.int (Int32.ofNat (k + 1)))])) := by
      intro t ht
      refine XS.iadd X26.here hx rfl (hb hby d_shk1_23) rfl ?_
      exact ht
    have k28 : Go p.tables e below (T26.setTop (mkF m 24 #[.val (.ref r0), .val (.long F), .second, .val (.int (Int32.ofNat k)), .val (.int (Int32.ofNat (k + 1)))] [(.int ((Int32.ofNat k) + (1 : Int32))), (.int (Int32.ofNat (k + 1)))])) (T26.setTop (mkF m 24 #[.val (.ref r0), .val (.long F), .second, .val (.int (Int32.ofNat k)), .val (.int (Int32.ofNat (k + 1)))] [(.int (Int32.ofNat (k + 1))), (.int (Int32.ofNat (k + 1)))])) := by rw [own_addk1]; exact fun _ h => h
    have k29 : Go p.tables e below (T26.setTop (mkF m 24 #[.val (.ref r0), .val (.long F), .second, .val (.int (Int32.ofNat k)), .val (.int (Int32.ofNat (k + 1)))] [(.int (Int32.ofNat (k + 1))), (.int (Int32.ofNat (k + 1)))])) (T26.setTop (mkF m 49 #[.val (.ref r0), .val (.long F), .second, .val (.int (Int32.ofNat k)), .val (.int (Int32.ofNat (k + 1)))] [(.ref r0), (.int (Int32.ofNat k)), (.int (Int32.ofNat (k + 1)))])) := by
      intro t ht
      refine XS.icmpYes X26.here hx rfl (pc0 := 24) (pc' := 45) rfl (hb hby d_shk1_24) rfl (flt (own_nltk _)).2.1 (by decide) (by decide) ?_
      show Steps p.tables e below (T26.setTop (mkF m 45 #[.val (.ref r0), .val (.long F), .second, .val (.int (Int32.ofNat k)), .val (.int (Int32.ofNat (k + 1)))] [])) _
      refine XS.iload X26.here hx rfl (hb hby d_shk1_45) rfl ?_
      show Steps p.tables e below (T26.setTop (mkF m 47 #[.val (.ref r0), .val (.long F), .second, .val (.int (Int32.ofNat k)), .val (.int (Int32.ofNat (k + 1)))] [(.int (Int32.ofNat (k + 1)))])) _
      refine XS.iloadN X26.here hx rfl (hb hby d_shk1_47) rfl ?_
      show Steps p.tables e below (T26.setTop (mkF m 48 #[.val (.ref r0), .val (.long F), .second, .val (.int (Int32.ofNat k)), .val (.int (Int32.ofNat (k + 1)))] [(.int (Int32.ofNat k)), (.int (Int32.ofNat (k + 1)))])) _
      refine XS.aloadN X26.here hx rfl (hb hby d_shk1_48) rfl rfl ?_
      exact ht
    obtain ⟨T30, X30, e30, st30⟩ := getF X26 hx hZ hown (host := "") (Or.inl (hw _ (List.mem_of_getElem? (i := 13) rfl))) Via.refl e26 Fs (g := (mkF m 49 #[.val (.ref r0), .val (.long F), .second, .val (.int (Int32.ofNat k)), .val (.int (Int32.ofNat (k + 1)))] [(.ref r0), (.int (Int32.ofNat k)), (.int (Int32.ofNat (k + 1)))])) rfl rfl (hb hby d_shk1_49)
    have k30 : Go p.tables e below (T26.setTop (mkF m 49 #[.val (.ref r0), .val (.long F), .second, .val (.int (Int32.ofNat k)), .val (.int (Int32.ofNat (k + 1)))] [(.ref r0), (.int (Int32.ofNat k)), (.int (Int32.ofNat (k + 1)))])) (T30.setTop (mkF m 52 #[.val (.ref r0), .val (.long F), .second, .val (.int (Int32.ofNat k)), .val (.int (Int32.ofNat (k + 1)))] [(.int (1 : Int32)), (.int (Int32.ofNat k)), (.int (Int32.ofNat (k + 1)))])) := st30
    have k31 : Go p.tables e below (T30.setTop (mkF m 52 #[.val (.ref r0), .val (.long F), .second, .val (.int (Int32.ofNat k)), .val (.int (Int32.ofNat (k + 1)))] [(.int (1 : Int32)), (.int (Int32.ofNat k)), (.int (Int32.ofNat (k + 1)))])) (T30.setTop (mkF m 53 #[.val (.ref r0), .val (.long F), .second, .val (.int (Int32.ofNat k)), .val (.int (Int32.ofNat (k + 1)))] [(.int ((Int32.ofNat k) + (1 : Int32))), (.int (Int32.ofNat (k + 1)))])) := by
      intro t ht
      refine XS.iadd X30.here hx rfl (hb hby d_shk1_52) rfl ?_
      exact ht
    have k32 : Go p.tables e below (T30.setTop (mkF m 53 #[.val (.ref r0), .val (.long F), .second, .val (.int (Int32.ofNat k)), .val (.int (Int32.ofNat (k + 1)))] [(.int ((Int32.ofNat k) + (1 : Int32))), (.int (Int32.ofNat (k + 1)))])) (T30.setTop (mkF m 53 #[.val (.ref r0), .val (.long F), .second, .val (.int (Int32.ofNat k)), .val (.int (Int32.ofNat (k + 1)))] [(.int (Int32.ofNat (k + 1))), (.int (Int32.ofNat (k + 1)))])) := by rw [own_addk1]; exact fun _ h => h
    have k33 : Go p.tables e below (T30.setTop (mkF m 53 #[.val (.ref r0), .val (.long F), .second, .val (.int (Int32.ofNat k)), .val (.int (Int32.ofNat (k + 1)))] [(.int (Int32.ofNat (k + 1))), (.int (Int32.ofNat (k + 1)))])) (T30.setTop (mkF m 62 #[.val (.ref r0), .val (.long (F + (1 : Int64))), .second, .val (.int (Int32.ofNat k)), .val (.int (Int32.ofNat (k + 1)))] [(.ref r0), (.int (Int32.ofNat k))])) := by
      intro t ht
      refine XS.icmpNo X30.here hx rfl (hb hby d_shk1_53) rfl (teq (rfl : (Int32.ofNat (k + 1)) = (Int32.ofNat (k + 1)))).2 ?_
      show Steps p.tables e below (T30.setTop (mkF m 56 #[.val (.ref r0), .val (.long F), .second, .val (.int (Int32.ofNat k)), .val (.int (Int32.ofNat (k + 1)))] [])) _
      refine XS.lloadN X30.here hx rfl (hb hby d_shk1_56) rfl ?_
      show Steps p.tables e below (T30.setTop (mkF m 57 #[.val (.ref r0), .val (.long F), .second, .val (.int (Int32.ofNat k)), .val (.int (Int32.ofNat (k + 1)))] [(.long F)])) _
      refine XS.lconst X30.here hx rfl (hb hby d_shk1_57) ?_
      show Steps p.tables e below (T30.setTop (mkF m 58 #[.val (.ref r0), .val (.long F), .second, .val (.int (Int32.ofNat k)), .val (.int (Int32.ofNat (k + 1)))] [(.long (1 : Int64)), (.long F)])) _
      refine XS.ladd X30.here hx rfl (hb hby d_shk1_58) rfl ?_
      show Steps p.tables e below (T30.setTop (mkF m 59 #[.val (.ref r0), .val (.long F), .second, .val (.int (Int32.ofNat k)), .val (.int (Int32.ofNat (k + 1)))] [(.long (F + (1 : Int64)))])) _
      refine XS.lstoreN X30.here hx rfl (hb hby d_shk1_59) rfl (l' := #[.val (.ref r0), .val (.long (F + (1 : Int64))), .second, .val (.int (Int32.ofNat k)), .val (.int (Int32.ofNat (k + 1)))]) rfl ?_
      show Steps p.tables e below (T30.setTop (mkF m 60 #[.val (.ref r0), .val (.long (F + (1 : Int64))), .second, .val (.int (Int32.ofNat k)), .val (.int (Int32.ofNat (k + 1)))] [])) _
      refine XS.iloadN X30.here hx rfl (hb hby d_shk1_60) rfl ?_
      show Steps p.tables e below (T30.setTop (mkF m 61 #[.val (.ref r0), .val (.long (F + (1 : Int64))), .second, .val (.int (Int32.ofNat k)), .val (.int (Int32.ofNat (k + 1)))] [(.int (Int32.ofNat k))])) _
      refine XS.aloadN X30.here hx rfl (hb hby d_shk1_61) rfl rfl ?_
      exact ht
    obtain ⟨T34, X34, e34, st34⟩ := getF X30 hx hZ hown (host := "") (Or.inl (hw _ (List.mem_of_getElem? (i := 13) rfl))) Via.refl e30 Fs (g := (mkF m 62 #[.val (.ref r0), .val (.long (F + (1 : Int64))), .second, .val (.int (Int32.ofNat k)), .val (.int (Int32.ofNat (k + 1)))] [(.ref r0), (.int (Int32.ofNat k))])) rfl rfl (hb hby d_shk1_62)
    have k34 : Go p.tables e below (T30.setTop (mkF m 62 #[.val (.ref r0), .val (.long (F + (1 : Int64))), .second, .val (.int (Int32.ofNat k)), .val (.int (Int32.ofNat (k + 1)))] [(.ref r0), (.int (Int32.ofNat k))])) (T34.setTop (mkF m 65 #[.val (.ref r0), .val (.long (F + (1 : Int64))), .second, .val (.int (Int32.ofNat k)), .val (.int (Int32.ofNat (k + 1)))] [(.int (1 : Int32)), (.int (Int32.ofNat k))])) := st34
    have k35 : Go p.tables e below (T34.setTop (mkF m 65 #[.val (.ref r0), .val (.long (F + (1 : Int64))), .second, .val (.int (Int32.ofNat k)), .val (.int (Int32.ofNat (k + 1)))] [(.int (1 : Int32)), (.int (Int32.ofNat k))])) (T34.setTop (mkF m 66 #[.val (.ref r0), .val (.long (F + (1 : Int64))), .second, .val (.int (Int32.ofNat k)), .val (.int (Int32.ofNat (k + 1)))] [(.int ((Int32.ofNat k) + (1 : Int32)))])) := by
      intro t ht
      refine XS.iadd X34.here hx rfl (hb hby d_shk1_65) rfl ?_
      exact ht
    have k36 : Go p.tables e below (T34.setTop (mkF m 66 #[.val (.ref r0), .val (.long (F + (1 : Int64))), .second, .val (.int (Int32.ofNat k)), .val (.int (Int32.ofNat (k + 1)))] [(.int ((Int32.ofNat k) + (1 : Int32)))])) (T34.setTop (mkF m 66 #[.val (.ref r0), .val (.long (F + (1 : Int64))), .second, .val (.int (Int32.ofNat k)), .val (.int (Int32.ofNat (k + 1)))] [(.int (Int32.ofNat (k + 1)))])) := by rw [own_addk1]; exact fun _ h => h
    have k37 : Go p.tables e below (T34.setTop (mkF m 66 #[.val (.ref r0), .val (.long (F + (1 : Int64))), .second, .val (.int (Int32.ofNat k)), .val (.int (Int32.ofNat (k + 1)))] [(.int (Int32.ofNat (k + 1)))])) (T34.setTop (mkF m 4 #[.val (.ref r0), .val (.long (F + (1 : Int64))), .second, .val (.int (Int32.ofNat (k + 1))), .val (.int (Int32.ofNat (k + 1)))] [])) := by
      intro t ht
      refine XS.istoreN X34.here hx rfl (hb hby d_shk1_66) rfl (l' := #[.val (.ref r0), .val (.long (F + (1 : Int64))), .second, .val (.int (Int32.ofNat (k + 1))), .val (.int (Int32.ofNat (k + 1)))]) rfl ?_
      show Steps p.tables e below (T34.setTop (mkF m 67 #[.val (.ref r0), .val (.long (F + (1 : Int64))), .second, .val (.int (Int32.ofNat (k + 1))), .val (.int (Int32.ofNat (k + 1)))] [])) _
      refine XS.goto X34.here hx rfl (pc0 := 67) (pc' := 4) rfl (hb hby d_shk1_67) (by decide) (by decide) ?_
      exact ht
    refine ⟨T34, _, ((Int32.ofNat (k + 1))), X34, N0, e34, ?_⟩
    have kk := (goT k1 (goT k2 (goT k4 (goT k5 (goT k6 (goT k7 (goT k8 (goT k9 (goT k10 (goT k12 (goT k23 (goT k24 (goT k25 (goT k26 (goT k27 (goT k28 (goT k29 (goT k30 (goT k31 (goT k32 (goT k33 (goT k34 (goT k35 (goT k36 k37))))))))))))))))))))))))
    simpa only [f_shk1, if_neg hc13] using kk
theorem d_shk2_4 : decode prog_25_method_6_code 4 = .ok (.iload_n 3, 1) := by decide +kernel
theorem d_shk2_5 : decode prog_25_method_6_code 5 = .ok (.aload_n 0, 1) := by decide +kernel
theorem d_shk2_6 : decode prog_25_method_6_code 6 = .ok (.getfield 33, 3) := by decide +kernel
theorem d_shk2_9 : decode prog_25_method_6_code 9 = .ok (.arraylength, 1) := by decide +kernel
theorem d_shk2_10 : decode prog_25_method_6_code 10 = .ok (.if_icmp .ge 60, 3) := by decide +kernel
theorem d_shk2_13 : decode prog_25_method_6_code 13 = .ok (.iload_n 3, 1) := by decide +kernel
theorem d_shk2_14 : decode prog_25_method_6_code 14 = .ok (.istore 4, 2) := by decide +kernel
theorem d_shk2_16 : decode prog_25_method_6_code 16 = .ok (.iload 4, 2) := by decide +kernel
theorem d_shk2_18 : decode prog_25_method_6_code 18 = .ok (.iload_n 3, 1) := by decide +kernel
theorem d_shk2_19 : decode prog_25_method_6_code 19 = .ok (.aload_n 0, 1) := by decide +kernel
theorem d_shk2_20 : decode prog_25_method_6_code 20 = .ok (.getfield 26, 3) := by decide +kernel
theorem d_shk2_23 : decode prog_25_method_6_code 23 = .ok (.iadd, 1) := by decide +kernel
theorem d_shk2_24 : decode prog_25_method_6_code 24 = .ok (.if_icmp .ge 21, 3) := by decide +kernel
theorem d_shk2_27 : decode prog_25_method_6_code 27 = .ok (.aload_n 0, 1) := by decide +kernel
theorem d_shk2_28 : decode prog_25_method_6_code 28 = .ok (.getfield 33, 3) := by decide +kernel
theorem d_shk2_31 : decode prog_25_method_6_code 31 = .ok (.iload 4, 2) := by decide +kernel
theorem d_shk2_33 : decode prog_25_method_6_code 33 = .ok (.laload, 1) := by decide +kernel
theorem d_shk2_34 : decode prog_25_method_6_code 34 = .ok (.lconst 0, 1) := by decide +kernel
theorem d_shk2_35 : decode prog_25_method_6_code 35 = .ok (.lcmp, 1) := by decide +kernel
theorem d_shk2_36 : decode prog_25_method_6_code 36 = .ok (.ifCond .eq 9, 3) := by decide +kernel
theorem d_shk2_39 : decode prog_25_method_6_code 39 = .ok (.iinc 4 1, 3) := by decide +kernel
theorem d_shk2_42 : decode prog_25_method_6_code 42 = .ok (.goto (-26), 3) := by decide +kernel
theorem d_shk2_45 : decode prog_25_method_6_code 45 = .ok (.iload 4, 2) := by decide +kernel
theorem d_shk2_47 : decode prog_25_method_6_code 47 = .ok (.iload_n 3, 1) := by decide +kernel
theorem d_shk2_48 : decode prog_25_method_6_code 48 = .ok (.aload_n 0, 1) := by decide +kernel
theorem d_shk2_49 : decode prog_25_method_6_code 49 = .ok (.getfield 26, 3) := by decide +kernel
theorem d_shk2_52 : decode prog_25_method_6_code 52 = .ok (.iadd, 1) := by decide +kernel
theorem d_shk2_53 : decode prog_25_method_6_code 53 = .ok (.if_icmp .ne 7, 3) := by decide +kernel
theorem d_shk2_56 : decode prog_25_method_6_code 56 = .ok (.lload_n 1, 1) := by decide +kernel
theorem d_shk2_57 : decode prog_25_method_6_code 57 = .ok (.lconst 1, 1) := by decide +kernel
theorem d_shk2_58 : decode prog_25_method_6_code 58 = .ok (.ladd, 1) := by decide +kernel
theorem d_shk2_59 : decode prog_25_method_6_code 59 = .ok (.lstore_n 1, 1) := by decide +kernel
theorem d_shk2_60 : decode prog_25_method_6_code 60 = .ok (.iload_n 3, 1) := by decide +kernel
theorem d_shk2_61 : decode prog_25_method_6_code 61 = .ok (.aload_n 0, 1) := by decide +kernel
theorem d_shk2_62 : decode prog_25_method_6_code 62 = .ok (.getfield 26, 3) := by decide +kernel
theorem d_shk2_65 : decode prog_25_method_6_code 65 = .ok (.iadd, 1) := by decide +kernel
theorem d_shk2_66 : decode prog_25_method_6_code 66 = .ok (.istore_n 3, 1) := by decide +kernel
theorem d_shk2_67 : decode prog_25_method_6_code 67 = .ok (.goto (-63), 3) := by decide +kernel
def f_shk2 (k : Nat) (F : Int64) (cs : List Int64) : Int64 := (if (cs.getD k 0) = (0 : Int64) then F else (if (cs.getD (k + 1) 0) = (0 : Int64) then F else (F + (1 : Int64))))
set_option maxRecDepth 65536 in
set_option maxHeartbeats 40000000 in
theorem pc_shk2 {p : Program} {l : Launch} {e : Env} {s : State} {m : MethodId} {below : List Frame} {meth : Method} {c : Code} {T0 : State} {locs : List Loc} {Z : State} {a0 : Array Value} {h0 : Heap} {n0 : Nat} (r0 rc : Addr) (F : Int64) (B k : Nat) (kc : ClassId) (cs : List Int64) (s4 : Slot)
    (X0 : Stand p l e ({ frames := 0, cells := 0, slots := 0, locals := 0 } : Room) s m #[(.ref r0)] below meth c T0 locs 0 0) (hx : p.tables.exec = Jvm.exec) (hZ : Z.Warmed39 s.vm) (hw : ∀ d ∈ tables_1, d.before a0 Z = true) (hby : c.code = prog_25_method_6_code) (hml : c.maxLocals = 5) (hown : s.vm.findClass "com/example/auspex/auspex/manager/ConflictTable" = some m.cls) (e0 : T0.heap = h0) (N0 : Fr n0 locs) (Z0 : n0 ≤ h0.size) (Fs : Fld Z h0 r0 "com/example/auspex/auspex/manager/ConflictTable" "slotsPerBucket" "I" (.int (2 : Int32))) (Fc : Fld Z h0 r0 "com/example/auspex/auspex/manager/ConflictTable" "commits" "[J" (.ref rc)) (Vc : Arv Z h0 rc kc .long (Int32.ofNat (B * 2)) (cs.map Value.long) (.long (0 : Int64))) (hB : 1 ≤ B ∧ B ≤ 4) (hk : k + 2 ≤ B * 2) (h4 : One s4) :
    ∃ (T' : State) (L' : List Loc) (w4 : Int32), Stand p l e ({ frames := 0, cells := 0, slots := 0, locals := 0 } : Room) s m #[(.ref r0)] below meth c T' L' 0 0 ∧ Fr n0 L' ∧ T'.heap = h0 ∧ Go p.tables e below (T0.setTop (mkF m 4 #[.val (.ref r0), .val (.long F), .second, .val (.int (Int32.ofNat k)), s4] [])) (T'.setTop (mkF m 4 #[.val (.ref r0), .val (.long (f_shk2 k F cs)), .second, .val (.int (Int32.ofNat (k + 2))), .val (.int w4)] [])) := by
  have k1 : Go p.tables e below (T0.setTop (mkF m 4 #[.val (.ref r0), .val (.long F), .second, .val (.int (Int32.ofNat k)), s4] [])) (T0.setTop (mkF m 6 #[.val (.ref r0), .val (.long F), .second, .val (.int (Int32.ofNat k)), s4] [(.ref r0), (.int (Int32.ofNat k))])) := by
    intro t ht
    refine XS.iloadN X0.here hx rfl (hb hby d_shk2_4) rfl ?_
    show Steps p.tables e below (T0.setTop (mkF m 5 #[.val (.ref r0), .val (.long F), .second, .val (.int (Int32.ofNat k)), s4] [(.int (Int32.ofNat k))])) _
    refine XS.aloadN X0.here hx rfl (hb hby d_shk2_5) rfl rfl ?_
    exact ht
  obtain ⟨T2, X2, e2, st2⟩ := getF X0 hx hZ hown (host := "") (Or.inl (hw _ (List.mem_of_getElem? (i := 18) rfl))) Via.refl e0 Fc (g := (mkF m 6 #[.val (.ref r0), .val (.long F), .second, .val (.int (Int32.ofNat k)), s4] [(.ref r0), (.int (Int32.ofNat k))])) rfl rfl (hb hby d_shk2_6)
  have k2 : Go p.tables e below (T0.setTop (mkF m 6 #[.val (.ref r0), .val (.long F), .second, .val (.int (Int32.ofNat k)), s4] [(.ref r0), (.int (Int32.ofNat k))])) (T2.setTop (mkF m 9 #[.val (.ref r0), .val (.long F), .second, .val (.int (Int32.ofNat k)), s4] [(.ref rc), (.int (Int32.ofNat k))])) := st2
  obtain ⟨cl3, Ar3, q3, S3, M3, H3, G3⟩ := id Vc
  have k4 : Go p.tables e below (T2.setTop (mkF m 9 #[.val (.ref r0), .val (.long F), .second, .val (.int (Int32.ofNat k)), s4] [(.ref rc), (.int (Int32.ofNat k))])) (T2.setTop (mkF m 20 #[.val (.ref r0), .val (.long F), .second, .val (.int (Int32.ofNat k)), .val (.int (Int32.ofNat k))] [(.ref r0), (.int (Int32.ofNat k)), (.int (Int32.ofNat k))])) := by
    intro t ht
    refine X2.arraylength hx (by rw [e2]; exact Ar3.1) (State.isArrayOf_alike hZ.alike Ar3.2.1) (g := (mkF m 9 #[.val (.ref r0), .val (.long F), .second, .val (.int (Int32.ofNat k)), s4] [(.ref rc), (.int (Int32.ofNat k))])) rfl rfl (hb hby d_shk2_9) _ ?_
    rw [len_of S3 M3]
    show Steps p.tables e below (T2.setTop (mkF m 10 #[.val (.ref r0), .val (.long F), .second, .val (.int (Int32.ofNat k)), s4] [(.int (Int32.ofNat (B * 2))), (.int (Int32.ofNat k))])) _
    refine XS.icmpNo X2.here hx rfl (hb hby d_shk2_10) rfl (tlt (own_ltk (by omega) (by omega))).2.1 ?_
    show Steps p.tables e below (T2.setTop (mkF m 13 #[.val (.ref r0), .val (.long F), .second, .val (.int (Int32.ofNat k)), s4] [])) _
    refine XS.iloadN X2.here hx rfl (hb hby d_shk2_13) rfl ?_
    show Steps p.tables e below (T2.setTop (mkF m 14 #[.val (.ref r0), .val (.long F), .second, .val (.int (Int32.ofNat k)), s4] [(.int (Int32.ofNat k))])) _
    refine XS.istore X2.here hx rfl (hb hby d_shk2_14) rfl (l' := #[.val (.ref r0), .val (.long F), .second, .val (.int (Int32.ofNat k)), .val (.int (Int32.ofNat k))]) (own_st4 h4) ?_
    show Steps p.tables e below (T2.setTop (mkF m 16 #[.val (.ref r0), .val (.long F), .second, .val (.int (Int32.ofNat k)), .val (.int (Int32.ofNat k))] [])) _
    refine XS.iload X2.here hx rfl (hb hby d_shk2_16) rfl ?_
    show Steps p.tables e below (T2.setTop (mkF m 18 #[.val (.ref r0), .val (.long F), .second, .val (.int (Int32.ofNat k)), .val (.int (Int32.ofNat k))] [(.int (Int32.ofNat k))])) _
    refine XS.iloadN X2.here hx rfl (hb hby d_shk2_18) rfl ?_
    show Steps p.tables e below (T2.setTop (mkF m 19 #[.val (.ref r0), .val (.long F), .second, .val (.int (Int32.ofNat k)), .val (.int (Int32.ofNat k))] [(.int (Int32.ofNat k)), (.int (Int32.ofNat k))])) _
    refine XS.aloadN X2.here hx rfl (hb hby d_shk2_19) rfl rfl ?_
    exact ht
  obtain ⟨T5, X5, e5, st5⟩ := getF X2 hx hZ hown (host := "") (Or.inl (hw _ (List.mem_of_getElem? (i := 13) rfl))) Via.refl e2 Fs (g := (mkF m 20 #[.val (.ref r0), .val (.long F), .second, .val (.int (Int32.ofNat k)), .val (.int (Int32.ofNat k))] [(.ref r0), (.int (Int32.ofNat k)), (.int (Int32.ofNat k))])) rfl rfl (hb hby d_shk2_20)
  have k5 : Go p.tables e below (T2.setTop (mkF m 20 #[.val (.ref r0), .val (.long F), .second, .val (.int (Int32.ofNat k)), .val (.int (Int32.ofNat k))] [(.ref r0), (.int (Int32.ofNat k)), (.int (Int32.ofNat k))])) (T5.setTop (mkF m 23 #[.val (.ref r0), .val (.long F), .second, .val (.int (Int32.ofNat k)), .val (.int (Int32.ofNat k))] [(.int (2 : Int32)), (.int (Int32.ofNat k)), (.int (Int32.ofNat k))])) := st5
  have k6 : Go p.tables e below (T5.setTop (mkF m 23 #[.val (.ref r0), .val (.long F), .second, .val (.int (Int32.ofNat k)), .val (.int (Int32.ofNat k))] [(.int (2 : Int32)), (.int (Int32.ofNat k)), (.int (Int32.ofNat k))])) (T5.setTop (mkF m 24 #[.val (.ref r0), .val (.long F), .second, .val (.int (Int32.ofNat k)), .val (.int (Int32.ofNat k))] [(.int ((Int32.ofNat k) + (2 : Int32))), (.int (Int32.ofNat k))])) := by
    intro t ht
    refine XS.iadd X5.here hx rfl (hb hby d_shk2_23) rfl ?_
    exact ht
  have k7 : Go p.tables e below (T5.setTop (mkF m 24 #[.val (.ref r0), .val (.long F), .second, .val (.int (Int32.ofNat k)), .val (.int (Int32.ofNat k))] [(.int ((Int32.ofNat k) + (2 : Int32))), (.int (Int32.ofNat k))])) (T5.setTop (mkF m 24 #[.val (.ref r0), .val (.long F), .second, .val (.int (Int32.ofNat k)), .val (.int (Int32.ofNat k))] [(.int (Int32.ofNat (k + 2))), (.int (Int32.ofNat k))])) := by rw [own_addk2]; exact fun _ h => h
  have k8 : Go p.tables e below (T5.setTop (mkF m 24 #[.val (.ref r0), .val (.long F), .second, .val (.int (Int32.ofNat k)), .val (.int (Int32.ofNat k))] [(.int (Int32.ofNat (k + 2))), (.int (Int32.ofNat k))])) (T5.setTop (mkF m 28 #[.val (.ref r0), .val (.long F), .second, .val (.int (Int32.ofNat k)), .val (.int (Int32.ofNat k))] [(.ref r0)])) := by
    intro t ht
    refine XS.icmpNo X5.here hx rfl (hb hby d_shk2_24) rfl (tlt (own_ltk (by omega) (by omega))).2.1 ?_
    show Steps p.tables e below (T5.setTop (mkF m 27 #[.val (.ref r0), .val (.long F), .second, .val (.int (Int32.ofNat k)), .val (.int (Int32.ofNat k))] [])) _
    refine XS.aloadN X5.here hx rfl (hb hby d_shk2_27) rfl rfl ?_
    exact ht
  obtain ⟨T9, X9, e9, st9⟩ := getF X5 hx hZ hown (host := "") (Or.inl (hw _ (List.mem_of_getElem? (i := 18) rfl))) Via.refl e5 Fc (g := (mkF m 28 #[.val (.ref r0), .val (.long F), .second, .val (.int (Int32.ofNat k)), .val (.int (Int32.ofNat k))] [(.ref r0)])) rfl rfl (hb hby d_shk2_28)
  have k9 : Go p.tables e below (T5.setTop (mkF m 28 #[.val (.ref r0), .val (.long F), .second, .val (.int (Int32.ofNat k)), .val (.int (Int32.ofNat k))] [(.ref r0)])) (T9.setTop (mkF m 31 #[.val (.ref r0), .val (.long F), .second, .val (.int (Int32.ofNat k)), .val (.int (Int32.ofNat k))] [(.ref rc)])) := st9
  have k10 : Go p.tables e below (T9.setTop (mkF m 31 #[.val (.ref r0), .val (.long F), .second, .val (.int (Int32.ofNat k)), .val (.int (Int32.ofNat k))] [(.ref rc)])) (T9.setTop (mkF m 33 #[.val (.ref r0), .val (.long F), .second, .val (.int (Int32.ofNat k)), .val (.int (Int32.ofNat k))] [(.int (Int32.ofNat k)), (.ref rc)])) := by
    intro t ht
    refine XS.iload X9.here hx rfl (hb hby d_shk2_31) rfl ?_
    exact ht
  obtain ⟨cl11, Ar11, q11, S11, M11, H11, G11⟩ := id Vc
  have hin11 : ¬ ((Int32.ofNat k) < 0 ∨ cl11.slots.size ≤ ((Int32.ofNat k)).toNatClampNeg) := inb_of S11 ⟨own_nneg (by omega), own_ltM (by omega) (by omega)⟩
  have hat11 : cl11.slots[((Int32.ofNat k)).toNatClampNeg]? = some (.long (cs.getD k 0)) := (H11 _ (Nat.lt_of_not_le fun y => hin11 (Or.inr y))).trans (congrArg some (own_getJ _ (by omega)))
  have k12 : Go p.tables e below (T9.setTop (mkF m 33 #[.val (.ref r0), .val (.long F), .second, .val (.int (Int32.ofNat k)), .val (.int (Int32.ofNat k))] [(.int (Int32.ofNat k)), (.ref rc)])) (T9.setTop (mkF m 36 #[.val (.ref r0), .val (.long F), .second, .val (.int (Int32.ofNat k)), .val (.int (Int32.ofNat k))] [(.int (lcmpW (cs.getD k 0) (0 : Int64)))])) := by
    intro t ht
    refine X9.laload hx (j := (Int32.ofNat k)) (v := (.long (cs.getD k 0))) (by rw [e9]; exact Ar11.1) (State.isArrayOf_alike hZ.alike Ar11.2.1) Ar11.2.2 hin11 hat11 (g := (mkF m 33 #[.val (.ref r0), .val (.long F), .second, .val (.int (Int32.ofNat k)), .val (.int (Int32.ofNat k))] [(.int (Int32.ofNat k)), (.ref rc)])) rfl rfl (hb hby d_shk2_33) _ ?_
    show Steps p.tables e below (T9.setTop (mkF m 34 #[.val (.ref r0), .val (.long F), .second, .val (.int (Int32.ofNat k)), .val (.int (Int32.ofNat k))] [(.long (cs.getD k 0))])) _
    refine XS.lconst X9.here hx rfl (hb hby d_shk2_34) ?_
    show Steps p.tables e below (T9.setTop (mkF m 35 #[.val (.ref r0), .val (.long F), .second, .val (.int (Int32.ofNat k)), .val (.int (Int32.ofNat k))] [(.long (0 : Int64)), (.long (cs.getD k 0))])) _
    refine XS.lcmp X9.here hx rfl (hb hby d_shk2_35) rfl ?_
    exact ht
  by_cases hc13 : (cs.getD k 0) = (0 : Int64)
  · have k14 : Go p.tables e below (T9.setTop (mkF m 36 #[.val (.ref r0), .val (.long F), .second, .val (.int (Int32.ofNat k)), .val (.int (Int32.ofNat k))] [(.int (lcmpW (cs.getD k 0) (0 : Int64)))])) (T9.setTop (mkF m 49 #[.val (.ref r0), .val (.long F), .second, .val (.int (Int32.ofNat k)), .val (.int (Int32.ofNat k))] [(.ref r0), (.int (Int32.ofNat k)), (.int (Int32.ofNat k))])) := by
      intro t ht
      refine XS.ifYes X9.here hx rfl (pc0 := 36) (pc' := 45) rfl (hb hby d_shk2_36) rfl ((if0 _ _).trans (teq (own_eqL hc13)).1) (by decide) (by decide) ?_
      show Steps p.tables e below (T9.setTop (mkF m 45 #[.val (.ref r0), .val (.long F), .second, .val (.int (Int32.ofNat k)), .val (.int (Int32.ofNat k))] [])) _
      refine XS.iload X9.here hx rfl (hb hby d_shk2_45) rfl ?_
      show Steps p.tables e below (T9.setTop (mkF m 47 #[.val (.ref r0), .val (.long F), .second, .val (.int (Int32.ofNat k)), .val (.int (Int32.ofNat k))] [(.int (Int32.ofNat k))])) _
      refine XS.iloadN X9.here hx rfl (hb hby d_shk2_47) rfl ?_
      show Steps p.tables e below (T9.setTop (mkF m 48 #[.val (.ref r0), .val (.long F), .second, .val (.int (Int32.ofNat k)), .val (.int (Int32.ofNat k))] [(.int (Int32.ofNat k)), (.int (Int32.ofNat k))])) _
      refine XS.aloadN X9.here hx rfl (hb hby d_shk2_48) rfl rfl ?_
      exact ht
    obtain ⟨T15, X15, e15, st15⟩ := getF X9 hx hZ hown (host := "") (Or.inl (hw _ (List.mem_of_getElem? (i := 13) rfl))) Via.refl e9 Fs (g := (mkF m 49 #[.val (.ref r0), .val (.long F), .second, .val (.int (Int32.ofNat k)), .val (.int (Int32.ofNat k))] [(.ref r0), (.int (Int32.ofNat k)), (.int (Int32.ofNat k))])) rfl rfl (hb hby d_shk2_49)
    have k15 : Go p.tables e below (T9.setTop (mkF m 49 #[.val (.ref r0), .val (.long F), .second, .val (.int (Int32.ofNat k)), .val (.int (Int32.ofNat k))] [(.ref r0), (.int (Int32.ofNat k)), (.int (Int32.ofNat k))])) (T15.setTop (mkF m 52 #[.val (.ref r0), .val (.long F), .second, .val (.int (Int32.ofNat k)), .val (.int (Int32.ofNat k))] [(.int (2 : Int32)), (.int (Int32.ofNat k)), (.int (Int32.ofNat k))])) := st15
    have k16 : Go p.tables e below (T15.setTop (mkF m 52 #[.val (.ref r0), .val (.long F), .second, .val (.int (Int32.ofNat k)), .val (.int (Int32.ofNat k))] [(.int (2 : Int32)), (.int (Int32.ofNat k)), (.int (Int32.ofNat k))])) (T15.setTop (mkF m 53 #[.val (.ref r0), .val (.long F), .second, .val (.int (Int32.ofNat k)), .val (.int (Int32.ofNat k))] [(.int ((Int32.ofNat k) + (2 : Int32))), (.int (Int32.ofNat k))])) := by
      intro t ht
      refine XS.iadd X15.here hx rfl (hb hby d_shk2_52) rfl ?_
      exact ht
    have k17 : Go p.tables e below (T15.setTop (mkF m 53 #[.val (.ref r0), .val (.long F), .second, .val (.int (Int32.ofNat k)), .val (.int (Int32.ofNat k))] [(.int ((Int32.ofNat k) + (2 : Int32))), (.int (Int32.ofNat k))])) (T15.setTop (mkF m 53 #[.val (.ref r0), .val (.long F), .second, .val (.int (Int32.ofNat k)), .val (.int (Int32.ofNat k))] [(.int (Int32.ofNat (k + 2))), (.int (Int32.ofNat k))])) := by rw [own_addk2]; exact fun _ h => h
    have k18 : Go p.tables e below (T15.setTop (mkF m 53 #[.val (.ref r0), .val (.long F), .second, .val (.int (Int32.ofNat k)), .val (.int (Int32.ofNat k))] [(.int (Int32.ofNat (k + 2))), (.int (Int32.ofNat k))])) (T15.setTop (mkF m 62 #[.val (.ref r0), .val (.long F), .second, .val (.int (Int32.ofNat k)), .val (.int (Int32.ofNat k))] [(.ref r0), (.int (Int32.ofNat k))])) := by
      intro t ht
      refine XS.icmpYes X15.here hx rfl (pc0 := 53) (pc' := 60) rfl (hb hby d_shk2_53) rfl (feq (own_nek (by omega) (by omega))).2 (by decide) (by decide) ?_
      show Steps p.tables e below (T15.setTop (mkF m 60 #[.val (.ref r0), .val (.long F), .second, .val (.int (Int32.ofNat k)), .val (.int (Int32.ofNat k))] [])) _
      refine XS.iloadN X15.here hx rfl (hb hby d_shk2_60) rfl ?_
      show Steps p.tables e below (T15.setTop (mkF m 61 #[.val (.ref r0), .val (.long F), .second, .val (.int (Int32.ofNat k)), .val (.int (Int32.ofNat k))] [(.int (Int32.ofNat k))])) _
      refine XS.aloadN X15.here hx rfl (hb hby d_shk2_61) rfl rfl ?_
      exact ht
    obtain ⟨T19, X19, e19, st19⟩ := getF X15 hx hZ hown (host := "") (Or.inl (hw _ (List.mem_of_getElem? (i := 13) rfl))) Via.refl e15 Fs (g := (mkF m 62 #[.val (.ref r0), .val (.long F), .second, .val (.int (Int32.ofNat k)), .val (.int (Int32.ofNat k))] [(.ref r0), (.int (Int32.ofNat k))])) rfl rfl (hb hby d_shk2_62)
    have k19 : Go p.tables e below (T15.setTop (mkF m 62 #[.val (.ref r0), .val (.long F), .second, .val (.int (Int32.ofNat k)), .val (.int (Int32.ofNat k))] [(.ref r0), (.int (Int32.ofNat k))])) (T19.setTop (mkF m 65 #[.val (.ref r0), .val (.long F), .second, .val (.int (Int32.ofNat k)), .val (.int (Int32.ofNat k))] [(.int (2 : Int32)), (.int (Int32.ofNat k))])) := st19
    have k20 : Go p.tables e below (T19.setTop (mkF m 65 #[.val (.ref r0), .val (.long F), .second, .val (.int (Int32.ofNat k)), .val (.int (Int32.ofNat k))] [(.int (2 : Int32)), (.int (Int32.ofNat k))])) (T19.setTop (mkF m 66 #[.val (.ref r0), .val (.long F), .second, .val (.int (Int32.ofNat k)), .val (.int (Int32.ofNat k))] [(.int ((Int32.ofNat k) + (2 : Int32)))])) := by
      intro t ht
      refine XS.iadd X19.here hx rfl (hb hby d_shk2_65) rfl ?_
      exact ht
    have k21 : Go p.tables e below (T19.setTop (mkF m 66 #[.val (.ref r0), .val (.long F), .second, .val (.int (Int32.ofNat k)), .val (.int (Int32.ofNat k))] [(.int ((Int32.ofNat k) + (2 : Int32)))])) (T19.setTop (mkF m 66 #[.val (.ref r0), .val (.long F), .second, .val (.int (Int32.ofNat k)), .val (.int (Int32.ofNat k))] [(.int (Int32.ofNat (k + 2)))])) := by rw [own_addk2]; exact fun _ h => h
    have k22 : Go p.tables e below (T19.setTop (mkF m 66 #[.val (.ref r0), .val (.long F), .second, .val (.int (Int32.ofNat k)), .val (.int (Int32.ofNat k))] [(.int (Int32.ofNat (k + 2)))])) (T19.setTop (mkF m 4 #[.val (.ref r0), .val (.long F), .second, .val (.int (Int32.ofNat (k + 2))), .val (.int (Int32.ofNat k))] [])) := by
      intro t ht
      refine XS.istoreN X19.here hx rfl (hb hby d_shk2_66) rfl (l' := #[.val (.ref r0), .val (.long F), .second, .val (.int (Int32.ofNat (k + 2))), .val (.int (Int32.ofNat k))]) rfl ?_
      show Steps p.tables e below (T19.setTop (mkF m 67 #[.val (.ref r0), .val (.long F), .second, .val (.int (Int32.ofNat (k + 2))), .val (.int (Int32.ofNat k))] [])) _
      refine XS.goto X19.here hx rfl (pc0 := 67) (pc' := 4) rfl (hb hby d_shk2_67) (by decide) (by decide) ?_
      exact ht
    refine ⟨T19, _, ((Int32.ofNat k)), X19, N0, e19, ?_⟩
    have kk := (goT k1 (goT k2 (goT k4 (goT k5 (goT k6 (goT k7 (goT k8 (goT k9 (goT k10 (goT k12 (goT k14 (goT k15 (goT k16 (goT k17 (goT k18 (goT k19 (goT k20 (goT k21 k22))))))))))))))))))
    simpa only [f_shk2, if_pos hc13] using kk
  · have k23 : Go p.tables e below (T9.setTop (mkF m 36 #[.val (.ref r0), .val (.long F), .second, .val (.int (Int32.ofNat k)), .val (.int (Int32.ofNat k))] [(.int (lcmpW (cs.getD k 0) (0 : Int64)))])) (T9.setTop (mkF m 42 #[.val (.ref r0), .val (.long F), .second, .val (.int (Int32.ofNat k)), .val (.int ((Int32.ofNat k) + (1 : Int32)))] [])) := by
      intro t ht
      refine XS.ifNo X9.here hx rfl (hb hby d_shk2_36) rfl ((if0 _ _).trans (feq (own_neqL hc13)).1) ?_
      show Steps p.tables e below (T9.setTop (mkF m 39 #[.val (.ref r0), .val (.long F), .second, .val (.int (Int32.ofNat k)), .val (.int (Int32.ofNat k))] [])) _
      refine XS.iinc X9.here hx rfl (hb hby d_shk2_39) rfl (l' := #[.val (.ref r0), .val (.long F), .second, .val (.int (Int32.ofNat k)), .val (.int ((Int32.ofNat k) + (1 : Int32)))]) rfl ?_
      exact ht
    have k24 : Go p.tables e below (T9.setTop (mkF m 42 #[.val (.ref r0), .val (.long F), .second, .val (.int (Int32.ofNat k)), .val (.int ((Int32.ofNat k) + (1 : Int32)))] [])) (T9.setTop (mkF m 42 #[.val (.ref r0), .val (.long F), .second, .val (.int (Int32.ofNat k)), .val (.int (Int32.ofNat (k + 1)))] [])) := by rw [own_inck0]; exact fun _ h => h
    have k25 : Go p.tables e below (T9.setTop (mkF m 42 #[.val (.ref r0), .val (.long F), .second, .val (.int (Int32.ofNat k)), .val (.int (Int32.ofNat (k + 1)))] [])) (T9.setTop (mkF m 20 #[.val (.ref r0), .val (.long F), .second, .val (.int (Int32.ofNat k)), .val (.int (Int32.ofNat (k + 1)))] [(.ref r0), (.int (Int32.ofNat k)), (.int (Int32.ofNat (k + 1)))])) := by
      intro t ht
      refine XS.goto X9.here hx rfl (pc0 := 42) (pc' := 16) rfl (hb hby d_shk2_42) (by decide) (by decide) ?_
      show Steps p.tables e below (T9.setTop (mkF m 16 #[.val (.ref r0), .val (.long F), .second, .val (.int (Int32.ofNat k)), .val (.int (Int32.ofNat (k + 1)))] [])) _
      refine XS.iload X9.here hx rfl (hb hby d_shk2_16) rfl ?_
      show Steps p.tables e below (T9.setTop (mkF m 18 #[.val (.ref r0), .val (.long F), .second, .val (.int (Int32.ofNat k)), .val (.int (Int32.ofNat (k + 1)))] [(.int (Int32.ofNat (k + 1)))])) _
      refine XS.iloadN X9.here hx rfl (hb hby d_shk2_18) rfl ?_
      show Steps p.tables e below (T9.setTop (mkF m 19 #[.val (.ref r0), .val (.long F), .second, .val (.int (Int32.ofNat k)), .val (.int (Int32.ofNat (k + 1)))] [(.int (Int32.ofNat k)), (.int (Int32.ofNat (k + 1)))])) _
      refine XS.aloadN X9.here hx rfl (hb hby d_shk2_19) rfl rfl ?_
      exact ht
    obtain ⟨T26, X26, e26, st26⟩ := getF X9 hx hZ hown (host := "") (Or.inl (hw _ (List.mem_of_getElem? (i := 13) rfl))) Via.refl e9 Fs (g := (mkF m 20 #[.val (.ref r0), .val (.long F), .second, .val (.int (Int32.ofNat k)), .val (.int (Int32.ofNat (k + 1)))] [(.ref r0), (.int (Int32.ofNat k)), (.int (Int32.ofNat (k + 1)))])) rfl rfl (hb hby d_shk2_20)
    have k26 : Go p.tables e below (T9.setTop (mkF m 20 #[.val (.ref r0), .val (.long F), .second, .val (.int (Int32.ofNat k)), .val (.int (Int32.ofNat (k + 1)))] [(.ref r0), (.int (Int32.ofNat k)), (.int (Int32.ofNat (k + 1)))])) (T26.setTop (mkF m 23 #[.val (.ref r0), .val (.long F), .second, .val (.int (Int32.ofNat k)), .val (.int (Int32.ofNat (k + 1)))] [(.int (2 : Int32)), (.int (Int32.ofNat k)), (.int (Int32.ofNat (k + 1)))])) := st26
    have k27 : Go p.tables e below (T26.setTop (mkF m 23 #[.val (.ref r0), .val (.long F), .second, .val (.int (Int32.ofNat k)), .val (.int (Int32.ofNat (k + 1)))] [(.int (2 : Int32)), (.int (Int32.ofNat k)), (.int (Int32.ofNat (k + 1)))])) (T26.setTop (mkF m 24 #[.val (.ref r0), .val (.long F), .second, .val (.int (Int32.ofNat k)), .val (.int (Int32.ofNat (k + 1)))] [(.int ((Int32.ofNat k) + (2 : Int32))), (.int (Int32.ofNat (k + 1)))])) := by
      intro t ht
      refine XS.iadd X26.here hx rfl (hb hby d_shk2_23) rfl ?_
      exact ht
    have k28 : Go p.tables e below (T26.setTop (mkF m 24 #[.val (.ref r0), .val (.long F), .second, .val (.int (Int32.ofNat k)), .val (.int (Int32.ofNat (k + 1)))] [(.int ((Int32.ofNat k) + (2 : Int32))), (.int (Int32.ofNat (k + 1)))])) (T26.setTop (mkF m 24 #[.val (.ref r0), .val (.long F), .second, .val (.int (Int32.ofNat k)), .val (.int (Int32.ofNat (k + 1)))] [(.int (Int32.ofNat (k + 2))), (.int (Int32.ofNat (k + 1)))])) := by rw [own_addk2]; exact fun _ h => h
    have k29 : Go p.tables e below (T26.setTop (mkF m 24 #[.val (.ref r0), .val (.long F), .second, .val (.int (Int32.ofNat k)), .val (.int (Int32.ofNat (k + 1)))] [(.int (Int32.ofNat (k + 2))), (.int (Int32.ofNat (k + 1)))])) (T26.setTop (mkF m 28 #[.val (.ref r0), .val (.long F), .second, .val (.int (Int32.ofNat k)), .val (.int (Int32.ofNat (k + 1)))] [(.ref r0)])) := by
      intro t ht
      refine XS.icmpNo X26.here hx rfl (hb hby d_shk2_24) rfl (tlt (own_ltk (by omega) (by omega))).2.1 ?_
      show Steps p.tables e below (T26.setTop (mkF m 27 #[.val (.ref r0), .val (.long F), .second, .val (.int (Int32.ofNat k)), .val (.int (Int32.ofNat (k + 1)))] [])) _
      refine XS.aloadN X26.here hx rfl (hb hby d_shk2_27) rfl rfl ?_
      exact ht
    obtain ⟨T30, X30, e30, st30⟩ := getF X26 hx hZ hown (host := "") (Or.inl (hw _ (List.mem_of_getElem? (i := 18) rfl))) Via.refl e26 Fc (g := (mkF m 28 #[.val (.ref r0), .val (.long F), .second, .val (.int (Int32.ofNat k)), .val (.int (Int32.ofNat (k + 1)))] [(.ref r0)])) rfl rfl (hb hby d_shk2_28)
    have k30 : Go p.tables e below (T26.setTop (mkF m 28 #[.val (.ref r0), .val (.long F), .second, .val (.int (Int32.ofNat k)), .val (.int (Int32.ofNat (k + 1)))] [(.ref r0)])) (T30.setTop (mkF m 31 #[.val (.ref r0), .val (.long F), .second, .val (.int (Int32.ofNat k)), .val (.int (Int32.ofNat (k + 1)))] [(.ref rc)])) := st30
    have k31 : Go p.tables e below (T30.setTop (mkF m 31 #[.val (.ref r0), .val (.long F), .second, .val (.int (Int32.ofNat k)), .val (.int (Int32.ofNat (k + 1)))] [(.ref rc)])) (T30.setTop (mkF m 33 #[.val (.ref r0), .val (.long F), .second, .val (.int (Int32.ofNat k)), .val (.int (Int32.ofNat (k + 1)))] [(.int (Int32.ofNat (k + 1))), (.ref rc)])) := by
      intro t ht
      refine XS.iload X30.here hx rfl (hb hby d_shk2_31) rfl ?_
      exact ht
    obtain ⟨cl32, Ar32, q32, S32, M32, H32, G32⟩ := id Vc
    have hin32 : ¬ ((Int32.ofNat (k + 1)) < 0 ∨ cl32.slots.size ≤ ((Int32.ofNat (k + 1))).toNatClampNeg) := inb_of S32 ⟨own_nneg (by omega), own_ltM (by omega) (by omega)⟩
    have hat32 : cl32.slots[((Int32.ofNat (k + 1))).toNatClampNeg]? = some (.long (cs.getD (k + 1) 0)) := (H32 _ (Nat.lt_of_not_le fun y => hin32 (Or.inr y))).trans (congrArg some (own_getJ _ (by omega)))
    have k33 : Go p.tables e below (T30.setTop (mkF m 33 #[.val (.ref r0), .val (.long F), .second, .val (.int (Int32.ofNat k)), .val (.int (Int32.ofNat (k + 1)))] [(.int (Int32.ofNat (k + 1))), (.ref rc)])) (T30.setTop (mkF m 36 #[.val (.ref r0), .val (.long F), .second, .val (.int (Int32.ofNat k)), .val (.int (Int32.ofNat (k + 1)))] [(.int (lcmpW (cs.getD (k + 1) 0) (0 : Int64)))])) := by
      intro t ht
      refine X30.laload hx (j := (Int32.ofNat (k + 1))) (v := (.long (cs.getD (k + 1) 0))) (by rw [e30]; exact Ar32.1) (State.isArrayOf_alike hZ.alike Ar32.2.1) Ar32.2.2 hin32 hat32 (g := (mkF m 33 #[.val (.ref r0), .val (.long F), .second, .val (.int (Int32.ofNat k)), .val (.int (Int32.ofNat (k + 1)))] [(.int (Int32.ofNat (k + 1))), (.ref rc)])) rfl rfl (hb hby d_shk2_33) _ ?_
      show Steps p.tables e below (T30.setTop (mkF m 34 #[.val (.ref r0), .val (.long F), .second, .val (.int (Int32.ofNat k)), .val (.int (Int32.ofNat (k + 1)))] [(.long (cs.getD (k + 1) 0))])) _
      refine XS.lconst X30.here hx rfl (hb hby d_shk2_34) ?_
      show Steps p.tables e below (T30.setTop (mkF m 35 #[.val (.ref r0), .val (.long F), .second, .val (.int (Int32.ofNat k)), .val (.int (Int32.ofNat (k + 1)))] [(.long (0 : Int64)), (.long (cs.getD (k + 1) 0))])) _
      refine XS.lcmp X30.here hx rfl (hb hby d_shk2_35) rfl ?_
      exact ht
    by_cases hc34 : (cs.getD (k + 1) 0) = (0 : Int64)
    · have k35 : Go p.tables e below (T30.setTop (mkF m 36 #[.val (.ref r0), .val (.long F), .second, .val (.int (Int32.ofNat k)), .val (.int (Int32.ofNat (k + 1)))] [(.int (lcmpW (cs.getD (k + 1) 0) (0 : Int64)))])) (T30.setTop (mkF m 49 #[.val (.ref r0), .val (.long F), .second, .val (.int (Int32.ofNat k)), .val (.int (Int32.ofNat (k + 1)))] [(.ref r0), (.int (Int32.ofNat k)), (.int (Int32.ofNat (k + 1)))])) := by
        intro t ht
        refine XS.ifYes X30.here hx rfl (pc0 := 36) (pc' := 45) rfl (hb hby d_shk2_36) rfl ((if0 _ _).trans (teq (own_eqL hc34)).1) (by decide) (by decide) ?_
        show Steps p.tables e below (T30.setTop (mkF m 45 #[.val (.ref r0), .val (.long F), .second, .val (.int (Int32.ofNat k)), .val (.int (Int32.ofNat (k + 1)))] [])) _
        refine XS.iload X30.here hx rfl (hb hby d_shk2_45) rfl ?_
        show Steps p.tables e below (T30.setTop (mkF m 47 #[.val (.ref r0), .val (.long F), .second, .val (.int (Int32.ofNat k)), .val (.int (Int32.ofNat (k + 1)))] [(.int (Int32.ofNat (k + 1)))])) _
        refine XS.iloadN X30.here hx rfl (hb hby d_shk2_47) rfl ?_
        show Steps p.tables e below (T30.setTop (mkF m 48 #[.val (.ref r0), .val (.long F), .second, .val (.int (Int32.ofNat k)), .val (.int (Int32.ofNat (k + 1)))] [(.int (Int32.ofNat k)), (.int (Int32.ofNat (k + 1)))])) _
        refine XS.aloadN X30.here hx rfl (hb hby d_shk2_48) rfl rfl ?_
        exact ht
      obtain ⟨T36, X36, e36, st36⟩ := getF X30 hx hZ hown (host := "") (Or.inl (hw _ (List.mem_of_getElem? (i := 13) rfl))) Via.refl e30 Fs (g := (mkF m 49 #[.val (.ref r0), .val (.long F), .second, .val (.int (Int32.ofNat k)), .val (.int (Int32.ofNat (k + 1)))] [(.ref r0), (.int (Int32.ofNat k)), (.int (Int32.ofNat (k + 1)))])) rfl rfl (hb hby d_shk2_49)
      have k36 : Go p.tables e below (T30.setTop (mkF m 49 #[.val (.ref r0), .val (.long F), .second, .val (.int (Int32.ofNat k)), .val (.int (Int32.ofNat (k + 1)))] [(.ref r0), (.int (Int32.ofNat k)), (.int (Int32.ofNat (k + 1)))])) (T36.setTop (mkF m 52 #[.val (.ref r0), .val (.long F), .second, .val (.int (Int32.ofNat k)), .val (.int (Int32.ofNat (k + 1)))] [(.int (2 : Int32)), (.int (Int32.ofNat k)), (.int (Int32.ofNat (k + 1)))])) := st36
      have k37 : Go p.tables e below (T36.setTop (mkF m 52 #[.val (.ref r0), .val (.long F), .second, .val (.int (Int32.ofNat k)), .val (.int (Int32.ofNat (k + 1)))] [(.int (2 : Int32)), (.int (Int32.ofNat k)), (.int (Int32.ofNat (k + 1)))])) (T36.setTop (mkF m 53 #[.val (.ref r0), .val (.long F), .second, .val (.int (Int32.ofNat k)), .val (.int (Int32.ofNat (k + 1)))] [(.int ((Int32.ofNat k) + (2 : Int32))), (.int (Int32.ofNat (k + 1)))])) := by
        intro t ht
        refine XS.iadd X36.here hx rfl (hb hby d_shk2_52) rfl ?_
        exact ht
      have k38 : Go p.tables e below (T36.setTop (mkF m 53 #[.val (.ref r0), .val (.long F), .second, .val (.int (Int32.ofNat k)), .val (.int (Int32.ofNat (k + 1)))] [(.int ((Int32.ofNat k) + (2 : Int32))), (.int (Int32.ofNat (k + 1)))])) (T36.setTop (mkF m 53 #[.val (.ref r0), .val (.long F), .second, .val (.int (Int32.ofNat k)), .val (.int (Int32.ofNat (k + 1)))] [(.int (Int32.ofNat (k + 2))), (.int (Int32.ofNat (k + 1)))])) := by rw [own_addk2]; exact fun _ h => h
      have k39 : Go p.tables e below (T36.setTop (mkF m 53 #[.val (.ref r0), .val (.long F), .second, .val (.int (Int32.ofNat k)), .val (.int (Int32.ofNat (k + 1)))] [(.int (Int32.ofNat (k + 2))), (.int (Int32.ofNat (k + 1)))])) (T36.setTop (mkF m 62 #[.val (.ref r0), .val (.long F), .second, .val (.int (Int32.ofNat k)), .val (.int (Int32.ofNat (k + 1)))] [(.ref r0), (.int (Int32.ofNat k))])) := by
        intro t ht
        refine XS.icmpYes X36.here hx rfl (pc0 := 53) (pc' := 60) rfl (hb hby d_shk2_53) rfl (feq (own_nek (by omega) (by omega))).2 (by decide) (by decide) ?_
        show Steps p.tables e below (T36.setTop (mkF m 60 #[.val (.ref r0), .val (.long F), .second, .val (.int (Int32.ofNat k)), .val (.int (Int32.ofNat (k + 1)))] [])) _
        refine XS.iloadN X36.here hx rfl (hb hby d_shk2_60) rfl ?_
        show Steps p.tables e below (T36.setTop (mkF m 61 #[.val (.ref r0), .val (.long F), .second, .val (.int (Int32.ofNat k)), .val (.int (Int32.ofNat (k + 1)))] [(.int (Int32.ofNat k))])) _
        refine XS.aloadN X36.here hx rfl (hb hby d_shk2_61) rfl rfl ?_
        exact ht
      obtain ⟨T40, X40, e40, st40⟩ := getF X36 hx hZ hown (host := "") (Or.inl (hw _ (List.mem_of_getElem? (i := 13) rfl))) Via.refl e36 Fs (g := (mkF m 62 #[.val (.ref r0), .val (.long F), .second, .val (.int (Int32.ofNat k)), .val (.int (Int32.ofNat (k + 1)))] [(.ref r0), (.int (Int32.ofNat k))])) rfl rfl (hb hby d_shk2_62)
      have k40 : Go p.tables e below (T36.setTop (mkF m 62 #[.val (.ref r0), .val (.long F), .second, .val (.int (Int32.ofNat k)), .val (.int (Int32.ofNat (k + 1)))] [(.ref r0), (.int (Int32.ofNat k))])) (T40.setTop (mkF m 65 #[.val (.ref r0), .val (.long F), .second, .val (.int (Int32.ofNat k)), .val (.int (Int32.ofNat (k + 1)))] [(.int (2 : Int32)), (.int (Int32.ofNat k))])) := st40
      have k41 : Go p.tables e below (T40.setTop (mkF m 65 #[.val (.ref r0), .val (.long F), .second, .val (.int (Int32.ofNat k)), .val (.int (Int32.ofNat (k + 1)))] [(.int (2 : Int32)), (.int (Int32.ofNat k))])) (T40.setTop (mkF m 66 #[.val (.ref r0), .val (.long F), .second, .val (.int (Int32.ofNat k)), .val (.int (Int32.ofNat (k + 1)))] [(.int ((Int32.ofNat k) + (2 : Int32)))])) := by
        intro t ht
        refine XS.iadd X40.here hx rfl (hb hby d_shk2_65) rfl ?_
        exact ht
      have k42 : Go p.tables e below (T40.setTop (mkF m 66 #[.val (.ref r0), .val (.long F), .second, .val (.int (Int32.ofNat k)), .val (.int (Int32.ofNat (k + 1)))] [(.int ((Int32.ofNat k) + (2 : Int32)))])) (T40.setTop (mkF m 66 #[.val (.ref r0), .val (.long F), .second, .val (.int (Int32.ofNat k)), .val (.int (Int32.ofNat (k + 1)))] [(.int (Int32.ofNat (k + 2)))])) := by rw [own_addk2]; exact fun _ h => h
      have k43 : Go p.tables e below (T40.setTop (mkF m 66 #[.val (.ref r0), .val (.long F), .second, .val (.int (Int32.ofNat k)), .val (.int (Int32.ofNat (k + 1)))] [(.int (Int32.ofNat (k + 2)))])) (T40.setTop (mkF m 4 #[.val (.ref r0), .val (.long F), .second, .val (.int (Int32.ofNat (k + 2))), .val (.int (Int32.ofNat (k + 1)))] [])) := by
        intro t ht
        refine XS.istoreN X40.here hx rfl (hb hby d_shk2_66) rfl (l' := #[.val (.ref r0), .val (.long F), .second, .val (.int (Int32.ofNat (k + 2))), .val (.int (Int32.ofNat (k + 1)))]) rfl ?_
        show Steps p.tables e below (T40.setTop (mkF m 67 #[.val (.ref r0), .val (.long F), .second, .val (.int (Int32.ofNat (k + 2))), .val (.int (Int32.ofNat (k + 1)))] [])) _
        refine XS.goto X40.here hx rfl (pc0 := 67) (pc' := 4) rfl (hb hby d_shk2_67) (by decide) (by decide) ?_
        exact ht
      refine ⟨T40, _, ((Int32.ofNat (k + 1))), X40, N0, e40, ?_⟩
      have kk := (goT k1 (goT k2 (goT k4 (goT k5 (goT k6 (goT k7 (goT k8 (goT k9 (goT k10 (goT k12 (goT k23 (goT k24 (goT k25 (goT k26 (goT k27 (goT k28 (goT k29 (goT k30 (goT k31 (goT k33 (goT k35 (goT k36 (goT k37 (goT k38 (goT k39 (goT k40 (goT k41 (goT k42 k43))))))))))))))))))))))))))))
      simpa only [f_shk2, if_neg hc13, if_pos hc34] using kk
    · have k44 : Go p.tables e below (T30.setTop (mkF m 36 #[.val (.ref r0), .val (.long F), .second, .val (.int (Int32.ofNat k)), .val (.int (Int32.ofNat (k + 1)))] [(.int (lcmpW (cs.getD (k + 1) 0) (0 : Int64)))])) (T30.setTop (mkF m 42 #[.val (.ref r0), .val (.long F), .second, .val (.int (Int32.ofNat k)), .val (.int ((Int32.ofNat (k + 1)) + (1 : Int32)))] [])) := by
        intro t ht
        refine XS.ifNo X30.here hx rfl (hb hby d_shk2_36) rfl ((if0 _ _).trans (feq (own_neqL hc34)).1) ?_
        show Steps p.tables e below (T30.setTop (mkF m 39 #[.val (.ref r0), .val (.long F), .second, .val (.int (Int32.ofNat k)), .val (.int (Int32.ofNat (k + 1)))] [])) _
        refine XS.iinc X30.here hx rfl (hb hby d_shk2_39) rfl (l' := #[.val (.ref r0), .val (.long F), .second, .val (.int (Int32.ofNat k)), .val (.int ((Int32.ofNat (k + 1)) + (1 : Int32)))]) rfl ?_
        exact ht
      have k45 : Go p.tables e below (T30.setTop (mkF m 42 #[.val (.ref r0), .val (.long F), .second, .val (.int (Int32.ofNat k)), .val (.int ((Int32.ofNat (k + 1)) + (1 : Int32)))] [])) (T30.setTop (mkF m 42 #[.val (.ref r0), .val (.long F), .second, .val (.int (Int32.ofNat k)), .val (.int (Int32.ofNat (k + 2)))] [])) := by rw [own_inck1]; exact fun _ h => h
      have k46 : Go p.tables e below (T30.setTop (mkF m 42 #[.val (.ref r0), .val (.long F), .second, .val (.int (Int32.ofNat k)), .val (.int (Int32.ofNat (k + 2)))] [])) (T30.setTop (mkF m 20 #[.val (.ref r0), .val (.long F), .second, .val (.int (Int32.ofNat k)), .val (.int (Int32.ofNat (k + 2)))] [(.ref r0), (.int (Int32.ofNat k)), (.int (Int32.ofNat (k + 2)))])) := by
        intro t ht
        refine XS.goto X30.here hx rfl (pc0 := 42) (pc' := 16) rfl (hb hby d_shk2_42) (by decide) (by decide) ?_
        show Steps p.tables e below (T30.setTop (mkF m 16 #[.val (.ref r0), .val (.long F), .second, .val (.int (Int32.ofNat k)), .val (.int (Int32.ofNat (k + 2)))] [])) _
        refine XS.iload X30.here hx rfl (hb hby d_shk2_16) rfl ?_
        show Steps p.tables e below (T30.setTop (mkF m 18 #[.val (.ref r0), .val (.long F), .second, .val (.int (Int32.ofNat k)), .val (.int (Int32.ofNat (k + 2)))] [(.int (Int32.ofNat (k + 2)))])) _
        refine XS.iloadN X30.here hx rfl (hb hby d_shk2_18) rfl ?_
        show Steps p.tables e below (T30.setTop (mkF m 19 #[.val (.ref r0), .val (.long F), .second, .val (.int (Int32.ofNat k)), .val (.int (Int32.ofNat (k + 2)))] [(.int (Int32.ofNat k)), (.int (Int32.ofNat (k + 2)))])) _
        refine XS.aloadN X30.here hx rfl (hb hby d_shk2_19) rfl rfl ?_
        exact ht
      obtain ⟨T47, X47, e47, st47⟩ := getF X30 hx hZ hown (host := "") (Or.inl (hw _ (List.mem_of_getElem? (i := 13) rfl))) Via.refl e30 Fs (g := (mkF m 20 #[.val (.ref r0), .val (.long F), .second, .val (.int (Int32.ofNat k)), .val (.int (Int32.ofNat (k + 2)))] [(.ref r0), (.int (Int32.ofNat k)), (.int (Int32.ofNat (k + 2)))])) rfl rfl (hb hby d_shk2_20)
      have k47 : Go p.tables e below (T30.setTop (mkF m 20 #[.val (.ref r0), .val (.long F), .second, .val (.int (Int32.ofNat k)), .val (.int (Int32.ofNat (k + 2)))] [(.ref r0), (.int (Int32.ofNat k)), (.int (Int32.ofNat (k + 2)))])) (T47.setTop (mkF m 23 #[.val (.ref r0), .val (.long F), .second, .val (.int (Int32.ofNat k)), .val (.int (Int32.ofNat (k + 2)))] [(.int (2 : Int32)), (.int (Int32.ofNat k)), (.int (Int32.ofNat (k + 2)))])) := st47
      have k48 : Go p.tables e below (T47.setTop (mkF m 23 #[.val (.ref r0), .val (.long F), .second, .val (.int (Int32.ofNat k)), .val (.int (Int32.ofNat (k + 2)))] [(.int (2 : Int32)), (.int (Int32.ofNat k)), (.int (Int32.ofNat (k + 2)))])) (T47.setTop (mkF m 24 #[.val (.ref r0), .val (.long F), .second, .val (.int (Int32.ofNat k)), .val (.int (Int32.ofNat (k + 2)))] [(.int ((Int32.ofNat k) + (2 : Int32))), (.int (Int32.ofNat (k + 2)))])) := by
        intro t ht
        refine XS.iadd X47.here hx rfl (hb hby d_shk2_23) rfl ?_
        exact ht
      have k49 : Go p.tables e below (T47.setTop (mkF m 24 #[.val (.ref r0), .val (.long F), .second, .val (.int (Int32.ofNat k)), .val (.int (Int32.ofNat (k + 2)))] [(.int ((Int32.ofNat k) + (2 : Int32))), (.int (Int32.ofNat (k + 2)))])) (T47.setTop (mkF m 24 #[.val (.ref r0), .val (.long F), .second, .val (.int (Int32.ofNat k)), .val (.int (Int32.ofNat (k + 2)))] [(.int (Int32.ofNat (k + 2))), (.int (Int32.ofNat (k + 2)))])) := by rw [own_addk2]; exact fun _ h => h
      have k50 : Go p.tables e below (T47.setTop (mkF m 24 #[.val (.ref r0), .val (.long F), .second, .val (.int (Int32.ofNat k)), .val (.int (Int32.ofNat (k + 2)))] [(.int (Int32.ofNat (k + 2))), (.int (Int32.ofNat (k + 2)))])) (T47.setTop (mkF m 49 #[.val (.ref r0), .val (.long F), .second, .val (.int (Int32.ofNat k)), .val (.int (Int32.ofNat (k + 2)))] [(.ref r0), (.int (Int32.ofNat k)), (.int (Int32.ofNat (k + 2)))])) := by
        intro t ht
        refine XS.icmpYes X47.here hx rfl (pc0 := 24) (pc' := 45) rfl (hb hby d_shk2_24) rfl (flt (own_nltk _)).2.1 (by decide) (by decide) ?_
        show Steps p.tables e below (T47.setTop (mkF m 45 #[.val (.ref r0), .val (.long F), .second, .val (.int (Int32.ofNat k)), .val (.int (Int32.ofNat (k + 2)))] [])) _
        refine XS.iload X47.here hx rfl (hb hby d_shk2_45) rfl ?_
        show Steps p.tables e below (T47.setTop (mkF m 47 #[.val (.ref r0), .val (.long F), .second, .val (.int (Int32.ofNat k)), .val (.int (Int32.ofNat (k + 2)))] [(.int (Int32.ofNat (k + 2)))])) _
        refine XS.iloadN X47.here hx rfl (hb hby d_shk2_47) rfl ?_
        show Steps p.tables e below (T47.setTop (mkF m 48 #[.val (.ref r0), .val (.long F), .second, .val (.int (Int32.ofNat k)), .val (.int (Int32.ofNat (k + 2)))] [(.int (Int32.ofNat k)), (.int (Int32.ofNat (k + 2)))])) _
        refine XS.aloadN X47.here hx rfl (hb hby d_shk2_48) rfl rfl ?_
        exact ht
      obtain ⟨T51, X51, e51, st51⟩ := getF X47 hx hZ hown (host := "") (Or.inl (hw _ (List.mem_of_getElem? (i := 13) rfl))) Via.refl e47 Fs (g := (mkF m 49 #[.val (.ref r0), .val (.long F), .second, .val (.int (Int32.ofNat k)), .val (.int (Int32.ofNat (k + 2)))] [(.ref r0), (.int (Int32.ofNat k)), (.int (Int32.ofNat (k + 2)))])) rfl rfl (hb hby d_shk2_49)
      have k51 : Go p.tables e below (T47.setTop (mkF m 49 #[.val (.ref r0), .val (.long F), .second, .val (.int (Int32.ofNat k)), .val (.int (Int32.ofNat (k + 2)))] [(.ref r0), (.int (Int32.ofNat k)), (.int (Int32.ofNat (k + 2)))])) (T51.setTop (mkF m 52 #[.val (.ref r0), .val (.long F), .second, .val (.int (Int32.ofNat k)), .val (.int (Int32.ofNat (k + 2)))] [(.int (2 : Int32)), (.int (Int32.ofNat k)), (.int (Int32.ofNat (k + 2)))])) := st51
      have k52 : Go p.tables e below (T51.setTop (mkF m 52 #[.val (.ref r0), .val (.long F), .second, .val (.int (Int32.ofNat k)), .val (.int (Int32.ofNat (k + 2)))] [(.int (2 : Int32)), (.int (Int32.ofNat k)), (.int (Int32.ofNat (k + 2)))])) (T51.setTop (mkF m 53 #[.val (.ref r0), .val (.long F), .second, .val (.int (Int32.ofNat k)), .val (.int (Int32.ofNat (k + 2)))] [(.int ((Int32.ofNat k) + (2 : Int32))), (.int (Int32.ofNat (k + 2)))])) := by
        intro t ht
        refine XS.iadd X51.here hx rfl (hb hby d_shk2_52) rfl ?_
        exact ht
      have k53 : Go p.tables e below (T51.setTop (mkF m 53 #[.val (.ref r0), .val (.long F), .second, .val (.int (Int32.ofNat k)), .val (.int (Int32.ofNat (k + 2)))] [(.int ((Int32.ofNat k) + (2 : Int32))), (.int (Int32.ofNat (k + 2)))])) (T51.setTop (mkF m 53 #[.val (.ref r0), .val (.long F), .second, .val (.int (Int32.ofNat k)), .val (.int (Int32.ofNat (k + 2)))] [(.int (Int32.ofNat (k + 2))), (.int (Int32.ofNat (k + 2)))])) := by rw [own_addk2]; exact fun _ h => h
      have k54 : Go p.tables e below (T51.setTop (mkF m 53 #[.val (.ref r0), .val (.long F), .second, .val (.int (Int32.ofNat k)), .val (.int (Int32.ofNat (k + 2)))] [(.int (Int32.ofNat (k + 2))), (.int (Int32.ofNat (k + 2)))])) (T51.setTop (mkF m 62 #[.val (.ref r0), .val (.long (F + (1 : Int64))), .second, .val (.int (Int32.ofNat k)), .val (.int (Int32.ofNat (k + 2)))] [(.ref r0), (.int (Int32.ofNat k))])) := by
        intro t ht
        refine XS.icmpNo X51.here hx rfl (hb hby d_shk2_53) rfl (teq (rfl : (Int32.ofNat (k + 2)) = (Int32.ofNat (k + 2)))).2 ?_
        show Steps p.tables e below (T51.setTop (mkF m 56 #[.val (.ref r0), .val (.long F), .second, .val (.int (Int32.ofNat k)), .val (.int (Int32.ofNat (k + 2)))] [])) _
        refine XS.lloadN X51.here hx rfl (hb hby d_shk2_56) rfl ?_
        show Steps p.tables e below (T51.setTop (mkF m 57 #[.val (.ref r0), .val (.long F), .second, .val (.int (Int32.ofNat k)), .val (.int (Int32.ofNat (k + 2)))] [(.long F)])) _
        refine XS.lconst X51.here hx rfl (hb hby d_shk2_57) ?_
        show Steps p.tables e below (T51.setTop (mkF m 58 #[.val (.ref r0), .val (.long F), .second, .val (.int (Int32.ofNat k)), .val (.int (Int32.ofNat (k + 2)))] [(.long (1 : Int64)), (.long F)])) _
        refine XS.ladd X51.here hx rfl (hb hby d_shk2_58) rfl ?_
        show Steps p.tables e below (T51.setTop (mkF m 59 #[.val (.ref r0), .val (.long F), .second, .val (.int (Int32.ofNat k)), .val (.int (Int32.ofNat (k + 2)))] [(.long (F + (1 : Int64)))])) _
        refine XS.lstoreN X51.here hx rfl (hb hby d_shk2_59) rfl (l' := #[.val (.ref r0), .val (.long (F + (1 : Int64))), .second, .val (.int (Int32.ofNat k)), .val (.int (Int32.ofNat (k + 2)))]) rfl ?_
        show Steps p.tables e below (T51.setTop (mkF m 60 #[.val (.ref r0), .val (.long (F + (1 : Int64))), .second, .val (.int (Int32.ofNat k)), .val (.int (Int32.ofNat (k + 2)))] [])) _
        refine XS.iloadN X51.here hx rfl (hb hby d_shk2_60) rfl ?_
        show Steps p.tables e below (T51.setTop (mkF m 61 #[.val (.ref r0), .val (.long (F + (1 : Int64))), .second, .val (.int (Int32.ofNat k)), .val (.int (Int32.ofNat (k + 2)))] [(.int (Int32.ofNat k))])) _
        refine XS.aloadN X51.here hx rfl (hb hby d_shk2_61) rfl rfl ?_
        exact ht
      obtain ⟨T55, X55, e55, st55⟩ := getF X51 hx hZ hown (host := "") (Or.inl (hw _ (List.mem_of_getElem? (i := 13) rfl))) Via.refl e51 Fs (g := (mkF m 62 #[.val (.ref r0), .val (.long (F + (1 : Int64))), .second, .val (.int (Int32.ofNat k)), .val (.int (Int32.ofNat (k + 2)))] [(.ref r0), (.int (Int32.ofNat k))])) rfl rfl (hb hby d_shk2_62)
      have k55 : Go p.tables e below (T51.setTop (mkF m 62 #[.val (.ref r0), .val (.long (F + (1 : Int64))), .second, .val (.int (Int32.ofNat k)), .val (.int (Int32.ofNat (k + 2)))] [(.ref r0), (.int (Int32.ofNat k))])) (T55.setTop (mkF m 65 #[.val (.ref r0), .val (.long (F + (1 : Int64))), .second, .val (.int (Int32.ofNat k)), .val (.int (Int32.ofNat (k + 2)))] [(.int (2 : Int32)), (.int (Int32.ofNat k))])) := st55
      have k56 : Go p.tables e below (T55.setTop (mkF m 65 #[.val (.ref r0), .val (.long (F + (1 : Int64))), .second, .val (.int (Int32.ofNat k)), .val (.int (Int32.ofNat (k + 2)))] [(.int (2 : Int32)), (.int (Int32.ofNat k))])) (T55.setTop (mkF m 66 #[.val (.ref r0), .val (.long (F + (1 : Int64))), .second, .val (.int (Int32.ofNat k)), .val (.int (Int32.ofNat (k + 2)))] [(.int ((Int32.ofNat k) + (2 : Int32)))])) := by
        intro t ht
        refine XS.iadd X55.here hx rfl (hb hby d_shk2_65) rfl ?_
        exact ht
      have k57 : Go p.tables e below (T55.setTop (mkF m 66 #[.val (.ref r0), .val (.long (F + (1 : Int64))), .second, .val (.int (Int32.ofNat k)), .val (.int (Int32.ofNat (k + 2)))] [(.int ((Int32.ofNat k) + (2 : Int32)))])) (T55.setTop (mkF m 66 #[.val (.ref r0), .val (.long (F + (1 : Int64))), .second, .val (.int (Int32.ofNat k)), .val (.int (Int32.ofNat (k + 2)))] [(.int (Int32.ofNat (k + 2)))])) := by rw [own_addk2]; exact fun _ h => h
      have k58 : Go p.tables e below (T55.setTop (mkF m 66 #[.val (.ref r0), .val (.long (F + (1 : Int64))), .second, .val (.int (Int32.ofNat k)), .val (.int (Int32.ofNat (k + 2)))] [(.int (Int32.ofNat (k + 2)))])) (T55.setTop (mkF m 4 #[.val (.ref r0), .val (.long (F + (1 : Int64))), .second, .val (.int (Int32.ofNat (k + 2))), .val (.int (Int32.ofNat (k + 2)))] [])) := by
        intro t ht
        refine XS.istoreN X55.here hx rfl (hb hby d_shk2_66) rfl (l' := #[.val (.ref r0), .val (.long (F + (1 : Int64))), .second, .val (.int (Int32.ofNat (k + 2))), .val (.int (Int32.ofNat (k + 2)))]) rfl ?_
        show Steps p.tables e below (T55.setTop (mkF m 67 #[.val (.ref r0), .val (.long (F + (1 : Int64))), .second, .val (.int (Int32.ofNat (k + 2))), .val (.int (Int32.ofNat (k + 2)))] [])) _
        refine XS.goto X55.here hx rfl (pc0 := 67) (pc' := 4) rfl (hb hby d_shk2_67) (by decide) (by decide) ?_
        exact ht
      refine ⟨T55, _, ((Int32.ofNat (k + 2))), X55, N0, e55, ?_⟩
      have kk := (goT k1 (goT k2 (goT k4 (goT k5 (goT k6 (goT k7 (goT k8 (goT k9 (goT k10 (goT k12 (goT k23 (goT k24 (goT k25 (goT k26 (goT k27 (goT k28 (goT k29 (goT k30 (goT k31 (goT k33 (goT k44 (goT k45 (goT k46 (goT k47 (goT k48 (goT k49 (goT k50 (goT k51 (goT k52 (goT k53 (goT k54 (goT k55 (goT k56 (goT k57 k58))))))))))))))))))))))))))))))))))
      simpa only [f_shk2, if_neg hc13, if_neg hc34] using kk
theorem d_shk3_4 : decode prog_25_method_6_code 4 = .ok (.iload_n 3, 1) := by decide +kernel
theorem d_shk3_5 : decode prog_25_method_6_code 5 = .ok (.aload_n 0, 1) := by decide +kernel
theorem d_shk3_6 : decode prog_25_method_6_code 6 = .ok (.getfield 33, 3) := by decide +kernel
theorem d_shk3_9 : decode prog_25_method_6_code 9 = .ok (.arraylength, 1) := by decide +kernel
theorem d_shk3_10 : decode prog_25_method_6_code 10 = .ok (.if_icmp .ge 60, 3) := by decide +kernel
theorem d_shk3_13 : decode prog_25_method_6_code 13 = .ok (.iload_n 3, 1) := by decide +kernel
theorem d_shk3_14 : decode prog_25_method_6_code 14 = .ok (.istore 4, 2) := by decide +kernel
theorem d_shk3_16 : decode prog_25_method_6_code 16 = .ok (.iload 4, 2) := by decide +kernel
theorem d_shk3_18 : decode prog_25_method_6_code 18 = .ok (.iload_n 3, 1) := by decide +kernel
theorem d_shk3_19 : decode prog_25_method_6_code 19 = .ok (.aload_n 0, 1) := by decide +kernel
theorem d_shk3_20 : decode prog_25_method_6_code 20 = .ok (.getfield 26, 3) := by decide +kernel
theorem d_shk3_23 : decode prog_25_method_6_code 23 = .ok (.iadd, 1) := by decide +kernel
theorem d_shk3_24 : decode prog_25_method_6_code 24 = .ok (.if_icmp .ge 21, 3) := by decide +kernel
theorem d_shk3_27 : decode prog_25_method_6_code 27 = .ok (.aload_n 0, 1) := by decide +kernel
theorem d_shk3_28 : decode prog_25_method_6_code 28 = .ok (.getfield 33, 3) := by decide +kernel
theorem d_shk3_31 : decode prog_25_method_6_code 31 = .ok (.iload 4, 2) := by decide +kernel
theorem d_shk3_33 : decode prog_25_method_6_code 33 = .ok (.laload, 1) := by decide +kernel
theorem d_shk3_34 : decode prog_25_method_6_code 34 = .ok (.lconst 0, 1) := by decide +kernel
theorem d_shk3_35 : decode prog_25_method_6_code 35 = .ok (.lcmp, 1) := by decide +kernel
theorem d_shk3_36 : decode prog_25_method_6_code 36 = .ok (.ifCond .eq 9, 3) := by decide +kernel
theorem d_shk3_39 : decode prog_25_method_6_code 39 = .ok (.iinc 4 1, 3) := by decide +kernel
theorem d_shk3_42 : decode prog_25_method_6_code 42 = .ok (.goto (-26), 3) := by decide +kernel
theorem d_shk3_45 : decode prog_25_method_6_code 45 = .ok (.iload 4, 2) := by decide +kernel
theorem d_shk3_47 : decode prog_25_method_6_code 47 = .ok (.iload_n 3, 1) := by decide +kernel
theorem d_shk3_48 : decode prog_25_method_6_code 48 = .ok (.aload_n 0, 1) := by decide +kernel
theorem d_shk3_49 : decode prog_25_method_6_code 49 = .ok (.getfield 26, 3) := by decide +kernel
theorem d_shk3_52 : decode prog_25_method_6_code 52 = .ok (.iadd, 1) := by decide +kernel
theorem d_shk3_53 : decode prog_25_method_6_code 53 = .ok (.if_icmp .ne 7, 3) := by decide +kernel
theorem d_shk3_56 : decode prog_25_method_6_code 56 = .ok (.lload_n 1, 1) := by decide +kernel
theorem d_shk3_57 : decode prog_25_method_6_code 57 = .ok (.lconst 1, 1) := by decide +kernel
theorem d_shk3_58 : decode prog_25_method_6_code 58 = .ok (.ladd, 1) := by decide +kernel
theorem d_shk3_59 : decode prog_25_method_6_code 59 = .ok (.lstore_n 1, 1) := by decide +kernel
theorem d_shk3_60 : decode prog_25_method_6_code 60 = .ok (.iload_n 3, 1) := by decide +kernel
theorem d_shk3_61 : decode prog_25_method_6_code 61 = .ok (.aload_n 0, 1) := by decide +kernel
theorem d_shk3_62 : decode prog_25_method_6_code 62 = .ok (.getfield 26, 3) := by decide +kernel
theorem d_shk3_65 : decode prog_25_method_6_code 65 = .ok (.iadd, 1) := by decide +kernel
theorem d_shk3_66 : decode prog_25_method_6_code 66 = .ok (.istore_n 3, 1) := by decide +kernel
theorem d_shk3_67 : decode prog_25_method_6_code 67 = .ok (.goto (-63), 3) := by decide +kernel
def f_shk3 (k : Nat) (F : Int64) (cs : List Int64) : Int64 := (if (cs.getD k 0) = (0 : Int64) then F else (if (cs.getD (k + 1) 0) = (0 : Int64) then F else (if (cs.getD (k + 2) 0) = (0 : Int64) then F else (F + (1 : Int64)))))
set_option maxRecDepth 65536 in
set_option maxHeartbeats 40000000 in
theorem pc_shk3 {p : Program} {l : Launch} {e : Env} {s : State} {m : MethodId} {below : List Frame} {meth : Method} {c : Code} {T0 : State} {locs : List Loc} {Z : State} {a0 : Array Value} {h0 : Heap} {n0 : Nat} (r0 rc : Addr) (F : Int64) (B k : Nat) (kc : ClassId) (cs : List Int64) (s4 : Slot)
    (X0 : Stand p l e ({ frames := 0, cells := 0, slots := 0, locals := 0 } : Room) s m #[(.ref r0)] below meth c T0 locs 0 0) (hx : p.tables.exec = Jvm.exec) (hZ : Z.Warmed39 s.vm) (hw : ∀ d ∈ tables_1, d.before a0 Z = true) (hby : c.code = prog_25_method_6_code) (hml : c.maxLocals = 5) (hown : s.vm.findClass "com/example/auspex/auspex/manager/ConflictTable" = some m.cls) (e0 : T0.heap = h0) (N0 : Fr n0 locs) (Z0 : n0 ≤ h0.size) (Fs : Fld Z h0 r0 "com/example/auspex/auspex/manager/ConflictTable" "slotsPerBucket" "I" (.int (3 : Int32))) (Fc : Fld Z h0 r0 "com/example/auspex/auspex/manager/ConflictTable" "commits" "[J" (.ref rc)) (Vc : Arv Z h0 rc kc .long (Int32.ofNat (B * 3)) (cs.map Value.long) (.long (0 : Int64))) (hB : 1 ≤ B ∧ B ≤ 4) (hk : k + 3 ≤ B * 3) (h4 : One s4) :
    ∃ (T' : State) (L' : List Loc) (w4 : Int32), Stand p l e ({ frames := 0, cells := 0, slots := 0, locals := 0 } : Room) s m #[(.ref r0)] below meth c T' L' 0 0 ∧ Fr n0 L' ∧ T'.heap = h0 ∧ Go p.tables e below (T0.setTop (mkF m 4 #[.val (.ref r0), .val (.long F), .second, .val (.int (Int32.ofNat k)), s4] [])) (T'.setTop (mkF m 4 #[.val (.ref r0), .val (.long (f_shk3 k F cs)), .second, .val (.int (Int32.ofNat (k + 3))), .val (.int w4)] [])) := by
  have k1 : Go p.tables e below (T0.setTop (mkF m 4 #[.val (.ref r0), .val (.long F), .second, .val (.int (Int32.ofNat k)), s4] [])) (T0.setTop (mkF m 6 #[.val (.ref r0), .val (.long F), .second, .val (.int (Int32.ofNat k)), s4] [(.ref r0), (.int (Int32.ofNat k))])) := by
    intro t ht
    refine XS.iloadN X0.here hx rfl (hb hby d_shk3_4) rfl ?_
    show Steps p.tables e below (T0.setTop (mkF m 5 #[.val (.ref r0), .val (.long F), .second, .val (.int (Int32.ofNat k)), s4] [(.int (Int32.ofNat k))])) _
    refine XS.aloadN X0.here hx rfl (hb hby d_shk3_5) rfl rfl ?_
    exact ht
  obtain ⟨T2, X2, e2, st2⟩ := getF X0 hx hZ hown (host := "") (Or.inl (hw _ (List.mem_of_getElem? (i := 18) rfl))) Via.refl e0 Fc (g := (mkF m 6 #[.val (.ref r0), .val (.long F), .second, .val (.int (Int32.ofNat k)), s4] [(.ref r0), (.int (Int32.ofNat k))])) rfl rfl (hb hby d_shk3_6)
  have k2 : Go p.tables e below (T0.setTop (mkF m 6 #[.val (.ref r0), .val (.long F), .second, .val (.int (Int32.ofNat k)), s4] [(.ref r0), (.int (Int32.ofNat k))])) (T2.setTop (mkF m 9 #[.val (.ref r0), .val (.long F), .second, .val (.int (Int32.ofNat k)), s4] [(.ref rc), (.int (Int32.ofNat k))])) := st2
  obtain ⟨cl3, Ar3, q3, S3, M3, H3, G3⟩ := id Vc
  have k4 : Go p.tables e below (T2.setTop (mkF m 9 #[.val (.ref r0), .val (.long F), .second, .val (.int (Int32.ofNat k)), s4] [(.ref rc), (.int (Int32.ofNat k))])) (T2.setTop (mkF m 20 #[.val (.ref r0), .val (.long F), .second, .val (.int (Int32.ofNat k)), .val (.int (Int32.ofNat k))] [(.ref r0), (.int (Int32.ofNat k)), (.int (Int32.ofNat k))])) := by
    intro t ht
    refine X2.arraylength hx (by rw [e2]; exact Ar3.1) (State.isArrayOf_alike hZ.alike Ar3.2.1) (g := (mkF m 9 #[.val (.ref r0), .val (.long F), .second, .val (.int (Int32.ofNat k)), s4] [(.ref rc), (.int (Int32.ofNat k))])) rfl rfl (hb hby d_shk3_9) _ ?_
    rw [len_of S3 M3]
    show Steps p.tables e below (T2.setTop (mkF m 10 #[.val (.ref r0), .val (.long F), .second, .val (.int (Int32.ofNat k)), s4] [(.int (Int32.ofNat (B * 3))), (.int (Int32.ofNat k))])) _
    refine XS.icmpNo X2.here hx rfl (hb hby d_shk3_10) rfl (tlt (own_ltk (by omega) (by omega))).2.1 ?_
    show Steps p.tables e below (T2.setTop (mkF m 13 #[.val (.ref r0), .val (.long F), .second, .val (.int (Int32.ofNat k)), s4] [])) _
    refine XS.iloadN X2.here hx rfl (hb hby d_shk3_13) rfl ?_
    show Steps p.tables e below (T2.setTop (mkF m 14 #[.val (.ref r0), .val (.long F), .second, .val (.int (Int32.ofNat k)), s4] [(.int (Int32.ofNat k))])) _
    refine XS.istore X2.here hx rfl (hb hby d_shk3_14) rfl (l' := #[.val (.ref r0), .val (.long F), .second, .val (.int (Int32.ofNat k)), .val (.int (Int32.ofNat k))]) (own_st4 h4) ?_
    show Steps p.tables e below (T2.setTop (mkF m 16 #[.val (.ref r0), .val (.long F), .second, .val (.int (Int32.ofNat k)), .val (.int (Int32.ofNat k))] [])) _
    refine XS.iload X2.here hx rfl (hb hby d_shk3_16) rfl ?_
    show Steps p.tables e below (T2.setTop (mkF m 18 #[.val (.ref r0), .val (.long F), .second, .val (.int (Int32.ofNat k)), .val (.int (Int32.ofNat k))] [(.int (Int32.ofNat k))])) _
    refine XS.iloadN X2.here hx rfl (hb hby d_shk3_18) rfl ?_
    show Steps p.tables e below (T2.setTop (mkF m 19 #[.val (.ref r0), .val (.long F), .second, .val (.int (Int32.ofNat k)), .val (.int (Int32.ofNat k))] [(.int (Int32.ofNat k)), (.int (Int32.ofNat k))])) _
    refine XS.aloadN X2.here hx rfl (hb hby d_shk3_19) rfl rfl ?_
    exact ht
  obtain ⟨T5, X5, e5, st5⟩ := getF X2 hx hZ hown (host := "") (Or.inl (hw _ (List.mem_of_getElem? (i := 13) rfl))) Via.refl e2 Fs (g := (mkF m 20 #[.val (.ref r0), .val (.long F), .second, .val (.int (Int32.ofNat k)), .val (.int (Int32.ofNat k))] [(.ref r0), (.int (Int32.ofNat k)), (.int (Int32.ofNat k))])) rfl rfl (hb hby d_shk3_20)
  have k5 : Go p.tables e below (T2.setTop (mkF m 20 #[.val (.ref r0), .val (.long F), .second, .val (.int (Int32.ofNat k)), .val (.int (Int32.ofNat k))] [(.ref r0), (.int (Int32.ofNat k)), (.int (Int32.ofNat k))])) (T5.setTop (mkF m 23 #[.val (.ref r0), .val (.long F), .second, .val (.int (Int32.ofNat k)), .val (.int (Int32.ofNat k))] [(.int (3 : Int32)), (.int (Int32.ofNat k)), (.int (Int32.ofNat k))])) := st5
  have k6 : Go p.tables e below (T5.setTop (mkF m 23 #[.val (.ref r0), .val (.long F), .second, .val (.int (Int32.ofNat k)), .val (.int (Int32.ofNat k))] [(.int (3 : Int32)), (.int (Int32.ofNat k)), (.int (Int32.ofNat k))])) (T5.setTop (mkF m 24 #[.val (.ref r0), .val (.long F), .second, .val (.int (Int32.ofNat k)), .val (.int (Int32.ofNat k))] [(.int ((Int32.ofNat k) + (3 : Int32))), (.int (Int32.ofNat k))])) := by
    intro t ht
    refine XS.iadd X5.here hx rfl (hb hby d_shk3_23) rfl ?_
    exact ht
  have k7 : Go p.tables e below (T5.setTop (mkF m 24 #[.val (.ref r0), .val (.long F), .second, .val (.int (Int32.ofNat k)), .val (.int (Int32.ofNat k))] [(.int ((Int32.ofNat k) + (3 : Int32))), (.int (Int32.ofNat k))])) (T5.setTop (mkF m 24 #[.val (.ref r0), .val (.long F), .second, .val (.int (Int32.ofNat k)), .val (.int (Int32.ofNat k))] [(.int (Int32.ofNat (k + 3))), (.int (Int32.ofNat k))])) := by rw [own_addk3]; exact fun _ h => h
  have k8 : Go p.tables e below (T5.setTop (mkF m 24 #[.val (.ref r0), .val (.long F), .second, .val (.int (Int32.ofNat k)), .val (.int (Int32.ofNat k))] [(.int (Int32.ofNat (k + 3))), (.int (Int32.ofNat k))])) (T5.setTop (mkF m 28 #[.val (.ref r0), .val (.long F), .second, .val (.int (Int32.ofNat k)), .val (.int (Int32.ofNat k))] [(.ref r0)])) := by
    intro t ht
    refine XS.icmpNo X5.here hx rfl (hb hby d_shk3_24) rfl (tlt (own_ltk (by omega) (by omega))).2.1 ?_
    show Steps p.tables e below (T5.setTop (mkF m 27 #[.val (.ref r0), .val (.long F), .second, .val (.int (Int32.ofNat k)), .val (.int (Int32.ofNat k))] [])) _
    refine XS.aloadN X5.here hx rfl (hb hby d_shk3_27) rfl rfl ?_
    exact ht
  obtain ⟨T9, X9, e9, st9⟩ := getF X5 hx hZ hown (host := "") (Or.inl (hw _ (List.mem_of_getElem? (i := 18) rfl))) Via.refl e5 Fc (g := (mkF m 28 #[.val (.ref r0), .val (.long F), .second, .val (.int (Int32.ofNat k)), .val (.int (Int32.ofNat k))] [(.ref r0)])) rfl rfl (hb hby d_shk3_28)
  have k9 : Go p.tables e below (T5.setTop (mkF m 28 #[.val (.ref r0), .val (.long F), .second, .val (.int (Int32.ofNat k)), .val (.int (Int32.ofNat k))] [(.ref r0)])) (T9.setTop (mkF m 31 #[.val (.ref r0), .val (.long F), .second, .val (.int (Int32.ofNat k)), .val (.int (Int32.ofNat k))] [(.ref rc)])) := st9
  have k10 : Go p.tables e below (T9.setTop (mkF m 31 #[.val (.ref r0), .val (.long F), .second, .val (.int (Int32.ofNat k)), .val (.int (Int32.ofNat k))] [(.ref rc)])) (T9.setTop (mkF m 33 #[.val (.ref r0), .val (.long F), .second, .val (.int (Int32.ofNat k)), .val (.int (Int32.ofNat k))] [(.int (Int32.ofNat k)), (.ref rc)])) := by
    intro t ht
    refine XS.iload X9.here hx rfl (hb hby d_shk3_31) rfl ?_
    exact ht
  obtain ⟨cl11, Ar11, q11, S11, M11, H11, G11⟩ := id Vc
  have hin11 : ¬ ((Int32.ofNat k) < 0 ∨ cl11.slots.size ≤ ((Int32.ofNat k)).toNatClampNeg) := inb_of S11 ⟨own_nneg (by omega), own_ltM (by omega) (by omega)⟩
  have hat11 : cl11.slots[((Int32.ofNat k)).toNatClampNeg]? = some (.long (cs.getD k 0)) := (H11 _ (Nat.lt_of_not_le fun y => hin11 (Or.inr y))).trans (congrArg some (own_getJ _ (by omega)))
  have k12 : Go p.tables e below (T9.setTop (mkF m 33 #[.val (.ref r0), .val (.long F), .second, .val (.int (Int32.ofNat k)), .val (.int (Int32.ofNat k))] [(.int (Int32.ofNat k)), (.ref rc)])) (T9.setTop (mkF m 36 #[.val (.ref r0), .val (.long F), .second, .val (.int (Int32.ofNat k)), .val (.int (Int32.ofNat k))] [(.int (lcmpW (cs.getD k 0) (0 : Int64)))])) := by
    intro t ht
    refine X9.laload hx (j := (Int32.ofNat k)) (v := (.long (cs.getD k 0))) (by rw [e9]; exact Ar11.1) (State.isArrayOf_alike hZ.alike Ar11.2.1) Ar11.2.2 hin11 hat11 (g := (mkF m 33 #[.val (.ref r0), .val (.long F), .second, .val (.int (Int32.ofNat k)), .val (.int (Int32.ofNat k))] [(.int (Int32.ofNat k)), (.ref rc)])) rfl rfl (hb hby d_shk3_33) _ ?_
    show Steps p.tables e below (T9.setTop (mkF m 34 #[.val (.ref r0), .val (.long F), .second, .val (.int (Int32.ofNat k)), .val (.int (Int32.ofNat k))] [(.long (cs.getD k 0))])) _
    refine XS.lconst X9.here hx rfl (hb hby d_shk3_34) ?_
    show Steps p.tables e below (T9.setTop (mkF m 35 #[.val (.ref r0), .val (.long F), .second, .val (.int (Int32.ofNat k)), .val (.int (Int32.ofNat k))] [(.long (0 : Int64)), (.long (cs.getD k 0))])) _
    refine XS.lcmp X9.here hx rfl (hb hby d_shk3_35) rfl ?_
    exact ht
  by_cases hc13 : (cs.getD k 0) = (0 : Int64)
  · have k14 : Go p.tables e below (T9.setTop (mkF m 36 #[.val (.ref r0), .val (.long F), .second, .val (.int (Int32.ofNat k)), .val (.int (Int32.ofNat k))] [(.int (lcmpW (cs.getD k 0) (0 : Int64)))])) (T9.setTop (mkF m 49 #[.val (.ref r0), .val (.long F), .second, .val (.int (Int32.ofNat k)), .val (.int (Int32.ofNat k))] [(.ref r0), (.int (Int32.ofNat k)), (.int (Int32.ofNat k))])) := by
      intro t ht
      refine XS.ifYes X9.here hx rfl (pc0 := 36) (pc' := 45) rfl (hb hby d_shk3_36) rfl ((if0 _ _).trans (teq (own_eqL hc13)).1) (by decide) (by decide) ?_
      show Steps p.tables e below (T9.setTop (mkF m 45 #[.val (.ref r0), .val (.long F), .second, .val (.int (Int32.ofNat k)), .val (.int (Int32.ofNat k))] [])) _
      refine XS.iload X9.here hx rfl (hb hby d_shk3_45) rfl ?_
      show Steps p.tables e below (T9.setTop (mkF m 47 #[.val (.ref r0), .val (.long F), .second, .val (.int (Int32.ofNat k)), .val (.int (Int32.ofNat k))] [(.int (Int32.ofNat k))])) _
      refine XS.iloadN X9.here hx rfl (hb hby d_shk3_47) rfl ?_
      show Steps p.tables e below (T9.setTop (mkF m 48 #[.val (.ref r0), .val (.long F), .second, .val (.int (Int32.ofNat k)), .val (.int (Int32.ofNat k))] [(.int (Int32.ofNat k)), (.int (Int32.ofNat k))])) _
      refine XS.aloadN X9.here hx rfl (hb hby d_shk3_48) rfl rfl ?_
      exact ht
    obtain ⟨T15, X15, e15, st15⟩ := getF X9 hx hZ hown (host := "") (Or.inl (hw _ (List.mem_of_getElem? (i := 13) rfl))) Via.refl e9 Fs (g := (mkF m 49 #[.val (.ref r0), .val (.long F), .second, .val (.int (Int32.ofNat k)), .val (.int (Int32.ofNat k))] [(.ref r0), (.int (Int32.ofNat k)), (.int (Int32.ofNat k))])) rfl rfl (hb hby d_shk3_49)
    have k15 : Go p.tables e below (T9.setTop (mkF m 49 #[.val (.ref r0), .val (.long F), .second, .val (.int (Int32.ofNat k)), .val (.int (Int32.ofNat k))] [(.ref r0), (.int (Int32.ofNat k)), (.int (Int32.ofNat k))])) (T15.setTop (mkF m 52 #[.val (.ref r0), .val (.long F), .second, .val (.int (Int32.ofNat k)), .val (.int (Int32.ofNat k))] [(.int (3 : Int32)), (.int (Int32.ofNat k)), (.int (Int32.ofNat k))])) := st15
    have k16 : Go p.tables e below (T15.setTop (mkF m 52 #[.val (.ref r0), .val (.long F), .second, .val (.int (Int32.ofNat k)), .val (.int (Int32.ofNat k))] [(.int (3 : Int32)), (.int (Int32.ofNat k)), (.int (Int32.ofNat k))])) (T15.setTop (mkF m 53 #[.val (.ref r0), .val (.long F), .second, .val (.int (Int32.ofNat k)), .val (.int (Int32.ofNat k))] [(.int ((Int32.ofNat k) + (3 : Int32))), (.int (Int32.ofNat k))])) := by
      intro t ht
      refine XS.iadd X15.here hx rfl (hb hby d_shk3_52) rfl ?_
      exact ht
    have k17 : Go p.tables e below (T15.setTop (mkF m 53 #[.val (.ref r0), .val (.long F), .second, .val (.int (Int32.ofNat k)), .val (.int (Int32.ofNat k))] [(.int ((Int32.ofNat k) + (3 : Int32))), (.int (Int32.ofNat k))])) (T15.setTop (mkF m 53 #[.val (.ref r0), .val (.long F), .second, .val (.int (Int32.ofNat k)), .val (.int (Int32.ofNat k))] [(.int (Int32.ofNat (k + 3))), (.int (Int32.ofNat k))])) := by rw [own_addk3]; exact fun _ h => h
    have k18 : Go p.tables e below (T15.setTop (mkF m 53 #[.val (.ref r0), .val (.long F), .second, .val (.int (Int32.ofNat k)), .val (.int (Int32.ofNat k))] [(.int (Int32.ofNat (k + 3))), (.int (Int32.ofNat k))])) (T15.setTop (mkF m 62 #[.val (.ref r0), .val (.long F), .second, .val (.int (Int32.ofNat k)), .val (.int (Int32.ofNat k))] [(.ref r0), (.int (Int32.ofNat k))])) := by
      intro t ht
      refine XS.icmpYes X15.here hx rfl (pc0 := 53) (pc' := 60) rfl (hb hby d_shk3_53) rfl (feq (own_nek (by omega) (by omega))).2 (by decide) (by decide) ?_
      show Steps p.tables e below (T15.setTop (mkF m 60 #[.val (.ref r0), .val (.long F), .second, .val (.int (Int32.ofNat k)), .val (.int (Int32.ofNat k))] [])) _
      refine XS.iloadN X15.here hx rfl (hb hby d_shk3_60) rfl ?_
      show Steps p.tables e below (T15.setTop (mkF m 61 #[.val (.ref r0), .val (.long F), .second, .val (.int (Int32.ofNat k)), .val (.int (Int32.ofNat k))] [(.int (Int32.ofNat k))])) _
      refine XS.aloadN X15.here hx rfl (hb hby d_shk3_61) rfl rfl ?_
      exact ht
    obtain ⟨T19, X19, e19, st19⟩ := getF X15 hx hZ hown (host := "") (Or.inl (hw _ (List.mem_of_getElem? (i := 13) rfl))) Via.refl e15 Fs (g := (mkF m 62 #[.val (.ref r0), .val (.long F), .second, .val (.int (Int32.ofNat k)), .val (.int (Int32.ofNat k))] [(.ref r0), (.int (Int32.ofNat k))])) rfl rfl (hb hby d_shk3_62)
    have k19 : Go p.tables e below (T15.setTop (mkF m 62 #[.val (.ref r0), .val (.long F), .second, .val (.int (Int32.ofNat k)), .val (.int (Int32.ofNat k))] [(.ref r0), (.int (Int32.ofNat k))])) (T19.setTop (mkF m 65 #[.val (.ref r0), .val (.long F), .second, .val (.int (Int32.ofNat k)), .val (.int (Int32.ofNat k))] [(.int (3 : Int32)), (.int (Int32.ofNat k))])) := st19
    have k20 : Go p.tables e below (T19.setTop (mkF m 65 #[.val (.ref r0), .val (.long F), .second, .val (.int (Int32.ofNat k)), .val (.int (Int32.ofNat k))] [(.int (3 : Int32)), (.int (Int32.ofNat k))])) (T19.setTop (mkF m 66 #[.val (.ref r0), .val (.long F), .second, .val (.int (Int32.ofNat k)), .val (.int (Int32.ofNat k))] [(.int ((Int32.ofNat k) + (3 : Int32)))])) := by
      intro t ht
      refine XS.iadd X19.here hx rfl (hb hby d_shk3_65) rfl ?_
      exact ht
    have k21 : Go p.tables e below (T19.setTop (mkF m 66 #[.val (.ref r0), .val (.long F), .second, .val (.int (Int32.ofNat k)), .val (.int (Int32.ofNat k))] [(.int ((Int32.ofNat k) + (3 : Int32)))])) (T19.setTop (mkF m 66 #[.val (.ref r0), .val (.long F), .second, .val (.int (Int32.ofNat k)), .val (.int (Int32.ofNat k))] [(.int (Int32.ofNat (k + 3)))])) := by rw [own_addk3]; exact fun _ h => h
    have k22 : Go p.tables e below (T19.setTop (mkF m 66 #[.val (.ref r0), .val (.long F), .second, .val (.int (Int32.ofNat k)), .val (.int (Int32.ofNat k))] [(.int (Int32.ofNat (k + 3)))])) (T19.setTop (mkF m 4 #[.val (.ref r0), .val (.long F), .second, .val (.int (Int32.ofNat (k + 3))), .val (.int (Int32.ofNat k))] [])) := by
      intro t ht
      refine XS.istoreN X19.here hx rfl (hb hby d_shk3_66) rfl (l' := #[.val (.ref r0), .val (.long F), .second, .val (.int (Int32.ofNat (k + 3))), .val (.int (Int32.ofNat k))]) rfl ?_
      show Steps p.tables e below (T19.setTop (mkF m 67 #[.val (.ref r0), .val (.long F), .second, .val (.int (Int32.ofNat (k + 3))), .val (.int (Int32.ofNat k))] [])) _
      refine XS.goto X19.here hx rfl (pc0 := 67) (pc' := 4) rfl (hb hby d_shk3_67) (by decide) (by decide) ?_
      exact ht
    refine ⟨T19, _, ((Int32.ofNat k)), X19, N0, e19, ?_⟩
    have kk := (goT k1 (goT k2 (goT k4 (goT k5 (goT k6 (goT k7 (goT k8 (goT k9 (goT k10 (goT k12 (goT k14 (goT k15 (goT k16 (goT k17 (goT k18 (goT k19 (goT k20 (goT k21 k22))))))))))))))))))
    simpa only [f_shk3, if_pos hc13] using kk
  · have k23 : Go p.tables e below (T9.setTop (mkF m 36 #[.val (.ref r0), .val (.long F), .second, .val (.int (Int32.ofNat k)), .val (.int (Int32.ofNat k))] [(.int (lcmpW (cs.getD k 0) (0 : Int64)))])) (T9.setTop (mkF m 42 #[.val (.ref r0), .val (.long F), .second, .val (.int (Int32.ofNat k)), .val (.int ((Int32.ofNat k) + (1 : Int32)))] [])) := by
      intro t ht
      refine XS.ifNo X9.here hx rfl (hb hby d_shk3_36) rfl ((if0 _ _).trans (feq (own_neqL hc13)).1) ?_
      show Steps p.tables e below (T9.setTop (mkF m 39 #[.val (.ref r0), .val (.long F), .second, .val (.int (Int32.ofNat k)), .val (.int (Int32.ofNat k))] [])) _
      refine XS.iinc X9.here hx rfl (hb hby d_shk3_39) rfl (l' := #[.val (.ref r0), .val (.long F), .second, .val (.int (Int32.ofNat k)), .val (.int ((Int32.ofNat k) + (1 : Int32)))]) rfl ?_
      exact ht
    have k24 : Go p.tables e below (T9.setTop (mkF m 42 #[.val (.ref r0), .val (.long F), .second, .val (.int (Int32.ofNat k)), .val (.int ((Int32.ofNat k) + (1 : Int32)))] [])) (T9.setTop (mkF m 42 #[.val (.ref r0), .val (.long F), .second, .val (.int (Int32.ofNat k)), .val (.int (Int32.ofNat (k + 1)))] [])) := by rw [own_inck0]; exact fun _ h => h
    have k25 : Go p.tables e below (T9.setTop (mkF m 42 #[.val (.ref r0), .val (.long F), .second, .val (.int (Int32.ofNat k)), .val (.int (Int32.ofNat (k + 1)))] [])) (T9.setTop (mkF m 20 #[.val (.ref r0), .val (.long F), .second, .val (.int (Int32.ofNat k)), .val (.int (Int32.ofNat (k + 1)))] [(.ref r0), (.int (Int32.ofNat k)), (.int (Int32.ofNat (k + 1)))])) := by
      intro t ht
      refine XS.goto X9.here hx rfl (pc0 := 42) (pc' := 16) rfl (hb hby d_shk3_42) (by decide) (by decide) ?_
      show Steps p.tables e below (T9.setTop (mkF m 16 #[.val (.ref r0), .val (.long F), .second, .val (.int (Int32.ofNat k)), .val (.int (Int32.ofNat (k + 1)))] [])) _
      refine XS.iload X9.here hx rfl (hb hby d_shk3_16) rfl ?_
      show Steps p.tables e below (T9.setTop (mkF m 18 #[.val (.ref r0), .val (.long F), .second, .val (.int (Int32.ofNat k)), .val (.int (Int32.ofNat (k + 1)))] [(.int (Int32.ofNat (k + 1)))])) _
      refine XS.iloadN X9.here hx rfl (hb hby d_shk3_18) rfl ?_
      show Steps p.tables e below (T9.setTop (mkF m 19 #[.val (.ref r0), .val (.long F), .second, .val (.int (Int32.ofNat k)), .val (.int (Int32.ofNat (k + 1)))] [(.int (Int32.ofNat k)), (.int (Int32.ofNat (k + 1)))])) _
      refine XS.aloadN X9.here hx rfl (hb hby d_shk3_19) rfl rfl ?_
      exact ht
    obtain ⟨T26, X26, e26, st26⟩ := getF X9 hx hZ hown (host := "") (Or.inl (hw _ (List.mem_of_getElem? (i := 13) rfl))) Via.refl e9 Fs (g := (mkF m 20 #[.val (.ref r0), .val (.long F), .second, .val (.int (Int32.ofNat k)), .val (.int (Int32.ofNat (k + 1)))] [(.ref r0), (.int (Int32.ofNat k)), (.int (Int32.ofNat (k + 1)))])) rfl rfl (hb hby d_shk3_20)
    have k26 : Go p.tables e below (T9.setTop (mkF m 20 #[.val (.ref r0), .val (.long F), .second, .val (.int (Int32.ofNat k)), .val (.int (Int32.ofNat (k + 1)))] [(.ref r0), (.int (Int32.ofNat k)), (.int (Int32.ofNat (k + 1)))])) (T26.setTop (mkF m 23 #[.val (.ref r0), .val (.long F), .second, .val (.int (Int32.ofNat k)), .val (.int (Int32.ofNat (k + 1)))] [(.int (3 : Int32)), (.int (Int32.ofNat k)), (.int (Int32.ofNat (k + 1)))])) := st26
    have k27 : Go p.tables e below (T26.setTop (mkF m 23 #[.val (.ref r0), .val (.long F), .second, .val (.int (Int32.ofNat k)), .val (.int (Int32.ofNat (k + 1)))] [(.int (3 : Int32)), (.int (Int32.ofNat k)), (.int (Int32.ofNat (k + 1)))])) (T26.setTop (mkF m 24 #[.val (.ref r0), .val (.long F), .second, .val (.int (Int32.ofNat k)), .val (.int (Int32.ofNat (k + 1)))] [(.int ((Int32.ofNat k) + (3 : Int32))), (.int (Int32.ofNat (k + 1)))])) := by
      intro t ht
      refine XS.iadd X26.here hx rfl (hb hby d_shk3_23) rfl ?_
      exact ht
    have k28 : Go p.tables e below (T26.setTop (mkF m 24 #[.val (.ref r0), .val (.long F), .second, .val (.int (Int32.ofNat k)), .val (.int (Int32.ofNat (k + 1)))] [(.int ((Int32.ofNat k) + (3 : Int32))), (.int (Int32.ofNat (k + 1)))])) (T26.setTop (mkF m 24 #[.val (.ref r0), .val (.long F), .second, .val (.int (Int32.ofNat k)), .val (.int (Int32.ofNat (k + 1)))] [(.int (Int32.ofNat (k + 3))), (.int (Int32.ofNat (k + 1)))])) := by rw [own_addk3]; exact fun _ h => h
    have k29 : Go p.tables e below (T26.setTop (mkF m 24 #[.val (.ref r0), .val (.long F), .second, .val (.int (Int32.ofNat k)), .val (.int (Int32.ofNat (k + 1)))] [(.int (Int32.ofNat (k + 3))), (.int (Int32.ofNat (k + 1)))])) (T26.setTop (mkF m 28 #[.val (.ref r0), .val (.long F), .second, .val (.int (Int32.ofNat k)), .val (.int (Int32.ofNat (k + 1)))] [(.ref r0)])) := by
      intro t ht
      refine XS.icmpNo X26.here hx rfl (hb hby d_shk3_24) rfl (tlt (own_ltk (by omega) (by omega))).2.1 ?_
      show Steps p.tables e below (T26.setTop (mkF m 27 #[.val (.ref r0), .val (.long F), .second, .val (.int (Int32.ofNat k)), .val (.int (Int32.ofNat (k + 1)))] [])) _
      refine XS.aloadN X26.here hx rfl (hb hby d_shk3_27) rfl rfl ?_
      exact ht
    obtain ⟨T30, X30, e30, st30⟩ := getF X26 hx hZ hown (host := "") (Or.inl (hw _ (List.mem_of_getElem? (i := 18) rfl))) Via.refl e26 Fc (g := (mkF m 28 #[.val (.ref r0), .val (.long F), .second, .val (.int (Int32.ofNat k)), .val (.int (Int32.ofNat (k + 1)))] [(.ref r0)])) rfl rfl (hb hby d_shk3_28)
    have k30 : Go p.tables e below (T26.setTop (mkF m 28 #[.val (.ref r0), .val (.long F), .second, .val (.int (Int32.ofNat k)), .val (.int (Int32.ofNat (k + 1)))] [(.ref r0)])) (T30.setTop (mkF m 31 #[.val (.ref r0), .val (.long F), .second, .val (.int (Int32.ofNat k)), .val (.int (Int32.ofNat (k + 1)))] [(.ref rc)])) := st30
    have k31 : Go p.tables e below (T30.setTop (mkF m 31 #[.val (.ref r0), .val (.long F), .second, .val (.int (Int32.ofNat k)), .val (.int (Int32.ofNat (k + 1)))] [(.ref rc)])) (T30.setTop (mkF m 33 #[.val (.ref r0), .val (.long F), .second, .val (.int (Int32.ofNat k)), .val (.int (Int32.ofNat (k + 1)))] [(.int (Int32.ofNat (k + 1))), (.ref rc)])) := by
      intro t ht
      refine XS.iload X30.here hx rfl (hb hby d_shk3_31) rfl ?_
      exact ht
    obtain ⟨cl32, Ar32, q32, S32, M32, H32, G32⟩ := id Vc
    have hin32 : ¬ ((Int32.ofNat (k + 1)) < 0 ∨ cl32.slots.size ≤ ((Int32.ofNat (k + 1))).toNatClampNeg) := inb_of S32 ⟨own_nneg (by omega), own_ltM (by omega) (by omega)⟩
    have hat32 : cl32.slots[((Int32.ofNat (k + 1))).toNatClampNeg]? = some (.long (cs.getD (k + 1) 0)) := (H32 _ (Nat.lt_of_not_le fun y => hin32 (Or.inr y))).trans (congrArg some (own_getJ _ (by omega)))
    have k33 : Go p.tables e below (T30.setTop (mkF m 33 #[.val (.ref r0), .val (.long F), .second, .val (.int (Int32.ofNat k)), .val (.int (Int32.ofNat (k + 1)))] [(.int (Int32.ofNat (k + 1))), (.ref rc)])) (T30.setTop (mkF m 36 #[.val (.ref r0), .val (.long F), .second, .val (.int (Int32.ofNat k)), .val (.int (Int32.ofNat (k + 1)))] [(.int (lcmpW (cs.getD (k + 1) 0) (0 : Int64)))])) := by
      intro t ht
      refine X30.laload hx (j := (Int32.ofNat (k + 1))) (v := (.long (cs.getD (k + 1) 0))) (by rw [e30]; exact Ar32.1) (State.isArrayOf_alike hZ.alike Ar32.2.1) Ar32.2.2 hin32 hat32 (g := (mkF m 33 #[.val (.ref r0), .val (.long F), .second, .val (.int (Int32.ofNat k)), .val (.int (Int32.ofNat (k + 1)))] [(.int (Int32.ofNat (k + 1))), (.ref rc)])) rfl rfl (hb hby d_shk3_33) _ ?_
      show Steps p.tables e below (T30.setTop (mkF m 34 #[.val (.ref r0), .val (.long F), .second, .val (.int (Int32.ofNat k)), .val (.int (Int32.ofNat (k + 1)))] [(.long (cs.getD (k + 1) 0))])) _
      refine XS.lconst X30.here hx rfl (hb hby d_shk3_34) ?_
      show Steps p.tables e below (T30.setTop (mkF m 35 #[.val (.ref r0), .val (.long F), .second, .val (.int (Int32.ofNat k)), .val (.int (Int32.ofNat (k + 1)))] [(.long (0 : Int64)), (.long (cs.getD (k + 1) 0))])) _
      refine XS.lcmp X30.here hx rfl (hb hby d_shk3_35) rfl ?_
      exact ht
    by_cases hc34 : (cs.getD (k + 1) 0) = (0 : Int64)
    · have k35 : Go p.tables e below (T30.setTop (mkF m 36 #[.val (.ref r0), .val (.long F), .second, .val (.int (Int32.ofNat k)), .val (.int (Int32.ofNat (k + 1)))] [(.int (lcmpW (cs.getD (k + 1) 0) (0 : Int64)))])) (T30.setTop (mkF m 49 #[.val (.ref r0), .val (.long F), .second, .val (.int (Int32.ofNat k)), .val (.int (Int32.ofNat (k + 1)))] [(.ref r0), (.int (Int32.ofNat k)), (.int (Int32.ofNat (k + 1)))])) := by
        intro t ht
        refine XS.ifYes X30.here hx rfl (pc0 := 36) (pc' := 45) rfl (hb hby d_shk3_36) rfl ((if0 _ _).trans (teq (own_eqL hc34)).1) (by decide) (by decide) ?_
        show Steps p.tables e below (T30.setTop (mkF m 45 #[.val (.ref r0), .val (.long F), .second, .val (.int (Int32.ofNat k)), .val (.int (Int32.ofNat (k + 1)))] [])) _
        refine XS.iload X30.here hx rfl (hb hby d_shk3_45) rfl ?_
        show Steps p.tables e below (T30.setTop (mkF m 47 #[.val (.ref r0), .val (.long F), .second, .val (.int (Int32.ofNat k)), .val (.int (Int32.ofNat (k + 1)))] [(.int (Int32.ofNat (k + 1)))])) _
        refine XS.iloadN X30.here hx rfl (hb hby d_shk3_47) rfl ?_
        show Steps p.tables e below (T30.setTop (mkF m 48 #[.val (.ref r0), .val (.long F), .second, .val (.int (Int32.ofNat k)), .val (.int (Int32.ofNat (k + 1)))] [(.int (Int32.ofNat k)), (.int (Int32.ofNat (k + 1)))])) _
        refine XS.aloadN X30.here hx rfl (hb hby d_shk3_48) rfl rfl ?_
        exact ht
      obtain ⟨T36, X36, e36, st36⟩ := getF X30 hx hZ hown (host := "") (Or.inl (hw _ (List.mem_of_getElem? (i := 13) rfl))) Via.refl e30 Fs (g := (mkF m 49 #[.val (.ref r0), .val (.long F), .second, .val (.int (Int32.ofNat k)), .val (.int (Int32.ofNat (k + 1)))] [(.ref r0), (.int (Int32.ofNat k)), (.int (Int32.ofNat (k + 1)))])) rfl rfl (hb hby d_shk3_49)
      have k36 : Go p.tables e below (T30.setTop (mkF m 49 #[.val (.ref r0), .val (.long F), .second, .val (.int (Int32.ofNat k)), .val (.int (Int32.ofNat (k + 1)))] [(.ref r0), (.int (Int32.ofNat k)), (.int (Int32.ofNat (k + 1)))])) (T36.setTop (mkF m 52 #[.val (.ref r0), .val (.long F), .second, .val (.int (Int32.ofNat k)), .val (.int (Int32.ofNat (k + 1)))] [(.int (3 : Int32)), (.int (Int32.ofNat k)), (.int (Int32.ofNat (k + 1)))])) := st36
      have k37 : Go p.tables e below (T36.setTop (mkF m 52 #[.val (.ref r0), .val (.long F), .second, .val (.int (Int32.ofNat k)), .val (.int (Int32.ofNat (k + 1)))] [(.int (3 : Int32)), (.int (Int32.ofNat k)), (.int (Int32.ofNat (k + 1)))])) (T36.setTop (mkF m 53 #[.val (.ref r0), .val (.long F), .second, .val (.int (Int32.ofNat k)), .val (.int (Int32.ofNat (k + 1)))] [(.int ((Int32.ofNat k) + (3 : Int32))), (.int (Int32.ofNat (k + 1)))])) := by
        intro t ht
        refine XS.iadd X36.here hx rfl (hb hby d_shk3_52) rfl ?_
        exact ht
      have k38 : Go p.tables e below (T36.setTop (mkF m 53 #[.val (.ref r0), .val (.long F), .second, .val (.int (Int32.ofNat k)), .val (.int (Int32.ofNat (k + 1)))] [(.int ((Int32.ofNat k) + (3 : Int32))), (.int (Int32.ofNat (k + 1)))])) (T36.setTop (mkF m 53 #[.val (.ref r0), .val (.long F), .second, .val (.int (Int32.ofNat k)), .val (.int (Int32.ofNat (k + 1)))] [(.int (Int32.ofNat (k + 3))), (.int (Int32.ofNat (k + 1)))])) := by rw [own_addk3]; exact fun _ h => h
      have k39 : Go p.tables e below (T36.setTop (mkF m 53 #[.val (.ref r0), .val (.long F), .second, .val (.int (Int32.ofNat k)), .val (.int (Int32.ofNat (k + 1)))] [(.int (Int32.ofNat (k + 3))), (.int (Int32.ofNat (k + 1)))])) (T36.setTop (mkF m 62 #[.val (.ref r0), .val (.long F), .second, .val (.int (Int32.ofNat k)), .val (.int (Int32.ofNat (k + 1)))] [(.ref r0), (.int (Int32.ofNat k))])) := by
        intro t ht
        refine XS.icmpYes X36.here hx rfl (pc0 := 53) (pc' := 60) rfl (hb hby d_shk3_53) rfl (feq (own_nek (by omega) (by omega))).2 (by decide) (by decide) ?_
        show Steps p.tables e below (T36.setTop (mkF m 60 #[.val (.ref r0), .val (.long F), .second, .val (.int (Int32.ofNat k)), .val (.int (Int32.ofNat (k + 1)))] [])) _
        refine XS.iloadN X36.here hx rfl (hb hby d_shk3_60) rfl ?_
        show Steps p.tables e below (T36.setTop (mkF m 61 #[.val (.ref r0), .val (.long F), .second, .val (.int (Int32.ofNat k)), .val (.int (Int32.ofNat (k + 1)))] [(.int (Int32.ofNat k))])) _
        refine XS.aloadN X36.here hx rfl (hb hby d_shk3_61) rfl rfl ?_
        exact ht
      obtain ⟨T40, X40, e40, st40⟩ := getF X36 hx hZ hown (host := "") (Or.inl (hw _ (List.mem_of_getElem? (i := 13) rfl))) Via.refl e36 Fs (g := (mkF m 62 #[.val (.ref r0), .val (.long F), .second, .val (.int (Int32.ofNat k)), .val (.int (Int32.ofNat (k + 1)))] [(.ref r0), (.int (Int32.ofNat k))])) rfl rfl (hb hby d_shk3_62)
      have k40 : Go p.tables e below (T36.setTop (mkF m 62 #[.val (.ref r0), .val (.long F), .second, .val (.int (Int32.ofNat k)), .val (.int (Int32.ofNat (k + 1)))] [(.ref r0), (.int (Int32.ofNat k))])) (T40.setTop (mkF m 65 #[.val (.ref r0), .val (.long F), .second, .val (.int (Int32.ofNat k)), .val (.int (Int32.ofNat (k + 1)))] [(.int (3 : Int32)), (.int (Int32.ofNat k))])) := st40
      have k41 : Go p.tables e below (T40.setTop (mkF m 65 #[.val (.ref r0), .val (.long F), .second, .val (.int (Int32.ofNat k)), .val (.int (Int32.ofNat (k + 1)))] [(.int (3 : Int32)), (.int (Int32.ofNat k))])) (T40.setTop (mkF m 66 #[.val (.ref r0), .val (.long F), .second, .val (.int (Int32.ofNat k)), .val (.int (Int32.ofNat (k + 1)))] [(.int ((Int32.ofNat k) + (3 : Int32)))])) := by
        intro t ht
        refine XS.iadd X40.here hx rfl (hb hby d_shk3_65) rfl ?_
        exact ht
      have k42 : Go p.tables e below (T40.setTop (mkF m 66 #[.val (.ref r0), .val (.long F), .second, .val (.int (Int32.ofNat k)), .val (.int (Int32.ofNat (k + 1)))] [(.int ((Int32.ofNat k) + (3 : Int32)))])) (T40.setTop (mkF m 66 #[.val (.ref r0), .val (.long F), .second, .val (.int (Int32.ofNat k)), .val (.int (Int32.ofNat (k + 1)))] [(.int (Int32.ofNat (k + 3)))])) := by rw [own_addk3]; exact fun _ h => h
      have k43 : Go p.tables e below (T40.setTop (mkF m 66 #[.val (.ref r0), .val (.long F), .second, .val (.int (Int32.ofNat k)), .val (.int (Int32.ofNat (k + 1)))] [(.int (Int32.ofNat (k + 3)))])) (T40.setTop (mkF m 4 #[.val (.ref r0), .val (.long F), .second, .val (.int (Int32.ofNat (k + 3))), .val (.int (Int32.ofNat (k + 1)))] [])) := by
        intro t ht
        refine XS.istoreN X40.here hx rfl (hb hby d_shk3_66) rfl (l' := #[.val (.ref r0), .val (.long F), .second, .val (.int (Int32.ofNat (k + 3))), .val (.int (Int32.ofNat (k + 1)))]) rfl ?_
        show Steps p.tables e below (T40.setTop (mkF m 67 #[.val (.ref r0), .val (.long F), .second, .val (.int (Int32.ofNat (k + 3))), .val (.int (Int32.ofNat (k + 1)))] [])) _
        refine XS.goto X40.here hx rfl (pc0 := 67) (pc' := 4) rfl (hb hby d_shk3_67) (by decide) (by decide) ?_
        exact ht
      refine ⟨T40, _, ((Int32.ofNat (k + 1))), X40, N0, e40, ?_⟩
      have kk := (goT k1 (goT k2 (goT k4 (goT k5 (goT k6 (goT k7 (goT k8 (goT k9 (goT k10 (goT k12 (goT k23 (goT k24 (goT k25 (goT k26 (goT k27 (goT k28 (goT k29 (goT k30 (goT k31 (goT k33 (goT k35 (goT k36 (goT k37 (goT k38 (goT k39 (goT k40 (goT k41 (goT k42 k43))))))))))))))))))))))))))))
      simpa only [f_shk3, if_neg hc13, if_pos hc34] using kk
    · have k44 : Go p.tables e below (T30.setTop (mkF m 36 #[.val (.ref r0), .val (.long F), .second, .val (.int (Int32.ofNat k)), .val (.int (Int32.ofNat (k + 1)))] [(.int (lcmpW (cs.getD (k + 1) 0) (0 : Int64)))])) (T30.setTop (mkF m 42 #[.val (.ref r0), .val (.long F), .second, .val (.int (Int32.ofNat k)), .val (.int ((Int32.ofNat (k + 1)) + (1 : Int32)))] [])) := by
        intro t ht
        refine XS.ifNo X30.here hx rfl (hb hby d_shk3_36) rfl ((if0 _ _).trans (feq (own_neqL hc34)).1) ?_
        show Steps p.tables e below (T30.setTop (mkF m 39 #[.val (.ref r0), .val (.long F), .second, .val (.int (Int32.ofNat k)), .val (.int (Int32.ofNat (k + 1)))] [])) _
        refine XS.iinc X30.here hx rfl (hb hby d_shk3_39) rfl (l' := #[.val (.ref r0), .val (.long F), .second, .val (.int (Int32.ofNat k)), .val (.int ((Int32.ofNat (k + 1)) + (1 : Int32)))]) rfl ?_
        exact ht
      have k45 : Go p.tables e below (T30.setTop (mkF m 42 #[.val (.ref r0), .val (.long F), .second, .val (.int (Int32.ofNat k)), .val (.int ((Int32.ofNat (k + 1)) + (1 : Int32)))] [])) (T30.setTop (mkF m 42 #[.val (.ref r0), .val (.long F), .second, .val (.int (Int32.ofNat k)), .val (.int (Int32.ofNat (k + 2)))] [])) := by rw [own_inck1]; exact fun _ h => h
      have k46 : Go p.tables e below (T30.setTop (mkF m 42 #[.val (.ref r0), .val (.long F), .second, .val (.int (Int32.ofNat k)), .val (.int (Int32.ofNat (k + 2)))] [])) (T30.setTop (mkF m 20 #[.val (.ref r0), .val (.long F), .second, .val (.int (Int32.ofNat k)), .val (.int (Int32.ofNat (k + 2)))] [(.ref r0), (.int (Int32.ofNat k)), (.int (Int32.ofNat (k + 2)))])) := by
        intro t ht
        refine XS.goto X30.here hx rfl (pc0 := 42) (pc' := 16) rfl (hb hby d_shk3_42) (by decide) (by decide) ?_
        show Steps p.tables e below (T30.setTop (mkF m 16 #[.val (.ref r0), .val (.long F), .second, .val (.int (Int32.ofNat k)), .val (.int (Int32.ofNat (k + 2)))] [])) _
        refine XS.iload X30.here hx rfl (hb hby d_shk3_16) rfl ?_
        show Steps p.tables e below (T30.setTop (mkF m 18 #[.val (.ref r0), .val (.long F), .second, .val (.int (Int32.ofNat k)), .val (.int (Int32.ofNat (k + 2)))] [(.int (Int32.ofNat (k + 2)))])) _
        refine XS.iloadN X30.here hx rfl (hb hby d_shk3_18) rfl ?_
        show Steps p.tables e below (T30.setTop (mkF m 19 #[.val (.ref r0), .val (.long F), .second, .val (.int (Int32.ofNat k)), .val (.int (Int32.ofNat (k + 2)))] [(.int (Int32.ofNat k)), (.int (Int32.ofNat (k + 2)))])) _
        refine XS.aloadN X30.here hx rfl (hb hby d_shk3_19) rfl rfl ?_
        exact ht
      obtain ⟨T47, X47, e47, st47⟩ := getF X30 hx hZ hown (host := "") (Or.inl (hw _ (List.mem_of_getElem? (i := 13) rfl))) Via.refl e30 Fs (g := (mkF m 20 #[.val (.ref r0), .val (.long F), .second, .val (.int (Int32.ofNat k)), .val (.int (Int32.ofNat (k + 2)))] [(.ref r0), (.int (Int32.ofNat k)), (.int (Int32.ofNat (k + 2)))])) rfl rfl (hb hby d_shk3_20)
      have k47 : Go p.tables e below (T30.setTop (mkF m 20 #[.val (.ref r0), .val (.long F), .second, .val (.int (Int32.ofNat k)), .val (.int (Int32.ofNat (k + 2)))] [(.ref r0), (.int (Int32.ofNat k)), (.int (Int32.ofNat (k + 2)))])) (T47.setTop (mkF m 23 #[.val (.ref r0), .val (.long F), .second, .val (.int (Int32.ofNat k)), .val (.int (Int32.ofNat (k + 2)))] [(.int (3 : Int32)), (.int (Int32.ofNat k)), (.int (Int32.ofNat (k + 2)))])) := st47
      have k48 : Go p.tables e below (T47.setTop (mkF m 23 #[.val (.ref r0), .val (.long F), .second, .val (.int (Int32.ofNat k)), .val (.int (Int32.ofNat (k + 2)))] [(.int (3 : Int32)), (.int (Int32.ofNat k)), (.int (Int32.ofNat (k + 2)))])) (T47.setTop (mkF m 24 #[.val (.ref r0), .val (.long F), .second, .val (.int (Int32.ofNat k)), .val (.int (Int32.ofNat (k + 2)))] [(.int ((Int32.ofNat k) + (3 : Int32))), (.int (Int32.ofNat (k + 2)))])) := by
        intro t ht
        refine XS.iadd X47.here hx rfl (hb hby d_shk3_23) rfl ?_
        exact ht
      have k49 : Go p.tables e below (T47.setTop (mkF m 24 #[.val (.ref r0), .val (.long F), .second, .val (.int (Int32.ofNat k)), .val (.int (Int32.ofNat (k + 2)))] [(.int ((Int32.ofNat k) + (3 : Int32))), (.int (Int32.ofNat (k + 2)))])) (T47.setTop (mkF m 24 #[.val (.ref r0), .val (.long F), .second, .val (.int (Int32.ofNat k)), .val (.int (Int32.ofNat (k + 2)))] [(.int (Int32.ofNat (k + 3))), (.int (Int32.ofNat (k + 2)))])) := by rw [own_addk3]; exact fun _ h => h
      have k50 : Go p.tables e below (T47.setTop (mkF m 24 #[.val (.ref r0), .val (.long F), .second, .val (.int (Int32.ofNat k)), .val (.int (Int32.ofNat (k + 2)))] [(.int (Int32.ofNat (k + 3))), (.int (Int32.ofNat (k + 2)))])) (T47.setTop (mkF m 28 #[.val (.ref r0), .val (.long F), .second, .val (.int (Int32.ofNat k)), .val (.int (Int32.ofNat (k + 2)))] [(.ref r0)])) := by
        intro t ht
        refine XS.icmpNo X47.here hx rfl (hb hby d_shk3_24) rfl (tlt (own_ltk (by omega) (by omega))).2.1 ?_
        show Steps p.tables e below (T47.setTop (mkF m 27 #[.val (.ref r0), .val (.long F), .second, .val (.int (Int32.ofNat k)), .val (.int (Int32.ofNat (k + 2)))] [])) _
        refine XS.aloadN X47.here hx rfl (hb hby d_shk3_27) rfl rfl ?_
        exact ht
      obtain ⟨T51, X51, e51, st51⟩ := getF X47 hx hZ hown (host := "") (Or.inl (hw _ (List.mem_of_getElem? (i := 18) rfl))) Via.refl e47 Fc (g := (mkF m 28 #[.val (.ref r0), .val (.long F), .second, .val (.int (Int32.ofNat k)), .val (.int (Int32.ofNat (k + 2)))] [(.ref r0)])) rfl rfl (hb hby d_shk3_28)
      have k51 : Go p.tables e below (T47.setTop (mkF m 28 #[.val (.ref r0), .val (.long F), .second, .val (.int (Int32.ofNat k)), .val (.int (Int32.ofNat (k + 2)))] [(.ref r0)])) (T51.setTop (mkF m 31 #[.val (.ref r0), .val (.long F), .second, .val (.int (Int32.ofNat k)), .val (.int (Int32.ofNat (k + 2)))] [(.ref rc)])) := st51
      have k52 : Go p.tables e below (T51.setTop (mkF m 31 #[.val (.ref r0), .val (.long F), .second, .val (.int (Int32.ofNat k)), .val (.int (Int32.ofNat (k + 2)))] [(.ref rc)])) (T51.setTop (mkF m 33 #[.val (.ref r0), .val (.long F), .second, .val (.int (Int32.ofNat k)), .val (.int (Int32.ofNat (k + 2)))] [(.int (Int32.ofNat (k + 2))), (.ref rc)])) := by
        intro t ht
        refine XS.iload X51.here hx rfl (hb hby d_shk3_31) rfl ?_
        exact ht
      obtain ⟨cl53, Ar53, q53, S53, M53, H53, G53⟩ := id Vc
      have hin53 : ¬ ((Int32.ofNat (k + 2)) < 0 ∨ cl53.slots.size ≤ ((Int32.ofNat (k + 2))).toNatClampNeg) := inb_of S53 ⟨own_nneg (by omega), own_ltM (by omega) (by omega)⟩
      have hat53 : cl53.slots[((Int32.ofNat (k + 2))).toNatClampNeg]? = some (.long (cs.getD (k + 2) 0)) := (H53 _ (Nat.lt_of_not_le fun y => hin53 (Or.inr y))).trans (congrArg some (own_getJ _ (by omega)))
      have k54 : Go p.tables e below (T51.setTop (mkF m 33 #[.val (.ref r0), .val (.long F), .second, .val (.int (Int32.ofNat k)), .val (.int (Int32.ofNat (k + 2)))] [(.int (Int32.ofNat (k + 2))), (.ref rc)])) (T51.setTop (mkF m 36 #[.val (.ref r0), .val (.long F), .second, .val (.int (Int32.ofNat k)), .val (.int (Int32.ofNat (k + 2)))] [(.int (lcmpW (cs.getD (k + 2) 0) (0 : Int64)))])) := by
        intro t ht
        refine X51.laload hx (j := (Int32.ofNat (k + 2))) (v := (.long (cs.getD (k + 2) 0))) (by rw [e51]; exact Ar53.1) (State.isArrayOf_alike hZ.alike Ar53.2.1) Ar53.2.2 hin53 hat53 (g := (mkF m 33 #[.val (.ref r0), .val (.long F), .second, .val (.int (Int32.ofNat k)), .val (.int (Int32.ofNat (k + 2)))] [(.int (Int32.ofNat (k + 2))), (.ref rc)])) rfl rfl (hb hby d_shk3_33) _ ?_
        show Steps p.tables e below (T51.setTop (mkF m 34 #[.val (.ref r0), .val (.long F), .second, .val (.int (Int32.ofNat k)), .val (.int (Int32.ofNat (k + 2)))] [(.long (cs.getD (k + 2) 0))])) _
        refine XS.lconst X51.here hx rfl (hb hby d_shk3_34) ?_
        show Steps p.tables e below (T51.setTop (mkF m 35 #[.val (.ref r0), .val (.long F), .second, .val (.int (Int32.ofNat k)), .val (.int (Int32.ofNat (k + 2)))] [(.long (0 : Int64)), (.long (cs.getD (k + 2) 0))])) _
        refine XS.lcmp X51.here hx rfl (hb hby d_shk3_35) rfl ?_
        exact ht
      by_cases hc55 : (cs.getD (k + 2) 0) = (0 : Int64)
      · have k56 : Go p.tables e below (T51.setTop (mkF m 36 #[.val (.ref r0), .val (.long F), .second, .val (.int (Int32.ofNat k)), .val (.int (Int32.ofNat (k + 2)))] [(.int (lcmpW (cs.getD (k + 2) 0) (0 : Int64)))])) (T51.setTop (mkF m 49 #[.val (.ref r0), .val (.long F), .second, .val (.int (Int32.ofNat k)), .val (.int (Int32.ofNat (k + 2)))] [(.ref r0), (.int (Int32.ofNat k)), (.int (Int32.ofNat (k + 2)))])) := by
          intro t ht
          refine XS.ifYes X51.here hx rfl (pc0 := 36) (pc' := 45) rfl (hb hby d_shk3_36) rfl ((if0 _ _).trans (teq (own_eqL hc55)).1) (by decide) (by decide) ?_
          show Steps p.tables e below (T51.setTop (mkF m 45 #[.val (.ref r0), .val (.long F), .second, .val (.int (Int32.ofNat k)), .val (.int (Int32.ofNat (k + 2)))] [])) _
          refine XS.iload X51.here hx rfl (hb hby d_shk3_45) rfl ?_
          show Steps p.tables e below (T51.setTop (mkF m 47 #[.val (.ref r0), .val (.long F), .second, .val (.int (Int32.ofNat k)), .val (.int (Int32.ofNat (k + 2)))] [(.int (Int32.ofNat (k + 2)))])) _
          refine XS.iloadN X51.here hx rfl (hb hby d_shk3_47) rfl ?_
          show Steps p.tables e below (T51.setTop (mkF m 48 #[.val (.ref r0), .val (.long F), .second, .val (.int (Int32.ofNat k)), .val (.int (Int32.ofNat (k + 2)))] [(.int (Int32.ofNat k)), (.int (Int32.ofNat (k + 2)))])) _
          refine XS.aloadN X51.here hx rfl (hb hby d_shk3_48) rfl rfl ?_
          exact ht
        obtain ⟨T57, X57, e57, st57⟩ := getF X51 hx hZ hown (host := "") (Or.inl (hw _ (List.mem_of_getElem? (i := 13) rfl))) Via.refl e51 Fs (g := (mkF m 49 #[.val (.ref r0), .val (.long F), .second, .val (.int (Int32.ofNat k)), .val (.int (Int32.ofNat (k + 2)))] [(.ref r0), (.int (Int32.ofNat k)), (.int (Int32.ofNat (k + 2)))])) rfl rfl (hb hby d_shk3_49)
        have k57 : Go p.tables e below (T51.setTop (mkF m 49 #[.val (.ref r0), .val (.long F), .second, .val (.int (Int32.ofNat k)), .val (.int (Int32.ofNat (k + 2)))] [(.ref r0), (.int (Int32.ofNat k)), (.int (Int32.ofNat (k + 2)))])) (T57.setTop (mkF m 52 #[.val (.ref r0), .val (.long F), .second, .val (.int (Int32.ofNat k)), .val (.int (Int32.ofNat (k + 2)))] [(.int (3 : Int32)), (.int (Int32.ofNat k)), (.int (Int32.ofNat (k + 2)))])) := st57
        have k58 : Go p.tables e below (T57.setTop (mkF m 52 #[.val (.ref r0), .val (.long F), .second, .val (.int (Int32.ofNat k)), .val (.int (Int32.ofNat (k + 2)))] [(.int (3 : Int32)), (.int (Int32.ofNat k)), (.int (Int32.ofNat (k + 2)))])) (T57.setTop (mkF m 53 #[.val (.ref r0), .val (.long F), .second, .val (.int (Int32.ofNat k)), .val (.int (Int32.ofNat (k + 2)))] [(.int ((Int32.ofNat k) + (3 : Int32))), (.int (Int32.ofNat (k + 2)))])) := by
          intro t ht
          refine XS.iadd X57.here hx rfl (hb hby d_shk3_52) rfl ?_
          exact ht
        have k59 : Go p.tables e below (T57.setTop (mkF m 53 #[.val (.ref r0), .val (.long F), .second, .val (.int (Int32.ofNat k)), .val (.int (Int32.ofNat (k + 2)))] [(.int ((Int32.ofNat k) + (3 : Int32))), (.int (Int32.ofNat (k + 2)))])) (T57.setTop (mkF m 53 #[.val (.ref r0), .val (.long F), .second, .val (.int (Int32.ofNat k)), .val (.int (Int32.ofNat (k + 2)))] [(.int (Int32.ofNat (k + 3))), (.int (Int32.ofNat (k + 2)))])) := by rw [own_addk3]; exact fun _ h => h
        have k60 : Go p.tables e below (T57.setTop (mkF m 53 #[.val (.ref r0), .val (.long F), .second, .val (.int (Int32.ofNat k)), .val (.int (Int32.ofNat (k + 2)))] [(.int (Int32.ofNat (k + 3))), (.int (Int32.ofNat (k + 2)))])) (T57.setTop (mkF m 62 #[.val (.ref r0), .val (.long F), .second, .val (.int (Int32.ofNat k)), .val (.int (Int32.ofNat (k + 2)))] [(.ref r0), (.int (Int32.ofNat k))])) := by
          intro t ht
          refine XS.icmpYes X57.here hx rfl (pc0 := 53) (pc' := 60) rfl (hb hby d_shk3_53) rfl (feq (own_nek (by omega) (by omega))).2 (by decide) (by decide) ?_
          show Steps p.tables e below (T57.setTop (mkF m 60 #[.val (.ref r0), .val (.long F), .second, .val (.int (Int32.ofNat k)), .val (.int (Int32.ofNat (k + 2)))] [])) _
          refine XS.iloadN X57.here hx rfl (hb hby d_shk3_60) rfl ?_
          show Steps p.tables e below (T57.setTop (mkF m 61 #[.val (.ref r0), .val (.long F), .second, .val (.int (Int32.ofNat k)), .val (.int (Int32.ofNat (k + 2)))] [(.int (Int32.ofNat k))])) _
          refine XS.aloadN X57.here hx rfl (hb hby d_shk3_61) rfl rfl ?_
          exact ht
        obtain ⟨T61, X61, e61, st61⟩ := getF X57 hx hZ hown (host := "") (Or.inl (hw _ (List.mem_of_getElem? (i := 13) rfl))) Via.refl e57 Fs (g := (mkF m 62 #[.val (.ref r0), .val (.long F), .second, .val (.int (Int32.ofNat k)), .val (.int (Int32.ofNat (k + 2)))] [(.ref r0), (.int (Int32.ofNat k))])) rfl rfl (hb hby d_shk3_62)
        have k61 : Go p.tables e below (T57.setTop (mkF m 62 #[.val (.ref r0), .val (.long F), .second, .val (.int (Int32.ofNat k)), .val (.int (Int32.ofNat (k + 2)))] [(.ref r0), (.int (Int32.ofNat k))])) (T61.setTop (mkF m 65 #[.val (.ref r0), .val (.long F), .second, .val (.int (Int32.ofNat k)), .val (.int (Int32.ofNat (k + 2)))] [(.int (3 : Int32)), (.int (Int32.ofNat k))])) := st61
        have k62 : Go p.tables e below (T61.setTop (mkF m 65 #[.val (.ref r0), .val (.long F), .second, .val (.int (Int32.ofNat k)), .val (.int (Int32.ofNat (k + 2)))] [(.int (3 : Int32)), (.int (Int32.ofNat k))])) (T61.setTop (mkF m 66 #[.val (.ref r0), .val (.long F), .second, .val (.int (Int32.ofNat k)), .val (.int (Int32.ofNat (k + 2)))] [(.int ((Int32.ofNat k) + (3 : Int32)))])) := by
          intro t ht
          refine XS.iadd X61.here hx rfl (hb hby d_shk3_65) rfl ?_
          exact ht
        have k63 : Go p.tables e below (T61.setTop (mkF m 66 #[.val (.ref r0), .val (.long F), .second, .val (.int (Int32.ofNat k)), .val (.int (Int32.ofNat (k + 2)))] [(.int ((Int32.ofNat k) + (3 : Int32)))])) (T61.setTop (mkF m 66 #[.val (.ref r0), .val (.long F), .second, .val (.int (Int32.ofNat k)), .val (.int (Int32.ofNat (k + 2)))] [(.int (Int32.ofNat (k + 3)))])) := by rw [own_addk3]; exact fun _ h => h
        have k64 : Go p.tables e below (T61.setTop (mkF m 66 #[.val (.ref r0), .val (.long F), .second, .val (.int (Int32.ofNat k)), .val (.int (Int32.ofNat (k + 2)))] [(.int (Int32.ofNat (k + 3)))])) (T61.setTop (mkF m 4 #[.val (.ref r0), .val (.long F), .second, .val (.int (Int32.ofNat (k + 3))), .val (.int (Int32.ofNat (k + 2)))] [])) := by
          intro t ht
          refine XS.istoreN X61.here hx rfl (hb hby d_shk3_66) rfl (l' := #[.val (.ref r0), .val (.long F), .second, .val (.int (Int32.ofNat (k + 3))), .val (.int (Int32.ofNat (k + 2)))]) rfl ?_
          show Steps p.tables e below (T61.setTop (mkF m 67 #[.val (.ref r0), .val (.long F), .second, .val (.int (Int32.ofNat (k + 3))), .val (.int (Int32.ofNat (k + 2)))] [])) _
          refine XS.goto X61.here hx rfl (pc0 := 67) (pc' := 4) rfl (hb hby d_shk3_67) (by decide) (by decide) ?_
          exact ht
        refine ⟨T61, _, ((Int32.ofNat (k + 2))), X61, N0, e61, ?_⟩
        have kk := (goT k1 (goT k2 (goT k4 (goT k5 (goT k6 (goT k7 (goT k8 (goT k9 (goT k10 (goT k12 (goT k23 (goT k24 (goT k25 (goT k26 (goT k27 (goT k28 (goT k29 (goT k30 (goT k31 (goT k33 (goT k44 (goT k45 (goT k46 (goT k47 (goT k48 (goT k49 (goT k50 (goT k51 (goT k52 (goT k54 (goT k56 (goT k57 (goT k58 (goT k59 (goT k60 (goT k61 (goT k62 (goT k63 k64))))))))))))))))))))))))))))))))))))))
        simpa only [f_shk3, if_neg hc13, if_neg hc34, if_pos hc55] using kk
      · have k65 : Go p.tables e below (T51.setTop (mkF m 36 #[.val (.ref r0), .val (.long F), .second, .val (.int (Int32.ofNat k)), .val (.int (Int32.ofNat (k + 2)))] [(.int (lcmpW (cs.getD (k + 2) 0) (0 : Int64)))])) (T51.setTop (mkF m 42 #[.val (.ref r0), .val (.long F), .second, .val (.int (Int32.ofNat k)), .val (.int ((Int32.ofNat (k + 2)) + (1 : Int32)))] [])) := by
          intro t ht
          refine XS.ifNo X51.here hx rfl (hb hby d_shk3_36) rfl ((if0 _ _).trans (feq (own_neqL hc55)).1) ?_
          show Steps p.tables e below (T51.setTop (mkF m 39 #[.val (.ref r0), .val (.long F), .second, .val (.int (Int32.ofNat k)), .val (.int (Int32.ofNat (k + 2)))] [])) _
          refine XS.iinc X51.here hx rfl (hb hby d_shk3_39) rfl (l' := #[.val (.ref r0), .val (.long F), .second, .val (.int (Int32.ofNat k)), .val (.int ((Int32.ofNat (k + 2)) + (1 : Int32)))]) rfl ?_
          exact ht
        have k66 : Go p.tables e below (T51.setTop (mkF m 42 #[.val (.ref r0), .val (.long F), .second, .val (.int (Int32.ofNat k)), .val (.int ((Int32.ofNat (k + 2)) + (1 : Int32)))] [])) (T51.setTop (mkF m 42 #[.val (.ref r0), .val (.long F), .second, .val (.int (Int32.ofNat k)), .val (.int (Int32.ofNat (k + 3)))] [])) := by rw [own_inck2]; exact fun _ h => h
        have k67 : Go p.tables e below (T51.setTop (mkF m 42 #[.val (.ref r0), .val (.long F), .second, .val (.int (Int32.ofNat k)), .val (.int (Int32.ofNat (k + 3)))] [])) (T51.setTop (mkF m 20 #[.val (.ref r0), .val (.long F), .second, .val (.int (Int32.ofNat k)), .val (.int (Int32.ofNat (k + 3)))] [(.ref r0), (.int (Int32.ofNat k)), (.int (Int32.ofNat (k + 3)))])) := by
          intro t ht
          refine XS.goto X51.here hx rfl (pc0 := 42) (pc' := 16) rfl (hb hby d_shk3_42) (by decide) (by decide) ?_
          show Steps p.tables e below (T51.setTop (mkF m 16 #[.val (.ref r0), .val (.long F), .second, .val (.int (Int32.ofNat k)), .val (.int (Int32.ofNat (k + 3)))] [])) _
          refine XS.iload X51.here hx rfl (hb hby d_shk3_16) rfl ?_
          show Steps p.tables e below (T51.setTop (mkF m 18 #[.val (.ref r0), .val (.long F), .second, .val (.int (Int32.ofNat k)), .val (.int (Int32.ofNat (k + 3)))] [(.int (Int32.ofNat (k + 3)))])) _
          refine XS.iloadN X51.here hx rfl (hb hby d_shk3_18) rfl ?_
          show Steps p.tables e below (T51.setTop (mkF m 19 #[.val (.ref r0), .val (.long F), .second, .val (.int (Int32.ofNat k)), .val (.int (Int32.ofNat (k + 3)))] [(.int (Int32.ofNat k)), (.int (Int32.ofNat (k + 3)))])) _
          refine XS.aloadN X51.here hx rfl (hb hby d_shk3_19) rfl rfl ?_
          exact ht
        obtain ⟨T68, X68, e68, st68⟩ := getF X51 hx hZ hown (host := "") (Or.inl (hw _ (List.mem_of_getElem? (i := 13) rfl))) Via.refl e51 Fs (g := (mkF m 20 #[.val (.ref r0), .val (.long F), .second, .val (.int (Int32.ofNat k)), .val (.int (Int32.ofNat (k + 3)))] [(.ref r0), (.int (Int32.ofNat k)), (.int (Int32.ofNat (k + 3)))])) rfl rfl (hb hby d_shk3_20)
        have k68 : Go p.tables e below (T51.setTop (mkF m 20 #[.val (.ref r0), .val (.long F), .second, .val (.int (Int32.ofNat k)), .val (.int (Int32.ofNat (k + 3)))] [(.ref r0), (.int (Int32.ofNat k)), (.int (Int32.ofNat (k + 3)))])) (T68.setTop (mkF m 23 #[.val (.ref r0), .val (.long F), .second, .val (.int (Int32.ofNat k)), .val (.int (Int32.ofNat (k + 3)))] [(.int (3 : Int32)), (.int (Int32.ofNat k)), (.int (Int32.ofNat (k + 3)))])) := st68
        have k69 : Go p.tables e below (T68.setTop (mkF m 23 #[.val (.ref r0), .val (.long F), .second, .val (.int (Int32.ofNat k)), .val (.int (Int32.ofNat (k + 3)))] [(.int (3 : Int32)), (.int (Int32.ofNat k)), (.int (Int32.ofNat (k + 3)))])) (T68.setTop (mkF m 24 #[.val (.ref r0), .val (.long F), .second, .val (.int (Int32.ofNat k)), .val (.int (Int32.ofNat (k + 3)))] [(.int ((Int32.ofNat k) + (3 : Int32))), (.int (Int32.ofNat (k + 3)))])) := by
          intro t ht
          refine XS.iadd X68.here hx rfl (hb hby d_shk3_23) rfl ?_
          exact ht
        have k70 : Go p.tables e below (T68.setTop (mkF m 24 #[.val (.ref r0), .val (.long F), .second, .val (.int (Int32.ofNat k)), .val (.int (Int32.ofNat (k + 3)))] [(.int ((Int32.ofNat k) + (3 : Int32))), (.int (Int32.ofNat (k + 3)))])) (T68.setTop (mkF m 24 #[.val (.ref r0), .val (.long F), .second, .val (.int (Int32.ofNat k)), .val (.int (Int32.ofNat (k + 3)))] [(.int (Int32.ofNat (k + 3))), (.int (Int32.ofNat (k + 3)))])) := by rw [own_addk3]; exact fun _ h => h
        have k71 : Go p.tables e below (T68.setTop (mkF m 24 #[.val (.ref r0), .val (.long F), .second, .val (.int (Int32.ofNat k)), .val (.int (Int32.ofNat (k + 3)))] [(.int (Int32.ofNat (k + 3))), (.int (Int32.ofNat (k + 3)))])) (T68.setTop (mkF m 49 #[.val (.ref r0), .val (.long F), .second, .val (.int (Int32.ofNat k)), .val (.int (Int32.ofNat (k + 3)))] [(.ref r0), (.int (Int32.ofNat k)), (.int (Int32.ofNat (k + 3)))])) := by
          intro t ht
          refine XS.icmpYes X68.here hx rfl (pc0 := 24) (pc' := 45) rfl (hb hby d_shk3_24) rfl (flt (own_nltk _)).2.1 (by decide) (by decide) ?_
          show Steps p.tables e below (T68.setTop (mkF m 45 #[.val (.ref r0), .val (.long F), .second, .val (.int (Int32.ofNat k)), .val (.int (Int32.ofNat (k + 3)))] [])) _
          refine XS.iload X68.here hx rfl (hb hby d_shk3_45) rfl ?_
          show Steps p.tables e below (T68.setTop (mkF m 47 #[.val (.ref r0), .val (.long F), .second, .val (.int (Int32.ofNat k)), .val (.int (Int32.ofNat (k + 3)))] [(.int (Int32.ofNat (k + 3)))])) _
          refine XS.iloadN X68.here hx rfl (hb hby d_shk3_47) rfl ?_
          show Steps p.tables e below (T68.setTop (mkF m 48 #[.val (.ref r0), .val (.long F), .second, .val (.int (Int32.ofNat k)), .val (.int (Int32.ofNat (k + 3)))] [(.int (Int32.ofNat k)), (.int (Int32.ofNat (k + 3)))])) _
          refine XS.aloadN X68.here hx rfl (hb hby d_shk3_48) rfl rfl ?_
          exact ht
        obtain ⟨T72, X72, e72, st72⟩ := getF X68 hx hZ hown (host := "") (Or.inl (hw _ (List.mem_of_getElem? (i := 13) rfl))) Via.refl e68 Fs (g := (mkF m 49 #[.val (.ref r0), .val (.long F), .second, .val (.int (Int32.ofNat k)), .val (.int (Int32.ofNat (k + 3)))] [(.ref r0), (.int (Int32.ofNat k)), (.int (Int32.ofNat (k + 3)))])) rfl rfl (hb hby d_shk3_49)
        have k72 : Go p.tables e below (T68.setTop (mkF m 49 #[.val (.ref r0), .val (.long F), .second, .val (.int (Int32.ofNat k)), .val (.int (Int32.ofNat (k + 3)))] [(.ref r0), (.int (Int32.ofNat k)), (.int (Int32.ofNat (k + 3)))])) (T72.setTop (mkF m 52 #[.val (.ref r0), .val (.long F), .second, .val (.int (Int32.ofNat k)), .val (.int (Int32.ofNat (k + 3)))] [(.int (3 : Int32)), (.int (Int32.ofNat k)), (.int (Int32.ofNat (k + 3)))])) := st72
        have k73 : Go p.tables e below (T72.setTop (mkF m 52 #[.val (.ref r0), .val (.long F), .second, .val (.int (Int32.ofNat k)), .val (.int (Int32.ofNat (k + 3)))] [(.int (3 : Int32)), (.int (Int32.ofNat k)), (.int (Int32.ofNat (k + 3)))])) (T72.setTop (mkF m 53 #[.val (.ref r0), .val (.long F), .second, .val (.int (Int32.ofNat k)), .val (.int (Int32.ofNat (k + 3)))] [(.int ((Int32.ofNat k) + (3 : Int32))), (.int (Int32.ofNat (k + 3)))])) := by
          intro t ht
          refine XS.iadd X72.here hx rfl (hb hby d_shk3_52) rfl ?_
          exact ht
        have k74 : Go p.tables e below (T72.setTop (mkF m 53 #[.val (.ref r0), .val (.long F), .second, .val (.int (Int32.ofNat k)), .val (.int (Int32.ofNat (k + 3)))] [(.int ((Int32.ofNat k) + (3 : Int32))), (.int (Int32.ofNat (k + 3)))])) (T72.setTop (mkF m 53 #[.val (.ref r0), .val (.long F), .second, .val (.int (Int32.ofNat k)), .val (.int (Int32.ofNat (k + 3)))] [(.int (Int32.ofNat (k + 3))), (.int (Int32.ofNat (k + 3)))])) := by rw [own_addk3]; exact fun _ h => h
        have k75 : Go p.tables e below (T72.setTop (mkF m 53 #[.val (.ref r0), .val (.long F), .second, .val (.int (Int32.ofNat k)), .val (.int (Int32.ofNat (k + 3)))] [(.int (Int32.ofNat (k + 3))), (.int (Int32.ofNat (k + 3)))])) (T72.setTop (mkF m 62 #[.val (.ref r0), .val (.long (F + (1 : Int64))), .second, .val (.int (Int32.ofNat k)), .val (.int (Int32.ofNat (k + 3)))] [(.ref r0), (.int (Int32.ofNat k))])) := by
          intro t ht
          refine XS.icmpNo X72.here hx rfl (hb hby d_shk3_53) rfl (teq (rfl : (Int32.ofNat (k + 3)) = (Int32.ofNat (k + 3)))).2 ?_
          show Steps p.tables e below (T72.setTop (mkF m 56 #[.val (.ref r0), .val (.long F), .second, .val (.int (Int32.ofNat k)), .val (.int (Int32.ofNat (k + 3)))] [])) _
          refine XS.lloadN X72.here hx rfl (hb hby d_shk3_56) rfl ?_
          show Steps p.tables e below (T72.setTop (mkF m 57 #[.val (.ref r0), .val (.long F), .second, .val (.int (Int32.ofNat k)), .val (.int (Int32.ofNat (k + 3)))] [(.long F)])) _
          refine XS.lconst X72.here hx rfl (hb hby d_shk3_57) ?_
          show Steps p.tables e below (T72.setTop (mkF m 58 #[.val (.ref r0), .val (.long F), .second, .val (.int (Int32.ofNat k)), .val (.int (Int32.ofNat (k + 3)))] [(.long (1 : Int64)), (.long F)])) _
          refine XS.ladd X72.here hx rfl (hb hby d_shk3_58) rfl ?_
          show Steps p.tables e below (T72.setTop (mkF m 59 #[.val (.ref r0), .val (.long F), .second, .val (.int (Int32.ofNat k)), .val (.int (Int32.ofNat (k + 3)))] [(.long (F + (1 : Int64)))])) _
          refine XS.lstoreN X72.here hx rfl (hb hby d_shk3_59) rfl (l' := #[.val (.ref r0), .val (.long (F + (1 : Int64))), .second, .val (.int (Int32.ofNat k)), .val (.int (Int32.ofNat (k + 3)))]) rfl ?_
          show Steps p.tables e below (T72.setTop (mkF m 60 #[.val (.ref r0), .val (.long (F + (1 : Int64))), .second, .val (.int (Int32.ofNat k)), .val (.int (Int32.ofNat (k + 3)))] [])) _
          refine XS.iloadN X72.here hx rfl (hb hby d_shk3_60) rfl ?_
          show Steps p.tables e below (T72.setTop (mkF m 61 #[.val (.ref r0), .val (.long (F + (1 : Int64))), .second, .val (.int (Int32.ofNat k)), .val (.int (Int32.ofNat (k + 3)))] [(.int (Int32.ofNat k))])) _
          refine XS.aloadN X72.here hx rfl (hb hby d_shk3_61) rfl rfl ?_
          exact ht
        obtain ⟨T76, X76, e76, st76⟩ := getF X72 hx hZ hown (host := "") (Or.inl (hw _ (List.mem_of_getElem? (i := 13) rfl))) Via.refl e72 Fs (g := (mkF m 62 #[.val (.ref r0), .val (.long (F + (1 : Int64))), .second, .val (.int (Int32.ofNat k)), .val (.int (Int32.ofNat (k + 3)))] [(.ref r0), (.int (Int32.ofNat k))])) rfl rfl (hb hby d_shk3_62)
        have k76 : Go p.tables e below (T72.setTop (mkF m 62 #[.val (.ref r0), .val (.long (F + (1 : Int64))), .second, .val (.int (Int32.ofNat k)), .val (.int (Int32.ofNat (k + 3)))] [(.ref r0), (.int (Int32.ofNat k))])) (T76.setTop (mkF m 65 #[.val (.ref r0), .val (.long (F + (1 : Int64))), .second, .val (.int (Int32.ofNat k)), .val (.int (Int32.ofNat (k + 3)))] [(.int (3 : Int32)), (.int (Int32.ofNat k))])) := st76
        have k77 : Go p.tables e below (T76.setTop (mkF m 65 #[.val (.ref r0), .val (.long (F + (1 : Int64))), .second, .val (.int (Int32.ofNat k)), .val (.int (Int32.ofNat (k + 3)))] [(.int (3 : Int32)), (.int (Int32.ofNat k))])) (T76.setTop (mkF m 66 #[.val (.ref r0), .val (.long (F + (1 : Int64))), .second, .val (.int (Int32.ofNat k)), .val (.int (Int32.ofNat (k + 3)))] [(.int ((Int32.ofNat k) + (3 : Int32)))])) := by
          intro t ht
          refine XS.iadd X76.here hx rfl (hb hby d_shk3_65) rfl ?_
          exact ht
        have k78 : Go p.tables e below (T76.setTop (mkF m 66 #[.val (.ref r0), .val (.long (F + (1 : Int64))), .second, .val (.int (Int32.ofNat k)), .val (.int (Int32.ofNat (k + 3)))] [(.int ((Int32.ofNat k) + (3 : Int32)))])) (T76.setTop (mkF m 66 #[.val (.ref r0), .val (.long (F + (1 : Int64))), .second, .val (.int (Int32.ofNat k)), .val (.int (Int32.ofNat (k + 3)))] [(.int (Int32.ofNat (k + 3)))])) := by rw [own_addk3]; exact fun _ h => h
        have k79 : Go p.tables e below (T76.setTop (mkF m 66 #[.val (.ref r0), .val (.long (F + (1 : Int64))), .second, .val (.int (Int32.ofNat k)), .val (.int (Int32.ofNat (k + 3)))] [(.int (Int32.ofNat (k + 3)))])) (T76.setTop (mkF m 4 #[.val (.ref r0), .val (.long (F + (1 : Int64))), .second, .val (.int (Int32.ofNat (k + 3))), .val (.int (Int32.ofNat (k + 3)))] [])) := by
          intro t ht
          refine XS.istoreN X76.here hx rfl (hb hby d_shk3_66) rfl (l' := #[.val (.ref r0), .val (.long (F + (1 : Int64))), .second, .val (.int (Int32.ofNat (k + 3))), .val (.int (Int32.ofNat (k + 3)))]) rfl ?_
          show Steps p.tables e below (T76.setTop (mkF m 67 #[.val (.ref r0), .val (.long (F + (1 : Int64))), .second, .val (.int (Int32.ofNat (k + 3))), .val (.int (Int32.ofNat (k + 3)))] [])) _
          refine XS.goto X76.here hx rfl (pc0 := 67) (pc' := 4) rfl (hb hby d_shk3_67) (by decide) (by decide) ?_
          exact ht
        refine ⟨T76, _, ((Int32.ofNat (k + 3))), X76, N0, e76, ?_⟩
        have kk := (goT k1 (goT k2 (goT k4 (goT k5 (goT k6 (goT k7 (goT k8 (goT k9 (goT k10 (goT k12 (goT k23 (goT k24 (goT k25 (goT k26 (goT k27 (goT k28 (goT k29 (goT k30 (goT k31 (goT k33 (goT k44 (goT k45 (goT k46 (goT k47 (goT k48 (goT k49 (goT k50 (goT k51 (goT k52 (goT k54 (goT k65 (goT k66 (goT k67 (goT k68 (goT k69 (goT k70 (goT k71 (goT k72 (goT k73 (goT k74 (goT k75 (goT k76 (goT k77 (goT k78 k79))))))))))))))))))))))))))))))))))))))))))))
        simpa only [f_shk3, if_neg hc13, if_neg hc34, if_neg hc55] using kk
theorem d_shE_4 : decode prog_25_method_6_code 4 = .ok (.iload_n 3, 1) := by decide +kernel
theorem d_shE_5 : decode prog_25_method_6_code 5 = .ok (.aload_n 0, 1) := by decide +kernel
theorem d_shE_6 : decode prog_25_method_6_code 6 = .ok (.getfield 33, 3) := by decide +kernel
theorem d_shE_9 : decode prog_25_method_6_code 9 = .ok (.arraylength, 1) := by decide +kernel
theorem d_shE_10 : decode prog_25_method_6_code 10 = .ok (.if_icmp .ge 60, 3) := by decide +kernel
def f_shE (F : Int64) : Int64 := F
set_option maxRecDepth 65536 in
set_option maxHeartbeats 40000000 in
theorem pc_shE {p : Program} {l : Launch} {e : Env} {s : State} {m : MethodId} {below : List Frame} {meth : Method} {c : Code} {T0 : State} {locs : List Loc} {Z : State} {a0 : Array Value} {h0 : Heap} {n0 : Nat} (r0 rc : Addr) (F : Int64) (N : Nat) (kc : ClassId) (cs : List Int64) (s4 : Slot)
    (X0 : Stand p l e ({ frames := 0, cells := 0, slots := 0, locals := 0 } : Room) s m #[(.ref r0)] below meth c T0 locs 0 0) (hx : p.tables.exec = Jvm.exec) (hZ : Z.Warmed39 s.vm) (hw : ∀ d ∈ tables_1, d.before a0 Z = true) (hby : c.code = prog_25_method_6_code) (hml : c.maxLocals = 5) (hown : s.vm.findClass "com/example/auspex/auspex/manager/ConflictTable" = some m.cls) (e0 : T0.heap = h0) (N0 : Fr n0 locs) (Z0 : n0 ≤ h0.size) (Fc : Fld Z h0 r0 "com/example/auspex/auspex/manager/ConflictTable" "commits" "[J" (.ref rc)) (Vc : Arv Z h0 rc kc .long (Int32.ofNat N) (cs.map Value.long) (.long (0 : Int64))) :
    ∃ (T' : State) (L' : List Loc) (w3 : Slot) (w4 : Slot), Stand p l e ({ frames := 0, cells := 0, slots := 0, locals := 0 } : Room) s m #[(.ref r0)] below meth c T' L' 0 0 ∧ Fr n0 L' ∧ T'.heap = h0 ∧ Go p.tables e below (T0.setTop (mkF m 4 #[.val (.ref r0), .val (.long F), .second, .val (.int (Int32.ofNat N)), s4] [])) (T'.setTop (mkF m 70 #[.val (.ref r0), .val (.long (f_shE F)), .second, w3, w4] [])) := by
  have k1 : Go p.tables e below (T0.setTop (mkF m 4 #[.val (.ref r0), .val (.long F), .second, .val (.int (Int32.ofNat N)), s4] [])) (T0.setTop (mkF m 6 #[.val (.ref r0), .val (.long F), .second, .val (.int (Int32.ofNat N)), s4] [(.ref r0), (.int (Int32.ofNat N))])) := by
    intro t ht
    refine XS.iloadN X0.here hx rfl (hb hby d_shE_4) rfl ?_
    show Steps p.tables e below (T0.setTop (mkF m 5 #[.val (.ref r0), .val (.long F), .second, .val (.int (Int32.ofNat N)), s4] [(.int (Int32.ofNat N))])) _
    refine XS.aloadN X0.here hx rfl (hb hby d_shE_5) rfl rfl ?_
    exact ht
  obtain ⟨T2, X2, e2, st2⟩ := getF X0 hx hZ hown (host := "") (Or.inl (hw _ (List.mem_of_getElem? (i := 18) rfl))) Via.refl e0 Fc (g := (mkF m 6 #[.val (.ref r0), .val (.long F), .second, .val (.int (Int32.ofNat N)), s4] [(.ref r0), (.int (Int32.ofNat N))])) rfl rfl (hb hby d_shE_6)
  have k2 : Go p.tables e below (T0.setTop (mkF m 6 #[.val (.ref r0), .val (.long F), .second, .val (.int (Int32.ofNat N)), s4] [(.ref r0), (.int (Int32.ofNat N))])) (T2.setTop (mkF m 9 #[.val (.ref r0), .val (.long F), .second, .val (.int (Int32.ofNat N)), s4] [(.ref rc), (.int (Int32.ofNat N))])) := st2
  obtain ⟨cl3, Ar3, q3, S3, M3, H3, G3⟩ := id Vc
  have k4 : Go p.tables e below (T2.setTop (mkF m 9 #[.val (.ref r0), .val (.long F), .second, .val (.int (Int32.ofNat N)), s4] [(.ref rc), (.int (Int32.ofNat N))])) (T2.setTop (mkF m 70 #[.val (.ref r0), .val (.long F), .second, .val (.int (Int32.ofNat N)), s4] [])) := by
    intro t ht
    refine X2.arraylength hx (by rw [e2]; exact Ar3.1) (State.isArrayOf_alike hZ.alike Ar3.2.1) (g := (mkF m 9 #[.val (.ref r0), .val (.long F), .second, .val (.int (Int32.ofNat N)), s4] [(.ref rc), (.int (Int32.ofNat N))])) rfl rfl (hb hby d_shE_9) _ ?_
    rw [len_of S3 M3]
    show Steps p.tables e below (T2.setTop (mkF m 10 #[.val (.ref r0), .val (.long F), .second, .val (.int (Int32.ofNat N)), s4] [(.int (Int32.ofNat N)), (.int (Int32.ofNat N))])) _
    refine XS.icmpYes X2.here hx rfl (pc0 := 10) (pc' := 70) rfl (hb hby d_shE_10) rfl (flt (own_nltk _)).2.1 (by decide) (by decide) ?_
    exact ht
  refine ⟨T2, _, (.val (.int (Int32.ofNat N))), (s4), X2, N0, e2, ?_⟩
  have kk := (goT k1 (goT k2 k4))
  simpa only [f_shE] using kk
def own_run (f : Nat → Int64 → Int64) (sg : Nat) : Nat → Nat → Int64 → Int64
  | 0, _, F => F
  | r + 1, k, F => own_run f sg r (k + sg) (f k F)
theorem pc_shr1 {p : Program} {l : Launch} {e : Env} {s : State} {m : MethodId} {below : List Frame} {meth : Method} {c : Code} {Z : State} {a0 : Array Value} {h0 : Heap} {n0 : Nat} (r0 rc : Addr) (B : Nat) (kc : ClassId) (cs : List Int64) (hx : p.tables.exec = Jvm.exec) (hZ : Z.Warmed39 s.vm) (hw : ∀ d ∈ tables_1, d.before a0 Z = true) (hby : c.code = prog_25_method_6_code) (hml : c.maxLocals = 5) (hown : s.vm.findClass "com/example/auspex/auspex/manager/ConflictTable" = some m.cls) (Z0 : n0 ≤ h0.size) (Fs : Fld Z h0 r0 "com/example/auspex/auspex/manager/ConflictTable" "slotsPerBucket" "I" (.int (1 : Int32))) (Fc : Fld Z h0 r0 "com/example/auspex/auspex/manager/ConflictTable" "commits" "[J" (.ref rc)) (Vc : Arv Z h0 rc kc .long (Int32.ofNat (B * 1)) (cs.map Value.long) (.long (0 : Int64))) (hB : 1 ≤ B ∧ B ≤ 4) (r : Nat) :
    ∀ (k : Nat) (F : Int64) (s4 : Slot) (T0 : State) (locs : List Loc) (_ : Stand p l e ({ frames := 0, cells := 0, slots := 0, locals := 0 } : Room) s m #[(.ref r0)] below meth c T0 locs 0 0) (_ : T0.heap = h0) (_ : Fr n0 locs) (_ : k + r * 1 = B * 1) (_ : One s4),
    ∃ (T' : State) (L' : List Loc) (w3 w4 : Slot), Stand p l e ({ frames := 0, cells := 0, slots := 0, locals := 0 } : Room) s m #[(.ref r0)] below meth c T' L' 0 0 ∧ Fr n0 L' ∧ T'.heap = h0 ∧ Go p.tables e below (T0.setTop (mkF m 4 #[.val (.ref r0), .val (.long F), .second, .val (.int (Int32.ofNat k)), s4] [])) (T'.setTop (mkF m 70 #[.val (.ref r0), .val (.long (own_run (fun k F => f_shk1 k F cs) 1 r k F)), .second, w3, w4] [])) := by
  induction r with
  | zero =>
    intro k F s4 T0 locs X0 e0 N0 hk h4
    obtain rfl : k = B * 1 := by omega
    exact pc_shE r0 rc F (B * 1) kc cs s4 X0 hx hZ hw hby hml hown e0 N0 Z0 Fc Vc
  | succ r ih =>
    intro k F s4 T0 locs X0 e0 N0 hk h4
    obtain ⟨T1, L1, w4, X1, N1, e1, k1⟩ := pc_shk1 r0 rc F B k kc cs s4 X0 hx hZ hw hby hml hown e0 N0 Z0 Fs Fc Vc hB (by omega) h4
    obtain ⟨T2, L2, w3, w4', X2, N2, e2, k2⟩ := ih (k + 1) (f_shk1 k F cs) (.val (.int w4)) T1 L1 X1 e1 N1 (by omega) (One.val rfl)
    exact ⟨T2, L2, w3, w4', X2, N2, e2, goT k1 k2⟩
theorem pc_shr2 {p : Program} {l : Launch} {e : Env} {s : State} {m : MethodId} {below : List Frame} {meth : Method} {c : Code} {Z : State} {a0 : Array Value} {h0 : Heap} {n0 : Nat} (r0 rc : Addr) (B : Nat) (kc : ClassId) (cs : List Int64) (hx : p.tables.exec = Jvm.exec) (hZ : Z.Warmed39 s.vm) (hw : ∀ d ∈ tables_1, d.before a0 Z = true) (hby : c.code = prog_25_method_6_code) (hml : c.maxLocals = 5) (hown : s.vm.findClass "com/example/auspex/auspex/manager/ConflictTable" = some m.cls) (Z0 : n0 ≤ h0.size) (Fs : Fld Z h0 r0 "com/example/auspex/auspex/manager/ConflictTable" "slotsPerBucket" "I" (.int (2 : Int32))) (Fc : Fld Z h0 r0 "com/example/auspex/auspex/manager/ConflictTable" "commits" "[J" (.ref rc)) (Vc : Arv Z h0 rc kc .long (Int32.ofNat (B * 2)) (cs.map Value.long) (.long (0 : Int64))) (hB : 1 ≤ B ∧ B ≤ 4) (r : Nat) :
    ∀ (k : Nat) (F : Int64) (s4 : Slot) (T0 : State) (locs : List Loc) (_ : Stand p l e ({ frames := 0, cells := 0, slots := 0, locals := 0 } : Room) s m #[(.ref r0)] below meth c T0 locs 0 0) (_ : T0.heap = h0) (_ : Fr n0 locs) (_ : k + r * 2 = B * 2) (_ : One s4),
    ∃ (T' : State) (L' : List Loc) (w3 w4 : Slot), Stand p l e ({ frames := 0, cells := 0, slots := 0, locals := 0 } : Room) s m #[(.ref r0)] below meth c T' L' 0 0 ∧ Fr n0 L' ∧ T'.heap = h0 ∧ Go p.tables e below (T0.setTop (mkF m 4 #[.val (.ref r0), .val (.long F), .second, .val (.int (Int32.ofNat k)), s4] [])) (T'.setTop (mkF m 70 #[.val (.ref r0), .val (.long (own_run (fun k F => f_shk2 k F cs) 2 r k F)), .second, w3, w4] [])) := by
  induction r with
  | zero =>
    intro k F s4 T0 locs X0 e0 N0 hk h4
    obtain rfl : k = B * 2 := by omega
    exact pc_shE r0 rc F (B * 2) kc cs s4 X0 hx hZ hw hby hml hown e0 N0 Z0 Fc Vc
  | succ r ih =>
    intro k F s4 T0 locs X0 e0 N0 hk h4
    obtain ⟨T1, L1, w4, X1, N1, e1, k1⟩ := pc_shk2 r0 rc F B k kc cs s4 X0 hx hZ hw hby hml hown e0 N0 Z0 Fs Fc Vc hB (by omega) h4
    obtain ⟨T2, L2, w3, w4', X2, N2, e2, k2⟩ := ih (k + 2) (f_shk2 k F cs) (.val (.int w4)) T1 L1 X1 e1 N1 (by omega) (One.val rfl)
    exact ⟨T2, L2, w3, w4', X2, N2, e2, goT k1 k2⟩
theorem pc_shr3 {p : Program} {l : Launch} {e : Env} {s : State} {m : MethodId} {below : List Frame} {meth : Method} {c : Code} {Z : State} {a0 : Array Value} {h0 : Heap} {n0 : Nat} (r0 rc : Addr) (B : Nat) (kc : ClassId) (cs : List Int64) (hx : p.tables.exec = Jvm.exec) (hZ : Z.Warmed39 s.vm) (hw : ∀ d ∈ tables_1, d.before a0 Z = true) (hby : c.code = prog_25_method_6_code) (hml : c.maxLocals = 5) (hown : s.vm.findClass "com/example/auspex/auspex/manager/ConflictTable" = some m.cls) (Z0 : n0 ≤ h0.size) (Fs : Fld Z h0 r0 "com/example/auspex/auspex/manager/ConflictTable" "slotsPerBucket" "I" (.int (3 : Int32))) (Fc : Fld Z h0 r0 "com/example/auspex/auspex/manager/ConflictTable" "commits" "[J" (.ref rc)) (Vc : Arv Z h0 rc kc .long (Int32.ofNat (B * 3)) (cs.map Value.long) (.long (0 : Int64))) (hB : 1 ≤ B ∧ B ≤ 4) (r : Nat) :
    ∀ (k : Nat) (F : Int64) (s4 : Slot) (T0 : State) (locs : List Loc) (_ : Stand p l e ({ frames := 0, cells := 0, slots := 0, locals := 0 } : Room) s m #[(.ref r0)] below meth c T0 locs 0 0) (_ : T0.heap = h0) (_ : Fr n0 locs) (_ : k + r * 3 = B * 3) (_ : One s4),
    ∃ (T' : State) (L' : List Loc) (w3 w4 : Slot), Stand p l e ({ frames := 0, cells := 0, slots := 0, locals := 0 } : Room) s m #[(.ref r0)] below meth c T' L' 0 0 ∧ Fr n0 L' ∧ T'.heap = h0 ∧ Go p.tables e below (T0.setTop (mkF m 4 #[.val (.ref r0), .val (.long F), .second, .val (.int (Int32.ofNat k)), s4] [])) (T'.setTop (mkF m 70 #[.val (.ref r0), .val (.long (own_run (fun k F => f_shk3 k F cs) 3 r k F)), .second, w3, w4] [])) := by
  induction r with
  | zero =>
    intro k F s4 T0 locs X0 e0 N0 hk h4
    obtain rfl : k = B * 3 := by omega
    exact pc_shE r0 rc F (B * 3) kc cs s4 X0 hx hZ hw hby hml hown e0 N0 Z0 Fc Vc
  | succ r ih =>
    intro k F s4 T0 locs X0 e0 N0 hk h4
    obtain ⟨T1, L1, w4, X1, N1, e1, k1⟩ := pc_shk3 r0 rc F B k kc cs s4 X0 hx hZ hw hby hml hown e0 N0 Z0 Fs Fc Vc hB (by omega) h4
    obtain ⟨T2, L2, w3, w4', X2, N2, e2, k2⟩ := ih (k + 3) (f_shk3 k F cs) (.val (.int w4)) T1 L1 X1 e1 N1 (by omega) (One.val rfl)
    exact ⟨T2, L2, w3, w4', X2, N2, e2, goT k1 k2⟩
def own_share (B S : Nat) (cs : List Int64) : Int64 := if S = 1 then own_run (fun k F => f_shk1 k F cs) 1 B 0 0 else if S = 2 then own_run (fun k F => f_shk2 k F cs) 2 B 0 0 else own_run (fun k F => f_shk3 k F cs) 3 B 0 0
theorem own_runLe (f : Nat → Int64 → Int64) (sg : Nat) (hf : ∀ k F, f k F = F ∨ f k F = F + 1) (r : Nat) : ∀ k m, ∃ m', m' ≤ m + r ∧ own_run f sg r k (Int64.ofNat m) = Int64.ofNat m' := by
  induction r with
  | zero => exact fun k m => ⟨m, Nat.le_refl _, rfl⟩
  | succ r ih =>
    intro k m
    show ∃ m', m' ≤ m + (r + 1) ∧ own_run f sg r (k + sg) (f k (Int64.ofNat m)) = Int64.ofNat m'
    rcases hf k (Int64.ofNat m) with e | e
    · rw [e]
      obtain ⟨m', h1, h2⟩ := ih (k + sg) m
      exact ⟨m', by omega, h2⟩
    · have e2 : Int64.ofNat m + 1 = Int64.ofNat (m + 1) := (Int64.ofNat_add m 1).symm
      rw [e, e2]
      obtain ⟨m', h1, h2⟩ := ih (k + sg) (m + 1)
      exact ⟨m', by omega, h2⟩
theorem own_shareLe {B S : Nat} (hB : 1 ≤ B ∧ B ≤ 4) (cs : List Int64) : ∃ m, m ≤ 4 ∧ own_share B S cs = Int64.ofNat m := by
  have g1 : ∀ k F, f_shk1 k F cs = F ∨ f_shk1 k F cs = F + 1 := fun k F => by unfold f_shk1; split <;> simp
  have g2 : ∀ k F, f_shk2 k F cs = F ∨ f_shk2 k F cs = F + 1 := fun k F => by unfold f_shk2; (repeat' split) <;> simp
  have g3 : ∀ k F, f_shk3 k F cs = F ∨ f_shk3 k F cs = F + 1 := fun k F => by unfold f_shk3; (repeat' split) <;> simp
  unfold own_share
  split
  · obtain ⟨m, h1, h2⟩ := own_runLe (fun k F => f_shk1 k F cs) 1 g1 B 0 0
    exact ⟨m, by omega, h2⟩
  · split
    · obtain ⟨m, h1, h2⟩ := own_runLe (fun k F => f_shk2 k F cs) 2 g2 B 0 0
      exact ⟨m, by omega, h2⟩
    · obtain ⟨m, h1, h2⟩ := own_runLe (fun k F => f_shk3 k F cs) 3 g3 B 0 0
      exact ⟨m, by omega, h2⟩
theorem own_nan54 : ∀ m : Fin 5, ∀ b : Fin 5, 1 ≤ b.val → FP.ddiv (FP.l2d (Int64.ofNat m.val)) (FP.i2d (Int32.ofNat b.val)) &&& 0x7fffffffffffffff ≤ 0x7ff0000000000000 := by decide +kernel
theorem own_nanS {B S : Nat} (hB : 1 ≤ B ∧ B ≤ 4) (hS : 1 ≤ S ∧ S ≤ 3) (cs : List Int64) : Jvm.Free.Fl.NoNaN64 (FP.ddiv (FP.l2d (own_share B S cs)) (FP.i2d (Int32.ofNat B))) := by
  obtain ⟨m, h1, h2⟩ := own_shareLe (S := S) hB cs
  rw [h2]
  exact own_nan54 ⟨m, by omega⟩ ⟨B, by omega⟩ hB.1
theorem pc_sh {p : Program} {l : Launch} {e : Env} {s : State} {m : MethodId} {below : List Frame} {meth : Method} {c : Code} {T0 : State} {locs : List Loc} {Z : State} {a0 : Array Value} {h0 : Heap} {n0 : Nat} (r0 rc : Addr) (B S : Nat) (kc : ClassId) (cs : List Int64)
    (X0 : Stand p l e ({ frames := 0, cells := 0, slots := 0, locals := 0 } : Room) s m #[(.ref r0)] below meth c T0 locs 0 0) (hx : p.tables.exec = Jvm.exec) (hZ : Z.Warmed39 s.vm) (hw : ∀ d ∈ tables_1, d.before a0 Z = true) (hby : c.code = prog_25_method_6_code) (hml : c.maxLocals = 5) (hown : s.vm.findClass "com/example/auspex/auspex/manager/ConflictTable" = some m.cls) (e0 : T0.heap = h0) (N0 : Fr n0 locs) (Z0 : n0 ≤ h0.size) (Fs : Fld Z h0 r0 "com/example/auspex/auspex/manager/ConflictTable" "slotsPerBucket" "I" (.int (Int32.ofNat S))) (Fc : Fld Z h0 r0 "com/example/auspex/auspex/manager/ConflictTable" "commits" "[J" (.ref rc)) (Vc : Arv Z h0 rc kc .long (Int32.ofNat (B * S)) (cs.map Value.long) (.long (0 : Int64))) (hB : 1 ≤ B ∧ B ≤ 4) (hS : 1 ≤ S ∧ S ≤ 3) :
    ∃ (T' : State) (L' : List Loc) (w3 w4 : Slot), Stand p l e ({ frames := 0, cells := 0, slots := 0, locals := 0 } : Room) s m #[(.ref r0)] below meth c T' L' 0 0 ∧ Fr n0 L' ∧ T'.heap = h0 ∧ Go p.tables e below (T0.setTop (mkF m 4 #[.val (.ref r0), .val (.long (0 : Int64)), .second, .val (.int (0 : Int32)), .unset] [])) (T'.setTop (mkF m 70 #[.val (.ref r0), .val (.long (own_share B S cs)), .second, w3, w4] [])) := by
  rcases (by omega : S = 1 ∨ S = 2 ∨ S = 3) with rfl | rfl | rfl
  · exact pc_shr1 r0 rc B kc cs hx hZ hw hby hml hown Z0 Fs Fc Vc hB B 0 0 .unset T0 locs X0 e0 N0 (by omega) One.u
  · exact pc_shr2 r0 rc B kc cs hx hZ hw hby hml hown Z0 Fs Fc Vc hB B 0 0 .unset T0 locs X0 e0 N0 (by omega) One.u
  · exact pc_shr3 r0 rc B kc cs hx hZ hw hby hml hown Z0 Fs Fc Vc hB B 0 0 .unset T0 locs X0 e0 N0 (by omega) One.u
theorem d_share_0 : decode prog_25_method_6_code 0 = .ok (.lconst 0, 1) := by decide +kernel
theorem d_share_1 : decode prog_25_method_6_code 1 = .ok (.lstore_n 1, 1) := by decide +kernel
theorem d_share_2 : decode prog_25_method_6_code 2 = .ok (.iconst 0, 1) := by decide +kernel
theorem d_share_3 : decode prog_25_method_6_code 3 = .ok (.istore_n 3, 1) := by decide +kernel
theorem d_share_70 : decode prog_25_method_6_code 70 = .ok (.lload_n 1, 1) := by decide +kernel
theorem d_share_71 : decode prog_25_method_6_code 71 = .ok (.l2d, 1) := by decide +kernel
theorem d_share_72 : decode prog_25_method_6_code 72 = .ok (.aload_n 0, 1) := by decide +kernel
theorem d_share_73 : decode prog_25_method_6_code 73 = .ok (.getfield 22, 3) := by decide +kernel
theorem d_share_76 : decode prog_25_method_6_code 76 = .ok (.i2d, 1) := by decide +kernel
theorem d_share_77 : decode prog_25_method_6_code 77 = .ok (.ddiv, 1) := by decide +kernel
theorem d_share_78 : decode prog_25_method_6_code 78 = .ok (.dreturn, 1) := by decide +kernel
theorem ef_share (m : MethodId) (x0 : Addr) : entryFrame m #[(.ref x0)] 5 = mkF m 0 #[.val (.ref x0), .unset, .unset, .unset, .unset] [] := by first | (simp [entryFrame, mkF, argsToLocals, Value.category]; done) | rfl
def Q_share (Z : State) (r0 : Addr) (B : Nat) (S : Nat) (rc : Addr) (kc : ClassId) (cs : List Int64) (h0 : Heap) (n0 : Nat) (v : Option Value) (h : Heap) (L : List Loc) : Prop := v = some (.double (FP.ddiv (FP.l2d (own_share B S cs)) (FP.i2d (Int32.ofNat B)))) ∧ Fr n0 L ∧ h = h0
set_option maxRecDepth 65536 in
set_option maxHeartbeats 40000000 in
theorem rm_share (l : Launch) (Z : State) (a0 : Array Value) (hw : ∀ d ∈ tables_1, d.before a0 Z = true) (ws : List Jvm.Cond) (r0 : Addr) (B : Nat) (S : Nat) (rc : Addr) (kc : ClassId) (cs : List Int64) (h0 : Heap) (n0 : Nat) (Z0 : n0 ≤ h0.size) (Fb : Fld Z h0 r0 "com/example/auspex/auspex/manager/ConflictTable" "buckets" "I" (.int (Int32.ofNat B))) (Fs : Fld Z h0 r0 "com/example/auspex/auspex/manager/ConflictTable" "slotsPerBucket" "I" (.int (Int32.ofNat S))) (Fc : Fld Z h0 r0 "com/example/auspex/auspex/manager/ConflictTable" "commits" "[J" (.ref rc)) (Vc : Arv Z h0 rc kc .long (Int32.ofNat (B * S)) (cs.map Value.long) (.long (0 : Int64))) (hB : 1 ≤ B ∧ B ≤ 4) (hS : 1 ≤ S ∧ S ≤ 3) :
    MetFree l (⟨"com/example/auspex/auspex/manager/ConflictTable", "fullBucketShare", "()D"⟩ : MethodName) (head1 (Jvm.Cond.code (⟨"com/example/auspex/auspex/manager/ConflictTable", "fullBucketShare", "()D"⟩ : MethodName) prog_25_method_6_code 5 (some .double) :: ws) ({ frames := 0, cells := 0, slots := 0, locals := 0 } : Room)) (fun a U => a = #[(.ref r0)] ∧ Z.Warmed39 U.vm ∧ U.heap = h0) (fun _ _ _ _ _ => True) (fun _ U o U' => ∃ v L, o = .returned v ∧ Q_share Z r0 B S rc kc cs h0 n0 v U'.heap L ∧ FrameEnd U o U' L ({ frames := 0, cells := 0, slots := 0, locals := 0 } : Room).cells ({ frames := 0, cells := 0, slots := 0, locals := 0 } : Room).slots) := by
  refine MetFree.of_bodySF (plainFor_of_name pn_0) hisR ?_
  intro p e s m args below meth c s₁ Bd hml0 hP hK
  obtain ⟨rfl, hZ, hh⟩ := hP
  have hx := Bd.exec
  have hby := Bd.bytes
  have hml : c.maxLocals = 5 := hml0
  have hown : s.vm.findClass "com/example/auspex/auspex/manager/ConflictTable" = some m.cls := findClass_of_methodNamed Bd.named
  have hnm := (name_of_methodNamed Bd.named Bd.method).1
  have X0 : Stand p l e ({ frames := 0, cells := 0, slots := 0, locals := 0 } : Room) s m #[(.ref r0)] below meth c s₁ [] 0 0 := Stand.of_body Bd
  have e0 : s₁.heap = h0 := by rw [← hh, Bd.state]; rfl
  have N0 := Fr.nil n0
  have pre0 : ∀ t, Steps p.tables e below (s₁.setTop (mkF m 0 #[.val (.ref r0), .unset, .unset, .unset, .unset] [])) t → Steps p.tables e below (s₁.setTop (entryFrame m #[(.ref r0)] 5)) t := fun t k => castTop (ef_share m r0) k
  have k1 : Go p.tables e below (s₁.setTop (mkF m 0 #[.val (.ref r0), .unset, .unset, .unset, .unset] [])) (s₁.setTop (mkF m 4 #[.val (.ref r0), .val (.long (0 : Int64)), .second, .val (.int (0 : Int32)), .unset] [])) := by
    intro t ht
    refine XS.lconst X0.here hx rfl (hb hby d_share_0) ?_
    show Steps p.tables e below (s₁.setTop (mkF m 1 #[.val (.ref r0), .unset, .unset, .unset, .unset] [(.long (0 : Int64))])) _
    refine XS.lstoreN X0.here hx rfl (hb hby d_share_1) rfl (l' := #[.val (.ref r0), .val (.long (0 : Int64)), .second, .unset, .unset]) rfl ?_
    show Steps p.tables e below (s₁.setTop (mkF m 2 #[.val (.ref r0), .val (.long (0 : Int64)), .second, .unset, .unset] [])) _
    refine XS.iconst X0.here hx rfl (hb hby d_share_2) ?_
    show Steps p.tables e below (s₁.setTop (mkF m 3 #[.val (.ref r0), .val (.long (0 : Int64)), .second, .unset, .unset] [(.int (0 : Int32))])) _
    refine XS.istoreN X0.here hx rfl (hb hby d_share_3) rfl (l' := #[.val (.ref r0), .val (.long (0 : Int64)), .second, .val (.int (0 : Int32)), .unset]) rfl ?_
    exact ht
  obtain ⟨T2, L2, w3, w4, X2, N2, e2, k2⟩ := pc_sh r0 rc B S kc cs X0 hx hZ hw hby hml hown e0 N0 Z0 Fs Fc Vc hB hS
  have k3 : Go p.tables e below (T2.setTop (mkF m 70 #[.val (.ref r0), .val (.long (own_share B S cs)), .second, w3, w4] [])) (T2.setTop (mkF m 73 #[.val (.ref r0), .val (.long (own_share B S cs)), .second, w3, w4] [(.ref r0), (.double (FP.l2d (own_share B S cs)))])) := by
    intro t ht
    refine XS.lloadN X2.here hx rfl (hb hby d_share_70) rfl ?_
    show Steps p.tables e below (T2.setTop (mkF m 71 #[.val (.ref r0), .val (.long (own_share B S cs)), .second, w3, w4] [(.long (own_share B S cs))])) _
    refine XS.l2dS X2.here hx rfl (hb hby d_share_71) rfl rfl ?_
    show Steps p.tables e below (T2.setTop (mkF m 72 #[.val (.ref r0), .val (.long (own_share B S cs)), .second, w3, w4] [(.double (FP.l2d (own_share B S cs)))])) _
    refine XS.aloadN X2.here hx rfl (hb hby d_share_72) rfl rfl ?_
    exact ht
  obtain ⟨T4, X4, e4, st4⟩ := getF X2 hx hZ hown (host := "") (Or.inl (hw _ (List.mem_of_getElem? (i := 11) rfl))) Via.refl e2 Fb (g := (mkF m 73 #[.val (.ref r0), .val (.long (own_share B S cs)), .second, w3, w4] [(.ref r0), (.double (FP.l2d (own_share B S cs)))])) rfl rfl (hb hby d_share_73)
  have k4 : Go p.tables e below (T2.setTop (mkF m 73 #[.val (.ref r0), .val (.long (own_share B S cs)), .second, w3, w4] [(.ref r0), (.double (FP.l2d (own_share B S cs)))])) (T4.setTop (mkF m 76 #[.val (.ref r0), .val (.long (own_share B S cs)), .second, w3, w4] [(.int (Int32.ofNat B)), (.double (FP.l2d (own_share B S cs)))])) := st4
  have k5 : Go p.tables e below (T4.setTop (mkF m 76 #[.val (.ref r0), .val (.long (own_share B S cs)), .second, w3, w4] [(.int (Int32.ofNat B)), (.double (FP.l2d (own_share B S cs)))])) (T4.setTop (mkF m 78 #[.val (.ref r0), .val (.long (own_share B S cs)), .second, w3, w4] [(.double (FP.ddiv (FP.l2d (own_share B S cs)) (FP.i2d (Int32.ofNat B))))])) := by
    intro t ht
    refine XS.i2dS X4.here hx rfl (hb hby d_share_76) rfl rfl ?_
    show Steps p.tables e below (T4.setTop (mkF m 77 #[.val (.ref r0), .val (.long (own_share B S cs)), .second, w3, w4] [(.double (FP.i2d (Int32.ofNat B))), (.double (FP.l2d (own_share B S cs)))])) _
    refine XS.ddivS X4.here hx rfl (hb hby d_share_77) rfl (own_nanS hB hS _) rfl ?_
    exact ht
  obtain ⟨fs, hr, hrun, hended, hW, hsame⟩ := X4.leave (v := some (.double (FP.ddiv (FP.l2d (own_share B S cs)) (FP.i2d (Int32.ofNat B))))) (fun h => by rw [Bd.returns] at h; cases h)
  refine ⟨_, _, pre0 _ ((goT k1 (goT k2 (goT k3 (goT k4 k5)))) _ (retD X4 hx Bd.returns (hb hby d_share_78) hr)), hrun, hended, _, _, rfl, ?_, ⟨_, rfl⟩, hW, hsame.mono (by decide) (by decide)⟩
  show Q_share Z r0 B S rc kc cs h0 n0 _ T4.heap _
  rw [e4]
  exact ⟨rfl, N2, rfl⟩
def own_d1 (p0 : Int32) (B : Nat) (p3 : Int32) (q4 : Int64) : Int32 := (if p3 < (1 : Int32) then (0 : Int32) else (if (q4 - ((q4 / ((Int32.ofNat B).toInt64)) * ((Int32.ofNat B).toInt64))) = (p0.toInt64) then (1 : Int32) else (0 : Int32)))
def own_d2 (p0 : Int32) (B : Nat) (p3 : Int32) (q4 : Int64) (q5 : Int64) : Int32 := (if p3 < (2 : Int32) then (own_d1 p0 B p3 q4) else (if (q5 - ((q5 / ((Int32.ofNat B).toInt64)) * ((Int32.ofNat B).toInt64))) = (p0.toInt64) then (if q5 = q4 then (own_d1 p0 B p3 q4) else ((own_d1 p0 B p3 q4) + (1 : Int32))) else (own_d1 p0 B p3 q4)))
def own_d3 (p0 : Int32) (B : Nat) (p3 : Int32) (q4 : Int64) (q5 : Int64) (q6 : Int64) : Int32 := (if p3 < (3 : Int32) then (own_d2 p0 B p3 q4 q5) else (if (q6 - ((q6 / ((Int32.ofNat B).toInt64)) * ((Int32.ofNat B).toInt64))) = (p0.toInt64) then (if q6 = q4 then (own_d2 p0 B p3 q4 q5) else (if q6 = q5 then (own_d2 p0 B p3 q4 q5) else ((own_d2 p0 B p3 q4 q5) + (1 : Int32)))) else (own_d2 p0 B p3 q4 q5)))
theorem d_full_0 : decode method_3_code 0 = .ok (.iload_n 0, 1) := by decide +kernel
theorem d_full_1 : decode method_3_code 1 = .ok (.iload_n 1, 1) := by decide +kernel
theorem d_full_2 : decode method_3_code 2 = .ok (.if_icmp .lt 5, 3) := by decide +kernel
theorem d_full_5 : decode method_3_code 5 = .ok (.iconst 0, 1) := by decide +kernel
theorem d_full_6 : decode method_3_code 6 = .ok (.ireturn, 1) := by decide +kernel
theorem d_full_7 : decode method_3_code 7 = .ok (.iconst 0, 1) := by decide +kernel
theorem d_full_8 : decode method_3_code 8 = .ok (.istore 10, 2) := by decide +kernel
theorem d_full_10 : decode method_3_code 10 = .ok (.iload_n 3, 1) := by decide +kernel
theorem d_full_11 : decode method_3_code 11 = .ok (.iconst 1, 1) := by decide +kernel
theorem d_full_12 : decode method_3_code 12 = .ok (.if_icmp .lt 17, 3) := by decide +kernel
theorem d_full_15 : decode method_3_code 15 = .ok (.lload 4, 2) := by decide +kernel
theorem d_full_17 : decode method_3_code 17 = .ok (.iload_n 1, 1) := by decide +kernel
theorem d_full_18 : decode method_3_code 18 = .ok (.i2l, 1) := by decide +kernel
theorem d_full_19 : decode method_3_code 19 = .ok (.lrem, 1) := by decide +kernel
theorem d_full_20 : decode method_3_code 20 = .ok (.iload_n 0, 1) := by decide +kernel
theorem d_full_21 : decode method_3_code 21 = .ok (.i2l, 1) := by decide +kernel
theorem d_full_22 : decode method_3_code 22 = .ok (.lcmp, 1) := by decide +kernel
theorem d_full_23 : decode method_3_code 23 = .ok (.ifCond .ne 6, 3) := by decide +kernel
theorem d_full_26 : decode method_3_code 26 = .ok (.iinc 10 1, 3) := by decide +kernel
theorem d_full_29 : decode method_3_code 29 = .ok (.iload_n 3, 1) := by decide +kernel
theorem d_full_30 : decode method_3_code 30 = .ok (.iconst 2, 1) := by decide +kernel
theorem d_full_31 : decode method_3_code 31 = .ok (.if_icmp .lt 25, 3) := by decide +kernel
theorem d_full_34 : decode method_3_code 34 = .ok (.lload 6, 2) := by decide +kernel
theorem d_full_36 : decode method_3_code 36 = .ok (.iload_n 1, 1) := by decide +kernel
theorem d_full_37 : decode method_3_code 37 = .ok (.i2l, 1) := by decide +kernel
theorem d_full_38 : decode method_3_code 38 = .ok (.lrem, 1) := by decide +kernel
theorem d_full_39 : decode method_3_code 39 = .ok (.iload_n 0, 1) := by decide +kernel
theorem d_full_40 : decode method_3_code 40 = .ok (.i2l, 1) := by decide +kernel
theorem d_full_41 : decode method_3_code 41 = .ok (.lcmp, 1) := by decide +kernel
theorem d_full_42 : decode method_3_code 42 = .ok (.ifCond .ne 14, 3) := by decide +kernel
theorem d_full_45 : decode method_3_code 45 = .ok (.lload 6, 2) := by decide +kernel
theorem d_full_47 : decode method_3_code 47 = .ok (.lload 4, 2) := by decide +kernel
theorem d_full_49 : decode method_3_code 49 = .ok (.lcmp, 1) := by decide +kernel
theorem d_full_50 : decode method_3_code 50 = .ok (.ifCond .eq 6, 3) := by decide +kernel
theorem d_full_53 : decode method_3_code 53 = .ok (.iinc 10 1, 3) := by decide +kernel
theorem d_full_56 : decode method_3_code 56 = .ok (.iload_n 3, 1) := by decide +kernel
theorem d_full_57 : decode method_3_code 57 = .ok (.iconst 3, 1) := by decide +kernel
theorem d_full_58 : decode method_3_code 58 = .ok (.if_icmp .lt 33, 3) := by decide +kernel
theorem d_full_61 : decode method_3_code 61 = .ok (.lload 8, 2) := by decide +kernel
theorem d_full_63 : decode method_3_code 63 = .ok (.iload_n 1, 1) := by decide +kernel
theorem d_full_64 : decode method_3_code 64 = .ok (.i2l, 1) := by decide +kernel
theorem d_full_65 : decode method_3_code 65 = .ok (.lrem, 1) := by decide +kernel
theorem d_full_66 : decode method_3_code 66 = .ok (.iload_n 0, 1) := by decide +kernel
theorem d_full_67 : decode method_3_code 67 = .ok (.i2l, 1) := by decide +kernel
theorem d_full_68 : decode method_3_code 68 = .ok (.lcmp, 1) := by decide +kernel
theorem d_full_69 : decode method_3_code 69 = .ok (.ifCond .ne 22, 3) := by decide +kernel
theorem d_full_72 : decode method_3_code 72 = .ok (.lload 8, 2) := by decide +kernel
theorem d_full_74 : decode method_3_code 74 = .ok (.lload 4, 2) := by decide +kernel
theorem d_full_76 : decode method_3_code 76 = .ok (.lcmp, 1) := by decide +kernel
theorem d_full_77 : decode method_3_code 77 = .ok (.ifCond .eq 14, 3) := by decide +kernel
theorem d_full_80 : decode method_3_code 80 = .ok (.lload 8, 2) := by decide +kernel
theorem d_full_82 : decode method_3_code 82 = .ok (.lload 6, 2) := by decide +kernel
theorem d_full_84 : decode method_3_code 84 = .ok (.lcmp, 1) := by decide +kernel
theorem d_full_85 : decode method_3_code 85 = .ok (.ifCond .eq 6, 3) := by decide +kernel
theorem d_full_88 : decode method_3_code 88 = .ok (.iinc 10 1, 3) := by decide +kernel
theorem d_full_91 : decode method_3_code 91 = .ok (.iload 10, 2) := by decide +kernel
theorem d_full_93 : decode method_3_code 93 = .ok (.iload_n 2, 1) := by decide +kernel
theorem d_full_94 : decode method_3_code 94 = .ok (.if_icmp .lt 7, 3) := by decide +kernel
theorem d_full_97 : decode method_3_code 97 = .ok (.iconst 1, 1) := by decide +kernel
theorem d_full_98 : decode method_3_code 98 = .ok (.goto 4, 3) := by decide +kernel
theorem d_full_101 : decode method_3_code 101 = .ok (.iconst 0, 1) := by decide +kernel
theorem d_full_102 : decode method_3_code 102 = .ok (.ireturn, 1) := by decide +kernel
theorem pn_2 : plainName "com/example/auspex/auspex/manager/ConflictTableFullBucketSharePinLaw" = true := by first | (simp [plainName, overriddenIn]; done) | decide +kernel
theorem ef_full (m : MethodId) (x0 : Int32) (x1 : Int32) (x2 : Int32) (x3 : Int32) (x4 : Int64) (x5 : Int64) (x6 : Int64) : entryFrame m #[(.int x0), (.int x1), (.int x2), (.int x3), (.long x4), (.long x5), (.long x6)] 11 = mkF m 0 #[.val (.int x0), .val (.int x1), .val (.int x2), .val (.int x3), .val (.long x4), .second, .val (.long x5), .second, .val (.long x6), .second, .unset] [] := by first | (simp [entryFrame, mkF, argsToLocals, Value.category]; done) | rfl
def f_full (p0 : Int32) (B : Nat) (S : Nat) (p3 : Int32) (q4 : Int64) (q5 : Int64) (q6 : Int64) : Int32 := (if p0 < (Int32.ofNat B) then (if (own_d3 p0 B p3 q4 q5 q6) < (Int32.ofNat S) then (0 : Int32) else (1 : Int32)) else (0 : Int32))
def Q_full (Z : State) (p0 : Int32) (B : Nat) (S : Nat) (p3 : Int32) (q4 : Int64) (q5 : Int64) (q6 : Int64) (h0 : Heap) (n0 : Nat) (v : Option Value) (h : Heap) (L : List Loc) : Prop := v = some (.int (f_full p0 B S p3 q4 q5 q6)) ∧ Fr n0 L ∧ h = h0
set_option maxRecDepth 65536 in
set_option maxHeartbeats 40000000 in
theorem rm_full (l : Launch) (Z : State) (a0 : Array Value) (hw : ∀ d ∈ tables_1, d.before a0 Z = true) (ws : List Jvm.Cond) (p0 : Int32) (B : Nat) (S : Nat) (p3 : Int32) (q4 : Int64) (q5 : Int64) (q6 : Int64) (h0 : Heap) (n0 : Nat) (Z0 : n0 ≤ h0.size) (hB : 1 ≤ B ∧ B ≤ 4) (hS : 1 ≤ S ∧ S ≤ 3) :
    MetFree l (⟨"com/example/auspex/auspex/manager/ConflictTableFullBucketSharePinLaw", "fullIn", "(IIIIJJJ)I"⟩ : MethodName) (head1 (Jvm.Cond.code (⟨"com/example/auspex/auspex/manager/ConflictTableFullBucketSharePinLaw", "fullIn", "(IIIIJJJ)I"⟩ : MethodName) method_3_code 11 (some .int) :: ws) ({ frames := 0, cells := 0, slots := 0, locals := 0 } : Room)) (fun a U => a = #[(.int p0), (.int (Int32.ofNat B)), (.int (Int32.ofNat S)), (.int p3), (.long q4), (.long q5), (.long q6)] ∧ Z.Warmed39 U.vm ∧ U.heap = h0) (fun _ _ _ _ _ => True) (fun _ U o U' => ∃ v L, o = .returned v ∧ Q_full Z p0 B S p3 q4 q5 q6 h0 n0 v U'.heap L ∧ FrameEnd U o U' L ({ frames := 0, cells := 0, slots := 0, locals := 0 } : Room).cells ({ frames := 0, cells := 0, slots := 0, locals := 0 } : Room).slots) := by
  refine MetFree.of_bodySF (plainFor_of_name pn_2) hisR ?_
  intro p e s m args below meth c s₁ Bd hml0 hP hK
  obtain ⟨rfl, hZ, hh⟩ := hP
  have hx := Bd.exec
  have hby := Bd.bytes
  have hml : c.maxLocals = 11 := hml0
  have hown : s.vm.findClass "com/example/auspex/auspex/manager/ConflictTableFullBucketSharePinLaw" = some m.cls := findClass_of_methodNamed Bd.named
  have hnm := (name_of_methodNamed Bd.named Bd.method).1
  have X0 : Stand p l e ({ frames := 0, cells := 0, slots := 0, locals := 0 } : Room) s m #[(.int p0), (.int (Int32.ofNat B)), (.int (Int32.ofNat S)), (.int p3), (.long q4), (.long q5), (.long q6)] below meth c s₁ [] 0 0 := Stand.of_body Bd
  have e0 : s₁.heap = h0 := by rw [← hh, Bd.state]; rfl
  have N0 := Fr.nil n0
  have pre0 : ∀ t, Steps p.tables e below (s₁.setTop (mkF m 0 #[.val (.int p0), .val (.int (Int32.ofNat B)), .val (.int (Int32.ofNat S)), .val (.int p3), .val (.long q4), .second, .val (.long q5), .second, .val (.long q6), .second, .unset] [])) t → Steps p.tables e below (s₁.setTop (entryFrame m #[(.int p0), (.int (Int32.ofNat B)), (.int (Int32.ofNat S)), (.int p3), (.long q4), (.long q5), (.long q6)] 11)) t := fun t k => castTop (ef_full m p0 (Int32.ofNat B) (Int32.ofNat S) p3 q4 q5 q6) k
  have k1 : Go p.tables e below (s₁.setTop (mkF m 0 #[.val (.int p0), .val (.int (Int32.ofNat B)), .val (.int (Int32.ofNat S)), .val (.int p3), .val (.long q4), .second, .val (.long q5), .second, .val (.long q6), .second, .unset] [])) (s₁.setTop (mkF m 2 #[.val (.int p0), .val (.int (Int32.ofNat B)), .val (.int (Int32.ofNat S)), .val (.int p3), .val (.long q4), .second, .val (.long q5), .second, .val (.long q6), .second, .unset] [(.int (Int32.ofNat B)), (.int p0)])) := by
    intro t ht
    refine XS.iloadN X0.here hx rfl (hb hby d_full_0) rfl ?_
    show Steps p.tables e below (s₁.setTop (mkF m 1 #[.val (.int p0), .val (.int (Int32.ofNat B)), .val (.int (Int32.ofNat S)), .val (.int p3), .val (.long q4), .second, .val (.long q5), .second, .val (.long q6), .second, .unset] [(.int p0)])) _
    refine XS.iloadN X0.here hx rfl (hb hby d_full_1) rfl ?_
    exact ht
  by_cases hc2 : p0 < (Int32.ofNat B)
  · have k3 : Go p.tables e below (s₁.setTop (mkF m 2 #[.val (.int p0), .val (.int (Int32.ofNat B)), .val (.int (Int32.ofNat S)), .val (.int p3), .val (.long q4), .second, .val (.long q5), .second, .val (.long q6), .second, .unset] [(.int (Int32.ofNat B)), (.int p0)])) (s₁.setTop (mkF m 12 #[.val (.int p0), .val (.int (Int32.ofNat B)), .val (.int (Int32.ofNat S)), .val (.int p3), .val (.long q4), .second, .val (.long q5), .second, .val (.long q6), .second, .val (.int (0 : Int32))] [(.int (1 : Int32)), (.int p3)])) := by
      intro t ht
      refine XS.icmpYes X0.here hx rfl (pc0 := 2) (pc' := 7) rfl (hb hby d_full_2) rfl (tlt hc2).1 (by decide) (by decide) ?_
      show Steps p.tables e below (s₁.setTop (mkF m 7 #[.val (.int p0), .val (.int (Int32.ofNat B)), .val (.int (Int32.ofNat S)), .val (.int p3), .val (.long q4), .second, .val (.long q5), .second, .val (.long q6), .second, .unset] [])) _
      refine XS.iconst X0.here hx rfl (hb hby d_full_7) ?_
      show Steps p.tables e below (s₁.setTop (mkF m 8 #[.val (.int p0), .val (.int (Int32.ofNat B)), .val (.int (Int32.ofNat S)), .val (.int p3), .val (.long q4), .second, .val (.long q5), .second, .val (.long q6), .second, .unset] [(.int (0 : Int32))])) _
      refine XS.istore X0.here hx rfl (hb hby d_full_8) rfl (l' := #[.val (.int p0), .val (.int (Int32.ofNat B)), .val (.int (Int32.ofNat S)), .val (.int p3), .val (.long q4), .second, .val (.long q5), .second, .val (.long q6), .second, .val (.int (0 : Int32))]) rfl ?_
      show Steps p.tables e below (s₁.setTop (mkF m 10 #[.val (.int p0), .val (.int (Int32.ofNat B)), .val (.int (Int32.ofNat S)), .val (.int p3), .val (.long q4), .second, .val (.long q5), .second, .val (.long q6), .second, .val (.int (0 : Int32))] [])) _
      refine XS.iloadN X0.here hx rfl (hb hby d_full_10) rfl ?_
      show Steps p.tables e below (s₁.setTop (mkF m 11 #[.val (.int p0), .val (.int (Int32.ofNat B)), .val (.int (Int32.ofNat S)), .val (.int p3), .val (.long q4), .second, .val (.long q5), .second, .val (.long q6), .second, .val (.int (0 : Int32))] [(.int p3)])) _
      refine XS.iconst X0.here hx rfl (hb hby d_full_11) ?_
      exact ht
    have k4 : Go p.tables e below (s₁.setTop (mkF m 12 #[.val (.int p0), .val (.int (Int32.ofNat B)), .val (.int (Int32.ofNat S)), .val (.int p3), .val (.long q4), .second, .val (.long q5), .second, .val (.long q6), .second, .val (.int (0 : Int32))] [(.int (1 : Int32)), (.int p3)])) (s₁.setTop (mkF m 29 #[.val (.int p0), .val (.int (Int32.ofNat B)), .val (.int (Int32.ofNat S)), .val (.int p3), .val (.long q4), .second, .val (.long q5), .second, .val (.long q6), .second, .val (.int (if p3 < (1 : Int32) then (0 : Int32) else (if (q4 - ((q4 / ((Int32.ofNat B).toInt64)) * ((Int32.ofNat B).toInt64))) = (p0.toInt64) then (1 : Int32) else (0 : Int32))))] [])) := by
      by_cases hc5 : p3 < (1 : Int32)
      · have k6 : Go p.tables e below (s₁.setTop (mkF m 12 #[.val (.int p0), .val (.int (Int32.ofNat B)), .val (.int (Int32.ofNat S)), .val (.int p3), .val (.long q4), .second, .val (.long q5), .second, .val (.long q6), .second, .val (.int (0 : Int32))] [(.int (1 : Int32)), (.int p3)])) (s₁.setTop (mkF m 29 #[.val (.int p0), .val (.int (Int32.ofNat B)), .val (.int (Int32.ofNat S)), .val (.int p3), .val (.long q4), .second, .val (.long q5), .second, .val (.long q6), .second, .val (.int (0 : Int32))] [])) := by
          intro t ht
          refine XS.icmpYes X0.here hx rfl (pc0 := 12) (pc' := 29) rfl (hb hby d_full_12) rfl (tlt hc5).1 (by decide) (by decide) ?_
          exact ht
        have kk := k6
        simpa only [if_pos hc2, if_pos hc5] using kk
      · have k7 : Go p.tables e below (s₁.setTop (mkF m 12 #[.val (.int p0), .val (.int (Int32.ofNat B)), .val (.int (Int32.ofNat S)), .val (.int p3), .val (.long q4), .second, .val (.long q5), .second, .val (.long q6), .second, .val (.int (0 : Int32))] [(.int (1 : Int32)), (.int p3)])) (s₁.setTop (mkF m 23 #[.val (.int p0), .val (.int (Int32.ofNat B)), .val (.int (Int32.ofNat S)), .val (.int p3), .val (.long q4), .second, .val (.long q5), .second, .val (.long q6), .second, .val (.int (0 : Int32))] [(.int (lcmpW (q4 - ((q4 / ((Int32.ofNat B).toInt64)) * ((Int32.ofNat B).toInt64))) (p0.toInt64)))])) := by
          intro t ht
          refine XS.icmpNo X0.here hx rfl (hb hby d_full_12) rfl (flt hc5).1 ?_
          show Steps p.tables e below (s₁.setTop (mkF m 15 #[.val (.int p0), .val (.int (Int32.ofNat B)), .val (.int (Int32.ofNat S)), .val (.int p3), .val (.long q4), .second, .val (.long q5), .second, .val (.long q6), .second, .val (.int (0 : Int32))] [])) _
          refine XS.lload X0.here hx rfl (hb hby d_full_15) rfl ?_
          show Steps p.tables e below (s₁.setTop (mkF m 17 #[.val (.int p0), .val (.int (Int32.ofNat B)), .val (.int (Int32.ofNat S)), .val (.int p3), .val (.long q4), .second, .val (.long q5), .second, .val (.long q6), .second, .val (.int (0 : Int32))] [(.long q4)])) _
          refine XS.iloadN X0.here hx rfl (hb hby d_full_17) rfl ?_
          show Steps p.tables e below (s₁.setTop (mkF m 18 #[.val (.int p0), .val (.int (Int32.ofNat B)), .val (.int (Int32.ofNat S)), .val (.int p3), .val (.long q4), .second, .val (.long q5), .second, .val (.long q6), .second, .val (.int (0 : Int32))] [(.int (Int32.ofNat B)), (.long q4)])) _
          refine XS.i2l X0.here hx rfl (hb hby d_full_18) rfl ?_
          show Steps p.tables e below (s₁.setTop (mkF m 19 #[.val (.int p0), .val (.int (Int32.ofNat B)), .val (.int (Int32.ofNat S)), .val (.int p3), .val (.long q4), .second, .val (.long q5), .second, .val (.long q6), .second, .val (.int (0 : Int32))] [(.long ((Int32.ofNat B).toInt64)), (.long q4)])) _
          refine XS.lrem X0.here hx rfl (hb hby d_full_19) rfl (own_Bnz hB : ¬ (((Int32.ofNat B).toInt64) = 0)) ?_
          show Steps p.tables e below (s₁.setTop (mkF m 20 #[.val (.int p0), .val (.int (Int32.ofNat B)), .val (.int (Int32.ofNat S)), .val (.int p3), .val (.long q4), .second, .val (.long q5), .second, .val (.long q6), .second, .val (.int (0 : Int32))] [(.long (q4 - ((q4 / ((Int32.ofNat B).toInt64)) * ((Int32.ofNat B).toInt64))))])) _
          refine XS.iloadN X0.here hx rfl (hb hby d_full_20) rfl ?_
          show Steps p.tables e below (s₁.setTop (mkF m 21 #[.val (.int p0), .val (.int (Int32.ofNat B)), .val (.int (Int32.ofNat S)), .val (.int p3), .val (.long q4), .second, .val (.long q5), .second, .val (.long q6), .second, .val (.int (0 : Int32))] [(.int p0), (.long (q4 - ((q4 / ((Int32.ofNat B).toInt64)) * ((Int32.ofNat B).toInt64))))])) _
          refine XS.i2l X0.here hx rfl (hb hby d_full_21) rfl ?_
          show Steps p.tables e below (s₁.setTop (mkF m 22 #[.val (.int p0), .val (.int (Int32.ofNat B)), .val (.int (Int32.ofNat S)), .val (.int p3), .val (.long q4), .second, .val (.long q5), .second, .val (.long q6), .second, .val (.int (0 : Int32))] [(.long (p0.toInt64)), (.long (q4 - ((q4 / ((Int32.ofNat B).toInt64)) * ((Int32.ofNat B).toInt64))))])) _
          refine XS.lcmp X0.here hx rfl (hb hby d_full_22) rfl ?_
          exact ht
        by_cases hc8 : (q4 - ((q4 / ((Int32.ofNat B).toInt64)) * ((Int32.ofNat B).toInt64))) = (p0.toInt64)
        · have k9 : Go p.tables e below (s₁.setTop (mkF m 23 #[.val (.int p0), .val (.int (Int32.ofNat B)), .val (.int (Int32.ofNat S)), .val (.int p3), .val (.long q4), .second, .val (.long q5), .second, .val (.long q6), .second, .val (.int (0 : Int32))] [(.int (lcmpW (q4 - ((q4 / ((Int32.ofNat B).toInt64)) * ((Int32.ofNat B).toInt64))) (p0.toInt64)))])) (s₁.setTop (mkF m 29 #[.val (.int p0), .val (.int (Int32.ofNat B)), .val (.int (Int32.ofNat S)), .val (.int p3), .val (.long q4), .second, .val (.long q5), .second, .val (.long q6), .second, .val (.int (1 : Int32))] [])) := by
            intro t ht
            refine XS.ifNo X0.here hx rfl (hb hby d_full_23) rfl ((if0 _ _).trans (teq (own_eqL hc8)).2) ?_
            show Steps p.tables e below (s₁.setTop (mkF m 26 #[.val (.int p0), .val (.int (Int32.ofNat B)), .val (.int (Int32.ofNat S)), .val (.int p3), .val (.long q4), .second, .val (.long q5), .second, .val (.long q6), .second, .val (.int (0 : Int32))] [])) _
            refine XS.iinc X0.here hx rfl (hb hby d_full_26) rfl (l' := #[.val (.int p0), .val (.int (Int32.ofNat B)), .val (.int (Int32.ofNat S)), .val (.int p3), .val (.long q4), .second, .val (.long q5), .second, .val (.long q6), .second, .val (.int (1 : Int32))]) rfl ?_
            exact ht
          have kk := (goT k7 k9)
          simpa only [if_pos hc2, if_neg hc5, if_pos hc8] using kk
        · have k10 : Go p.tables e below (s₁.setTop (mkF m 23 #[.val (.int p0), .val (.int (Int32.ofNat B)), .val (.int (Int32.ofNat S)), .val (.int p3), .val (.long q4), .second, .val (.long q5), .second, .val (.long q6), .second, .val (.int (0 : Int32))] [(.int (lcmpW (q4 - ((q4 / ((Int32.ofNat B).toInt64)) * ((Int32.ofNat B).toInt64))) (p0.toInt64)))])) (s₁.setTop (mkF m 29 #[.val (.int p0), .val (.int (Int32.ofNat B)), .val (.int (Int32.ofNat S)), .val (.int p3), .val (.long q4), .second, .val (.long q5), .second, .val (.long q6), .second, .val (.int (0 : Int32))] [])) := by
            intro t ht
            refine XS.ifYes X0.here hx rfl (pc0 := 23) (pc' := 29) rfl (hb hby d_full_23) rfl ((if0 _ _).trans (feq (own_neqL hc8)).2) (by decide) (by decide) ?_
            exact ht
          have kk := (goT k7 k10)
          simpa only [if_pos hc2, if_neg hc5, if_neg hc8] using kk
    have k11 : Go p.tables e below (s₁.setTop (mkF m 29 #[.val (.int p0), .val (.int (Int32.ofNat B)), .val (.int (Int32.ofNat S)), .val (.int p3), .val (.long q4), .second, .val (.long q5), .second, .val (.long q6), .second, .val (.int (if p3 < (1 : Int32) then (0 : Int32) else (if (q4 - ((q4 / ((Int32.ofNat B).toInt64)) * ((Int32.ofNat B).toInt64))) = (p0.toInt64) then (1 : Int32) else (0 : Int32))))] [])) (s₁.setTop (mkF m 29 #[.val (.int p0), .val (.int (Int32.ofNat B)), .val (.int (Int32.ofNat S)), .val (.int p3), .val (.long q4), .second, .val (.long q5), .second, .val (.long q6), .second, .val (.int (own_d1 p0 B p3 q4))] [])) := by rw [(rfl : (if p3 < (1 : Int32) then (0 : Int32) else (if (q4 - ((q4 / ((Int32.ofNat B).toInt64)) * ((Int32.ofNat B).toInt64))) = (p0.toInt64) then (1 : Int32) else (0 : Int32))) = (own_d1 p0 B p3 q4))]; exact fun _ h => h
    have k12 : Go p.tables e below (s₁.setTop (mkF m 29 #[.val (.int p0), .val (.int (Int32.ofNat B)), .val (.int (Int32.ofNat S)), .val (.int p3), .val (.long q4), .second, .val (.long q5), .second, .val (.long q6), .second, .val (.int (own_d1 p0 B p3 q4))] [])) (s₁.setTop (mkF m 31 #[.val (.int p0), .val (.int (Int32.ofNat B)), .val (.int (Int32.ofNat S)), .val (.int p3), .val (.long q4), .second, .val (.long q5), .second, .val (.long q6), .second, .val (.int (own_d1 p0 B p3 q4))] [(.int (2 : Int32)), (.int p3)])) := by
      intro t ht
      refine XS.iloadN X0.here hx rfl (hb hby d_full_29) rfl ?_
      show Steps p.tables e below (s₁.setTop (mkF m 30 #[.val (.int p0), .val (.int (Int32.ofNat B)), .val (.int (Int32.ofNat S)), .val (.int p3), .val (.long q4), .second, .val (.long q5), .second, .val (.long q6), .second, .val (.int (own_d1 p0 B p3 q4))] [(.int p3)])) _
      refine XS.iconst X0.here hx rfl (hb hby d_full_30) ?_
      exact ht
    have k13 : Go p.tables e below (s₁.setTop (mkF m 31 #[.val (.int p0), .val (.int (Int32.ofNat B)), .val (.int (Int32.ofNat S)), .val (.int p3), .val (.long q4), .second, .val (.long q5), .second, .val (.long q6), .second, .val (.int (own_d1 p0 B p3 q4))] [(.int (2 : Int32)), (.int p3)])) (s₁.setTop (mkF m 56 #[.val (.int p0), .val (.int (Int32.ofNat B)), .val (.int (Int32.ofNat S)), .val (.int p3), .val (.long q4), .second, .val (.long q5), .second, .val (.long q6), .second, .val (.int (if p3 < (2 : Int32) then (own_d1 p0 B p3 q4) else (if (q5 - ((q5 / ((Int32.ofNat B).toInt64)) * ((Int32.ofNat B).toInt64))) = (p0.toInt64) then (if q5 = q4 then (own_d1 p0 B p3 q4) else ((own_d1 p0 B p3 q4) + (1 : Int32))) else (own_d1 p0 B p3 q4))))] [])) := by
      by_cases hc14 : p3 < (2 : Int32)
      · have k15 : Go p.tables e below (s₁.setTop (mkF m 31 #[.val (.int p0), .val (.int (Int32.ofNat B)), .val (.int (Int32.ofNat S)), .val (.int p3), .val (.long q4), .second, .val (.long q5), .second, .val (.long q6), .second, .val (.int (own_d1 p0 B p3 q4))] [(.int (2 : Int32)), (.int p3)])) (s₁.setTop (mkF m 56 #[.val (.int p0), .val (.int (Int32.ofNat B)), .val (.int (Int32.ofNat S)), .val (.int p3), .val (.long q4), .second, .val (.long q5), .second, .val (.long q6), .second, .val (.int (own_d1 p0 B p3 q4))] [])) := by
          intro t ht
          refine XS.icmpYes X0.here hx rfl (pc0 := 31) (pc' := 56) rfl (hb hby d_full_31) rfl (tlt hc14).1 (by decide) (by decide) ?_
          exact ht
        have kk := k15
        simpa only [if_pos hc2, if_pos hc14] using kk
      · have k16 : Go p.tables e below (s₁.setTop (mkF m 31 #[.val (.int p0), .val (.int (Int32.ofNat B)), .val (.int (Int32.ofNat S)), .val (.int p3), .val (.long q4), .second, .val (.long q5), .second, .val (.long q6), .second, .val (.int (own_d1 p0 B p3 q4))] [(.int (2 : Int32)), (.int p3)])) (s₁.setTop (mkF m 42 #[.val (.int p0), .val (.int (Int32.ofNat B)), .val (.int (Int32.ofNat S)), .val (.int p3), .val (.long q4), .second, .val (.long q5), .second, .val (.long q6), .second, .val (.int (own_d1 p0 B p3 q4))] [(.int (lcmpW (q5 - ((q5 / ((Int32.ofNat B).toInt64)) * ((Int32.ofNat B).toInt64))) (p0.toInt64)))])) := by
          intro t ht
          refine XS.icmpNo X0.here hx rfl (hb hby d_full_31) rfl (flt hc14).1 ?_
          show Steps p.tables e below (s₁.setTop (mkF m 34 #[.val (.int p0), .val (.int (Int32.ofNat B)), .val (.int (Int32.ofNat S)), .val (.int p3), .val (.long q4), .second, .val (.long q5), .second, .val (.long q6), .second, .val (.int (own_d1 p0 B p3 q4))] [])) _
          refine XS.lload X0.here hx rfl (hb hby d_full_34) rfl ?_
          show Steps p.tables e below (s₁.setTop (mkF m 36 #[.val (.int p0), .val (.int (Int32.ofNat B)), .val (.int (Int32.ofNat S)), .val (.int p3), .val (.long q4), .second, .val (.long q5), .second, .val (.long q6), .second, .val (.int (own_d1 p0 B p3 q4))] [(.long q5)])) _
          refine XS.iloadN X0.here hx rfl (hb hby d_full_36) rfl ?_
          show Steps p.tables e below (s₁.setTop (mkF m 37 #[.val (.int p0), .val (.int (Int32.ofNat B)), .val (.int (Int32.ofNat S)), .val (.int p3), .val (.long q4), .second, .val (.long q5), .second, .val (.long q6), .second, .val (.int (own_d1 p0 B p3 q4))] [(.int (Int32.ofNat B)), (.long q5)])) _
          refine XS.i2l X0.here hx rfl (hb hby d_full_37) rfl ?_
          show Steps p.tables e below (s₁.setTop (mkF m 38 #[.val (.int p0), .val (.int (Int32.ofNat B)), .val (.int (Int32.ofNat S)), .val (.int p3), .val (.long q4), .second, .val (.long q5), .second, .val (.long q6), .second, .val (.int (own_d1 p0 B p3 q4))] [(.long ((Int32.ofNat B).toInt64)), (.long q5)])) _
          refine XS.lrem X0.here hx rfl (hb hby d_full_38) rfl (own_Bnz hB : ¬ (((Int32.ofNat B).toInt64) = 0)) ?_
          show Steps p.tables e below (s₁.setTop (mkF m 39 #[.val (.int p0), .val (.int (Int32.ofNat B)), .val (.int (Int32.ofNat S)), .val (.int p3), .val (.long q4), .second, .val (.long q5), .second, .val (.long q6), .second, .val (.int (own_d1 p0 B p3 q4))] [(.long (q5 - ((q5 / ((Int32.ofNat B).toInt64)) * ((Int32.ofNat B).toInt64))))])) _
          refine XS.iloadN X0.here hx rfl (hb hby d_full_39) rfl ?_
          show Steps p.tables e below (s₁.setTop (mkF m 40 #[.val (.int p0), .val (.int (Int32.ofNat B)), .val (.int (Int32.ofNat S)), .val (.int p3), .val (.long q4), .second, .val (.long q5), .second, .val (.long q6), .second, .val (.int (own_d1 p0 B p3 q4))] [(.int p0), (.long (q5 - ((q5 / ((Int32.ofNat B).toInt64)) * ((Int32.ofNat B).toInt64))))])) _
          refine XS.i2l X0.here hx rfl (hb hby d_full_40) rfl ?_
          show Steps p.tables e below (s₁.setTop (mkF m 41 #[.val (.int p0), .val (.int (Int32.ofNat B)), .val (.int (Int32.ofNat S)), .val (.int p3), .val (.long q4), .second, .val (.long q5), .second, .val (.long q6), .second, .val (.int (own_d1 p0 B p3 q4))] [(.long (p0.toInt64)), (.long (q5 - ((q5 / ((Int32.ofNat B).toInt64)) * ((Int32.ofNat B).toInt64))))])) _
          refine XS.lcmp X0.here hx rfl (hb hby d_full_41) rfl ?_
          exact ht
        by_cases hc17 : (q5 - ((q5 / ((Int32.ofNat B).toInt64)) * ((Int32.ofNat B).toInt64))) = (p0.toInt64)
        · have k18 : Go p.tables e below (s₁.setTop (mkF m 42 #[.val (.int p0), .val (.int (Int32.ofNat B)), .val (.int (Int32.ofNat S)), .val (.int p3), .val (.long q4), .second, .val (.long q5), .second, .val (.long q6), .second, .val (.int (own_d1 p0 B p3 q4))] [(.int (lcmpW (q5 - ((q5 / ((Int32.ofNat B).toInt64)) * ((Int32.ofNat B).toInt64))) (p0.toInt64)))])) (s₁.setTop (mkF m 50 #[.val (.int p0), .val (.int (Int32.ofNat B)), .val (.int (Int32.ofNat S)), .val (.int p3), .val (.long q4), .second, .val (.long q5), .second, .val (.long q6), .second, .val (.int (own_d1 p0 B p3 q4))] [(.int (lcmpW q5 q4))])) := by
            intro t ht
            refine XS.ifNo X0.here hx rfl (hb hby d_full_42) rfl ((if0 _ _).trans (teq (own_eqL hc17)).2) ?_
            show Steps p.tables e below (s₁.setTop (mkF m 45 #[.val (.int p0), .val (.int (Int32.ofNat B)), .val (.int (Int32.ofNat S)), .val (.int p3), .val (.long q4), .second, .val (.long q5), .second, .val (.long q6), .second, .val (.int (own_d1 p0 B p3 q4))] [])) _
            refine XS.lload X0.here hx rfl (hb hby d_full_45) rfl ?_
            show Steps p.tables e below (s₁.setTop (mkF m 47 #[.val (.int p0), .val (.int (Int32.ofNat B)), .val (.int (Int32.ofNat S)), .val (.int p3), .val (.long q4), .second, .val (.long q5), .second, .val (.long q6), .second, .val (.int (own_d1 p0 B p3 q4))] [(.long q5)])) _
            refine XS.lload X0.here hx rfl (hb hby d_full_47) rfl ?_
            show Steps p.tables e below (s₁.setTop (mkF m 49 #[.val (.int p0), .val (.int (Int32.ofNat B)), .val (.int (Int32.ofNat S)), .val (.int p3), .val (.long q4), .second, .val (.long q5), .second, .val (.long q6), .second, .val (.int (own_d1 p0 B p3 q4))] [(.long q4), (.long q5)])) _
            refine XS.lcmp X0.here hx rfl (hb hby d_full_49) rfl ?_
            exact ht
          by_cases hc19 : q5 = q4
          · have k20 : Go p.tables e below (s₁.setTop (mkF m 50 #[.val (.int p0), .val (.int (Int32.ofNat B)), .val (.int (Int32.ofNat S)), .val (.int p3), .val (.long q4), .second, .val (.long q5), .second, .val (.long q6), .second, .val (.int (own_d1 p0 B p3 q4))] [(.int (lcmpW q5 q4))])) (s₁.setTop (mkF m 56 #[.val (.int p0), .val (.int (Int32.ofNat B)), .val (.int (Int32.ofNat S)), .val (.int p3), .val (.long q4), .second, .val (.long q5), .second, .val (.long q6), .second, .val (.int (own_d1 p0 B p3 q4))] [])) := by
              intro t ht
              refine XS.ifYes X0.here hx rfl (pc0 := 50) (pc' := 56) rfl (hb hby d_full_50) rfl ((if0 _ _).trans (teq (own_eqL hc19)).1) (by decide) (by decide) ?_
              exact ht
            have kk := (goT k16 (goT k18 k20))
            simpa only [if_pos hc2, if_neg hc14, if_pos hc17, if_pos hc19] using kk
          · have k21 : Go p.tables e below (s₁.setTop (mkF m 50 #[.val (.int p0), .val (.int (Int32.ofNat B)), .val (.int (Int32.ofNat S)), .val (.int p3), .val (.long q4), .second, .val (.long q5), .second, .val (.long q6), .second, .val (.int (own_d1 p0 B p3 q4))] [(.int (lcmpW q5 q4))])) (s₁.setTop (mkF m 56 #[.val (.int p0), .val (.int (Int32.ofNat B)), .val (.int (Int32.ofNat S)), .val (.int p3), .val (.long q4), .second, .val (.long q5), .second, .val (.long q6), .second, .val (.int ((own_d1 p0 B p3 q4) + (1 : Int32)))] [])) := by
              intro t ht
              refine XS.ifNo X0.here hx rfl (hb hby d_full_50) rfl ((if0 _ _).trans (feq (own_neqL hc19)).1) ?_
              show Steps p.tables e below (s₁.setTop (mkF m 53 #[.val (.int p0), .val (.int (Int32.ofNat B)), .val (.int (Int32.ofNat S)), .val (.int p3), .val (.long q4), .second, .val (.long q5), .second, .val (.long q6), .second, .val (.int (own_d1 p0 B p3 q4))] [])) _
              refine XS.iinc X0.here hx rfl (hb hby d_full_53) rfl (l' := #[.val (.int p0), .val (.int (Int32.ofNat B)), .val (.int (Int32.ofNat S)), .val (.int p3), .val (.long q4), .second, .val (.long q5), .second, .val (.long q6), .second, .val (.int ((own_d1 p0 B p3 q4) + (1 : Int32)))]) rfl ?_
              exact ht
            have kk := (goT k16 (goT k18 k21))
            simpa only [if_pos hc2, if_neg hc14, if_pos hc17, if_neg hc19] using kk
        · have k22 : Go p.tables e below (s₁.setTop (mkF m 42 #[.val (.int p0), .val (.int (Int32.ofNat B)), .val (.int (Int32.ofNat S)), .val (.int p3), .val (.long q4), .second, .val (.long q5), .second, .val (.long q6), .second, .val (.int (own_d1 p0 B p3 q4))] [(.int (lcmpW (q5 - ((q5 / ((Int32.ofNat B).toInt64)) * ((Int32.ofNat B).toInt64))) (p0.toInt64)))])) (s₁.setTop (mkF m 56 #[.val (.int p0), .val (.int (Int32.ofNat B)), .val (.int (Int32.ofNat S)), .val (.int p3), .val (.long q4), .second, .val (.long q5), .second, .val (.long q6), .second, .val (.int (own_d1 p0 B p3 q4))] [])) := by
            intro t ht
            refine XS.ifYes X0.here hx rfl (pc0 := 42) (pc' := 56) rfl (hb hby d_full_42) rfl ((if0 _ _).trans (feq (own_neqL hc17)).2) (by decide) (by decide) ?_
            exact ht
          have kk := (goT k16 k22)
          simpa only [if_pos hc2, if_neg hc14, if_neg hc17] using kk
    have k23 : Go p.tables e below (s₁.setTop (mkF m 56 #[.val (.int p0), .val (.int (Int32.ofNat B)), .val (.int (Int32.ofNat S)), .val (.int p3), .val (.long q4), .second, .val (.long q5), .second, .val (.long q6), .second, .val (.int (if p3 < (2 : Int32) then (own_d1 p0 B p3 q4) else (if (q5 - ((q5 / ((Int32.ofNat B).toInt64)) * ((Int32.ofNat B).toInt64))) = (p0.toInt64) then (if q5 = q4 then (own_d1 p0 B p3 q4) else ((own_d1 p0 B p3 q4) + (1 : Int32))) else (own_d1 p0 B p3 q4))))] [])) (s₁.setTop (mkF m 56 #[.val (.int p0), .val (.int (Int32.ofNat B)), .val (.int (Int32.ofNat S)), .val (.int p3), .val (.long q4), .second, .val (.long q5), .second, .val (.long q6), .second, .val (.int (own_d2 p0 B p3 q4 q5))] [])) := by rw [(rfl : (if p3 < (2 : Int32) then (own_d1 p0 B p3 q4) else (if (q5 - ((q5 / ((Int32.ofNat B).toInt64)) * ((Int32.ofNat B).toInt64))) = (p0.toInt64) then (if q5 = q4 then (own_d1 p0 B p3 q4) else ((own_d1 p0 B p3 q4) + (1 : Int32))) else (own_d1 p0 B p3 q4))) = (own_d2 p0 B p3 q4 q5))]; exact fun _ h => h
    have k24 : Go p.tables e below (s₁.setTop (mkF m 56 #[.val (.int p0), .val (.int (Int32.ofNat B)), .val (.int (Int32.ofNat S)), .val (.int p3), .val (.long q4), .second, .val (.long q5), .second, .val (.long q6), .second, .val (.int (own_d2 p0 B p3 q4 q5))] [])) (s₁.setTop (mkF m 58 #[.val (.int p0), .val (.int (Int32.ofNat B)), .val (.int (Int32.ofNat S)), .val (.int p3), .val (.long q4), .second, .val (.long q5), .second, .val (.long q6), .second, .val (.int (own_d2 p0 B p3 q4 q5))] [(.int (3 : Int32)), (.int p3)])) := by
      intro t ht
      refine XS.iloadN X0.here hx rfl (hb hby d_full_56) rfl ?_
      show Steps p.tables e below (s₁.setTop (mkF m 57 #[.val (.int p0), .val (.int (Int32.ofNat B)), .val (.int (Int32.ofNat S)), .val (.int p3), .val (.long q4), .second, .val (.long q5), .second, .val (.long q6), .second, .val (.int (own_d2 p0 B p3 q4 q5))] [(.int p3)])) _
      refine XS.iconst X0.here hx rfl (hb hby d_full_57) ?_
      exact ht
    have k25 : Go p.tables e below (s₁.setTop (mkF m 58 #[.val (.int p0), .val (.int (Int32.ofNat B)), .val (.int (Int32.ofNat S)), .val (.int p3), .val (.long q4), .second, .val (.long q5), .second, .val (.long q6), .second, .val (.int (own_d2 p0 B p3 q4 q5))] [(.int (3 : Int32)), (.int p3)])) (s₁.setTop (mkF m 91 #[.val (.int p0), .val (.int (Int32.ofNat B)), .val (.int (Int32.ofNat S)), .val (.int p3), .val (.long q4), .second, .val (.long q5), .second, .val (.long q6), .second, .val (.int (if p3 < (3 : Int32) then (own_d2 p0 B p3 q4 q5) else (if (q6 - ((q6 / ((Int32.ofNat B).toInt64)) * ((Int32.ofNat B).toInt64))) = (p0.toInt64) then (if q6 = q4 then (own_d2 p0 B p3 q4 q5) else (if q6 = q5 then (own_d2 p0 B p3 q4 q5) else ((own_d2 p0 B p3 q4 q5) + (1 : Int32)))) else (own_d2 p0 B p3 q4 q5))))] [])) := by
      by_cases hc26 : p3 < (3 : Int32)
      · have k27 : Go p.tables e below (s₁.setTop (mkF m 58 #[.val (.int p0), .val (.int (Int32.ofNat B)), .val (.int (Int32.ofNat S)), .val (.int p3), .val (.long q4), .second, .val (.long q5), .second, .val (.long q6), .second, .val (.int (own_d2 p0 B p3 q4 q5))] [(.int (3 : Int32)), (.int p3)])) (s₁.setTop (mkF m 91 #[.val (.int p0), .val (.int (Int32.ofNat B)), .val (.int (Int32.ofNat S)), .val (.int p3), .val (.long q4), .second, .val (.long q5), .second, .val (.long q6), .second, .val (.int (own_d2 p0 B p3 q4 q5))] [])) := by
          intro t ht
          refine XS.icmpYes X0.here hx rfl (pc0 := 58) (pc' := 91) rfl (hb hby d_full_58) rfl (tlt hc26).1 (by decide) (by decide) ?_
          exact ht
        have kk := k27
        simpa only [if_pos hc2, if_pos hc26] using kk
      · have k28 : Go p.tables e below (s₁.setTop (mkF m 58 #[.val (.int p0), .val (.int (Int32.ofNat B)), .val (.int (Int32.ofNat S)), .val (.int p3), .val (.long q4), .second, .val (.long q5), .second, .val (.long q6), .second, .val (.int (own_d2 p0 B p3 q4 q5))] [(.int (3 : Int32)), (.int p3)])) (s₁.setTop (mkF m 69 #[.val (.int p0), .val (.int (Int32.ofNat B)), .val (.int (Int32.ofNat S)), .val (.int p3), .val (.long q4), .second, .val (.long q5), .second, .val (.long q6), .second, .val (.int (own_d2 p0 B p3 q4 q5))] [(.int (lcmpW (q6 - ((q6 / ((Int32.ofNat B).toInt64)) * ((Int32.ofNat B).toInt64))) (p0.toInt64)))])) := by
          intro t ht
          refine XS.icmpNo X0.here hx rfl (hb hby d_full_58) rfl (flt hc26).1 ?_
          show Steps p.tables e below (s₁.setTop (mkF m 61 #[.val (.int p0), .val (.int (Int32.ofNat B)), .val (.int (Int32.ofNat S)), .val (.int p3), .val (.long q4), .second, .val (.long q5), .second, .val (.long q6), .second, .val (.int (own_d2 p0 B p3 q4 q5))] [])) _
          refine XS.lload X0.here hx rfl (hb hby d_full_61) rfl ?_
          show Steps p.tables e below (s₁.setTop (mkF m 63 #[.val (.int p0), .val (.int (Int32.ofNat B)), .val (.int (Int32.ofNat S)), .val (.int p3), .val (.long q4), .second, .val (.long q5), .second, .val (.long q6), .second, .val (.int (own_d2 p0 B p3 q4 q5))] [(.long q6)])) _
          refine XS.iloadN X0.here hx rfl (hb hby d_full_63) rfl ?_
          show Steps p.tables e below (s₁.setTop (mkF m 64 #[.val (.int p0), .val (.int (Int32.ofNat B)), .val (.int (Int32.ofNat S)), .val (.int p3), .val (.long q4), .second, .val (.long q5), .second, .val (.long q6), .second, .val (.int (own_d2 p0 B p3 q4 q5))] [(.int (Int32.ofNat B)), (.long q6)])) _
          refine XS.i2l X0.here hx rfl (hb hby d_full_64) rfl ?_
          show Steps p.tables e below (s₁.setTop (mkF m 65 #[.val (.int p0), .val (.int (Int32.ofNat B)), .val (.int (Int32.ofNat S)), .val (.int p3), .val (.long q4), .second, .val (.long q5), .second, .val (.long q6), .second, .val (.int (own_d2 p0 B p3 q4 q5))] [(.long ((Int32.ofNat B).toInt64)), (.long q6)])) _
          refine XS.lrem X0.here hx rfl (hb hby d_full_65) rfl (own_Bnz hB : ¬ (((Int32.ofNat B).toInt64) = 0)) ?_
          show Steps p.tables e below (s₁.setTop (mkF m 66 #[.val (.int p0), .val (.int (Int32.ofNat B)), .val (.int (Int32.ofNat S)), .val (.int p3), .val (.long q4), .second, .val (.long q5), .second, .val (.long q6), .second, .val (.int (own_d2 p0 B p3 q4 q5))] [(.long (q6 - ((q6 / ((Int32.ofNat B).toInt64)) * ((Int32.ofNat B).toInt64))))])) _
          refine XS.iloadN X0.here hx rfl (hb hby d_full_66) rfl ?_
          show Steps p.tables e below (s₁.setTop (mkF m 67 #[.val (.int p0), .val (.int (Int32.ofNat B)), .val (.int (Int32.ofNat S)), .val (.int p3), .val (.long q4), .second, .val (.long q5), .second, .val (.long q6), .second, .val (.int (own_d2 p0 B p3 q4 q5))] [(.int p0), (.long (q6 - ((q6 / ((Int32.ofNat B).toInt64)) * ((Int32.ofNat B).toInt64))))])) _
          refine XS.i2l X0.here hx rfl (hb hby d_full_67) rfl ?_
          show Steps p.tables e below (s₁.setTop (mkF m 68 #[.val (.int p0), .val (.int (Int32.ofNat B)), .val (.int (Int32.ofNat S)), .val (.int p3), .val (.long q4), .second, .val (.long q5), .second, .val (.long q6), .second, .val (.int (own_d2 p0 B p3 q4 q5))] [(.long (p0.toInt64)), (.long (q6 - ((q6 / ((Int32.ofNat B).toInt64)) * ((Int32.ofNat B).toInt64))))])) _
          refine XS.lcmp X0.here hx rfl (hb hby d_full_68) rfl ?_
          exact ht
        by_cases hc29 : (q6 - ((q6 / ((Int32.ofNat B).toInt64)) * ((Int32.ofNat B).toInt64))) = (p0.toInt64)
        · have k30 : Go p.tables e below (s₁.setTop (mkF m 69 #[.val (.int p0), .val (.int (Int32.ofNat B)), .val (.int (Int32.ofNat S)), .val (.int p3), .val (.long q4), .second, .val (.long q5), .second, .val (.long q6), .second, .val (.int (own_d2 p0 B p3 q4 q5))] [(.int (lcmpW (q6 - ((q6 / ((Int32.ofNat B).toInt64)) * ((Int32.ofNat B).toInt64))) (p0.toInt64)))])) (s₁.setTop (mkF m 77 #[.val (.int p0), .val (.int (Int32.ofNat B)), .val (.int (Int32.ofNat S)), .val (.int p3), .val (.long q4), .second, .val (.long q5), .second, .val (.long q6), .second, .val (.int (own_d2 p0 B p3 q4 q5))] [(.int (lcmpW q6 q4))])) := by
            intro t ht
            refine XS.ifNo X0.here hx rfl (hb hby d_full_69) rfl ((if0 _ _).trans (teq (own_eqL hc29)).2) ?_
            show Steps p.tables e below (s₁.setTop (mkF m 72 #[.val (.int p0), .val (.int (Int32.ofNat B)), .val (.int (Int32.ofNat S)), .val (.int p3), .val (.long q4), .second, .val (.long q5), .second, .val (.long q6), .second, .val (.int (own_d2 p0 B p3 q4 q5))] [])) _
            refine XS.lload X0.here hx rfl (hb hby d_full_72) rfl ?_
            show Steps p.tables e below (s₁.setTop (mkF m 74 #[.val (.int p0), .val (.int (Int32.ofNat B)), .val (.int (Int32.ofNat S)), .val (.int p3), .val (.long q4), .second, .val (.long q5), .second, .val (.long q6), .second, .val (.int (own_d2 p0 B p3 q4 q5))] [(.long q6)])) _
            refine XS.lload X0.here hx rfl (hb hby d_full_74) rfl ?_
            show Steps p.tables e below (s₁.setTop (mkF m 76 #[.val (.int p0), .val (.int (Int32.ofNat B)), .val (.int (Int32.ofNat S)), .val (.int p3), .val (.long q4), .second, .val (.long q5), .second, .val (.long q6), .second, .val (.int (own_d2 p0 B p3 q4 q5))] [(.long q4), (.long q6)])) _
            refine XS.lcmp X0.here hx rfl (hb hby d_full_76) rfl ?_
            exact ht
          by_cases hc31 : q6 = q4
          · have k32 : Go p.tables e below (s₁.setTop (mkF m 77 #[.val (.int p0), .val (.int (Int32.ofNat B)), .val (.int (Int32.ofNat S)), .val (.int p3), .val (.long q4), .second, .val (.long q5), .second, .val (.long q6), .second, .val (.int (own_d2 p0 B p3 q4 q5))] [(.int (lcmpW q6 q4))])) (s₁.setTop (mkF m 91 #[.val (.int p0), .val (.int (Int32.ofNat B)), .val (.int (Int32.ofNat S)), .val (.int p3), .val (.long q4), .second, .val (.long q5), .second, .val (.long q6), .second, .val (.int (own_d2 p0 B p3 q4 q5))] [])) := by
              intro t ht
              refine XS.ifYes X0.here hx rfl (pc0 := 77) (pc' := 91) rfl (hb hby d_full_77) rfl ((if0 _ _).trans (teq (own_eqL hc31)).1) (by decide) (by decide) ?_
              exact ht
            have kk := (goT k28 (goT k30 k32))
            simpa only [if_pos hc2, if_neg hc26, if_pos hc29, if_pos hc31] using kk
          · have k33 : Go p.tables e below (s₁.setTop (mkF m 77 #[.val (.int p0), .val (.int (Int32.ofNat B)), .val (.int (Int32.ofNat S)), .val (.int p3), .val (.long q4), .second, .val (.long q5), .second, .val (.long q6), .second, .val (.int (own_d2 p0 B p3 q4 q5))] [(.int (lcmpW q6 q4))])) (s₁.setTop (mkF m 85 #[.val (.int p0), .val (.int (Int32.ofNat B)), .val (.int (Int32.ofNat S)), .val (.int p3), .val (.long q4), .second, .val (.long q5), .second, .val (.long q6), .second, .val (.int (own_d2 p0 B p3 q4 q5))] [(.int (lcmpW q6 q5))])) := by
              intro t ht
              refine XS.ifNo X0.here hx rfl (hb hby d_full_77) rfl ((if0 _ _).trans (feq (own_neqL hc31)).1) ?_
              show Steps p.tables e below (s₁.setTop (mkF m 80 #[.val (.int p0), .val (.int (Int32.ofNat B)), .val (.int (Int32.ofNat S)), .val (.int p3), .val (.long q4), .second, .val (.long q5), .second, .val (.long q6), .second, .val (.int (own_d2 p0 B p3 q4 q5))] [])) _
              refine XS.lload X0.here hx rfl (hb hby d_full_80) rfl ?_
              show Steps p.tables e below (s₁.setTop (mkF m 82 #[.val (.int p0), .val (.int (Int32.ofNat B)), .val (.int (Int32.ofNat S)), .val (.int p3), .val (.long q4), .second, .val (.long q5), .second, .val (.long q6), .second, .val (.int (own_d2 p0 B p3 q4 q5))] [(.long q6)])) _
              refine XS.lload X0.here hx rfl (hb hby d_full_82) rfl ?_
              show Steps p.tables e below (s₁.setTop (mkF m 84 #[.val (.int p0), .val (.int (Int32.ofNat B)), .val (.int (Int32.ofNat S)), .val (.int p3), .val (.long q4), .second, .val (.long q5), .second, .val (.long q6), .second, .val (.int (own_d2 p0 B p3 q4 q5))] [(.long q5), (.long q6)])) _
              refine XS.lcmp X0.here hx rfl (hb hby d_full_84) rfl ?_
              exact ht
            by_cases hc34 : q6 = q5
            · have k35 : Go p.tables e below (s₁.setTop (mkF m 85 #[.val (.int p0), .val (.int (Int32.ofNat B)), .val (.int (Int32.ofNat S)), .val (.int p3), .val (.long q4), .second, .val (.long q5), .second, .val (.long q6), .second, .val (.int (own_d2 p0 B p3 q4 q5))] [(.int (lcmpW q6 q5))])) (s₁.setTop (mkF m 91 #[.val (.int p0), .val (.int (Int32.ofNat B)), .val (.int (Int32.ofNat S)), .val (.int p3), .val (.long q4), .second, .val (.long q5), .second, .val (.long q6), .second, .val (.int (own_d2 p0 B p3 q4 q5))] [])) := by
                intro t ht
                refine XS.ifYes X0.here hx rfl (pc0 := 85) (pc' := 91) rfl (hb hby d_full_85) rfl ((if0 _ _).trans (teq (own_eqL hc34)).1) (by decide) (by decide) ?_
                exact ht
              have kk := (goT k28 (goT k30 (goT k33 k35)))
              simpa only [if_pos hc2, if_neg hc26, if_pos hc29, if_neg hc31, if_pos hc34] using kk
            · have k36 : Go p.tables e below (s₁.setTop (mkF m 85 #[.val (.int p0), .val (.int (Int32.ofNat B)), .val (.int (Int32.ofNat S)), .val (.int p3), .val (.long q4), .second, .val (.long q5), .second, .val (.long q6), .second, .val (.int (own_d2 p0 B p3 q4 q5))] [(.int (lcmpW q6 q5))])) (s₁.setTop (mkF m 91 #[.val (.int p0), .val (.int (Int32.ofNat B)), .val (.int (Int32.ofNat S)), .val (.int p3), .val (.long q4), .second, .val (.long q5), .second, .val (.long q6), .second, .val (.int ((own_d2 p0 B p3 q4 q5) + (1 : Int32)))] [])) := by
                intro t ht
                refine XS.ifNo X0.here hx rfl (hb hby d_full_85) rfl ((if0 _ _).trans (feq (own_neqL hc34)).1) ?_
                show Steps p.tables e below (s₁.setTop (mkF m 88 #[.val (.int p0), .val (.int (Int32.ofNat B)), .val (.int (Int32.ofNat S)), .val (.int p3), .val (.long q4), .second, .val (.long q5), .second, .val (.long q6), .second, .val (.int (own_d2 p0 B p3 q4 q5))] [])) _
                refine XS.iinc X0.here hx rfl (hb hby d_full_88) rfl (l' := #[.val (.int p0), .val (.int (Int32.ofNat B)), .val (.int (Int32.ofNat S)), .val (.int p3), .val (.long q4), .second, .val (.long q5), .second, .val (.long q6), .second, .val (.int ((own_d2 p0 B p3 q4 q5) + (1 : Int32)))]) rfl ?_
                exact ht
              have kk := (goT k28 (goT k30 (goT k33 k36)))
              simpa only [if_pos hc2, if_neg hc26, if_pos hc29, if_neg hc31, if_neg hc34] using kk
        · have k37 : Go p.tables e below (s₁.setTop (mkF m 69 #[.val (.int p0), .val (.int (Int32.ofNat B)), .val (.int (Int32.ofNat S)), .val (.int p3), .val (.long q4), .second, .val (.long q5), .second, .val (.long q6), .second, .val (.int (own_d2 p0 B p3 q4 q5))] [(.int (lcmpW (q6 - ((q6 / ((Int32.ofNat B).toInt64)) * ((Int32.ofNat B).toInt64))) (p0.toInt64)))])) (s₁.setTop (mkF m 91 #[.val (.int p0), .val (.int (Int32.ofNat B)), .val (.int (Int32.ofNat S)), .val (.int p3), .val (.long q4), .second, .val (.long q5), .second, .val (.long q6), .second, .val (.int (own_d2 p0 B p3 q4 q5))] [])) := by
            intro t ht
            refine XS.ifYes X0.here hx rfl (pc0 := 69) (pc' := 91) rfl (hb hby d_full_69) rfl ((if0 _ _).trans (feq (own_neqL hc29)).2) (by decide) (by decide) ?_
            exact ht
          have kk := (goT k28 k37)
          simpa only [if_pos hc2, if_neg hc26, if_neg hc29] using kk
    have k38 : Go p.tables e below (s₁.setTop (mkF m 91 #[.val (.int p0), .val (.int (Int32.ofNat B)), .val (.int (Int32.ofNat S)), .val (.int p3), .val (.long q4), .second, .val (.long q5), .second, .val (.long q6), .second, .val (.int (if p3 < (3 : Int32) then (own_d2 p0 B p3 q4 q5) else (if (q6 - ((q6 / ((Int32.ofNat B).toInt64)) * ((Int32.ofNat B).toInt64))) = (p0.toInt64) then (if q6 = q4 then (own_d2 p0 B p3 q4 q5) else (if q6 = q5 then (own_d2 p0 B p3 q4 q5) else ((own_d2 p0 B p3 q4 q5) + (1 : Int32)))) else (own_d2 p0 B p3 q4 q5))))] [])) (s₁.setTop (mkF m 91 #[.val (.int p0), .val (.int (Int32.ofNat B)), .val (.int (Int32.ofNat S)), .val (.int p3), .val (.long q4), .second, .val (.long q5), .second, .val (.long q6), .second, .val (.int (own_d3 p0 B p3 q4 q5 q6))] [])) := by rw [(rfl : (if p3 < (3 : Int32) then (own_d2 p0 B p3 q4 q5) else (if (q6 - ((q6 / ((Int32.ofNat B).toInt64)) * ((Int32.ofNat B).toInt64))) = (p0.toInt64) then (if q6 = q4 then (own_d2 p0 B p3 q4 q5) else (if q6 = q5 then (own_d2 p0 B p3 q4 q5) else ((own_d2 p0 B p3 q4 q5) + (1 : Int32)))) else (own_d2 p0 B p3 q4 q5))) = (own_d3 p0 B p3 q4 q5 q6))]; exact fun _ h => h
    have k39 : Go p.tables e below (s₁.setTop (mkF m 91 #[.val (.int p0), .val (.int (Int32.ofNat B)), .val (.int (Int32.ofNat S)), .val (.int p3), .val (.long q4), .second, .val (.long q5), .second, .val (.long q6), .second, .val (.int (own_d3 p0 B p3 q4 q5 q6))] [])) (s₁.setTop (mkF m 94 #[.val (.int p0), .val (.int (Int32.ofNat B)), .val (.int (Int32.ofNat S)), .val (.int p3), .val (.long q4), .second, .val (.long q5), .second, .val (.long q6), .second, .val (.int (own_d3 p0 B p3 q4 q5 q6))] [(.int (Int32.ofNat S)), (.int (own_d3 p0 B p3 q4 q5 q6))])) := by
      intro t ht
      refine XS.iload X0.here hx rfl (hb hby d_full_91) rfl ?_
      show Steps p.tables e below (s₁.setTop (mkF m 93 #[.val (.int p0), .val (.int (Int32.ofNat B)), .val (.int (Int32.ofNat S)), .val (.int p3), .val (.long q4), .second, .val (.long q5), .second, .val (.long q6), .second, .val (.int (own_d3 p0 B p3 q4 q5 q6))] [(.int (own_d3 p0 B p3 q4 q5 q6))])) _
      refine XS.iloadN X0.here hx rfl (hb hby d_full_93) rfl ?_
      exact ht
    have k40 : Go p.tables e below (s₁.setTop (mkF m 94 #[.val (.int p0), .val (.int (Int32.ofNat B)), .val (.int (Int32.ofNat S)), .val (.int p3), .val (.long q4), .second, .val (.long q5), .second, .val (.long q6), .second, .val (.int (own_d3 p0 B p3 q4 q5 q6))] [(.int (Int32.ofNat S)), (.int (own_d3 p0 B p3 q4 q5 q6))])) (s₁.setTop (mkF m 102 #[.val (.int p0), .val (.int (Int32.ofNat B)), .val (.int (Int32.ofNat S)), .val (.int p3), .val (.long q4), .second, .val (.long q5), .second, .val (.long q6), .second, .val (.int (own_d3 p0 B p3 q4 q5 q6))] [(.int (if (own_d3 p0 B p3 q4 q5 q6) < (Int32.ofNat S) then (0 : Int32) else (1 : Int32)))])) := by
      by_cases hc41 : (own_d3 p0 B p3 q4 q5 q6) < (Int32.ofNat S)
      · have k42 : Go p.tables e below (s₁.setTop (mkF m 94 #[.val (.int p0), .val (.int (Int32.ofNat B)), .val (.int (Int32.ofNat S)), .val (.int p3), .val (.long q4), .second, .val (.long q5), .second, .val (.long q6), .second, .val (.int (own_d3 p0 B p3 q4 q5 q6))] [(.int (Int32.ofNat S)), (.int (own_d3 p0 B p3 q4 q5 q6))])) (s₁.setTop (mkF m 102 #[.val (.int p0), .val (.int (Int32.ofNat B)), .val (.int (Int32.ofNat S)), .val (.int p3), .val (.long q4), .second, .val (.long q5), .second, .val (.long q6), .second, .val (.int (own_d3 p0 B p3 q4 q5 q6))] [(.int (0 : Int32))])) := by
          intro t ht
          refine XS.icmpYes X0.here hx rfl (pc0 := 94) (pc' := 101) rfl (hb hby d_full_94) rfl (tlt hc41).1 (by decide) (by decide) ?_
          show Steps p.tables e below (s₁.setTop (mkF m 101 #[.val (.int p0), .val (.int (Int32.ofNat B)), .val (.int (Int32.ofNat S)), .val (.int p3), .val (.long q4), .second, .val (.long q5), .second, .val (.long q6), .second, .val (.int (own_d3 p0 B p3 q4 q5 q6))] [])) _
          refine XS.iconst X0.here hx rfl (hb hby d_full_101) ?_
          exact ht
        have kk := k42
        simpa only [if_pos hc2, if_pos hc41] using kk
      · have k43 : Go p.tables e below (s₁.setTop (mkF m 94 #[.val (.int p0), .val (.int (Int32.ofNat B)), .val (.int (Int32.ofNat S)), .val (.int p3), .val (.long q4), .second, .val (.long q5), .second, .val (.long q6), .second, .val (.int (own_d3 p0 B p3 q4 q5 q6))] [(.int (Int32.ofNat S)), (.int (own_d3 p0 B p3 q4 q5 q6))])) (s₁.setTop (mkF m 102 #[.val (.int p0), .val (.int (Int32.ofNat B)), .val (.int (Int32.ofNat S)), .val (.int p3), .val (.long q4), .second, .val (.long q5), .second, .val (.long q6), .second, .val (.int (own_d3 p0 B p3 q4 q5 q6))] [(.int (1 : Int32))])) := by
          intro t ht
          refine XS.icmpNo X0.here hx rfl (hb hby d_full_94) rfl (flt hc41).1 ?_
          show Steps p.tables e below (s₁.setTop (mkF m 97 #[.val (.int p0), .val (.int (Int32.ofNat B)), .val (.int (Int32.ofNat S)), .val (.int p3), .val (.long q4), .second, .val (.long q5), .second, .val (.long q6), .second, .val (.int (own_d3 p0 B p3 q4 q5 q6))] [])) _
          refine XS.iconst X0.here hx rfl (hb hby d_full_97) ?_
          show Steps p.tables e below (s₁.setTop (mkF m 98 #[.val (.int p0), .val (.int (Int32.ofNat B)), .val (.int (Int32.ofNat S)), .val (.int p3), .val (.long q4), .second, .val (.long q5), .second, .val (.long q6), .second, .val (.int (own_d3 p0 B p3 q4 q5 q6))] [(.int (1 : Int32))])) _
          refine XS.goto X0.here hx rfl (pc0 := 98) (pc' := 102) rfl (hb hby d_full_98) (by decide) (by decide) ?_
          exact ht
        have kk := k43
        simpa only [if_pos hc2, if_neg hc41] using kk
    obtain ⟨fs, hr, hrun, hended, hW, hsame⟩ := X0.leave (v := some (.int (if (own_d3 p0 B p3 q4 q5 q6) < (Int32.ofNat S) then (0 : Int32) else (1 : Int32)))) (fun h => by rw [Bd.returns] at h; cases h)
    refine ⟨_, _, pre0 _ ((goT k1 (goT k3 (goT k4 (goT k11 (goT k12 (goT k13 (goT k23 (goT k24 (goT k25 (goT k38 (goT k39 k40))))))))))) _ (retI X0 hx Bd.returns (hb hby d_full_102) hr)), hrun, hended, _, _, rfl, ?_, ⟨_, rfl⟩, hW, hsame.mono (by decide) (by decide)⟩
    show Q_full Z p0 B S p3 q4 q5 q6 h0 n0 _ s₁.heap _
    rw [e0]
    exact ⟨by simp only [f_full, if_pos hc2], N0, rfl⟩
  · have k44 : Go p.tables e below (s₁.setTop (mkF m 2 #[.val (.int p0), .val (.int (Int32.ofNat B)), .val (.int (Int32.ofNat S)), .val (.int p3), .val (.long q4), .second, .val (.long q5), .second, .val (.long q6), .second, .unset] [(.int (Int32.ofNat B)), (.int p0)])) (s₁.setTop (mkF m 6 #[.val (.int p0), .val (.int (Int32.ofNat B)), .val (.int (Int32.ofNat S)), .val (.int p3), .val (.long q4), .second, .val (.long q5), .second, .val (.long q6), .second, .unset] [(.int (0 : Int32))])) := by
      intro t ht
      refine XS.icmpNo X0.here hx rfl (hb hby d_full_2) rfl (flt hc2).1 ?_
      show Steps p.tables e below (s₁.setTop (mkF m 5 #[.val (.int p0), .val (.int (Int32.ofNat B)), .val (.int (Int32.ofNat S)), .val (.int p3), .val (.long q4), .second, .val (.long q5), .second, .val (.long q6), .second, .unset] [])) _
      refine XS.iconst X0.here hx rfl (hb hby d_full_5) ?_
      exact ht
    obtain ⟨fs, hr, hrun, hended, hW, hsame⟩ := X0.leave (v := some (.int (0 : Int32))) (fun h => by rw [Bd.returns] at h; cases h)
    refine ⟨_, _, pre0 _ ((goT k1 k44) _ (retI X0 hx Bd.returns (hb hby d_full_6) hr)), hrun, hended, _, _, rfl, ?_, ⟨_, rfl⟩, hW, hsame.mono (by decide) (by decide)⟩
    show Q_full Z p0 B S p3 q4 q5 q6 h0 n0 _ s₁.heap _
    rw [e0]
    exact ⟨by simp only [f_full, if_neg hc2], N0, rfl⟩
theorem own_getB (x : Int32) : ∃ B : Nat, (1 ≤ B ∧ B ≤ 4) ∧ (((x &&& (2147483647 : Int32)) - (((x &&& (2147483647 : Int32)) / (4 : Int32)) * (4 : Int32))) + (1 : Int32)) = Int32.ofNat B := by
  have hn : x.toBitVec.toNat % 2 ^ 31 < 2 ^ 31 := Nat.mod_lt _ (by decide)
  have e : (x &&& (2147483647 : Int32)) - (((x &&& (2147483647 : Int32)) / (4 : Int32)) * (4 : Int32)) = Int32.ofNat (x.toBitVec.toNat % 2 ^ 31 % 4) := by
    rw [own_and x 2147483647 31 (by decide) (by decide)]; exact own_remE hn (by decide) (by decide)
  have h4 : x.toBitVec.toNat % 2 ^ 31 % 4 < 4 := Nat.mod_lt _ (by decide)
  exact ⟨x.toBitVec.toNat % 2 ^ 31 % 4 + 1, by omega, by rw [e]; exact own_addk1⟩
theorem own_getS (x : Int32) : ∃ B : Nat, (1 ≤ B ∧ B ≤ 3) ∧ (((x &&& (2147483647 : Int32)) - (((x &&& (2147483647 : Int32)) / (3 : Int32)) * (3 : Int32))) + (1 : Int32)) = Int32.ofNat B := by
  have hn : x.toBitVec.toNat % 2 ^ 31 < 2 ^ 31 := Nat.mod_lt _ (by decide)
  have e : (x &&& (2147483647 : Int32)) - (((x &&& (2147483647 : Int32)) / (3 : Int32)) * (3 : Int32)) = Int32.ofNat (x.toBitVec.toNat % 2 ^ 31 % 3) := by
    rw [own_and x 2147483647 31 (by decide) (by decide)]; exact own_remE hn (by decide) (by decide)
  have h4 : x.toBitVec.toNat % 2 ^ 31 % 3 < 3 := Nat.mod_lt _ (by decide)
  exact ⟨x.toBitVec.toNat % 2 ^ 31 % 3 + 1, by omega, by rw [e]; exact own_addk1⟩
theorem own_and3c (x : Int32) : x &&& (3 : Int32) = (0 : Int32) ∨ x &&& (3 : Int32) = (1 : Int32) ∨ x &&& (3 : Int32) = (2 : Int32) ∨ x &&& (3 : Int32) = (3 : Int32) := by
  rw [own_and x 3 2 (by decide) (by decide)]
  have h : x.toBitVec.toNat % 2 ^ 2 < 4 := Nat.mod_lt _ (by decide)
  generalize x.toBitVec.toNat % 2 ^ 2 = n at h
  exact (by decide +kernel : ∀ n : Fin 4, Int32.ofNat n.val = (0 : Int32) ∨ Int32.ofNat n.val = (1 : Int32) ∨ Int32.ofNat n.val = (2 : Int32) ∨ Int32.ofNat n.val = (3 : Int32)) ⟨n, h⟩
theorem own_i64 : ∀ x : Fin 256, (Int32.ofNat x.val).toInt64 = Int64.ofNat x.val := by decide +kernel
theorem own_HH (x : Int32) : own_H ((x &&& (255 : Int32)).toInt64) := by
  rw [own_and x 255 8 (by decide) (by decide)]
  have h : x.toBitVec.toNat % 2 ^ 8 < 256 := Nat.mod_lt _ (by decide)
  exact ⟨_, h, own_i64 ⟨_, h⟩⟩
def own_tot (B S : Nat) (k : Int32) (h0 h1 h2 : Int64) : Int32 := ((((f_full (0 : Int32) B S k h0 h1 h2) + (f_full (1 : Int32) B S k h0 h1 h2)) + (f_full (2 : Int32) B S k h0 h1 h2)) + (f_full (3 : Int32) B S k h0 h1 h2))
theorem own_full01 (b : Int32) (B S : Nat) (k : Int32) (h0 h1 h2 : Int64) : f_full b B S k h0 h1 h2 = 0 ∨ f_full b B S k h0 h1 h2 = 1 := by
  unfold f_full
  (repeat' split) <;> simp
theorem own_totLe (B S : Nat) (k : Int32) (h0 h1 h2 : Int64) : ∃ m : Nat, m ≤ 4 ∧ own_tot B S k h0 h1 h2 = Int32.ofNat m := by
  unfold own_tot
  rcases own_full01 0 B S k h0 h1 h2 with a | a <;> rcases own_full01 1 B S k h0 h1 h2 with b | b <;> rcases own_full01 2 B S k h0 h1 h2 with c | c <;> rcases own_full01 3 B S k h0 h1 h2 with d | d <;> rw [a, b, c, d] <;> first | exact ⟨0, by decide, by decide⟩ | exact ⟨1, by decide, by decide⟩ | exact ⟨2, by decide, by decide⟩ | exact ⟨3, by decide, by decide⟩ | exact ⟨4, by decide, by decide⟩
theorem own_nan55 : ∀ m : Fin 5, ∀ b : Fin 5, 1 ≤ b.val → FP.ddiv (FP.i2d (Int32.ofNat m.val)) (FP.i2d (Int32.ofNat b.val)) &&& 0x7fffffffffffffff ≤ 0x7ff0000000000000 := by decide +kernel
theorem own_nanF {B S : Nat} {k y : Int32} {h0 h1 h2 : Int64} (hB : 1 ≤ B ∧ B ≤ 4) (e : y = own_tot B S k h0 h1 h2) : Jvm.Free.Fl.NoNaN64 (FP.ddiv (FP.i2d y) (FP.i2d (Int32.ofNat B))) := by
  obtain ⟨m, h1, h2⟩ := own_totLe B S k h0 h1 h2
  rw [e, h2]
  exact own_nan55 ⟨m, by omega⟩ ⟨B, by omega⟩ hB.1
theorem own_fin {B S : Nat} {y : Int32} {cs : List Int64} (hB : 1 ≤ B ∧ B ≤ 4) (hS : 1 ≤ S ∧ S ≤ 3) (e : own_share B S cs = y.toInt64) : cmpValue (FP.dcmp (FP.ddiv (FP.l2d (own_share B S cs)) (FP.i2d (Int32.ofNat B))) (FP.ddiv (FP.i2d y) (FP.i2d (Int32.ofNat B)))) .l = (0 : Int32) :=
  dcmpV_eq (by rw [e, ← i2d_w y]) (own_nanS hB hS cs) .l
-- the table after k records
def own_p (B S : Nat) (h : Int64) (hs cs : List Int64) : Nat := (own_n h B S) + (f_rec00 (own_n h B S) S h hs cs)
def own_h1 (B S : Nat) (h0 : Int64) : List Int64 := own_Z.set (own_p B S h0 own_Z own_Z) h0
def own_c1 (B S : Nat) (h0 : Int64) : List Int64 := own_Z.set (own_p B S h0 own_Z own_Z) (1 : Int64)
def own_h2 (B S : Nat) (h0 h1 : Int64) : List Int64 := (own_h1 B S h0).set (own_p B S h1 (own_h1 B S h0) (own_c1 B S h0)) h1
def own_c2 (B S : Nat) (h0 h1 : Int64) : List Int64 := (own_c1 B S h0).set (own_p B S h1 (own_h1 B S h0) (own_c1 B S h0)) (2 : Int64)
def own_c3 (B S : Nat) (h0 h1 h2 : Int64) : List Int64 := (own_c2 B S h0 h1).set (own_p B S h2 (own_h2 B S h0 h1) (own_c2 B S h0 h1)) (3 : Int64)
def own_Rel (h h' : Int64) (hs cs hs' : List Int64) : Prop := ∀ i : Nat, ¬ cs.getD i 0 = (0 : Int64) → (hs.getD i 0 = h ↔ hs'.getD i 0 = h')
theorem own_cong {h h' : Int64} {hs cs hs' : List Int64} (R : own_Rel h h' hs cs hs') (n S : Nat) : f_rec00 n S h hs cs = f_rec00 n S h' hs' cs := by
  have g : ∀ (i x y : Nat), (if hs.getD i 0 = h then (if cs.getD i 0 = (0 : Int64) then x else y) else x) = (if hs'.getD i 0 = h' then (if cs.getD i 0 = (0 : Int64) then x else y) else x) := by
    intro i x y
    by_cases hc : cs.getD i 0 = (0 : Int64)
    · rw [if_pos hc, ite_self, ite_self]
    · rw [if_neg hc]
      by_cases ha : hs.getD i 0 = h
      · rw [if_pos ha, if_pos ((R i hc).mp ha)]
      · rw [if_neg ha, if_neg (fun q => ha ((R i hc).mpr q))]
  unfold f_rec00 f_rec10 f_rec20 f_rec21 f_rec30 f_rec31 f_rec32
  rw [g (n + 0), g (n + 1), g (n + 2), g (n + 2)]
theorem own_Zget (i : Nat) : own_Z.getD i 0 = (0 : Int64) := by
  unfold own_Z
  rw [List.getD_eq_getElem?_getD, List.getElem?_replicate]
  split <;> rfl
theorem own_rel0 (h h' : Int64) : own_Rel h h' own_Z own_Z own_Z := fun i hi => absurd (own_Zget i) hi
theorem own_relSet {h h' v v' c : Int64} {hs cs hs' : List Int64} {p : Nat} (R : own_Rel h h' hs cs hs') (hv : v = h ↔ v' = h') (l1 : hs.length = 12) (l2 : cs.length = 12) (l3 : hs'.length = 12) : own_Rel h h' (hs.set p v) (cs.set p c) (hs'.set p v') := by
  intro i hi
  have R1 := R i
  rw [List.getD_eq_getElem?_getD, List.getElem?_set] at hi
  rw [List.getD_eq_getElem?_getD, List.getD_eq_getElem?_getD, List.getElem?_set, List.getElem?_set]
  rw [List.getD_eq_getElem?_getD, List.getD_eq_getElem?_getD, List.getD_eq_getElem?_getD] at R1
  by_cases e : p = i
  · rw [if_pos e] at hi ⊢
    by_cases q : i < 12
    · rw [if_pos e, if_pos (by omega), if_pos (by omega)]; exact hv
    · rw [if_neg (by omega)] at hi; exact absurd rfl hi
  · rw [if_neg e] at hi ⊢
    rw [if_neg e]
    exact R1 hi
theorem own_l1 {B S h0} : (own_h1 B S h0).length = 12 := by simp [own_h1, own_Z]
theorem own_l2 {B S h0} : (own_c1 B S h0).length = 12 := by simp [own_c1, own_Z]
theorem own_lZ : own_Z.length = 12 := by simp [own_Z]
theorem own_p0 {B S : Nat} {h h' : Int64} (n0 : own_n h B S = own_n h' B S) : own_p B S h own_Z own_Z = own_p B S h' own_Z own_Z := by
  unfold own_p
  rw [n0, own_cong (own_rel0 h h')]
theorem own_c1T {B S : Nat} {h h' : Int64} (n0 : own_n h B S = own_n h' B S) : own_c1 B S h = own_c1 B S h' := by
  unfold own_c1; rw [own_p0 n0]
theorem own_p1 {B S : Nat} {h0 h0' h1 h1' : Int64} (n0 : own_n h0 B S = own_n h0' B S) (n1 : own_n h1 B S = own_n h1' B S) (i10 : h0 = h1 ↔ h0' = h1') : own_p B S h1 (own_h1 B S h0) (own_c1 B S h0) = own_p B S h1' (own_h1 B S h0') (own_c1 B S h0') := by
  have R : own_Rel h1 h1' (own_h1 B S h0) (own_c1 B S h0) (own_h1 B S h0') := by
    unfold own_h1 own_c1; rw [own_p0 n0]; exact own_relSet (own_rel0 _ _) i10 own_lZ own_lZ own_lZ
  unfold own_p
  rw [n1, own_cong R, own_c1T n0]
theorem own_c2T {B S : Nat} {h0 h0' h1 h1' : Int64} (n0 : own_n h0 B S = own_n h0' B S) (n1 : own_n h1 B S = own_n h1' B S) (i10 : h0 = h1 ↔ h0' = h1') : own_c2 B S h0 h1 = own_c2 B S h0' h1' := by
  unfold own_c2; rw [own_p1 n0 n1 i10, own_c1T n0]
theorem own_c3T {B S : Nat} {h0 h0' h1 h1' h2 h2' : Int64} (n0 : own_n h0 B S = own_n h0' B S) (n1 : own_n h1 B S = own_n h1' B S) (n2 : own_n h2 B S = own_n h2' B S) (i10 : h0 = h1 ↔ h0' = h1') (i20 : h0 = h2 ↔ h0' = h2') (i21 : h1 = h2 ↔ h1' = h2') : own_c3 B S h0 h1 h2 = own_c3 B S h0' h1' h2' := by
  have R1 : own_Rel h2 h2' (own_h1 B S h0) (own_c1 B S h0) (own_h1 B S h0') := by
    unfold own_h1 own_c1; rw [own_p0 n0]; exact own_relSet (own_rel0 _ _) i20 own_lZ own_lZ own_lZ
  have R : own_Rel h2 h2' (own_h2 B S h0 h1) (own_c2 B S h0 h1) (own_h2 B S h0' h1') := by
    unfold own_h2 own_c2; rw [own_p1 n0 n1 i10]; exact own_relSet R1 i21 own_l1 own_l2 own_l1
  have e : own_p B S h2 (own_h2 B S h0 h1) (own_c2 B S h0 h1) = own_p B S h2' (own_h2 B S h0' h1') (own_c2 B S h0' h1') := by
    unfold own_p
    rw [n2, own_cong R, own_c2T n0 n1 i10]
  unfold own_c3; rw [e, own_c2T n0 n1 i10]
theorem own_totT {B S : Nat} {k : Int32} {h0 h0' h1 h1' h2 h2' : Int64}
    (r0 : (h0 - ((h0 / ((Int32.ofNat B).toInt64)) * ((Int32.ofNat B).toInt64))) = (h0' - ((h0' / ((Int32.ofNat B).toInt64)) * ((Int32.ofNat B).toInt64))))
    (r1 : (h1 - ((h1 / ((Int32.ofNat B).toInt64)) * ((Int32.ofNat B).toInt64))) = (h1' - ((h1' / ((Int32.ofNat B).toInt64)) * ((Int32.ofNat B).toInt64))))
    (r2 : (h2 - ((h2 / ((Int32.ofNat B).toInt64)) * ((Int32.ofNat B).toInt64))) = (h2' - ((h2' / ((Int32.ofNat B).toInt64)) * ((Int32.ofNat B).toInt64))))
    (i10 : h1 = h0 ↔ h1' = h0') (i20 : h2 = h0 ↔ h2' = h0') (i21 : h2 = h1 ↔ h2' = h1') : own_tot B S k h0 h1 h2 = own_tot B S k h0' h1' h2' := by
  have d1 : ∀ b, own_d1 b B k h0 = own_d1 b B k h0' := fun b => by unfold own_d1; rw [r0]
  have d2 : ∀ b, own_d2 b B k h0 h1 = own_d2 b B k h0' h1' := fun b => by unfold own_d2; rw [r1, d1]; simp only [i10]
  have d3 : ∀ b, own_d3 b B k h0 h1 h2 = own_d3 b B k h0' h1' h2' := fun b => by unfold own_d3; rw [r2, d2]; simp only [i20, i21]
  have ff : ∀ b, f_full b B S k h0 h1 h2 = f_full b B S k h0' h1' h2' := fun b => by unfold f_full; rw [d3]
  unfold own_tot
  rw [ff, ff, ff, ff]
def own_i (n : Nat) : Int64 := Int64.ofNat n
def own_ok (B S : Nat) (a0 a1 a2 : Nat) : Bool :=
  decide (own_share B S own_Z = (own_tot B S 0 (own_i a0) (own_i a1) (own_i a2)).toInt64) && decide (own_share B S (own_c1 B S (own_i a0)) = (own_tot B S 1 (own_i a0) (own_i a1) (own_i a2)).toInt64) && decide (own_share B S (own_c2 B S (own_i a0) (own_i a1)) = (own_tot B S 2 (own_i a0) (own_i a1) (own_i a2)).toInt64) && decide (own_share B S (own_c3 B S (own_i a0) (own_i a1) (own_i a2)) = (own_tot B S 3 (own_i a0) (own_i a1) (own_i a2)).toInt64)
def own_chk (B S : Nat) : Bool := (List.range B).all fun a0 => (a0 :: (List.range B).map (· + B)).all fun a1 => (a0 :: a1 :: (List.range B).map (· + 2 * B)).all fun a2 => own_ok B S a0 a1 a2
theorem own_chkA : ∀ b : Fin 5, ∀ s : Fin 4, 1 ≤ b.val → 1 ≤ s.val → own_chk b.val s.val = true := by decide +kernel
theorem own_inj {x y : Nat} (hx : x < 256) (hy : y < 256) : own_i x = own_i y ↔ x = y := by
  constructor
  · intro e
    have h : (own_i x).toInt.toNat = (own_i y).toInt.toNat := congrArg (fun z : Int64 => z.toInt.toNat) e
    exact (own_toNat hx).symm.trans (h.trans (own_toNat hy))
  · intro e; rw [e]
theorem own_remL : ∀ x : Fin 256, ∀ b : Fin 5, 1 ≤ b.val → ((own_i x.val) - (((own_i x.val) / ((Int32.ofNat b.val).toInt64)) * ((Int32.ofNat b.val).toInt64))) = own_i (x.val % b.val) := by decide +kernel
theorem own_remT {B x y : Nat} (hB : 1 ≤ B ∧ B ≤ 4) (hx : x < 256) (hy : y < 256) (e : x % B = y % B) : ((own_i x) - (((own_i x) / ((Int32.ofNat B).toInt64)) * ((Int32.ofNat B).toInt64))) = ((own_i y) - (((own_i y) / ((Int32.ofNat B).toInt64)) * ((Int32.ofNat B).toInt64))) := by
  have h1 := own_remL ⟨x, hx⟩ ⟨B, by omega⟩ hB.1
  have h2 := own_remL ⟨y, hy⟩ ⟨B, by omega⟩ hB.1
  exact h1.trans ((congrArg own_i e).trans h2.symm)
theorem own_nT {B S x y : Nat} (hx : x < 256) (hy : y < 256) (e : x % B = y % B) : own_n (own_i x) B S = own_n (own_i y) B S := by
  unfold own_n own_i
  rw [own_toNat hx, own_toNat hy, e]
theorem own_pick {B : Nat} (hB : 1 ≤ B ∧ B ≤ 4) (x0 x1 x2 : Nat) : ∃ a0 a1 a2 : Nat, a0 ∈ List.range B ∧ a1 ∈ (a0 :: (List.range B).map (· + B)) ∧ a2 ∈ (a0 :: a1 :: (List.range B).map (· + 2 * B)) ∧ (x0 % B = a0 % B ∧ x1 % B = a1 % B ∧ x2 % B = a2 % B) ∧ (a0 < 256 ∧ a1 < 256 ∧ a2 < 256) ∧ (x1 = x0 ↔ a1 = a0) ∧ (x2 = x0 ↔ a2 = a0) ∧ (x2 = x1 ↔ a2 = a1) := by
  have m0 : x0 % B < B := Nat.mod_lt _ hB.1
  have m1 : x1 % B < B := Nat.mod_lt _ hB.1
  have m2 : x2 % B < B := Nat.mod_lt _ hB.1
  have e0 : x0 % B % B = x0 % B := Nat.mod_mod _ _
  have e1 : (x1 % B + B) % B = x1 % B := by rw [Nat.add_mod_right, Nat.mod_mod]
  have e2 : (x2 % B + 2 * B) % B = x2 % B := by rw [Nat.add_mul_mod_self_right, Nat.mod_mod]
  have r1 : x1 % B + B ∈ (List.range B).map (· + B) := List.mem_map.mpr ⟨_, List.mem_range.mpr m1, rfl⟩
  have r2 : x2 % B + 2 * B ∈ (List.range B).map (· + 2 * B) := List.mem_map.mpr ⟨_, List.mem_range.mpr m2, rfl⟩
  by_cases h10 : x1 = x0
  · subst h10
    by_cases h20 : x2 = x1
    · subst h20
      exact ⟨x2 % B, x2 % B, x2 % B, List.mem_range.mpr m0, List.mem_cons_self, List.mem_cons_self, ⟨e0.symm, e0.symm, e0.symm⟩, by omega, by simp, by simp, by simp⟩
    · exact ⟨x1 % B, x1 % B, x2 % B + 2 * B, List.mem_range.mpr m0, List.mem_cons_self, List.mem_cons_of_mem _ (List.mem_cons_of_mem _ r2), ⟨e0.symm, e0.symm, e2.symm⟩, by omega, by simp, by omega, by omega⟩
  · by_cases h20 : x2 = x0
    · subst h20
      exact ⟨x2 % B, x1 % B + B, x2 % B, List.mem_range.mpr m0, List.mem_cons_of_mem _ r1, List.mem_cons_self, ⟨e0.symm, e1.symm, e0.symm⟩, by omega, by omega, by simp, by omega⟩
    · by_cases h21 : x2 = x1
      · subst h21
        exact ⟨x0 % B, x2 % B + B, x2 % B + B, List.mem_range.mpr m0, List.mem_cons_of_mem _ r1, List.mem_cons_of_mem _ List.mem_cons_self, ⟨e0.symm, e1.symm, e1.symm⟩, by omega, by omega, by omega, by simp⟩
      · exact ⟨x0 % B, x1 % B + B, x2 % B + 2 * B, List.mem_range.mpr m0, List.mem_cons_of_mem _ r1, List.mem_cons_of_mem _ (List.mem_cons_of_mem _ r2), ⟨e0.symm, e1.symm, e2.symm⟩, by omega, by omega, by omega, by omega⟩
theorem own_count {B S : Nat} {h0 h1 h2 : Int64} (hB : 1 ≤ B ∧ B ≤ 4) (hS : 1 ≤ S ∧ S ≤ 3) (H0 : own_H h0) (H1 : own_H h1) (H2 : own_H h2) :
    own_share B S own_Z = (own_tot B S 0 h0 h1 h2).toInt64 ∧ own_share B S (own_c1 B S h0) = (own_tot B S 1 h0 h1 h2).toInt64 ∧ own_share B S (own_c2 B S h0 h1) = (own_tot B S 2 h0 h1 h2).toInt64 ∧ own_share B S (own_c3 B S h0 h1 h2) = (own_tot B S 3 h0 h1 h2).toInt64 := by
  obtain ⟨x0, l0, e0⟩ := H0
  obtain ⟨x1, l1, e1⟩ := H1
  obtain ⟨x2, l2, e2⟩ := H2
  obtain rfl : h0 = own_i x0 := e0
  obtain rfl : h1 = own_i x1 := e1
  obtain rfl : h2 = own_i x2 := e2
  obtain ⟨a0, a1, a2, M0, M1, M2, ⟨q0, q1, q2⟩, ⟨b0, b1, b2⟩, i10, i20, i21⟩ := own_pick hB x0 x1 x2
  have ck := own_chkA ⟨B, by omega⟩ ⟨S, by omega⟩ hB.1 hS.1
  have ok : own_ok B S a0 a1 a2 = true := List.all_eq_true.mp (List.all_eq_true.mp (List.all_eq_true.mp ck a0 M0) a1 M1) a2 M2
  unfold own_ok at ok
  simp only [Bool.and_eq_true, decide_eq_true_eq] at ok
  obtain ⟨⟨⟨k0, k1⟩, k2⟩, k3⟩ := ok
  have j10 : own_i x1 = own_i x0 ↔ own_i a1 = own_i a0 := by rw [own_inj l1 l0, own_inj b1 b0]; exact i10
  have j20 : own_i x2 = own_i x0 ↔ own_i a2 = own_i a0 := by rw [own_inj l2 l0, own_inj b2 b0]; exact i20
  have j21 : own_i x2 = own_i x1 ↔ own_i a2 = own_i a1 := by rw [own_inj l2 l1, own_inj b2 b1]; exact i21
  have T : ∀ k, own_tot B S k (own_i x0) (own_i x1) (own_i x2) = own_tot B S k (own_i a0) (own_i a1) (own_i a2) := fun k => own_totT (own_remT hB l0 b0 q0) (own_remT hB l1 b1 q1) (own_remT hB l2 b2 q2) j10 j20 j21
  have n0 := own_nT (S := S) l0 b0 q0
  have n1 := own_nT (S := S) l1 b1 q1
  have n2 := own_nT (S := S) l2 b2 q2
  have g10 : own_i x0 = own_i x1 ↔ own_i a0 = own_i a1 := ⟨fun h => (j10.mp h.symm).symm, fun h => (j10.mpr h.symm).symm⟩
  have g20 : own_i x0 = own_i x2 ↔ own_i a0 = own_i a2 := ⟨fun h => (j20.mp h.symm).symm, fun h => (j20.mpr h.symm).symm⟩
  have g21 : own_i x1 = own_i x2 ↔ own_i a1 = own_i a2 := ⟨fun h => (j21.mp h.symm).symm, fun h => (j21.mpr h.symm).symm⟩
  refine ⟨?_, ?_, ?_, ?_⟩
  · rw [T]; exact k0
  · rw [T, own_c1T n0]; exact k1
  · rw [T, own_c2T n0 n1 g10]; exact k2
  · rw [T, own_c3T n0 n1 n2 g10 g20 g21]; exact k3
theorem own_final0 {B S : Nat} {y : Int32} {h0 h1 h2 : Int64} (hB : 1 ≤ B ∧ B ≤ 4) (hS : 1 ≤ S ∧ S ≤ 3) (H0 : own_H h0) (H1 : own_H h1) (H2 : own_H h2) (e : y = own_tot B S 0 h0 h1 h2) : cmpValue (FP.dcmp (FP.ddiv (FP.l2d (own_share B S own_Z)) (FP.i2d (Int32.ofNat B))) (FP.ddiv (FP.i2d y) (FP.i2d (Int32.ofNat B)))) .l = (0 : Int32) := own_fin hB hS (by rw [e]; exact (own_count hB hS H0 H1 H2).1)
theorem own_final1 {B S : Nat} {y : Int32} {h0 h1 h2 : Int64} (hB : 1 ≤ B ∧ B ≤ 4) (hS : 1 ≤ S ∧ S ≤ 3) (H0 : own_H h0) (H1 : own_H h1) (H2 : own_H h2) (e : y = own_tot B S 1 h0 h1 h2) : cmpValue (FP.dcmp (FP.ddiv (FP.l2d (own_share B S (own_c1 B S h0))) (FP.i2d (Int32.ofNat B))) (FP.ddiv (FP.i2d y) (FP.i2d (Int32.ofNat B)))) .l = (0 : Int32) := own_fin hB hS (by rw [e]; exact (own_count hB hS H0 H1 H2).2.1)
theorem own_final2 {B S : Nat} {y : Int32} {h0 h1 h2 : Int64} (hB : 1 ≤ B ∧ B ≤ 4) (hS : 1 ≤ S ∧ S ≤ 3) (H0 : own_H h0) (H1 : own_H h1) (H2 : own_H h2) (e : y = own_tot B S 2 h0 h1 h2) : cmpValue (FP.dcmp (FP.ddiv (FP.l2d (own_share B S (own_c2 B S h0 h1))) (FP.i2d (Int32.ofNat B))) (FP.ddiv (FP.i2d y) (FP.i2d (Int32.ofNat B)))) .l = (0 : Int32) := own_fin hB hS (by rw [e]; exact (own_count hB hS H0 H1 H2).2.2.1)
theorem own_final3 {B S : Nat} {y : Int32} {h0 h1 h2 : Int64} (hB : 1 ≤ B ∧ B ≤ 4) (hS : 1 ≤ S ∧ S ≤ 3) (H0 : own_H h0) (H1 : own_H h1) (H2 : own_H h2) (e : y = own_tot B S 3 h0 h1 h2) : cmpValue (FP.dcmp (FP.ddiv (FP.l2d (own_share B S (own_c3 B S h0 h1 h2))) (FP.i2d (Int32.ofNat B))) (FP.ddiv (FP.i2d y) (FP.i2d (Int32.ofNat B)))) .l = (0 : Int32) := own_fin hB hS (by rw [e]; exact (own_count hB hS H0 H1 H2).2.2.2)
theorem pd_2 : parseMethodDescriptor "(II)V" = some ⟨[.int, .int], none⟩ := by decide +kernel
theorem pd_3 : parseMethodDescriptor "(IIIIJJJ)I" = some ⟨[.int, .int, .int, .int, .long, .long, .long], some .int⟩ := by decide +kernel
theorem pd_4 : parseMethodDescriptor "()D" = some ⟨[], some .double⟩ := by decide +kernel
theorem pd_5 : parseMethodDescriptor "(J[J)V" = some ⟨[.long, (.array .long)], none⟩ := by decide +kernel
theorem ef_law (m : MethodId) (x0 : Int32) (x1 : Int32) (x2 : Int32) (x3 : Int32) (x4 : Int32) (x5 : Int32) : entryFrame m #[(.int x0), (.int x1), (.int x2), (.int x3), (.int x4), (.int x5)] maxLocals = mkF m 0 #[.val (.int x0), .val (.int x1), .val (.int x2), .val (.int x3), .val (.int x4), .val (.int x5), .unset, .unset, .unset, .unset, .unset, .unset, .unset, .unset, .unset, .unset, .unset, .unset, .unset] [] := by first | (simp [entryFrame, mkF, argsToLocals, Value.category, maxLocals]; done) | rfl
def Q_law (Z : State) (p0 : Int32) (p1 : Int32) (p2 : Int32) (p3 : Int32) (p4 : Int32) (p5 : Int32) (h0 : Heap) (n0 : Nat) (v : Option Value) (h : Heap) (L : List Loc) : Prop := v = some (.int (1 : Int32)) ∧ Fr n0 L
set_option maxRecDepth 65536 in
set_option maxHeartbeats 40000000 in
theorem rm_law (l : Launch) (Z : State) (a0 : Array Value) (hw : ∀ d ∈ tables_1, d.before a0 Z = true) (ws : List Jvm.Cond) (p0 : Int32) (p1 : Int32) (p2 : Int32) (p3 : Int32) (p4 : Int32) (p5 : Int32) (h0 : Heap) (n0 : Nat) (Z0 : n0 ≤ h0.size) :
    MetFree l x (head1 (Jvm.Cond.code x code maxLocals ret :: ws) room_1) (fun a U => a = #[(.int p0), (.int p1), (.int p2), (.int p3), (.int p4), (.int p5)] ∧ Z.Warmed39 U.vm ∧ U.heap = h0) (fun _ _ _ _ _ => True) (fun _ U o U' => ∃ v L, o = .returned v ∧ Q_law Z p0 p1 p2 p3 p4 p5 h0 n0 v U'.heap L ∧ FrameEnd U o U' L room_1.cells room_1.slots) := by
  refine MetFree.of_bodySF (plainFor_of_name pn_2) hisR ?_
  intro p e s m args below meth c s₁ Bd hml0 hP hK
  obtain ⟨rfl, hZ, hh⟩ := hP
  have hx := Bd.exec
  have hby := Bd.bytes
  have hml : c.maxLocals = 19 := hml0
  have hown : s.vm.findClass "com/example/auspex/auspex/manager/ConflictTableFullBucketSharePinLaw" = some m.cls := findClass_of_methodNamed Bd.named
  have hnm := (name_of_methodNamed Bd.named Bd.method).1
  have X0 : Stand p l e room_1 s m #[(.int p0), (.int p1), (.int p2), (.int p3), (.int p4), (.int p5)] below meth c s₁ [] 0 0 := Stand.of_body Bd
  have e0 : s₁.heap = h0 := by rw [← hh, Bd.state]; rfl
  have N0 := Fr.nil n0
  have pre0 : ∀ t, Steps p.tables e below (s₁.setTop (mkF m 0 #[.val (.int p0), .val (.int p1), .val (.int p2), .val (.int p3), .val (.int p4), .val (.int p5), .unset, .unset, .unset, .unset, .unset, .unset, .unset, .unset, .unset, .unset, .unset, .unset, .unset] [])) t → Steps p.tables e below (s₁.setTop (entryFrame m #[(.int p0), (.int p1), (.int p2), (.int p3), (.int p4), (.int p5)] maxLocals)) t := fun t k => castTop (ef_law m p0 p1 p2 p3 p4 p5) k
  have k1 : Go p.tables e below (s₁.setTop (mkF m 0 #[.val (.int p0), .val (.int p1), .val (.int p2), .val (.int p3), .val (.int p4), .val (.int p5), .unset, .unset, .unset, .unset, .unset, .unset, .unset, .unset, .unset, .unset, .unset, .unset, .unset] [])) (s₁.setTop (mkF m 51 #[.val (.int p0), .val (.int p1), .val (.int p2), .val (.int p3), .val (.int p4), .val (.int p5), .val (.int (((p0 &&& (2147483647 : Int32)) - (((p0 &&& (2147483647 : Int32)) / (4 : Int32)) * (4 : Int32))) + (1 : Int32))), .val (.int (((p1 &&& (2147483647 : Int32)) - (((p1 &&& (2147483647 : Int32)) / (3 : Int32)) * (3 : Int32))) + (1 : Int32))), .val (.int (p2 &&& (3 : Int32))), .val (.long ((p3 &&& (255 : Int32)).toInt64)), .second, .val (.long ((p4 &&& (255 : Int32)).toInt64)), .second, .val (.long ((p5 &&& (255 : Int32)).toInt64)), .second, .unset, .unset, .unset, .unset] [])) := by
    intro t ht
    refine XS.iloadN X0.here hx rfl (hb hby at_0) rfl ?_
    show Steps p.tables e below (s₁.setTop (mkF m 1 #[.val (.int p0), .val (.int p1), .val (.int p2), .val (.int p3), .val (.int p4), .val (.int p5), .unset, .unset, .unset, .unset, .unset, .unset, .unset, .unset, .unset, .unset, .unset, .unset, .unset] [(.int p0)])) _
    refine X0.ldcInt hx hown (mvT hZ (hw _ (List.mem_of_getElem? (i := 0) rfl))) (g := (mkF m 1 #[.val (.int p0), .val (.int p1), .val (.int p2), .val (.int p3), .val (.int p4), .val (.int p5), .unset, .unset, .unset, .unset, .unset, .unset, .unset, .unset, .unset, .unset, .unset, .unset, .unset] [(.int p0)])) rfl (hb hby at_1) _ ?_
    show Steps p.tables e below (s₁.setTop (mkF m 3 #[.val (.int p0), .val (.int p1), .val (.int p2), .val (.int p3), .val (.int p4), .val (.int p5), .unset, .unset, .unset, .unset, .unset, .unset, .unset, .unset, .unset, .unset, .unset, .unset, .unset] [(.int (2147483647 : Int32)), (.int p0)])) _
    refine XS.iand X0.here hx rfl (hb hby at_3) rfl ?_
    show Steps p.tables e below (s₁.setTop (mkF m 4 #[.val (.int p0), .val (.int p1), .val (.int p2), .val (.int p3), .val (.int p4), .val (.int p5), .unset, .unset, .unset, .unset, .unset, .unset, .unset, .unset, .unset, .unset, .unset, .unset, .unset] [(.int (p0 &&& (2147483647 : Int32)))])) _
    refine XS.iconst X0.here hx rfl (hb hby at_4) ?_
    show Steps p.tables e below (s₁.setTop (mkF m 5 #[.val (.int p0), .val (.int p1), .val (.int p2), .val (.int p3), .val (.int p4), .val (.int p5), .unset, .unset, .unset, .unset, .unset, .unset, .unset, .unset, .unset, .unset, .unset, .unset, .unset] [(.int (4 : Int32)), (.int (p0 &&& (2147483647 : Int32)))])) _
    refine XS.irem X0.here hx rfl (hb hby at_5) rfl (by decide : ¬ ((4 : Int32) = 0)) ?_
    show Steps p.tables e below (s₁.setTop (mkF m 6 #[.val (.int p0), .val (.int p1), .val (.int p2), .val (.int p3), .val (.int p4), .val (.int p5), .unset, .unset, .unset, .unset, .unset, .unset, .unset, .unset, .unset, .unset, .unset, .unset, .unset] [(.int ((p0 &&& (2147483647 : Int32)) - (((p0 &&& (2147483647 : Int32)) / (4 : Int32)) * (4 : Int32))))])) _
    refine XS.iconst X0.here hx rfl (hb hby at_6) ?_
    show Steps p.tables e below (s₁.setTop (mkF m 7 #[.val (.int p0), .val (.int p1), .val (.int p2), .val (.int p3), .val (.int p4), .val (.int p5), .unset, .unset, .unset, .unset, .unset, .unset, .unset, .unset, .unset, .unset, .unset, .unset, .unset] [(.int (1 : Int32)), (.int ((p0 &&& (2147483647 : Int32)) - (((p0 &&& (2147483647 : Int32)) / (4 : Int32)) * (4 : Int32))))])) _
    refine XS.iadd X0.here hx rfl (hb hby at_7) rfl ?_
    show Steps p.tables e below (s₁.setTop (mkF m 8 #[.val (.int p0), .val (.int p1), .val (.int p2), .val (.int p3), .val (.int p4), .val (.int p5), .unset, .unset, .unset, .unset, .unset, .unset, .unset, .unset, .unset, .unset, .unset, .unset, .unset] [(.int (((p0 &&& (2147483647 : Int32)) - (((p0 &&& (2147483647 : Int32)) / (4 : Int32)) * (4 : Int32))) + (1 : Int32)))])) _
    refine XS.istore X0.here hx rfl (hb hby at_8) rfl (l' := #[.val (.int p0), .val (.int p1), .val (.int p2), .val (.int p3), .val (.int p4), .val (.int p5), .val (.int (((p0 &&& (2147483647 : Int32)) - (((p0 &&& (2147483647 : Int32)) / (4 : Int32)) * (4 : Int32))) + (1 : Int32))), .unset, .unset, .unset, .unset, .unset, .unset, .unset, .unset, .unset, .unset, .unset, .unset]) rfl ?_
    show Steps p.tables e below (s₁.setTop (mkF m 10 #[.val (.int p0), .val (.int p1), .val (.int p2), .val (.int p3), .val (.int p4), .val (.int p5), .val (.int (((p0 &&& (2147483647 : Int32)) - (((p0 &&& (2147483647 : Int32)) / (4 : Int32)) * (4 : Int32))) + (1 : Int32))), .unset, .unset, .unset, .unset, .unset, .unset, .unset, .unset, .unset, .unset, .unset, .unset] [])) _
    refine XS.iloadN X0.here hx rfl (hb hby at_10) rfl ?_
    show Steps p.tables e below (s₁.setTop (mkF m 11 #[.val (.int p0), .val (.int p1), .val (.int p2), .val (.int p3), .val (.int p4), .val (.int p5), .val (.int (((p0 &&& (2147483647 : Int32)) - (((p0 &&& (2147483647 : Int32)) / (4 : Int32)) * (4 : Int32))) + (1 : Int32))), .unset, .unset, .unset, .unset, .unset, .unset, .unset, .unset, .unset, .unset, .unset, .unset] [(.int p1)])) _
    refine X0.ldcInt hx hown (mvT hZ (hw _ (List.mem_of_getElem? (i := 0) rfl))) (g := (mkF m 11 #[.val (.int p0), .val (.int p1), .val (.int p2), .val (.int p3), .val (.int p4), .val (.int p5), .val (.int (((p0 &&& (2147483647 : Int32)) - (((p0 &&& (2147483647 : Int32)) / (4 : Int32)) * (4 : Int32))) + (1 : Int32))), .unset, .unset, .unset, .unset, .unset, .unset, .unset, .unset, .unset, .unset, .unset, .unset] [(.int p1)])) rfl (hb hby at_11) _ ?_
    show Steps p.tables e below (s₁.setTop (mkF m 13 #[.val (.int p0), .val (.int p1), .val (.int p2), .val (.int p3), .val (.int p4), .val (.int p5), .val (.int (((p0 &&& (2147483647 : Int32)) - (((p0 &&& (2147483647 : Int32)) / (4 : Int32)) * (4 : Int32))) + (1 : Int32))), .unset, .unset, .unset, .unset, .unset, .unset, .unset, .unset, .unset, .unset, .unset, .unset] [(.int (2147483647 : Int32)), (.int p1)])) _
    refine XS.iand X0.here hx rfl (hb hby at_13) rfl ?_
    show Steps p.tables e below (s₁.setTop (mkF m 14 #[.val (.int p0), .val (.int p1), .val (.int p2), .val (.int p3), .val (.int p4), .val (.int p5), .val (.int (((p0 &&& (2147483647 : Int32)) - (((p0 &&& (2147483647 : Int32)) / (4 : Int32)) * (4 : Int32))) + (1 : Int32))), .unset, .unset, .unset, .unset, .unset, .unset, .unset, .unset, .unset, .unset, .unset, .unset] [(.int (p1 &&& (2147483647 : Int32)))])) _
    refine XS.iconst X0.here hx rfl (hb hby at_14) ?_
    show Steps p.tables e below (s₁.setTop (mkF m 15 #[.val (.int p0), .val (.int p1), .val (.int p2), .val (.int p3), .val (.int p4), .val (.int p5), .val (.int (((p0 &&& (2147483647 : Int32)) - (((p0 &&& (2147483647 : Int32)) / (4 : Int32)) * (4 : Int32))) + (1 : Int32))), .unset, .unset, .unset, .unset, .unset, .unset, .unset, .unset, .unset, .unset, .unset, .unset] [(.int (3 : Int32)), (.int (p1 &&& (2147483647 : Int32)))])) _
    refine XS.irem X0.here hx rfl (hb hby at_15) rfl (by decide : ¬ ((3 : Int32) = 0)) ?_
    show Steps p.tables e below (s₁.setTop (mkF m 16 #[.val (.int p0), .val (.int p1), .val (.int p2), .val (.int p3), .val (.int p4), .val (.int p5), .val (.int (((p0 &&& (2147483647 : Int32)) - (((p0 &&& (2147483647 : Int32)) / (4 : Int32)) * (4 : Int32))) + (1 : Int32))), .unset, .unset, .unset, .unset, .unset, .unset, .unset, .unset, .unset, .unset, .unset, .unset] [(.int ((p1 &&& (2147483647 : Int32)) - (((p1 &&& (2147483647 : Int32)) / (3 : Int32)) * (3 : Int32))))])) _
    refine XS.iconst X0.here hx rfl (hb hby at_16) ?_
    show Steps p.tables e below (s₁.setTop (mkF m 17 #[.val (.int p0), .val (.int p1), .val (.int p2), .val (.int p3), .val (.int p4), .val (.int p5), .val (.int (((p0 &&& (2147483647 : Int32)) - (((p0 &&& (2147483647 : Int32)) / (4 : Int32)) * (4 : Int32))) + (1 : Int32))), .unset, .unset, .unset, .unset, .unset, .unset, .unset, .unset, .unset, .unset, .unset, .unset] [(.int (1 : Int32)), (.int ((p1 &&& (2147483647 : Int32)) - (((p1 &&& (2147483647 : Int32)) / (3 : Int32)) * (3 : Int32))))])) _
    refine XS.iadd X0.here hx rfl (hb hby at_17) rfl ?_
    show Steps p.tables e below (s₁.setTop (mkF m 18 #[.val (.int p0), .val (.int p1), .val (.int p2), .val (.int p3), .val (.int p4), .val (.int p5), .val (.int (((p0 &&& (2147483647 : Int32)) - (((p0 &&& (2147483647 : Int32)) / (4 : Int32)) * (4 : Int32))) + (1 : Int32))), .unset, .unset, .unset, .unset, .unset, .unset, .unset, .unset, .unset, .unset, .unset, .unset] [(.int (((p1 &&& (2147483647 : Int32)) - (((p1 &&& (2147483647 : Int32)) / (3 : Int32)) * (3 : Int32))) + (1 : Int32)))])) _
    refine XS.istore X0.here hx rfl (hb hby at_18) rfl (l' := #[.val (.int p0), .val (.int p1), .val (.int p2), .val (.int p3), .val (.int p4), .val (.int p5), .val (.int (((p0 &&& (2147483647 : Int32)) - (((p0 &&& (2147483647 : Int32)) / (4 : Int32)) * (4 : Int32))) + (1 : Int32))), .val (.int (((p1 &&& (2147483647 : Int32)) - (((p1 &&& (2147483647 : Int32)) / (3 : Int32)) * (3 : Int32))) + (1 : Int32))), .unset, .unset, .unset, .unset, .unset, .unset, .unset, .unset, .unset, .unset, .unset]) rfl ?_
    show Steps p.tables e below (s₁.setTop (mkF m 20 #[.val (.int p0), .val (.int p1), .val (.int p2), .val (.int p3), .val (.int p4), .val (.int p5), .val (.int (((p0 &&& (2147483647 : Int32)) - (((p0 &&& (2147483647 : Int32)) / (4 : Int32)) * (4 : Int32))) + (1 : Int32))), .val (.int (((p1 &&& (2147483647 : Int32)) - (((p1 &&& (2147483647 : Int32)) / (3 : Int32)) * (3 : Int32))) + (1 : Int32))), .unset, .unset, .unset, .unset, .unset, .unset, .unset, .unset, .unset, .unset, .unset] [])) _
    refine XS.iloadN X0.here hx rfl (hb hby at_20) rfl ?_
    show Steps p.tables e below (s₁.setTop (mkF m 21 #[.val (.int p0), .val (.int p1), .val (.int p2), .val (.int p3), .val (.int p4), .val (.int p5), .val (.int (((p0 &&& (2147483647 : Int32)) - (((p0 &&& (2147483647 : Int32)) / (4 : Int32)) * (4 : Int32))) + (1 : Int32))), .val (.int (((p1 &&& (2147483647 : Int32)) - (((p1 &&& (2147483647 : Int32)) / (3 : Int32)) * (3 : Int32))) + (1 : Int32))), .unset, .unset, .unset, .unset, .unset, .unset, .unset, .unset, .unset, .unset, .unset] [(.int p2)])) _
    refine XS.iconst X0.here hx rfl (hb hby at_21) ?_
    show Steps p.tables e below (s₁.setTop (mkF m 22 #[.val (.int p0), .val (.int p1), .val (.int p2), .val (.int p3), .val (.int p4), .val (.int p5), .val (.int (((p0 &&& (2147483647 : Int32)) - (((p0 &&& (2147483647 : Int32)) / (4 : Int32)) * (4 : Int32))) + (1 : Int32))), .val (.int (((p1 &&& (2147483647 : Int32)) - (((p1 &&& (2147483647 : Int32)) / (3 : Int32)) * (3 : Int32))) + (1 : Int32))), .unset, .unset, .unset, .unset, .unset, .unset, .unset, .unset, .unset, .unset, .unset] [(.int (3 : Int32)), (.int p2)])) _
    refine XS.iand X0.here hx rfl (hb hby at_22) rfl ?_
    show Steps p.tables e below (s₁.setTop (mkF m 23 #[.val (.int p0), .val (.int p1), .val (.int p2), .val (.int p3), .val (.int p4), .val (.int p5), .val (.int (((p0 &&& (2147483647 : Int32)) - (((p0 &&& (2147483647 : Int32)) / (4 : Int32)) * (4 : Int32))) + (1 : Int32))), .val (.int (((p1 &&& (2147483647 : Int32)) - (((p1 &&& (2147483647 : Int32)) / (3 : Int32)) * (3 : Int32))) + (1 : Int32))), .unset, .unset, .unset, .unset, .unset, .unset, .unset, .unset, .unset, .unset, .unset] [(.int (p2 &&& (3 : Int32)))])) _
    refine XS.istore X0.here hx rfl (hb hby at_23) rfl (l' := #[.val (.int p0), .val (.int p1), .val (.int p2), .val (.int p3), .val (.int p4), .val (.int p5), .val (.int (((p0 &&& (2147483647 : Int32)) - (((p0 &&& (2147483647 : Int32)) / (4 : Int32)) * (4 : Int32))) + (1 : Int32))), .val (.int (((p1 &&& (2147483647 : Int32)) - (((p1 &&& (2147483647 : Int32)) / (3 : Int32)) * (3 : Int32))) + (1 : Int32))), .val (.int (p2 &&& (3 : Int32))), .unset, .unset, .unset, .unset, .unset, .unset, .unset, .unset, .unset, .unset]) rfl ?_
    show Steps p.tables e below (s₁.setTop (mkF m 25 #[.val (.int p0), .val (.int p1), .val (.int p2), .val (.int p3), .val (.int p4), .val (.int p5), .val (.int (((p0 &&& (2147483647 : Int32)) - (((p0 &&& (2147483647 : Int32)) / (4 : Int32)) * (4 : Int32))) + (1 : Int32))), .val (.int (((p1 &&& (2147483647 : Int32)) - (((p1 &&& (2147483647 : Int32)) / (3 : Int32)) * (3 : Int32))) + (1 : Int32))), .val (.int (p2 &&& (3 : Int32))), .unset, .unset, .unset, .unset, .unset, .unset, .unset, .unset, .unset, .unset] [])) _
    refine XS.iloadN X0.here hx rfl (hb hby at_25) rfl ?_
    show Steps p.tables e below (s₁.setTop (mkF m 26 #[.val (.int p0), .val (.int p1), .val (.int p2), .val (.int p3), .val (.int p4), .val (.int p5), .val (.int (((p0 &&& (2147483647 : Int32)) - (((p0 &&& (2147483647 : Int32)) / (4 : Int32)) * (4 : Int32))) + (1 : Int32))), .val (.int (((p1 &&& (2147483647 : Int32)) - (((p1 &&& (2147483647 : Int32)) / (3 : Int32)) * (3 : Int32))) + (1 : Int32))), .val (.int (p2 &&& (3 : Int32))), .unset, .unset, .unset, .unset, .unset, .unset, .unset, .unset, .unset, .unset] [(.int p3)])) _
    refine XS.sipush X0.here hx rfl (hb hby at_26) ?_
    show Steps p.tables e below (s₁.setTop (mkF m 29 #[.val (.int p0), .val (.int p1), .val (.int p2), .val (.int p3), .val (.int p4), .val (.int p5), .val (.int (((p0 &&& (2147483647 : Int32)) - (((p0 &&& (2147483647 : Int32)) / (4 : Int32)) * (4 : Int32))) + (1 : Int32))), .val (.int (((p1 &&& (2147483647 : Int32)) - (((p1 &&& (2147483647 : Int32)) / (3 : Int32)) * (3 : Int32))) + (1 : Int32))), .val (.int (p2 &&& (3 : Int32))), .unset, .unset, .unset, .unset, .unset, .unset, .unset, .unset, .unset, .unset] [(.int (255 : Int32)), (.int p3)])) _
    refine XS.iand X0.here hx rfl (hb hby at_29) rfl ?_
    show Steps p.tables e below (s₁.setTop (mkF m 30 #[.val (.int p0), .val (.int p1), .val (.int p2), .val (.int p3), .val (.int p4), .val (.int p5), .val (.int (((p0 &&& (2147483647 : Int32)) - (((p0 &&& (2147483647 : Int32)) / (4 : Int32)) * (4 : Int32))) + (1 : Int32))), .val (.int (((p1 &&& (2147483647 : Int32)) - (((p1 &&& (2147483647 : Int32)) / (3 : Int32)) * (3 : Int32))) + (1 : Int32))), .val (.int (p2 &&& (3 : Int32))), .unset, .unset, .unset, .unset, .unset, .unset, .unset, .unset, .unset, .unset] [(.int (p3 &&& (255 : Int32)))])) _
    refine XS.i2l X0.here hx rfl (hb hby at_30) rfl ?_
    show Steps p.tables e below (s₁.setTop (mkF m 31 #[.val (.int p0), .val (.int p1), .val (.int p2), .val (.int p3), .val (.int p4), .val (.int p5), .val (.int (((p0 &&& (2147483647 : Int32)) - (((p0 &&& (2147483647 : Int32)) / (4 : Int32)) * (4 : Int32))) + (1 : Int32))), .val (.int (((p1 &&& (2147483647 : Int32)) - (((p1 &&& (2147483647 : Int32)) / (3 : Int32)) * (3 : Int32))) + (1 : Int32))), .val (.int (p2 &&& (3 : Int32))), .unset, .unset, .unset, .unset, .unset, .unset, .unset, .unset, .unset, .unset] [(.long ((p3 &&& (255 : Int32)).toInt64))])) _
    refine XS.lstore X0.here hx rfl (hb hby at_31) rfl (l' := #[.val (.int p0), .val (.int p1), .val (.int p2), .val (.int p3), .val (.int p4), .val (.int p5), .val (.int (((p0 &&& (2147483647 : Int32)) - (((p0 &&& (2147483647 : Int32)) / (4 : Int32)) * (4 : Int32))) + (1 : Int32))), .val (.int (((p1 &&& (2147483647 : Int32)) - (((p1 &&& (2147483647 : Int32)) / (3 : Int32)) * (3 : Int32))) + (1 : Int32))), .val (.int (p2 &&& (3 : Int32))), .val (.long ((p3 &&& (255 : Int32)).toInt64)), .second, .unset, .unset, .unset, .unset, .unset, .unset, .unset, .unset]) rfl ?_
    show Steps p.tables e below (s₁.setTop (mkF m 33 #[.val (.int p0), .val (.int p1), .val (.int p2), .val (.int p3), .val (.int p4), .val (.int p5), .val (.int (((p0 &&& (2147483647 : Int32)) - (((p0 &&& (2147483647 : Int32)) / (4 : Int32)) * (4 : Int32))) + (1 : Int32))), .val (.int (((p1 &&& (2147483647 : Int32)) - (((p1 &&& (2147483647 : Int32)) / (3 : Int32)) * (3 : Int32))) + (1 : Int32))), .val (.int (p2 &&& (3 : Int32))), .val (.long ((p3 &&& (255 : Int32)).toInt64)), .second, .unset, .unset, .unset, .unset, .unset, .unset, .unset, .unset] [])) _
    refine XS.iload X0.here hx rfl (hb hby at_33) rfl ?_
    show Steps p.tables e below (s₁.setTop (mkF m 35 #[.val (.int p0), .val (.int p1), .val (.int p2), .val (.int p3), .val (.int p4), .val (.int p5), .val (.int (((p0 &&& (2147483647 : Int32)) - (((p0 &&& (2147483647 : Int32)) / (4 : Int32)) * (4 : Int32))) + (1 : Int32))), .val (.int (((p1 &&& (2147483647 : Int32)) - (((p1 &&& (2147483647 : Int32)) / (3 : Int32)) * (3 : Int32))) + (1 : Int32))), .val (.int (p2 &&& (3 : Int32))), .val (.long ((p3 &&& (255 : Int32)).toInt64)), .second, .unset, .unset, .unset, .unset, .unset, .unset, .unset, .unset] [(.int p4)])) _
    refine XS.sipush X0.here hx rfl (hb hby at_35) ?_
    show Steps p.tables e below (s₁.setTop (mkF m 38 #[.val (.int p0), .val (.int p1), .val (.int p2), .val (.int p3), .val (.int p4), .val (.int p5), .val (.int (((p0 &&& (2147483647 : Int32)) - (((p0 &&& (2147483647 : Int32)) / (4 : Int32)) * (4 : Int32))) + (1 : Int32))), .val (.int (((p1 &&& (2147483647 : Int32)) - (((p1 &&& (2147483647 : Int32)) / (3 : Int32)) * (3 : Int32))) + (1 : Int32))), .val (.int (p2 &&& (3 : Int32))), .val (.long ((p3 &&& (255 : Int32)).toInt64)), .second, .unset, .unset, .unset, .unset, .unset, .unset, .unset, .unset] [(.int (255 : Int32)), (.int p4)])) _
    refine XS.iand X0.here hx rfl (hb hby at_38) rfl ?_
    show Steps p.tables e below (s₁.setTop (mkF m 39 #[.val (.int p0), .val (.int p1), .val (.int p2), .val (.int p3), .val (.int p4), .val (.int p5), .val (.int (((p0 &&& (2147483647 : Int32)) - (((p0 &&& (2147483647 : Int32)) / (4 : Int32)) * (4 : Int32))) + (1 : Int32))), .val (.int (((p1 &&& (2147483647 : Int32)) - (((p1 &&& (2147483647 : Int32)) / (3 : Int32)) * (3 : Int32))) + (1 : Int32))), .val (.int (p2 &&& (3 : Int32))), .val (.long ((p3 &&& (255 : Int32)).toInt64)), .second, .unset, .unset, .unset, .unset, .unset, .unset, .unset, .unset] [(.int (p4 &&& (255 : Int32)))])) _
    refine XS.i2l X0.here hx rfl (hb hby at_39) rfl ?_
    show Steps p.tables e below (s₁.setTop (mkF m 40 #[.val (.int p0), .val (.int p1), .val (.int p2), .val (.int p3), .val (.int p4), .val (.int p5), .val (.int (((p0 &&& (2147483647 : Int32)) - (((p0 &&& (2147483647 : Int32)) / (4 : Int32)) * (4 : Int32))) + (1 : Int32))), .val (.int (((p1 &&& (2147483647 : Int32)) - (((p1 &&& (2147483647 : Int32)) / (3 : Int32)) * (3 : Int32))) + (1 : Int32))), .val (.int (p2 &&& (3 : Int32))), .val (.long ((p3 &&& (255 : Int32)).toInt64)), .second, .unset, .unset, .unset, .unset, .unset, .unset, .unset, .unset] [(.long ((p4 &&& (255 : Int32)).toInt64))])) _
    refine XS.lstore X0.here hx rfl (hb hby at_40) rfl (l' := #[.val (.int p0), .val (.int p1), .val (.int p2), .val (.int p3), .val (.int p4), .val (.int p5), .val (.int (((p0 &&& (2147483647 : Int32)) - (((p0 &&& (2147483647 : Int32)) / (4 : Int32)) * (4 : Int32))) + (1 : Int32))), .val (.int (((p1 &&& (2147483647 : Int32)) - (((p1 &&& (2147483647 : Int32)) / (3 : Int32)) * (3 : Int32))) + (1 : Int32))), .val (.int (p2 &&& (3 : Int32))), .val (.long ((p3 &&& (255 : Int32)).toInt64)), .second, .val (.long ((p4 &&& (255 : Int32)).toInt64)), .second, .unset, .unset, .unset, .unset, .unset, .unset]) rfl ?_
    show Steps p.tables e below (s₁.setTop (mkF m 42 #[.val (.int p0), .val (.int p1), .val (.int p2), .val (.int p3), .val (.int p4), .val (.int p5), .val (.int (((p0 &&& (2147483647 : Int32)) - (((p0 &&& (2147483647 : Int32)) / (4 : Int32)) * (4 : Int32))) + (1 : Int32))), .val (.int (((p1 &&& (2147483647 : Int32)) - (((p1 &&& (2147483647 : Int32)) / (3 : Int32)) * (3 : Int32))) + (1 : Int32))), .val (.int (p2 &&& (3 : Int32))), .val (.long ((p3 &&& (255 : Int32)).toInt64)), .second, .val (.long ((p4 &&& (255 : Int32)).toInt64)), .second, .unset, .unset, .unset, .unset, .unset, .unset] [])) _
    refine XS.iload X0.here hx rfl (hb hby at_42) rfl ?_
    show Steps p.tables e below (s₁.setTop (mkF m 44 #[.val (.int p0), .val (.int p1), .val (.int p2), .val (.int p3), .val (.int p4), .val (.int p5), .val (.int (((p0 &&& (2147483647 : Int32)) - (((p0 &&& (2147483647 : Int32)) / (4 : Int32)) * (4 : Int32))) + (1 : Int32))), .val (.int (((p1 &&& (2147483647 : Int32)) - (((p1 &&& (2147483647 : Int32)) / (3 : Int32)) * (3 : Int32))) + (1 : Int32))), .val (.int (p2 &&& (3 : Int32))), .val (.long ((p3 &&& (255 : Int32)).toInt64)), .second, .val (.long ((p4 &&& (255 : Int32)).toInt64)), .second, .unset, .unset, .unset, .unset, .unset, .unset] [(.int p5)])) _
    refine XS.sipush X0.here hx rfl (hb hby at_44) ?_
    show Steps p.tables e below (s₁.setTop (mkF m 47 #[.val (.int p0), .val (.int p1), .val (.int p2), .val (.int p3), .val (.int p4), .val (.int p5), .val (.int (((p0 &&& (2147483647 : Int32)) - (((p0 &&& (2147483647 : Int32)) / (4 : Int32)) * (4 : Int32))) + (1 : Int32))), .val (.int (((p1 &&& (2147483647 : Int32)) - (((p1 &&& (2147483647 : Int32)) / (3 : Int32)) * (3 : Int32))) + (1 : Int32))), .val (.int (p2 &&& (3 : Int32))), .val (.long ((p3 &&& (255 : Int32)).toInt64)), .second, .val (.long ((p4 &&& (255 : Int32)).toInt64)), .second, .unset, .unset, .unset, .unset, .unset, .unset] [(.int (255 : Int32)), (.int p5)])) _
    refine XS.iand X0.here hx rfl (hb hby at_47) rfl ?_
    show Steps p.tables e below (s₁.setTop (mkF m 48 #[.val (.int p0), .val (.int p1), .val (.int p2), .val (.int p3), .val (.int p4), .val (.int p5), .val (.int (((p0 &&& (2147483647 : Int32)) - (((p0 &&& (2147483647 : Int32)) / (4 : Int32)) * (4 : Int32))) + (1 : Int32))), .val (.int (((p1 &&& (2147483647 : Int32)) - (((p1 &&& (2147483647 : Int32)) / (3 : Int32)) * (3 : Int32))) + (1 : Int32))), .val (.int (p2 &&& (3 : Int32))), .val (.long ((p3 &&& (255 : Int32)).toInt64)), .second, .val (.long ((p4 &&& (255 : Int32)).toInt64)), .second, .unset, .unset, .unset, .unset, .unset, .unset] [(.int (p5 &&& (255 : Int32)))])) _
    refine XS.i2l X0.here hx rfl (hb hby at_48) rfl ?_
    show Steps p.tables e below (s₁.setTop (mkF m 49 #[.val (.int p0), .val (.int p1), .val (.int p2), .val (.int p3), .val (.int p4), .val (.int p5), .val (.int (((p0 &&& (2147483647 : Int32)) - (((p0 &&& (2147483647 : Int32)) / (4 : Int32)) * (4 : Int32))) + (1 : Int32))), .val (.int (((p1 &&& (2147483647 : Int32)) - (((p1 &&& (2147483647 : Int32)) / (3 : Int32)) * (3 : Int32))) + (1 : Int32))), .val (.int (p2 &&& (3 : Int32))), .val (.long ((p3 &&& (255 : Int32)).toInt64)), .second, .val (.long ((p4 &&& (255 : Int32)).toInt64)), .second, .unset, .unset, .unset, .unset, .unset, .unset] [(.long ((p5 &&& (255 : Int32)).toInt64))])) _
    refine XS.lstore X0.here hx rfl (hb hby at_49) rfl (l' := #[.val (.int p0), .val (.int p1), .val (.int p2), .val (.int p3), .val (.int p4), .val (.int p5), .val (.int (((p0 &&& (2147483647 : Int32)) - (((p0 &&& (2147483647 : Int32)) / (4 : Int32)) * (4 : Int32))) + (1 : Int32))), .val (.int (((p1 &&& (2147483647 : Int32)) - (((p1 &&& (2147483647 : Int32)) / (3 : Int32)) * (3 : Int32))) + (1 : Int32))), .val (.int (p2 &&& (3 : Int32))), .val (.long ((p3 &&& (255 : Int32)).toInt64)), .second, .val (.long ((p4 &&& (255 : Int32)).toInt64)), .second, .val (.long ((p5 &&& (255 : Int32)).toInt64)), .second, .unset, .unset, .unset, .unset]) rfl ?_
    exact ht
  obtain ⟨B, hB, eB⟩ := own_getB p0
  have k2 : Go p.tables e below (s₁.setTop (mkF m 51 #[.val (.int p0), .val (.int p1), .val (.int p2), .val (.int p3), .val (.int p4), .val (.int p5), .val (.int (((p0 &&& (2147483647 : Int32)) - (((p0 &&& (2147483647 : Int32)) / (4 : Int32)) * (4 : Int32))) + (1 : Int32))), .val (.int (((p1 &&& (2147483647 : Int32)) - (((p1 &&& (2147483647 : Int32)) / (3 : Int32)) * (3 : Int32))) + (1 : Int32))), .val (.int (p2 &&& (3 : Int32))), .val (.long ((p3 &&& (255 : Int32)).toInt64)), .second, .val (.long ((p4 &&& (255 : Int32)).toInt64)), .second, .val (.long ((p5 &&& (255 : Int32)).toInt64)), .second, .unset, .unset, .unset, .unset] [])) (s₁.setTop (mkF m 51 #[.val (.int p0), .val (.int p1), .val (.int p2), .val (.int p3), .val (.int p4), .val (.int p5), .val (.int (Int32.ofNat B)), .val (.int (((p1 &&& (2147483647 : Int32)) - (((p1 &&& (2147483647 : Int32)) / (3 : Int32)) * (3 : Int32))) + (1 : Int32))), .val (.int (p2 &&& (3 : Int32))), .val (.long ((p3 &&& (255 : Int32)).toInt64)), .second, .val (.long ((p4 &&& (255 : Int32)).toInt64)), .second, .val (.long ((p5 &&& (255 : Int32)).toInt64)), .second, .unset, .unset, .unset, .unset] [])) := by rw [eB]; exact fun _ h => h
  obtain ⟨S, hS, eS⟩ := own_getS p1
  have k3 : Go p.tables e below (s₁.setTop (mkF m 51 #[.val (.int p0), .val (.int p1), .val (.int p2), .val (.int p3), .val (.int p4), .val (.int p5), .val (.int (Int32.ofNat B)), .val (.int (((p1 &&& (2147483647 : Int32)) - (((p1 &&& (2147483647 : Int32)) / (3 : Int32)) * (3 : Int32))) + (1 : Int32))), .val (.int (p2 &&& (3 : Int32))), .val (.long ((p3 &&& (255 : Int32)).toInt64)), .second, .val (.long ((p4 &&& (255 : Int32)).toInt64)), .second, .val (.long ((p5 &&& (255 : Int32)).toInt64)), .second, .unset, .unset, .unset, .unset] [])) (s₁.setTop (mkF m 51 #[.val (.int p0), .val (.int p1), .val (.int p2), .val (.int p3), .val (.int p4), .val (.int p5), .val (.int (Int32.ofNat B)), .val (.int (Int32.ofNat S)), .val (.int (p2 &&& (3 : Int32))), .val (.long ((p3 &&& (255 : Int32)).toInt64)), .second, .val (.long ((p4 &&& (255 : Int32)).toInt64)), .second, .val (.long ((p5 &&& (255 : Int32)).toInt64)), .second, .unset, .unset, .unset, .unset] [])) := by rw [eS]; exact fun _ h => h
  obtain ⟨y4, ey4⟩ : ∃ z : Int64, z = ((p3 &&& (255 : Int32)).toInt64) := ⟨_, rfl⟩
  obtain ⟨y5, ey5⟩ : ∃ z : Int64, z = ((p4 &&& (255 : Int32)).toInt64) := ⟨_, rfl⟩
  obtain ⟨y6, ey6⟩ : ∃ z : Int64, z = ((p5 &&& (255 : Int32)).toInt64) := ⟨_, rfl⟩
  have k7 : Go p.tables e below (s₁.setTop (mkF m 51 #[.val (.int p0), .val (.int p1), .val (.int p2), .val (.int p3), .val (.int p4), .val (.int p5), .val (.int (Int32.ofNat B)), .val (.int (Int32.ofNat S)), .val (.int (p2 &&& (3 : Int32))), .val (.long ((p3 &&& (255 : Int32)).toInt64)), .second, .val (.long ((p4 &&& (255 : Int32)).toInt64)), .second, .val (.long ((p5 &&& (255 : Int32)).toInt64)), .second, .unset, .unset, .unset, .unset] [])) (s₁.setTop (mkF m 51 #[.val (.int p0), .val (.int p1), .val (.int p2), .val (.int p3), .val (.int p4), .val (.int p5), .val (.int (Int32.ofNat B)), .val (.int (Int32.ofNat S)), .val (.int (p2 &&& (3 : Int32))), .val (.long y4), .second, .val (.long y5), .second, .val (.long y6), .second, .unset, .unset, .unset, .unset] [])) := by rw [ey4, ey5, ey6]; exact fun _ h => h
  have hH0 : own_H y4 := by rw [ey4]; exact own_HH _
  have hH1 : own_H y5 := by rw [ey5]; exact own_HH _
  have hH2 : own_H y6 := by rw [ey6]; exact own_HH _
  rcases own_and3c p2 with hk8 | hk8 | hk8 | hk8
  · have k9 : Go p.tables e below (s₁.setTop (mkF m 51 #[.val (.int p0), .val (.int p1), .val (.int p2), .val (.int p3), .val (.int p4), .val (.int p5), .val (.int (Int32.ofNat B)), .val (.int (Int32.ofNat S)), .val (.int (p2 &&& (3 : Int32))), .val (.long y4), .second, .val (.long y5), .second, .val (.long y6), .second, .unset, .unset, .unset, .unset] [])) (s₁.setTop (mkF m 51 #[.val (.int p0), .val (.int p1), .val (.int p2), .val (.int p3), .val (.int p4), .val (.int p5), .val (.int (Int32.ofNat B)), .val (.int (Int32.ofNat S)), .val (.int (0 : Int32)), .val (.long y4), .second, .val (.long y5), .second, .val (.long y6), .second, .unset, .unset, .unset, .unset] [])) := by rw [hk8]; exact fun _ h => h
    obtain ⟨T10, h10, X10, e10, E10, A10, D10, -, st10⟩ := newO X0 hx hZ hown (hw _ (List.mem_of_getElem? (i := 1) rfl)) (hw _ (List.mem_of_getElem? (i := 2) rfl)) (hw _ (List.mem_of_getElem? (i := 3) rfl)) e0 (g := (mkF m 51 #[.val (.int p0), .val (.int p1), .val (.int p2), .val (.int p3), .val (.int p4), .val (.int p5), .val (.int (Int32.ofNat B)), .val (.int (Int32.ofNat S)), .val (.int (0 : Int32)), .val (.long y4), .second, .val (.long y5), .second, .val (.long y6), .second, .unset, .unset, .unset, .unset] [])) rfl (hb hby at_51) (by decide) (by decide)
    obtain ⟨b10, g10⟩ : ∃ z, z = h0.size := ⟨_, rfl⟩
    rw [← g10] at A10 D10 st10
    have g_b10 : n0 ≤ b10 := Nat.le_trans Z0 (Nat.le_of_eq g10.symm)
    have sz_b10 : h0.size ≤ b10 := Nat.le_trans (Keep.refl h0 []).1 (Nat.le_of_eq g10.symm)
    have Kp10 : Keep h0 h10 [] := (Keep.refl h0 []).ext E10
    have Z10 : n0 ≤ h10.size := Nat.le_trans Z0 E10.1
    have F_buckets_b10 : Fld Z h10 b10 "com/example/auspex/auspex/manager/ConflictTable" "buckets" "I" (.int (0 : Int32)) := D10 (Or.inr (hw _ (List.mem_of_getElem? (i := 12) rfl))) (ty := .int) (by decide)
    have F_slotsPerBucket_b10 : Fld Z h10 b10 "com/example/auspex/auspex/manager/ConflictTable" "slotsPerBucket" "I" (.int (0 : Int32)) := D10 (Or.inr (hw _ (List.mem_of_getElem? (i := 14) rfl))) (ty := .int) (by decide)
    have F_hashes_b10 : Fld Z h10 b10 "com/example/auspex/auspex/manager/ConflictTable" "hashes" "[J" .null := D10 (Or.inr (hw _ (List.mem_of_getElem? (i := 17) rfl))) (ty := (.array .long)) (by decide)
    have F_commits_b10 : Fld Z h10 b10 "com/example/auspex/auspex/manager/ConflictTable" "commits" "[J" .null := D10 (Or.inr (hw _ (List.mem_of_getElem? (i := 19) rfl))) (ty := (.array .long)) (by decide)
    have k10 : Go p.tables e below (s₁.setTop (mkF m 51 #[.val (.int p0), .val (.int p1), .val (.int p2), .val (.int p3), .val (.int p4), .val (.int p5), .val (.int (Int32.ofNat B)), .val (.int (Int32.ofNat S)), .val (.int (0 : Int32)), .val (.long y4), .second, .val (.long y5), .second, .val (.long y6), .second, .unset, .unset, .unset, .unset] [])) (T10.setTop (mkF m 54 #[.val (.int p0), .val (.int p1), .val (.int p2), .val (.int p3), .val (.int p4), .val (.int p5), .val (.int (Int32.ofNat B)), .val (.int (Int32.ofNat S)), .val (.int (0 : Int32)), .val (.long y4), .second, .val (.long y5), .second, .val (.long y6), .second, .unset, .unset, .unset, .unset] [(.ref b10)])) := st10
    have k11 : Go p.tables e below (T10.setTop (mkF m 54 #[.val (.int p0), .val (.int p1), .val (.int p2), .val (.int p3), .val (.int p4), .val (.int p5), .val (.int (Int32.ofNat B)), .val (.int (Int32.ofNat S)), .val (.int (0 : Int32)), .val (.long y4), .second, .val (.long y5), .second, .val (.long y6), .second, .unset, .unset, .unset, .unset] [(.ref b10)])) (T10.setTop (mkF m 59 #[.val (.int p0), .val (.int p1), .val (.int p2), .val (.int p3), .val (.int p4), .val (.int p5), .val (.int (Int32.ofNat B)), .val (.int (Int32.ofNat S)), .val (.int (0 : Int32)), .val (.long y4), .second, .val (.long y5), .second, .val (.long y6), .second, .unset, .unset, .unset, .unset] [(.int (Int32.ofNat S)), (.int (Int32.ofNat B)), (.ref b10), (.ref b10)])) := by
      intro t ht
      refine XS.dup X10.here hx rfl (hb hby at_54) rfl rfl ?_
      show Steps p.tables e below (T10.setTop (mkF m 55 #[.val (.int p0), .val (.int p1), .val (.int p2), .val (.int p3), .val (.int p4), .val (.int p5), .val (.int (Int32.ofNat B)), .val (.int (Int32.ofNat S)), .val (.int (0 : Int32)), .val (.long y4), .second, .val (.long y5), .second, .val (.long y6), .second, .unset, .unset, .unset, .unset] [(.ref b10), (.ref b10)])) _
      refine XS.iload X10.here hx rfl (hb hby at_55) rfl ?_
      show Steps p.tables e below (T10.setTop (mkF m 57 #[.val (.int p0), .val (.int p1), .val (.int p2), .val (.int p3), .val (.int p4), .val (.int p5), .val (.int (Int32.ofNat B)), .val (.int (Int32.ofNat S)), .val (.int (0 : Int32)), .val (.long y4), .second, .val (.long y5), .second, .val (.long y6), .second, .unset, .unset, .unset, .unset] [(.int (Int32.ofNat B)), (.ref b10), (.ref b10)])) _
      refine XS.iload X10.here hx rfl (hb hby at_57) rfl ?_
      exact ht
    obtain ⟨_, _, ⟨T12, L12, kq12, n12⟩, -, X12, ⟨Lc12, hQ12, l12, y12, z12⟩, st12⟩ := X10.specialBack hx (y := (⟨"com/example/auspex/auspex/manager/ConflictTable", "<init>", "(II)V"⟩ : MethodName)) rfl hown (mvT hZ (hw _ (List.mem_of_getElem? (i := 4) rfl))) (mvT hZ (hw _ (List.mem_of_getElem? (i := 5) rfl))) (mvT hZ (hw _ (List.mem_of_getElem? (i := 6) rfl))) (by decide) (backOf (W := 1) (rm_init l Z a0 hw [] b10 B S h10 n0 Z10 F_buckets_b10 F_slotsPerBucket_b10 F_hashes_b10 F_commits_b10 A10 g_b10 (hB : 1 ≤ B ∧ B ≤ 4) (hS : 1 ≤ S ∧ S ≤ 3)) hZ (hw _ (List.mem_of_getElem? (i := 6) rfl)) (hw _ (List.mem_of_getElem? (i := 3) rfl)) (by decide) (by decide)) (g := (mkF m 59 #[.val (.int p0), .val (.int p1), .val (.int p2), .val (.int p3), .val (.int p4), .val (.int p5), .val (.int (Int32.ofNat B)), .val (.int (Int32.ofNat S)), .val (.int (0 : Int32)), .val (.long y4), .second, .val (.long y5), .second, .val (.long y6), .second, .unset, .unset, .unset, .unset] [(.int (Int32.ofNat S)), (.int (Int32.ofNat B)), (.ref b10), (.ref b10)])) rfl (by rw [hml]; rfl) (Steps.refl _) (a := b10) (argsL := [(.int (Int32.ofNat B)), (.int (Int32.ofNat S))]) (rest := [(.ref b10)]) (lenOf pd_2 rfl) rfl (by show 2 * 0 + _ ≤ _; exact Nat.le_of_eq rfl) (hb hby at_59) (fun _ _ => ⟨rfl, e10, (by decide : 1 + 2 ≤ _), (by decide : 4 + 24 ≤ _)⟩)
    dsimp only [Pt.U, Pt.locs, Pt.cells, Pt.slots] at X12 l12 y12 z12 st12 hQ12
    subst l12 y12 z12
    obtain ⟨xa_12, xk_12, xc_12, xl_12, rfl, N12q, K12, Pq12_0, Pq12_1, Pq12_2, Fq12_0, Fq12_1, Fq12_2, Fq12_3, Fq12_4, Fq12_5, Fq12_6⟩ := hQ12
    have N12 := Fr.app N0 N12q
    have k12 : Go p.tables e below (T10.setTop (mkF m 59 #[.val (.int p0), .val (.int p1), .val (.int p2), .val (.int p3), .val (.int p4), .val (.int p5), .val (.int (Int32.ofNat B)), .val (.int (Int32.ofNat S)), .val (.int (0 : Int32)), .val (.long y4), .second, .val (.long y5), .second, .val (.long y6), .second, .unset, .unset, .unset, .unset] [(.int (Int32.ofNat S)), (.int (Int32.ofNat B)), (.ref b10), (.ref b10)])) (T12.setTop (mkF m 62 #[.val (.int p0), .val (.int p1), .val (.int p2), .val (.int p3), .val (.int p4), .val (.int p5), .val (.int (Int32.ofNat B)), .val (.int (Int32.ofNat S)), .val (.int (0 : Int32)), .val (.long y4), .second, .val (.long y5), .second, .val (.long y6), .second, .unset, .unset, .unset, .unset] [(.ref b10)])) := fun _ ht => st12.trans ht
    have Kp12 : Keep h0 T12.heap [] := Kp10.trans K12 (allS (Or.inr sz_b10) all0)
    have Z12 : n0 ≤ T12.heap.size := Nat.le_trans Z10 K12.1
    have ne_b10_xa_12 : b10 ≠ xa_12 := Nat.ne_of_lt (Nat.lt_of_lt_of_le A10.lt Pq12_0)
    have g_xa_12 : n0 ≤ xa_12 := Nat.le_trans Z10 Pq12_0
    have sz_xa_12 : h0.size ≤ xa_12 := Nat.le_trans Kp10.1 Pq12_0
    have ne_b10_xc_12 : b10 ≠ xc_12 := Nat.ne_of_lt (Nat.lt_of_lt_of_le A10.lt Pq12_1)
    have g_xc_12 : n0 ≤ xc_12 := Nat.le_trans Z10 Pq12_1
    have sz_xc_12 : h0.size ≤ xc_12 := Nat.le_trans Kp10.1 Pq12_1
    have A10_c_12 := A10.keep K12
    have k13 : Go p.tables e below (T12.setTop (mkF m 62 #[.val (.int p0), .val (.int p1), .val (.int p2), .val (.int p3), .val (.int p4), .val (.int p5), .val (.int (Int32.ofNat B)), .val (.int (Int32.ofNat S)), .val (.int (0 : Int32)), .val (.long y4), .second, .val (.long y5), .second, .val (.long y6), .second, .unset, .unset, .unset, .unset] [(.ref b10)])) (T12.setTop (mkF m 141 #[.val (.int p0), .val (.int p1), .val (.int p2), .val (.int p3), .val (.int p4), .val (.int p5), .val (.int (Int32.ofNat B)), .val (.int (Int32.ofNat S)), .val (.int (0 : Int32)), .val (.long y4), .second, .val (.long y5), .second, .val (.long y6), .second, .val (.ref b10), .unset, .unset, .unset] [(.long y6), (.long y5), (.long y4), (.int (0 : Int32)), (.int (Int32.ofNat S)), (.int (Int32.ofNat B)), (.int (0 : Int32))])) := by
      intro t ht
      refine XS.astore X12.here hx rfl (hb hby at_62) rfl rfl (l' := #[.val (.int p0), .val (.int p1), .val (.int p2), .val (.int p3), .val (.int p4), .val (.int p5), .val (.int (Int32.ofNat B)), .val (.int (Int32.ofNat S)), .val (.int (0 : Int32)), .val (.long y4), .second, .val (.long y5), .second, .val (.long y6), .second, .val (.ref b10), .unset, .unset, .unset]) rfl ?_
      show Steps p.tables e below (T12.setTop (mkF m 64 #[.val (.int p0), .val (.int p1), .val (.int p2), .val (.int p3), .val (.int p4), .val (.int p5), .val (.int (Int32.ofNat B)), .val (.int (Int32.ofNat S)), .val (.int (0 : Int32)), .val (.long y4), .second, .val (.long y5), .second, .val (.long y6), .second, .val (.ref b10), .unset, .unset, .unset] [])) _
      refine XS.iload X12.here hx rfl (hb hby at_64) rfl ?_
      show Steps p.tables e below (T12.setTop (mkF m 66 #[.val (.int p0), .val (.int p1), .val (.int p2), .val (.int p3), .val (.int p4), .val (.int p5), .val (.int (Int32.ofNat B)), .val (.int (Int32.ofNat S)), .val (.int (0 : Int32)), .val (.long y4), .second, .val (.long y5), .second, .val (.long y6), .second, .val (.ref b10), .unset, .unset, .unset] [(.int (0 : Int32))])) _
      refine XS.iconst X12.here hx rfl (hb hby at_66) ?_
      show Steps p.tables e below (T12.setTop (mkF m 67 #[.val (.int p0), .val (.int p1), .val (.int p2), .val (.int p3), .val (.int p4), .val (.int p5), .val (.int (Int32.ofNat B)), .val (.int (Int32.ofNat S)), .val (.int (0 : Int32)), .val (.long y4), .second, .val (.long y5), .second, .val (.long y6), .second, .val (.ref b10), .unset, .unset, .unset] [(.int (1 : Int32)), (.int (0 : Int32))])) _
      refine XS.icmpYes X12.here hx rfl (pc0 := 67) (pc' := 84) rfl (hb hby at_67) rfl (tlt (by decide : (0 : Int32) < (1 : Int32))).1 (by decide) (by decide) ?_
      show Steps p.tables e below (T12.setTop (mkF m 84 #[.val (.int p0), .val (.int p1), .val (.int p2), .val (.int p3), .val (.int p4), .val (.int p5), .val (.int (Int32.ofNat B)), .val (.int (Int32.ofNat S)), .val (.int (0 : Int32)), .val (.long y4), .second, .val (.long y5), .second, .val (.long y6), .second, .val (.ref b10), .unset, .unset, .unset] [])) _
      refine XS.iload X12.here hx rfl (hb hby at_84) rfl ?_
      show Steps p.tables e below (T12.setTop (mkF m 86 #[.val (.int p0), .val (.int p1), .val (.int p2), .val (.int p3), .val (.int p4), .val (.int p5), .val (.int (Int32.ofNat B)), .val (.int (Int32.ofNat S)), .val (.int (0 : Int32)), .val (.long y4), .second, .val (.long y5), .second, .val (.long y6), .second, .val (.ref b10), .unset, .unset, .unset] [(.int (0 : Int32))])) _
      refine XS.iconst X12.here hx rfl (hb hby at_86) ?_
      show Steps p.tables e below (T12.setTop (mkF m 87 #[.val (.int p0), .val (.int p1), .val (.int p2), .val (.int p3), .val (.int p4), .val (.int p5), .val (.int (Int32.ofNat B)), .val (.int (Int32.ofNat S)), .val (.int (0 : Int32)), .val (.long y4), .second, .val (.long y5), .second, .val (.long y6), .second, .val (.ref b10), .unset, .unset, .unset] [(.int (2 : Int32)), (.int (0 : Int32))])) _
      refine XS.icmpYes X12.here hx rfl (pc0 := 87) (pc' := 106) rfl (hb hby at_87) rfl (tlt (by decide : (0 : Int32) < (2 : Int32))).1 (by decide) (by decide) ?_
      show Steps p.tables e below (T12.setTop (mkF m 106 #[.val (.int p0), .val (.int p1), .val (.int p2), .val (.int p3), .val (.int p4), .val (.int p5), .val (.int (Int32.ofNat B)), .val (.int (Int32.ofNat S)), .val (.int (0 : Int32)), .val (.long y4), .second, .val (.long y5), .second, .val (.long y6), .second, .val (.ref b10), .unset, .unset, .unset] [])) _
      refine XS.iload X12.here hx rfl (hb hby at_106) rfl ?_
      show Steps p.tables e below (T12.setTop (mkF m 108 #[.val (.int p0), .val (.int p1), .val (.int p2), .val (.int p3), .val (.int p4), .val (.int p5), .val (.int (Int32.ofNat B)), .val (.int (Int32.ofNat S)), .val (.int (0 : Int32)), .val (.long y4), .second, .val (.long y5), .second, .val (.long y6), .second, .val (.ref b10), .unset, .unset, .unset] [(.int (0 : Int32))])) _
      refine XS.iconst X12.here hx rfl (hb hby at_108) ?_
      show Steps p.tables e below (T12.setTop (mkF m 109 #[.val (.int p0), .val (.int p1), .val (.int p2), .val (.int p3), .val (.int p4), .val (.int p5), .val (.int (Int32.ofNat B)), .val (.int (Int32.ofNat S)), .val (.int (0 : Int32)), .val (.long y4), .second, .val (.long y5), .second, .val (.long y6), .second, .val (.ref b10), .unset, .unset, .unset] [(.int (3 : Int32)), (.int (0 : Int32))])) _
      refine XS.icmpYes X12.here hx rfl (pc0 := 109) (pc' := 128) rfl (hb hby at_109) rfl (tlt (by decide : (0 : Int32) < (3 : Int32))).1 (by decide) (by decide) ?_
      show Steps p.tables e below (T12.setTop (mkF m 128 #[.val (.int p0), .val (.int p1), .val (.int p2), .val (.int p3), .val (.int p4), .val (.int p5), .val (.int (Int32.ofNat B)), .val (.int (Int32.ofNat S)), .val (.int (0 : Int32)), .val (.long y4), .second, .val (.long y5), .second, .val (.long y6), .second, .val (.ref b10), .unset, .unset, .unset] [])) _
      refine XS.iconst X12.here hx rfl (hb hby at_128) ?_
      show Steps p.tables e below (T12.setTop (mkF m 129 #[.val (.int p0), .val (.int p1), .val (.int p2), .val (.int p3), .val (.int p4), .val (.int p5), .val (.int (Int32.ofNat B)), .val (.int (Int32.ofNat S)), .val (.int (0 : Int32)), .val (.long y4), .second, .val (.long y5), .second, .val (.long y6), .second, .val (.ref b10), .unset, .unset, .unset] [(.int (0 : Int32))])) _
      refine XS.iload X12.here hx rfl (hb hby at_129) rfl ?_
      show Steps p.tables e below (T12.setTop (mkF m 131 #[.val (.int p0), .val (.int p1), .val (.int p2), .val (.int p3), .val (.int p4), .val (.int p5), .val (.int (Int32.ofNat B)), .val (.int (Int32.ofNat S)), .val (.int (0 : Int32)), .val (.long y4), .second, .val (.long y5), .second, .val (.long y6), .second, .val (.ref b10), .unset, .unset, .unset] [(.int (Int32.ofNat B)), (.int (0 : Int32))])) _
      refine XS.iload X12.here hx rfl (hb hby at_131) rfl ?_
      show Steps p.tables e below (T12.setTop (mkF m 133 #[.val (.int p0), .val (.int p1), .val (.int p2), .val (.int p3), .val (.int p4), .val (.int p5), .val (.int (Int32.ofNat B)), .val (.int (Int32.ofNat S)), .val (.int (0 : Int32)), .val (.long y4), .second, .val (.long y5), .second, .val (.long y6), .second, .val (.ref b10), .unset, .unset, .unset] [(.int (Int32.ofNat S)), (.int (Int32.ofNat B)), (.int (0 : Int32))])) _
      refine XS.iload X12.here hx rfl (hb hby at_133) rfl ?_
      show Steps p.tables e below (T12.setTop (mkF m 135 #[.val (.int p0), .val (.int p1), .val (.int p2), .val (.int p3), .val (.int p4), .val (.int p5), .val (.int (Int32.ofNat B)), .val (.int (Int32.ofNat S)), .val (.int (0 : Int32)), .val (.long y4), .second, .val (.long y5), .second, .val (.long y6), .second, .val (.ref b10), .unset, .unset, .unset] [(.int (0 : Int32)), (.int (Int32.ofNat S)), (.int (Int32.ofNat B)), (.int (0 : Int32))])) _
      refine XS.lload X12.here hx rfl (hb hby at_135) rfl ?_
      show Steps p.tables e below (T12.setTop (mkF m 137 #[.val (.int p0), .val (.int p1), .val (.int p2), .val (.int p3), .val (.int p4), .val (.int p5), .val (.int (Int32.ofNat B)), .val (.int (Int32.ofNat S)), .val (.int (0 : Int32)), .val (.long y4), .second, .val (.long y5), .second, .val (.long y6), .second, .val (.ref b10), .unset, .unset, .unset] [(.long y4), (.int (0 : Int32)), (.int (Int32.ofNat S)), (.int (Int32.ofNat B)), (.int (0 : Int32))])) _
      refine XS.lload X12.here hx rfl (hb hby at_137) rfl ?_
      show Steps p.tables e below (T12.setTop (mkF m 139 #[.val (.int p0), .val (.int p1), .val (.int p2), .val (.int p3), .val (.int p4), .val (.int p5), .val (.int (Int32.ofNat B)), .val (.int (Int32.ofNat S)), .val (.int (0 : Int32)), .val (.long y4), .second, .val (.long y5), .second, .val (.long y6), .second, .val (.ref b10), .unset, .unset, .unset] [(.long y5), (.long y4), (.int (0 : Int32)), (.int (Int32.ofNat S)), (.int (Int32.ofNat B)), (.int (0 : Int32))])) _
      refine XS.lload X12.here hx rfl (hb hby at_139) rfl ?_
      exact ht
    obtain ⟨_, _, ⟨T14, L14, kq14, n14⟩, -, X14, ⟨Lc14, hQ14, l14, y14, z14⟩, st14⟩ := Jvm.LawKit.callS X12 hx (y := (⟨"com/example/auspex/auspex/manager/ConflictTableFullBucketSharePinLaw", "fullIn", "(IIIIJJJ)I"⟩ : MethodName)) hown (mvT hZ (hw _ (List.mem_of_getElem? (i := 35) rfl))) (mvT hZ (hw _ (List.mem_of_getElem? (i := 36) rfl))) (mvT hZ (hw _ (List.mem_of_getElem? (i := 37) rfl))) (mvT hZ (hw _ (List.mem_of_getElem? (i := 38) rfl))) (by decide) (backOf (W := 0) (rm_full l Z a0 hw [] (0 : Int32) B S (0 : Int32) y4 y5 y6 T12.heap n0 Z12 (hB : 1 ≤ B ∧ B ≤ 4) (hS : 1 ≤ S ∧ S ≤ 3)) hZ (hw _ (List.mem_of_getElem? (i := 38) rfl)) (hw _ (List.mem_of_getElem? (i := 37) rfl)) (by decide) (by decide)) (g := (mkF m 141 #[.val (.int p0), .val (.int p1), .val (.int p2), .val (.int p3), .val (.int p4), .val (.int p5), .val (.int (Int32.ofNat B)), .val (.int (Int32.ofNat S)), .val (.int (0 : Int32)), .val (.long y4), .second, .val (.long y5), .second, .val (.long y6), .second, .val (.ref b10), .unset, .unset, .unset] [(.long y6), (.long y5), (.long y4), (.int (0 : Int32)), (.int (Int32.ofNat S)), (.int (Int32.ofNat B)), (.int (0 : Int32))])) rfl (by rw [hml]; rfl) (argsL := [(.int (0 : Int32)), (.int (Int32.ofNat B)), (.int (Int32.ofNat S)), (.int (0 : Int32)), (.long y4), (.long y5), (.long y6)]) (rest := []) (lenOf pd_3 rfl) rfl (by show 2 * 0 + _ ≤ _; exact Nat.le_of_eq rfl) (hb hby at_141) (fun _ _ => ⟨rfl, rfl, (by decide : 3 + 0 ≤ _), (by decide : 28 + 0 ≤ _)⟩)
    dsimp only [Pt.U, Pt.locs, Pt.cells, Pt.slots] at X14 l14 y14 z14 st14 hQ14
    subst l14 y14 z14
    obtain ⟨rfl, N14q, eq14⟩ := hQ14
    have N14 := Fr.app N12 N14q
    have k14 : Go p.tables e below (T12.setTop (mkF m 141 #[.val (.int p0), .val (.int p1), .val (.int p2), .val (.int p3), .val (.int p4), .val (.int p5), .val (.int (Int32.ofNat B)), .val (.int (Int32.ofNat S)), .val (.int (0 : Int32)), .val (.long y4), .second, .val (.long y5), .second, .val (.long y6), .second, .val (.ref b10), .unset, .unset, .unset] [(.long y6), (.long y5), (.long y4), (.int (0 : Int32)), (.int (Int32.ofNat S)), (.int (Int32.ofNat B)), (.int (0 : Int32))])) (T14.setTop (mkF m 144 #[.val (.int p0), .val (.int p1), .val (.int p2), .val (.int p3), .val (.int p4), .val (.int p5), .val (.int (Int32.ofNat B)), .val (.int (Int32.ofNat S)), .val (.int (0 : Int32)), .val (.long y4), .second, .val (.long y5), .second, .val (.long y6), .second, .val (.ref b10), .unset, .unset, .unset] [(.int (f_full (0 : Int32) B S (0 : Int32) y4 y5 y6))])) := st14
    have k15 : Go p.tables e below (T14.setTop (mkF m 144 #[.val (.int p0), .val (.int p1), .val (.int p2), .val (.int p3), .val (.int p4), .val (.int p5), .val (.int (Int32.ofNat B)), .val (.int (Int32.ofNat S)), .val (.int (0 : Int32)), .val (.long y4), .second, .val (.long y5), .second, .val (.long y6), .second, .val (.ref b10), .unset, .unset, .unset] [(.int (f_full (0 : Int32) B S (0 : Int32) y4 y5 y6))])) (T14.setTop (mkF m 157 #[.val (.int p0), .val (.int p1), .val (.int p2), .val (.int p3), .val (.int p4), .val (.int p5), .val (.int (Int32.ofNat B)), .val (.int (Int32.ofNat S)), .val (.int (0 : Int32)), .val (.long y4), .second, .val (.long y5), .second, .val (.long y6), .second, .val (.ref b10), .unset, .unset, .unset] [(.long y6), (.long y5), (.long y4), (.int (0 : Int32)), (.int (Int32.ofNat S)), (.int (Int32.ofNat B)), (.int (1 : Int32)), (.int (f_full (0 : Int32) B S (0 : Int32) y4 y5 y6))])) := by
      intro t ht
      refine XS.iconst X14.here hx rfl (hb hby at_144) ?_
      show Steps p.tables e below (T14.setTop (mkF m 145 #[.val (.int p0), .val (.int p1), .val (.int p2), .val (.int p3), .val (.int p4), .val (.int p5), .val (.int (Int32.ofNat B)), .val (.int (Int32.ofNat S)), .val (.int (0 : Int32)), .val (.long y4), .second, .val (.long y5), .second, .val (.long y6), .second, .val (.ref b10), .unset, .unset, .unset] [(.int (1 : Int32)), (.int (f_full (0 : Int32) B S (0 : Int32) y4 y5 y6))])) _
      refine XS.iload X14.here hx rfl (hb hby at_145) rfl ?_
      show Steps p.tables e below (T14.setTop (mkF m 147 #[.val (.int p0), .val (.int p1), .val (.int p2), .val (.int p3), .val (.int p4), .val (.int p5), .val (.int (Int32.ofNat B)), .val (.int (Int32.ofNat S)), .val (.int (0 : Int32)), .val (.long y4), .second, .val (.long y5), .second, .val (.long y6), .second, .val (.ref b10), .unset, .unset, .unset] [(.int (Int32.ofNat B)), (.int (1 : Int32)), (.int (f_full (0 : Int32) B S (0 : Int32) y4 y5 y6))])) _
      refine XS.iload X14.here hx rfl (hb hby at_147) rfl ?_
      show Steps p.tables e below (T14.setTop (mkF m 149 #[.val (.int p0), .val (.int p1), .val (.int p2), .val (.int p3), .val (.int p4), .val (.int p5), .val (.int (Int32.ofNat B)), .val (.int (Int32.ofNat S)), .val (.int (0 : Int32)), .val (.long y4), .second, .val (.long y5), .second, .val (.long y6), .second, .val (.ref b10), .unset, .unset, .unset] [(.int (Int32.ofNat S)), (.int (Int32.ofNat B)), (.int (1 : Int32)), (.int (f_full (0 : Int32) B S (0 : Int32) y4 y5 y6))])) _
      refine XS.iload X14.here hx rfl (hb hby at_149) rfl ?_
      show Steps p.tables e below (T14.setTop (mkF m 151 #[.val (.int p0), .val (.int p1), .val (.int p2), .val (.int p3), .val (.int p4), .val (.int p5), .val (.int (Int32.ofNat B)), .val (.int (Int32.ofNat S)), .val (.int (0 : Int32)), .val (.long y4), .second, .val (.long y5), .second, .val (.long y6), .second, .val (.ref b10), .unset, .unset, .unset] [(.int (0 : Int32)), (.int (Int32.ofNat S)), (.int (Int32.ofNat B)), (.int (1 : Int32)), (.int (f_full (0 : Int32) B S (0 : Int32) y4 y5 y6))])) _
      refine XS.lload X14.here hx rfl (hb hby at_151) rfl ?_
      show Steps p.tables e below (T14.setTop (mkF m 153 #[.val (.int p0), .val (.int p1), .val (.int p2), .val (.int p3), .val (.int p4), .val (.int p5), .val (.int (Int32.ofNat B)), .val (.int (Int32.ofNat S)), .val (.int (0 : Int32)), .val (.long y4), .second, .val (.long y5), .second, .val (.long y6), .second, .val (.ref b10), .unset, .unset, .unset] [(.long y4), (.int (0 : Int32)), (.int (Int32.ofNat S)), (.int (Int32.ofNat B)), (.int (1 : Int32)), (.int (f_full (0 : Int32) B S (0 : Int32) y4 y5 y6))])) _
      refine XS.lload X14.here hx rfl (hb hby at_153) rfl ?_
      show Steps p.tables e below (T14.setTop (mkF m 155 #[.val (.int p0), .val (.int p1), .val (.int p2), .val (.int p3), .val (.int p4), .val (.int p5), .val (.int (Int32.ofNat B)), .val (.int (Int32.ofNat S)), .val (.int (0 : Int32)), .val (.long y4), .second, .val (.long y5), .second, .val (.long y6), .second, .val (.ref b10), .unset, .unset, .unset] [(.long y5), (.long y4), (.int (0 : Int32)), (.int (Int32.ofNat S)), (.int (Int32.ofNat B)), (.int (1 : Int32)), (.int (f_full (0 : Int32) B S (0 : Int32) y4 y5 y6))])) _
      refine XS.lload X14.here hx rfl (hb hby at_155) rfl ?_
      exact ht
    obtain ⟨_, _, ⟨T16, L16, kq16, n16⟩, -, X16, ⟨Lc16, hQ16, l16, y16, z16⟩, st16⟩ := Jvm.LawKit.callS X14 hx (y := (⟨"com/example/auspex/auspex/manager/ConflictTableFullBucketSharePinLaw", "fullIn", "(IIIIJJJ)I"⟩ : MethodName)) hown (mvT hZ (hw _ (List.mem_of_getElem? (i := 35) rfl))) (mvT hZ (hw _ (List.mem_of_getElem? (i := 36) rfl))) (mvT hZ (hw _ (List.mem_of_getElem? (i := 37) rfl))) (mvT hZ (hw _ (List.mem_of_getElem? (i := 38) rfl))) (by decide) (backOf (W := 1) (rm_full l Z a0 hw [] (1 : Int32) B S (0 : Int32) y4 y5 y6 T12.heap n0 Z12 (hB : 1 ≤ B ∧ B ≤ 4) (hS : 1 ≤ S ∧ S ≤ 3)) hZ (hw _ (List.mem_of_getElem? (i := 38) rfl)) (hw _ (List.mem_of_getElem? (i := 37) rfl)) (by decide) (by decide)) (g := (mkF m 157 #[.val (.int p0), .val (.int p1), .val (.int p2), .val (.int p3), .val (.int p4), .val (.int p5), .val (.int (Int32.ofNat B)), .val (.int (Int32.ofNat S)), .val (.int (0 : Int32)), .val (.long y4), .second, .val (.long y5), .second, .val (.long y6), .second, .val (.ref b10), .unset, .unset, .unset] [(.long y6), (.long y5), (.long y4), (.int (0 : Int32)), (.int (Int32.ofNat S)), (.int (Int32.ofNat B)), (.int (1 : Int32)), (.int (f_full (0 : Int32) B S (0 : Int32) y4 y5 y6))])) rfl (by rw [hml]; rfl) (argsL := [(.int (1 : Int32)), (.int (Int32.ofNat B)), (.int (Int32.ofNat S)), (.int (0 : Int32)), (.long y4), (.long y5), (.long y6)]) (rest := [(.int (f_full (0 : Int32) B S (0 : Int32) y4 y5 y6))]) (lenOf pd_3 rfl) rfl (by show 2 * 0 + _ ≤ _; exact Nat.le_of_eq rfl) (hb hby at_157) (fun _ _ => ⟨rfl, eq14, (by decide : 3 + 0 ≤ _), (by decide : 28 + 0 ≤ _)⟩)
    dsimp only [Pt.U, Pt.locs, Pt.cells, Pt.slots] at X16 l16 y16 z16 st16 hQ16
    subst l16 y16 z16
    obtain ⟨rfl, N16q, eq16⟩ := hQ16
    have N16 := Fr.app N14 N16q
    have k16 : Go p.tables e below (T14.setTop (mkF m 157 #[.val (.int p0), .val (.int p1), .val (.int p2), .val (.int p3), .val (.int p4), .val (.int p5), .val (.int (Int32.ofNat B)), .val (.int (Int32.ofNat S)), .val (.int (0 : Int32)), .val (.long y4), .second, .val (.long y5), .second, .val (.long y6), .second, .val (.ref b10), .unset, .unset, .unset] [(.long y6), (.long y5), (.long y4), (.int (0 : Int32)), (.int (Int32.ofNat S)), (.int (Int32.ofNat B)), (.int (1 : Int32)), (.int (f_full (0 : Int32) B S (0 : Int32) y4 y5 y6))])) (T16.setTop (mkF m 160 #[.val (.int p0), .val (.int p1), .val (.int p2), .val (.int p3), .val (.int p4), .val (.int p5), .val (.int (Int32.ofNat B)), .val (.int (Int32.ofNat S)), .val (.int (0 : Int32)), .val (.long y4), .second, .val (.long y5), .second, .val (.long y6), .second, .val (.ref b10), .unset, .unset, .unset] [(.int (f_full (1 : Int32) B S (0 : Int32) y4 y5 y6)), (.int (f_full (0 : Int32) B S (0 : Int32) y4 y5 y6))])) := st16
    have k17 : Go p.tables e below (T16.setTop (mkF m 160 #[.val (.int p0), .val (.int p1), .val (.int p2), .val (.int p3), .val (.int p4), .val (.int p5), .val (.int (Int32.ofNat B)), .val (.int (Int32.ofNat S)), .val (.int (0 : Int32)), .val (.long y4), .second, .val (.long y5), .second, .val (.long y6), .second, .val (.ref b10), .unset, .unset, .unset] [(.int (f_full (1 : Int32) B S (0 : Int32) y4 y5 y6)), (.int (f_full (0 : Int32) B S (0 : Int32) y4 y5 y6))])) (T16.setTop (mkF m 174 #[.val (.int p0), .val (.int p1), .val (.int p2), .val (.int p3), .val (.int p4), .val (.int p5), .val (.int (Int32.ofNat B)), .val (.int (Int32.ofNat S)), .val (.int (0 : Int32)), .val (.long y4), .second, .val (.long y5), .second, .val (.long y6), .second, .val (.ref b10), .unset, .unset, .unset] [(.long y6), (.long y5), (.long y4), (.int (0 : Int32)), (.int (Int32.ofNat S)), (.int (Int32.ofNat B)), (.int (2 : Int32)), (.int ((f_full (0 : Int32) B S (0 : Int32) y4 y5 y6) + (f_full (1 : Int32) B S (0 : Int32) y4 y5 y6)))])) := by
      intro t ht
      refine XS.iadd X16.here hx rfl (hb hby at_160) rfl ?_
      show Steps p.tables e below (T16.setTop (mkF m 161 #[.val (.int p0), .val (.int p1), .val (.int p2), .val (.int p3), .val (.int p4), .val (.int p5), .val (.int (Int32.ofNat B)), .val (.int (Int32.ofNat S)), .val (.int (0 : Int32)), .val (.long y4), .second, .val (.long y5), .second, .val (.long y6), .second, .val (.ref b10), .unset, .unset, .unset] [(.int ((f_full (0 : Int32) B S (0 : Int32) y4 y5 y6) + (f_full (1 : Int32) B S (0 : Int32) y4 y5 y6)))])) _
      refine XS.iconst X16.here hx rfl (hb hby at_161) ?_
      show Steps p.tables e below (T16.setTop (mkF m 162 #[.val (.int p0), .val (.int p1), .val (.int p2), .val (.int p3), .val (.int p4), .val (.int p5), .val (.int (Int32.ofNat B)), .val (.int (Int32.ofNat S)), .val (.int (0 : Int32)), .val (.long y4), .second, .val (.long y5), .second, .val (.long y6), .second, .val (.ref b10), .unset, .unset, .unset] [(.int (2 : Int32)), (.int ((f_full (0 : Int32) B S (0 : Int32) y4 y5 y6) + (f_full (1 : Int32) B S (0 : Int32) y4 y5 y6)))])) _
      refine XS.iload X16.here hx rfl (hb hby at_162) rfl ?_
      show Steps p.tables e below (T16.setTop (mkF m 164 #[.val (.int p0), .val (.int p1), .val (.int p2), .val (.int p3), .val (.int p4), .val (.int p5), .val (.int (Int32.ofNat B)), .val (.int (Int32.ofNat S)), .val (.int (0 : Int32)), .val (.long y4), .second, .val (.long y5), .second, .val (.long y6), .second, .val (.ref b10), .unset, .unset, .unset] [(.int (Int32.ofNat B)), (.int (2 : Int32)), (.int ((f_full (0 : Int32) B S (0 : Int32) y4 y5 y6) + (f_full (1 : Int32) B S (0 : Int32) y4 y5 y6)))])) _
      refine XS.iload X16.here hx rfl (hb hby at_164) rfl ?_
      show Steps p.tables e below (T16.setTop (mkF m 166 #[.val (.int p0), .val (.int p1), .val (.int p2), .val (.int p3), .val (.int p4), .val (.int p5), .val (.int (Int32.ofNat B)), .val (.int (Int32.ofNat S)), .val (.int (0 : Int32)), .val (.long y4), .second, .val (.long y5), .second, .val (.long y6), .second, .val (.ref b10), .unset, .unset, .unset] [(.int (Int32.ofNat S)), (.int (Int32.ofNat B)), (.int (2 : Int32)), (.int ((f_full (0 : Int32) B S (0 : Int32) y4 y5 y6) + (f_full (1 : Int32) B S (0 : Int32) y4 y5 y6)))])) _
      refine XS.iload X16.here hx rfl (hb hby at_166) rfl ?_
      show Steps p.tables e below (T16.setTop (mkF m 168 #[.val (.int p0), .val (.int p1), .val (.int p2), .val (.int p3), .val (.int p4), .val (.int p5), .val (.int (Int32.ofNat B)), .val (.int (Int32.ofNat S)), .val (.int (0 : Int32)), .val (.long y4), .second, .val (.long y5), .second, .val (.long y6), .second, .val (.ref b10), .unset, .unset, .unset] [(.int (0 : Int32)), (.int (Int32.ofNat S)), (.int (Int32.ofNat B)), (.int (2 : Int32)), (.int ((f_full (0 : Int32) B S (0 : Int32) y4 y5 y6) + (f_full (1 : Int32) B S (0 : Int32) y4 y5 y6)))])) _
      refine XS.lload X16.here hx rfl (hb hby at_168) rfl ?_
      show Steps p.tables e below (T16.setTop (mkF m 170 #[.val (.int p0), .val (.int p1), .val (.int p2), .val (.int p3), .val (.int p4), .val (.int p5), .val (.int (Int32.ofNat B)), .val (.int (Int32.ofNat S)), .val (.int (0 : Int32)), .val (.long y4), .second, .val (.long y5), .second, .val (.long y6), .second, .val (.ref b10), .unset, .unset, .unset] [(.long y4), (.int (0 : Int32)), (.int (Int32.ofNat S)), (.int (Int32.ofNat B)), (.int (2 : Int32)), (.int ((f_full (0 : Int32) B S (0 : Int32) y4 y5 y6) + (f_full (1 : Int32) B S (0 : Int32) y4 y5 y6)))])) _
      refine XS.lload X16.here hx rfl (hb hby at_170) rfl ?_
      show Steps p.tables e below (T16.setTop (mkF m 172 #[.val (.int p0), .val (.int p1), .val (.int p2), .val (.int p3), .val (.int p4), .val (.int p5), .val (.int (Int32.ofNat B)), .val (.int (Int32.ofNat S)), .val (.int (0 : Int32)), .val (.long y4), .second, .val (.long y5), .second, .val (.long y6), .second, .val (.ref b10), .unset, .unset, .unset] [(.long y5), (.long y4), (.int (0 : Int32)), (.int (Int32.ofNat S)), (.int (Int32.ofNat B)), (.int (2 : Int32)), (.int ((f_full (0 : Int32) B S (0 : Int32) y4 y5 y6) + (f_full (1 : Int32) B S (0 : Int32) y4 y5 y6)))])) _
      refine XS.lload X16.here hx rfl (hb hby at_172) rfl ?_
      exact ht
    obtain ⟨_, _, ⟨T18, L18, kq18, n18⟩, -, X18, ⟨Lc18, hQ18, l18, y18, z18⟩, st18⟩ := Jvm.LawKit.callS X16 hx (y := (⟨"com/example/auspex/auspex/manager/ConflictTableFullBucketSharePinLaw", "fullIn", "(IIIIJJJ)I"⟩ : MethodName)) hown (mvT hZ (hw _ (List.mem_of_getElem? (i := 35) rfl))) (mvT hZ (hw _ (List.mem_of_getElem? (i := 36) rfl))) (mvT hZ (hw _ (List.mem_of_getElem? (i := 37) rfl))) (mvT hZ (hw _ (List.mem_of_getElem? (i := 38) rfl))) (by decide) (backOf (W := 1) (rm_full l Z a0 hw [] (2 : Int32) B S (0 : Int32) y4 y5 y6 T12.heap n0 Z12 (hB : 1 ≤ B ∧ B ≤ 4) (hS : 1 ≤ S ∧ S ≤ 3)) hZ (hw _ (List.mem_of_getElem? (i := 38) rfl)) (hw _ (List.mem_of_getElem? (i := 37) rfl)) (by decide) (by decide)) (g := (mkF m 174 #[.val (.int p0), .val (.int p1), .val (.int p2), .val (.int p3), .val (.int p4), .val (.int p5), .val (.int (Int32.ofNat B)), .val (.int (Int32.ofNat S)), .val (.int (0 : Int32)), .val (.long y4), .second, .val (.long y5), .second, .val (.long y6), .second, .val (.ref b10), .unset, .unset, .unset] [(.long y6), (.long y5), (.long y4), (.int (0 : Int32)), (.int (Int32.ofNat S)), (.int (Int32.ofNat B)), (.int (2 : Int32)), (.int ((f_full (0 : Int32) B S (0 : Int32) y4 y5 y6) + (f_full (1 : Int32) B S (0 : Int32) y4 y5 y6)))])) rfl (by rw [hml]; rfl) (argsL := [(.int (2 : Int32)), (.int (Int32.ofNat B)), (.int (Int32.ofNat S)), (.int (0 : Int32)), (.long y4), (.long y5), (.long y6)]) (rest := [(.int ((f_full (0 : Int32) B S (0 : Int32) y4 y5 y6) + (f_full (1 : Int32) B S (0 : Int32) y4 y5 y6)))]) (lenOf pd_3 rfl) rfl (by show 2 * 0 + _ ≤ _; exact Nat.le_of_eq rfl) (hb hby at_174) (fun _ _ => ⟨rfl, eq16, (by decide : 3 + 0 ≤ _), (by decide : 28 + 0 ≤ _)⟩)
    dsimp only [Pt.U, Pt.locs, Pt.cells, Pt.slots] at X18 l18 y18 z18 st18 hQ18
    subst l18 y18 z18
    obtain ⟨rfl, N18q, eq18⟩ := hQ18
    have N18 := Fr.app N16 N18q
    have k18 : Go p.tables e below (T16.setTop (mkF m 174 #[.val (.int p0), .val (.int p1), .val (.int p2), .val (.int p3), .val (.int p4), .val (.int p5), .val (.int (Int32.ofNat B)), .val (.int (Int32.ofNat S)), .val (.int (0 : Int32)), .val (.long y4), .second, .val (.long y5), .second, .val (.long y6), .second, .val (.ref b10), .unset, .unset, .unset] [(.long y6), (.long y5), (.long y4), (.int (0 : Int32)), (.int (Int32.ofNat S)), (.int (Int32.ofNat B)), (.int (2 : Int32)), (.int ((f_full (0 : Int32) B S (0 : Int32) y4 y5 y6) + (f_full (1 : Int32) B S (0 : Int32) y4 y5 y6)))])) (T18.setTop (mkF m 177 #[.val (.int p0), .val (.int p1), .val (.int p2), .val (.int p3), .val (.int p4), .val (.int p5), .val (.int (Int32.ofNat B)), .val (.int (Int32.ofNat S)), .val (.int (0 : Int32)), .val (.long y4), .second, .val (.long y5), .second, .val (.long y6), .second, .val (.ref b10), .unset, .unset, .unset] [(.int (f_full (2 : Int32) B S (0 : Int32) y4 y5 y6)), (.int ((f_full (0 : Int32) B S (0 : Int32) y4 y5 y6) + (f_full (1 : Int32) B S (0 : Int32) y4 y5 y6)))])) := st18
    have k19 : Go p.tables e below (T18.setTop (mkF m 177 #[.val (.int p0), .val (.int p1), .val (.int p2), .val (.int p3), .val (.int p4), .val (.int p5), .val (.int (Int32.ofNat B)), .val (.int (Int32.ofNat S)), .val (.int (0 : Int32)), .val (.long y4), .second, .val (.long y5), .second, .val (.long y6), .second, .val (.ref b10), .unset, .unset, .unset] [(.int (f_full (2 : Int32) B S (0 : Int32) y4 y5 y6)), (.int ((f_full (0 : Int32) B S (0 : Int32) y4 y5 y6) + (f_full (1 : Int32) B S (0 : Int32) y4 y5 y6)))])) (T18.setTop (mkF m 191 #[.val (.int p0), .val (.int p1), .val (.int p2), .val (.int p3), .val (.int p4), .val (.int p5), .val (.int (Int32.ofNat B)), .val (.int (Int32.ofNat S)), .val (.int (0 : Int32)), .val (.long y4), .second, .val (.long y5), .second, .val (.long y6), .second, .val (.ref b10), .unset, .unset, .unset] [(.long y6), (.long y5), (.long y4), (.int (0 : Int32)), (.int (Int32.ofNat S)), (.int (Int32.ofNat B)), (.int (3 : Int32)), (.int (((f_full (0 : Int32) B S (0 : Int32) y4 y5 y6) + (f_full (1 : Int32) B S (0 : Int32) y4 y5 y6)) + (f_full (2 : Int32) B S (0 : Int32) y4 y5 y6)))])) := by
      intro t ht
      refine XS.iadd X18.here hx rfl (hb hby at_177) rfl ?_
      show Steps p.tables e below (T18.setTop (mkF m 178 #[.val (.int p0), .val (.int p1), .val (.int p2), .val (.int p3), .val (.int p4), .val (.int p5), .val (.int (Int32.ofNat B)), .val (.int (Int32.ofNat S)), .val (.int (0 : Int32)), .val (.long y4), .second, .val (.long y5), .second, .val (.long y6), .second, .val (.ref b10), .unset, .unset, .unset] [(.int (((f_full (0 : Int32) B S (0 : Int32) y4 y5 y6) + (f_full (1 : Int32) B S (0 : Int32) y4 y5 y6)) + (f_full (2 : Int32) B S (0 : Int32) y4 y5 y6)))])) _
      refine XS.iconst X18.here hx rfl (hb hby at_178) ?_
      show Steps p.tables e below (T18.setTop (mkF m 179 #[.val (.int p0), .val (.int p1), .val (.int p2), .val (.int p3), .val (.int p4), .val (.int p5), .val (.int (Int32.ofNat B)), .val (.int (Int32.ofNat S)), .val (.int (0 : Int32)), .val (.long y4), .second, .val (.long y5), .second, .val (.long y6), .second, .val (.ref b10), .unset, .unset, .unset] [(.int (3 : Int32)), (.int (((f_full (0 : Int32) B S (0 : Int32) y4 y5 y6) + (f_full (1 : Int32) B S (0 : Int32) y4 y5 y6)) + (f_full (2 : Int32) B S (0 : Int32) y4 y5 y6)))])) _
      refine XS.iload X18.here hx rfl (hb hby at_179) rfl ?_
      show Steps p.tables e below (T18.setTop (mkF m 181 #[.val (.int p0), .val (.int p1), .val (.int p2), .val (.int p3), .val (.int p4), .val (.int p5), .val (.int (Int32.ofNat B)), .val (.int (Int32.ofNat S)), .val (.int (0 : Int32)), .val (.long y4), .second, .val (.long y5), .second, .val (.long y6), .second, .val (.ref b10), .unset, .unset, .unset] [(.int (Int32.ofNat B)), (.int (3 : Int32)), (.int (((f_full (0 : Int32) B S (0 : Int32) y4 y5 y6) + (f_full (1 : Int32) B S (0 : Int32) y4 y5 y6)) + (f_full (2 : Int32) B S (0 : Int32) y4 y5 y6)))])) _
      refine XS.iload X18.here hx rfl (hb hby at_181) rfl ?_
      show Steps p.tables e below (T18.setTop (mkF m 183 #[.val (.int p0), .val (.int p1), .val (.int p2), .val (.int p3), .val (.int p4), .val (.int p5), .val (.int (Int32.ofNat B)), .val (.int (Int32.ofNat S)), .val (.int (0 : Int32)), .val (.long y4), .second, .val (.long y5), .second, .val (.long y6), .second, .val (.ref b10), .unset, .unset, .unset] [(.int (Int32.ofNat S)), (.int (Int32.ofNat B)), (.int (3 : Int32)), (.int (((f_full (0 : Int32) B S (0 : Int32) y4 y5 y6) + (f_full (1 : Int32) B S (0 : Int32) y4 y5 y6)) + (f_full (2 : Int32) B S (0 : Int32) y4 y5 y6)))])) _
      refine XS.iload X18.here hx rfl (hb hby at_183) rfl ?_
      show Steps p.tables e below (T18.setTop (mkF m 185 #[.val (.int p0), .val (.int p1), .val (.int p2), .val (.int p3), .val (.int p4), .val (.int p5), .val (.int (Int32.ofNat B)), .val (.int (Int32.ofNat S)), .val (.int (0 : Int32)), .val (.long y4), .second, .val (.long y5), .second, .val (.long y6), .second, .val (.ref b10), .unset, .unset, .unset] [(.int (0 : Int32)), (.int (Int32.ofNat S)), (.int (Int32.ofNat B)), (.int (3 : Int32)), (.int (((f_full (0 : Int32) B S (0 : Int32) y4 y5 y6) + (f_full (1 : Int32) B S (0 : Int32) y4 y5 y6)) + (f_full (2 : Int32) B S (0 : Int32) y4 y5 y6)))])) _
      refine XS.lload X18.here hx rfl (hb hby at_185) rfl ?_
      show Steps p.tables e below (T18.setTop (mkF m 187 #[.val (.int p0), .val (.int p1), .val (.int p2), .val (.int p3), .val (.int p4), .val (.int p5), .val (.int (Int32.ofNat B)), .val (.int (Int32.ofNat S)), .val (.int (0 : Int32)), .val (.long y4), .second, .val (.long y5), .second, .val (.long y6), .second, .val (.ref b10), .unset, .unset, .unset] [(.long y4), (.int (0 : Int32)), (.int (Int32.ofNat S)), (.int (Int32.ofNat B)), (.int (3 : Int32)), (.int (((f_full (0 : Int32) B S (0 : Int32) y4 y5 y6) + (f_full (1 : Int32) B S (0 : Int32) y4 y5 y6)) + (f_full (2 : Int32) B S (0 : Int32) y4 y5 y6)))])) _
      refine XS.lload X18.here hx rfl (hb hby at_187) rfl ?_
      show Steps p.tables e below (T18.setTop (mkF m 189 #[.val (.int p0), .val (.int p1), .val (.int p2), .val (.int p3), .val (.int p4), .val (.int p5), .val (.int (Int32.ofNat B)), .val (.int (Int32.ofNat S)), .val (.int (0 : Int32)), .val (.long y4), .second, .val (.long y5), .second, .val (.long y6), .second, .val (.ref b10), .unset, .unset, .unset] [(.long y5), (.long y4), (.int (0 : Int32)), (.int (Int32.ofNat S)), (.int (Int32.ofNat B)), (.int (3 : Int32)), (.int (((f_full (0 : Int32) B S (0 : Int32) y4 y5 y6) + (f_full (1 : Int32) B S (0 : Int32) y4 y5 y6)) + (f_full (2 : Int32) B S (0 : Int32) y4 y5 y6)))])) _
      refine XS.lload X18.here hx rfl (hb hby at_189) rfl ?_
      exact ht
    obtain ⟨_, _, ⟨T20, L20, kq20, n20⟩, -, X20, ⟨Lc20, hQ20, l20, y20, z20⟩, st20⟩ := Jvm.LawKit.callS X18 hx (y := (⟨"com/example/auspex/auspex/manager/ConflictTableFullBucketSharePinLaw", "fullIn", "(IIIIJJJ)I"⟩ : MethodName)) hown (mvT hZ (hw _ (List.mem_of_getElem? (i := 35) rfl))) (mvT hZ (hw _ (List.mem_of_getElem? (i := 36) rfl))) (mvT hZ (hw _ (List.mem_of_getElem? (i := 37) rfl))) (mvT hZ (hw _ (List.mem_of_getElem? (i := 38) rfl))) (by decide) (backOf (W := 1) (rm_full l Z a0 hw [] (3 : Int32) B S (0 : Int32) y4 y5 y6 T12.heap n0 Z12 (hB : 1 ≤ B ∧ B ≤ 4) (hS : 1 ≤ S ∧ S ≤ 3)) hZ (hw _ (List.mem_of_getElem? (i := 38) rfl)) (hw _ (List.mem_of_getElem? (i := 37) rfl)) (by decide) (by decide)) (g := (mkF m 191 #[.val (.int p0), .val (.int p1), .val (.int p2), .val (.int p3), .val (.int p4), .val (.int p5), .val (.int (Int32.ofNat B)), .val (.int (Int32.ofNat S)), .val (.int (0 : Int32)), .val (.long y4), .second, .val (.long y5), .second, .val (.long y6), .second, .val (.ref b10), .unset, .unset, .unset] [(.long y6), (.long y5), (.long y4), (.int (0 : Int32)), (.int (Int32.ofNat S)), (.int (Int32.ofNat B)), (.int (3 : Int32)), (.int (((f_full (0 : Int32) B S (0 : Int32) y4 y5 y6) + (f_full (1 : Int32) B S (0 : Int32) y4 y5 y6)) + (f_full (2 : Int32) B S (0 : Int32) y4 y5 y6)))])) rfl (by rw [hml]; rfl) (argsL := [(.int (3 : Int32)), (.int (Int32.ofNat B)), (.int (Int32.ofNat S)), (.int (0 : Int32)), (.long y4), (.long y5), (.long y6)]) (rest := [(.int (((f_full (0 : Int32) B S (0 : Int32) y4 y5 y6) + (f_full (1 : Int32) B S (0 : Int32) y4 y5 y6)) + (f_full (2 : Int32) B S (0 : Int32) y4 y5 y6)))]) (lenOf pd_3 rfl) rfl (by show 2 * 0 + _ ≤ _; exact Nat.le_of_eq rfl) (hb hby at_191) (fun _ _ => ⟨rfl, eq18, (by decide : 3 + 0 ≤ _), (by decide : 28 + 0 ≤ _)⟩)
    dsimp only [Pt.U, Pt.locs, Pt.cells, Pt.slots] at X20 l20 y20 z20 st20 hQ20
    subst l20 y20 z20
    obtain ⟨rfl, N20q, eq20⟩ := hQ20
    have N20 := Fr.app N18 N20q
    have k20 : Go p.tables e below (T18.setTop (mkF m 191 #[.val (.int p0), .val (.int p1), .val (.int p2), .val (.int p3), .val (.int p4), .val (.int p5), .val (.int (Int32.ofNat B)), .val (.int (Int32.ofNat S)), .val (.int (0 : Int32)), .val (.long y4), .second, .val (.long y5), .second, .val (.long y6), .second, .val (.ref b10), .unset, .unset, .unset] [(.long y6), (.long y5), (.long y4), (.int (0 : Int32)), (.int (Int32.ofNat S)), (.int (Int32.ofNat B)), (.int (3 : Int32)), (.int (((f_full (0 : Int32) B S (0 : Int32) y4 y5 y6) + (f_full (1 : Int32) B S (0 : Int32) y4 y5 y6)) + (f_full (2 : Int32) B S (0 : Int32) y4 y5 y6)))])) (T20.setTop (mkF m 194 #[.val (.int p0), .val (.int p1), .val (.int p2), .val (.int p3), .val (.int p4), .val (.int p5), .val (.int (Int32.ofNat B)), .val (.int (Int32.ofNat S)), .val (.int (0 : Int32)), .val (.long y4), .second, .val (.long y5), .second, .val (.long y6), .second, .val (.ref b10), .unset, .unset, .unset] [(.int (f_full (3 : Int32) B S (0 : Int32) y4 y5 y6)), (.int (((f_full (0 : Int32) B S (0 : Int32) y4 y5 y6) + (f_full (1 : Int32) B S (0 : Int32) y4 y5 y6)) + (f_full (2 : Int32) B S (0 : Int32) y4 y5 y6)))])) := st20
    have k21 : Go p.tables e below (T20.setTop (mkF m 194 #[.val (.int p0), .val (.int p1), .val (.int p2), .val (.int p3), .val (.int p4), .val (.int p5), .val (.int (Int32.ofNat B)), .val (.int (Int32.ofNat S)), .val (.int (0 : Int32)), .val (.long y4), .second, .val (.long y5), .second, .val (.long y6), .second, .val (.ref b10), .unset, .unset, .unset] [(.int (f_full (3 : Int32) B S (0 : Int32) y4 y5 y6)), (.int (((f_full (0 : Int32) B S (0 : Int32) y4 y5 y6) + (f_full (1 : Int32) B S (0 : Int32) y4 y5 y6)) + (f_full (2 : Int32) B S (0 : Int32) y4 y5 y6)))])) (T20.setTop (mkF m 197 #[.val (.int p0), .val (.int p1), .val (.int p2), .val (.int p3), .val (.int p4), .val (.int p5), .val (.int (Int32.ofNat B)), .val (.int (Int32.ofNat S)), .val (.int (0 : Int32)), .val (.long y4), .second, .val (.long y5), .second, .val (.long y6), .second, .val (.ref b10), .val (.int ((((f_full (0 : Int32) B S (0 : Int32) y4 y5 y6) + (f_full (1 : Int32) B S (0 : Int32) y4 y5 y6)) + (f_full (2 : Int32) B S (0 : Int32) y4 y5 y6)) + (f_full (3 : Int32) B S (0 : Int32) y4 y5 y6))), .unset, .unset] [])) := by
      intro t ht
      refine XS.iadd X20.here hx rfl (hb hby at_194) rfl ?_
      show Steps p.tables e below (T20.setTop (mkF m 195 #[.val (.int p0), .val (.int p1), .val (.int p2), .val (.int p3), .val (.int p4), .val (.int p5), .val (.int (Int32.ofNat B)), .val (.int (Int32.ofNat S)), .val (.int (0 : Int32)), .val (.long y4), .second, .val (.long y5), .second, .val (.long y6), .second, .val (.ref b10), .unset, .unset, .unset] [(.int ((((f_full (0 : Int32) B S (0 : Int32) y4 y5 y6) + (f_full (1 : Int32) B S (0 : Int32) y4 y5 y6)) + (f_full (2 : Int32) B S (0 : Int32) y4 y5 y6)) + (f_full (3 : Int32) B S (0 : Int32) y4 y5 y6)))])) _
      refine XS.istore X20.here hx rfl (hb hby at_195) rfl (l' := #[.val (.int p0), .val (.int p1), .val (.int p2), .val (.int p3), .val (.int p4), .val (.int p5), .val (.int (Int32.ofNat B)), .val (.int (Int32.ofNat S)), .val (.int (0 : Int32)), .val (.long y4), .second, .val (.long y5), .second, .val (.long y6), .second, .val (.ref b10), .val (.int ((((f_full (0 : Int32) B S (0 : Int32) y4 y5 y6) + (f_full (1 : Int32) B S (0 : Int32) y4 y5 y6)) + (f_full (2 : Int32) B S (0 : Int32) y4 y5 y6)) + (f_full (3 : Int32) B S (0 : Int32) y4 y5 y6))), .unset, .unset]) rfl ?_
      exact ht
    obtain ⟨y22, ey22⟩ : ∃ z : Int32, z = ((((f_full (0 : Int32) B S (0 : Int32) y4 y5 y6) + (f_full (1 : Int32) B S (0 : Int32) y4 y5 y6)) + (f_full (2 : Int32) B S (0 : Int32) y4 y5 y6)) + (f_full (3 : Int32) B S (0 : Int32) y4 y5 y6)) := ⟨_, rfl⟩
    have k23 : Go p.tables e below (T20.setTop (mkF m 197 #[.val (.int p0), .val (.int p1), .val (.int p2), .val (.int p3), .val (.int p4), .val (.int p5), .val (.int (Int32.ofNat B)), .val (.int (Int32.ofNat S)), .val (.int (0 : Int32)), .val (.long y4), .second, .val (.long y5), .second, .val (.long y6), .second, .val (.ref b10), .val (.int ((((f_full (0 : Int32) B S (0 : Int32) y4 y5 y6) + (f_full (1 : Int32) B S (0 : Int32) y4 y5 y6)) + (f_full (2 : Int32) B S (0 : Int32) y4 y5 y6)) + (f_full (3 : Int32) B S (0 : Int32) y4 y5 y6))), .unset, .unset] [])) (T20.setTop (mkF m 197 #[.val (.int p0), .val (.int p1), .val (.int p2), .val (.int p3), .val (.int p4), .val (.int p5), .val (.int (Int32.ofNat B)), .val (.int (Int32.ofNat S)), .val (.int (0 : Int32)), .val (.long y4), .second, .val (.long y5), .second, .val (.long y6), .second, .val (.ref b10), .val (.int y22), .unset, .unset] [])) := by rw [ey22]; exact fun _ h => h
    have k24 : Go p.tables e below (T20.setTop (mkF m 197 #[.val (.int p0), .val (.int p1), .val (.int p2), .val (.int p3), .val (.int p4), .val (.int p5), .val (.int (Int32.ofNat B)), .val (.int (Int32.ofNat S)), .val (.int (0 : Int32)), .val (.long y4), .second, .val (.long y5), .second, .val (.long y6), .second, .val (.ref b10), .val (.int y22), .unset, .unset] [])) (T20.setTop (mkF m 208 #[.val (.int p0), .val (.int p1), .val (.int p2), .val (.int p3), .val (.int p4), .val (.int p5), .val (.int (Int32.ofNat B)), .val (.int (Int32.ofNat S)), .val (.int (0 : Int32)), .val (.long y4), .second, .val (.long y5), .second, .val (.long y6), .second, .val (.ref b10), .val (.int y22), .val (.double (FP.ddiv (FP.i2d y22) (FP.i2d (Int32.ofNat B)))), .second] [(.ref b10)])) := by
      intro t ht
      refine XS.iload X20.here hx rfl (hb hby at_197) rfl ?_
      show Steps p.tables e below (T20.setTop (mkF m 199 #[.val (.int p0), .val (.int p1), .val (.int p2), .val (.int p3), .val (.int p4), .val (.int p5), .val (.int (Int32.ofNat B)), .val (.int (Int32.ofNat S)), .val (.int (0 : Int32)), .val (.long y4), .second, .val (.long y5), .second, .val (.long y6), .second, .val (.ref b10), .val (.int y22), .unset, .unset] [(.int y22)])) _
      refine XS.i2dS X20.here hx rfl (hb hby at_199) rfl rfl ?_
      show Steps p.tables e below (T20.setTop (mkF m 200 #[.val (.int p0), .val (.int p1), .val (.int p2), .val (.int p3), .val (.int p4), .val (.int p5), .val (.int (Int32.ofNat B)), .val (.int (Int32.ofNat S)), .val (.int (0 : Int32)), .val (.long y4), .second, .val (.long y5), .second, .val (.long y6), .second, .val (.ref b10), .val (.int y22), .unset, .unset] [(.double (FP.i2d y22))])) _
      refine XS.iload X20.here hx rfl (hb hby at_200) rfl ?_
      show Steps p.tables e below (T20.setTop (mkF m 202 #[.val (.int p0), .val (.int p1), .val (.int p2), .val (.int p3), .val (.int p4), .val (.int p5), .val (.int (Int32.ofNat B)), .val (.int (Int32.ofNat S)), .val (.int (0 : Int32)), .val (.long y4), .second, .val (.long y5), .second, .val (.long y6), .second, .val (.ref b10), .val (.int y22), .unset, .unset] [(.int (Int32.ofNat B)), (.double (FP.i2d y22))])) _
      refine XS.i2dS X20.here hx rfl (hb hby at_202) rfl rfl ?_
      show Steps p.tables e below (T20.setTop (mkF m 203 #[.val (.int p0), .val (.int p1), .val (.int p2), .val (.int p3), .val (.int p4), .val (.int p5), .val (.int (Int32.ofNat B)), .val (.int (Int32.ofNat S)), .val (.int (0 : Int32)), .val (.long y4), .second, .val (.long y5), .second, .val (.long y6), .second, .val (.ref b10), .val (.int y22), .unset, .unset] [(.double (FP.i2d (Int32.ofNat B))), (.double (FP.i2d y22))])) _
      refine XS.ddivS X20.here hx rfl (hb hby at_203) rfl (own_nanF hB ey22) rfl ?_
      show Steps p.tables e below (T20.setTop (mkF m 204 #[.val (.int p0), .val (.int p1), .val (.int p2), .val (.int p3), .val (.int p4), .val (.int p5), .val (.int (Int32.ofNat B)), .val (.int (Int32.ofNat S)), .val (.int (0 : Int32)), .val (.long y4), .second, .val (.long y5), .second, .val (.long y6), .second, .val (.ref b10), .val (.int y22), .unset, .unset] [(.double (FP.ddiv (FP.i2d y22) (FP.i2d (Int32.ofNat B))))])) _
      refine XS.dstore X20.here hx rfl (hb hby at_204) rfl (l' := #[.val (.int p0), .val (.int p1), .val (.int p2), .val (.int p3), .val (.int p4), .val (.int p5), .val (.int (Int32.ofNat B)), .val (.int (Int32.ofNat S)), .val (.int (0 : Int32)), .val (.long y4), .second, .val (.long y5), .second, .val (.long y6), .second, .val (.ref b10), .val (.int y22), .val (.double (FP.ddiv (FP.i2d y22) (FP.i2d (Int32.ofNat B)))), .second]) rfl ?_
      show Steps p.tables e below (T20.setTop (mkF m 206 #[.val (.int p0), .val (.int p1), .val (.int p2), .val (.int p3), .val (.int p4), .val (.int p5), .val (.int (Int32.ofNat B)), .val (.int (Int32.ofNat S)), .val (.int (0 : Int32)), .val (.long y4), .second, .val (.long y5), .second, .val (.long y6), .second, .val (.ref b10), .val (.int y22), .val (.double (FP.ddiv (FP.i2d y22) (FP.i2d (Int32.ofNat B)))), .second] [])) _
      refine XS.aload X20.here hx rfl (hb hby at_206) rfl rfl ?_
      exact ht
    obtain ⟨cq25, kq25, q25a, q25b, q25c⟩ := isOf hZ eq20 Fq12_0
    obtain ⟨_, _, ⟨T25, L25, kq25, n25⟩, -, X25, ⟨Lc25, hQ25, l25, y25, z25⟩, st25⟩ := X20.virtualBack hx (y := (⟨"com/example/auspex/auspex/manager/ConflictTable", "fullBucketShare", "()D"⟩ : MethodName)) (z := (⟨"com/example/auspex/auspex/manager/ConflictTable", "fullBucketShare", "()D"⟩ : MethodName)) hown (mvT hZ (hw _ (List.mem_of_getElem? (i := 39) rfl))) (mvT hZ (hw _ (List.mem_of_getElem? (i := 40) rfl))) (notFace_of_selects (args := #[]) (mvT hZ (hw _ (List.mem_of_getElem? (i := 42) rfl)))) (mvT hZ (hw _ (List.mem_of_getElem? (i := 42) rfl))) (mvT hZ (hw _ (List.mem_of_getElem? (i := 41) rfl))) (by decide) (backOf (W := 0) (rm_share l Z a0 hw [] b10 B S xc_12 xl_12 own_Z T12.heap n0 Z12 Fq12_1 Fq12_2 Fq12_4 Fq12_6 (hB : 1 ≤ B ∧ B ≤ 4) (hS : 1 ≤ S ∧ S ≤ 3)) hZ (hw _ (List.mem_of_getElem? (i := 43) rfl)) (hw _ (List.mem_of_getElem? (i := 3) rfl)) (by decide) (by decide)) q25a q25c (g := (mkF m 208 #[.val (.int p0), .val (.int p1), .val (.int p2), .val (.int p3), .val (.int p4), .val (.int p5), .val (.int (Int32.ofNat B)), .val (.int (Int32.ofNat S)), .val (.int (0 : Int32)), .val (.long y4), .second, .val (.long y5), .second, .val (.long y6), .second, .val (.ref b10), .val (.int y22), .val (.double (FP.ddiv (FP.i2d y22) (FP.i2d (Int32.ofNat B)))), .second] [(.ref b10)])) rfl (by rw [hml]; rfl) (Steps.refl _) (argsL := []) (rest := []) (lenOf pd_4 rfl) rfl (by show 2 * 0 + _ ≤ _; exact Nat.le_of_eq rfl) (hb hby at_208) (fun _ _ => ⟨rfl, eq20, (by decide : 3 + 0 ≤ _), (by decide : 28 + 0 ≤ _)⟩)
    dsimp only [Pt.U, Pt.locs, Pt.cells, Pt.slots] at X25 l25 y25 z25 st25 hQ25
    subst l25 y25 z25
    obtain ⟨rfl, N25q, eq25⟩ := hQ25
    have N25 := Fr.app N20 N25q
    have k25 : Go p.tables e below (T20.setTop (mkF m 208 #[.val (.int p0), .val (.int p1), .val (.int p2), .val (.int p3), .val (.int p4), .val (.int p5), .val (.int (Int32.ofNat B)), .val (.int (Int32.ofNat S)), .val (.int (0 : Int32)), .val (.long y4), .second, .val (.long y5), .second, .val (.long y6), .second, .val (.ref b10), .val (.int y22), .val (.double (FP.ddiv (FP.i2d y22) (FP.i2d (Int32.ofNat B)))), .second] [(.ref b10)])) (T25.setTop (mkF m 211 #[.val (.int p0), .val (.int p1), .val (.int p2), .val (.int p3), .val (.int p4), .val (.int p5), .val (.int (Int32.ofNat B)), .val (.int (Int32.ofNat S)), .val (.int (0 : Int32)), .val (.long y4), .second, .val (.long y5), .second, .val (.long y6), .second, .val (.ref b10), .val (.int y22), .val (.double (FP.ddiv (FP.i2d y22) (FP.i2d (Int32.ofNat B)))), .second] [(.double (FP.ddiv (FP.l2d (own_share B S own_Z)) (FP.i2d (Int32.ofNat B))))])) := fun _ ht => st25.trans ht
    have k26 : Go p.tables e below (T25.setTop (mkF m 211 #[.val (.int p0), .val (.int p1), .val (.int p2), .val (.int p3), .val (.int p4), .val (.int p5), .val (.int (Int32.ofNat B)), .val (.int (Int32.ofNat S)), .val (.int (0 : Int32)), .val (.long y4), .second, .val (.long y5), .second, .val (.long y6), .second, .val (.ref b10), .val (.int y22), .val (.double (FP.ddiv (FP.i2d y22) (FP.i2d (Int32.ofNat B)))), .second] [(.double (FP.ddiv (FP.l2d (own_share B S own_Z)) (FP.i2d (Int32.ofNat B))))])) (T25.setTop (mkF m 222 #[.val (.int p0), .val (.int p1), .val (.int p2), .val (.int p3), .val (.int p4), .val (.int p5), .val (.int (Int32.ofNat B)), .val (.int (Int32.ofNat S)), .val (.int (0 : Int32)), .val (.long y4), .second, .val (.long y5), .second, .val (.long y6), .second, .val (.ref b10), .val (.int y22), .val (.double (FP.ddiv (FP.i2d y22) (FP.i2d (Int32.ofNat B)))), .second] [(.int (1 : Int32))])) := by
      intro t ht
      refine XS.dload X25.here hx rfl (hb hby at_211) rfl ?_
      show Steps p.tables e below (T25.setTop (mkF m 213 #[.val (.int p0), .val (.int p1), .val (.int p2), .val (.int p3), .val (.int p4), .val (.int p5), .val (.int (Int32.ofNat B)), .val (.int (Int32.ofNat S)), .val (.int (0 : Int32)), .val (.long y4), .second, .val (.long y5), .second, .val (.long y6), .second, .val (.ref b10), .val (.int y22), .val (.double (FP.ddiv (FP.i2d y22) (FP.i2d (Int32.ofNat B)))), .second] [(.double (FP.ddiv (FP.i2d y22) (FP.i2d (Int32.ofNat B)))), (.double (FP.ddiv (FP.l2d (own_share B S own_Z)) (FP.i2d (Int32.ofNat B))))])) _
      refine XS.dcmpS X25.here hx rfl (hb hby at_213) rfl rfl ?_
      show Steps p.tables e below (T25.setTop (mkF m 214 #[.val (.int p0), .val (.int p1), .val (.int p2), .val (.int p3), .val (.int p4), .val (.int p5), .val (.int (Int32.ofNat B)), .val (.int (Int32.ofNat S)), .val (.int (0 : Int32)), .val (.long y4), .second, .val (.long y5), .second, .val (.long y6), .second, .val (.ref b10), .val (.int y22), .val (.double (FP.ddiv (FP.i2d y22) (FP.i2d (Int32.ofNat B)))), .second] [(.int (cmpValue (FP.dcmp (FP.ddiv (FP.l2d (own_share B S own_Z)) (FP.i2d (Int32.ofNat B))) (FP.ddiv (FP.i2d y22) (FP.i2d (Int32.ofNat B)))) .l))])) _
      refine XS.ifNo X25.here hx rfl (hb hby at_214) rfl ((if0 _ _).trans (teq (own_final0 hB hS hH0 hH1 hH2 ey22 : (cmpValue (FP.dcmp (FP.ddiv (FP.l2d (own_share B S own_Z)) (FP.i2d (Int32.ofNat B))) (FP.ddiv (FP.i2d y22) (FP.i2d (Int32.ofNat B)))) .l) = (0 : Int32))).2) ?_
      show Steps p.tables e below (T25.setTop (mkF m 217 #[.val (.int p0), .val (.int p1), .val (.int p2), .val (.int p3), .val (.int p4), .val (.int p5), .val (.int (Int32.ofNat B)), .val (.int (Int32.ofNat S)), .val (.int (0 : Int32)), .val (.long y4), .second, .val (.long y5), .second, .val (.long y6), .second, .val (.ref b10), .val (.int y22), .val (.double (FP.ddiv (FP.i2d y22) (FP.i2d (Int32.ofNat B)))), .second] [])) _
      refine XS.iconst X25.here hx rfl (hb hby at_217) ?_
      show Steps p.tables e below (T25.setTop (mkF m 218 #[.val (.int p0), .val (.int p1), .val (.int p2), .val (.int p3), .val (.int p4), .val (.int p5), .val (.int (Int32.ofNat B)), .val (.int (Int32.ofNat S)), .val (.int (0 : Int32)), .val (.long y4), .second, .val (.long y5), .second, .val (.long y6), .second, .val (.ref b10), .val (.int y22), .val (.double (FP.ddiv (FP.i2d y22) (FP.i2d (Int32.ofNat B)))), .second] [(.int (1 : Int32))])) _
      refine XS.goto X25.here hx rfl (pc0 := 218) (pc' := 222) rfl (hb hby at_218) (by decide) (by decide) ?_
      exact ht
    obtain ⟨fs, hr, hrun, hended, hW, hsame⟩ := X25.leave (v := some (.int (1 : Int32))) (fun h => by rw [Bd.returns] at h; cases h)
    refine ⟨_, _, pre0 _ ((goT k1 (goT k2 (goT k3 (goT k7 (goT k9 (goT k10 (goT k11 (goT k12 (goT k13 (goT k14 (goT k15 (goT k16 (goT k17 (goT k18 (goT k19 (goT k20 (goT k21 (goT k23 (goT k24 (goT k25 k26)))))))))))))))))))) _ (retN X25 hx (t := .boolean) Bd.returns (by simp) (hb hby at_222) hr)), hrun, hended, _, _, rfl, ?_, ⟨_, rfl⟩, hW, hsame.mono (by decide) (by decide)⟩
    show Q_law Z p0 p1 p2 p3 p4 p5 h0 n0 _ T25.heap _
    rw [eq25]
    exact ⟨rfl, N25⟩
  · have k27 : Go p.tables e below (s₁.setTop (mkF m 51 #[.val (.int p0), .val (.int p1), .val (.int p2), .val (.int p3), .val (.int p4), .val (.int p5), .val (.int (Int32.ofNat B)), .val (.int (Int32.ofNat S)), .val (.int (p2 &&& (3 : Int32))), .val (.long y4), .second, .val (.long y5), .second, .val (.long y6), .second, .unset, .unset, .unset, .unset] [])) (s₁.setTop (mkF m 51 #[.val (.int p0), .val (.int p1), .val (.int p2), .val (.int p3), .val (.int p4), .val (.int p5), .val (.int (Int32.ofNat B)), .val (.int (Int32.ofNat S)), .val (.int (1 : Int32)), .val (.long y4), .second, .val (.long y5), .second, .val (.long y6), .second, .unset, .unset, .unset, .unset] [])) := by rw [hk8]; exact fun _ h => h
    obtain ⟨T28, h28, X28, e28, E28, A28, D28, -, st28⟩ := newO X0 hx hZ hown (hw _ (List.mem_of_getElem? (i := 1) rfl)) (hw _ (List.mem_of_getElem? (i := 2) rfl)) (hw _ (List.mem_of_getElem? (i := 3) rfl)) e0 (g := (mkF m 51 #[.val (.int p0), .val (.int p1), .val (.int p2), .val (.int p3), .val (.int p4), .val (.int p5), .val (.int (Int32.ofNat B)), .val (.int (Int32.ofNat S)), .val (.int (1 : Int32)), .val (.long y4), .second, .val (.long y5), .second, .val (.long y6), .second, .unset, .unset, .unset, .unset] [])) rfl (hb hby at_51) (by decide) (by decide)
    obtain ⟨b28, g28⟩ : ∃ z, z = h0.size := ⟨_, rfl⟩
    rw [← g28] at A28 D28 st28
    have g_b28 : n0 ≤ b28 := Nat.le_trans Z0 (Nat.le_of_eq g28.symm)
    have sz_b28 : h0.size ≤ b28 := Nat.le_trans (Keep.refl h0 []).1 (Nat.le_of_eq g28.symm)
    have Kp28 : Keep h0 h28 [] := (Keep.refl h0 []).ext E28
    have Z28 : n0 ≤ h28.size := Nat.le_trans Z0 E28.1
    have F_buckets_b28 : Fld Z h28 b28 "com/example/auspex/auspex/manager/ConflictTable" "buckets" "I" (.int (0 : Int32)) := D28 (Or.inr (hw _ (List.mem_of_getElem? (i := 12) rfl))) (ty := .int) (by decide)
    have F_slotsPerBucket_b28 : Fld Z h28 b28 "com/example/auspex/auspex/manager/ConflictTable" "slotsPerBucket" "I" (.int (0 : Int32)) := D28 (Or.inr (hw _ (List.mem_of_getElem? (i := 14) rfl))) (ty := .int) (by decide)
    have F_hashes_b28 : Fld Z h28 b28 "com/example/auspex/auspex/manager/ConflictTable" "hashes" "[J" .null := D28 (Or.inr (hw _ (List.mem_of_getElem? (i := 17) rfl))) (ty := (.array .long)) (by decide)
    have F_commits_b28 : Fld Z h28 b28 "com/example/auspex/auspex/manager/ConflictTable" "commits" "[J" .null := D28 (Or.inr (hw _ (List.mem_of_getElem? (i := 19) rfl))) (ty := (.array .long)) (by decide)
    have k28 : Go p.tables e below (s₁.setTop (mkF m 51 #[.val (.int p0), .val (.int p1), .val (.int p2), .val (.int p3), .val (.int p4), .val (.int p5), .val (.int (Int32.ofNat B)), .val (.int (Int32.ofNat S)), .val (.int (1 : Int32)), .val (.long y4), .second, .val (.long y5), .second, .val (.long y6), .second, .unset, .unset, .unset, .unset] [])) (T28.setTop (mkF m 54 #[.val (.int p0), .val (.int p1), .val (.int p2), .val (.int p3), .val (.int p4), .val (.int p5), .val (.int (Int32.ofNat B)), .val (.int (Int32.ofNat S)), .val (.int (1 : Int32)), .val (.long y4), .second, .val (.long y5), .second, .val (.long y6), .second, .unset, .unset, .unset, .unset] [(.ref b28)])) := st28
    have k29 : Go p.tables e below (T28.setTop (mkF m 54 #[.val (.int p0), .val (.int p1), .val (.int p2), .val (.int p3), .val (.int p4), .val (.int p5), .val (.int (Int32.ofNat B)), .val (.int (Int32.ofNat S)), .val (.int (1 : Int32)), .val (.long y4), .second, .val (.long y5), .second, .val (.long y6), .second, .unset, .unset, .unset, .unset] [(.ref b28)])) (T28.setTop (mkF m 59 #[.val (.int p0), .val (.int p1), .val (.int p2), .val (.int p3), .val (.int p4), .val (.int p5), .val (.int (Int32.ofNat B)), .val (.int (Int32.ofNat S)), .val (.int (1 : Int32)), .val (.long y4), .second, .val (.long y5), .second, .val (.long y6), .second, .unset, .unset, .unset, .unset] [(.int (Int32.ofNat S)), (.int (Int32.ofNat B)), (.ref b28), (.ref b28)])) := by
      intro t ht
      refine XS.dup X28.here hx rfl (hb hby at_54) rfl rfl ?_
      show Steps p.tables e below (T28.setTop (mkF m 55 #[.val (.int p0), .val (.int p1), .val (.int p2), .val (.int p3), .val (.int p4), .val (.int p5), .val (.int (Int32.ofNat B)), .val (.int (Int32.ofNat S)), .val (.int (1 : Int32)), .val (.long y4), .second, .val (.long y5), .second, .val (.long y6), .second, .unset, .unset, .unset, .unset] [(.ref b28), (.ref b28)])) _
      refine XS.iload X28.here hx rfl (hb hby at_55) rfl ?_
      show Steps p.tables e below (T28.setTop (mkF m 57 #[.val (.int p0), .val (.int p1), .val (.int p2), .val (.int p3), .val (.int p4), .val (.int p5), .val (.int (Int32.ofNat B)), .val (.int (Int32.ofNat S)), .val (.int (1 : Int32)), .val (.long y4), .second, .val (.long y5), .second, .val (.long y6), .second, .unset, .unset, .unset, .unset] [(.int (Int32.ofNat B)), (.ref b28), (.ref b28)])) _
      refine XS.iload X28.here hx rfl (hb hby at_57) rfl ?_
      exact ht
    obtain ⟨_, _, ⟨T30, L30, kq30, n30⟩, -, X30, ⟨Lc30, hQ30, l30, y30, z30⟩, st30⟩ := X28.specialBack hx (y := (⟨"com/example/auspex/auspex/manager/ConflictTable", "<init>", "(II)V"⟩ : MethodName)) rfl hown (mvT hZ (hw _ (List.mem_of_getElem? (i := 4) rfl))) (mvT hZ (hw _ (List.mem_of_getElem? (i := 5) rfl))) (mvT hZ (hw _ (List.mem_of_getElem? (i := 6) rfl))) (by decide) (backOf (W := 1) (rm_init l Z a0 hw [] b28 B S h28 n0 Z28 F_buckets_b28 F_slotsPerBucket_b28 F_hashes_b28 F_commits_b28 A28 g_b28 (hB : 1 ≤ B ∧ B ≤ 4) (hS : 1 ≤ S ∧ S ≤ 3)) hZ (hw _ (List.mem_of_getElem? (i := 6) rfl)) (hw _ (List.mem_of_getElem? (i := 3) rfl)) (by decide) (by decide)) (g := (mkF m 59 #[.val (.int p0), .val (.int p1), .val (.int p2), .val (.int p3), .val (.int p4), .val (.int p5), .val (.int (Int32.ofNat B)), .val (.int (Int32.ofNat S)), .val (.int (1 : Int32)), .val (.long y4), .second, .val (.long y5), .second, .val (.long y6), .second, .unset, .unset, .unset, .unset] [(.int (Int32.ofNat S)), (.int (Int32.ofNat B)), (.ref b28), (.ref b28)])) rfl (by rw [hml]; rfl) (Steps.refl _) (a := b28) (argsL := [(.int (Int32.ofNat B)), (.int (Int32.ofNat S))]) (rest := [(.ref b28)]) (lenOf pd_2 rfl) rfl (by show 2 * 0 + _ ≤ _; exact Nat.le_of_eq rfl) (hb hby at_59) (fun _ _ => ⟨rfl, e28, (by decide : 1 + 2 ≤ _), (by decide : 4 + 24 ≤ _)⟩)
    dsimp only [Pt.U, Pt.locs, Pt.cells, Pt.slots] at X30 l30 y30 z30 st30 hQ30
    subst l30 y30 z30
    obtain ⟨xa_30, xk_30, xc_30, xl_30, rfl, N30q, K30, Pq30_0, Pq30_1, Pq30_2, Fq30_0, Fq30_1, Fq30_2, Fq30_3, Fq30_4, Fq30_5, Fq30_6⟩ := hQ30
    have N30 := Fr.app N0 N30q
    have k30 : Go p.tables e below (T28.setTop (mkF m 59 #[.val (.int p0), .val (.int p1), .val (.int p2), .val (.int p3), .val (.int p4), .val (.int p5), .val (.int (Int32.ofNat B)), .val (.int (Int32.ofNat S)), .val (.int (1 : Int32)), .val (.long y4), .second, .val (.long y5), .second, .val (.long y6), .second, .unset, .unset, .unset, .unset] [(.int (Int32.ofNat S)), (.int (Int32.ofNat B)), (.ref b28), (.ref b28)])) (T30.setTop (mkF m 62 #[.val (.int p0), .val (.int p1), .val (.int p2), .val (.int p3), .val (.int p4), .val (.int p5), .val (.int (Int32.ofNat B)), .val (.int (Int32.ofNat S)), .val (.int (1 : Int32)), .val (.long y4), .second, .val (.long y5), .second, .val (.long y6), .second, .unset, .unset, .unset, .unset] [(.ref b28)])) := fun _ ht => st30.trans ht
    have Kp30 : Keep h0 T30.heap [] := Kp28.trans K30 (allS (Or.inr sz_b28) all0)
    have Z30 : n0 ≤ T30.heap.size := Nat.le_trans Z28 K30.1
    have ne_b28_xa_30 : b28 ≠ xa_30 := Nat.ne_of_lt (Nat.lt_of_lt_of_le A28.lt Pq30_0)
    have g_xa_30 : n0 ≤ xa_30 := Nat.le_trans Z28 Pq30_0
    have sz_xa_30 : h0.size ≤ xa_30 := Nat.le_trans Kp28.1 Pq30_0
    have ne_b28_xc_30 : b28 ≠ xc_30 := Nat.ne_of_lt (Nat.lt_of_lt_of_le A28.lt Pq30_1)
    have g_xc_30 : n0 ≤ xc_30 := Nat.le_trans Z28 Pq30_1
    have sz_xc_30 : h0.size ≤ xc_30 := Nat.le_trans Kp28.1 Pq30_1
    have A28_c_30 := A28.keep K30
    have k31 : Go p.tables e below (T30.setTop (mkF m 62 #[.val (.int p0), .val (.int p1), .val (.int p2), .val (.int p3), .val (.int p4), .val (.int p5), .val (.int (Int32.ofNat B)), .val (.int (Int32.ofNat S)), .val (.int (1 : Int32)), .val (.long y4), .second, .val (.long y5), .second, .val (.long y6), .second, .unset, .unset, .unset, .unset] [(.ref b28)])) (T30.setTop (mkF m 74 #[.val (.int p0), .val (.int p1), .val (.int p2), .val (.int p3), .val (.int p4), .val (.int p5), .val (.int (Int32.ofNat B)), .val (.int (Int32.ofNat S)), .val (.int (1 : Int32)), .val (.long y4), .second, .val (.long y5), .second, .val (.long y6), .second, .val (.ref b28), .unset, .unset, .unset] [(.int (1 : Int32)), (.long (1 : Int64)), (.ref b28)])) := by
      intro t ht
      refine XS.astore X30.here hx rfl (hb hby at_62) rfl rfl (l' := #[.val (.int p0), .val (.int p1), .val (.int p2), .val (.int p3), .val (.int p4), .val (.int p5), .val (.int (Int32.ofNat B)), .val (.int (Int32.ofNat S)), .val (.int (1 : Int32)), .val (.long y4), .second, .val (.long y5), .second, .val (.long y6), .second, .val (.ref b28), .unset, .unset, .unset]) rfl ?_
      show Steps p.tables e below (T30.setTop (mkF m 64 #[.val (.int p0), .val (.int p1), .val (.int p2), .val (.int p3), .val (.int p4), .val (.int p5), .val (.int (Int32.ofNat B)), .val (.int (Int32.ofNat S)), .val (.int (1 : Int32)), .val (.long y4), .second, .val (.long y5), .second, .val (.long y6), .second, .val (.ref b28), .unset, .unset, .unset] [])) _
      refine XS.iload X30.here hx rfl (hb hby at_64) rfl ?_
      show Steps p.tables e below (T30.setTop (mkF m 66 #[.val (.int p0), .val (.int p1), .val (.int p2), .val (.int p3), .val (.int p4), .val (.int p5), .val (.int (Int32.ofNat B)), .val (.int (Int32.ofNat S)), .val (.int (1 : Int32)), .val (.long y4), .second, .val (.long y5), .second, .val (.long y6), .second, .val (.ref b28), .unset, .unset, .unset] [(.int (1 : Int32))])) _
      refine XS.iconst X30.here hx rfl (hb hby at_66) ?_
      show Steps p.tables e below (T30.setTop (mkF m 67 #[.val (.int p0), .val (.int p1), .val (.int p2), .val (.int p3), .val (.int p4), .val (.int p5), .val (.int (Int32.ofNat B)), .val (.int (Int32.ofNat S)), .val (.int (1 : Int32)), .val (.long y4), .second, .val (.long y5), .second, .val (.long y6), .second, .val (.ref b28), .unset, .unset, .unset] [(.int (1 : Int32)), (.int (1 : Int32))])) _
      refine XS.icmpNo X30.here hx rfl (hb hby at_67) rfl (flt (by decide : ¬ ((1 : Int32) < (1 : Int32)))).1 ?_
      show Steps p.tables e below (T30.setTop (mkF m 70 #[.val (.int p0), .val (.int p1), .val (.int p2), .val (.int p3), .val (.int p4), .val (.int p5), .val (.int (Int32.ofNat B)), .val (.int (Int32.ofNat S)), .val (.int (1 : Int32)), .val (.long y4), .second, .val (.long y5), .second, .val (.long y6), .second, .val (.ref b28), .unset, .unset, .unset] [])) _
      refine XS.aload X30.here hx rfl (hb hby at_70) rfl rfl ?_
      show Steps p.tables e below (T30.setTop (mkF m 72 #[.val (.int p0), .val (.int p1), .val (.int p2), .val (.int p3), .val (.int p4), .val (.int p5), .val (.int (Int32.ofNat B)), .val (.int (Int32.ofNat S)), .val (.int (1 : Int32)), .val (.long y4), .second, .val (.long y5), .second, .val (.long y6), .second, .val (.ref b28), .unset, .unset, .unset] [(.ref b28)])) _
      refine XS.lconst X30.here hx rfl (hb hby at_72) ?_
      show Steps p.tables e below (T30.setTop (mkF m 73 #[.val (.int p0), .val (.int p1), .val (.int p2), .val (.int p3), .val (.int p4), .val (.int p5), .val (.int (Int32.ofNat B)), .val (.int (Int32.ofNat S)), .val (.int (1 : Int32)), .val (.long y4), .second, .val (.long y5), .second, .val (.long y6), .second, .val (.ref b28), .unset, .unset, .unset] [(.long (1 : Int64)), (.ref b28)])) _
      refine XS.iconst X30.here hx rfl (hb hby at_73) ?_
      exact ht
    obtain ⟨T32, h32, kc32, X32, e32, E32, A32, st32⟩ := newP X30 hx hZ (hw _ (List.mem_of_getElem? (i := 15) rfl)) rfl (g := (mkF m 74 #[.val (.int p0), .val (.int p1), .val (.int p2), .val (.int p3), .val (.int p4), .val (.int p5), .val (.int (Int32.ofNat B)), .val (.int (Int32.ofNat S)), .val (.int (1 : Int32)), .val (.long y4), .second, .val (.long y5), .second, .val (.long y6), .second, .val (.ref b28), .unset, .unset, .unset] [(.int (1 : Int32)), (.long (1 : Int64)), (.ref b28)])) rfl (hb hby at_74) rfl (by decide) (cap := 1) (by decide) (by decide) (by decide) (by decide)
    obtain ⟨b32, g32⟩ : ∃ z, z = T30.heap.size := ⟨_, rfl⟩
    rw [← g32] at A32 st32
    have g_b32 : n0 ≤ b32 := Nat.le_trans Z30 (Nat.le_of_eq g32.symm)
    have sz_b32 : h0.size ≤ b32 := Nat.le_trans Kp30.1 (Nat.le_of_eq g32.symm)
    have ne_b28_b32 : b28 ≠ b32 := Nat.ne_of_lt (Nat.lt_of_lt_of_le Fq30_0.lt (Nat.le_of_eq g32.symm))
    have ne_xa_30_b32 : xa_30 ≠ b32 := Nat.ne_of_lt (Nat.lt_of_lt_of_le Fq30_5.lt (Nat.le_of_eq g32.symm))
    have ne_xc_30_b32 : xc_30 ≠ b32 := Nat.ne_of_lt (Nat.lt_of_lt_of_le Fq30_6.lt (Nat.le_of_eq g32.symm))
    have Kp32 : Keep h0 h32 [] := Kp30.ext E32
    have Z32 : n0 ≤ h32.size := Nat.le_trans Z30 E32.1
    have Fq30_0_c_32 := Fq30_0.ext E32
    have Fq30_1_c_32 := Fq30_1.ext E32
    have Fq30_2_c_32 := Fq30_2.ext E32
    have Fq30_3_c_32 := Fq30_3.ext E32
    have Fq30_4_c_32 := Fq30_4.ext E32
    have Fq30_5_c_32 := Fq30_5.ext E32
    have Fq30_6_c_32 := Fq30_6.ext E32
    have V_b32 : Arv Z h32 b32 kc32 .long (1 : Int32) [(.long (0 : Int64))] (.long (0 : Int64)) := (Arv.new A32 (by decide)).pad (pad_rep [] (.long (0 : Int64)) 1)
    have k32 : Go p.tables e below (T30.setTop (mkF m 74 #[.val (.int p0), .val (.int p1), .val (.int p2), .val (.int p3), .val (.int p4), .val (.int p5), .val (.int (Int32.ofNat B)), .val (.int (Int32.ofNat S)), .val (.int (1 : Int32)), .val (.long y4), .second, .val (.long y5), .second, .val (.long y6), .second, .val (.ref b28), .unset, .unset, .unset] [(.int (1 : Int32)), (.long (1 : Int64)), (.ref b28)])) (T32.setTop (mkF m 76 #[.val (.int p0), .val (.int p1), .val (.int p2), .val (.int p3), .val (.int p4), .val (.int p5), .val (.int (Int32.ofNat B)), .val (.int (Int32.ofNat S)), .val (.int (1 : Int32)), .val (.long y4), .second, .val (.long y5), .second, .val (.long y6), .second, .val (.ref b28), .unset, .unset, .unset] [(.ref b32), (.long (1 : Int64)), (.ref b28)])) := st32
    have k33 : Go p.tables e below (T32.setTop (mkF m 76 #[.val (.int p0), .val (.int p1), .val (.int p2), .val (.int p3), .val (.int p4), .val (.int p5), .val (.int (Int32.ofNat B)), .val (.int (Int32.ofNat S)), .val (.int (1 : Int32)), .val (.long y4), .second, .val (.long y5), .second, .val (.long y6), .second, .val (.ref b28), .unset, .unset, .unset] [(.ref b32), (.long (1 : Int64)), (.ref b28)])) (T32.setTop (mkF m 80 #[.val (.int p0), .val (.int p1), .val (.int p2), .val (.int p3), .val (.int p4), .val (.int p5), .val (.int (Int32.ofNat B)), .val (.int (Int32.ofNat S)), .val (.int (1 : Int32)), .val (.long y4), .second, .val (.long y5), .second, .val (.long y6), .second, .val (.ref b28), .unset, .unset, .unset] [(.long y4), (.int (0 : Int32)), (.ref b32), (.ref b32), (.long (1 : Int64)), (.ref b28)])) := by
      intro t ht
      refine XS.dup X32.here hx rfl (hb hby at_76) rfl rfl ?_
      show Steps p.tables e below (T32.setTop (mkF m 77 #[.val (.int p0), .val (.int p1), .val (.int p2), .val (.int p3), .val (.int p4), .val (.int p5), .val (.int (Int32.ofNat B)), .val (.int (Int32.ofNat S)), .val (.int (1 : Int32)), .val (.long y4), .second, .val (.long y5), .second, .val (.long y6), .second, .val (.ref b28), .unset, .unset, .unset] [(.ref b32), (.ref b32), (.long (1 : Int64)), (.ref b28)])) _
      refine XS.iconst X32.here hx rfl (hb hby at_77) ?_
      show Steps p.tables e below (T32.setTop (mkF m 78 #[.val (.int p0), .val (.int p1), .val (.int p2), .val (.int p3), .val (.int p4), .val (.int p5), .val (.int (Int32.ofNat B)), .val (.int (Int32.ofNat S)), .val (.int (1 : Int32)), .val (.long y4), .second, .val (.long y5), .second, .val (.long y6), .second, .val (.ref b28), .unset, .unset, .unset] [(.int (0 : Int32)), (.ref b32), (.ref b32), (.long (1 : Int64)), (.ref b28)])) _
      refine XS.lload X32.here hx rfl (hb hby at_78) rfl ?_
      exact ht
    obtain ⟨cl34, Ar34, q34, S34, M34, H34, G34⟩ := id V_b32
    have hin34 : ¬ ((0 : Int32) < 0 ∨ cl34.slots.size ≤ ((0 : Int32)).toNatClampNeg) := inb_of S34 ⟨by decide, by decide⟩
    obtain ⟨T34, h34, X34, e34, W34, st34⟩ := stJ X32 hx hZ e32 Ar34 (j := (0 : Int32)) hin34 (g := (mkF m 80 #[.val (.int p0), .val (.int p1), .val (.int p2), .val (.int p3), .val (.int p4), .val (.int p5), .val (.int (Int32.ofNat B)), .val (.int (Int32.ofNat S)), .val (.int (1 : Int32)), .val (.long y4), .second, .val (.long y5), .second, .val (.long y6), .second, .val (.ref b28), .unset, .unset, .unset] [(.long y4), (.int (0 : Int32)), (.ref b32), (.ref b32), (.long (1 : Int64)), (.ref b28)])) rfl rfl (hb hby at_80)
    have V34_b32 : Arv Z h34 b32 kc32 .long (1 : Int32) [(.long y4)] (.long (0 : Int64)) := Arv.set Ar34 q34 S34 M34 H34 G34 rfl W34 0 rfl (Nat.le_of_ble_eq_true rfl)
    have Kp34 : Keep h0 h34 [] := Kp32.wr W34 (Or.inr sz_b32)
    have Z34 : n0 ≤ h34.size := Nat.le_trans Z32 (Keep.of_wr W34).1
    have Fq30_0_c_34 := Fq30_0_c_32.wr W34
    have Fq30_1_c_34 := Fq30_1_c_32.other W34 (Or.inl ne_b28_b32)
    have Fq30_2_c_34 := Fq30_2_c_32.other W34 (Or.inl ne_b28_b32)
    have Fq30_3_c_34 := Fq30_3_c_32.other W34 (Or.inl ne_b28_b32)
    have Fq30_4_c_34 := Fq30_4_c_32.other W34 (Or.inl ne_b28_b32)
    have Fq30_5_c_34 := Fq30_5_c_32.other W34 ne_xa_30_b32
    have Fq30_6_c_34 := Fq30_6_c_32.other W34 ne_xc_30_b32
    have k34 : Go p.tables e below (T32.setTop (mkF m 80 #[.val (.int p0), .val (.int p1), .val (.int p2), .val (.int p3), .val (.int p4), .val (.int p5), .val (.int (Int32.ofNat B)), .val (.int (Int32.ofNat S)), .val (.int (1 : Int32)), .val (.long y4), .second, .val (.long y5), .second, .val (.long y6), .second, .val (.ref b28), .unset, .unset, .unset] [(.long y4), (.int (0 : Int32)), (.ref b32), (.ref b32), (.long (1 : Int64)), (.ref b28)])) (T34.setTop (mkF m 81 #[.val (.int p0), .val (.int p1), .val (.int p2), .val (.int p3), .val (.int p4), .val (.int p5), .val (.int (Int32.ofNat B)), .val (.int (Int32.ofNat S)), .val (.int (1 : Int32)), .val (.long y4), .second, .val (.long y5), .second, .val (.long y6), .second, .val (.ref b28), .unset, .unset, .unset] [(.ref b32), (.long (1 : Int64)), (.ref b28)])) := st34
    have N34 := Fr.snoc X34 N30 g_b32
    obtain ⟨cq35, kq35, q35a, q35b, q35c⟩ := isOf hZ e34 Fq30_0_c_34
    obtain ⟨_, _, ⟨T35, L35, kq35, n35⟩, -, X35, ⟨Lc35, hQ35, l35, y35, z35⟩, st35⟩ := X34.virtualBack hx (y := (⟨"com/example/auspex/auspex/manager/ConflictTable", "record", "(J[J)V"⟩ : MethodName)) (z := (⟨"com/example/auspex/auspex/manager/ConflictTable", "record", "(J[J)V"⟩ : MethodName)) hown (mvT hZ (hw _ (List.mem_of_getElem? (i := 20) rfl))) (mvT hZ (hw _ (List.mem_of_getElem? (i := 21) rfl))) (notFace_of_selects (args := #[]) (mvT hZ (hw _ (List.mem_of_getElem? (i := 23) rfl)))) (mvT hZ (hw _ (List.mem_of_getElem? (i := 23) rfl))) (mvT hZ (hw _ (List.mem_of_getElem? (i := 22) rfl))) (by decide) (backOf (W := 0) (rm_record l Z a0 hw [] b28 (1 : Int64) b32 B S xa_30 xc_30 xk_30 xl_30 kc32 own_Z own_Z y4 h34 n0 Z34 Fq30_1_c_34 Fq30_2_c_34 Fq30_3_c_34 Fq30_4_c_34 Fq30_0_c_34 Fq30_5_c_34 Fq30_6_c_34 V34_b32 g_xa_30 g_xc_30 (hB : 1 ≤ B ∧ B ≤ 4) (hS : 1 ≤ S ∧ S ≤ 3) (hH0 : own_H y4) (by simp [own_Z] : own_Z.length = 12) (by simp [own_Z] : own_Z.length = 12) (Pq30_2 : xa_30 ≠ xc_30) (ne_b28_xa_30 : b28 ≠ xa_30) (ne_b28_xc_30 : b28 ≠ xc_30)) hZ (hw _ (List.mem_of_getElem? (i := 24) rfl)) (hw _ (List.mem_of_getElem? (i := 3) rfl)) (by decide) (by decide)) q35a q35c (g := (mkF m 81 #[.val (.int p0), .val (.int p1), .val (.int p2), .val (.int p3), .val (.int p4), .val (.int p5), .val (.int (Int32.ofNat B)), .val (.int (Int32.ofNat S)), .val (.int (1 : Int32)), .val (.long y4), .second, .val (.long y5), .second, .val (.long y6), .second, .val (.ref b28), .unset, .unset, .unset] [(.ref b32), (.long (1 : Int64)), (.ref b28)])) rfl (by rw [hml]; rfl) (Steps.refl _) (argsL := [(.long (1 : Int64)), (.ref b32)]) (rest := []) (lenOf pd_5 rfl) rfl (by show 2 * 0 + _ ≤ _; exact Nat.le_of_eq rfl) (hb hby at_81) (fun _ _ => ⟨rfl, e34, (by decide : 4 + 0 ≤ _), (by decide : 29 + 0 ≤ _)⟩)
    dsimp only [Pt.U, Pt.locs, Pt.cells, Pt.slots] at X35 l35 y35 z35 st35 hQ35
    subst l35 y35 z35
    obtain ⟨rfl, N35q, K35, Fq35_0, Fq35_1, Fq35_2, Fq35_3, Fq35_4, Fq35_5, Fq35_6⟩ := hQ35
    have N35 := Fr.app N34 N35q
    have k35 : Go p.tables e below (T34.setTop (mkF m 81 #[.val (.int p0), .val (.int p1), .val (.int p2), .val (.int p3), .val (.int p4), .val (.int p5), .val (.int (Int32.ofNat B)), .val (.int (Int32.ofNat S)), .val (.int (1 : Int32)), .val (.long y4), .second, .val (.long y5), .second, .val (.long y6), .second, .val (.ref b28), .unset, .unset, .unset] [(.ref b32), (.long (1 : Int64)), (.ref b28)])) (T35.setTop (mkF m 84 #[.val (.int p0), .val (.int p1), .val (.int p2), .val (.int p3), .val (.int p4), .val (.int p5), .val (.int (Int32.ofNat B)), .val (.int (Int32.ofNat S)), .val (.int (1 : Int32)), .val (.long y4), .second, .val (.long y5), .second, .val (.long y6), .second, .val (.ref b28), .unset, .unset, .unset] [])) := fun _ ht => st35.trans ht
    have Kp35 : Keep h0 T35.heap [] := Kp34.trans K35 (allS (Or.inr sz_xa_30) (allS (Or.inr sz_xc_30) all0))
    have Z35 : n0 ≤ T35.heap.size := Nat.le_trans Z34 K35.1
    have Fq30_0_c_35 := Fq30_0_c_34.keep K35
    have Fq30_1_c_35 := Fq30_1_c_34.keep K35 (ninS ne_b28_xa_30 (ninS ne_b28_xc_30 nin0))
    have Fq30_2_c_35 := Fq30_2_c_34.keep K35 (ninS ne_b28_xa_30 (ninS ne_b28_xc_30 nin0))
    have Fq30_3_c_35 := Fq30_3_c_34.keep K35 (ninS ne_b28_xa_30 (ninS ne_b28_xc_30 nin0))
    have Fq30_4_c_35 := Fq30_4_c_34.keep K35 (ninS ne_b28_xa_30 (ninS ne_b28_xc_30 nin0))
    have V34_b32_c_35 := V34_b32.keep K35 (ninS (Ne.symm ne_xa_30_b32) (ninS (Ne.symm ne_xc_30_b32) nin0))
    have k36 : Go p.tables e below (T35.setTop (mkF m 84 #[.val (.int p0), .val (.int p1), .val (.int p2), .val (.int p3), .val (.int p4), .val (.int p5), .val (.int (Int32.ofNat B)), .val (.int (Int32.ofNat S)), .val (.int (1 : Int32)), .val (.long y4), .second, .val (.long y5), .second, .val (.long y6), .second, .val (.ref b28), .unset, .unset, .unset] [])) (T35.setTop (mkF m 141 #[.val (.int p0), .val (.int p1), .val (.int p2), .val (.int p3), .val (.int p4), .val (.int p5), .val (.int (Int32.ofNat B)), .val (.int (Int32.ofNat S)), .val (.int (1 : Int32)), .val (.long y4), .second, .val (.long y5), .second, .val (.long y6), .second, .val (.ref b28), .unset, .unset, .unset] [(.long y6), (.long y5), (.long y4), (.int (1 : Int32)), (.int (Int32.ofNat S)), (.int (Int32.ofNat B)), (.int (0 : Int32))])) := by
      intro t ht
      refine XS.iload X35.here hx rfl (hb hby at_84) rfl ?_
      show Steps p.tables e below (T35.setTop (mkF m 86 #[.val (.int p0), .val (.int p1), .val (.int p2), .val (.int p3), .val (.int p4), .val (.int p5), .val (.int (Int32.ofNat B)), .val (.int (Int32.ofNat S)), .val (.int (1 : Int32)), .val (.long y4), .second, .val (.long y5), .second, .val (.long y6), .second, .val (.ref b28), .unset, .unset, .unset] [(.int (1 : Int32))])) _
      refine XS.iconst X35.here hx rfl (hb hby at_86) ?_
      show Steps p.tables e below (T35.setTop (mkF m 87 #[.val (.int p0), .val (.int p1), .val (.int p2), .val (.int p3), .val (.int p4), .val (.int p5), .val (.int (Int32.ofNat B)), .val (.int (Int32.ofNat S)), .val (.int (1 : Int32)), .val (.long y4), .second, .val (.long y5), .second, .val (.long y6), .second, .val (.ref b28), .unset, .unset, .unset] [(.int (2 : Int32)), (.int (1 : Int32))])) _
      refine XS.icmpYes X35.here hx rfl (pc0 := 87) (pc' := 106) rfl (hb hby at_87) rfl (tlt (by decide : (1 : Int32) < (2 : Int32))).1 (by decide) (by decide) ?_
      show Steps p.tables e below (T35.setTop (mkF m 106 #[.val (.int p0), .val (.int p1), .val (.int p2), .val (.int p3), .val (.int p4), .val (.int p5), .val (.int (Int32.ofNat B)), .val (.int (Int32.ofNat S)), .val (.int (1 : Int32)), .val (.long y4), .second, .val (.long y5), .second, .val (.long y6), .second, .val (.ref b28), .unset, .unset, .unset] [])) _
      refine XS.iload X35.here hx rfl (hb hby at_106) rfl ?_
      show Steps p.tables e below (T35.setTop (mkF m 108 #[.val (.int p0), .val (.int p1), .val (.int p2), .val (.int p3), .val (.int p4), .val (.int p5), .val (.int (Int32.ofNat B)), .val (.int (Int32.ofNat S)), .val (.int (1 : Int32)), .val (.long y4), .second, .val (.long y5), .second, .val (.long y6), .second, .val (.ref b28), .unset, .unset, .unset] [(.int (1 : Int32))])) _
      refine XS.iconst X35.here hx rfl (hb hby at_108) ?_
      show Steps p.tables e below (T35.setTop (mkF m 109 #[.val (.int p0), .val (.int p1), .val (.int p2), .val (.int p3), .val (.int p4), .val (.int p5), .val (.int (Int32.ofNat B)), .val (.int (Int32.ofNat S)), .val (.int (1 : Int32)), .val (.long y4), .second, .val (.long y5), .second, .val (.long y6), .second, .val (.ref b28), .unset, .unset, .unset] [(.int (3 : Int32)), (.int (1 : Int32))])) _
      refine XS.icmpYes X35.here hx rfl (pc0 := 109) (pc' := 128) rfl (hb hby at_109) rfl (tlt (by decide : (1 : Int32) < (3 : Int32))).1 (by decide) (by decide) ?_
      show Steps p.tables e below (T35.setTop (mkF m 128 #[.val (.int p0), .val (.int p1), .val (.int p2), .val (.int p3), .val (.int p4), .val (.int p5), .val (.int (Int32.ofNat B)), .val (.int (Int32.ofNat S)), .val (.int (1 : Int32)), .val (.long y4), .second, .val (.long y5), .second, .val (.long y6), .second, .val (.ref b28), .unset, .unset, .unset] [])) _
      refine XS.iconst X35.here hx rfl (hb hby at_128) ?_
      show Steps p.tables e below (T35.setTop (mkF m 129 #[.val (.int p0), .val (.int p1), .val (.int p2), .val (.int p3), .val (.int p4), .val (.int p5), .val (.int (Int32.ofNat B)), .val (.int (Int32.ofNat S)), .val (.int (1 : Int32)), .val (.long y4), .second, .val (.long y5), .second, .val (.long y6), .second, .val (.ref b28), .unset, .unset, .unset] [(.int (0 : Int32))])) _
      refine XS.iload X35.here hx rfl (hb hby at_129) rfl ?_
      show Steps p.tables e below (T35.setTop (mkF m 131 #[.val (.int p0), .val (.int p1), .val (.int p2), .val (.int p3), .val (.int p4), .val (.int p5), .val (.int (Int32.ofNat B)), .val (.int (Int32.ofNat S)), .val (.int (1 : Int32)), .val (.long y4), .second, .val (.long y5), .second, .val (.long y6), .second, .val (.ref b28), .unset, .unset, .unset] [(.int (Int32.ofNat B)), (.int (0 : Int32))])) _
      refine XS.iload X35.here hx rfl (hb hby at_131) rfl ?_
      show Steps p.tables e below (T35.setTop (mkF m 133 #[.val (.int p0), .val (.int p1), .val (.int p2), .val (.int p3), .val (.int p4), .val (.int p5), .val (.int (Int32.ofNat B)), .val (.int (Int32.ofNat S)), .val (.int (1 : Int32)), .val (.long y4), .second, .val (.long y5), .second, .val (.long y6), .second, .val (.ref b28), .unset, .unset, .unset] [(.int (Int32.ofNat S)), (.int (Int32.ofNat B)), (.int (0 : Int32))])) _
      refine XS.iload X35.here hx rfl (hb hby at_133) rfl ?_
      show Steps p.tables e below (T35.setTop (mkF m 135 #[.val (.int p0), .val (.int p1), .val (.int p2), .val (.int p3), .val (.int p4), .val (.int p5), .val (.int (Int32.ofNat B)), .val (.int (Int32.ofNat S)), .val (.int (1 : Int32)), .val (.long y4), .second, .val (.long y5), .second, .val (.long y6), .second, .val (.ref b28), .unset, .unset, .unset] [(.int (1 : Int32)), (.int (Int32.ofNat S)), (.int (Int32.ofNat B)), (.int (0 : Int32))])) _
      refine XS.lload X35.here hx rfl (hb hby at_135) rfl ?_
      show Steps p.tables e below (T35.setTop (mkF m 137 #[.val (.int p0), .val (.int p1), .val (.int p2), .val (.int p3), .val (.int p4), .val (.int p5), .val (.int (Int32.ofNat B)), .val (.int (Int32.ofNat S)), .val (.int (1 : Int32)), .val (.long y4), .second, .val (.long y5), .second, .val (.long y6), .second, .val (.ref b28), .unset, .unset, .unset] [(.long y4), (.int (1 : Int32)), (.int (Int32.ofNat S)), (.int (Int32.ofNat B)), (.int (0 : Int32))])) _
      refine XS.lload X35.here hx rfl (hb hby at_137) rfl ?_
      show Steps p.tables e below (T35.setTop (mkF m 139 #[.val (.int p0), .val (.int p1), .val (.int p2), .val (.int p3), .val (.int p4), .val (.int p5), .val (.int (Int32.ofNat B)), .val (.int (Int32.ofNat S)), .val (.int (1 : Int32)), .val (.long y4), .second, .val (.long y5), .second, .val (.long y6), .second, .val (.ref b28), .unset, .unset, .unset] [(.long y5), (.long y4), (.int (1 : Int32)), (.int (Int32.ofNat S)), (.int (Int32.ofNat B)), (.int (0 : Int32))])) _
      refine XS.lload X35.here hx rfl (hb hby at_139) rfl ?_
      exact ht
    obtain ⟨_, _, ⟨T37, L37, kq37, n37⟩, -, X37, ⟨Lc37, hQ37, l37, y37, z37⟩, st37⟩ := Jvm.LawKit.callS X35 hx (y := (⟨"com/example/auspex/auspex/manager/ConflictTableFullBucketSharePinLaw", "fullIn", "(IIIIJJJ)I"⟩ : MethodName)) hown (mvT hZ (hw _ (List.mem_of_getElem? (i := 35) rfl))) (mvT hZ (hw _ (List.mem_of_getElem? (i := 36) rfl))) (mvT hZ (hw _ (List.mem_of_getElem? (i := 37) rfl))) (mvT hZ (hw _ (List.mem_of_getElem? (i := 38) rfl))) (by decide) (backOf (W := 0) (rm_full l Z a0 hw [] (0 : Int32) B S (1 : Int32) y4 y5 y6 T35.heap n0 Z35 (hB : 1 ≤ B ∧ B ≤ 4) (hS : 1 ≤ S ∧ S ≤ 3)) hZ (hw _ (List.mem_of_getElem? (i := 38) rfl)) (hw _ (List.mem_of_getElem? (i := 37) rfl)) (by decide) (by decide)) (g := (mkF m 141 #[.val (.int p0), .val (.int p1), .val (.int p2), .val (.int p3), .val (.int p4), .val (.int p5), .val (.int (Int32.ofNat B)), .val (.int (Int32.ofNat S)), .val (.int (1 : Int32)), .val (.long y4), .second, .val (.long y5), .second, .val (.long y6), .second, .val (.ref b28), .unset, .unset, .unset] [(.long y6), (.long y5), (.long y4), (.int (1 : Int32)), (.int (Int32.ofNat S)), (.int (Int32.ofNat B)), (.int (0 : Int32))])) rfl (by rw [hml]; rfl) (argsL := [(.int (0 : Int32)), (.int (Int32.ofNat B)), (.int (Int32.ofNat S)), (.int (1 : Int32)), (.long y4), (.long y5), (.long y6)]) (rest := []) (lenOf pd_3 rfl) rfl (by show 2 * 0 + _ ≤ _; exact Nat.le_of_eq rfl) (hb hby at_141) (fun _ _ => ⟨rfl, rfl, (by decide : 4 + 0 ≤ _), (by decide : 29 + 0 ≤ _)⟩)
    dsimp only [Pt.U, Pt.locs, Pt.cells, Pt.slots] at X37 l37 y37 z37 st37 hQ37
    subst l37 y37 z37
    obtain ⟨rfl, N37q, eq37⟩ := hQ37
    have N37 := Fr.app N35 N37q
    have k37 : Go p.tables e below (T35.setTop (mkF m 141 #[.val (.int p0), .val (.int p1), .val (.int p2), .val (.int p3), .val (.int p4), .val (.int p5), .val (.int (Int32.ofNat B)), .val (.int (Int32.ofNat S)), .val (.int (1 : Int32)), .val (.long y4), .second, .val (.long y5), .second, .val (.long y6), .second, .val (.ref b28), .unset, .unset, .unset] [(.long y6), (.long y5), (.long y4), (.int (1 : Int32)), (.int (Int32.ofNat S)), (.int (Int32.ofNat B)), (.int (0 : Int32))])) (T37.setTop (mkF m 144 #[.val (.int p0), .val (.int p1), .val (.int p2), .val (.int p3), .val (.int p4), .val (.int p5), .val (.int (Int32.ofNat B)), .val (.int (Int32.ofNat S)), .val (.int (1 : Int32)), .val (.long y4), .second, .val (.long y5), .second, .val (.long y6), .second, .val (.ref b28), .unset, .unset, .unset] [(.int (f_full (0 : Int32) B S (1 : Int32) y4 y5 y6))])) := st37
    have k38 : Go p.tables e below (T37.setTop (mkF m 144 #[.val (.int p0), .val (.int p1), .val (.int p2), .val (.int p3), .val (.int p4), .val (.int p5), .val (.int (Int32.ofNat B)), .val (.int (Int32.ofNat S)), .val (.int (1 : Int32)), .val (.long y4), .second, .val (.long y5), .second, .val (.long y6), .second, .val (.ref b28), .unset, .unset, .unset] [(.int (f_full (0 : Int32) B S (1 : Int32) y4 y5 y6))])) (T37.setTop (mkF m 157 #[.val (.int p0), .val (.int p1), .val (.int p2), .val (.int p3), .val (.int p4), .val (.int p5), .val (.int (Int32.ofNat B)), .val (.int (Int32.ofNat S)), .val (.int (1 : Int32)), .val (.long y4), .second, .val (.long y5), .second, .val (.long y6), .second, .val (.ref b28), .unset, .unset, .unset] [(.long y6), (.long y5), (.long y4), (.int (1 : Int32)), (.int (Int32.ofNat S)), (.int (Int32.ofNat B)), (.int (1 : Int32)), (.int (f_full (0 : Int32) B S (1 : Int32) y4 y5 y6))])) := by
      intro t ht
      refine XS.iconst X37.here hx rfl (hb hby at_144) ?_
      show Steps p.tables e below (T37.setTop (mkF m 145 #[.val (.int p0), .val (.int p1), .val (.int p2), .val (.int p3), .val (.int p4), .val (.int p5), .val (.int (Int32.ofNat B)), .val (.int (Int32.ofNat S)), .val (.int (1 : Int32)), .val (.long y4), .second, .val (.long y5), .second, .val (.long y6), .second, .val (.ref b28), .unset, .unset, .unset] [(.int (1 : Int32)), (.int (f_full (0 : Int32) B S (1 : Int32) y4 y5 y6))])) _
      refine XS.iload X37.here hx rfl (hb hby at_145) rfl ?_
      show Steps p.tables e below (T37.setTop (mkF m 147 #[.val (.int p0), .val (.int p1), .val (.int p2), .val (.int p3), .val (.int p4), .val (.int p5), .val (.int (Int32.ofNat B)), .val (.int (Int32.ofNat S)), .val (.int (1 : Int32)), .val (.long y4), .second, .val (.long y5), .second, .val (.long y6), .second, .val (.ref b28), .unset, .unset, .unset] [(.int (Int32.ofNat B)), (.int (1 : Int32)), (.int (f_full (0 : Int32) B S (1 : Int32) y4 y5 y6))])) _
      refine XS.iload X37.here hx rfl (hb hby at_147) rfl ?_
      show Steps p.tables e below (T37.setTop (mkF m 149 #[.val (.int p0), .val (.int p1), .val (.int p2), .val (.int p3), .val (.int p4), .val (.int p5), .val (.int (Int32.ofNat B)), .val (.int (Int32.ofNat S)), .val (.int (1 : Int32)), .val (.long y4), .second, .val (.long y5), .second, .val (.long y6), .second, .val (.ref b28), .unset, .unset, .unset] [(.int (Int32.ofNat S)), (.int (Int32.ofNat B)), (.int (1 : Int32)), (.int (f_full (0 : Int32) B S (1 : Int32) y4 y5 y6))])) _
      refine XS.iload X37.here hx rfl (hb hby at_149) rfl ?_
      show Steps p.tables e below (T37.setTop (mkF m 151 #[.val (.int p0), .val (.int p1), .val (.int p2), .val (.int p3), .val (.int p4), .val (.int p5), .val (.int (Int32.ofNat B)), .val (.int (Int32.ofNat S)), .val (.int (1 : Int32)), .val (.long y4), .second, .val (.long y5), .second, .val (.long y6), .second, .val (.ref b28), .unset, .unset, .unset] [(.int (1 : Int32)), (.int (Int32.ofNat S)), (.int (Int32.ofNat B)), (.int (1 : Int32)), (.int (f_full (0 : Int32) B S (1 : Int32) y4 y5 y6))])) _
      refine XS.lload X37.here hx rfl (hb hby at_151) rfl ?_
      show Steps p.tables e below (T37.setTop (mkF m 153 #[.val (.int p0), .val (.int p1), .val (.int p2), .val (.int p3), .val (.int p4), .val (.int p5), .val (.int (Int32.ofNat B)), .val (.int (Int32.ofNat S)), .val (.int (1 : Int32)), .val (.long y4), .second, .val (.long y5), .second, .val (.long y6), .second, .val (.ref b28), .unset, .unset, .unset] [(.long y4), (.int (1 : Int32)), (.int (Int32.ofNat S)), (.int (Int32.ofNat B)), (.int (1 : Int32)), (.int (f_full (0 : Int32) B S (1 : Int32) y4 y5 y6))])) _
      refine XS.lload X37.here hx rfl (hb hby at_153) rfl ?_
      show Steps p.tables e below (T37.setTop (mkF m 155 #[.val (.int p0), .val (.int p1), .val (.int p2), .val (.int p3), .val (.int p4), .val (.int p5), .val (.int (Int32.ofNat B)), .val (.int (Int32.ofNat S)), .val (.int (1 : Int32)), .val (.long y4), .second, .val (.long y5), .second, .val (.long y6), .second, .val (.ref b28), .unset, .unset, .unset] [(.long y5), (.long y4), (.int (1 : Int32)), (.int (Int32.ofNat S)), (.int (Int32.ofNat B)), (.int (1 : Int32)), (.int (f_full (0 : Int32) B S (1 : Int32) y4 y5 y6))])) _
      refine XS.lload X37.here hx rfl (hb hby at_155) rfl ?_
      exact ht
    obtain ⟨_, _, ⟨T39, L39, kq39, n39⟩, -, X39, ⟨Lc39, hQ39, l39, y39, z39⟩, st39⟩ := Jvm.LawKit.callS X37 hx (y := (⟨"com/example/auspex/auspex/manager/ConflictTableFullBucketSharePinLaw", "fullIn", "(IIIIJJJ)I"⟩ : MethodName)) hown (mvT hZ (hw _ (List.mem_of_getElem? (i := 35) rfl))) (mvT hZ (hw _ (List.mem_of_getElem? (i := 36) rfl))) (mvT hZ (hw _ (List.mem_of_getElem? (i := 37) rfl))) (mvT hZ (hw _ (List.mem_of_getElem? (i := 38) rfl))) (by decide) (backOf (W := 1) (rm_full l Z a0 hw [] (1 : Int32) B S (1 : Int32) y4 y5 y6 T35.heap n0 Z35 (hB : 1 ≤ B ∧ B ≤ 4) (hS : 1 ≤ S ∧ S ≤ 3)) hZ (hw _ (List.mem_of_getElem? (i := 38) rfl)) (hw _ (List.mem_of_getElem? (i := 37) rfl)) (by decide) (by decide)) (g := (mkF m 157 #[.val (.int p0), .val (.int p1), .val (.int p2), .val (.int p3), .val (.int p4), .val (.int p5), .val (.int (Int32.ofNat B)), .val (.int (Int32.ofNat S)), .val (.int (1 : Int32)), .val (.long y4), .second, .val (.long y5), .second, .val (.long y6), .second, .val (.ref b28), .unset, .unset, .unset] [(.long y6), (.long y5), (.long y4), (.int (1 : Int32)), (.int (Int32.ofNat S)), (.int (Int32.ofNat B)), (.int (1 : Int32)), (.int (f_full (0 : Int32) B S (1 : Int32) y4 y5 y6))])) rfl (by rw [hml]; rfl) (argsL := [(.int (1 : Int32)), (.int (Int32.ofNat B)), (.int (Int32.ofNat S)), (.int (1 : Int32)), (.long y4), (.long y5), (.long y6)]) (rest := [(.int (f_full (0 : Int32) B S (1 : Int32) y4 y5 y6))]) (lenOf pd_3 rfl) rfl (by show 2 * 0 + _ ≤ _; exact Nat.le_of_eq rfl) (hb hby at_157) (fun _ _ => ⟨rfl, eq37, (by decide : 4 + 0 ≤ _), (by decide : 29 + 0 ≤ _)⟩)
    dsimp only [Pt.U, Pt.locs, Pt.cells, Pt.slots] at X39 l39 y39 z39 st39 hQ39
    subst l39 y39 z39
    obtain ⟨rfl, N39q, eq39⟩ := hQ39
    have N39 := Fr.app N37 N39q
    have k39 : Go p.tables e below (T37.setTop (mkF m 157 #[.val (.int p0), .val (.int p1), .val (.int p2), .val (.int p3), .val (.int p4), .val (.int p5), .val (.int (Int32.ofNat B)), .val (.int (Int32.ofNat S)), .val (.int (1 : Int32)), .val (.long y4), .second, .val (.long y5), .second, .val (.long y6), .second, .val (.ref b28), .unset, .unset, .unset] [(.long y6), (.long y5), (.long y4), (.int (1 : Int32)), (.int (Int32.ofNat S)), (.int (Int32.ofNat B)), (.int (1 : Int32)), (.int (f_full (0 : Int32) B S (1 : Int32) y4 y5 y6))])) (T39.setTop (mkF m 160 #[.val (.int p0), .val (.int p1), .val (.int p2), .val (.int p3), .val (.int p4), .val (.int p5), .val (.int (Int32.ofNat B)), .val (.int (Int32.ofNat S)), .val (.int (1 : Int32)), .val (.long y4), .second, .val (.long y5), .second, .val (.long y6), .second, .val (.ref b28), .unset, .unset, .unset] [(.int (f_full (1 : Int32) B S (1 : Int32) y4 y5 y6)), (.int (f_full (0 : Int32) B S (1 : Int32) y4 y5 y6))])) := st39
    have k40 : Go p.tables e below (T39.setTop (mkF m 160 #[.val (.int p0), .val (.int p1), .val (.int p2), .val (.int p3), .val (.int p4), .val (.int p5), .val (.int (Int32.ofNat B)), .val (.int (Int32.ofNat S)), .val (.int (1 : Int32)), .val (.long y4), .second, .val (.long y5), .second, .val (.long y6), .second, .val (.ref b28), .unset, .unset, .unset] [(.int (f_full (1 : Int32) B S (1 : Int32) y4 y5 y6)), (.int (f_full (0 : Int32) B S (1 : Int32) y4 y5 y6))])) (T39.setTop (mkF m 174 #[.val (.int p0), .val (.int p1), .val (.int p2), .val (.int p3), .val (.int p4), .val (.int p5), .val (.int (Int32.ofNat B)), .val (.int (Int32.ofNat S)), .val (.int (1 : Int32)), .val (.long y4), .second, .val (.long y5), .second, .val (.long y6), .second, .val (.ref b28), .unset, .unset, .unset] [(.long y6), (.long y5), (.long y4), (.int (1 : Int32)), (.int (Int32.ofNat S)), (.int (Int32.ofNat B)), (.int (2 : Int32)), (.int ((f_full (0 : Int32) B S (1 : Int32) y4 y5 y6) + (f_full (1 : Int32) B S (1 : Int32) y4 y5 y6)))])) := by
      intro t ht
      refine XS.iadd X39.here hx rfl (hb hby at_160) rfl ?_
      show Steps p.tables e below (T39.setTop (mkF m 161 #[.val (.int p0), .val (.int p1), .val (.int p2), .val (.int p3), .val (.int p4), .val (.int p5), .val (.int (Int32.ofNat B)), .val (.int (Int32.ofNat S)), .val (.int (1 : Int32)), .val (.long y4), .second, .val (.long y5), .second, .val (.long y6), .second, .val (.ref b28), .unset, .unset, .unset] [(.int ((f_full (0 : Int32) B S (1 : Int32) y4 y5 y6) + (f_full (1 : Int32) B S (1 : Int32) y4 y5 y6)))])) _
      refine XS.iconst X39.here hx rfl (hb hby at_161) ?_
      show Steps p.tables e below (T39.setTop (mkF m 162 #[.val (.int p0), .val (.int p1), .val (.int p2), .val (.int p3), .val (.int p4), .val (.int p5), .val (.int (Int32.ofNat B)), .val (.int (Int32.ofNat S)), .val (.int (1 : Int32)), .val (.long y4), .second, .val (.long y5), .second, .val (.long y6), .second, .val (.ref b28), .unset, .unset, .unset] [(.int (2 : Int32)), (.int ((f_full (0 : Int32) B S (1 : Int32) y4 y5 y6) + (f_full (1 : Int32) B S (1 : Int32) y4 y5 y6)))])) _
      refine XS.iload X39.here hx rfl (hb hby at_162) rfl ?_
      show Steps p.tables e below (T39.setTop (mkF m 164 #[.val (.int p0), .val (.int p1), .val (.int p2), .val (.int p3), .val (.int p4), .val (.int p5), .val (.int (Int32.ofNat B)), .val (.int (Int32.ofNat S)), .val (.int (1 : Int32)), .val (.long y4), .second, .val (.long y5), .second, .val (.long y6), .second, .val (.ref b28), .unset, .unset, .unset] [(.int (Int32.ofNat B)), (.int (2 : Int32)), (.int ((f_full (0 : Int32) B S (1 : Int32) y4 y5 y6) + (f_full (1 : Int32) B S (1 : Int32) y4 y5 y6)))])) _
      refine XS.iload X39.here hx rfl (hb hby at_164) rfl ?_
      show Steps p.tables e below (T39.setTop (mkF m 166 #[.val (.int p0), .val (.int p1), .val (.int p2), .val (.int p3), .val (.int p4), .val (.int p5), .val (.int (Int32.ofNat B)), .val (.int (Int32.ofNat S)), .val (.int (1 : Int32)), .val (.long y4), .second, .val (.long y5), .second, .val (.long y6), .second, .val (.ref b28), .unset, .unset, .unset] [(.int (Int32.ofNat S)), (.int (Int32.ofNat B)), (.int (2 : Int32)), (.int ((f_full (0 : Int32) B S (1 : Int32) y4 y5 y6) + (f_full (1 : Int32) B S (1 : Int32) y4 y5 y6)))])) _
      refine XS.iload X39.here hx rfl (hb hby at_166) rfl ?_
      show Steps p.tables e below (T39.setTop (mkF m 168 #[.val (.int p0), .val (.int p1), .val (.int p2), .val (.int p3), .val (.int p4), .val (.int p5), .val (.int (Int32.ofNat B)), .val (.int (Int32.ofNat S)), .val (.int (1 : Int32)), .val (.long y4), .second, .val (.long y5), .second, .val (.long y6), .second, .val (.ref b28), .unset, .unset, .unset] [(.int (1 : Int32)), (.int (Int32.ofNat S)), (.int (Int32.ofNat B)), (.int (2 : Int32)), (.int ((f_full (0 : Int32) B S (1 : Int32) y4 y5 y6) + (f_full (1 : Int32) B S (1 : Int32) y4 y5 y6)))])) _
      refine XS.lload X39.here hx rfl (hb hby at_168) rfl ?_
      show Steps p.tables e below (T39.setTop (mkF m 170 #[.val (.int p0), .val (.int p1), .val (.int p2), .val (.int p3), .val (.int p4), .val (.int p5), .val (.int (Int32.ofNat B)), .val (.int (Int32.ofNat S)), .val (.int (1 : Int32)), .val (.long y4), .second, .val (.long y5), .second, .val (.long y6), .second, .val (.ref b28), .unset, .unset, .unset] [(.long y4), (.int (1 : Int32)), (.int (Int32.ofNat S)), (.int (Int32.ofNat B)), (.int (2 : Int32)), (.int ((f_full (0 : Int32) B S (1 : Int32) y4 y5 y6) + (f_full (1 : Int32) B S (1 : Int32) y4 y5 y6)))])) _
      refine XS.lload X39.here hx rfl (hb hby at_170) rfl ?_
      show Steps p.tables e below (T39.setTop (mkF m 172 #[.val (.int p0), .val (.int p1), .val (.int p2), .val (.int p3), .val (.int p4), .val (.int p5), .val (.int (Int32.ofNat B)), .val (.int (Int32.ofNat S)), .val (.int (1 : Int32)), .val (.long y4), .second, .val (.long y5), .second, .val (.long y6), .second, .val (.ref b28), .unset, .unset, .unset] [(.long y5), (.long y4), (.int (1 : Int32)), (.int (Int32.ofNat S)), (.int (Int32.ofNat B)), (.int (2 : Int32)), (.int ((f_full (0 : Int32) B S (1 : Int32) y4 y5 y6) + (f_full (1 : Int32) B S (1 : Int32) y4 y5 y6)))])) _
      refine XS.lload X39.here hx rfl (hb hby at_172) rfl ?_
      exact ht
    obtain ⟨_, _, ⟨T41, L41, kq41, n41⟩, -, X41, ⟨Lc41, hQ41, l41, y41, z41⟩, st41⟩ := Jvm.LawKit.callS X39 hx (y := (⟨"com/example/auspex/auspex/manager/ConflictTableFullBucketSharePinLaw", "fullIn", "(IIIIJJJ)I"⟩ : MethodName)) hown (mvT hZ (hw _ (List.mem_of_getElem? (i := 35) rfl))) (mvT hZ (hw _ (List.mem_of_getElem? (i := 36) rfl))) (mvT hZ (hw _ (List.mem_of_getElem? (i := 37) rfl))) (mvT hZ (hw _ (List.mem_of_getElem? (i := 38) rfl))) (by decide) (backOf (W := 1) (rm_full l Z a0 hw [] (2 : Int32) B S (1 : Int32) y4 y5 y6 T35.heap n0 Z35 (hB : 1 ≤ B ∧ B ≤ 4) (hS : 1 ≤ S ∧ S ≤ 3)) hZ (hw _ (List.mem_of_getElem? (i := 38) rfl)) (hw _ (List.mem_of_getElem? (i := 37) rfl)) (by decide) (by decide)) (g := (mkF m 174 #[.val (.int p0), .val (.int p1), .val (.int p2), .val (.int p3), .val (.int p4), .val (.int p5), .val (.int (Int32.ofNat B)), .val (.int (Int32.ofNat S)), .val (.int (1 : Int32)), .val (.long y4), .second, .val (.long y5), .second, .val (.long y6), .second, .val (.ref b28), .unset, .unset, .unset] [(.long y6), (.long y5), (.long y4), (.int (1 : Int32)), (.int (Int32.ofNat S)), (.int (Int32.ofNat B)), (.int (2 : Int32)), (.int ((f_full (0 : Int32) B S (1 : Int32) y4 y5 y6) + (f_full (1 : Int32) B S (1 : Int32) y4 y5 y6)))])) rfl (by rw [hml]; rfl) (argsL := [(.int (2 : Int32)), (.int (Int32.ofNat B)), (.int (Int32.ofNat S)), (.int (1 : Int32)), (.long y4), (.long y5), (.long y6)]) (rest := [(.int ((f_full (0 : Int32) B S (1 : Int32) y4 y5 y6) + (f_full (1 : Int32) B S (1 : Int32) y4 y5 y6)))]) (lenOf pd_3 rfl) rfl (by show 2 * 0 + _ ≤ _; exact Nat.le_of_eq rfl) (hb hby at_174) (fun _ _ => ⟨rfl, eq39, (by decide : 4 + 0 ≤ _), (by decide : 29 + 0 ≤ _)⟩)
    dsimp only [Pt.U, Pt.locs, Pt.cells, Pt.slots] at X41 l41 y41 z41 st41 hQ41
    subst l41 y41 z41
    obtain ⟨rfl, N41q, eq41⟩ := hQ41
    have N41 := Fr.app N39 N41q
    have k41 : Go p.tables e below (T39.setTop (mkF m 174 #[.val (.int p0), .val (.int p1), .val (.int p2), .val (.int p3), .val (.int p4), .val (.int p5), .val (.int (Int32.ofNat B)), .val (.int (Int32.ofNat S)), .val (.int (1 : Int32)), .val (.long y4), .second, .val (.long y5), .second, .val (.long y6), .second, .val (.ref b28), .unset, .unset, .unset] [(.long y6), (.long y5), (.long y4), (.int (1 : Int32)), (.int (Int32.ofNat S)), (.int (Int32.ofNat B)), (.int (2 : Int32)), (.int ((f_full (0 : Int32) B S (1 : Int32) y4 y5 y6) + (f_full (1 : Int32) B S (1 : Int32) y4 y5 y6)))])) (T41.setTop (mkF m 177 #[.val (.int p0), .val (.int p1), .val (.int p2), .val (.int p3), .val (.int p4), .val (.int p5), .val (.int (Int32.ofNat B)), .val (.int (Int32.ofNat S)), .val (.int (1 : Int32)), .val (.long y4), .second, .val (.long y5), .second, .val (.long y6), .second, .val (.ref b28), .unset, .unset, .unset] [(.int (f_full (2 : Int32) B S (1 : Int32) y4 y5 y6)), (.int ((f_full (0 : Int32) B S (1 : Int32) y4 y5 y6) + (f_full (1 : Int32) B S (1 : Int32) y4 y5 y6)))])) := st41
    have k42 : Go p.tables e below (T41.setTop (mkF m 177 #[.val (.int p0), .val (.int p1), .val (.int p2), .val (.int p3), .val (.int p4), .val (.int p5), .val (.int (Int32.ofNat B)), .val (.int (Int32.ofNat S)), .val (.int (1 : Int32)), .val (.long y4), .second, .val (.long y5), .second, .val (.long y6), .second, .val (.ref b28), .unset, .unset, .unset] [(.int (f_full (2 : Int32) B S (1 : Int32) y4 y5 y6)), (.int ((f_full (0 : Int32) B S (1 : Int32) y4 y5 y6) + (f_full (1 : Int32) B S (1 : Int32) y4 y5 y6)))])) (T41.setTop (mkF m 191 #[.val (.int p0), .val (.int p1), .val (.int p2), .val (.int p3), .val (.int p4), .val (.int p5), .val (.int (Int32.ofNat B)), .val (.int (Int32.ofNat S)), .val (.int (1 : Int32)), .val (.long y4), .second, .val (.long y5), .second, .val (.long y6), .second, .val (.ref b28), .unset, .unset, .unset] [(.long y6), (.long y5), (.long y4), (.int (1 : Int32)), (.int (Int32.ofNat S)), (.int (Int32.ofNat B)), (.int (3 : Int32)), (.int (((f_full (0 : Int32) B S (1 : Int32) y4 y5 y6) + (f_full (1 : Int32) B S (1 : Int32) y4 y5 y6)) + (f_full (2 : Int32) B S (1 : Int32) y4 y5 y6)))])) := by
      intro t ht
      refine XS.iadd X41.here hx rfl (hb hby at_177) rfl ?_
      show Steps p.tables e below (T41.setTop (mkF m 178 #[.val (.int p0), .val (.int p1), .val (.int p2), .val (.int p3), .val (.int p4), .val (.int p5), .val (.int (Int32.ofNat B)), .val (.int (Int32.ofNat S)), .val (.int (1 : Int32)), .val (.long y4), .second, .val (.long y5), .second, .val (.long y6), .second, .val (.ref b28), .unset, .unset, .unset] [(.int (((f_full (0 : Int32) B S (1 : Int32) y4 y5 y6) + (f_full (1 : Int32) B S (1 : Int32) y4 y5 y6)) + (f_full (2 : Int32) B S (1 : Int32) y4 y5 y6)))])) _
      refine XS.iconst X41.here hx rfl (hb hby at_178) ?_
      show Steps p.tables e below (T41.setTop (mkF m 179 #[.val (.int p0), .val (.int p1), .val (.int p2), .val (.int p3), .val (.int p4), .val (.int p5), .val (.int (Int32.ofNat B)), .val (.int (Int32.ofNat S)), .val (.int (1 : Int32)), .val (.long y4), .second, .val (.long y5), .second, .val (.long y6), .second, .val (.ref b28), .unset, .unset, .unset] [(.int (3 : Int32)), (.int (((f_full (0 : Int32) B S (1 : Int32) y4 y5 y6) + (f_full (1 : Int32) B S (1 : Int32) y4 y5 y6)) + (f_full (2 : Int32) B S (1 : Int32) y4 y5 y6)))])) _
      refine XS.iload X41.here hx rfl (hb hby at_179) rfl ?_
      show Steps p.tables e below (T41.setTop (mkF m 181 #[.val (.int p0), .val (.int p1), .val (.int p2), .val (.int p3), .val (.int p4), .val (.int p5), .val (.int (Int32.ofNat B)), .val (.int (Int32.ofNat S)), .val (.int (1 : Int32)), .val (.long y4), .second, .val (.long y5), .second, .val (.long y6), .second, .val (.ref b28), .unset, .unset, .unset] [(.int (Int32.ofNat B)), (.int (3 : Int32)), (.int (((f_full (0 : Int32) B S (1 : Int32) y4 y5 y6) + (f_full (1 : Int32) B S (1 : Int32) y4 y5 y6)) + (f_full (2 : Int32) B S (1 : Int32) y4 y5 y6)))])) _
      refine XS.iload X41.here hx rfl (hb hby at_181) rfl ?_
      show Steps p.tables e below (T41.setTop (mkF m 183 #[.val (.int p0), .val (.int p1), .val (.int p2), .val (.int p3), .val (.int p4), .val (.int p5), .val (.int (Int32.ofNat B)), .val (.int (Int32.ofNat S)), .val (.int (1 : Int32)), .val (.long y4), .second, .val (.long y5), .second, .val (.long y6), .second, .val (.ref b28), .unset, .unset, .unset] [(.int (Int32.ofNat S)), (.int (Int32.ofNat B)), (.int (3 : Int32)), (.int (((f_full (0 : Int32) B S (1 : Int32) y4 y5 y6) + (f_full (1 : Int32) B S (1 : Int32) y4 y5 y6)) + (f_full (2 : Int32) B S (1 : Int32) y4 y5 y6)))])) _
      refine XS.iload X41.here hx rfl (hb hby at_183) rfl ?_
      show Steps p.tables e below (T41.setTop (mkF m 185 #[.val (.int p0), .val (.int p1), .val (.int p2), .val (.int p3), .val (.int p4), .val (.int p5), .val (.int (Int32.ofNat B)), .val (.int (Int32.ofNat S)), .val (.int (1 : Int32)), .val (.long y4), .second, .val (.long y5), .second, .val (.long y6), .second, .val (.ref b28), .unset, .unset, .unset] [(.int (1 : Int32)), (.int (Int32.ofNat S)), (.int (Int32.ofNat B)), (.int (3 : Int32)), (.int (((f_full (0 : Int32) B S (1 : Int32) y4 y5 y6) + (f_full (1 : Int32) B S (1 : Int32) y4 y5 y6)) + (f_full (2 : Int32) B S (1 : Int32) y4 y5 y6)))])) _
      refine XS.lload X41.here hx rfl (hb hby at_185) rfl ?_
      show Steps p.tables e below (T41.setTop (mkF m 187 #[.val (.int p0), .val (.int p1), .val (.int p2), .val (.int p3), .val (.int p4), .val (.int p5), .val (.int (Int32.ofNat B)), .val (.int (Int32.ofNat S)), .val (.int (1 : Int32)), .val (.long y4), .second, .val (.long y5), .second, .val (.long y6), .second, .val (.ref b28), .unset, .unset, .unset] [(.long y4), (.int (1 : Int32)), (.int (Int32.ofNat S)), (.int (Int32.ofNat B)), (.int (3 : Int32)), (.int (((f_full (0 : Int32) B S (1 : Int32) y4 y5 y6) + (f_full (1 : Int32) B S (1 : Int32) y4 y5 y6)) + (f_full (2 : Int32) B S (1 : Int32) y4 y5 y6)))])) _
      refine XS.lload X41.here hx rfl (hb hby at_187) rfl ?_
      show Steps p.tables e below (T41.setTop (mkF m 189 #[.val (.int p0), .val (.int p1), .val (.int p2), .val (.int p3), .val (.int p4), .val (.int p5), .val (.int (Int32.ofNat B)), .val (.int (Int32.ofNat S)), .val (.int (1 : Int32)), .val (.long y4), .second, .val (.long y5), .second, .val (.long y6), .second, .val (.ref b28), .unset, .unset, .unset] [(.long y5), (.long y4), (.int (1 : Int32)), (.int (Int32.ofNat S)), (.int (Int32.ofNat B)), (.int (3 : Int32)), (.int (((f_full (0 : Int32) B S (1 : Int32) y4 y5 y6) + (f_full (1 : Int32) B S (1 : Int32) y4 y5 y6)) + (f_full (2 : Int32) B S (1 : Int32) y4 y5 y6)))])) _
      refine XS.lload X41.here hx rfl (hb hby at_189) rfl ?_
      exact ht
    obtain ⟨_, _, ⟨T43, L43, kq43, n43⟩, -, X43, ⟨Lc43, hQ43, l43, y43, z43⟩, st43⟩ := Jvm.LawKit.callS X41 hx (y := (⟨"com/example/auspex/auspex/manager/ConflictTableFullBucketSharePinLaw", "fullIn", "(IIIIJJJ)I"⟩ : MethodName)) hown (mvT hZ (hw _ (List.mem_of_getElem? (i := 35) rfl))) (mvT hZ (hw _ (List.mem_of_getElem? (i := 36) rfl))) (mvT hZ (hw _ (List.mem_of_getElem? (i := 37) rfl))) (mvT hZ (hw _ (List.mem_of_getElem? (i := 38) rfl))) (by decide) (backOf (W := 1) (rm_full l Z a0 hw [] (3 : Int32) B S (1 : Int32) y4 y5 y6 T35.heap n0 Z35 (hB : 1 ≤ B ∧ B ≤ 4) (hS : 1 ≤ S ∧ S ≤ 3)) hZ (hw _ (List.mem_of_getElem? (i := 38) rfl)) (hw _ (List.mem_of_getElem? (i := 37) rfl)) (by decide) (by decide)) (g := (mkF m 191 #[.val (.int p0), .val (.int p1), .val (.int p2), .val (.int p3), .val (.int p4), .val (.int p5), .val (.int (Int32.ofNat B)), .val (.int (Int32.ofNat S)), .val (.int (1 : Int32)), .val (.long y4), .second, .val (.long y5), .second, .val (.long y6), .second, .val (.ref b28), .unset, .unset, .unset] [(.long y6), (.long y5), (.long y4), (.int (1 : Int32)), (.int (Int32.ofNat S)), (.int (Int32.ofNat B)), (.int (3 : Int32)), (.int (((f_full (0 : Int32) B S (1 : Int32) y4 y5 y6) + (f_full (1 : Int32) B S (1 : Int32) y4 y5 y6)) + (f_full (2 : Int32) B S (1 : Int32) y4 y5 y6)))])) rfl (by rw [hml]; rfl) (argsL := [(.int (3 : Int32)), (.int (Int32.ofNat B)), (.int (Int32.ofNat S)), (.int (1 : Int32)), (.long y4), (.long y5), (.long y6)]) (rest := [(.int (((f_full (0 : Int32) B S (1 : Int32) y4 y5 y6) + (f_full (1 : Int32) B S (1 : Int32) y4 y5 y6)) + (f_full (2 : Int32) B S (1 : Int32) y4 y5 y6)))]) (lenOf pd_3 rfl) rfl (by show 2 * 0 + _ ≤ _; exact Nat.le_of_eq rfl) (hb hby at_191) (fun _ _ => ⟨rfl, eq41, (by decide : 4 + 0 ≤ _), (by decide : 29 + 0 ≤ _)⟩)
    dsimp only [Pt.U, Pt.locs, Pt.cells, Pt.slots] at X43 l43 y43 z43 st43 hQ43
    subst l43 y43 z43
    obtain ⟨rfl, N43q, eq43⟩ := hQ43
    have N43 := Fr.app N41 N43q
    have k43 : Go p.tables e below (T41.setTop (mkF m 191 #[.val (.int p0), .val (.int p1), .val (.int p2), .val (.int p3), .val (.int p4), .val (.int p5), .val (.int (Int32.ofNat B)), .val (.int (Int32.ofNat S)), .val (.int (1 : Int32)), .val (.long y4), .second, .val (.long y5), .second, .val (.long y6), .second, .val (.ref b28), .unset, .unset, .unset] [(.long y6), (.long y5), (.long y4), (.int (1 : Int32)), (.int (Int32.ofNat S)), (.int (Int32.ofNat B)), (.int (3 : Int32)), (.int (((f_full (0 : Int32) B S (1 : Int32) y4 y5 y6) + (f_full (1 : Int32) B S (1 : Int32) y4 y5 y6)) + (f_full (2 : Int32) B S (1 : Int32) y4 y5 y6)))])) (T43.setTop (mkF m 194 #[.val (.int p0), .val (.int p1), .val (.int p2), .val (.int p3), .val (.int p4), .val (.int p5), .val (.int (Int32.ofNat B)), .val (.int (Int32.ofNat S)), .val (.int (1 : Int32)), .val (.long y4), .second, .val (.long y5), .second, .val (.long y6), .second, .val (.ref b28), .unset, .unset, .unset] [(.int (f_full (3 : Int32) B S (1 : Int32) y4 y5 y6)), (.int (((f_full (0 : Int32) B S (1 : Int32) y4 y5 y6) + (f_full (1 : Int32) B S (1 : Int32) y4 y5 y6)) + (f_full (2 : Int32) B S (1 : Int32) y4 y5 y6)))])) := st43
    have k44 : Go p.tables e below (T43.setTop (mkF m 194 #[.val (.int p0), .val (.int p1), .val (.int p2), .val (.int p3), .val (.int p4), .val (.int p5), .val (.int (Int32.ofNat B)), .val (.int (Int32.ofNat S)), .val (.int (1 : Int32)), .val (.long y4), .second, .val (.long y5), .second, .val (.long y6), .second, .val (.ref b28), .unset, .unset, .unset] [(.int (f_full (3 : Int32) B S (1 : Int32) y4 y5 y6)), (.int (((f_full (0 : Int32) B S (1 : Int32) y4 y5 y6) + (f_full (1 : Int32) B S (1 : Int32) y4 y5 y6)) + (f_full (2 : Int32) B S (1 : Int32) y4 y5 y6)))])) (T43.setTop (mkF m 197 #[.val (.int p0), .val (.int p1), .val (.int p2), .val (.int p3), .val (.int p4), .val (.int p5), .val (.int (Int32.ofNat B)), .val (.int (Int32.ofNat S)), .val (.int (1 : Int32)), .val (.long y4), .second, .val (.long y5), .second, .val (.long y6), .second, .val (.ref b28), .val (.int ((((f_full (0 : Int32) B S (1 : Int32) y4 y5 y6) + (f_full (1 : Int32) B S (1 : Int32) y4 y5 y6)) + (f_full (2 : Int32) B S (1 : Int32) y4 y5 y6)) + (f_full (3 : Int32) B S (1 : Int32) y4 y5 y6))), .unset, .unset] [])) := by
      intro t ht
      refine XS.iadd X43.here hx rfl (hb hby at_194) rfl ?_
      show Steps p.tables e below (T43.setTop (mkF m 195 #[.val (.int p0), .val (.int p1), .val (.int p2), .val (.int p3), .val (.int p4), .val (.int p5), .val (.int (Int32.ofNat B)), .val (.int (Int32.ofNat S)), .val (.int (1 : Int32)), .val (.long y4), .second, .val (.long y5), .second, .val (.long y6), .second, .val (.ref b28), .unset, .unset, .unset] [(.int ((((f_full (0 : Int32) B S (1 : Int32) y4 y5 y6) + (f_full (1 : Int32) B S (1 : Int32) y4 y5 y6)) + (f_full (2 : Int32) B S (1 : Int32) y4 y5 y6)) + (f_full (3 : Int32) B S (1 : Int32) y4 y5 y6)))])) _
      refine XS.istore X43.here hx rfl (hb hby at_195) rfl (l' := #[.val (.int p0), .val (.int p1), .val (.int p2), .val (.int p3), .val (.int p4), .val (.int p5), .val (.int (Int32.ofNat B)), .val (.int (Int32.ofNat S)), .val (.int (1 : Int32)), .val (.long y4), .second, .val (.long y5), .second, .val (.long y6), .second, .val (.ref b28), .val (.int ((((f_full (0 : Int32) B S (1 : Int32) y4 y5 y6) + (f_full (1 : Int32) B S (1 : Int32) y4 y5 y6)) + (f_full (2 : Int32) B S (1 : Int32) y4 y5 y6)) + (f_full (3 : Int32) B S (1 : Int32) y4 y5 y6))), .unset, .unset]) rfl ?_
      exact ht
    obtain ⟨y45, ey45⟩ : ∃ z : Int32, z = ((((f_full (0 : Int32) B S (1 : Int32) y4 y5 y6) + (f_full (1 : Int32) B S (1 : Int32) y4 y5 y6)) + (f_full (2 : Int32) B S (1 : Int32) y4 y5 y6)) + (f_full (3 : Int32) B S (1 : Int32) y4 y5 y6)) := ⟨_, rfl⟩
    have k46 : Go p.tables e below (T43.setTop (mkF m 197 #[.val (.int p0), .val (.int p1), .val (.int p2), .val (.int p3), .val (.int p4), .val (.int p5), .val (.int (Int32.ofNat B)), .val (.int (Int32.ofNat S)), .val (.int (1 : Int32)), .val (.long y4), .second, .val (.long y5), .second, .val (.long y6), .second, .val (.ref b28), .val (.int ((((f_full (0 : Int32) B S (1 : Int32) y4 y5 y6) + (f_full (1 : Int32) B S (1 : Int32) y4 y5 y6)) + (f_full (2 : Int32) B S (1 : Int32) y4 y5 y6)) + (f_full (3 : Int32) B S (1 : Int32) y4 y5 y6))), .unset, .unset] [])) (T43.setTop (mkF m 197 #[.val (.int p0), .val (.int p1), .val (.int p2), .val (.int p3), .val (.int p4), .val (.int p5), .val (.int (Int32.ofNat B)), .val (.int (Int32.ofNat S)), .val (.int (1 : Int32)), .val (.long y4), .second, .val (.long y5), .second, .val (.long y6), .second, .val (.ref b28), .val (.int y45), .unset, .unset] [])) := by rw [ey45]; exact fun _ h => h
    have k47 : Go p.tables e below (T43.setTop (mkF m 197 #[.val (.int p0), .val (.int p1), .val (.int p2), .val (.int p3), .val (.int p4), .val (.int p5), .val (.int (Int32.ofNat B)), .val (.int (Int32.ofNat S)), .val (.int (1 : Int32)), .val (.long y4), .second, .val (.long y5), .second, .val (.long y6), .second, .val (.ref b28), .val (.int y45), .unset, .unset] [])) (T43.setTop (mkF m 208 #[.val (.int p0), .val (.int p1), .val (.int p2), .val (.int p3), .val (.int p4), .val (.int p5), .val (.int (Int32.ofNat B)), .val (.int (Int32.ofNat S)), .val (.int (1 : Int32)), .val (.long y4), .second, .val (.long y5), .second, .val (.long y6), .second, .val (.ref b28), .val (.int y45), .val (.double (FP.ddiv (FP.i2d y45) (FP.i2d (Int32.ofNat B)))), .second] [(.ref b28)])) := by
      intro t ht
      refine XS.iload X43.here hx rfl (hb hby at_197) rfl ?_
      show Steps p.tables e below (T43.setTop (mkF m 199 #[.val (.int p0), .val (.int p1), .val (.int p2), .val (.int p3), .val (.int p4), .val (.int p5), .val (.int (Int32.ofNat B)), .val (.int (Int32.ofNat S)), .val (.int (1 : Int32)), .val (.long y4), .second, .val (.long y5), .second, .val (.long y6), .second, .val (.ref b28), .val (.int y45), .unset, .unset] [(.int y45)])) _
      refine XS.i2dS X43.here hx rfl (hb hby at_199) rfl rfl ?_
      show Steps p.tables e below (T43.setTop (mkF m 200 #[.val (.int p0), .val (.int p1), .val (.int p2), .val (.int p3), .val (.int p4), .val (.int p5), .val (.int (Int32.ofNat B)), .val (.int (Int32.ofNat S)), .val (.int (1 : Int32)), .val (.long y4), .second, .val (.long y5), .second, .val (.long y6), .second, .val (.ref b28), .val (.int y45), .unset, .unset] [(.double (FP.i2d y45))])) _
      refine XS.iload X43.here hx rfl (hb hby at_200) rfl ?_
      show Steps p.tables e below (T43.setTop (mkF m 202 #[.val (.int p0), .val (.int p1), .val (.int p2), .val (.int p3), .val (.int p4), .val (.int p5), .val (.int (Int32.ofNat B)), .val (.int (Int32.ofNat S)), .val (.int (1 : Int32)), .val (.long y4), .second, .val (.long y5), .second, .val (.long y6), .second, .val (.ref b28), .val (.int y45), .unset, .unset] [(.int (Int32.ofNat B)), (.double (FP.i2d y45))])) _
      refine XS.i2dS X43.here hx rfl (hb hby at_202) rfl rfl ?_
      show Steps p.tables e below (T43.setTop (mkF m 203 #[.val (.int p0), .val (.int p1), .val (.int p2), .val (.int p3), .val (.int p4), .val (.int p5), .val (.int (Int32.ofNat B)), .val (.int (Int32.ofNat S)), .val (.int (1 : Int32)), .val (.long y4), .second, .val (.long y5), .second, .val (.long y6), .second, .val (.ref b28), .val (.int y45), .unset, .unset] [(.double (FP.i2d (Int32.ofNat B))), (.double (FP.i2d y45))])) _
      refine XS.ddivS X43.here hx rfl (hb hby at_203) rfl (own_nanF hB ey45) rfl ?_
      show Steps p.tables e below (T43.setTop (mkF m 204 #[.val (.int p0), .val (.int p1), .val (.int p2), .val (.int p3), .val (.int p4), .val (.int p5), .val (.int (Int32.ofNat B)), .val (.int (Int32.ofNat S)), .val (.int (1 : Int32)), .val (.long y4), .second, .val (.long y5), .second, .val (.long y6), .second, .val (.ref b28), .val (.int y45), .unset, .unset] [(.double (FP.ddiv (FP.i2d y45) (FP.i2d (Int32.ofNat B))))])) _
      refine XS.dstore X43.here hx rfl (hb hby at_204) rfl (l' := #[.val (.int p0), .val (.int p1), .val (.int p2), .val (.int p3), .val (.int p4), .val (.int p5), .val (.int (Int32.ofNat B)), .val (.int (Int32.ofNat S)), .val (.int (1 : Int32)), .val (.long y4), .second, .val (.long y5), .second, .val (.long y6), .second, .val (.ref b28), .val (.int y45), .val (.double (FP.ddiv (FP.i2d y45) (FP.i2d (Int32.ofNat B)))), .second]) rfl ?_
      show Steps p.tables e below (T43.setTop (mkF m 206 #[.val (.int p0), .val (.int p1), .val (.int p2), .val (.int p3), .val (.int p4), .val (.int p5), .val (.int (Int32.ofNat B)), .val (.int (Int32.ofNat S)), .val (.int (1 : Int32)), .val (.long y4), .second, .val (.long y5), .second, .val (.long y6), .second, .val (.ref b28), .val (.int y45), .val (.double (FP.ddiv (FP.i2d y45) (FP.i2d (Int32.ofNat B)))), .second] [])) _
      refine XS.aload X43.here hx rfl (hb hby at_206) rfl rfl ?_
      exact ht
    obtain ⟨cq48, kq48, q48a, q48b, q48c⟩ := isOf hZ eq43 Fq35_0
    obtain ⟨_, _, ⟨T48, L48, kq48, n48⟩, -, X48, ⟨Lc48, hQ48, l48, y48, z48⟩, st48⟩ := X43.virtualBack hx (y := (⟨"com/example/auspex/auspex/manager/ConflictTable", "fullBucketShare", "()D"⟩ : MethodName)) (z := (⟨"com/example/auspex/auspex/manager/ConflictTable", "fullBucketShare", "()D"⟩ : MethodName)) hown (mvT hZ (hw _ (List.mem_of_getElem? (i := 39) rfl))) (mvT hZ (hw _ (List.mem_of_getElem? (i := 40) rfl))) (notFace_of_selects (args := #[]) (mvT hZ (hw _ (List.mem_of_getElem? (i := 42) rfl)))) (mvT hZ (hw _ (List.mem_of_getElem? (i := 42) rfl))) (mvT hZ (hw _ (List.mem_of_getElem? (i := 41) rfl))) (by decide) (backOf (W := 0) (rm_share l Z a0 hw [] b28 B S xc_30 xl_30 (own_Z.set ((own_n y4 B S) + (f_rec00 (own_n y4 B S) S y4 own_Z own_Z)) (1 : Int64)) T35.heap n0 Z35 Fq35_1 Fq35_2 Fq35_4 Fq35_6 (hB : 1 ≤ B ∧ B ≤ 4) (hS : 1 ≤ S ∧ S ≤ 3)) hZ (hw _ (List.mem_of_getElem? (i := 43) rfl)) (hw _ (List.mem_of_getElem? (i := 3) rfl)) (by decide) (by decide)) q48a q48c (g := (mkF m 208 #[.val (.int p0), .val (.int p1), .val (.int p2), .val (.int p3), .val (.int p4), .val (.int p5), .val (.int (Int32.ofNat B)), .val (.int (Int32.ofNat S)), .val (.int (1 : Int32)), .val (.long y4), .second, .val (.long y5), .second, .val (.long y6), .second, .val (.ref b28), .val (.int y45), .val (.double (FP.ddiv (FP.i2d y45) (FP.i2d (Int32.ofNat B)))), .second] [(.ref b28)])) rfl (by rw [hml]; rfl) (Steps.refl _) (argsL := []) (rest := []) (lenOf pd_4 rfl) rfl (by show 2 * 0 + _ ≤ _; exact Nat.le_of_eq rfl) (hb hby at_208) (fun _ _ => ⟨rfl, eq43, (by decide : 4 + 0 ≤ _), (by decide : 29 + 0 ≤ _)⟩)
    dsimp only [Pt.U, Pt.locs, Pt.cells, Pt.slots] at X48 l48 y48 z48 st48 hQ48
    subst l48 y48 z48
    obtain ⟨rfl, N48q, eq48⟩ := hQ48
    have N48 := Fr.app N43 N48q
    have k48 : Go p.tables e below (T43.setTop (mkF m 208 #[.val (.int p0), .val (.int p1), .val (.int p2), .val (.int p3), .val (.int p4), .val (.int p5), .val (.int (Int32.ofNat B)), .val (.int (Int32.ofNat S)), .val (.int (1 : Int32)), .val (.long y4), .second, .val (.long y5), .second, .val (.long y6), .second, .val (.ref b28), .val (.int y45), .val (.double (FP.ddiv (FP.i2d y45) (FP.i2d (Int32.ofNat B)))), .second] [(.ref b28)])) (T48.setTop (mkF m 211 #[.val (.int p0), .val (.int p1), .val (.int p2), .val (.int p3), .val (.int p4), .val (.int p5), .val (.int (Int32.ofNat B)), .val (.int (Int32.ofNat S)), .val (.int (1 : Int32)), .val (.long y4), .second, .val (.long y5), .second, .val (.long y6), .second, .val (.ref b28), .val (.int y45), .val (.double (FP.ddiv (FP.i2d y45) (FP.i2d (Int32.ofNat B)))), .second] [(.double (FP.ddiv (FP.l2d (own_share B S (own_Z.set ((own_n y4 B S) + (f_rec00 (own_n y4 B S) S y4 own_Z own_Z)) (1 : Int64)))) (FP.i2d (Int32.ofNat B))))])) := fun _ ht => st48.trans ht
    have k49 : Go p.tables e below (T48.setTop (mkF m 211 #[.val (.int p0), .val (.int p1), .val (.int p2), .val (.int p3), .val (.int p4), .val (.int p5), .val (.int (Int32.ofNat B)), .val (.int (Int32.ofNat S)), .val (.int (1 : Int32)), .val (.long y4), .second, .val (.long y5), .second, .val (.long y6), .second, .val (.ref b28), .val (.int y45), .val (.double (FP.ddiv (FP.i2d y45) (FP.i2d (Int32.ofNat B)))), .second] [(.double (FP.ddiv (FP.l2d (own_share B S (own_Z.set ((own_n y4 B S) + (f_rec00 (own_n y4 B S) S y4 own_Z own_Z)) (1 : Int64)))) (FP.i2d (Int32.ofNat B))))])) (T48.setTop (mkF m 222 #[.val (.int p0), .val (.int p1), .val (.int p2), .val (.int p3), .val (.int p4), .val (.int p5), .val (.int (Int32.ofNat B)), .val (.int (Int32.ofNat S)), .val (.int (1 : Int32)), .val (.long y4), .second, .val (.long y5), .second, .val (.long y6), .second, .val (.ref b28), .val (.int y45), .val (.double (FP.ddiv (FP.i2d y45) (FP.i2d (Int32.ofNat B)))), .second] [(.int (1 : Int32))])) := by
      intro t ht
      refine XS.dload X48.here hx rfl (hb hby at_211) rfl ?_
      show Steps p.tables e below (T48.setTop (mkF m 213 #[.val (.int p0), .val (.int p1), .val (.int p2), .val (.int p3), .val (.int p4), .val (.int p5), .val (.int (Int32.ofNat B)), .val (.int (Int32.ofNat S)), .val (.int (1 : Int32)), .val (.long y4), .second, .val (.long y5), .second, .val (.long y6), .second, .val (.ref b28), .val (.int y45), .val (.double (FP.ddiv (FP.i2d y45) (FP.i2d (Int32.ofNat B)))), .second] [(.double (FP.ddiv (FP.i2d y45) (FP.i2d (Int32.ofNat B)))), (.double (FP.ddiv (FP.l2d (own_share B S (own_Z.set ((own_n y4 B S) + (f_rec00 (own_n y4 B S) S y4 own_Z own_Z)) (1 : Int64)))) (FP.i2d (Int32.ofNat B))))])) _
      refine XS.dcmpS X48.here hx rfl (hb hby at_213) rfl rfl ?_
      show Steps p.tables e below (T48.setTop (mkF m 214 #[.val (.int p0), .val (.int p1), .val (.int p2), .val (.int p3), .val (.int p4), .val (.int p5), .val (.int (Int32.ofNat B)), .val (.int (Int32.ofNat S)), .val (.int (1 : Int32)), .val (.long y4), .second, .val (.long y5), .second, .val (.long y6), .second, .val (.ref b28), .val (.int y45), .val (.double (FP.ddiv (FP.i2d y45) (FP.i2d (Int32.ofNat B)))), .second] [(.int (cmpValue (FP.dcmp (FP.ddiv (FP.l2d (own_share B S (own_Z.set ((own_n y4 B S) + (f_rec00 (own_n y4 B S) S y4 own_Z own_Z)) (1 : Int64)))) (FP.i2d (Int32.ofNat B))) (FP.ddiv (FP.i2d y45) (FP.i2d (Int32.ofNat B)))) .l))])) _
      refine XS.ifNo X48.here hx rfl (hb hby at_214) rfl ((if0 _ _).trans (teq (own_final1 hB hS hH0 hH1 hH2 ey45 : (cmpValue (FP.dcmp (FP.ddiv (FP.l2d (own_share B S (own_Z.set ((own_n y4 B S) + (f_rec00 (own_n y4 B S) S y4 own_Z own_Z)) (1 : Int64)))) (FP.i2d (Int32.ofNat B))) (FP.ddiv (FP.i2d y45) (FP.i2d (Int32.ofNat B)))) .l) = (0 : Int32))).2) ?_
      show Steps p.tables e below (T48.setTop (mkF m 217 #[.val (.int p0), .val (.int p1), .val (.int p2), .val (.int p3), .val (.int p4), .val (.int p5), .val (.int (Int32.ofNat B)), .val (.int (Int32.ofNat S)), .val (.int (1 : Int32)), .val (.long y4), .second, .val (.long y5), .second, .val (.long y6), .second, .val (.ref b28), .val (.int y45), .val (.double (FP.ddiv (FP.i2d y45) (FP.i2d (Int32.ofNat B)))), .second] [])) _
      refine XS.iconst X48.here hx rfl (hb hby at_217) ?_
      show Steps p.tables e below (T48.setTop (mkF m 218 #[.val (.int p0), .val (.int p1), .val (.int p2), .val (.int p3), .val (.int p4), .val (.int p5), .val (.int (Int32.ofNat B)), .val (.int (Int32.ofNat S)), .val (.int (1 : Int32)), .val (.long y4), .second, .val (.long y5), .second, .val (.long y6), .second, .val (.ref b28), .val (.int y45), .val (.double (FP.ddiv (FP.i2d y45) (FP.i2d (Int32.ofNat B)))), .second] [(.int (1 : Int32))])) _
      refine XS.goto X48.here hx rfl (pc0 := 218) (pc' := 222) rfl (hb hby at_218) (by decide) (by decide) ?_
      exact ht
    obtain ⟨fs, hr, hrun, hended, hW, hsame⟩ := X48.leave (v := some (.int (1 : Int32))) (fun h => by rw [Bd.returns] at h; cases h)
    refine ⟨_, _, pre0 _ ((goT k1 (goT k2 (goT k3 (goT k7 (goT k27 (goT k28 (goT k29 (goT k30 (goT k31 (goT k32 (goT k33 (goT k34 (goT k35 (goT k36 (goT k37 (goT k38 (goT k39 (goT k40 (goT k41 (goT k42 (goT k43 (goT k44 (goT k46 (goT k47 (goT k48 k49))))))))))))))))))))))))) _ (retN X48 hx (t := .boolean) Bd.returns (by simp) (hb hby at_222) hr)), hrun, hended, _, _, rfl, ?_, ⟨_, rfl⟩, hW, hsame.mono (by decide) (by decide)⟩
    show Q_law Z p0 p1 p2 p3 p4 p5 h0 n0 _ T48.heap _
    rw [eq48]
    exact ⟨rfl, N48⟩
  · have k50 : Go p.tables e below (s₁.setTop (mkF m 51 #[.val (.int p0), .val (.int p1), .val (.int p2), .val (.int p3), .val (.int p4), .val (.int p5), .val (.int (Int32.ofNat B)), .val (.int (Int32.ofNat S)), .val (.int (p2 &&& (3 : Int32))), .val (.long y4), .second, .val (.long y5), .second, .val (.long y6), .second, .unset, .unset, .unset, .unset] [])) (s₁.setTop (mkF m 51 #[.val (.int p0), .val (.int p1), .val (.int p2), .val (.int p3), .val (.int p4), .val (.int p5), .val (.int (Int32.ofNat B)), .val (.int (Int32.ofNat S)), .val (.int (2 : Int32)), .val (.long y4), .second, .val (.long y5), .second, .val (.long y6), .second, .unset, .unset, .unset, .unset] [])) := by rw [hk8]; exact fun _ h => h
    obtain ⟨T51, h51, X51, e51, E51, A51, D51, -, st51⟩ := newO X0 hx hZ hown (hw _ (List.mem_of_getElem? (i := 1) rfl)) (hw _ (List.mem_of_getElem? (i := 2) rfl)) (hw _ (List.mem_of_getElem? (i := 3) rfl)) e0 (g := (mkF m 51 #[.val (.int p0), .val (.int p1), .val (.int p2), .val (.int p3), .val (.int p4), .val (.int p5), .val (.int (Int32.ofNat B)), .val (.int (Int32.ofNat S)), .val (.int (2 : Int32)), .val (.long y4), .second, .val (.long y5), .second, .val (.long y6), .second, .unset, .unset, .unset, .unset] [])) rfl (hb hby at_51) (by decide) (by decide)
    obtain ⟨b51, g51⟩ : ∃ z, z = h0.size := ⟨_, rfl⟩
    rw [← g51] at A51 D51 st51
    have g_b51 : n0 ≤ b51 := Nat.le_trans Z0 (Nat.le_of_eq g51.symm)
    have sz_b51 : h0.size ≤ b51 := Nat.le_trans (Keep.refl h0 []).1 (Nat.le_of_eq g51.symm)
    have Kp51 : Keep h0 h51 [] := (Keep.refl h0 []).ext E51
    have Z51 : n0 ≤ h51.size := Nat.le_trans Z0 E51.1
    have F_buckets_b51 : Fld Z h51 b51 "com/example/auspex/auspex/manager/ConflictTable" "buckets" "I" (.int (0 : Int32)) := D51 (Or.inr (hw _ (List.mem_of_getElem? (i := 12) rfl))) (ty := .int) (by decide)
    have F_slotsPerBucket_b51 : Fld Z h51 b51 "com/example/auspex/auspex/manager/ConflictTable" "slotsPerBucket" "I" (.int (0 : Int32)) := D51 (Or.inr (hw _ (List.mem_of_getElem? (i := 14) rfl))) (ty := .int) (by decide)
    have F_hashes_b51 : Fld Z h51 b51 "com/example/auspex/auspex/manager/ConflictTable" "hashes" "[J" .null := D51 (Or.inr (hw _ (List.mem_of_getElem? (i := 17) rfl))) (ty := (.array .long)) (by decide)
    have F_commits_b51 : Fld Z h51 b51 "com/example/auspex/auspex/manager/ConflictTable" "commits" "[J" .null := D51 (Or.inr (hw _ (List.mem_of_getElem? (i := 19) rfl))) (ty := (.array .long)) (by decide)
    have k51 : Go p.tables e below (s₁.setTop (mkF m 51 #[.val (.int p0), .val (.int p1), .val (.int p2), .val (.int p3), .val (.int p4), .val (.int p5), .val (.int (Int32.ofNat B)), .val (.int (Int32.ofNat S)), .val (.int (2 : Int32)), .val (.long y4), .second, .val (.long y5), .second, .val (.long y6), .second, .unset, .unset, .unset, .unset] [])) (T51.setTop (mkF m 54 #[.val (.int p0), .val (.int p1), .val (.int p2), .val (.int p3), .val (.int p4), .val (.int p5), .val (.int (Int32.ofNat B)), .val (.int (Int32.ofNat S)), .val (.int (2 : Int32)), .val (.long y4), .second, .val (.long y5), .second, .val (.long y6), .second, .unset, .unset, .unset, .unset] [(.ref b51)])) := st51
    have k52 : Go p.tables e below (T51.setTop (mkF m 54 #[.val (.int p0), .val (.int p1), .val (.int p2), .val (.int p3), .val (.int p4), .val (.int p5), .val (.int (Int32.ofNat B)), .val (.int (Int32.ofNat S)), .val (.int (2 : Int32)), .val (.long y4), .second, .val (.long y5), .second, .val (.long y6), .second, .unset, .unset, .unset, .unset] [(.ref b51)])) (T51.setTop (mkF m 59 #[.val (.int p0), .val (.int p1), .val (.int p2), .val (.int p3), .val (.int p4), .val (.int p5), .val (.int (Int32.ofNat B)), .val (.int (Int32.ofNat S)), .val (.int (2 : Int32)), .val (.long y4), .second, .val (.long y5), .second, .val (.long y6), .second, .unset, .unset, .unset, .unset] [(.int (Int32.ofNat S)), (.int (Int32.ofNat B)), (.ref b51), (.ref b51)])) := by
      intro t ht
      refine XS.dup X51.here hx rfl (hb hby at_54) rfl rfl ?_
      show Steps p.tables e below (T51.setTop (mkF m 55 #[.val (.int p0), .val (.int p1), .val (.int p2), .val (.int p3), .val (.int p4), .val (.int p5), .val (.int (Int32.ofNat B)), .val (.int (Int32.ofNat S)), .val (.int (2 : Int32)), .val (.long y4), .second, .val (.long y5), .second, .val (.long y6), .second, .unset, .unset, .unset, .unset] [(.ref b51), (.ref b51)])) _
      refine XS.iload X51.here hx rfl (hb hby at_55) rfl ?_
      show Steps p.tables e below (T51.setTop (mkF m 57 #[.val (.int p0), .val (.int p1), .val (.int p2), .val (.int p3), .val (.int p4), .val (.int p5), .val (.int (Int32.ofNat B)), .val (.int (Int32.ofNat S)), .val (.int (2 : Int32)), .val (.long y4), .second, .val (.long y5), .second, .val (.long y6), .second, .unset, .unset, .unset, .unset] [(.int (Int32.ofNat B)), (.ref b51), (.ref b51)])) _
      refine XS.iload X51.here hx rfl (hb hby at_57) rfl ?_
      exact ht
    obtain ⟨_, _, ⟨T53, L53, kq53, n53⟩, -, X53, ⟨Lc53, hQ53, l53, y53, z53⟩, st53⟩ := X51.specialBack hx (y := (⟨"com/example/auspex/auspex/manager/ConflictTable", "<init>", "(II)V"⟩ : MethodName)) rfl hown (mvT hZ (hw _ (List.mem_of_getElem? (i := 4) rfl))) (mvT hZ (hw _ (List.mem_of_getElem? (i := 5) rfl))) (mvT hZ (hw _ (List.mem_of_getElem? (i := 6) rfl))) (by decide) (backOf (W := 1) (rm_init l Z a0 hw [] b51 B S h51 n0 Z51 F_buckets_b51 F_slotsPerBucket_b51 F_hashes_b51 F_commits_b51 A51 g_b51 (hB : 1 ≤ B ∧ B ≤ 4) (hS : 1 ≤ S ∧ S ≤ 3)) hZ (hw _ (List.mem_of_getElem? (i := 6) rfl)) (hw _ (List.mem_of_getElem? (i := 3) rfl)) (by decide) (by decide)) (g := (mkF m 59 #[.val (.int p0), .val (.int p1), .val (.int p2), .val (.int p3), .val (.int p4), .val (.int p5), .val (.int (Int32.ofNat B)), .val (.int (Int32.ofNat S)), .val (.int (2 : Int32)), .val (.long y4), .second, .val (.long y5), .second, .val (.long y6), .second, .unset, .unset, .unset, .unset] [(.int (Int32.ofNat S)), (.int (Int32.ofNat B)), (.ref b51), (.ref b51)])) rfl (by rw [hml]; rfl) (Steps.refl _) (a := b51) (argsL := [(.int (Int32.ofNat B)), (.int (Int32.ofNat S))]) (rest := [(.ref b51)]) (lenOf pd_2 rfl) rfl (by show 2 * 0 + _ ≤ _; exact Nat.le_of_eq rfl) (hb hby at_59) (fun _ _ => ⟨rfl, e51, (by decide : 1 + 2 ≤ _), (by decide : 4 + 24 ≤ _)⟩)
    dsimp only [Pt.U, Pt.locs, Pt.cells, Pt.slots] at X53 l53 y53 z53 st53 hQ53
    subst l53 y53 z53
    obtain ⟨xa_53, xk_53, xc_53, xl_53, rfl, N53q, K53, Pq53_0, Pq53_1, Pq53_2, Fq53_0, Fq53_1, Fq53_2, Fq53_3, Fq53_4, Fq53_5, Fq53_6⟩ := hQ53
    have N53 := Fr.app N0 N53q
    have k53 : Go p.tables e below (T51.setTop (mkF m 59 #[.val (.int p0), .val (.int p1), .val (.int p2), .val (.int p3), .val (.int p4), .val (.int p5), .val (.int (Int32.ofNat B)), .val (.int (Int32.ofNat S)), .val (.int (2 : Int32)), .val (.long y4), .second, .val (.long y5), .second, .val (.long y6), .second, .unset, .unset, .unset, .unset] [(.int (Int32.ofNat S)), (.int (Int32.ofNat B)), (.ref b51), (.ref b51)])) (T53.setTop (mkF m 62 #[.val (.int p0), .val (.int p1), .val (.int p2), .val (.int p3), .val (.int p4), .val (.int p5), .val (.int (Int32.ofNat B)), .val (.int (Int32.ofNat S)), .val (.int (2 : Int32)), .val (.long y4), .second, .val (.long y5), .second, .val (.long y6), .second, .unset, .unset, .unset, .unset] [(.ref b51)])) := fun _ ht => st53.trans ht
    have Kp53 : Keep h0 T53.heap [] := Kp51.trans K53 (allS (Or.inr sz_b51) all0)
    have Z53 : n0 ≤ T53.heap.size := Nat.le_trans Z51 K53.1
    have ne_b51_xa_53 : b51 ≠ xa_53 := Nat.ne_of_lt (Nat.lt_of_lt_of_le A51.lt Pq53_0)
    have g_xa_53 : n0 ≤ xa_53 := Nat.le_trans Z51 Pq53_0
    have sz_xa_53 : h0.size ≤ xa_53 := Nat.le_trans Kp51.1 Pq53_0
    have ne_b51_xc_53 : b51 ≠ xc_53 := Nat.ne_of_lt (Nat.lt_of_lt_of_le A51.lt Pq53_1)
    have g_xc_53 : n0 ≤ xc_53 := Nat.le_trans Z51 Pq53_1
    have sz_xc_53 : h0.size ≤ xc_53 := Nat.le_trans Kp51.1 Pq53_1
    have A51_c_53 := A51.keep K53
    have k54 : Go p.tables e below (T53.setTop (mkF m 62 #[.val (.int p0), .val (.int p1), .val (.int p2), .val (.int p3), .val (.int p4), .val (.int p5), .val (.int (Int32.ofNat B)), .val (.int (Int32.ofNat S)), .val (.int (2 : Int32)), .val (.long y4), .second, .val (.long y5), .second, .val (.long y6), .second, .unset, .unset, .unset, .unset] [(.ref b51)])) (T53.setTop (mkF m 74 #[.val (.int p0), .val (.int p1), .val (.int p2), .val (.int p3), .val (.int p4), .val (.int p5), .val (.int (Int32.ofNat B)), .val (.int (Int32.ofNat S)), .val (.int (2 : Int32)), .val (.long y4), .second, .val (.long y5), .second, .val (.long y6), .second, .val (.ref b51), .unset, .unset, .unset] [(.int (1 : Int32)), (.long (1 : Int64)), (.ref b51)])) := by
      intro t ht
      refine XS.astore X53.here hx rfl (hb hby at_62) rfl rfl (l' := #[.val (.int p0), .val (.int p1), .val (.int p2), .val (.int p3), .val (.int p4), .val (.int p5), .val (.int (Int32.ofNat B)), .val (.int (Int32.ofNat S)), .val (.int (2 : Int32)), .val (.long y4), .second, .val (.long y5), .second, .val (.long y6), .second, .val (.ref b51), .unset, .unset, .unset]) rfl ?_
      show Steps p.tables e below (T53.setTop (mkF m 64 #[.val (.int p0), .val (.int p1), .val (.int p2), .val (.int p3), .val (.int p4), .val (.int p5), .val (.int (Int32.ofNat B)), .val (.int (Int32.ofNat S)), .val (.int (2 : Int32)), .val (.long y4), .second, .val (.long y5), .second, .val (.long y6), .second, .val (.ref b51), .unset, .unset, .unset] [])) _
      refine XS.iload X53.here hx rfl (hb hby at_64) rfl ?_
      show Steps p.tables e below (T53.setTop (mkF m 66 #[.val (.int p0), .val (.int p1), .val (.int p2), .val (.int p3), .val (.int p4), .val (.int p5), .val (.int (Int32.ofNat B)), .val (.int (Int32.ofNat S)), .val (.int (2 : Int32)), .val (.long y4), .second, .val (.long y5), .second, .val (.long y6), .second, .val (.ref b51), .unset, .unset, .unset] [(.int (2 : Int32))])) _
      refine XS.iconst X53.here hx rfl (hb hby at_66) ?_
      show Steps p.tables e below (T53.setTop (mkF m 67 #[.val (.int p0), .val (.int p1), .val (.int p2), .val (.int p3), .val (.int p4), .val (.int p5), .val (.int (Int32.ofNat B)), .val (.int (Int32.ofNat S)), .val (.int (2 : Int32)), .val (.long y4), .second, .val (.long y5), .second, .val (.long y6), .second, .val (.ref b51), .unset, .unset, .unset] [(.int (1 : Int32)), (.int (2 : Int32))])) _
      refine XS.icmpNo X53.here hx rfl (hb hby at_67) rfl (flt (by decide : ¬ ((2 : Int32) < (1 : Int32)))).1 ?_
      show Steps p.tables e below (T53.setTop (mkF m 70 #[.val (.int p0), .val (.int p1), .val (.int p2), .val (.int p3), .val (.int p4), .val (.int p5), .val (.int (Int32.ofNat B)), .val (.int (Int32.ofNat S)), .val (.int (2 : Int32)), .val (.long y4), .second, .val (.long y5), .second, .val (.long y6), .second, .val (.ref b51), .unset, .unset, .unset] [])) _
      refine XS.aload X53.here hx rfl (hb hby at_70) rfl rfl ?_
      show Steps p.tables e below (T53.setTop (mkF m 72 #[.val (.int p0), .val (.int p1), .val (.int p2), .val (.int p3), .val (.int p4), .val (.int p5), .val (.int (Int32.ofNat B)), .val (.int (Int32.ofNat S)), .val (.int (2 : Int32)), .val (.long y4), .second, .val (.long y5), .second, .val (.long y6), .second, .val (.ref b51), .unset, .unset, .unset] [(.ref b51)])) _
      refine XS.lconst X53.here hx rfl (hb hby at_72) ?_
      show Steps p.tables e below (T53.setTop (mkF m 73 #[.val (.int p0), .val (.int p1), .val (.int p2), .val (.int p3), .val (.int p4), .val (.int p5), .val (.int (Int32.ofNat B)), .val (.int (Int32.ofNat S)), .val (.int (2 : Int32)), .val (.long y4), .second, .val (.long y5), .second, .val (.long y6), .second, .val (.ref b51), .unset, .unset, .unset] [(.long (1 : Int64)), (.ref b51)])) _
      refine XS.iconst X53.here hx rfl (hb hby at_73) ?_
      exact ht
    obtain ⟨T55, h55, kc55, X55, e55, E55, A55, st55⟩ := newP X53 hx hZ (hw _ (List.mem_of_getElem? (i := 15) rfl)) rfl (g := (mkF m 74 #[.val (.int p0), .val (.int p1), .val (.int p2), .val (.int p3), .val (.int p4), .val (.int p5), .val (.int (Int32.ofNat B)), .val (.int (Int32.ofNat S)), .val (.int (2 : Int32)), .val (.long y4), .second, .val (.long y5), .second, .val (.long y6), .second, .val (.ref b51), .unset, .unset, .unset] [(.int (1 : Int32)), (.long (1 : Int64)), (.ref b51)])) rfl (hb hby at_74) rfl (by decide) (cap := 1) (by decide) (by decide) (by decide) (by decide)
    obtain ⟨b55, g55⟩ : ∃ z, z = T53.heap.size := ⟨_, rfl⟩
    rw [← g55] at A55 st55
    have g_b55 : n0 ≤ b55 := Nat.le_trans Z53 (Nat.le_of_eq g55.symm)
    have sz_b55 : h0.size ≤ b55 := Nat.le_trans Kp53.1 (Nat.le_of_eq g55.symm)
    have ne_b51_b55 : b51 ≠ b55 := Nat.ne_of_lt (Nat.lt_of_lt_of_le Fq53_0.lt (Nat.le_of_eq g55.symm))
    have ne_xa_53_b55 : xa_53 ≠ b55 := Nat.ne_of_lt (Nat.lt_of_lt_of_le Fq53_5.lt (Nat.le_of_eq g55.symm))
    have ne_xc_53_b55 : xc_53 ≠ b55 := Nat.ne_of_lt (Nat.lt_of_lt_of_le Fq53_6.lt (Nat.le_of_eq g55.symm))
    have Kp55 : Keep h0 h55 [] := Kp53.ext E55
    have Z55 : n0 ≤ h55.size := Nat.le_trans Z53 E55.1
    have Fq53_0_c_55 := Fq53_0.ext E55
    have Fq53_1_c_55 := Fq53_1.ext E55
    have Fq53_2_c_55 := Fq53_2.ext E55
    have Fq53_3_c_55 := Fq53_3.ext E55
    have Fq53_4_c_55 := Fq53_4.ext E55
    have Fq53_5_c_55 := Fq53_5.ext E55
    have Fq53_6_c_55 := Fq53_6.ext E55
    have V_b55 : Arv Z h55 b55 kc55 .long (1 : Int32) [(.long (0 : Int64))] (.long (0 : Int64)) := (Arv.new A55 (by decide)).pad (pad_rep [] (.long (0 : Int64)) 1)
    have k55 : Go p.tables e below (T53.setTop (mkF m 74 #[.val (.int p0), .val (.int p1), .val (.int p2), .val (.int p3), .val (.int p4), .val (.int p5), .val (.int (Int32.ofNat B)), .val (.int (Int32.ofNat S)), .val (.int (2 : Int32)), .val (.long y4), .second, .val (.long y5), .second, .val (.long y6), .second, .val (.ref b51), .unset, .unset, .unset] [(.int (1 : Int32)), (.long (1 : Int64)), (.ref b51)])) (T55.setTop (mkF m 76 #[.val (.int p0), .val (.int p1), .val (.int p2), .val (.int p3), .val (.int p4), .val (.int p5), .val (.int (Int32.ofNat B)), .val (.int (Int32.ofNat S)), .val (.int (2 : Int32)), .val (.long y4), .second, .val (.long y5), .second, .val (.long y6), .second, .val (.ref b51), .unset, .unset, .unset] [(.ref b55), (.long (1 : Int64)), (.ref b51)])) := st55
    have k56 : Go p.tables e below (T55.setTop (mkF m 76 #[.val (.int p0), .val (.int p1), .val (.int p2), .val (.int p3), .val (.int p4), .val (.int p5), .val (.int (Int32.ofNat B)), .val (.int (Int32.ofNat S)), .val (.int (2 : Int32)), .val (.long y4), .second, .val (.long y5), .second, .val (.long y6), .second, .val (.ref b51), .unset, .unset, .unset] [(.ref b55), (.long (1 : Int64)), (.ref b51)])) (T55.setTop (mkF m 80 #[.val (.int p0), .val (.int p1), .val (.int p2), .val (.int p3), .val (.int p4), .val (.int p5), .val (.int (Int32.ofNat B)), .val (.int (Int32.ofNat S)), .val (.int (2 : Int32)), .val (.long y4), .second, .val (.long y5), .second, .val (.long y6), .second, .val (.ref b51), .unset, .unset, .unset] [(.long y4), (.int (0 : Int32)), (.ref b55), (.ref b55), (.long (1 : Int64)), (.ref b51)])) := by
      intro t ht
      refine XS.dup X55.here hx rfl (hb hby at_76) rfl rfl ?_
      show Steps p.tables e below (T55.setTop (mkF m 77 #[.val (.int p0), .val (.int p1), .val (.int p2), .val (.int p3), .val (.int p4), .val (.int p5), .val (.int (Int32.ofNat B)), .val (.int (Int32.ofNat S)), .val (.int (2 : Int32)), .val (.long y4), .second, .val (.long y5), .second, .val (.long y6), .second, .val (.ref b51), .unset, .unset, .unset] [(.ref b55), (.ref b55), (.long (1 : Int64)), (.ref b51)])) _
      refine XS.iconst X55.here hx rfl (hb hby at_77) ?_
      show Steps p.tables e below (T55.setTop (mkF m 78 #[.val (.int p0), .val (.int p1), .val (.int p2), .val (.int p3), .val (.int p4), .val (.int p5), .val (.int (Int32.ofNat B)), .val (.int (Int32.ofNat S)), .val (.int (2 : Int32)), .val (.long y4), .second, .val (.long y5), .second, .val (.long y6), .second, .val (.ref b51), .unset, .unset, .unset] [(.int (0 : Int32)), (.ref b55), (.ref b55), (.long (1 : Int64)), (.ref b51)])) _
      refine XS.lload X55.here hx rfl (hb hby at_78) rfl ?_
      exact ht
    obtain ⟨cl57, Ar57, q57, S57, M57, H57, G57⟩ := id V_b55
    have hin57 : ¬ ((0 : Int32) < 0 ∨ cl57.slots.size ≤ ((0 : Int32)).toNatClampNeg) := inb_of S57 ⟨by decide, by decide⟩
    obtain ⟨T57, h57, X57, e57, W57, st57⟩ := stJ X55 hx hZ e55 Ar57 (j := (0 : Int32)) hin57 (g := (mkF m 80 #[.val (.int p0), .val (.int p1), .val (.int p2), .val (.int p3), .val (.int p4), .val (.int p5), .val (.int (Int32.ofNat B)), .val (.int (Int32.ofNat S)), .val (.int (2 : Int32)), .val (.long y4), .second, .val (.long y5), .second, .val (.long y6), .second, .val (.ref b51), .unset, .unset, .unset] [(.long y4), (.int (0 : Int32)), (.ref b55), (.ref b55), (.long (1 : Int64)), (.ref b51)])) rfl rfl (hb hby at_80)
    have V57_b55 : Arv Z h57 b55 kc55 .long (1 : Int32) [(.long y4)] (.long (0 : Int64)) := Arv.set Ar57 q57 S57 M57 H57 G57 rfl W57 0 rfl (Nat.le_of_ble_eq_true rfl)
    have Kp57 : Keep h0 h57 [] := Kp55.wr W57 (Or.inr sz_b55)
    have Z57 : n0 ≤ h57.size := Nat.le_trans Z55 (Keep.of_wr W57).1
    have Fq53_0_c_57 := Fq53_0_c_55.wr W57
    have Fq53_1_c_57 := Fq53_1_c_55.other W57 (Or.inl ne_b51_b55)
    have Fq53_2_c_57 := Fq53_2_c_55.other W57 (Or.inl ne_b51_b55)
    have Fq53_3_c_57 := Fq53_3_c_55.other W57 (Or.inl ne_b51_b55)
    have Fq53_4_c_57 := Fq53_4_c_55.other W57 (Or.inl ne_b51_b55)
    have Fq53_5_c_57 := Fq53_5_c_55.other W57 ne_xa_53_b55
    have Fq53_6_c_57 := Fq53_6_c_55.other W57 ne_xc_53_b55
    have k57 : Go p.tables e below (T55.setTop (mkF m 80 #[.val (.int p0), .val (.int p1), .val (.int p2), .val (.int p3), .val (.int p4), .val (.int p5), .val (.int (Int32.ofNat B)), .val (.int (Int32.ofNat S)), .val (.int (2 : Int32)), .val (.long y4), .second, .val (.long y5), .second, .val (.long y6), .second, .val (.ref b51), .unset, .unset, .unset] [(.long y4), (.int (0 : Int32)), (.ref b55), (.ref b55), (.long (1 : Int64)), (.ref b51)])) (T57.setTop (mkF m 81 #[.val (.int p0), .val (.int p1), .val (.int p2), .val (.int p3), .val (.int p4), .val (.int p5), .val (.int (Int32.ofNat B)), .val (.int (Int32.ofNat S)), .val (.int (2 : Int32)), .val (.long y4), .second, .val (.long y5), .second, .val (.long y6), .second, .val (.ref b51), .unset, .unset, .unset] [(.ref b55), (.long (1 : Int64)), (.ref b51)])) := st57
    have N57 := Fr.snoc X57 N53 g_b55
    obtain ⟨cq58, kq58, q58a, q58b, q58c⟩ := isOf hZ e57 Fq53_0_c_57
    obtain ⟨_, _, ⟨T58, L58, kq58, n58⟩, -, X58, ⟨Lc58, hQ58, l58, y58, z58⟩, st58⟩ := X57.virtualBack hx (y := (⟨"com/example/auspex/auspex/manager/ConflictTable", "record", "(J[J)V"⟩ : MethodName)) (z := (⟨"com/example/auspex/auspex/manager/ConflictTable", "record", "(J[J)V"⟩ : MethodName)) hown (mvT hZ (hw _ (List.mem_of_getElem? (i := 20) rfl))) (mvT hZ (hw _ (List.mem_of_getElem? (i := 21) rfl))) (notFace_of_selects (args := #[]) (mvT hZ (hw _ (List.mem_of_getElem? (i := 23) rfl)))) (mvT hZ (hw _ (List.mem_of_getElem? (i := 23) rfl))) (mvT hZ (hw _ (List.mem_of_getElem? (i := 22) rfl))) (by decide) (backOf (W := 0) (rm_record l Z a0 hw [] b51 (1 : Int64) b55 B S xa_53 xc_53 xk_53 xl_53 kc55 own_Z own_Z y4 h57 n0 Z57 Fq53_1_c_57 Fq53_2_c_57 Fq53_3_c_57 Fq53_4_c_57 Fq53_0_c_57 Fq53_5_c_57 Fq53_6_c_57 V57_b55 g_xa_53 g_xc_53 (hB : 1 ≤ B ∧ B ≤ 4) (hS : 1 ≤ S ∧ S ≤ 3) (hH0 : own_H y4) (by simp [own_Z] : own_Z.length = 12) (by simp [own_Z] : own_Z.length = 12) (Pq53_2 : xa_53 ≠ xc_53) (ne_b51_xa_53 : b51 ≠ xa_53) (ne_b51_xc_53 : b51 ≠ xc_53)) hZ (hw _ (List.mem_of_getElem? (i := 24) rfl)) (hw _ (List.mem_of_getElem? (i := 3) rfl)) (by decide) (by decide)) q58a q58c (g := (mkF m 81 #[.val (.int p0), .val (.int p1), .val (.int p2), .val (.int p3), .val (.int p4), .val (.int p5), .val (.int (Int32.ofNat B)), .val (.int (Int32.ofNat S)), .val (.int (2 : Int32)), .val (.long y4), .second, .val (.long y5), .second, .val (.long y6), .second, .val (.ref b51), .unset, .unset, .unset] [(.ref b55), (.long (1 : Int64)), (.ref b51)])) rfl (by rw [hml]; rfl) (Steps.refl _) (argsL := [(.long (1 : Int64)), (.ref b55)]) (rest := []) (lenOf pd_5 rfl) rfl (by show 2 * 0 + _ ≤ _; exact Nat.le_of_eq rfl) (hb hby at_81) (fun _ _ => ⟨rfl, e57, (by decide : 4 + 0 ≤ _), (by decide : 29 + 0 ≤ _)⟩)
    dsimp only [Pt.U, Pt.locs, Pt.cells, Pt.slots] at X58 l58 y58 z58 st58 hQ58
    subst l58 y58 z58
    obtain ⟨rfl, N58q, K58, Fq58_0, Fq58_1, Fq58_2, Fq58_3, Fq58_4, Fq58_5, Fq58_6⟩ := hQ58
    have N58 := Fr.app N57 N58q
    have k58 : Go p.tables e below (T57.setTop (mkF m 81 #[.val (.int p0), .val (.int p1), .val (.int p2), .val (.int p3), .val (.int p4), .val (.int p5), .val (.int (Int32.ofNat B)), .val (.int (Int32.ofNat S)), .val (.int (2 : Int32)), .val (.long y4), .second, .val (.long y5), .second, .val (.long y6), .second, .val (.ref b51), .unset, .unset, .unset] [(.ref b55), (.long (1 : Int64)), (.ref b51)])) (T58.setTop (mkF m 84 #[.val (.int p0), .val (.int p1), .val (.int p2), .val (.int p3), .val (.int p4), .val (.int p5), .val (.int (Int32.ofNat B)), .val (.int (Int32.ofNat S)), .val (.int (2 : Int32)), .val (.long y4), .second, .val (.long y5), .second, .val (.long y6), .second, .val (.ref b51), .unset, .unset, .unset] [])) := fun _ ht => st58.trans ht
    have Kp58 : Keep h0 T58.heap [] := Kp57.trans K58 (allS (Or.inr sz_xa_53) (allS (Or.inr sz_xc_53) all0))
    have Z58 : n0 ≤ T58.heap.size := Nat.le_trans Z57 K58.1
    have Fq53_0_c_58 := Fq53_0_c_57.keep K58
    have Fq53_1_c_58 := Fq53_1_c_57.keep K58 (ninS ne_b51_xa_53 (ninS ne_b51_xc_53 nin0))
    have Fq53_2_c_58 := Fq53_2_c_57.keep K58 (ninS ne_b51_xa_53 (ninS ne_b51_xc_53 nin0))
    have Fq53_3_c_58 := Fq53_3_c_57.keep K58 (ninS ne_b51_xa_53 (ninS ne_b51_xc_53 nin0))
    have Fq53_4_c_58 := Fq53_4_c_57.keep K58 (ninS ne_b51_xa_53 (ninS ne_b51_xc_53 nin0))
    have V57_b55_c_58 := V57_b55.keep K58 (ninS (Ne.symm ne_xa_53_b55) (ninS (Ne.symm ne_xc_53_b55) nin0))
    have k59 : Go p.tables e below (T58.setTop (mkF m 84 #[.val (.int p0), .val (.int p1), .val (.int p2), .val (.int p3), .val (.int p4), .val (.int p5), .val (.int (Int32.ofNat B)), .val (.int (Int32.ofNat S)), .val (.int (2 : Int32)), .val (.long y4), .second, .val (.long y5), .second, .val (.long y6), .second, .val (.ref b51), .unset, .unset, .unset] [])) (T58.setTop (mkF m 96 #[.val (.int p0), .val (.int p1), .val (.int p2), .val (.int p3), .val (.int p4), .val (.int p5), .val (.int (Int32.ofNat B)), .val (.int (Int32.ofNat S)), .val (.int (2 : Int32)), .val (.long y4), .second, .val (.long y5), .second, .val (.long y6), .second, .val (.ref b51), .unset, .unset, .unset] [(.int (1 : Int32)), (.long (2 : Int64)), (.ref b51)])) := by
      intro t ht
      refine XS.iload X58.here hx rfl (hb hby at_84) rfl ?_
      show Steps p.tables e below (T58.setTop (mkF m 86 #[.val (.int p0), .val (.int p1), .val (.int p2), .val (.int p3), .val (.int p4), .val (.int p5), .val (.int (Int32.ofNat B)), .val (.int (Int32.ofNat S)), .val (.int (2 : Int32)), .val (.long y4), .second, .val (.long y5), .second, .val (.long y6), .second, .val (.ref b51), .unset, .unset, .unset] [(.int (2 : Int32))])) _
      refine XS.iconst X58.here hx rfl (hb hby at_86) ?_
      show Steps p.tables e below (T58.setTop (mkF m 87 #[.val (.int p0), .val (.int p1), .val (.int p2), .val (.int p3), .val (.int p4), .val (.int p5), .val (.int (Int32.ofNat B)), .val (.int (Int32.ofNat S)), .val (.int (2 : Int32)), .val (.long y4), .second, .val (.long y5), .second, .val (.long y6), .second, .val (.ref b51), .unset, .unset, .unset] [(.int (2 : Int32)), (.int (2 : Int32))])) _
      refine XS.icmpNo X58.here hx rfl (hb hby at_87) rfl (flt (by decide : ¬ ((2 : Int32) < (2 : Int32)))).1 ?_
      show Steps p.tables e below (T58.setTop (mkF m 90 #[.val (.int p0), .val (.int p1), .val (.int p2), .val (.int p3), .val (.int p4), .val (.int p5), .val (.int (Int32.ofNat B)), .val (.int (Int32.ofNat S)), .val (.int (2 : Int32)), .val (.long y4), .second, .val (.long y5), .second, .val (.long y6), .second, .val (.ref b51), .unset, .unset, .unset] [])) _
      refine XS.aload X58.here hx rfl (hb hby at_90) rfl rfl ?_
      show Steps p.tables e below (T58.setTop (mkF m 92 #[.val (.int p0), .val (.int p1), .val (.int p2), .val (.int p3), .val (.int p4), .val (.int p5), .val (.int (Int32.ofNat B)), .val (.int (Int32.ofNat S)), .val (.int (2 : Int32)), .val (.long y4), .second, .val (.long y5), .second, .val (.long y6), .second, .val (.ref b51), .unset, .unset, .unset] [(.ref b51)])) _
      refine X58.ldc2Long hx hown (mvT hZ (hw _ (List.mem_of_getElem? (i := 34) rfl))) (g := (mkF m 92 #[.val (.int p0), .val (.int p1), .val (.int p2), .val (.int p3), .val (.int p4), .val (.int p5), .val (.int (Int32.ofNat B)), .val (.int (Int32.ofNat S)), .val (.int (2 : Int32)), .val (.long y4), .second, .val (.long y5), .second, .val (.long y6), .second, .val (.ref b51), .unset, .unset, .unset] [(.ref b51)])) rfl (hb hby at_92) _ ?_
      show Steps p.tables e below (T58.setTop (mkF m 95 #[.val (.int p0), .val (.int p1), .val (.int p2), .val (.int p3), .val (.int p4), .val (.int p5), .val (.int (Int32.ofNat B)), .val (.int (Int32.ofNat S)), .val (.int (2 : Int32)), .val (.long y4), .second, .val (.long y5), .second, .val (.long y6), .second, .val (.ref b51), .unset, .unset, .unset] [(.long (2 : Int64)), (.ref b51)])) _
      refine XS.iconst X58.here hx rfl (hb hby at_95) ?_
      exact ht
    obtain ⟨T60, h60, kc60, X60, e60, E60, A60, st60⟩ := newP X58 hx hZ (hw _ (List.mem_of_getElem? (i := 15) rfl)) rfl (g := (mkF m 96 #[.val (.int p0), .val (.int p1), .val (.int p2), .val (.int p3), .val (.int p4), .val (.int p5), .val (.int (Int32.ofNat B)), .val (.int (Int32.ofNat S)), .val (.int (2 : Int32)), .val (.long y4), .second, .val (.long y5), .second, .val (.long y6), .second, .val (.ref b51), .unset, .unset, .unset] [(.int (1 : Int32)), (.long (2 : Int64)), (.ref b51)])) rfl (hb hby at_96) rfl (by decide) (cap := 1) (by decide) (by decide) (by decide) (by decide)
    obtain ⟨b60, g60⟩ : ∃ z, z = T58.heap.size := ⟨_, rfl⟩
    rw [← g60] at A60 st60
    have g_b60 : n0 ≤ b60 := Nat.le_trans Z58 (Nat.le_of_eq g60.symm)
    have sz_b60 : h0.size ≤ b60 := Nat.le_trans Kp58.1 (Nat.le_of_eq g60.symm)
    have ne_b51_b60 : b51 ≠ b60 := Nat.ne_of_lt (Nat.lt_of_lt_of_le Fq58_0.lt (Nat.le_of_eq g60.symm))
    have ne_b55_b60 : b55 ≠ b60 := Nat.ne_of_lt (Nat.lt_of_lt_of_le V57_b55_c_58.lt (Nat.le_of_eq g60.symm))
    have ne_xa_53_b60 : xa_53 ≠ b60 := Nat.ne_of_lt (Nat.lt_of_lt_of_le Fq58_5.lt (Nat.le_of_eq g60.symm))
    have ne_xc_53_b60 : xc_53 ≠ b60 := Nat.ne_of_lt (Nat.lt_of_lt_of_le Fq58_6.lt (Nat.le_of_eq g60.symm))
    have Kp60 : Keep h0 h60 [] := Kp58.ext E60
    have Z60 : n0 ≤ h60.size := Nat.le_trans Z58 E60.1
    have Fq58_0_c_60 := Fq58_0.ext E60
    have Fq58_1_c_60 := Fq58_1.ext E60
    have Fq58_2_c_60 := Fq58_2.ext E60
    have Fq58_3_c_60 := Fq58_3.ext E60
    have Fq58_4_c_60 := Fq58_4.ext E60
    have V57_b55_c_60 := V57_b55_c_58.ext E60
    have Fq58_5_c_60 := Fq58_5.ext E60
    have Fq58_6_c_60 := Fq58_6.ext E60
    have V_b60 : Arv Z h60 b60 kc60 .long (1 : Int32) [(.long (0 : Int64))] (.long (0 : Int64)) := (Arv.new A60 (by decide)).pad (pad_rep [] (.long (0 : Int64)) 1)
    have k60 : Go p.tables e below (T58.setTop (mkF m 96 #[.val (.int p0), .val (.int p1), .val (.int p2), .val (.int p3), .val (.int p4), .val (.int p5), .val (.int (Int32.ofNat B)), .val (.int (Int32.ofNat S)), .val (.int (2 : Int32)), .val (.long y4), .second, .val (.long y5), .second, .val (.long y6), .second, .val (.ref b51), .unset, .unset, .unset] [(.int (1 : Int32)), (.long (2 : Int64)), (.ref b51)])) (T60.setTop (mkF m 98 #[.val (.int p0), .val (.int p1), .val (.int p2), .val (.int p3), .val (.int p4), .val (.int p5), .val (.int (Int32.ofNat B)), .val (.int (Int32.ofNat S)), .val (.int (2 : Int32)), .val (.long y4), .second, .val (.long y5), .second, .val (.long y6), .second, .val (.ref b51), .unset, .unset, .unset] [(.ref b60), (.long (2 : Int64)), (.ref b51)])) := st60
    have k61 : Go p.tables e below (T60.setTop (mkF m 98 #[.val (.int p0), .val (.int p1), .val (.int p2), .val (.int p3), .val (.int p4), .val (.int p5), .val (.int (Int32.ofNat B)), .val (.int (Int32.ofNat S)), .val (.int (2 : Int32)), .val (.long y4), .second, .val (.long y5), .second, .val (.long y6), .second, .val (.ref b51), .unset, .unset, .unset] [(.ref b60), (.long (2 : Int64)), (.ref b51)])) (T60.setTop (mkF m 102 #[.val (.int p0), .val (.int p1), .val (.int p2), .val (.int p3), .val (.int p4), .val (.int p5), .val (.int (Int32.ofNat B)), .val (.int (Int32.ofNat S)), .val (.int (2 : Int32)), .val (.long y4), .second, .val (.long y5), .second, .val (.long y6), .second, .val (.ref b51), .unset, .unset, .unset] [(.long y5), (.int (0 : Int32)), (.ref b60), (.ref b60), (.long (2 : Int64)), (.ref b51)])) := by
      intro t ht
      refine XS.dup X60.here hx rfl (hb hby at_98) rfl rfl ?_
      show Steps p.tables e below (T60.setTop (mkF m 99 #[.val (.int p0), .val (.int p1), .val (.int p2), .val (.int p3), .val (.int p4), .val (.int p5), .val (.int (Int32.ofNat B)), .val (.int (Int32.ofNat S)), .val (.int (2 : Int32)), .val (.long y4), .second, .val (.long y5), .second, .val (.long y6), .second, .val (.ref b51), .unset, .unset, .unset] [(.ref b60), (.ref b60), (.long (2 : Int64)), (.ref b51)])) _
      refine XS.iconst X60.here hx rfl (hb hby at_99) ?_
      show Steps p.tables e below (T60.setTop (mkF m 100 #[.val (.int p0), .val (.int p1), .val (.int p2), .val (.int p3), .val (.int p4), .val (.int p5), .val (.int (Int32.ofNat B)), .val (.int (Int32.ofNat S)), .val (.int (2 : Int32)), .val (.long y4), .second, .val (.long y5), .second, .val (.long y6), .second, .val (.ref b51), .unset, .unset, .unset] [(.int (0 : Int32)), (.ref b60), (.ref b60), (.long (2 : Int64)), (.ref b51)])) _
      refine XS.lload X60.here hx rfl (hb hby at_100) rfl ?_
      exact ht
    obtain ⟨cl62, Ar62, q62, S62, M62, H62, G62⟩ := id V_b60
    have hin62 : ¬ ((0 : Int32) < 0 ∨ cl62.slots.size ≤ ((0 : Int32)).toNatClampNeg) := inb_of S62 ⟨by decide, by decide⟩
    obtain ⟨T62, h62, X62, e62, W62, st62⟩ := stJ X60 hx hZ e60 Ar62 (j := (0 : Int32)) hin62 (g := (mkF m 102 #[.val (.int p0), .val (.int p1), .val (.int p2), .val (.int p3), .val (.int p4), .val (.int p5), .val (.int (Int32.ofNat B)), .val (.int (Int32.ofNat S)), .val (.int (2 : Int32)), .val (.long y4), .second, .val (.long y5), .second, .val (.long y6), .second, .val (.ref b51), .unset, .unset, .unset] [(.long y5), (.int (0 : Int32)), (.ref b60), (.ref b60), (.long (2 : Int64)), (.ref b51)])) rfl rfl (hb hby at_102)
    have V62_b60 : Arv Z h62 b60 kc60 .long (1 : Int32) [(.long y5)] (.long (0 : Int64)) := Arv.set Ar62 q62 S62 M62 H62 G62 rfl W62 0 rfl (Nat.le_of_ble_eq_true rfl)
    have Kp62 : Keep h0 h62 [] := Kp60.wr W62 (Or.inr sz_b60)
    have Z62 : n0 ≤ h62.size := Nat.le_trans Z60 (Keep.of_wr W62).1
    have Fq58_0_c_62 := Fq58_0_c_60.wr W62
    have Fq58_1_c_62 := Fq58_1_c_60.other W62 (Or.inl ne_b51_b60)
    have Fq58_2_c_62 := Fq58_2_c_60.other W62 (Or.inl ne_b51_b60)
    have Fq58_3_c_62 := Fq58_3_c_60.other W62 (Or.inl ne_b51_b60)
    have Fq58_4_c_62 := Fq58_4_c_60.other W62 (Or.inl ne_b51_b60)
    have V57_b55_c_62 := V57_b55_c_60.other W62 ne_b55_b60
    have Fq58_5_c_62 := Fq58_5_c_60.other W62 ne_xa_53_b60
    have Fq58_6_c_62 := Fq58_6_c_60.other W62 ne_xc_53_b60
    have k62 : Go p.tables e below (T60.setTop (mkF m 102 #[.val (.int p0), .val (.int p1), .val (.int p2), .val (.int p3), .val (.int p4), .val (.int p5), .val (.int (Int32.ofNat B)), .val (.int (Int32.ofNat S)), .val (.int (2 : Int32)), .val (.long y4), .second, .val (.long y5), .second, .val (.long y6), .second, .val (.ref b51), .unset, .unset, .unset] [(.long y5), (.int (0 : Int32)), (.ref b60), (.ref b60), (.long (2 : Int64)), (.ref b51)])) (T62.setTop (mkF m 103 #[.val (.int p0), .val (.int p1), .val (.int p2), .val (.int p3), .val (.int p4), .val (.int p5), .val (.int (Int32.ofNat B)), .val (.int (Int32.ofNat S)), .val (.int (2 : Int32)), .val (.long y4), .second, .val (.long y5), .second, .val (.long y6), .second, .val (.ref b51), .unset, .unset, .unset] [(.ref b60), (.long (2 : Int64)), (.ref b51)])) := st62
    have N62 := Fr.snoc X62 N58 g_b60
    obtain ⟨cq63, kq63, q63a, q63b, q63c⟩ := isOf hZ e62 Fq58_0_c_62
    obtain ⟨_, _, ⟨T63, L63, kq63, n63⟩, -, X63, ⟨Lc63, hQ63, l63, y63, z63⟩, st63⟩ := X62.virtualBack hx (y := (⟨"com/example/auspex/auspex/manager/ConflictTable", "record", "(J[J)V"⟩ : MethodName)) (z := (⟨"com/example/auspex/auspex/manager/ConflictTable", "record", "(J[J)V"⟩ : MethodName)) hown (mvT hZ (hw _ (List.mem_of_getElem? (i := 20) rfl))) (mvT hZ (hw _ (List.mem_of_getElem? (i := 21) rfl))) (notFace_of_selects (args := #[]) (mvT hZ (hw _ (List.mem_of_getElem? (i := 23) rfl)))) (mvT hZ (hw _ (List.mem_of_getElem? (i := 23) rfl))) (mvT hZ (hw _ (List.mem_of_getElem? (i := 22) rfl))) (by decide) (backOf (W := 0) (rm_record l Z a0 hw [] b51 (2 : Int64) b60 B S xa_53 xc_53 xk_53 xl_53 kc60 (own_Z.set ((own_n y4 B S) + (f_rec00 (own_n y4 B S) S y4 own_Z own_Z)) y4) (own_Z.set ((own_n y4 B S) + (f_rec00 (own_n y4 B S) S y4 own_Z own_Z)) (1 : Int64)) y5 h62 n0 Z62 Fq58_1_c_62 Fq58_2_c_62 Fq58_3_c_62 Fq58_4_c_62 Fq58_0_c_62 Fq58_5_c_62 Fq58_6_c_62 V62_b60 g_xa_53 g_xc_53 (hB : 1 ≤ B ∧ B ≤ 4) (hS : 1 ≤ S ∧ S ≤ 3) (hH1 : own_H y5) (by simp [own_Z] : (own_Z.set ((own_n y4 B S) + (f_rec00 (own_n y4 B S) S y4 own_Z own_Z)) y4).length = 12) (by simp [own_Z] : (own_Z.set ((own_n y4 B S) + (f_rec00 (own_n y4 B S) S y4 own_Z own_Z)) (1 : Int64)).length = 12) (Pq53_2 : xa_53 ≠ xc_53) (ne_b51_xa_53 : b51 ≠ xa_53) (ne_b51_xc_53 : b51 ≠ xc_53)) hZ (hw _ (List.mem_of_getElem? (i := 24) rfl)) (hw _ (List.mem_of_getElem? (i := 3) rfl)) (by decide) (by decide)) q63a q63c (g := (mkF m 103 #[.val (.int p0), .val (.int p1), .val (.int p2), .val (.int p3), .val (.int p4), .val (.int p5), .val (.int (Int32.ofNat B)), .val (.int (Int32.ofNat S)), .val (.int (2 : Int32)), .val (.long y4), .second, .val (.long y5), .second, .val (.long y6), .second, .val (.ref b51), .unset, .unset, .unset] [(.ref b60), (.long (2 : Int64)), (.ref b51)])) rfl (by rw [hml]; rfl) (Steps.refl _) (argsL := [(.long (2 : Int64)), (.ref b60)]) (rest := []) (lenOf pd_5 rfl) rfl (by show 2 * 0 + _ ≤ _; exact Nat.le_of_eq rfl) (hb hby at_103) (fun _ _ => ⟨rfl, e62, (by decide : 5 + 0 ≤ _), (by decide : 30 + 0 ≤ _)⟩)
    dsimp only [Pt.U, Pt.locs, Pt.cells, Pt.slots] at X63 l63 y63 z63 st63 hQ63
    subst l63 y63 z63
    obtain ⟨rfl, N63q, K63, Fq63_0, Fq63_1, Fq63_2, Fq63_3, Fq63_4, Fq63_5, Fq63_6⟩ := hQ63
    have N63 := Fr.app N62 N63q
    have k63 : Go p.tables e below (T62.setTop (mkF m 103 #[.val (.int p0), .val (.int p1), .val (.int p2), .val (.int p3), .val (.int p4), .val (.int p5), .val (.int (Int32.ofNat B)), .val (.int (Int32.ofNat S)), .val (.int (2 : Int32)), .val (.long y4), .second, .val (.long y5), .second, .val (.long y6), .second, .val (.ref b51), .unset, .unset, .unset] [(.ref b60), (.long (2 : Int64)), (.ref b51)])) (T63.setTop (mkF m 106 #[.val (.int p0), .val (.int p1), .val (.int p2), .val (.int p3), .val (.int p4), .val (.int p5), .val (.int (Int32.ofNat B)), .val (.int (Int32.ofNat S)), .val (.int (2 : Int32)), .val (.long y4), .second, .val (.long y5), .second, .val (.long y6), .second, .val (.ref b51), .unset, .unset, .unset] [])) := fun _ ht => st63.trans ht
    have Kp63 : Keep h0 T63.heap [] := Kp62.trans K63 (allS (Or.inr sz_xa_53) (allS (Or.inr sz_xc_53) all0))
    have Z63 : n0 ≤ T63.heap.size := Nat.le_trans Z62 K63.1
    have Fq58_0_c_63 := Fq58_0_c_62.keep K63
    have Fq58_1_c_63 := Fq58_1_c_62.keep K63 (ninS ne_b51_xa_53 (ninS ne_b51_xc_53 nin0))
    have Fq58_2_c_63 := Fq58_2_c_62.keep K63 (ninS ne_b51_xa_53 (ninS ne_b51_xc_53 nin0))
    have Fq58_3_c_63 := Fq58_3_c_62.keep K63 (ninS ne_b51_xa_53 (ninS ne_b51_xc_53 nin0))
    have Fq58_4_c_63 := Fq58_4_c_62.keep K63 (ninS ne_b51_xa_53 (ninS ne_b51_xc_53 nin0))
    have V57_b55_c_63 := V57_b55_c_62.keep K63 (ninS (Ne.symm ne_xa_53_b55) (ninS (Ne.symm ne_xc_53_b55) nin0))
    have V62_b60_c_63 := V62_b60.keep K63 (ninS (Ne.symm ne_xa_53_b60) (ninS (Ne.symm ne_xc_53_b60) nin0))
    have k64 : Go p.tables e below (T63.setTop (mkF m 106 #[.val (.int p0), .val (.int p1), .val (.int p2), .val (.int p3), .val (.int p4), .val (.int p5), .val (.int (Int32.ofNat B)), .val (.int (Int32.ofNat S)), .val (.int (2 : Int32)), .val (.long y4), .second, .val (.long y5), .second, .val (.long y6), .second, .val (.ref b51), .unset, .unset, .unset] [])) (T63.setTop (mkF m 141 #[.val (.int p0), .val (.int p1), .val (.int p2), .val (.int p3), .val (.int p4), .val (.int p5), .val (.int (Int32.ofNat B)), .val (.int (Int32.ofNat S)), .val (.int (2 : Int32)), .val (.long y4), .second, .val (.long y5), .second, .val (.long y6), .second, .val (.ref b51), .unset, .unset, .unset] [(.long y6), (.long y5), (.long y4), (.int (2 : Int32)), (.int (Int32.ofNat S)), (.int (Int32.ofNat B)), (.int (0 : Int32))])) := by
      intro t ht
      refine XS.iload X63.here hx rfl (hb hby at_106) rfl ?_
      show Steps p.tables e below (T63.setTop (mkF m 108 #[.val (.int p0), .val (.int p1), .val (.int p2), .val (.int p3), .val (.int p4), .val (.int p5), .val (.int (Int32.ofNat B)), .val (.int (Int32.ofNat S)), .val (.int (2 : Int32)), .val (.long y4), .second, .val (.long y5), .second, .val (.long y6), .second, .val (.ref b51), .unset, .unset, .unset] [(.int (2 : Int32))])) _
      refine XS.iconst X63.here hx rfl (hb hby at_108) ?_
      show Steps p.tables e below (T63.setTop (mkF m 109 #[.val (.int p0), .val (.int p1), .val (.int p2), .val (.int p3), .val (.int p4), .val (.int p5), .val (.int (Int32.ofNat B)), .val (.int (Int32.ofNat S)), .val (.int (2 : Int32)), .val (.long y4), .second, .val (.long y5), .second, .val (.long y6), .second, .val (.ref b51), .unset, .unset, .unset] [(.int (3 : Int32)), (.int (2 : Int32))])) _
      refine XS.icmpYes X63.here hx rfl (pc0 := 109) (pc' := 128) rfl (hb hby at_109) rfl (tlt (by decide : (2 : Int32) < (3 : Int32))).1 (by decide) (by decide) ?_
      show Steps p.tables e below (T63.setTop (mkF m 128 #[.val (.int p0), .val (.int p1), .val (.int p2), .val (.int p3), .val (.int p4), .val (.int p5), .val (.int (Int32.ofNat B)), .val (.int (Int32.ofNat S)), .val (.int (2 : Int32)), .val (.long y4), .second, .val (.long y5), .second, .val (.long y6), .second, .val (.ref b51), .unset, .unset, .unset] [])) _
      refine XS.iconst X63.here hx rfl (hb hby at_128) ?_
      show Steps p.tables e below (T63.setTop (mkF m 129 #[.val (.int p0), .val (.int p1), .val (.int p2), .val (.int p3), .val (.int p4), .val (.int p5), .val (.int (Int32.ofNat B)), .val (.int (Int32.ofNat S)), .val (.int (2 : Int32)), .val (.long y4), .second, .val (.long y5), .second, .val (.long y6), .second, .val (.ref b51), .unset, .unset, .unset] [(.int (0 : Int32))])) _
      refine XS.iload X63.here hx rfl (hb hby at_129) rfl ?_
      show Steps p.tables e below (T63.setTop (mkF m 131 #[.val (.int p0), .val (.int p1), .val (.int p2), .val (.int p3), .val (.int p4), .val (.int p5), .val (.int (Int32.ofNat B)), .val (.int (Int32.ofNat S)), .val (.int (2 : Int32)), .val (.long y4), .second, .val (.long y5), .second, .val (.long y6), .second, .val (.ref b51), .unset, .unset, .unset] [(.int (Int32.ofNat B)), (.int (0 : Int32))])) _
      refine XS.iload X63.here hx rfl (hb hby at_131) rfl ?_
      show Steps p.tables e below (T63.setTop (mkF m 133 #[.val (.int p0), .val (.int p1), .val (.int p2), .val (.int p3), .val (.int p4), .val (.int p5), .val (.int (Int32.ofNat B)), .val (.int (Int32.ofNat S)), .val (.int (2 : Int32)), .val (.long y4), .second, .val (.long y5), .second, .val (.long y6), .second, .val (.ref b51), .unset, .unset, .unset] [(.int (Int32.ofNat S)), (.int (Int32.ofNat B)), (.int (0 : Int32))])) _
      refine XS.iload X63.here hx rfl (hb hby at_133) rfl ?_
      show Steps p.tables e below (T63.setTop (mkF m 135 #[.val (.int p0), .val (.int p1), .val (.int p2), .val (.int p3), .val (.int p4), .val (.int p5), .val (.int (Int32.ofNat B)), .val (.int (Int32.ofNat S)), .val (.int (2 : Int32)), .val (.long y4), .second, .val (.long y5), .second, .val (.long y6), .second, .val (.ref b51), .unset, .unset, .unset] [(.int (2 : Int32)), (.int (Int32.ofNat S)), (.int (Int32.ofNat B)), (.int (0 : Int32))])) _
      refine XS.lload X63.here hx rfl (hb hby at_135) rfl ?_
      show Steps p.tables e below (T63.setTop (mkF m 137 #[.val (.int p0), .val (.int p1), .val (.int p2), .val (.int p3), .val (.int p4), .val (.int p5), .val (.int (Int32.ofNat B)), .val (.int (Int32.ofNat S)), .val (.int (2 : Int32)), .val (.long y4), .second, .val (.long y5), .second, .val (.long y6), .second, .val (.ref b51), .unset, .unset, .unset] [(.long y4), (.int (2 : Int32)), (.int (Int32.ofNat S)), (.int (Int32.ofNat B)), (.int (0 : Int32))])) _
      refine XS.lload X63.here hx rfl (hb hby at_137) rfl ?_
      show Steps p.tables e below (T63.setTop (mkF m 139 #[.val (.int p0), .val (.int p1), .val (.int p2), .val (.int p3), .val (.int p4), .val (.int p5), .val (.int (Int32.ofNat B)), .val (.int (Int32.ofNat S)), .val (.int (2 : Int32)), .val (.long y4), .second, .val (.long y5), .second, .val (.long y6), .second, .val (.ref b51), .unset, .unset, .unset] [(.long y5), (.long y4), (.int (2 : Int32)), (.int (Int32.ofNat S)), (.int (Int32.ofNat B)), (.int (0 : Int32))])) _
      refine XS.lload X63.here hx rfl (hb hby at_139) rfl ?_
      exact ht
    obtain ⟨_, _, ⟨T65, L65, kq65, n65⟩, -, X65, ⟨Lc65, hQ65, l65, y65, z65⟩, st65⟩ := Jvm.LawKit.callS X63 hx (y := (⟨"com/example/auspex/auspex/manager/ConflictTableFullBucketSharePinLaw", "fullIn", "(IIIIJJJ)I"⟩ : MethodName)) hown (mvT hZ (hw _ (List.mem_of_getElem? (i := 35) rfl))) (mvT hZ (hw _ (List.mem_of_getElem? (i := 36) rfl))) (mvT hZ (hw _ (List.mem_of_getElem? (i := 37) rfl))) (mvT hZ (hw _ (List.mem_of_getElem? (i := 38) rfl))) (by decide) (backOf (W := 0) (rm_full l Z a0 hw [] (0 : Int32) B S (2 : Int32) y4 y5 y6 T63.heap n0 Z63 (hB : 1 ≤ B ∧ B ≤ 4) (hS : 1 ≤ S ∧ S ≤ 3)) hZ (hw _ (List.mem_of_getElem? (i := 38) rfl)) (hw _ (List.mem_of_getElem? (i := 37) rfl)) (by decide) (by decide)) (g := (mkF m 141 #[.val (.int p0), .val (.int p1), .val (.int p2), .val (.int p3), .val (.int p4), .val (.int p5), .val (.int (Int32.ofNat B)), .val (.int (Int32.ofNat S)), .val (.int (2 : Int32)), .val (.long y4), .second, .val (.long y5), .second, .val (.long y6), .second, .val (.ref b51), .unset, .unset, .unset] [(.long y6), (.long y5), (.long y4), (.int (2 : Int32)), (.int (Int32.ofNat S)), (.int (Int32.ofNat B)), (.int (0 : Int32))])) rfl (by rw [hml]; rfl) (argsL := [(.int (0 : Int32)), (.int (Int32.ofNat B)), (.int (Int32.ofNat S)), (.int (2 : Int32)), (.long y4), (.long y5), (.long y6)]) (rest := []) (lenOf pd_3 rfl) rfl (by show 2 * 0 + _ ≤ _; exact Nat.le_of_eq rfl) (hb hby at_141) (fun _ _ => ⟨rfl, rfl, (by decide : 5 + 0 ≤ _), (by decide : 30 + 0 ≤ _)⟩)
    dsimp only [Pt.U, Pt.locs, Pt.cells, Pt.slots] at X65 l65 y65 z65 st65 hQ65
    subst l65 y65 z65
    obtain ⟨rfl, N65q, eq65⟩ := hQ65
    have N65 := Fr.app N63 N65q
    have k65 : Go p.tables e below (T63.setTop (mkF m 141 #[.val (.int p0), .val (.int p1), .val (.int p2), .val (.int p3), .val (.int p4), .val (.int p5), .val (.int (Int32.ofNat B)), .val (.int (Int32.ofNat S)), .val (.int (2 : Int32)), .val (.long y4), .second, .val (.long y5), .second, .val (.long y6), .second, .val (.ref b51), .unset, .unset, .unset] [(.long y6), (.long y5), (.long y4), (.int (2 : Int32)), (.int (Int32.ofNat S)), (.int (Int32.ofNat B)), (.int (0 : Int32))])) (T65.setTop (mkF m 144 #[.val (.int p0), .val (.int p1), .val (.int p2), .val (.int p3), .val (.int p4), .val (.int p5), .val (.int (Int32.ofNat B)), .val (.int (Int32.ofNat S)), .val (.int (2 : Int32)), .val (.long y4), .second, .val (.long y5), .second, .val (.long y6), .second, .val (.ref b51), .unset, .unset, .unset] [(.int (f_full (0 : Int32) B S (2 : Int32) y4 y5 y6))])) := st65
    have k66 : Go p.tables e below (T65.setTop (mkF m 144 #[.val (.int p0), .val (.int p1), .val (.int p2), .val (.int p3), .val (.int p4), .val (.int p5), .val (.int (Int32.ofNat B)), .val (.int (Int32.ofNat S)), .val (.int (2 : Int32)), .val (.long y4), .second, .val (.long y5), .second, .val (.long y6), .second, .val (.ref b51), .unset, .unset, .unset] [(.int (f_full (0 : Int32) B S (2 : Int32) y4 y5 y6))])) (T65.setTop (mkF m 157 #[.val (.int p0), .val (.int p1), .val (.int p2), .val (.int p3), .val (.int p4), .val (.int p5), .val (.int (Int32.ofNat B)), .val (.int (Int32.ofNat S)), .val (.int (2 : Int32)), .val (.long y4), .second, .val (.long y5), .second, .val (.long y6), .second, .val (.ref b51), .unset, .unset, .unset] [(.long y6), (.long y5), (.long y4), (.int (2 : Int32)), (.int (Int32.ofNat S)), (.int (Int32.ofNat B)), (.int (1 : Int32)), (.int (f_full (0 : Int32) B S (2 : Int32) y4 y5 y6))])) := by
      intro t ht
      refine XS.iconst X65.here hx rfl (hb hby at_144) ?_
      show Steps p.tables e below (T65.setTop (mkF m 145 #[.val (.int p0), .val (.int p1), .val (.int p2), .val (.int p3), .val (.int p4), .val (.int p5), .val (.int (Int32.ofNat B)), .val (.int (Int32.ofNat S)), .val (.int (2 : Int32)), .val (.long y4), .second, .val (.long y5), .second, .val (.long y6), .second, .val (.ref b51), .unset, .unset, .unset] [(.int (1 : Int32)), (.int (f_full (0 : Int32) B S (2 : Int32) y4 y5 y6))])) _
      refine XS.iload X65.here hx rfl (hb hby at_145) rfl ?_
      show Steps p.tables e below (T65.setTop (mkF m 147 #[.val (.int p0), .val (.int p1), .val (.int p2), .val (.int p3), .val (.int p4), .val (.int p5), .val (.int (Int32.ofNat B)), .val (.int (Int32.ofNat S)), .val (.int (2 : Int32)), .val (.long y4), .second, .val (.long y5), .second, .val (.long y6), .second, .val (.ref b51), .unset, .unset, .unset] [(.int (Int32.ofNat B)), (.int (1 : Int32)), (.int (f_full (0 : Int32) B S (2 : Int32) y4 y5 y6))])) _
      refine XS.iload X65.here hx rfl (hb hby at_147) rfl ?_
      show Steps p.tables e below (T65.setTop (mkF m 149 #[.val (.int p0), .val (.int p1), .val (.int p2), .val (.int p3), .val (.int p4), .val (.int p5), .val (.int (Int32.ofNat B)), .val (.int (Int32.ofNat S)), .val (.int (2 : Int32)), .val (.long y4), .second, .val (.long y5), .second, .val (.long y6), .second, .val (.ref b51), .unset, .unset, .unset] [(.int (Int32.ofNat S)), (.int (Int32.ofNat B)), (.int (1 : Int32)), (.int (f_full (0 : Int32) B S (2 : Int32) y4 y5 y6))])) _
      refine XS.iload X65.here hx rfl (hb hby at_149) rfl ?_
      show Steps p.tables e below (T65.setTop (mkF m 151 #[.val (.int p0), .val (.int p1), .val (.int p2), .val (.int p3), .val (.int p4), .val (.int p5), .val (.int (Int32.ofNat B)), .val (.int (Int32.ofNat S)), .val (.int (2 : Int32)), .val (.long y4), .second, .val (.long y5), .second, .val (.long y6), .second, .val (.ref b51), .unset, .unset, .unset] [(.int (2 : Int32)), (.int (Int32.ofNat S)), (.int (Int32.ofNat B)), (.int (1 : Int32)), (.int (f_full (0 : Int32) B S (2 : Int32) y4 y5 y6))])) _
      refine XS.lload X65.here hx rfl (hb hby at_151) rfl ?_
      show Steps p.tables e below (T65.setTop (mkF m 153 #[.val (.int p0), .val (.int p1), .val (.int p2), .val (.int p3), .val (.int p4), .val (.int p5), .val (.int (Int32.ofNat B)), .val (.int (Int32.ofNat S)), .val (.int (2 : Int32)), .val (.long y4), .second, .val (.long y5), .second, .val (.long y6), .second, .val (.ref b51), .unset, .unset, .unset] [(.long y4), (.int (2 : Int32)), (.int (Int32.ofNat S)), (.int (Int32.ofNat B)), (.int (1 : Int32)), (.int (f_full (0 : Int32) B S (2 : Int32) y4 y5 y6))])) _
      refine XS.lload X65.here hx rfl (hb hby at_153) rfl ?_
      show Steps p.tables e below (T65.setTop (mkF m 155 #[.val (.int p0), .val (.int p1), .val (.int p2), .val (.int p3), .val (.int p4), .val (.int p5), .val (.int (Int32.ofNat B)), .val (.int (Int32.ofNat S)), .val (.int (2 : Int32)), .val (.long y4), .second, .val (.long y5), .second, .val (.long y6), .second, .val (.ref b51), .unset, .unset, .unset] [(.long y5), (.long y4), (.int (2 : Int32)), (.int (Int32.ofNat S)), (.int (Int32.ofNat B)), (.int (1 : Int32)), (.int (f_full (0 : Int32) B S (2 : Int32) y4 y5 y6))])) _
      refine XS.lload X65.here hx rfl (hb hby at_155) rfl ?_
      exact ht
    obtain ⟨_, _, ⟨T67, L67, kq67, n67⟩, -, X67, ⟨Lc67, hQ67, l67, y67, z67⟩, st67⟩ := Jvm.LawKit.callS X65 hx (y := (⟨"com/example/auspex/auspex/manager/ConflictTableFullBucketSharePinLaw", "fullIn", "(IIIIJJJ)I"⟩ : MethodName)) hown (mvT hZ (hw _ (List.mem_of_getElem? (i := 35) rfl))) (mvT hZ (hw _ (List.mem_of_getElem? (i := 36) rfl))) (mvT hZ (hw _ (List.mem_of_getElem? (i := 37) rfl))) (mvT hZ (hw _ (List.mem_of_getElem? (i := 38) rfl))) (by decide) (backOf (W := 1) (rm_full l Z a0 hw [] (1 : Int32) B S (2 : Int32) y4 y5 y6 T63.heap n0 Z63 (hB : 1 ≤ B ∧ B ≤ 4) (hS : 1 ≤ S ∧ S ≤ 3)) hZ (hw _ (List.mem_of_getElem? (i := 38) rfl)) (hw _ (List.mem_of_getElem? (i := 37) rfl)) (by decide) (by decide)) (g := (mkF m 157 #[.val (.int p0), .val (.int p1), .val (.int p2), .val (.int p3), .val (.int p4), .val (.int p5), .val (.int (Int32.ofNat B)), .val (.int (Int32.ofNat S)), .val (.int (2 : Int32)), .val (.long y4), .second, .val (.long y5), .second, .val (.long y6), .second, .val (.ref b51), .unset, .unset, .unset] [(.long y6), (.long y5), (.long y4), (.int (2 : Int32)), (.int (Int32.ofNat S)), (.int (Int32.ofNat B)), (.int (1 : Int32)), (.int (f_full (0 : Int32) B S (2 : Int32) y4 y5 y6))])) rfl (by rw [hml]; rfl) (argsL := [(.int (1 : Int32)), (.int (Int32.ofNat B)), (.int (Int32.ofNat S)), (.int (2 : Int32)), (.long y4), (.long y5), (.long y6)]) (rest := [(.int (f_full (0 : Int32) B S (2 : Int32) y4 y5 y6))]) (lenOf pd_3 rfl) rfl (by show 2 * 0 + _ ≤ _; exact Nat.le_of_eq rfl) (hb hby at_157) (fun _ _ => ⟨rfl, eq65, (by decide : 5 + 0 ≤ _), (by decide : 30 + 0 ≤ _)⟩)
    dsimp only [Pt.U, Pt.locs, Pt.cells, Pt.slots] at X67 l67 y67 z67 st67 hQ67
    subst l67 y67 z67
    obtain ⟨rfl, N67q, eq67⟩ := hQ67
    have N67 := Fr.app N65 N67q
    have k67 : Go p.tables e below (T65.setTop (mkF m 157 #[.val (.int p0), .val (.int p1), .val (.int p2), .val (.int p3), .val (.int p4), .val (.int p5), .val (.int (Int32.ofNat B)), .val (.int (Int32.ofNat S)), .val (.int (2 : Int32)), .val (.long y4), .second, .val (.long y5), .second, .val (.long y6), .second, .val (.ref b51), .unset, .unset, .unset] [(.long y6), (.long y5), (.long y4), (.int (2 : Int32)), (.int (Int32.ofNat S)), (.int (Int32.ofNat B)), (.int (1 : Int32)), (.int (f_full (0 : Int32) B S (2 : Int32) y4 y5 y6))])) (T67.setTop (mkF m 160 #[.val (.int p0), .val (.int p1), .val (.int p2), .val (.int p3), .val (.int p4), .val (.int p5), .val (.int (Int32.ofNat B)), .val (.int (Int32.ofNat S)), .val (.int (2 : Int32)), .val (.long y4), .second, .val (.long y5), .second, .val (.long y6), .second, .val (.ref b51), .unset, .unset, .unset] [(.int (f_full (1 : Int32) B S (2 : Int32) y4 y5 y6)), (.int (f_full (0 : Int32) B S (2 : Int32) y4 y5 y6))])) := st67
    have k68 : Go p.tables e below (T67.setTop (mkF m 160 #[.val (.int p0), .val (.int p1), .val (.int p2), .val (.int p3), .val (.int p4), .val (.int p5), .val (.int (Int32.ofNat B)), .val (.int (Int32.ofNat S)), .val (.int (2 : Int32)), .val (.long y4), .second, .val (.long y5), .second, .val (.long y6), .second, .val (.ref b51), .unset, .unset, .unset] [(.int (f_full (1 : Int32) B S (2 : Int32) y4 y5 y6)), (.int (f_full (0 : Int32) B S (2 : Int32) y4 y5 y6))])) (T67.setTop (mkF m 174 #[.val (.int p0), .val (.int p1), .val (.int p2), .val (.int p3), .val (.int p4), .val (.int p5), .val (.int (Int32.ofNat B)), .val (.int (Int32.ofNat S)), .val (.int (2 : Int32)), .val (.long y4), .second, .val (.long y5), .second, .val (.long y6), .second, .val (.ref b51), .unset, .unset, .unset] [(.long y6), (.long y5), (.long y4), (.int (2 : Int32)), (.int (Int32.ofNat S)), (.int (Int32.ofNat B)), (.int (2 : Int32)), (.int ((f_full (0 : Int32) B S (2 : Int32) y4 y5 y6) + (f_full (1 : Int32) B S (2 : Int32) y4 y5 y6)))])) := by
      intro t ht
      refine XS.iadd X67.here hx rfl (hb hby at_160) rfl ?_
      show Steps p.tables e below (T67.setTop (mkF m 161 #[.val (.int p0), .val (.int p1), .val (.int p2), .val (.int p3), .val (.int p4), .val (.int p5), .val (.int (Int32.ofNat B)), .val (.int (Int32.ofNat S)), .val (.int (2 : Int32)), .val (.long y4), .second, .val (.long y5), .second, .val (.long y6), .second, .val (.ref b51), .unset, .unset, .unset] [(.int ((f_full (0 : Int32) B S (2 : Int32) y4 y5 y6) + (f_full (1 : Int32) B S (2 : Int32) y4 y5 y6)))])) _
      refine XS.iconst X67.here hx rfl (hb hby at_161) ?_
      show Steps p.tables e below (T67.setTop (mkF m 162 #[.val (.int p0), .val (.int p1), .val (.int p2), .val (.int p3), .val (.int p4), .val (.int p5), .val (.int (Int32.ofNat B)), .val (.int (Int32.ofNat S)), .val (.int (2 : Int32)), .val (.long y4), .second, .val (.long y5), .second, .val (.long y6), .second, .val (.ref b51), .unset, .unset, .unset] [(.int (2 : Int32)), (.int ((f_full (0 : Int32) B S (2 : Int32) y4 y5 y6) + (f_full (1 : Int32) B S (2 : Int32) y4 y5 y6)))])) _
      refine XS.iload X67.here hx rfl (hb hby at_162) rfl ?_
      show Steps p.tables e below (T67.setTop (mkF m 164 #[.val (.int p0), .val (.int p1), .val (.int p2), .val (.int p3), .val (.int p4), .val (.int p5), .val (.int (Int32.ofNat B)), .val (.int (Int32.ofNat S)), .val (.int (2 : Int32)), .val (.long y4), .second, .val (.long y5), .second, .val (.long y6), .second, .val (.ref b51), .unset, .unset, .unset] [(.int (Int32.ofNat B)), (.int (2 : Int32)), (.int ((f_full (0 : Int32) B S (2 : Int32) y4 y5 y6) + (f_full (1 : Int32) B S (2 : Int32) y4 y5 y6)))])) _
      refine XS.iload X67.here hx rfl (hb hby at_164) rfl ?_
      show Steps p.tables e below (T67.setTop (mkF m 166 #[.val (.int p0), .val (.int p1), .val (.int p2), .val (.int p3), .val (.int p4), .val (.int p5), .val (.int (Int32.ofNat B)), .val (.int (Int32.ofNat S)), .val (.int (2 : Int32)), .val (.long y4), .second, .val (.long y5), .second, .val (.long y6), .second, .val (.ref b51), .unset, .unset, .unset] [(.int (Int32.ofNat S)), (.int (Int32.ofNat B)), (.int (2 : Int32)), (.int ((f_full (0 : Int32) B S (2 : Int32) y4 y5 y6) + (f_full (1 : Int32) B S (2 : Int32) y4 y5 y6)))])) _
      refine XS.iload X67.here hx rfl (hb hby at_166) rfl ?_
      show Steps p.tables e below (T67.setTop (mkF m 168 #[.val (.int p0), .val (.int p1), .val (.int p2), .val (.int p3), .val (.int p4), .val (.int p5), .val (.int (Int32.ofNat B)), .val (.int (Int32.ofNat S)), .val (.int (2 : Int32)), .val (.long y4), .second, .val (.long y5), .second, .val (.long y6), .second, .val (.ref b51), .unset, .unset, .unset] [(.int (2 : Int32)), (.int (Int32.ofNat S)), (.int (Int32.ofNat B)), (.int (2 : Int32)), (.int ((f_full (0 : Int32) B S (2 : Int32) y4 y5 y6) + (f_full (1 : Int32) B S (2 : Int32) y4 y5 y6)))])) _
      refine XS.lload X67.here hx rfl (hb hby at_168) rfl ?_
      show Steps p.tables e below (T67.setTop (mkF m 170 #[.val (.int p0), .val (.int p1), .val (.int p2), .val (.int p3), .val (.int p4), .val (.int p5), .val (.int (Int32.ofNat B)), .val (.int (Int32.ofNat S)), .val (.int (2 : Int32)), .val (.long y4), .second, .val (.long y5), .second, .val (.long y6), .second, .val (.ref b51), .unset, .unset, .unset] [(.long y4), (.int (2 : Int32)), (.int (Int32.ofNat S)), (.int (Int32.ofNat B)), (.int (2 : Int32)), (.int ((f_full (0 : Int32) B S (2 : Int32) y4 y5 y6) + (f_full (1 : Int32) B S (2 : Int32) y4 y5 y6)))])) _
      refine XS.lload X67.here hx rfl (hb hby at_170) rfl ?_
      show Steps p.tables e below (T67.setTop (mkF m 172 #[.val (.int p0), .val (.int p1), .val (.int p2), .val (.int p3), .val (.int p4), .val (.int p5), .val (.int (Int32.ofNat B)), .val (.int (Int32.ofNat S)), .val (.int (2 : Int32)), .val (.long y4), .second, .val (.long y5), .second, .val (.long y6), .second, .val (.ref b51), .unset, .unset, .unset] [(.long y5), (.long y4), (.int (2 : Int32)), (.int (Int32.ofNat S)), (.int (Int32.ofNat B)), (.int (2 : Int32)), (.int ((f_full (0 : Int32) B S (2 : Int32) y4 y5 y6) + (f_full (1 : Int32) B S (2 : Int32) y4 y5 y6)))])) _
      refine XS.lload X67.here hx rfl (hb hby at_172) rfl ?_
      exact ht
    obtain ⟨_, _, ⟨T69, L69, kq69, n69⟩, -, X69, ⟨Lc69, hQ69, l69, y69, z69⟩, st69⟩ := Jvm.LawKit.callS X67 hx (y := (⟨"com/example/auspex/auspex/manager/ConflictTableFullBucketSharePinLaw", "fullIn", "(IIIIJJJ)I"⟩ : MethodName)) hown (mvT hZ (hw _ (List.mem_of_getElem? (i := 35) rfl))) (mvT hZ (hw _ (List.mem_of_getElem? (i := 36) rfl))) (mvT hZ (hw _ (List.mem_of_getElem? (i := 37) rfl))) (mvT hZ (hw _ (List.mem_of_getElem? (i := 38) rfl))) (by decide) (backOf (W := 1) (rm_full l Z a0 hw [] (2 : Int32) B S (2 : Int32) y4 y5 y6 T63.heap n0 Z63 (hB : 1 ≤ B ∧ B ≤ 4) (hS : 1 ≤ S ∧ S ≤ 3)) hZ (hw _ (List.mem_of_getElem? (i := 38) rfl)) (hw _ (List.mem_of_getElem? (i := 37) rfl)) (by decide) (by decide)) (g := (mkF m 174 #[.val (.int p0), .val (.int p1), .val (.int p2), .val (.int p3), .val (.int p4), .val (.int p5), .val (.int (Int32.ofNat B)), .val (.int (Int32.ofNat S)), .val (.int (2 : Int32)), .val (.long y4), .second, .val (.long y5), .second, .val (.long y6), .second, .val (.ref b51), .unset, .unset, .unset] [(.long y6), (.long y5), (.long y4), (.int (2 : Int32)), (.int (Int32.ofNat S)), (.int (Int32.ofNat B)), (.int (2 : Int32)), (.int ((f_full (0 : Int32) B S (2 : Int32) y4 y5 y6) + (f_full (1 : Int32) B S (2 : Int32) y4 y5 y6)))])) rfl (by rw [hml]; rfl) (argsL := [(.int (2 : Int32)), (.int (Int32.ofNat B)), (.int (Int32.ofNat S)), (.int (2 : Int32)), (.long y4), (.long y5), (.long y6)]) (rest := [(.int ((f_full (0 : Int32) B S (2 : Int32) y4 y5 y6) + (f_full (1 : Int32) B S (2 : Int32) y4 y5 y6)))]) (lenOf pd_3 rfl) rfl (by show 2 * 0 + _ ≤ _; exact Nat.le_of_eq rfl) (hb hby at_174) (fun _ _ => ⟨rfl, eq67, (by decide : 5 + 0 ≤ _), (by decide : 30 + 0 ≤ _)⟩)
    dsimp only [Pt.U, Pt.locs, Pt.cells, Pt.slots] at X69 l69 y69 z69 st69 hQ69
    subst l69 y69 z69
    obtain ⟨rfl, N69q, eq69⟩ := hQ69
    have N69 := Fr.app N67 N69q
    have k69 : Go p.tables e below (T67.setTop (mkF m 174 #[.val (.int p0), .val (.int p1), .val (.int p2), .val (.int p3), .val (.int p4), .val (.int p5), .val (.int (Int32.ofNat B)), .val (.int (Int32.ofNat S)), .val (.int (2 : Int32)), .val (.long y4), .second, .val (.long y5), .second, .val (.long y6), .second, .val (.ref b51), .unset, .unset, .unset] [(.long y6), (.long y5), (.long y4), (.int (2 : Int32)), (.int (Int32.ofNat S)), (.int (Int32.ofNat B)), (.int (2 : Int32)), (.int ((f_full (0 : Int32) B S (2 : Int32) y4 y5 y6) + (f_full (1 : Int32) B S (2 : Int32) y4 y5 y6)))])) (T69.setTop (mkF m 177 #[.val (.int p0), .val (.int p1), .val (.int p2), .val (.int p3), .val (.int p4), .val (.int p5), .val (.int (Int32.ofNat B)), .val (.int (Int32.ofNat S)), .val (.int (2 : Int32)), .val (.long y4), .second, .val (.long y5), .second, .val (.long y6), .second, .val (.ref b51), .unset, .unset, .unset] [(.int (f_full (2 : Int32) B S (2 : Int32) y4 y5 y6)), (.int ((f_full (0 : Int32) B S (2 : Int32) y4 y5 y6) + (f_full (1 : Int32) B S (2 : Int32) y4 y5 y6)))])) := st69
    have k70 : Go p.tables e below (T69.setTop (mkF m 177 #[.val (.int p0), .val (.int p1), .val (.int p2), .val (.int p3), .val (.int p4), .val (.int p5), .val (.int (Int32.ofNat B)), .val (.int (Int32.ofNat S)), .val (.int (2 : Int32)), .val (.long y4), .second, .val (.long y5), .second, .val (.long y6), .second, .val (.ref b51), .unset, .unset, .unset] [(.int (f_full (2 : Int32) B S (2 : Int32) y4 y5 y6)), (.int ((f_full (0 : Int32) B S (2 : Int32) y4 y5 y6) + (f_full (1 : Int32) B S (2 : Int32) y4 y5 y6)))])) (T69.setTop (mkF m 191 #[.val (.int p0), .val (.int p1), .val (.int p2), .val (.int p3), .val (.int p4), .val (.int p5), .val (.int (Int32.ofNat B)), .val (.int (Int32.ofNat S)), .val (.int (2 : Int32)), .val (.long y4), .second, .val (.long y5), .second, .val (.long y6), .second, .val (.ref b51), .unset, .unset, .unset] [(.long y6), (.long y5), (.long y4), (.int (2 : Int32)), (.int (Int32.ofNat S)), (.int (Int32.ofNat B)), (.int (3 : Int32)), (.int (((f_full (0 : Int32) B S (2 : Int32) y4 y5 y6) + (f_full (1 : Int32) B S (2 : Int32) y4 y5 y6)) + (f_full (2 : Int32) B S (2 : Int32) y4 y5 y6)))])) := by
      intro t ht
      refine XS.iadd X69.here hx rfl (hb hby at_177) rfl ?_
      show Steps p.tables e below (T69.setTop (mkF m 178 #[.val (.int p0), .val (.int p1), .val (.int p2), .val (.int p3), .val (.int p4), .val (.int p5), .val (.int (Int32.ofNat B)), .val (.int (Int32.ofNat S)), .val (.int (2 : Int32)), .val (.long y4), .second, .val (.long y5), .second, .val (.long y6), .second, .val (.ref b51), .unset, .unset, .unset] [(.int (((f_full (0 : Int32) B S (2 : Int32) y4 y5 y6) + (f_full (1 : Int32) B S (2 : Int32) y4 y5 y6)) + (f_full (2 : Int32) B S (2 : Int32) y4 y5 y6)))])) _
      refine XS.iconst X69.here hx rfl (hb hby at_178) ?_
      show Steps p.tables e below (T69.setTop (mkF m 179 #[.val (.int p0), .val (.int p1), .val (.int p2), .val (.int p3), .val (.int p4), .val (.int p5), .val (.int (Int32.ofNat B)), .val (.int (Int32.ofNat S)), .val (.int (2 : Int32)), .val (.long y4), .second, .val (.long y5), .second, .val (.long y6), .second, .val (.ref b51), .unset, .unset, .unset] [(.int (3 : Int32)), (.int (((f_full (0 : Int32) B S (2 : Int32) y4 y5 y6) + (f_full (1 : Int32) B S (2 : Int32) y4 y5 y6)) + (f_full (2 : Int32) B S (2 : Int32) y4 y5 y6)))])) _
      refine XS.iload X69.here hx rfl (hb hby at_179) rfl ?_
      show Steps p.tables e below (T69.setTop (mkF m 181 #[.val (.int p0), .val (.int p1), .val (.int p2), .val (.int p3), .val (.int p4), .val (.int p5), .val (.int (Int32.ofNat B)), .val (.int (Int32.ofNat S)), .val (.int (2 : Int32)), .val (.long y4), .second, .val (.long y5), .second, .val (.long y6), .second, .val (.ref b51), .unset, .unset, .unset] [(.int (Int32.ofNat B)), (.int (3 : Int32)), (.int (((f_full (0 : Int32) B S (2 : Int32) y4 y5 y6) + (f_full (1 : Int32) B S (2 : Int32) y4 y5 y6)) + (f_full (2 : Int32) B S (2 : Int32) y4 y5 y6)))])) _
      refine XS.iload X69.here hx rfl (hb hby at_181) rfl ?_
      show Steps p.tables e below (T69.setTop (mkF m 183 #[.val (.int p0), .val (.int p1), .val (.int p2), .val (.int p3), .val (.int p4), .val (.int p5), .val (.int (Int32.ofNat B)), .val (.int (Int32.ofNat S)), .val (.int (2 : Int32)), .val (.long y4), .second, .val (.long y5), .second, .val (.long y6), .second, .val (.ref b51), .unset, .unset, .unset] [(.int (Int32.ofNat S)), (.int (Int32.ofNat B)), (.int (3 : Int32)), (.int (((f_full (0 : Int32) B S (2 : Int32) y4 y5 y6) + (f_full (1 : Int32) B S (2 : Int32) y4 y5 y6)) + (f_full (2 : Int32) B S (2 : Int32) y4 y5 y6)))])) _
      refine XS.iload X69.here hx rfl (hb hby at_183) rfl ?_
      show Steps p.tables e below (T69.setTop (mkF m 185 #[.val (.int p0), .val (.int p1), .val (.int p2), .val (.int p3), .val (.int p4), .val (.int p5), .val (.int (Int32.ofNat B)), .val (.int (Int32.ofNat S)), .val (.int (2 : Int32)), .val (.long y4), .second, .val (.long y5), .second, .val (.long y6), .second, .val (.ref b51), .unset, .unset, .unset] [(.int (2 : Int32)), (.int (Int32.ofNat S)), (.int (Int32.ofNat B)), (.int (3 : Int32)), (.int (((f_full (0 : Int32) B S (2 : Int32) y4 y5 y6) + (f_full (1 : Int32) B S (2 : Int32) y4 y5 y6)) + (f_full (2 : Int32) B S (2 : Int32) y4 y5 y6)))])) _
      refine XS.lload X69.here hx rfl (hb hby at_185) rfl ?_
      show Steps p.tables e below (T69.setTop (mkF m 187 #[.val (.int p0), .val (.int p1), .val (.int p2), .val (.int p3), .val (.int p4), .val (.int p5), .val (.int (Int32.ofNat B)), .val (.int (Int32.ofNat S)), .val (.int (2 : Int32)), .val (.long y4), .second, .val (.long y5), .second, .val (.long y6), .second, .val (.ref b51), .unset, .unset, .unset] [(.long y4), (.int (2 : Int32)), (.int (Int32.ofNat S)), (.int (Int32.ofNat B)), (.int (3 : Int32)), (.int (((f_full (0 : Int32) B S (2 : Int32) y4 y5 y6) + (f_full (1 : Int32) B S (2 : Int32) y4 y5 y6)) + (f_full (2 : Int32) B S (2 : Int32) y4 y5 y6)))])) _
      refine XS.lload X69.here hx rfl (hb hby at_187) rfl ?_
      show Steps p.tables e below (T69.setTop (mkF m 189 #[.val (.int p0), .val (.int p1), .val (.int p2), .val (.int p3), .val (.int p4), .val (.int p5), .val (.int (Int32.ofNat B)), .val (.int (Int32.ofNat S)), .val (.int (2 : Int32)), .val (.long y4), .second, .val (.long y5), .second, .val (.long y6), .second, .val (.ref b51), .unset, .unset, .unset] [(.long y5), (.long y4), (.int (2 : Int32)), (.int (Int32.ofNat S)), (.int (Int32.ofNat B)), (.int (3 : Int32)), (.int (((f_full (0 : Int32) B S (2 : Int32) y4 y5 y6) + (f_full (1 : Int32) B S (2 : Int32) y4 y5 y6)) + (f_full (2 : Int32) B S (2 : Int32) y4 y5 y6)))])) _
      refine XS.lload X69.here hx rfl (hb hby at_189) rfl ?_
      exact ht
    obtain ⟨_, _, ⟨T71, L71, kq71, n71⟩, -, X71, ⟨Lc71, hQ71, l71, y71, z71⟩, st71⟩ := Jvm.LawKit.callS X69 hx (y := (⟨"com/example/auspex/auspex/manager/ConflictTableFullBucketSharePinLaw", "fullIn", "(IIIIJJJ)I"⟩ : MethodName)) hown (mvT hZ (hw _ (List.mem_of_getElem? (i := 35) rfl))) (mvT hZ (hw _ (List.mem_of_getElem? (i := 36) rfl))) (mvT hZ (hw _ (List.mem_of_getElem? (i := 37) rfl))) (mvT hZ (hw _ (List.mem_of_getElem? (i := 38) rfl))) (by decide) (backOf (W := 1) (rm_full l Z a0 hw [] (3 : Int32) B S (2 : Int32) y4 y5 y6 T63.heap n0 Z63 (hB : 1 ≤ B ∧ B ≤ 4) (hS : 1 ≤ S ∧ S ≤ 3)) hZ (hw _ (List.mem_of_getElem? (i := 38) rfl)) (hw _ (List.mem_of_getElem? (i := 37) rfl)) (by decide) (by decide)) (g := (mkF m 191 #[.val (.int p0), .val (.int p1), .val (.int p2), .val (.int p3), .val (.int p4), .val (.int p5), .val (.int (Int32.ofNat B)), .val (.int (Int32.ofNat S)), .val (.int (2 : Int32)), .val (.long y4), .second, .val (.long y5), .second, .val (.long y6), .second, .val (.ref b51), .unset, .unset, .unset] [(.long y6), (.long y5), (.long y4), (.int (2 : Int32)), (.int (Int32.ofNat S)), (.int (Int32.ofNat B)), (.int (3 : Int32)), (.int (((f_full (0 : Int32) B S (2 : Int32) y4 y5 y6) + (f_full (1 : Int32) B S (2 : Int32) y4 y5 y6)) + (f_full (2 : Int32) B S (2 : Int32) y4 y5 y6)))])) rfl (by rw [hml]; rfl) (argsL := [(.int (3 : Int32)), (.int (Int32.ofNat B)), (.int (Int32.ofNat S)), (.int (2 : Int32)), (.long y4), (.long y5), (.long y6)]) (rest := [(.int (((f_full (0 : Int32) B S (2 : Int32) y4 y5 y6) + (f_full (1 : Int32) B S (2 : Int32) y4 y5 y6)) + (f_full (2 : Int32) B S (2 : Int32) y4 y5 y6)))]) (lenOf pd_3 rfl) rfl (by show 2 * 0 + _ ≤ _; exact Nat.le_of_eq rfl) (hb hby at_191) (fun _ _ => ⟨rfl, eq69, (by decide : 5 + 0 ≤ _), (by decide : 30 + 0 ≤ _)⟩)
    dsimp only [Pt.U, Pt.locs, Pt.cells, Pt.slots] at X71 l71 y71 z71 st71 hQ71
    subst l71 y71 z71
    obtain ⟨rfl, N71q, eq71⟩ := hQ71
    have N71 := Fr.app N69 N71q
    have k71 : Go p.tables e below (T69.setTop (mkF m 191 #[.val (.int p0), .val (.int p1), .val (.int p2), .val (.int p3), .val (.int p4), .val (.int p5), .val (.int (Int32.ofNat B)), .val (.int (Int32.ofNat S)), .val (.int (2 : Int32)), .val (.long y4), .second, .val (.long y5), .second, .val (.long y6), .second, .val (.ref b51), .unset, .unset, .unset] [(.long y6), (.long y5), (.long y4), (.int (2 : Int32)), (.int (Int32.ofNat S)), (.int (Int32.ofNat B)), (.int (3 : Int32)), (.int (((f_full (0 : Int32) B S (2 : Int32) y4 y5 y6) + (f_full (1 : Int32) B S (2 : Int32) y4 y5 y6)) + (f_full (2 : Int32) B S (2 : Int32) y4 y5 y6)))])) (T71.setTop (mkF m 194 #[.val (.int p0), .val (.int p1), .val (.int p2), .val (.int p3), .val (.int p4), .val (.int p5), .val (.int (Int32.ofNat B)), .val (.int (Int32.ofNat S)), .val (.int (2 : Int32)), .val (.long y4), .second, .val (.long y5), .second, .val (.long y6), .second, .val (.ref b51), .unset, .unset, .unset] [(.int (f_full (3 : Int32) B S (2 : Int32) y4 y5 y6)), (.int (((f_full (0 : Int32) B S (2 : Int32) y4 y5 y6) + (f_full (1 : Int32) B S (2 : Int32) y4 y5 y6)) + (f_full (2 : Int32) B S (2 : Int32) y4 y5 y6)))])) := st71
    have k72 : Go p.tables e below (T71.setTop (mkF m 194 #[.val (.int p0), .val (.int p1), .val (.int p2), .val (.int p3), .val (.int p4), .val (.int p5), .val (.int (Int32.ofNat B)), .val (.int (Int32.ofNat S)), .val (.int (2 : Int32)), .val (.long y4), .second, .val (.long y5), .second, .val (.long y6), .second, .val (.ref b51), .unset, .unset, .unset] [(.int (f_full (3 : Int32) B S (2 : Int32) y4 y5 y6)), (.int (((f_full (0 : Int32) B S (2 : Int32) y4 y5 y6) + (f_full (1 : Int32) B S (2 : Int32) y4 y5 y6)) + (f_full (2 : Int32) B S (2 : Int32) y4 y5 y6)))])) (T71.setTop (mkF m 197 #[.val (.int p0), .val (.int p1), .val (.int p2), .val (.int p3), .val (.int p4), .val (.int p5), .val (.int (Int32.ofNat B)), .val (.int (Int32.ofNat S)), .val (.int (2 : Int32)), .val (.long y4), .second, .val (.long y5), .second, .val (.long y6), .second, .val (.ref b51), .val (.int ((((f_full (0 : Int32) B S (2 : Int32) y4 y5 y6) + (f_full (1 : Int32) B S (2 : Int32) y4 y5 y6)) + (f_full (2 : Int32) B S (2 : Int32) y4 y5 y6)) + (f_full (3 : Int32) B S (2 : Int32) y4 y5 y6))), .unset, .unset] [])) := by
      intro t ht
      refine XS.iadd X71.here hx rfl (hb hby at_194) rfl ?_
      show Steps p.tables e below (T71.setTop (mkF m 195 #[.val (.int p0), .val (.int p1), .val (.int p2), .val (.int p3), .val (.int p4), .val (.int p5), .val (.int (Int32.ofNat B)), .val (.int (Int32.ofNat S)), .val (.int (2 : Int32)), .val (.long y4), .second, .val (.long y5), .second, .val (.long y6), .second, .val (.ref b51), .unset, .unset, .unset] [(.int ((((f_full (0 : Int32) B S (2 : Int32) y4 y5 y6) + (f_full (1 : Int32) B S (2 : Int32) y4 y5 y6)) + (f_full (2 : Int32) B S (2 : Int32) y4 y5 y6)) + (f_full (3 : Int32) B S (2 : Int32) y4 y5 y6)))])) _
      refine XS.istore X71.here hx rfl (hb hby at_195) rfl (l' := #[.val (.int p0), .val (.int p1), .val (.int p2), .val (.int p3), .val (.int p4), .val (.int p5), .val (.int (Int32.ofNat B)), .val (.int (Int32.ofNat S)), .val (.int (2 : Int32)), .val (.long y4), .second, .val (.long y5), .second, .val (.long y6), .second, .val (.ref b51), .val (.int ((((f_full (0 : Int32) B S (2 : Int32) y4 y5 y6) + (f_full (1 : Int32) B S (2 : Int32) y4 y5 y6)) + (f_full (2 : Int32) B S (2 : Int32) y4 y5 y6)) + (f_full (3 : Int32) B S (2 : Int32) y4 y5 y6))), .unset, .unset]) rfl ?_
      exact ht
    obtain ⟨y73, ey73⟩ : ∃ z : Int32, z = ((((f_full (0 : Int32) B S (2 : Int32) y4 y5 y6) + (f_full (1 : Int32) B S (2 : Int32) y4 y5 y6)) + (f_full (2 : Int32) B S (2 : Int32) y4 y5 y6)) + (f_full (3 : Int32) B S (2 : Int32) y4 y5 y6)) := ⟨_, rfl⟩
    have k74 : Go p.tables e below (T71.setTop (mkF m 197 #[.val (.int p0), .val (.int p1), .val (.int p2), .val (.int p3), .val (.int p4), .val (.int p5), .val (.int (Int32.ofNat B)), .val (.int (Int32.ofNat S)), .val (.int (2 : Int32)), .val (.long y4), .second, .val (.long y5), .second, .val (.long y6), .second, .val (.ref b51), .val (.int ((((f_full (0 : Int32) B S (2 : Int32) y4 y5 y6) + (f_full (1 : Int32) B S (2 : Int32) y4 y5 y6)) + (f_full (2 : Int32) B S (2 : Int32) y4 y5 y6)) + (f_full (3 : Int32) B S (2 : Int32) y4 y5 y6))), .unset, .unset] [])) (T71.setTop (mkF m 197 #[.val (.int p0), .val (.int p1), .val (.int p2), .val (.int p3), .val (.int p4), .val (.int p5), .val (.int (Int32.ofNat B)), .val (.int (Int32.ofNat S)), .val (.int (2 : Int32)), .val (.long y4), .second, .val (.long y5), .second, .val (.long y6), .second, .val (.ref b51), .val (.int y73), .unset, .unset] [])) := by rw [ey73]; exact fun _ h => h
    have k75 : Go p.tables e below (T71.setTop (mkF m 197 #[.val (.int p0), .val (.int p1), .val (.int p2), .val (.int p3), .val (.int p4), .val (.int p5), .val (.int (Int32.ofNat B)), .val (.int (Int32.ofNat S)), .val (.int (2 : Int32)), .val (.long y4), .second, .val (.long y5), .second, .val (.long y6), .second, .val (.ref b51), .val (.int y73), .unset, .unset] [])) (T71.setTop (mkF m 208 #[.val (.int p0), .val (.int p1), .val (.int p2), .val (.int p3), .val (.int p4), .val (.int p5), .val (.int (Int32.ofNat B)), .val (.int (Int32.ofNat S)), .val (.int (2 : Int32)), .val (.long y4), .second, .val (.long y5), .second, .val (.long y6), .second, .val (.ref b51), .val (.int y73), .val (.double (FP.ddiv (FP.i2d y73) (FP.i2d (Int32.ofNat B)))), .second] [(.ref b51)])) := by
      intro t ht
      refine XS.iload X71.here hx rfl (hb hby at_197) rfl ?_
      show Steps p.tables e below (T71.setTop (mkF m 199 #[.val (.int p0), .val (.int p1), .val (.int p2), .val (.int p3), .val (.int p4), .val (.int p5), .val (.int (Int32.ofNat B)), .val (.int (Int32.ofNat S)), .val (.int (2 : Int32)), .val (.long y4), .second, .val (.long y5), .second, .val (.long y6), .second, .val (.ref b51), .val (.int y73), .unset, .unset] [(.int y73)])) _
      refine XS.i2dS X71.here hx rfl (hb hby at_199) rfl rfl ?_
      show Steps p.tables e below (T71.setTop (mkF m 200 #[.val (.int p0), .val (.int p1), .val (.int p2), .val (.int p3), .val (.int p4), .val (.int p5), .val (.int (Int32.ofNat B)), .val (.int (Int32.ofNat S)), .val (.int (2 : Int32)), .val (.long y4), .second, .val (.long y5), .second, .val (.long y6), .second, .val (.ref b51), .val (.int y73), .unset, .unset] [(.double (FP.i2d y73))])) _
      refine XS.iload X71.here hx rfl (hb hby at_200) rfl ?_
      show Steps p.tables e below (T71.setTop (mkF m 202 #[.val (.int p0), .val (.int p1), .val (.int p2), .val (.int p3), .val (.int p4), .val (.int p5), .val (.int (Int32.ofNat B)), .val (.int (Int32.ofNat S)), .val (.int (2 : Int32)), .val (.long y4), .second, .val (.long y5), .second, .val (.long y6), .second, .val (.ref b51), .val (.int y73), .unset, .unset] [(.int (Int32.ofNat B)), (.double (FP.i2d y73))])) _
      refine XS.i2dS X71.here hx rfl (hb hby at_202) rfl rfl ?_
      show Steps p.tables e below (T71.setTop (mkF m 203 #[.val (.int p0), .val (.int p1), .val (.int p2), .val (.int p3), .val (.int p4), .val (.int p5), .val (.int (Int32.ofNat B)), .val (.int (Int32.ofNat S)), .val (.int (2 : Int32)), .val (.long y4), .second, .val (.long y5), .second, .val (.long y6), .second, .val (.ref b51), .val (.int y73), .unset, .unset] [(.double (FP.i2d (Int32.ofNat B))), (.double (FP.i2d y73))])) _
      refine XS.ddivS X71.here hx rfl (hb hby at_203) rfl (own_nanF hB ey73) rfl ?_
      show Steps p.tables e below (T71.setTop (mkF m 204 #[.val (.int p0), .val (.int p1), .val (.int p2), .val (.int p3), .val (.int p4), .val (.int p5), .val (.int (Int32.ofNat B)), .val (.int (Int32.ofNat S)), .val (.int (2 : Int32)), .val (.long y4), .second, .val (.long y5), .second, .val (.long y6), .second, .val (.ref b51), .val (.int y73), .unset, .unset] [(.double (FP.ddiv (FP.i2d y73) (FP.i2d (Int32.ofNat B))))])) _
      refine XS.dstore X71.here hx rfl (hb hby at_204) rfl (l' := #[.val (.int p0), .val (.int p1), .val (.int p2), .val (.int p3), .val (.int p4), .val (.int p5), .val (.int (Int32.ofNat B)), .val (.int (Int32.ofNat S)), .val (.int (2 : Int32)), .val (.long y4), .second, .val (.long y5), .second, .val (.long y6), .second, .val (.ref b51), .val (.int y73), .val (.double (FP.ddiv (FP.i2d y73) (FP.i2d (Int32.ofNat B)))), .second]) rfl ?_
      show Steps p.tables e below (T71.setTop (mkF m 206 #[.val (.int p0), .val (.int p1), .val (.int p2), .val (.int p3), .val (.int p4), .val (.int p5), .val (.int (Int32.ofNat B)), .val (.int (Int32.ofNat S)), .val (.int (2 : Int32)), .val (.long y4), .second, .val (.long y5), .second, .val (.long y6), .second, .val (.ref b51), .val (.int y73), .val (.double (FP.ddiv (FP.i2d y73) (FP.i2d (Int32.ofNat B)))), .second] [])) _
      refine XS.aload X71.here hx rfl (hb hby at_206) rfl rfl ?_
      exact ht
    obtain ⟨cq76, kq76, q76a, q76b, q76c⟩ := isOf hZ eq71 Fq63_0
    obtain ⟨_, _, ⟨T76, L76, kq76, n76⟩, -, X76, ⟨Lc76, hQ76, l76, y76, z76⟩, st76⟩ := X71.virtualBack hx (y := (⟨"com/example/auspex/auspex/manager/ConflictTable", "fullBucketShare", "()D"⟩ : MethodName)) (z := (⟨"com/example/auspex/auspex/manager/ConflictTable", "fullBucketShare", "()D"⟩ : MethodName)) hown (mvT hZ (hw _ (List.mem_of_getElem? (i := 39) rfl))) (mvT hZ (hw _ (List.mem_of_getElem? (i := 40) rfl))) (notFace_of_selects (args := #[]) (mvT hZ (hw _ (List.mem_of_getElem? (i := 42) rfl)))) (mvT hZ (hw _ (List.mem_of_getElem? (i := 42) rfl))) (mvT hZ (hw _ (List.mem_of_getElem? (i := 41) rfl))) (by decide) (backOf (W := 0) (rm_share l Z a0 hw [] b51 B S xc_53 xl_53 ((own_Z.set ((own_n y4 B S) + (f_rec00 (own_n y4 B S) S y4 own_Z own_Z)) (1 : Int64)).set ((own_n y5 B S) + (f_rec00 (own_n y5 B S) S y5 (own_Z.set ((own_n y4 B S) + (f_rec00 (own_n y4 B S) S y4 own_Z own_Z)) y4) (own_Z.set ((own_n y4 B S) + (f_rec00 (own_n y4 B S) S y4 own_Z own_Z)) (1 : Int64)))) (2 : Int64)) T63.heap n0 Z63 Fq63_1 Fq63_2 Fq63_4 Fq63_6 (hB : 1 ≤ B ∧ B ≤ 4) (hS : 1 ≤ S ∧ S ≤ 3)) hZ (hw _ (List.mem_of_getElem? (i := 43) rfl)) (hw _ (List.mem_of_getElem? (i := 3) rfl)) (by decide) (by decide)) q76a q76c (g := (mkF m 208 #[.val (.int p0), .val (.int p1), .val (.int p2), .val (.int p3), .val (.int p4), .val (.int p5), .val (.int (Int32.ofNat B)), .val (.int (Int32.ofNat S)), .val (.int (2 : Int32)), .val (.long y4), .second, .val (.long y5), .second, .val (.long y6), .second, .val (.ref b51), .val (.int y73), .val (.double (FP.ddiv (FP.i2d y73) (FP.i2d (Int32.ofNat B)))), .second] [(.ref b51)])) rfl (by rw [hml]; rfl) (Steps.refl _) (argsL := []) (rest := []) (lenOf pd_4 rfl) rfl (by show 2 * 0 + _ ≤ _; exact Nat.le_of_eq rfl) (hb hby at_208) (fun _ _ => ⟨rfl, eq71, (by decide : 5 + 0 ≤ _), (by decide : 30 + 0 ≤ _)⟩)
    dsimp only [Pt.U, Pt.locs, Pt.cells, Pt.slots] at X76 l76 y76 z76 st76 hQ76
    subst l76 y76 z76
    obtain ⟨rfl, N76q, eq76⟩ := hQ76
    have N76 := Fr.app N71 N76q
    have k76 : Go p.tables e below (T71.setTop (mkF m 208 #[.val (.int p0), .val (.int p1), .val (.int p2), .val (.int p3), .val (.int p4), .val (.int p5), .val (.int (Int32.ofNat B)), .val (.int (Int32.ofNat S)), .val (.int (2 : Int32)), .val (.long y4), .second, .val (.long y5), .second, .val (.long y6), .second, .val (.ref b51), .val (.int y73), .val (.double (FP.ddiv (FP.i2d y73) (FP.i2d (Int32.ofNat B)))), .second] [(.ref b51)])) (T76.setTop (mkF m 211 #[.val (.int p0), .val (.int p1), .val (.int p2), .val (.int p3), .val (.int p4), .val (.int p5), .val (.int (Int32.ofNat B)), .val (.int (Int32.ofNat S)), .val (.int (2 : Int32)), .val (.long y4), .second, .val (.long y5), .second, .val (.long y6), .second, .val (.ref b51), .val (.int y73), .val (.double (FP.ddiv (FP.i2d y73) (FP.i2d (Int32.ofNat B)))), .second] [(.double (FP.ddiv (FP.l2d (own_share B S ((own_Z.set ((own_n y4 B S) + (f_rec00 (own_n y4 B S) S y4 own_Z own_Z)) (1 : Int64)).set ((own_n y5 B S) + (f_rec00 (own_n y5 B S) S y5 (own_Z.set ((own_n y4 B S) + (f_rec00 (own_n y4 B S) S y4 own_Z own_Z)) y4) (own_Z.set ((own_n y4 B S) + (f_rec00 (own_n y4 B S) S y4 own_Z own_Z)) (1 : Int64)))) (2 : Int64)))) (FP.i2d (Int32.ofNat B))))])) := fun _ ht => st76.trans ht
    have k77 : Go p.tables e below (T76.setTop (mkF m 211 #[.val (.int p0), .val (.int p1), .val (.int p2), .val (.int p3), .val (.int p4), .val (.int p5), .val (.int (Int32.ofNat B)), .val (.int (Int32.ofNat S)), .val (.int (2 : Int32)), .val (.long y4), .second, .val (.long y5), .second, .val (.long y6), .second, .val (.ref b51), .val (.int y73), .val (.double (FP.ddiv (FP.i2d y73) (FP.i2d (Int32.ofNat B)))), .second] [(.double (FP.ddiv (FP.l2d (own_share B S ((own_Z.set ((own_n y4 B S) + (f_rec00 (own_n y4 B S) S y4 own_Z own_Z)) (1 : Int64)).set ((own_n y5 B S) + (f_rec00 (own_n y5 B S) S y5 (own_Z.set ((own_n y4 B S) + (f_rec00 (own_n y4 B S) S y4 own_Z own_Z)) y4) (own_Z.set ((own_n y4 B S) + (f_rec00 (own_n y4 B S) S y4 own_Z own_Z)) (1 : Int64)))) (2 : Int64)))) (FP.i2d (Int32.ofNat B))))])) (T76.setTop (mkF m 222 #[.val (.int p0), .val (.int p1), .val (.int p2), .val (.int p3), .val (.int p4), .val (.int p5), .val (.int (Int32.ofNat B)), .val (.int (Int32.ofNat S)), .val (.int (2 : Int32)), .val (.long y4), .second, .val (.long y5), .second, .val (.long y6), .second, .val (.ref b51), .val (.int y73), .val (.double (FP.ddiv (FP.i2d y73) (FP.i2d (Int32.ofNat B)))), .second] [(.int (1 : Int32))])) := by
      intro t ht
      refine XS.dload X76.here hx rfl (hb hby at_211) rfl ?_
      show Steps p.tables e below (T76.setTop (mkF m 213 #[.val (.int p0), .val (.int p1), .val (.int p2), .val (.int p3), .val (.int p4), .val (.int p5), .val (.int (Int32.ofNat B)), .val (.int (Int32.ofNat S)), .val (.int (2 : Int32)), .val (.long y4), .second, .val (.long y5), .second, .val (.long y6), .second, .val (.ref b51), .val (.int y73), .val (.double (FP.ddiv (FP.i2d y73) (FP.i2d (Int32.ofNat B)))), .second] [(.double (FP.ddiv (FP.i2d y73) (FP.i2d (Int32.ofNat B)))), (.double (FP.ddiv (FP.l2d (own_share B S ((own_Z.set ((own_n y4 B S) + (f_rec00 (own_n y4 B S) S y4 own_Z own_Z)) (1 : Int64)).set ((own_n y5 B S) + (f_rec00 (own_n y5 B S) S y5 (own_Z.set ((own_n y4 B S) + (f_rec00 (own_n y4 B S) S y4 own_Z own_Z)) y4) (own_Z.set ((own_n y4 B S) + (f_rec00 (own_n y4 B S) S y4 own_Z own_Z)) (1 : Int64)))) (2 : Int64)))) (FP.i2d (Int32.ofNat B))))])) _
      refine XS.dcmpS X76.here hx rfl (hb hby at_213) rfl rfl ?_
      show Steps p.tables e below (T76.setTop (mkF m 214 #[.val (.int p0), .val (.int p1), .val (.int p2), .val (.int p3), .val (.int p4), .val (.int p5), .val (.int (Int32.ofNat B)), .val (.int (Int32.ofNat S)), .val (.int (2 : Int32)), .val (.long y4), .second, .val (.long y5), .second, .val (.long y6), .second, .val (.ref b51), .val (.int y73), .val (.double (FP.ddiv (FP.i2d y73) (FP.i2d (Int32.ofNat B)))), .second] [(.int (cmpValue (FP.dcmp (FP.ddiv (FP.l2d (own_share B S ((own_Z.set ((own_n y4 B S) + (f_rec00 (own_n y4 B S) S y4 own_Z own_Z)) (1 : Int64)).set ((own_n y5 B S) + (f_rec00 (own_n y5 B S) S y5 (own_Z.set ((own_n y4 B S) + (f_rec00 (own_n y4 B S) S y4 own_Z own_Z)) y4) (own_Z.set ((own_n y4 B S) + (f_rec00 (own_n y4 B S) S y4 own_Z own_Z)) (1 : Int64)))) (2 : Int64)))) (FP.i2d (Int32.ofNat B))) (FP.ddiv (FP.i2d y73) (FP.i2d (Int32.ofNat B)))) .l))])) _
      refine XS.ifNo X76.here hx rfl (hb hby at_214) rfl ((if0 _ _).trans (teq (own_final2 hB hS hH0 hH1 hH2 ey73 : (cmpValue (FP.dcmp (FP.ddiv (FP.l2d (own_share B S ((own_Z.set ((own_n y4 B S) + (f_rec00 (own_n y4 B S) S y4 own_Z own_Z)) (1 : Int64)).set ((own_n y5 B S) + (f_rec00 (own_n y5 B S) S y5 (own_Z.set ((own_n y4 B S) + (f_rec00 (own_n y4 B S) S y4 own_Z own_Z)) y4) (own_Z.set ((own_n y4 B S) + (f_rec00 (own_n y4 B S) S y4 own_Z own_Z)) (1 : Int64)))) (2 : Int64)))) (FP.i2d (Int32.ofNat B))) (FP.ddiv (FP.i2d y73) (FP.i2d (Int32.ofNat B)))) .l) = (0 : Int32))).2) ?_
      show Steps p.tables e below (T76.setTop (mkF m 217 #[.val (.int p0), .val (.int p1), .val (.int p2), .val (.int p3), .val (.int p4), .val (.int p5), .val (.int (Int32.ofNat B)), .val (.int (Int32.ofNat S)), .val (.int (2 : Int32)), .val (.long y4), .second, .val (.long y5), .second, .val (.long y6), .second, .val (.ref b51), .val (.int y73), .val (.double (FP.ddiv (FP.i2d y73) (FP.i2d (Int32.ofNat B)))), .second] [])) _
      refine XS.iconst X76.here hx rfl (hb hby at_217) ?_
      show Steps p.tables e below (T76.setTop (mkF m 218 #[.val (.int p0), .val (.int p1), .val (.int p2), .val (.int p3), .val (.int p4), .val (.int p5), .val (.int (Int32.ofNat B)), .val (.int (Int32.ofNat S)), .val (.int (2 : Int32)), .val (.long y4), .second, .val (.long y5), .second, .val (.long y6), .second, .val (.ref b51), .val (.int y73), .val (.double (FP.ddiv (FP.i2d y73) (FP.i2d (Int32.ofNat B)))), .second] [(.int (1 : Int32))])) _
      refine XS.goto X76.here hx rfl (pc0 := 218) (pc' := 222) rfl (hb hby at_218) (by decide) (by decide) ?_
      exact ht
    obtain ⟨fs, hr, hrun, hended, hW, hsame⟩ := X76.leave (v := some (.int (1 : Int32))) (fun h => by rw [Bd.returns] at h; cases h)
    refine ⟨_, _, pre0 _ ((goT k1 (goT k2 (goT k3 (goT k7 (goT k50 (goT k51 (goT k52 (goT k53 (goT k54 (goT k55 (goT k56 (goT k57 (goT k58 (goT k59 (goT k60 (goT k61 (goT k62 (goT k63 (goT k64 (goT k65 (goT k66 (goT k67 (goT k68 (goT k69 (goT k70 (goT k71 (goT k72 (goT k74 (goT k75 (goT k76 k77)))))))))))))))))))))))))))))) _ (retN X76 hx (t := .boolean) Bd.returns (by simp) (hb hby at_222) hr)), hrun, hended, _, _, rfl, ?_, ⟨_, rfl⟩, hW, hsame.mono (by decide) (by decide)⟩
    show Q_law Z p0 p1 p2 p3 p4 p5 h0 n0 _ T76.heap _
    rw [eq76]
    exact ⟨rfl, N76⟩
  · have k78 : Go p.tables e below (s₁.setTop (mkF m 51 #[.val (.int p0), .val (.int p1), .val (.int p2), .val (.int p3), .val (.int p4), .val (.int p5), .val (.int (Int32.ofNat B)), .val (.int (Int32.ofNat S)), .val (.int (p2 &&& (3 : Int32))), .val (.long y4), .second, .val (.long y5), .second, .val (.long y6), .second, .unset, .unset, .unset, .unset] [])) (s₁.setTop (mkF m 51 #[.val (.int p0), .val (.int p1), .val (.int p2), .val (.int p3), .val (.int p4), .val (.int p5), .val (.int (Int32.ofNat B)), .val (.int (Int32.ofNat S)), .val (.int (3 : Int32)), .val (.long y4), .second, .val (.long y5), .second, .val (.long y6), .second, .unset, .unset, .unset, .unset] [])) := by rw [hk8]; exact fun _ h => h
    obtain ⟨T79, h79, X79, e79, E79, A79, D79, -, st79⟩ := newO X0 hx hZ hown (hw _ (List.mem_of_getElem? (i := 1) rfl)) (hw _ (List.mem_of_getElem? (i := 2) rfl)) (hw _ (List.mem_of_getElem? (i := 3) rfl)) e0 (g := (mkF m 51 #[.val (.int p0), .val (.int p1), .val (.int p2), .val (.int p3), .val (.int p4), .val (.int p5), .val (.int (Int32.ofNat B)), .val (.int (Int32.ofNat S)), .val (.int (3 : Int32)), .val (.long y4), .second, .val (.long y5), .second, .val (.long y6), .second, .unset, .unset, .unset, .unset] [])) rfl (hb hby at_51) (by decide) (by decide)
    obtain ⟨b79, g79⟩ : ∃ z, z = h0.size := ⟨_, rfl⟩
    rw [← g79] at A79 D79 st79
    have g_b79 : n0 ≤ b79 := Nat.le_trans Z0 (Nat.le_of_eq g79.symm)
    have sz_b79 : h0.size ≤ b79 := Nat.le_trans (Keep.refl h0 []).1 (Nat.le_of_eq g79.symm)
    have Kp79 : Keep h0 h79 [] := (Keep.refl h0 []).ext E79
    have Z79 : n0 ≤ h79.size := Nat.le_trans Z0 E79.1
    have F_buckets_b79 : Fld Z h79 b79 "com/example/auspex/auspex/manager/ConflictTable" "buckets" "I" (.int (0 : Int32)) := D79 (Or.inr (hw _ (List.mem_of_getElem? (i := 12) rfl))) (ty := .int) (by decide)
    have F_slotsPerBucket_b79 : Fld Z h79 b79 "com/example/auspex/auspex/manager/ConflictTable" "slotsPerBucket" "I" (.int (0 : Int32)) := D79 (Or.inr (hw _ (List.mem_of_getElem? (i := 14) rfl))) (ty := .int) (by decide)
    have F_hashes_b79 : Fld Z h79 b79 "com/example/auspex/auspex/manager/ConflictTable" "hashes" "[J" .null := D79 (Or.inr (hw _ (List.mem_of_getElem? (i := 17) rfl))) (ty := (.array .long)) (by decide)
    have F_commits_b79 : Fld Z h79 b79 "com/example/auspex/auspex/manager/ConflictTable" "commits" "[J" .null := D79 (Or.inr (hw _ (List.mem_of_getElem? (i := 19) rfl))) (ty := (.array .long)) (by decide)
    have k79 : Go p.tables e below (s₁.setTop (mkF m 51 #[.val (.int p0), .val (.int p1), .val (.int p2), .val (.int p3), .val (.int p4), .val (.int p5), .val (.int (Int32.ofNat B)), .val (.int (Int32.ofNat S)), .val (.int (3 : Int32)), .val (.long y4), .second, .val (.long y5), .second, .val (.long y6), .second, .unset, .unset, .unset, .unset] [])) (T79.setTop (mkF m 54 #[.val (.int p0), .val (.int p1), .val (.int p2), .val (.int p3), .val (.int p4), .val (.int p5), .val (.int (Int32.ofNat B)), .val (.int (Int32.ofNat S)), .val (.int (3 : Int32)), .val (.long y4), .second, .val (.long y5), .second, .val (.long y6), .second, .unset, .unset, .unset, .unset] [(.ref b79)])) := st79
    have k80 : Go p.tables e below (T79.setTop (mkF m 54 #[.val (.int p0), .val (.int p1), .val (.int p2), .val (.int p3), .val (.int p4), .val (.int p5), .val (.int (Int32.ofNat B)), .val (.int (Int32.ofNat S)), .val (.int (3 : Int32)), .val (.long y4), .second, .val (.long y5), .second, .val (.long y6), .second, .unset, .unset, .unset, .unset] [(.ref b79)])) (T79.setTop (mkF m 59 #[.val (.int p0), .val (.int p1), .val (.int p2), .val (.int p3), .val (.int p4), .val (.int p5), .val (.int (Int32.ofNat B)), .val (.int (Int32.ofNat S)), .val (.int (3 : Int32)), .val (.long y4), .second, .val (.long y5), .second, .val (.long y6), .second, .unset, .unset, .unset, .unset] [(.int (Int32.ofNat S)), (.int (Int32.ofNat B)), (.ref b79), (.ref b79)])) := by
      intro t ht
      refine XS.dup X79.here hx rfl (hb hby at_54) rfl rfl ?_
      show Steps p.tables e below (T79.setTop (mkF m 55 #[.val (.int p0), .val (.int p1), .val (.int p2), .val (.int p3), .val (.int p4), .val (.int p5), .val (.int (Int32.ofNat B)), .val (.int (Int32.ofNat S)), .val (.int (3 : Int32)), .val (.long y4), .second, .val (.long y5), .second, .val (.long y6), .second, .unset, .unset, .unset, .unset] [(.ref b79), (.ref b79)])) _
      refine XS.iload X79.here hx rfl (hb hby at_55) rfl ?_
      show Steps p.tables e below (T79.setTop (mkF m 57 #[.val (.int p0), .val (.int p1), .val (.int p2), .val (.int p3), .val (.int p4), .val (.int p5), .val (.int (Int32.ofNat B)), .val (.int (Int32.ofNat S)), .val (.int (3 : Int32)), .val (.long y4), .second, .val (.long y5), .second, .val (.long y6), .second, .unset, .unset, .unset, .unset] [(.int (Int32.ofNat B)), (.ref b79), (.ref b79)])) _
      refine XS.iload X79.here hx rfl (hb hby at_57) rfl ?_
      exact ht
    obtain ⟨_, _, ⟨T81, L81, kq81, n81⟩, -, X81, ⟨Lc81, hQ81, l81, y81, z81⟩, st81⟩ := X79.specialBack hx (y := (⟨"com/example/auspex/auspex/manager/ConflictTable", "<init>", "(II)V"⟩ : MethodName)) rfl hown (mvT hZ (hw _ (List.mem_of_getElem? (i := 4) rfl))) (mvT hZ (hw _ (List.mem_of_getElem? (i := 5) rfl))) (mvT hZ (hw _ (List.mem_of_getElem? (i := 6) rfl))) (by decide) (backOf (W := 1) (rm_init l Z a0 hw [] b79 B S h79 n0 Z79 F_buckets_b79 F_slotsPerBucket_b79 F_hashes_b79 F_commits_b79 A79 g_b79 (hB : 1 ≤ B ∧ B ≤ 4) (hS : 1 ≤ S ∧ S ≤ 3)) hZ (hw _ (List.mem_of_getElem? (i := 6) rfl)) (hw _ (List.mem_of_getElem? (i := 3) rfl)) (by decide) (by decide)) (g := (mkF m 59 #[.val (.int p0), .val (.int p1), .val (.int p2), .val (.int p3), .val (.int p4), .val (.int p5), .val (.int (Int32.ofNat B)), .val (.int (Int32.ofNat S)), .val (.int (3 : Int32)), .val (.long y4), .second, .val (.long y5), .second, .val (.long y6), .second, .unset, .unset, .unset, .unset] [(.int (Int32.ofNat S)), (.int (Int32.ofNat B)), (.ref b79), (.ref b79)])) rfl (by rw [hml]; rfl) (Steps.refl _) (a := b79) (argsL := [(.int (Int32.ofNat B)), (.int (Int32.ofNat S))]) (rest := [(.ref b79)]) (lenOf pd_2 rfl) rfl (by show 2 * 0 + _ ≤ _; exact Nat.le_of_eq rfl) (hb hby at_59) (fun _ _ => ⟨rfl, e79, (by decide : 1 + 2 ≤ _), (by decide : 4 + 24 ≤ _)⟩)
    dsimp only [Pt.U, Pt.locs, Pt.cells, Pt.slots] at X81 l81 y81 z81 st81 hQ81
    subst l81 y81 z81
    obtain ⟨xa_81, xk_81, xc_81, xl_81, rfl, N81q, K81, Pq81_0, Pq81_1, Pq81_2, Fq81_0, Fq81_1, Fq81_2, Fq81_3, Fq81_4, Fq81_5, Fq81_6⟩ := hQ81
    have N81 := Fr.app N0 N81q
    have k81 : Go p.tables e below (T79.setTop (mkF m 59 #[.val (.int p0), .val (.int p1), .val (.int p2), .val (.int p3), .val (.int p4), .val (.int p5), .val (.int (Int32.ofNat B)), .val (.int (Int32.ofNat S)), .val (.int (3 : Int32)), .val (.long y4), .second, .val (.long y5), .second, .val (.long y6), .second, .unset, .unset, .unset, .unset] [(.int (Int32.ofNat S)), (.int (Int32.ofNat B)), (.ref b79), (.ref b79)])) (T81.setTop (mkF m 62 #[.val (.int p0), .val (.int p1), .val (.int p2), .val (.int p3), .val (.int p4), .val (.int p5), .val (.int (Int32.ofNat B)), .val (.int (Int32.ofNat S)), .val (.int (3 : Int32)), .val (.long y4), .second, .val (.long y5), .second, .val (.long y6), .second, .unset, .unset, .unset, .unset] [(.ref b79)])) := fun _ ht => st81.trans ht
    have Kp81 : Keep h0 T81.heap [] := Kp79.trans K81 (allS (Or.inr sz_b79) all0)
    have Z81 : n0 ≤ T81.heap.size := Nat.le_trans Z79 K81.1
    have ne_b79_xa_81 : b79 ≠ xa_81 := Nat.ne_of_lt (Nat.lt_of_lt_of_le A79.lt Pq81_0)
    have g_xa_81 : n0 ≤ xa_81 := Nat.le_trans Z79 Pq81_0
    have sz_xa_81 : h0.size ≤ xa_81 := Nat.le_trans Kp79.1 Pq81_0
    have ne_b79_xc_81 : b79 ≠ xc_81 := Nat.ne_of_lt (Nat.lt_of_lt_of_le A79.lt Pq81_1)
    have g_xc_81 : n0 ≤ xc_81 := Nat.le_trans Z79 Pq81_1
    have sz_xc_81 : h0.size ≤ xc_81 := Nat.le_trans Kp79.1 Pq81_1
    have A79_c_81 := A79.keep K81
    have k82 : Go p.tables e below (T81.setTop (mkF m 62 #[.val (.int p0), .val (.int p1), .val (.int p2), .val (.int p3), .val (.int p4), .val (.int p5), .val (.int (Int32.ofNat B)), .val (.int (Int32.ofNat S)), .val (.int (3 : Int32)), .val (.long y4), .second, .val (.long y5), .second, .val (.long y6), .second, .unset, .unset, .unset, .unset] [(.ref b79)])) (T81.setTop (mkF m 74 #[.val (.int p0), .val (.int p1), .val (.int p2), .val (.int p3), .val (.int p4), .val (.int p5), .val (.int (Int32.ofNat B)), .val (.int (Int32.ofNat S)), .val (.int (3 : Int32)), .val (.long y4), .second, .val (.long y5), .second, .val (.long y6), .second, .val (.ref b79), .unset, .unset, .unset] [(.int (1 : Int32)), (.long (1 : Int64)), (.ref b79)])) := by
      intro t ht
      refine XS.astore X81.here hx rfl (hb hby at_62) rfl rfl (l' := #[.val (.int p0), .val (.int p1), .val (.int p2), .val (.int p3), .val (.int p4), .val (.int p5), .val (.int (Int32.ofNat B)), .val (.int (Int32.ofNat S)), .val (.int (3 : Int32)), .val (.long y4), .second, .val (.long y5), .second, .val (.long y6), .second, .val (.ref b79), .unset, .unset, .unset]) rfl ?_
      show Steps p.tables e below (T81.setTop (mkF m 64 #[.val (.int p0), .val (.int p1), .val (.int p2), .val (.int p3), .val (.int p4), .val (.int p5), .val (.int (Int32.ofNat B)), .val (.int (Int32.ofNat S)), .val (.int (3 : Int32)), .val (.long y4), .second, .val (.long y5), .second, .val (.long y6), .second, .val (.ref b79), .unset, .unset, .unset] [])) _
      refine XS.iload X81.here hx rfl (hb hby at_64) rfl ?_
      show Steps p.tables e below (T81.setTop (mkF m 66 #[.val (.int p0), .val (.int p1), .val (.int p2), .val (.int p3), .val (.int p4), .val (.int p5), .val (.int (Int32.ofNat B)), .val (.int (Int32.ofNat S)), .val (.int (3 : Int32)), .val (.long y4), .second, .val (.long y5), .second, .val (.long y6), .second, .val (.ref b79), .unset, .unset, .unset] [(.int (3 : Int32))])) _
      refine XS.iconst X81.here hx rfl (hb hby at_66) ?_
      show Steps p.tables e below (T81.setTop (mkF m 67 #[.val (.int p0), .val (.int p1), .val (.int p2), .val (.int p3), .val (.int p4), .val (.int p5), .val (.int (Int32.ofNat B)), .val (.int (Int32.ofNat S)), .val (.int (3 : Int32)), .val (.long y4), .second, .val (.long y5), .second, .val (.long y6), .second, .val (.ref b79), .unset, .unset, .unset] [(.int (1 : Int32)), (.int (3 : Int32))])) _
      refine XS.icmpNo X81.here hx rfl (hb hby at_67) rfl (flt (by decide : ¬ ((3 : Int32) < (1 : Int32)))).1 ?_
      show Steps p.tables e below (T81.setTop (mkF m 70 #[.val (.int p0), .val (.int p1), .val (.int p2), .val (.int p3), .val (.int p4), .val (.int p5), .val (.int (Int32.ofNat B)), .val (.int (Int32.ofNat S)), .val (.int (3 : Int32)), .val (.long y4), .second, .val (.long y5), .second, .val (.long y6), .second, .val (.ref b79), .unset, .unset, .unset] [])) _
      refine XS.aload X81.here hx rfl (hb hby at_70) rfl rfl ?_
      show Steps p.tables e below (T81.setTop (mkF m 72 #[.val (.int p0), .val (.int p1), .val (.int p2), .val (.int p3), .val (.int p4), .val (.int p5), .val (.int (Int32.ofNat B)), .val (.int (Int32.ofNat S)), .val (.int (3 : Int32)), .val (.long y4), .second, .val (.long y5), .second, .val (.long y6), .second, .val (.ref b79), .unset, .unset, .unset] [(.ref b79)])) _
      refine XS.lconst X81.here hx rfl (hb hby at_72) ?_
      show Steps p.tables e below (T81.setTop (mkF m 73 #[.val (.int p0), .val (.int p1), .val (.int p2), .val (.int p3), .val (.int p4), .val (.int p5), .val (.int (Int32.ofNat B)), .val (.int (Int32.ofNat S)), .val (.int (3 : Int32)), .val (.long y4), .second, .val (.long y5), .second, .val (.long y6), .second, .val (.ref b79), .unset, .unset, .unset] [(.long (1 : Int64)), (.ref b79)])) _
      refine XS.iconst X81.here hx rfl (hb hby at_73) ?_
      exact ht
    obtain ⟨T83, h83, kc83, X83, e83, E83, A83, st83⟩ := newP X81 hx hZ (hw _ (List.mem_of_getElem? (i := 15) rfl)) rfl (g := (mkF m 74 #[.val (.int p0), .val (.int p1), .val (.int p2), .val (.int p3), .val (.int p4), .val (.int p5), .val (.int (Int32.ofNat B)), .val (.int (Int32.ofNat S)), .val (.int (3 : Int32)), .val (.long y4), .second, .val (.long y5), .second, .val (.long y6), .second, .val (.ref b79), .unset, .unset, .unset] [(.int (1 : Int32)), (.long (1 : Int64)), (.ref b79)])) rfl (hb hby at_74) rfl (by decide) (cap := 1) (by decide) (by decide) (by decide) (by decide)
    obtain ⟨b83, g83⟩ : ∃ z, z = T81.heap.size := ⟨_, rfl⟩
    rw [← g83] at A83 st83
    have g_b83 : n0 ≤ b83 := Nat.le_trans Z81 (Nat.le_of_eq g83.symm)
    have sz_b83 : h0.size ≤ b83 := Nat.le_trans Kp81.1 (Nat.le_of_eq g83.symm)
    have ne_b79_b83 : b79 ≠ b83 := Nat.ne_of_lt (Nat.lt_of_lt_of_le Fq81_0.lt (Nat.le_of_eq g83.symm))
    have ne_xa_81_b83 : xa_81 ≠ b83 := Nat.ne_of_lt (Nat.lt_of_lt_of_le Fq81_5.lt (Nat.le_of_eq g83.symm))
    have ne_xc_81_b83 : xc_81 ≠ b83 := Nat.ne_of_lt (Nat.lt_of_lt_of_le Fq81_6.lt (Nat.le_of_eq g83.symm))
    have Kp83 : Keep h0 h83 [] := Kp81.ext E83
    have Z83 : n0 ≤ h83.size := Nat.le_trans Z81 E83.1
    have Fq81_0_c_83 := Fq81_0.ext E83
    have Fq81_1_c_83 := Fq81_1.ext E83
    have Fq81_2_c_83 := Fq81_2.ext E83
    have Fq81_3_c_83 := Fq81_3.ext E83
    have Fq81_4_c_83 := Fq81_4.ext E83
    have Fq81_5_c_83 := Fq81_5.ext E83
    have Fq81_6_c_83 := Fq81_6.ext E83
    have V_b83 : Arv Z h83 b83 kc83 .long (1 : Int32) [(.long (0 : Int64))] (.long (0 : Int64)) := (Arv.new A83 (by decide)).pad (pad_rep [] (.long (0 : Int64)) 1)
    have k83 : Go p.tables e below (T81.setTop (mkF m 74 #[.val (.int p0), .val (.int p1), .val (.int p2), .val (.int p3), .val (.int p4), .val (.int p5), .val (.int (Int32.ofNat B)), .val (.int (Int32.ofNat S)), .val (.int (3 : Int32)), .val (.long y4), .second, .val (.long y5), .second, .val (.long y6), .second, .val (.ref b79), .unset, .unset, .unset] [(.int (1 : Int32)), (.long (1 : Int64)), (.ref b79)])) (T83.setTop (mkF m 76 #[.val (.int p0), .val (.int p1), .val (.int p2), .val (.int p3), .val (.int p4), .val (.int p5), .val (.int (Int32.ofNat B)), .val (.int (Int32.ofNat S)), .val (.int (3 : Int32)), .val (.long y4), .second, .val (.long y5), .second, .val (.long y6), .second, .val (.ref b79), .unset, .unset, .unset] [(.ref b83), (.long (1 : Int64)), (.ref b79)])) := st83
    have k84 : Go p.tables e below (T83.setTop (mkF m 76 #[.val (.int p0), .val (.int p1), .val (.int p2), .val (.int p3), .val (.int p4), .val (.int p5), .val (.int (Int32.ofNat B)), .val (.int (Int32.ofNat S)), .val (.int (3 : Int32)), .val (.long y4), .second, .val (.long y5), .second, .val (.long y6), .second, .val (.ref b79), .unset, .unset, .unset] [(.ref b83), (.long (1 : Int64)), (.ref b79)])) (T83.setTop (mkF m 80 #[.val (.int p0), .val (.int p1), .val (.int p2), .val (.int p3), .val (.int p4), .val (.int p5), .val (.int (Int32.ofNat B)), .val (.int (Int32.ofNat S)), .val (.int (3 : Int32)), .val (.long y4), .second, .val (.long y5), .second, .val (.long y6), .second, .val (.ref b79), .unset, .unset, .unset] [(.long y4), (.int (0 : Int32)), (.ref b83), (.ref b83), (.long (1 : Int64)), (.ref b79)])) := by
      intro t ht
      refine XS.dup X83.here hx rfl (hb hby at_76) rfl rfl ?_
      show Steps p.tables e below (T83.setTop (mkF m 77 #[.val (.int p0), .val (.int p1), .val (.int p2), .val (.int p3), .val (.int p4), .val (.int p5), .val (.int (Int32.ofNat B)), .val (.int (Int32.ofNat S)), .val (.int (3 : Int32)), .val (.long y4), .second, .val (.long y5), .second, .val (.long y6), .second, .val (.ref b79), .unset, .unset, .unset] [(.ref b83), (.ref b83), (.long (1 : Int64)), (.ref b79)])) _
      refine XS.iconst X83.here hx rfl (hb hby at_77) ?_
      show Steps p.tables e below (T83.setTop (mkF m 78 #[.val (.int p0), .val (.int p1), .val (.int p2), .val (.int p3), .val (.int p4), .val (.int p5), .val (.int (Int32.ofNat B)), .val (.int (Int32.ofNat S)), .val (.int (3 : Int32)), .val (.long y4), .second, .val (.long y5), .second, .val (.long y6), .second, .val (.ref b79), .unset, .unset, .unset] [(.int (0 : Int32)), (.ref b83), (.ref b83), (.long (1 : Int64)), (.ref b79)])) _
      refine XS.lload X83.here hx rfl (hb hby at_78) rfl ?_
      exact ht
    obtain ⟨cl85, Ar85, q85, S85, M85, H85, G85⟩ := id V_b83
    have hin85 : ¬ ((0 : Int32) < 0 ∨ cl85.slots.size ≤ ((0 : Int32)).toNatClampNeg) := inb_of S85 ⟨by decide, by decide⟩
    obtain ⟨T85, h85, X85, e85, W85, st85⟩ := stJ X83 hx hZ e83 Ar85 (j := (0 : Int32)) hin85 (g := (mkF m 80 #[.val (.int p0), .val (.int p1), .val (.int p2), .val (.int p3), .val (.int p4), .val (.int p5), .val (.int (Int32.ofNat B)), .val (.int (Int32.ofNat S)), .val (.int (3 : Int32)), .val (.long y4), .second, .val (.long y5), .second, .val (.long y6), .second, .val (.ref b79), .unset, .unset, .unset] [(.long y4), (.int (0 : Int32)), (.ref b83), (.ref b83), (.long (1 : Int64)), (.ref b79)])) rfl rfl (hb hby at_80)
    have V85_b83 : Arv Z h85 b83 kc83 .long (1 : Int32) [(.long y4)] (.long (0 : Int64)) := Arv.set Ar85 q85 S85 M85 H85 G85 rfl W85 0 rfl (Nat.le_of_ble_eq_true rfl)
    have Kp85 : Keep h0 h85 [] := Kp83.wr W85 (Or.inr sz_b83)
    have Z85 : n0 ≤ h85.size := Nat.le_trans Z83 (Keep.of_wr W85).1
    have Fq81_0_c_85 := Fq81_0_c_83.wr W85
    have Fq81_1_c_85 := Fq81_1_c_83.other W85 (Or.inl ne_b79_b83)
    have Fq81_2_c_85 := Fq81_2_c_83.other W85 (Or.inl ne_b79_b83)
    have Fq81_3_c_85 := Fq81_3_c_83.other W85 (Or.inl ne_b79_b83)
    have Fq81_4_c_85 := Fq81_4_c_83.other W85 (Or.inl ne_b79_b83)
    have Fq81_5_c_85 := Fq81_5_c_83.other W85 ne_xa_81_b83
    have Fq81_6_c_85 := Fq81_6_c_83.other W85 ne_xc_81_b83
    have k85 : Go p.tables e below (T83.setTop (mkF m 80 #[.val (.int p0), .val (.int p1), .val (.int p2), .val (.int p3), .val (.int p4), .val (.int p5), .val (.int (Int32.ofNat B)), .val (.int (Int32.ofNat S)), .val (.int (3 : Int32)), .val (.long y4), .second, .val (.long y5), .second, .val (.long y6), .second, .val (.ref b79), .unset, .unset, .unset] [(.long y4), (.int (0 : Int32)), (.ref b83), (.ref b83), (.long (1 : Int64)), (.ref b79)])) (T85.setTop (mkF m 81 #[.val (.int p0), .val (.int p1), .val (.int p2), .val (.int p3), .val (.int p4), .val (.int p5), .val (.int (Int32.ofNat B)), .val (.int (Int32.ofNat S)), .val (.int (3 : Int32)), .val (.long y4), .second, .val (.long y5), .second, .val (.long y6), .second, .val (.ref b79), .unset, .unset, .unset] [(.ref b83), (.long (1 : Int64)), (.ref b79)])) := st85
    have N85 := Fr.snoc X85 N81 g_b83
    obtain ⟨cq86, kq86, q86a, q86b, q86c⟩ := isOf hZ e85 Fq81_0_c_85
    obtain ⟨_, _, ⟨T86, L86, kq86, n86⟩, -, X86, ⟨Lc86, hQ86, l86, y86, z86⟩, st86⟩ := X85.virtualBack hx (y := (⟨"com/example/auspex/auspex/manager/ConflictTable", "record", "(J[J)V"⟩ : MethodName)) (z := (⟨"com/example/auspex/auspex/manager/ConflictTable", "record", "(J[J)V"⟩ : MethodName)) hown (mvT hZ (hw _ (List.mem_of_getElem? (i := 20) rfl))) (mvT hZ (hw _ (List.mem_of_getElem? (i := 21) rfl))) (notFace_of_selects (args := #[]) (mvT hZ (hw _ (List.mem_of_getElem? (i := 23) rfl)))) (mvT hZ (hw _ (List.mem_of_getElem? (i := 23) rfl))) (mvT hZ (hw _ (List.mem_of_getElem? (i := 22) rfl))) (by decide) (backOf (W := 0) (rm_record l Z a0 hw [] b79 (1 : Int64) b83 B S xa_81 xc_81 xk_81 xl_81 kc83 own_Z own_Z y4 h85 n0 Z85 Fq81_1_c_85 Fq81_2_c_85 Fq81_3_c_85 Fq81_4_c_85 Fq81_0_c_85 Fq81_5_c_85 Fq81_6_c_85 V85_b83 g_xa_81 g_xc_81 (hB : 1 ≤ B ∧ B ≤ 4) (hS : 1 ≤ S ∧ S ≤ 3) (hH0 : own_H y4) (by simp [own_Z] : own_Z.length = 12) (by simp [own_Z] : own_Z.length = 12) (Pq81_2 : xa_81 ≠ xc_81) (ne_b79_xa_81 : b79 ≠ xa_81) (ne_b79_xc_81 : b79 ≠ xc_81)) hZ (hw _ (List.mem_of_getElem? (i := 24) rfl)) (hw _ (List.mem_of_getElem? (i := 3) rfl)) (by decide) (by decide)) q86a q86c (g := (mkF m 81 #[.val (.int p0), .val (.int p1), .val (.int p2), .val (.int p3), .val (.int p4), .val (.int p5), .val (.int (Int32.ofNat B)), .val (.int (Int32.ofNat S)), .val (.int (3 : Int32)), .val (.long y4), .second, .val (.long y5), .second, .val (.long y6), .second, .val (.ref b79), .unset, .unset, .unset] [(.ref b83), (.long (1 : Int64)), (.ref b79)])) rfl (by rw [hml]; rfl) (Steps.refl _) (argsL := [(.long (1 : Int64)), (.ref b83)]) (rest := []) (lenOf pd_5 rfl) rfl (by show 2 * 0 + _ ≤ _; exact Nat.le_of_eq rfl) (hb hby at_81) (fun _ _ => ⟨rfl, e85, (by decide : 4 + 0 ≤ _), (by decide : 29 + 0 ≤ _)⟩)
    dsimp only [Pt.U, Pt.locs, Pt.cells, Pt.slots] at X86 l86 y86 z86 st86 hQ86
    subst l86 y86 z86
    obtain ⟨rfl, N86q, K86, Fq86_0, Fq86_1, Fq86_2, Fq86_3, Fq86_4, Fq86_5, Fq86_6⟩ := hQ86
    have N86 := Fr.app N85 N86q
    have k86 : Go p.tables e below (T85.setTop (mkF m 81 #[.val (.int p0), .val (.int p1), .val (.int p2), .val (.int p3), .val (.int p4), .val (.int p5), .val (.int (Int32.ofNat B)), .val (.int (Int32.ofNat S)), .val (.int (3 : Int32)), .val (.long y4), .second, .val (.long y5), .second, .val (.long y6), .second, .val (.ref b79), .unset, .unset, .unset] [(.ref b83), (.long (1 : Int64)), (.ref b79)])) (T86.setTop (mkF m 84 #[.val (.int p0), .val (.int p1), .val (.int p2), .val (.int p3), .val (.int p4), .val (.int p5), .val (.int (Int32.ofNat B)), .val (.int (Int32.ofNat S)), .val (.int (3 : Int32)), .val (.long y4), .second, .val (.long y5), .second, .val (.long y6), .second, .val (.ref b79), .unset, .unset, .unset] [])) := fun _ ht => st86.trans ht
    have Kp86 : Keep h0 T86.heap [] := Kp85.trans K86 (allS (Or.inr sz_xa_81) (allS (Or.inr sz_xc_81) all0))
    have Z86 : n0 ≤ T86.heap.size := Nat.le_trans Z85 K86.1
    have Fq81_0_c_86 := Fq81_0_c_85.keep K86
    have Fq81_1_c_86 := Fq81_1_c_85.keep K86 (ninS ne_b79_xa_81 (ninS ne_b79_xc_81 nin0))
    have Fq81_2_c_86 := Fq81_2_c_85.keep K86 (ninS ne_b79_xa_81 (ninS ne_b79_xc_81 nin0))
    have Fq81_3_c_86 := Fq81_3_c_85.keep K86 (ninS ne_b79_xa_81 (ninS ne_b79_xc_81 nin0))
    have Fq81_4_c_86 := Fq81_4_c_85.keep K86 (ninS ne_b79_xa_81 (ninS ne_b79_xc_81 nin0))
    have V85_b83_c_86 := V85_b83.keep K86 (ninS (Ne.symm ne_xa_81_b83) (ninS (Ne.symm ne_xc_81_b83) nin0))
    have k87 : Go p.tables e below (T86.setTop (mkF m 84 #[.val (.int p0), .val (.int p1), .val (.int p2), .val (.int p3), .val (.int p4), .val (.int p5), .val (.int (Int32.ofNat B)), .val (.int (Int32.ofNat S)), .val (.int (3 : Int32)), .val (.long y4), .second, .val (.long y5), .second, .val (.long y6), .second, .val (.ref b79), .unset, .unset, .unset] [])) (T86.setTop (mkF m 96 #[.val (.int p0), .val (.int p1), .val (.int p2), .val (.int p3), .val (.int p4), .val (.int p5), .val (.int (Int32.ofNat B)), .val (.int (Int32.ofNat S)), .val (.int (3 : Int32)), .val (.long y4), .second, .val (.long y5), .second, .val (.long y6), .second, .val (.ref b79), .unset, .unset, .unset] [(.int (1 : Int32)), (.long (2 : Int64)), (.ref b79)])) := by
      intro t ht
      refine XS.iload X86.here hx rfl (hb hby at_84) rfl ?_
      show Steps p.tables e below (T86.setTop (mkF m 86 #[.val (.int p0), .val (.int p1), .val (.int p2), .val (.int p3), .val (.int p4), .val (.int p5), .val (.int (Int32.ofNat B)), .val (.int (Int32.ofNat S)), .val (.int (3 : Int32)), .val (.long y4), .second, .val (.long y5), .second, .val (.long y6), .second, .val (.ref b79), .unset, .unset, .unset] [(.int (3 : Int32))])) _
      refine XS.iconst X86.here hx rfl (hb hby at_86) ?_
      show Steps p.tables e below (T86.setTop (mkF m 87 #[.val (.int p0), .val (.int p1), .val (.int p2), .val (.int p3), .val (.int p4), .val (.int p5), .val (.int (Int32.ofNat B)), .val (.int (Int32.ofNat S)), .val (.int (3 : Int32)), .val (.long y4), .second, .val (.long y5), .second, .val (.long y6), .second, .val (.ref b79), .unset, .unset, .unset] [(.int (2 : Int32)), (.int (3 : Int32))])) _
      refine XS.icmpNo X86.here hx rfl (hb hby at_87) rfl (flt (by decide : ¬ ((3 : Int32) < (2 : Int32)))).1 ?_
      show Steps p.tables e below (T86.setTop (mkF m 90 #[.val (.int p0), .val (.int p1), .val (.int p2), .val (.int p3), .val (.int p4), .val (.int p5), .val (.int (Int32.ofNat B)), .val (.int (Int32.ofNat S)), .val (.int (3 : Int32)), .val (.long y4), .second, .val (.long y5), .second, .val (.long y6), .second, .val (.ref b79), .unset, .unset, .unset] [])) _
      refine XS.aload X86.here hx rfl (hb hby at_90) rfl rfl ?_
      show Steps p.tables e below (T86.setTop (mkF m 92 #[.val (.int p0), .val (.int p1), .val (.int p2), .val (.int p3), .val (.int p4), .val (.int p5), .val (.int (Int32.ofNat B)), .val (.int (Int32.ofNat S)), .val (.int (3 : Int32)), .val (.long y4), .second, .val (.long y5), .second, .val (.long y6), .second, .val (.ref b79), .unset, .unset, .unset] [(.ref b79)])) _
      refine X86.ldc2Long hx hown (mvT hZ (hw _ (List.mem_of_getElem? (i := 34) rfl))) (g := (mkF m 92 #[.val (.int p0), .val (.int p1), .val (.int p2), .val (.int p3), .val (.int p4), .val (.int p5), .val (.int (Int32.ofNat B)), .val (.int (Int32.ofNat S)), .val (.int (3 : Int32)), .val (.long y4), .second, .val (.long y5), .second, .val (.long y6), .second, .val (.ref b79), .unset, .unset, .unset] [(.ref b79)])) rfl (hb hby at_92) _ ?_
      show Steps p.tables e below (T86.setTop (mkF m 95 #[.val (.int p0), .val (.int p1), .val (.int p2), .val (.int p3), .val (.int p4), .val (.int p5), .val (.int (Int32.ofNat B)), .val (.int (Int32.ofNat S)), .val (.int (3 : Int32)), .val (.long y4), .second, .val (.long y5), .second, .val (.long y6), .second, .val (.ref b79), .unset, .unset, .unset] [(.long (2 : Int64)), (.ref b79)])) _
      refine XS.iconst X86.here hx rfl (hb hby at_95) ?_
      exact ht
    obtain ⟨T88, h88, kc88, X88, e88, E88, A88, st88⟩ := newP X86 hx hZ (hw _ (List.mem_of_getElem? (i := 15) rfl)) rfl (g := (mkF m 96 #[.val (.int p0), .val (.int p1), .val (.int p2), .val (.int p3), .val (.int p4), .val (.int p5), .val (.int (Int32.ofNat B)), .val (.int (Int32.ofNat S)), .val (.int (3 : Int32)), .val (.long y4), .second, .val (.long y5), .second, .val (.long y6), .second, .val (.ref b79), .unset, .unset, .unset] [(.int (1 : Int32)), (.long (2 : Int64)), (.ref b79)])) rfl (hb hby at_96) rfl (by decide) (cap := 1) (by decide) (by decide) (by decide) (by decide)
    obtain ⟨b88, g88⟩ : ∃ z, z = T86.heap.size := ⟨_, rfl⟩
    rw [← g88] at A88 st88
    have g_b88 : n0 ≤ b88 := Nat.le_trans Z86 (Nat.le_of_eq g88.symm)
    have sz_b88 : h0.size ≤ b88 := Nat.le_trans Kp86.1 (Nat.le_of_eq g88.symm)
    have ne_b79_b88 : b79 ≠ b88 := Nat.ne_of_lt (Nat.lt_of_lt_of_le Fq86_0.lt (Nat.le_of_eq g88.symm))
    have ne_b83_b88 : b83 ≠ b88 := Nat.ne_of_lt (Nat.lt_of_lt_of_le V85_b83_c_86.lt (Nat.le_of_eq g88.symm))
    have ne_xa_81_b88 : xa_81 ≠ b88 := Nat.ne_of_lt (Nat.lt_of_lt_of_le Fq86_5.lt (Nat.le_of_eq g88.symm))
    have ne_xc_81_b88 : xc_81 ≠ b88 := Nat.ne_of_lt (Nat.lt_of_lt_of_le Fq86_6.lt (Nat.le_of_eq g88.symm))
    have Kp88 : Keep h0 h88 [] := Kp86.ext E88
    have Z88 : n0 ≤ h88.size := Nat.le_trans Z86 E88.1
    have Fq86_0_c_88 := Fq86_0.ext E88
    have Fq86_1_c_88 := Fq86_1.ext E88
    have Fq86_2_c_88 := Fq86_2.ext E88
    have Fq86_3_c_88 := Fq86_3.ext E88
    have Fq86_4_c_88 := Fq86_4.ext E88
    have V85_b83_c_88 := V85_b83_c_86.ext E88
    have Fq86_5_c_88 := Fq86_5.ext E88
    have Fq86_6_c_88 := Fq86_6.ext E88
    have V_b88 : Arv Z h88 b88 kc88 .long (1 : Int32) [(.long (0 : Int64))] (.long (0 : Int64)) := (Arv.new A88 (by decide)).pad (pad_rep [] (.long (0 : Int64)) 1)
    have k88 : Go p.tables e below (T86.setTop (mkF m 96 #[.val (.int p0), .val (.int p1), .val (.int p2), .val (.int p3), .val (.int p4), .val (.int p5), .val (.int (Int32.ofNat B)), .val (.int (Int32.ofNat S)), .val (.int (3 : Int32)), .val (.long y4), .second, .val (.long y5), .second, .val (.long y6), .second, .val (.ref b79), .unset, .unset, .unset] [(.int (1 : Int32)), (.long (2 : Int64)), (.ref b79)])) (T88.setTop (mkF m 98 #[.val (.int p0), .val (.int p1), .val (.int p2), .val (.int p3), .val (.int p4), .val (.int p5), .val (.int (Int32.ofNat B)), .val (.int (Int32.ofNat S)), .val (.int (3 : Int32)), .val (.long y4), .second, .val (.long y5), .second, .val (.long y6), .second, .val (.ref b79), .unset, .unset, .unset] [(.ref b88), (.long (2 : Int64)), (.ref b79)])) := st88
    have k89 : Go p.tables e below (T88.setTop (mkF m 98 #[.val (.int p0), .val (.int p1), .val (.int p2), .val (.int p3), .val (.int p4), .val (.int p5), .val (.int (Int32.ofNat B)), .val (.int (Int32.ofNat S)), .val (.int (3 : Int32)), .val (.long y4), .second, .val (.long y5), .second, .val (.long y6), .second, .val (.ref b79), .unset, .unset, .unset] [(.ref b88), (.long (2 : Int64)), (.ref b79)])) (T88.setTop (mkF m 102 #[.val (.int p0), .val (.int p1), .val (.int p2), .val (.int p3), .val (.int p4), .val (.int p5), .val (.int (Int32.ofNat B)), .val (.int (Int32.ofNat S)), .val (.int (3 : Int32)), .val (.long y4), .second, .val (.long y5), .second, .val (.long y6), .second, .val (.ref b79), .unset, .unset, .unset] [(.long y5), (.int (0 : Int32)), (.ref b88), (.ref b88), (.long (2 : Int64)), (.ref b79)])) := by
      intro t ht
      refine XS.dup X88.here hx rfl (hb hby at_98) rfl rfl ?_
      show Steps p.tables e below (T88.setTop (mkF m 99 #[.val (.int p0), .val (.int p1), .val (.int p2), .val (.int p3), .val (.int p4), .val (.int p5), .val (.int (Int32.ofNat B)), .val (.int (Int32.ofNat S)), .val (.int (3 : Int32)), .val (.long y4), .second, .val (.long y5), .second, .val (.long y6), .second, .val (.ref b79), .unset, .unset, .unset] [(.ref b88), (.ref b88), (.long (2 : Int64)), (.ref b79)])) _
      refine XS.iconst X88.here hx rfl (hb hby at_99) ?_
      show Steps p.tables e below (T88.setTop (mkF m 100 #[.val (.int p0), .val (.int p1), .val (.int p2), .val (.int p3), .val (.int p4), .val (.int p5), .val (.int (Int32.ofNat B)), .val (.int (Int32.ofNat S)), .val (.int (3 : Int32)), .val (.long y4), .second, .val (.long y5), .second, .val (.long y6), .second, .val (.ref b79), .unset, .unset, .unset] [(.int (0 : Int32)), (.ref b88), (.ref b88), (.long (2 : Int64)), (.ref b79)])) _
      refine XS.lload X88.here hx rfl (hb hby at_100) rfl ?_
      exact ht
    obtain ⟨cl90, Ar90, q90, S90, M90, H90, G90⟩ := id V_b88
    have hin90 : ¬ ((0 : Int32) < 0 ∨ cl90.slots.size ≤ ((0 : Int32)).toNatClampNeg) := inb_of S90 ⟨by decide, by decide⟩
    obtain ⟨T90, h90, X90, e90, W90, st90⟩ := stJ X88 hx hZ e88 Ar90 (j := (0 : Int32)) hin90 (g := (mkF m 102 #[.val (.int p0), .val (.int p1), .val (.int p2), .val (.int p3), .val (.int p4), .val (.int p5), .val (.int (Int32.ofNat B)), .val (.int (Int32.ofNat S)), .val (.int (3 : Int32)), .val (.long y4), .second, .val (.long y5), .second, .val (.long y6), .second, .val (.ref b79), .unset, .unset, .unset] [(.long y5), (.int (0 : Int32)), (.ref b88), (.ref b88), (.long (2 : Int64)), (.ref b79)])) rfl rfl (hb hby at_102)
    have V90_b88 : Arv Z h90 b88 kc88 .long (1 : Int32) [(.long y5)] (.long (0 : Int64)) := Arv.set Ar90 q90 S90 M90 H90 G90 rfl W90 0 rfl (Nat.le_of_ble_eq_true rfl)
    have Kp90 : Keep h0 h90 [] := Kp88.wr W90 (Or.inr sz_b88)
    have Z90 : n0 ≤ h90.size := Nat.le_trans Z88 (Keep.of_wr W90).1
    have Fq86_0_c_90 := Fq86_0_c_88.wr W90
    have Fq86_1_c_90 := Fq86_1_c_88.other W90 (Or.inl ne_b79_b88)
    have Fq86_2_c_90 := Fq86_2_c_88.other W90 (Or.inl ne_b79_b88)
    have Fq86_3_c_90 := Fq86_3_c_88.other W90 (Or.inl ne_b79_b88)
    have Fq86_4_c_90 := Fq86_4_c_88.other W90 (Or.inl ne_b79_b88)
    have V85_b83_c_90 := V85_b83_c_88.other W90 ne_b83_b88
    have Fq86_5_c_90 := Fq86_5_c_88.other W90 ne_xa_81_b88
    have Fq86_6_c_90 := Fq86_6_c_88.other W90 ne_xc_81_b88
    have k90 : Go p.tables e below (T88.setTop (mkF m 102 #[.val (.int p0), .val (.int p1), .val (.int p2), .val (.int p3), .val (.int p4), .val (.int p5), .val (.int (Int32.ofNat B)), .val (.int (Int32.ofNat S)), .val (.int (3 : Int32)), .val (.long y4), .second, .val (.long y5), .second, .val (.long y6), .second, .val (.ref b79), .unset, .unset, .unset] [(.long y5), (.int (0 : Int32)), (.ref b88), (.ref b88), (.long (2 : Int64)), (.ref b79)])) (T90.setTop (mkF m 103 #[.val (.int p0), .val (.int p1), .val (.int p2), .val (.int p3), .val (.int p4), .val (.int p5), .val (.int (Int32.ofNat B)), .val (.int (Int32.ofNat S)), .val (.int (3 : Int32)), .val (.long y4), .second, .val (.long y5), .second, .val (.long y6), .second, .val (.ref b79), .unset, .unset, .unset] [(.ref b88), (.long (2 : Int64)), (.ref b79)])) := st90
    have N90 := Fr.snoc X90 N86 g_b88
    obtain ⟨cq91, kq91, q91a, q91b, q91c⟩ := isOf hZ e90 Fq86_0_c_90
    obtain ⟨_, _, ⟨T91, L91, kq91, n91⟩, -, X91, ⟨Lc91, hQ91, l91, y91, z91⟩, st91⟩ := X90.virtualBack hx (y := (⟨"com/example/auspex/auspex/manager/ConflictTable", "record", "(J[J)V"⟩ : MethodName)) (z := (⟨"com/example/auspex/auspex/manager/ConflictTable", "record", "(J[J)V"⟩ : MethodName)) hown (mvT hZ (hw _ (List.mem_of_getElem? (i := 20) rfl))) (mvT hZ (hw _ (List.mem_of_getElem? (i := 21) rfl))) (notFace_of_selects (args := #[]) (mvT hZ (hw _ (List.mem_of_getElem? (i := 23) rfl)))) (mvT hZ (hw _ (List.mem_of_getElem? (i := 23) rfl))) (mvT hZ (hw _ (List.mem_of_getElem? (i := 22) rfl))) (by decide) (backOf (W := 0) (rm_record l Z a0 hw [] b79 (2 : Int64) b88 B S xa_81 xc_81 xk_81 xl_81 kc88 (own_Z.set ((own_n y4 B S) + (f_rec00 (own_n y4 B S) S y4 own_Z own_Z)) y4) (own_Z.set ((own_n y4 B S) + (f_rec00 (own_n y4 B S) S y4 own_Z own_Z)) (1 : Int64)) y5 h90 n0 Z90 Fq86_1_c_90 Fq86_2_c_90 Fq86_3_c_90 Fq86_4_c_90 Fq86_0_c_90 Fq86_5_c_90 Fq86_6_c_90 V90_b88 g_xa_81 g_xc_81 (hB : 1 ≤ B ∧ B ≤ 4) (hS : 1 ≤ S ∧ S ≤ 3) (hH1 : own_H y5) (by simp [own_Z] : (own_Z.set ((own_n y4 B S) + (f_rec00 (own_n y4 B S) S y4 own_Z own_Z)) y4).length = 12) (by simp [own_Z] : (own_Z.set ((own_n y4 B S) + (f_rec00 (own_n y4 B S) S y4 own_Z own_Z)) (1 : Int64)).length = 12) (Pq81_2 : xa_81 ≠ xc_81) (ne_b79_xa_81 : b79 ≠ xa_81) (ne_b79_xc_81 : b79 ≠ xc_81)) hZ (hw _ (List.mem_of_getElem? (i := 24) rfl)) (hw _ (List.mem_of_getElem? (i := 3) rfl)) (by decide) (by decide)) q91a q91c (g := (mkF m 103 #[.val (.int p0), .val (.int p1), .val (.int p2), .val (.int p3), .val (.int p4), .val (.int p5), .val (.int (Int32.ofNat B)), .val (.int (Int32.ofNat S)), .val (.int (3 : Int32)), .val (.long y4), .second, .val (.long y5), .second, .val (.long y6), .second, .val (.ref b79), .unset, .unset, .unset] [(.ref b88), (.long (2 : Int64)), (.ref b79)])) rfl (by rw [hml]; rfl) (Steps.refl _) (argsL := [(.long (2 : Int64)), (.ref b88)]) (rest := []) (lenOf pd_5 rfl) rfl (by show 2 * 0 + _ ≤ _; exact Nat.le_of_eq rfl) (hb hby at_103) (fun _ _ => ⟨rfl, e90, (by decide : 5 + 0 ≤ _), (by decide : 30 + 0 ≤ _)⟩)
    dsimp only [Pt.U, Pt.locs, Pt.cells, Pt.slots] at X91 l91 y91 z91 st91 hQ91
    subst l91 y91 z91
    obtain ⟨rfl, N91q, K91, Fq91_0, Fq91_1, Fq91_2, Fq91_3, Fq91_4, Fq91_5, Fq91_6⟩ := hQ91
    have N91 := Fr.app N90 N91q
    have k91 : Go p.tables e below (T90.setTop (mkF m 103 #[.val (.int p0), .val (.int p1), .val (.int p2), .val (.int p3), .val (.int p4), .val (.int p5), .val (.int (Int32.ofNat B)), .val (.int (Int32.ofNat S)), .val (.int (3 : Int32)), .val (.long y4), .second, .val (.long y5), .second, .val (.long y6), .second, .val (.ref b79), .unset, .unset, .unset] [(.ref b88), (.long (2 : Int64)), (.ref b79)])) (T91.setTop (mkF m 106 #[.val (.int p0), .val (.int p1), .val (.int p2), .val (.int p3), .val (.int p4), .val (.int p5), .val (.int (Int32.ofNat B)), .val (.int (Int32.ofNat S)), .val (.int (3 : Int32)), .val (.long y4), .second, .val (.long y5), .second, .val (.long y6), .second, .val (.ref b79), .unset, .unset, .unset] [])) := fun _ ht => st91.trans ht
    have Kp91 : Keep h0 T91.heap [] := Kp90.trans K91 (allS (Or.inr sz_xa_81) (allS (Or.inr sz_xc_81) all0))
    have Z91 : n0 ≤ T91.heap.size := Nat.le_trans Z90 K91.1
    have Fq86_0_c_91 := Fq86_0_c_90.keep K91
    have Fq86_1_c_91 := Fq86_1_c_90.keep K91 (ninS ne_b79_xa_81 (ninS ne_b79_xc_81 nin0))
    have Fq86_2_c_91 := Fq86_2_c_90.keep K91 (ninS ne_b79_xa_81 (ninS ne_b79_xc_81 nin0))
    have Fq86_3_c_91 := Fq86_3_c_90.keep K91 (ninS ne_b79_xa_81 (ninS ne_b79_xc_81 nin0))
    have Fq86_4_c_91 := Fq86_4_c_90.keep K91 (ninS ne_b79_xa_81 (ninS ne_b79_xc_81 nin0))
    have V85_b83_c_91 := V85_b83_c_90.keep K91 (ninS (Ne.symm ne_xa_81_b83) (ninS (Ne.symm ne_xc_81_b83) nin0))
    have V90_b88_c_91 := V90_b88.keep K91 (ninS (Ne.symm ne_xa_81_b88) (ninS (Ne.symm ne_xc_81_b88) nin0))
    have k92 : Go p.tables e below (T91.setTop (mkF m 106 #[.val (.int p0), .val (.int p1), .val (.int p2), .val (.int p3), .val (.int p4), .val (.int p5), .val (.int (Int32.ofNat B)), .val (.int (Int32.ofNat S)), .val (.int (3 : Int32)), .val (.long y4), .second, .val (.long y5), .second, .val (.long y6), .second, .val (.ref b79), .unset, .unset, .unset] [])) (T91.setTop (mkF m 118 #[.val (.int p0), .val (.int p1), .val (.int p2), .val (.int p3), .val (.int p4), .val (.int p5), .val (.int (Int32.ofNat B)), .val (.int (Int32.ofNat S)), .val (.int (3 : Int32)), .val (.long y4), .second, .val (.long y5), .second, .val (.long y6), .second, .val (.ref b79), .unset, .unset, .unset] [(.int (1 : Int32)), (.long (3 : Int64)), (.ref b79)])) := by
      intro t ht
      refine XS.iload X91.here hx rfl (hb hby at_106) rfl ?_
      show Steps p.tables e below (T91.setTop (mkF m 108 #[.val (.int p0), .val (.int p1), .val (.int p2), .val (.int p3), .val (.int p4), .val (.int p5), .val (.int (Int32.ofNat B)), .val (.int (Int32.ofNat S)), .val (.int (3 : Int32)), .val (.long y4), .second, .val (.long y5), .second, .val (.long y6), .second, .val (.ref b79), .unset, .unset, .unset] [(.int (3 : Int32))])) _
      refine XS.iconst X91.here hx rfl (hb hby at_108) ?_
      show Steps p.tables e below (T91.setTop (mkF m 109 #[.val (.int p0), .val (.int p1), .val (.int p2), .val (.int p3), .val (.int p4), .val (.int p5), .val (.int (Int32.ofNat B)), .val (.int (Int32.ofNat S)), .val (.int (3 : Int32)), .val (.long y4), .second, .val (.long y5), .second, .val (.long y6), .second, .val (.ref b79), .unset, .unset, .unset] [(.int (3 : Int32)), (.int (3 : Int32))])) _
      refine XS.icmpNo X91.here hx rfl (hb hby at_109) rfl (flt (by decide : ¬ ((3 : Int32) < (3 : Int32)))).1 ?_
      show Steps p.tables e below (T91.setTop (mkF m 112 #[.val (.int p0), .val (.int p1), .val (.int p2), .val (.int p3), .val (.int p4), .val (.int p5), .val (.int (Int32.ofNat B)), .val (.int (Int32.ofNat S)), .val (.int (3 : Int32)), .val (.long y4), .second, .val (.long y5), .second, .val (.long y6), .second, .val (.ref b79), .unset, .unset, .unset] [])) _
      refine XS.aload X91.here hx rfl (hb hby at_112) rfl rfl ?_
      show Steps p.tables e below (T91.setTop (mkF m 114 #[.val (.int p0), .val (.int p1), .val (.int p2), .val (.int p3), .val (.int p4), .val (.int p5), .val (.int (Int32.ofNat B)), .val (.int (Int32.ofNat S)), .val (.int (3 : Int32)), .val (.long y4), .second, .val (.long y5), .second, .val (.long y6), .second, .val (.ref b79), .unset, .unset, .unset] [(.ref b79)])) _
      refine X91.ldc2Long hx hown (mvT hZ (hw _ (List.mem_of_getElem? (i := 44) rfl))) (g := (mkF m 114 #[.val (.int p0), .val (.int p1), .val (.int p2), .val (.int p3), .val (.int p4), .val (.int p5), .val (.int (Int32.ofNat B)), .val (.int (Int32.ofNat S)), .val (.int (3 : Int32)), .val (.long y4), .second, .val (.long y5), .second, .val (.long y6), .second, .val (.ref b79), .unset, .unset, .unset] [(.ref b79)])) rfl (hb hby at_114) _ ?_
      show Steps p.tables e below (T91.setTop (mkF m 117 #[.val (.int p0), .val (.int p1), .val (.int p2), .val (.int p3), .val (.int p4), .val (.int p5), .val (.int (Int32.ofNat B)), .val (.int (Int32.ofNat S)), .val (.int (3 : Int32)), .val (.long y4), .second, .val (.long y5), .second, .val (.long y6), .second, .val (.ref b79), .unset, .unset, .unset] [(.long (3 : Int64)), (.ref b79)])) _
      refine XS.iconst X91.here hx rfl (hb hby at_117) ?_
      exact ht
    obtain ⟨T93, h93, kc93, X93, e93, E93, A93, st93⟩ := newP X91 hx hZ (hw _ (List.mem_of_getElem? (i := 15) rfl)) rfl (g := (mkF m 118 #[.val (.int p0), .val (.int p1), .val (.int p2), .val (.int p3), .val (.int p4), .val (.int p5), .val (.int (Int32.ofNat B)), .val (.int (Int32.ofNat S)), .val (.int (3 : Int32)), .val (.long y4), .second, .val (.long y5), .second, .val (.long y6), .second, .val (.ref b79), .unset, .unset, .unset] [(.int (1 : Int32)), (.long (3 : Int64)), (.ref b79)])) rfl (hb hby at_118) rfl (by decide) (cap := 1) (by decide) (by decide) (by decide) (by decide)
    obtain ⟨b93, g93⟩ : ∃ z, z = T91.heap.size := ⟨_, rfl⟩
    rw [← g93] at A93 st93
    have g_b93 : n0 ≤ b93 := Nat.le_trans Z91 (Nat.le_of_eq g93.symm)
    have sz_b93 : h0.size ≤ b93 := Nat.le_trans Kp91.1 (Nat.le_of_eq g93.symm)
    have ne_b79_b93 : b79 ≠ b93 := Nat.ne_of_lt (Nat.lt_of_lt_of_le Fq91_0.lt (Nat.le_of_eq g93.symm))
    have ne_b83_b93 : b83 ≠ b93 := Nat.ne_of_lt (Nat.lt_of_lt_of_le V85_b83_c_91.lt (Nat.le_of_eq g93.symm))
    have ne_b88_b93 : b88 ≠ b93 := Nat.ne_of_lt (Nat.lt_of_lt_of_le V90_b88_c_91.lt (Nat.le_of_eq g93.symm))
    have ne_xa_81_b93 : xa_81 ≠ b93 := Nat.ne_of_lt (Nat.lt_of_lt_of_le Fq91_5.lt (Nat.le_of_eq g93.symm))
    have ne_xc_81_b93 : xc_81 ≠ b93 := Nat.ne_of_lt (Nat.lt_of_lt_of_le Fq91_6.lt (Nat.le_of_eq g93.symm))
    have Kp93 : Keep h0 h93 [] := Kp91.ext E93
    have Z93 : n0 ≤ h93.size := Nat.le_trans Z91 E93.1
    have Fq91_0_c_93 := Fq91_0.ext E93
    have Fq91_1_c_93 := Fq91_1.ext E93
    have Fq91_2_c_93 := Fq91_2.ext E93
    have Fq91_3_c_93 := Fq91_3.ext E93
    have Fq91_4_c_93 := Fq91_4.ext E93
    have V85_b83_c_93 := V85_b83_c_91.ext E93
    have V90_b88_c_93 := V90_b88_c_91.ext E93
    have Fq91_5_c_93 := Fq91_5.ext E93
    have Fq91_6_c_93 := Fq91_6.ext E93
    have V_b93 : Arv Z h93 b93 kc93 .long (1 : Int32) [(.long (0 : Int64))] (.long (0 : Int64)) := (Arv.new A93 (by decide)).pad (pad_rep [] (.long (0 : Int64)) 1)
    have k93 : Go p.tables e below (T91.setTop (mkF m 118 #[.val (.int p0), .val (.int p1), .val (.int p2), .val (.int p3), .val (.int p4), .val (.int p5), .val (.int (Int32.ofNat B)), .val (.int (Int32.ofNat S)), .val (.int (3 : Int32)), .val (.long y4), .second, .val (.long y5), .second, .val (.long y6), .second, .val (.ref b79), .unset, .unset, .unset] [(.int (1 : Int32)), (.long (3 : Int64)), (.ref b79)])) (T93.setTop (mkF m 120 #[.val (.int p0), .val (.int p1), .val (.int p2), .val (.int p3), .val (.int p4), .val (.int p5), .val (.int (Int32.ofNat B)), .val (.int (Int32.ofNat S)), .val (.int (3 : Int32)), .val (.long y4), .second, .val (.long y5), .second, .val (.long y6), .second, .val (.ref b79), .unset, .unset, .unset] [(.ref b93), (.long (3 : Int64)), (.ref b79)])) := st93
    have k94 : Go p.tables e below (T93.setTop (mkF m 120 #[.val (.int p0), .val (.int p1), .val (.int p2), .val (.int p3), .val (.int p4), .val (.int p5), .val (.int (Int32.ofNat B)), .val (.int (Int32.ofNat S)), .val (.int (3 : Int32)), .val (.long y4), .second, .val (.long y5), .second, .val (.long y6), .second, .val (.ref b79), .unset, .unset, .unset] [(.ref b93), (.long (3 : Int64)), (.ref b79)])) (T93.setTop (mkF m 124 #[.val (.int p0), .val (.int p1), .val (.int p2), .val (.int p3), .val (.int p4), .val (.int p5), .val (.int (Int32.ofNat B)), .val (.int (Int32.ofNat S)), .val (.int (3 : Int32)), .val (.long y4), .second, .val (.long y5), .second, .val (.long y6), .second, .val (.ref b79), .unset, .unset, .unset] [(.long y6), (.int (0 : Int32)), (.ref b93), (.ref b93), (.long (3 : Int64)), (.ref b79)])) := by
      intro t ht
      refine XS.dup X93.here hx rfl (hb hby at_120) rfl rfl ?_
      show Steps p.tables e below (T93.setTop (mkF m 121 #[.val (.int p0), .val (.int p1), .val (.int p2), .val (.int p3), .val (.int p4), .val (.int p5), .val (.int (Int32.ofNat B)), .val (.int (Int32.ofNat S)), .val (.int (3 : Int32)), .val (.long y4), .second, .val (.long y5), .second, .val (.long y6), .second, .val (.ref b79), .unset, .unset, .unset] [(.ref b93), (.ref b93), (.long (3 : Int64)), (.ref b79)])) _
      refine XS.iconst X93.here hx rfl (hb hby at_121) ?_
      show Steps p.tables e below (T93.setTop (mkF m 122 #[.val (.int p0), .val (.int p1), .val (.int p2), .val (.int p3), .val (.int p4), .val (.int p5), .val (.int (Int32.ofNat B)), .val (.int (Int32.ofNat S)), .val (.int (3 : Int32)), .val (.long y4), .second, .val (.long y5), .second, .val (.long y6), .second, .val (.ref b79), .unset, .unset, .unset] [(.int (0 : Int32)), (.ref b93), (.ref b93), (.long (3 : Int64)), (.ref b79)])) _
      refine XS.lload X93.here hx rfl (hb hby at_122) rfl ?_
      exact ht
    obtain ⟨cl95, Ar95, q95, S95, M95, H95, G95⟩ := id V_b93
    have hin95 : ¬ ((0 : Int32) < 0 ∨ cl95.slots.size ≤ ((0 : Int32)).toNatClampNeg) := inb_of S95 ⟨by decide, by decide⟩
    obtain ⟨T95, h95, X95, e95, W95, st95⟩ := stJ X93 hx hZ e93 Ar95 (j := (0 : Int32)) hin95 (g := (mkF m 124 #[.val (.int p0), .val (.int p1), .val (.int p2), .val (.int p3), .val (.int p4), .val (.int p5), .val (.int (Int32.ofNat B)), .val (.int (Int32.ofNat S)), .val (.int (3 : Int32)), .val (.long y4), .second, .val (.long y5), .second, .val (.long y6), .second, .val (.ref b79), .unset, .unset, .unset] [(.long y6), (.int (0 : Int32)), (.ref b93), (.ref b93), (.long (3 : Int64)), (.ref b79)])) rfl rfl (hb hby at_124)
    have V95_b93 : Arv Z h95 b93 kc93 .long (1 : Int32) [(.long y6)] (.long (0 : Int64)) := Arv.set Ar95 q95 S95 M95 H95 G95 rfl W95 0 rfl (Nat.le_of_ble_eq_true rfl)
    have Kp95 : Keep h0 h95 [] := Kp93.wr W95 (Or.inr sz_b93)
    have Z95 : n0 ≤ h95.size := Nat.le_trans Z93 (Keep.of_wr W95).1
    have Fq91_0_c_95 := Fq91_0_c_93.wr W95
    have Fq91_1_c_95 := Fq91_1_c_93.other W95 (Or.inl ne_b79_b93)
    have Fq91_2_c_95 := Fq91_2_c_93.other W95 (Or.inl ne_b79_b93)
    have Fq91_3_c_95 := Fq91_3_c_93.other W95 (Or.inl ne_b79_b93)
    have Fq91_4_c_95 := Fq91_4_c_93.other W95 (Or.inl ne_b79_b93)
    have V85_b83_c_95 := V85_b83_c_93.other W95 ne_b83_b93
    have V90_b88_c_95 := V90_b88_c_93.other W95 ne_b88_b93
    have Fq91_5_c_95 := Fq91_5_c_93.other W95 ne_xa_81_b93
    have Fq91_6_c_95 := Fq91_6_c_93.other W95 ne_xc_81_b93
    have k95 : Go p.tables e below (T93.setTop (mkF m 124 #[.val (.int p0), .val (.int p1), .val (.int p2), .val (.int p3), .val (.int p4), .val (.int p5), .val (.int (Int32.ofNat B)), .val (.int (Int32.ofNat S)), .val (.int (3 : Int32)), .val (.long y4), .second, .val (.long y5), .second, .val (.long y6), .second, .val (.ref b79), .unset, .unset, .unset] [(.long y6), (.int (0 : Int32)), (.ref b93), (.ref b93), (.long (3 : Int64)), (.ref b79)])) (T95.setTop (mkF m 125 #[.val (.int p0), .val (.int p1), .val (.int p2), .val (.int p3), .val (.int p4), .val (.int p5), .val (.int (Int32.ofNat B)), .val (.int (Int32.ofNat S)), .val (.int (3 : Int32)), .val (.long y4), .second, .val (.long y5), .second, .val (.long y6), .second, .val (.ref b79), .unset, .unset, .unset] [(.ref b93), (.long (3 : Int64)), (.ref b79)])) := st95
    have N95 := Fr.snoc X95 N91 g_b93
    obtain ⟨cq96, kq96, q96a, q96b, q96c⟩ := isOf hZ e95 Fq91_0_c_95
    obtain ⟨_, _, ⟨T96, L96, kq96, n96⟩, -, X96, ⟨Lc96, hQ96, l96, y96, z96⟩, st96⟩ := X95.virtualBack hx (y := (⟨"com/example/auspex/auspex/manager/ConflictTable", "record", "(J[J)V"⟩ : MethodName)) (z := (⟨"com/example/auspex/auspex/manager/ConflictTable", "record", "(J[J)V"⟩ : MethodName)) hown (mvT hZ (hw _ (List.mem_of_getElem? (i := 20) rfl))) (mvT hZ (hw _ (List.mem_of_getElem? (i := 21) rfl))) (notFace_of_selects (args := #[]) (mvT hZ (hw _ (List.mem_of_getElem? (i := 23) rfl)))) (mvT hZ (hw _ (List.mem_of_getElem? (i := 23) rfl))) (mvT hZ (hw _ (List.mem_of_getElem? (i := 22) rfl))) (by decide) (backOf (W := 0) (rm_record l Z a0 hw [] b79 (3 : Int64) b93 B S xa_81 xc_81 xk_81 xl_81 kc93 ((own_Z.set ((own_n y4 B S) + (f_rec00 (own_n y4 B S) S y4 own_Z own_Z)) y4).set ((own_n y5 B S) + (f_rec00 (own_n y5 B S) S y5 (own_Z.set ((own_n y4 B S) + (f_rec00 (own_n y4 B S) S y4 own_Z own_Z)) y4) (own_Z.set ((own_n y4 B S) + (f_rec00 (own_n y4 B S) S y4 own_Z own_Z)) (1 : Int64)))) y5) ((own_Z.set ((own_n y4 B S) + (f_rec00 (own_n y4 B S) S y4 own_Z own_Z)) (1 : Int64)).set ((own_n y5 B S) + (f_rec00 (own_n y5 B S) S y5 (own_Z.set ((own_n y4 B S) + (f_rec00 (own_n y4 B S) S y4 own_Z own_Z)) y4) (own_Z.set ((own_n y4 B S) + (f_rec00 (own_n y4 B S) S y4 own_Z own_Z)) (1 : Int64)))) (2 : Int64)) y6 h95 n0 Z95 Fq91_1_c_95 Fq91_2_c_95 Fq91_3_c_95 Fq91_4_c_95 Fq91_0_c_95 Fq91_5_c_95 Fq91_6_c_95 V95_b93 g_xa_81 g_xc_81 (hB : 1 ≤ B ∧ B ≤ 4) (hS : 1 ≤ S ∧ S ≤ 3) (hH2 : own_H y6) (by simp [own_Z] : ((own_Z.set ((own_n y4 B S) + (f_rec00 (own_n y4 B S) S y4 own_Z own_Z)) y4).set ((own_n y5 B S) + (f_rec00 (own_n y5 B S) S y5 (own_Z.set ((own_n y4 B S) + (f_rec00 (own_n y4 B S) S y4 own_Z own_Z)) y4) (own_Z.set ((own_n y4 B S) + (f_rec00 (own_n y4 B S) S y4 own_Z own_Z)) (1 : Int64)))) y5).length = 12) (by simp [own_Z] : ((own_Z.set ((own_n y4 B S) + (f_rec00 (own_n y4 B S) S y4 own_Z own_Z)) (1 : Int64)).set ((own_n y5 B S) + (f_rec00 (own_n y5 B S) S y5 (own_Z.set ((own_n y4 B S) + (f_rec00 (own_n y4 B S) S y4 own_Z own_Z)) y4) (own_Z.set ((own_n y4 B S) + (f_rec00 (own_n y4 B S) S y4 own_Z own_Z)) (1 : Int64)))) (2 : Int64)).length = 12) (Pq81_2 : xa_81 ≠ xc_81) (ne_b79_xa_81 : b79 ≠ xa_81) (ne_b79_xc_81 : b79 ≠ xc_81)) hZ (hw _ (List.mem_of_getElem? (i := 24) rfl)) (hw _ (List.mem_of_getElem? (i := 3) rfl)) (by decide) (by decide)) q96a q96c (g := (mkF m 125 #[.val (.int p0), .val (.int p1), .val (.int p2), .val (.int p3), .val (.int p4), .val (.int p5), .val (.int (Int32.ofNat B)), .val (.int (Int32.ofNat S)), .val (.int (3 : Int32)), .val (.long y4), .second, .val (.long y5), .second, .val (.long y6), .second, .val (.ref b79), .unset, .unset, .unset] [(.ref b93), (.long (3 : Int64)), (.ref b79)])) rfl (by rw [hml]; rfl) (Steps.refl _) (argsL := [(.long (3 : Int64)), (.ref b93)]) (rest := []) (lenOf pd_5 rfl) rfl (by show 2 * 0 + _ ≤ _; exact Nat.le_of_eq rfl) (hb hby at_125) (fun _ _ => ⟨rfl, e95, (by decide : 6 + 0 ≤ _), (by decide : 31 + 0 ≤ _)⟩)
    dsimp only [Pt.U, Pt.locs, Pt.cells, Pt.slots] at X96 l96 y96 z96 st96 hQ96
    subst l96 y96 z96
    obtain ⟨rfl, N96q, K96, Fq96_0, Fq96_1, Fq96_2, Fq96_3, Fq96_4, Fq96_5, Fq96_6⟩ := hQ96
    have N96 := Fr.app N95 N96q
    have k96 : Go p.tables e below (T95.setTop (mkF m 125 #[.val (.int p0), .val (.int p1), .val (.int p2), .val (.int p3), .val (.int p4), .val (.int p5), .val (.int (Int32.ofNat B)), .val (.int (Int32.ofNat S)), .val (.int (3 : Int32)), .val (.long y4), .second, .val (.long y5), .second, .val (.long y6), .second, .val (.ref b79), .unset, .unset, .unset] [(.ref b93), (.long (3 : Int64)), (.ref b79)])) (T96.setTop (mkF m 128 #[.val (.int p0), .val (.int p1), .val (.int p2), .val (.int p3), .val (.int p4), .val (.int p5), .val (.int (Int32.ofNat B)), .val (.int (Int32.ofNat S)), .val (.int (3 : Int32)), .val (.long y4), .second, .val (.long y5), .second, .val (.long y6), .second, .val (.ref b79), .unset, .unset, .unset] [])) := fun _ ht => st96.trans ht
    have Kp96 : Keep h0 T96.heap [] := Kp95.trans K96 (allS (Or.inr sz_xa_81) (allS (Or.inr sz_xc_81) all0))
    have Z96 : n0 ≤ T96.heap.size := Nat.le_trans Z95 K96.1
    have Fq91_0_c_96 := Fq91_0_c_95.keep K96
    have Fq91_1_c_96 := Fq91_1_c_95.keep K96 (ninS ne_b79_xa_81 (ninS ne_b79_xc_81 nin0))
    have Fq91_2_c_96 := Fq91_2_c_95.keep K96 (ninS ne_b79_xa_81 (ninS ne_b79_xc_81 nin0))
    have Fq91_3_c_96 := Fq91_3_c_95.keep K96 (ninS ne_b79_xa_81 (ninS ne_b79_xc_81 nin0))
    have Fq91_4_c_96 := Fq91_4_c_95.keep K96 (ninS ne_b79_xa_81 (ninS ne_b79_xc_81 nin0))
    have V85_b83_c_96 := V85_b83_c_95.keep K96 (ninS (Ne.symm ne_xa_81_b83) (ninS (Ne.symm ne_xc_81_b83) nin0))
    have V90_b88_c_96 := V90_b88_c_95.keep K96 (ninS (Ne.symm ne_xa_81_b88) (ninS (Ne.symm ne_xc_81_b88) nin0))
    have V95_b93_c_96 := V95_b93.keep K96 (ninS (Ne.symm ne_xa_81_b93) (ninS (Ne.symm ne_xc_81_b93) nin0))
    have k97 : Go p.tables e below (T96.setTop (mkF m 128 #[.val (.int p0), .val (.int p1), .val (.int p2), .val (.int p3), .val (.int p4), .val (.int p5), .val (.int (Int32.ofNat B)), .val (.int (Int32.ofNat S)), .val (.int (3 : Int32)), .val (.long y4), .second, .val (.long y5), .second, .val (.long y6), .second, .val (.ref b79), .unset, .unset, .unset] [])) (T96.setTop (mkF m 141 #[.val (.int p0), .val (.int p1), .val (.int p2), .val (.int p3), .val (.int p4), .val (.int p5), .val (.int (Int32.ofNat B)), .val (.int (Int32.ofNat S)), .val (.int (3 : Int32)), .val (.long y4), .second, .val (.long y5), .second, .val (.long y6), .second, .val (.ref b79), .unset, .unset, .unset] [(.long y6), (.long y5), (.long y4), (.int (3 : Int32)), (.int (Int32.ofNat S)), (.int (Int32.ofNat B)), (.int (0 : Int32))])) := by
      intro t ht
      refine XS.iconst X96.here hx rfl (hb hby at_128) ?_
      show Steps p.tables e below (T96.setTop (mkF m 129 #[.val (.int p0), .val (.int p1), .val (.int p2), .val (.int p3), .val (.int p4), .val (.int p5), .val (.int (Int32.ofNat B)), .val (.int (Int32.ofNat S)), .val (.int (3 : Int32)), .val (.long y4), .second, .val (.long y5), .second, .val (.long y6), .second, .val (.ref b79), .unset, .unset, .unset] [(.int (0 : Int32))])) _
      refine XS.iload X96.here hx rfl (hb hby at_129) rfl ?_
      show Steps p.tables e below (T96.setTop (mkF m 131 #[.val (.int p0), .val (.int p1), .val (.int p2), .val (.int p3), .val (.int p4), .val (.int p5), .val (.int (Int32.ofNat B)), .val (.int (Int32.ofNat S)), .val (.int (3 : Int32)), .val (.long y4), .second, .val (.long y5), .second, .val (.long y6), .second, .val (.ref b79), .unset, .unset, .unset] [(.int (Int32.ofNat B)), (.int (0 : Int32))])) _
      refine XS.iload X96.here hx rfl (hb hby at_131) rfl ?_
      show Steps p.tables e below (T96.setTop (mkF m 133 #[.val (.int p0), .val (.int p1), .val (.int p2), .val (.int p3), .val (.int p4), .val (.int p5), .val (.int (Int32.ofNat B)), .val (.int (Int32.ofNat S)), .val (.int (3 : Int32)), .val (.long y4), .second, .val (.long y5), .second, .val (.long y6), .second, .val (.ref b79), .unset, .unset, .unset] [(.int (Int32.ofNat S)), (.int (Int32.ofNat B)), (.int (0 : Int32))])) _
      refine XS.iload X96.here hx rfl (hb hby at_133) rfl ?_
      show Steps p.tables e below (T96.setTop (mkF m 135 #[.val (.int p0), .val (.int p1), .val (.int p2), .val (.int p3), .val (.int p4), .val (.int p5), .val (.int (Int32.ofNat B)), .val (.int (Int32.ofNat S)), .val (.int (3 : Int32)), .val (.long y4), .second, .val (.long y5), .second, .val (.long y6), .second, .val (.ref b79), .unset, .unset, .unset] [(.int (3 : Int32)), (.int (Int32.ofNat S)), (.int (Int32.ofNat B)), (.int (0 : Int32))])) _
      refine XS.lload X96.here hx rfl (hb hby at_135) rfl ?_
      show Steps p.tables e below (T96.setTop (mkF m 137 #[.val (.int p0), .val (.int p1), .val (.int p2), .val (.int p3), .val (.int p4), .val (.int p5), .val (.int (Int32.ofNat B)), .val (.int (Int32.ofNat S)), .val (.int (3 : Int32)), .val (.long y4), .second, .val (.long y5), .second, .val (.long y6), .second, .val (.ref b79), .unset, .unset, .unset] [(.long y4), (.int (3 : Int32)), (.int (Int32.ofNat S)), (.int (Int32.ofNat B)), (.int (0 : Int32))])) _
      refine XS.lload X96.here hx rfl (hb hby at_137) rfl ?_
      show Steps p.tables e below (T96.setTop (mkF m 139 #[.val (.int p0), .val (.int p1), .val (.int p2), .val (.int p3), .val (.int p4), .val (.int p5), .val (.int (Int32.ofNat B)), .val (.int (Int32.ofNat S)), .val (.int (3 : Int32)), .val (.long y4), .second, .val (.long y5), .second, .val (.long y6), .second, .val (.ref b79), .unset, .unset, .unset] [(.long y5), (.long y4), (.int (3 : Int32)), (.int (Int32.ofNat S)), (.int (Int32.ofNat B)), (.int (0 : Int32))])) _
      refine XS.lload X96.here hx rfl (hb hby at_139) rfl ?_
      exact ht
    obtain ⟨_, _, ⟨T98, L98, kq98, n98⟩, -, X98, ⟨Lc98, hQ98, l98, y98, z98⟩, st98⟩ := Jvm.LawKit.callS X96 hx (y := (⟨"com/example/auspex/auspex/manager/ConflictTableFullBucketSharePinLaw", "fullIn", "(IIIIJJJ)I"⟩ : MethodName)) hown (mvT hZ (hw _ (List.mem_of_getElem? (i := 35) rfl))) (mvT hZ (hw _ (List.mem_of_getElem? (i := 36) rfl))) (mvT hZ (hw _ (List.mem_of_getElem? (i := 37) rfl))) (mvT hZ (hw _ (List.mem_of_getElem? (i := 38) rfl))) (by decide) (backOf (W := 0) (rm_full l Z a0 hw [] (0 : Int32) B S (3 : Int32) y4 y5 y6 T96.heap n0 Z96 (hB : 1 ≤ B ∧ B ≤ 4) (hS : 1 ≤ S ∧ S ≤ 3)) hZ (hw _ (List.mem_of_getElem? (i := 38) rfl)) (hw _ (List.mem_of_getElem? (i := 37) rfl)) (by decide) (by decide)) (g := (mkF m 141 #[.val (.int p0), .val (.int p1), .val (.int p2), .val (.int p3), .val (.int p4), .val (.int p5), .val (.int (Int32.ofNat B)), .val (.int (Int32.ofNat S)), .val (.int (3 : Int32)), .val (.long y4), .second, .val (.long y5), .second, .val (.long y6), .second, .val (.ref b79), .unset, .unset, .unset] [(.long y6), (.long y5), (.long y4), (.int (3 : Int32)), (.int (Int32.ofNat S)), (.int (Int32.ofNat B)), (.int (0 : Int32))])) rfl (by rw [hml]; rfl) (argsL := [(.int (0 : Int32)), (.int (Int32.ofNat B)), (.int (Int32.ofNat S)), (.int (3 : Int32)), (.long y4), (.long y5), (.long y6)]) (rest := []) (lenOf pd_3 rfl) rfl (by show 2 * 0 + _ ≤ _; exact Nat.le_of_eq rfl) (hb hby at_141) (fun _ _ => ⟨rfl, rfl, (by decide : 6 + 0 ≤ _), (by decide : 31 + 0 ≤ _)⟩)
    dsimp only [Pt.U, Pt.locs, Pt.cells, Pt.slots] at X98 l98 y98 z98 st98 hQ98
    subst l98 y98 z98
    obtain ⟨rfl, N98q, eq98⟩ := hQ98
    have N98 := Fr.app N96 N98q
    have k98 : Go p.tables e below (T96.setTop (mkF m 141 #[.val (.int p0), .val (.int p1), .val (.int p2), .val (.int p3), .val (.int p4), .val (.int p5), .val (.int (Int32.ofNat B)), .val (.int (Int32.ofNat S)), .val (.int (3 : Int32)), .val (.long y4), .second, .val (.long y5), .second, .val (.long y6), .second, .val (.ref b79), .unset, .unset, .unset] [(.long y6), (.long y5), (.long y4), (.int (3 : Int32)), (.int (Int32.ofNat S)), (.int (Int32.ofNat B)), (.int (0 : Int32))])) (T98.setTop (mkF m 144 #[.val (.int p0), .val (.int p1), .val (.int p2), .val (.int p3), .val (.int p4), .val (.int p5), .val (.int (Int32.ofNat B)), .val (.int (Int32.ofNat S)), .val (.int (3 : Int32)), .val (.long y4), .second, .val (.long y5), .second, .val (.long y6), .second, .val (.ref b79), .unset, .unset, .unset] [(.int (f_full (0 : Int32) B S (3 : Int32) y4 y5 y6))])) := st98
    have k99 : Go p.tables e below (T98.setTop (mkF m 144 #[.val (.int p0), .val (.int p1), .val (.int p2), .val (.int p3), .val (.int p4), .val (.int p5), .val (.int (Int32.ofNat B)), .val (.int (Int32.ofNat S)), .val (.int (3 : Int32)), .val (.long y4), .second, .val (.long y5), .second, .val (.long y6), .second, .val (.ref b79), .unset, .unset, .unset] [(.int (f_full (0 : Int32) B S (3 : Int32) y4 y5 y6))])) (T98.setTop (mkF m 157 #[.val (.int p0), .val (.int p1), .val (.int p2), .val (.int p3), .val (.int p4), .val (.int p5), .val (.int (Int32.ofNat B)), .val (.int (Int32.ofNat S)), .val (.int (3 : Int32)), .val (.long y4), .second, .val (.long y5), .second, .val (.long y6), .second, .val (.ref b79), .unset, .unset, .unset] [(.long y6), (.long y5), (.long y4), (.int (3 : Int32)), (.int (Int32.ofNat S)), (.int (Int32.ofNat B)), (.int (1 : Int32)), (.int (f_full (0 : Int32) B S (3 : Int32) y4 y5 y6))])) := by
      intro t ht
      refine XS.iconst X98.here hx rfl (hb hby at_144) ?_
      show Steps p.tables e below (T98.setTop (mkF m 145 #[.val (.int p0), .val (.int p1), .val (.int p2), .val (.int p3), .val (.int p4), .val (.int p5), .val (.int (Int32.ofNat B)), .val (.int (Int32.ofNat S)), .val (.int (3 : Int32)), .val (.long y4), .second, .val (.long y5), .second, .val (.long y6), .second, .val (.ref b79), .unset, .unset, .unset] [(.int (1 : Int32)), (.int (f_full (0 : Int32) B S (3 : Int32) y4 y5 y6))])) _
      refine XS.iload X98.here hx rfl (hb hby at_145) rfl ?_
      show Steps p.tables e below (T98.setTop (mkF m 147 #[.val (.int p0), .val (.int p1), .val (.int p2), .val (.int p3), .val (.int p4), .val (.int p5), .val (.int (Int32.ofNat B)), .val (.int (Int32.ofNat S)), .val (.int (3 : Int32)), .val (.long y4), .second, .val (.long y5), .second, .val (.long y6), .second, .val (.ref b79), .unset, .unset, .unset] [(.int (Int32.ofNat B)), (.int (1 : Int32)), (.int (f_full (0 : Int32) B S (3 : Int32) y4 y5 y6))])) _
      refine XS.iload X98.here hx rfl (hb hby at_147) rfl ?_
      show Steps p.tables e below (T98.setTop (mkF m 149 #[.val (.int p0), .val (.int p1), .val (.int p2), .val (.int p3), .val (.int p4), .val (.int p5), .val (.int (Int32.ofNat B)), .val (.int (Int32.ofNat S)), .val (.int (3 : Int32)), .val (.long y4), .second, .val (.long y5), .second, .val (.long y6), .second, .val (.ref b79), .unset, .unset, .unset] [(.int (Int32.ofNat S)), (.int (Int32.ofNat B)), (.int (1 : Int32)), (.int (f_full (0 : Int32) B S (3 : Int32) y4 y5 y6))])) _
      refine XS.iload X98.here hx rfl (hb hby at_149) rfl ?_
      show Steps p.tables e below (T98.setTop (mkF m 151 #[.val (.int p0), .val (.int p1), .val (.int p2), .val (.int p3), .val (.int p4), .val (.int p5), .val (.int (Int32.ofNat B)), .val (.int (Int32.ofNat S)), .val (.int (3 : Int32)), .val (.long y4), .second, .val (.long y5), .second, .val (.long y6), .second, .val (.ref b79), .unset, .unset, .unset] [(.int (3 : Int32)), (.int (Int32.ofNat S)), (.int (Int32.ofNat B)), (.int (1 : Int32)), (.int (f_full (0 : Int32) B S (3 : Int32) y4 y5 y6))])) _
      refine XS.lload X98.here hx rfl (hb hby at_151) rfl ?_
      show Steps p.tables e below (T98.setTop (mkF m 153 #[.val (.int p0), .val (.int p1), .val (.int p2), .val (.int p3), .val (.int p4), .val (.int p5), .val (.int (Int32.ofNat B)), .val (.int (Int32.ofNat S)), .val (.int (3 : Int32)), .val (.long y4), .second, .val (.long y5), .second, .val (.long y6), .second, .val (.ref b79), .unset, .unset, .unset] [(.long y4), (.int (3 : Int32)), (.int (Int32.ofNat S)), (.int (Int32.ofNat B)), (.int (1 : Int32)), (.int (f_full (0 : Int32) B S (3 : Int32) y4 y5 y6))])) _
      refine XS.lload X98.here hx rfl (hb hby at_153) rfl ?_
      show Steps p.tables e below (T98.setTop (mkF m 155 #[.val (.int p0), .val (.int p1), .val (.int p2), .val (.int p3), .val (.int p4), .val (.int p5), .val (.int (Int32.ofNat B)), .val (.int (Int32.ofNat S)), .val (.int (3 : Int32)), .val (.long y4), .second, .val (.long y5), .second, .val (.long y6), .second, .val (.ref b79), .unset, .unset, .unset] [(.long y5), (.long y4), (.int (3 : Int32)), (.int (Int32.ofNat S)), (.int (Int32.ofNat B)), (.int (1 : Int32)), (.int (f_full (0 : Int32) B S (3 : Int32) y4 y5 y6))])) _
      refine XS.lload X98.here hx rfl (hb hby at_155) rfl ?_
      exact ht
    obtain ⟨_, _, ⟨T100, L100, kq100, n100⟩, -, X100, ⟨Lc100, hQ100, l100, y100, z100⟩, st100⟩ := Jvm.LawKit.callS X98 hx (y := (⟨"com/example/auspex/auspex/manager/ConflictTableFullBucketSharePinLaw", "fullIn", "(IIIIJJJ)I"⟩ : MethodName)) hown (mvT hZ (hw _ (List.mem_of_getElem? (i := 35) rfl))) (mvT hZ (hw _ (List.mem_of_getElem? (i := 36) rfl))) (mvT hZ (hw _ (List.mem_of_getElem? (i := 37) rfl))) (mvT hZ (hw _ (List.mem_of_getElem? (i := 38) rfl))) (by decide) (backOf (W := 1) (rm_full l Z a0 hw [] (1 : Int32) B S (3 : Int32) y4 y5 y6 T96.heap n0 Z96 (hB : 1 ≤ B ∧ B ≤ 4) (hS : 1 ≤ S ∧ S ≤ 3)) hZ (hw _ (List.mem_of_getElem? (i := 38) rfl)) (hw _ (List.mem_of_getElem? (i := 37) rfl)) (by decide) (by decide)) (g := (mkF m 157 #[.val (.int p0), .val (.int p1), .val (.int p2), .val (.int p3), .val (.int p4), .val (.int p5), .val (.int (Int32.ofNat B)), .val (.int (Int32.ofNat S)), .val (.int (3 : Int32)), .val (.long y4), .second, .val (.long y5), .second, .val (.long y6), .second, .val (.ref b79), .unset, .unset, .unset] [(.long y6), (.long y5), (.long y4), (.int (3 : Int32)), (.int (Int32.ofNat S)), (.int (Int32.ofNat B)), (.int (1 : Int32)), (.int (f_full (0 : Int32) B S (3 : Int32) y4 y5 y6))])) rfl (by rw [hml]; rfl) (argsL := [(.int (1 : Int32)), (.int (Int32.ofNat B)), (.int (Int32.ofNat S)), (.int (3 : Int32)), (.long y4), (.long y5), (.long y6)]) (rest := [(.int (f_full (0 : Int32) B S (3 : Int32) y4 y5 y6))]) (lenOf pd_3 rfl) rfl (by show 2 * 0 + _ ≤ _; exact Nat.le_of_eq rfl) (hb hby at_157) (fun _ _ => ⟨rfl, eq98, (by decide : 6 + 0 ≤ _), (by decide : 31 + 0 ≤ _)⟩)
    dsimp only [Pt.U, Pt.locs, Pt.cells, Pt.slots] at X100 l100 y100 z100 st100 hQ100
    subst l100 y100 z100
    obtain ⟨rfl, N100q, eq100⟩ := hQ100
    have N100 := Fr.app N98 N100q
    have k100 : Go p.tables e below (T98.setTop (mkF m 157 #[.val (.int p0), .val (.int p1), .val (.int p2), .val (.int p3), .val (.int p4), .val (.int p5), .val (.int (Int32.ofNat B)), .val (.int (Int32.ofNat S)), .val (.int (3 : Int32)), .val (.long y4), .second, .val (.long y5), .second, .val (.long y6), .second, .val (.ref b79), .unset, .unset, .unset] [(.long y6), (.long y5), (.long y4), (.int (3 : Int32)), (.int (Int32.ofNat S)), (.int (Int32.ofNat B)), (.int (1 : Int32)), (.int (f_full (0 : Int32) B S (3 : Int32) y4 y5 y6))])) (T100.setTop (mkF m 160 #[.val (.int p0), .val (.int p1), .val (.int p2), .val (.int p3), .val (.int p4), .val (.int p5), .val (.int (Int32.ofNat B)), .val (.int (Int32.ofNat S)), .val (.int (3 : Int32)), .val (.long y4), .second, .val (.long y5), .second, .val (.long y6), .second, .val (.ref b79), .unset, .unset, .unset] [(.int (f_full (1 : Int32) B S (3 : Int32) y4 y5 y6)), (.int (f_full (0 : Int32) B S (3 : Int32) y4 y5 y6))])) := st100
    have k101 : Go p.tables e below (T100.setTop (mkF m 160 #[.val (.int p0), .val (.int p1), .val (.int p2), .val (.int p3), .val (.int p4), .val (.int p5), .val (.int (Int32.ofNat B)), .val (.int (Int32.ofNat S)), .val (.int (3 : Int32)), .val (.long y4), .second, .val (.long y5), .second, .val (.long y6), .second, .val (.ref b79), .unset, .unset, .unset] [(.int (f_full (1 : Int32) B S (3 : Int32) y4 y5 y6)), (.int (f_full (0 : Int32) B S (3 : Int32) y4 y5 y6))])) (T100.setTop (mkF m 174 #[.val (.int p0), .val (.int p1), .val (.int p2), .val (.int p3), .val (.int p4), .val (.int p5), .val (.int (Int32.ofNat B)), .val (.int (Int32.ofNat S)), .val (.int (3 : Int32)), .val (.long y4), .second, .val (.long y5), .second, .val (.long y6), .second, .val (.ref b79), .unset, .unset, .unset] [(.long y6), (.long y5), (.long y4), (.int (3 : Int32)), (.int (Int32.ofNat S)), (.int (Int32.ofNat B)), (.int (2 : Int32)), (.int ((f_full (0 : Int32) B S (3 : Int32) y4 y5 y6) + (f_full (1 : Int32) B S (3 : Int32) y4 y5 y6)))])) := by
      intro t ht
      refine XS.iadd X100.here hx rfl (hb hby at_160) rfl ?_
      show Steps p.tables e below (T100.setTop (mkF m 161 #[.val (.int p0), .val (.int p1), .val (.int p2), .val (.int p3), .val (.int p4), .val (.int p5), .val (.int (Int32.ofNat B)), .val (.int (Int32.ofNat S)), .val (.int (3 : Int32)), .val (.long y4), .second, .val (.long y5), .second, .val (.long y6), .second, .val (.ref b79), .unset, .unset, .unset] [(.int ((f_full (0 : Int32) B S (3 : Int32) y4 y5 y6) + (f_full (1 : Int32) B S (3 : Int32) y4 y5 y6)))])) _
      refine XS.iconst X100.here hx rfl (hb hby at_161) ?_
      show Steps p.tables e below (T100.setTop (mkF m 162 #[.val (.int p0), .val (.int p1), .val (.int p2), .val (.int p3), .val (.int p4), .val (.int p5), .val (.int (Int32.ofNat B)), .val (.int (Int32.ofNat S)), .val (.int (3 : Int32)), .val (.long y4), .second, .val (.long y5), .second, .val (.long y6), .second, .val (.ref b79), .unset, .unset, .unset] [(.int (2 : Int32)), (.int ((f_full (0 : Int32) B S (3 : Int32) y4 y5 y6) + (f_full (1 : Int32) B S (3 : Int32) y4 y5 y6)))])) _
      refine XS.iload X100.here hx rfl (hb hby at_162) rfl ?_
      show Steps p.tables e below (T100.setTop (mkF m 164 #[.val (.int p0), .val (.int p1), .val (.int p2), .val (.int p3), .val (.int p4), .val (.int p5), .val (.int (Int32.ofNat B)), .val (.int (Int32.ofNat S)), .val (.int (3 : Int32)), .val (.long y4), .second, .val (.long y5), .second, .val (.long y6), .second, .val (.ref b79), .unset, .unset, .unset] [(.int (Int32.ofNat B)), (.int (2 : Int32)), (.int ((f_full (0 : Int32) B S (3 : Int32) y4 y5 y6) + (f_full (1 : Int32) B S (3 : Int32) y4 y5 y6)))])) _
      refine XS.iload X100.here hx rfl (hb hby at_164) rfl ?_
      show Steps p.tables e below (T100.setTop (mkF m 166 #[.val (.int p0), .val (.int p1), .val (.int p2), .val (.int p3), .val (.int p4), .val (.int p5), .val (.int (Int32.ofNat B)), .val (.int (Int32.ofNat S)), .val (.int (3 : Int32)), .val (.long y4), .second, .val (.long y5), .second, .val (.long y6), .second, .val (.ref b79), .unset, .unset, .unset] [(.int (Int32.ofNat S)), (.int (Int32.ofNat B)), (.int (2 : Int32)), (.int ((f_full (0 : Int32) B S (3 : Int32) y4 y5 y6) + (f_full (1 : Int32) B S (3 : Int32) y4 y5 y6)))])) _
      refine XS.iload X100.here hx rfl (hb hby at_166) rfl ?_
      show Steps p.tables e below (T100.setTop (mkF m 168 #[.val (.int p0), .val (.int p1), .val (.int p2), .val (.int p3), .val (.int p4), .val (.int p5), .val (.int (Int32.ofNat B)), .val (.int (Int32.ofNat S)), .val (.int (3 : Int32)), .val (.long y4), .second, .val (.long y5), .second, .val (.long y6), .second, .val (.ref b79), .unset, .unset, .unset] [(.int (3 : Int32)), (.int (Int32.ofNat S)), (.int (Int32.ofNat B)), (.int (2 : Int32)), (.int ((f_full (0 : Int32) B S (3 : Int32) y4 y5 y6) + (f_full (1 : Int32) B S (3 : Int32) y4 y5 y6)))])) _
      refine XS.lload X100.here hx rfl (hb hby at_168) rfl ?_
      show Steps p.tables e below (T100.setTop (mkF m 170 #[.val (.int p0), .val (.int p1), .val (.int p2), .val (.int p3), .val (.int p4), .val (.int p5), .val (.int (Int32.ofNat B)), .val (.int (Int32.ofNat S)), .val (.int (3 : Int32)), .val (.long y4), .second, .val (.long y5), .second, .val (.long y6), .second, .val (.ref b79), .unset, .unset, .unset] [(.long y4), (.int (3 : Int32)), (.int (Int32.ofNat S)), (.int (Int32.ofNat B)), (.int (2 : Int32)), (.int ((f_full (0 : Int32) B S (3 : Int32) y4 y5 y6) + (f_full (1 : Int32) B S (3 : Int32) y4 y5 y6)))])) _
      refine XS.lload X100.here hx rfl (hb hby at_170) rfl ?_
      show Steps p.tables e below (T100.setTop (mkF m 172 #[.val (.int p0), .val (.int p1), .val (.int p2), .val (.int p3), .val (.int p4), .val (.int p5), .val (.int (Int32.ofNat B)), .val (.int (Int32.ofNat S)), .val (.int (3 : Int32)), .val (.long y4), .second, .val (.long y5), .second, .val (.long y6), .second, .val (.ref b79), .unset, .unset, .unset] [(.long y5), (.long y4), (.int (3 : Int32)), (.int (Int32.ofNat S)), (.int (Int32.ofNat B)), (.int (2 : Int32)), (.int ((f_full (0 : Int32) B S (3 : Int32) y4 y5 y6) + (f_full (1 : Int32) B S (3 : Int32) y4 y5 y6)))])) _
      refine XS.lload X100.here hx rfl (hb hby at_172) rfl ?_
      exact ht
    obtain ⟨_, _, ⟨T102, L102, kq102, n102⟩, -, X102, ⟨Lc102, hQ102, l102, y102, z102⟩, st102⟩ := Jvm.LawKit.callS X100 hx (y := (⟨"com/example/auspex/auspex/manager/ConflictTableFullBucketSharePinLaw", "fullIn", "(IIIIJJJ)I"⟩ : MethodName)) hown (mvT hZ (hw _ (List.mem_of_getElem? (i := 35) rfl))) (mvT hZ (hw _ (List.mem_of_getElem? (i := 36) rfl))) (mvT hZ (hw _ (List.mem_of_getElem? (i := 37) rfl))) (mvT hZ (hw _ (List.mem_of_getElem? (i := 38) rfl))) (by decide) (backOf (W := 1) (rm_full l Z a0 hw [] (2 : Int32) B S (3 : Int32) y4 y5 y6 T96.heap n0 Z96 (hB : 1 ≤ B ∧ B ≤ 4) (hS : 1 ≤ S ∧ S ≤ 3)) hZ (hw _ (List.mem_of_getElem? (i := 38) rfl)) (hw _ (List.mem_of_getElem? (i := 37) rfl)) (by decide) (by decide)) (g := (mkF m 174 #[.val (.int p0), .val (.int p1), .val (.int p2), .val (.int p3), .val (.int p4), .val (.int p5), .val (.int (Int32.ofNat B)), .val (.int (Int32.ofNat S)), .val (.int (3 : Int32)), .val (.long y4), .second, .val (.long y5), .second, .val (.long y6), .second, .val (.ref b79), .unset, .unset, .unset] [(.long y6), (.long y5), (.long y4), (.int (3 : Int32)), (.int (Int32.ofNat S)), (.int (Int32.ofNat B)), (.int (2 : Int32)), (.int ((f_full (0 : Int32) B S (3 : Int32) y4 y5 y6) + (f_full (1 : Int32) B S (3 : Int32) y4 y5 y6)))])) rfl (by rw [hml]; rfl) (argsL := [(.int (2 : Int32)), (.int (Int32.ofNat B)), (.int (Int32.ofNat S)), (.int (3 : Int32)), (.long y4), (.long y5), (.long y6)]) (rest := [(.int ((f_full (0 : Int32) B S (3 : Int32) y4 y5 y6) + (f_full (1 : Int32) B S (3 : Int32) y4 y5 y6)))]) (lenOf pd_3 rfl) rfl (by show 2 * 0 + _ ≤ _; exact Nat.le_of_eq rfl) (hb hby at_174) (fun _ _ => ⟨rfl, eq100, (by decide : 6 + 0 ≤ _), (by decide : 31 + 0 ≤ _)⟩)
    dsimp only [Pt.U, Pt.locs, Pt.cells, Pt.slots] at X102 l102 y102 z102 st102 hQ102
    subst l102 y102 z102
    obtain ⟨rfl, N102q, eq102⟩ := hQ102
    have N102 := Fr.app N100 N102q
    have k102 : Go p.tables e below (T100.setTop (mkF m 174 #[.val (.int p0), .val (.int p1), .val (.int p2), .val (.int p3), .val (.int p4), .val (.int p5), .val (.int (Int32.ofNat B)), .val (.int (Int32.ofNat S)), .val (.int (3 : Int32)), .val (.long y4), .second, .val (.long y5), .second, .val (.long y6), .second, .val (.ref b79), .unset, .unset, .unset] [(.long y6), (.long y5), (.long y4), (.int (3 : Int32)), (.int (Int32.ofNat S)), (.int (Int32.ofNat B)), (.int (2 : Int32)), (.int ((f_full (0 : Int32) B S (3 : Int32) y4 y5 y6) + (f_full (1 : Int32) B S (3 : Int32) y4 y5 y6)))])) (T102.setTop (mkF m 177 #[.val (.int p0), .val (.int p1), .val (.int p2), .val (.int p3), .val (.int p4), .val (.int p5), .val (.int (Int32.ofNat B)), .val (.int (Int32.ofNat S)), .val (.int (3 : Int32)), .val (.long y4), .second, .val (.long y5), .second, .val (.long y6), .second, .val (.ref b79), .unset, .unset, .unset] [(.int (f_full (2 : Int32) B S (3 : Int32) y4 y5 y6)), (.int ((f_full (0 : Int32) B S (3 : Int32) y4 y5 y6) + (f_full (1 : Int32) B S (3 : Int32) y4 y5 y6)))])) := st102
    have k103 : Go p.tables e below (T102.setTop (mkF m 177 #[.val (.int p0), .val (.int p1), .val (.int p2), .val (.int p3), .val (.int p4), .val (.int p5), .val (.int (Int32.ofNat B)), .val (.int (Int32.ofNat S)), .val (.int (3 : Int32)), .val (.long y4), .second, .val (.long y5), .second, .val (.long y6), .second, .val (.ref b79), .unset, .unset, .unset] [(.int (f_full (2 : Int32) B S (3 : Int32) y4 y5 y6)), (.int ((f_full (0 : Int32) B S (3 : Int32) y4 y5 y6) + (f_full (1 : Int32) B S (3 : Int32) y4 y5 y6)))])) (T102.setTop (mkF m 191 #[.val (.int p0), .val (.int p1), .val (.int p2), .val (.int p3), .val (.int p4), .val (.int p5), .val (.int (Int32.ofNat B)), .val (.int (Int32.ofNat S)), .val (.int (3 : Int32)), .val (.long y4), .second, .val (.long y5), .second, .val (.long y6), .second, .val (.ref b79), .unset, .unset, .unset] [(.long y6), (.long y5), (.long y4), (.int (3 : Int32)), (.int (Int32.ofNat S)), (.int (Int32.ofNat B)), (.int (3 : Int32)), (.int (((f_full (0 : Int32) B S (3 : Int32) y4 y5 y6) + (f_full (1 : Int32) B S (3 : Int32) y4 y5 y6)) + (f_full (2 : Int32) B S (3 : Int32) y4 y5 y6)))])) := by
      intro t ht
      refine XS.iadd X102.here hx rfl (hb hby at_177) rfl ?_
      show Steps p.tables e below (T102.setTop (mkF m 178 #[.val (.int p0), .val (.int p1), .val (.int p2), .val (.int p3), .val (.int p4), .val (.int p5), .val (.int (Int32.ofNat B)), .val (.int (Int32.ofNat S)), .val (.int (3 : Int32)), .val (.long y4), .second, .val (.long y5), .second, .val (.long y6), .second, .val (.ref b79), .unset, .unset, .unset] [(.int (((f_full (0 : Int32) B S (3 : Int32) y4 y5 y6) + (f_full (1 : Int32) B S (3 : Int32) y4 y5 y6)) + (f_full (2 : Int32) B S (3 : Int32) y4 y5 y6)))])) _
      refine XS.iconst X102.here hx rfl (hb hby at_178) ?_
      show Steps p.tables e below (T102.setTop (mkF m 179 #[.val (.int p0), .val (.int p1), .val (.int p2), .val (.int p3), .val (.int p4), .val (.int p5), .val (.int (Int32.ofNat B)), .val (.int (Int32.ofNat S)), .val (.int (3 : Int32)), .val (.long y4), .second, .val (.long y5), .second, .val (.long y6), .second, .val (.ref b79), .unset, .unset, .unset] [(.int (3 : Int32)), (.int (((f_full (0 : Int32) B S (3 : Int32) y4 y5 y6) + (f_full (1 : Int32) B S (3 : Int32) y4 y5 y6)) + (f_full (2 : Int32) B S (3 : Int32) y4 y5 y6)))])) _
      refine XS.iload X102.here hx rfl (hb hby at_179) rfl ?_
      show Steps p.tables e below (T102.setTop (mkF m 181 #[.val (.int p0), .val (.int p1), .val (.int p2), .val (.int p3), .val (.int p4), .val (.int p5), .val (.int (Int32.ofNat B)), .val (.int (Int32.ofNat S)), .val (.int (3 : Int32)), .val (.long y4), .second, .val (.long y5), .second, .val (.long y6), .second, .val (.ref b79), .unset, .unset, .unset] [(.int (Int32.ofNat B)), (.int (3 : Int32)), (.int (((f_full (0 : Int32) B S (3 : Int32) y4 y5 y6) + (f_full (1 : Int32) B S (3 : Int32) y4 y5 y6)) + (f_full (2 : Int32) B S (3 : Int32) y4 y5 y6)))])) _
      refine XS.iload X102.here hx rfl (hb hby at_181) rfl ?_
      show Steps p.tables e below (T102.setTop (mkF m 183 #[.val (.int p0), .val (.int p1), .val (.int p2), .val (.int p3), .val (.int p4), .val (.int p5), .val (.int (Int32.ofNat B)), .val (.int (Int32.ofNat S)), .val (.int (3 : Int32)), .val (.long y4), .second, .val (.long y5), .second, .val (.long y6), .second, .val (.ref b79), .unset, .unset, .unset] [(.int (Int32.ofNat S)), (.int (Int32.ofNat B)), (.int (3 : Int32)), (.int (((f_full (0 : Int32) B S (3 : Int32) y4 y5 y6) + (f_full (1 : Int32) B S (3 : Int32) y4 y5 y6)) + (f_full (2 : Int32) B S (3 : Int32) y4 y5 y6)))])) _
      refine XS.iload X102.here hx rfl (hb hby at_183) rfl ?_
      show Steps p.tables e below (T102.setTop (mkF m 185 #[.val (.int p0), .val (.int p1), .val (.int p2), .val (.int p3), .val (.int p4), .val (.int p5), .val (.int (Int32.ofNat B)), .val (.int (Int32.ofNat S)), .val (.int (3 : Int32)), .val (.long y4), .second, .val (.long y5), .second, .val (.long y6), .second, .val (.ref b79), .unset, .unset, .unset] [(.int (3 : Int32)), (.int (Int32.ofNat S)), (.int (Int32.ofNat B)), (.int (3 : Int32)), (.int (((f_full (0 : Int32) B S (3 : Int32) y4 y5 y6) + (f_full (1 : Int32) B S (3 : Int32) y4 y5 y6)) + (f_full (2 : Int32) B S (3 : Int32) y4 y5 y6)))])) _
      refine XS.lload X102.here hx rfl (hb hby at_185) rfl ?_
      show Steps p.tables e below (T102.setTop (mkF m 187 #[.val (.int p0), .val (.int p1), .val (.int p2), .val (.int p3), .val (.int p4), .val (.int p5), .val (.int (Int32.ofNat B)), .val (.int (Int32.ofNat S)), .val (.int (3 : Int32)), .val (.long y4), .second, .val (.long y5), .second, .val (.long y6), .second, .val (.ref b79), .unset, .unset, .unset] [(.long y4), (.int (3 : Int32)), (.int (Int32.ofNat S)), (.int (Int32.ofNat B)), (.int (3 : Int32)), (.int (((f_full (0 : Int32) B S (3 : Int32) y4 y5 y6) + (f_full (1 : Int32) B S (3 : Int32) y4 y5 y6)) + (f_full (2 : Int32) B S (3 : Int32) y4 y5 y6)))])) _
      refine XS.lload X102.here hx rfl (hb hby at_187) rfl ?_
      show Steps p.tables e below (T102.setTop (mkF m 189 #[.val (.int p0), .val (.int p1), .val (.int p2), .val (.int p3), .val (.int p4), .val (.int p5), .val (.int (Int32.ofNat B)), .val (.int (Int32.ofNat S)), .val (.int (3 : Int32)), .val (.long y4), .second, .val (.long y5), .second, .val (.long y6), .second, .val (.ref b79), .unset, .unset, .unset] [(.long y5), (.long y4), (.int (3 : Int32)), (.int (Int32.ofNat S)), (.int (Int32.ofNat B)), (.int (3 : Int32)), (.int (((f_full (0 : Int32) B S (3 : Int32) y4 y5 y6) + (f_full (1 : Int32) B S (3 : Int32) y4 y5 y6)) + (f_full (2 : Int32) B S (3 : Int32) y4 y5 y6)))])) _
      refine XS.lload X102.here hx rfl (hb hby at_189) rfl ?_
      exact ht
    obtain ⟨_, _, ⟨T104, L104, kq104, n104⟩, -, X104, ⟨Lc104, hQ104, l104, y104, z104⟩, st104⟩ := Jvm.LawKit.callS X102 hx (y := (⟨"com/example/auspex/auspex/manager/ConflictTableFullBucketSharePinLaw", "fullIn", "(IIIIJJJ)I"⟩ : MethodName)) hown (mvT hZ (hw _ (List.mem_of_getElem? (i := 35) rfl))) (mvT hZ (hw _ (List.mem_of_getElem? (i := 36) rfl))) (mvT hZ (hw _ (List.mem_of_getElem? (i := 37) rfl))) (mvT hZ (hw _ (List.mem_of_getElem? (i := 38) rfl))) (by decide) (backOf (W := 1) (rm_full l Z a0 hw [] (3 : Int32) B S (3 : Int32) y4 y5 y6 T96.heap n0 Z96 (hB : 1 ≤ B ∧ B ≤ 4) (hS : 1 ≤ S ∧ S ≤ 3)) hZ (hw _ (List.mem_of_getElem? (i := 38) rfl)) (hw _ (List.mem_of_getElem? (i := 37) rfl)) (by decide) (by decide)) (g := (mkF m 191 #[.val (.int p0), .val (.int p1), .val (.int p2), .val (.int p3), .val (.int p4), .val (.int p5), .val (.int (Int32.ofNat B)), .val (.int (Int32.ofNat S)), .val (.int (3 : Int32)), .val (.long y4), .second, .val (.long y5), .second, .val (.long y6), .second, .val (.ref b79), .unset, .unset, .unset] [(.long y6), (.long y5), (.long y4), (.int (3 : Int32)), (.int (Int32.ofNat S)), (.int (Int32.ofNat B)), (.int (3 : Int32)), (.int (((f_full (0 : Int32) B S (3 : Int32) y4 y5 y6) + (f_full (1 : Int32) B S (3 : Int32) y4 y5 y6)) + (f_full (2 : Int32) B S (3 : Int32) y4 y5 y6)))])) rfl (by rw [hml]; rfl) (argsL := [(.int (3 : Int32)), (.int (Int32.ofNat B)), (.int (Int32.ofNat S)), (.int (3 : Int32)), (.long y4), (.long y5), (.long y6)]) (rest := [(.int (((f_full (0 : Int32) B S (3 : Int32) y4 y5 y6) + (f_full (1 : Int32) B S (3 : Int32) y4 y5 y6)) + (f_full (2 : Int32) B S (3 : Int32) y4 y5 y6)))]) (lenOf pd_3 rfl) rfl (by show 2 * 0 + _ ≤ _; exact Nat.le_of_eq rfl) (hb hby at_191) (fun _ _ => ⟨rfl, eq102, (by decide : 6 + 0 ≤ _), (by decide : 31 + 0 ≤ _)⟩)
    dsimp only [Pt.U, Pt.locs, Pt.cells, Pt.slots] at X104 l104 y104 z104 st104 hQ104
    subst l104 y104 z104
    obtain ⟨rfl, N104q, eq104⟩ := hQ104
    have N104 := Fr.app N102 N104q
    have k104 : Go p.tables e below (T102.setTop (mkF m 191 #[.val (.int p0), .val (.int p1), .val (.int p2), .val (.int p3), .val (.int p4), .val (.int p5), .val (.int (Int32.ofNat B)), .val (.int (Int32.ofNat S)), .val (.int (3 : Int32)), .val (.long y4), .second, .val (.long y5), .second, .val (.long y6), .second, .val (.ref b79), .unset, .unset, .unset] [(.long y6), (.long y5), (.long y4), (.int (3 : Int32)), (.int (Int32.ofNat S)), (.int (Int32.ofNat B)), (.int (3 : Int32)), (.int (((f_full (0 : Int32) B S (3 : Int32) y4 y5 y6) + (f_full (1 : Int32) B S (3 : Int32) y4 y5 y6)) + (f_full (2 : Int32) B S (3 : Int32) y4 y5 y6)))])) (T104.setTop (mkF m 194 #[.val (.int p0), .val (.int p1), .val (.int p2), .val (.int p3), .val (.int p4), .val (.int p5), .val (.int (Int32.ofNat B)), .val (.int (Int32.ofNat S)), .val (.int (3 : Int32)), .val (.long y4), .second, .val (.long y5), .second, .val (.long y6), .second, .val (.ref b79), .unset, .unset, .unset] [(.int (f_full (3 : Int32) B S (3 : Int32) y4 y5 y6)), (.int (((f_full (0 : Int32) B S (3 : Int32) y4 y5 y6) + (f_full (1 : Int32) B S (3 : Int32) y4 y5 y6)) + (f_full (2 : Int32) B S (3 : Int32) y4 y5 y6)))])) := st104
    have k105 : Go p.tables e below (T104.setTop (mkF m 194 #[.val (.int p0), .val (.int p1), .val (.int p2), .val (.int p3), .val (.int p4), .val (.int p5), .val (.int (Int32.ofNat B)), .val (.int (Int32.ofNat S)), .val (.int (3 : Int32)), .val (.long y4), .second, .val (.long y5), .second, .val (.long y6), .second, .val (.ref b79), .unset, .unset, .unset] [(.int (f_full (3 : Int32) B S (3 : Int32) y4 y5 y6)), (.int (((f_full (0 : Int32) B S (3 : Int32) y4 y5 y6) + (f_full (1 : Int32) B S (3 : Int32) y4 y5 y6)) + (f_full (2 : Int32) B S (3 : Int32) y4 y5 y6)))])) (T104.setTop (mkF m 197 #[.val (.int p0), .val (.int p1), .val (.int p2), .val (.int p3), .val (.int p4), .val (.int p5), .val (.int (Int32.ofNat B)), .val (.int (Int32.ofNat S)), .val (.int (3 : Int32)), .val (.long y4), .second, .val (.long y5), .second, .val (.long y6), .second, .val (.ref b79), .val (.int ((((f_full (0 : Int32) B S (3 : Int32) y4 y5 y6) + (f_full (1 : Int32) B S (3 : Int32) y4 y5 y6)) + (f_full (2 : Int32) B S (3 : Int32) y4 y5 y6)) + (f_full (3 : Int32) B S (3 : Int32) y4 y5 y6))), .unset, .unset] [])) := by
      intro t ht
      refine XS.iadd X104.here hx rfl (hb hby at_194) rfl ?_
      show Steps p.tables e below (T104.setTop (mkF m 195 #[.val (.int p0), .val (.int p1), .val (.int p2), .val (.int p3), .val (.int p4), .val (.int p5), .val (.int (Int32.ofNat B)), .val (.int (Int32.ofNat S)), .val (.int (3 : Int32)), .val (.long y4), .second, .val (.long y5), .second, .val (.long y6), .second, .val (.ref b79), .unset, .unset, .unset] [(.int ((((f_full (0 : Int32) B S (3 : Int32) y4 y5 y6) + (f_full (1 : Int32) B S (3 : Int32) y4 y5 y6)) + (f_full (2 : Int32) B S (3 : Int32) y4 y5 y6)) + (f_full (3 : Int32) B S (3 : Int32) y4 y5 y6)))])) _
      refine XS.istore X104.here hx rfl (hb hby at_195) rfl (l' := #[.val (.int p0), .val (.int p1), .val (.int p2), .val (.int p3), .val (.int p4), .val (.int p5), .val (.int (Int32.ofNat B)), .val (.int (Int32.ofNat S)), .val (.int (3 : Int32)), .val (.long y4), .second, .val (.long y5), .second, .val (.long y6), .second, .val (.ref b79), .val (.int ((((f_full (0 : Int32) B S (3 : Int32) y4 y5 y6) + (f_full (1 : Int32) B S (3 : Int32) y4 y5 y6)) + (f_full (2 : Int32) B S (3 : Int32) y4 y5 y6)) + (f_full (3 : Int32) B S (3 : Int32) y4 y5 y6))), .unset, .unset]) rfl ?_
      exact ht
    obtain ⟨y106, ey106⟩ : ∃ z : Int32, z = ((((f_full (0 : Int32) B S (3 : Int32) y4 y5 y6) + (f_full (1 : Int32) B S (3 : Int32) y4 y5 y6)) + (f_full (2 : Int32) B S (3 : Int32) y4 y5 y6)) + (f_full (3 : Int32) B S (3 : Int32) y4 y5 y6)) := ⟨_, rfl⟩
    have k107 : Go p.tables e below (T104.setTop (mkF m 197 #[.val (.int p0), .val (.int p1), .val (.int p2), .val (.int p3), .val (.int p4), .val (.int p5), .val (.int (Int32.ofNat B)), .val (.int (Int32.ofNat S)), .val (.int (3 : Int32)), .val (.long y4), .second, .val (.long y5), .second, .val (.long y6), .second, .val (.ref b79), .val (.int ((((f_full (0 : Int32) B S (3 : Int32) y4 y5 y6) + (f_full (1 : Int32) B S (3 : Int32) y4 y5 y6)) + (f_full (2 : Int32) B S (3 : Int32) y4 y5 y6)) + (f_full (3 : Int32) B S (3 : Int32) y4 y5 y6))), .unset, .unset] [])) (T104.setTop (mkF m 197 #[.val (.int p0), .val (.int p1), .val (.int p2), .val (.int p3), .val (.int p4), .val (.int p5), .val (.int (Int32.ofNat B)), .val (.int (Int32.ofNat S)), .val (.int (3 : Int32)), .val (.long y4), .second, .val (.long y5), .second, .val (.long y6), .second, .val (.ref b79), .val (.int y106), .unset, .unset] [])) := by rw [ey106]; exact fun _ h => h
    have k108 : Go p.tables e below (T104.setTop (mkF m 197 #[.val (.int p0), .val (.int p1), .val (.int p2), .val (.int p3), .val (.int p4), .val (.int p5), .val (.int (Int32.ofNat B)), .val (.int (Int32.ofNat S)), .val (.int (3 : Int32)), .val (.long y4), .second, .val (.long y5), .second, .val (.long y6), .second, .val (.ref b79), .val (.int y106), .unset, .unset] [])) (T104.setTop (mkF m 208 #[.val (.int p0), .val (.int p1), .val (.int p2), .val (.int p3), .val (.int p4), .val (.int p5), .val (.int (Int32.ofNat B)), .val (.int (Int32.ofNat S)), .val (.int (3 : Int32)), .val (.long y4), .second, .val (.long y5), .second, .val (.long y6), .second, .val (.ref b79), .val (.int y106), .val (.double (FP.ddiv (FP.i2d y106) (FP.i2d (Int32.ofNat B)))), .second] [(.ref b79)])) := by
      intro t ht
      refine XS.iload X104.here hx rfl (hb hby at_197) rfl ?_
      show Steps p.tables e below (T104.setTop (mkF m 199 #[.val (.int p0), .val (.int p1), .val (.int p2), .val (.int p3), .val (.int p4), .val (.int p5), .val (.int (Int32.ofNat B)), .val (.int (Int32.ofNat S)), .val (.int (3 : Int32)), .val (.long y4), .second, .val (.long y5), .second, .val (.long y6), .second, .val (.ref b79), .val (.int y106), .unset, .unset] [(.int y106)])) _
      refine XS.i2dS X104.here hx rfl (hb hby at_199) rfl rfl ?_
      show Steps p.tables e below (T104.setTop (mkF m 200 #[.val (.int p0), .val (.int p1), .val (.int p2), .val (.int p3), .val (.int p4), .val (.int p5), .val (.int (Int32.ofNat B)), .val (.int (Int32.ofNat S)), .val (.int (3 : Int32)), .val (.long y4), .second, .val (.long y5), .second, .val (.long y6), .second, .val (.ref b79), .val (.int y106), .unset, .unset] [(.double (FP.i2d y106))])) _
      refine XS.iload X104.here hx rfl (hb hby at_200) rfl ?_
      show Steps p.tables e below (T104.setTop (mkF m 202 #[.val (.int p0), .val (.int p1), .val (.int p2), .val (.int p3), .val (.int p4), .val (.int p5), .val (.int (Int32.ofNat B)), .val (.int (Int32.ofNat S)), .val (.int (3 : Int32)), .val (.long y4), .second, .val (.long y5), .second, .val (.long y6), .second, .val (.ref b79), .val (.int y106), .unset, .unset] [(.int (Int32.ofNat B)), (.double (FP.i2d y106))])) _
      refine XS.i2dS X104.here hx rfl (hb hby at_202) rfl rfl ?_
      show Steps p.tables e below (T104.setTop (mkF m 203 #[.val (.int p0), .val (.int p1), .val (.int p2), .val (.int p3), .val (.int p4), .val (.int p5), .val (.int (Int32.ofNat B)), .val (.int (Int32.ofNat S)), .val (.int (3 : Int32)), .val (.long y4), .second, .val (.long y5), .second, .val (.long y6), .second, .val (.ref b79), .val (.int y106), .unset, .unset] [(.double (FP.i2d (Int32.ofNat B))), (.double (FP.i2d y106))])) _
      refine XS.ddivS X104.here hx rfl (hb hby at_203) rfl (own_nanF hB ey106) rfl ?_
      show Steps p.tables e below (T104.setTop (mkF m 204 #[.val (.int p0), .val (.int p1), .val (.int p2), .val (.int p3), .val (.int p4), .val (.int p5), .val (.int (Int32.ofNat B)), .val (.int (Int32.ofNat S)), .val (.int (3 : Int32)), .val (.long y4), .second, .val (.long y5), .second, .val (.long y6), .second, .val (.ref b79), .val (.int y106), .unset, .unset] [(.double (FP.ddiv (FP.i2d y106) (FP.i2d (Int32.ofNat B))))])) _
      refine XS.dstore X104.here hx rfl (hb hby at_204) rfl (l' := #[.val (.int p0), .val (.int p1), .val (.int p2), .val (.int p3), .val (.int p4), .val (.int p5), .val (.int (Int32.ofNat B)), .val (.int (Int32.ofNat S)), .val (.int (3 : Int32)), .val (.long y4), .second, .val (.long y5), .second, .val (.long y6), .second, .val (.ref b79), .val (.int y106), .val (.double (FP.ddiv (FP.i2d y106) (FP.i2d (Int32.ofNat B)))), .second]) rfl ?_
      show Steps p.tables e below (T104.setTop (mkF m 206 #[.val (.int p0), .val (.int p1), .val (.int p2), .val (.int p3), .val (.int p4), .val (.int p5), .val (.int (Int32.ofNat B)), .val (.int (Int32.ofNat S)), .val (.int (3 : Int32)), .val (.long y4), .second, .val (.long y5), .second, .val (.long y6), .second, .val (.ref b79), .val (.int y106), .val (.double (FP.ddiv (FP.i2d y106) (FP.i2d (Int32.ofNat B)))), .second] [])) _
      refine XS.aload X104.here hx rfl (hb hby at_206) rfl rfl ?_
      exact ht
    obtain ⟨cq109, kq109, q109a, q109b, q109c⟩ := isOf hZ eq104 Fq96_0
    obtain ⟨_, _, ⟨T109, L109, kq109, n109⟩, -, X109, ⟨Lc109, hQ109, l109, y109, z109⟩, st109⟩ := X104.virtualBack hx (y := (⟨"com/example/auspex/auspex/manager/ConflictTable", "fullBucketShare", "()D"⟩ : MethodName)) (z := (⟨"com/example/auspex/auspex/manager/ConflictTable", "fullBucketShare", "()D"⟩ : MethodName)) hown (mvT hZ (hw _ (List.mem_of_getElem? (i := 39) rfl))) (mvT hZ (hw _ (List.mem_of_getElem? (i := 40) rfl))) (notFace_of_selects (args := #[]) (mvT hZ (hw _ (List.mem_of_getElem? (i := 42) rfl)))) (mvT hZ (hw _ (List.mem_of_getElem? (i := 42) rfl))) (mvT hZ (hw _ (List.mem_of_getElem? (i := 41) rfl))) (by decide) (backOf (W := 0) (rm_share l Z a0 hw [] b79 B S xc_81 xl_81 (((own_Z.set ((own_n y4 B S) + (f_rec00 (own_n y4 B S) S y4 own_Z own_Z)) (1 : Int64)).set ((own_n y5 B S) + (f_rec00 (own_n y5 B S) S y5 (own_Z.set ((own_n y4 B S) + (f_rec00 (own_n y4 B S) S y4 own_Z own_Z)) y4) (own_Z.set ((own_n y4 B S) + (f_rec00 (own_n y4 B S) S y4 own_Z own_Z)) (1 : Int64)))) (2 : Int64)).set ((own_n y6 B S) + (f_rec00 (own_n y6 B S) S y6 ((own_Z.set ((own_n y4 B S) + (f_rec00 (own_n y4 B S) S y4 own_Z own_Z)) y4).set ((own_n y5 B S) + (f_rec00 (own_n y5 B S) S y5 (own_Z.set ((own_n y4 B S) + (f_rec00 (own_n y4 B S) S y4 own_Z own_Z)) y4) (own_Z.set ((own_n y4 B S) + (f_rec00 (own_n y4 B S) S y4 own_Z own_Z)) (1 : Int64)))) y5) ((own_Z.set ((own_n y4 B S) + (f_rec00 (own_n y4 B S) S y4 own_Z own_Z)) (1 : Int64)).set ((own_n y5 B S) + (f_rec00 (own_n y5 B S) S y5 (own_Z.set ((own_n y4 B S) + (f_rec00 (own_n y4 B S) S y4 own_Z own_Z)) y4) (own_Z.set ((own_n y4 B S) + (f_rec00 (own_n y4 B S) S y4 own_Z own_Z)) (1 : Int64)))) (2 : Int64)))) (3 : Int64)) T96.heap n0 Z96 Fq96_1 Fq96_2 Fq96_4 Fq96_6 (hB : 1 ≤ B ∧ B ≤ 4) (hS : 1 ≤ S ∧ S ≤ 3)) hZ (hw _ (List.mem_of_getElem? (i := 43) rfl)) (hw _ (List.mem_of_getElem? (i := 3) rfl)) (by decide) (by decide)) q109a q109c (g := (mkF m 208 #[.val (.int p0), .val (.int p1), .val (.int p2), .val (.int p3), .val (.int p4), .val (.int p5), .val (.int (Int32.ofNat B)), .val (.int (Int32.ofNat S)), .val (.int (3 : Int32)), .val (.long y4), .second, .val (.long y5), .second, .val (.long y6), .second, .val (.ref b79), .val (.int y106), .val (.double (FP.ddiv (FP.i2d y106) (FP.i2d (Int32.ofNat B)))), .second] [(.ref b79)])) rfl (by rw [hml]; rfl) (Steps.refl _) (argsL := []) (rest := []) (lenOf pd_4 rfl) rfl (by show 2 * 0 + _ ≤ _; exact Nat.le_of_eq rfl) (hb hby at_208) (fun _ _ => ⟨rfl, eq104, (by decide : 6 + 0 ≤ _), (by decide : 31 + 0 ≤ _)⟩)
    dsimp only [Pt.U, Pt.locs, Pt.cells, Pt.slots] at X109 l109 y109 z109 st109 hQ109
    subst l109 y109 z109
    obtain ⟨rfl, N109q, eq109⟩ := hQ109
    have N109 := Fr.app N104 N109q
    have k109 : Go p.tables e below (T104.setTop (mkF m 208 #[.val (.int p0), .val (.int p1), .val (.int p2), .val (.int p3), .val (.int p4), .val (.int p5), .val (.int (Int32.ofNat B)), .val (.int (Int32.ofNat S)), .val (.int (3 : Int32)), .val (.long y4), .second, .val (.long y5), .second, .val (.long y6), .second, .val (.ref b79), .val (.int y106), .val (.double (FP.ddiv (FP.i2d y106) (FP.i2d (Int32.ofNat B)))), .second] [(.ref b79)])) (T109.setTop (mkF m 211 #[.val (.int p0), .val (.int p1), .val (.int p2), .val (.int p3), .val (.int p4), .val (.int p5), .val (.int (Int32.ofNat B)), .val (.int (Int32.ofNat S)), .val (.int (3 : Int32)), .val (.long y4), .second, .val (.long y5), .second, .val (.long y6), .second, .val (.ref b79), .val (.int y106), .val (.double (FP.ddiv (FP.i2d y106) (FP.i2d (Int32.ofNat B)))), .second] [(.double (FP.ddiv (FP.l2d (own_share B S (((own_Z.set ((own_n y4 B S) + (f_rec00 (own_n y4 B S) S y4 own_Z own_Z)) (1 : Int64)).set ((own_n y5 B S) + (f_rec00 (own_n y5 B S) S y5 (own_Z.set ((own_n y4 B S) + (f_rec00 (own_n y4 B S) S y4 own_Z own_Z)) y4) (own_Z.set ((own_n y4 B S) + (f_rec00 (own_n y4 B S) S y4 own_Z own_Z)) (1 : Int64)))) (2 : Int64)).set ((own_n y6 B S) + (f_rec00 (own_n y6 B S) S y6 ((own_Z.set ((own_n y4 B S) + (f_rec00 (own_n y4 B S) S y4 own_Z own_Z)) y4).set ((own_n y5 B S) + (f_rec00 (own_n y5 B S) S y5 (own_Z.set ((own_n y4 B S) + (f_rec00 (own_n y4 B S) S y4 own_Z own_Z)) y4) (own_Z.set ((own_n y4 B S) + (f_rec00 (own_n y4 B S) S y4 own_Z own_Z)) (1 : Int64)))) y5) ((own_Z.set ((own_n y4 B S) + (f_rec00 (own_n y4 B S) S y4 own_Z own_Z)) (1 : Int64)).set ((own_n y5 B S) + (f_rec00 (own_n y5 B S) S y5 (own_Z.set ((own_n y4 B S) + (f_rec00 (own_n y4 B S) S y4 own_Z own_Z)) y4) (own_Z.set ((own_n y4 B S) + (f_rec00 (own_n y4 B S) S y4 own_Z own_Z)) (1 : Int64)))) (2 : Int64)))) (3 : Int64)))) (FP.i2d (Int32.ofNat B))))])) := fun _ ht => st109.trans ht
    have k110 : Go p.tables e below (T109.setTop (mkF m 211 #[.val (.int p0), .val (.int p1), .val (.int p2), .val (.int p3), .val (.int p4), .val (.int p5), .val (.int (Int32.ofNat B)), .val (.int (Int32.ofNat S)), .val (.int (3 : Int32)), .val (.long y4), .second, .val (.long y5), .second, .val (.long y6), .second, .val (.ref b79), .val (.int y106), .val (.double (FP.ddiv (FP.i2d y106) (FP.i2d (Int32.ofNat B)))), .second] [(.double (FP.ddiv (FP.l2d (own_share B S (((own_Z.set ((own_n y4 B S) + (f_rec00 (own_n y4 B S) S y4 own_Z own_Z)) (1 : Int64)).set ((own_n y5 B S) + (f_rec00 (own_n y5 B S) S y5 (own_Z.set ((own_n y4 B S) + (f_rec00 (own_n y4 B S) S y4 own_Z own_Z)) y4) (own_Z.set ((own_n y4 B S) + (f_rec00 (own_n y4 B S) S y4 own_Z own_Z)) (1 : Int64)))) (2 : Int64)).set ((own_n y6 B S) + (f_rec00 (own_n y6 B S) S y6 ((own_Z.set ((own_n y4 B S) + (f_rec00 (own_n y4 B S) S y4 own_Z own_Z)) y4).set ((own_n y5 B S) + (f_rec00 (own_n y5 B S) S y5 (own_Z.set ((own_n y4 B S) + (f_rec00 (own_n y4 B S) S y4 own_Z own_Z)) y4) (own_Z.set ((own_n y4 B S) + (f_rec00 (own_n y4 B S) S y4 own_Z own_Z)) (1 : Int64)))) y5) ((own_Z.set ((own_n y4 B S) + (f_rec00 (own_n y4 B S) S y4 own_Z own_Z)) (1 : Int64)).set ((own_n y5 B S) + (f_rec00 (own_n y5 B S) S y5 (own_Z.set ((own_n y4 B S) + (f_rec00 (own_n y4 B S) S y4 own_Z own_Z)) y4) (own_Z.set ((own_n y4 B S) + (f_rec00 (own_n y4 B S) S y4 own_Z own_Z)) (1 : Int64)))) (2 : Int64)))) (3 : Int64)))) (FP.i2d (Int32.ofNat B))))])) (T109.setTop (mkF m 222 #[.val (.int p0), .val (.int p1), .val (.int p2), .val (.int p3), .val (.int p4), .val (.int p5), .val (.int (Int32.ofNat B)), .val (.int (Int32.ofNat S)), .val (.int (3 : Int32)), .val (.long y4), .second, .val (.long y5), .second, .val (.long y6), .second, .val (.ref b79), .val (.int y106), .val (.double (FP.ddiv (FP.i2d y106) (FP.i2d (Int32.ofNat B)))), .second] [(.int (1 : Int32))])) := by
      intro t ht
      refine XS.dload X109.here hx rfl (hb hby at_211) rfl ?_
      show Steps p.tables e below (T109.setTop (mkF m 213 #[.val (.int p0), .val (.int p1), .val (.int p2), .val (.int p3), .val (.int p4), .val (.int p5), .val (.int (Int32.ofNat B)), .val (.int (Int32.ofNat S)), .val (.int (3 : Int32)), .val (.long y4), .second, .val (.long y5), .second, .val (.long y6), .second, .val (.ref b79), .val (.int y106), .val (.double (FP.ddiv (FP.i2d y106) (FP.i2d (Int32.ofNat B)))), .second] [(.double (FP.ddiv (FP.i2d y106) (FP.i2d (Int32.ofNat B)))), (.double (FP.ddiv (FP.l2d (own_share B S (((own_Z.set ((own_n y4 B S) + (f_rec00 (own_n y4 B S) S y4 own_Z own_Z)) (1 : Int64)).set ((own_n y5 B S) + (f_rec00 (own_n y5 B S) S y5 (own_Z.set ((own_n y4 B S) + (f_rec00 (own_n y4 B S) S y4 own_Z own_Z)) y4) (own_Z.set ((own_n y4 B S) + (f_rec00 (own_n y4 B S) S y4 own_Z own_Z)) (1 : Int64)))) (2 : Int64)).set ((own_n y6 B S) + (f_rec00 (own_n y6 B S) S y6 ((own_Z.set ((own_n y4 B S) + (f_rec00 (own_n y4 B S) S y4 own_Z own_Z)) y4).set ((own_n y5 B S) + (f_rec00 (own_n y5 B S) S y5 (own_Z.set ((own_n y4 B S) + (f_rec00 (own_n y4 B S) S y4 own_Z own_Z)) y4) (own_Z.set ((own_n y4 B S) + (f_rec00 (own_n y4 B S) S y4 own_Z own_Z)) (1 : Int64)))) y5) ((own_Z.set ((own_n y4 B S) + (f_rec00 (own_n y4 B S) S y4 own_Z own_Z)) (1 : Int64)).set ((own_n y5 B S) + (f_rec00 (own_n y5 B S) S y5 (own_Z.set ((own_n y4 B S) + (f_rec00 (own_n y4 B S) S y4 own_Z own_Z)) y4) (own_Z.set ((own_n y4 B S) + (f_rec00 (own_n y4 B S) S y4 own_Z own_Z)) (1 : Int64)))) (2 : Int64)))) (3 : Int64)))) (FP.i2d (Int32.ofNat B))))])) _
      refine XS.dcmpS X109.here hx rfl (hb hby at_213) rfl rfl ?_
      show Steps p.tables e below (T109.setTop (mkF m 214 #[.val (.int p0), .val (.int p1), .val (.int p2), .val (.int p3), .val (.int p4), .val (.int p5), .val (.int (Int32.ofNat B)), .val (.int (Int32.ofNat S)), .val (.int (3 : Int32)), .val (.long y4), .second, .val (.long y5), .second, .val (.long y6), .second, .val (.ref b79), .val (.int y106), .val (.double (FP.ddiv (FP.i2d y106) (FP.i2d (Int32.ofNat B)))), .second] [(.int (cmpValue (FP.dcmp (FP.ddiv (FP.l2d (own_share B S (((own_Z.set ((own_n y4 B S) + (f_rec00 (own_n y4 B S) S y4 own_Z own_Z)) (1 : Int64)).set ((own_n y5 B S) + (f_rec00 (own_n y5 B S) S y5 (own_Z.set ((own_n y4 B S) + (f_rec00 (own_n y4 B S) S y4 own_Z own_Z)) y4) (own_Z.set ((own_n y4 B S) + (f_rec00 (own_n y4 B S) S y4 own_Z own_Z)) (1 : Int64)))) (2 : Int64)).set ((own_n y6 B S) + (f_rec00 (own_n y6 B S) S y6 ((own_Z.set ((own_n y4 B S) + (f_rec00 (own_n y4 B S) S y4 own_Z own_Z)) y4).set ((own_n y5 B S) + (f_rec00 (own_n y5 B S) S y5 (own_Z.set ((own_n y4 B S) + (f_rec00 (own_n y4 B S) S y4 own_Z own_Z)) y4) (own_Z.set ((own_n y4 B S) + (f_rec00 (own_n y4 B S) S y4 own_Z own_Z)) (1 : Int64)))) y5) ((own_Z.set ((own_n y4 B S) + (f_rec00 (own_n y4 B S) S y4 own_Z own_Z)) (1 : Int64)).set ((own_n y5 B S) + (f_rec00 (own_n y5 B S) S y5 (own_Z.set ((own_n y4 B S) + (f_rec00 (own_n y4 B S) S y4 own_Z own_Z)) y4) (own_Z.set ((own_n y4 B S) + (f_rec00 (own_n y4 B S) S y4 own_Z own_Z)) (1 : Int64)))) (2 : Int64)))) (3 : Int64)))) (FP.i2d (Int32.ofNat B))) (FP.ddiv (FP.i2d y106) (FP.i2d (Int32.ofNat B)))) .l))])) _
      refine XS.ifNo X109.here hx rfl (hb hby at_214) rfl ((if0 _ _).trans (teq (own_final3 hB hS hH0 hH1 hH2 ey106 : (cmpValue (FP.dcmp (FP.ddiv (FP.l2d (own_share B S (((own_Z.set ((own_n y4 B S) + (f_rec00 (own_n y4 B S) S y4 own_Z own_Z)) (1 : Int64)).set ((own_n y5 B S) + (f_rec00 (own_n y5 B S) S y5 (own_Z.set ((own_n y4 B S) + (f_rec00 (own_n y4 B S) S y4 own_Z own_Z)) y4) (own_Z.set ((own_n y4 B S) + (f_rec00 (own_n y4 B S) S y4 own_Z own_Z)) (1 : Int64)))) (2 : Int64)).set ((own_n y6 B S) + (f_rec00 (own_n y6 B S) S y6 ((own_Z.set ((own_n y4 B S) + (f_rec00 (own_n y4 B S) S y4 own_Z own_Z)) y4).set ((own_n y5 B S) + (f_rec00 (own_n y5 B S) S y5 (own_Z.set ((own_n y4 B S) + (f_rec00 (own_n y4 B S) S y4 own_Z own_Z)) y4) (own_Z.set ((own_n y4 B S) + (f_rec00 (own_n y4 B S) S y4 own_Z own_Z)) (1 : Int64)))) y5) ((own_Z.set ((own_n y4 B S) + (f_rec00 (own_n y4 B S) S y4 own_Z own_Z)) (1 : Int64)).set ((own_n y5 B S) + (f_rec00 (own_n y5 B S) S y5 (own_Z.set ((own_n y4 B S) + (f_rec00 (own_n y4 B S) S y4 own_Z own_Z)) y4) (own_Z.set ((own_n y4 B S) + (f_rec00 (own_n y4 B S) S y4 own_Z own_Z)) (1 : Int64)))) (2 : Int64)))) (3 : Int64)))) (FP.i2d (Int32.ofNat B))) (FP.ddiv (FP.i2d y106) (FP.i2d (Int32.ofNat B)))) .l) = (0 : Int32))).2) ?_
      show Steps p.tables e below (T109.setTop (mkF m 217 #[.val (.int p0), .val (.int p1), .val (.int p2), .val (.int p3), .val (.int p4), .val (.int p5), .val (.int (Int32.ofNat B)), .val (.int (Int32.ofNat S)), .val (.int (3 : Int32)), .val (.long y4), .second, .val (.long y5), .second, .val (.long y6), .second, .val (.ref b79), .val (.int y106), .val (.double (FP.ddiv (FP.i2d y106) (FP.i2d (Int32.ofNat B)))), .second] [])) _
      refine XS.iconst X109.here hx rfl (hb hby at_217) ?_
      show Steps p.tables e below (T109.setTop (mkF m 218 #[.val (.int p0), .val (.int p1), .val (.int p2), .val (.int p3), .val (.int p4), .val (.int p5), .val (.int (Int32.ofNat B)), .val (.int (Int32.ofNat S)), .val (.int (3 : Int32)), .val (.long y4), .second, .val (.long y5), .second, .val (.long y6), .second, .val (.ref b79), .val (.int y106), .val (.double (FP.ddiv (FP.i2d y106) (FP.i2d (Int32.ofNat B)))), .second] [(.int (1 : Int32))])) _
      refine XS.goto X109.here hx rfl (pc0 := 218) (pc' := 222) rfl (hb hby at_218) (by decide) (by decide) ?_
      exact ht
    obtain ⟨fs, hr, hrun, hended, hW, hsame⟩ := X109.leave (v := some (.int (1 : Int32))) (fun h => by rw [Bd.returns] at h; cases h)
    refine ⟨_, _, pre0 _ ((goT k1 (goT k2 (goT k3 (goT k7 (goT k78 (goT k79 (goT k80 (goT k81 (goT k82 (goT k83 (goT k84 (goT k85 (goT k86 (goT k87 (goT k88 (goT k89 (goT k90 (goT k91 (goT k92 (goT k93 (goT k94 (goT k95 (goT k96 (goT k97 (goT k98 (goT k99 (goT k100 (goT k101 (goT k102 (goT k103 (goT k104 (goT k105 (goT k107 (goT k108 (goT k109 k110))))))))))))))))))))))))))))))))))) _ (retN X109 hx (t := .boolean) Bd.returns (by simp) (hb hby at_222) hr)), hrun, hended, _, _, rfl, ?_, ⟨_, rfl⟩, hW, hsame.mono (by decide) (by decide)⟩
    show Q_law Z p0 p1 p2 p3 p4 p5 h0 n0 _ T109.heap _
    rw [eq109]
    exact ⟨rfl, N109⟩
set_option maxRecDepth 65536 in
set_option maxHeartbeats 40000000 in
theorem comes_1 {Post : Tables → Env → Array Value → State → Outcome → State → Prop} (hpost : ∀ tb e args s v u, (limb_1_1.after args s (.returned v) u = true ∧ limb_1_2.after args s (.returned v) u = true ∧ True) → FrameEnd s (.returned v) u (Jvm.fieldLocs frame_1_writes args s ++ Jvm.arrayLocs frame_1_arrays args s ++ Jvm.staticLocs frame_1_statics s) 24 128 → Post tb e args s (.returned v) u) :
    ArmFor flags0 classFile x code maxLocals ret World_1 tables_1 room_1 Calls_1 rest_1 Pre_1 Post := by
  intro l hfl _ _ p e ha hc hk s m args below hf hA hF happ hP
  obtain ⟨hcalls, hrest, hpre⟩ := hP
  obtain ⟨-, -, -, hnamed, -, -, -, hat⟩ := (Spec.applies_iff hf).mp happ
  obtain ⟨hg, hn⟩ := and_e (Cond.before_iff.mp (show (Jvm.Cond.and given_1 narrow_1).before args s = true from hpre))
  obtain ⟨hcnt, hg⟩ := and_e hg
  obtain ⟨ha0, hg⟩ := and_e hg
  obtain ⟨ha1, hg⟩ := and_e hg
  obtain ⟨ha2, hg⟩ := and_e hg
  obtain ⟨ha3, hg⟩ := and_e hg
  obtain ⟨ha4, hg⟩ := and_e hg
  have ha5 := hg
  obtain ⟨w0, w1, w2, w3, w4, w5, rfl⟩ : ∃ w0 w1 w2 w3 w4 w5 : Value, args = #[w0, w1, w2, w3, w4, w5] := by
    have hs : args.size = 6 := by simpa [Cond.value, given_1] using hcnt
    obtain ⟨L⟩ := args
    match L, hs with
    | [w0, w1, w2, w3, w4, w5], _ => exact ⟨w0, w1, w2, w3, w4, w5, rfl⟩
  have hw := fun d (hd : d ∈ tables_1) => atoms_spec (ws := Jvm.Cond.code x code maxLocals ret :: tables_1) hat d (List.mem_cons_of_mem _ hd)
  have hfit : Fit s := fun {y c} hc i hi => by
    obtain ⟨ha, rfl⟩ := Array.getElem?_eq_some_iff.mp hc
    have q := List.all_eq_true.mp ((Array.all_eq_true_iff_forall_mem.mp hF) _ (Array.getElem_mem ha)) i (List.mem_range.mpr hi)
    simpa [Array.getElem?_eq_getElem hi] using q
  obtain ⟨i0, ei0⟩ := is_v ha0
  obtain rfl : w0 = (.int i0) := Option.some.inj ei0
  obtain ⟨i1, ei1⟩ := is_v ha1
  obtain rfl : w1 = (.int i1) := Option.some.inj ei1
  obtain ⟨i2, ei2⟩ := is_v ha2
  obtain rfl : w2 = (.int i2) := Option.some.inj ei2
  obtain ⟨i3, ei3⟩ := is_v ha3
  obtain rfl : w3 = (.int i3) := Option.some.inj ei3
  obtain ⟨i4, ei4⟩ := is_v ha4
  obtain rfl : w4 = (.int i4) := Option.some.inj ei4
  obtain ⟨i5, ei5⟩ := is_v ha5
  obtain rfl : w5 = (.int i5) := Option.some.inj ei5
  obtain ⟨n, o, h1, h2, h3, _, L, rfl, ⟨rfl, N⟩, hq⟩ := rm_law l s _ hw tables_1 i0 i1 i2 i3 i4 i5 s.heap s.heap.size (Nat.le_refl _)  p e ha hc hk s m _ below hf ((Spec.applies_iff_loose hf).mp happ).1 ⟨rfl, State.Warmed39.refl s, rfl⟩ trivial
  refine ⟨n, _, h1, h2, h3, hpost _ _ _ _ _ _ ⟨Cond.after_iff.mpr rfl, Cond.after_iff.mpr (eq_i res_at (Term.int_eval (1)) rfl), trivial⟩ ⟨hq.1, hq.2.1, (hq.2.2.sift fun y hy => Or.inr (N y hy)).mono (by decide) (by decide)⟩⟩
theorem main_1_1 : Claimed_1_1 := comes_1 fun _ _ _ _ _ _ h hF => ⟨h.1, hF⟩
theorem main_1_2 : Claimed_1_2 := comes_1 fun _ _ _ _ _ _ h hF => ⟨h.2.1, hF⟩
end Jvm.Pilot.@@N@@
namespace Jvm.Pilot.@@N@@
open Jvm Jvm.ClassFile Sem Op Lib Jvm.Free Jvm.Stand Jvm.Pilot.@@N@@.Jvm.D
/-! MADE BY PROGRAM (witnessworld.py) out of the Statement's table words and the real class files: 16 classes; the members and pool entries that the words name. The judged class is class 1, her method 1. -/
namespace start1
open Jvm.ClassFile
def u (s : String) : CpInfo := .utf8 (stringToUtf16 s)
/-- a pool by its gaps: so many unusable entries, then the entry; so many at the end -/
def gap : Nat → List CpInfo → List CpInfo
  | 0, r => r
  | n + 1, r => .unusable :: gap n r
def poolList (es : List (Nat × CpInfo)) (last : Nat) : List CpInfo := es.foldr (fun e r => gap e.1 (e.2 :: r)) (gap last [])
def pool (es : List (Nat × CpInfo)) (last : Nat) : Array CpInfo := ⟨poolList es last⟩
def fileOf (pool : Array CpInfo) (this : Nat) (attrs : Array Attribute := #[]) (ms : Array MethodInfo := #[]) (fl : Nat := 33) (sup : Nat := 0) (ifs : Array Nat := #[]) (fds : Array FieldInfo := #[]) : ClassFile where
  minorVersion := 0
  majorVersion := 65
  constantPool := pool
  accessFlags := fl
  thisClass := this
  superClass := sup
  interfaces := ifs
  fields := fds
  methods := ms
  attributes := attrs
def plain (name : String) (sup : Option ClassId) : Class where
  name := name
  kind := .ordinary
  loader := none
  accessFlags := 33
  super := sup
  interfaces := #[]
  cf := none
  fields := #[]
  methods := #[]
  instanceTypes := #[]
  staticTypes := #[]
  resolved := #[]
  callSites := []
  init := .initialized
  statics := none
  mirror := none

def pool0 : Array CpInfo := pool [(5, u "<init>"), (0, u "()V"), (1, .class_ 10), (1, u "java/lang/Object")] 113

def k0c0 : Code := { maxStack := 0, maxLocals := 1, code := object_method_1_code, exceptionTable := #[], attributes := #[] }
def k0m0 : Method := { name := "<init>", desc := "()V", sig := { parameters := [], returnType := none }, accessFlags := 1, code := some k0c0 }
/-- java/lang/Object -/
def k0 : Class := { plain "java/lang/Object" none with
  accessFlags := 33
  interfaces := #[]
  cf := some (fileOf pool0 8 #[] #[{ accessFlags := 1, nameIndex := 5, descriptorIndex := 6, attributes := #[] }] 33 0 #[] #[])
  fields := #[]
  methods := #[k0m0]
  instanceTypes := #[]
  staticTypes := #[]
  resolved := Array.replicate 124 none
  statics := none }

def pool1 : Array CpInfo := pool [(2, .class_ 4), (1, u "java/lang/Object"), (0, u "<init>"), (0, u "()V"), (0, .integer 2147483647), (0, .class_ 9), (0, u "com/example/auspex/auspex/manager/ConflictTable"), (0, .methodref 8 11), (0, .nameAndType 5 12), (0, u "(II)V"), (0, .methodref 8 14), (0, .nameAndType 15 16), (0, u "record"), (0, u "(J[J)V"), (0, .long 2), (1, .long 3), (1, .methodref 22 23), (0, .class_ 24), (0, .nameAndType 25 26), (0, u "com/example/auspex/auspex/manager/ConflictTableFullBucketSharePinLaw"), (0, u "fullIn"), (0, u "(IIIIJJJ)I"), (0, .methodref 8 28), (0, .nameAndType 29 30), (0, u "fullBucketShare"), (0, u "()D"), (2, u "law"), (0, u "(IIIIII)Z")] 3

def k1m0 : Method := { name := "<init>", desc := "()V", sig := { parameters := [], returnType := none }, accessFlags := 1, code := none }
def k1c1 : Code := { maxStack := 11, maxLocals := 19, code := code, exceptionTable := #[], attributes := #[] }
def k1m1 : Method := { name := "law", desc := "(IIIIII)Z", sig := { parameters := [.int, .int, .int, .int, .int, .int], returnType := some .boolean }, accessFlags := 9, code := some k1c1 }
def k1c2 : Code := { maxStack := 4, maxLocals := 11, code := method_3_code, exceptionTable := #[], attributes := #[] }
def k1m2 : Method := { name := "fullIn", desc := "(IIIIJJJ)I", sig := { parameters := [.int, .int, .int, .int, .long, .long, .long], returnType := some .int }, accessFlags := 10, code := some k1c2 }
/-- com/example/auspex/auspex/manager/ConflictTableFullBucketSharePinLaw -/
def k1 : Class := { plain "com/example/auspex/auspex/manager/ConflictTableFullBucketSharePinLaw" (some 0) with
  accessFlags := 49
  interfaces := #[]
  cf := some (fileOf pool1 22 #[] #[{ accessFlags := 1, nameIndex := 5, descriptorIndex := 6, attributes := #[] }, { accessFlags := 9, nameIndex := 33, descriptorIndex := 34, attributes := #[] }, { accessFlags := 10, nameIndex := 25, descriptorIndex := 26, attributes := #[] }] 49 2 #[] #[])
  fields := #[]
  methods := #[k1m0, k1m1, k1m2]
  instanceTypes := #[]
  staticTypes := #[]
  resolved := Array.replicate 38 none
  statics := none }

def pool2 : Array CpInfo := pool [(1, .class_ 2), (0, u "java/lang/Long"), (0, .methodref 4 5), (0, .class_ 6), (0, .nameAndType 7 8), (0, u "java/lang/Object"), (0, u "<init>"), (0, u "()V"), (0, .class_ 10), (0, u "com/example/auspex/auspex/manager/ConflictTable"), (0, .long 1073741824), (10, .fieldref 9 23), (0, .nameAndType 24 25), (0, u "buckets"), (0, u "I"), (0, .fieldref 9 27), (0, .nameAndType 28 25), (0, u "slotsPerBucket"), (0, .fieldref 9 30), (0, .nameAndType 31 32), (0, u "hashes"), (0, u "[J"), (0, .fieldref 9 34), (0, .nameAndType 35 32), (0, u "commits"), (4, .methodref 9 41), (0, .nameAndType 42 43), (0, u "firstSlot"), (0, u "(J)I"), (0, .methodref 1 45), (0, .nameAndType 46 47), (0, u "remainderUnsigned"), (0, u "(JJ)J"), (0, u "MOST_SLOTS"), (0, u "J"), (1, u "SLOT_BYTES"), (1, u "(II)V"), (7, u "record"), (0, u "(J[J)V"), (0, u "fullBucketShare"), (0, u "()D")] 17

def k2c0 : Code := { maxStack := 4, maxLocals := 5, code := prog_25_method_1_code, exceptionTable := #[], attributes := #[] }
def k2m0 : Method := { name := "<init>", desc := "(II)V", sig := { parameters := [.int, .int], returnType := none }, accessFlags := 0, code := some k2c0 }
def k2c1 : Code := { maxStack := 4, maxLocals := 12, code := prog_25_method_5_code, exceptionTable := #[], attributes := #[] }
def k2m1 : Method := { name := "record", desc := "(J[J)V", sig := { parameters := [.long, (.array .long)], returnType := none }, accessFlags := 0, code := some k2c1 }
def k2c2 : Code := { maxStack := 4, maxLocals := 5, code := prog_25_method_6_code, exceptionTable := #[], attributes := #[] }
def k2m2 : Method := { name := "fullBucketShare", desc := "()D", sig := { parameters := [], returnType := some .double }, accessFlags := 0, code := some k2c2 }
def k2c3 : Code := { maxStack := 4, maxLocals := 3, code := prog_25_method_8_code, exceptionTable := #[], attributes := #[] }
def k2m3 : Method := { name := "firstSlot", desc := "(J)I", sig := { parameters := [.long], returnType := some .int }, accessFlags := 2, code := some k2c3 }
/-- com/example/auspex/auspex/manager/ConflictTable -/
def k2 : Class := { plain "com/example/auspex/auspex/manager/ConflictTable" (some 0) with
  accessFlags := 48
  interfaces := #[]
  cf := some (fileOf pool2 9 #[] #[{ accessFlags := 0, nameIndex := 7, descriptorIndex := 53, attributes := #[] }, { accessFlags := 0, nameIndex := 61, descriptorIndex := 62, attributes := #[] }, { accessFlags := 0, nameIndex := 63, descriptorIndex := 64, attributes := #[] }, { accessFlags := 2, nameIndex := 42, descriptorIndex := 43, attributes := #[] }] 48 4 #[] #[{ accessFlags := 24, nameIndex := 48, descriptorIndex := 49, attributes := #[] }, { accessFlags := 24, nameIndex := 51, descriptorIndex := 25, attributes := #[] }, { accessFlags := 18, nameIndex := 24, descriptorIndex := 25, attributes := #[] }, { accessFlags := 18, nameIndex := 28, descriptorIndex := 25, attributes := #[] }, { accessFlags := 18, nameIndex := 31, descriptorIndex := 32, attributes := #[] }, { accessFlags := 18, nameIndex := 35, descriptorIndex := 32, attributes := #[] }])
  fields := #[{ name := "MOST_SLOTS", type := .long, accessFlags := 24, slot := 0, constantValue := 0 }, { name := "SLOT_BYTES", type := .int, accessFlags := 24, slot := 1, constantValue := 0 }, { name := "buckets", type := .int, accessFlags := 18, slot := 0, constantValue := 0 }, { name := "slotsPerBucket", type := .int, accessFlags := 18, slot := 1, constantValue := 0 }, { name := "hashes", type := (.array .long), accessFlags := 18, slot := 2, constantValue := 0 }, { name := "commits", type := (.array .long), accessFlags := 18, slot := 3, constantValue := 0 }]
  methods := #[k2m0, k2m1, k2m2, k2m3]
  instanceTypes := #[.int, .int, (.array .long), (.array .long)]
  staticTypes := #[.long, .int]
  resolved := Array.replicate 82 none
  statics := none }

def pool3 : Array CpInfo := pool [(1, .class_ 2), (0, u "java/io/Serializable"), (0, .class_ 4), (0, u "java/lang/Object")] 2

/-- java/io/Serializable -/
def k3 : Class := { plain "java/io/Serializable" (some 0) with
  accessFlags := 1537
  interfaces := #[]
  cf := some (fileOf pool3 1 #[] #[] 1537 3 #[] #[])
  fields := #[]
  methods := #[]
  instanceTypes := #[]
  staticTypes := #[]
  resolved := Array.replicate 7 none
  statics := none }

def pool4 : Array CpInfo := pool [(2, .class_ 4), (1, u "java/lang/Object"), (0, u "<init>"), (0, u "()V"), (1, .class_ 10), (1, u "java/lang/Number"), (2, .class_ 14), (0, u "java/io/Serializable"), (0, u "serialVersionUID"), (0, u "J")] 20

def k4m0 : Method := { name := "<init>", desc := "()V", sig := { parameters := [], returnType := none }, accessFlags := 1, code := none }
/-- java/lang/Number -/
def k4 : Class := { plain "java/lang/Number" (some 0) with
  accessFlags := 1057
  interfaces := #[3]
  cf := some (fileOf pool4 8 #[] #[{ accessFlags := 1, nameIndex := 5, descriptorIndex := 6, attributes := #[] }] 1057 2 #[13] #[{ accessFlags := 26, nameIndex := 15, descriptorIndex := 16, attributes := #[] }])
  fields := #[{ name := "serialVersionUID", type := .long, accessFlags := 26, slot := 0, constantValue := 0 }]
  methods := #[k4m0]
  instanceTypes := #[]
  staticTypes := #[.long]
  resolved := Array.replicate 37 none
  statics := none }

def pool5 : Array CpInfo := pool [(1, .class_ 2), (0, u "java/lang/Comparable"), (0, .class_ 4), (0, u "java/lang/Object")] 7

/-- java/lang/Comparable -/
def k5 : Class := { plain "java/lang/Comparable" (some 0) with
  accessFlags := 1537
  interfaces := #[]
  cf := some (fileOf pool5 1 #[] #[] 1537 3 #[] #[])
  fields := #[]
  methods := #[]
  instanceTypes := #[]
  staticTypes := #[]
  resolved := Array.replicate 12 none
  statics := none }

def pool6 : Array CpInfo := pool [(1, .class_ 2), (0, u "java/lang/constant/Constable"), (0, .class_ 4), (0, u "java/lang/Object")] 6

/-- java/lang/constant/Constable -/
def k6 : Class := { plain "java/lang/constant/Constable" (some 0) with
  accessFlags := 1537
  interfaces := #[]
  cf := some (fileOf pool6 1 #[] #[] 1537 3 #[] #[])
  fields := #[]
  methods := #[]
  instanceTypes := #[]
  staticTypes := #[]
  resolved := Array.replicate 11 none
  statics := none }

def pool7 : Array CpInfo := pool [(1, .class_ 2), (0, u "java/lang/constant/ConstantDesc"), (0, .class_ 4), (0, u "java/lang/Object")] 32

/-- java/lang/constant/ConstantDesc -/
def k7 : Class := { plain "java/lang/constant/ConstantDesc" (some 0) with
  accessFlags := 1537
  interfaces := #[]
  cf := some (fileOf pool7 1 #[] #[] 1537 3 #[] #[])
  fields := #[]
  methods := #[]
  instanceTypes := #[]
  staticTypes := #[]
  resolved := Array.replicate 37 none
  statics := none }

def pool8 : Array CpInfo := pool [(1, .class_ 2), (0, u "java/lang/Long"), (232, .class_ 237), (1, u "java/lang/Long$LongCache"), (33, .class_ 272), (0, u "java/lang/Number"), (2, u "value"), (0, u "J"), (29, .long 18446744073709551615), (26, u "(JJ)J"), (27, u "TYPE"), (0, u "Ljava/lang/Class;"), (0, .class_ 364), (0, u "java/lang/Comparable"), (0, .class_ 366), (0, u "java/lang/constant/Constable"), (0, .class_ 368), (0, u "java/lang/constant/ConstantDesc"), (0, u "MIN_VALUE"), (1, u "MAX_VALUE"), (4, u "SIZE"), (0, u "I"), (1, u "BYTES"), (1, u "serialVersionUID"), (91, u "remainderUnsigned")] 50

def k8c0 : Code := { maxStack := 8, maxLocals := 8, code := jdk_35_method_45_code, exceptionTable := #[], attributes := #[] }
def k8m0 : Method := { name := "remainderUnsigned", desc := "(JJ)J", sig := { parameters := [.long, .long], returnType := some .long }, accessFlags := 9, code := some k8c0 }
/-- java/lang/Long -/
def k8 : Class := { plain "java/lang/Long" (some 4) with
  accessFlags := 49
  interfaces := #[5, 6, 7]
  cf := some (fileOf pool8 1 #[.nestMembers #[235]] #[{ accessFlags := 9, nameIndex := 473, descriptorIndex := 333, attributes := #[] }] 49 271 #[363, 365, 367] #[{ accessFlags := 25, nameIndex := 369, descriptorIndex := 276, attributes := #[] }, { accessFlags := 25, nameIndex := 371, descriptorIndex := 276, attributes := #[] }, { accessFlags := 25, nameIndex := 361, descriptorIndex := 362, attributes := #[] }, { accessFlags := 18, nameIndex := 275, descriptorIndex := 276, attributes := #[] }, { accessFlags := 25, nameIndex := 376, descriptorIndex := 377, attributes := #[] }, { accessFlags := 25, nameIndex := 379, descriptorIndex := 377, attributes := #[] }, { accessFlags := 26, nameIndex := 381, descriptorIndex := 276, attributes := #[] }])
  fields := #[{ name := "MIN_VALUE", type := .long, accessFlags := 25, slot := 0, constantValue := 0 }, { name := "MAX_VALUE", type := .long, accessFlags := 25, slot := 1, constantValue := 0 }, { name := "TYPE", type := (.object "java/lang/Class"), accessFlags := 25, slot := 2, constantValue := 0 }, { name := "value", type := .long, accessFlags := 18, slot := 0, constantValue := 0 }, { name := "SIZE", type := .int, accessFlags := 25, slot := 3, constantValue := 0 }, { name := "BYTES", type := .int, accessFlags := 25, slot := 4, constantValue := 0 }, { name := "serialVersionUID", type := .long, accessFlags := 26, slot := 5, constantValue := 0 }]
  methods := #[k8m0]
  instanceTypes := #[.long]
  staticTypes := #[.long, .long, (.object "java/lang/Class"), .int, .int, .long]
  resolved := Array.replicate 524 none
  statics := none }

def pool9 : Array CpInfo := pool [(1, u "java/lang/Cloneable"), (0, .class_ 1), (0, u "java/lang/Object"), (0, .class_ 3)] 3

/-- java/lang/Cloneable -/
def k9 : Class := { plain "java/lang/Cloneable" (some 0) with
  accessFlags := 1537
  interfaces := #[]
  cf := some (fileOf pool9 2 #[] #[] 1537 4 #[] #[])
  fields := #[]
  methods := #[]
  instanceTypes := #[]
  staticTypes := #[]
  resolved := Array.replicate 8 none
  statics := none }

/-- the primitive byte -/
def k10 : Class := { plain "byte" none with kind := .primitive 'B', accessFlags := 0x411 }
/-- [B -/
def k11 : Class := { plain "[B" (some 0) with kind := .array 10 .byte, interfaces := #[9, 3], accessFlags := 1041 }

/-- the primitive int -/
def k12 : Class := { plain "int" none with kind := .primitive 'I', accessFlags := 0x411 }
/-- [I -/
def k13 : Class := { plain "[I" (some 0) with kind := .array 12 .int, interfaces := #[9, 3], accessFlags := 1041 }

/-- the primitive long -/
def k14 : Class := { plain "long" none with kind := .primitive 'J', accessFlags := 0x411 }
/-- [J -/
def k15 : Class := { plain "[J" (some 0) with kind := .array 14 .long, interfaces := #[9, 3], accessFlags := 1041 }

def heap : Heap := #[]
def classes : Array Class := #[k0, k1, k2, k3, k4, k5, k6, k7, k8, k9, k10, k11, k12, k13, k14, k15]
def interned : List (Array UInt16 × Addr) := []
def slotsUsed : Nat := 0
def theMethod : MethodId := ⟨1, 1⟩
def args0 : Array Value := #[.int 3, .int 4, .int 3, .int 1, .int 2, .int 7]
def aboutOver (below : List Frame) : State where
  vm := { classes := classes, interned := interned.toArray }
  heap := heap
  slotsUsed := slotsUsed
  threads := #[{ frames := .invoking theMethod args0 :: below }]
def below0 : List Frame := [.native { method := ⟨0, 0⟩, args := #[] }]
def about1 : State := aboutOver below0
def p0 : Program := .bare "" "" ""
def e0 : Env := launch0.env 0 0 0
theorem w_frames : about1.frames = Frame.invoking theMethod args0 :: below0 := rfl
set_option maxRecDepth 65536 in
theorem w_args : argsFit about1.vm theMethod args0 = true := by decide +kernel
set_option maxRecDepth 65536 in
theorem w_heap : heapFits about1 = true := by decide +kernel
set_option maxRecDepth 65536 in
theorem w_runnable : about1.curStatus? = some .runnable := by decide +kernel
set_option maxRecDepth 65536 in
theorem w_alone : about1.alone = true := by decide +kernel
set_option maxRecDepth 65536 in
theorem w_named : about1.methodNamed? x = some theMethod := by decide +kernel
set_option maxRecDepth 65536 in
theorem w_hears : about1.hears theMethod below0 = true := by decide +kernel
set_option maxRecDepth 65536 in
theorem w_ripe : about1.ripe theMethod args0 below0 = true := by decide +kernel
theorem w_running : about1.status = .running := rfl
set_option maxRecDepth 65536 in
theorem w_room : about1.hasRoom e0.platform room_1 = true :=
  launch0.hasRoom_least _ room_1 (by decide +kernel) (by decide +kernel) (by decide +kernel) (by decide +kernel) (by decide +kernel) (by decide +kernel)
theorem allAtoms_all (ts : List Jvm.Cond) (a : Array Jvm.Value) (st : Jvm.State) : (allAtoms ts).before a st = ts.all (fun c => c.before a st) := by
  induction ts with
  | nil => rfl
  | cons c t ih =>
    show (Jvm.Cond.and c (allAtoms t)).before a st = _
    rw [Jvm.Cond.before_and, ih, List.all_cons]
def words1 : List Jvm.Cond := Jvm.Cond.code x code maxLocals ret :: tables_1
/-- a 'code' word, met by the world's own term for the bytes: nothing is compared byte by byte -/
theorem code_word {y : MethodName} {bytes : ByteArray} {mx : Nat} {rt : Option FieldType} {a : Array Value} {s : State} {m : MethodId} {meth : Method} {c : Code} (h1 : s.methodNamed? y = some m) (h2 : s.vm.method? m = some meth) (h3 : meth.code = some c) (h4 : c.code = bytes)
    (h5 : (c.maxLocals == mx && c.exceptionTable.isEmpty && decide (c.maxStack ≤ mostOperands) && decide (meth.sig.returnType = rt) && !meth.locks && decide (parseMethodDescriptor y.desc = some meth.sig)) = true) : (Jvm.Cond.code y bytes mx rt).before a s = true := by
  simp only [Bool.and_eq_true, beq_iff_eq, Bool.not_eq_true', decide_eq_true_eq] at h5
  obtain ⟨⟨⟨⟨⟨g1, g2⟩, g3⟩, g4⟩, g5⟩, g6⟩ := h5
  simp [Cond.before, Cond.holds, Cond.value, h1, h2, h3, h4, g1, g2, g3, g4, g5, g6]
def isCode : Jvm.Cond → Bool
  | .code _ _ _ _ => true
  | _ => false
theorem all_split {L : List Jvm.Cond} {P : Jvm.Cond → Bool} (h1 : L.all (fun c => isCode c || P c) = true) (h2 : ∀ c ∈ L.filter isCode, P c = true) : L.all P = true := by
  refine List.all_eq_true.mpr fun c hc => ?_
  have h := List.all_eq_true.mp h1 c hc
  rcases Bool.eq_false_or_eq_true (isCode c) with hi | hi
  · exact h2 c (List.mem_filter.mpr ⟨hc, hi⟩)
  · simpa [hi] using h
set_option maxRecDepth 65536 in
theorem w_c0 : (Jvm.Cond.code x code maxLocals ret).before args0 about1 = true := code_word (m := ⟨1, 1⟩) (meth := k1m1) (c := k1c1) (by decide +kernel) rfl rfl rfl (by decide +kernel)
set_option maxRecDepth 65536 in
theorem w_c1 : (Jvm.Cond.code ({ cls := "com/example/auspex/auspex/manager/ConflictTable", name := "<init>", desc := "(II)V" } : Jvm.MethodName) prog_25_method_1_code (5 : Nat) (Option.none : Option Jvm.ClassFile.FieldType)).before args0 about1 = true := code_word (m := ⟨2, 0⟩) (meth := k2m0) (c := k2c0) (by decide +kernel) rfl rfl rfl (by decide +kernel)
set_option maxRecDepth 65536 in
theorem w_c2 : (Jvm.Cond.code ({ cls := "java/lang/Object", name := "<init>", desc := "()V" } : Jvm.MethodName) object_method_1_code (1 : Nat) (Option.none : Option Jvm.ClassFile.FieldType)).before args0 about1 = true := code_word (m := ⟨0, 0⟩) (meth := k0m0) (c := k0c0) (by decide +kernel) rfl rfl rfl (by decide +kernel)
set_option maxRecDepth 65536 in
theorem w_c3 : (Jvm.Cond.code ({ cls := "com/example/auspex/auspex/manager/ConflictTable", name := "record", desc := "(J[J)V" } : Jvm.MethodName) prog_25_method_5_code (12 : Nat) (Option.none : Option Jvm.ClassFile.FieldType)).before args0 about1 = true := code_word (m := ⟨2, 1⟩) (meth := k2m1) (c := k2c1) (by decide +kernel) rfl rfl rfl (by decide +kernel)
set_option maxRecDepth 65536 in
theorem w_c4 : (Jvm.Cond.code ({ cls := "com/example/auspex/auspex/manager/ConflictTable", name := "firstSlot", desc := "(J)I" } : Jvm.MethodName) prog_25_method_8_code (3 : Nat) (Option.some Jvm.ClassFile.FieldType.int)).before args0 about1 = true := code_word (m := ⟨2, 3⟩) (meth := k2m3) (c := k2c3) (by decide +kernel) rfl rfl rfl (by decide +kernel)
set_option maxRecDepth 65536 in
theorem w_c5 : (Jvm.Cond.code ({ cls := "java/lang/Long", name := "remainderUnsigned", desc := "(JJ)J" } : Jvm.MethodName) jdk_35_method_45_code (8 : Nat) (Option.some Jvm.ClassFile.FieldType.long)).before args0 about1 = true := code_word (m := ⟨8, 0⟩) (meth := k8m0) (c := k8c0) (by decide +kernel) rfl rfl rfl (by decide +kernel)
set_option maxRecDepth 65536 in
theorem w_c6 : (Jvm.Cond.code ({ cls := "com/example/auspex/auspex/manager/ConflictTableFullBucketSharePinLaw", name := "fullIn", desc := "(IIIIJJJ)I" } : Jvm.MethodName) method_3_code (11 : Nat) (Option.some Jvm.ClassFile.FieldType.int)).before args0 about1 = true := code_word (m := ⟨1, 2⟩) (meth := k1m2) (c := k1c2) (by decide +kernel) rfl rfl rfl (by decide +kernel)
set_option maxRecDepth 65536 in
theorem w_c7 : (Jvm.Cond.code ({ cls := "com/example/auspex/auspex/manager/ConflictTable", name := "fullBucketShare", desc := "()D" } : Jvm.MethodName) prog_25_method_6_code (5 : Nat) (Option.some Jvm.ClassFile.FieldType.double)).before args0 about1 = true := code_word (m := ⟨2, 2⟩) (meth := k2m2) (c := k2c2) (by decide +kernel) rfl rfl rfl (by decide +kernel)
def codes1 : List Jvm.Cond := [Jvm.Cond.code x code maxLocals ret, Jvm.Cond.code ({ cls := "com/example/auspex/auspex/manager/ConflictTable", name := "<init>", desc := "(II)V" } : Jvm.MethodName) prog_25_method_1_code (5 : Nat) (Option.none : Option Jvm.ClassFile.FieldType), Jvm.Cond.code ({ cls := "java/lang/Object", name := "<init>", desc := "()V" } : Jvm.MethodName) object_method_1_code (1 : Nat) (Option.none : Option Jvm.ClassFile.FieldType), Jvm.Cond.code ({ cls := "com/example/auspex/auspex/manager/ConflictTable", name := "record", desc := "(J[J)V" } : Jvm.MethodName) prog_25_method_5_code (12 : Nat) (Option.none : Option Jvm.ClassFile.FieldType), Jvm.Cond.code ({ cls := "com/example/auspex/auspex/manager/ConflictTable", name := "firstSlot", desc := "(J)I" } : Jvm.MethodName) prog_25_method_8_code (3 : Nat) (Option.some Jvm.ClassFile.FieldType.int), Jvm.Cond.code ({ cls := "java/lang/Long", name := "remainderUnsigned", desc := "(JJ)J" } : Jvm.MethodName) jdk_35_method_45_code (8 : Nat) (Option.some Jvm.ClassFile.FieldType.long), Jvm.Cond.code ({ cls := "com/example/auspex/auspex/manager/ConflictTableFullBucketSharePinLaw", name := "fullIn", desc := "(IIIIJJJ)I" } : Jvm.MethodName) method_3_code (11 : Nat) (Option.some Jvm.ClassFile.FieldType.int), Jvm.Cond.code ({ cls := "com/example/auspex/auspex/manager/ConflictTable", name := "fullBucketShare", desc := "()D" } : Jvm.MethodName) prog_25_method_6_code (5 : Nat) (Option.some Jvm.ClassFile.FieldType.double)]
set_option maxRecDepth 65536 in
theorem codes_eq : words1.filter isCode = codes1 := rfl
theorem w_codes : ∀ c ∈ words1.filter isCode, c.before args0 about1 = true := by
  rw [codes_eq]
  intro c hc
  simp only [codes1, List.mem_cons, List.not_mem_nil, or_false] at hc
  rcases hc with rfl | rfl | rfl | rfl | rfl | rfl | rfl | rfl
  · exact w_c0
  · exact w_c1
  · exact w_c2
  · exact w_c3
  · exact w_c4
  · exact w_c5
  · exact w_c6
  · exact w_c7
set_option maxRecDepth 65536 in
theorem w_t1 : (words1.take 24).all (fun c => isCode c || c.before args0 about1) = true := by decide +kernel
set_option maxRecDepth 65536 in
theorem w_t2 : (words1.drop 24).all (fun c => isCode c || c.before args0 about1) = true := by decide +kernel
theorem w_tables : (allAtoms (Jvm.Cond.code x code maxLocals ret :: tables_1)).before args0 about1 = true := by
  rw [allAtoms_all]
  show words1.all (fun c => c.before args0 about1) = true
  refine all_split ?_ w_codes
  rw [← List.take_append_drop 24 words1, List.all_append, w_t1, w_t2]
  rfl
set_option maxRecDepth 65536 in
theorem w_case : (Jvm.Cond.and given_1 narrow_1).before args0 about1 = true := by decide +kernel
theorem w_applies : (headSpec (Jvm.Cond.code x code maxLocals ret :: tables_1) room_1).applies x e0.platform about1 = true :=
  (Spec.applies_iff w_frames).mpr ⟨w_running, w_runnable, w_alone, w_named, w_hears, w_ripe, w_room, w_tables⟩
theorem atStart : AtStart classFile x code maxLocals ret World_1 tables_1 room_1 Calls_1 rest_1 Pre_1 launch0 p0 e0 about1 theMethod args0 below0 :=
  ⟨lists_1, trivial, launch0.admits_env _ _ _, launch0.least_env, fairChoices_fair.cas, fairChoices_fair.clock, w_frames, w_args, w_heap, w_applies, trivial, trivial, w_case⟩
end start1
theorem witness_1 : WitnessClaimed_1 := ⟨start1.p0, start1.e0, start1.about1, start1.theMethod, start1.args0, start1.below0, start1.atStart⟩
end Jvm.Pilot.@@N@@
