import JvmDerived
import JvmDerived.Pilot.@@N@@Statement
import JvmDerived.Pilot.@@N@@Code
set_option linter.unusedVariables false
set_option linter.unusedSimpArgs false
namespace Jvm.RoadKit
open Sem ClassFile Op Lib Jvm.Stand Jvm.Free Jvm.LawKit
abbrev Go (tb : Tables) (e : Env) (below : List Frame) (A B : State) : Prop := ∀ t, Steps tb e below B t → Steps tb e below A t
theorem goT {tb : Tables} {e : Env} {below : List Frame} {A B C : State} (f : Go tb e below A B) (g : Go tb e below B C) : Go tb e below A C := fun t h => f t (g t h)
section New
variable {p : Program} {l : Launch} {e : Env} {R : Room} {s : State} {m : MethodId} {args : Array Value} {below : List Frame} {meth : Method} {c : Code} {T : State} {locs : List Loc} {cells slots : Nat}
theorem retI (X : Stand p l e R s m args below meth c T locs cells slots) (hx : p.tables.exec = Jvm.exec) {pc : Nat} {Ls : Array Slot} {z : Int32} {rest : List Value} (hret : meth.sig.returnType = some .int) (hd : decode c.code pc = .ok (.ireturn, 1)) {fs : List Frame}
    (hl : ∀ (f : JFrame) (acts : List Action), f.method = m → f.locked = none → f.entered = [] → (doReturn e (T.setTop f) acts (some (.int z))).1 = T.setFrames fs) : Steps p.tables e below (T.setTop (mkF m pc Ls (.int z :: rest))) (T.setFrames fs) := by
  have hm' : T.vm.method? m = some meth := X.method'
  have hn : narrow .int (.int z) = .int z := rfl
  show Steps p.tables e below (T.setTop { method := m, pc := pc, locals := Ls, stack := _ :: rest, locked := none }) _
  jvm_step X.here [X.here.top, hx, hd, hm', hret, hn]
  first | (intro acts; rw [hl _ acts rfl rfl rfl]) | rw [hl _ _ rfl rfl rfl]
  exact Steps.refl _
theorem retJ (X : Stand p l e R s m args below meth c T locs cells slots) (hx : p.tables.exec = Jvm.exec) {pc : Nat} {Ls : Array Slot} {z : Int64} {rest : List Value} (hret : meth.sig.returnType = some .long) (hd : decode c.code pc = .ok (.lreturn, 1)) {fs : List Frame}
    (hl : ∀ (f : JFrame) (acts : List Action), f.method = m → f.locked = none → f.entered = [] → (doReturn e (T.setTop f) acts (some (.long z))).1 = T.setFrames fs) : Steps p.tables e below (T.setTop (mkF m pc Ls (.long z :: rest))) (T.setFrames fs) := by
  have hm' : T.vm.method? m = some meth := X.method'
  have hn : narrow .long (.long z) = .long z := rfl
  show Steps p.tables e below (T.setTop { method := m, pc := pc, locals := Ls, stack := _ :: rest, locked := none }) _
  jvm_step X.here [X.here.top, hx, hd, hm', hret, hn]
  first | (intro acts; rw [hl _ acts rfl rfl rfl]) | rw [hl _ _ rfl rfl rfl]
  exact Steps.refl _
theorem retR (X : Stand p l e R s m args below meth c T locs cells slots) (hx : p.tables.exec = Jvm.exec) {pc : Nat} {Ls : Array Slot} {z : Addr} {rest : List Value} {C : String} (hret : meth.sig.returnType = some (.object C)) (hd : decode c.code pc = .ok (.areturn, 1)) {fs : List Frame}
    (hl : ∀ (f : JFrame) (acts : List Action), f.method = m → f.locked = none → f.entered = [] → (doReturn e (T.setTop f) acts (some (.ref z))).1 = T.setFrames fs) : Steps p.tables e below (T.setTop (mkF m pc Ls (.ref z :: rest))) (T.setFrames fs) := by
  have hm' : T.vm.method? m = some meth := X.method'
  show Steps p.tables e below (T.setTop { method := m, pc := pc, locals := Ls, stack := _ :: rest, locked := none }) _
  jvm_step X.here [X.here.top, hx, hd, hm', hret, Value.isRef, FieldType.isReference]
  first | (intro acts; rw [hl _ acts rfl rfl rfl]) | rw [hl _ _ rfl rfl rfl]
  exact Steps.refl _
theorem retA (X : Stand p l e R s m args below meth c T locs cells slots) (hx : p.tables.exec = Jvm.exec) {pc : Nat} {Ls : Array Slot} {z : Addr} {rest : List Value} {ty : FieldType} (hret : meth.sig.returnType = some (.array ty)) (hd : decode c.code pc = .ok (.areturn, 1)) {fs : List Frame}
    (hl : ∀ (f : JFrame) (acts : List Action), f.method = m → f.locked = none → f.entered = [] → (doReturn e (T.setTop f) acts (some (.ref z))).1 = T.setFrames fs) : Steps p.tables e below (T.setTop (mkF m pc Ls (.ref z :: rest))) (T.setFrames fs) := by
  have hm' : T.vm.method? m = some meth := X.method'
  show Steps p.tables e below (T.setTop { method := m, pc := pc, locals := Ls, stack := _ :: rest, locked := none }) _
  jvm_step X.here [X.here.top, hx, hd, hm', hret, Value.isRef, FieldType.isReference]
  first | (intro acts; rw [hl _ acts rfl rfl rfl]) | rw [hl _ _ rfl rfl rfl]
  exact Steps.refl _
end New
theorem own_sta_keep0 {Z : State} {h h' : Heap} {C n d : String} {v : Value} (F : Sta Z h C n d v) (Kp : Keep h h' []) : Sta Z h' C n d v := by
  obtain ⟨cf, i, k, f, st, cell, h1, h2, h3, h4, h5, h6, h7⟩ := F
  exact ⟨cf, i, k, f, st, cell, h1, h2, h3, h4, Kp.2.1 st cell h5 nin0, h6, h7⟩
theorem own_sta_keep {Z : State} {h h' : Heap} {b : Addr} {C n d K : String} {v : Value} (F : Sta Z h C n d v) (E : Exa Z h b K) (Kp : Keep h h' [b]) : Sta Z h' C n d v := by
  obtain ⟨cf, i, k, f, st, cell, h1, h2, h3, h4, h5, h6, h7⟩ := F
  obtain ⟨c2, _, g1, -, -, g4, -⟩ := E
  have ne : st ∉ [b] := fun q => by
    cases List.mem_singleton.mp q
    cases h5.symm.trans g1
    rw [g4] at h6; cases h6
  exact ⟨cf, i, k, f, st, cell, h1, h2, h3, h4, Kp.2.1 st cell h5 ne, h6, h7⟩
theorem own_fld_ne {Z : State} {h : Heap} {a : Addr} {C n d : String} {v w : Value} (F : Fld Z h a C n d v) (G : Fld Z h a C n d w) (ne : v ≠ w) : False := by
  obtain ⟨cell, cf, k, i, f, h1, h2, -, -, -, -, h7⟩ := F
  obtain ⟨cell', cf', k', i', f', g1, g2, -, -, -, -, g7⟩ := G
  cases h1.symm.trans g1
  cases h2.symm.trans g2
  cases h7.symm.trans g7
  exact ne rfl
theorem own_safe {Z : State} {a0 : Array Value} {EL : List (String × Nat)} {vm : Vm} {h : Heap} {x : Addr} {n : Nat} (hal : Z.vm.Alike vm) (wi : (Cond.instantiable "java/lang/String" n).before a0 Z = true) (E : Exa Z h x "java/lang/String") (G : Fld Z h x "java/lang/String" "value" "[B" .null) : Safe Z EL vm h x := fun B => by
  obtain ⟨p, -, u, a, -, q, -, F, hx⟩ := B
  obtain ⟨cS, ⟨⟨s1, s2, s3, ⟨cv, kv, iv, s4, s4'⟩, -, s6, -, s8, -, s10, s11, s12, -⟩, -⟩, -, -, -⟩ := F
  obtain ⟨kv', z4⟩ := ff_back (U := Wst Z vm h) hal s4
  rcases hx with rfl | rfl
  · have G' : Fld Z h q.sa "java/lang/String" "value" "[B" (.ref q.sd) := ⟨q.sC, cv, kv', iv, q.fSV, s1, z4, s6, s2, s3, by rw [← hal.assignable]; exact s4', s8⟩
    exact own_fld_ne G G' (by intro e; cases e)
  · obtain ⟨hst, k9, hk9, comp, hkind9⟩ := s11
    obtain ⟨c1, k1, h1, h2, h3, -⟩ := E
    cases h1.symm.trans s10
    obtain ⟨c2, k2, i1, i2, i3, -⟩ := Cond.instantiable_spec wi
    cases h2.symm.trans i1
    cases h3.symm.trans i2
    obtain ⟨k4, q1, q2⟩ := hal.2.2 _ _ h3
    have e9 : k9 = k4 := Option.some.inj ((show vm.classes[q.SA.cls]? = some k9 from hk9).symm.trans q1)
    have e10 : k9.kind = k1.kind := by rw [e9, q2]
    rw [e10, i3] at hkind9; cases hkind9
theorem own_backOfSC {p : Program} {l : Launch} {e : Env} {R : Room} {s : State} {args : Array Value} {below : List Frame} {Z : State} {a0 : Array Value} {EL : List (String × Nat)} {h : Heap} {vm0 : Vm} {y : MethodName} {bytes : ByteArray} {maxL : Nat} {ret : Option FieldType} {rm : Room} {len W : Nat} {as' : Array Value} {Q : Option Value → Heap → List Loc → Prop}
    (hM : MetFree l y (head1 [Cond.code y bytes maxL ret] rm) (fun a U => a = as' ∧ Z.Warmed39 U.vm ∧ U.heap = h ∧ CHv Z EL U.vm h) (fun _ _ _ _ _ => True) (fun _ U o U' => ∃ v L, o = .returned v ∧ Q v U'.heap L ∧ ReturnedEndW U o U' L rm.cells rm.slots))
    (hZ : Z.Warmed39 vm0) (wc : (Cond.code y bytes maxL ret).before a0 Z = true) (wz : (Cond.initialized y.cls).before a0 Z = true) (hf : rm.frames + 1 ≤ R.frames) (hl : W + (maxL + 11) + rm.locals ≤ R.locals) (hEL : EW Z a0 EL) (H : CHv Z EL vm0 h) :
    BackS l R p e below (s.setVm vm0) args y len W (fun A a => a = as' ∧ A.U.heap = h ∧ A.cells + rm.cells ≤ R.cells ∧ A.slots + rm.slots ≤ R.slots)
      (fun A _ v B => ∃ L, Q v B.U.heap L ∧ B.locs = A.locs ++ L ∧ B.cells = A.cells + rm.cells ∧ B.slots = A.slots + rm.slots) :=
  BackS.of_freeW (bytes := bytes) (maxL := maxL) (ret := ret) (E := fun _ _ o t L k n => k = rm.cells ∧ n = rm.slots ∧ ∃ v, o = .returned v ∧ Q v t.heap L) hM hf hl
    (fun m meth c A a Y hp => have hU : Z.Warmed39 A.U.vm := wtrans (s := s.setVm vm0) hZ Y.warmed
      ⟨by show (Cond.and _ .tt).before a A.U = true; rw [Cond.before_and, mv hU wc]; rfl, mv hU wc, mv hU wz, hp.2.2.1, hp.2.2.2⟩)
    (fun m meth c A a g mk Y hp => ⟨hp.1, wtrans (s := s.setVm vm0) hZ Y.warmed, hp.2.1, (CHv.at Y hZ hEL H).1⟩) (fun _ _ _ _ _ _ _ _ _ => trivial)
    (fun _ _ _ _ ⟨v, L, h1, h2, h3⟩ => ⟨L, _, _, h3, rfl, rfl, v, h1, h2⟩)
    (fun m meth c A a g mk v t L k n Y hp _ _ ⟨e1, e2, v', e3, e4⟩ => by cases e3; subst e1 e2; exact ⟨L, e4, rfl, rfl, rfl⟩)
theorem own_mvM {Z s : State} {a0 args : Array Value} {own host : String} {index : Nat} {y : MethodName} (hZ : Z.Warmed39 s.vm) (w : (Cond.methodLinkNest own index y host).before a0 Z = true) : (Cond.methodLinkNest own index y host).before args s = true := (Cond.methodLinkNest_wide hZ w :)
theorem own_eq_i {args : Array Value} {first s : State} {o : Option Outcome} {idx : List Nat} {a : Term} {z : Int32} (h : (Cond.eq a (.int z)).value args first o s idx = some true) : a.eval args first o idx s = some (.int z) := by
  cases ha : a.eval args first o idx s with
  | none => simp [Cond.value, Term.eval, ha] at h
  | some x => cases x <;> simp [Cond.value, Term.eval, ha] at h ⊢; exact h
theorem own_eq_l {args : Array Value} {first s : State} {o : Option Outcome} {idx : List Nat} {a : Term} {z : Int64} (h : (Cond.eq a (.long z)).value args first o s idx = some true) : a.eval args first o idx s = some (.long z) := by
  cases ha : a.eval args first o idx s with
  | none => simp [Cond.value, Term.eval, ha] at h
  | some x => cases x <;> simp [Cond.value, Term.eval, ha] at h ⊢; exact h
theorem own_irr (x : Int32) : ¬ (x < x) := by rw [Int32.lt_iff_toInt_lt]; omega
theorem own_ltL {x y : Int64} (h : x < y) : lcmpW x y < 0 := (lw_lt x y).mpr h
theorem own_nltL {x y : Int64} (h : ¬ x < y) : ¬ lcmpW x y < 0 := fun q => h ((lw_lt x y).mp q)
theorem own_gtL {x y : Int64} (h : y < x) : 0 < lcmpW x y := (lw_gt x y).mpr h
theorem own_ngtL {x y : Int64} (h : ¬ y < x) : ¬ 0 < lcmpW x y := fun q => h ((lw_gt x y).mp q)
theorem own_eqL {x y : Int64} (h : x = y) : lcmpW x y = 0 := (lw_eq x y).mpr h
theorem own_neqL {x y : Int64} (h : ¬ x = y) : ¬ lcmpW x y = 0 := fun q => h ((lw_eq x y).mp q)
end Jvm.RoadKit
/- laws to paste: Road.backV, Road.lenW, Road.chN, Road.codOf (cut by pick.py; bodies as the Statement names them) -/
namespace Jvm.Pilot.@@N@@
namespace StrChars
open Jvm Sem ClassFile Op Lib Jvm.Stand Jvm.Free.XT Jvm.Free.ALB Jvm.Free.JM Jvm.Free
open Jvm.Lib.Cold (StaticIs)
/-- a char array whose places are chars -/
def Ch (a : Addr) (A : Cell) (U : State) : Prop := Arr .char a A U ∧ Typed .char A
theorem Ch.mv {a : Addr} {A : Cell} {U U' : State} (h : Ch a A U) (hal : U.vm.Alike U'.vm) (hh : U'.heap = U.heap) : Ch a A U' := ⟨h.1.mv hal hh, h.2⟩
theorem Ch.keep {a : Addr} {A : Cell} {U U' : State} (h : Ch a A U) (hal : U.vm.Alike U'.vm) (hk : U'.heap[a]? = some A) : Ch a A U' := ⟨h.1.keep hal hk, h.2⟩
/-- what place i of a char[]'s cell holds -/
def cv (A : Cell) (i : Nat) : Int32 := match A.slots[i]? with | some (.int x) => x | _ => 0
theorem Ch.get {a : Addr} {A : Cell} {U : State} (h : Ch a A U) {i : Nat} (hi : i < A.slots.size) : A.slots[i]? = some (.int (cv A i)) := by
  have e := Array.getElem?_eq_getElem hi
  have f := h.2 i _ e
  unfold cv; rw [e]
  generalize A.slots[i] = v at f
  cases v <;> simp [fits] at f ⊢
/-- the byte that i2b leaves of a char -/
def lo8 (x : Int32) : Int32 := x.toInt8.toInt32
theorem fits_lo8 (y : Int32) : fits .byte (.int (lo8 y)) = true := by
  have h1 := y.toInt8.le_toInt
  have h2 := y.toInt8.toInt_lt
  simp only [lo8, fits, Bool.and_eq_true, decide_eq_true_eq, Int32.le_iff_toInt_le, Int8.toInt_toInt32, show (-128 : Int32).toInt = -128 from by decide, show (127 : Int32).toInt = 127 from by decide]
  omega
/-- A' is A but that each place j of lo .. hi - 1 holds f j -/
def Laid (A A' : Cell) (lo hi : Nat) (f : Nat → Value) : Prop := A'.cls = A.cls ∧ A'.vm = A.vm ∧ A'.slots.size = A.slots.size ∧ ∀ i, A'.slots[i]? = if lo ≤ i ∧ i < hi then some (f i) else A.slots[i]?
theorem Laid.zero (A : Cell) (lo : Nat) (f : Nat → Value) : Laid A A lo (lo + 0) f := ⟨rfl, rfl, rfl, fun i => by rw [if_neg (by omega)]⟩
theorem Laid.step {A Ak : Cell} {lo k : Nat} {f : Nat → Value} {v : Value} (h : Laid A Ak lo k f) (hlo : lo ≤ k) (hk : k < Ak.slots.size) (hv : v = f k) : Laid A (Ak.setSlot k v) lo (k + 1) f := by
  refine ⟨h.1, h.2.1, by simpa [Cell.setSlot] using h.2.2.1, fun i => ?_⟩
  by_cases e : k = i
  · subst e; rw [Cell.slots_setSlot_self v hk, if_pos (by omega), hv]
  · rw [Cell.slots_setSlot_ne v e, h.2.2.2 i]
    by_cases q : lo ≤ i ∧ i < k
    · rw [if_pos q, if_pos (by omega)]
    · rw [if_neg q, if_neg (by omega)]
def U16 : String := "java/lang/StringUTF16"
namespace Cmp5
def yN : MethodName := ⟨"java/lang/StringUTF16", "compress", "([CI[BII)I"⟩
abbrev yB : ByteArray := jdk_52_method_21_code
theorem d0 : decode yB 0 = .ok (.iconst 0, 1) := by decide +kernel
theorem d1 : decode yB 1 = .ok (.istore 5, 2) := by decide +kernel
theorem d3 : decode yB 3 = .ok (.iload 5, 2) := by decide +kernel
theorem d5 : decode yB 5 = .ok (.iload 4, 2) := by decide +kernel
theorem d7 : decode yB 7 = .ok (.if_icmp (.ge) 37, 3) := by decide +kernel
theorem d10 : decode yB 10 = .ok (.aload_n 0, 1) := by decide +kernel
theorem d11 : decode yB 11 = .ok (.iload_n 1, 1) := by decide +kernel
theorem d12 : decode yB 12 = .ok (.caload, 1) := by decide +kernel
theorem d13 : decode yB 13 = .ok (.istore 6, 2) := by decide +kernel
theorem d15 : decode yB 15 = .ok (.iload 6, 2) := by decide +kernel
theorem d17 : decode yB 17 = .ok (.sipush 255, 3) := by decide +kernel
theorem d20 : decode yB 20 = .ok (.if_icmp (.le) 6, 3) := by decide +kernel
theorem d26 : decode yB 26 = .ok (.aload_n 2, 1) := by decide +kernel
theorem d27 : decode yB 27 = .ok (.iload_n 3, 1) := by decide +kernel
theorem d28 : decode yB 28 = .ok (.iload 6, 2) := by decide +kernel
theorem d30 : decode yB 30 = .ok (.i2b, 1) := by decide +kernel
theorem d31 : decode yB 31 = .ok (.bastore, 1) := by decide +kernel
theorem d32 : decode yB 32 = .ok (.iinc 1 1, 3) := by decide +kernel
theorem d35 : decode yB 35 = .ok (.iinc 3 1, 3) := by decide +kernel
theorem d38 : decode yB 38 = .ok (.iinc 5 1, 3) := by decide +kernel
theorem d41 : decode yB 41 = .ok (.goto (-38), 3) := by decide +kernel
theorem d44 : decode yB 44 = .ok (.iload 4, 2) := by decide +kernel
theorem d46 : decode yB 46 = .ok (.ireturn, 1) := by decide +kernel
def site : List Cond := []
def tab : Cond := tabOf yN yB 7 (some .int) site
def P (b : Addr) (A : Cell) (d : Addr) (B : Cell) (o q len : Nat) (args : Array Value) (s : State) : Prop := args = #[.ref b, .int (Int32.ofNat o), .ref d, .int (Int32.ofNat q), .int (Int32.ofNat len)] ∧ Ch b A s ∧ Arr .byte d B s ∧ b ≠ d ∧ o + len ≤ A.slots.size ∧ q + len ≤ B.slots.size ∧ ∀ i, i < len → ¬ 255 < cv A (o + i)
def E (b : Addr) (A : Cell) (d : Addr) (B : Cell) (o q len : Nat) (r : Option Value) (s u : State) : Prop := r = some (.int (Int32.ofNat len)) ∧ ∃ B', Put d B' s u ∧ Laid B B' q (q + len) (fun j => Value.int (lo8 (cv A (o + (j - q)))))
/-- no char of the range above 255: len; the places written hold each char's low byte -/
theorem law (l : Launch) (b : Addr) (A : Cell) (d : Addr) (B : Cell) (o q len : Nat) : Law l yN 5 5 0 0 yB 7 (some .int) site (P b A d B o q len) (E b A d B o q len) (copyLocs d q len) 0 0 := by
  refine Law.of_walk (plainFor_of_name (by decide +kernel)) (by decide +kernel) (by decide +kernel) (by decide) (fun _ _ h => by rw [h.1]; rfl) (fun _ U U' hal hh h => ⟨h.1, h.2.1.mv hal hh, h.2.2.1.mv hal hh, h.2.2.2⟩) (fun r U U' V V' h1 hal h2 h => ⟨h.1, h.2.elim fun B' q => ⟨B', q.1.mv h1 h2, q.2⟩⟩) ?_
  intro p e s m args below meth c s₁ X0 hexec hbytes hml hret hlk hnm hown hh0 W hP
  obtain ⟨rfl, hA, hB, hne, l1, l2, hp⟩ := hP
  have c1 : Steps p.tables e below (s₁.setTop (entryFrame m #[.ref b, .int (Int32.ofNat o), .ref d, .int (Int32.ofNat q), .int (Int32.ofNat len)] 7)) (s₁.setTop (mkF m 0 #[.val (.ref b), .val (.int (Int32.ofNat o)), .val (.ref d), .val (.int (Int32.ofNat q)), .val (.int (Int32.ofNat len)), .unset, .unset] [])) := entry rfl
  have hA0 := hA.1.mv X0.warmed.alike hh0
  have hB0 := hB.mv X0.warmed.alike hh0
  have a31 := hA.1.2.2.2
  have c2 : Steps p.tables e below (s₁.setTop (entryFrame m #[.ref b, .int (Int32.ofNat o), .ref d, .int (Int32.ofNat q), .int (Int32.ofNat len)] 7)) (s₁.setTop (mkF m 3 #[.val (.ref b), .val (.int (Int32.ofNat o)), .val (.ref d), .val (.int (Int32.ofNat q)), .val (.int (Int32.ofNat len)), .val (.int 0), .unset] [])) := c1.trans (by
    refine iconstV X0.here hexec rfl 0 (hb hbytes d0) (by decide) ?_
    refine XS.istore X0.here hexec rfl (hb hbytes d1) rfl rfl ?_
    exact Steps.refl _)
  have loop : ∀ (r i : Nat), i + r = len → ∀ (z : Slot), (z = .unset ∨ ∃ w, z = .val w ∧ w.category = 1) → ∀ (Tl : State) (Bk : Cell), Stand p l e { frames := 0, locals := 0, cells := 0, slots := 0 } s m #[.ref b, .int (Int32.ofNat o), .ref d, .int (Int32.ofNat q), .int (Int32.ofNat len)] below meth c Tl ([] ++ copyLocs d q i) 0 0 → Put d Bk s₁ Tl → Laid B Bk q (q + i) (fun j => Value.int (lo8 (cv A (o + (j - q))))) →
      Steps p.tables e below (s₁.setTop (entryFrame m #[.ref b, .int (Int32.ofNat o), .ref d, .int (Int32.ofNat q), .int (Int32.ofNat len)] 7)) (Tl.setTop (mkF m 3 #[.val (.ref b), .val (.int (Int32.ofNat (o + i))), .val (.ref d), .val (.int (Int32.ofNat (q + i))), .val (.int (Int32.ofNat len)), .val (.int (Int32.ofNat i)), z] [])) → ∃ (T' : State) (B' : Cell) (z' : Slot), Stand p l e { frames := 0, locals := 0, cells := 0, slots := 0 } s m #[.ref b, .int (Int32.ofNat o), .ref d, .int (Int32.ofNat q), .int (Int32.ofNat len)] below meth c T' ([] ++ copyLocs d q len) 0 0 ∧ Put d B' s₁ T' ∧ Laid B B' q (q + len) (fun j => Value.int (lo8 (cv A (o + (j - q))))) ∧
      Steps p.tables e below (s₁.setTop (entryFrame m #[.ref b, .int (Int32.ofNat o), .ref d, .int (Int32.ofNat q), .int (Int32.ofNat len)] 7)) (T'.setTop (mkF m 3 #[.val (.ref b), .val (.int (Int32.ofNat (o + len))), .val (.ref d), .val (.int (Int32.ofNat (q + len))), .val (.int (Int32.ofNat len)), .val (.int (Int32.ofNat len)), z'] [])) := by
    intro r
    induction r with
    | zero =>
      intro i hi z hz Tl Bk Xl pl fl cl
      have hil : i = len := by omega
      rw [hil] at Xl fl cl
      exact ⟨Tl, Bk, z, Xl, pl, fl, cl⟩
    | succ r ih =>
      intro i hi z hz Tl Bk Xl pl fl cl
      have all := X0.warmed.alike.symm.trans Xl.warmed.alike
      have hAl := hA0.keep all (pl.other hne hA0.1)
      have hBk := hB0.like all pl.1 fl.1 fl.2.1 fl.2.2.1
      have hlt : q + i < Bk.slots.size := by rw [fl.2.2.1]; omega
      have c3 : Steps p.tables e below (s₁.setTop (entryFrame m #[.ref b, .int (Int32.ofNat o), .ref d, .int (Int32.ofNat q), .int (Int32.ofNat len)] 7)) (Tl.setTop (mkF m 12 #[.val (.ref b), .val (.int (Int32.ofNat (o + i))), .val (.ref d), .val (.int (Int32.ofNat (q + i))), .val (.int (Int32.ofNat len)), .val (.int (Int32.ofNat i)), z] [.int (Int32.ofNat (o + i)), .ref b])) := cl.trans (by
        refine XS.iload Xl.here hexec rfl (hb hbytes d3) rfl ?_
        refine XS.iload Xl.here hexec rfl (hb hbytes d5) rfl ?_
        refine XS.icmpNo Xl.here hexec rfl (hb hbytes d7) rfl (ii_ge_f (lt32 (by omega) (by omega))) ?_
        refine XS.aloadN Xl.here hexec rfl (hb hbytes d10) rfl rfl ?_
        refine XS.iloadN Xl.here hexec rfl (hb hbytes d11) rfl ?_
        exact Steps.refl _)
      have c4 : Steps p.tables e below (s₁.setTop (entryFrame m #[.ref b, .int (Int32.ofNat o), .ref d, .int (Int32.ofNat q), .int (Int32.ofNat len)] 7)) (Tl.setTop (mkF m 13 #[.val (.ref b), .val (.int (Int32.ofNat (o + i))), .val (.ref d), .val (.int (Int32.ofNat (q + i))), .val (.int (Int32.ofNat len)), .val (.int (Int32.ofNat i)), z] [.int (cv A (o + i))])) := c3.trans (by
        refine Xl.aget hexec hAl rfl (hA.get (i := o + i) (by omega)) rfl rfl (hb hbytes d12) ?_
        exact Steps.refl _)
      have c5 : Steps p.tables e below (s₁.setTop (entryFrame m #[.ref b, .int (Int32.ofNat o), .ref d, .int (Int32.ofNat q), .int (Int32.ofNat len)] 7)) (Tl.setTop (mkF m 15 #[.val (.ref b), .val (.int (Int32.ofNat (o + i))), .val (.ref d), .val (.int (Int32.ofNat (q + i))), .val (.int (Int32.ofNat len)), .val (.int (Int32.ofNat i)), .val (.int (cv A (o + i)))] [])) := c4.trans (by
        refine XS.istoreS Xl.here hexec rfl (hb hbytes d13) rfl rfl hz ?_
        exact Steps.refl _)
      have c6 : Steps p.tables e below (s₁.setTop (entryFrame m #[.ref b, .int (Int32.ofNat o), .ref d, .int (Int32.ofNat q), .int (Int32.ofNat len)] 7)) (Tl.setTop (mkF m 31 #[.val (.ref b), .val (.int (Int32.ofNat (o + i))), .val (.ref d), .val (.int (Int32.ofNat (q + i))), .val (.int (Int32.ofNat len)), .val (.int (Int32.ofNat i)), .val (.int (cv A (o + i)))] [.int (lo8 (cv A (o + i))), .int (Int32.ofNat (q + i)), .ref d])) := c5.trans (by
        refine XS.iload Xl.here hexec rfl (hb hbytes d15) rfl ?_
        refine sipushV Xl.here hexec rfl 255 (hb hbytes d17) (by decide) ?_
        refine XS.icmpYes Xl.here hexec rfl (pc0 := 20) rfl (hb hbytes d20) rfl (ii_le_t (hp i (by omega))) (by decide) rfl ?_
        refine XS.aloadN Xl.here hexec rfl (hb hbytes d26) rfl rfl ?_
        refine XS.iloadN Xl.here hexec rfl (hb hbytes d27) rfl ?_
        refine XS.iload Xl.here hexec rfl (hb hbytes d28) rfl ?_
        refine i2b Xl.here hexec rfl (hb hbytes d30) rfl ?_
        exact Steps.refl _)
      obtain ⟨T7, X7, p7, st7⟩ := Xl.aput hexec hBk rfl hlt rfl (fits_lo8 (cv A (o + i))) (g := (mkF m 31 #[.val (.ref b), .val (.int (Int32.ofNat (o + i))), .val (.ref d), .val (.int (Int32.ofNat (q + i))), .val (.int (Int32.ofNat len)), .val (.int (Int32.ofNat i)), .val (.int (cv A (o + i)))] [.int (lo8 (cv A (o + i))), .int (Int32.ofNat (q + i)), .ref d])) rfl (rest := []) rfl (hb hbytes d31)
      have c8 : Steps p.tables e below (s₁.setTop (entryFrame m #[.ref b, .int (Int32.ofNat o), .ref d, .int (Int32.ofNat q), .int (Int32.ofNat len)] 7)) (T7.setTop (mkF m 32 #[.val (.ref b), .val (.int (Int32.ofNat (o + i))), .val (.ref d), .val (.int (Int32.ofNat (q + i))), .val (.int (Int32.ofNat len)), .val (.int (Int32.ofNat i)), .val (.int (cv A (o + i)))] [])) := c6.trans (st7 _ (Steps.refl _))
      have c9 : Steps p.tables e below (s₁.setTop (entryFrame m #[.ref b, .int (Int32.ofNat o), .ref d, .int (Int32.ofNat q), .int (Int32.ofNat len)] 7)) (T7.setTop (mkF m 3 #[.val (.ref b), .val (.int (Int32.ofNat (o + i) + 1)), .val (.ref d), .val (.int (Int32.ofNat (q + i) + 1)), .val (.int (Int32.ofNat len)), .val (.int (Int32.ofNat i + 1)), .val (.int (cv A (o + i)))] [])) := c8.trans (by
        refine iincV X7.here hexec rfl 1 (hb hbytes d32) (by decide) rfl rfl ?_
        refine iincV X7.here hexec rfl 1 (hb hbytes d35) (by decide) rfl rfl ?_
        refine iincV X7.here hexec rfl 1 (hb hbytes d38) (by decide) rfl rfl ?_
        refine XS.goto X7.here hexec rfl (pc0 := 41) rfl (hb hbytes d41) (by decide) rfl ?_
        exact Steps.refl _)
      have c10 : Steps p.tables e below (s₁.setTop (entryFrame m #[.ref b, .int (Int32.ofNat o), .ref d, .int (Int32.ofNat q), .int (Int32.ofNat len)] 7)) (T7.setTop (mkF m 3 #[.val (.ref b), .val (.int (Int32.ofNat (o + (i + 1)))), .val (.ref d), .val (.int (Int32.ofNat (q + (i + 1)))), .val (.int (Int32.ofNat len)), .val (.int (Int32.ofNat (i + 1))), .val (.int (cv A (o + i)))] [])) := by
        have := c9
        rw [succ32, succ32, succ32] at this
        exact this
      exact ih (i + 1) (by omega) _ (Or.inr ⟨_, rfl, rfl⟩) T7 _ (by rw [copyLocs_step, ← List.append_assoc]; exact X7) (pl.trans p7) (fl.step (by omega) hlt (by simp)) c10
  obtain ⟨T9, B9, z9, X9, p9, f9, g9⟩ := loop len 0 (by omega) .unset (Or.inl rfl) s₁ B (by simpa [copyLocs] using X0) ⟨hB0.1, fun _ _ => rfl, rfl⟩ (Laid.zero _ _ _) c2
  have c11 : Steps p.tables e below (s₁.setTop (entryFrame m #[.ref b, .int (Int32.ofNat o), .ref d, .int (Int32.ofNat q), .int (Int32.ofNat len)] 7)) (T9.setTop (mkF m 46 #[.val (.ref b), .val (.int (Int32.ofNat (o + len))), .val (.ref d), .val (.int (Int32.ofNat (q + len))), .val (.int (Int32.ofNat len)), .val (.int (Int32.ofNat len)), z9] [.int (Int32.ofNat len)])) := g9.trans (by
    refine XS.iload X9.here hexec rfl (hb hbytes d3) rfl ?_
    refine XS.iload X9.here hexec rfl (hb hbytes d5) rfl ?_
    refine XS.icmpYes X9.here hexec rfl (pc0 := 7) rfl (hb hbytes d7) rfl (ii_ge_t (nlt32 (by omega) (Nat.le_refl _))) (by decide) rfl ?_
    refine XS.iload X9.here hexec rfl (hb hbytes d44) rfl ?_
    exact Steps.refl _)
  exact ⟨T9, some (.int (Int32.ofNat len)), _, _, _, X9, by simp, rfl, rfl, (fun h => by cases h), ⟨rfl, B9, p9.from hh0, f9⟩, fun fs hl => c11.trans (X9.ireturnOut hexec hret rfl (Or.inl rfl) (hb hbytes d46) hl)⟩
end Cmp5
namespace Cmp3
def yN : MethodName := ⟨"java/lang/StringUTF16", "compress", "([CII)[B"⟩
abbrev yB : ByteArray := jdk_52_method_16_code
theorem d0 : decode yB 0 = .ok (.iload_n 2, 1) := by decide +kernel
theorem d1 : decode yB 1 = .ok (.newarray .byte, 2) := by decide +kernel
theorem d3 : decode yB 3 = .ok (.astore_n 3, 1) := by decide +kernel
theorem d4 : decode yB 4 = .ok (.aload_n 0, 1) := by decide +kernel
theorem d5 : decode yB 5 = .ok (.iload_n 1, 1) := by decide +kernel
theorem d6 : decode yB 6 = .ok (.aload_n 3, 1) := by decide +kernel
theorem d7 : decode yB 7 = .ok (.iconst 0, 1) := by decide +kernel
theorem d8 : decode yB 8 = .ok (.iload_n 2, 1) := by decide +kernel
theorem d9 : decode yB 9 = .ok (.invokestatic 115, 3) := by decide +kernel
theorem d12 : decode yB 12 = .ok (.istore 4, 2) := by decide +kernel
theorem d14 : decode yB 14 = .ok (.iload 4, 2) := by decide +kernel
theorem d16 : decode yB 16 = .ok (.iload_n 2, 1) := by decide +kernel
theorem d17 : decode yB 17 = .ok (.if_icmp (.eq) 40, 3) := by decide +kernel
theorem d57 : decode yB 57 = .ok (.aload_n 3, 1) := by decide +kernel
theorem d58 : decode yB 58 = .ok (.areturn, 1) := by decide +kernel
def site : List Cond := [.arrayClass .byte, Cmp5.tab] ++ staticW U16 115 Cmp5.yN
def tab : Cond := tabOf yN yB 6 (some (.array .byte)) site
def P (b : Addr) (A : Cell) (o len : Nat) (args : Array Value) (s : State) : Prop := args = #[.ref b, .int (Int32.ofNat o), .int (Int32.ofNat len)] ∧ Ch b A s ∧ o + len ≤ A.slots.size ∧ len ≤ 536870912 ∧ ∀ i, i < len → ¬ 255 < cv A (o + i)
def E (b : Addr) (A : Cell) (o len : Nat) (r : Option Value) (s u : State) : Prop := NewArr .byte "[B" len (fun j => .int (lo8 (cv A (o + j)))) r s u ∧ u.heap.size = s.heap.size + 1
/-- no char of the range above 255: a new byte[] of their low bytes -/
theorem law (l : Launch) (b : Addr) (A : Cell) (o len : Nat) : Law l yN 3 3 1 18 yB 6 (some (.array .byte)) site (P b A o len) (E b A o len) [] 1 len := by
  refine Law.of_walk (plainFor_of_name (by decide +kernel)) (by decide +kernel) (by decide +kernel) (by decide) (fun _ _ h => by rw [h.1]; rfl) (fun _ U U' hal hh h => ⟨h.1, h.2.1.mv hal hh, h.2.2⟩) (fun r U U' V V' h1 hal h2 h => ⟨NewArr.mv r U U' V V' h1 hal h2 h.1, by rw [h1, h2]; exact h.2⟩) ?_
  intro p e s m args below meth c s₁ X0 hexec hbytes hml hret hlk hnm hown hh0 W hP
  obtain ⟨rfl, hA, l1, l2, hp⟩ := hP
  have a31 := hA.1.2.2.2
  have c1 : Steps p.tables e below (s₁.setTop (entryFrame m #[.ref b, .int (Int32.ofNat o), .int (Int32.ofNat len)] 6)) (s₁.setTop (mkF m 0 #[.val (.ref b), .val (.int (Int32.ofNat o)), .val (.int (Int32.ofNat len)), .unset, .unset, .unset] [])) := entry rfl
  have c2 : Steps p.tables e below (s₁.setTop (entryFrame m #[.ref b, .int (Int32.ofNat o), .int (Int32.ofNat len)] 6)) (s₁.setTop (mkF m 1 #[.val (.ref b), .val (.int (Int32.ofNat o)), .val (.int (Int32.ofNat len)), .unset, .unset, .unset] [.int (Int32.ofNat len)])) := c1.trans (by
    refine XS.iloadN X0.here hexec rfl (hb hbytes d0) rfl ?_
    exact Steps.refl _)
  obtain ⟨T3, B3, X3, ba3, bs3, bv3, bh3, bf3, st3⟩ := X0.anew hexec (atype := .byte) (wk W (.arrayClass .byte)) rfl (by show len * 1 ≤ _; omega) (by omega) (g := (mkF m 1 #[.val (.ref b), .val (.int (Int32.ofNat o)), .val (.int (Int32.ofNat len)), .unset, .unset, .unset] [.int (Int32.ofNat len)])) rfl (hb hbytes d1) (rest := []) rfl (Nat.le_refl _) (by show 0 + len ≤ len; omega)
  rw [hh0] at ba3 st3
  have kp3 : XT.Kept s T3 := (XT.Kept.of_eq hh0).push bh3
  have hA3 := hA.keep X3.warmed.alike (kp3 _ _ hA.1.1)
  have hne : b ≠ s.heap.size := hA.1.ne
  have c4 : Steps p.tables e below (s₁.setTop (entryFrame m #[.ref b, .int (Int32.ofNat o), .int (Int32.ofNat len)] 6)) (T3.setTop (mkF m 3 #[.val (.ref b), .val (.int (Int32.ofNat o)), .val (.int (Int32.ofNat len)), .unset, .unset, .unset] [.ref s.heap.size])) := c2.trans (st3 _ (Steps.refl _))
  have c5 : Steps p.tables e below (s₁.setTop (entryFrame m #[.ref b, .int (Int32.ofNat o), .int (Int32.ofNat len)] 6)) (T3.setTop (mkF m 9 #[.val (.ref b), .val (.int (Int32.ofNat o)), .val (.int (Int32.ofNat len)), .val (.ref s.heap.size), .unset, .unset] [.int (Int32.ofNat len), .int 0, .ref s.heap.size, .int (Int32.ofNat o), .ref b])) := c4.trans (by
    refine XS.astoreN X3.here hexec rfl (hb hbytes d3) rfl rfl rfl ?_
    refine XS.aloadN X3.here hexec rfl (hb hbytes d4) rfl rfl ?_
    refine XS.iloadN X3.here hexec rfl (hb hbytes d5) rfl ?_
    refine XS.aloadN X3.here hexec rfl (hb hbytes d6) rfl rfl ?_
    refine iconstV X3.here hexec rfl 0 (hb hbytes d7) (by decide) ?_
    refine XS.iloadN X3.here hexec rfl (hb hbytes d8) rfl ?_
    exact Steps.refl _)
  obtain ⟨v6, T6, X6, E6, g6⟩ := X3.callS hexec (Cmp5.law l b A s.heap.size B3 o 0 len) hown (wks W (staticW U16 115 Cmp5.yN)) (wk W Cmp5.tab) (W := 0) (Nat.le_of_ble_eq_true rfl) (Nat.le_of_ble_eq_true rfl) (Nat.le_refl _) (by show 0 + len + 0 ≤ len; omega) (g := (mkF m 9 #[.val (.ref b), .val (.int (Int32.ofNat o)), .val (.int (Int32.ofNat len)), .val (.ref s.heap.size), .unset, .unset] [.int (Int32.ofNat len), .int (Int32.ofNat 0), .ref s.heap.size, .int (Int32.ofNat o), .ref b])) rfl (by rw [hml]; rfl) c5 (argsL := [.ref b, .int (Int32.ofNat o), .ref s.heap.size, .int (Int32.ofNat 0), .int (Int32.ofNat len)]) (rest := []) rfl rfl (by show 2 * 0 + 0 ≤ _; decide) (hb hbytes d9) (⟨rfl, hA3, ba3, hne, l1, by rw [bs3]; simp, hp⟩)
  obtain ⟨rfl, B6, p6, f6⟩ := E6
  have c7 : Steps p.tables e below (s₁.setTop (entryFrame m #[.ref b, .int (Int32.ofNat o), .int (Int32.ofNat len)] 6)) (T6.setTop (mkF m 12 #[.val (.ref b), .val (.int (Int32.ofNat o)), .val (.int (Int32.ofNat len)), .val (.ref s.heap.size), .unset, .unset] [.int (Int32.ofNat len)])) := g6
  have c8 : Steps p.tables e below (s₁.setTop (entryFrame m #[.ref b, .int (Int32.ofNat o), .int (Int32.ofNat len)] 6)) (T6.setTop (mkF m 58 #[.val (.ref b), .val (.int (Int32.ofNat o)), .val (.int (Int32.ofNat len)), .val (.ref s.heap.size), .val (.int (Int32.ofNat len)), .unset] [.ref s.heap.size])) := c7.trans (by
    refine XS.istore X6.here hexec rfl (hb hbytes d12) rfl rfl ?_
    refine XS.iload X6.here hexec rfl (hb hbytes d14) rfl ?_
    refine XS.iloadN X6.here hexec rfl (hb hbytes d16) rfl ?_
    refine XS.icmpYes X6.here hexec rfl (pc0 := 17) rfl (hb hbytes d17) rfl (ii_eq_t rfl) (by decide) rfl ?_
    refine XS.aloadN X6.here hexec rfl (hb hbytes d57) rfl rfl ?_
    exact Steps.refl _)
  have X8 := X6.wide (L' := []) (cells' := 1) (slots' := len) (fun x hx hlt => by
    simp only [List.nil_append, copyLocs, List.mem_map, List.mem_range] at hx
    obtain ⟨i, -, rfl⟩ := hx
    exact absurd hlt (Nat.lt_irrefl _)) (Nat.le_refl _) (by omega)
  exact ⟨T6, some (.ref s.heap.size), _, _, _, X8, rfl, rfl, rfl, (fun h => by cases h), ⟨⟨rfl, B6, ba3.like (X3.warmed.alike.symm.trans X6.warmed.alike) p6.1 f6.1 f6.2.1 f6.2.2.1, f6.2.1.trans bv3, by rw [X6.warmed.alike.findClass, f6.1]; exact bf3, by rw [f6.2.2.1, bs3]; simp, fun j hj => by rw [f6.2.2.2 j, if_pos (by omega)]; rfl, kp3.put p6 (Nat.le_refl _)⟩, by rw [p6.2.2, bh3, hh0]; simp⟩, fun fs hl => c8.trans (X8.areturnOut hexec rfl hret rfl (hb hbytes d58) hl)⟩
end Cmp3
namespace CodL
def yN : MethodName := ⟨"java/lang/StringUTF16", "coderFromArrayLen", "([BI)B"⟩
abbrev yB : ByteArray := jdk_52_method_15_code
theorem d0 : decode yB 0 = .ok (.iload_n 1, 1) := by decide +kernel
theorem d1 : decode yB 1 = .ok (.aload_n 0, 1) := by decide +kernel
theorem d2 : decode yB 2 = .ok (.arraylength, 1) := by decide +kernel
theorem d3 : decode yB 3 = .ok (.isub, 1) := by decide +kernel
theorem d4 : decode yB 4 = .ok (.bipush 31, 2) := by decide +kernel
theorem d6 : decode yB 6 = .ok (.iushr, 1) := by decide +kernel
theorem d7 : decode yB 7 = .ok (.i2b, 1) := by decide +kernel
theorem d8 : decode yB 8 = .ok (.ireturn, 1) := by decide +kernel
def site : List Cond := []
def tab : Cond := tabOf yN yB 2 (some .byte) site
def P (d : Addr) (B : Cell) (args : Array Value) (s : State) : Prop := args = #[.ref d, .int (Int32.ofNat B.slots.size)] ∧ Arr .byte d B s
def E (r : Option Value) (s u : State) : Prop := XT.PureE (some (.int 0)) r s u
/-- an array as long as the number of chars: LATIN1 -/
theorem law (l : Launch) (d : Addr) (B : Cell) : Law l yN 2 2 0 0 yB 2 (some .byte) site (P d B) E [] 0 0 := by
  refine Law.of_walk (plainFor_of_name (by decide +kernel)) (by decide +kernel) (by decide +kernel) (by decide) (fun _ _ h => by rw [h.1]; rfl) (fun _ U U' hal hh h => ⟨h.1, h.2.mv hal hh⟩) (fun r U U' V V' h1 hal h2 h => XT.PureE.mv r U U' V V' h1 hal h2 h) ?_
  intro p e s m args below meth c s₁ X0 hexec hbytes hml hret hlk hnm hown hh0 W hP
  obtain ⟨rfl, hB⟩ := hP
  have hB0 := hB.mv X0.warmed.alike hh0
  have c1 : Steps p.tables e below (s₁.setTop (entryFrame m #[.ref d, .int (Int32.ofNat B.slots.size)] 2)) (s₁.setTop (mkF m 0 #[.val (.ref d), .val (.int (Int32.ofNat B.slots.size))] [])) := entry rfl
  have c2 : Steps p.tables e below (s₁.setTop (entryFrame m #[.ref d, .int (Int32.ofNat B.slots.size)] 2)) (s₁.setTop (mkF m 2 #[.val (.ref d), .val (.int (Int32.ofNat B.slots.size))] [.ref d, .int (Int32.ofNat B.slots.size)])) := c1.trans (by
    refine XS.iloadN X0.here hexec rfl (hb hbytes d0) rfl ?_
    refine XS.aloadN X0.here hexec rfl (hb hbytes d1) rfl rfl ?_
    exact Steps.refl _)
  have c3 : Steps p.tables e below (s₁.setTop (entryFrame m #[.ref d, .int (Int32.ofNat B.slots.size)] 2)) (s₁.setTop (mkF m 8 #[.val (.ref d), .val (.int (Int32.ofNat B.slots.size))] [.int (lo8 (ushr (Int32.ofNat B.slots.size - Int32.ofNat B.slots.size) 31))])) := c2.trans (by
    refine X0.alen hexec hB0 rfl rfl (hb hbytes d2) ?_
    refine XS.isub X0.here hexec rfl (hb hbytes d3) rfl ?_
    refine bipushV X0.here hexec rfl 31 (hb hbytes d4) (by decide) ?_
    refine iushr X0.here hexec rfl (hb hbytes d6) rfl ?_
    refine i2b X0.here hexec rfl (hb hbytes d7) rfl ?_
    exact Steps.refl _)
  have e0 : lo8 (ushr (Int32.ofNat B.slots.size - Int32.ofNat B.slots.size) 31) = 0 := by rw [Int32.sub_self]; decide
  rw [e0] at c3
  exact ⟨s₁, some (.int 0), _, _, _, X0, rfl, rfl, rfl, (fun h => by cases h), ⟨rfl, hh0⟩, fun fs hl => c3.trans (X0.ireturnOut hexec hret rfl (Or.inr (Or.inr (Or.inl rfl))) (hb hbytes d8) hl)⟩
end CodL
/-- the String at a is Latin-1 over a new byte[] (the heap's one new cell): the low bytes of the len chars of A from o on; every cell but a is kept -/
def Got (a : Addr) (D : Cell) (fV fC : Field) (A : Cell) (o len : Nat) (r : Option Value) (s u : State) : Prop := r = none ∧ ∃ D' V : Cell, Blank "java/lang/String" a D' u ∧ Same D D' [fV.slot, fC.slot] ∧ D'.slots[fV.slot]? = some (.ref s.heap.size) ∧ D'.slots[fC.slot]? = some (.int 0) ∧ Arr .byte s.heap.size V u ∧ V.vm = .none ∧ u.vm.findClass "[B" = some V.cls ∧ V.slots.size = len ∧ (∀ j, j < len → V.slots[j]? = some (.int (lo8 (cv A (o + j))))) ∧ (∀ (y : Addr) (c : Cell), y ≠ a → s.heap[y]? = some c → u.heap[y]? = some c) ∧ u.heap.size = s.heap.size + 1
theorem Got.mv {a : Addr} {D A : Cell} {fV fC : Field} {o len : Nat} : ∀ r (U U' V V' : State), U'.heap = U.heap → V.vm.Alike V'.vm → V'.heap = V.heap → Got a D fV fC A o len r U V → Got a D fV fC A o len r U' V' :=
  fun r U U' V V' h1 hal h2 ⟨e0, D', X, a1, a2, a3, a4, a5, a6, a7, a8, a9, a10, a11⟩ => ⟨e0, D', X, a1.mv hal h2, a2, by rw [h1]; exact a3, a4, by rw [h1]; exact a5.mv hal h2, a6, by rw [hal.findClass]; exact a7, a8, a9, by rw [h1, h2]; exact a10, by rw [h1, h2]; exact a11⟩
namespace New4
def yN : MethodName := ⟨"java/lang/String", "<init>", "([CIILjava/lang/Void;)V"⟩
abbrev yB : ByteArray := jdk_42_method_149_code
theorem d0 : decode yB 0 = .ok (.aload_n 0, 1) := by decide +kernel
theorem d1 : decode yB 1 = .ok (.invokespecial 1, 3) := by decide +kernel
theorem d4 : decode yB 4 = .ok (.iload_n 3, 1) := by decide +kernel
theorem d5 : decode yB 5 = .ok (.ifCond (.ne) 22, 3) := by decide +kernel
theorem d27 : decode yB 27 = .ok (.getstatic 38, 3) := by decide +kernel
theorem d30 : decode yB 30 = .ok (.ifCond (.eq) 28, 3) := by decide +kernel
theorem d33 : decode yB 33 = .ok (.aload_n 1, 1) := by decide +kernel
theorem d34 : decode yB 34 = .ok (.iload_n 2, 1) := by decide +kernel
theorem d35 : decode yB 35 = .ok (.iload_n 3, 1) := by decide +kernel
theorem d36 : decode yB 36 = .ok (.invokestatic 177, 3) := by decide +kernel
theorem d39 : decode yB 39 = .ok (.astore 5, 2) := by decide +kernel
theorem d41 : decode yB 41 = .ok (.aload_n 0, 1) := by decide +kernel
theorem d42 : decode yB 42 = .ok (.aload 5, 2) := by decide +kernel
theorem d44 : decode yB 44 = .ok (.iload_n 3, 1) := by decide +kernel
theorem d45 : decode yB 45 = .ok (.invokestatic 47, 3) := by decide +kernel
theorem d48 : decode yB 48 = .ok (.putfield 15, 3) := by decide +kernel
theorem d51 : decode yB 51 = .ok (.aload_n 0, 1) := by decide +kernel
theorem d52 : decode yB 52 = .ok (.aload 5, 2) := by decide +kernel
theorem d54 : decode yB 54 = .ok (.putfield 9, 3) := by decide +kernel
theorem d57 : decode yB 57 = .ok (.return_, 1) := by decide +kernel
def site : List Cond := [.fieldLink "java/lang/String" 38 "java/lang/String" "COMPACT_STRINGS" "Z", Cmp3.tab, CodL.tab, .laysFinal "java/lang/String" "java/lang/String" "value" "[B", .fieldLink "java/lang/String" 9 "java/lang/String" "value" "[B", .laysFinal "java/lang/String" "java/lang/String" "coder" "B", .fieldLink "java/lang/String" 15 "java/lang/String" "coder" "B"] ++ objW "java/lang/String" 1 ++ staticW "java/lang/String" 177 Cmp3.yN ++ staticW "java/lang/String" 47 CodL.yN
def tab : Cond := tabOf yN yB 6 none site
def P (a : Addr) (D : Cell) (fV fC : Field) (b : Addr) (A : Cell) (z : Int32) (o len : Nat) (args : Array Value) (s : State) : Prop := args = #[.ref a, .ref b, .int (Int32.ofNat o), .int (Int32.ofNat len), .null] ∧ Blank "java/lang/String" a D s ∧ Found "java/lang/String" "value" "[B" fV s ∧ Found "java/lang/String" "coder" "B" fC s ∧ Ch b A s ∧ StaticIs s "java/lang/String" "COMPACT_STRINGS" "Z" (.int z) ∧ ¬ z = 0 ∧ 0 < len ∧ o + len ≤ A.slots.size ∧ len ≤ 536870912 ∧ ∀ i, i < len → ¬ 255 < cv A (o + i)
def E (a : Addr) (D : Cell) (fV fC : Field) (A : Cell) (o len : Nat) (r : Option Value) (s u : State) : Prop := Got a D fV fC A o len r s u
/-- len > 0, no char of the range above 255: a Latin-1 String of their low bytes -/
theorem law (l : Launch) (a : Addr) (D : Cell) (fV fC : Field) (b : Addr) (A : Cell) (z : Int32) (o len : Nat) : Law l yN 5 4 2 35 yB 6 none site (P a D fV fC b A z o len) (E a D fV fC A o len) [⟨a, fC.slot⟩, ⟨a, fV.slot⟩] 1 len := by
  refine Law.of_walk (plainFor_of_name (by decide +kernel)) (by decide +kernel) (by decide +kernel) (by decide) (fun _ _ h => by rw [h.1]; rfl) (fun _ U U' hal hh h => ⟨h.1, h.2.1.mv hal hh, h.2.2.1.al hal, h.2.2.2.1.al hal, h.2.2.2.2.1.mv hal hh, h.2.2.2.2.2.1.there hal hh, h.2.2.2.2.2.2⟩) (fun r U U' V V' h1 hal h2 h => Got.mv r U U' V V' h1 hal h2 h) ?_
  intro p e s m args below meth c s₁ X0 hexec hbytes hml hret hlk hnm hown hh0 W hP
  obtain ⟨rfl, hB, f1, f2, hA, s1, hz, l0, l1, l2, hp⟩ := hP
  have a31 := hA.1.2.2.2
  have c1 : Steps p.tables e below (s₁.setTop (entryFrame m #[.ref a, .ref b, .int (Int32.ofNat o), .int (Int32.ofNat len), .null] 6)) (s₁.setTop (mkF m 0 #[.val (.ref a), .val (.ref b), .val (.int (Int32.ofNat o)), .val (.int (Int32.ofNat len)), .val .null, .unset] [])) := entry rfl
  have c2 : Steps p.tables e below (s₁.setTop (entryFrame m #[.ref a, .ref b, .int (Int32.ofNat o), .int (Int32.ofNat len), .null] 6)) (s₁.setTop (mkF m 1 #[.val (.ref a), .val (.ref b), .val (.int (Int32.ofNat o)), .val (.int (Int32.ofNat len)), .val .null, .unset] [.ref a])) := c1.trans (by
    refine XS.aloadN X0.here hexec rfl (hb hbytes d0) rfl rfl ?_
    exact Steps.refl _)
  obtain ⟨T3, X3, q3, st3⟩ := X0.oinit hexec hown (wks W (objW "java/lang/String" 1)) (g := (mkF m 1 #[.val (.ref a), .val (.ref b), .val (.int (Int32.ofNat o)), .val (.int (Int32.ofNat len)), .val .null, .unset] [.ref a])) rfl (by rw [hml]; rfl) (rest := []) rfl (hb hbytes d1) (W := 0) (by show 2 * 0 + 0 ≤ _; decide) (Nat.le_of_ble_eq_true rfl) (Nat.le_of_ble_eq_true rfl)
  have hh3 := q3.trans hh0
  have c4 : Steps p.tables e below (s₁.setTop (entryFrame m #[.ref a, .ref b, .int (Int32.ofNat o), .int (Int32.ofNat len), .null] 6)) (T3.setTop (mkF m 27 #[.val (.ref a), .val (.ref b), .val (.int (Int32.ofNat o)), .val (.int (Int32.ofNat len)), .val .null, .unset] [])) := (c2.trans (st3 _ (Steps.refl _))).trans (by
    refine XS.iloadN X3.here hexec rfl (hb hbytes d4) rfl ?_
    refine XS.ifYes X3.here hexec rfl (pc0 := 5) rfl (hb hbytes d5) rfl (i0_ne_t (nz32 (by omega) l0)) (by decide) rfl ?_
    exact Steps.refl _)
  obtain ⟨T5, X5, q5, st5⟩ := X3.sget hexec hown (wk W (.fieldLink "java/lang/String" 38 "java/lang/String" "COMPACT_STRINGS" "Z")) s1 (fun _ _ h => by rw [hh3]; exact h) (g := (mkF m 27 #[.val (.ref a), .val (.ref b), .val (.int (Int32.ofNat o)), .val (.int (Int32.ofNat len)), .val .null, .unset] [])) rfl (hb hbytes d27)
  have hh5 := q5.trans hh3
  have c6 : Steps p.tables e below (s₁.setTop (entryFrame m #[.ref a, .ref b, .int (Int32.ofNat o), .int (Int32.ofNat len), .null] 6)) (T5.setTop (mkF m 30 #[.val (.ref a), .val (.ref b), .val (.int (Int32.ofNat o)), .val (.int (Int32.ofNat len)), .val .null, .unset] [.int z])) := c4.trans (st5 _ (Steps.refl _))
  have c7 : Steps p.tables e below (s₁.setTop (entryFrame m #[.ref a, .ref b, .int (Int32.ofNat o), .int (Int32.ofNat len), .null] 6)) (T5.setTop (mkF m 36 #[.val (.ref a), .val (.ref b), .val (.int (Int32.ofNat o)), .val (.int (Int32.ofNat len)), .val .null, .unset] [.int (Int32.ofNat len), .int (Int32.ofNat o), .ref b])) := c6.trans (by
    refine XS.ifNo X5.here hexec rfl (hb hbytes d30) rfl (i0_eq_f hz) ?_
    refine XS.aloadN X5.here hexec rfl (hb hbytes d33) rfl rfl ?_
    refine XS.iloadN X5.here hexec rfl (hb hbytes d34) rfl ?_
    refine XS.iloadN X5.here hexec rfl (hb hbytes d35) rfl ?_
    exact Steps.refl _)
  obtain ⟨v8, T8, X8, E8, g8⟩ := X5.callS hexec (Cmp3.law l b A o len) hown (wks W (staticW "java/lang/String" 177 Cmp3.yN)) (wk W Cmp3.tab) (W := 0) (Nat.le_of_ble_eq_true rfl) (Nat.le_of_ble_eq_true rfl) (Nat.le_refl _) (by show 0 + len ≤ len; omega) (g := (mkF m 36 #[.val (.ref a), .val (.ref b), .val (.int (Int32.ofNat o)), .val (.int (Int32.ofNat len)), .val .null, .unset] [.int (Int32.ofNat len), .int (Int32.ofNat o), .ref b])) rfl (by rw [hml]; rfl) c7 (argsL := [.ref b, .int (Int32.ofNat o), .int (Int32.ofNat len)]) (rest := []) rfl rfl (by show 2 * 0 + 0 ≤ _; decide) (hb hbytes d36) (⟨rfl, hA.mv X5.warmed.alike hh5, l1, l2, hp⟩)
  obtain ⟨e8, z8⟩ := E8
  obtain ⟨rfl, N, n1, n2, n3, n4, n5, n6⟩ := NewArr.mv _ T5 s _ _ hh5.symm (Vm.Alike.refl _) rfl e8
  rw [hh5] at z8
  have hB1 := hB.keep X8.warmed.alike (n6 _ _ hB.1)
  have hne : s.heap.size ≠ a := (Nat.ne_of_lt (Array.getElem?_eq_some_iff.mp hB.1).1).symm
  have c9 : Steps p.tables e below (s₁.setTop (entryFrame m #[.ref a, .ref b, .int (Int32.ofNat o), .int (Int32.ofNat len), .null] 6)) (T8.setTop (mkF m 39 #[.val (.ref a), .val (.ref b), .val (.int (Int32.ofNat o)), .val (.int (Int32.ofNat len)), .val .null, .unset] [.ref s.heap.size])) := g8
  have c10 : Steps p.tables e below (s₁.setTop (entryFrame m #[.ref a, .ref b, .int (Int32.ofNat o), .int (Int32.ofNat len), .null] 6)) (T8.setTop (mkF m 45 #[.val (.ref a), .val (.ref b), .val (.int (Int32.ofNat o)), .val (.int (Int32.ofNat len)), .val .null, .val (.ref s.heap.size)] [.int (Int32.ofNat N.slots.size), .ref s.heap.size, .ref a])) := by
    have hc : Steps p.tables e below (s₁.setTop (entryFrame m #[.ref a, .ref b, .int (Int32.ofNat o), .int (Int32.ofNat len), .null] 6)) (T8.setTop (mkF m 45 #[.val (.ref a), .val (.ref b), .val (.int (Int32.ofNat o)), .val (.int (Int32.ofNat len)), .val .null, .val (.ref s.heap.size)] [.int (Int32.ofNat len), .ref s.heap.size, .ref a])) := c9.trans (by
      refine XS.astore X8.here hexec rfl (hb hbytes d39) rfl rfl rfl ?_
      refine XS.aloadN X8.here hexec rfl (hb hbytes d41) rfl rfl ?_
      refine XS.aload X8.here hexec rfl (hb hbytes d42) rfl rfl ?_
      refine XS.iloadN X8.here hexec rfl (hb hbytes d44) rfl ?_
      exact Steps.refl _)
    rw [n4]; exact hc
  obtain ⟨v11, T11, X11, E11, g11⟩ := X8.callS hexec (CodL.law l s.heap.size N) hown (wks W (staticW "java/lang/String" 47 CodL.yN)) (wk W CodL.tab) (W := 1) (Nat.le_of_ble_eq_true rfl) (Nat.le_of_ble_eq_true rfl) (Nat.le_refl _) (by show 0 + len + 0 ≤ len; omega) (g := (mkF m 45 #[.val (.ref a), .val (.ref b), .val (.int (Int32.ofNat o)), .val (.int (Int32.ofNat len)), .val .null, .val (.ref s.heap.size)] [.int (Int32.ofNat N.slots.size), .ref s.heap.size, .ref a])) rfl (by rw [hml]; rfl) c10 (argsL := [.ref s.heap.size, .int (Int32.ofNat N.slots.size)]) (rest := [.ref a]) rfl rfl (by show 2 * 0 + (1 + 0) ≤ _; decide) (hb hbytes d45) (⟨rfl, n1⟩)
  obtain ⟨rfl, q11⟩ := E11
  have hB11 := hB1.mv (X8.warmed.alike.symm.trans X11.warmed.alike) q11
  have c12 : Steps p.tables e below (s₁.setTop (entryFrame m #[.ref a, .ref b, .int (Int32.ofNat o), .int (Int32.ofNat len), .null] 6)) (T11.setTop (mkF m 48 #[.val (.ref a), .val (.ref b), .val (.int (Int32.ofNat o)), .val (.int (Int32.ofNat len)), .val .null, .val (.ref s.heap.size)] [.int 0, .ref a])) := g11
  obtain ⟨T13, X13, p13, bl13, sl13, st13⟩ := X11.finit hexec hown (wk W (.fieldLink "java/lang/String" 15 "java/lang/String" "coder" "B")) (Or.inr ⟨_, (wk W (.laysFinal "java/lang/String" "java/lang/String" "coder" "B"))⟩) (Or.inl ⟨rfl, hnm⟩) f2 (Or.inl rfl) hB11 (t := .byte) (by decide +kernel) rfl (g := (mkF m 48 #[.val (.ref a), .val (.ref b), .val (.int (Int32.ofNat o)), .val (.int (Int32.ofNat len)), .val .null, .val (.ref s.heap.size)] [.int 0, .ref a])) rfl (rest := []) rfl (hb hbytes d48)
  have c14 : Steps p.tables e below (s₁.setTop (entryFrame m #[.ref a, .ref b, .int (Int32.ofNat o), .int (Int32.ofNat len), .null] 6)) (T13.setTop (mkF m 54 #[.val (.ref a), .val (.ref b), .val (.int (Int32.ofNat o)), .val (.int (Int32.ofNat len)), .val .null, .val (.ref s.heap.size)] [.ref s.heap.size, .ref a])) := (c12.trans (st13 _ (Steps.refl _))).trans (by
    refine XS.aloadN X13.here hexec rfl (hb hbytes d51) rfl rfl ?_
    refine XS.aload X13.here hexec rfl (hb hbytes d52) rfl rfl ?_
    exact Steps.refl _)
  obtain ⟨T15, X15, p15, bl15, sl15, st15⟩ := X13.finit hexec hown (wk W (.fieldLink "java/lang/String" 9 "java/lang/String" "value" "[B")) (Or.inr ⟨_, (wk W (.laysFinal "java/lang/String" "java/lang/String" "value" "[B"))⟩) (Or.inl ⟨rfl, hnm⟩) f1 (Or.inl rfl) bl13 (t := (.array .byte)) (by decide +kernel) rfl (g := (mkF m 54 #[.val (.ref a), .val (.ref b), .val (.int (Int32.ofNat o)), .val (.int (Int32.ofNat len)), .val .null, .val (.ref s.heap.size)] [.ref s.heap.size, .ref a])) rfl (rest := []) rfl (hb hbytes d54)
  have c16 : Steps p.tables e below (s₁.setTop (entryFrame m #[.ref a, .ref b, .int (Int32.ofNat o), .int (Int32.ofNat len), .null] 6)) (T15.setTop (mkF m 57 #[.val (.ref a), .val (.ref b), .val (.int (Int32.ofNat o)), .val (.int (Int32.ofNat len)), .val .null, .val (.ref s.heap.size)] [])) := c14.trans (st15 _ (Steps.refl _))
  have ap := apart (Or.inr ⟨_, (wk W (.laysFinal "java/lang/String" "java/lang/String" "value" "[B"))⟩) (Or.inr ⟨_, (wk W (.laysFinal "java/lang/String" "java/lang/String" "coder" "B"))⟩) f1 f2 (t₁ := .array .byte) (t₂ := .byte) (by decide +kernel) (by decide +kernel) (by decide)
  have al := X8.warmed.alike.symm.trans X15.warmed.alike
  have n7 : T11.heap[s.heap.size]? = some N := by rw [q11]; exact n1.1
  exact ⟨T15, none, _, _, _, X15, by simp, rfl, by omega, (fun _ => rfl), ⟨rfl, _, N, bl15, ((Same.refl D _).set _ (by simp)).set _ (by simp), sl15, (Cell.slots_setSlot_ne _ ap).trans sl13, n1.keep al (p15.other hne (p13.other hne n7)), n2, by rw [al.findClass]; exact n3, n4, n5, fun y c h1 h2 => p15.other h1 (p13.other h1 (by rw [q11]; exact n6 y c h2)), by rw [p15.2.2, p13.2.2, q11]; exact z8⟩, fun fs hl => c16.trans (X15.returnOut hexec hret (hb hbytes d57) hl)⟩
end New4
namespace New1
def yN : MethodName := ⟨"java/lang/String", "<init>", "([C)V"⟩
abbrev yB : ByteArray := jdk_42_method_3_code
theorem d0 : decode yB 0 = .ok (.aload_n 0, 1) := by decide +kernel
theorem d1 : decode yB 1 = .ok (.aload_n 1, 1) := by decide +kernel
theorem d2 : decode yB 2 = .ok (.iconst 0, 1) := by decide +kernel
theorem d3 : decode yB 3 = .ok (.aload_n 1, 1) := by decide +kernel
theorem d4 : decode yB 4 = .ok (.arraylength, 1) := by decide +kernel
theorem d5 : decode yB 5 = .ok (.aconst_null, 1) := by decide +kernel
theorem d6 : decode yB 6 = .ok (.invokespecial 27, 3) := by decide +kernel
theorem d9 : decode yB 9 = .ok (.return_, 1) := by decide +kernel
def site : List Cond := [New4.tab] ++ initW "java/lang/String" 27 New4.yN
def tab : Cond := tabOf yN yB 2 none site
def P (a : Addr) (D : Cell) (fV fC : Field) (b : Addr) (A : Cell) (z : Int32) (args : Array Value) (s : State) : Prop := args = #[.ref a, .ref b] ∧ Blank "java/lang/String" a D s ∧ Found "java/lang/String" "value" "[B" fV s ∧ Found "java/lang/String" "coder" "B" fC s ∧ Ch b A s ∧ StaticIs s "java/lang/String" "COMPACT_STRINGS" "Z" (.int z) ∧ ¬ z = 0 ∧ 0 < A.slots.size ∧ A.slots.size ≤ 536870912 ∧ ∀ i, i < A.slots.size → ¬ 255 < cv A i
def E (a : Addr) (D : Cell) (fV fC : Field) (A : Cell) (r : Option Value) (s u : State) : Prop := Got a D fV fC A 0 A.slots.size r s u
/-- new String(chars), not empty, no char above 255: a Latin-1 String of their low bytes -/
theorem law (l : Launch) (a : Addr) (D : Cell) (fV fC : Field) (b : Addr) (A : Cell) (z : Int32) : Law l yN 2 1 3 52 yB 2 none site (P a D fV fC b A z) (E a D fV fC A) [⟨a, fC.slot⟩, ⟨a, fV.slot⟩] 1 A.slots.size := by
  refine Law.of_walk (plainFor_of_name (by decide +kernel)) (by decide +kernel) (by decide +kernel) (by decide) (fun _ _ h => by rw [h.1]; rfl) (fun _ U U' hal hh h => ⟨h.1, h.2.1.mv hal hh, h.2.2.1.al hal, h.2.2.2.1.al hal, h.2.2.2.2.1.mv hal hh, h.2.2.2.2.2.1.there hal hh, h.2.2.2.2.2.2⟩) (fun r U U' V V' h1 hal h2 h => Got.mv r U U' V V' h1 hal h2 h) ?_
  intro p e s m args below meth c s₁ X0 hexec hbytes hml hret hlk hnm hown hh0 W hP
  obtain ⟨rfl, hB, f1, f2, hA, s1, hz, l0, l2, hp⟩ := hP
  have c1 : Steps p.tables e below (s₁.setTop (entryFrame m #[.ref a, .ref b] 2)) (s₁.setTop (mkF m 0 #[.val (.ref a), .val (.ref b)] [])) := entry rfl
  have c2 : Steps p.tables e below (s₁.setTop (entryFrame m #[.ref a, .ref b] 2)) (s₁.setTop (mkF m 6 #[.val (.ref a), .val (.ref b)] [.null, .int (Int32.ofNat A.slots.size), .int 0, .ref b, .ref a])) := c1.trans (by
    refine XS.aloadN X0.here hexec rfl (hb hbytes d0) rfl rfl ?_
    refine XS.aloadN X0.here hexec rfl (hb hbytes d1) rfl rfl ?_
    refine iconstV X0.here hexec rfl 0 (hb hbytes d2) (by decide) ?_
    refine XS.aloadN X0.here hexec rfl (hb hbytes d3) rfl rfl ?_
    refine X0.alen hexec (hA.1.mv X0.warmed.alike hh0) rfl rfl (hb hbytes d4) ?_
    refine XS.aconstNull X0.here hexec rfl (hb hbytes d5) ?_
    exact Steps.refl _)
  obtain ⟨v3, T3, X3, E3, g3⟩ := X0.callN hexec (New4.law l a D fV fC b A z 0 A.slots.size) rfl hown (wks W (initW "java/lang/String" 27 New4.yN)) (W New4.tab (by simp only [site, List.mem_cons, List.mem_append, true_or, or_true])) (W := 0) (Nat.le_of_ble_eq_true rfl) (Nat.le_of_ble_eq_true rfl) (Nat.le_refl _) (by show 0 + A.slots.size ≤ A.slots.size; omega) (g := (mkF m 6 #[.val (.ref a), .val (.ref b)] [.null, .int (Int32.ofNat A.slots.size), .int (Int32.ofNat 0), .ref b, .ref a])) rfl (by rw [hml]; rfl) c2 (argsL := [.ref b, .int (Int32.ofNat 0), .int (Int32.ofNat A.slots.size), .null]) (rest := []) rfl rfl (by show 2 * 0 + 0 ≤ _; decide) (hb hbytes d6) (⟨rfl, hB.mv X0.warmed.alike hh0, f1.al X0.warmed.alike, f2.al X0.warmed.alike, hA.mv X0.warmed.alike hh0, s1.there X0.warmed.alike hh0, hz, l0, by omega, l2, fun i hi => by rw [Nat.zero_add]; exact hp i hi⟩)
  have e0 := Got.mv _ s₁ s _ _ hh0.symm (Vm.Alike.refl _) rfl E3
  obtain rfl := e0.1
  have c4 : Steps p.tables e below (s₁.setTop (entryFrame m #[.ref a, .ref b] 2)) (T3.setTop (mkF m 9 #[.val (.ref a), .val (.ref b)] [])) := g3
  exact ⟨T3, none, _, _, _, X3, by simp, rfl, by omega, (fun _ => rfl), e0, fun fs hl => c4.trans (X3.returnOut hexec hret (hb hbytes d9) hl)⟩
theorem pays {l : Launch} {R : Room} {p : Program} {e : Env} {below : List Frame} {s : State} {sargs : Array Value} {len W : Nat} (a : Addr) (D : Cell) (fV fC : Field) (b : Addr) (A : Cell) (z : Int32) (htab : tab.before sargs s = true) (hfr : 4 ≤ R.frames) (hlo : W + 65 ≤ R.locals) :
    Back l R p e below s sargs yN len W (fun A₁ a₁ => A₁.cells + 1 ≤ R.cells ∧ A₁.slots + A.slots.size ≤ R.slots ∧ P a D fV fC b A z a₁ A₁.U) (fun A₁ _ v₁ B₁ => E a D fV fC A v₁ A₁.U B₁.U ∧ B₁.locs = A₁.locs ++ [⟨a, fC.slot⟩, ⟨a, fV.slot⟩] ∧ B₁.cells = A₁.cells + 1 ∧ B₁.slots = A₁.slots + A.slots.size) :=
  (law l a D fV fC b A z).pays htab hfr (by omega)
end New1
/-- the byte, read back as charAt reads it, is the char -/
theorem lo8_mask {x : Int32} (h0 : ¬ x < 0) (h1 : ¬ 255 < x) : lo8 x &&& 255 = x := by
  have t : ∀ k : Fin 256, lo8 (Int32.ofNat k.val) &&& 255 = Int32.ofNat k.val := by decide +kernel
  rw [Int32.lt_iff_toInt_lt] at h0 h1
  have e0 : (0 : Int32).toInt = 0 := rfl
  have e1 : (255 : Int32).toInt = 255 := rfl
  obtain ⟨k, hk⟩ : ∃ k : Nat, x.toInt = k := ⟨x.toInt.toNat, by omega⟩
  have hx : x = Int32.ofNat k := Int32.toInt_inj.mp (by rw [hk, Int32.toInt_ofNat_small (by omega)])
  rw [hx]
  exact t ⟨k, by omega⟩
end StrChars
namespace StrChars.Road
open Jvm Sem ClassFile Op Lib Jvm.Stand Jvm.Free Jvm.Free.XT
open Jvm.Lib.Cold (StaticIs)
abbrev ST : String := "java/lang/String"
/-- every table word that New1's law asks, flat -/
abbrev words : List Jvm.Cond := [.code New1.yN New1.yB 2 none, .initialized ST, .methodLink ST 27 New4.yN, .instanceMethod New4.yN,
  .code New4.yN New4.yB 6 none, .fieldLink ST 38 ST "COMPACT_STRINGS" "Z", .laysFinal ST ST "value" "[B", .fieldLink ST 9 ST "value" "[B", .laysFinal ST ST "coder" "B", .fieldLink ST 15 ST "coder" "B",
  .methodLink ST 1 Lib.objectInit, .instanceMethod Lib.objectInit, .code Lib.objectInit ⟨#[0xb1]⟩ 1 none, .methodLink ST 177 Cmp3.yN, .static Cmp3.yN, .methodLink ST 47 CodL.yN, .static CodL.yN,
  .code Cmp3.yN Cmp3.yB 6 (some (.array .byte)), .initialized U16, .arrayClass .byte, .methodLink U16 115 Cmp5.yN, .static Cmp5.yN, .code Cmp5.yN Cmp5.yB 7 (some .int), .code CodL.yN CodL.yB 2 (some .byte)]
theorem tab_of {a : Array Value} {s : State} (h : ∀ w ∈ words, w.before a s = true) : New1.tab.before a s = true := by
  have h5 : Cmp5.tab.before a s = true := unparts (wk h (.code Cmp5.yN Cmp5.yB 7 (some .int))) (wks h (.initialized Cmp5.yN.cls :: Cmp5.site))
  have hc : CodL.tab.before a s = true := unparts (wk h (.code CodL.yN CodL.yB 2 (some .byte))) (wks h (.initialized CodL.yN.cls :: CodL.site))
  have q5 : ∀ w ∈ Cmp5.tab :: words, w.before a s = true := fun w hw => (List.mem_cons.mp hw).elim (fun e => e ▸ h5) (h w)
  have h3 : Cmp3.tab.before a s = true := unparts (wk q5 (.code Cmp3.yN Cmp3.yB 6 (some (.array .byte)))) (wks q5 (.initialized Cmp3.yN.cls :: Cmp3.site))
  have q3 : ∀ w ∈ Cmp3.tab :: CodL.tab :: words, w.before a s = true := fun w hw => (List.mem_cons.mp hw).elim (fun e => e ▸ h3) fun hw => (List.mem_cons.mp hw).elim (fun e => e ▸ hc) (h w)
  have h4 : New4.tab.before a s = true := unparts (wk q3 (.code New4.yN New4.yB 6 none)) (wks q3 (.initialized New4.yN.cls :: New4.site))
  have q4 : ∀ w ∈ New4.tab :: words, w.before a s = true := fun w hw => (List.mem_cons.mp hw).elim (fun e => e ▸ h4) (h w)
  exact unparts (wk q4 (.code New1.yN New1.yB 2 none)) (wks q4 (.initialized New1.yN.cls :: New1.site))
/-- the words ride from the start Z to the walk's own state -/
theorem moved {Z s : State} {a0 args : Array Value} (hZ : Z.Warmed39 s.vm) (hw : ∀ d ∈ words, d.before a0 Z = true) : ∀ d ∈ words, d.before args s = true := fun d hd => by
  have q := hw d hd
  have t : ∀ d ∈ words, d = .arrayClass .byte ∨ (d.onTables && d.keepsFace) = true := by decide +kernel
  rcases t d hd with rfl | t
  · exact RoadKit.mvA hZ q
  · exact RoadKit.mv hZ q t
/-- WHAT COMES BACK, over the tables of the start Z: h the heap at the call, h' behind it -/
def Q (Z : State) (x : Addr) (A : Cell) (h : Heap) (v : Option Value) (h' : Heap) (L : List Loc) : Prop := v = none ∧ (∀ y ∈ L, y.base = x) ∧ RoadKit.Keep h h' [x] ∧ h'.size = h.size + 1 ∧ RoadKit.Exa Z h' x ST ∧ RoadKit.Fld Z h' x ST "value" "[B" (.ref h.size) ∧ RoadKit.Fld Z h' x ST "coder" "B" (.int 0) ∧
  (∃ V : Cell, RoadKit.Arr Z h' h.size V .byte ∧ V.vm = .none ∧ Z.vm.findClass "[B" = some V.cls ∧ V.slots.size = A.slots.size ∧ ∀ j, j < A.slots.size → V.slots[j]? = some (.int (lo8 (cv A j)))) ∧
  ∀ (O n d : String) (w : Value), RoadKit.Fld Z h x O n d w → RoadKit.slotOf Z O n d ≠ RoadKit.slotOf Z ST "value" "[B" → RoadKit.slotOf Z O n d ≠ RoadKit.slotOf Z ST "coder" "B" → RoadKit.Fld Z h' x O n d w
/-- **new String(chars) AT A CALL, IN THE ROAD'S FORM**: for specialBack behind newO: x the fresh String, b the char[] with the cell A -/
theorem back {p : Program} {l : Launch} {e : Env} {R : Room} {s : State} {args : Array Value} {below : List Frame} {len W : Nat} {Z : State} {a0 : Array Value} {h : Heap} (hZ : Z.Warmed39 s.vm) (hw : ∀ d ∈ words, d.before a0 Z = true) {kI : Nat} (wi : (Jvm.Cond.instantiable ST kI).before a0 Z = true)
    {x b : Addr} {A : Cell} {z : Int32} {v0 c0 : Value} (E : RoadKit.Exa Z h x ST) (V : RoadKit.Fld Z h x ST "value" "[B" v0) (C : RoadKit.Fld Z h x ST "coder" "B" c0) (K : RoadKit.Arr Z h b A .char) (hty : Typed .char A) (S : RoadKit.Sta Z h ST "COMPACT_STRINGS" "Z" (.int z)) (hz : ¬ z = 0)
    (l0 : 0 < A.slots.size) (l2 : A.slots.size ≤ 536870912) (hp : ∀ i, i < A.slots.size → ¬ 255 < cv A i) (hfr : 4 ≤ R.frames) (hlo : W + 65 ≤ R.locals) :
    Back l R p e below s args New1.yN len W (fun P a => a = #[.ref x, .ref b] ∧ P.U.heap = h ∧ P.cells + 1 ≤ R.cells ∧ P.slots + A.slots.size ≤ R.slots)
      (fun P _ v B => ∃ L, Q Z x A h v B.U.heap L ∧ B.locs = P.locs ++ L ∧ B.cells = P.cells + 1 ∧ B.slots = P.slots + A.slots.size) := by
  intro m meth c P g ig mk a X hg hsize hdg hW hn hp'
  obtain ⟨rfl, rfl, r1, r2⟩ := hp'
  have al : Z.vm.Alike P.U.vm := hZ.alike.trans X.warmed.alike
  obtain ⟨D, cfV, kV, iV, fV, hD, gV, stV, knV, obV, asV, slV⟩ := id V
  obtain ⟨D', cfC, kC, iC, fC, hD', gC, stC, -, -, asC, slC⟩ := id C
  cases hD.symm.trans hD'
  obtain ⟨D2, kD, e1, e2, e3, e4, e5⟩ := id E
  cases hD.symm.trans e1
  obtain ⟨c2, k2, i1, i2, i3, -⟩ := Cond.instantiable_spec wi
  cases e2.symm.trans i1
  cases e3.symm.trans i2
  obtain ⟨kU, u1, u2⟩ := al.2.2 _ _ e3
  have hB : Blank ST x D P.U := ⟨hD, ⟨knV, fun q hq => by rw [hq] at obV; cases obV⟩, by rw [al.findClass]; exact e2, kU, u1, by rw [u2]; exact i3, by rw [u2]; exact e5 i3⟩
  have F1 : Found ST "value" "[B" fV P.U := ⟨SBG.found_only al ⟨cfV, kV, iV, gV⟩, stV⟩
  have F2 : Found ST "coder" "B" fC P.U := ⟨SBG.found_only al ⟨cfC, kC, iC, gC⟩, stC⟩
  have hA : Ch b A P.U := ⟨⟨K.1, State.isArrayOf_alike al K.2.1, K.2.2, by omega⟩, hty⟩
  have hS : StaticIs P.U ST "COMPACT_STRINGS" "Z" (.int z) := by
    obtain ⟨cfS, iS, kS, fS, st, cS, t1, t2, t3, t4, t5, t6, t7⟩ := S
    exact StaticIs.there (s := { Z with heap := P.U.heap }) ⟨cfS, iS, kS, fS, st, cS, t1, t2, t3, t4, t5, (fun q => by rw [q] at t6; cases t6), t7⟩ al rfl
  obtain ⟨v, B, X', ⟨⟨hv, E', V', q1, q2, q3, q4, q5, q6, q7, q8, q9, q10, q11⟩, hl, hc, hs⟩, st⟩ := New1.pays x D fV fC b A z (tab_of (moved hZ hw)) hfr hlo m meth c P g ig mk _ X hg hsize hdg hW hn ⟨r1, r2, rfl, hB, F1, F2, hA, hS, hz, l0, l2, hp⟩
  have al' : Z.vm.Alike B.U.vm := hZ.alike.trans X'.warmed.alike
  have hsz : E'.slots.size = D.slots.size := by
    obtain ⟨-, -, -, kB, w1, w2, w3⟩ := q1
    obtain ⟨kB', y1, y2⟩ := al'.2.2 _ _ e3
    rw [q2.2.1] at w1
    cases w1.symm.trans y1
    rw [w3, e5 i3, y2]
  refine ⟨v, B, X', ⟨_, ⟨hv, ?_, ⟨by omega, fun y cy hy hn' => q10 y cy (by simpa using hn') hy, fun y cy hy => ?_⟩, q11, ⟨E', _, q1.1, by rw [q2.2.1]; exact e2, by rw [q2.2.1]; exact e3, by rw [q2.1]; exact obV, fun _ => by rw [hsz]; exact e5 i3⟩,
    ⟨E', cfV, kV, iV, fV, q1.1, gV, stV, by rw [q2.1]; exact knV, by rw [q2.1]; exact obV, by rw [q2.2.1]; exact asV, q3⟩, ⟨E', cfC, kC, iC, fC, q1.1, gC, stC, by rw [q2.1]; exact knV, by rw [q2.1]; exact obV, by rw [q2.2.1]; exact asC, q4⟩,
    ⟨V', ⟨q5.1, State.isArrayOf_alike al'.symm q5.2.1, q5.2.2.1⟩, q6, by rw [← al'.findClass]; exact q7, q8, fun j hj => by have := q9 j hj; rwa [Nat.zero_add] at this⟩, fun O n d w F n1 n2 => ?_⟩, hl, hc, hs⟩, st⟩
  · intro y hy
    simp only [List.mem_cons, List.not_mem_nil, or_false] at hy
    rcases hy with rfl | rfl <;> rfl
  · by_cases q : y = x
    · subst q
      cases hD.symm.trans hy
      exact ⟨E', q1.1, q2.2.1, q2.1, hsz⟩
    · exact ⟨cy, q10 y cy q hy, rfl, rfl, rfl⟩
  · obtain ⟨D3, cf, k, i, f, g1, g2, g3, g4, g5, g6, g7⟩ := F
    cases hD.symm.trans g1
    simp only [RoadKit.slotOf, g2, gV, gC, Option.map_some, Option.getD_some] at n1 n2
    exact ⟨E', cf, k, i, f, q1.1, g2, g3, by rw [q2.1]; exact g4, by rw [q2.1]; exact g5, by rw [q2.2.1]; exact g6, by rw [q2.2.2 f.slot (by simp [n1, n2])]; exact g7⟩
end StrChars.Road
namespace StrChars.Road
open Jvm Sem ClassFile Op Lib Jvm.Stand Jvm.Free Jvm.Free.XT
/-- WHAT COMES BACK, the byte[] as a list of values -/
def QA (Z : State) (x : Addr) (zn : Int32) (cs : List Int32) (h : Heap) (v : Option Value) (h' : Heap) (L : List Loc) : Prop := v = none ∧ (∀ y ∈ L, y.base = x) ∧ RoadKit.Keep h h' [x] ∧ h'.size = h.size + 1 ∧ RoadKit.Exa Z h' x ST ∧ RoadKit.Fld Z h' x ST "value" "[B" (.ref h.size) ∧ RoadKit.Fld Z h' x ST "coder" "B" (.int 0) ∧
  (∃ kb, Z.vm.findClass "[B" = some kb ∧ RoadKit.Arv Z h' h.size kb .byte zn (cs.map fun c => .int (lo8 c)) (.int 0)) ∧
  ∀ (O n d : String) (w : Value), RoadKit.Fld Z h x O n d w → RoadKit.slotOf Z O n d ≠ RoadKit.slotOf Z ST "value" "[B" → RoadKit.slotOf Z O n d ≠ RoadKit.slotOf Z ST "coder" "B" → RoadKit.Fld Z h' x O n d w
/-- **new String(chars) AT A CALL, THE ARRAYS AS LISTS**: the char[] at b holds cs, not empty, no char above 255 -/
theorem backArv {p : Program} {l : Launch} {e : Env} {R : Room} {s : State} {args : Array Value} {below : List Frame} {len W : Nat} {Z : State} {a0 : Array Value} {h : Heap} (hZ : Z.Warmed39 s.vm) (hw : ∀ d ∈ words, d.before a0 Z = true) {kI : Nat} (wi : (Jvm.Cond.instantiable ST kI).before a0 Z = true)
    {x b : Addr} {k : ClassId} {zn z : Int32} {cs : List Int32} {dv v0 c0 : Value} (E : RoadKit.Exa Z h x ST) (V : RoadKit.Fld Z h x ST "value" "[B" v0) (C : RoadKit.Fld Z h x ST "coder" "B" c0) (K : RoadKit.Arv Z h b k .char zn (cs.map Value.int) dv) (S : RoadKit.Sta Z h ST "COMPACT_STRINGS" "Z" (.int z)) (hz : ¬ z = 0)
    (hlen : zn.toNatClampNeg = cs.length) (h0 : 0 < cs.length) (hbig : cs.length ≤ 536870912) (hall : ∀ c ∈ cs, ¬ 255 < c) (hfr : 4 ≤ R.frames) (hlo : W + 65 ≤ R.locals) :
    Back l R p e below s args New1.yN len W (fun P a => a = #[.ref x, .ref b] ∧ P.U.heap = h ∧ P.cells + 1 ≤ R.cells ∧ P.slots + cs.length ≤ R.slots)
      (fun P _ v B => ∃ L, QA Z x zn cs h v B.U.heap L ∧ B.locs = P.locs ++ L ∧ B.cells = P.cells + 1 ∧ B.slots = P.slots + cs.length) := by
  obtain ⟨A, K1, K2, K3, K4, K5, K6⟩ := K
  have e : A.slots.size = cs.length := K3.trans hlen
  have hat : ∀ (i : Nat) (hi : i < cs.length), A.slots[i]? = some (.int cs[i]) := fun i hi => by rw [K5 i (by omega)]; simp [List.getD_eq_getElem?_getD, hi]
  have hcv : ∀ (i : Nat) (hi : i < cs.length), cv A i = cs[i] := fun i hi => by unfold cv; rw [hat i hi]
  have hty : Typed .char A := fun i v hv => by
    have hi : i < A.slots.size := (Array.getElem?_eq_some_iff.mp hv).1
    have q := K5 i hi
    rw [hv] at q
    rw [Option.some.inj q]
    exact K6 i hi
  refine Back.mono (back hZ hw wi E V C K1 hty S hz (by omega) (by omega) (fun i hi => by rw [hcv i (by omega)]; exact hall _ (List.getElem_mem _)) hfr hlo) (fun P a hp => ⟨hp.1, hp.2.1, hp.2.2.1, by rw [e]; exact hp.2.2.2⟩) (fun P a v B hp hq => ?_)
  obtain ⟨L, ⟨q1, q2, q3, q4, q5, q6, q7, ⟨V', v1, v2, v3, v4, v5⟩, q9⟩, hl, hc, hs⟩ := hq
  refine ⟨L, ⟨q1, q2, q3, q4, q5, q6, q7, ⟨V'.cls, v3, V', v1, rfl, by rw [v4, e, hlen], K4, fun i hi => ?_, fun i hi => ?_⟩, q9⟩, hl, hc, by rw [hs, e]⟩
  · have hi' : i < cs.length := by omega
    rw [v5 i (by omega), hcv i hi']; simp [List.getD_eq_getElem?_getD, hi']
  · have hi' : i < cs.length := by omega
    simp only [List.getD_eq_getElem?_getD, List.getElem?_map, List.getElem?_eq_getElem hi', Option.map_some, Option.getD_some]
    exact fits_lo8 _
end StrChars.Road
namespace StrChars.Road
open Jvm Sem ClassFile Op Lib Jvm.Stand Jvm.Free Jvm.Free.XT
/-- WHAT COMES BACK, in the writer's own shape -/
def QV (Z : State) (x : Addr) (N : Int32) (bs : List Int32) (h : Heap) (n0 : Nat) (v : Option Value) (h' : Heap) (L : List Loc) : Prop := v = none ∧ RoadKit.Fr n0 L ∧ RoadKit.Keep h h' [x] ∧ RoadKit.Exa Z h' x ST ∧ RoadKit.Fld Z h' x ST "coder" "B" (.int 0) ∧
  ∃ (t : Addr) (kb : ClassId), n0 ≤ t ∧ h.size ≤ t ∧ ¬ t = x ∧ RoadKit.Fld Z h' x ST "value" "[B" (.ref t) ∧ RoadKit.Arv Z h' t kb .byte N (bs.map Value.int) (.int 0)
/-- **new String(chars) AT A CALL, FOR THE WRITER**: a char[] of n known ints, each 0 to 255 -/
theorem backV {p : Program} {l : Launch} {e : Env} {R : Room} {s : State} {args : Array Value} {below : List Frame} {len W : Nat} {Z : State} {a0 : Array Value} {h : Heap} (hZ : Z.Warmed39 s.vm) (hw : ∀ d ∈ words, d.before a0 Z = true) {kI : Nat} (wi : (Jvm.Cond.instantiable ST kI).before a0 Z = true)
    {x b : Addr} {kC : ClassId} {cs bs : List Int32} {d v0 c0 : Value} {z N : Int32} {n n0 : Nat} (hx0 : n0 ≤ x) (hh0 : n0 ≤ h.size) (E : RoadKit.Exa Z h x ST) (V : RoadKit.Fld Z h x ST "value" "[B" v0) (C : RoadKit.Fld Z h x ST "coder" "B" c0) (K : RoadKit.Arv Z h b kC .char N (cs.map Value.int) d) (S : RoadKit.Sta Z h ST "COMPACT_STRINGS" "Z" (.int z)) (hz : ¬ z = 0)
    (hn : cs.length = n) (hN : N = Int32.ofNat n) (l0 : 0 < n) (l2 : n ≤ 4000) (hp : ∀ c ∈ cs, ¬ c < 0 ∧ ¬ (255 : Int32) < c) (hb : bs = cs.map (fun c => c.toInt8.toInt32)) (hfr : 4 ≤ R.frames) (hlo : W + 65 ≤ R.locals) :
    Back l R p e below s args (⟨"java/lang/String", "<init>", "([C)V"⟩ : MethodName) len W (fun P a => a = #[.ref x, .ref b] ∧ P.U.heap = h ∧ P.cells + 1 ≤ R.cells ∧ P.slots + n ≤ R.slots)
      (fun P _ v B => ∃ L, QV Z x N bs h n0 v B.U.heap L ∧ B.locs = P.locs ++ L ∧ B.cells = P.cells + 1 ∧ B.slots = P.slots + n) := by
  subst hn hN hb
  refine Back.mono (backArv hZ hw wi E V C K S hz (n32 (by omega)) l0 (by omega) (fun c hc => (hp c hc).2) hfr hlo) (fun P a hp => hp) (fun P a v B hp hq => ?_)
  obtain ⟨L, ⟨q1, q2, q3, q4, q5, q6, q7, ⟨kb, v1, v2⟩, q9⟩, hl, hc, hs⟩ := hq
  exact ⟨L, ⟨q1, fun y hy => by rw [q2 y hy]; exact hx0, q3, q5, q7, h.size, kb, hh0, Nat.le_refl _, Nat.ne_of_gt E.lt, q6, by rw [List.map_map]; exact v2⟩, hl, hc, hs⟩
end StrChars.Road
namespace StrChars
open Jvm Sem ClassFile Op Lib Jvm.Stand Jvm.Free.XT Jvm.Free.ALB Jvm.Free.JM Jvm.Free
open Jvm.Lib.Cold (StaticIs)
def hi8 (x : Int32) : Int32 := lo8 (x >>> ((8 : Int32) &&& 31))
/-- what StringUTF16.getChar makes of two bytes -/
def pairCh (u v : Int32) : Int32 := (((u &&& 255) <<< ((0 : Int32) &&& 31)) ||| ((v &&& 255) <<< ((8 : Int32) &&& 31))).toUInt32.toUInt16.toUInt32.toInt32
theorem shr0 (c : Int32) : c >>> ((0 : Int32) &&& 31) = c := by
  have e : ((0 : Int32) &&& 31) = 0 := by decide
  rw [e]
  apply Int32.toBitVec_inj.mp
  rw [Int32.toBitVec_shiftRight]
  have e1 : ((0 : Int32).toBitVec.smod 32) = 0#32 := by decide
  rw [e1, BitVec.sshiftRight_eq']
  exact BitVec.sshiftRight_zero
theorem lo8_and (x : Int32) : (lo8 x &&& 255).toBitVec.toNat = x.toBitVec.toNat % 256 := by
  have h : (lo8 x).toBitVec = (x.toBitVec.signExtend 8).signExtend 32 := by rw [lo8, Int8.toBitVec_toInt32, Int32.toBitVec_toInt8]
  rw [Int32.toBitVec_and, BitVec.toNat_and, h]
  have e : ((x.toBitVec.signExtend 8).signExtend 32).toNat % 256 = x.toBitVec.toNat % 256 := by
    rw [BitVec.toNat_signExtend]
    have hlt := x.toBitVec.isLt
    simp only [BitVec.toNat_setWidth, BitVec.toNat_signExtend]
    split <;> split <;> omega
  rw [← e]
  exact Nat.and_two_pow_sub_one_eq_mod _ 8
theorem pair_says {c : Int32} (h0 : ¬ c < 0) (h1 : ¬ 65535 < c) : pairCh (lo8 c) (hi8 c) = c := by
  rw [Int32.lt_iff_toInt_lt] at h0 h1
  have e0 : (0 : Int32).toInt = 0 := rfl
  have e1 : (65535 : Int32).toInt = 65535 := rfl
  have hc : c.toInt = c.toBitVec.toNat := by
    have := c.toBitVec.isLt
    have e : c.toInt = c.toBitVec.toInt := rfl
    rw [e] at h0 h1
    rw [e]
    rw [BitVec.toInt_eq_toNat_cond] at h0 h1 ⊢
    split at h0 <;> split <;> omega
  have hn : c.toBitVec.toNat < 65536 := by omega
  have a1 := lo8_and c
  have a2 : (hi8 c &&& 255).toBitVec.toNat = c.toBitVec.toNat / 256 := by
    rw [hi8, lo8_and]
    have e : ((8 : Int32) &&& 31) = 8 := by decide
    rw [e, Int32.toBitVec_shiftRight]
    have e2 : ((8 : Int32).toBitVec.smod 32) = 8#32 := by decide
    rw [e2, BitVec.sshiftRight_eq', BitVec.toNat_sshiftRight_of_msb_false (by rw [BitVec.msb_eq_false_iff_two_mul_lt]; omega)]
    show c.toBitVec.toNat >>> 8 % 256 = _
    rw [Nat.shiftRight_eq_div_pow]
    omega
  unfold pairCh
  apply Int32.toBitVec_inj.mp
  apply BitVec.eq_of_toNat_eq
  have f0 : ((0 : Int32) &&& 31) = 0 := by decide
  have f8 : ((8 : Int32) &&& 31) = 8 := by decide
  rw [f0, f8]
  have g : (((lo8 c &&& 255) <<< (0 : Int32)) ||| ((hi8 c &&& 255) <<< (8 : Int32))).toBitVec.toNat = c.toBitVec.toNat := by
    rw [Int32.toBitVec_or, Int32.toBitVec_shiftLeft, Int32.toBitVec_shiftLeft]
    have s0 : ((0 : Int32).toBitVec.smod 32) = 0#32 := by decide
    have s8 : ((8 : Int32).toBitVec.smod 32) = 8#32 := by decide
    rw [s0, s8, BitVec.toNat_or]
    simp only [BitVec.shiftLeft_eq', BitVec.toNat_shiftLeft, a1, a2]
    show (c.toBitVec.toNat % 256) <<< 0 % 2 ^ 32 ||| (c.toBitVec.toNat / 256) <<< 8 % 2 ^ 32 = _
    rw [Nat.shiftLeft_zero, Nat.mod_eq_of_lt (show c.toBitVec.toNat % 256 < 2 ^ 32 by omega), Nat.mod_eq_of_lt (show (c.toBitVec.toNat / 256) <<< 8 < 2 ^ 32 by rw [Nat.shiftLeft_eq]; omega), Nat.or_comm, ← Nat.shiftLeft_add_eq_or_of_lt (by omega), Nat.shiftLeft_eq]
    omega
  show BitVec.toNat (((((lo8 c &&& 255) <<< (0 : Int32)) ||| ((hi8 c &&& 255) <<< (8 : Int32))).toBitVec.setWidth 16).setWidth 32) = _
  rw [BitVec.toNat_setWidth, BitVec.toNat_setWidth, g]
  omega
end StrChars
namespace StrChars
open Jvm Sem ClassFile Op Lib Jvm.Stand Jvm.Free.XT Jvm.Free.ALB Jvm.Free.JM Jvm.Free
open Jvm.Lib.Cold (StaticIs)
theorem shr1 {n : Nat} (h : 2 * n < 2 ^ 31) : Int32.ofNat (2 * n) >>> ((1 : Int32) &&& 31) = Int32.ofNat n := by
  have e : ((1 : Int32) &&& 31) = 1 := by decide
  rw [e]
  apply Int32.toBitVec_inj.mp
  rw [Int32.toBitVec_shiftRight]
  have e1 : ((1 : Int32).toBitVec.smod 32) = 1#32 := by decide
  have hm : (BitVec.ofNat 32 (2 * n)).toNat = 2 * n := by rw [BitVec.toNat_ofNat, Nat.mod_eq_of_lt (by omega)]
  rw [e1, BitVec.sshiftRight_eq']
  apply BitVec.eq_of_toNat_eq
  show ((BitVec.ofNat 32 (2 * n)).sshiftRight 1).toNat = (BitVec.ofNat 32 n).toNat
  rw [BitVec.toNat_sshiftRight_of_msb_false (by rw [BitVec.msb_eq_false_iff_two_mul_lt, hm]; omega), hm, BitVec.toNat_ofNat, Nat.shiftRight_eq_div_pow]
  omega
/-- charAt's cast of a byte read back -/
def chr8 (u : Int32) : Int32 := (u &&& 255).toUInt32.toUInt16.toUInt32.toInt32
theorem chr8_lo8 {c : Int32} (h0 : ¬ c < 0) (h1 : ¬ 255 < c) : chr8 (lo8 c) = c := by
  have t : ∀ k : Fin 256, (Int32.ofNat k.val).toUInt32.toUInt16.toUInt32.toInt32 = Int32.ofNat k.val := by decide +kernel
  unfold chr8
  rw [lo8_mask h0 h1]
  rw [Int32.lt_iff_toInt_lt] at h0 h1
  have e0 : (0 : Int32).toInt = 0 := rfl
  have e1 : (255 : Int32).toInt = 255 := rfl
  obtain ⟨k, hk⟩ : ∃ k : Nat, c.toInt = k := ⟨c.toInt.toNat, by omega⟩
  have hx : c = Int32.ofNat k := Int32.toInt_inj.mp (by rw [hk, Int32.toInt_ofNat_small (by omega)])
  rw [hx]
  exact t ⟨k, by omega⟩
theorem narrow_ch {c : Int32} (h0 : ¬ c < 0) (h1 : ¬ 65535 < c) : narrow .char (.int c) = .int c := by
  have q : narrow .char (.int (pairCh (lo8 c) (hi8 c))) = .int (pairCh (lo8 c) (hi8 c)) := narrow_c _
  rwa [pair_says h0 h1] at q
/-- the array's cell V codes the n chars f 0 .. f (n - 1) by the coder cd, as the JDK does: coder 1 just where some char is above 255 -/
def Cod (cd : Int32) (n : Nat) (f : Nat → Int32) (V : Cell) : Prop := (cd = 0 ∧ V.slots.size = n ∧ ∀ j, j < n → V.slots[j]? = some (.int (lo8 (f j))) ∧ ¬ 255 < f j) ∨ (cd = 1 ∧ V.slots.size = 2 * n ∧ (∀ j, j < n → V.slots[2 * j]? = some (.int (lo8 (f j))) ∧ V.slots[2 * j + 1]? = some (.int (hi8 (f j)))) ∧ ∃ j, j < n ∧ 255 < f j)
theorem Cod.cd {cd : Int32} {n : Nat} {f : Nat → Int32} {V : Cell} (h : Cod cd n f V) : cd = 0 ∨ cd = 1 := h.imp (fun q => q.1) fun q => q.1
theorem Cod.len {cd : Int32} {n : Nat} {f : Nat → Int32} {V : Cell} (h : Cod cd n f V) (hs : V.slots.size < 2 ^ 31) : Int32.ofNat V.slots.size >>> (cd &&& 31) = Int32.ofNat n := by
  rcases h with ⟨rfl, h, -⟩ | ⟨rfl, h, -⟩
  · rw [shr0, h]
  · rw [h, shr1 (by omega)]
/-- **x is a String of the n chars f 0 .. f (n - 1)**, Latin-1 or UTF-16; its array at t has the cell V -/
def Txt (x t : Addr) (V : Cell) (cd : Int32) (n : Nat) (f : Nat → Int32) (U : State) : Prop := Exact "java/lang/String" x U ∧ Has x "java/lang/String" "value" "[B" (.ref t) U ∧ Has x "java/lang/String" "coder" "B" (.int cd) U ∧ XT.Arr .byte t V U ∧ Cod cd n f V ∧ ∀ j, j < n → ¬ f j < 0 ∧ ¬ 65535 < f j
theorem Txt.mv {x t : Addr} {V : Cell} {cd : Int32} {n : Nat} {f : Nat → Int32} {U U' : State} (h : Txt x t V cd n f U) (hal : U.vm.Alike U'.vm) (hh : U'.heap = U.heap) : Txt x t V cd n f U' := ⟨h.1.mv hal hh, h.2.1.mv hal hh, h.2.2.1.mv hal hh, h.2.2.2.1.mv hal hh, h.2.2.2.2⟩
namespace Cdr
def yN : MethodName := ⟨"java/lang/String", "coder", "()B"⟩
abbrev yB : ByteArray := jdk_42_method_152_code
theorem d0 : decode yB 0 = .ok (.getstatic 38, 3) := by decide +kernel
theorem d3 : decode yB 3 = .ok (.ifCond (.eq) 10, 3) := by decide +kernel
theorem d6 : decode yB 6 = .ok (.aload_n 0, 1) := by decide +kernel
theorem d7 : decode yB 7 = .ok (.getfield 15, 3) := by decide +kernel
theorem d10 : decode yB 10 = .ok (.goto 4, 3) := by decide +kernel
theorem d14 : decode yB 14 = .ok (.ireturn, 1) := by decide +kernel
def site : List Cond := [.fieldLink "java/lang/String" 38 "java/lang/String" "COMPACT_STRINGS" "Z", .fieldLink "java/lang/String" 15 "java/lang/String" "coder" "B"]
def tab : Cond := tabOf yN yB 1 (some .byte) site
def P (x : Addr) (cd z : Int32) (args : Array Value) (s : State) : Prop := args = #[.ref x] ∧ Has x "java/lang/String" "coder" "B" (.int cd) s ∧ (cd = 0 ∨ cd = 1) ∧ StaticIs s "java/lang/String" "COMPACT_STRINGS" "Z" (.int z) ∧ ¬ z = 0
def E (cd : Int32) (r : Option Value) (s u : State) : Prop := XT.PureE (some (.int cd)) r s u
theorem law (l : Launch) (x : Addr) (cd z : Int32) : Law l yN 1 0 0 0 yB 1 (some .byte) site (P x cd z) (E cd) [] 0 0 := by
  refine Law.of_walk (plainFor_of_name (by decide +kernel)) (by decide +kernel) (by decide +kernel) (by decide) (fun _ _ h => by rw [h.1]; rfl) (fun _ U U' hal hh h => ⟨h.1, h.2.1.mv hal hh, h.2.2.1, h.2.2.2.1.there hal hh, h.2.2.2.2⟩) (fun r U U' V V' h1 hal h2 h => XT.PureE.mv r U U' V V' h1 hal h2 h) ?_
  intro p e s m args below meth c s₁ X0 hexec hbytes hml hret hlk hnm hown hh0 W hP
  obtain ⟨rfl, hx, hc, s1, hz⟩ := hP
  have c1 : Steps p.tables e below (s₁.setTop (entryFrame m #[.ref x] 1)) (s₁.setTop (mkF m 0 #[.val (.ref x)] [])) := entry rfl
  obtain ⟨T2, X2, q2, st2⟩ := X0.sget hexec hown (wk W (.fieldLink "java/lang/String" 38 "java/lang/String" "COMPACT_STRINGS" "Z")) s1 (fun _ _ h => by rw [hh0]; exact h) (g := (mkF m 0 #[.val (.ref x)] [])) rfl (hb hbytes d0)
  have hh2 := q2.trans hh0
  have c3 : Steps p.tables e below (s₁.setTop (entryFrame m #[.ref x] 1)) (T2.setTop (mkF m 7 #[.val (.ref x)] [.ref x])) := (c1.trans (st2 _ (Steps.refl _))).trans (by
    refine XS.ifNo X2.here hexec rfl (hb hbytes d3) rfl (i0_eq_f hz) ?_
    refine XS.aloadN X2.here hexec rfl (hb hbytes d6) rfl rfl ?_
    exact Steps.refl _)
  obtain ⟨T4, X4, q4, st4⟩ := X2.hget hexec hown (wk W (.fieldLink "java/lang/String" 15 "java/lang/String" "coder" "B")) (hx.mv X2.warmed.alike hh2) (g := (mkF m 7 #[.val (.ref x)] [.ref x])) rfl (rest := []) rfl (hb hbytes d7)
  have c5 : Steps p.tables e below (s₁.setTop (entryFrame m #[.ref x] 1)) (T4.setTop (mkF m 14 #[.val (.ref x)] [.int cd])) := (c3.trans (st4 _ (Steps.refl _))).trans (by
    refine XS.goto X4.here hexec rfl (pc0 := 10) rfl (hb hbytes d10) (by decide) rfl ?_
    exact Steps.refl _)
  exact ⟨T4, some (.int cd), _, _, _, X4, rfl, rfl, rfl, (fun h => by cases h), ⟨rfl, q4.trans hh2⟩, fun fs hl => c5.trans (X4.ireturnOut hexec hret (by rcases hc with rfl | rfl <;> rfl) (Or.inr (Or.inr (Or.inl rfl))) (hb hbytes d14) hl)⟩
end Cdr
namespace Len
def yN : MethodName := ⟨"java/lang/String", "length", "()I"⟩
abbrev yB : ByteArray := jdk_42_method_54_code
theorem d0 : decode yB 0 = .ok (.aload_n 0, 1) := by decide +kernel
theorem d1 : decode yB 1 = .ok (.getfield 9, 3) := by decide +kernel
theorem d4 : decode yB 4 = .ok (.arraylength, 1) := by decide +kernel
theorem d5 : decode yB 5 = .ok (.aload_n 0, 1) := by decide +kernel
theorem d6 : decode yB 6 = .ok (.invokevirtual 335, 3) := by decide +kernel
theorem d9 : decode yB 9 = .ok (.ishr, 1) := by decide +kernel
theorem d10 : decode yB 10 = .ok (.ireturn, 1) := by decide +kernel
def site : List Cond := [.fieldLink "java/lang/String" 9 "java/lang/String" "value" "[B", Cdr.tab] ++ virtW "java/lang/String" 335 "java/lang/String" Cdr.yN Cdr.yN
def tab : Cond := tabOf yN yB 1 (some .int) site
def P (x t : Addr) (V : Cell) (cd : Int32) (n : Nat) (f : Nat → Int32) (z : Int32) (args : Array Value) (s : State) : Prop := args = #[.ref x] ∧ Txt x t V cd n f s ∧ StaticIs s "java/lang/String" "COMPACT_STRINGS" "Z" (.int z) ∧ ¬ z = 0
def E (n : Nat) (r : Option Value) (s u : State) : Prop := XT.PureE (some (.int (Int32.ofNat n))) r s u
/-- length() of a String of n chars, in either coding -/
theorem law (l : Launch) (x t : Addr) (V : Cell) (cd : Int32) (n : Nat) (f : Nat → Int32) (z : Int32) : Law l yN 1 0 1 13 yB 1 (some .int) site (P x t V cd n f z) (E n) [] 0 0 := by
  refine Law.of_walk (plainFor_of_name (by decide +kernel)) (by decide +kernel) (by decide +kernel) (by decide) (fun _ _ h => by rw [h.1]; rfl) (fun _ U U' hal hh h => ⟨h.1, h.2.1.mv hal hh, h.2.2.1.there hal hh, h.2.2.2⟩) (fun r U U' V V' h1 hal h2 h => XT.PureE.mv r U U' V V' h1 hal h2 h) ?_
  intro p e s m args below meth c s₁ X0 hexec hbytes hml hret hlk hnm hown hh0 W hP
  obtain ⟨rfl, hx, s1, hz⟩ := hP
  have v31 := hx.2.2.2.1.2.2.2
  have c1 : Steps p.tables e below (s₁.setTop (entryFrame m #[.ref x] 1)) (s₁.setTop (mkF m 1 #[.val (.ref x)] [.ref x])) := Steps.trans (entry rfl) (by
    show Steps p.tables e below (s₁.setTop (mkF m 0 #[.val (.ref x)] [])) _
    refine XS.aloadN X0.here hexec rfl (hb hbytes d0) rfl rfl ?_
    exact Steps.refl _)
  obtain ⟨T2, X2, q2, st2⟩ := X0.hget hexec hown (wk W (.fieldLink "java/lang/String" 9 "java/lang/String" "value" "[B")) (hx.mv X0.warmed.alike hh0).2.1 (g := (mkF m 1 #[.val (.ref x)] [.ref x])) rfl (rest := []) rfl (hb hbytes d1)
  have hh2 := q2.trans hh0
  have hx2 := hx.mv X2.warmed.alike hh2
  have c3 : Steps p.tables e below (s₁.setTop (entryFrame m #[.ref x] 1)) (T2.setTop (mkF m 6 #[.val (.ref x)] [.ref x, .int (Int32.ofNat V.slots.size)])) := (c1.trans (st2 _ (Steps.refl _))).trans (by
    refine X2.alen hexec hx2.2.2.2.1 rfl rfl (hb hbytes d4) ?_
    refine XS.aloadN X2.here hexec rfl (hb hbytes d5) rfl rfl ?_
    exact Steps.refl _)
  obtain ⟨v4, T4, X4, E4, g4⟩ := X2.callV hexec (Cdr.law l x cd z) hown (wks W (virtW "java/lang/String" 335 "java/lang/String" Cdr.yN Cdr.yN)) rfl (by decide) (wk W Cdr.tab) (W := 1) (Nat.le_of_ble_eq_true rfl) (Nat.le_of_ble_eq_true rfl) (Nat.le_refl _) (Nat.le_refl _) (hx2.1.fc X2.warmed.alike) hx2.1.is (g := (mkF m 6 #[.val (.ref x)] [.ref x, .int (Int32.ofNat V.slots.size)])) rfl (by rw [hml]; rfl) c3 (argsL := []) (rest := [.int (Int32.ofNat V.slots.size)]) rfl rfl (by show 2 * 0 + (1 + 0) ≤ _; decide) (hb hbytes d6) (⟨rfl, hx2.2.2.1, hx.2.2.2.2.1.cd, s1.there X2.warmed.alike hh2, hz⟩)
  obtain ⟨rfl, q4⟩ := E4
  have c5 : Steps p.tables e below (s₁.setTop (entryFrame m #[.ref x] 1)) (T4.setTop (mkF m 10 #[.val (.ref x)] [.int (Int32.ofNat V.slots.size >>> (cd &&& 31))])) := Steps.trans g4 (by
    refine ishr X4.here hexec rfl (hb hbytes d9) rfl ?_
    exact Steps.refl _)
  rw [hx.2.2.2.2.1.len v31] at c5
  exact ⟨T4, some (.int (Int32.ofNat n)), _, _, _, X4, rfl, rfl, rfl, (fun h => by cases h), ⟨rfl, q4.trans hh2⟩, fun fs hl => c5.trans (X4.ireturnOut hexec hret rfl (Or.inl rfl) (hb hbytes d10) hl)⟩
theorem pays {l : Launch} {R : Room} {p : Program} {e : Env} {below : List Frame} {s : State} {sargs : Array Value} {len W : Nat} (x t : Addr) (V : Cell) (cd : Int32) (n : Nat) (f : Nat → Int32) (z : Int32) (htab : tab.before sargs s = true) (hfr : 2 ≤ R.frames) (hlo : W + 25 ≤ R.locals) :
    Back l R p e below s sargs yN len W (fun A₁ a₁ => A₁.cells + 0 ≤ R.cells ∧ A₁.slots + 0 ≤ R.slots ∧ P x t V cd n f z a₁ A₁.U) (fun A₁ _ v₁ B₁ => E n v₁ A₁.U B₁.U ∧ B₁.locs = A₁.locs ++ [] ∧ B₁.cells = A₁.cells + 0 ∧ B₁.slots = A₁.slots + 0) :=
  (law l x t V cd n f z).pays htab hfr (by omega)
end Len
namespace IsL
def yN : MethodName := ⟨"java/lang/String", "isLatin1", "()Z"⟩
abbrev yB : ByteArray := jdk_42_method_154_code
theorem d0 : decode yB 0 = .ok (.getstatic 38, 3) := by decide +kernel
theorem d3 : decode yB 3 = .ok (.ifCond (.eq) 14, 3) := by decide +kernel
theorem d6 : decode yB 6 = .ok (.aload_n 0, 1) := by decide +kernel
theorem d7 : decode yB 7 = .ok (.getfield 15, 3) := by decide +kernel
theorem d10 : decode yB 10 = .ok (.ifCond (.ne) 7, 3) := by decide +kernel
theorem d13 : decode yB 13 = .ok (.iconst 1, 1) := by decide +kernel
theorem d14 : decode yB 14 = .ok (.goto 4, 3) := by decide +kernel
theorem d17 : decode yB 17 = .ok (.iconst 0, 1) := by decide +kernel
theorem d18 : decode yB 18 = .ok (.ireturn, 1) := by decide +kernel
def site : List Cond := [.fieldLink "java/lang/String" 38 "java/lang/String" "COMPACT_STRINGS" "Z", .fieldLink "java/lang/String" 15 "java/lang/String" "coder" "B"]
def tab : Cond := tabOf yN yB 1 (some .boolean) site
def P (x : Addr) (cd z : Int32) (args : Array Value) (s : State) : Prop := args = #[.ref x] ∧ Has x "java/lang/String" "coder" "B" (.int cd) s ∧ (cd = 0 ∨ cd = 1) ∧ StaticIs s "java/lang/String" "COMPACT_STRINGS" "Z" (.int z) ∧ ¬ z = 0
def E (cd : Int32) (r : Option Value) (s u : State) : Prop := XT.PureE (some (.int (1 - cd))) r s u
theorem law (l : Launch) (x : Addr) (cd z : Int32) : Law l yN 1 0 0 0 yB 1 (some .boolean) site (P x cd z) (E cd) [] 0 0 := by
  refine Law.of_walk (plainFor_of_name (by decide +kernel)) (by decide +kernel) (by decide +kernel) (by decide) (fun _ _ h => by rw [h.1]; rfl) (fun _ U U' hal hh h => ⟨h.1, h.2.1.mv hal hh, h.2.2.1, h.2.2.2.1.there hal hh, h.2.2.2.2⟩) (fun r U U' V V' h1 hal h2 h => XT.PureE.mv r U U' V V' h1 hal h2 h) ?_
  intro p e s m args below meth c s₁ X0 hexec hbytes hml hret hlk hnm hown hh0 W hP
  obtain ⟨rfl, hx, hc, s1, hz⟩ := hP
  have c1 : Steps p.tables e below (s₁.setTop (entryFrame m #[.ref x] 1)) (s₁.setTop (mkF m 0 #[.val (.ref x)] [])) := entry rfl
  obtain ⟨T2, X2, q2, st2⟩ := X0.sget hexec hown (wk W (.fieldLink "java/lang/String" 38 "java/lang/String" "COMPACT_STRINGS" "Z")) s1 (fun _ _ h => by rw [hh0]; exact h) (g := (mkF m 0 #[.val (.ref x)] [])) rfl (hb hbytes d0)
  have hh2 := q2.trans hh0
  have c3 : Steps p.tables e below (s₁.setTop (entryFrame m #[.ref x] 1)) (T2.setTop (mkF m 7 #[.val (.ref x)] [.ref x])) := (c1.trans (st2 _ (Steps.refl _))).trans (by
    refine XS.ifNo X2.here hexec rfl (hb hbytes d3) rfl (i0_eq_f hz) ?_
    refine XS.aloadN X2.here hexec rfl (hb hbytes d6) rfl rfl ?_
    exact Steps.refl _)
  obtain ⟨T4, X4, q4, st4⟩ := X2.hget hexec hown (wk W (.fieldLink "java/lang/String" 15 "java/lang/String" "coder" "B")) (hx.mv X2.warmed.alike hh2) (g := (mkF m 7 #[.val (.ref x)] [.ref x])) rfl (rest := []) rfl (hb hbytes d7)
  have c5 : Steps p.tables e below (s₁.setTop (entryFrame m #[.ref x] 1)) (T4.setTop (mkF m 10 #[.val (.ref x)] [.int cd])) := c3.trans (st4 _ (Steps.refl _))
  have c6 : Steps p.tables e below (s₁.setTop (entryFrame m #[.ref x] 1)) (T4.setTop (mkF m 18 #[.val (.ref x)] [.int (1 - cd)])) := by
    rcases hc with rfl | rfl
    · exact c5.trans (by
        refine XS.ifNo X4.here hexec rfl (hb hbytes d10) rfl (i0_ne_f rfl) ?_
        refine iconstV X4.here hexec rfl 1 (hb hbytes d13) (by decide) ?_
        refine XS.goto X4.here hexec rfl (pc0 := 14) rfl (hb hbytes d14) (by decide) rfl ?_
        exact Steps.refl _)
    · exact c5.trans (by
        refine XS.ifYes X4.here hexec rfl (pc0 := 10) rfl (hb hbytes d10) rfl (i0_ne_t (by decide)) (by decide) rfl ?_
        refine iconstV X4.here hexec rfl 0 (hb hbytes d17) (by decide) ?_
        exact Steps.refl _)
  exact ⟨T4, some (.int (1 - cd)), _, _, _, X4, rfl, rfl, rfl, (fun h => by cases h), ⟨rfl, q4.trans hh2⟩, fun fs hl => c6.trans (X4.ireturnOut hexec hret (by rcases hc with rfl | rfl <;> rfl) (Or.inr (Or.inl rfl)) (hb hbytes d18) hl)⟩
end IsL
namespace LChA
def yN : MethodName := ⟨"java/lang/StringLatin1", "charAt", "([BI)C"⟩
abbrev yB : ByteArray := jdk_43_method_2_code
theorem d0 : decode yB 0 = .ok (.iload_n 1, 1) := by decide +kernel
theorem d1 : decode yB 1 = .ok (.aload_n 0, 1) := by decide +kernel
theorem d2 : decode yB 2 = .ok (.arraylength, 1) := by decide +kernel
theorem d3 : decode yB 3 = .ok (.invokestatic 9, 3) := by decide +kernel
theorem d6 : decode yB 6 = .ok (.aload_n 0, 1) := by decide +kernel
theorem d7 : decode yB 7 = .ok (.iload_n 1, 1) := by decide +kernel
theorem d8 : decode yB 8 = .ok (.baload, 1) := by decide +kernel
theorem d9 : decode yB 9 = .ok (.sipush 255, 3) := by decide +kernel
theorem d12 : decode yB 12 = .ok (.iand, 1) := by decide +kernel
theorem d13 : decode yB 13 = .ok (.i2c, 1) := by decide +kernel
theorem d14 : decode yB 14 = .ok (.ireturn, 1) := by decide +kernel
def site : List Cond := [JO.Str_checkIndex.tab] ++ staticW "java/lang/StringLatin1" 9 JO.Str_checkIndex.yN
def tab : Cond := tabOf yN yB 2 (some .char) site
def P (t : Addr) (V : Cell) (i : Nat) (u : Int32) (fm : Value) (args : Array Value) (s : State) : Prop := args = #[.ref t, .int (Int32.ofNat i)] ∧ XT.Arr .byte t V s ∧ V.slots[i]? = some (.int u) ∧ (StaticIs s "jdk/internal/util/Preconditions" "SIOOBE_FORMATTER" "Ljava/util/function/BiFunction;" fm ∧ fm.isRef = true)
def E (u : Int32) (r : Option Value) (s w : State) : Prop := XT.PureE (some (.int (chr8 u))) r s w
theorem law (l : Launch) (t : Addr) (V : Cell) (i : Nat) (u : Int32) (fm : Value) : Law l yN 2 2 2 27 yB 2 (some .char) site (P t V i u fm) (E u) [] 0 0 := by
  refine Law.of_walk (plainFor_of_name (by decide +kernel)) (by decide +kernel) (by decide +kernel) (by decide) (fun _ _ h => by rw [h.1]; rfl) (fun _ U U' hal hh h => ⟨h.1, h.2.1.mv hal hh, h.2.2.1, h.2.2.2.1.there hal hh, h.2.2.2.2⟩) (fun r U U' V V' h1 hal h2 h => XT.PureE.mv r U U' V V' h1 hal h2 h) ?_
  intro p e s m args below meth c s₁ X0 hexec hbytes hml hret hlk hnm hown hh0 W hP
  obtain ⟨rfl, hV, hu, s1, rf⟩ := hP
  have v31 := hV.2.2.2
  have hi : i < V.slots.size := (Array.getElem?_eq_some_iff.mp hu).1
  have c1 : Steps p.tables e below (s₁.setTop (entryFrame m #[.ref t, .int (Int32.ofNat i)] 2)) (s₁.setTop (mkF m 0 #[.val (.ref t), .val (.int (Int32.ofNat i))] [])) := entry rfl
  have c2 : Steps p.tables e below (s₁.setTop (entryFrame m #[.ref t, .int (Int32.ofNat i)] 2)) (s₁.setTop (mkF m 3 #[.val (.ref t), .val (.int (Int32.ofNat i))] [.int (Int32.ofNat V.slots.size), .int (Int32.ofNat i)])) := c1.trans (by
    refine XS.iloadN X0.here hexec rfl (hb hbytes d0) rfl ?_
    refine XS.aloadN X0.here hexec rfl (hb hbytes d1) rfl rfl ?_
    refine X0.alen hexec (hV.mv X0.warmed.alike hh0) rfl rfl (hb hbytes d2) ?_
    exact Steps.refl _)
  obtain ⟨v3, T3, X3, E3, g3⟩ := X0.callS hexec (JO.Str_checkIndex.law l (Int32.ofNat i) (Int32.ofNat V.slots.size) fm) hown (wks W (staticW "java/lang/StringLatin1" 9 JO.Str_checkIndex.yN)) (wk W JO.Str_checkIndex.tab) (W := 0) (Nat.le_of_ble_eq_true rfl) (Nat.le_of_ble_eq_true rfl) (Nat.le_refl _) (Nat.le_refl _) (g := (mkF m 3 #[.val (.ref t), .val (.int (Int32.ofNat i))] [.int (Int32.ofNat V.slots.size), .int (Int32.ofNat i)])) rfl (by rw [hml]; rfl) c2 (argsL := [.int (Int32.ofNat i), .int (Int32.ofNat V.slots.size)]) (rest := []) rfl rfl (by show 2 * 0 + 0 ≤ _; decide) (hb hbytes d3) (⟨rfl, rf, s1.there X0.warmed.alike hh0, Int32.ofNat_not_neg (by omega), lt32 v31 hi⟩)
  obtain ⟨rfl, q3⟩ := E3
  have hh3 := q3.trans hh0
  have c4 : Steps p.tables e below (s₁.setTop (entryFrame m #[.ref t, .int (Int32.ofNat i)] 2)) (T3.setTop (mkF m 14 #[.val (.ref t), .val (.int (Int32.ofNat i))] [.int (chr8 u)])) := Steps.trans g3 (by
    refine XS.aloadN X3.here hexec rfl (hb hbytes d6) rfl rfl ?_
    refine XS.iloadN X3.here hexec rfl (hb hbytes d7) rfl ?_
    refine X3.aget hexec (hV.mv X3.warmed.alike hh3) rfl hu rfl rfl (hb hbytes d8) ?_
    refine sipushV X3.here hexec rfl 255 (hb hbytes d9) (by decide) ?_
    refine XS.iand X3.here hexec rfl (hb hbytes d12) rfl ?_
    refine i2c X3.here hexec rfl (hb hbytes d13) rfl ?_
    exact Steps.refl _)
  exact ⟨T3, some (.int (chr8 u)), _, _, _, X3, rfl, rfl, rfl, (fun h => by cases h), ⟨rfl, hh3⟩, fun fs hl => c4.trans (X3.ireturnOut hexec hret (narrow_c _) (Or.inr (Or.inr (Or.inr (Or.inl rfl)))) (hb hbytes d14) hl)⟩
end LChA
end StrChars
namespace StrChars.Road
open Jvm Sem ClassFile Op Lib Jvm.Stand Jvm.Free Jvm.Free.XT
open Jvm.Lib.Cold (StaticIs)
theorem consq {a : Array Value} {s : State} {c : Jvm.Cond} {L : List Jvm.Cond} (h0 : c.before a s = true) (h : ∀ w ∈ L, w.before a s = true) : ∀ w ∈ c :: L, w.before a s = true := fun w hw => (List.mem_cons.mp hw).elim (fun e => e ▸ h0) (h w)
/-- the words of String.length(), either coding -/
abbrev wordsLen : List Jvm.Cond := [.code Len.yN Len.yB 1 (some .int), .initialized ST, .fieldLink ST 9 ST "value" "[B", .fieldLink ST 38 ST "COMPACT_STRINGS" "Z", .fieldLink ST 15 ST "coder" "B", .code Cdr.yN Cdr.yB 1 (some .byte), .methodLink ST 335 Cdr.yN, .declares Cdr.yN, .selects ST Cdr.yN Cdr.yN, .instanceMethod Cdr.yN]
theorem tabLen_of {a : Array Value} {s : State} (h : ∀ w ∈ wordsLen, w.before a s = true) : Len.tab.before a s = true := by
  have hc : Cdr.tab.before a s = true := unparts (wk h (.code Cdr.yN Cdr.yB 1 (some .byte))) (wks h (.initialized Cdr.yN.cls :: Cdr.site))
  have q := consq hc h
  exact unparts (wk q (.code Len.yN Len.yB 1 (some .int))) (wks q (.initialized Len.yN.cls :: Len.site))
theorem movedLen {Z s : State} {a0 args : Array Value} (hZ : Z.Warmed39 s.vm) (hw : ∀ d ∈ wordsLen, d.before a0 Z = true) : ∀ d ∈ wordsLen, d.before args s = true := fun d hd => by
  have q := hw d hd
  have t : ∀ d ∈ wordsLen, d = .arrayClass .byte ∨ (d.onTables && d.keepsFace) = true := by decide +kernel
  rcases t d hd with rfl | t
  · exact RoadKit.mvA hZ q
  · exact RoadKit.mv hZ q t
/-- the bytes of the chars cs, low before high -/
def wideBytes : List Int32 → List Value
  | [] => []
  | c :: cs => .int (lo8 c) :: .int (hi8 c) :: wideBytes cs
theorem wide_lo (d : Value) : ∀ (cs : List Int32) (j : Nat), j < cs.length → (wideBytes cs).getD (2 * j) d = .int (lo8 (cs.getD j 0))
  | [], j, h => absurd h (Nat.not_lt_zero j)
  | c :: cs, 0, _ => rfl
  | c :: cs, j + 1, h => by
    have q := wide_lo d cs j (by simpa using h)
    rw [show 2 * (j + 1) = 2 * j + 1 + 1 from by omega]
    simpa [wideBytes] using q
theorem wide_hi (d : Value) : ∀ (cs : List Int32) (j : Nat), j < cs.length → (wideBytes cs).getD (2 * j + 1) d = .int (hi8 (cs.getD j 0))
  | [], j, h => absurd h (Nat.not_lt_zero j)
  | c :: cs, 0, _ => rfl
  | c :: cs, j + 1, h => by
    have q := wide_hi d cs j (by simpa using h)
    rw [show 2 * (j + 1) + 1 = 2 * j + 1 + 1 + 1 from by omega]
    simpa [wideBytes] using q
theorem low_at (d : Value) (cs : List Int32) (j : Nat) (h : j < cs.length) : (cs.map fun c => Value.int (lo8 c)).getD j d = .int (lo8 (cs.getD j 0)) := by
  simp [List.getD_eq_getElem?_getD, h]
/-- an array of N2 bytes vs codes the chars cs by the coder cd -/
def CodA (cs : List Int32) (cd N2 : Int32) (vs : List Value) : Prop := (cd = 0 ∧ N2 = Int32.ofNat cs.length ∧ vs = (cs.map fun c => Value.int (lo8 c)) ∧ ∀ c ∈ cs, ¬ 255 < c) ∨ (cd = 1 ∧ N2 = Int32.ofNat (2 * cs.length) ∧ vs = wideBytes cs ∧ ∃ c ∈ cs, 255 < c)
theorem CodA.cod {cs : List Int32} {cd N2 : Int32} {vs : List Value} {V : Cell} (h : CodA cs cd N2 vs) (hn : 2 * cs.length < 2 ^ 31) (hs : V.slots.size = N2.toNatClampNeg) (hv : RoadKit.Has V vs (.int 0)) : Cod cd cs.length (fun j => cs.getD j 0) V := by
  rcases h with ⟨rfl, rfl, rfl, h⟩ | ⟨rfl, rfl, rfl, c, hc, hw⟩
  · rw [n32 (by omega)] at hs
    exact Or.inl ⟨rfl, hs, fun j hj => ⟨by rw [hv j (by omega), low_at _ _ _ hj], by
      have e : cs.getD j 0 = cs[j] := by simp [List.getD_eq_getElem?_getD, hj]
      show ¬ 255 < cs.getD j 0
      rw [e]; exact h _ (List.getElem_mem _)⟩⟩
  · rw [n32 (by omega)] at hs
    obtain ⟨j, hj, rfl⟩ := List.getElem_of_mem hc
    exact Or.inr ⟨rfl, hs, fun j hj => ⟨by rw [hv _ (by omega), wide_lo _ _ _ hj], by rw [hv _ (by omega), wide_hi _ _ _ hj]⟩, j, hj, by
      have e : cs.getD j 0 = cs[j] := by simp [List.getD_eq_getElem?_getD, hj]
      show 255 < cs.getD j 0
      rw [e]; exact hw⟩
/-- an object of exactly java/lang/String, its two fields found: as the laws ask it -/
theorem strObj {Z U : State} {a0 : Array Value} {kI : Nat} (wi : (Jvm.Cond.instantiable ST kI).before a0 Z = true) (al : Z.vm.Alike U.vm) {x : Addr} {v0 c0 : Value} (E : RoadKit.Exa Z U.heap x ST) (V : RoadKit.Fld Z U.heap x ST "value" "[B" v0) (C : RoadKit.Fld Z U.heap x ST "coder" "B" c0) :
    ∃ (D : Cell) (fV fC : Field), Blank ST x D U ∧ Found ST "value" "[B" fV U ∧ Found ST "coder" "B" fC U ∧ D.slots[fV.slot]? = some v0 ∧ D.slots[fC.slot]? = some c0 ∧ RoadKit.slotOf Z ST "value" "[B" = fV.slot ∧ RoadKit.slotOf Z ST "coder" "B" = fC.slot := by
  obtain ⟨D, cfV, kV, iV, fV, hD, gV, stV, knV, obV, asV, slV⟩ := V
  obtain ⟨D', cfC, kC, iC, fC, hD', gC, stC, -, -, asC, slC⟩ := C
  cases hD.symm.trans hD'
  obtain ⟨D2, kD, e1, e2, e3, e4, e5⟩ := E
  cases hD.symm.trans e1
  obtain ⟨c2, k2, i1, i2, i3, -⟩ := Cond.instantiable_spec wi
  cases e2.symm.trans i1
  cases e3.symm.trans i2
  obtain ⟨kU, u1, u2⟩ := al.2.2 _ _ e3
  exact ⟨D, fV, fC, ⟨hD, ⟨knV, fun q hq => by rw [hq] at obV; cases obV⟩, by rw [al.findClass]; exact e2, kU, u1, by rw [u2]; exact i3, by rw [u2]; exact e5 i3⟩, ⟨SBG.found_only al ⟨cfV, kV, iV, gV⟩, stV⟩, ⟨SBG.found_only al ⟨cfC, kC, iC, gC⟩, stC⟩, slV, slC, by simp [RoadKit.slotOf, gV], by simp [RoadKit.slotOf, gC]⟩
theorem sta_is {Z U : State} (al : Z.vm.Alike U.vm) {C n d : String} {v : Value} (S : RoadKit.Sta Z U.heap C n d v) : StaticIs U C n d v := by
  obtain ⟨cfS, iS, kS, fS, st, cS, t1, t2, t3, t4, t5, t6, t7⟩ := S
  exact StaticIs.there (s := { Z with heap := U.heap }) ⟨cfS, iS, kS, fS, st, cS, t1, t2, t3, t4, t5, (fun q => by rw [q] at t6; cases t6), t7⟩ al rfl
/-- **length() OF SUCH A STRING** -/
theorem lenW {p : Program} {l : Launch} {e : Env} {R : Room} {s : State} {args : Array Value} {below : List Frame} {len W : Nat} {Z : State} {a0 : Array Value} {h : Heap} (hZ : Z.Warmed39 s.vm) (hw : ∀ d ∈ wordsLen, d.before a0 Z = true) {kI : Nat} (wi : (Jvm.Cond.instantiable ST kI).before a0 Z = true)
    {x t : Addr} {kb : ClassId} {cs : List Int32} {cd N2 z : Int32} {vs : List Value} (E : RoadKit.Exa Z h x ST) (V : RoadKit.Fld Z h x ST "value" "[B" (.ref t)) (C : RoadKit.Fld Z h x ST "coder" "B" (.int cd)) (K : RoadKit.Arv Z h t kb .byte N2 vs (.int 0)) (hc : CodA cs cd N2 vs) (hb : ∀ c ∈ cs, ¬ c < 0 ∧ ¬ (65535 : Int32) < c)
    (S : RoadKit.Sta Z h ST "COMPACT_STRINGS" "Z" (.int z)) (hz : ¬ z = 0) (l2 : cs.length ≤ 4000) (hfr : 2 ≤ R.frames) (hlo : W + 25 ≤ R.locals) :
    Back l R p e below s args (⟨"java/lang/String", "length", "()I"⟩ : MethodName) len W (fun P a => a = #[.ref x] ∧ P.U.heap = h ∧ P.cells + 0 ≤ R.cells ∧ P.slots + 0 ≤ R.slots)
      (fun P _ v B => ∃ L, (v = some (.int (Int32.ofNat cs.length)) ∧ L = [] ∧ B.U.heap = h) ∧ B.locs = P.locs ++ L ∧ B.cells = P.cells + 0 ∧ B.slots = P.slots + 0) := by
  obtain ⟨A, K1, K2, K3, K4, K5, K6⟩ := K
  have hcod := hc.cod (by omega) K3 K5
  intro m meth c P g ig mk a X hg hsize hdg hW hn hp'
  obtain ⟨rfl, rfl, r1, r2⟩ := hp'
  have al : Z.vm.Alike P.U.vm := hZ.alike.trans X.warmed.alike
  obtain ⟨D, fV, fC, hB, F1, F2, g1, g2, -, -⟩ := strObj wi al E V C
  have hx : Txt x t A cd cs.length (fun j => cs.getD j 0) P.U := ⟨⟨_, hB.2.2.1, D, hB.1, rfl, by cases q : D.vm <;> first | rfl | exact absurd q (hB.2.1.2 _)⟩, Has.of hB F1 g1, Has.of hB F2 g2, ⟨K1.1, State.isArrayOf_alike al K1.2.1, K1.2.2, by rcases hcod with ⟨-, q, -⟩ | ⟨-, q, -⟩ <;> omega⟩, hcod, fun j hj => by
    have e : cs.getD j 0 = cs[j] := by simp [List.getD_eq_getElem?_getD, hj]
    show ¬ cs.getD j 0 < 0 ∧ ¬ 65535 < cs.getD j 0
    rw [e]; exact hb _ (List.getElem_mem _)⟩
  obtain ⟨v, B, X', ⟨⟨hv, hh⟩, hl, hk, hs⟩, st⟩ := Len.pays x t A cd cs.length (fun j => cs.getD j 0) z (tabLen_of (movedLen hZ hw)) hfr hlo m meth c P g ig mk _ X hg hsize hdg hW hn ⟨r1, r2, rfl, hx, sta_is al S, hz⟩
  exact ⟨v, B, X', ⟨[], ⟨hv, rfl, hh⟩, hl, hk, hs⟩, st⟩
end StrChars.Road
namespace StrChars.Road
open Jvm Sem ClassFile Op Lib Jvm.Stand Jvm.Free Jvm.Free.XT
open Jvm.Lib.Cold (StaticIs)
/-- the road's facts of a String, as the laws ask it -/
theorem txt_of {Z U : State} {a0 : Array Value} {kI : Nat} (wi : (Jvm.Cond.instantiable ST kI).before a0 Z = true) (al : Z.vm.Alike U.vm) {x t : Addr} {kb : ClassId} {cs : List Int32} {cd N2 : Int32} {vs : List Value} (E : RoadKit.Exa Z U.heap x ST) (V : RoadKit.Fld Z U.heap x ST "value" "[B" (.ref t)) (C : RoadKit.Fld Z U.heap x ST "coder" "B" (.int cd)) (K : RoadKit.Arv Z U.heap t kb .byte N2 vs (.int 0)) (hc : CodA cs cd N2 vs) (hb : ∀ c ∈ cs, ¬ c < 0 ∧ ¬ (65535 : Int32) < c) (l2 : cs.length ≤ 4000) :
    ∃ A, Txt x t A cd cs.length (fun j => cs.getD j 0) U := by
  obtain ⟨A, K1, K2, K3, K4, K5, K6⟩ := K
  have hcod := hc.cod (by omega) K3 K5
  obtain ⟨D, fV, fC, hB, F1, F2, g1, g2, -, -⟩ := strObj wi al E V C
  exact ⟨A, ⟨_, hB.2.2.1, D, hB.1, rfl, by cases q : D.vm <;> first | rfl | exact absurd q (hB.2.1.2 _)⟩, Has.of hB F1 g1, Has.of hB F2 g2, ⟨K1.1, State.isArrayOf_alike al K1.2.1, K1.2.2, by rcases hcod with ⟨-, q, -⟩ | ⟨-, q, -⟩ <;> omega⟩, hcod, fun j hj => by
    have e : cs.getD j 0 = cs[j] := by simp [List.getD_eq_getElem?_getD, hj]
    show ¬ cs.getD j 0 < 0 ∧ ¬ 65535 < cs.getD j 0
    rw [e]; exact hb _ (List.getElem_mem _)⟩
end StrChars.Road
namespace StrChars
open Jvm Sem ClassFile Op Lib Jvm.Stand Jvm.Free.XT Jvm.Free.ALB Jvm.Free.JM Jvm.Free
open Jvm.Lib.Cold (StaticIs)
namespace ChN
def yN : MethodName := ⟨"java/lang/String", "charAt", "(I)C"⟩
abbrev yB : ByteArray := jdk_42_method_56_code
theorem d0 : decode yB 0 = .ok (.aload_n 0, 1) := by decide +kernel
theorem d1 : decode yB 1 = .ok (.invokevirtual 492, 3) := by decide +kernel
theorem d4 : decode yB 4 = .ok (.ifCond (.eq) 12, 3) := by decide +kernel
theorem d7 : decode yB 7 = .ok (.aload_n 0, 1) := by decide +kernel
theorem d8 : decode yB 8 = .ok (.getfield 9, 3) := by decide +kernel
theorem d11 : decode yB 11 = .ok (.iload_n 1, 1) := by decide +kernel
theorem d12 : decode yB 12 = .ok (.invokestatic 495, 3) := by decide +kernel
theorem d15 : decode yB 15 = .ok (.ireturn, 1) := by decide +kernel
def site : List Cond := [.fieldLink "java/lang/String" 9 "java/lang/String" "value" "[B", IsL.tab, LChA.tab] ++ virtW "java/lang/String" 492 "java/lang/String" IsL.yN IsL.yN ++ staticW "java/lang/String" 495 LChA.yN
def tab : Cond := tabOf yN yB 2 (some .char) site
def P (x t : Addr) (V : Cell) (n : Nat) (f : Nat → Int32) (z : Int32) (fm : Value) (i : Nat) (args : Array Value) (s : State) : Prop := args = #[.ref x, .int (Int32.ofNat i)] ∧ Txt x t V 0 n f s ∧ i < n ∧ StaticIs s "java/lang/String" "COMPACT_STRINGS" "Z" (.int z) ∧ ¬ z = 0 ∧ StaticIs s "jdk/internal/util/Preconditions" "SIOOBE_FORMATTER" "Ljava/util/function/BiFunction;" fm ∧ fm.isRef = true
def E (f : Nat → Int32) (i : Nat) (r : Option Value) (s u : State) : Prop := XT.PureE (some (.int (f i))) r s u
/-- charAt(i) of a Latin-1 String of n chars, i < n: f i -/
theorem law (l : Launch) (x t : Addr) (V : Cell) (n : Nat) (f : Nat → Int32) (z : Int32) (fm : Value) (i : Nat) : Law l yN 2 1 3 40 yB 2 (some .char) site (P x t V n f z fm i) (E f i) [] 0 0 := by
  refine Law.of_walk (plainFor_of_name (by decide +kernel)) (by decide +kernel) (by decide +kernel) (by decide) (fun _ _ h => by rw [h.1]; rfl) (fun _ U U' hal hh h => ⟨h.1, h.2.1.mv hal hh, h.2.2.1, h.2.2.2.1.there hal hh, h.2.2.2.2.1, h.2.2.2.2.2.1.there hal hh, h.2.2.2.2.2.2⟩) (fun r U U' V V' h1 hal h2 h => XT.PureE.mv r U U' V V' h1 hal h2 h) ?_
  intro p e s m args below meth c s₁ X0 hexec hbytes hml hret hlk hnm hown hh0 W hP
  obtain ⟨rfl, hx, hi, s1, hz, s3, rf⟩ := hP
  have v31 := hx.2.2.2.1.2.2.2
  have hr := hx.2.2.2.2.2 i hi
  have hx0 := hx.mv X0.warmed.alike hh0
  have c1 : Steps p.tables e below (s₁.setTop (entryFrame m #[.ref x, .int (Int32.ofNat i)] 2)) (s₁.setTop (mkF m 1 #[.val (.ref x), .val (.int (Int32.ofNat i))] [.ref x])) := Steps.trans (entry rfl) (by
    show Steps p.tables e below (s₁.setTop (mkF m 0 #[.val (.ref x), .val (.int (Int32.ofNat i))] [])) _
    refine XS.aloadN X0.here hexec rfl (hb hbytes d0) rfl rfl ?_
    exact Steps.refl _)
  obtain ⟨v2, T2, X2, E2, g2⟩ := X0.callV hexec (IsL.law l x 0 z) hown (wks W (virtW "java/lang/String" 492 "java/lang/String" IsL.yN IsL.yN)) rfl (by decide) (wk W IsL.tab) (W := 0) (Nat.le_of_ble_eq_true rfl) (Nat.le_of_ble_eq_true rfl) (Nat.le_refl _) (Nat.le_refl _) (hx0.1.fc X0.warmed.alike) hx0.1.is (g := (mkF m 1 #[.val (.ref x), .val (.int (Int32.ofNat i))] [.ref x])) rfl (by rw [hml]; rfl) c1 (argsL := []) (rest := []) rfl rfl (by show 2 * 0 + 0 ≤ _; decide) (hb hbytes d1) (⟨rfl, hx0.2.2.1, hx.2.2.2.2.1.cd, s1.there X0.warmed.alike hh0, hz⟩)
  obtain ⟨rfl, q2⟩ := E2
  have hh2 := q2.trans hh0
  have hx2 := hx.mv X2.warmed.alike hh2
  obtain ⟨-, k1, k2⟩ | ⟨k0, -⟩ := hx.2.2.2.2.1
  · have c3 : Steps p.tables e below (s₁.setTop (entryFrame m #[.ref x, .int (Int32.ofNat i)] 2)) (T2.setTop (mkF m 8 #[.val (.ref x), .val (.int (Int32.ofNat i))] [.ref x])) := Steps.trans g2 (by
      refine XS.ifNo X2.here hexec rfl (hb hbytes d4) rfl (i0_eq_f (by decide)) ?_
      refine XS.aloadN X2.here hexec rfl (hb hbytes d7) rfl rfl ?_
      exact Steps.refl _)
    obtain ⟨T4, X4, q4, st4⟩ := X2.hget hexec hown (wk W (.fieldLink "java/lang/String" 9 "java/lang/String" "value" "[B")) hx2.2.1 (g := (mkF m 8 #[.val (.ref x), .val (.int (Int32.ofNat i))] [.ref x])) rfl (rest := []) rfl (hb hbytes d8)
    have hh4 := q4.trans hh2
    have c5 : Steps p.tables e below (s₁.setTop (entryFrame m #[.ref x, .int (Int32.ofNat i)] 2)) (T4.setTop (mkF m 12 #[.val (.ref x), .val (.int (Int32.ofNat i))] [.int (Int32.ofNat i), .ref t])) := (c3.trans (st4 _ (Steps.refl _))).trans (by
      refine XS.iloadN X4.here hexec rfl (hb hbytes d11) rfl ?_
      exact Steps.refl _)
    obtain ⟨v6, T6, X6, E6, g6⟩ := X4.callS hexec (LChA.law l t V i (lo8 (f i)) fm) hown (wks W (staticW "java/lang/String" 495 LChA.yN)) (wk W LChA.tab) (W := 0) (Nat.le_of_ble_eq_true rfl) (Nat.le_of_ble_eq_true rfl) (Nat.le_refl _) (Nat.le_refl _) (g := (mkF m 12 #[.val (.ref x), .val (.int (Int32.ofNat i))] [.int (Int32.ofNat i), .ref t])) rfl (by rw [hml]; rfl) c5 (argsL := [.ref t, .int (Int32.ofNat i)]) (rest := []) rfl rfl (by show 2 * 0 + 0 ≤ _; decide) (hb hbytes d12) (⟨rfl, hx.2.2.2.1.mv X4.warmed.alike hh4, (k2 i hi).1, s3.there X4.warmed.alike hh4, rf⟩)
    obtain ⟨rfl, q6⟩ := E6
    rw [chr8_lo8 hr.1 (k2 i hi).2] at g6
    exact ⟨T6, some (.int (f i)), _, _, _, X6, rfl, rfl, rfl, (fun h => by cases h), ⟨rfl, q6.trans hh4⟩, fun fs hl => Steps.trans g6 (X6.ireturnOut hexec hret (narrow_ch hr.1 hr.2) (Or.inr (Or.inr (Or.inr (Or.inl rfl)))) (hb hbytes d15) hl)⟩
  · exact absurd k0 (by decide)
theorem pays {l : Launch} {R : Room} {p : Program} {e : Env} {below : List Frame} {s : State} {sargs : Array Value} {len W : Nat} (x t : Addr) (V : Cell) (n : Nat) (f : Nat → Int32) (z : Int32) (fm : Value) (i : Nat) (htab : tab.before sargs s = true) (hfr : 4 ≤ R.frames) (hlo : W + 53 ≤ R.locals) :
    Back l R p e below s sargs yN len W (fun A₁ a₁ => A₁.cells + 0 ≤ R.cells ∧ A₁.slots + 0 ≤ R.slots ∧ P x t V n f z fm i a₁ A₁.U) (fun A₁ _ v₁ B₁ => E f i v₁ A₁.U B₁.U ∧ B₁.locs = A₁.locs ++ [] ∧ B₁.cells = A₁.cells + 0 ∧ B₁.slots = A₁.slots + 0) :=
  (law l x t V n f z fm i).pays htab hfr (by omega)
end ChN
end StrChars
namespace StrChars.Road
open Jvm Sem ClassFile Op Lib Jvm.Stand Jvm.Free Jvm.Free.XT
open Jvm.Lib.Cold (StaticIs)
/-- the words of String.charAt(int), the Latin-1 road alone -/
abbrev wordsChN : List Jvm.Cond := [.code ChN.yN ChN.yB 2 (some .char), .initialized ST, .fieldLink ST 9 ST "value" "[B", .fieldLink ST 38 ST "COMPACT_STRINGS" "Z", .fieldLink ST 15 ST "coder" "B", .code IsL.yN IsL.yB 1 (some .boolean), .methodLink ST 492 IsL.yN, .declares IsL.yN, .selects ST IsL.yN IsL.yN, .instanceMethod IsL.yN,
  .methodLink ST 495 LChA.yN, .static LChA.yN, .code LChA.yN LChA.yB 2 (some .char), .initialized "java/lang/StringLatin1", .methodLink "java/lang/StringLatin1" 9 JO.Str_checkIndex.yN, .static JO.Str_checkIndex.yN, .code JO.Str_checkIndex.yN JO.Str_checkIndex.yB 2 none,
  .fieldLink ST 1053 "jdk/internal/util/Preconditions" "SIOOBE_FORMATTER" "Ljava/util/function/BiFunction;", .methodLink ST 1059 JC.PreCheck.yN, .static JC.PreCheck.yN, .code JC.PreCheck.yN JC.PreCheck.yB 3 (some .int), .initialized "jdk/internal/util/Preconditions"]
theorem tabChN_of {a : Array Value} {s : State} (h : ∀ w ∈ wordsChN, w.before a s = true) : ChN.tab.before a s = true := by
  have hp : JC.PreCheck.tab.before a s = true := unparts (wk h (.code JC.PreCheck.yN JC.PreCheck.yB 3 (some .int))) (wks h (.initialized JC.PreCheck.yN.cls :: JC.PreCheck.site))
  have qk := consq hp h
  have hk : JO.Str_checkIndex.tab.before a s = true := unparts (wk qk (.code JO.Str_checkIndex.yN JO.Str_checkIndex.yB 2 none)) (wks qk (.initialized JO.Str_checkIndex.yN.cls :: JO.Str_checkIndex.site))
  have ql := consq hk h
  have hl : LChA.tab.before a s = true := unparts (wk ql (.code LChA.yN LChA.yB 2 (some .char))) (wks ql (.initialized LChA.yN.cls :: LChA.site))
  have hi : IsL.tab.before a s = true := unparts (wk h (.code IsL.yN IsL.yB 1 (some .boolean))) (wks h (.initialized IsL.yN.cls :: IsL.site))
  have q := consq hi (consq hl h)
  exact unparts (wk q (.code ChN.yN ChN.yB 2 (some .char))) (wks q (.initialized ChN.yN.cls :: ChN.site))
theorem movedChN {Z s : State} {a0 args : Array Value} (hZ : Z.Warmed39 s.vm) (hw : ∀ d ∈ wordsChN, d.before a0 Z = true) : ∀ d ∈ wordsChN, d.before args s = true := fun d hd => by
  have t : ∀ d ∈ wordsChN, (d.onTables && d.keepsFace) = true := by decide +kernel
  exact RoadKit.mv hZ (hw d hd) (t d hd)
/-- **charAt(i) OF A LATIN-1 STRING**, i < n: the char -/
theorem chN {p : Program} {l : Launch} {e : Env} {R : Room} {s : State} {args : Array Value} {below : List Frame} {len W : Nat} {Z : State} {a0 : Array Value} {h : Heap} (hZ : Z.Warmed39 s.vm) (hw : ∀ d ∈ wordsChN, d.before a0 Z = true) {kI : Nat} (wi : (Jvm.Cond.instantiable ST kI).before a0 Z = true)
    {x t : Addr} {kb : ClassId} {cs : List Int32} {N2 z : Int32} {vs : List Value} {fm : Value} {i : Nat} {j : Int32} (E : RoadKit.Exa Z h x ST) (V : RoadKit.Fld Z h x ST "value" "[B" (.ref t)) (C : RoadKit.Fld Z h x ST "coder" "B" (.int 0)) (K : RoadKit.Arv Z h t kb .byte N2 vs (.int 0)) (hc : CodA cs 0 N2 vs) (hb : ∀ c ∈ cs, ¬ c < 0 ∧ ¬ (65535 : Int32) < c)
    (S : RoadKit.Sta Z h ST "COMPACT_STRINGS" "Z" (.int z)) (hz : ¬ z = 0) (F : RoadKit.Sta Z h "jdk/internal/util/Preconditions" "SIOOBE_FORMATTER" "Ljava/util/function/BiFunction;" fm) (rf : fm.isRef = true) (l2 : cs.length ≤ 4000) (hi : i < cs.length) (hj : j = Int32.ofNat i) (hfr : 4 ≤ R.frames) (hlo : W + 53 ≤ R.locals) :
    Back l R p e below s args (⟨"java/lang/String", "charAt", "(I)C"⟩ : MethodName) len W (fun P a => a = #[.ref x, .int j] ∧ P.U.heap = h ∧ P.cells + 0 ≤ R.cells ∧ P.slots + 0 ≤ R.slots)
      (fun P _ v B => ∃ L, (v = some (.int (cs.getD i 0)) ∧ L = [] ∧ B.U.heap = h) ∧ B.locs = P.locs ++ L ∧ B.cells = P.cells + 0 ∧ B.slots = P.slots + 0) := by
  subst hj
  intro m meth c P g ig mk a X hg hsize hdg hW hn hp'
  obtain ⟨rfl, rfl, r1, r2⟩ := hp'
  have al : Z.vm.Alike P.U.vm := hZ.alike.trans X.warmed.alike
  obtain ⟨A, hx⟩ := txt_of wi al E V C K hc hb l2
  obtain ⟨v, B, X', ⟨⟨hv, hh⟩, hl, hk, hs⟩, st⟩ := ChN.pays x t A cs.length (fun j => cs.getD j 0) z fm i (tabChN_of (movedChN hZ hw)) hfr hlo m meth c P g ig mk _ X hg hsize hdg hW hn ⟨r1, r2, rfl, hx, hi, sta_is al S, hz, sta_is al F, rf⟩
  exact ⟨v, B, X', ⟨[], ⟨hv, rfl, hh⟩, hl, hk, hs⟩, st⟩
/-- what backV says of its String, as the contracts of this text ask it: cs's low bytes, coder 0 -/
theorem codOf {cs : List Int32} {n : Nat} (hn : cs.length = n) (hb : ∀ c ∈ cs, ¬ 255 < c) : CodA cs 0 (Int32.ofNat n) ((cs.map lo8).map Value.int) := Or.inl ⟨rfl, by rw [hn], by simp [List.map_map, Function.comp_def], hb⟩
end StrChars.Road
end Jvm.Pilot.@@N@@
namespace Jvm.Pilot.@@N@@
open Jvm Jvm.ClassFile Sem Op Lib Jvm.Free Jvm.Stand Jvm.LawKit Jvm.RoadKit Bundle Jvm.Pilot.@@N@@.Jvm.D
theorem own_and (x m : Int32) (k : Nat) (hk : k < 32) (hm : m.toBitVec.toNat = 2 ^ k - 1) : x &&& m = Int32.ofNat (x.toBitVec.toNat % 2 ^ k) := by
  apply Int32.toBitVec_inj.mp
  apply BitVec.eq_of_toNat_eq
  show (x.toBitVec &&& m.toBitVec).toNat = (x.toBitVec.toNat % 2 ^ k) % 2 ^ 32
  have hp : 2 ^ k ≤ 2 ^ 32 := Nat.pow_le_pow_right (by decide) (by omega)
  have hq : x.toBitVec.toNat % 2 ^ k < 2 ^ k := Nat.mod_lt _ (Nat.two_pow_pos k)
  rw [BitVec.toNat_and, hm, Nat.and_two_pow_sub_one_eq_mod, Nat.mod_eq_of_lt (Nat.lt_of_lt_of_le hq hp)]
theorem own_ofNat {n : Nat} (h : n < 2 ^ 31) : (Int32.ofNat n).toInt = n := Int32.toInt_ofNat_of_lt h
theorem own_rem {n k : Nat} (h : n < 2 ^ 31) (hk : 0 < k) (hk2 : k < 2 ^ 31) : Int32.ofNat n % Int32.ofNat k = Int32.ofNat (n % k) := by
  apply Int32.toInt_inj.mp
  have : n % k < k := Nat.mod_lt _ hk
  rw [Int32.toInt_mod, own_ofNat h, own_ofNat hk2, own_ofNat (by omega), Int.tmod_eq_emod_of_nonneg (by omega)]
  rfl
theorem own_bmod {n : Int} (h1 : -2 ^ 31 ≤ n) (h2 : n < 2 ^ 31) : n.bmod (2 ^ 32) = n := by
  rw [Int.bmod_def]; omega
theorem own_remE {n k : Nat} (h : n < 2 ^ 31) (hk : 0 < k) (hk2 : k < 2 ^ 31) : Int32.ofNat n - ((Int32.ofNat n / Int32.ofNat k) * Int32.ofNat k) = Int32.ofNat (n % k) := by
  apply Int32.toInt_inj.mp
  have h3 : n % k < k := Nat.mod_lt _ hk
  have h4 : n / k ≤ n := Nat.div_le_self _ _
  have h5 : (n / k) * k + n % k = n := Nat.div_add_mod' n k
  have e0 : (n : Int).tdiv (k : Int) = ((n / k : Nat) : Int) := rfl
  generalize n / k = d at *
  generalize n % k = r at *
  have e1 : (Int32.ofNat n / Int32.ofNat k).toInt = (d : Int) := by
    rw [Int32.toInt_div, own_ofNat h, own_ofNat hk2, e0]
    exact own_bmod (by omega) (by omega)
  have e2 : ((Int32.ofNat n / Int32.ofNat k) * Int32.ofNat k).toInt = ((d * k : Nat) : Int) := by
    rw [Int32.toInt_mul, e1, own_ofNat hk2, ← Int.natCast_mul]
    exact own_bmod (by omega) (by omega)
  rw [Int32.toInt_sub, e2, own_ofNat h, own_ofNat (by omega), own_bmod (by omega) (by omega)]
  omega
theorem own_and255 (x : Int32) : ¬ (x &&& 255) < 0 ∧ ¬ (255 : Int32) < (x &&& 255) := by
  rw [own_and x 255 8 (by decide) (by decide)]
  have h : x.toBitVec.toNat % 2 ^ 8 < 256 := Nat.mod_lt _ (by decide)
  generalize x.toBitVec.toNat % 2 ^ 8 = n at h
  have c0 : (0 : Int32).toInt = 0 := rfl
  have c1 : (255 : Int32).toInt = 255 := rfl
  rw [Int32.lt_iff_toInt_lt, Int32.lt_iff_toInt_lt, own_ofNat (by omega), c0, c1]
  omega
theorem own_lt_len {k n : Nat} (h : Int32.ofNat k < Int32.ofNat n) (hk : k < 2 ^ 31) (hn : n ≤ 4000) : k < n := by
  rw [Int32.lt_iff_toInt_lt, own_ofNat hk, own_ofNat (by omega)] at h; omega
theorem own_up {cs : List Int32} (h : ∀ c ∈ cs, ¬ c < 0 ∧ ¬ (255 : Int32) < c) : ∀ c ∈ cs, ¬ c < 0 ∧ ¬ (65535 : Int32) < c := fun c hc => by
  obtain ⟨h1, h2⟩ := h c hc
  refine ⟨h1, ?_⟩
  rw [Int32.lt_iff_toInt_lt] at *
  have c1 : (255 : Int32).toInt = 255 := rfl
  have c2 : (65535 : Int32).toInt = 65535 := rfl
  omega
theorem own_words {Z : State} {a0 : Array Value} (hw : ∀ d ∈ tables_1, d.before a0 Z = true) : ∀ d ∈ StrChars.Road.words, d.before a0 Z = true := fun d hd => hw d ((by decide +kernel : ∀ d ∈ StrChars.Road.words, d ∈ tables_1) d hd)
theorem own_atoms {Z : State} {a0 : Array Value} (hw : ∀ d ∈ tables_1, d.before a0 Z = true) : ∀ a ∈ Bundle.stringAtoms, a.before a0 Z = true := fun d hd => by
  simp only [Bundle.stringAtoms, List.mem_cons, List.not_mem_nil, or_false] at hd
  rcases hd with rfl | rfl | rfl | rfl | rfl | rfl | rfl
  · exact (hw _ (List.mem_of_getElem? (i := 9) rfl))
  · exact (hw _ (List.mem_of_getElem? (i := 8) rfl))
  · exact (hw _ (List.mem_of_getElem? (i := 22) rfl))
  · exact (hw _ (List.mem_of_getElem? (i := 23) rfl))
  · exact (hw _ (List.mem_of_getElem? (i := 24) rfl))
  · exact (hw _ (List.mem_of_getElem? (i := 25) rfl))
  · exact (hw _ (List.mem_of_getElem? (i := 26) rfl))
def own_ELs : List (String × Nat) := [("java/lang/String", 7)]
theorem own_EL {Z : State} {a0 : Array Value} (hw : ∀ d ∈ tables_1, d.before a0 Z = true) : EW Z a0 own_ELs := (EW.cons (text := "") (hw _ (List.mem_of_getElem? (i := 21) rfl)) (by decide) EW.nil)
theorem own_wordsLen {Z : State} {a0 : Array Value} (hw : ∀ d ∈ tables_1, d.before a0 Z = true) : ∀ d ∈ StrChars.Road.wordsLen, d.before a0 Z = true := fun d hd => hw d ((by decide +kernel : ∀ d ∈ StrChars.Road.wordsLen, d ∈ tables_1) d hd)
theorem own_wordsCh {Z : State} {a0 : Array Value} (hw : ∀ d ∈ tables_1, d.before a0 Z = true) : ∀ d ∈ StrChars.Road.wordsChN, d.before a0 Z = true := fun d hd => hw d ((by decide +kernel : ∀ d ∈ StrChars.Road.wordsChN, d ∈ tables_1) d hd)
theorem d_draw_0 : decode method_3_code 0 = .ok (.iload_n 0, 1) := by decide +kernel
theorem d_draw_1 : decode method_3_code 1 = .ok (.sipush 511, 3) := by decide +kernel
theorem d_draw_4 : decode method_3_code 4 = .ok (.iand, 1) := by decide +kernel
theorem d_draw_5 : decode method_3_code 5 = .ok (.istore_n 1, 1) := by decide +kernel
theorem d_draw_6 : decode method_3_code 6 = .ok (.iload_n 1, 1) := by decide +kernel
theorem d_draw_7 : decode method_3_code 7 = .ok (.sipush 256, 3) := by decide +kernel
theorem d_draw_10 : decode method_3_code 10 = .ok (.if_icmp .ge 6, 3) := by decide +kernel
theorem d_draw_13 : decode method_3_code 13 = .ok (.iload_n 1, 1) := by decide +kernel
theorem d_draw_14 : decode method_3_code 14 = .ok (.i2c, 1) := by decide +kernel
theorem d_draw_15 : decode method_3_code 15 = .ok (.ireturn, 1) := by decide +kernel
theorem d_draw_16 : decode method_3_code 16 = .ok (.iload_n 1, 1) := by decide +kernel
theorem d_draw_17 : decode method_3_code 17 = .ok (.iconst 3, 1) := by decide +kernel
theorem d_draw_18 : decode method_3_code 18 = .ok (.iand, 1) := by decide +kernel
theorem d_draw_19 : decode method_3_code 19 = .ok (.istore_n 2, 1) := by decide +kernel
theorem d_draw_20 : decode method_3_code 20 = .ok (.iload_n 2, 1) := by decide +kernel
theorem d_draw_21 : decode method_3_code 21 = .ok (.ifCond .ne 6, 3) := by decide +kernel
theorem d_draw_24 : decode method_3_code 24 = .ok (.bipush 97, 2) := by decide +kernel
theorem d_draw_26 : decode method_3_code 26 = .ok (.ireturn, 1) := by decide +kernel
theorem d_draw_27 : decode method_3_code 27 = .ok (.iload_n 2, 1) := by decide +kernel
theorem d_draw_28 : decode method_3_code 28 = .ok (.iconst 1, 1) := by decide +kernel
theorem d_draw_29 : decode method_3_code 29 = .ok (.if_icmp .ne 6, 3) := by decide +kernel
theorem d_draw_32 : decode method_3_code 32 = .ok (.bipush 98, 2) := by decide +kernel
theorem d_draw_34 : decode method_3_code 34 = .ok (.ireturn, 1) := by decide +kernel
theorem d_draw_35 : decode method_3_code 35 = .ok (.iload_n 2, 1) := by decide +kernel
theorem d_draw_36 : decode method_3_code 36 = .ok (.iconst 2, 1) := by decide +kernel
theorem d_draw_37 : decode method_3_code 37 = .ok (.if_icmp .ne 6, 3) := by decide +kernel
theorem d_draw_40 : decode method_3_code 40 = .ok (.bipush 42, 2) := by decide +kernel
theorem d_draw_42 : decode method_3_code 42 = .ok (.ireturn, 1) := by decide +kernel
theorem d_draw_43 : decode method_3_code 43 = .ok (.bipush 63, 2) := by decide +kernel
theorem d_draw_45 : decode method_3_code 45 = .ok (.ireturn, 1) := by decide +kernel
theorem pn_0 : plainName "com/example/fieldveil/fieldveil/WildcardMatchesSomeTextStartingWithPinLaw" = true := by first | (simp [plainName, overriddenIn]; done) | decide +kernel
theorem ef_draw (m : MethodId) (x0 : Int32) : entryFrame m #[(.int x0)] 3 = mkF m 0 #[.val (.int x0), .unset, .unset] [] := by first | (simp [entryFrame, mkF, argsToLocals, Value.category]; done) | rfl
def f_draw (p0 : Int32) : Int32 := (if (p0 &&& (511 : Int32)) < (256 : Int32) then (nar .char ((p0 &&& (511 : Int32)).toUInt32.toUInt16.toUInt32.toInt32)) else (if ((p0 &&& (511 : Int32)) &&& (3 : Int32)) = (0 : Int32) then (97 : Int32) else (if ((p0 &&& (511 : Int32)) &&& (3 : Int32)) = (1 : Int32) then (98 : Int32) else (if ((p0 &&& (511 : Int32)) &&& (3 : Int32)) = (2 : Int32) then (42 : Int32) else (63 : Int32)))))
def Q_draw (Z : State) (p0 : Int32) (h0 : Heap) (n0 : Nat) (v : Option Value) (h : Heap) (L : List Loc) : Prop := v = some (.int (f_draw p0)) ∧ Fr n0 L ∧ h = h0
set_option maxRecDepth 65536 in
set_option maxHeartbeats 40000000 in
theorem rm_draw (l : Launch) (Z : State) (a0 : Array Value) (hw : ∀ d ∈ tables_1, d.before a0 Z = true) (ws : List Jvm.Cond) (p0 : Int32) (h0 : Heap) (n0 : Nat) (Z0 : n0 ≤ h0.size) :
    MetFree l (⟨"com/example/fieldveil/fieldveil/WildcardMatchesSomeTextStartingWithPinLaw", "draw", "(I)C"⟩ : MethodName) (head1 (Jvm.Cond.code (⟨"com/example/fieldveil/fieldveil/WildcardMatchesSomeTextStartingWithPinLaw", "draw", "(I)C"⟩ : MethodName) method_3_code 3 (some .char) :: ws) ({ frames := 0, cells := 0, slots := 0, locals := 0 } : Room)) (fun a U => a = #[(.int p0)] ∧ Z.Warmed39 U.vm ∧ U.heap = h0) (fun _ _ _ _ _ => True) (fun _ U o U' => ∃ v L, o = .returned v ∧ Q_draw Z p0 h0 n0 v U'.heap L ∧ FrameEnd U o U' L ({ frames := 0, cells := 0, slots := 0, locals := 0 } : Room).cells ({ frames := 0, cells := 0, slots := 0, locals := 0 } : Room).slots) := by
  refine MetFree.of_bodySF (plainFor_of_name pn_0) hisR ?_
  intro p e s m args below meth c s₁ Bd hml0 hP hK
  obtain ⟨rfl, hZ, hh⟩ := hP
  have hx := Bd.exec
  have hby := Bd.bytes
  have hml : c.maxLocals = 3 := hml0
  have hown : s.vm.findClass "com/example/fieldveil/fieldveil/WildcardMatchesSomeTextStartingWithPinLaw" = some m.cls := findClass_of_methodNamed Bd.named
  have hnm := (name_of_methodNamed Bd.named Bd.method).1
  have X0 : Stand p l e ({ frames := 0, cells := 0, slots := 0, locals := 0 } : Room) s m #[(.int p0)] below meth c s₁ [] 0 0 := Stand.of_body Bd
  have e0 : s₁.heap = h0 := by rw [← hh, Bd.state]; rfl
  have N0 := Fr.nil n0
  have pre0 : ∀ t, Steps p.tables e below (s₁.setTop (mkF m 0 #[.val (.int p0), .unset, .unset] [])) t → Steps p.tables e below (s₁.setTop (entryFrame m #[(.int p0)] 3)) t := fun t k => castTop (ef_draw m p0) k
  have k1 : Go p.tables e below (s₁.setTop (mkF m 0 #[.val (.int p0), .unset, .unset] [])) (s₁.setTop (mkF m 10 #[.val (.int p0), .val (.int (p0 &&& (511 : Int32))), .unset] [(.int (256 : Int32)), (.int (p0 &&& (511 : Int32)))])) := by
    intro t ht
    refine XS.iloadN X0.here hx rfl (hb hby d_draw_0) rfl ?_
    show Steps p.tables e below (s₁.setTop (mkF m 1 #[.val (.int p0), .unset, .unset] [(.int p0)])) _
    refine XS.sipush X0.here hx rfl (hb hby d_draw_1) ?_
    show Steps p.tables e below (s₁.setTop (mkF m 4 #[.val (.int p0), .unset, .unset] [(.int (511 : Int32)), (.int p0)])) _
    refine XS.iand X0.here hx rfl (hb hby d_draw_4) rfl ?_
    show Steps p.tables e below (s₁.setTop (mkF m 5 #[.val (.int p0), .unset, .unset] [(.int (p0 &&& (511 : Int32)))])) _
    refine XS.istoreN X0.here hx rfl (hb hby d_draw_5) rfl (l' := #[.val (.int p0), .val (.int (p0 &&& (511 : Int32))), .unset]) rfl ?_
    show Steps p.tables e below (s₁.setTop (mkF m 6 #[.val (.int p0), .val (.int (p0 &&& (511 : Int32))), .unset] [])) _
    refine XS.iloadN X0.here hx rfl (hb hby d_draw_6) rfl ?_
    show Steps p.tables e below (s₁.setTop (mkF m 7 #[.val (.int p0), .val (.int (p0 &&& (511 : Int32))), .unset] [(.int (p0 &&& (511 : Int32)))])) _
    refine XS.sipush X0.here hx rfl (hb hby d_draw_7) ?_
    exact ht
  by_cases hc2 : (p0 &&& (511 : Int32)) < (256 : Int32)
  · have k3 : Go p.tables e below (s₁.setTop (mkF m 10 #[.val (.int p0), .val (.int (p0 &&& (511 : Int32))), .unset] [(.int (256 : Int32)), (.int (p0 &&& (511 : Int32)))])) (s₁.setTop (mkF m 15 #[.val (.int p0), .val (.int (p0 &&& (511 : Int32))), .unset] [(.int ((p0 &&& (511 : Int32)).toUInt32.toUInt16.toUInt32.toInt32))])) := by
      intro t ht
      refine XS.icmpNo X0.here hx rfl (hb hby d_draw_10) rfl (tlt hc2).2.1 ?_
      show Steps p.tables e below (s₁.setTop (mkF m 13 #[.val (.int p0), .val (.int (p0 &&& (511 : Int32))), .unset] [])) _
      refine XS.iloadN X0.here hx rfl (hb hby d_draw_13) rfl ?_
      show Steps p.tables e below (s₁.setTop (mkF m 14 #[.val (.int p0), .val (.int (p0 &&& (511 : Int32))), .unset] [(.int (p0 &&& (511 : Int32)))])) _
      refine XS.i2c X0.here hx rfl (hb hby d_draw_14) rfl ?_
      exact ht
    obtain ⟨fs, hr, hrun, hended, hW, hsame⟩ := X0.leave (v := some (.int (nar .char ((p0 &&& (511 : Int32)).toUInt32.toUInt16.toUInt32.toInt32)))) (fun h => by rw [Bd.returns] at h; cases h)
    refine ⟨_, _, pre0 _ ((goT k1 k3) _ (retN X0 hx (t := .char) Bd.returns (by simp) (hb hby d_draw_15) hr)), hrun, hended, _, _, rfl, ?_, ⟨_, rfl⟩, hW, hsame.mono (by decide) (by decide)⟩
    show Q_draw Z p0 h0 n0 _ s₁.heap _
    rw [e0]
    exact ⟨by simp only [f_draw, if_pos hc2], N0, rfl⟩
  · have k4 : Go p.tables e below (s₁.setTop (mkF m 10 #[.val (.int p0), .val (.int (p0 &&& (511 : Int32))), .unset] [(.int (256 : Int32)), (.int (p0 &&& (511 : Int32)))])) (s₁.setTop (mkF m 21 #[.val (.int p0), .val (.int (p0 &&& (511 : Int32))), .val (.int ((p0 &&& (511 : Int32)) &&& (3 : Int32)))] [(.int ((p0 &&& (511 : Int32)) &&& (3 : Int32)))])) := by
      intro t ht
      refine XS.icmpYes X0.here hx rfl (pc0 := 10) (pc' := 16) rfl (hb hby d_draw_10) rfl (flt hc2).2.1 (by decide) (by decide) ?_
      show Steps p.tables e below (s₁.setTop (mkF m 16 #[.val (.int p0), .val (.int (p0 &&& (511 : Int32))), .unset] [])) _
      refine XS.iloadN X0.here hx rfl (hb hby d_draw_16) rfl ?_
      show Steps p.tables e below (s₁.setTop (mkF m 17 #[.val (.int p0), .val (.int (p0 &&& (511 : Int32))), .unset] [(.int (p0 &&& (511 : Int32)))])) _
      refine XS.iconst X0.here hx rfl (hb hby d_draw_17) ?_
      show Steps p.tables e below (s₁.setTop (mkF m 18 #[.val (.int p0), .val (.int (p0 &&& (511 : Int32))), .unset] [(.int (3 : Int32)), (.int (p0 &&& (511 : Int32)))])) _
      refine XS.iand X0.here hx rfl (hb hby d_draw_18) rfl ?_
      show Steps p.tables e below (s₁.setTop (mkF m 19 #[.val (.int p0), .val (.int (p0 &&& (511 : Int32))), .unset] [(.int ((p0 &&& (511 : Int32)) &&& (3 : Int32)))])) _
      refine XS.istoreN X0.here hx rfl (hb hby d_draw_19) rfl (l' := #[.val (.int p0), .val (.int (p0 &&& (511 : Int32))), .val (.int ((p0 &&& (511 : Int32)) &&& (3 : Int32)))]) rfl ?_
      show Steps p.tables e below (s₁.setTop (mkF m 20 #[.val (.int p0), .val (.int (p0 &&& (511 : Int32))), .val (.int ((p0 &&& (511 : Int32)) &&& (3 : Int32)))] [])) _
      refine XS.iloadN X0.here hx rfl (hb hby d_draw_20) rfl ?_
      exact ht
    by_cases hc5 : ((p0 &&& (511 : Int32)) &&& (3 : Int32)) = (0 : Int32)
    · have k6 : Go p.tables e below (s₁.setTop (mkF m 21 #[.val (.int p0), .val (.int (p0 &&& (511 : Int32))), .val (.int ((p0 &&& (511 : Int32)) &&& (3 : Int32)))] [(.int ((p0 &&& (511 : Int32)) &&& (3 : Int32)))])) (s₁.setTop (mkF m 26 #[.val (.int p0), .val (.int (p0 &&& (511 : Int32))), .val (.int ((p0 &&& (511 : Int32)) &&& (3 : Int32)))] [(.int (97 : Int32))])) := by
        intro t ht
        refine XS.ifNo X0.here hx rfl (hb hby d_draw_21) rfl ((if0 _ _).trans (teq hc5).2) ?_
        show Steps p.tables e below (s₁.setTop (mkF m 24 #[.val (.int p0), .val (.int (p0 &&& (511 : Int32))), .val (.int ((p0 &&& (511 : Int32)) &&& (3 : Int32)))] [])) _
        refine XS.bipush X0.here hx rfl (hb hby d_draw_24) ?_
        exact ht
      obtain ⟨fs, hr, hrun, hended, hW, hsame⟩ := X0.leave (v := some (.int (97 : Int32))) (fun h => by rw [Bd.returns] at h; cases h)
      refine ⟨_, _, pre0 _ ((goT k1 (goT k4 k6)) _ (retN X0 hx (t := .char) Bd.returns (by simp) (hb hby d_draw_26) hr)), hrun, hended, _, _, rfl, ?_, ⟨_, rfl⟩, hW, hsame.mono (by decide) (by decide)⟩
      show Q_draw Z p0 h0 n0 _ s₁.heap _
      rw [e0]
      exact ⟨by simp only [f_draw, if_neg hc2, if_pos hc5], N0, rfl⟩
    · have k7 : Go p.tables e below (s₁.setTop (mkF m 21 #[.val (.int p0), .val (.int (p0 &&& (511 : Int32))), .val (.int ((p0 &&& (511 : Int32)) &&& (3 : Int32)))] [(.int ((p0 &&& (511 : Int32)) &&& (3 : Int32)))])) (s₁.setTop (mkF m 29 #[.val (.int p0), .val (.int (p0 &&& (511 : Int32))), .val (.int ((p0 &&& (511 : Int32)) &&& (3 : Int32)))] [(.int (1 : Int32)), (.int ((p0 &&& (511 : Int32)) &&& (3 : Int32)))])) := by
        intro t ht
        refine XS.ifYes X0.here hx rfl (pc0 := 21) (pc' := 27) rfl (hb hby d_draw_21) rfl ((if0 _ _).trans (feq hc5).2) (by decide) (by decide) ?_
        show Steps p.tables e below (s₁.setTop (mkF m 27 #[.val (.int p0), .val (.int (p0 &&& (511 : Int32))), .val (.int ((p0 &&& (511 : Int32)) &&& (3 : Int32)))] [])) _
        refine XS.iloadN X0.here hx rfl (hb hby d_draw_27) rfl ?_
        show Steps p.tables e below (s₁.setTop (mkF m 28 #[.val (.int p0), .val (.int (p0 &&& (511 : Int32))), .val (.int ((p0 &&& (511 : Int32)) &&& (3 : Int32)))] [(.int ((p0 &&& (511 : Int32)) &&& (3 : Int32)))])) _
        refine XS.iconst X0.here hx rfl (hb hby d_draw_28) ?_
        exact ht
      by_cases hc8 : ((p0 &&& (511 : Int32)) &&& (3 : Int32)) = (1 : Int32)
      · have k9 : Go p.tables e below (s₁.setTop (mkF m 29 #[.val (.int p0), .val (.int (p0 &&& (511 : Int32))), .val (.int ((p0 &&& (511 : Int32)) &&& (3 : Int32)))] [(.int (1 : Int32)), (.int ((p0 &&& (511 : Int32)) &&& (3 : Int32)))])) (s₁.setTop (mkF m 34 #[.val (.int p0), .val (.int (p0 &&& (511 : Int32))), .val (.int ((p0 &&& (511 : Int32)) &&& (3 : Int32)))] [(.int (98 : Int32))])) := by
          intro t ht
          refine XS.icmpNo X0.here hx rfl (hb hby d_draw_29) rfl (teq hc8).2 ?_
          show Steps p.tables e below (s₁.setTop (mkF m 32 #[.val (.int p0), .val (.int (p0 &&& (511 : Int32))), .val (.int ((p0 &&& (511 : Int32)) &&& (3 : Int32)))] [])) _
          refine XS.bipush X0.here hx rfl (hb hby d_draw_32) ?_
          exact ht
        obtain ⟨fs, hr, hrun, hended, hW, hsame⟩ := X0.leave (v := some (.int (98 : Int32))) (fun h => by rw [Bd.returns] at h; cases h)
        refine ⟨_, _, pre0 _ ((goT k1 (goT k4 (goT k7 k9))) _ (retN X0 hx (t := .char) Bd.returns (by simp) (hb hby d_draw_34) hr)), hrun, hended, _, _, rfl, ?_, ⟨_, rfl⟩, hW, hsame.mono (by decide) (by decide)⟩
        show Q_draw Z p0 h0 n0 _ s₁.heap _
        rw [e0]
        exact ⟨by simp only [f_draw, if_neg hc2, if_neg hc5, if_pos hc8], N0, rfl⟩
      · have k10 : Go p.tables e below (s₁.setTop (mkF m 29 #[.val (.int p0), .val (.int (p0 &&& (511 : Int32))), .val (.int ((p0 &&& (511 : Int32)) &&& (3 : Int32)))] [(.int (1 : Int32)), (.int ((p0 &&& (511 : Int32)) &&& (3 : Int32)))])) (s₁.setTop (mkF m 37 #[.val (.int p0), .val (.int (p0 &&& (511 : Int32))), .val (.int ((p0 &&& (511 : Int32)) &&& (3 : Int32)))] [(.int (2 : Int32)), (.int ((p0 &&& (511 : Int32)) &&& (3 : Int32)))])) := by
          intro t ht
          refine XS.icmpYes X0.here hx rfl (pc0 := 29) (pc' := 35) rfl (hb hby d_draw_29) rfl (feq hc8).2 (by decide) (by decide) ?_
          show Steps p.tables e below (s₁.setTop (mkF m 35 #[.val (.int p0), .val (.int (p0 &&& (511 : Int32))), .val (.int ((p0 &&& (511 : Int32)) &&& (3 : Int32)))] [])) _
          refine XS.iloadN X0.here hx rfl (hb hby d_draw_35) rfl ?_
          show Steps p.tables e below (s₁.setTop (mkF m 36 #[.val (.int p0), .val (.int (p0 &&& (511 : Int32))), .val (.int ((p0 &&& (511 : Int32)) &&& (3 : Int32)))] [(.int ((p0 &&& (511 : Int32)) &&& (3 : Int32)))])) _
          refine XS.iconst X0.here hx rfl (hb hby d_draw_36) ?_
          exact ht
        by_cases hc11 : ((p0 &&& (511 : Int32)) &&& (3 : Int32)) = (2 : Int32)
        · have k12 : Go p.tables e below (s₁.setTop (mkF m 37 #[.val (.int p0), .val (.int (p0 &&& (511 : Int32))), .val (.int ((p0 &&& (511 : Int32)) &&& (3 : Int32)))] [(.int (2 : Int32)), (.int ((p0 &&& (511 : Int32)) &&& (3 : Int32)))])) (s₁.setTop (mkF m 42 #[.val (.int p0), .val (.int (p0 &&& (511 : Int32))), .val (.int ((p0 &&& (511 : Int32)) &&& (3 : Int32)))] [(.int (42 : Int32))])) := by
            intro t ht
            refine XS.icmpNo X0.here hx rfl (hb hby d_draw_37) rfl (teq hc11).2 ?_
            show Steps p.tables e below (s₁.setTop (mkF m 40 #[.val (.int p0), .val (.int (p0 &&& (511 : Int32))), .val (.int ((p0 &&& (511 : Int32)) &&& (3 : Int32)))] [])) _
            refine XS.bipush X0.here hx rfl (hb hby d_draw_40) ?_
            exact ht
          obtain ⟨fs, hr, hrun, hended, hW, hsame⟩ := X0.leave (v := some (.int (42 : Int32))) (fun h => by rw [Bd.returns] at h; cases h)
          refine ⟨_, _, pre0 _ ((goT k1 (goT k4 (goT k7 (goT k10 k12)))) _ (retN X0 hx (t := .char) Bd.returns (by simp) (hb hby d_draw_42) hr)), hrun, hended, _, _, rfl, ?_, ⟨_, rfl⟩, hW, hsame.mono (by decide) (by decide)⟩
          show Q_draw Z p0 h0 n0 _ s₁.heap _
          rw [e0]
          exact ⟨by simp only [f_draw, if_neg hc2, if_neg hc5, if_neg hc8, if_pos hc11], N0, rfl⟩
        · have k13 : Go p.tables e below (s₁.setTop (mkF m 37 #[.val (.int p0), .val (.int (p0 &&& (511 : Int32))), .val (.int ((p0 &&& (511 : Int32)) &&& (3 : Int32)))] [(.int (2 : Int32)), (.int ((p0 &&& (511 : Int32)) &&& (3 : Int32)))])) (s₁.setTop (mkF m 45 #[.val (.int p0), .val (.int (p0 &&& (511 : Int32))), .val (.int ((p0 &&& (511 : Int32)) &&& (3 : Int32)))] [(.int (63 : Int32))])) := by
            intro t ht
            refine XS.icmpYes X0.here hx rfl (pc0 := 37) (pc' := 43) rfl (hb hby d_draw_37) rfl (feq hc11).2 (by decide) (by decide) ?_
            show Steps p.tables e below (s₁.setTop (mkF m 43 #[.val (.int p0), .val (.int (p0 &&& (511 : Int32))), .val (.int ((p0 &&& (511 : Int32)) &&& (3 : Int32)))] [])) _
            refine XS.bipush X0.here hx rfl (hb hby d_draw_43) ?_
            exact ht
          obtain ⟨fs, hr, hrun, hended, hW, hsame⟩ := X0.leave (v := some (.int (63 : Int32))) (fun h => by rw [Bd.returns] at h; cases h)
          refine ⟨_, _, pre0 _ ((goT k1 (goT k4 (goT k7 (goT k10 k13)))) _ (retN X0 hx (t := .char) Bd.returns (by simp) (hb hby d_draw_45) hr)), hrun, hended, _, _, rfl, ?_, ⟨_, rfl⟩, hW, hsame.mono (by decide) (by decide)⟩
          show Q_draw Z p0 h0 n0 _ s₁.heap _
          rw [e0]
          exact ⟨by simp only [f_draw, if_neg hc2, if_neg hc5, if_neg hc8, if_neg hc11], N0, rfl⟩
theorem d_initE2_0 : decode jdk_42_method_149_code 0 = .ok (.aload_n 0, 1) := by decide +kernel
theorem d_initE2_1 : decode jdk_42_method_149_code 1 = .ok (.invokespecial 1, 3) := by decide +kernel
theorem d_initE2_4 : decode jdk_42_method_149_code 4 = .ok (.iload_n 3, 1) := by decide +kernel
theorem d_initE2_5 : decode jdk_42_method_149_code 5 = .ok (.ifCond .ne 22, 3) := by decide +kernel
theorem d_initE2_8 : decode jdk_42_method_149_code 8 = .ok (.aload_n 0, 1) := by decide +kernel
theorem d_initE2_9 : decode jdk_42_method_149_code 9 = .ok (.ldc 7, 2) := by decide +kernel
theorem d_initE2_11 : decode jdk_42_method_149_code 11 = .ok (.getfield 9, 3) := by decide +kernel
theorem d_initE2_14 : decode jdk_42_method_149_code 14 = .ok (.putfield 9, 3) := by decide +kernel
theorem d_initE2_17 : decode jdk_42_method_149_code 17 = .ok (.aload_n 0, 1) := by decide +kernel
theorem d_initE2_18 : decode jdk_42_method_149_code 18 = .ok (.ldc 7, 2) := by decide +kernel
theorem d_initE2_20 : decode jdk_42_method_149_code 20 = .ok (.getfield 15, 3) := by decide +kernel
theorem d_initE2_23 : decode jdk_42_method_149_code 23 = .ok (.putfield 15, 3) := by decide +kernel
theorem d_initE2_26 : decode jdk_42_method_149_code 26 = .ok (.return_, 1) := by decide +kernel
theorem pn_1 : plainName "java/lang/String" = true := by first | (simp [plainName, overriddenIn]; done) | decide +kernel
theorem ef_initE2 (m : MethodId) (x0 : Addr) (x1 : Addr) : entryFrame m #[(.ref x0), (.ref x1), (.int (0 : Int32)), (.int (0 : Int32)), .null] 6 = mkF m 0 #[.val (.ref x0), .val (.ref x1), .val (.int (0 : Int32)), .val (.int (0 : Int32)), .val .null, .unset] [] := by first | (simp [entryFrame, mkF, argsToLocals, Value.category]; done) | rfl
def Q_initE2 (Z : State) (r0 : Addr) (r1 : Addr) (h0 : Heap) (n0 : Nat) (v : Option Value) (h : Heap) (L : List Loc) : Prop := ∃ (xb : Addr) (xk : ClassId), v = none ∧ Fr n0 L ∧ Keep h0 h [r0] ∧ Exa Z h r0 "java/lang/String" ∧ Fld Z h r0 "java/lang/String" "value" "[B" (.ref xb) ∧ Fld Z h r0 "java/lang/String" "coder" "B" (.int (nar .byte (0 : Int32))) ∧ Arv Z h xb xk .byte (0 : Int32) [] (.int (0 : Int32))
set_option maxRecDepth 65536 in
set_option maxHeartbeats 40000000 in
theorem rm_initE2 (l : Launch) (Z : State) (a0 : Array Value) (hw : ∀ d ∈ tables_1, d.before a0 Z = true) (ws : List Jvm.Cond) (r0 : Addr) (r1 : Addr) (h0 : Heap) (n0 : Nat) (Z0 : n0 ≤ h0.size) (F_value : Fld Z h0 r0 "java/lang/String" "value" "[B" .null) (F_coder : Fld Z h0 r0 "java/lang/String" "coder" "B" (.int (0 : Int32))) (E_r0 : Exa Z h0 r0 "java/lang/String") (g_r0 : n0 ≤ r0) :
    MetFree l (⟨"java/lang/String", "<init>", "([CIILjava/lang/Void;)V"⟩ : MethodName) (head1 (Jvm.Cond.code (⟨"java/lang/String", "<init>", "([CIILjava/lang/Void;)V"⟩ : MethodName) jdk_42_method_149_code 6 none :: ws) ({ frames := 1, cells := 2, slots := 4, locals := 12 } : Room)) (fun a U => a = #[(.ref r0), (.ref r1), (.int (0 : Int32)), (.int (0 : Int32)), .null] ∧ Z.Warmed39 U.vm ∧ U.heap = h0 ∧ CHv Z own_ELs U.vm h0) (fun _ _ _ _ _ => True) (fun _ U o U' => ∃ v L, o = .returned v ∧ Q_initE2 Z r0 r1 h0 n0 v U'.heap L ∧ CHr Z own_ELs U.vm U.heap U'.vm U'.heap ∧ ReturnedEndW U o U' L ({ frames := 1, cells := 2, slots := 4, locals := 12 } : Room).cells ({ frames := 1, cells := 2, slots := 4, locals := 12 } : Room).slots) := by
  refine MetFree.of_bodySF (plainFor_of_name pn_1) hisR ?_
  intro p e s m args below meth c s₁ Bd hml0 hP hK
  obtain ⟨rfl, hZ, hh, hCH⟩ := hP
  have hx := Bd.exec
  have hby := Bd.bytes
  have hml : c.maxLocals = 6 := hml0
  have hown : s.vm.findClass "java/lang/String" = some m.cls := findClass_of_methodNamed Bd.named
  have hnm := (name_of_methodNamed Bd.named Bd.method).1
  have X0 : Stand p l e ({ frames := 1, cells := 2, slots := 4, locals := 12 } : Room) s m #[(.ref r0), (.ref r1), (.int (0 : Int32)), (.int (0 : Int32)), .null] below meth c s₁ [] 0 0 := Stand.of_body Bd
  have e0 : s₁.heap = h0 := by rw [← hh, Bd.state]; rfl
  have N0 := Fr.nil n0
  have pre0 : ∀ t, Steps p.tables e below (s₁.setTop (mkF m 0 #[.val (.ref r0), .val (.ref r1), .val (.int (0 : Int32)), .val (.int (0 : Int32)), .val .null, .unset] [])) t → Steps p.tables e below (s₁.setTop (entryFrame m #[(.ref r0), (.ref r1), (.int (0 : Int32)), (.int (0 : Int32)), .null] 6)) t := fun t k => castTop (ef_initE2 m r0 r1) k
  have CR0 : CHr Z own_ELs s.vm h0 s.vm h0 := CHr.refl hCH
  have k1 : Go p.tables e below (s₁.setTop (mkF m 0 #[.val (.ref r0), .val (.ref r1), .val (.int (0 : Int32)), .val (.int (0 : Int32)), .val .null, .unset] [])) (s₁.setTop (mkF m 1 #[.val (.ref r0), .val (.ref r1), .val (.int (0 : Int32)), .val (.int (0 : Int32)), .val .null, .unset] [(.ref r0)])) := by
    intro t ht
    refine XS.aloadN X0.here hx rfl (hb hby d_initE2_0) rfl rfl ?_
    exact ht
  obtain ⟨T2, X2, e2, st2⟩ := initO X0 hx hZ hown (hw _ (List.mem_of_getElem? (i := 18) rfl)) (hw _ (List.mem_of_getElem? (i := 19) rfl)) (hw _ (List.mem_of_getElem? (i := 20) rfl)) e0 (g := (mkF m 1 #[.val (.ref r0), .val (.ref r1), .val (.int (0 : Int32)), .val (.int (0 : Int32)), .val .null, .unset] [(.ref r0)])) rfl (by rw [hml]; rfl) rfl (hb hby d_initE2_1) (by decide) (W := 0) (by show 2 * 0 + _ ≤ _; exact Nat.le_of_eq rfl) (by decide)
  have k2 : Go p.tables e below (s₁.setTop (mkF m 1 #[.val (.ref r0), .val (.ref r1), .val (.int (0 : Int32)), .val (.int (0 : Int32)), .val .null, .unset] [(.ref r0)])) (T2.setTop (mkF m 4 #[.val (.ref r0), .val (.ref r1), .val (.int (0 : Int32)), .val (.int (0 : Int32)), .val .null, .unset] [])) := st2
  have k3 : Go p.tables e below (T2.setTop (mkF m 4 #[.val (.ref r0), .val (.ref r1), .val (.int (0 : Int32)), .val (.int (0 : Int32)), .val .null, .unset] [])) (T2.setTop (mkF m 9 #[.val (.ref r0), .val (.ref r1), .val (.int (0 : Int32)), .val (.int (0 : Int32)), .val .null, .unset] [(.ref r0)])) := by
    intro t ht
    refine XS.iloadN X2.here hx rfl (hb hby d_initE2_4) rfl ?_
    show Steps p.tables e below (T2.setTop (mkF m 5 #[.val (.ref r0), .val (.ref r1), .val (.int (0 : Int32)), .val (.int (0 : Int32)), .val .null, .unset] [(.int (0 : Int32))])) _
    refine XS.ifNo X2.here hx rfl (hb hby d_initE2_5) rfl ((if0 _ _).trans (teq (by decide : (0 : Int32) = (0 : Int32))).2) ?_
    show Steps p.tables e below (T2.setTop (mkF m 8 #[.val (.ref r0), .val (.ref r1), .val (.int (0 : Int32)), .val (.int (0 : Int32)), .val .null, .unset] [])) _
    refine XS.aloadN X2.here hx rfl (hb hby d_initE2_8) rfl rfl ?_
    exact ht
  have hS0 : s.Since s.vm 0 := (State.WarmedH.refl s).since 0
  obtain ⟨c4, T4, h4, kk4, cb4, ck4, X4, e4, E4, hS4, hk4, hZ, hown, Ec4, Cc4, Vc4, Ac4, la4, lb4, hCr4, Lt4, Sf4, st4⟩ := ldcCH (s := s) (vm0 := s.vm) X2 hx hZ hown (hw _ (List.mem_of_getElem? (i := 21) rfl)) (own_atoms hw) e2 hS0 (Nat.zero_le _) (own_EL hw) (by simp [own_ELs]) hCH (vs := []) (z := 0) ⟨by decide, by decide⟩ (by decide) rfl (g := (mkF m 9 #[.val (.ref r0), .val (.ref r1), .val (.int (0 : Int32)), .val (.int (0 : Int32)), .val .null, .unset] [(.ref r0)])) rfl (hb hby d_initE2_9) (n := 0) (by decide) (by decide) (by decide) (by decide)
  have Kp4 : Keep h0 h4 [r0] := (Keep.refl h0 [r0]).ext E4
  have Z4 : n0 ≤ h4.size := Nat.le_trans Z0 E4.1
  have CR4 : CHr Z own_ELs s.vm h0 T4.vm h4 := CR0.trans hCr4
  have F_value_c_4 := F_value.ext E4
  have F_c_4 := F_coder.ext E4
  have E_r0_c_4 := E_r0.ext E4
  have ne_r0_c4 : r0 ≠ c4 := Fld.ne F_value_c_4 Vc4 (by intro q; cases q)
  have ne_r0_cb4 : r0 ≠ cb4 := Exa.neArv E_r0_c_4 Ac4 (hw _ (List.mem_of_getElem? (i := 8) rfl))
  have k4 : Go p.tables e below (T2.setTop (mkF m 9 #[.val (.ref r0), .val (.ref r1), .val (.int (0 : Int32)), .val (.int (0 : Int32)), .val .null, .unset] [(.ref r0)])) (T4.setTop (mkF m 11 #[.val (.ref r0), .val (.ref r1), .val (.int (0 : Int32)), .val (.int (0 : Int32)), .val .null, .unset] [(.ref c4), (.ref r0)])) := st4
  obtain ⟨T5, X5, e5, st5⟩ := getF X4 hx hZ hown (host := "") (Or.inl (hw _ (List.mem_of_getElem? (i := 27) rfl))) Via.refl e4 Vc4 (g := (mkF m 11 #[.val (.ref r0), .val (.ref r1), .val (.int (0 : Int32)), .val (.int (0 : Int32)), .val .null, .unset] [(.ref c4), (.ref r0)])) rfl rfl (hb hby d_initE2_11)
  have k5 : Go p.tables e below (T4.setTop (mkF m 11 #[.val (.ref r0), .val (.ref r1), .val (.int (0 : Int32)), .val (.int (0 : Int32)), .val .null, .unset] [(.ref c4), (.ref r0)])) (T5.setTop (mkF m 14 #[.val (.ref r0), .val (.ref r1), .val (.int (0 : Int32)), .val (.int (0 : Int32)), .val .null, .unset] [(.ref cb4), (.ref r0)])) := st5
  obtain ⟨T6, h6, X6, e6, W6, st6⟩ := putF X5 hx hZ hown (host := "") (Or.inl (hw _ (List.mem_of_getElem? (i := 27) rfl))) Via.refl e5 F_value_c_4 E_r0_c_4 (Or.inr ⟨(hw _ (List.mem_of_getElem? (i := 23) rfl)), rfl, hnm⟩) (hw _ (List.mem_of_getElem? (i := 8) rfl)) (ty := (.array .byte)) (by decide) rfl rfl (g := (mkF m 14 #[.val (.ref r0), .val (.ref r1), .val (.int (0 : Int32)), .val (.int (0 : Int32)), .val .null, .unset] [(.ref cb4), (.ref r0)])) rfl rfl (hb hby d_initE2_14)
  have Kp6 : Keep h0 h6 [r0] := Kp4.wr W6 (Or.inl (by simp))
  have Z6 : n0 ≤ h6.size := Nat.le_trans Z4 (Keep.of_wr W6).1
  have Sf7 : Safe Z own_ELs T4.vm h4 r0 := own_safe hZ.alike (hw _ (List.mem_of_getElem? (i := 8) rfl)) E_r0_c_4 F_value_c_4
  have Sg6_r0 : Safe Z own_ELs T4.vm h6 r0 := Safe.wr W6 Sf7 CR4.1 Sf7
  have CR6 : CHr Z own_ELs s.vm h0 T4.vm h6 := CR4.trans (CHr.wr W6 Sf7 CR4.1)
  have F_value_c_6 := F_value_c_4.same W6
  have F_c_6 := F_c_4.other W6 (Or.inr (slot_ne (Or.inr (hw _ (List.mem_of_getElem? (i := 24) rfl))) (Or.inr (hw _ (List.mem_of_getElem? (i := 23) rfl))) (by decide) (t := .byte) (t' := (.array .byte)) (by decide) (by decide)))
  have E_r0_c_6 := E_r0_c_4.wr W6
  have Ec4_c_6 := Ec4.wr W6
  have Cc4_c_6 := Cc4.other W6 (Or.inl (Ne.symm ne_r0_c4))
  have Vc4_c_6 := Vc4.other W6 (Or.inl (Ne.symm ne_r0_c4))
  have Ac4_c_6 := Ac4.other W6 (Ne.symm ne_r0_cb4)
  have k6 : Go p.tables e below (T5.setTop (mkF m 14 #[.val (.ref r0), .val (.ref r1), .val (.int (0 : Int32)), .val (.int (0 : Int32)), .val .null, .unset] [(.ref cb4), (.ref r0)])) (T6.setTop (mkF m 17 #[.val (.ref r0), .val (.ref r1), .val (.int (0 : Int32)), .val (.int (0 : Int32)), .val .null, .unset] [])) := st6
  have N6 := Fr.snoc X6 N0 g_r0
  have k8 : Go p.tables e below (T6.setTop (mkF m 17 #[.val (.ref r0), .val (.ref r1), .val (.int (0 : Int32)), .val (.int (0 : Int32)), .val .null, .unset] [])) (T6.setTop (mkF m 20 #[.val (.ref r0), .val (.ref r1), .val (.int (0 : Int32)), .val (.int (0 : Int32)), .val .null, .unset] [(.ref c4), (.ref r0)])) := by
    intro t ht
    refine XS.aloadN X6.here hx rfl (hb hby d_initE2_17) rfl rfl ?_
    show Steps p.tables e below (T6.setTop (mkF m 18 #[.val (.ref r0), .val (.ref r1), .val (.int (0 : Int32)), .val (.int (0 : Int32)), .val .null, .unset] [(.ref r0)])) _
    refine ldcAgain X6 hx hZ hown (hw _ (List.mem_of_getElem? (i := 21) rfl)) Lt4 (g := (mkF m 18 #[.val (.ref r0), .val (.ref r1), .val (.int (0 : Int32)), .val (.int (0 : Int32)), .val .null, .unset] [(.ref r0)])) rfl (hb hby d_initE2_18) _ ?_
    exact ht
  obtain ⟨T9, X9, e9, st9⟩ := getF X6 hx hZ hown (host := "") (Or.inl (hw _ (List.mem_of_getElem? (i := 28) rfl))) Via.refl e6 Cc4_c_6 (g := (mkF m 20 #[.val (.ref r0), .val (.ref r1), .val (.int (0 : Int32)), .val (.int (0 : Int32)), .val .null, .unset] [(.ref c4), (.ref r0)])) rfl rfl (hb hby d_initE2_20)
  have k9 : Go p.tables e below (T6.setTop (mkF m 20 #[.val (.ref r0), .val (.ref r1), .val (.int (0 : Int32)), .val (.int (0 : Int32)), .val .null, .unset] [(.ref c4), (.ref r0)])) (T9.setTop (mkF m 23 #[.val (.ref r0), .val (.ref r1), .val (.int (0 : Int32)), .val (.int (0 : Int32)), .val .null, .unset] [(.int (0 : Int32)), (.ref r0)])) := st9
  obtain ⟨T10, h10, X10, e10, W10, st10⟩ := putFN X9 hx hZ hown (hw _ (List.mem_of_getElem? (i := 28) rfl)) Via.refl e9 F_c_6 E_r0_c_6 (Or.inr ⟨(hw _ (List.mem_of_getElem? (i := 24) rfl)), rfl, hnm⟩) (hw _ (List.mem_of_getElem? (i := 8) rfl)) (ty := .byte) (v' := (.int (0 : Int32))) (by decide) rfl (by decide) (g := (mkF m 23 #[.val (.ref r0), .val (.ref r1), .val (.int (0 : Int32)), .val (.int (0 : Int32)), .val .null, .unset] [(.int (0 : Int32)), (.ref r0)])) rfl rfl (hb hby d_initE2_23)
  have Kp10 : Keep h0 h10 [r0] := Kp6.wr W10 (Or.inl (by simp))
  have Z10 : n0 ≤ h10.size := Nat.le_trans Z6 (Keep.of_wr W10).1
  have Sg10_r0 : Safe Z own_ELs T4.vm h10 r0 := Safe.wr W10 Sg6_r0 CR6.1 Sg6_r0
  have CR10 : CHr Z own_ELs s.vm h0 T4.vm h10 := CR6.trans (CHr.wr W10 Sg6_r0 CR6.1)
  have F_value_c_10 := F_value_c_6.other W10 (Or.inr (slot_ne (Or.inr (hw _ (List.mem_of_getElem? (i := 23) rfl))) (Or.inr (hw _ (List.mem_of_getElem? (i := 24) rfl))) (by decide) (t := (.array .byte)) (t' := .byte) (by decide) (by decide)))
  have F_c_10 := F_c_6.same W10
  have E_r0_c_10 := E_r0_c_6.wr W10
  have Ec4_c_10 := Ec4_c_6.wr W10
  have Cc4_c_10 := Cc4_c_6.other W10 (Or.inl (Ne.symm ne_r0_c4))
  have Vc4_c_10 := Vc4_c_6.other W10 (Or.inl (Ne.symm ne_r0_c4))
  have Ac4_c_10 := Ac4_c_6.other W10 (Ne.symm ne_r0_cb4)
  have k10 : Go p.tables e below (T9.setTop (mkF m 23 #[.val (.ref r0), .val (.ref r1), .val (.int (0 : Int32)), .val (.int (0 : Int32)), .val .null, .unset] [(.int (0 : Int32)), (.ref r0)])) (T10.setTop (mkF m 26 #[.val (.ref r0), .val (.ref r1), .val (.int (0 : Int32)), .val (.int (0 : Int32)), .val .null, .unset] [])) := st10
  have N10 := Fr.snoc X10 N6 g_r0
  obtain ⟨fs, hr, hrun, hended, hW⟩ := X10.leaveW (s := s) hS4 (by rw [e10]; exact (Nat.le_trans (Nat.le_trans hk4 (Keep.of_wr W6).1) (Keep.of_wr W10).1)) (v := none) (fun _ => rfl)
  refine ⟨_, _, pre0 _ ((goT k1 (goT k2 (goT k3 (goT k4 (goT k5 (goT k6 (goT k8 (goT k9 k10)))))))) _ (X10.returnOut hx Bd.returns (hb hby d_initE2_26) hr)), hrun, hended, _, _, rfl, ?_, ?_, hW.1, hW.2.1, hW.2.2.1, hW.2.2.2.mono (by decide) (by decide)⟩
  · show Q_initE2 Z r0 r1 h0 n0 _ T10.heap _
    rw [e10]
    exact ⟨cb4, ck4, rfl, N10, Kp10, E_r0_c_10, F_value_c_10, F_c_10, Ac4_c_10⟩
  · have hcc := CR10.trans (CHv.at (s := s) (vm0 := T4.vm) X10 hZ (own_EL hw) CR10.1)
    rw [hh]
    show CHr Z own_ELs s.vm h0 T10.vm T10.heap
    rw [e10]
    exact hcc
theorem pd_0 : parseMethodDescriptor "([CIILjava/lang/Void;)V" = some ⟨[(.array .char), .int, .int, (.object "java/lang/Void")], none⟩ := by decide +kernel
theorem d_initE1_0 : decode jdk_42_method_3_code 0 = .ok (.aload_n 0, 1) := by decide +kernel
theorem d_initE1_1 : decode jdk_42_method_3_code 1 = .ok (.aload_n 1, 1) := by decide +kernel
theorem d_initE1_2 : decode jdk_42_method_3_code 2 = .ok (.iconst 0, 1) := by decide +kernel
theorem d_initE1_3 : decode jdk_42_method_3_code 3 = .ok (.aload_n 1, 1) := by decide +kernel
theorem d_initE1_4 : decode jdk_42_method_3_code 4 = .ok (.arraylength, 1) := by decide +kernel
theorem d_initE1_5 : decode jdk_42_method_3_code 5 = .ok (.aconst_null, 1) := by decide +kernel
theorem d_initE1_6 : decode jdk_42_method_3_code 6 = .ok (.invokespecial 27, 3) := by decide +kernel
theorem d_initE1_9 : decode jdk_42_method_3_code 9 = .ok (.return_, 1) := by decide +kernel
theorem ef_initE1 (m : MethodId) (x0 : Addr) (x1 : Addr) : entryFrame m #[(.ref x0), (.ref x1)] 2 = mkF m 0 #[.val (.ref x0), .val (.ref x1)] [] := by first | (simp [entryFrame, mkF, argsToLocals, Value.category]; done) | rfl
def Q_initE1 (Z : State) (r0 : Addr) (r1 : Addr) (kA : ClassId) (h0 : Heap) (n0 : Nat) (v : Option Value) (h : Heap) (L : List Loc) : Prop := ∃ (xb : Addr) (xk : ClassId), v = none ∧ Fr n0 L ∧ Keep h0 h [r0] ∧ Exa Z h r0 "java/lang/String" ∧ Fld Z h r0 "java/lang/String" "value" "[B" (.ref xb) ∧ Fld Z h r0 "java/lang/String" "coder" "B" (.int (nar .byte (0 : Int32))) ∧ Arv Z h xb xk .byte (0 : Int32) [] (.int (0 : Int32))
set_option maxRecDepth 65536 in
set_option maxHeartbeats 40000000 in
theorem rm_initE1 (l : Launch) (Z : State) (a0 : Array Value) (hw : ∀ d ∈ tables_1, d.before a0 Z = true) (ws : List Jvm.Cond) (r0 : Addr) (r1 : Addr) (kA : ClassId) (h0 : Heap) (n0 : Nat) (Z0 : n0 ≤ h0.size) (F_value : Fld Z h0 r0 "java/lang/String" "value" "[B" .null) (F_coder : Fld Z h0 r0 "java/lang/String" "coder" "B" (.int (0 : Int32))) (E_r0 : Exa Z h0 r0 "java/lang/String") (V_A : Arv Z h0 r1 kA .char (0 : Int32) [] (.int (0 : Int32))) (g_r0 : n0 ≤ r0) :
    MetFree l (⟨"java/lang/String", "<init>", "([C)V"⟩ : MethodName) (head1 (Jvm.Cond.code (⟨"java/lang/String", "<init>", "([C)V"⟩ : MethodName) jdk_42_method_3_code 2 none :: ws) ({ frames := 2, cells := 2, slots := 4, locals := 29 } : Room)) (fun a U => a = #[(.ref r0), (.ref r1)] ∧ Z.Warmed39 U.vm ∧ U.heap = h0 ∧ CHv Z own_ELs U.vm h0) (fun _ _ _ _ _ => True) (fun _ U o U' => ∃ v L, o = .returned v ∧ Q_initE1 Z r0 r1 kA h0 n0 v U'.heap L ∧ CHr Z own_ELs U.vm U.heap U'.vm U'.heap ∧ ReturnedEndW U o U' L ({ frames := 2, cells := 2, slots := 4, locals := 29 } : Room).cells ({ frames := 2, cells := 2, slots := 4, locals := 29 } : Room).slots) := by
  refine MetFree.of_bodySF (plainFor_of_name pn_1) hisR ?_
  intro p e s m args below meth c s₁ Bd hml0 hP hK
  obtain ⟨rfl, hZ, hh, hCH⟩ := hP
  have hx := Bd.exec
  have hby := Bd.bytes
  have hml : c.maxLocals = 2 := hml0
  have hown : s.vm.findClass "java/lang/String" = some m.cls := findClass_of_methodNamed Bd.named
  have hnm := (name_of_methodNamed Bd.named Bd.method).1
  have X0 : Stand p l e ({ frames := 2, cells := 2, slots := 4, locals := 29 } : Room) s m #[(.ref r0), (.ref r1)] below meth c s₁ [] 0 0 := Stand.of_body Bd
  have e0 : s₁.heap = h0 := by rw [← hh, Bd.state]; rfl
  have N0 := Fr.nil n0
  have pre0 : ∀ t, Steps p.tables e below (s₁.setTop (mkF m 0 #[.val (.ref r0), .val (.ref r1)] [])) t → Steps p.tables e below (s₁.setTop (entryFrame m #[(.ref r0), (.ref r1)] 2)) t := fun t k => castTop (ef_initE1 m r0 r1) k
  have CR0 : CHr Z own_ELs s.vm h0 s.vm h0 := CHr.refl hCH
  have k1 : Go p.tables e below (s₁.setTop (mkF m 0 #[.val (.ref r0), .val (.ref r1)] [])) (s₁.setTop (mkF m 4 #[.val (.ref r0), .val (.ref r1)] [(.ref r1), (.int (0 : Int32)), (.ref r1), (.ref r0)])) := by
    intro t ht
    refine XS.aloadN X0.here hx rfl (hb hby d_initE1_0) rfl rfl ?_
    show Steps p.tables e below (s₁.setTop (mkF m 1 #[.val (.ref r0), .val (.ref r1)] [(.ref r0)])) _
    refine XS.aloadN X0.here hx rfl (hb hby d_initE1_1) rfl rfl ?_
    show Steps p.tables e below (s₁.setTop (mkF m 2 #[.val (.ref r0), .val (.ref r1)] [(.ref r1), (.ref r0)])) _
    refine XS.iconst X0.here hx rfl (hb hby d_initE1_2) ?_
    show Steps p.tables e below (s₁.setTop (mkF m 3 #[.val (.ref r0), .val (.ref r1)] [(.int (0 : Int32)), (.ref r1), (.ref r0)])) _
    refine XS.aloadN X0.here hx rfl (hb hby d_initE1_3) rfl rfl ?_
    exact ht
  obtain ⟨cl2, Ar2, q2, S2, M2, H2, G2⟩ := id V_A
  have k3 : Go p.tables e below (s₁.setTop (mkF m 4 #[.val (.ref r0), .val (.ref r1)] [(.ref r1), (.int (0 : Int32)), (.ref r1), (.ref r0)])) (s₁.setTop (mkF m 6 #[.val (.ref r0), .val (.ref r1)] [.null, (.int (0 : Int32)), (.int (0 : Int32)), (.ref r1), (.ref r0)])) := by
    intro t ht
    refine X0.arraylength hx (by rw [e0]; exact Ar2.1) (State.isArrayOf_alike hZ.alike Ar2.2.1) (g := (mkF m 4 #[.val (.ref r0), .val (.ref r1)] [(.ref r1), (.int (0 : Int32)), (.ref r1), (.ref r0)])) rfl rfl (hb hby d_initE1_4) _ ?_
    rw [len_of S2 M2]
    show Steps p.tables e below (s₁.setTop (mkF m 5 #[.val (.ref r0), .val (.ref r1)] [(.int (0 : Int32)), (.int (0 : Int32)), (.ref r1), (.ref r0)])) _
    refine XS.aconstNull X0.here hx rfl (hb hby d_initE1_5) ?_
    exact ht
  have hS0 : s.Since s.vm 0 := (State.WarmedH.refl s).since 0
  obtain ⟨_, _, ⟨T4, L4, kq4, n4⟩, -, X4, hSn4, hgr4, ⟨Lc4, hQ4, l4, y4, z4, hCr4⟩, st4⟩ := X0.specialBackS hx (y := (⟨"java/lang/String", "<init>", "([CIILjava/lang/Void;)V"⟩ : MethodName)) rfl hown (mvT hZ (hw _ (List.mem_of_getElem? (i := 14) rfl))) (mvT hZ (hw _ (List.mem_of_getElem? (i := 15) rfl))) (mvT hZ (hw _ (List.mem_of_getElem? (i := 17) rfl))) (by decide) (backOfSH (s := s) (vm0 := s.vm) (W := 0) (rm_initE2 l Z a0 hw [] r0 r1 h0 n0 Z0 F_value F_coder E_r0 g_r0) hZ (hw _ (List.mem_of_getElem? (i := 17) rfl)) (hw _ (List.mem_of_getElem? (i := 9) rfl)) (by decide) (by decide) (own_EL hw) hCH) (g := (mkF m 6 #[.val (.ref r0), .val (.ref r1)] [.null, (.int (0 : Int32)), (.int (0 : Int32)), (.ref r1), (.ref r0)])) rfl (by rw [hml]; rfl) (Steps.refl _) (a := r0) (argsL := [(.ref r1), (.int (0 : Int32)), (.int (0 : Int32)), .null]) (rest := []) (lenOf pd_0 rfl) rfl (by show 2 * 0 + _ ≤ _; exact Nat.le_of_eq rfl) (hb hby d_initE1_6) (fun _ _ => ⟨rfl, e0, (by decide : 0 + 2 ≤ _), (by decide : 0 + 4 ≤ _)⟩)
  dsimp only [Pt.U, Pt.locs, Pt.cells, Pt.slots] at X4 l4 y4 z4 st4 hQ4 hSn4 hgr4 hCr4
  subst l4 y4 z4
  obtain ⟨X4, hS4, hZ, hown⟩ := rebS (s := s) (vm0 := s.vm) hS0 (Nat.zero_le _) X4 hSn4 (Nat.zero_le _) hZ hown
  obtain ⟨xb_4, xk_4, rfl, N4q, K4, Fq4_0, Fq4_1, Fq4_2, Fq4_3⟩ := hQ4
  have N4 := Fr.app N0 N4q
  have k4 : Go p.tables e below (s₁.setTop (mkF m 6 #[.val (.ref r0), .val (.ref r1)] [.null, (.int (0 : Int32)), (.int (0 : Int32)), (.ref r1), (.ref r0)])) (T4.setTop (mkF m 9 #[.val (.ref r0), .val (.ref r1)] [])) := fun _ ht => st4.trans ht
  have Kp4 : Keep h0 T4.heap [r0] := (Keep.refl h0 [r0]).trans K4 (allS (Or.inl (by simp)) all0)
  have Z4 : n0 ≤ T4.heap.size := Nat.le_trans Z0 K4.1
  have CR4 : CHr Z own_ELs s.vm h0 T4.vm T4.heap := CR0.trans hCr4
  have E_r0_c_4 := E_r0.keep K4
  obtain ⟨fs, hr, hrun, hended, hW⟩ := X4.leaveW (s := s) hS4 (Nat.le_refl _) (v := none) (fun _ => rfl)
  refine ⟨_, _, pre0 _ ((goT k1 (goT k3 k4)) _ (X4.returnOut hx Bd.returns (hb hby d_initE1_9) hr)), hrun, hended, _, _, rfl, ?_, ?_, hW.1, hW.2.1, hW.2.2.1, hW.2.2.2.mono (by decide) (by decide)⟩
  · show Q_initE1 Z r0 r1 kA h0 n0 _ T4.heap _
    exact ⟨xb_4, xk_4, rfl, N4, Kp4, Fq4_0, Fq4_1, Fq4_2, Fq4_3⟩
  · have hcc := CR4.trans (CHv.at (s := s) (vm0 := T4.vm) X4 hZ (own_EL hw) CR4.1)
    rw [hh]
    show CHr Z own_ELs s.vm h0 T4.vm T4.heap
    exact hcc
def own_str (n a b c : Int32) : List Int32 := if n = (0 : Int32) then [] else if n = (1 : Int32) then [nar .char a] else if n = (2 : Int32) then [nar .char a, nar .char b] else [nar .char a, nar .char b, nar .char c]
theorem own_strcast {Z : State} {h : Heap} {t : Addr} {k : ClassId} {cs ds : List Int32} (e : cs = ds) (A : Arv Z h t k .byte (Int32.ofNat ds.length) ((ds.map StrChars.lo8).map Value.int) (.int 0)) : Arv Z h t k .byte (Int32.ofNat cs.length) ((cs.map StrChars.lo8).map Value.int) (.int 0) := e ▸ A
theorem own_nc {p : Int32} (h : ¬ p < 0 ∧ ¬ (255 : Int32) < p) : nar .char p = p := by
  obtain ⟨h1, h2⟩ := h
  have e : p &&& 255 = p := by
    rw [own_and p 255 8 (by decide) (by decide)]
    rw [Int32.lt_iff_toInt_lt] at h1 h2
    have c0 : (0 : Int32).toInt = 0 := rfl
    have c1 : (255 : Int32).toInt = 255 := rfl
    have hx := p.toBitVec.isLt
    have e5 : p.toInt = if 2 * p.toBitVec.toNat < 2 ^ 32 then (p.toBitVec.toNat : Int) else (p.toBitVec.toNat : Int) - ((2 ^ 32 : Nat) : Int) := by
      show p.toBitVec.toInt = _
      rw [BitVec.toInt_eq_toNat_cond]
    have hs : p.toBitVec.toNat < 256 := by
      by_cases q : 2 * p.toBitVec.toNat < 2 ^ 32
      · rw [if_pos q] at e5; omega
      · rw [if_neg q] at e5; omega
    apply Int32.toBitVec_inj.mp
    apply BitVec.eq_of_toNat_eq
    show (p.toBitVec.toNat % 2 ^ 8) % 2 ^ 32 = p.toBitVec.toNat
    omega
  rw [show nar .char p = nar .char (p &&& 255) from by rw [e]]
  show (p &&& 255).toUInt32.toUInt16.toUInt32.toInt32 = p
  rw [show (p &&& 255).toUInt32.toUInt16.toUInt32.toInt32 = p &&& 255 from by simp only [i2c_mask], e]
theorem own_getlo (cs : List Int32) (i : Nat) : ((cs.map StrChars.lo8).map Value.int).getD i (.int (0 : Int32)) = .int (StrChars.lo8 (cs.getD i 0)) := by
  simp only [List.getD_eq_getElem?_getD, List.getElem?_map]
  cases cs[i]? <;> rfl
theorem own_len3 {cs : List Int32} (h : cs.length ≤ 3) : ¬ ((3 : Int32) < Int32.ofNat cs.length) := by
  rw [Int32.lt_iff_toInt_lt, own_ofNat (by omega)]
  have c : (3 : Int32).toInt = 3 := rfl
  omega
theorem own_strlen (n a b c : Int32) : (own_str n a b c).length ≤ 3 := by
  unfold own_str
  split
  · decide
  · split
    · show 1 ≤ 3; decide
    · split
      · show 2 ≤ 3; decide
      · show 3 ≤ 3; decide
theorem own_strch {n a b c : Int32} (h1 : ¬ a < 0 ∧ ¬ (255 : Int32) < a) (h2 : ¬ b < 0 ∧ ¬ (255 : Int32) < b) (h3 : ¬ c < 0 ∧ ¬ (255 : Int32) < c) : ∀ x ∈ own_str n a b c, ¬ x < 0 ∧ ¬ (255 : Int32) < x := by
  intro x hx
  unfold own_str at hx
  rw [own_nc h1, own_nc h2, own_nc h3] at hx
  split at hx
  · cases hx
  · split at hx
    · cases List.mem_singleton.mp hx; exact h1
    · split at hx
      · rcases List.mem_cons.mp hx with rfl | hx
        · exact h1
        · cases List.mem_singleton.mp hx; exact h2
      · rcases List.mem_cons.mp hx with rfl | hx
        · exact h1
        · rcases List.mem_cons.mp hx with rfl | hx
          · exact h2
          · cases List.mem_singleton.mp hx; exact h3
theorem own_and3c (x : Int32) : (x &&& (3 : Int32)) = 0 ∨ (x &&& (3 : Int32)) = 1 ∨ (x &&& (3 : Int32)) = 2 ∨ (x &&& (3 : Int32)) = 3 := by
  rw [own_and x 3 2 (by decide) (by decide)]
  have h : x.toBitVec.toNat % 2 ^ 2 < 4 := Nat.mod_lt _ (by decide)
  generalize x.toBitVec.toNat % 2 ^ 2 = n at h
  exact (by decide : ∀ n : Fin 4, Int32.ofNat n.val = 0 ∨ Int32.ofNat n.val = 1 ∨ Int32.ofNat n.val = 2 ∨ Int32.ofNat n.val = 3) ⟨n, h⟩
theorem pd_1 : parseMethodDescriptor "([C)V" = some ⟨[(.array .char)], none⟩ := by decide +kernel
theorem d_mk_0 : decode method_4_code 0 = .ok (.iload_n 0, 1) := by decide +kernel
theorem d_mk_1 : decode method_4_code 1 = .ok (.ifCond .ne 14, 3) := by decide +kernel
theorem d_mk_4 : decode method_4_code 4 = .ok (.new 32, 3) := by decide +kernel
theorem d_mk_7 : decode method_4_code 7 = .ok (.dup, 1) := by decide +kernel
theorem d_mk_8 : decode method_4_code 8 = .ok (.iconst 0, 1) := by decide +kernel
theorem d_mk_9 : decode method_4_code 9 = .ok (.newarray .char, 2) := by decide +kernel
theorem d_mk_11 : decode method_4_code 11 = .ok (.invokespecial 34, 3) := by decide +kernel
theorem d_mk_14 : decode method_4_code 14 = .ok (.areturn, 1) := by decide +kernel
theorem d_mk_15 : decode method_4_code 15 = .ok (.iload_n 0, 1) := by decide +kernel
theorem d_mk_16 : decode method_4_code 16 = .ok (.iconst 1, 1) := by decide +kernel
theorem d_mk_17 : decode method_4_code 17 = .ok (.if_icmp .ne 18, 3) := by decide +kernel
theorem d_mk_20 : decode method_4_code 20 = .ok (.new 32, 3) := by decide +kernel
theorem d_mk_23 : decode method_4_code 23 = .ok (.dup, 1) := by decide +kernel
theorem d_mk_24 : decode method_4_code 24 = .ok (.iconst 1, 1) := by decide +kernel
theorem d_mk_25 : decode method_4_code 25 = .ok (.newarray .char, 2) := by decide +kernel
theorem d_mk_27 : decode method_4_code 27 = .ok (.dup, 1) := by decide +kernel
theorem d_mk_28 : decode method_4_code 28 = .ok (.iconst 0, 1) := by decide +kernel
theorem d_mk_29 : decode method_4_code 29 = .ok (.iload_n 1, 1) := by decide +kernel
theorem d_mk_30 : decode method_4_code 30 = .ok (.castore, 1) := by decide +kernel
theorem d_mk_31 : decode method_4_code 31 = .ok (.invokespecial 34, 3) := by decide +kernel
theorem d_mk_34 : decode method_4_code 34 = .ok (.areturn, 1) := by decide +kernel
theorem d_mk_35 : decode method_4_code 35 = .ok (.iload_n 0, 1) := by decide +kernel
theorem d_mk_36 : decode method_4_code 36 = .ok (.iconst 2, 1) := by decide +kernel
theorem d_mk_37 : decode method_4_code 37 = .ok (.if_icmp .ne 22, 3) := by decide +kernel
theorem d_mk_40 : decode method_4_code 40 = .ok (.new 32, 3) := by decide +kernel
theorem d_mk_43 : decode method_4_code 43 = .ok (.dup, 1) := by decide +kernel
theorem d_mk_44 : decode method_4_code 44 = .ok (.iconst 2, 1) := by decide +kernel
theorem d_mk_45 : decode method_4_code 45 = .ok (.newarray .char, 2) := by decide +kernel
theorem d_mk_47 : decode method_4_code 47 = .ok (.dup, 1) := by decide +kernel
theorem d_mk_48 : decode method_4_code 48 = .ok (.iconst 0, 1) := by decide +kernel
theorem d_mk_49 : decode method_4_code 49 = .ok (.iload_n 1, 1) := by decide +kernel
theorem d_mk_50 : decode method_4_code 50 = .ok (.castore, 1) := by decide +kernel
theorem d_mk_51 : decode method_4_code 51 = .ok (.dup, 1) := by decide +kernel
theorem d_mk_52 : decode method_4_code 52 = .ok (.iconst 1, 1) := by decide +kernel
theorem d_mk_53 : decode method_4_code 53 = .ok (.iload_n 2, 1) := by decide +kernel
theorem d_mk_54 : decode method_4_code 54 = .ok (.castore, 1) := by decide +kernel
theorem d_mk_55 : decode method_4_code 55 = .ok (.invokespecial 34, 3) := by decide +kernel
theorem d_mk_58 : decode method_4_code 58 = .ok (.areturn, 1) := by decide +kernel
theorem d_mk_59 : decode method_4_code 59 = .ok (.new 32, 3) := by decide +kernel
theorem d_mk_62 : decode method_4_code 62 = .ok (.dup, 1) := by decide +kernel
theorem d_mk_63 : decode method_4_code 63 = .ok (.iconst 3, 1) := by decide +kernel
theorem d_mk_64 : decode method_4_code 64 = .ok (.newarray .char, 2) := by decide +kernel
theorem d_mk_66 : decode method_4_code 66 = .ok (.dup, 1) := by decide +kernel
theorem d_mk_67 : decode method_4_code 67 = .ok (.iconst 0, 1) := by decide +kernel
theorem d_mk_68 : decode method_4_code 68 = .ok (.iload_n 1, 1) := by decide +kernel
theorem d_mk_69 : decode method_4_code 69 = .ok (.castore, 1) := by decide +kernel
theorem d_mk_70 : decode method_4_code 70 = .ok (.dup, 1) := by decide +kernel
theorem d_mk_71 : decode method_4_code 71 = .ok (.iconst 1, 1) := by decide +kernel
theorem d_mk_72 : decode method_4_code 72 = .ok (.iload_n 2, 1) := by decide +kernel
theorem d_mk_73 : decode method_4_code 73 = .ok (.castore, 1) := by decide +kernel
theorem d_mk_74 : decode method_4_code 74 = .ok (.dup, 1) := by decide +kernel
theorem d_mk_75 : decode method_4_code 75 = .ok (.iconst 2, 1) := by decide +kernel
theorem d_mk_76 : decode method_4_code 76 = .ok (.iload_n 3, 1) := by decide +kernel
theorem d_mk_77 : decode method_4_code 77 = .ok (.castore, 1) := by decide +kernel
theorem d_mk_78 : decode method_4_code 78 = .ok (.invokespecial 34, 3) := by decide +kernel
theorem d_mk_81 : decode method_4_code 81 = .ok (.areturn, 1) := by decide +kernel
theorem ef_mk (m : MethodId) (x0 : Int32) (x1 : Int32) (x2 : Int32) (x3 : Int32) : entryFrame m #[(.int x0), (.int x1), (.int x2), (.int x3)] 4 = mkF m 0 #[.val (.int x0), .val (.int x1), .val (.int x2), .val (.int x3)] [] := by first | (simp [entryFrame, mkF, argsToLocals, Value.category]; done) | rfl
def Q_mk (Z : State) (p0 : Int32) (p1 : Int32) (p2 : Int32) (p3 : Int32) (G1 : Int32) (h0 : Heap) (n0 : Nat) (v : Option Value) (h : Heap) (L : List Loc) : Prop := ∃ (xs : Addr) (xb : Addr) (xk : ClassId), v = some (.ref xs) ∧ Fr n0 L ∧ Keep h0 h [] ∧ h0.size ≤ xs ∧ Exa Z h xs "java/lang/String" ∧ Fld Z h xs "java/lang/String" "value" "[B" (.ref xb) ∧ Fld Z h xs "java/lang/String" "coder" "B" (.int (0 : Int32)) ∧ Arv Z h xb xk .byte (Int32.ofNat (own_str p0 p1 p2 p3).length) (((own_str p0 p1 p2 p3).map StrChars.lo8).map Value.int) (.int (0 : Int32))
set_option maxRecDepth 65536 in
set_option maxHeartbeats 40000000 in
theorem rm_mk (l : Launch) (Z : State) (a0 : Array Value) (hw : ∀ d ∈ tables_1, d.before a0 Z = true) (ws : List Jvm.Cond) (p0 : Int32) (p1 : Int32) (p2 : Int32) (p3 : Int32) (G1 : Int32) (h0 : Heap) (n0 : Nat) (Z0 : n0 ≤ h0.size) (S_CS : Sta Z h0 "java/lang/String" "COMPACT_STRINGS" "Z" (.int G1)) (P5 : ¬ (G1 = (0 : Int32))) (h1 : ¬ p1 < 0 ∧ ¬ (255 : Int32) < p1) (h2 : ¬ p2 < 0 ∧ ¬ (255 : Int32) < p2) (h3 : ¬ p3 < 0 ∧ ¬ (255 : Int32) < p3) :
    MetFree l (⟨"com/example/fieldveil/fieldveil/WildcardMatchesSomeTextStartingWithPinLaw", "mk", "(ICCC)Ljava/lang/String;"⟩ : MethodName) (head1 (Jvm.Cond.code (⟨"com/example/fieldveil/fieldveil/WildcardMatchesSomeTextStartingWithPinLaw", "mk", "(ICCC)Ljava/lang/String;"⟩ : MethodName) method_4_code 4 (some (.object "java/lang/String")) :: ws) ({ frames := 4, cells := 4, slots := 10, locals := 66 } : Room)) (fun a U => a = #[(.int p0), (.int p1), (.int p2), (.int p3)] ∧ Z.Warmed39 U.vm ∧ U.heap = h0 ∧ CHv Z own_ELs U.vm h0) (fun _ _ _ _ _ => True) (fun _ U o U' => ∃ v L, o = .returned v ∧ Q_mk Z p0 p1 p2 p3 G1 h0 n0 v U'.heap L ∧ CHr Z own_ELs U.vm U.heap U'.vm U'.heap ∧ ReturnedEndW U o U' L ({ frames := 4, cells := 4, slots := 10, locals := 66 } : Room).cells ({ frames := 4, cells := 4, slots := 10, locals := 66 } : Room).slots) := by
  refine MetFree.of_bodySF (plainFor_of_name pn_0) hisR ?_
  intro p e s m args below meth c s₁ Bd hml0 hP hK
  obtain ⟨rfl, hZ, hh, hCH⟩ := hP
  have hx := Bd.exec
  have hby := Bd.bytes
  have hml : c.maxLocals = 4 := hml0
  have hown : s.vm.findClass "com/example/fieldveil/fieldveil/WildcardMatchesSomeTextStartingWithPinLaw" = some m.cls := findClass_of_methodNamed Bd.named
  have hnm := (name_of_methodNamed Bd.named Bd.method).1
  have X0 : Stand p l e ({ frames := 4, cells := 4, slots := 10, locals := 66 } : Room) s m #[(.int p0), (.int p1), (.int p2), (.int p3)] below meth c s₁ [] 0 0 := Stand.of_body Bd
  have e0 : s₁.heap = h0 := by rw [← hh, Bd.state]; rfl
  have N0 := Fr.nil n0
  have pre0 : ∀ t, Steps p.tables e below (s₁.setTop (mkF m 0 #[.val (.int p0), .val (.int p1), .val (.int p2), .val (.int p3)] [])) t → Steps p.tables e below (s₁.setTop (entryFrame m #[(.int p0), (.int p1), (.int p2), (.int p3)] 4)) t := fun t k => castTop (ef_mk m p0 p1 p2 p3) k
  have CR0 : CHr Z own_ELs s.vm h0 s.vm h0 := CHr.refl hCH
  have k1 : Go p.tables e below (s₁.setTop (mkF m 0 #[.val (.int p0), .val (.int p1), .val (.int p2), .val (.int p3)] [])) (s₁.setTop (mkF m 1 #[.val (.int p0), .val (.int p1), .val (.int p2), .val (.int p3)] [(.int p0)])) := by
    intro t ht
    refine XS.iloadN X0.here hx rfl (hb hby d_mk_0) rfl ?_
    exact ht
  by_cases hc2 : p0 = (0 : Int32)
  · have k3 : Go p.tables e below (s₁.setTop (mkF m 1 #[.val (.int p0), .val (.int p1), .val (.int p2), .val (.int p3)] [(.int p0)])) (s₁.setTop (mkF m 4 #[.val (.int p0), .val (.int p1), .val (.int p2), .val (.int p3)] [])) := by
      intro t ht
      refine XS.ifNo X0.here hx rfl (hb hby d_mk_1) rfl ((if0 _ _).trans (teq hc2).2) ?_
      exact ht
    obtain ⟨T4, h4, X4, e4, E4, A4, D4, -, st4⟩ := newO X0 hx hZ hown (hw _ (List.mem_of_getElem? (i := 7) rfl)) (hw _ (List.mem_of_getElem? (i := 8) rfl)) (hw _ (List.mem_of_getElem? (i := 9) rfl)) e0 (g := (mkF m 4 #[.val (.int p0), .val (.int p1), .val (.int p2), .val (.int p3)] [])) rfl (hb hby d_mk_4) (by decide) (by decide)
    obtain ⟨b4, g4⟩ : ∃ z, z = h0.size := ⟨_, rfl⟩
    rw [← g4] at A4 D4 st4
    have g_b4 : n0 ≤ b4 := Nat.le_trans Z0 (Nat.le_of_eq g4.symm)
    have sz_b4 : h0.size ≤ b4 := Nat.le_trans (Keep.refl h0 []).1 (Nat.le_of_eq g4.symm)
    have Kp4 : Keep h0 h4 [] := (Keep.refl h0 []).ext E4
    have Z4 : n0 ≤ h4.size := Nat.le_trans Z0 E4.1
    have Sf4_b4 : Safe Z own_ELs s.vm h4 b4 := Safe.ext E4 CR0.1 (Safe.new (Nat.le_of_eq g4.symm))
    have CR4 : CHr Z own_ELs s.vm h0 s.vm h4 := CR0.trans (CHr.ext E4 CR0.1)
    have S_CS_c_4 := S_CS.ext E4
    have F_value_b4 : Fld Z h4 b4 "java/lang/String" "value" "[B" .null := D4 (Or.inr (hw _ (List.mem_of_getElem? (i := 23) rfl))) (ty := (.array .byte)) (by decide)
    have F_coder_b4 : Fld Z h4 b4 "java/lang/String" "coder" "B" (.int (0 : Int32)) := D4 (Or.inr (hw _ (List.mem_of_getElem? (i := 24) rfl))) (ty := .byte) (by decide)
    have k4 : Go p.tables e below (s₁.setTop (mkF m 4 #[.val (.int p0), .val (.int p1), .val (.int p2), .val (.int p3)] [])) (T4.setTop (mkF m 7 #[.val (.int p0), .val (.int p1), .val (.int p2), .val (.int p3)] [(.ref b4)])) := st4
    have k5 : Go p.tables e below (T4.setTop (mkF m 7 #[.val (.int p0), .val (.int p1), .val (.int p2), .val (.int p3)] [(.ref b4)])) (T4.setTop (mkF m 9 #[.val (.int p0), .val (.int p1), .val (.int p2), .val (.int p3)] [(.int (0 : Int32)), (.ref b4), (.ref b4)])) := by
      intro t ht
      refine XS.dup X4.here hx rfl (hb hby d_mk_7) rfl rfl ?_
      show Steps p.tables e below (T4.setTop (mkF m 8 #[.val (.int p0), .val (.int p1), .val (.int p2), .val (.int p3)] [(.ref b4), (.ref b4)])) _
      refine XS.iconst X4.here hx rfl (hb hby d_mk_8) ?_
      exact ht
    obtain ⟨T6, h6, kc6, X6, e6, E6, A6, st6⟩ := newP X4 hx hZ (hw _ (List.mem_of_getElem? (i := 10) rfl)) e4 (g := (mkF m 9 #[.val (.int p0), .val (.int p1), .val (.int p2), .val (.int p3)] [(.int (0 : Int32)), (.ref b4), (.ref b4)])) rfl (hb hby d_mk_9) rfl (by decide) (cap := 0) (by decide) (by decide) (by decide) (by decide)
    obtain ⟨b6, g6⟩ : ∃ z, z = h4.size := ⟨_, rfl⟩
    rw [← g6] at A6 st6
    have g_b6 : n0 ≤ b6 := Nat.le_trans Z4 (Nat.le_of_eq g6.symm)
    have sz_b6 : h0.size ≤ b6 := Nat.le_trans Kp4.1 (Nat.le_of_eq g6.symm)
    have ne_b4_b6 : b4 ≠ b6 := Nat.ne_of_lt (Nat.lt_of_lt_of_le A4.lt (Nat.le_of_eq g6.symm))
    have Kp6 : Keep h0 h6 [] := Kp4.ext E6
    have Z6 : n0 ≤ h6.size := Nat.le_trans Z4 E6.1
    have Sf6_b6 : Safe Z own_ELs s.vm h6 b6 := Safe.ext E6 CR4.1 (Safe.new (Nat.le_of_eq g6.symm))
    have Sg6_b4 : Safe Z own_ELs s.vm h6 b4 := Safe.ext E6 CR4.1 Sf4_b4
    have CR6 : CHr Z own_ELs s.vm h0 s.vm h6 := CR4.trans (CHr.ext E6 CR4.1)
    have S_CS_c_6 := S_CS_c_4.ext E6
    have A4_c_6 := A4.ext E6
    have F_value_b4_c_6 := F_value_b4.ext E6
    have F_c_6 := F_coder_b4.ext E6
    have V_b6 : Arv Z h6 b6 kc6 .char (0 : Int32) [] (.int (0 : Int32)) := (Arv.new A6 (by decide)).pad (pad_rep [] (.int (0 : Int32)) 0)
    have k6 : Go p.tables e below (T4.setTop (mkF m 9 #[.val (.int p0), .val (.int p1), .val (.int p2), .val (.int p3)] [(.int (0 : Int32)), (.ref b4), (.ref b4)])) (T6.setTop (mkF m 11 #[.val (.int p0), .val (.int p1), .val (.int p2), .val (.int p3)] [(.ref b6), (.ref b4), (.ref b4)])) := st6
    have hS0 : s.Since s.vm 0 := (State.WarmedH.refl s).since 0
    obtain ⟨_, _, ⟨T7, L7, kq7, n7⟩, -, X7, hSn7, hgr7, ⟨Lc7, hQ7, l7, y7, z7, hCr7⟩, st7⟩ := X6.specialBackS hx (y := (⟨"java/lang/String", "<init>", "([C)V"⟩ : MethodName)) rfl hown (mvT hZ (hw _ (List.mem_of_getElem? (i := 11) rfl))) (mvT hZ (hw _ (List.mem_of_getElem? (i := 12) rfl))) (mvT hZ (hw _ (List.mem_of_getElem? (i := 13) rfl))) (by decide) (backOfSH (s := s) (vm0 := s.vm) (W := 1) (rm_initE1 l Z a0 hw [] b4 b6 kc6 h6 n0 Z6 F_value_b4_c_6 F_c_6 A4_c_6 V_b6 g_b4) hZ (hw _ (List.mem_of_getElem? (i := 13) rfl)) (hw _ (List.mem_of_getElem? (i := 9) rfl)) (by decide) (by decide) (own_EL hw) CR6.1) (g := (mkF m 11 #[.val (.int p0), .val (.int p1), .val (.int p2), .val (.int p3)] [(.ref b6), (.ref b4), (.ref b4)])) rfl (by rw [hml]; rfl) (Steps.refl _) (a := b4) (argsL := [(.ref b6)]) (rest := [(.ref b4)]) (lenOf pd_1 rfl) rfl (by show 2 * 0 + _ ≤ _; exact Nat.le_of_eq rfl) (hb hby d_mk_11) (fun _ _ => ⟨rfl, e6, (by decide : 2 + 2 ≤ _), (by decide : 4 + 4 ≤ _)⟩)
    dsimp only [Pt.U, Pt.locs, Pt.cells, Pt.slots] at X7 l7 y7 z7 st7 hQ7 hSn7 hgr7 hCr7
    subst l7 y7 z7
    obtain ⟨X7, hS7, hZ, hown⟩ := rebS (s := s) (vm0 := s.vm) hS0 (Nat.zero_le _) X7 hSn7 (Nat.zero_le _) hZ hown
    obtain ⟨xb_7, xk_7, rfl, N7q, K7, Fq7_0, Fq7_1, Fq7_2, Fq7_3⟩ := hQ7
    have N7 := Fr.app N0 N7q
    have k7 : Go p.tables e below (T6.setTop (mkF m 11 #[.val (.int p0), .val (.int p1), .val (.int p2), .val (.int p3)] [(.ref b6), (.ref b4), (.ref b4)])) (T7.setTop (mkF m 14 #[.val (.int p0), .val (.int p1), .val (.int p2), .val (.int p3)] [(.ref b4)])) := fun _ ht => st7.trans ht
    have Kp7 : Keep h0 T7.heap [] := Kp6.trans K7 (allS (Or.inr sz_b4) all0)
    have Z7 : n0 ≤ T7.heap.size := Nat.le_trans Z6 K7.1
    have Sg7_b4 : Safe Z own_ELs T7.vm T7.heap b4 := hCr7.safe A4_c_6.lt Sg6_b4
    have Sg7_b6 : Safe Z own_ELs T7.vm T7.heap b6 := hCr7.safe V_b6.lt Sf6_b6
    have CR7 : CHr Z own_ELs s.vm h0 T7.vm T7.heap := CR6.trans hCr7
    have S_CS_c_7 := own_sta_keep S_CS_c_6 A4_c_6 K7
    have A4_c_7 := A4_c_6.keep K7
    have V_b6_c_7 := V_b6.keep K7 (ninS (Ne.symm ne_b4_b6) nin0)
    obtain ⟨fs, hr, hrun, hended, hW⟩ := X7.leaveW (s := s) hS7 (Nat.le_refl _) (v := some (.ref b4)) (fun h => by rw [Bd.returns] at h; cases h)
    refine ⟨_, _, pre0 _ ((goT k1 (goT k3 (goT k4 (goT k5 (goT k6 k7))))) _ (retR X7 hx Bd.returns (hb hby d_mk_14) hr)), hrun, hended, _, _, rfl, ?_, ?_, hW.1, hW.2.1, hW.2.2.1, hW.2.2.2.mono (by decide) (by decide)⟩
    · show Q_mk Z p0 p1 p2 p3 G1 h0 n0 _ T7.heap _
      exact ⟨b4, xb_7, xk_7, rfl, N7, Kp7, sz_b4, Fq7_0, Fq7_1, Fq7_2, (own_strcast (ds := []) (by simp only [own_str, if_pos hc2]) Fq7_3)⟩
    · have hcc := CR7.trans (CHv.at (s := s) (vm0 := T7.vm) X7 hZ (own_EL hw) CR7.1)
      rw [hh]
      show CHr Z own_ELs s.vm h0 T7.vm T7.heap
      exact hcc
  · have k8 : Go p.tables e below (s₁.setTop (mkF m 1 #[.val (.int p0), .val (.int p1), .val (.int p2), .val (.int p3)] [(.int p0)])) (s₁.setTop (mkF m 17 #[.val (.int p0), .val (.int p1), .val (.int p2), .val (.int p3)] [(.int (1 : Int32)), (.int p0)])) := by
      intro t ht
      refine XS.ifYes X0.here hx rfl (pc0 := 1) (pc' := 15) rfl (hb hby d_mk_1) rfl ((if0 _ _).trans (feq hc2).2) (by decide) (by decide) ?_
      show Steps p.tables e below (s₁.setTop (mkF m 15 #[.val (.int p0), .val (.int p1), .val (.int p2), .val (.int p3)] [])) _
      refine XS.iloadN X0.here hx rfl (hb hby d_mk_15) rfl ?_
      show Steps p.tables e below (s₁.setTop (mkF m 16 #[.val (.int p0), .val (.int p1), .val (.int p2), .val (.int p3)] [(.int p0)])) _
      refine XS.iconst X0.here hx rfl (hb hby d_mk_16) ?_
      exact ht
    by_cases hc9 : p0 = (1 : Int32)
    · have k10 : Go p.tables e below (s₁.setTop (mkF m 17 #[.val (.int p0), .val (.int p1), .val (.int p2), .val (.int p3)] [(.int (1 : Int32)), (.int p0)])) (s₁.setTop (mkF m 20 #[.val (.int p0), .val (.int p1), .val (.int p2), .val (.int p3)] [])) := by
        intro t ht
        refine XS.icmpNo X0.here hx rfl (hb hby d_mk_17) rfl (teq hc9).2 ?_
        exact ht
      obtain ⟨T11, h11, X11, e11, E11, A11, D11, -, st11⟩ := newO X0 hx hZ hown (hw _ (List.mem_of_getElem? (i := 7) rfl)) (hw _ (List.mem_of_getElem? (i := 8) rfl)) (hw _ (List.mem_of_getElem? (i := 9) rfl)) e0 (g := (mkF m 20 #[.val (.int p0), .val (.int p1), .val (.int p2), .val (.int p3)] [])) rfl (hb hby d_mk_20) (by decide) (by decide)
      obtain ⟨b11, g11⟩ : ∃ z, z = h0.size := ⟨_, rfl⟩
      rw [← g11] at A11 D11 st11
      have g_b11 : n0 ≤ b11 := Nat.le_trans Z0 (Nat.le_of_eq g11.symm)
      have sz_b11 : h0.size ≤ b11 := Nat.le_trans (Keep.refl h0 []).1 (Nat.le_of_eq g11.symm)
      have Kp11 : Keep h0 h11 [] := (Keep.refl h0 []).ext E11
      have Z11 : n0 ≤ h11.size := Nat.le_trans Z0 E11.1
      have Sf11_b11 : Safe Z own_ELs s.vm h11 b11 := Safe.ext E11 CR0.1 (Safe.new (Nat.le_of_eq g11.symm))
      have CR11 : CHr Z own_ELs s.vm h0 s.vm h11 := CR0.trans (CHr.ext E11 CR0.1)
      have S_CS_c_11 := S_CS.ext E11
      have F_value_b11 : Fld Z h11 b11 "java/lang/String" "value" "[B" .null := D11 (Or.inr (hw _ (List.mem_of_getElem? (i := 23) rfl))) (ty := (.array .byte)) (by decide)
      have F_coder_b11 : Fld Z h11 b11 "java/lang/String" "coder" "B" (.int (0 : Int32)) := D11 (Or.inr (hw _ (List.mem_of_getElem? (i := 24) rfl))) (ty := .byte) (by decide)
      have k11 : Go p.tables e below (s₁.setTop (mkF m 20 #[.val (.int p0), .val (.int p1), .val (.int p2), .val (.int p3)] [])) (T11.setTop (mkF m 23 #[.val (.int p0), .val (.int p1), .val (.int p2), .val (.int p3)] [(.ref b11)])) := st11
      have k12 : Go p.tables e below (T11.setTop (mkF m 23 #[.val (.int p0), .val (.int p1), .val (.int p2), .val (.int p3)] [(.ref b11)])) (T11.setTop (mkF m 25 #[.val (.int p0), .val (.int p1), .val (.int p2), .val (.int p3)] [(.int (1 : Int32)), (.ref b11), (.ref b11)])) := by
        intro t ht
        refine XS.dup X11.here hx rfl (hb hby d_mk_23) rfl rfl ?_
        show Steps p.tables e below (T11.setTop (mkF m 24 #[.val (.int p0), .val (.int p1), .val (.int p2), .val (.int p3)] [(.ref b11), (.ref b11)])) _
        refine XS.iconst X11.here hx rfl (hb hby d_mk_24) ?_
        exact ht
      obtain ⟨T13, h13, kc13, X13, e13, E13, A13, st13⟩ := newP X11 hx hZ (hw _ (List.mem_of_getElem? (i := 10) rfl)) e11 (g := (mkF m 25 #[.val (.int p0), .val (.int p1), .val (.int p2), .val (.int p3)] [(.int (1 : Int32)), (.ref b11), (.ref b11)])) rfl (hb hby d_mk_25) rfl (by decide) (cap := 1) (by decide) (by decide) (by decide) (by decide)
      obtain ⟨b13, g13⟩ : ∃ z, z = h11.size := ⟨_, rfl⟩
      rw [← g13] at A13 st13
      have g_b13 : n0 ≤ b13 := Nat.le_trans Z11 (Nat.le_of_eq g13.symm)
      have sz_b13 : h0.size ≤ b13 := Nat.le_trans Kp11.1 (Nat.le_of_eq g13.symm)
      have ne_b11_b13 : b11 ≠ b13 := Nat.ne_of_lt (Nat.lt_of_lt_of_le A11.lt (Nat.le_of_eq g13.symm))
      have Kp13 : Keep h0 h13 [] := Kp11.ext E13
      have Z13 : n0 ≤ h13.size := Nat.le_trans Z11 E13.1
      have Sf13_b13 : Safe Z own_ELs s.vm h13 b13 := Safe.ext E13 CR11.1 (Safe.new (Nat.le_of_eq g13.symm))
      have Sg13_b11 : Safe Z own_ELs s.vm h13 b11 := Safe.ext E13 CR11.1 Sf11_b11
      have CR13 : CHr Z own_ELs s.vm h0 s.vm h13 := CR11.trans (CHr.ext E13 CR11.1)
      have S_CS_c_13 := S_CS_c_11.ext E13
      have A11_c_13 := A11.ext E13
      have F_value_b11_c_13 := F_value_b11.ext E13
      have F_c_13 := F_coder_b11.ext E13
      have V_b13 : Arv Z h13 b13 kc13 .char (1 : Int32) [(.int (0 : Int32))] (.int (0 : Int32)) := (Arv.new A13 (by decide)).pad (pad_rep [] (.int (0 : Int32)) 1)
      have k13 : Go p.tables e below (T11.setTop (mkF m 25 #[.val (.int p0), .val (.int p1), .val (.int p2), .val (.int p3)] [(.int (1 : Int32)), (.ref b11), (.ref b11)])) (T13.setTop (mkF m 27 #[.val (.int p0), .val (.int p1), .val (.int p2), .val (.int p3)] [(.ref b13), (.ref b11), (.ref b11)])) := st13
      have k14 : Go p.tables e below (T13.setTop (mkF m 27 #[.val (.int p0), .val (.int p1), .val (.int p2), .val (.int p3)] [(.ref b13), (.ref b11), (.ref b11)])) (T13.setTop (mkF m 30 #[.val (.int p0), .val (.int p1), .val (.int p2), .val (.int p3)] [(.int p1), (.int (0 : Int32)), (.ref b13), (.ref b13), (.ref b11), (.ref b11)])) := by
        intro t ht
        refine XS.dup X13.here hx rfl (hb hby d_mk_27) rfl rfl ?_
        show Steps p.tables e below (T13.setTop (mkF m 28 #[.val (.int p0), .val (.int p1), .val (.int p2), .val (.int p3)] [(.ref b13), (.ref b13), (.ref b11), (.ref b11)])) _
        refine XS.iconst X13.here hx rfl (hb hby d_mk_28) ?_
        show Steps p.tables e below (T13.setTop (mkF m 29 #[.val (.int p0), .val (.int p1), .val (.int p2), .val (.int p3)] [(.int (0 : Int32)), (.ref b13), (.ref b13), (.ref b11), (.ref b11)])) _
        refine XS.iloadN X13.here hx rfl (hb hby d_mk_29) rfl ?_
        exact ht
      obtain ⟨cl15, Ar15, q15, S15, M15, H15, G15⟩ := id V_b13
      have hin15 : ¬ ((0 : Int32) < 0 ∨ cl15.slots.size ≤ ((0 : Int32)).toNatClampNeg) := inb_of S15 ⟨by decide, by decide⟩
      obtain ⟨T15, h15, X15, e15, W15, st15⟩ := stC X13 hx hZ e13 Ar15 (j := (0 : Int32)) hin15 (g := (mkF m 30 #[.val (.int p0), .val (.int p1), .val (.int p2), .val (.int p3)] [(.int p1), (.int (0 : Int32)), (.ref b13), (.ref b13), (.ref b11), (.ref b11)])) rfl rfl (hb hby d_mk_30)
      have V15_b13 : Arv Z h15 b13 kc13 .char (1 : Int32) [(.int (nar .char p1))] (.int (0 : Int32)) := Arv.set Ar15 q15 S15 M15 H15 G15 (fits_nar_char _) W15 0 rfl (Nat.le_of_ble_eq_true rfl)
      have Kp15 : Keep h0 h15 [] := Kp13.wr W15 (Or.inr sz_b13)
      have Z15 : n0 ≤ h15.size := Nat.le_trans Z13 (Keep.of_wr W15).1
      have Sg15_b11 : Safe Z own_ELs s.vm h15 b11 := Safe.wr W15 Sf13_b13 CR13.1 Sg13_b11
      have Sg15_b13 : Safe Z own_ELs s.vm h15 b13 := Safe.wr W15 Sf13_b13 CR13.1 Sf13_b13
      have CR15 : CHr Z own_ELs s.vm h0 s.vm h15 := CR13.trans (CHr.wr W15 Sf13_b13 CR13.1)
      have S_CS_c_15 := S_CS_c_13.wr W15
      have A11_c_15 := A11_c_13.wr W15
      have F_value_b11_c_15 := F_value_b11_c_13.other W15 (Or.inl ne_b11_b13)
      have F_c_15 := F_c_13.other W15 (Or.inl ne_b11_b13)
      have k15 : Go p.tables e below (T13.setTop (mkF m 30 #[.val (.int p0), .val (.int p1), .val (.int p2), .val (.int p3)] [(.int p1), (.int (0 : Int32)), (.ref b13), (.ref b13), (.ref b11), (.ref b11)])) (T15.setTop (mkF m 31 #[.val (.int p0), .val (.int p1), .val (.int p2), .val (.int p3)] [(.ref b13), (.ref b11), (.ref b11)])) := st15
      have N15 := Fr.snoc X15 N0 g_b13
      have hlat16 : ∀ c ∈ ([(nar .char p1)] : List Int32), ¬ c < 0 ∧ ¬ (255 : Int32) < c := by
        intro c hc
        simp only [List.mem_cons, List.not_mem_nil, or_false] at hc
        rcases hc with rfl
        · rw [own_nc h1]; exact h1
      obtain ⟨_, _, ⟨T16, L16, kq16, n16⟩, -, X16, ⟨Lc16, hQ16, l16, y16, z16⟩, st16⟩ := X15.specialBack hx (y := (⟨"java/lang/String", "<init>", "([C)V"⟩ : MethodName)) rfl hown (mvT hZ (hw _ (List.mem_of_getElem? (i := 11) rfl))) (mvT hZ (hw _ (List.mem_of_getElem? (i := 12) rfl))) (mvT hZ (hw _ (List.mem_of_getElem? (i := 13) rfl))) (by decide) (StrChars.Road.backV (W := 1) hZ (own_words hw) (kI := 4) (hw _ (List.mem_of_getElem? (i := 8) rfl)) (cs := [(nar .char p1)]) (bs := [((nar .char p1)).toInt8.toInt32]) (n := 1) g_b11 Z15 A11_c_15 F_value_b11_c_15 F_c_15 V15_b13 S_CS_c_15 P5 rfl rfl (by decide) (by decide) hlat16 rfl (by decide) (by decide)) (g := (mkF m 31 #[.val (.int p0), .val (.int p1), .val (.int p2), .val (.int p3)] [(.ref b13), (.ref b11), (.ref b11)])) rfl (by rw [hml]; rfl) (Steps.refl _) (a := b11) (argsL := [(.ref b13)]) (rest := [(.ref b11)]) (lenOf pd_1 rfl) rfl (by show 2 * 0 + _ ≤ _; exact Nat.le_of_eq rfl) (hb hby d_mk_31) (fun _ _ => ⟨rfl, e15, (by decide : 2 + 1 ≤ _), (by decide : 5 + 1 ≤ _)⟩)
      dsimp only [Pt.U, Pt.locs, Pt.cells, Pt.slots] at X16 l16 y16 z16 st16 hQ16
      subst l16 y16 z16
      obtain ⟨rfl, N16q, K16, Eq16, Cq16, t16, kb16, gt16, gs16, gn16, Vq16, Aq16⟩ := hQ16
      have N16 := Fr.app N15 N16q
      have k16 : Go p.tables e below (T15.setTop (mkF m 31 #[.val (.int p0), .val (.int p1), .val (.int p2), .val (.int p3)] [(.ref b13), (.ref b11), (.ref b11)])) (T16.setTop (mkF m 34 #[.val (.int p0), .val (.int p1), .val (.int p2), .val (.int p3)] [(.ref b11)])) := fun _ ht => st16.trans ht
      have Kp16 : Keep h0 T16.heap [] := Kp15.trans K16 (allS (Or.inr sz_b11) all0)
      have sz_t16 : h0.size ≤ t16 := Nat.le_trans Kp15.1 gs16
      have Z16 : n0 ≤ T16.heap.size := Nat.le_trans Z15 K16.1
      have ne_b11_t16 : b11 ≠ t16 := Nat.ne_of_lt (Nat.lt_of_lt_of_le A11_c_15.lt gs16)
      have ne_b13_t16 : b13 ≠ t16 := Nat.ne_of_lt (Nat.lt_of_lt_of_le V15_b13.lt gs16)
      have g_t16 : n0 ≤ t16 := gt16
      have Sg16_b11 : Safe Z own_ELs s.vm T16.heap b11 := Safe.keep K16 (allS Sg15_b11 all0) CR15.1 Sg15_b11
      have Sg16_b13 : Safe Z own_ELs s.vm T16.heap b13 := Safe.keep K16 (allS Sg15_b11 all0) CR15.1 Sg15_b13
      have CR16 : CHr Z own_ELs s.vm h0 s.vm T16.heap := CR15.trans (CHr.keep K16 (allS Sg15_b11 all0) CR15.1)
      have S_CS_c_16 := own_sta_keep S_CS_c_15 A11_c_15 K16
      have A11_c_16 := A11_c_15.keep K16
      have V15_b13_c_16 := V15_b13.keep K16 (ninS (Ne.symm ne_b11_b13) nin0)
      have hS0 : s.Since s.vm 0 := (State.WarmedH.refl s).since 0
      obtain ⟨fs, hr, hrun, hended, hW⟩ := X16.leaveW (s := s) (vm₁ := s.vm) hS0 (Nat.zero_le _) (v := some (.ref b11)) (fun h => by rw [Bd.returns] at h; cases h)
      refine ⟨_, _, pre0 _ ((goT k1 (goT k8 (goT k10 (goT k11 (goT k12 (goT k13 (goT k14 (goT k15 k16)))))))) _ (retR X16 hx Bd.returns (hb hby d_mk_34) hr)), hrun, hended, _, _, rfl, ?_, ?_, hW.1, hW.2.1, hW.2.2.1, hW.2.2.2.mono (by decide) (by decide)⟩
      · show Q_mk Z p0 p1 p2 p3 G1 h0 n0 _ T16.heap _
        exact ⟨b11, t16, kb16, rfl, N16, Kp16, sz_b11, Eq16, Vq16, Cq16, (own_strcast (ds := [(nar .char p1)]) (by simp only [own_str, if_neg hc2, if_pos hc9]) Aq16)⟩
      · have hcc := CR16.trans (CHv.at (s := s) (vm0 := s.vm) X16 hZ (own_EL hw) CR16.1)
        rw [hh]
        show CHr Z own_ELs s.vm h0 T16.vm T16.heap
        exact hcc
    · have k17 : Go p.tables e below (s₁.setTop (mkF m 17 #[.val (.int p0), .val (.int p1), .val (.int p2), .val (.int p3)] [(.int (1 : Int32)), (.int p0)])) (s₁.setTop (mkF m 37 #[.val (.int p0), .val (.int p1), .val (.int p2), .val (.int p3)] [(.int (2 : Int32)), (.int p0)])) := by
        intro t ht
        refine XS.icmpYes X0.here hx rfl (pc0 := 17) (pc' := 35) rfl (hb hby d_mk_17) rfl (feq hc9).2 (by decide) (by decide) ?_
        show Steps p.tables e below (s₁.setTop (mkF m 35 #[.val (.int p0), .val (.int p1), .val (.int p2), .val (.int p3)] [])) _
        refine XS.iloadN X0.here hx rfl (hb hby d_mk_35) rfl ?_
        show Steps p.tables e below (s₁.setTop (mkF m 36 #[.val (.int p0), .val (.int p1), .val (.int p2), .val (.int p3)] [(.int p0)])) _
        refine XS.iconst X0.here hx rfl (hb hby d_mk_36) ?_
        exact ht
      by_cases hc18 : p0 = (2 : Int32)
      · have k19 : Go p.tables e below (s₁.setTop (mkF m 37 #[.val (.int p0), .val (.int p1), .val (.int p2), .val (.int p3)] [(.int (2 : Int32)), (.int p0)])) (s₁.setTop (mkF m 40 #[.val (.int p0), .val (.int p1), .val (.int p2), .val (.int p3)] [])) := by
          intro t ht
          refine XS.icmpNo X0.here hx rfl (hb hby d_mk_37) rfl (teq hc18).2 ?_
          exact ht
        obtain ⟨T20, h20, X20, e20, E20, A20, D20, -, st20⟩ := newO X0 hx hZ hown (hw _ (List.mem_of_getElem? (i := 7) rfl)) (hw _ (List.mem_of_getElem? (i := 8) rfl)) (hw _ (List.mem_of_getElem? (i := 9) rfl)) e0 (g := (mkF m 40 #[.val (.int p0), .val (.int p1), .val (.int p2), .val (.int p3)] [])) rfl (hb hby d_mk_40) (by decide) (by decide)
        obtain ⟨b20, g20⟩ : ∃ z, z = h0.size := ⟨_, rfl⟩
        rw [← g20] at A20 D20 st20
        have g_b20 : n0 ≤ b20 := Nat.le_trans Z0 (Nat.le_of_eq g20.symm)
        have sz_b20 : h0.size ≤ b20 := Nat.le_trans (Keep.refl h0 []).1 (Nat.le_of_eq g20.symm)
        have Kp20 : Keep h0 h20 [] := (Keep.refl h0 []).ext E20
        have Z20 : n0 ≤ h20.size := Nat.le_trans Z0 E20.1
        have Sf20_b20 : Safe Z own_ELs s.vm h20 b20 := Safe.ext E20 CR0.1 (Safe.new (Nat.le_of_eq g20.symm))
        have CR20 : CHr Z own_ELs s.vm h0 s.vm h20 := CR0.trans (CHr.ext E20 CR0.1)
        have S_CS_c_20 := S_CS.ext E20
        have F_value_b20 : Fld Z h20 b20 "java/lang/String" "value" "[B" .null := D20 (Or.inr (hw _ (List.mem_of_getElem? (i := 23) rfl))) (ty := (.array .byte)) (by decide)
        have F_coder_b20 : Fld Z h20 b20 "java/lang/String" "coder" "B" (.int (0 : Int32)) := D20 (Or.inr (hw _ (List.mem_of_getElem? (i := 24) rfl))) (ty := .byte) (by decide)
        have k20 : Go p.tables e below (s₁.setTop (mkF m 40 #[.val (.int p0), .val (.int p1), .val (.int p2), .val (.int p3)] [])) (T20.setTop (mkF m 43 #[.val (.int p0), .val (.int p1), .val (.int p2), .val (.int p3)] [(.ref b20)])) := st20
        have k21 : Go p.tables e below (T20.setTop (mkF m 43 #[.val (.int p0), .val (.int p1), .val (.int p2), .val (.int p3)] [(.ref b20)])) (T20.setTop (mkF m 45 #[.val (.int p0), .val (.int p1), .val (.int p2), .val (.int p3)] [(.int (2 : Int32)), (.ref b20), (.ref b20)])) := by
          intro t ht
          refine XS.dup X20.here hx rfl (hb hby d_mk_43) rfl rfl ?_
          show Steps p.tables e below (T20.setTop (mkF m 44 #[.val (.int p0), .val (.int p1), .val (.int p2), .val (.int p3)] [(.ref b20), (.ref b20)])) _
          refine XS.iconst X20.here hx rfl (hb hby d_mk_44) ?_
          exact ht
        obtain ⟨T22, h22, kc22, X22, e22, E22, A22, st22⟩ := newP X20 hx hZ (hw _ (List.mem_of_getElem? (i := 10) rfl)) e20 (g := (mkF m 45 #[.val (.int p0), .val (.int p1), .val (.int p2), .val (.int p3)] [(.int (2 : Int32)), (.ref b20), (.ref b20)])) rfl (hb hby d_mk_45) rfl (by decide) (cap := 2) (by decide) (by decide) (by decide) (by decide)
        obtain ⟨b22, g22⟩ : ∃ z, z = h20.size := ⟨_, rfl⟩
        rw [← g22] at A22 st22
        have g_b22 : n0 ≤ b22 := Nat.le_trans Z20 (Nat.le_of_eq g22.symm)
        have sz_b22 : h0.size ≤ b22 := Nat.le_trans Kp20.1 (Nat.le_of_eq g22.symm)
        have ne_b20_b22 : b20 ≠ b22 := Nat.ne_of_lt (Nat.lt_of_lt_of_le A20.lt (Nat.le_of_eq g22.symm))
        have Kp22 : Keep h0 h22 [] := Kp20.ext E22
        have Z22 : n0 ≤ h22.size := Nat.le_trans Z20 E22.1
        have Sf22_b22 : Safe Z own_ELs s.vm h22 b22 := Safe.ext E22 CR20.1 (Safe.new (Nat.le_of_eq g22.symm))
        have Sg22_b20 : Safe Z own_ELs s.vm h22 b20 := Safe.ext E22 CR20.1 Sf20_b20
        have CR22 : CHr Z own_ELs s.vm h0 s.vm h22 := CR20.trans (CHr.ext E22 CR20.1)
        have S_CS_c_22 := S_CS_c_20.ext E22
        have A20_c_22 := A20.ext E22
        have F_value_b20_c_22 := F_value_b20.ext E22
        have F_c_22 := F_coder_b20.ext E22
        have V_b22 : Arv Z h22 b22 kc22 .char (2 : Int32) [(.int (0 : Int32)), (.int (0 : Int32))] (.int (0 : Int32)) := (Arv.new A22 (by decide)).pad (pad_rep [] (.int (0 : Int32)) 2)
        have k22 : Go p.tables e below (T20.setTop (mkF m 45 #[.val (.int p0), .val (.int p1), .val (.int p2), .val (.int p3)] [(.int (2 : Int32)), (.ref b20), (.ref b20)])) (T22.setTop (mkF m 47 #[.val (.int p0), .val (.int p1), .val (.int p2), .val (.int p3)] [(.ref b22), (.ref b20), (.ref b20)])) := st22
        have k23 : Go p.tables e below (T22.setTop (mkF m 47 #[.val (.int p0), .val (.int p1), .val (.int p2), .val (.int p3)] [(.ref b22), (.ref b20), (.ref b20)])) (T22.setTop (mkF m 50 #[.val (.int p0), .val (.int p1), .val (.int p2), .val (.int p3)] [(.int p1), (.int (0 : Int32)), (.ref b22), (.ref b22), (.ref b20), (.ref b20)])) := by
          intro t ht
          refine XS.dup X22.here hx rfl (hb hby d_mk_47) rfl rfl ?_
          show Steps p.tables e below (T22.setTop (mkF m 48 #[.val (.int p0), .val (.int p1), .val (.int p2), .val (.int p3)] [(.ref b22), (.ref b22), (.ref b20), (.ref b20)])) _
          refine XS.iconst X22.here hx rfl (hb hby d_mk_48) ?_
          show Steps p.tables e below (T22.setTop (mkF m 49 #[.val (.int p0), .val (.int p1), .val (.int p2), .val (.int p3)] [(.int (0 : Int32)), (.ref b22), (.ref b22), (.ref b20), (.ref b20)])) _
          refine XS.iloadN X22.here hx rfl (hb hby d_mk_49) rfl ?_
          exact ht
        obtain ⟨cl24, Ar24, q24, S24, M24, H24, G24⟩ := id V_b22
        have hin24 : ¬ ((0 : Int32) < 0 ∨ cl24.slots.size ≤ ((0 : Int32)).toNatClampNeg) := inb_of S24 ⟨by decide, by decide⟩
        obtain ⟨T24, h24, X24, e24, W24, st24⟩ := stC X22 hx hZ e22 Ar24 (j := (0 : Int32)) hin24 (g := (mkF m 50 #[.val (.int p0), .val (.int p1), .val (.int p2), .val (.int p3)] [(.int p1), (.int (0 : Int32)), (.ref b22), (.ref b22), (.ref b20), (.ref b20)])) rfl rfl (hb hby d_mk_50)
        have V24_b22 : Arv Z h24 b22 kc22 .char (2 : Int32) [(.int (nar .char p1)), (.int (0 : Int32))] (.int (0 : Int32)) := Arv.set Ar24 q24 S24 M24 H24 G24 (fits_nar_char _) W24 0 rfl (Nat.le_of_ble_eq_true rfl)
        have Kp24 : Keep h0 h24 [] := Kp22.wr W24 (Or.inr sz_b22)
        have Z24 : n0 ≤ h24.size := Nat.le_trans Z22 (Keep.of_wr W24).1
        have Sg24_b20 : Safe Z own_ELs s.vm h24 b20 := Safe.wr W24 Sf22_b22 CR22.1 Sg22_b20
        have Sg24_b22 : Safe Z own_ELs s.vm h24 b22 := Safe.wr W24 Sf22_b22 CR22.1 Sf22_b22
        have CR24 : CHr Z own_ELs s.vm h0 s.vm h24 := CR22.trans (CHr.wr W24 Sf22_b22 CR22.1)
        have S_CS_c_24 := S_CS_c_22.wr W24
        have A20_c_24 := A20_c_22.wr W24
        have F_value_b20_c_24 := F_value_b20_c_22.other W24 (Or.inl ne_b20_b22)
        have F_c_24 := F_c_22.other W24 (Or.inl ne_b20_b22)
        have k24 : Go p.tables e below (T22.setTop (mkF m 50 #[.val (.int p0), .val (.int p1), .val (.int p2), .val (.int p3)] [(.int p1), (.int (0 : Int32)), (.ref b22), (.ref b22), (.ref b20), (.ref b20)])) (T24.setTop (mkF m 51 #[.val (.int p0), .val (.int p1), .val (.int p2), .val (.int p3)] [(.ref b22), (.ref b20), (.ref b20)])) := st24
        have N24 := Fr.snoc X24 N0 g_b22
        have k25 : Go p.tables e below (T24.setTop (mkF m 51 #[.val (.int p0), .val (.int p1), .val (.int p2), .val (.int p3)] [(.ref b22), (.ref b20), (.ref b20)])) (T24.setTop (mkF m 54 #[.val (.int p0), .val (.int p1), .val (.int p2), .val (.int p3)] [(.int p2), (.int (1 : Int32)), (.ref b22), (.ref b22), (.ref b20), (.ref b20)])) := by
          intro t ht
          refine XS.dup X24.here hx rfl (hb hby d_mk_51) rfl rfl ?_
          show Steps p.tables e below (T24.setTop (mkF m 52 #[.val (.int p0), .val (.int p1), .val (.int p2), .val (.int p3)] [(.ref b22), (.ref b22), (.ref b20), (.ref b20)])) _
          refine XS.iconst X24.here hx rfl (hb hby d_mk_52) ?_
          show Steps p.tables e below (T24.setTop (mkF m 53 #[.val (.int p0), .val (.int p1), .val (.int p2), .val (.int p3)] [(.int (1 : Int32)), (.ref b22), (.ref b22), (.ref b20), (.ref b20)])) _
          refine XS.iloadN X24.here hx rfl (hb hby d_mk_53) rfl ?_
          exact ht
        obtain ⟨cl26, Ar26, q26, S26, M26, H26, G26⟩ := id V24_b22
        have hin26 : ¬ ((1 : Int32) < 0 ∨ cl26.slots.size ≤ ((1 : Int32)).toNatClampNeg) := inb_of S26 ⟨by decide, by decide⟩
        obtain ⟨T26, h26, X26, e26, W26, st26⟩ := stC X24 hx hZ e24 Ar26 (j := (1 : Int32)) hin26 (g := (mkF m 54 #[.val (.int p0), .val (.int p1), .val (.int p2), .val (.int p3)] [(.int p2), (.int (1 : Int32)), (.ref b22), (.ref b22), (.ref b20), (.ref b20)])) rfl rfl (hb hby d_mk_54)
        have V26_b22 : Arv Z h26 b22 kc22 .char (2 : Int32) [(.int (nar .char p1)), (.int (nar .char p2))] (.int (0 : Int32)) := Arv.set Ar26 q26 S26 M26 H26 G26 (fits_nar_char _) W26 1 rfl (Nat.le_of_ble_eq_true rfl)
        have Kp26 : Keep h0 h26 [] := Kp24.wr W26 (Or.inr sz_b22)
        have Z26 : n0 ≤ h26.size := Nat.le_trans Z24 (Keep.of_wr W26).1
        have Sg26_b20 : Safe Z own_ELs s.vm h26 b20 := Safe.wr W26 Sg24_b22 CR24.1 Sg24_b20
        have Sg26_b22 : Safe Z own_ELs s.vm h26 b22 := Safe.wr W26 Sg24_b22 CR24.1 Sg24_b22
        have CR26 : CHr Z own_ELs s.vm h0 s.vm h26 := CR24.trans (CHr.wr W26 Sg24_b22 CR24.1)
        have S_CS_c_26 := S_CS_c_24.wr W26
        have A20_c_26 := A20_c_24.wr W26
        have F_value_b20_c_26 := F_value_b20_c_24.other W26 (Or.inl ne_b20_b22)
        have F_c_26 := F_c_24.other W26 (Or.inl ne_b20_b22)
        have k26 : Go p.tables e below (T24.setTop (mkF m 54 #[.val (.int p0), .val (.int p1), .val (.int p2), .val (.int p3)] [(.int p2), (.int (1 : Int32)), (.ref b22), (.ref b22), (.ref b20), (.ref b20)])) (T26.setTop (mkF m 55 #[.val (.int p0), .val (.int p1), .val (.int p2), .val (.int p3)] [(.ref b22), (.ref b20), (.ref b20)])) := st26
        have N26 := Fr.snoc X26 N24 g_b22
        have hlat27 : ∀ c ∈ ([(nar .char p1), (nar .char p2)] : List Int32), ¬ c < 0 ∧ ¬ (255 : Int32) < c := by
          intro c hc
          simp only [List.mem_cons, List.not_mem_nil, or_false] at hc
          rcases hc with rfl | rfl
          · rw [own_nc h1]; exact h1
          · rw [own_nc h2]; exact h2
        obtain ⟨_, _, ⟨T27, L27, kq27, n27⟩, -, X27, ⟨Lc27, hQ27, l27, y27, z27⟩, st27⟩ := X26.specialBack hx (y := (⟨"java/lang/String", "<init>", "([C)V"⟩ : MethodName)) rfl hown (mvT hZ (hw _ (List.mem_of_getElem? (i := 11) rfl))) (mvT hZ (hw _ (List.mem_of_getElem? (i := 12) rfl))) (mvT hZ (hw _ (List.mem_of_getElem? (i := 13) rfl))) (by decide) (StrChars.Road.backV (W := 1) hZ (own_words hw) (kI := 4) (hw _ (List.mem_of_getElem? (i := 8) rfl)) (cs := [(nar .char p1), (nar .char p2)]) (bs := [((nar .char p1)).toInt8.toInt32, ((nar .char p2)).toInt8.toInt32]) (n := 2) g_b20 Z26 A20_c_26 F_value_b20_c_26 F_c_26 V26_b22 S_CS_c_26 P5 rfl rfl (by decide) (by decide) hlat27 rfl (by decide) (by decide)) (g := (mkF m 55 #[.val (.int p0), .val (.int p1), .val (.int p2), .val (.int p3)] [(.ref b22), (.ref b20), (.ref b20)])) rfl (by rw [hml]; rfl) (Steps.refl _) (a := b20) (argsL := [(.ref b22)]) (rest := [(.ref b20)]) (lenOf pd_1 rfl) rfl (by show 2 * 0 + _ ≤ _; exact Nat.le_of_eq rfl) (hb hby d_mk_55) (fun _ _ => ⟨rfl, e26, (by decide : 2 + 1 ≤ _), (by decide : 6 + 2 ≤ _)⟩)
        dsimp only [Pt.U, Pt.locs, Pt.cells, Pt.slots] at X27 l27 y27 z27 st27 hQ27
        subst l27 y27 z27
        obtain ⟨rfl, N27q, K27, Eq27, Cq27, t27, kb27, gt27, gs27, gn27, Vq27, Aq27⟩ := hQ27
        have N27 := Fr.app N26 N27q
        have k27 : Go p.tables e below (T26.setTop (mkF m 55 #[.val (.int p0), .val (.int p1), .val (.int p2), .val (.int p3)] [(.ref b22), (.ref b20), (.ref b20)])) (T27.setTop (mkF m 58 #[.val (.int p0), .val (.int p1), .val (.int p2), .val (.int p3)] [(.ref b20)])) := fun _ ht => st27.trans ht
        have Kp27 : Keep h0 T27.heap [] := Kp26.trans K27 (allS (Or.inr sz_b20) all0)
        have sz_t27 : h0.size ≤ t27 := Nat.le_trans Kp26.1 gs27
        have Z27 : n0 ≤ T27.heap.size := Nat.le_trans Z26 K27.1
        have ne_b20_t27 : b20 ≠ t27 := Nat.ne_of_lt (Nat.lt_of_lt_of_le A20_c_26.lt gs27)
        have ne_b22_t27 : b22 ≠ t27 := Nat.ne_of_lt (Nat.lt_of_lt_of_le V26_b22.lt gs27)
        have g_t27 : n0 ≤ t27 := gt27
        have Sg27_b20 : Safe Z own_ELs s.vm T27.heap b20 := Safe.keep K27 (allS Sg26_b20 all0) CR26.1 Sg26_b20
        have Sg27_b22 : Safe Z own_ELs s.vm T27.heap b22 := Safe.keep K27 (allS Sg26_b20 all0) CR26.1 Sg26_b22
        have CR27 : CHr Z own_ELs s.vm h0 s.vm T27.heap := CR26.trans (CHr.keep K27 (allS Sg26_b20 all0) CR26.1)
        have S_CS_c_27 := own_sta_keep S_CS_c_26 A20_c_26 K27
        have A20_c_27 := A20_c_26.keep K27
        have V26_b22_c_27 := V26_b22.keep K27 (ninS (Ne.symm ne_b20_b22) nin0)
        have hS0 : s.Since s.vm 0 := (State.WarmedH.refl s).since 0
        obtain ⟨fs, hr, hrun, hended, hW⟩ := X27.leaveW (s := s) (vm₁ := s.vm) hS0 (Nat.zero_le _) (v := some (.ref b20)) (fun h => by rw [Bd.returns] at h; cases h)
        refine ⟨_, _, pre0 _ ((goT k1 (goT k8 (goT k17 (goT k19 (goT k20 (goT k21 (goT k22 (goT k23 (goT k24 (goT k25 (goT k26 k27))))))))))) _ (retR X27 hx Bd.returns (hb hby d_mk_58) hr)), hrun, hended, _, _, rfl, ?_, ?_, hW.1, hW.2.1, hW.2.2.1, hW.2.2.2.mono (by decide) (by decide)⟩
        · show Q_mk Z p0 p1 p2 p3 G1 h0 n0 _ T27.heap _
          exact ⟨b20, t27, kb27, rfl, N27, Kp27, sz_b20, Eq27, Vq27, Cq27, (own_strcast (ds := [(nar .char p1), (nar .char p2)]) (by simp only [own_str, if_neg hc2, if_neg hc9, if_pos hc18]) Aq27)⟩
        · have hcc := CR27.trans (CHv.at (s := s) (vm0 := s.vm) X27 hZ (own_EL hw) CR27.1)
          rw [hh]
          show CHr Z own_ELs s.vm h0 T27.vm T27.heap
          exact hcc
      · have k28 : Go p.tables e below (s₁.setTop (mkF m 37 #[.val (.int p0), .val (.int p1), .val (.int p2), .val (.int p3)] [(.int (2 : Int32)), (.int p0)])) (s₁.setTop (mkF m 59 #[.val (.int p0), .val (.int p1), .val (.int p2), .val (.int p3)] [])) := by
          intro t ht
          refine XS.icmpYes X0.here hx rfl (pc0 := 37) (pc' := 59) rfl (hb hby d_mk_37) rfl (feq hc18).2 (by decide) (by decide) ?_
          exact ht
        obtain ⟨T29, h29, X29, e29, E29, A29, D29, -, st29⟩ := newO X0 hx hZ hown (hw _ (List.mem_of_getElem? (i := 7) rfl)) (hw _ (List.mem_of_getElem? (i := 8) rfl)) (hw _ (List.mem_of_getElem? (i := 9) rfl)) e0 (g := (mkF m 59 #[.val (.int p0), .val (.int p1), .val (.int p2), .val (.int p3)] [])) rfl (hb hby d_mk_59) (by decide) (by decide)
        obtain ⟨b29, g29⟩ : ∃ z, z = h0.size := ⟨_, rfl⟩
        rw [← g29] at A29 D29 st29
        have g_b29 : n0 ≤ b29 := Nat.le_trans Z0 (Nat.le_of_eq g29.symm)
        have sz_b29 : h0.size ≤ b29 := Nat.le_trans (Keep.refl h0 []).1 (Nat.le_of_eq g29.symm)
        have Kp29 : Keep h0 h29 [] := (Keep.refl h0 []).ext E29
        have Z29 : n0 ≤ h29.size := Nat.le_trans Z0 E29.1
        have Sf29_b29 : Safe Z own_ELs s.vm h29 b29 := Safe.ext E29 CR0.1 (Safe.new (Nat.le_of_eq g29.symm))
        have CR29 : CHr Z own_ELs s.vm h0 s.vm h29 := CR0.trans (CHr.ext E29 CR0.1)
        have S_CS_c_29 := S_CS.ext E29
        have F_value_b29 : Fld Z h29 b29 "java/lang/String" "value" "[B" .null := D29 (Or.inr (hw _ (List.mem_of_getElem? (i := 23) rfl))) (ty := (.array .byte)) (by decide)
        have F_coder_b29 : Fld Z h29 b29 "java/lang/String" "coder" "B" (.int (0 : Int32)) := D29 (Or.inr (hw _ (List.mem_of_getElem? (i := 24) rfl))) (ty := .byte) (by decide)
        have k29 : Go p.tables e below (s₁.setTop (mkF m 59 #[.val (.int p0), .val (.int p1), .val (.int p2), .val (.int p3)] [])) (T29.setTop (mkF m 62 #[.val (.int p0), .val (.int p1), .val (.int p2), .val (.int p3)] [(.ref b29)])) := st29
        have k30 : Go p.tables e below (T29.setTop (mkF m 62 #[.val (.int p0), .val (.int p1), .val (.int p2), .val (.int p3)] [(.ref b29)])) (T29.setTop (mkF m 64 #[.val (.int p0), .val (.int p1), .val (.int p2), .val (.int p3)] [(.int (3 : Int32)), (.ref b29), (.ref b29)])) := by
          intro t ht
          refine XS.dup X29.here hx rfl (hb hby d_mk_62) rfl rfl ?_
          show Steps p.tables e below (T29.setTop (mkF m 63 #[.val (.int p0), .val (.int p1), .val (.int p2), .val (.int p3)] [(.ref b29), (.ref b29)])) _
          refine XS.iconst X29.here hx rfl (hb hby d_mk_63) ?_
          exact ht
        obtain ⟨T31, h31, kc31, X31, e31, E31, A31, st31⟩ := newP X29 hx hZ (hw _ (List.mem_of_getElem? (i := 10) rfl)) e29 (g := (mkF m 64 #[.val (.int p0), .val (.int p1), .val (.int p2), .val (.int p3)] [(.int (3 : Int32)), (.ref b29), (.ref b29)])) rfl (hb hby d_mk_64) rfl (by decide) (cap := 3) (by decide) (by decide) (by decide) (by decide)
        obtain ⟨b31, g31⟩ : ∃ z, z = h29.size := ⟨_, rfl⟩
        rw [← g31] at A31 st31
        have g_b31 : n0 ≤ b31 := Nat.le_trans Z29 (Nat.le_of_eq g31.symm)
        have sz_b31 : h0.size ≤ b31 := Nat.le_trans Kp29.1 (Nat.le_of_eq g31.symm)
        have ne_b29_b31 : b29 ≠ b31 := Nat.ne_of_lt (Nat.lt_of_lt_of_le A29.lt (Nat.le_of_eq g31.symm))
        have Kp31 : Keep h0 h31 [] := Kp29.ext E31
        have Z31 : n0 ≤ h31.size := Nat.le_trans Z29 E31.1
        have Sf31_b31 : Safe Z own_ELs s.vm h31 b31 := Safe.ext E31 CR29.1 (Safe.new (Nat.le_of_eq g31.symm))
        have Sg31_b29 : Safe Z own_ELs s.vm h31 b29 := Safe.ext E31 CR29.1 Sf29_b29
        have CR31 : CHr Z own_ELs s.vm h0 s.vm h31 := CR29.trans (CHr.ext E31 CR29.1)
        have S_CS_c_31 := S_CS_c_29.ext E31
        have A29_c_31 := A29.ext E31
        have F_value_b29_c_31 := F_value_b29.ext E31
        have F_c_31 := F_coder_b29.ext E31
        have V_b31 : Arv Z h31 b31 kc31 .char (3 : Int32) [(.int (0 : Int32)), (.int (0 : Int32)), (.int (0 : Int32))] (.int (0 : Int32)) := (Arv.new A31 (by decide)).pad (pad_rep [] (.int (0 : Int32)) 3)
        have k31 : Go p.tables e below (T29.setTop (mkF m 64 #[.val (.int p0), .val (.int p1), .val (.int p2), .val (.int p3)] [(.int (3 : Int32)), (.ref b29), (.ref b29)])) (T31.setTop (mkF m 66 #[.val (.int p0), .val (.int p1), .val (.int p2), .val (.int p3)] [(.ref b31), (.ref b29), (.ref b29)])) := st31
        have k32 : Go p.tables e below (T31.setTop (mkF m 66 #[.val (.int p0), .val (.int p1), .val (.int p2), .val (.int p3)] [(.ref b31), (.ref b29), (.ref b29)])) (T31.setTop (mkF m 69 #[.val (.int p0), .val (.int p1), .val (.int p2), .val (.int p3)] [(.int p1), (.int (0 : Int32)), (.ref b31), (.ref b31), (.ref b29), (.ref b29)])) := by
          intro t ht
          refine XS.dup X31.here hx rfl (hb hby d_mk_66) rfl rfl ?_
          show Steps p.tables e below (T31.setTop (mkF m 67 #[.val (.int p0), .val (.int p1), .val (.int p2), .val (.int p3)] [(.ref b31), (.ref b31), (.ref b29), (.ref b29)])) _
          refine XS.iconst X31.here hx rfl (hb hby d_mk_67) ?_
          show Steps p.tables e below (T31.setTop (mkF m 68 #[.val (.int p0), .val (.int p1), .val (.int p2), .val (.int p3)] [(.int (0 : Int32)), (.ref b31), (.ref b31), (.ref b29), (.ref b29)])) _
          refine XS.iloadN X31.here hx rfl (hb hby d_mk_68) rfl ?_
          exact ht
        obtain ⟨cl33, Ar33, q33, S33, M33, H33, G33⟩ := id V_b31
        have hin33 : ¬ ((0 : Int32) < 0 ∨ cl33.slots.size ≤ ((0 : Int32)).toNatClampNeg) := inb_of S33 ⟨by decide, by decide⟩
        obtain ⟨T33, h33, X33, e33, W33, st33⟩ := stC X31 hx hZ e31 Ar33 (j := (0 : Int32)) hin33 (g := (mkF m 69 #[.val (.int p0), .val (.int p1), .val (.int p2), .val (.int p3)] [(.int p1), (.int (0 : Int32)), (.ref b31), (.ref b31), (.ref b29), (.ref b29)])) rfl rfl (hb hby d_mk_69)
        have V33_b31 : Arv Z h33 b31 kc31 .char (3 : Int32) [(.int (nar .char p1)), (.int (0 : Int32)), (.int (0 : Int32))] (.int (0 : Int32)) := Arv.set Ar33 q33 S33 M33 H33 G33 (fits_nar_char _) W33 0 rfl (Nat.le_of_ble_eq_true rfl)
        have Kp33 : Keep h0 h33 [] := Kp31.wr W33 (Or.inr sz_b31)
        have Z33 : n0 ≤ h33.size := Nat.le_trans Z31 (Keep.of_wr W33).1
        have Sg33_b29 : Safe Z own_ELs s.vm h33 b29 := Safe.wr W33 Sf31_b31 CR31.1 Sg31_b29
        have Sg33_b31 : Safe Z own_ELs s.vm h33 b31 := Safe.wr W33 Sf31_b31 CR31.1 Sf31_b31
        have CR33 : CHr Z own_ELs s.vm h0 s.vm h33 := CR31.trans (CHr.wr W33 Sf31_b31 CR31.1)
        have S_CS_c_33 := S_CS_c_31.wr W33
        have A29_c_33 := A29_c_31.wr W33
        have F_value_b29_c_33 := F_value_b29_c_31.other W33 (Or.inl ne_b29_b31)
        have F_c_33 := F_c_31.other W33 (Or.inl ne_b29_b31)
        have k33 : Go p.tables e below (T31.setTop (mkF m 69 #[.val (.int p0), .val (.int p1), .val (.int p2), .val (.int p3)] [(.int p1), (.int (0 : Int32)), (.ref b31), (.ref b31), (.ref b29), (.ref b29)])) (T33.setTop (mkF m 70 #[.val (.int p0), .val (.int p1), .val (.int p2), .val (.int p3)] [(.ref b31), (.ref b29), (.ref b29)])) := st33
        have N33 := Fr.snoc X33 N0 g_b31
        have k34 : Go p.tables e below (T33.setTop (mkF m 70 #[.val (.int p0), .val (.int p1), .val (.int p2), .val (.int p3)] [(.ref b31), (.ref b29), (.ref b29)])) (T33.setTop (mkF m 73 #[.val (.int p0), .val (.int p1), .val (.int p2), .val (.int p3)] [(.int p2), (.int (1 : Int32)), (.ref b31), (.ref b31), (.ref b29), (.ref b29)])) := by
          intro t ht
          refine XS.dup X33.here hx rfl (hb hby d_mk_70) rfl rfl ?_
          show Steps p.tables e below (T33.setTop (mkF m 71 #[.val (.int p0), .val (.int p1), .val (.int p2), .val (.int p3)] [(.ref b31), (.ref b31), (.ref b29), (.ref b29)])) _
          refine XS.iconst X33.here hx rfl (hb hby d_mk_71) ?_
          show Steps p.tables e below (T33.setTop (mkF m 72 #[.val (.int p0), .val (.int p1), .val (.int p2), .val (.int p3)] [(.int (1 : Int32)), (.ref b31), (.ref b31), (.ref b29), (.ref b29)])) _
          refine XS.iloadN X33.here hx rfl (hb hby d_mk_72) rfl ?_
          exact ht
        obtain ⟨cl35, Ar35, q35, S35, M35, H35, G35⟩ := id V33_b31
        have hin35 : ¬ ((1 : Int32) < 0 ∨ cl35.slots.size ≤ ((1 : Int32)).toNatClampNeg) := inb_of S35 ⟨by decide, by decide⟩
        obtain ⟨T35, h35, X35, e35, W35, st35⟩ := stC X33 hx hZ e33 Ar35 (j := (1 : Int32)) hin35 (g := (mkF m 73 #[.val (.int p0), .val (.int p1), .val (.int p2), .val (.int p3)] [(.int p2), (.int (1 : Int32)), (.ref b31), (.ref b31), (.ref b29), (.ref b29)])) rfl rfl (hb hby d_mk_73)
        have V35_b31 : Arv Z h35 b31 kc31 .char (3 : Int32) [(.int (nar .char p1)), (.int (nar .char p2)), (.int (0 : Int32))] (.int (0 : Int32)) := Arv.set Ar35 q35 S35 M35 H35 G35 (fits_nar_char _) W35 1 rfl (Nat.le_of_ble_eq_true rfl)
        have Kp35 : Keep h0 h35 [] := Kp33.wr W35 (Or.inr sz_b31)
        have Z35 : n0 ≤ h35.size := Nat.le_trans Z33 (Keep.of_wr W35).1
        have Sg35_b29 : Safe Z own_ELs s.vm h35 b29 := Safe.wr W35 Sg33_b31 CR33.1 Sg33_b29
        have Sg35_b31 : Safe Z own_ELs s.vm h35 b31 := Safe.wr W35 Sg33_b31 CR33.1 Sg33_b31
        have CR35 : CHr Z own_ELs s.vm h0 s.vm h35 := CR33.trans (CHr.wr W35 Sg33_b31 CR33.1)
        have S_CS_c_35 := S_CS_c_33.wr W35
        have A29_c_35 := A29_c_33.wr W35
        have F_value_b29_c_35 := F_value_b29_c_33.other W35 (Or.inl ne_b29_b31)
        have F_c_35 := F_c_33.other W35 (Or.inl ne_b29_b31)
        have k35 : Go p.tables e below (T33.setTop (mkF m 73 #[.val (.int p0), .val (.int p1), .val (.int p2), .val (.int p3)] [(.int p2), (.int (1 : Int32)), (.ref b31), (.ref b31), (.ref b29), (.ref b29)])) (T35.setTop (mkF m 74 #[.val (.int p0), .val (.int p1), .val (.int p2), .val (.int p3)] [(.ref b31), (.ref b29), (.ref b29)])) := st35
        have N35 := Fr.snoc X35 N33 g_b31
        have k36 : Go p.tables e below (T35.setTop (mkF m 74 #[.val (.int p0), .val (.int p1), .val (.int p2), .val (.int p3)] [(.ref b31), (.ref b29), (.ref b29)])) (T35.setTop (mkF m 77 #[.val (.int p0), .val (.int p1), .val (.int p2), .val (.int p3)] [(.int p3), (.int (2 : Int32)), (.ref b31), (.ref b31), (.ref b29), (.ref b29)])) := by
          intro t ht
          refine XS.dup X35.here hx rfl (hb hby d_mk_74) rfl rfl ?_
          show Steps p.tables e below (T35.setTop (mkF m 75 #[.val (.int p0), .val (.int p1), .val (.int p2), .val (.int p3)] [(.ref b31), (.ref b31), (.ref b29), (.ref b29)])) _
          refine XS.iconst X35.here hx rfl (hb hby d_mk_75) ?_
          show Steps p.tables e below (T35.setTop (mkF m 76 #[.val (.int p0), .val (.int p1), .val (.int p2), .val (.int p3)] [(.int (2 : Int32)), (.ref b31), (.ref b31), (.ref b29), (.ref b29)])) _
          refine XS.iloadN X35.here hx rfl (hb hby d_mk_76) rfl ?_
          exact ht
        obtain ⟨cl37, Ar37, q37, S37, M37, H37, G37⟩ := id V35_b31
        have hin37 : ¬ ((2 : Int32) < 0 ∨ cl37.slots.size ≤ ((2 : Int32)).toNatClampNeg) := inb_of S37 ⟨by decide, by decide⟩
        obtain ⟨T37, h37, X37, e37, W37, st37⟩ := stC X35 hx hZ e35 Ar37 (j := (2 : Int32)) hin37 (g := (mkF m 77 #[.val (.int p0), .val (.int p1), .val (.int p2), .val (.int p3)] [(.int p3), (.int (2 : Int32)), (.ref b31), (.ref b31), (.ref b29), (.ref b29)])) rfl rfl (hb hby d_mk_77)
        have V37_b31 : Arv Z h37 b31 kc31 .char (3 : Int32) [(.int (nar .char p1)), (.int (nar .char p2)), (.int (nar .char p3))] (.int (0 : Int32)) := Arv.set Ar37 q37 S37 M37 H37 G37 (fits_nar_char _) W37 2 rfl (Nat.le_of_ble_eq_true rfl)
        have Kp37 : Keep h0 h37 [] := Kp35.wr W37 (Or.inr sz_b31)
        have Z37 : n0 ≤ h37.size := Nat.le_trans Z35 (Keep.of_wr W37).1
        have Sg37_b29 : Safe Z own_ELs s.vm h37 b29 := Safe.wr W37 Sg35_b31 CR35.1 Sg35_b29
        have Sg37_b31 : Safe Z own_ELs s.vm h37 b31 := Safe.wr W37 Sg35_b31 CR35.1 Sg35_b31
        have CR37 : CHr Z own_ELs s.vm h0 s.vm h37 := CR35.trans (CHr.wr W37 Sg35_b31 CR35.1)
        have S_CS_c_37 := S_CS_c_35.wr W37
        have A29_c_37 := A29_c_35.wr W37
        have F_value_b29_c_37 := F_value_b29_c_35.other W37 (Or.inl ne_b29_b31)
        have F_c_37 := F_c_35.other W37 (Or.inl ne_b29_b31)
        have k37 : Go p.tables e below (T35.setTop (mkF m 77 #[.val (.int p0), .val (.int p1), .val (.int p2), .val (.int p3)] [(.int p3), (.int (2 : Int32)), (.ref b31), (.ref b31), (.ref b29), (.ref b29)])) (T37.setTop (mkF m 78 #[.val (.int p0), .val (.int p1), .val (.int p2), .val (.int p3)] [(.ref b31), (.ref b29), (.ref b29)])) := st37
        have N37 := Fr.snoc X37 N35 g_b31
        have hlat38 : ∀ c ∈ ([(nar .char p1), (nar .char p2), (nar .char p3)] : List Int32), ¬ c < 0 ∧ ¬ (255 : Int32) < c := by
          intro c hc
          simp only [List.mem_cons, List.not_mem_nil, or_false] at hc
          rcases hc with rfl | rfl | rfl
          · rw [own_nc h1]; exact h1
          · rw [own_nc h2]; exact h2
          · rw [own_nc h3]; exact h3
        obtain ⟨_, _, ⟨T38, L38, kq38, n38⟩, -, X38, ⟨Lc38, hQ38, l38, y38, z38⟩, st38⟩ := X37.specialBack hx (y := (⟨"java/lang/String", "<init>", "([C)V"⟩ : MethodName)) rfl hown (mvT hZ (hw _ (List.mem_of_getElem? (i := 11) rfl))) (mvT hZ (hw _ (List.mem_of_getElem? (i := 12) rfl))) (mvT hZ (hw _ (List.mem_of_getElem? (i := 13) rfl))) (by decide) (StrChars.Road.backV (W := 1) hZ (own_words hw) (kI := 4) (hw _ (List.mem_of_getElem? (i := 8) rfl)) (cs := [(nar .char p1), (nar .char p2), (nar .char p3)]) (bs := [((nar .char p1)).toInt8.toInt32, ((nar .char p2)).toInt8.toInt32, ((nar .char p3)).toInt8.toInt32]) (n := 3) g_b29 Z37 A29_c_37 F_value_b29_c_37 F_c_37 V37_b31 S_CS_c_37 P5 rfl rfl (by decide) (by decide) hlat38 rfl (by decide) (by decide)) (g := (mkF m 78 #[.val (.int p0), .val (.int p1), .val (.int p2), .val (.int p3)] [(.ref b31), (.ref b29), (.ref b29)])) rfl (by rw [hml]; rfl) (Steps.refl _) (a := b29) (argsL := [(.ref b31)]) (rest := [(.ref b29)]) (lenOf pd_1 rfl) rfl (by show 2 * 0 + _ ≤ _; exact Nat.le_of_eq rfl) (hb hby d_mk_78) (fun _ _ => ⟨rfl, e37, (by decide : 2 + 1 ≤ _), (by decide : 7 + 3 ≤ _)⟩)
        dsimp only [Pt.U, Pt.locs, Pt.cells, Pt.slots] at X38 l38 y38 z38 st38 hQ38
        subst l38 y38 z38
        obtain ⟨rfl, N38q, K38, Eq38, Cq38, t38, kb38, gt38, gs38, gn38, Vq38, Aq38⟩ := hQ38
        have N38 := Fr.app N37 N38q
        have k38 : Go p.tables e below (T37.setTop (mkF m 78 #[.val (.int p0), .val (.int p1), .val (.int p2), .val (.int p3)] [(.ref b31), (.ref b29), (.ref b29)])) (T38.setTop (mkF m 81 #[.val (.int p0), .val (.int p1), .val (.int p2), .val (.int p3)] [(.ref b29)])) := fun _ ht => st38.trans ht
        have Kp38 : Keep h0 T38.heap [] := Kp37.trans K38 (allS (Or.inr sz_b29) all0)
        have sz_t38 : h0.size ≤ t38 := Nat.le_trans Kp37.1 gs38
        have Z38 : n0 ≤ T38.heap.size := Nat.le_trans Z37 K38.1
        have ne_b29_t38 : b29 ≠ t38 := Nat.ne_of_lt (Nat.lt_of_lt_of_le A29_c_37.lt gs38)
        have ne_b31_t38 : b31 ≠ t38 := Nat.ne_of_lt (Nat.lt_of_lt_of_le V37_b31.lt gs38)
        have g_t38 : n0 ≤ t38 := gt38
        have Sg38_b29 : Safe Z own_ELs s.vm T38.heap b29 := Safe.keep K38 (allS Sg37_b29 all0) CR37.1 Sg37_b29
        have Sg38_b31 : Safe Z own_ELs s.vm T38.heap b31 := Safe.keep K38 (allS Sg37_b29 all0) CR37.1 Sg37_b31
        have CR38 : CHr Z own_ELs s.vm h0 s.vm T38.heap := CR37.trans (CHr.keep K38 (allS Sg37_b29 all0) CR37.1)
        have S_CS_c_38 := own_sta_keep S_CS_c_37 A29_c_37 K38
        have A29_c_38 := A29_c_37.keep K38
        have V37_b31_c_38 := V37_b31.keep K38 (ninS (Ne.symm ne_b29_b31) nin0)
        have hS0 : s.Since s.vm 0 := (State.WarmedH.refl s).since 0
        obtain ⟨fs, hr, hrun, hended, hW⟩ := X38.leaveW (s := s) (vm₁ := s.vm) hS0 (Nat.zero_le _) (v := some (.ref b29)) (fun h => by rw [Bd.returns] at h; cases h)
        refine ⟨_, _, pre0 _ ((goT k1 (goT k8 (goT k17 (goT k28 (goT k29 (goT k30 (goT k31 (goT k32 (goT k33 (goT k34 (goT k35 (goT k36 (goT k37 k38))))))))))))) _ (retR X38 hx Bd.returns (hb hby d_mk_81) hr)), hrun, hended, _, _, rfl, ?_, ?_, hW.1, hW.2.1, hW.2.2.1, hW.2.2.2.mono (by decide) (by decide)⟩
        · show Q_mk Z p0 p1 p2 p3 G1 h0 n0 _ T38.heap _
          exact ⟨b29, t38, kb38, rfl, N38, Kp38, sz_b29, Eq38, Vq38, Cq38, (own_strcast (ds := [(nar .char p1), (nar .char p2), (nar .char p3)]) (by simp only [own_str, if_neg hc2, if_neg hc9, if_neg hc18]) Aq38)⟩
        · have hcc := CR38.trans (CHv.at (s := s) (vm0 := s.vm) X38 hZ (own_EL hw) CR38.1)
          rw [hh]
          show CHr Z own_ELs s.vm h0 T38.vm T38.heap
          exact hcc
theorem d_canEncI_0 : decode jdk_43_method_4_code 0 = .ok (.iload_n 0, 1) := by decide +kernel
theorem d_canEncI_1 : decode jdk_43_method_4_code 1 = .ok (.ifCond .lt 14, 3) := by decide +kernel
theorem d_canEncI_4 : decode jdk_43_method_4_code 4 = .ok (.iload_n 0, 1) := by decide +kernel
theorem d_canEncI_5 : decode jdk_43_method_4_code 5 = .ok (.sipush 255, 3) := by decide +kernel
theorem d_canEncI_8 : decode jdk_43_method_4_code 8 = .ok (.if_icmp .gt 7, 3) := by decide +kernel
theorem d_canEncI_11 : decode jdk_43_method_4_code 11 = .ok (.iconst 1, 1) := by decide +kernel
theorem d_canEncI_12 : decode jdk_43_method_4_code 12 = .ok (.goto 4, 3) := by decide +kernel
theorem d_canEncI_15 : decode jdk_43_method_4_code 15 = .ok (.iconst 0, 1) := by decide +kernel
theorem d_canEncI_16 : decode jdk_43_method_4_code 16 = .ok (.ireturn, 1) := by decide +kernel
theorem pn_2 : plainName "java/lang/StringLatin1" = true := by first | (simp [plainName, overriddenIn]; done) | decide +kernel
theorem ef_canEncI (m : MethodId) (x0 : Int32) : entryFrame m #[(.int x0)] 1 = mkF m 0 #[.val (.int x0)] [] := by first | (simp [entryFrame, mkF, argsToLocals, Value.category]; done) | rfl
def f_canEncI (p0 : Int32) : Int32 := (if p0 < (0 : Int32) then (0 : Int32) else (if (255 : Int32) < p0 then (0 : Int32) else (1 : Int32)))
def Q_canEncI (Z : State) (p0 : Int32) (h0 : Heap) (n0 : Nat) (v : Option Value) (h : Heap) (L : List Loc) : Prop := v = some (.int (f_canEncI p0)) ∧ Fr n0 L ∧ h = h0
set_option maxRecDepth 65536 in
set_option maxHeartbeats 40000000 in
theorem rm_canEncI (l : Launch) (Z : State) (a0 : Array Value) (hw : ∀ d ∈ tables_1, d.before a0 Z = true) (ws : List Jvm.Cond) (p0 : Int32) (h0 : Heap) (n0 : Nat) (Z0 : n0 ≤ h0.size) :
    MetFree l (⟨"java/lang/StringLatin1", "canEncode", "(I)Z"⟩ : MethodName) (head1 (Jvm.Cond.code (⟨"java/lang/StringLatin1", "canEncode", "(I)Z"⟩ : MethodName) jdk_43_method_4_code 1 (some .boolean) :: ws) ({ frames := 0, cells := 0, slots := 0, locals := 0 } : Room)) (fun a U => a = #[(.int p0)] ∧ Z.Warmed39 U.vm ∧ U.heap = h0) (fun _ _ _ _ _ => True) (fun _ U o U' => ∃ v L, o = .returned v ∧ Q_canEncI Z p0 h0 n0 v U'.heap L ∧ FrameEnd U o U' L ({ frames := 0, cells := 0, slots := 0, locals := 0 } : Room).cells ({ frames := 0, cells := 0, slots := 0, locals := 0 } : Room).slots) := by
  refine MetFree.of_bodySF (plainFor_of_name pn_2) hisR ?_
  intro p e s m args below meth c s₁ Bd hml0 hP hK
  obtain ⟨rfl, hZ, hh⟩ := hP
  have hx := Bd.exec
  have hby := Bd.bytes
  have hml : c.maxLocals = 1 := hml0
  have hown : s.vm.findClass "java/lang/StringLatin1" = some m.cls := findClass_of_methodNamed Bd.named
  have hnm := (name_of_methodNamed Bd.named Bd.method).1
  have X0 : Stand p l e ({ frames := 0, cells := 0, slots := 0, locals := 0 } : Room) s m #[(.int p0)] below meth c s₁ [] 0 0 := Stand.of_body Bd
  have e0 : s₁.heap = h0 := by rw [← hh, Bd.state]; rfl
  have N0 := Fr.nil n0
  have pre0 : ∀ t, Steps p.tables e below (s₁.setTop (mkF m 0 #[.val (.int p0)] [])) t → Steps p.tables e below (s₁.setTop (entryFrame m #[(.int p0)] 1)) t := fun t k => castTop (ef_canEncI m p0) k
  have k1 : Go p.tables e below (s₁.setTop (mkF m 0 #[.val (.int p0)] [])) (s₁.setTop (mkF m 1 #[.val (.int p0)] [(.int p0)])) := by
    intro t ht
    refine XS.iloadN X0.here hx rfl (hb hby d_canEncI_0) rfl ?_
    exact ht
  by_cases hc2 : p0 < (0 : Int32)
  · have k3 : Go p.tables e below (s₁.setTop (mkF m 1 #[.val (.int p0)] [(.int p0)])) (s₁.setTop (mkF m 16 #[.val (.int p0)] [(.int (0 : Int32))])) := by
      intro t ht
      refine XS.ifYes X0.here hx rfl (pc0 := 1) (pc' := 15) rfl (hb hby d_canEncI_1) rfl ((if0 _ _).trans (tlt hc2).1) (by decide) (by decide) ?_
      show Steps p.tables e below (s₁.setTop (mkF m 15 #[.val (.int p0)] [])) _
      refine XS.iconst X0.here hx rfl (hb hby d_canEncI_15) ?_
      exact ht
    obtain ⟨fs, hr, hrun, hended, hW, hsame⟩ := X0.leave (v := some (.int (0 : Int32))) (fun h => by rw [Bd.returns] at h; cases h)
    refine ⟨_, _, pre0 _ ((goT k1 k3) _ (retN X0 hx (t := .boolean) Bd.returns (by simp) (hb hby d_canEncI_16) hr)), hrun, hended, _, _, rfl, ?_, ⟨_, rfl⟩, hW, hsame.mono (by decide) (by decide)⟩
    show Q_canEncI Z p0 h0 n0 _ s₁.heap _
    rw [e0]
    exact ⟨by simp only [f_canEncI, if_pos hc2], N0, rfl⟩
  · have k4 : Go p.tables e below (s₁.setTop (mkF m 1 #[.val (.int p0)] [(.int p0)])) (s₁.setTop (mkF m 8 #[.val (.int p0)] [(.int (255 : Int32)), (.int p0)])) := by
      intro t ht
      refine XS.ifNo X0.here hx rfl (hb hby d_canEncI_1) rfl ((if0 _ _).trans (flt hc2).1) ?_
      show Steps p.tables e below (s₁.setTop (mkF m 4 #[.val (.int p0)] [])) _
      refine XS.iloadN X0.here hx rfl (hb hby d_canEncI_4) rfl ?_
      show Steps p.tables e below (s₁.setTop (mkF m 5 #[.val (.int p0)] [(.int p0)])) _
      refine XS.sipush X0.here hx rfl (hb hby d_canEncI_5) ?_
      exact ht
    by_cases hc5 : (255 : Int32) < p0
    · have k6 : Go p.tables e below (s₁.setTop (mkF m 8 #[.val (.int p0)] [(.int (255 : Int32)), (.int p0)])) (s₁.setTop (mkF m 16 #[.val (.int p0)] [(.int (0 : Int32))])) := by
        intro t ht
        refine XS.icmpYes X0.here hx rfl (pc0 := 8) (pc' := 15) rfl (hb hby d_canEncI_8) rfl (tlt hc5).2.2.1 (by decide) (by decide) ?_
        show Steps p.tables e below (s₁.setTop (mkF m 15 #[.val (.int p0)] [])) _
        refine XS.iconst X0.here hx rfl (hb hby d_canEncI_15) ?_
        exact ht
      obtain ⟨fs, hr, hrun, hended, hW, hsame⟩ := X0.leave (v := some (.int (0 : Int32))) (fun h => by rw [Bd.returns] at h; cases h)
      refine ⟨_, _, pre0 _ ((goT k1 (goT k4 k6)) _ (retN X0 hx (t := .boolean) Bd.returns (by simp) (hb hby d_canEncI_16) hr)), hrun, hended, _, _, rfl, ?_, ⟨_, rfl⟩, hW, hsame.mono (by decide) (by decide)⟩
      show Q_canEncI Z p0 h0 n0 _ s₁.heap _
      rw [e0]
      exact ⟨by simp only [f_canEncI, if_neg hc2, if_pos hc5], N0, rfl⟩
    · have k7 : Go p.tables e below (s₁.setTop (mkF m 8 #[.val (.int p0)] [(.int (255 : Int32)), (.int p0)])) (s₁.setTop (mkF m 16 #[.val (.int p0)] [(.int (1 : Int32))])) := by
        intro t ht
        refine XS.icmpNo X0.here hx rfl (hb hby d_canEncI_8) rfl (flt hc5).2.2.1 ?_
        show Steps p.tables e below (s₁.setTop (mkF m 11 #[.val (.int p0)] [])) _
        refine XS.iconst X0.here hx rfl (hb hby d_canEncI_11) ?_
        show Steps p.tables e below (s₁.setTop (mkF m 12 #[.val (.int p0)] [(.int (1 : Int32))])) _
        refine XS.goto X0.here hx rfl (pc0 := 12) (pc' := 16) rfl (hb hby d_canEncI_12) (by decide) (by decide) ?_
        exact ht
      obtain ⟨fs, hr, hrun, hended, hW, hsame⟩ := X0.leave (v := some (.int (1 : Int32))) (fun h => by rw [Bd.returns] at h; cases h)
      refine ⟨_, _, pre0 _ ((goT k1 (goT k4 k7)) _ (retN X0 hx (t := .boolean) Bd.returns (by simp) (hb hby d_canEncI_16) hr)), hrun, hended, _, _, rfl, ?_, ⟨_, rfl⟩, hW, hsame.mono (by decide) (by decide)⟩
      show Q_canEncI Z p0 h0 n0 _ s₁.heap _
      rw [e0]
      exact ⟨by simp only [f_canEncI, if_neg hc2, if_neg hc5], N0, rfl⟩
theorem d_max_0 : decode jdk_29_method_65_code 0 = .ok (.iload_n 0, 1) := by decide +kernel
theorem d_max_1 : decode jdk_29_method_65_code 1 = .ok (.iload_n 1, 1) := by decide +kernel
theorem d_max_2 : decode jdk_29_method_65_code 2 = .ok (.if_icmp .lt 7, 3) := by decide +kernel
theorem d_max_5 : decode jdk_29_method_65_code 5 = .ok (.iload_n 0, 1) := by decide +kernel
theorem d_max_6 : decode jdk_29_method_65_code 6 = .ok (.goto 4, 3) := by decide +kernel
theorem d_max_9 : decode jdk_29_method_65_code 9 = .ok (.iload_n 1, 1) := by decide +kernel
theorem d_max_10 : decode jdk_29_method_65_code 10 = .ok (.ireturn, 1) := by decide +kernel
theorem ef_max (m : MethodId) (x0 : Int32) (x1 : Int32) : entryFrame m #[(.int x0), (.int x1)] 2 = mkF m 0 #[.val (.int x0), .val (.int x1)] [] := by first | (simp [entryFrame, mkF, argsToLocals, Value.category]; done) | rfl
def f_max (p0 : Int32) (p1 : Int32) : Int32 := (if p0 < p1 then p1 else p0)
def Q_max (Z : State) (p0 : Int32) (p1 : Int32) (h0 : Heap) (n0 : Nat) (v : Option Value) (h : Heap) (L : List Loc) : Prop := v = some (.int (f_max p0 p1)) ∧ Fr n0 L ∧ h = h0
set_option maxRecDepth 65536 in
set_option maxHeartbeats 40000000 in
theorem rm_max (l : Launch) (Z : State) (a0 : Array Value) (hw : ∀ d ∈ tables_1, d.before a0 Z = true) (ws : List Jvm.Cond) (p0 : Int32) (p1 : Int32) (h0 : Heap) (n0 : Nat) (Z0 : n0 ≤ h0.size) :
    MetFree l (⟨"java/lang/Math", "max", "(II)I"⟩ : MethodName) (head1 (Jvm.Cond.code (⟨"java/lang/Math", "max", "(II)I"⟩ : MethodName) jdk_29_method_65_code 2 (some .int) :: ws) ({ frames := 0, cells := 0, slots := 0, locals := 0 } : Room)) (fun a U => a = #[(.int p0), (.int p1)] ∧ Z.Warmed39 U.vm ∧ U.heap = h0) (fun _ _ _ _ _ => True) (fun _ U o U' => ∃ v L, o = .returned v ∧ Q_max Z p0 p1 h0 n0 v U'.heap L ∧ FrameEnd U o U' L ({ frames := 0, cells := 0, slots := 0, locals := 0 } : Room).cells ({ frames := 0, cells := 0, slots := 0, locals := 0 } : Room).slots) := by
  refine MetFree.of_bodySF (Jvm.Free.JP.mathPlain rfl (by decide +kernel)) hisR ?_
  intro p e s m args below meth c s₁ Bd hml0 hP hK
  obtain ⟨rfl, hZ, hh⟩ := hP
  have hx := Bd.exec
  have hby := Bd.bytes
  have hml : c.maxLocals = 2 := hml0
  have hown : s.vm.findClass "java/lang/Math" = some m.cls := findClass_of_methodNamed Bd.named
  have hnm := (name_of_methodNamed Bd.named Bd.method).1
  have X0 : Stand p l e ({ frames := 0, cells := 0, slots := 0, locals := 0 } : Room) s m #[(.int p0), (.int p1)] below meth c s₁ [] 0 0 := Stand.of_body Bd
  have e0 : s₁.heap = h0 := by rw [← hh, Bd.state]; rfl
  have N0 := Fr.nil n0
  have pre0 : ∀ t, Steps p.tables e below (s₁.setTop (mkF m 0 #[.val (.int p0), .val (.int p1)] [])) t → Steps p.tables e below (s₁.setTop (entryFrame m #[(.int p0), (.int p1)] 2)) t := fun t k => castTop (ef_max m p0 p1) k
  have k1 : Go p.tables e below (s₁.setTop (mkF m 0 #[.val (.int p0), .val (.int p1)] [])) (s₁.setTop (mkF m 2 #[.val (.int p0), .val (.int p1)] [(.int p1), (.int p0)])) := by
    intro t ht
    refine XS.iloadN X0.here hx rfl (hb hby d_max_0) rfl ?_
    show Steps p.tables e below (s₁.setTop (mkF m 1 #[.val (.int p0), .val (.int p1)] [(.int p0)])) _
    refine XS.iloadN X0.here hx rfl (hb hby d_max_1) rfl ?_
    exact ht
  by_cases hc2 : p0 < p1
  · have k3 : Go p.tables e below (s₁.setTop (mkF m 2 #[.val (.int p0), .val (.int p1)] [(.int p1), (.int p0)])) (s₁.setTop (mkF m 10 #[.val (.int p0), .val (.int p1)] [(.int p1)])) := by
      intro t ht
      refine XS.icmpYes X0.here hx rfl (pc0 := 2) (pc' := 9) rfl (hb hby d_max_2) rfl (tlt hc2).1 (by decide) (by decide) ?_
      show Steps p.tables e below (s₁.setTop (mkF m 9 #[.val (.int p0), .val (.int p1)] [])) _
      refine XS.iloadN X0.here hx rfl (hb hby d_max_9) rfl ?_
      exact ht
    obtain ⟨fs, hr, hrun, hended, hW, hsame⟩ := X0.leave (v := some (.int p1)) (fun h => by rw [Bd.returns] at h; cases h)
    refine ⟨_, _, pre0 _ ((goT k1 k3) _ (retI X0 hx Bd.returns (hb hby d_max_10) hr)), hrun, hended, _, _, rfl, ?_, ⟨_, rfl⟩, hW, hsame.mono (by decide) (by decide)⟩
    show Q_max Z p0 p1 h0 n0 _ s₁.heap _
    rw [e0]
    exact ⟨by simp only [f_max, if_pos hc2], N0, rfl⟩
  · have k4 : Go p.tables e below (s₁.setTop (mkF m 2 #[.val (.int p0), .val (.int p1)] [(.int p1), (.int p0)])) (s₁.setTop (mkF m 10 #[.val (.int p0), .val (.int p1)] [(.int p0)])) := by
      intro t ht
      refine XS.icmpNo X0.here hx rfl (hb hby d_max_2) rfl (flt hc2).1 ?_
      show Steps p.tables e below (s₁.setTop (mkF m 5 #[.val (.int p0), .val (.int p1)] [])) _
      refine XS.iloadN X0.here hx rfl (hb hby d_max_5) rfl ?_
      show Steps p.tables e below (s₁.setTop (mkF m 6 #[.val (.int p0), .val (.int p1)] [(.int p0)])) _
      refine XS.goto X0.here hx rfl (pc0 := 6) (pc' := 10) rfl (hb hby d_max_6) (by decide) (by decide) ?_
      exact ht
    obtain ⟨fs, hr, hrun, hended, hW, hsame⟩ := X0.leave (v := some (.int p0)) (fun h => by rw [Bd.returns] at h; cases h)
    refine ⟨_, _, pre0 _ ((goT k1 k4) _ (retI X0 hx Bd.returns (hb hby d_max_10) hr)), hrun, hended, _, _, rfl, ?_, ⟨_, rfl⟩, hW, hsame.mono (by decide) (by decide)⟩
    show Q_max Z p0 p1 h0 n0 _ s₁.heap _
    rw [e0]
    exact ⟨by simp only [f_max, if_neg hc2], N0, rfl⟩
theorem d_min_0 : decode jdk_29_method_69_code 0 = .ok (.iload_n 0, 1) := by decide +kernel
theorem d_min_1 : decode jdk_29_method_69_code 1 = .ok (.iload_n 1, 1) := by decide +kernel
theorem d_min_2 : decode jdk_29_method_69_code 2 = .ok (.if_icmp .gt 7, 3) := by decide +kernel
theorem d_min_5 : decode jdk_29_method_69_code 5 = .ok (.iload_n 0, 1) := by decide +kernel
theorem d_min_6 : decode jdk_29_method_69_code 6 = .ok (.goto 4, 3) := by decide +kernel
theorem d_min_9 : decode jdk_29_method_69_code 9 = .ok (.iload_n 1, 1) := by decide +kernel
theorem d_min_10 : decode jdk_29_method_69_code 10 = .ok (.ireturn, 1) := by decide +kernel
theorem ef_min (m : MethodId) (x0 : Int32) (x1 : Int32) : entryFrame m #[(.int x0), (.int x1)] 2 = mkF m 0 #[.val (.int x0), .val (.int x1)] [] := by first | (simp [entryFrame, mkF, argsToLocals, Value.category]; done) | rfl
def f_min (p0 : Int32) (p1 : Int32) : Int32 := (if p1 < p0 then p1 else p0)
def Q_min (Z : State) (p0 : Int32) (p1 : Int32) (h0 : Heap) (n0 : Nat) (v : Option Value) (h : Heap) (L : List Loc) : Prop := v = some (.int (f_min p0 p1)) ∧ Fr n0 L ∧ h = h0
set_option maxRecDepth 65536 in
set_option maxHeartbeats 40000000 in
theorem rm_min (l : Launch) (Z : State) (a0 : Array Value) (hw : ∀ d ∈ tables_1, d.before a0 Z = true) (ws : List Jvm.Cond) (p0 : Int32) (p1 : Int32) (h0 : Heap) (n0 : Nat) (Z0 : n0 ≤ h0.size) :
    MetFree l (⟨"java/lang/Math", "min", "(II)I"⟩ : MethodName) (head1 (Jvm.Cond.code (⟨"java/lang/Math", "min", "(II)I"⟩ : MethodName) jdk_29_method_69_code 2 (some .int) :: ws) ({ frames := 0, cells := 0, slots := 0, locals := 0 } : Room)) (fun a U => a = #[(.int p0), (.int p1)] ∧ Z.Warmed39 U.vm ∧ U.heap = h0) (fun _ _ _ _ _ => True) (fun _ U o U' => ∃ v L, o = .returned v ∧ Q_min Z p0 p1 h0 n0 v U'.heap L ∧ FrameEnd U o U' L ({ frames := 0, cells := 0, slots := 0, locals := 0 } : Room).cells ({ frames := 0, cells := 0, slots := 0, locals := 0 } : Room).slots) := by
  refine MetFree.of_bodySF (Jvm.Free.JP.mathPlain rfl (by decide +kernel)) hisR ?_
  intro p e s m args below meth c s₁ Bd hml0 hP hK
  obtain ⟨rfl, hZ, hh⟩ := hP
  have hx := Bd.exec
  have hby := Bd.bytes
  have hml : c.maxLocals = 2 := hml0
  have hown : s.vm.findClass "java/lang/Math" = some m.cls := findClass_of_methodNamed Bd.named
  have hnm := (name_of_methodNamed Bd.named Bd.method).1
  have X0 : Stand p l e ({ frames := 0, cells := 0, slots := 0, locals := 0 } : Room) s m #[(.int p0), (.int p1)] below meth c s₁ [] 0 0 := Stand.of_body Bd
  have e0 : s₁.heap = h0 := by rw [← hh, Bd.state]; rfl
  have N0 := Fr.nil n0
  have pre0 : ∀ t, Steps p.tables e below (s₁.setTop (mkF m 0 #[.val (.int p0), .val (.int p1)] [])) t → Steps p.tables e below (s₁.setTop (entryFrame m #[(.int p0), (.int p1)] 2)) t := fun t k => castTop (ef_min m p0 p1) k
  have k1 : Go p.tables e below (s₁.setTop (mkF m 0 #[.val (.int p0), .val (.int p1)] [])) (s₁.setTop (mkF m 2 #[.val (.int p0), .val (.int p1)] [(.int p1), (.int p0)])) := by
    intro t ht
    refine XS.iloadN X0.here hx rfl (hb hby d_min_0) rfl ?_
    show Steps p.tables e below (s₁.setTop (mkF m 1 #[.val (.int p0), .val (.int p1)] [(.int p0)])) _
    refine XS.iloadN X0.here hx rfl (hb hby d_min_1) rfl ?_
    exact ht
  by_cases hc2 : p1 < p0
  · have k3 : Go p.tables e below (s₁.setTop (mkF m 2 #[.val (.int p0), .val (.int p1)] [(.int p1), (.int p0)])) (s₁.setTop (mkF m 10 #[.val (.int p0), .val (.int p1)] [(.int p1)])) := by
      intro t ht
      refine XS.icmpYes X0.here hx rfl (pc0 := 2) (pc' := 9) rfl (hb hby d_min_2) rfl (tlt hc2).2.2.1 (by decide) (by decide) ?_
      show Steps p.tables e below (s₁.setTop (mkF m 9 #[.val (.int p0), .val (.int p1)] [])) _
      refine XS.iloadN X0.here hx rfl (hb hby d_min_9) rfl ?_
      exact ht
    obtain ⟨fs, hr, hrun, hended, hW, hsame⟩ := X0.leave (v := some (.int p1)) (fun h => by rw [Bd.returns] at h; cases h)
    refine ⟨_, _, pre0 _ ((goT k1 k3) _ (retI X0 hx Bd.returns (hb hby d_min_10) hr)), hrun, hended, _, _, rfl, ?_, ⟨_, rfl⟩, hW, hsame.mono (by decide) (by decide)⟩
    show Q_min Z p0 p1 h0 n0 _ s₁.heap _
    rw [e0]
    exact ⟨by simp only [f_min, if_pos hc2], N0, rfl⟩
  · have k4 : Go p.tables e below (s₁.setTop (mkF m 2 #[.val (.int p0), .val (.int p1)] [(.int p1), (.int p0)])) (s₁.setTop (mkF m 10 #[.val (.int p0), .val (.int p1)] [(.int p0)])) := by
      intro t ht
      refine XS.icmpNo X0.here hx rfl (hb hby d_min_2) rfl (flt hc2).2.2.1 ?_
      show Steps p.tables e below (s₁.setTop (mkF m 5 #[.val (.int p0), .val (.int p1)] [])) _
      refine XS.iloadN X0.here hx rfl (hb hby d_min_5) rfl ?_
      show Steps p.tables e below (s₁.setTop (mkF m 6 #[.val (.int p0), .val (.int p1)] [(.int p0)])) _
      refine XS.goto X0.here hx rfl (pc0 := 6) (pc' := 10) rfl (hb hby d_min_6) (by decide) (by decide) ?_
      exact ht
    obtain ⟨fs, hr, hrun, hended, hW, hsame⟩ := X0.leave (v := some (.int p0)) (fun h => by rw [Bd.returns] at h; cases h)
    refine ⟨_, _, pre0 _ ((goT k1 k4) _ (retI X0 hx Bd.returns (hb hby d_min_10) hr)), hrun, hended, _, _, rfl, ?_, ⟨_, rfl⟩, hW, hsame.mono (by decide) (by decide)⟩
    show Q_min Z p0 p1 h0 n0 _ s₁.heap _
    rw [e0]
    exact ⟨by simp only [f_min, if_neg hc2], N0, rfl⟩
theorem d_idxChar_0 : decode jdk_43_method_23_code 0 = .ok (.iload_n 1, 1) := by decide +kernel
theorem d_idxChar_1 : decode jdk_43_method_23_code 1 = .ok (.i2b, 1) := by decide +kernel
theorem d_idxChar_2 : decode jdk_43_method_23_code 2 = .ok (.istore 4, 2) := by decide +kernel
theorem d_idxChar_4 : decode jdk_43_method_23_code 4 = .ok (.iload_n 2, 1) := by decide +kernel
theorem d_idxChar_5 : decode jdk_43_method_23_code 5 = .ok (.istore 5, 2) := by decide +kernel
theorem d_idxChar_7 : decode jdk_43_method_23_code 7 = .ok (.iload 5, 2) := by decide +kernel
theorem d_idxChar_9 : decode jdk_43_method_23_code 9 = .ok (.iload_n 3, 1) := by decide +kernel
theorem d_idxChar_10 : decode jdk_43_method_23_code 10 = .ok (.if_icmp .ge 21, 3) := by decide +kernel
theorem d_idxChar_13 : decode jdk_43_method_23_code 13 = .ok (.aload_n 0, 1) := by decide +kernel
theorem d_idxChar_14 : decode jdk_43_method_23_code 14 = .ok (.iload 5, 2) := by decide +kernel
theorem d_idxChar_16 : decode jdk_43_method_23_code 16 = .ok (.baload, 1) := by decide +kernel
theorem d_idxChar_17 : decode jdk_43_method_23_code 17 = .ok (.iload 4, 2) := by decide +kernel
theorem d_idxChar_19 : decode jdk_43_method_23_code 19 = .ok (.if_icmp .ne 6, 3) := by decide +kernel
theorem d_idxChar_22 : decode jdk_43_method_23_code 22 = .ok (.iload 5, 2) := by decide +kernel
theorem d_idxChar_24 : decode jdk_43_method_23_code 24 = .ok (.ireturn, 1) := by decide +kernel
theorem d_idxChar_25 : decode jdk_43_method_23_code 25 = .ok (.iinc 5 1, 3) := by decide +kernel
theorem d_idxChar_28 : decode jdk_43_method_23_code 28 = .ok (.goto (-21), 3) := by decide +kernel
theorem d_idxChar_31 : decode jdk_43_method_23_code 31 = .ok (.iconst (-1), 1) := by decide +kernel
theorem d_idxChar_32 : decode jdk_43_method_23_code 32 = .ok (.ireturn, 1) := by decide +kernel
theorem ef_idxChar (m : MethodId) (x0 : Addr) (x3 : Int32) : entryFrame m #[(.ref x0), (.int (42 : Int32)), (.int (0 : Int32)), (.int x3)] 6 = mkF m 0 #[.val (.ref x0), .val (.int (42 : Int32)), .val (.int (0 : Int32)), .val (.int x3), .unset, .unset] [] := by first | (simp [entryFrame, mkF, argsToLocals, Value.category]; done) | rfl
def f_idxChar (p3 : Int32) (cs : List Int32) : Int32 := (if (0 : Int32) < p3 then (if (StrChars.lo8 (cs.getD 0 0)) = ((42 : Int32).toInt8.toInt32) then (0 : Int32) else (if (1 : Int32) < p3 then (if (StrChars.lo8 (cs.getD 1 0)) = ((42 : Int32).toInt8.toInt32) then (1 : Int32) else (if (2 : Int32) < p3 then (if (StrChars.lo8 (cs.getD 2 0)) = ((42 : Int32).toInt8.toInt32) then (2 : Int32) else (-1 : Int32)) else (-1 : Int32))) else (-1 : Int32))) else (-1 : Int32))
def Q_idxChar (Z : State) (r0 : Addr) (p3 : Int32) (kA : ClassId) (cs : List Int32) (h0 : Heap) (n0 : Nat) (v : Option Value) (h : Heap) (L : List Loc) : Prop := v = some (.int (f_idxChar p3 cs)) ∧ Fr n0 L ∧ h = h0
set_option maxRecDepth 65536 in
set_option maxHeartbeats 40000000 in
theorem rm_idxChar (l : Launch) (Z : State) (a0 : Array Value) (hw : ∀ d ∈ tables_1, d.before a0 Z = true) (ws : List Jvm.Cond) (r0 : Addr) (p3 : Int32) (kA : ClassId) (cs : List Int32) (h0 : Heap) (n0 : Nat) (Z0 : n0 ≤ h0.size) (V_A : Arv Z h0 r0 kA .byte p3 ((cs.map StrChars.lo8).map Value.int) (.int (0 : Int32))) (hl3 : ¬ ((3 : Int32) < p3)) :
    MetFree l (⟨"java/lang/StringLatin1", "indexOfChar", "([BIII)I"⟩ : MethodName) (head1 (Jvm.Cond.code (⟨"java/lang/StringLatin1", "indexOfChar", "([BIII)I"⟩ : MethodName) jdk_43_method_23_code 6 (some .int) :: ws) ({ frames := 0, cells := 0, slots := 0, locals := 0 } : Room)) (fun a U => a = #[(.ref r0), (.int (42 : Int32)), (.int (0 : Int32)), (.int p3)] ∧ Z.Warmed39 U.vm ∧ U.heap = h0) (fun _ _ _ _ _ => True) (fun _ U o U' => ∃ v L, o = .returned v ∧ Q_idxChar Z r0 p3 kA cs h0 n0 v U'.heap L ∧ FrameEnd U o U' L ({ frames := 0, cells := 0, slots := 0, locals := 0 } : Room).cells ({ frames := 0, cells := 0, slots := 0, locals := 0 } : Room).slots) := by
  refine MetFree.of_bodySF (plainFor_of_name pn_2) hisR ?_
  intro p e s m args below meth c s₁ Bd hml0 hP hK
  obtain ⟨rfl, hZ, hh⟩ := hP
  have hx := Bd.exec
  have hby := Bd.bytes
  have hml : c.maxLocals = 6 := hml0
  have hown : s.vm.findClass "java/lang/StringLatin1" = some m.cls := findClass_of_methodNamed Bd.named
  have hnm := (name_of_methodNamed Bd.named Bd.method).1
  have X0 : Stand p l e ({ frames := 0, cells := 0, slots := 0, locals := 0 } : Room) s m #[(.ref r0), (.int (42 : Int32)), (.int (0 : Int32)), (.int p3)] below meth c s₁ [] 0 0 := Stand.of_body Bd
  have e0 : s₁.heap = h0 := by rw [← hh, Bd.state]; rfl
  have N0 := Fr.nil n0
  have pre0 : ∀ t, Steps p.tables e below (s₁.setTop (mkF m 0 #[.val (.ref r0), .val (.int (42 : Int32)), .val (.int (0 : Int32)), .val (.int p3), .unset, .unset] [])) t → Steps p.tables e below (s₁.setTop (entryFrame m #[(.ref r0), (.int (42 : Int32)), (.int (0 : Int32)), (.int p3)] 6)) t := fun t k => castTop (ef_idxChar m r0 p3) k
  have k1 : Go p.tables e below (s₁.setTop (mkF m 0 #[.val (.ref r0), .val (.int (42 : Int32)), .val (.int (0 : Int32)), .val (.int p3), .unset, .unset] [])) (s₁.setTop (mkF m 10 #[.val (.ref r0), .val (.int (42 : Int32)), .val (.int (0 : Int32)), .val (.int p3), .val (.int ((42 : Int32).toInt8.toInt32)), .val (.int (0 : Int32))] [(.int p3), (.int (0 : Int32))])) := by
    intro t ht
    refine XS.iloadN X0.here hx rfl (hb hby d_idxChar_0) rfl ?_
    show Steps p.tables e below (s₁.setTop (mkF m 1 #[.val (.ref r0), .val (.int (42 : Int32)), .val (.int (0 : Int32)), .val (.int p3), .unset, .unset] [(.int (42 : Int32))])) _
    refine XS.i2b X0.here hx rfl (hb hby d_idxChar_1) rfl ?_
    show Steps p.tables e below (s₁.setTop (mkF m 2 #[.val (.ref r0), .val (.int (42 : Int32)), .val (.int (0 : Int32)), .val (.int p3), .unset, .unset] [(.int ((42 : Int32).toInt8.toInt32))])) _
    refine XS.istore X0.here hx rfl (hb hby d_idxChar_2) rfl (l' := #[.val (.ref r0), .val (.int (42 : Int32)), .val (.int (0 : Int32)), .val (.int p3), .val (.int ((42 : Int32).toInt8.toInt32)), .unset]) rfl ?_
    show Steps p.tables e below (s₁.setTop (mkF m 4 #[.val (.ref r0), .val (.int (42 : Int32)), .val (.int (0 : Int32)), .val (.int p3), .val (.int ((42 : Int32).toInt8.toInt32)), .unset] [])) _
    refine XS.iloadN X0.here hx rfl (hb hby d_idxChar_4) rfl ?_
    show Steps p.tables e below (s₁.setTop (mkF m 5 #[.val (.ref r0), .val (.int (42 : Int32)), .val (.int (0 : Int32)), .val (.int p3), .val (.int ((42 : Int32).toInt8.toInt32)), .unset] [(.int (0 : Int32))])) _
    refine XS.istore X0.here hx rfl (hb hby d_idxChar_5) rfl (l' := #[.val (.ref r0), .val (.int (42 : Int32)), .val (.int (0 : Int32)), .val (.int p3), .val (.int ((42 : Int32).toInt8.toInt32)), .val (.int (0 : Int32))]) rfl ?_
    show Steps p.tables e below (s₁.setTop (mkF m 7 #[.val (.ref r0), .val (.int (42 : Int32)), .val (.int (0 : Int32)), .val (.int p3), .val (.int ((42 : Int32).toInt8.toInt32)), .val (.int (0 : Int32))] [])) _
    refine XS.iload X0.here hx rfl (hb hby d_idxChar_7) rfl ?_
    show Steps p.tables e below (s₁.setTop (mkF m 9 #[.val (.ref r0), .val (.int (42 : Int32)), .val (.int (0 : Int32)), .val (.int p3), .val (.int ((42 : Int32).toInt8.toInt32)), .val (.int (0 : Int32))] [(.int (0 : Int32))])) _
    refine XS.iloadN X0.here hx rfl (hb hby d_idxChar_9) rfl ?_
    exact ht
  by_cases hc2 : (0 : Int32) < p3
  · have k3 : Go p.tables e below (s₁.setTop (mkF m 10 #[.val (.ref r0), .val (.int (42 : Int32)), .val (.int (0 : Int32)), .val (.int p3), .val (.int ((42 : Int32).toInt8.toInt32)), .val (.int (0 : Int32))] [(.int p3), (.int (0 : Int32))])) (s₁.setTop (mkF m 16 #[.val (.ref r0), .val (.int (42 : Int32)), .val (.int (0 : Int32)), .val (.int p3), .val (.int ((42 : Int32).toInt8.toInt32)), .val (.int (0 : Int32))] [(.int (0 : Int32)), (.ref r0)])) := by
      intro t ht
      refine XS.icmpNo X0.here hx rfl (hb hby d_idxChar_10) rfl (tlt hc2).2.1 ?_
      show Steps p.tables e below (s₁.setTop (mkF m 13 #[.val (.ref r0), .val (.int (42 : Int32)), .val (.int (0 : Int32)), .val (.int p3), .val (.int ((42 : Int32).toInt8.toInt32)), .val (.int (0 : Int32))] [])) _
      refine XS.aloadN X0.here hx rfl (hb hby d_idxChar_13) rfl rfl ?_
      show Steps p.tables e below (s₁.setTop (mkF m 14 #[.val (.ref r0), .val (.int (42 : Int32)), .val (.int (0 : Int32)), .val (.int p3), .val (.int ((42 : Int32).toInt8.toInt32)), .val (.int (0 : Int32))] [(.ref r0)])) _
      refine XS.iload X0.here hx rfl (hb hby d_idxChar_14) rfl ?_
      exact ht
    obtain ⟨cl4, Ar4, q4, S4, M4, H4, G4⟩ := id V_A
    have hin4 : ¬ ((0 : Int32) < 0 ∨ cl4.slots.size ≤ ((0 : Int32)).toNatClampNeg) := inb_of S4 ⟨by decide, hc2⟩
    have hat4 : cl4.slots[((0 : Int32)).toNatClampNeg]? = some (.int (StrChars.lo8 (cs.getD 0 0))) := (H4 _ (Nat.lt_of_not_le fun y => hin4 (Or.inr y))).trans (congrArg some (own_getlo cs 0))
    have k5 : Go p.tables e below (s₁.setTop (mkF m 16 #[.val (.ref r0), .val (.int (42 : Int32)), .val (.int (0 : Int32)), .val (.int p3), .val (.int ((42 : Int32).toInt8.toInt32)), .val (.int (0 : Int32))] [(.int (0 : Int32)), (.ref r0)])) (s₁.setTop (mkF m 19 #[.val (.ref r0), .val (.int (42 : Int32)), .val (.int (0 : Int32)), .val (.int p3), .val (.int ((42 : Int32).toInt8.toInt32)), .val (.int (0 : Int32))] [(.int ((42 : Int32).toInt8.toInt32)), (.int (StrChars.lo8 (cs.getD 0 0)))])) := by
      intro t ht
      refine X0.baloadBytes hx (j := (0 : Int32)) (v := (.int (StrChars.lo8 (cs.getD 0 0)))) (by rw [e0]; exact Ar4.1) (State.isArrayOf_alike hZ.alike Ar4.2.1) Ar4.2.2 hin4 hat4 (g := (mkF m 16 #[.val (.ref r0), .val (.int (42 : Int32)), .val (.int (0 : Int32)), .val (.int p3), .val (.int ((42 : Int32).toInt8.toInt32)), .val (.int (0 : Int32))] [(.int (0 : Int32)), (.ref r0)])) rfl rfl (hb hby d_idxChar_16) _ ?_
      show Steps p.tables e below (s₁.setTop (mkF m 17 #[.val (.ref r0), .val (.int (42 : Int32)), .val (.int (0 : Int32)), .val (.int p3), .val (.int ((42 : Int32).toInt8.toInt32)), .val (.int (0 : Int32))] [(.int (StrChars.lo8 (cs.getD 0 0)))])) _
      refine XS.iload X0.here hx rfl (hb hby d_idxChar_17) rfl ?_
      exact ht
    by_cases hc6 : (StrChars.lo8 (cs.getD 0 0)) = ((42 : Int32).toInt8.toInt32)
    · have k7 : Go p.tables e below (s₁.setTop (mkF m 19 #[.val (.ref r0), .val (.int (42 : Int32)), .val (.int (0 : Int32)), .val (.int p3), .val (.int ((42 : Int32).toInt8.toInt32)), .val (.int (0 : Int32))] [(.int ((42 : Int32).toInt8.toInt32)), (.int (StrChars.lo8 (cs.getD 0 0)))])) (s₁.setTop (mkF m 24 #[.val (.ref r0), .val (.int (42 : Int32)), .val (.int (0 : Int32)), .val (.int p3), .val (.int ((42 : Int32).toInt8.toInt32)), .val (.int (0 : Int32))] [(.int (0 : Int32))])) := by
        intro t ht
        refine XS.icmpNo X0.here hx rfl (hb hby d_idxChar_19) rfl (teq hc6).2 ?_
        show Steps p.tables e below (s₁.setTop (mkF m 22 #[.val (.ref r0), .val (.int (42 : Int32)), .val (.int (0 : Int32)), .val (.int p3), .val (.int ((42 : Int32).toInt8.toInt32)), .val (.int (0 : Int32))] [])) _
        refine XS.iload X0.here hx rfl (hb hby d_idxChar_22) rfl ?_
        exact ht
      obtain ⟨fs, hr, hrun, hended, hW, hsame⟩ := X0.leave (v := some (.int (0 : Int32))) (fun h => by rw [Bd.returns] at h; cases h)
      refine ⟨_, _, pre0 _ ((goT k1 (goT k3 (goT k5 k7))) _ (retI X0 hx Bd.returns (hb hby d_idxChar_24) hr)), hrun, hended, _, _, rfl, ?_, ⟨_, rfl⟩, hW, hsame.mono (by decide) (by decide)⟩
      show Q_idxChar Z r0 p3 kA cs h0 n0 _ s₁.heap _
      rw [e0]
      exact ⟨by simp only [f_idxChar, if_neg hl3, if_pos hc2, if_pos hc6], N0, rfl⟩
    · have k8 : Go p.tables e below (s₁.setTop (mkF m 19 #[.val (.ref r0), .val (.int (42 : Int32)), .val (.int (0 : Int32)), .val (.int p3), .val (.int ((42 : Int32).toInt8.toInt32)), .val (.int (0 : Int32))] [(.int ((42 : Int32).toInt8.toInt32)), (.int (StrChars.lo8 (cs.getD 0 0)))])) (s₁.setTop (mkF m 10 #[.val (.ref r0), .val (.int (42 : Int32)), .val (.int (0 : Int32)), .val (.int p3), .val (.int ((42 : Int32).toInt8.toInt32)), .val (.int (1 : Int32))] [(.int p3), (.int (1 : Int32))])) := by
        intro t ht
        refine XS.icmpYes X0.here hx rfl (pc0 := 19) (pc' := 25) rfl (hb hby d_idxChar_19) rfl (feq hc6).2 (by decide) (by decide) ?_
        show Steps p.tables e below (s₁.setTop (mkF m 25 #[.val (.ref r0), .val (.int (42 : Int32)), .val (.int (0 : Int32)), .val (.int p3), .val (.int ((42 : Int32).toInt8.toInt32)), .val (.int (0 : Int32))] [])) _
        refine XS.iinc X0.here hx rfl (hb hby d_idxChar_25) rfl (l' := #[.val (.ref r0), .val (.int (42 : Int32)), .val (.int (0 : Int32)), .val (.int p3), .val (.int ((42 : Int32).toInt8.toInt32)), .val (.int (1 : Int32))]) rfl ?_
        show Steps p.tables e below (s₁.setTop (mkF m 28 #[.val (.ref r0), .val (.int (42 : Int32)), .val (.int (0 : Int32)), .val (.int p3), .val (.int ((42 : Int32).toInt8.toInt32)), .val (.int (1 : Int32))] [])) _
        refine XS.goto X0.here hx rfl (pc0 := 28) (pc' := 7) rfl (hb hby d_idxChar_28) (by decide) (by decide) ?_
        show Steps p.tables e below (s₁.setTop (mkF m 7 #[.val (.ref r0), .val (.int (42 : Int32)), .val (.int (0 : Int32)), .val (.int p3), .val (.int ((42 : Int32).toInt8.toInt32)), .val (.int (1 : Int32))] [])) _
        refine XS.iload X0.here hx rfl (hb hby d_idxChar_7) rfl ?_
        show Steps p.tables e below (s₁.setTop (mkF m 9 #[.val (.ref r0), .val (.int (42 : Int32)), .val (.int (0 : Int32)), .val (.int p3), .val (.int ((42 : Int32).toInt8.toInt32)), .val (.int (1 : Int32))] [(.int (1 : Int32))])) _
        refine XS.iloadN X0.here hx rfl (hb hby d_idxChar_9) rfl ?_
        exact ht
      by_cases hc9 : (1 : Int32) < p3
      · have k10 : Go p.tables e below (s₁.setTop (mkF m 10 #[.val (.ref r0), .val (.int (42 : Int32)), .val (.int (0 : Int32)), .val (.int p3), .val (.int ((42 : Int32).toInt8.toInt32)), .val (.int (1 : Int32))] [(.int p3), (.int (1 : Int32))])) (s₁.setTop (mkF m 16 #[.val (.ref r0), .val (.int (42 : Int32)), .val (.int (0 : Int32)), .val (.int p3), .val (.int ((42 : Int32).toInt8.toInt32)), .val (.int (1 : Int32))] [(.int (1 : Int32)), (.ref r0)])) := by
          intro t ht
          refine XS.icmpNo X0.here hx rfl (hb hby d_idxChar_10) rfl (tlt hc9).2.1 ?_
          show Steps p.tables e below (s₁.setTop (mkF m 13 #[.val (.ref r0), .val (.int (42 : Int32)), .val (.int (0 : Int32)), .val (.int p3), .val (.int ((42 : Int32).toInt8.toInt32)), .val (.int (1 : Int32))] [])) _
          refine XS.aloadN X0.here hx rfl (hb hby d_idxChar_13) rfl rfl ?_
          show Steps p.tables e below (s₁.setTop (mkF m 14 #[.val (.ref r0), .val (.int (42 : Int32)), .val (.int (0 : Int32)), .val (.int p3), .val (.int ((42 : Int32).toInt8.toInt32)), .val (.int (1 : Int32))] [(.ref r0)])) _
          refine XS.iload X0.here hx rfl (hb hby d_idxChar_14) rfl ?_
          exact ht
        obtain ⟨cl11, Ar11, q11, S11, M11, H11, G11⟩ := id V_A
        have hin11 : ¬ ((1 : Int32) < 0 ∨ cl11.slots.size ≤ ((1 : Int32)).toNatClampNeg) := inb_of S11 ⟨by decide, hc9⟩
        have hat11 : cl11.slots[((1 : Int32)).toNatClampNeg]? = some (.int (StrChars.lo8 (cs.getD 1 0))) := (H11 _ (Nat.lt_of_not_le fun y => hin11 (Or.inr y))).trans (congrArg some (own_getlo cs 1))
        have k12 : Go p.tables e below (s₁.setTop (mkF m 16 #[.val (.ref r0), .val (.int (42 : Int32)), .val (.int (0 : Int32)), .val (.int p3), .val (.int ((42 : Int32).toInt8.toInt32)), .val (.int (1 : Int32))] [(.int (1 : Int32)), (.ref r0)])) (s₁.setTop (mkF m 19 #[.val (.ref r0), .val (.int (42 : Int32)), .val (.int (0 : Int32)), .val (.int p3), .val (.int ((42 : Int32).toInt8.toInt32)), .val (.int (1 : Int32))] [(.int ((42 : Int32).toInt8.toInt32)), (.int (StrChars.lo8 (cs.getD 1 0)))])) := by
          intro t ht
          refine X0.baloadBytes hx (j := (1 : Int32)) (v := (.int (StrChars.lo8 (cs.getD 1 0)))) (by rw [e0]; exact Ar11.1) (State.isArrayOf_alike hZ.alike Ar11.2.1) Ar11.2.2 hin11 hat11 (g := (mkF m 16 #[.val (.ref r0), .val (.int (42 : Int32)), .val (.int (0 : Int32)), .val (.int p3), .val (.int ((42 : Int32).toInt8.toInt32)), .val (.int (1 : Int32))] [(.int (1 : Int32)), (.ref r0)])) rfl rfl (hb hby d_idxChar_16) _ ?_
          show Steps p.tables e below (s₁.setTop (mkF m 17 #[.val (.ref r0), .val (.int (42 : Int32)), .val (.int (0 : Int32)), .val (.int p3), .val (.int ((42 : Int32).toInt8.toInt32)), .val (.int (1 : Int32))] [(.int (StrChars.lo8 (cs.getD 1 0)))])) _
          refine XS.iload X0.here hx rfl (hb hby d_idxChar_17) rfl ?_
          exact ht
        by_cases hc13 : (StrChars.lo8 (cs.getD 1 0)) = ((42 : Int32).toInt8.toInt32)
        · have k14 : Go p.tables e below (s₁.setTop (mkF m 19 #[.val (.ref r0), .val (.int (42 : Int32)), .val (.int (0 : Int32)), .val (.int p3), .val (.int ((42 : Int32).toInt8.toInt32)), .val (.int (1 : Int32))] [(.int ((42 : Int32).toInt8.toInt32)), (.int (StrChars.lo8 (cs.getD 1 0)))])) (s₁.setTop (mkF m 24 #[.val (.ref r0), .val (.int (42 : Int32)), .val (.int (0 : Int32)), .val (.int p3), .val (.int ((42 : Int32).toInt8.toInt32)), .val (.int (1 : Int32))] [(.int (1 : Int32))])) := by
            intro t ht
            refine XS.icmpNo X0.here hx rfl (hb hby d_idxChar_19) rfl (teq hc13).2 ?_
            show Steps p.tables e below (s₁.setTop (mkF m 22 #[.val (.ref r0), .val (.int (42 : Int32)), .val (.int (0 : Int32)), .val (.int p3), .val (.int ((42 : Int32).toInt8.toInt32)), .val (.int (1 : Int32))] [])) _
            refine XS.iload X0.here hx rfl (hb hby d_idxChar_22) rfl ?_
            exact ht
          obtain ⟨fs, hr, hrun, hended, hW, hsame⟩ := X0.leave (v := some (.int (1 : Int32))) (fun h => by rw [Bd.returns] at h; cases h)
          refine ⟨_, _, pre0 _ ((goT k1 (goT k3 (goT k5 (goT k8 (goT k10 (goT k12 k14)))))) _ (retI X0 hx Bd.returns (hb hby d_idxChar_24) hr)), hrun, hended, _, _, rfl, ?_, ⟨_, rfl⟩, hW, hsame.mono (by decide) (by decide)⟩
          show Q_idxChar Z r0 p3 kA cs h0 n0 _ s₁.heap _
          rw [e0]
          exact ⟨by simp only [f_idxChar, if_neg hl3, if_pos hc2, if_neg hc6, if_pos hc9, if_pos hc13], N0, rfl⟩
        · have k15 : Go p.tables e below (s₁.setTop (mkF m 19 #[.val (.ref r0), .val (.int (42 : Int32)), .val (.int (0 : Int32)), .val (.int p3), .val (.int ((42 : Int32).toInt8.toInt32)), .val (.int (1 : Int32))] [(.int ((42 : Int32).toInt8.toInt32)), (.int (StrChars.lo8 (cs.getD 1 0)))])) (s₁.setTop (mkF m 10 #[.val (.ref r0), .val (.int (42 : Int32)), .val (.int (0 : Int32)), .val (.int p3), .val (.int ((42 : Int32).toInt8.toInt32)), .val (.int (2 : Int32))] [(.int p3), (.int (2 : Int32))])) := by
            intro t ht
            refine XS.icmpYes X0.here hx rfl (pc0 := 19) (pc' := 25) rfl (hb hby d_idxChar_19) rfl (feq hc13).2 (by decide) (by decide) ?_
            show Steps p.tables e below (s₁.setTop (mkF m 25 #[.val (.ref r0), .val (.int (42 : Int32)), .val (.int (0 : Int32)), .val (.int p3), .val (.int ((42 : Int32).toInt8.toInt32)), .val (.int (1 : Int32))] [])) _
            refine XS.iinc X0.here hx rfl (hb hby d_idxChar_25) rfl (l' := #[.val (.ref r0), .val (.int (42 : Int32)), .val (.int (0 : Int32)), .val (.int p3), .val (.int ((42 : Int32).toInt8.toInt32)), .val (.int (2 : Int32))]) rfl ?_
            show Steps p.tables e below (s₁.setTop (mkF m 28 #[.val (.ref r0), .val (.int (42 : Int32)), .val (.int (0 : Int32)), .val (.int p3), .val (.int ((42 : Int32).toInt8.toInt32)), .val (.int (2 : Int32))] [])) _
            refine XS.goto X0.here hx rfl (pc0 := 28) (pc' := 7) rfl (hb hby d_idxChar_28) (by decide) (by decide) ?_
            show Steps p.tables e below (s₁.setTop (mkF m 7 #[.val (.ref r0), .val (.int (42 : Int32)), .val (.int (0 : Int32)), .val (.int p3), .val (.int ((42 : Int32).toInt8.toInt32)), .val (.int (2 : Int32))] [])) _
            refine XS.iload X0.here hx rfl (hb hby d_idxChar_7) rfl ?_
            show Steps p.tables e below (s₁.setTop (mkF m 9 #[.val (.ref r0), .val (.int (42 : Int32)), .val (.int (0 : Int32)), .val (.int p3), .val (.int ((42 : Int32).toInt8.toInt32)), .val (.int (2 : Int32))] [(.int (2 : Int32))])) _
            refine XS.iloadN X0.here hx rfl (hb hby d_idxChar_9) rfl ?_
            exact ht
          by_cases hc16 : (2 : Int32) < p3
          · have k17 : Go p.tables e below (s₁.setTop (mkF m 10 #[.val (.ref r0), .val (.int (42 : Int32)), .val (.int (0 : Int32)), .val (.int p3), .val (.int ((42 : Int32).toInt8.toInt32)), .val (.int (2 : Int32))] [(.int p3), (.int (2 : Int32))])) (s₁.setTop (mkF m 16 #[.val (.ref r0), .val (.int (42 : Int32)), .val (.int (0 : Int32)), .val (.int p3), .val (.int ((42 : Int32).toInt8.toInt32)), .val (.int (2 : Int32))] [(.int (2 : Int32)), (.ref r0)])) := by
              intro t ht
              refine XS.icmpNo X0.here hx rfl (hb hby d_idxChar_10) rfl (tlt hc16).2.1 ?_
              show Steps p.tables e below (s₁.setTop (mkF m 13 #[.val (.ref r0), .val (.int (42 : Int32)), .val (.int (0 : Int32)), .val (.int p3), .val (.int ((42 : Int32).toInt8.toInt32)), .val (.int (2 : Int32))] [])) _
              refine XS.aloadN X0.here hx rfl (hb hby d_idxChar_13) rfl rfl ?_
              show Steps p.tables e below (s₁.setTop (mkF m 14 #[.val (.ref r0), .val (.int (42 : Int32)), .val (.int (0 : Int32)), .val (.int p3), .val (.int ((42 : Int32).toInt8.toInt32)), .val (.int (2 : Int32))] [(.ref r0)])) _
              refine XS.iload X0.here hx rfl (hb hby d_idxChar_14) rfl ?_
              exact ht
            obtain ⟨cl18, Ar18, q18, S18, M18, H18, G18⟩ := id V_A
            have hin18 : ¬ ((2 : Int32) < 0 ∨ cl18.slots.size ≤ ((2 : Int32)).toNatClampNeg) := inb_of S18 ⟨by decide, hc16⟩
            have hat18 : cl18.slots[((2 : Int32)).toNatClampNeg]? = some (.int (StrChars.lo8 (cs.getD 2 0))) := (H18 _ (Nat.lt_of_not_le fun y => hin18 (Or.inr y))).trans (congrArg some (own_getlo cs 2))
            have k19 : Go p.tables e below (s₁.setTop (mkF m 16 #[.val (.ref r0), .val (.int (42 : Int32)), .val (.int (0 : Int32)), .val (.int p3), .val (.int ((42 : Int32).toInt8.toInt32)), .val (.int (2 : Int32))] [(.int (2 : Int32)), (.ref r0)])) (s₁.setTop (mkF m 19 #[.val (.ref r0), .val (.int (42 : Int32)), .val (.int (0 : Int32)), .val (.int p3), .val (.int ((42 : Int32).toInt8.toInt32)), .val (.int (2 : Int32))] [(.int ((42 : Int32).toInt8.toInt32)), (.int (StrChars.lo8 (cs.getD 2 0)))])) := by
              intro t ht
              refine X0.baloadBytes hx (j := (2 : Int32)) (v := (.int (StrChars.lo8 (cs.getD 2 0)))) (by rw [e0]; exact Ar18.1) (State.isArrayOf_alike hZ.alike Ar18.2.1) Ar18.2.2 hin18 hat18 (g := (mkF m 16 #[.val (.ref r0), .val (.int (42 : Int32)), .val (.int (0 : Int32)), .val (.int p3), .val (.int ((42 : Int32).toInt8.toInt32)), .val (.int (2 : Int32))] [(.int (2 : Int32)), (.ref r0)])) rfl rfl (hb hby d_idxChar_16) _ ?_
              show Steps p.tables e below (s₁.setTop (mkF m 17 #[.val (.ref r0), .val (.int (42 : Int32)), .val (.int (0 : Int32)), .val (.int p3), .val (.int ((42 : Int32).toInt8.toInt32)), .val (.int (2 : Int32))] [(.int (StrChars.lo8 (cs.getD 2 0)))])) _
              refine XS.iload X0.here hx rfl (hb hby d_idxChar_17) rfl ?_
              exact ht
            by_cases hc20 : (StrChars.lo8 (cs.getD 2 0)) = ((42 : Int32).toInt8.toInt32)
            · have k21 : Go p.tables e below (s₁.setTop (mkF m 19 #[.val (.ref r0), .val (.int (42 : Int32)), .val (.int (0 : Int32)), .val (.int p3), .val (.int ((42 : Int32).toInt8.toInt32)), .val (.int (2 : Int32))] [(.int ((42 : Int32).toInt8.toInt32)), (.int (StrChars.lo8 (cs.getD 2 0)))])) (s₁.setTop (mkF m 24 #[.val (.ref r0), .val (.int (42 : Int32)), .val (.int (0 : Int32)), .val (.int p3), .val (.int ((42 : Int32).toInt8.toInt32)), .val (.int (2 : Int32))] [(.int (2 : Int32))])) := by
                intro t ht
                refine XS.icmpNo X0.here hx rfl (hb hby d_idxChar_19) rfl (teq hc20).2 ?_
                show Steps p.tables e below (s₁.setTop (mkF m 22 #[.val (.ref r0), .val (.int (42 : Int32)), .val (.int (0 : Int32)), .val (.int p3), .val (.int ((42 : Int32).toInt8.toInt32)), .val (.int (2 : Int32))] [])) _
                refine XS.iload X0.here hx rfl (hb hby d_idxChar_22) rfl ?_
                exact ht
              obtain ⟨fs, hr, hrun, hended, hW, hsame⟩ := X0.leave (v := some (.int (2 : Int32))) (fun h => by rw [Bd.returns] at h; cases h)
              refine ⟨_, _, pre0 _ ((goT k1 (goT k3 (goT k5 (goT k8 (goT k10 (goT k12 (goT k15 (goT k17 (goT k19 k21))))))))) _ (retI X0 hx Bd.returns (hb hby d_idxChar_24) hr)), hrun, hended, _, _, rfl, ?_, ⟨_, rfl⟩, hW, hsame.mono (by decide) (by decide)⟩
              show Q_idxChar Z r0 p3 kA cs h0 n0 _ s₁.heap _
              rw [e0]
              exact ⟨by simp only [f_idxChar, if_neg hl3, if_pos hc2, if_neg hc6, if_pos hc9, if_neg hc13, if_pos hc16, if_pos hc20], N0, rfl⟩
            · have k22 : Go p.tables e below (s₁.setTop (mkF m 19 #[.val (.ref r0), .val (.int (42 : Int32)), .val (.int (0 : Int32)), .val (.int p3), .val (.int ((42 : Int32).toInt8.toInt32)), .val (.int (2 : Int32))] [(.int ((42 : Int32).toInt8.toInt32)), (.int (StrChars.lo8 (cs.getD 2 0)))])) (s₁.setTop (mkF m 32 #[.val (.ref r0), .val (.int (42 : Int32)), .val (.int (0 : Int32)), .val (.int p3), .val (.int ((42 : Int32).toInt8.toInt32)), .val (.int (3 : Int32))] [(.int (-1 : Int32))])) := by
                intro t ht
                refine XS.icmpYes X0.here hx rfl (pc0 := 19) (pc' := 25) rfl (hb hby d_idxChar_19) rfl (feq hc20).2 (by decide) (by decide) ?_
                show Steps p.tables e below (s₁.setTop (mkF m 25 #[.val (.ref r0), .val (.int (42 : Int32)), .val (.int (0 : Int32)), .val (.int p3), .val (.int ((42 : Int32).toInt8.toInt32)), .val (.int (2 : Int32))] [])) _
                refine XS.iinc X0.here hx rfl (hb hby d_idxChar_25) rfl (l' := #[.val (.ref r0), .val (.int (42 : Int32)), .val (.int (0 : Int32)), .val (.int p3), .val (.int ((42 : Int32).toInt8.toInt32)), .val (.int (3 : Int32))]) rfl ?_
                show Steps p.tables e below (s₁.setTop (mkF m 28 #[.val (.ref r0), .val (.int (42 : Int32)), .val (.int (0 : Int32)), .val (.int p3), .val (.int ((42 : Int32).toInt8.toInt32)), .val (.int (3 : Int32))] [])) _
                refine XS.goto X0.here hx rfl (pc0 := 28) (pc' := 7) rfl (hb hby d_idxChar_28) (by decide) (by decide) ?_
                show Steps p.tables e below (s₁.setTop (mkF m 7 #[.val (.ref r0), .val (.int (42 : Int32)), .val (.int (0 : Int32)), .val (.int p3), .val (.int ((42 : Int32).toInt8.toInt32)), .val (.int (3 : Int32))] [])) _
                refine XS.iload X0.here hx rfl (hb hby d_idxChar_7) rfl ?_
                show Steps p.tables e below (s₁.setTop (mkF m 9 #[.val (.ref r0), .val (.int (42 : Int32)), .val (.int (0 : Int32)), .val (.int p3), .val (.int ((42 : Int32).toInt8.toInt32)), .val (.int (3 : Int32))] [(.int (3 : Int32))])) _
                refine XS.iloadN X0.here hx rfl (hb hby d_idxChar_9) rfl ?_
                show Steps p.tables e below (s₁.setTop (mkF m 10 #[.val (.ref r0), .val (.int (42 : Int32)), .val (.int (0 : Int32)), .val (.int p3), .val (.int ((42 : Int32).toInt8.toInt32)), .val (.int (3 : Int32))] [(.int p3), (.int (3 : Int32))])) _
                refine XS.icmpYes X0.here hx rfl (pc0 := 10) (pc' := 31) rfl (hb hby d_idxChar_10) rfl (flt hl3).2.1 (by decide) (by decide) ?_
                show Steps p.tables e below (s₁.setTop (mkF m 31 #[.val (.ref r0), .val (.int (42 : Int32)), .val (.int (0 : Int32)), .val (.int p3), .val (.int ((42 : Int32).toInt8.toInt32)), .val (.int (3 : Int32))] [])) _
                refine XS.iconst X0.here hx rfl (hb hby d_idxChar_31) ?_
                exact ht
              obtain ⟨fs, hr, hrun, hended, hW, hsame⟩ := X0.leave (v := some (.int (-1 : Int32))) (fun h => by rw [Bd.returns] at h; cases h)
              refine ⟨_, _, pre0 _ ((goT k1 (goT k3 (goT k5 (goT k8 (goT k10 (goT k12 (goT k15 (goT k17 (goT k19 k22))))))))) _ (retI X0 hx Bd.returns (hb hby d_idxChar_32) hr)), hrun, hended, _, _, rfl, ?_, ⟨_, rfl⟩, hW, hsame.mono (by decide) (by decide)⟩
              show Q_idxChar Z r0 p3 kA cs h0 n0 _ s₁.heap _
              rw [e0]
              exact ⟨by simp only [f_idxChar, if_neg hl3, if_pos hc2, if_neg hc6, if_pos hc9, if_neg hc13, if_pos hc16, if_neg hc20], N0, rfl⟩
          · have k23 : Go p.tables e below (s₁.setTop (mkF m 10 #[.val (.ref r0), .val (.int (42 : Int32)), .val (.int (0 : Int32)), .val (.int p3), .val (.int ((42 : Int32).toInt8.toInt32)), .val (.int (2 : Int32))] [(.int p3), (.int (2 : Int32))])) (s₁.setTop (mkF m 32 #[.val (.ref r0), .val (.int (42 : Int32)), .val (.int (0 : Int32)), .val (.int p3), .val (.int ((42 : Int32).toInt8.toInt32)), .val (.int (2 : Int32))] [(.int (-1 : Int32))])) := by
              intro t ht
              refine XS.icmpYes X0.here hx rfl (pc0 := 10) (pc' := 31) rfl (hb hby d_idxChar_10) rfl (flt hc16).2.1 (by decide) (by decide) ?_
              show Steps p.tables e below (s₁.setTop (mkF m 31 #[.val (.ref r0), .val (.int (42 : Int32)), .val (.int (0 : Int32)), .val (.int p3), .val (.int ((42 : Int32).toInt8.toInt32)), .val (.int (2 : Int32))] [])) _
              refine XS.iconst X0.here hx rfl (hb hby d_idxChar_31) ?_
              exact ht
            obtain ⟨fs, hr, hrun, hended, hW, hsame⟩ := X0.leave (v := some (.int (-1 : Int32))) (fun h => by rw [Bd.returns] at h; cases h)
            refine ⟨_, _, pre0 _ ((goT k1 (goT k3 (goT k5 (goT k8 (goT k10 (goT k12 (goT k15 k23))))))) _ (retI X0 hx Bd.returns (hb hby d_idxChar_32) hr)), hrun, hended, _, _, rfl, ?_, ⟨_, rfl⟩, hW, hsame.mono (by decide) (by decide)⟩
            show Q_idxChar Z r0 p3 kA cs h0 n0 _ s₁.heap _
            rw [e0]
            exact ⟨by simp only [f_idxChar, if_neg hl3, if_pos hc2, if_neg hc6, if_pos hc9, if_neg hc13, if_neg hc16], N0, rfl⟩
      · have k24 : Go p.tables e below (s₁.setTop (mkF m 10 #[.val (.ref r0), .val (.int (42 : Int32)), .val (.int (0 : Int32)), .val (.int p3), .val (.int ((42 : Int32).toInt8.toInt32)), .val (.int (1 : Int32))] [(.int p3), (.int (1 : Int32))])) (s₁.setTop (mkF m 32 #[.val (.ref r0), .val (.int (42 : Int32)), .val (.int (0 : Int32)), .val (.int p3), .val (.int ((42 : Int32).toInt8.toInt32)), .val (.int (1 : Int32))] [(.int (-1 : Int32))])) := by
          intro t ht
          refine XS.icmpYes X0.here hx rfl (pc0 := 10) (pc' := 31) rfl (hb hby d_idxChar_10) rfl (flt hc9).2.1 (by decide) (by decide) ?_
          show Steps p.tables e below (s₁.setTop (mkF m 31 #[.val (.ref r0), .val (.int (42 : Int32)), .val (.int (0 : Int32)), .val (.int p3), .val (.int ((42 : Int32).toInt8.toInt32)), .val (.int (1 : Int32))] [])) _
          refine XS.iconst X0.here hx rfl (hb hby d_idxChar_31) ?_
          exact ht
        obtain ⟨fs, hr, hrun, hended, hW, hsame⟩ := X0.leave (v := some (.int (-1 : Int32))) (fun h => by rw [Bd.returns] at h; cases h)
        refine ⟨_, _, pre0 _ ((goT k1 (goT k3 (goT k5 (goT k8 k24)))) _ (retI X0 hx Bd.returns (hb hby d_idxChar_32) hr)), hrun, hended, _, _, rfl, ?_, ⟨_, rfl⟩, hW, hsame.mono (by decide) (by decide)⟩
        show Q_idxChar Z r0 p3 kA cs h0 n0 _ s₁.heap _
        rw [e0]
        exact ⟨by simp only [f_idxChar, if_neg hl3, if_pos hc2, if_neg hc6, if_neg hc9], N0, rfl⟩
  · have k25 : Go p.tables e below (s₁.setTop (mkF m 10 #[.val (.ref r0), .val (.int (42 : Int32)), .val (.int (0 : Int32)), .val (.int p3), .val (.int ((42 : Int32).toInt8.toInt32)), .val (.int (0 : Int32))] [(.int p3), (.int (0 : Int32))])) (s₁.setTop (mkF m 32 #[.val (.ref r0), .val (.int (42 : Int32)), .val (.int (0 : Int32)), .val (.int p3), .val (.int ((42 : Int32).toInt8.toInt32)), .val (.int (0 : Int32))] [(.int (-1 : Int32))])) := by
      intro t ht
      refine XS.icmpYes X0.here hx rfl (pc0 := 10) (pc' := 31) rfl (hb hby d_idxChar_10) rfl (flt hc2).2.1 (by decide) (by decide) ?_
      show Steps p.tables e below (s₁.setTop (mkF m 31 #[.val (.ref r0), .val (.int (42 : Int32)), .val (.int (0 : Int32)), .val (.int p3), .val (.int ((42 : Int32).toInt8.toInt32)), .val (.int (0 : Int32))] [])) _
      refine XS.iconst X0.here hx rfl (hb hby d_idxChar_31) ?_
      exact ht
    obtain ⟨fs, hr, hrun, hended, hW, hsame⟩ := X0.leave (v := some (.int (-1 : Int32))) (fun h => by rw [Bd.returns] at h; cases h)
    refine ⟨_, _, pre0 _ ((goT k1 k25) _ (retI X0 hx Bd.returns (hb hby d_idxChar_32) hr)), hrun, hended, _, _, rfl, ?_, ⟨_, rfl⟩, hW, hsame.mono (by decide) (by decide)⟩
    show Q_idxChar Z r0 p3 kA cs h0 n0 _ s₁.heap _
    rw [e0]
    exact ⟨by simp only [f_idxChar, if_neg hl3, if_neg hc2], N0, rfl⟩
theorem pd_2 : parseMethodDescriptor "(I)Z" = some ⟨[.int], some .boolean⟩ := by decide +kernel
theorem pd_3 : parseMethodDescriptor "(II)I" = some ⟨[.int, .int], some .int⟩ := by decide +kernel
theorem pd_4 : parseMethodDescriptor "([BIII)I" = some ⟨[(.array .byte), .int, .int, .int], some .int⟩ := by decide +kernel
theorem d_idxL_0 : decode jdk_43_method_22_code 0 = .ok (.iload_n 1, 1) := by decide +kernel
theorem d_idxL_1 : decode jdk_43_method_22_code 1 = .ok (.invokestatic 88, 3) := by decide +kernel
theorem d_idxL_4 : decode jdk_43_method_22_code 4 = .ok (.ifCond .ne 5, 3) := by decide +kernel
theorem d_idxL_9 : decode jdk_43_method_22_code 9 = .ok (.iload_n 2, 1) := by decide +kernel
theorem d_idxL_10 : decode jdk_43_method_22_code 10 = .ok (.iconst 0, 1) := by decide +kernel
theorem d_idxL_11 : decode jdk_43_method_22_code 11 = .ok (.invokestatic 92, 3) := by decide +kernel
theorem d_idxL_14 : decode jdk_43_method_22_code 14 = .ok (.istore_n 2, 1) := by decide +kernel
theorem d_idxL_15 : decode jdk_43_method_22_code 15 = .ok (.iload_n 3, 1) := by decide +kernel
theorem d_idxL_16 : decode jdk_43_method_22_code 16 = .ok (.aload_n 0, 1) := by decide +kernel
theorem d_idxL_17 : decode jdk_43_method_22_code 17 = .ok (.arraylength, 1) := by decide +kernel
theorem d_idxL_18 : decode jdk_43_method_22_code 18 = .ok (.invokestatic 38, 3) := by decide +kernel
theorem d_idxL_21 : decode jdk_43_method_22_code 21 = .ok (.istore_n 3, 1) := by decide +kernel
theorem d_idxL_22 : decode jdk_43_method_22_code 22 = .ok (.iload_n 2, 1) := by decide +kernel
theorem d_idxL_23 : decode jdk_43_method_22_code 23 = .ok (.iload_n 3, 1) := by decide +kernel
theorem d_idxL_24 : decode jdk_43_method_22_code 24 = .ok (.if_icmp .lt 5, 3) := by decide +kernel
theorem d_idxL_27 : decode jdk_43_method_22_code 27 = .ok (.iconst (-1), 1) := by decide +kernel
theorem d_idxL_28 : decode jdk_43_method_22_code 28 = .ok (.ireturn, 1) := by decide +kernel
theorem d_idxL_29 : decode jdk_43_method_22_code 29 = .ok (.aload_n 0, 1) := by decide +kernel
theorem d_idxL_30 : decode jdk_43_method_22_code 30 = .ok (.iload_n 1, 1) := by decide +kernel
theorem d_idxL_31 : decode jdk_43_method_22_code 31 = .ok (.iload_n 2, 1) := by decide +kernel
theorem d_idxL_32 : decode jdk_43_method_22_code 32 = .ok (.iload_n 3, 1) := by decide +kernel
theorem d_idxL_33 : decode jdk_43_method_22_code 33 = .ok (.invokestatic 95, 3) := by decide +kernel
theorem d_idxL_36 : decode jdk_43_method_22_code 36 = .ok (.ireturn, 1) := by decide +kernel
theorem ef_idxL (m : MethodId) (x0 : Addr) (x3 : Int32) : entryFrame m #[(.ref x0), (.int (42 : Int32)), (.int (0 : Int32)), (.int x3)] 4 = mkF m 0 #[.val (.ref x0), .val (.int (42 : Int32)), .val (.int (0 : Int32)), .val (.int x3)] [] := by first | (simp [entryFrame, mkF, argsToLocals, Value.category]; done) | rfl
def f_idxL (p3 : Int32) (cs : List Int32) : Int32 := (if (0 : Int32) < p3 then (f_idxChar p3 cs) else (-1 : Int32))
def Q_idxL (Z : State) (r0 : Addr) (p3 : Int32) (kA : ClassId) (cs : List Int32) (h0 : Heap) (n0 : Nat) (v : Option Value) (h : Heap) (L : List Loc) : Prop := v = some (.int (f_idxL p3 cs)) ∧ Fr n0 L ∧ h = h0
set_option maxRecDepth 65536 in
set_option maxHeartbeats 40000000 in
theorem rm_idxL (l : Launch) (Z : State) (a0 : Array Value) (hw : ∀ d ∈ tables_1, d.before a0 Z = true) (ws : List Jvm.Cond) (r0 : Addr) (p3 : Int32) (kA : ClassId) (cs : List Int32) (h0 : Heap) (n0 : Nat) (Z0 : n0 ≤ h0.size) (V_A : Arv Z h0 r0 kA .byte p3 ((cs.map StrChars.lo8).map Value.int) (.int (0 : Int32))) (hl3 : ¬ ((3 : Int32) < p3)) :
    MetFree l (⟨"java/lang/StringLatin1", "indexOf", "([BIII)I"⟩ : MethodName) (head1 (Jvm.Cond.code (⟨"java/lang/StringLatin1", "indexOf", "([BIII)I"⟩ : MethodName) jdk_43_method_22_code 4 (some .int) :: ws) ({ frames := 1, cells := 0, slots := 0, locals := 17 } : Room)) (fun a U => a = #[(.ref r0), (.int (42 : Int32)), (.int (0 : Int32)), (.int p3)] ∧ Z.Warmed39 U.vm ∧ U.heap = h0) (fun _ _ _ _ _ => True) (fun _ U o U' => ∃ v L, o = .returned v ∧ Q_idxL Z r0 p3 kA cs h0 n0 v U'.heap L ∧ FrameEnd U o U' L ({ frames := 1, cells := 0, slots := 0, locals := 17 } : Room).cells ({ frames := 1, cells := 0, slots := 0, locals := 17 } : Room).slots) := by
  refine MetFree.of_bodySF (plainFor_of_name pn_2) hisR ?_
  intro p e s m args below meth c s₁ Bd hml0 hP hK
  obtain ⟨rfl, hZ, hh⟩ := hP
  have hx := Bd.exec
  have hby := Bd.bytes
  have hml : c.maxLocals = 4 := hml0
  have hown : s.vm.findClass "java/lang/StringLatin1" = some m.cls := findClass_of_methodNamed Bd.named
  have hnm := (name_of_methodNamed Bd.named Bd.method).1
  have X0 : Stand p l e ({ frames := 1, cells := 0, slots := 0, locals := 17 } : Room) s m #[(.ref r0), (.int (42 : Int32)), (.int (0 : Int32)), (.int p3)] below meth c s₁ [] 0 0 := Stand.of_body Bd
  have e0 : s₁.heap = h0 := by rw [← hh, Bd.state]; rfl
  have N0 := Fr.nil n0
  have pre0 : ∀ t, Steps p.tables e below (s₁.setTop (mkF m 0 #[.val (.ref r0), .val (.int (42 : Int32)), .val (.int (0 : Int32)), .val (.int p3)] [])) t → Steps p.tables e below (s₁.setTop (entryFrame m #[(.ref r0), (.int (42 : Int32)), (.int (0 : Int32)), (.int p3)] 4)) t := fun t k => castTop (ef_idxL m r0 p3) k
  have k1 : Go p.tables e below (s₁.setTop (mkF m 0 #[.val (.ref r0), .val (.int (42 : Int32)), .val (.int (0 : Int32)), .val (.int p3)] [])) (s₁.setTop (mkF m 1 #[.val (.ref r0), .val (.int (42 : Int32)), .val (.int (0 : Int32)), .val (.int p3)] [(.int (42 : Int32))])) := by
    intro t ht
    refine XS.iloadN X0.here hx rfl (hb hby d_idxL_0) rfl ?_
    exact ht
  obtain ⟨_, _, ⟨T2, L2, kq2, n2⟩, -, X2, ⟨Lc2, hQ2, l2, y2, z2⟩, st2⟩ := Jvm.LawKit.callS X0 hx (y := (⟨"java/lang/StringLatin1", "canEncode", "(I)Z"⟩ : MethodName)) hown (mvT hZ (hw _ (List.mem_of_getElem? (i := 73) rfl))) (mvT hZ (hw _ (List.mem_of_getElem? (i := 74) rfl))) (mvT hZ (hw _ (List.mem_of_getElem? (i := 71) rfl))) (mvT hZ (hw _ (List.mem_of_getElem? (i := 75) rfl))) (by decide) (backOf (W := 0) (rm_canEncI l Z a0 hw [] (42 : Int32) h0 n0 Z0 ) hZ (hw _ (List.mem_of_getElem? (i := 75) rfl)) (hw _ (List.mem_of_getElem? (i := 71) rfl)) (by decide) (by decide)) (g := (mkF m 1 #[.val (.ref r0), .val (.int (42 : Int32)), .val (.int (0 : Int32)), .val (.int p3)] [(.int (42 : Int32))])) rfl (by rw [hml]; rfl) (argsL := [(.int (42 : Int32))]) (rest := []) (lenOf pd_2 rfl) rfl (by show 2 * 0 + _ ≤ _; exact Nat.le_of_eq rfl) (hb hby d_idxL_1) (fun _ _ => ⟨rfl, e0, (by decide : 0 + 0 ≤ _), (by decide : 0 + 0 ≤ _)⟩)
  dsimp only [Pt.U, Pt.locs, Pt.cells, Pt.slots] at X2 l2 y2 z2 st2 hQ2
  subst l2 y2 z2
  obtain ⟨rfl, N2q, eq2⟩ := hQ2
  have N2 := Fr.app N0 N2q
  have k2 : Go p.tables e below (s₁.setTop (mkF m 1 #[.val (.ref r0), .val (.int (42 : Int32)), .val (.int (0 : Int32)), .val (.int p3)] [(.int (42 : Int32))])) (T2.setTop (mkF m 4 #[.val (.ref r0), .val (.int (42 : Int32)), .val (.int (0 : Int32)), .val (.int p3)] [(.int (f_canEncI (42 : Int32)))])) := st2
  have k3 : Go p.tables e below (T2.setTop (mkF m 4 #[.val (.ref r0), .val (.int (42 : Int32)), .val (.int (0 : Int32)), .val (.int p3)] [(.int (f_canEncI (42 : Int32)))])) (T2.setTop (mkF m 4 #[.val (.ref r0), .val (.int (42 : Int32)), .val (.int (0 : Int32)), .val (.int p3)] [(.int (1 : Int32))])) := by
    simp only [f_canEncI, if_neg (by decide : ¬ ((42 : Int32) < (0 : Int32))), if_neg (by decide : ¬ ((255 : Int32) < (42 : Int32)))]; exact fun _ h => h
  have k4 : Go p.tables e below (T2.setTop (mkF m 4 #[.val (.ref r0), .val (.int (42 : Int32)), .val (.int (0 : Int32)), .val (.int p3)] [(.int (1 : Int32))])) (T2.setTop (mkF m 11 #[.val (.ref r0), .val (.int (42 : Int32)), .val (.int (0 : Int32)), .val (.int p3)] [(.int (0 : Int32)), (.int (0 : Int32))])) := by
    intro t ht
    refine XS.ifYes X2.here hx rfl (pc0 := 4) (pc' := 9) rfl (hb hby d_idxL_4) rfl ((if0 _ _).trans (feq (by decide : ¬ ((1 : Int32) = (0 : Int32)))).2) (by decide) (by decide) ?_
    show Steps p.tables e below (T2.setTop (mkF m 9 #[.val (.ref r0), .val (.int (42 : Int32)), .val (.int (0 : Int32)), .val (.int p3)] [])) _
    refine XS.iloadN X2.here hx rfl (hb hby d_idxL_9) rfl ?_
    show Steps p.tables e below (T2.setTop (mkF m 10 #[.val (.ref r0), .val (.int (42 : Int32)), .val (.int (0 : Int32)), .val (.int p3)] [(.int (0 : Int32))])) _
    refine XS.iconst X2.here hx rfl (hb hby d_idxL_10) ?_
    exact ht
  obtain ⟨_, _, ⟨T5, L5, kq5, n5⟩, -, X5, ⟨Lc5, hQ5, l5, y5, z5⟩, st5⟩ := Jvm.LawKit.callS X2 hx (y := (⟨"java/lang/Math", "max", "(II)I"⟩ : MethodName)) hown (mvT hZ (hw _ (List.mem_of_getElem? (i := 76) rfl))) (mvT hZ (hw _ (List.mem_of_getElem? (i := 77) rfl))) (mvT hZ (hw _ (List.mem_of_getElem? (i := 78) rfl))) (mvT hZ (hw _ (List.mem_of_getElem? (i := 79) rfl))) (by decide) (backOf (W := 0) (rm_max l Z a0 hw [] (0 : Int32) (0 : Int32) h0 n0 Z0 ) hZ (hw _ (List.mem_of_getElem? (i := 79) rfl)) (hw _ (List.mem_of_getElem? (i := 78) rfl)) (by decide) (by decide)) (g := (mkF m 11 #[.val (.ref r0), .val (.int (42 : Int32)), .val (.int (0 : Int32)), .val (.int p3)] [(.int (0 : Int32)), (.int (0 : Int32))])) rfl (by rw [hml]; rfl) (argsL := [(.int (0 : Int32)), (.int (0 : Int32))]) (rest := []) (lenOf pd_3 rfl) rfl (by show 2 * 0 + _ ≤ _; exact Nat.le_of_eq rfl) (hb hby d_idxL_11) (fun _ _ => ⟨rfl, eq2, (by decide : 0 + 0 ≤ _), (by decide : 0 + 0 ≤ _)⟩)
  dsimp only [Pt.U, Pt.locs, Pt.cells, Pt.slots] at X5 l5 y5 z5 st5 hQ5
  subst l5 y5 z5
  obtain ⟨rfl, N5q, eq5⟩ := hQ5
  have N5 := Fr.app N2 N5q
  have k5 : Go p.tables e below (T2.setTop (mkF m 11 #[.val (.ref r0), .val (.int (42 : Int32)), .val (.int (0 : Int32)), .val (.int p3)] [(.int (0 : Int32)), (.int (0 : Int32))])) (T5.setTop (mkF m 14 #[.val (.ref r0), .val (.int (42 : Int32)), .val (.int (0 : Int32)), .val (.int p3)] [(.int (f_max (0 : Int32) (0 : Int32)))])) := st5
  have k6 : Go p.tables e below (T5.setTop (mkF m 14 #[.val (.ref r0), .val (.int (42 : Int32)), .val (.int (0 : Int32)), .val (.int p3)] [(.int (f_max (0 : Int32) (0 : Int32)))])) (T5.setTop (mkF m 14 #[.val (.ref r0), .val (.int (42 : Int32)), .val (.int (0 : Int32)), .val (.int p3)] [(.int (0 : Int32))])) := by
    simp only [f_max, if_neg (own_irr _ : ¬ ((0 : Int32) < (0 : Int32)))]; exact fun _ h => h
  have k7 : Go p.tables e below (T5.setTop (mkF m 14 #[.val (.ref r0), .val (.int (42 : Int32)), .val (.int (0 : Int32)), .val (.int p3)] [(.int (0 : Int32))])) (T5.setTop (mkF m 17 #[.val (.ref r0), .val (.int (42 : Int32)), .val (.int (0 : Int32)), .val (.int p3)] [(.ref r0), (.int p3)])) := by
    intro t ht
    refine XS.istoreN X5.here hx rfl (hb hby d_idxL_14) rfl (l' := #[.val (.ref r0), .val (.int (42 : Int32)), .val (.int (0 : Int32)), .val (.int p3)]) rfl ?_
    show Steps p.tables e below (T5.setTop (mkF m 15 #[.val (.ref r0), .val (.int (42 : Int32)), .val (.int (0 : Int32)), .val (.int p3)] [])) _
    refine XS.iloadN X5.here hx rfl (hb hby d_idxL_15) rfl ?_
    show Steps p.tables e below (T5.setTop (mkF m 16 #[.val (.ref r0), .val (.int (42 : Int32)), .val (.int (0 : Int32)), .val (.int p3)] [(.int p3)])) _
    refine XS.aloadN X5.here hx rfl (hb hby d_idxL_16) rfl rfl ?_
    exact ht
  obtain ⟨cl8, Ar8, q8, S8, M8, H8, G8⟩ := id V_A
  have k9 : Go p.tables e below (T5.setTop (mkF m 17 #[.val (.ref r0), .val (.int (42 : Int32)), .val (.int (0 : Int32)), .val (.int p3)] [(.ref r0), (.int p3)])) (T5.setTop (mkF m 18 #[.val (.ref r0), .val (.int (42 : Int32)), .val (.int (0 : Int32)), .val (.int p3)] [(.int p3), (.int p3)])) := by
    intro t ht
    refine X5.arraylength hx (by rw [eq5]; exact Ar8.1) (State.isArrayOf_alike hZ.alike Ar8.2.1) (g := (mkF m 17 #[.val (.ref r0), .val (.int (42 : Int32)), .val (.int (0 : Int32)), .val (.int p3)] [(.ref r0), (.int p3)])) rfl rfl (hb hby d_idxL_17) _ ?_
    rw [len_of S8 M8]
    exact ht
  obtain ⟨_, _, ⟨T10, L10, kq10, n10⟩, -, X10, ⟨Lc10, hQ10, l10, y10, z10⟩, st10⟩ := Jvm.LawKit.callS X5 hx (y := (⟨"java/lang/Math", "min", "(II)I"⟩ : MethodName)) hown (mvT hZ (hw _ (List.mem_of_getElem? (i := 80) rfl))) (mvT hZ (hw _ (List.mem_of_getElem? (i := 81) rfl))) (mvT hZ (hw _ (List.mem_of_getElem? (i := 78) rfl))) (mvT hZ (hw _ (List.mem_of_getElem? (i := 82) rfl))) (by decide) (backOf (W := 0) (rm_min l Z a0 hw [] p3 p3 h0 n0 Z0 ) hZ (hw _ (List.mem_of_getElem? (i := 82) rfl)) (hw _ (List.mem_of_getElem? (i := 78) rfl)) (by decide) (by decide)) (g := (mkF m 18 #[.val (.ref r0), .val (.int (42 : Int32)), .val (.int (0 : Int32)), .val (.int p3)] [(.int p3), (.int p3)])) rfl (by rw [hml]; rfl) (argsL := [(.int p3), (.int p3)]) (rest := []) (lenOf pd_3 rfl) rfl (by show 2 * 0 + _ ≤ _; exact Nat.le_of_eq rfl) (hb hby d_idxL_18) (fun _ _ => ⟨rfl, eq5, (by decide : 0 + 0 ≤ _), (by decide : 0 + 0 ≤ _)⟩)
  dsimp only [Pt.U, Pt.locs, Pt.cells, Pt.slots] at X10 l10 y10 z10 st10 hQ10
  subst l10 y10 z10
  obtain ⟨rfl, N10q, eq10⟩ := hQ10
  have N10 := Fr.app N5 N10q
  have k10 : Go p.tables e below (T5.setTop (mkF m 18 #[.val (.ref r0), .val (.int (42 : Int32)), .val (.int (0 : Int32)), .val (.int p3)] [(.int p3), (.int p3)])) (T10.setTop (mkF m 21 #[.val (.ref r0), .val (.int (42 : Int32)), .val (.int (0 : Int32)), .val (.int p3)] [(.int (f_min p3 p3))])) := st10
  have k11 : Go p.tables e below (T10.setTop (mkF m 21 #[.val (.ref r0), .val (.int (42 : Int32)), .val (.int (0 : Int32)), .val (.int p3)] [(.int (f_min p3 p3))])) (T10.setTop (mkF m 21 #[.val (.ref r0), .val (.int (42 : Int32)), .val (.int (0 : Int32)), .val (.int p3)] [(.int p3)])) := by
    simp only [f_min, if_neg (own_irr _ : ¬ (p3 < p3))]; exact fun _ h => h
  have k12 : Go p.tables e below (T10.setTop (mkF m 21 #[.val (.ref r0), .val (.int (42 : Int32)), .val (.int (0 : Int32)), .val (.int p3)] [(.int p3)])) (T10.setTop (mkF m 24 #[.val (.ref r0), .val (.int (42 : Int32)), .val (.int (0 : Int32)), .val (.int p3)] [(.int p3), (.int (0 : Int32))])) := by
    intro t ht
    refine XS.istoreN X10.here hx rfl (hb hby d_idxL_21) rfl (l' := #[.val (.ref r0), .val (.int (42 : Int32)), .val (.int (0 : Int32)), .val (.int p3)]) rfl ?_
    show Steps p.tables e below (T10.setTop (mkF m 22 #[.val (.ref r0), .val (.int (42 : Int32)), .val (.int (0 : Int32)), .val (.int p3)] [])) _
    refine XS.iloadN X10.here hx rfl (hb hby d_idxL_22) rfl ?_
    show Steps p.tables e below (T10.setTop (mkF m 23 #[.val (.ref r0), .val (.int (42 : Int32)), .val (.int (0 : Int32)), .val (.int p3)] [(.int (0 : Int32))])) _
    refine XS.iloadN X10.here hx rfl (hb hby d_idxL_23) rfl ?_
    exact ht
  by_cases hc13 : (0 : Int32) < p3
  · have k14 : Go p.tables e below (T10.setTop (mkF m 24 #[.val (.ref r0), .val (.int (42 : Int32)), .val (.int (0 : Int32)), .val (.int p3)] [(.int p3), (.int (0 : Int32))])) (T10.setTop (mkF m 33 #[.val (.ref r0), .val (.int (42 : Int32)), .val (.int (0 : Int32)), .val (.int p3)] [(.int p3), (.int (0 : Int32)), (.int (42 : Int32)), (.ref r0)])) := by
      intro t ht
      refine XS.icmpYes X10.here hx rfl (pc0 := 24) (pc' := 29) rfl (hb hby d_idxL_24) rfl (tlt hc13).1 (by decide) (by decide) ?_
      show Steps p.tables e below (T10.setTop (mkF m 29 #[.val (.ref r0), .val (.int (42 : Int32)), .val (.int (0 : Int32)), .val (.int p3)] [])) _
      refine XS.aloadN X10.here hx rfl (hb hby d_idxL_29) rfl rfl ?_
      show Steps p.tables e below (T10.setTop (mkF m 30 #[.val (.ref r0), .val (.int (42 : Int32)), .val (.int (0 : Int32)), .val (.int p3)] [(.ref r0)])) _
      refine XS.iloadN X10.here hx rfl (hb hby d_idxL_30) rfl ?_
      show Steps p.tables e below (T10.setTop (mkF m 31 #[.val (.ref r0), .val (.int (42 : Int32)), .val (.int (0 : Int32)), .val (.int p3)] [(.int (42 : Int32)), (.ref r0)])) _
      refine XS.iloadN X10.here hx rfl (hb hby d_idxL_31) rfl ?_
      show Steps p.tables e below (T10.setTop (mkF m 32 #[.val (.ref r0), .val (.int (42 : Int32)), .val (.int (0 : Int32)), .val (.int p3)] [(.int (0 : Int32)), (.int (42 : Int32)), (.ref r0)])) _
      refine XS.iloadN X10.here hx rfl (hb hby d_idxL_32) rfl ?_
      exact ht
    obtain ⟨_, _, ⟨T15, L15, kq15, n15⟩, -, X15, ⟨Lc15, hQ15, l15, y15, z15⟩, st15⟩ := Jvm.LawKit.callS X10 hx (y := (⟨"java/lang/StringLatin1", "indexOfChar", "([BIII)I"⟩ : MethodName)) hown (mvT hZ (hw _ (List.mem_of_getElem? (i := 108) rfl))) (mvT hZ (hw _ (List.mem_of_getElem? (i := 109) rfl))) (mvT hZ (hw _ (List.mem_of_getElem? (i := 71) rfl))) (mvT hZ (hw _ (List.mem_of_getElem? (i := 110) rfl))) (by decide) (backOf (W := 0) (rm_idxChar l Z a0 hw [] r0 p3 kA cs h0 n0 Z0 V_A (hl3 : ¬ ((3 : Int32) < p3))) hZ (hw _ (List.mem_of_getElem? (i := 110) rfl)) (hw _ (List.mem_of_getElem? (i := 71) rfl)) (by decide) (by decide)) (g := (mkF m 33 #[.val (.ref r0), .val (.int (42 : Int32)), .val (.int (0 : Int32)), .val (.int p3)] [(.int p3), (.int (0 : Int32)), (.int (42 : Int32)), (.ref r0)])) rfl (by rw [hml]; rfl) (argsL := [(.ref r0), (.int (42 : Int32)), (.int (0 : Int32)), (.int p3)]) (rest := []) (lenOf pd_4 rfl) rfl (by show 2 * 0 + _ ≤ _; exact Nat.le_of_eq rfl) (hb hby d_idxL_33) (fun _ _ => ⟨rfl, eq10, (by decide : 0 + 0 ≤ _), (by decide : 0 + 0 ≤ _)⟩)
    dsimp only [Pt.U, Pt.locs, Pt.cells, Pt.slots] at X15 l15 y15 z15 st15 hQ15
    subst l15 y15 z15
    obtain ⟨rfl, N15q, eq15⟩ := hQ15
    have N15 := Fr.app N10 N15q
    have k15 : Go p.tables e below (T10.setTop (mkF m 33 #[.val (.ref r0), .val (.int (42 : Int32)), .val (.int (0 : Int32)), .val (.int p3)] [(.int p3), (.int (0 : Int32)), (.int (42 : Int32)), (.ref r0)])) (T15.setTop (mkF m 36 #[.val (.ref r0), .val (.int (42 : Int32)), .val (.int (0 : Int32)), .val (.int p3)] [(.int (f_idxChar p3 cs))])) := st15
    obtain ⟨fs, hr, hrun, hended, hW, hsame⟩ := X15.leave (v := some (.int (f_idxChar p3 cs))) (fun h => by rw [Bd.returns] at h; cases h)
    refine ⟨_, _, pre0 _ ((goT k1 (goT k2 (goT k3 (goT k4 (goT k5 (goT k6 (goT k7 (goT k9 (goT k10 (goT k11 (goT k12 (goT k14 k15)))))))))))) _ (retI X15 hx Bd.returns (hb hby d_idxL_36) hr)), hrun, hended, _, _, rfl, ?_, ⟨_, rfl⟩, hW, hsame.mono (by decide) (by decide)⟩
    show Q_idxL Z r0 p3 kA cs h0 n0 _ T15.heap _
    rw [eq15]
    exact ⟨by simp only [f_idxL, if_neg hl3, if_pos hc13], N15, rfl⟩
  · have k16 : Go p.tables e below (T10.setTop (mkF m 24 #[.val (.ref r0), .val (.int (42 : Int32)), .val (.int (0 : Int32)), .val (.int p3)] [(.int p3), (.int (0 : Int32))])) (T10.setTop (mkF m 28 #[.val (.ref r0), .val (.int (42 : Int32)), .val (.int (0 : Int32)), .val (.int p3)] [(.int (-1 : Int32))])) := by
      intro t ht
      refine XS.icmpNo X10.here hx rfl (hb hby d_idxL_24) rfl (flt hc13).1 ?_
      show Steps p.tables e below (T10.setTop (mkF m 27 #[.val (.ref r0), .val (.int (42 : Int32)), .val (.int (0 : Int32)), .val (.int p3)] [])) _
      refine XS.iconst X10.here hx rfl (hb hby d_idxL_27) ?_
      exact ht
    obtain ⟨fs, hr, hrun, hended, hW, hsame⟩ := X10.leave (v := some (.int (-1 : Int32))) (fun h => by rw [Bd.returns] at h; cases h)
    refine ⟨_, _, pre0 _ ((goT k1 (goT k2 (goT k3 (goT k4 (goT k5 (goT k6 (goT k7 (goT k9 (goT k10 (goT k11 (goT k12 k16))))))))))) _ (retI X10 hx Bd.returns (hb hby d_idxL_28) hr)), hrun, hended, _, _, rfl, ?_, ⟨_, rfl⟩, hW, hsame.mono (by decide) (by decide)⟩
    show Q_idxL Z r0 p3 kA cs h0 n0 _ T10.heap _
    rw [eq10]
    exact ⟨by simp only [f_idxL, if_neg hl3, if_neg hc13], N10, rfl⟩
theorem d_isLat_0 : decode jdk_42_method_154_code 0 = .ok (.getstatic 38, 3) := by decide +kernel
theorem d_isLat_3 : decode jdk_42_method_154_code 3 = .ok (.ifCond .eq 14, 3) := by decide +kernel
theorem d_isLat_6 : decode jdk_42_method_154_code 6 = .ok (.aload_n 0, 1) := by decide +kernel
theorem d_isLat_7 : decode jdk_42_method_154_code 7 = .ok (.getfield 15, 3) := by decide +kernel
theorem d_isLat_10 : decode jdk_42_method_154_code 10 = .ok (.ifCond .ne 7, 3) := by decide +kernel
theorem d_isLat_13 : decode jdk_42_method_154_code 13 = .ok (.iconst 1, 1) := by decide +kernel
theorem d_isLat_14 : decode jdk_42_method_154_code 14 = .ok (.goto 4, 3) := by decide +kernel
theorem d_isLat_18 : decode jdk_42_method_154_code 18 = .ok (.ireturn, 1) := by decide +kernel
theorem ef_isLat (m : MethodId) (x0 : Addr) : entryFrame m #[(.ref x0)] 1 = mkF m 0 #[.val (.ref x0)] [] := by first | (simp [entryFrame, mkF, argsToLocals, Value.category]; done) | rfl
def Q_isLat (Z : State) (r0 : Addr) (G1 : Int32) (h0 : Heap) (n0 : Nat) (v : Option Value) (h : Heap) (L : List Loc) : Prop := v = some (.int (1 : Int32)) ∧ Fr n0 L ∧ h = h0
set_option maxRecDepth 65536 in
set_option maxHeartbeats 40000000 in
theorem rm_isLat (l : Launch) (Z : State) (a0 : Array Value) (hw : ∀ d ∈ tables_1, d.before a0 Z = true) (ws : List Jvm.Cond) (r0 : Addr) (G1 : Int32) (h0 : Heap) (n0 : Nat) (Z0 : n0 ≤ h0.size) (Fc_r0 : Fld Z h0 r0 "java/lang/String" "coder" "B" (.int (0 : Int32))) (S_CS : Sta Z h0 "java/lang/String" "COMPACT_STRINGS" "Z" (.int G1)) (P5 : ¬ (G1 = (0 : Int32))) :
    MetFree l (⟨"java/lang/String", "isLatin1", "()Z"⟩ : MethodName) (head1 (Jvm.Cond.code (⟨"java/lang/String", "isLatin1", "()Z"⟩ : MethodName) jdk_42_method_154_code 1 (some .boolean) :: ws) ({ frames := 0, cells := 0, slots := 0, locals := 0 } : Room)) (fun a U => a = #[(.ref r0)] ∧ Z.Warmed39 U.vm ∧ U.heap = h0) (fun _ _ _ _ _ => True) (fun _ U o U' => ∃ v L, o = .returned v ∧ Q_isLat Z r0 G1 h0 n0 v U'.heap L ∧ FrameEnd U o U' L ({ frames := 0, cells := 0, slots := 0, locals := 0 } : Room).cells ({ frames := 0, cells := 0, slots := 0, locals := 0 } : Room).slots) := by
  refine MetFree.of_bodySF (plainFor_of_name pn_1) hisR ?_
  intro p e s m args below meth c s₁ Bd hml0 hP hK
  obtain ⟨rfl, hZ, hh⟩ := hP
  have hx := Bd.exec
  have hby := Bd.bytes
  have hml : c.maxLocals = 1 := hml0
  have hown : s.vm.findClass "java/lang/String" = some m.cls := findClass_of_methodNamed Bd.named
  have hnm := (name_of_methodNamed Bd.named Bd.method).1
  have X0 : Stand p l e ({ frames := 0, cells := 0, slots := 0, locals := 0 } : Room) s m #[(.ref r0)] below meth c s₁ [] 0 0 := Stand.of_body Bd
  have e0 : s₁.heap = h0 := by rw [← hh, Bd.state]; rfl
  have N0 := Fr.nil n0
  have pre0 : ∀ t, Steps p.tables e below (s₁.setTop (mkF m 0 #[.val (.ref r0)] [])) t → Steps p.tables e below (s₁.setTop (entryFrame m #[(.ref r0)] 1)) t := fun t k => castTop (ef_isLat m r0) k
  obtain ⟨T1, X1, e1, st1⟩ := getS2 X0 hx hZ hown (host := "") (Or.inl (hw _ (List.mem_of_getElem? (i := 58) rfl))) Via.refl e0 S_CS (g := (mkF m 0 #[.val (.ref r0)] [])) rfl (hb hby d_isLat_0)
  have k1 : Go p.tables e below (s₁.setTop (mkF m 0 #[.val (.ref r0)] [])) (T1.setTop (mkF m 3 #[.val (.ref r0)] [(.int G1)])) := st1
  have k2 : Go p.tables e below (T1.setTop (mkF m 3 #[.val (.ref r0)] [(.int G1)])) (T1.setTop (mkF m 7 #[.val (.ref r0)] [(.ref r0)])) := by
    intro t ht
    refine XS.ifNo X1.here hx rfl (hb hby d_isLat_3) rfl ((if0 _ _).trans (feq P5).1) ?_
    show Steps p.tables e below (T1.setTop (mkF m 6 #[.val (.ref r0)] [])) _
    refine XS.aloadN X1.here hx rfl (hb hby d_isLat_6) rfl rfl ?_
    exact ht
  obtain ⟨T3, X3, e3, st3⟩ := getF X1 hx hZ hown (host := "") (Or.inl (hw _ (List.mem_of_getElem? (i := 28) rfl))) Via.refl e1 Fc_r0 (g := (mkF m 7 #[.val (.ref r0)] [(.ref r0)])) rfl rfl (hb hby d_isLat_7)
  have k3 : Go p.tables e below (T1.setTop (mkF m 7 #[.val (.ref r0)] [(.ref r0)])) (T3.setTop (mkF m 10 #[.val (.ref r0)] [(.int (0 : Int32))])) := st3
  have k4 : Go p.tables e below (T3.setTop (mkF m 10 #[.val (.ref r0)] [(.int (0 : Int32))])) (T3.setTop (mkF m 18 #[.val (.ref r0)] [(.int (1 : Int32))])) := by
    intro t ht
    refine XS.ifNo X3.here hx rfl (hb hby d_isLat_10) rfl ((if0 _ _).trans (teq (by decide : (0 : Int32) = (0 : Int32))).2) ?_
    show Steps p.tables e below (T3.setTop (mkF m 13 #[.val (.ref r0)] [])) _
    refine XS.iconst X3.here hx rfl (hb hby d_isLat_13) ?_
    show Steps p.tables e below (T3.setTop (mkF m 14 #[.val (.ref r0)] [(.int (1 : Int32))])) _
    refine XS.goto X3.here hx rfl (pc0 := 14) (pc' := 18) rfl (hb hby d_isLat_14) (by decide) (by decide) ?_
    exact ht
  obtain ⟨fs, hr, hrun, hended, hW, hsame⟩ := X3.leave (v := some (.int (1 : Int32))) (fun h => by rw [Bd.returns] at h; cases h)
  refine ⟨_, _, pre0 _ ((goT k1 (goT k2 (goT k3 k4))) _ (retN X3 hx (t := .boolean) Bd.returns (by simp) (hb hby d_isLat_18) hr)), hrun, hended, _, _, rfl, ?_, ⟨_, rfl⟩, hW, hsame.mono (by decide) (by decide)⟩
  show Q_isLat Z r0 G1 h0 n0 _ T3.heap _
  rw [e3]
  exact ⟨rfl, N0, rfl⟩
theorem pd_5 : parseMethodDescriptor "()Z" = some ⟨[], some .boolean⟩ := by decide +kernel
theorem pd_6 : parseMethodDescriptor "()I" = some ⟨[], some .int⟩ := by decide +kernel
theorem d_idx2_0 : decode jdk_42_method_80_code 0 = .ok (.aload_n 0, 1) := by decide +kernel
theorem d_idx2_1 : decode jdk_42_method_80_code 1 = .ok (.invokevirtual 492, 3) := by decide +kernel
theorem d_idx2_4 : decode jdk_42_method_80_code 4 = .ok (.ifCond .eq 19, 3) := by decide +kernel
theorem d_idx2_7 : decode jdk_42_method_80_code 7 = .ok (.aload_n 0, 1) := by decide +kernel
theorem d_idx2_8 : decode jdk_42_method_80_code 8 = .ok (.getfield 9, 3) := by decide +kernel
theorem d_idx2_11 : decode jdk_42_method_80_code 11 = .ok (.iload_n 1, 1) := by decide +kernel
theorem d_idx2_12 : decode jdk_42_method_80_code 12 = .ok (.iload_n 2, 1) := by decide +kernel
theorem d_idx2_13 : decode jdk_42_method_80_code 13 = .ok (.aload_n 0, 1) := by decide +kernel
theorem d_idx2_14 : decode jdk_42_method_80_code 14 = .ok (.invokevirtual 505, 3) := by decide +kernel
theorem d_idx2_17 : decode jdk_42_method_80_code 17 = .ok (.invokestatic 637, 3) := by decide +kernel
theorem d_idx2_20 : decode jdk_42_method_80_code 20 = .ok (.goto 16, 3) := by decide +kernel
theorem d_idx2_36 : decode jdk_42_method_80_code 36 = .ok (.ireturn, 1) := by decide +kernel
theorem ef_idx2 (m : MethodId) (x0 : Addr) : entryFrame m #[(.ref x0), (.int (42 : Int32)), (.int (0 : Int32))] 3 = mkF m 0 #[.val (.ref x0), .val (.int (42 : Int32)), .val (.int (0 : Int32))] [] := by first | (simp [entryFrame, mkF, argsToLocals, Value.category]; done) | rfl
def Q_idx2 (Z : State) (r0 : Addr) (tS : Addr) (kS : ClassId) (cs : List Int32) (G1 : Int32) (h0 : Heap) (n0 : Nat) (v : Option Value) (h : Heap) (L : List Loc) : Prop := v = some (.int (f_idxL (Int32.ofNat cs.length) cs)) ∧ Fr n0 L ∧ h = h0
set_option maxRecDepth 65536 in
set_option maxHeartbeats 40000000 in
theorem rm_idx2 (l : Launch) (Z : State) (a0 : Array Value) (hw : ∀ d ∈ tables_1, d.before a0 Z = true) (ws : List Jvm.Cond) (r0 : Addr) (tS : Addr) (kS : ClassId) (cs : List Int32) (G1 : Int32) (h0 : Heap) (n0 : Nat) (Z0 : n0 ≤ h0.size) (E_r0 : Exa Z h0 r0 "java/lang/String") (Fv_r0 : Fld Z h0 r0 "java/lang/String" "value" "[B" (.ref tS)) (Fc_r0 : Fld Z h0 r0 "java/lang/String" "coder" "B" (.int (0 : Int32))) (S_CS : Sta Z h0 "java/lang/String" "COMPACT_STRINGS" "Z" (.int G1)) (V_tS : Arv Z h0 tS kS .byte (Int32.ofNat cs.length) ((cs.map StrChars.lo8).map Value.int) (.int (0 : Int32))) (P5 : ¬ (G1 = (0 : Int32))) (hch : ∀ c ∈ cs, ¬ c < 0 ∧ ¬ (255 : Int32) < c) (hlen : cs.length ≤ 3) :
    MetFree l (⟨"java/lang/String", "indexOf", "(II)I"⟩ : MethodName) (head1 (Jvm.Cond.code (⟨"java/lang/String", "indexOf", "(II)I"⟩ : MethodName) jdk_42_method_80_code 3 (some .int) :: ws) ({ frames := 2, cells := 0, slots := 0, locals := 32 } : Room)) (fun a U => a = #[(.ref r0), (.int (42 : Int32)), (.int (0 : Int32))] ∧ Z.Warmed39 U.vm ∧ U.heap = h0) (fun _ _ _ _ _ => True) (fun _ U o U' => ∃ v L, o = .returned v ∧ Q_idx2 Z r0 tS kS cs G1 h0 n0 v U'.heap L ∧ FrameEnd U o U' L ({ frames := 2, cells := 0, slots := 0, locals := 32 } : Room).cells ({ frames := 2, cells := 0, slots := 0, locals := 32 } : Room).slots) := by
  refine MetFree.of_bodySF (plainFor_of_name pn_1) hisR ?_
  intro p e s m args below meth c s₁ Bd hml0 hP hK
  obtain ⟨rfl, hZ, hh⟩ := hP
  have hx := Bd.exec
  have hby := Bd.bytes
  have hml : c.maxLocals = 3 := hml0
  have hown : s.vm.findClass "java/lang/String" = some m.cls := findClass_of_methodNamed Bd.named
  have hnm := (name_of_methodNamed Bd.named Bd.method).1
  have X0 : Stand p l e ({ frames := 2, cells := 0, slots := 0, locals := 32 } : Room) s m #[(.ref r0), (.int (42 : Int32)), (.int (0 : Int32))] below meth c s₁ [] 0 0 := Stand.of_body Bd
  have e0 : s₁.heap = h0 := by rw [← hh, Bd.state]; rfl
  have N0 := Fr.nil n0
  have pre0 : ∀ t, Steps p.tables e below (s₁.setTop (mkF m 0 #[.val (.ref r0), .val (.int (42 : Int32)), .val (.int (0 : Int32))] [])) t → Steps p.tables e below (s₁.setTop (entryFrame m #[(.ref r0), (.int (42 : Int32)), (.int (0 : Int32))] 3)) t := fun t k => castTop (ef_idx2 m r0) k
  have k1 : Go p.tables e below (s₁.setTop (mkF m 0 #[.val (.ref r0), .val (.int (42 : Int32)), .val (.int (0 : Int32))] [])) (s₁.setTop (mkF m 1 #[.val (.ref r0), .val (.int (42 : Int32)), .val (.int (0 : Int32))] [(.ref r0)])) := by
    intro t ht
    refine XS.aloadN X0.here hx rfl (hb hby d_idx2_0) rfl rfl ?_
    exact ht
  obtain ⟨cq2, kq2, q2a, q2b, q2c⟩ := isOf hZ e0 E_r0
  obtain ⟨_, _, ⟨T2, L2, kq2, n2⟩, -, X2, ⟨Lc2, hQ2, l2, y2, z2⟩, st2⟩ := X0.virtualBack hx (y := (⟨"java/lang/String", "isLatin1", "()Z"⟩ : MethodName)) (z := (⟨"java/lang/String", "isLatin1", "()Z"⟩ : MethodName)) hown (mvT hZ (hw _ (List.mem_of_getElem? (i := 53) rfl))) (mvT hZ (hw _ (List.mem_of_getElem? (i := 54) rfl))) (notFace_of_selects (args := #[]) (mvT hZ (hw _ (List.mem_of_getElem? (i := 56) rfl)))) (mvT hZ (hw _ (List.mem_of_getElem? (i := 56) rfl))) (mvT hZ (hw _ (List.mem_of_getElem? (i := 55) rfl))) (by decide) (backOf (W := 0) (rm_isLat l Z a0 hw [] r0 G1 h0 n0 Z0 Fc_r0 S_CS (P5 : ¬ (G1 = (0 : Int32)))) hZ (hw _ (List.mem_of_getElem? (i := 57) rfl)) (hw _ (List.mem_of_getElem? (i := 9) rfl)) (by decide) (by decide)) q2a q2c (g := (mkF m 1 #[.val (.ref r0), .val (.int (42 : Int32)), .val (.int (0 : Int32))] [(.ref r0)])) rfl (by rw [hml]; rfl) (Steps.refl _) (argsL := []) (rest := []) (lenOf pd_5 rfl) rfl (by show 2 * 0 + _ ≤ _; exact Nat.le_of_eq rfl) (hb hby d_idx2_1) (fun _ _ => ⟨rfl, e0, (by decide : 0 + 0 ≤ _), (by decide : 0 + 0 ≤ _)⟩)
  dsimp only [Pt.U, Pt.locs, Pt.cells, Pt.slots] at X2 l2 y2 z2 st2 hQ2
  subst l2 y2 z2
  obtain ⟨rfl, N2q, eq2⟩ := hQ2
  have N2 := Fr.app N0 N2q
  have k2 : Go p.tables e below (s₁.setTop (mkF m 1 #[.val (.ref r0), .val (.int (42 : Int32)), .val (.int (0 : Int32))] [(.ref r0)])) (T2.setTop (mkF m 4 #[.val (.ref r0), .val (.int (42 : Int32)), .val (.int (0 : Int32))] [(.int (1 : Int32))])) := fun _ ht => st2.trans ht
  have k3 : Go p.tables e below (T2.setTop (mkF m 4 #[.val (.ref r0), .val (.int (42 : Int32)), .val (.int (0 : Int32))] [(.int (1 : Int32))])) (T2.setTop (mkF m 8 #[.val (.ref r0), .val (.int (42 : Int32)), .val (.int (0 : Int32))] [(.ref r0)])) := by
    intro t ht
    refine XS.ifNo X2.here hx rfl (hb hby d_idx2_4) rfl ((if0 _ _).trans (feq (by decide : ¬ ((1 : Int32) = (0 : Int32)))).1) ?_
    show Steps p.tables e below (T2.setTop (mkF m 7 #[.val (.ref r0), .val (.int (42 : Int32)), .val (.int (0 : Int32))] [])) _
    refine XS.aloadN X2.here hx rfl (hb hby d_idx2_7) rfl rfl ?_
    exact ht
  obtain ⟨T4, X4, e4, st4⟩ := getF X2 hx hZ hown (host := "") (Or.inl (hw _ (List.mem_of_getElem? (i := 27) rfl))) Via.refl eq2 Fv_r0 (g := (mkF m 8 #[.val (.ref r0), .val (.int (42 : Int32)), .val (.int (0 : Int32))] [(.ref r0)])) rfl rfl (hb hby d_idx2_8)
  have k4 : Go p.tables e below (T2.setTop (mkF m 8 #[.val (.ref r0), .val (.int (42 : Int32)), .val (.int (0 : Int32))] [(.ref r0)])) (T4.setTop (mkF m 11 #[.val (.ref r0), .val (.int (42 : Int32)), .val (.int (0 : Int32))] [(.ref tS)])) := st4
  have k5 : Go p.tables e below (T4.setTop (mkF m 11 #[.val (.ref r0), .val (.int (42 : Int32)), .val (.int (0 : Int32))] [(.ref tS)])) (T4.setTop (mkF m 14 #[.val (.ref r0), .val (.int (42 : Int32)), .val (.int (0 : Int32))] [(.ref r0), (.int (0 : Int32)), (.int (42 : Int32)), (.ref tS)])) := by
    intro t ht
    refine XS.iloadN X4.here hx rfl (hb hby d_idx2_11) rfl ?_
    show Steps p.tables e below (T4.setTop (mkF m 12 #[.val (.ref r0), .val (.int (42 : Int32)), .val (.int (0 : Int32))] [(.int (42 : Int32)), (.ref tS)])) _
    refine XS.iloadN X4.here hx rfl (hb hby d_idx2_12) rfl ?_
    show Steps p.tables e below (T4.setTop (mkF m 13 #[.val (.ref r0), .val (.int (42 : Int32)), .val (.int (0 : Int32))] [(.int (0 : Int32)), (.int (42 : Int32)), (.ref tS)])) _
    refine XS.aloadN X4.here hx rfl (hb hby d_idx2_13) rfl rfl ?_
    exact ht
  obtain ⟨cq6, kq6, q6a, q6b, q6c⟩ := isOf hZ e4 E_r0
  obtain ⟨_, _, ⟨T6, L6, kq6, n6⟩, -, X6, ⟨Lc6, hQ6, l6, y6, z6⟩, st6⟩ := X4.virtualBack hx (y := (⟨"java/lang/String", "length", "()I"⟩ : MethodName)) (z := (⟨"java/lang/String", "length", "()I"⟩ : MethodName)) hown (mvT hZ (hw _ (List.mem_of_getElem? (i := 59) rfl))) (mvT hZ (hw _ (List.mem_of_getElem? (i := 60) rfl))) (notFace_of_selects (args := #[]) (mvT hZ (hw _ (List.mem_of_getElem? (i := 62) rfl)))) (mvT hZ (hw _ (List.mem_of_getElem? (i := 62) rfl))) (mvT hZ (hw _ (List.mem_of_getElem? (i := 61) rfl))) (by decide) (StrChars.Road.lenW (W := 3) hZ (own_wordsLen hw) (kI := 4) (hw _ (List.mem_of_getElem? (i := 8) rfl)) E_r0 Fv_r0 Fc_r0 V_tS (StrChars.Road.codOf rfl fun c hc => (hch c hc).2) (own_up hch) S_CS P5 (Nat.le_trans hlen (by decide)) (by decide) (by decide)) q6a q6c (g := (mkF m 14 #[.val (.ref r0), .val (.int (42 : Int32)), .val (.int (0 : Int32))] [(.ref r0), (.int (0 : Int32)), (.int (42 : Int32)), (.ref tS)])) rfl (by rw [hml]; rfl) (Steps.refl _) (argsL := []) (rest := [(.int (0 : Int32)), (.int (42 : Int32)), (.ref tS)]) (lenOf pd_6 rfl) rfl (by show 2 * 0 + _ ≤ _; exact Nat.le_of_eq rfl) (hb hby d_idx2_14) (fun _ _ => ⟨rfl, e4, (by decide : 0 + 0 ≤ _), (by decide : 0 + 0 ≤ _)⟩)
  dsimp only [Pt.U, Pt.locs, Pt.cells, Pt.slots] at X6 l6 y6 z6 st6 hQ6
  subst l6 y6 z6
  obtain ⟨rfl, rfl, eq6⟩ := hQ6
  have N6 := Fr.app N2 (Fr.nil n0)
  have k6 : Go p.tables e below (T4.setTop (mkF m 14 #[.val (.ref r0), .val (.int (42 : Int32)), .val (.int (0 : Int32))] [(.ref r0), (.int (0 : Int32)), (.int (42 : Int32)), (.ref tS)])) (T6.setTop (mkF m 17 #[.val (.ref r0), .val (.int (42 : Int32)), .val (.int (0 : Int32))] [(.int (Int32.ofNat cs.length)), (.int (0 : Int32)), (.int (42 : Int32)), (.ref tS)])) := fun _ ht => st6.trans ht
  obtain ⟨_, _, ⟨T7, L7, kq7, n7⟩, -, X7, ⟨Lc7, hQ7, l7, y7, z7⟩, st7⟩ := Jvm.LawKit.callS X6 hx (y := (⟨"java/lang/StringLatin1", "indexOf", "([BIII)I"⟩ : MethodName)) hown (mvT hZ (hw _ (List.mem_of_getElem? (i := 69) rfl))) (mvT hZ (hw _ (List.mem_of_getElem? (i := 70) rfl))) (mvT hZ (hw _ (List.mem_of_getElem? (i := 71) rfl))) (mvT hZ (hw _ (List.mem_of_getElem? (i := 72) rfl))) (by decide) (backOf (W := 0) (rm_idxL l Z a0 hw [] tS (Int32.ofNat cs.length) kS cs h0 n0 Z0 V_tS (own_len3 hlen : ¬ ((3 : Int32) < (Int32.ofNat cs.length)))) hZ (hw _ (List.mem_of_getElem? (i := 72) rfl)) (hw _ (List.mem_of_getElem? (i := 71) rfl)) (by decide) (by decide)) (g := (mkF m 17 #[.val (.ref r0), .val (.int (42 : Int32)), .val (.int (0 : Int32))] [(.int (Int32.ofNat cs.length)), (.int (0 : Int32)), (.int (42 : Int32)), (.ref tS)])) rfl (by rw [hml]; rfl) (argsL := [(.ref tS), (.int (42 : Int32)), (.int (0 : Int32)), (.int (Int32.ofNat cs.length))]) (rest := []) (lenOf pd_4 rfl) rfl (by show 2 * 0 + _ ≤ _; exact Nat.le_of_eq rfl) (hb hby d_idx2_17) (fun _ _ => ⟨rfl, eq6, (by decide : 0 + 0 ≤ _), (by decide : 0 + 0 ≤ _)⟩)
  dsimp only [Pt.U, Pt.locs, Pt.cells, Pt.slots] at X7 l7 y7 z7 st7 hQ7
  subst l7 y7 z7
  obtain ⟨rfl, N7q, eq7⟩ := hQ7
  have N7 := Fr.app N6 N7q
  have k7 : Go p.tables e below (T6.setTop (mkF m 17 #[.val (.ref r0), .val (.int (42 : Int32)), .val (.int (0 : Int32))] [(.int (Int32.ofNat cs.length)), (.int (0 : Int32)), (.int (42 : Int32)), (.ref tS)])) (T7.setTop (mkF m 20 #[.val (.ref r0), .val (.int (42 : Int32)), .val (.int (0 : Int32))] [(.int (f_idxL (Int32.ofNat cs.length) cs))])) := st7
  have k8 : Go p.tables e below (T7.setTop (mkF m 20 #[.val (.ref r0), .val (.int (42 : Int32)), .val (.int (0 : Int32))] [(.int (f_idxL (Int32.ofNat cs.length) cs))])) (T7.setTop (mkF m 36 #[.val (.ref r0), .val (.int (42 : Int32)), .val (.int (0 : Int32))] [(.int (f_idxL (Int32.ofNat cs.length) cs))])) := by
    intro t ht
    refine XS.goto X7.here hx rfl (pc0 := 20) (pc' := 36) rfl (hb hby d_idx2_20) (by decide) (by decide) ?_
    exact ht
  obtain ⟨fs, hr, hrun, hended, hW, hsame⟩ := X7.leave (v := some (.int (f_idxL (Int32.ofNat cs.length) cs))) (fun h => by rw [Bd.returns] at h; cases h)
  refine ⟨_, _, pre0 _ ((goT k1 (goT k2 (goT k3 (goT k4 (goT k5 (goT k6 (goT k7 k8))))))) _ (retI X7 hx Bd.returns (hb hby d_idx2_36) hr)), hrun, hended, _, _, rfl, ?_, ⟨_, rfl⟩, hW, hsame.mono (by decide) (by decide)⟩
  show Q_idx2 Z r0 tS kS cs G1 h0 n0 _ T7.heap _
  rw [eq7]
  exact ⟨rfl, N7, rfl⟩
theorem d_idx1_0 : decode jdk_42_method_79_code 0 = .ok (.aload_n 0, 1) := by decide +kernel
theorem d_idx1_1 : decode jdk_42_method_79_code 1 = .ok (.iload_n 1, 1) := by decide +kernel
theorem d_idx1_2 : decode jdk_42_method_79_code 2 = .ok (.iconst 0, 1) := by decide +kernel
theorem d_idx1_3 : decode jdk_42_method_79_code 3 = .ok (.invokevirtual 633, 3) := by decide +kernel
theorem d_idx1_6 : decode jdk_42_method_79_code 6 = .ok (.ireturn, 1) := by decide +kernel
theorem ef_idx1 (m : MethodId) (x0 : Addr) : entryFrame m #[(.ref x0), (.int (42 : Int32))] 2 = mkF m 0 #[.val (.ref x0), .val (.int (42 : Int32))] [] := by first | (simp [entryFrame, mkF, argsToLocals, Value.category]; done) | rfl
def Q_idx1 (Z : State) (r0 : Addr) (tS : Addr) (kS : ClassId) (cs : List Int32) (G1 : Int32) (h0 : Heap) (n0 : Nat) (v : Option Value) (h : Heap) (L : List Loc) : Prop := v = some (.int (f_idxL (Int32.ofNat cs.length) cs)) ∧ Fr n0 L ∧ h = h0
set_option maxRecDepth 65536 in
set_option maxHeartbeats 40000000 in
theorem rm_idx1 (l : Launch) (Z : State) (a0 : Array Value) (hw : ∀ d ∈ tables_1, d.before a0 Z = true) (ws : List Jvm.Cond) (r0 : Addr) (tS : Addr) (kS : ClassId) (cs : List Int32) (G1 : Int32) (h0 : Heap) (n0 : Nat) (Z0 : n0 ≤ h0.size) (E_r0 : Exa Z h0 r0 "java/lang/String") (Fv_r0 : Fld Z h0 r0 "java/lang/String" "value" "[B" (.ref tS)) (Fc_r0 : Fld Z h0 r0 "java/lang/String" "coder" "B" (.int (0 : Int32))) (S_CS : Sta Z h0 "java/lang/String" "COMPACT_STRINGS" "Z" (.int G1)) (V_tS : Arv Z h0 tS kS .byte (Int32.ofNat cs.length) ((cs.map StrChars.lo8).map Value.int) (.int (0 : Int32))) (P5 : ¬ (G1 = (0 : Int32))) (hch : ∀ c ∈ cs, ¬ c < 0 ∧ ¬ (255 : Int32) < c) (hlen : cs.length ≤ 3) :
    MetFree l (⟨"java/lang/String", "indexOf", "(I)I"⟩ : MethodName) (head1 (Jvm.Cond.code (⟨"java/lang/String", "indexOf", "(I)I"⟩ : MethodName) jdk_42_method_79_code 2 (some .int) :: ws) ({ frames := 3, cells := 0, slots := 0, locals := 46 } : Room)) (fun a U => a = #[(.ref r0), (.int (42 : Int32))] ∧ Z.Warmed39 U.vm ∧ U.heap = h0) (fun _ _ _ _ _ => True) (fun _ U o U' => ∃ v L, o = .returned v ∧ Q_idx1 Z r0 tS kS cs G1 h0 n0 v U'.heap L ∧ FrameEnd U o U' L ({ frames := 3, cells := 0, slots := 0, locals := 46 } : Room).cells ({ frames := 3, cells := 0, slots := 0, locals := 46 } : Room).slots) := by
  refine MetFree.of_bodySF (plainFor_of_name pn_1) hisR ?_
  intro p e s m args below meth c s₁ Bd hml0 hP hK
  obtain ⟨rfl, hZ, hh⟩ := hP
  have hx := Bd.exec
  have hby := Bd.bytes
  have hml : c.maxLocals = 2 := hml0
  have hown : s.vm.findClass "java/lang/String" = some m.cls := findClass_of_methodNamed Bd.named
  have hnm := (name_of_methodNamed Bd.named Bd.method).1
  have X0 : Stand p l e ({ frames := 3, cells := 0, slots := 0, locals := 46 } : Room) s m #[(.ref r0), (.int (42 : Int32))] below meth c s₁ [] 0 0 := Stand.of_body Bd
  have e0 : s₁.heap = h0 := by rw [← hh, Bd.state]; rfl
  have N0 := Fr.nil n0
  have pre0 : ∀ t, Steps p.tables e below (s₁.setTop (mkF m 0 #[.val (.ref r0), .val (.int (42 : Int32))] [])) t → Steps p.tables e below (s₁.setTop (entryFrame m #[(.ref r0), (.int (42 : Int32))] 2)) t := fun t k => castTop (ef_idx1 m r0) k
  have k1 : Go p.tables e below (s₁.setTop (mkF m 0 #[.val (.ref r0), .val (.int (42 : Int32))] [])) (s₁.setTop (mkF m 3 #[.val (.ref r0), .val (.int (42 : Int32))] [(.int (0 : Int32)), (.int (42 : Int32)), (.ref r0)])) := by
    intro t ht
    refine XS.aloadN X0.here hx rfl (hb hby d_idx1_0) rfl rfl ?_
    show Steps p.tables e below (s₁.setTop (mkF m 1 #[.val (.ref r0), .val (.int (42 : Int32))] [(.ref r0)])) _
    refine XS.iloadN X0.here hx rfl (hb hby d_idx1_1) rfl ?_
    show Steps p.tables e below (s₁.setTop (mkF m 2 #[.val (.ref r0), .val (.int (42 : Int32))] [(.int (42 : Int32)), (.ref r0)])) _
    refine XS.iconst X0.here hx rfl (hb hby d_idx1_2) ?_
    exact ht
  obtain ⟨cq2, kq2, q2a, q2b, q2c⟩ := isOf hZ e0 E_r0
  obtain ⟨_, _, ⟨T2, L2, kq2, n2⟩, -, X2, ⟨Lc2, hQ2, l2, y2, z2⟩, st2⟩ := X0.virtualBack hx (y := (⟨"java/lang/String", "indexOf", "(II)I"⟩ : MethodName)) (z := (⟨"java/lang/String", "indexOf", "(II)I"⟩ : MethodName)) hown (mvT hZ (hw _ (List.mem_of_getElem? (i := 48) rfl))) (mvT hZ (hw _ (List.mem_of_getElem? (i := 49) rfl))) (notFace_of_selects (args := #[]) (mvT hZ (hw _ (List.mem_of_getElem? (i := 51) rfl)))) (mvT hZ (hw _ (List.mem_of_getElem? (i := 51) rfl))) (mvT hZ (hw _ (List.mem_of_getElem? (i := 50) rfl))) (by decide) (backOf (W := 0) (rm_idx2 l Z a0 hw [] r0 tS kS cs G1 h0 n0 Z0 E_r0 Fv_r0 Fc_r0 S_CS V_tS (P5 : ¬ (G1 = (0 : Int32))) (hch : ∀ c ∈ cs, ¬ c < 0 ∧ ¬ (255 : Int32) < c) (hlen : cs.length ≤ 3)) hZ (hw _ (List.mem_of_getElem? (i := 52) rfl)) (hw _ (List.mem_of_getElem? (i := 9) rfl)) (by decide) (by decide)) q2a q2c (g := (mkF m 3 #[.val (.ref r0), .val (.int (42 : Int32))] [(.int (0 : Int32)), (.int (42 : Int32)), (.ref r0)])) rfl (by rw [hml]; rfl) (Steps.refl _) (argsL := [(.int (42 : Int32)), (.int (0 : Int32))]) (rest := []) (lenOf pd_3 rfl) rfl (by show 2 * 0 + _ ≤ _; exact Nat.le_of_eq rfl) (hb hby d_idx1_3) (fun _ _ => ⟨rfl, e0, (by decide : 0 + 0 ≤ _), (by decide : 0 + 0 ≤ _)⟩)
  dsimp only [Pt.U, Pt.locs, Pt.cells, Pt.slots] at X2 l2 y2 z2 st2 hQ2
  subst l2 y2 z2
  obtain ⟨rfl, N2q, eq2⟩ := hQ2
  have N2 := Fr.app N0 N2q
  have k2 : Go p.tables e below (s₁.setTop (mkF m 3 #[.val (.ref r0), .val (.int (42 : Int32))] [(.int (0 : Int32)), (.int (42 : Int32)), (.ref r0)])) (T2.setTop (mkF m 6 #[.val (.ref r0), .val (.int (42 : Int32))] [(.int (f_idxL (Int32.ofNat cs.length) cs))])) := fun _ ht => st2.trans ht
  obtain ⟨fs, hr, hrun, hended, hW, hsame⟩ := X2.leave (v := some (.int (f_idxL (Int32.ofNat cs.length) cs))) (fun h => by rw [Bd.returns] at h; cases h)
  refine ⟨_, _, pre0 _ ((goT k1 k2) _ (retI X2 hx Bd.returns (hb hby d_idx1_6) hr)), hrun, hended, _, _, rfl, ?_, ⟨_, rfl⟩, hW, hsame.mono (by decide) (by decide)⟩
  show Q_idx1 Z r0 tS kS cs G1 h0 n0 _ T2.heap _
  rw [eq2]
  exact ⟨rfl, N2, rfl⟩
theorem pd_7 : parseMethodDescriptor "(I)I" = some ⟨[.int], some .int⟩ := by decide +kernel
theorem d_wc2_0 : decode prog_10_method_2_code 0 = .ok (.aload_n 0, 1) := by decide +kernel
theorem d_wc2_1 : decode prog_10_method_2_code 1 = .ok (.invokespecial 7, 3) := by decide +kernel
theorem d_wc2_4 : decode prog_10_method_2_code 4 = .ok (.aload_n 0, 1) := by decide +kernel
theorem d_wc2_5 : decode prog_10_method_2_code 5 = .ok (.aload_n 1, 1) := by decide +kernel
theorem d_wc2_6 : decode prog_10_method_2_code 6 = .ok (.putfield 12, 3) := by decide +kernel
theorem d_wc2_9 : decode prog_10_method_2_code 9 = .ok (.aload_n 0, 1) := by decide +kernel
theorem d_wc2_10 : decode prog_10_method_2_code 10 = .ok (.iload_n 2, 1) := by decide +kernel
theorem d_wc2_11 : decode prog_10_method_2_code 11 = .ok (.putfield 16, 3) := by decide +kernel
theorem d_wc2_14 : decode prog_10_method_2_code 14 = .ok (.aload_n 0, 1) := by decide +kernel
theorem d_wc2_15 : decode prog_10_method_2_code 15 = .ok (.aload_n 1, 1) := by decide +kernel
theorem d_wc2_16 : decode prog_10_method_2_code 16 = .ok (.bipush 42, 2) := by decide +kernel
theorem d_wc2_18 : decode prog_10_method_2_code 18 = .ok (.invokevirtual 20, 3) := by decide +kernel
theorem d_wc2_21 : decode prog_10_method_2_code 21 = .ok (.ifCond .ge 20, 3) := by decide +kernel
theorem d_wc2_24 : decode prog_10_method_2_code 24 = .ok (.iload_n 2, 1) := by decide +kernel
theorem d_wc2_25 : decode prog_10_method_2_code 25 = .ok (.ifCond .eq 12, 3) := by decide +kernel
theorem d_wc2_37 : decode prog_10_method_2_code 37 = .ok (.iconst 1, 1) := by decide +kernel
theorem d_wc2_38 : decode prog_10_method_2_code 38 = .ok (.goto 4, 3) := by decide +kernel
theorem d_wc2_41 : decode prog_10_method_2_code 41 = .ok (.iconst 0, 1) := by decide +kernel
theorem d_wc2_42 : decode prog_10_method_2_code 42 = .ok (.putfield 26, 3) := by decide +kernel
theorem d_wc2_45 : decode prog_10_method_2_code 45 = .ok (.return_, 1) := by decide +kernel
theorem pn_3 : plainName "com/example/fieldveil/fieldveil/Wildcard" = true := by first | (simp [plainName, overriddenIn]; done) | decide +kernel
theorem ef_wc2 (m : MethodId) (x0 : Addr) (x1 : Addr) : entryFrame m #[(.ref x0), (.ref x1), (.int (0 : Int32))] 3 = mkF m 0 #[.val (.ref x0), .val (.ref x1), .val (.int (0 : Int32))] [] := by first | (simp [entryFrame, mkF, argsToLocals, Value.category]; done) | rfl
def Q_wc2 (Z : State) (r0 : Addr) (r1 : Addr) (tS : Addr) (kS : ClassId) (cs : List Int32) (G1 : Int32) (h0 : Heap) (n0 : Nat) (v : Option Value) (h : Heap) (L : List Loc) : Prop := v = none ∧ Fr n0 L ∧ Keep h0 h [r0] ∧ Exa Z h r0 "com/example/fieldveil/fieldveil/Wildcard" ∧ Fld Z h r0 "com/example/fieldveil/fieldveil/Wildcard" "pattern" "Ljava/lang/String;" (.ref r1) ∧ Fld Z h r0 "com/example/fieldveil/fieldveil/Wildcard" "anyOne" "Z" (.int (0 : Int32))
set_option maxRecDepth 65536 in
set_option maxHeartbeats 40000000 in
theorem rm_wc2 (l : Launch) (Z : State) (a0 : Array Value) (hw : ∀ d ∈ tables_1, d.before a0 Z = true) (ws : List Jvm.Cond) (r0 : Addr) (r1 : Addr) (tS : Addr) (kS : ClassId) (cs : List Int32) (G1 : Int32) (h0 : Heap) (n0 : Nat) (Z0 : n0 ≤ h0.size) (Fp : Fld Z h0 r0 "com/example/fieldveil/fieldveil/Wildcard" "pattern" "Ljava/lang/String;" .null) (Fa : Fld Z h0 r0 "com/example/fieldveil/fieldveil/Wildcard" "anyOne" "Z" (.int (0 : Int32))) (Fl : Fld Z h0 r0 "com/example/fieldveil/fieldveil/Wildcard" "literal" "Z" (.int (0 : Int32))) (E_r0 : Exa Z h0 r0 "com/example/fieldveil/fieldveil/Wildcard") (E_r1 : Exa Z h0 r1 "java/lang/String") (Fv_r1 : Fld Z h0 r1 "java/lang/String" "value" "[B" (.ref tS)) (Fc_r1 : Fld Z h0 r1 "java/lang/String" "coder" "B" (.int (0 : Int32))) (S_CS : Sta Z h0 "java/lang/String" "COMPACT_STRINGS" "Z" (.int G1)) (V_tS : Arv Z h0 tS kS .byte (Int32.ofNat cs.length) ((cs.map StrChars.lo8).map Value.int) (.int (0 : Int32))) (g_r0 : n0 ≤ r0) (P5 : ¬ (G1 = (0 : Int32))) (hch : ∀ c ∈ cs, ¬ c < 0 ∧ ¬ (255 : Int32) < c) (hlen : cs.length ≤ 3) (hne1 : r1 ≠ r0) (hne2 : tS ≠ r0) :
    MetFree l (⟨"com/example/fieldveil/fieldveil/Wildcard", "<init>", "(Ljava/lang/String;Z)V"⟩ : MethodName) (head1 (Jvm.Cond.code (⟨"com/example/fieldveil/fieldveil/Wildcard", "<init>", "(Ljava/lang/String;Z)V"⟩ : MethodName) prog_10_method_2_code 3 none :: ws) ({ frames := 4, cells := 0, slots := 0, locals := 60 } : Room)) (fun a U => a = #[(.ref r0), (.ref r1), (.int (0 : Int32))] ∧ Z.Warmed39 U.vm ∧ U.heap = h0) (fun _ _ _ _ _ => True) (fun _ U o U' => ∃ v L, o = .returned v ∧ Q_wc2 Z r0 r1 tS kS cs G1 h0 n0 v U'.heap L ∧ FrameEnd U o U' L ({ frames := 4, cells := 0, slots := 0, locals := 60 } : Room).cells ({ frames := 4, cells := 0, slots := 0, locals := 60 } : Room).slots) := by
  refine MetFree.of_bodySF (plainFor_of_name pn_3) hisR ?_
  intro p e s m args below meth c s₁ Bd hml0 hP hK
  obtain ⟨rfl, hZ, hh⟩ := hP
  have hx := Bd.exec
  have hby := Bd.bytes
  have hml : c.maxLocals = 3 := hml0
  have hown : s.vm.findClass "com/example/fieldveil/fieldveil/Wildcard" = some m.cls := findClass_of_methodNamed Bd.named
  have hnm := (name_of_methodNamed Bd.named Bd.method).1
  have X0 : Stand p l e ({ frames := 4, cells := 0, slots := 0, locals := 60 } : Room) s m #[(.ref r0), (.ref r1), (.int (0 : Int32))] below meth c s₁ [] 0 0 := Stand.of_body Bd
  have e0 : s₁.heap = h0 := by rw [← hh, Bd.state]; rfl
  have N0 := Fr.nil n0
  have pre0 : ∀ t, Steps p.tables e below (s₁.setTop (mkF m 0 #[.val (.ref r0), .val (.ref r1), .val (.int (0 : Int32))] [])) t → Steps p.tables e below (s₁.setTop (entryFrame m #[(.ref r0), (.ref r1), (.int (0 : Int32))] 3)) t := fun t k => castTop (ef_wc2 m r0 r1) k
  have k1 : Go p.tables e below (s₁.setTop (mkF m 0 #[.val (.ref r0), .val (.ref r1), .val (.int (0 : Int32))] [])) (s₁.setTop (mkF m 1 #[.val (.ref r0), .val (.ref r1), .val (.int (0 : Int32))] [(.ref r0)])) := by
    intro t ht
    refine XS.aloadN X0.here hx rfl (hb hby d_wc2_0) rfl rfl ?_
    exact ht
  obtain ⟨T2, X2, e2, st2⟩ := initO X0 hx hZ hown (hw _ (List.mem_of_getElem? (i := 38) rfl)) (hw _ (List.mem_of_getElem? (i := 19) rfl)) (hw _ (List.mem_of_getElem? (i := 20) rfl)) e0 (g := (mkF m 1 #[.val (.ref r0), .val (.ref r1), .val (.int (0 : Int32))] [(.ref r0)])) rfl (by rw [hml]; rfl) rfl (hb hby d_wc2_1) (by decide) (W := 0) (by show 2 * 0 + _ ≤ _; exact Nat.le_of_eq rfl) (by decide)
  have k2 : Go p.tables e below (s₁.setTop (mkF m 1 #[.val (.ref r0), .val (.ref r1), .val (.int (0 : Int32))] [(.ref r0)])) (T2.setTop (mkF m 4 #[.val (.ref r0), .val (.ref r1), .val (.int (0 : Int32))] [])) := st2
  have k3 : Go p.tables e below (T2.setTop (mkF m 4 #[.val (.ref r0), .val (.ref r1), .val (.int (0 : Int32))] [])) (T2.setTop (mkF m 6 #[.val (.ref r0), .val (.ref r1), .val (.int (0 : Int32))] [(.ref r1), (.ref r0)])) := by
    intro t ht
    refine XS.aloadN X2.here hx rfl (hb hby d_wc2_4) rfl rfl ?_
    show Steps p.tables e below (T2.setTop (mkF m 5 #[.val (.ref r0), .val (.ref r1), .val (.int (0 : Int32))] [(.ref r0)])) _
    refine XS.aloadN X2.here hx rfl (hb hby d_wc2_5) rfl rfl ?_
    exact ht
  obtain ⟨T4, h4, X4, e4, W4, st4⟩ := putF X2 hx hZ hown (host := "") (Or.inl (hw _ (List.mem_of_getElem? (i := 39) rfl))) Via.refl e2 Fp E_r0 (Or.inr ⟨(hw _ (List.mem_of_getElem? (i := 40) rfl)), rfl, hnm⟩) (hw _ (List.mem_of_getElem? (i := 30) rfl)) (ty := (.object "java/lang/String")) (by decide) rfl rfl (g := (mkF m 6 #[.val (.ref r0), .val (.ref r1), .val (.int (0 : Int32))] [(.ref r1), (.ref r0)])) rfl rfl (hb hby d_wc2_6)
  have Kp4 : Keep h0 h4 [r0] := (Keep.refl h0 [r0]).wr W4 (Or.inl (by simp))
  have Z4 : n0 ≤ h4.size := Nat.le_trans Z0 (Keep.of_wr W4).1
  have Fp_c_4 := Fp.same W4
  have Fa_c_4 := Fa.other W4 (Or.inr (slot_ne (Or.inr (hw _ (List.mem_of_getElem? (i := 42) rfl))) (Or.inr (hw _ (List.mem_of_getElem? (i := 40) rfl))) (by decide) (t := .boolean) (t' := (.object "java/lang/String")) (by decide) (by decide)))
  have Fl_c_4 := Fl.other W4 (Or.inr (slot_ne (Or.inr (hw _ (List.mem_of_getElem? (i := 84) rfl))) (Or.inr (hw _ (List.mem_of_getElem? (i := 40) rfl))) (by decide) (t := .boolean) (t' := (.object "java/lang/String")) (by decide) (by decide)))
  have E_r0_c_4 := E_r0.wr W4
  have E_r1_c_4 := E_r1.wr W4
  have Fv_r1_c_4 := Fv_r1.other W4 (Or.inl hne1)
  have Fc_r1_c_4 := Fc_r1.other W4 (Or.inl hne1)
  have S_CS_c_4 := S_CS.wr W4
  have V_tS_c_4 := V_tS.other W4 hne2
  have k4 : Go p.tables e below (T2.setTop (mkF m 6 #[.val (.ref r0), .val (.ref r1), .val (.int (0 : Int32))] [(.ref r1), (.ref r0)])) (T4.setTop (mkF m 9 #[.val (.ref r0), .val (.ref r1), .val (.int (0 : Int32))] [])) := st4
  have N4 := Fr.snoc X4 N0 g_r0
  have k5 : Go p.tables e below (T4.setTop (mkF m 9 #[.val (.ref r0), .val (.ref r1), .val (.int (0 : Int32))] [])) (T4.setTop (mkF m 11 #[.val (.ref r0), .val (.ref r1), .val (.int (0 : Int32))] [(.int (0 : Int32)), (.ref r0)])) := by
    intro t ht
    refine XS.aloadN X4.here hx rfl (hb hby d_wc2_9) rfl rfl ?_
    show Steps p.tables e below (T4.setTop (mkF m 10 #[.val (.ref r0), .val (.ref r1), .val (.int (0 : Int32))] [(.ref r0)])) _
    refine XS.iloadN X4.here hx rfl (hb hby d_wc2_10) rfl ?_
    exact ht
  obtain ⟨T6, h6, X6, e6, W6, st6⟩ := putFN X4 hx hZ hown (hw _ (List.mem_of_getElem? (i := 41) rfl)) Via.refl e4 Fa_c_4 E_r0_c_4 (Or.inr ⟨(hw _ (List.mem_of_getElem? (i := 42) rfl)), rfl, hnm⟩) (hw _ (List.mem_of_getElem? (i := 30) rfl)) (ty := .boolean) (v' := (.int (0 : Int32))) (by decide) rfl (by decide) (g := (mkF m 11 #[.val (.ref r0), .val (.ref r1), .val (.int (0 : Int32))] [(.int (0 : Int32)), (.ref r0)])) rfl rfl (hb hby d_wc2_11)
  have Kp6 : Keep h0 h6 [r0] := Kp4.wr W6 (Or.inl (by simp))
  have Z6 : n0 ≤ h6.size := Nat.le_trans Z4 (Keep.of_wr W6).1
  have Fp_c_6 := Fp_c_4.other W6 (Or.inr (slot_ne (Or.inr (hw _ (List.mem_of_getElem? (i := 40) rfl))) (Or.inr (hw _ (List.mem_of_getElem? (i := 42) rfl))) (by decide) (t := (.object "java/lang/String")) (t' := .boolean) (by decide) (by decide)))
  have Fa_c_6 := Fa_c_4.same W6
  have Fl_c_6 := Fl_c_4.other W6 (Or.inr (slot_ne (Or.inr (hw _ (List.mem_of_getElem? (i := 84) rfl))) (Or.inr (hw _ (List.mem_of_getElem? (i := 42) rfl))) (by decide) (t := .boolean) (t' := .boolean) (by decide) (by decide)))
  have E_r0_c_6 := E_r0_c_4.wr W6
  have E_r1_c_6 := E_r1_c_4.wr W6
  have Fv_r1_c_6 := Fv_r1_c_4.other W6 (Or.inl hne1)
  have Fc_r1_c_6 := Fc_r1_c_4.other W6 (Or.inl hne1)
  have S_CS_c_6 := S_CS_c_4.wr W6
  have V_tS_c_6 := V_tS_c_4.other W6 hne2
  have k6 : Go p.tables e below (T4.setTop (mkF m 11 #[.val (.ref r0), .val (.ref r1), .val (.int (0 : Int32))] [(.int (0 : Int32)), (.ref r0)])) (T6.setTop (mkF m 14 #[.val (.ref r0), .val (.ref r1), .val (.int (0 : Int32))] [])) := st6
  have N6 := Fr.snoc X6 N4 g_r0
  have k7 : Go p.tables e below (T6.setTop (mkF m 14 #[.val (.ref r0), .val (.ref r1), .val (.int (0 : Int32))] [])) (T6.setTop (mkF m 18 #[.val (.ref r0), .val (.ref r1), .val (.int (0 : Int32))] [(.int (42 : Int32)), (.ref r1), (.ref r0)])) := by
    intro t ht
    refine XS.aloadN X6.here hx rfl (hb hby d_wc2_14) rfl rfl ?_
    show Steps p.tables e below (T6.setTop (mkF m 15 #[.val (.ref r0), .val (.ref r1), .val (.int (0 : Int32))] [(.ref r0)])) _
    refine XS.aloadN X6.here hx rfl (hb hby d_wc2_15) rfl rfl ?_
    show Steps p.tables e below (T6.setTop (mkF m 16 #[.val (.ref r0), .val (.ref r1), .val (.int (0 : Int32))] [(.ref r1), (.ref r0)])) _
    refine XS.bipush X6.here hx rfl (hb hby d_wc2_16) ?_
    exact ht
  obtain ⟨cq8, kq8, q8a, q8b, q8c⟩ := isOf hZ e6 E_r1_c_6
  obtain ⟨_, _, ⟨T8, L8, kq8, n8⟩, -, X8, ⟨Lc8, hQ8, l8, y8, z8⟩, st8⟩ := X6.virtualBack hx (y := (⟨"java/lang/String", "indexOf", "(I)I"⟩ : MethodName)) (z := (⟨"java/lang/String", "indexOf", "(I)I"⟩ : MethodName)) hown (mvT hZ (hw _ (List.mem_of_getElem? (i := 43) rfl))) (mvT hZ (hw _ (List.mem_of_getElem? (i := 44) rfl))) (notFace_of_selects (args := #[]) (mvT hZ (hw _ (List.mem_of_getElem? (i := 46) rfl)))) (mvT hZ (hw _ (List.mem_of_getElem? (i := 46) rfl))) (mvT hZ (hw _ (List.mem_of_getElem? (i := 45) rfl))) (by decide) (backOf (W := 1) (rm_idx1 l Z a0 hw [] r1 tS kS cs G1 h6 n0 Z6 E_r1_c_6 Fv_r1_c_6 Fc_r1_c_6 S_CS_c_6 V_tS_c_6 (P5 : ¬ (G1 = (0 : Int32))) (hch : ∀ c ∈ cs, ¬ c < 0 ∧ ¬ (255 : Int32) < c) (hlen : cs.length ≤ 3)) hZ (hw _ (List.mem_of_getElem? (i := 47) rfl)) (hw _ (List.mem_of_getElem? (i := 9) rfl)) (by decide) (by decide)) q8a q8c (g := (mkF m 18 #[.val (.ref r0), .val (.ref r1), .val (.int (0 : Int32))] [(.int (42 : Int32)), (.ref r1), (.ref r0)])) rfl (by rw [hml]; rfl) (Steps.refl _) (argsL := [(.int (42 : Int32))]) (rest := [(.ref r0)]) (lenOf pd_7 rfl) rfl (by show 2 * 0 + _ ≤ _; exact Nat.le_of_eq rfl) (hb hby d_wc2_18) (fun _ _ => ⟨rfl, e6, (by decide : 0 + 0 ≤ _), (by decide : 0 + 0 ≤ _)⟩)
  dsimp only [Pt.U, Pt.locs, Pt.cells, Pt.slots] at X8 l8 y8 z8 st8 hQ8
  subst l8 y8 z8
  obtain ⟨rfl, N8q, eq8⟩ := hQ8
  have N8 := Fr.app N6 N8q
  have k8 : Go p.tables e below (T6.setTop (mkF m 18 #[.val (.ref r0), .val (.ref r1), .val (.int (0 : Int32))] [(.int (42 : Int32)), (.ref r1), (.ref r0)])) (T8.setTop (mkF m 21 #[.val (.ref r0), .val (.ref r1), .val (.int (0 : Int32))] [(.int (f_idxL (Int32.ofNat cs.length) cs)), (.ref r0)])) := fun _ ht => st8.trans ht
  have k9 : Go p.tables e below (T8.setTop (mkF m 21 #[.val (.ref r0), .val (.ref r1), .val (.int (0 : Int32))] [(.int (f_idxL (Int32.ofNat cs.length) cs)), (.ref r0)])) (T8.setTop (mkF m 42 #[.val (.ref r0), .val (.ref r1), .val (.int (0 : Int32))] [(.int (if (f_idxL (Int32.ofNat cs.length) cs) < (0 : Int32) then (1 : Int32) else (0 : Int32))), (.ref r0)])) := by
    by_cases hc10 : (f_idxL (Int32.ofNat cs.length) cs) < (0 : Int32)
    · have k11 : Go p.tables e below (T8.setTop (mkF m 21 #[.val (.ref r0), .val (.ref r1), .val (.int (0 : Int32))] [(.int (f_idxL (Int32.ofNat cs.length) cs)), (.ref r0)])) (T8.setTop (mkF m 42 #[.val (.ref r0), .val (.ref r1), .val (.int (0 : Int32))] [(.int (1 : Int32)), (.ref r0)])) := by
        intro t ht
        refine XS.ifNo X8.here hx rfl (hb hby d_wc2_21) rfl ((if0 _ _).trans (tlt hc10).2.1) ?_
        show Steps p.tables e below (T8.setTop (mkF m 24 #[.val (.ref r0), .val (.ref r1), .val (.int (0 : Int32))] [(.ref r0)])) _
        refine XS.iloadN X8.here hx rfl (hb hby d_wc2_24) rfl ?_
        show Steps p.tables e below (T8.setTop (mkF m 25 #[.val (.ref r0), .val (.ref r1), .val (.int (0 : Int32))] [(.int (0 : Int32)), (.ref r0)])) _
        refine XS.ifYes X8.here hx rfl (pc0 := 25) (pc' := 37) rfl (hb hby d_wc2_25) rfl ((if0 _ _).trans (teq (by decide : (0 : Int32) = (0 : Int32))).1) (by decide) (by decide) ?_
        show Steps p.tables e below (T8.setTop (mkF m 37 #[.val (.ref r0), .val (.ref r1), .val (.int (0 : Int32))] [(.ref r0)])) _
        refine XS.iconst X8.here hx rfl (hb hby d_wc2_37) ?_
        show Steps p.tables e below (T8.setTop (mkF m 38 #[.val (.ref r0), .val (.ref r1), .val (.int (0 : Int32))] [(.int (1 : Int32)), (.ref r0)])) _
        refine XS.goto X8.here hx rfl (pc0 := 38) (pc' := 42) rfl (hb hby d_wc2_38) (by decide) (by decide) ?_
        exact ht
      have kk := k11
      simpa only [if_neg P5, if_pos hc10] using kk
    · have k12 : Go p.tables e below (T8.setTop (mkF m 21 #[.val (.ref r0), .val (.ref r1), .val (.int (0 : Int32))] [(.int (f_idxL (Int32.ofNat cs.length) cs)), (.ref r0)])) (T8.setTop (mkF m 42 #[.val (.ref r0), .val (.ref r1), .val (.int (0 : Int32))] [(.int (0 : Int32)), (.ref r0)])) := by
        intro t ht
        refine XS.ifYes X8.here hx rfl (pc0 := 21) (pc' := 41) rfl (hb hby d_wc2_21) rfl ((if0 _ _).trans (flt hc10).2.1) (by decide) (by decide) ?_
        show Steps p.tables e below (T8.setTop (mkF m 41 #[.val (.ref r0), .val (.ref r1), .val (.int (0 : Int32))] [(.ref r0)])) _
        refine XS.iconst X8.here hx rfl (hb hby d_wc2_41) ?_
        exact ht
      have kk := k12
      simpa only [if_neg P5, if_neg hc10] using kk
  obtain ⟨T13, h13, X13, e13, W13, st13⟩ := putFN X8 hx hZ hown (hw _ (List.mem_of_getElem? (i := 83) rfl)) Via.refl eq8 Fl_c_6 E_r0_c_6 (Or.inr ⟨(hw _ (List.mem_of_getElem? (i := 84) rfl)), rfl, hnm⟩) (hw _ (List.mem_of_getElem? (i := 30) rfl)) (ty := .boolean) (v' := (.int (nar .boolean (if (f_idxL (Int32.ofNat cs.length) cs) < (0 : Int32) then (1 : Int32) else (0 : Int32))))) (by decide) rfl (fits_nar_bool _) (g := (mkF m 42 #[.val (.ref r0), .val (.ref r1), .val (.int (0 : Int32))] [(.int (if (f_idxL (Int32.ofNat cs.length) cs) < (0 : Int32) then (1 : Int32) else (0 : Int32))), (.ref r0)])) rfl rfl (hb hby d_wc2_42)
  have Kp13 : Keep h0 h13 [r0] := Kp6.wr W13 (Or.inl (by simp))
  have Z13 : n0 ≤ h13.size := Nat.le_trans Z6 (Keep.of_wr W13).1
  have Fp_c_13 := Fp_c_6.other W13 (Or.inr (slot_ne (Or.inr (hw _ (List.mem_of_getElem? (i := 40) rfl))) (Or.inr (hw _ (List.mem_of_getElem? (i := 84) rfl))) (by decide) (t := (.object "java/lang/String")) (t' := .boolean) (by decide) (by decide)))
  have Fa_c_13 := Fa_c_6.other W13 (Or.inr (slot_ne (Or.inr (hw _ (List.mem_of_getElem? (i := 42) rfl))) (Or.inr (hw _ (List.mem_of_getElem? (i := 84) rfl))) (by decide) (t := .boolean) (t' := .boolean) (by decide) (by decide)))
  have Fl_c_13 := Fl_c_6.same W13
  have E_r0_c_13 := E_r0_c_6.wr W13
  have E_r1_c_13 := E_r1_c_6.wr W13
  have Fv_r1_c_13 := Fv_r1_c_6.other W13 (Or.inl hne1)
  have Fc_r1_c_13 := Fc_r1_c_6.other W13 (Or.inl hne1)
  have S_CS_c_13 := S_CS_c_6.wr W13
  have V_tS_c_13 := V_tS_c_6.other W13 hne2
  have k13 : Go p.tables e below (T8.setTop (mkF m 42 #[.val (.ref r0), .val (.ref r1), .val (.int (0 : Int32))] [(.int (if (f_idxL (Int32.ofNat cs.length) cs) < (0 : Int32) then (1 : Int32) else (0 : Int32))), (.ref r0)])) (T13.setTop (mkF m 45 #[.val (.ref r0), .val (.ref r1), .val (.int (0 : Int32))] [])) := st13
  have N13 := Fr.snoc X13 N8 g_r0
  obtain ⟨fs, hr, hrun, hended, hW, hsame⟩ := X13.leave (v := none) (fun _ => rfl)
  refine ⟨_, _, pre0 _ ((goT k1 (goT k2 (goT k3 (goT k4 (goT k5 (goT k6 (goT k7 (goT k8 (goT k9 k13))))))))) _ (X13.returnOut hx Bd.returns (hb hby d_wc2_45) hr)), hrun, hended, _, _, rfl, ?_, ⟨_, rfl⟩, hW, hsame.mono (by decide) (by decide)⟩
  show Q_wc2 Z r0 r1 tS kS cs G1 h0 n0 _ T13.heap _
  rw [e13]
  exact ⟨rfl, N13, Kp13, E_r0_c_13, Fp_c_13, Fa_c_13⟩
theorem pd_8 : parseMethodDescriptor "(Ljava/lang/String;Z)V" = some ⟨[(.object "java/lang/String"), .boolean], none⟩ := by decide +kernel
theorem d_wc1_0 : decode prog_10_method_1_code 0 = .ok (.aload_n 0, 1) := by decide +kernel
theorem d_wc1_1 : decode prog_10_method_1_code 1 = .ok (.aload_n 1, 1) := by decide +kernel
theorem d_wc1_2 : decode prog_10_method_1_code 2 = .ok (.iconst 0, 1) := by decide +kernel
theorem d_wc1_3 : decode prog_10_method_1_code 3 = .ok (.invokespecial 1, 3) := by decide +kernel
theorem d_wc1_6 : decode prog_10_method_1_code 6 = .ok (.return_, 1) := by decide +kernel
theorem ef_wc1 (m : MethodId) (x0 : Addr) (x1 : Addr) : entryFrame m #[(.ref x0), (.ref x1)] 2 = mkF m 0 #[.val (.ref x0), .val (.ref x1)] [] := by first | (simp [entryFrame, mkF, argsToLocals, Value.category]; done) | rfl
def Q_wc1 (Z : State) (r0 : Addr) (r1 : Addr) (tS : Addr) (kS : ClassId) (cs : List Int32) (G1 : Int32) (h0 : Heap) (n0 : Nat) (v : Option Value) (h : Heap) (L : List Loc) : Prop := v = none ∧ Fr n0 L ∧ Keep h0 h [r0] ∧ Exa Z h r0 "com/example/fieldveil/fieldveil/Wildcard" ∧ Fld Z h r0 "com/example/fieldveil/fieldveil/Wildcard" "pattern" "Ljava/lang/String;" (.ref r1) ∧ Fld Z h r0 "com/example/fieldveil/fieldveil/Wildcard" "anyOne" "Z" (.int (0 : Int32))
set_option maxRecDepth 65536 in
set_option maxHeartbeats 40000000 in
theorem rm_wc1 (l : Launch) (Z : State) (a0 : Array Value) (hw : ∀ d ∈ tables_1, d.before a0 Z = true) (ws : List Jvm.Cond) (r0 : Addr) (r1 : Addr) (tS : Addr) (kS : ClassId) (cs : List Int32) (G1 : Int32) (h0 : Heap) (n0 : Nat) (Z0 : n0 ≤ h0.size) (Fp : Fld Z h0 r0 "com/example/fieldveil/fieldveil/Wildcard" "pattern" "Ljava/lang/String;" .null) (Fa : Fld Z h0 r0 "com/example/fieldveil/fieldveil/Wildcard" "anyOne" "Z" (.int (0 : Int32))) (Fl : Fld Z h0 r0 "com/example/fieldveil/fieldveil/Wildcard" "literal" "Z" (.int (0 : Int32))) (E_r0 : Exa Z h0 r0 "com/example/fieldveil/fieldveil/Wildcard") (E_r1 : Exa Z h0 r1 "java/lang/String") (Fv_r1 : Fld Z h0 r1 "java/lang/String" "value" "[B" (.ref tS)) (Fc_r1 : Fld Z h0 r1 "java/lang/String" "coder" "B" (.int (0 : Int32))) (S_CS : Sta Z h0 "java/lang/String" "COMPACT_STRINGS" "Z" (.int G1)) (V_tS : Arv Z h0 tS kS .byte (Int32.ofNat cs.length) ((cs.map StrChars.lo8).map Value.int) (.int (0 : Int32))) (g_r0 : n0 ≤ r0) (P5 : ¬ (G1 = (0 : Int32))) (hch : ∀ c ∈ cs, ¬ c < 0 ∧ ¬ (255 : Int32) < c) (hlen : cs.length ≤ 3) (hne1 : r1 ≠ r0) (hne2 : tS ≠ r0) :
    MetFree l (⟨"com/example/fieldveil/fieldveil/Wildcard", "<init>", "(Ljava/lang/String;)V"⟩ : MethodName) (head1 (Jvm.Cond.code (⟨"com/example/fieldveil/fieldveil/Wildcard", "<init>", "(Ljava/lang/String;)V"⟩ : MethodName) prog_10_method_1_code 2 none :: ws) ({ frames := 5, cells := 0, slots := 0, locals := 74 } : Room)) (fun a U => a = #[(.ref r0), (.ref r1)] ∧ Z.Warmed39 U.vm ∧ U.heap = h0) (fun _ _ _ _ _ => True) (fun _ U o U' => ∃ v L, o = .returned v ∧ Q_wc1 Z r0 r1 tS kS cs G1 h0 n0 v U'.heap L ∧ FrameEnd U o U' L ({ frames := 5, cells := 0, slots := 0, locals := 74 } : Room).cells ({ frames := 5, cells := 0, slots := 0, locals := 74 } : Room).slots) := by
  refine MetFree.of_bodySF (plainFor_of_name pn_3) hisR ?_
  intro p e s m args below meth c s₁ Bd hml0 hP hK
  obtain ⟨rfl, hZ, hh⟩ := hP
  have hx := Bd.exec
  have hby := Bd.bytes
  have hml : c.maxLocals = 2 := hml0
  have hown : s.vm.findClass "com/example/fieldveil/fieldveil/Wildcard" = some m.cls := findClass_of_methodNamed Bd.named
  have hnm := (name_of_methodNamed Bd.named Bd.method).1
  have X0 : Stand p l e ({ frames := 5, cells := 0, slots := 0, locals := 74 } : Room) s m #[(.ref r0), (.ref r1)] below meth c s₁ [] 0 0 := Stand.of_body Bd
  have e0 : s₁.heap = h0 := by rw [← hh, Bd.state]; rfl
  have N0 := Fr.nil n0
  have pre0 : ∀ t, Steps p.tables e below (s₁.setTop (mkF m 0 #[.val (.ref r0), .val (.ref r1)] [])) t → Steps p.tables e below (s₁.setTop (entryFrame m #[(.ref r0), (.ref r1)] 2)) t := fun t k => castTop (ef_wc1 m r0 r1) k
  have k1 : Go p.tables e below (s₁.setTop (mkF m 0 #[.val (.ref r0), .val (.ref r1)] [])) (s₁.setTop (mkF m 3 #[.val (.ref r0), .val (.ref r1)] [(.int (0 : Int32)), (.ref r1), (.ref r0)])) := by
    intro t ht
    refine XS.aloadN X0.here hx rfl (hb hby d_wc1_0) rfl rfl ?_
    show Steps p.tables e below (s₁.setTop (mkF m 1 #[.val (.ref r0), .val (.ref r1)] [(.ref r0)])) _
    refine XS.aloadN X0.here hx rfl (hb hby d_wc1_1) rfl rfl ?_
    show Steps p.tables e below (s₁.setTop (mkF m 2 #[.val (.ref r0), .val (.ref r1)] [(.ref r1), (.ref r0)])) _
    refine XS.iconst X0.here hx rfl (hb hby d_wc1_2) ?_
    exact ht
  obtain ⟨_, _, ⟨T2, L2, kq2, n2⟩, -, X2, ⟨Lc2, hQ2, l2, y2, z2⟩, st2⟩ := X0.specialBack hx (y := (⟨"com/example/fieldveil/fieldveil/Wildcard", "<init>", "(Ljava/lang/String;Z)V"⟩ : MethodName)) rfl hown (mvT hZ (hw _ (List.mem_of_getElem? (i := 35) rfl))) (mvT hZ (hw _ (List.mem_of_getElem? (i := 36) rfl))) (mvT hZ (hw _ (List.mem_of_getElem? (i := 37) rfl))) (by decide) (backOf (W := 0) (rm_wc2 l Z a0 hw [] r0 r1 tS kS cs G1 h0 n0 Z0 Fp Fa Fl E_r0 E_r1 Fv_r1 Fc_r1 S_CS V_tS g_r0 (P5 : ¬ (G1 = (0 : Int32))) (hch : ∀ c ∈ cs, ¬ c < 0 ∧ ¬ (255 : Int32) < c) (hlen : cs.length ≤ 3) (hne1 : r1 ≠ r0) (hne2 : tS ≠ r0)) hZ (hw _ (List.mem_of_getElem? (i := 37) rfl)) (hw _ (List.mem_of_getElem? (i := 31) rfl)) (by decide) (by decide)) (g := (mkF m 3 #[.val (.ref r0), .val (.ref r1)] [(.int (0 : Int32)), (.ref r1), (.ref r0)])) rfl (by rw [hml]; rfl) (Steps.refl _) (a := r0) (argsL := [(.ref r1), (.int (0 : Int32))]) (rest := []) (lenOf pd_8 rfl) rfl (by show 2 * 0 + _ ≤ _; exact Nat.le_of_eq rfl) (hb hby d_wc1_3) (fun _ _ => ⟨rfl, e0, (by decide : 0 + 0 ≤ _), (by decide : 0 + 0 ≤ _)⟩)
  dsimp only [Pt.U, Pt.locs, Pt.cells, Pt.slots] at X2 l2 y2 z2 st2 hQ2
  subst l2 y2 z2
  obtain ⟨rfl, N2q, K2, Fq2_0, Fq2_1, Fq2_2⟩ := hQ2
  have N2 := Fr.app N0 N2q
  have k2 : Go p.tables e below (s₁.setTop (mkF m 3 #[.val (.ref r0), .val (.ref r1)] [(.int (0 : Int32)), (.ref r1), (.ref r0)])) (T2.setTop (mkF m 6 #[.val (.ref r0), .val (.ref r1)] [])) := fun _ ht => st2.trans ht
  have Kp2 : Keep h0 T2.heap [r0] := (Keep.refl h0 [r0]).trans K2 (allS (Or.inl (by simp)) all0)
  have Z2 : n0 ≤ T2.heap.size := Nat.le_trans Z0 K2.1
  have E_r0_c_2 := E_r0.keep K2
  have E_r1_c_2 := E_r1.keep K2
  have Fv_r1_c_2 := Fv_r1.keep K2 (ninS hne1 nin0)
  have Fc_r1_c_2 := Fc_r1.keep K2 (ninS hne1 nin0)
  have S_CS_c_2 := own_sta_keep S_CS E_r0 K2
  have V_tS_c_2 := V_tS.keep K2 (ninS hne2 nin0)
  obtain ⟨fs, hr, hrun, hended, hW, hsame⟩ := X2.leave (v := none) (fun _ => rfl)
  refine ⟨_, _, pre0 _ ((goT k1 k2) _ (X2.returnOut hx Bd.returns (hb hby d_wc1_6) hr)), hrun, hended, _, _, rfl, ?_, ⟨_, rfl⟩, hW, hsame.mono (by decide) (by decide)⟩
  show Q_wc1 Z r0 r1 tS kS cs G1 h0 n0 _ T2.heap _
  exact ⟨rfl, N2, Kp2, Fq2_0, Fq2_1, Fq2_2⟩
theorem d_tail3_4 : decode prog_10_method_6_code 4 = .ok (.iload_n 3, 1) := by decide +kernel
theorem d_tail3_5 : decode prog_10_method_6_code 5 = .ok (.aload_n 1, 1) := by decide +kernel
theorem d_tail3_6 : decode prog_10_method_6_code 6 = .ok (.invokeinterface 36 1, 5) := by decide +kernel
theorem d_tail3_11 : decode prog_10_method_6_code 11 = .ok (.if_icmp .ge 93, 3) := by decide +kernel
theorem d_tail3_104 : decode prog_10_method_6_code 104 = .ok (.iload_n 3, 1) := by decide +kernel
theorem d_tail3_105 : decode prog_10_method_6_code 105 = .ok (.aload_n 1, 1) := by decide +kernel
theorem d_tail3_106 : decode prog_10_method_6_code 106 = .ok (.invokeinterface 36 1, 5) := by decide +kernel
theorem d_tail3_111 : decode prog_10_method_6_code 111 = .ok (.if_icmp .eq 14, 3) := by decide +kernel
theorem d_tail3_114 : decode prog_10_method_6_code 114 = .ok (.iload_n 2, 1) := by decide +kernel
theorem d_tail3_115 : decode prog_10_method_6_code 115 = .ok (.aload_n 0, 1) := by decide +kernel
theorem d_tail3_116 : decode prog_10_method_6_code 116 = .ok (.getfield 12, 3) := by decide +kernel
theorem d_tail3_119 : decode prog_10_method_6_code 119 = .ok (.invokevirtual 42, 3) := by decide +kernel
theorem d_tail3_122 : decode prog_10_method_6_code 122 = .ok (.if_icmp .ge 7, 3) := by decide +kernel
theorem d_tail3_125 : decode prog_10_method_6_code 125 = .ok (.iconst 1, 1) := by decide +kernel
theorem d_tail3_126 : decode prog_10_method_6_code 126 = .ok (.goto 4, 3) := by decide +kernel
theorem d_tail3_129 : decode prog_10_method_6_code 129 = .ok (.iconst 0, 1) := by decide +kernel
theorem d_tail3_130 : decode prog_10_method_6_code 130 = .ok (.ireturn, 1) := by decide +kernel
def f_tail3 (cs ds : List Int32) : Int32 := (if (3 : Int32) = (Int32.ofNat ds.length) then (1 : Int32) else (if (3 : Int32) < (Int32.ofNat cs.length) then (1 : Int32) else (0 : Int32)))
set_option maxRecDepth 65536 in
set_option maxHeartbeats 40000000 in
theorem pc_tail3 {p : Program} {l : Launch} {e : Env} {s : State} {m : MethodId} {below : List Frame} {meth : Method} {c : Code} {T0 : State} {locs : List Loc} {Z : State} {a0 : Array Value} {h0 : Heap} {n0 : Nat} (r0 r1 rp tp td : Addr) (kp kd : ClassId) (cs ds : List Int32) (G1 : Int32) (fm : Value)
    (X0 : Stand p l e ({ frames := 4, cells := 0, slots := 0, locals := 54 } : Room) s m #[(.ref r0), (.ref r1)] below meth c T0 locs 0 0) (hx : p.tables.exec = Jvm.exec) (hZ : Z.Warmed39 s.vm) (hw : ∀ d ∈ tables_1, d.before a0 Z = true) (hby : c.code = prog_10_method_6_code) (hml : c.maxLocals = 4) (hown : s.vm.findClass "com/example/fieldveil/fieldveil/Wildcard" = some m.cls) (e0 : T0.heap = h0) (N0 : Fr n0 locs) (Z0 : n0 ≤ h0.size) (E_r0 : Exa Z h0 r0 "com/example/fieldveil/fieldveil/Wildcard") (Fp : Fld Z h0 r0 "com/example/fieldveil/fieldveil/Wildcard" "pattern" "Ljava/lang/String;" (.ref rp)) (Fa : Fld Z h0 r0 "com/example/fieldveil/fieldveil/Wildcard" "anyOne" "Z" (.int (0 : Int32))) (E_rp : Exa Z h0 rp "java/lang/String") (Fv_rp : Fld Z h0 rp "java/lang/String" "value" "[B" (.ref tp)) (Fc_rp : Fld Z h0 rp "java/lang/String" "coder" "B" (.int (0 : Int32))) (E_r1 : Exa Z h0 r1 "java/lang/String") (Fv_r1 : Fld Z h0 r1 "java/lang/String" "value" "[B" (.ref td)) (Fc_r1 : Fld Z h0 r1 "java/lang/String" "coder" "B" (.int (0 : Int32))) (S_CS : Sta Z h0 "java/lang/String" "COMPACT_STRINGS" "Z" (.int G1)) (S_SI : Sta Z h0 "jdk/internal/util/Preconditions" "SIOOBE_FORMATTER" "Ljava/util/function/BiFunction;" fm) (V_tp : Arv Z h0 tp kp .byte (Int32.ofNat cs.length) ((cs.map StrChars.lo8).map Value.int) (.int (0 : Int32))) (V_td : Arv Z h0 td kd .byte (Int32.ofNat ds.length) ((ds.map StrChars.lo8).map Value.int) (.int (0 : Int32))) (P5 : ¬ (G1 = (0 : Int32))) (rf : fm.isRef = true) (hchp : ∀ c ∈ cs, ¬ c < 0 ∧ ¬ (255 : Int32) < c) (hchd : ∀ c ∈ ds, ¬ c < 0 ∧ ¬ (255 : Int32) < c) (hlp : cs.length ≤ 3) (hld : ds.length ≤ 3) :
    ∃ (T' : State) (L' : List Loc) (pc : Nat) (Ls : Array Slot), Stand p l e ({ frames := 4, cells := 0, slots := 0, locals := 54 } : Room) s m #[(.ref r0), (.ref r1)] below meth c T' L' 0 0 ∧ Fr n0 L' ∧ T'.heap = h0 ∧ decode c.code pc = .ok (.ireturn, 1) ∧ Go p.tables e below (T0.setTop (mkF m 4 #[.val (.ref r0), .val (.ref r1), .val (.int (3 : Int32)), .val (.int (3 : Int32))] [])) (T'.setTop (mkF m pc Ls [(.int (f_tail3 cs ds))])) := by
  have k1 : Go p.tables e below (T0.setTop (mkF m 4 #[.val (.ref r0), .val (.ref r1), .val (.int (3 : Int32)), .val (.int (3 : Int32))] [])) (T0.setTop (mkF m 6 #[.val (.ref r0), .val (.ref r1), .val (.int (3 : Int32)), .val (.int (3 : Int32))] [(.ref r1), (.int (3 : Int32))])) := by
    intro t ht
    refine XS.iloadN X0.here hx rfl (hb hby d_tail3_4) rfl ?_
    show Steps p.tables e below (T0.setTop (mkF m 5 #[.val (.ref r0), .val (.ref r1), .val (.int (3 : Int32)), .val (.int (3 : Int32))] [(.int (3 : Int32))])) _
    refine XS.aloadN X0.here hx rfl (hb hby d_tail3_5) rfl rfl ?_
    exact ht
  obtain ⟨cq2, kq2, q2a, q2b, q2c⟩ := isOf hZ e0 E_r1
  obtain ⟨_, _, ⟨T2, L2, kq2, n2⟩, -, X2, ⟨Lc2, hQ2, l2, y2, z2⟩, st2⟩ := X0.interfaceBack hx (xi := (⟨"java/lang/CharSequence", "length", "()I"⟩ : MethodName)) (y := (⟨"java/lang/String", "length", "()I"⟩ : MethodName)) hown (mvT hZ (hw _ (List.mem_of_getElem? (i := 90) rfl))) (mvT hZ (hw _ (List.mem_of_getElem? (i := 91) rfl))) (mvT hZ (hw _ (List.mem_of_getElem? (i := 92) rfl))) (mvT hZ (hw _ (List.mem_of_getElem? (i := 93) rfl))) (mvT hZ (hw _ (List.mem_of_getElem? (i := 61) rfl))) (mvT hZ (hw _ (List.mem_of_getElem? (i := 94) rfl))) (mvT hZ (hw _ (List.mem_of_getElem? (i := 95) rfl))) (mvT hZ (hw _ (List.mem_of_getElem? (i := 96) rfl))) (by decide) (StrChars.Road.lenW (W := 1) hZ (own_wordsLen hw) (kI := 4) (hw _ (List.mem_of_getElem? (i := 8) rfl)) E_r1 Fv_r1 Fc_r1 V_td (StrChars.Road.codOf rfl fun c hc => (hchd c hc).2) (own_up hchd) S_CS P5 (Nat.le_trans hld (by decide)) (by decide) (by decide)) q2a q2b q2c (g := (mkF m 6 #[.val (.ref r0), .val (.ref r1), .val (.int (3 : Int32)), .val (.int (3 : Int32))] [(.ref r1), (.int (3 : Int32))])) rfl (by rw [hml]; rfl) (Steps.refl _) (argsL := []) (rest := [(.int (3 : Int32))]) (lenOf pd_6 rfl) rfl (by show 2 * 0 + _ ≤ _; exact Nat.le_of_eq rfl) (hb hby d_tail3_6) (fun _ _ => ⟨rfl, e0, (by decide : 0 + 0 ≤ _), (by decide : 0 + 0 ≤ _)⟩)
  dsimp only [Pt.U, Pt.locs, Pt.cells, Pt.slots] at X2 l2 y2 z2 st2 hQ2
  subst l2 y2 z2
  obtain ⟨rfl, rfl, eq2⟩ := hQ2
  have N2 := Fr.app N0 (Fr.nil n0)
  have k2 : Go p.tables e below (T0.setTop (mkF m 6 #[.val (.ref r0), .val (.ref r1), .val (.int (3 : Int32)), .val (.int (3 : Int32))] [(.ref r1), (.int (3 : Int32))])) (T2.setTop (mkF m 11 #[.val (.ref r0), .val (.ref r1), .val (.int (3 : Int32)), .val (.int (3 : Int32))] [(.int (Int32.ofNat ds.length)), (.int (3 : Int32))])) := fun _ ht => st2.trans ht
  have k3 : Go p.tables e below (T2.setTop (mkF m 11 #[.val (.ref r0), .val (.ref r1), .val (.int (3 : Int32)), .val (.int (3 : Int32))] [(.int (Int32.ofNat ds.length)), (.int (3 : Int32))])) (T2.setTop (mkF m 106 #[.val (.ref r0), .val (.ref r1), .val (.int (3 : Int32)), .val (.int (3 : Int32))] [(.ref r1), (.int (3 : Int32))])) := by
    intro t ht
    refine XS.icmpYes X2.here hx rfl (pc0 := 11) (pc' := 104) rfl (hb hby d_tail3_11) rfl (flt (own_len3 hld)).2.1 (by decide) (by decide) ?_
    show Steps p.tables e below (T2.setTop (mkF m 104 #[.val (.ref r0), .val (.ref r1), .val (.int (3 : Int32)), .val (.int (3 : Int32))] [])) _
    refine XS.iloadN X2.here hx rfl (hb hby d_tail3_104) rfl ?_
    show Steps p.tables e below (T2.setTop (mkF m 105 #[.val (.ref r0), .val (.ref r1), .val (.int (3 : Int32)), .val (.int (3 : Int32))] [(.int (3 : Int32))])) _
    refine XS.aloadN X2.here hx rfl (hb hby d_tail3_105) rfl rfl ?_
    exact ht
  obtain ⟨cq4, kq4, q4a, q4b, q4c⟩ := isOf hZ eq2 E_r1
  obtain ⟨_, _, ⟨T4, L4, kq4, n4⟩, -, X4, ⟨Lc4, hQ4, l4, y4, z4⟩, st4⟩ := X2.interfaceBack hx (xi := (⟨"java/lang/CharSequence", "length", "()I"⟩ : MethodName)) (y := (⟨"java/lang/String", "length", "()I"⟩ : MethodName)) hown (mvT hZ (hw _ (List.mem_of_getElem? (i := 90) rfl))) (mvT hZ (hw _ (List.mem_of_getElem? (i := 91) rfl))) (mvT hZ (hw _ (List.mem_of_getElem? (i := 92) rfl))) (mvT hZ (hw _ (List.mem_of_getElem? (i := 93) rfl))) (mvT hZ (hw _ (List.mem_of_getElem? (i := 61) rfl))) (mvT hZ (hw _ (List.mem_of_getElem? (i := 94) rfl))) (mvT hZ (hw _ (List.mem_of_getElem? (i := 95) rfl))) (mvT hZ (hw _ (List.mem_of_getElem? (i := 96) rfl))) (by decide) (StrChars.Road.lenW (W := 1) hZ (own_wordsLen hw) (kI := 4) (hw _ (List.mem_of_getElem? (i := 8) rfl)) E_r1 Fv_r1 Fc_r1 V_td (StrChars.Road.codOf rfl fun c hc => (hchd c hc).2) (own_up hchd) S_CS P5 (Nat.le_trans hld (by decide)) (by decide) (by decide)) q4a q4b q4c (g := (mkF m 106 #[.val (.ref r0), .val (.ref r1), .val (.int (3 : Int32)), .val (.int (3 : Int32))] [(.ref r1), (.int (3 : Int32))])) rfl (by rw [hml]; rfl) (Steps.refl _) (argsL := []) (rest := [(.int (3 : Int32))]) (lenOf pd_6 rfl) rfl (by show 2 * 0 + _ ≤ _; exact Nat.le_of_eq rfl) (hb hby d_tail3_106) (fun _ _ => ⟨rfl, eq2, (by decide : 0 + 0 ≤ _), (by decide : 0 + 0 ≤ _)⟩)
  dsimp only [Pt.U, Pt.locs, Pt.cells, Pt.slots] at X4 l4 y4 z4 st4 hQ4
  subst l4 y4 z4
  obtain ⟨rfl, rfl, eq4⟩ := hQ4
  have N4 := Fr.app N2 (Fr.nil n0)
  have k4 : Go p.tables e below (T2.setTop (mkF m 106 #[.val (.ref r0), .val (.ref r1), .val (.int (3 : Int32)), .val (.int (3 : Int32))] [(.ref r1), (.int (3 : Int32))])) (T4.setTop (mkF m 111 #[.val (.ref r0), .val (.ref r1), .val (.int (3 : Int32)), .val (.int (3 : Int32))] [(.int (Int32.ofNat ds.length)), (.int (3 : Int32))])) := fun _ ht => st4.trans ht
  by_cases hc5 : (3 : Int32) = (Int32.ofNat ds.length)
  · have k6 : Go p.tables e below (T4.setTop (mkF m 111 #[.val (.ref r0), .val (.ref r1), .val (.int (3 : Int32)), .val (.int (3 : Int32))] [(.int (Int32.ofNat ds.length)), (.int (3 : Int32))])) (T4.setTop (mkF m 130 #[.val (.ref r0), .val (.ref r1), .val (.int (3 : Int32)), .val (.int (3 : Int32))] [(.int (1 : Int32))])) := by
      intro t ht
      refine XS.icmpYes X4.here hx rfl (pc0 := 111) (pc' := 125) rfl (hb hby d_tail3_111) rfl (teq hc5).1 (by decide) (by decide) ?_
      show Steps p.tables e below (T4.setTop (mkF m 125 #[.val (.ref r0), .val (.ref r1), .val (.int (3 : Int32)), .val (.int (3 : Int32))] [])) _
      refine XS.iconst X4.here hx rfl (hb hby d_tail3_125) ?_
      show Steps p.tables e below (T4.setTop (mkF m 126 #[.val (.ref r0), .val (.ref r1), .val (.int (3 : Int32)), .val (.int (3 : Int32))] [(.int (1 : Int32))])) _
      refine XS.goto X4.here hx rfl (pc0 := 126) (pc' := 130) rfl (hb hby d_tail3_126) (by decide) (by decide) ?_
      exact ht
    refine ⟨T4, _, 130, #[.val (.ref r0), .val (.ref r1), .val (.int (3 : Int32)), .val (.int (3 : Int32))], X4, N4, eq4, (hb hby d_tail3_130), ?_⟩
    have kk := (goT k1 (goT k2 (goT k3 (goT k4 k6))))
    simpa only [f_tail3, if_neg P5, if_neg (own_len3 hld), if_pos hc5] using kk
  · have k7 : Go p.tables e below (T4.setTop (mkF m 111 #[.val (.ref r0), .val (.ref r1), .val (.int (3 : Int32)), .val (.int (3 : Int32))] [(.int (Int32.ofNat ds.length)), (.int (3 : Int32))])) (T4.setTop (mkF m 116 #[.val (.ref r0), .val (.ref r1), .val (.int (3 : Int32)), .val (.int (3 : Int32))] [(.ref r0), (.int (3 : Int32))])) := by
      intro t ht
      refine XS.icmpNo X4.here hx rfl (hb hby d_tail3_111) rfl (feq hc5).1 ?_
      show Steps p.tables e below (T4.setTop (mkF m 114 #[.val (.ref r0), .val (.ref r1), .val (.int (3 : Int32)), .val (.int (3 : Int32))] [])) _
      refine XS.iloadN X4.here hx rfl (hb hby d_tail3_114) rfl ?_
      show Steps p.tables e below (T4.setTop (mkF m 115 #[.val (.ref r0), .val (.ref r1), .val (.int (3 : Int32)), .val (.int (3 : Int32))] [(.int (3 : Int32))])) _
      refine XS.aloadN X4.here hx rfl (hb hby d_tail3_115) rfl rfl ?_
      exact ht
    obtain ⟨T8, X8, e8, st8⟩ := getF X4 hx hZ hown (host := "") (Or.inl (hw _ (List.mem_of_getElem? (i := 39) rfl))) Via.refl eq4 Fp (g := (mkF m 116 #[.val (.ref r0), .val (.ref r1), .val (.int (3 : Int32)), .val (.int (3 : Int32))] [(.ref r0), (.int (3 : Int32))])) rfl rfl (hb hby d_tail3_116)
    have k8 : Go p.tables e below (T4.setTop (mkF m 116 #[.val (.ref r0), .val (.ref r1), .val (.int (3 : Int32)), .val (.int (3 : Int32))] [(.ref r0), (.int (3 : Int32))])) (T8.setTop (mkF m 119 #[.val (.ref r0), .val (.ref r1), .val (.int (3 : Int32)), .val (.int (3 : Int32))] [(.ref rp), (.int (3 : Int32))])) := st8
    obtain ⟨cq9, kq9, q9a, q9b, q9c⟩ := isOf hZ e8 E_rp
    obtain ⟨_, _, ⟨T9, L9, kq9, n9⟩, -, X9, ⟨Lc9, hQ9, l9, y9, z9⟩, st9⟩ := X8.virtualBack hx (y := (⟨"java/lang/String", "length", "()I"⟩ : MethodName)) (z := (⟨"java/lang/String", "length", "()I"⟩ : MethodName)) hown (mvT hZ (hw _ (List.mem_of_getElem? (i := 111) rfl))) (mvT hZ (hw _ (List.mem_of_getElem? (i := 60) rfl))) (notFace_of_selects (args := #[]) (mvT hZ (hw _ (List.mem_of_getElem? (i := 62) rfl)))) (mvT hZ (hw _ (List.mem_of_getElem? (i := 62) rfl))) (mvT hZ (hw _ (List.mem_of_getElem? (i := 61) rfl))) (by decide) (StrChars.Road.lenW (W := 1) hZ (own_wordsLen hw) (kI := 4) (hw _ (List.mem_of_getElem? (i := 8) rfl)) E_rp Fv_rp Fc_rp V_tp (StrChars.Road.codOf rfl fun c hc => (hchp c hc).2) (own_up hchp) S_CS P5 (Nat.le_trans hlp (by decide)) (by decide) (by decide)) q9a q9c (g := (mkF m 119 #[.val (.ref r0), .val (.ref r1), .val (.int (3 : Int32)), .val (.int (3 : Int32))] [(.ref rp), (.int (3 : Int32))])) rfl (by rw [hml]; rfl) (Steps.refl _) (argsL := []) (rest := [(.int (3 : Int32))]) (lenOf pd_6 rfl) rfl (by show 2 * 0 + _ ≤ _; exact Nat.le_of_eq rfl) (hb hby d_tail3_119) (fun _ _ => ⟨rfl, e8, (by decide : 0 + 0 ≤ _), (by decide : 0 + 0 ≤ _)⟩)
    dsimp only [Pt.U, Pt.locs, Pt.cells, Pt.slots] at X9 l9 y9 z9 st9 hQ9
    subst l9 y9 z9
    obtain ⟨rfl, rfl, eq9⟩ := hQ9
    have N9 := Fr.app N4 (Fr.nil n0)
    have k9 : Go p.tables e below (T8.setTop (mkF m 119 #[.val (.ref r0), .val (.ref r1), .val (.int (3 : Int32)), .val (.int (3 : Int32))] [(.ref rp), (.int (3 : Int32))])) (T9.setTop (mkF m 122 #[.val (.ref r0), .val (.ref r1), .val (.int (3 : Int32)), .val (.int (3 : Int32))] [(.int (Int32.ofNat cs.length)), (.int (3 : Int32))])) := fun _ ht => st9.trans ht
    by_cases hc10 : (3 : Int32) < (Int32.ofNat cs.length)
    · have k11 : Go p.tables e below (T9.setTop (mkF m 122 #[.val (.ref r0), .val (.ref r1), .val (.int (3 : Int32)), .val (.int (3 : Int32))] [(.int (Int32.ofNat cs.length)), (.int (3 : Int32))])) (T9.setTop (mkF m 130 #[.val (.ref r0), .val (.ref r1), .val (.int (3 : Int32)), .val (.int (3 : Int32))] [(.int (1 : Int32))])) := by
        intro t ht
        refine XS.icmpNo X9.here hx rfl (hb hby d_tail3_122) rfl (tlt hc10).2.1 ?_
        show Steps p.tables e below (T9.setTop (mkF m 125 #[.val (.ref r0), .val (.ref r1), .val (.int (3 : Int32)), .val (.int (3 : Int32))] [])) _
        refine XS.iconst X9.here hx rfl (hb hby d_tail3_125) ?_
        show Steps p.tables e below (T9.setTop (mkF m 126 #[.val (.ref r0), .val (.ref r1), .val (.int (3 : Int32)), .val (.int (3 : Int32))] [(.int (1 : Int32))])) _
        refine XS.goto X9.here hx rfl (pc0 := 126) (pc' := 130) rfl (hb hby d_tail3_126) (by decide) (by decide) ?_
        exact ht
      refine ⟨T9, _, 130, #[.val (.ref r0), .val (.ref r1), .val (.int (3 : Int32)), .val (.int (3 : Int32))], X9, N9, eq9, (hb hby d_tail3_130), ?_⟩
      have kk := (goT k1 (goT k2 (goT k3 (goT k4 (goT k7 (goT k8 (goT k9 k11)))))))
      simpa only [f_tail3, if_neg P5, if_neg (own_len3 hld), if_neg hc5, if_pos hc10] using kk
    · have k12 : Go p.tables e below (T9.setTop (mkF m 122 #[.val (.ref r0), .val (.ref r1), .val (.int (3 : Int32)), .val (.int (3 : Int32))] [(.int (Int32.ofNat cs.length)), (.int (3 : Int32))])) (T9.setTop (mkF m 130 #[.val (.ref r0), .val (.ref r1), .val (.int (3 : Int32)), .val (.int (3 : Int32))] [(.int (0 : Int32))])) := by
        intro t ht
        refine XS.icmpYes X9.here hx rfl (pc0 := 122) (pc' := 129) rfl (hb hby d_tail3_122) rfl (flt hc10).2.1 (by decide) (by decide) ?_
        show Steps p.tables e below (T9.setTop (mkF m 129 #[.val (.ref r0), .val (.ref r1), .val (.int (3 : Int32)), .val (.int (3 : Int32))] [])) _
        refine XS.iconst X9.here hx rfl (hb hby d_tail3_129) ?_
        exact ht
      refine ⟨T9, _, 130, #[.val (.ref r0), .val (.ref r1), .val (.int (3 : Int32)), .val (.int (3 : Int32))], X9, N9, eq9, (hb hby d_tail3_130), ?_⟩
      have kk := (goT k1 (goT k2 (goT k3 (goT k4 (goT k7 (goT k8 (goT k9 k12)))))))
      simpa only [f_tail3, if_neg P5, if_neg (own_len3 hld), if_neg hc5, if_neg hc10] using kk
theorem pd_9 : parseMethodDescriptor "(I)C" = some ⟨[.int], some .char⟩ := by decide +kernel
theorem d_tail2_4 : decode prog_10_method_6_code 4 = .ok (.iload_n 3, 1) := by decide +kernel
theorem d_tail2_5 : decode prog_10_method_6_code 5 = .ok (.aload_n 1, 1) := by decide +kernel
theorem d_tail2_6 : decode prog_10_method_6_code 6 = .ok (.invokeinterface 36 1, 5) := by decide +kernel
theorem d_tail2_11 : decode prog_10_method_6_code 11 = .ok (.if_icmp .ge 93, 3) := by decide +kernel
theorem d_tail2_14 : decode prog_10_method_6_code 14 = .ok (.iload_n 2, 1) := by decide +kernel
theorem d_tail2_15 : decode prog_10_method_6_code 15 = .ok (.aload_n 0, 1) := by decide +kernel
theorem d_tail2_16 : decode prog_10_method_6_code 16 = .ok (.getfield 12, 3) := by decide +kernel
theorem d_tail2_19 : decode prog_10_method_6_code 19 = .ok (.invokevirtual 42, 3) := by decide +kernel
theorem d_tail2_22 : decode prog_10_method_6_code 22 = .ok (.if_icmp .ge 82, 3) := by decide +kernel
theorem d_tail2_25 : decode prog_10_method_6_code 25 = .ok (.aload_n 0, 1) := by decide +kernel
theorem d_tail2_26 : decode prog_10_method_6_code 26 = .ok (.getfield 12, 3) := by decide +kernel
theorem d_tail2_29 : decode prog_10_method_6_code 29 = .ok (.iload_n 2, 1) := by decide +kernel
theorem d_tail2_30 : decode prog_10_method_6_code 30 = .ok (.invokevirtual 43, 3) := by decide +kernel
theorem d_tail2_33 : decode prog_10_method_6_code 33 = .ok (.bipush 42, 2) := by decide +kernel
theorem d_tail2_35 : decode prog_10_method_6_code 35 = .ok (.if_icmp .eq 69, 3) := by decide +kernel
theorem d_tail2_38 : decode prog_10_method_6_code 38 = .ok (.aload_n 0, 1) := by decide +kernel
theorem d_tail2_39 : decode prog_10_method_6_code 39 = .ok (.getfield 16, 3) := by decide +kernel
theorem d_tail2_42 : decode prog_10_method_6_code 42 = .ok (.ifCond .eq 30, 3) := by decide +kernel
theorem d_tail2_72 : decode prog_10_method_6_code 72 = .ok (.aload_n 0, 1) := by decide +kernel
theorem d_tail2_73 : decode prog_10_method_6_code 73 = .ok (.getfield 12, 3) := by decide +kernel
theorem d_tail2_76 : decode prog_10_method_6_code 76 = .ok (.iload_n 2, 1) := by decide +kernel
theorem d_tail2_77 : decode prog_10_method_6_code 77 = .ok (.invokevirtual 43, 3) := by decide +kernel
theorem d_tail2_80 : decode prog_10_method_6_code 80 = .ok (.aload_n 1, 1) := by decide +kernel
theorem d_tail2_81 : decode prog_10_method_6_code 81 = .ok (.iload_n 3, 1) := by decide +kernel
theorem d_tail2_82 : decode prog_10_method_6_code 82 = .ok (.invokeinterface 56 2, 5) := by decide +kernel
theorem d_tail2_87 : decode prog_10_method_6_code 87 = .ok (.if_icmp .ne 9, 3) := by decide +kernel
theorem d_tail2_90 : decode prog_10_method_6_code 90 = .ok (.iinc 3 1, 3) := by decide +kernel
theorem d_tail2_93 : decode prog_10_method_6_code 93 = .ok (.goto 5, 3) := by decide +kernel
theorem d_tail2_96 : decode prog_10_method_6_code 96 = .ok (.iconst 0, 1) := by decide +kernel
theorem d_tail2_97 : decode prog_10_method_6_code 97 = .ok (.ireturn, 1) := by decide +kernel
theorem d_tail2_98 : decode prog_10_method_6_code 98 = .ok (.iinc 2 1, 3) := by decide +kernel
theorem d_tail2_101 : decode prog_10_method_6_code 101 = .ok (.goto (-97), 3) := by decide +kernel
theorem d_tail2_104 : decode prog_10_method_6_code 104 = .ok (.iload_n 3, 1) := by decide +kernel
theorem d_tail2_105 : decode prog_10_method_6_code 105 = .ok (.aload_n 1, 1) := by decide +kernel
theorem d_tail2_106 : decode prog_10_method_6_code 106 = .ok (.invokeinterface 36 1, 5) := by decide +kernel
theorem d_tail2_111 : decode prog_10_method_6_code 111 = .ok (.if_icmp .eq 14, 3) := by decide +kernel
theorem d_tail2_114 : decode prog_10_method_6_code 114 = .ok (.iload_n 2, 1) := by decide +kernel
theorem d_tail2_115 : decode prog_10_method_6_code 115 = .ok (.aload_n 0, 1) := by decide +kernel
theorem d_tail2_116 : decode prog_10_method_6_code 116 = .ok (.getfield 12, 3) := by decide +kernel
theorem d_tail2_119 : decode prog_10_method_6_code 119 = .ok (.invokevirtual 42, 3) := by decide +kernel
theorem d_tail2_122 : decode prog_10_method_6_code 122 = .ok (.if_icmp .ge 7, 3) := by decide +kernel
theorem d_tail2_125 : decode prog_10_method_6_code 125 = .ok (.iconst 1, 1) := by decide +kernel
theorem d_tail2_126 : decode prog_10_method_6_code 126 = .ok (.goto 4, 3) := by decide +kernel
theorem d_tail2_129 : decode prog_10_method_6_code 129 = .ok (.iconst 0, 1) := by decide +kernel
theorem d_tail2_130 : decode prog_10_method_6_code 130 = .ok (.ireturn, 1) := by decide +kernel
def f_tail2 (cs ds : List Int32) : Int32 := (if (2 : Int32) < (Int32.ofNat ds.length) then (if (2 : Int32) < (Int32.ofNat cs.length) then (if (cs.getD 2 0) = (42 : Int32) then (if (2 : Int32) = (Int32.ofNat ds.length) then (1 : Int32) else (1 : Int32)) else (if (cs.getD 2 0) = (ds.getD 2 0) then (f_tail3 cs ds) else (0 : Int32))) else (if (2 : Int32) = (Int32.ofNat ds.length) then (1 : Int32) else (0 : Int32))) else (if (2 : Int32) = (Int32.ofNat ds.length) then (1 : Int32) else (if (2 : Int32) < (Int32.ofNat cs.length) then (1 : Int32) else (0 : Int32))))
set_option maxRecDepth 65536 in
set_option maxHeartbeats 40000000 in
theorem pc_tail2 {p : Program} {l : Launch} {e : Env} {s : State} {m : MethodId} {below : List Frame} {meth : Method} {c : Code} {T0 : State} {locs : List Loc} {Z : State} {a0 : Array Value} {h0 : Heap} {n0 : Nat} (r0 r1 rp tp td : Addr) (kp kd : ClassId) (cs ds : List Int32) (G1 : Int32) (fm : Value)
    (X0 : Stand p l e ({ frames := 4, cells := 0, slots := 0, locals := 54 } : Room) s m #[(.ref r0), (.ref r1)] below meth c T0 locs 0 0) (hx : p.tables.exec = Jvm.exec) (hZ : Z.Warmed39 s.vm) (hw : ∀ d ∈ tables_1, d.before a0 Z = true) (hby : c.code = prog_10_method_6_code) (hml : c.maxLocals = 4) (hown : s.vm.findClass "com/example/fieldveil/fieldveil/Wildcard" = some m.cls) (e0 : T0.heap = h0) (N0 : Fr n0 locs) (Z0 : n0 ≤ h0.size) (E_r0 : Exa Z h0 r0 "com/example/fieldveil/fieldveil/Wildcard") (Fp : Fld Z h0 r0 "com/example/fieldveil/fieldveil/Wildcard" "pattern" "Ljava/lang/String;" (.ref rp)) (Fa : Fld Z h0 r0 "com/example/fieldveil/fieldveil/Wildcard" "anyOne" "Z" (.int (0 : Int32))) (E_rp : Exa Z h0 rp "java/lang/String") (Fv_rp : Fld Z h0 rp "java/lang/String" "value" "[B" (.ref tp)) (Fc_rp : Fld Z h0 rp "java/lang/String" "coder" "B" (.int (0 : Int32))) (E_r1 : Exa Z h0 r1 "java/lang/String") (Fv_r1 : Fld Z h0 r1 "java/lang/String" "value" "[B" (.ref td)) (Fc_r1 : Fld Z h0 r1 "java/lang/String" "coder" "B" (.int (0 : Int32))) (S_CS : Sta Z h0 "java/lang/String" "COMPACT_STRINGS" "Z" (.int G1)) (S_SI : Sta Z h0 "jdk/internal/util/Preconditions" "SIOOBE_FORMATTER" "Ljava/util/function/BiFunction;" fm) (V_tp : Arv Z h0 tp kp .byte (Int32.ofNat cs.length) ((cs.map StrChars.lo8).map Value.int) (.int (0 : Int32))) (V_td : Arv Z h0 td kd .byte (Int32.ofNat ds.length) ((ds.map StrChars.lo8).map Value.int) (.int (0 : Int32))) (P5 : ¬ (G1 = (0 : Int32))) (rf : fm.isRef = true) (hchp : ∀ c ∈ cs, ¬ c < 0 ∧ ¬ (255 : Int32) < c) (hchd : ∀ c ∈ ds, ¬ c < 0 ∧ ¬ (255 : Int32) < c) (hlp : cs.length ≤ 3) (hld : ds.length ≤ 3) :
    ∃ (T' : State) (L' : List Loc) (pc : Nat) (Ls : Array Slot), Stand p l e ({ frames := 4, cells := 0, slots := 0, locals := 54 } : Room) s m #[(.ref r0), (.ref r1)] below meth c T' L' 0 0 ∧ Fr n0 L' ∧ T'.heap = h0 ∧ decode c.code pc = .ok (.ireturn, 1) ∧ Go p.tables e below (T0.setTop (mkF m 4 #[.val (.ref r0), .val (.ref r1), .val (.int (2 : Int32)), .val (.int (2 : Int32))] [])) (T'.setTop (mkF m pc Ls [(.int (f_tail2 cs ds))])) := by
  have k1 : Go p.tables e below (T0.setTop (mkF m 4 #[.val (.ref r0), .val (.ref r1), .val (.int (2 : Int32)), .val (.int (2 : Int32))] [])) (T0.setTop (mkF m 6 #[.val (.ref r0), .val (.ref r1), .val (.int (2 : Int32)), .val (.int (2 : Int32))] [(.ref r1), (.int (2 : Int32))])) := by
    intro t ht
    refine XS.iloadN X0.here hx rfl (hb hby d_tail2_4) rfl ?_
    show Steps p.tables e below (T0.setTop (mkF m 5 #[.val (.ref r0), .val (.ref r1), .val (.int (2 : Int32)), .val (.int (2 : Int32))] [(.int (2 : Int32))])) _
    refine XS.aloadN X0.here hx rfl (hb hby d_tail2_5) rfl rfl ?_
    exact ht
  obtain ⟨cq2, kq2, q2a, q2b, q2c⟩ := isOf hZ e0 E_r1
  obtain ⟨_, _, ⟨T2, L2, kq2, n2⟩, -, X2, ⟨Lc2, hQ2, l2, y2, z2⟩, st2⟩ := X0.interfaceBack hx (xi := (⟨"java/lang/CharSequence", "length", "()I"⟩ : MethodName)) (y := (⟨"java/lang/String", "length", "()I"⟩ : MethodName)) hown (mvT hZ (hw _ (List.mem_of_getElem? (i := 90) rfl))) (mvT hZ (hw _ (List.mem_of_getElem? (i := 91) rfl))) (mvT hZ (hw _ (List.mem_of_getElem? (i := 92) rfl))) (mvT hZ (hw _ (List.mem_of_getElem? (i := 93) rfl))) (mvT hZ (hw _ (List.mem_of_getElem? (i := 61) rfl))) (mvT hZ (hw _ (List.mem_of_getElem? (i := 94) rfl))) (mvT hZ (hw _ (List.mem_of_getElem? (i := 95) rfl))) (mvT hZ (hw _ (List.mem_of_getElem? (i := 96) rfl))) (by decide) (StrChars.Road.lenW (W := 1) hZ (own_wordsLen hw) (kI := 4) (hw _ (List.mem_of_getElem? (i := 8) rfl)) E_r1 Fv_r1 Fc_r1 V_td (StrChars.Road.codOf rfl fun c hc => (hchd c hc).2) (own_up hchd) S_CS P5 (Nat.le_trans hld (by decide)) (by decide) (by decide)) q2a q2b q2c (g := (mkF m 6 #[.val (.ref r0), .val (.ref r1), .val (.int (2 : Int32)), .val (.int (2 : Int32))] [(.ref r1), (.int (2 : Int32))])) rfl (by rw [hml]; rfl) (Steps.refl _) (argsL := []) (rest := [(.int (2 : Int32))]) (lenOf pd_6 rfl) rfl (by show 2 * 0 + _ ≤ _; exact Nat.le_of_eq rfl) (hb hby d_tail2_6) (fun _ _ => ⟨rfl, e0, (by decide : 0 + 0 ≤ _), (by decide : 0 + 0 ≤ _)⟩)
  dsimp only [Pt.U, Pt.locs, Pt.cells, Pt.slots] at X2 l2 y2 z2 st2 hQ2
  subst l2 y2 z2
  obtain ⟨rfl, rfl, eq2⟩ := hQ2
  have N2 := Fr.app N0 (Fr.nil n0)
  have k2 : Go p.tables e below (T0.setTop (mkF m 6 #[.val (.ref r0), .val (.ref r1), .val (.int (2 : Int32)), .val (.int (2 : Int32))] [(.ref r1), (.int (2 : Int32))])) (T2.setTop (mkF m 11 #[.val (.ref r0), .val (.ref r1), .val (.int (2 : Int32)), .val (.int (2 : Int32))] [(.int (Int32.ofNat ds.length)), (.int (2 : Int32))])) := fun _ ht => st2.trans ht
  by_cases hc3 : (2 : Int32) < (Int32.ofNat ds.length)
  · have k4 : Go p.tables e below (T2.setTop (mkF m 11 #[.val (.ref r0), .val (.ref r1), .val (.int (2 : Int32)), .val (.int (2 : Int32))] [(.int (Int32.ofNat ds.length)), (.int (2 : Int32))])) (T2.setTop (mkF m 16 #[.val (.ref r0), .val (.ref r1), .val (.int (2 : Int32)), .val (.int (2 : Int32))] [(.ref r0), (.int (2 : Int32))])) := by
      intro t ht
      refine XS.icmpNo X2.here hx rfl (hb hby d_tail2_11) rfl (tlt hc3).2.1 ?_
      show Steps p.tables e below (T2.setTop (mkF m 14 #[.val (.ref r0), .val (.ref r1), .val (.int (2 : Int32)), .val (.int (2 : Int32))] [])) _
      refine XS.iloadN X2.here hx rfl (hb hby d_tail2_14) rfl ?_
      show Steps p.tables e below (T2.setTop (mkF m 15 #[.val (.ref r0), .val (.ref r1), .val (.int (2 : Int32)), .val (.int (2 : Int32))] [(.int (2 : Int32))])) _
      refine XS.aloadN X2.here hx rfl (hb hby d_tail2_15) rfl rfl ?_
      exact ht
    obtain ⟨T5, X5, e5, st5⟩ := getF X2 hx hZ hown (host := "") (Or.inl (hw _ (List.mem_of_getElem? (i := 39) rfl))) Via.refl eq2 Fp (g := (mkF m 16 #[.val (.ref r0), .val (.ref r1), .val (.int (2 : Int32)), .val (.int (2 : Int32))] [(.ref r0), (.int (2 : Int32))])) rfl rfl (hb hby d_tail2_16)
    have k5 : Go p.tables e below (T2.setTop (mkF m 16 #[.val (.ref r0), .val (.ref r1), .val (.int (2 : Int32)), .val (.int (2 : Int32))] [(.ref r0), (.int (2 : Int32))])) (T5.setTop (mkF m 19 #[.val (.ref r0), .val (.ref r1), .val (.int (2 : Int32)), .val (.int (2 : Int32))] [(.ref rp), (.int (2 : Int32))])) := st5
    obtain ⟨cq6, kq6, q6a, q6b, q6c⟩ := isOf hZ e5 E_rp
    obtain ⟨_, _, ⟨T6, L6, kq6, n6⟩, -, X6, ⟨Lc6, hQ6, l6, y6, z6⟩, st6⟩ := X5.virtualBack hx (y := (⟨"java/lang/String", "length", "()I"⟩ : MethodName)) (z := (⟨"java/lang/String", "length", "()I"⟩ : MethodName)) hown (mvT hZ (hw _ (List.mem_of_getElem? (i := 111) rfl))) (mvT hZ (hw _ (List.mem_of_getElem? (i := 60) rfl))) (notFace_of_selects (args := #[]) (mvT hZ (hw _ (List.mem_of_getElem? (i := 62) rfl)))) (mvT hZ (hw _ (List.mem_of_getElem? (i := 62) rfl))) (mvT hZ (hw _ (List.mem_of_getElem? (i := 61) rfl))) (by decide) (StrChars.Road.lenW (W := 1) hZ (own_wordsLen hw) (kI := 4) (hw _ (List.mem_of_getElem? (i := 8) rfl)) E_rp Fv_rp Fc_rp V_tp (StrChars.Road.codOf rfl fun c hc => (hchp c hc).2) (own_up hchp) S_CS P5 (Nat.le_trans hlp (by decide)) (by decide) (by decide)) q6a q6c (g := (mkF m 19 #[.val (.ref r0), .val (.ref r1), .val (.int (2 : Int32)), .val (.int (2 : Int32))] [(.ref rp), (.int (2 : Int32))])) rfl (by rw [hml]; rfl) (Steps.refl _) (argsL := []) (rest := [(.int (2 : Int32))]) (lenOf pd_6 rfl) rfl (by show 2 * 0 + _ ≤ _; exact Nat.le_of_eq rfl) (hb hby d_tail2_19) (fun _ _ => ⟨rfl, e5, (by decide : 0 + 0 ≤ _), (by decide : 0 + 0 ≤ _)⟩)
    dsimp only [Pt.U, Pt.locs, Pt.cells, Pt.slots] at X6 l6 y6 z6 st6 hQ6
    subst l6 y6 z6
    obtain ⟨rfl, rfl, eq6⟩ := hQ6
    have N6 := Fr.app N2 (Fr.nil n0)
    have k6 : Go p.tables e below (T5.setTop (mkF m 19 #[.val (.ref r0), .val (.ref r1), .val (.int (2 : Int32)), .val (.int (2 : Int32))] [(.ref rp), (.int (2 : Int32))])) (T6.setTop (mkF m 22 #[.val (.ref r0), .val (.ref r1), .val (.int (2 : Int32)), .val (.int (2 : Int32))] [(.int (Int32.ofNat cs.length)), (.int (2 : Int32))])) := fun _ ht => st6.trans ht
    by_cases hc7 : (2 : Int32) < (Int32.ofNat cs.length)
    · have k8 : Go p.tables e below (T6.setTop (mkF m 22 #[.val (.ref r0), .val (.ref r1), .val (.int (2 : Int32)), .val (.int (2 : Int32))] [(.int (Int32.ofNat cs.length)), (.int (2 : Int32))])) (T6.setTop (mkF m 26 #[.val (.ref r0), .val (.ref r1), .val (.int (2 : Int32)), .val (.int (2 : Int32))] [(.ref r0)])) := by
        intro t ht
        refine XS.icmpNo X6.here hx rfl (hb hby d_tail2_22) rfl (tlt hc7).2.1 ?_
        show Steps p.tables e below (T6.setTop (mkF m 25 #[.val (.ref r0), .val (.ref r1), .val (.int (2 : Int32)), .val (.int (2 : Int32))] [])) _
        refine XS.aloadN X6.here hx rfl (hb hby d_tail2_25) rfl rfl ?_
        exact ht
      obtain ⟨T9, X9, e9, st9⟩ := getF X6 hx hZ hown (host := "") (Or.inl (hw _ (List.mem_of_getElem? (i := 39) rfl))) Via.refl eq6 Fp (g := (mkF m 26 #[.val (.ref r0), .val (.ref r1), .val (.int (2 : Int32)), .val (.int (2 : Int32))] [(.ref r0)])) rfl rfl (hb hby d_tail2_26)
      have k9 : Go p.tables e below (T6.setTop (mkF m 26 #[.val (.ref r0), .val (.ref r1), .val (.int (2 : Int32)), .val (.int (2 : Int32))] [(.ref r0)])) (T9.setTop (mkF m 29 #[.val (.ref r0), .val (.ref r1), .val (.int (2 : Int32)), .val (.int (2 : Int32))] [(.ref rp)])) := st9
      have k10 : Go p.tables e below (T9.setTop (mkF m 29 #[.val (.ref r0), .val (.ref r1), .val (.int (2 : Int32)), .val (.int (2 : Int32))] [(.ref rp)])) (T9.setTop (mkF m 30 #[.val (.ref r0), .val (.ref r1), .val (.int (2 : Int32)), .val (.int (2 : Int32))] [(.int (2 : Int32)), (.ref rp)])) := by
        intro t ht
        refine XS.iloadN X9.here hx rfl (hb hby d_tail2_29) rfl ?_
        exact ht
      obtain ⟨cq11, kq11, q11a, q11b, q11c⟩ := isOf hZ e9 E_rp
      obtain ⟨_, _, ⟨T11, L11, kq11, n11⟩, -, X11, ⟨Lc11, hQ11, l11, y11, z11⟩, st11⟩ := X9.virtualBack hx (y := (⟨"java/lang/String", "charAt", "(I)C"⟩ : MethodName)) (z := (⟨"java/lang/String", "charAt", "(I)C"⟩ : MethodName)) hown (mvT hZ (hw _ (List.mem_of_getElem? (i := 112) rfl))) (mvT hZ (hw _ (List.mem_of_getElem? (i := 113) rfl))) (notFace_of_selects (args := #[]) (mvT hZ (hw _ (List.mem_of_getElem? (i := 115) rfl)))) (mvT hZ (hw _ (List.mem_of_getElem? (i := 115) rfl))) (mvT hZ (hw _ (List.mem_of_getElem? (i := 114) rfl))) (by decide) (StrChars.Road.chN (W := 0) hZ (own_wordsCh hw) (kI := 4) (hw _ (List.mem_of_getElem? (i := 8) rfl)) E_rp Fv_rp Fc_rp V_tp (StrChars.Road.codOf rfl fun c hc => (hchp c hc).2) (own_up hchp) S_CS P5 S_SI rf (Nat.le_trans hlp (by decide)) (i := 2) (own_lt_len (k := 2) hc7 (by decide) (Nat.le_trans hlp (by decide))) rfl (by decide) (by decide)) q11a q11c (g := (mkF m 30 #[.val (.ref r0), .val (.ref r1), .val (.int (2 : Int32)), .val (.int (2 : Int32))] [(.int (2 : Int32)), (.ref rp)])) rfl (by rw [hml]; rfl) (Steps.refl _) (argsL := [(.int (2 : Int32))]) (rest := []) (lenOf pd_9 rfl) rfl (by show 2 * 0 + _ ≤ _; exact Nat.le_of_eq rfl) (hb hby d_tail2_30) (fun _ _ => ⟨rfl, e9, (by decide : 0 + 0 ≤ _), (by decide : 0 + 0 ≤ _)⟩)
      dsimp only [Pt.U, Pt.locs, Pt.cells, Pt.slots] at X11 l11 y11 z11 st11 hQ11
      subst l11 y11 z11
      obtain ⟨rfl, rfl, eq11⟩ := hQ11
      have N11 := Fr.app N6 (Fr.nil n0)
      have k11 : Go p.tables e below (T9.setTop (mkF m 30 #[.val (.ref r0), .val (.ref r1), .val (.int (2 : Int32)), .val (.int (2 : Int32))] [(.int (2 : Int32)), (.ref rp)])) (T11.setTop (mkF m 33 #[.val (.ref r0), .val (.ref r1), .val (.int (2 : Int32)), .val (.int (2 : Int32))] [(.int (cs.getD 2 0))])) := fun _ ht => st11.trans ht
      have k12 : Go p.tables e below (T11.setTop (mkF m 33 #[.val (.ref r0), .val (.ref r1), .val (.int (2 : Int32)), .val (.int (2 : Int32))] [(.int (cs.getD 2 0))])) (T11.setTop (mkF m 35 #[.val (.ref r0), .val (.ref r1), .val (.int (2 : Int32)), .val (.int (2 : Int32))] [(.int (42 : Int32)), (.int (cs.getD 2 0))])) := by
        intro t ht
        refine XS.bipush X11.here hx rfl (hb hby d_tail2_33) ?_
        exact ht
      by_cases hc13 : (cs.getD 2 0) = (42 : Int32)
      · have k14 : Go p.tables e below (T11.setTop (mkF m 35 #[.val (.ref r0), .val (.ref r1), .val (.int (2 : Int32)), .val (.int (2 : Int32))] [(.int (42 : Int32)), (.int (cs.getD 2 0))])) (T11.setTop (mkF m 106 #[.val (.ref r0), .val (.ref r1), .val (.int (2 : Int32)), .val (.int (2 : Int32))] [(.ref r1), (.int (2 : Int32))])) := by
          intro t ht
          refine XS.icmpYes X11.here hx rfl (pc0 := 35) (pc' := 104) rfl (hb hby d_tail2_35) rfl (teq hc13).1 (by decide) (by decide) ?_
          show Steps p.tables e below (T11.setTop (mkF m 104 #[.val (.ref r0), .val (.ref r1), .val (.int (2 : Int32)), .val (.int (2 : Int32))] [])) _
          refine XS.iloadN X11.here hx rfl (hb hby d_tail2_104) rfl ?_
          show Steps p.tables e below (T11.setTop (mkF m 105 #[.val (.ref r0), .val (.ref r1), .val (.int (2 : Int32)), .val (.int (2 : Int32))] [(.int (2 : Int32))])) _
          refine XS.aloadN X11.here hx rfl (hb hby d_tail2_105) rfl rfl ?_
          exact ht
        obtain ⟨cq15, kq15, q15a, q15b, q15c⟩ := isOf hZ eq11 E_r1
        obtain ⟨_, _, ⟨T15, L15, kq15, n15⟩, -, X15, ⟨Lc15, hQ15, l15, y15, z15⟩, st15⟩ := X11.interfaceBack hx (xi := (⟨"java/lang/CharSequence", "length", "()I"⟩ : MethodName)) (y := (⟨"java/lang/String", "length", "()I"⟩ : MethodName)) hown (mvT hZ (hw _ (List.mem_of_getElem? (i := 90) rfl))) (mvT hZ (hw _ (List.mem_of_getElem? (i := 91) rfl))) (mvT hZ (hw _ (List.mem_of_getElem? (i := 92) rfl))) (mvT hZ (hw _ (List.mem_of_getElem? (i := 93) rfl))) (mvT hZ (hw _ (List.mem_of_getElem? (i := 61) rfl))) (mvT hZ (hw _ (List.mem_of_getElem? (i := 94) rfl))) (mvT hZ (hw _ (List.mem_of_getElem? (i := 95) rfl))) (mvT hZ (hw _ (List.mem_of_getElem? (i := 96) rfl))) (by decide) (StrChars.Road.lenW (W := 1) hZ (own_wordsLen hw) (kI := 4) (hw _ (List.mem_of_getElem? (i := 8) rfl)) E_r1 Fv_r1 Fc_r1 V_td (StrChars.Road.codOf rfl fun c hc => (hchd c hc).2) (own_up hchd) S_CS P5 (Nat.le_trans hld (by decide)) (by decide) (by decide)) q15a q15b q15c (g := (mkF m 106 #[.val (.ref r0), .val (.ref r1), .val (.int (2 : Int32)), .val (.int (2 : Int32))] [(.ref r1), (.int (2 : Int32))])) rfl (by rw [hml]; rfl) (Steps.refl _) (argsL := []) (rest := [(.int (2 : Int32))]) (lenOf pd_6 rfl) rfl (by show 2 * 0 + _ ≤ _; exact Nat.le_of_eq rfl) (hb hby d_tail2_106) (fun _ _ => ⟨rfl, eq11, (by decide : 0 + 0 ≤ _), (by decide : 0 + 0 ≤ _)⟩)
        dsimp only [Pt.U, Pt.locs, Pt.cells, Pt.slots] at X15 l15 y15 z15 st15 hQ15
        subst l15 y15 z15
        obtain ⟨rfl, rfl, eq15⟩ := hQ15
        have N15 := Fr.app N11 (Fr.nil n0)
        have k15 : Go p.tables e below (T11.setTop (mkF m 106 #[.val (.ref r0), .val (.ref r1), .val (.int (2 : Int32)), .val (.int (2 : Int32))] [(.ref r1), (.int (2 : Int32))])) (T15.setTop (mkF m 111 #[.val (.ref r0), .val (.ref r1), .val (.int (2 : Int32)), .val (.int (2 : Int32))] [(.int (Int32.ofNat ds.length)), (.int (2 : Int32))])) := fun _ ht => st15.trans ht
        by_cases hc16 : (2 : Int32) = (Int32.ofNat ds.length)
        · have k17 : Go p.tables e below (T15.setTop (mkF m 111 #[.val (.ref r0), .val (.ref r1), .val (.int (2 : Int32)), .val (.int (2 : Int32))] [(.int (Int32.ofNat ds.length)), (.int (2 : Int32))])) (T15.setTop (mkF m 130 #[.val (.ref r0), .val (.ref r1), .val (.int (2 : Int32)), .val (.int (2 : Int32))] [(.int (1 : Int32))])) := by
            intro t ht
            refine XS.icmpYes X15.here hx rfl (pc0 := 111) (pc' := 125) rfl (hb hby d_tail2_111) rfl (teq hc16).1 (by decide) (by decide) ?_
            show Steps p.tables e below (T15.setTop (mkF m 125 #[.val (.ref r0), .val (.ref r1), .val (.int (2 : Int32)), .val (.int (2 : Int32))] [])) _
            refine XS.iconst X15.here hx rfl (hb hby d_tail2_125) ?_
            show Steps p.tables e below (T15.setTop (mkF m 126 #[.val (.ref r0), .val (.ref r1), .val (.int (2 : Int32)), .val (.int (2 : Int32))] [(.int (1 : Int32))])) _
            refine XS.goto X15.here hx rfl (pc0 := 126) (pc' := 130) rfl (hb hby d_tail2_126) (by decide) (by decide) ?_
            exact ht
          refine ⟨T15, _, 130, #[.val (.ref r0), .val (.ref r1), .val (.int (2 : Int32)), .val (.int (2 : Int32))], X15, N15, eq15, (hb hby d_tail2_130), ?_⟩
          have kk := (goT k1 (goT k2 (goT k4 (goT k5 (goT k6 (goT k8 (goT k9 (goT k10 (goT k11 (goT k12 (goT k14 (goT k15 k17))))))))))))
          simpa only [f_tail2, if_neg P5, if_neg (own_len3 hld), if_pos hc3, if_pos hc7, if_pos hc13, if_pos hc16] using kk
        · have k18 : Go p.tables e below (T15.setTop (mkF m 111 #[.val (.ref r0), .val (.ref r1), .val (.int (2 : Int32)), .val (.int (2 : Int32))] [(.int (Int32.ofNat ds.length)), (.int (2 : Int32))])) (T15.setTop (mkF m 116 #[.val (.ref r0), .val (.ref r1), .val (.int (2 : Int32)), .val (.int (2 : Int32))] [(.ref r0), (.int (2 : Int32))])) := by
            intro t ht
            refine XS.icmpNo X15.here hx rfl (hb hby d_tail2_111) rfl (feq hc16).1 ?_
            show Steps p.tables e below (T15.setTop (mkF m 114 #[.val (.ref r0), .val (.ref r1), .val (.int (2 : Int32)), .val (.int (2 : Int32))] [])) _
            refine XS.iloadN X15.here hx rfl (hb hby d_tail2_114) rfl ?_
            show Steps p.tables e below (T15.setTop (mkF m 115 #[.val (.ref r0), .val (.ref r1), .val (.int (2 : Int32)), .val (.int (2 : Int32))] [(.int (2 : Int32))])) _
            refine XS.aloadN X15.here hx rfl (hb hby d_tail2_115) rfl rfl ?_
            exact ht
          obtain ⟨T19, X19, e19, st19⟩ := getF X15 hx hZ hown (host := "") (Or.inl (hw _ (List.mem_of_getElem? (i := 39) rfl))) Via.refl eq15 Fp (g := (mkF m 116 #[.val (.ref r0), .val (.ref r1), .val (.int (2 : Int32)), .val (.int (2 : Int32))] [(.ref r0), (.int (2 : Int32))])) rfl rfl (hb hby d_tail2_116)
          have k19 : Go p.tables e below (T15.setTop (mkF m 116 #[.val (.ref r0), .val (.ref r1), .val (.int (2 : Int32)), .val (.int (2 : Int32))] [(.ref r0), (.int (2 : Int32))])) (T19.setTop (mkF m 119 #[.val (.ref r0), .val (.ref r1), .val (.int (2 : Int32)), .val (.int (2 : Int32))] [(.ref rp), (.int (2 : Int32))])) := st19
          obtain ⟨cq20, kq20, q20a, q20b, q20c⟩ := isOf hZ e19 E_rp
          obtain ⟨_, _, ⟨T20, L20, kq20, n20⟩, -, X20, ⟨Lc20, hQ20, l20, y20, z20⟩, st20⟩ := X19.virtualBack hx (y := (⟨"java/lang/String", "length", "()I"⟩ : MethodName)) (z := (⟨"java/lang/String", "length", "()I"⟩ : MethodName)) hown (mvT hZ (hw _ (List.mem_of_getElem? (i := 111) rfl))) (mvT hZ (hw _ (List.mem_of_getElem? (i := 60) rfl))) (notFace_of_selects (args := #[]) (mvT hZ (hw _ (List.mem_of_getElem? (i := 62) rfl)))) (mvT hZ (hw _ (List.mem_of_getElem? (i := 62) rfl))) (mvT hZ (hw _ (List.mem_of_getElem? (i := 61) rfl))) (by decide) (StrChars.Road.lenW (W := 1) hZ (own_wordsLen hw) (kI := 4) (hw _ (List.mem_of_getElem? (i := 8) rfl)) E_rp Fv_rp Fc_rp V_tp (StrChars.Road.codOf rfl fun c hc => (hchp c hc).2) (own_up hchp) S_CS P5 (Nat.le_trans hlp (by decide)) (by decide) (by decide)) q20a q20c (g := (mkF m 119 #[.val (.ref r0), .val (.ref r1), .val (.int (2 : Int32)), .val (.int (2 : Int32))] [(.ref rp), (.int (2 : Int32))])) rfl (by rw [hml]; rfl) (Steps.refl _) (argsL := []) (rest := [(.int (2 : Int32))]) (lenOf pd_6 rfl) rfl (by show 2 * 0 + _ ≤ _; exact Nat.le_of_eq rfl) (hb hby d_tail2_119) (fun _ _ => ⟨rfl, e19, (by decide : 0 + 0 ≤ _), (by decide : 0 + 0 ≤ _)⟩)
          dsimp only [Pt.U, Pt.locs, Pt.cells, Pt.slots] at X20 l20 y20 z20 st20 hQ20
          subst l20 y20 z20
          obtain ⟨rfl, rfl, eq20⟩ := hQ20
          have N20 := Fr.app N15 (Fr.nil n0)
          have k20 : Go p.tables e below (T19.setTop (mkF m 119 #[.val (.ref r0), .val (.ref r1), .val (.int (2 : Int32)), .val (.int (2 : Int32))] [(.ref rp), (.int (2 : Int32))])) (T20.setTop (mkF m 122 #[.val (.ref r0), .val (.ref r1), .val (.int (2 : Int32)), .val (.int (2 : Int32))] [(.int (Int32.ofNat cs.length)), (.int (2 : Int32))])) := fun _ ht => st20.trans ht
          have k21 : Go p.tables e below (T20.setTop (mkF m 122 #[.val (.ref r0), .val (.ref r1), .val (.int (2 : Int32)), .val (.int (2 : Int32))] [(.int (Int32.ofNat cs.length)), (.int (2 : Int32))])) (T20.setTop (mkF m 130 #[.val (.ref r0), .val (.ref r1), .val (.int (2 : Int32)), .val (.int (2 : Int32))] [(.int (1 : Int32))])) := by
            intro t ht
            refine XS.icmpNo X20.here hx rfl (hb hby d_tail2_122) rfl (tlt hc7).2.1 ?_
            show Steps p.tables e below (T20.setTop (mkF m 125 #[.val (.ref r0), .val (.ref r1), .val (.int (2 : Int32)), .val (.int (2 : Int32))] [])) _
            refine XS.iconst X20.here hx rfl (hb hby d_tail2_125) ?_
            show Steps p.tables e below (T20.setTop (mkF m 126 #[.val (.ref r0), .val (.ref r1), .val (.int (2 : Int32)), .val (.int (2 : Int32))] [(.int (1 : Int32))])) _
            refine XS.goto X20.here hx rfl (pc0 := 126) (pc' := 130) rfl (hb hby d_tail2_126) (by decide) (by decide) ?_
            exact ht
          refine ⟨T20, _, 130, #[.val (.ref r0), .val (.ref r1), .val (.int (2 : Int32)), .val (.int (2 : Int32))], X20, N20, eq20, (hb hby d_tail2_130), ?_⟩
          have kk := (goT k1 (goT k2 (goT k4 (goT k5 (goT k6 (goT k8 (goT k9 (goT k10 (goT k11 (goT k12 (goT k14 (goT k15 (goT k18 (goT k19 (goT k20 k21)))))))))))))))
          simpa only [f_tail2, if_neg P5, if_neg (own_len3 hld), if_pos hc3, if_pos hc7, if_pos hc13, if_neg hc16] using kk
      · have k22 : Go p.tables e below (T11.setTop (mkF m 35 #[.val (.ref r0), .val (.ref r1), .val (.int (2 : Int32)), .val (.int (2 : Int32))] [(.int (42 : Int32)), (.int (cs.getD 2 0))])) (T11.setTop (mkF m 39 #[.val (.ref r0), .val (.ref r1), .val (.int (2 : Int32)), .val (.int (2 : Int32))] [(.ref r0)])) := by
          intro t ht
          refine XS.icmpNo X11.here hx rfl (hb hby d_tail2_35) rfl (feq hc13).1 ?_
          show Steps p.tables e below (T11.setTop (mkF m 38 #[.val (.ref r0), .val (.ref r1), .val (.int (2 : Int32)), .val (.int (2 : Int32))] [])) _
          refine XS.aloadN X11.here hx rfl (hb hby d_tail2_38) rfl rfl ?_
          exact ht
        obtain ⟨T23, X23, e23, st23⟩ := getF X11 hx hZ hown (host := "") (Or.inl (hw _ (List.mem_of_getElem? (i := 41) rfl))) Via.refl eq11 Fa (g := (mkF m 39 #[.val (.ref r0), .val (.ref r1), .val (.int (2 : Int32)), .val (.int (2 : Int32))] [(.ref r0)])) rfl rfl (hb hby d_tail2_39)
        have k23 : Go p.tables e below (T11.setTop (mkF m 39 #[.val (.ref r0), .val (.ref r1), .val (.int (2 : Int32)), .val (.int (2 : Int32))] [(.ref r0)])) (T23.setTop (mkF m 42 #[.val (.ref r0), .val (.ref r1), .val (.int (2 : Int32)), .val (.int (2 : Int32))] [(.int (0 : Int32))])) := st23
        have k24 : Go p.tables e below (T23.setTop (mkF m 42 #[.val (.ref r0), .val (.ref r1), .val (.int (2 : Int32)), .val (.int (2 : Int32))] [(.int (0 : Int32))])) (T23.setTop (mkF m 73 #[.val (.ref r0), .val (.ref r1), .val (.int (2 : Int32)), .val (.int (2 : Int32))] [(.ref r0)])) := by
          intro t ht
          refine XS.ifYes X23.here hx rfl (pc0 := 42) (pc' := 72) rfl (hb hby d_tail2_42) rfl ((if0 _ _).trans (teq (by decide : (0 : Int32) = (0 : Int32))).1) (by decide) (by decide) ?_
          show Steps p.tables e below (T23.setTop (mkF m 72 #[.val (.ref r0), .val (.ref r1), .val (.int (2 : Int32)), .val (.int (2 : Int32))] [])) _
          refine XS.aloadN X23.here hx rfl (hb hby d_tail2_72) rfl rfl ?_
          exact ht
        obtain ⟨T25, X25, e25, st25⟩ := getF X23 hx hZ hown (host := "") (Or.inl (hw _ (List.mem_of_getElem? (i := 39) rfl))) Via.refl e23 Fp (g := (mkF m 73 #[.val (.ref r0), .val (.ref r1), .val (.int (2 : Int32)), .val (.int (2 : Int32))] [(.ref r0)])) rfl rfl (hb hby d_tail2_73)
        have k25 : Go p.tables e below (T23.setTop (mkF m 73 #[.val (.ref r0), .val (.ref r1), .val (.int (2 : Int32)), .val (.int (2 : Int32))] [(.ref r0)])) (T25.setTop (mkF m 76 #[.val (.ref r0), .val (.ref r1), .val (.int (2 : Int32)), .val (.int (2 : Int32))] [(.ref rp)])) := st25
        have k26 : Go p.tables e below (T25.setTop (mkF m 76 #[.val (.ref r0), .val (.ref r1), .val (.int (2 : Int32)), .val (.int (2 : Int32))] [(.ref rp)])) (T25.setTop (mkF m 77 #[.val (.ref r0), .val (.ref r1), .val (.int (2 : Int32)), .val (.int (2 : Int32))] [(.int (2 : Int32)), (.ref rp)])) := by
          intro t ht
          refine XS.iloadN X25.here hx rfl (hb hby d_tail2_76) rfl ?_
          exact ht
        obtain ⟨cq27, kq27, q27a, q27b, q27c⟩ := isOf hZ e25 E_rp
        obtain ⟨_, _, ⟨T27, L27, kq27, n27⟩, -, X27, ⟨Lc27, hQ27, l27, y27, z27⟩, st27⟩ := X25.virtualBack hx (y := (⟨"java/lang/String", "charAt", "(I)C"⟩ : MethodName)) (z := (⟨"java/lang/String", "charAt", "(I)C"⟩ : MethodName)) hown (mvT hZ (hw _ (List.mem_of_getElem? (i := 112) rfl))) (mvT hZ (hw _ (List.mem_of_getElem? (i := 113) rfl))) (notFace_of_selects (args := #[]) (mvT hZ (hw _ (List.mem_of_getElem? (i := 115) rfl)))) (mvT hZ (hw _ (List.mem_of_getElem? (i := 115) rfl))) (mvT hZ (hw _ (List.mem_of_getElem? (i := 114) rfl))) (by decide) (StrChars.Road.chN (W := 0) hZ (own_wordsCh hw) (kI := 4) (hw _ (List.mem_of_getElem? (i := 8) rfl)) E_rp Fv_rp Fc_rp V_tp (StrChars.Road.codOf rfl fun c hc => (hchp c hc).2) (own_up hchp) S_CS P5 S_SI rf (Nat.le_trans hlp (by decide)) (i := 2) (own_lt_len (k := 2) hc7 (by decide) (Nat.le_trans hlp (by decide))) rfl (by decide) (by decide)) q27a q27c (g := (mkF m 77 #[.val (.ref r0), .val (.ref r1), .val (.int (2 : Int32)), .val (.int (2 : Int32))] [(.int (2 : Int32)), (.ref rp)])) rfl (by rw [hml]; rfl) (Steps.refl _) (argsL := [(.int (2 : Int32))]) (rest := []) (lenOf pd_9 rfl) rfl (by show 2 * 0 + _ ≤ _; exact Nat.le_of_eq rfl) (hb hby d_tail2_77) (fun _ _ => ⟨rfl, e25, (by decide : 0 + 0 ≤ _), (by decide : 0 + 0 ≤ _)⟩)
        dsimp only [Pt.U, Pt.locs, Pt.cells, Pt.slots] at X27 l27 y27 z27 st27 hQ27
        subst l27 y27 z27
        obtain ⟨rfl, rfl, eq27⟩ := hQ27
        have N27 := Fr.app N11 (Fr.nil n0)
        have k27 : Go p.tables e below (T25.setTop (mkF m 77 #[.val (.ref r0), .val (.ref r1), .val (.int (2 : Int32)), .val (.int (2 : Int32))] [(.int (2 : Int32)), (.ref rp)])) (T27.setTop (mkF m 80 #[.val (.ref r0), .val (.ref r1), .val (.int (2 : Int32)), .val (.int (2 : Int32))] [(.int (cs.getD 2 0))])) := fun _ ht => st27.trans ht
        have k28 : Go p.tables e below (T27.setTop (mkF m 80 #[.val (.ref r0), .val (.ref r1), .val (.int (2 : Int32)), .val (.int (2 : Int32))] [(.int (cs.getD 2 0))])) (T27.setTop (mkF m 82 #[.val (.ref r0), .val (.ref r1), .val (.int (2 : Int32)), .val (.int (2 : Int32))] [(.int (2 : Int32)), (.ref r1), (.int (cs.getD 2 0))])) := by
          intro t ht
          refine XS.aloadN X27.here hx rfl (hb hby d_tail2_80) rfl rfl ?_
          show Steps p.tables e below (T27.setTop (mkF m 81 #[.val (.ref r0), .val (.ref r1), .val (.int (2 : Int32)), .val (.int (2 : Int32))] [(.ref r1), (.int (cs.getD 2 0))])) _
          refine XS.iloadN X27.here hx rfl (hb hby d_tail2_81) rfl ?_
          exact ht
        obtain ⟨cq29, kq29, q29a, q29b, q29c⟩ := isOf hZ eq27 E_r1
        obtain ⟨_, _, ⟨T29, L29, kq29, n29⟩, -, X29, ⟨Lc29, hQ29, l29, y29, z29⟩, st29⟩ := X27.interfaceBack hx (xi := (⟨"java/lang/CharSequence", "charAt", "(I)C"⟩ : MethodName)) (y := (⟨"java/lang/String", "charAt", "(I)C"⟩ : MethodName)) hown (mvT hZ (hw _ (List.mem_of_getElem? (i := 128) rfl))) (mvT hZ (hw _ (List.mem_of_getElem? (i := 129) rfl))) (mvT hZ (hw _ (List.mem_of_getElem? (i := 130) rfl))) (mvT hZ (hw _ (List.mem_of_getElem? (i := 131) rfl))) (mvT hZ (hw _ (List.mem_of_getElem? (i := 114) rfl))) (mvT hZ (hw _ (List.mem_of_getElem? (i := 132) rfl))) (mvT hZ (hw _ (List.mem_of_getElem? (i := 133) rfl))) (mvT hZ (hw _ (List.mem_of_getElem? (i := 96) rfl))) (by decide) (StrChars.Road.chN (W := 1) hZ (own_wordsCh hw) (kI := 4) (hw _ (List.mem_of_getElem? (i := 8) rfl)) E_r1 Fv_r1 Fc_r1 V_td (StrChars.Road.codOf rfl fun c hc => (hchd c hc).2) (own_up hchd) S_CS P5 S_SI rf (Nat.le_trans hld (by decide)) (i := 2) (own_lt_len (k := 2) hc3 (by decide) (Nat.le_trans hld (by decide))) rfl (by decide) (by decide)) q29a q29b q29c (g := (mkF m 82 #[.val (.ref r0), .val (.ref r1), .val (.int (2 : Int32)), .val (.int (2 : Int32))] [(.int (2 : Int32)), (.ref r1), (.int (cs.getD 2 0))])) rfl (by rw [hml]; rfl) (Steps.refl _) (argsL := [(.int (2 : Int32))]) (rest := [(.int (cs.getD 2 0))]) (lenOf pd_9 rfl) rfl (by show 2 * 0 + _ ≤ _; exact Nat.le_of_eq rfl) (hb hby d_tail2_82) (fun _ _ => ⟨rfl, eq27, (by decide : 0 + 0 ≤ _), (by decide : 0 + 0 ≤ _)⟩)
        dsimp only [Pt.U, Pt.locs, Pt.cells, Pt.slots] at X29 l29 y29 z29 st29 hQ29
        subst l29 y29 z29
        obtain ⟨rfl, rfl, eq29⟩ := hQ29
        have N29 := Fr.app N27 (Fr.nil n0)
        have k29 : Go p.tables e below (T27.setTop (mkF m 82 #[.val (.ref r0), .val (.ref r1), .val (.int (2 : Int32)), .val (.int (2 : Int32))] [(.int (2 : Int32)), (.ref r1), (.int (cs.getD 2 0))])) (T29.setTop (mkF m 87 #[.val (.ref r0), .val (.ref r1), .val (.int (2 : Int32)), .val (.int (2 : Int32))] [(.int (ds.getD 2 0)), (.int (cs.getD 2 0))])) := fun _ ht => st29.trans ht
        by_cases hc30 : (cs.getD 2 0) = (ds.getD 2 0)
        · have k31 : Go p.tables e below (T29.setTop (mkF m 87 #[.val (.ref r0), .val (.ref r1), .val (.int (2 : Int32)), .val (.int (2 : Int32))] [(.int (ds.getD 2 0)), (.int (cs.getD 2 0))])) (T29.setTop (mkF m 4 #[.val (.ref r0), .val (.ref r1), .val (.int (3 : Int32)), .val (.int (3 : Int32))] [])) := by
            intro t ht
            refine XS.icmpNo X29.here hx rfl (hb hby d_tail2_87) rfl (teq hc30).2 ?_
            show Steps p.tables e below (T29.setTop (mkF m 90 #[.val (.ref r0), .val (.ref r1), .val (.int (2 : Int32)), .val (.int (2 : Int32))] [])) _
            refine XS.iinc X29.here hx rfl (hb hby d_tail2_90) rfl (l' := #[.val (.ref r0), .val (.ref r1), .val (.int (2 : Int32)), .val (.int (3 : Int32))]) rfl ?_
            show Steps p.tables e below (T29.setTop (mkF m 93 #[.val (.ref r0), .val (.ref r1), .val (.int (2 : Int32)), .val (.int (3 : Int32))] [])) _
            refine XS.goto X29.here hx rfl (pc0 := 93) (pc' := 98) rfl (hb hby d_tail2_93) (by decide) (by decide) ?_
            show Steps p.tables e below (T29.setTop (mkF m 98 #[.val (.ref r0), .val (.ref r1), .val (.int (2 : Int32)), .val (.int (3 : Int32))] [])) _
            refine XS.iinc X29.here hx rfl (hb hby d_tail2_98) rfl (l' := #[.val (.ref r0), .val (.ref r1), .val (.int (3 : Int32)), .val (.int (3 : Int32))]) rfl ?_
            show Steps p.tables e below (T29.setTop (mkF m 101 #[.val (.ref r0), .val (.ref r1), .val (.int (3 : Int32)), .val (.int (3 : Int32))] [])) _
            refine XS.goto X29.here hx rfl (pc0 := 101) (pc' := 4) rfl (hb hby d_tail2_101) (by decide) (by decide) ?_
            exact ht
          obtain ⟨T32, L32, pc32, Ls32, X32, N32, e32, hd32, kr32⟩ := pc_tail3 r0 r1 rp tp td kp kd cs ds G1 fm X29 hx hZ hw hby hml hown eq29 N29 Z0 E_r0 Fp Fa E_rp Fv_rp Fc_rp E_r1 Fv_r1 Fc_r1 S_CS S_SI V_tp V_td P5 rf hchp hchd hlp hld
          refine ⟨T32, L32, pc32, Ls32, X32, N32, e32, hd32, ?_⟩
          have kk := goT (goT k1 (goT k2 (goT k4 (goT k5 (goT k6 (goT k8 (goT k9 (goT k10 (goT k11 (goT k12 (goT k22 (goT k23 (goT k24 (goT k25 (goT k26 (goT k27 (goT k28 (goT k29 k31)))))))))))))))))) kr32
          simpa only [f_tail2, if_neg P5, if_neg (own_len3 hld), if_pos hc3, if_pos hc7, if_neg hc13, if_pos hc30] using kk
        · have k33 : Go p.tables e below (T29.setTop (mkF m 87 #[.val (.ref r0), .val (.ref r1), .val (.int (2 : Int32)), .val (.int (2 : Int32))] [(.int (ds.getD 2 0)), (.int (cs.getD 2 0))])) (T29.setTop (mkF m 97 #[.val (.ref r0), .val (.ref r1), .val (.int (2 : Int32)), .val (.int (2 : Int32))] [(.int (0 : Int32))])) := by
            intro t ht
            refine XS.icmpYes X29.here hx rfl (pc0 := 87) (pc' := 96) rfl (hb hby d_tail2_87) rfl (feq hc30).2 (by decide) (by decide) ?_
            show Steps p.tables e below (T29.setTop (mkF m 96 #[.val (.ref r0), .val (.ref r1), .val (.int (2 : Int32)), .val (.int (2 : Int32))] [])) _
            refine XS.iconst X29.here hx rfl (hb hby d_tail2_96) ?_
            exact ht
          refine ⟨T29, _, 97, #[.val (.ref r0), .val (.ref r1), .val (.int (2 : Int32)), .val (.int (2 : Int32))], X29, N29, eq29, (hb hby d_tail2_97), ?_⟩
          have kk := (goT k1 (goT k2 (goT k4 (goT k5 (goT k6 (goT k8 (goT k9 (goT k10 (goT k11 (goT k12 (goT k22 (goT k23 (goT k24 (goT k25 (goT k26 (goT k27 (goT k28 (goT k29 k33))))))))))))))))))
          simpa only [f_tail2, if_neg P5, if_neg (own_len3 hld), if_pos hc3, if_pos hc7, if_neg hc13, if_neg hc30] using kk
    · have k34 : Go p.tables e below (T6.setTop (mkF m 22 #[.val (.ref r0), .val (.ref r1), .val (.int (2 : Int32)), .val (.int (2 : Int32))] [(.int (Int32.ofNat cs.length)), (.int (2 : Int32))])) (T6.setTop (mkF m 106 #[.val (.ref r0), .val (.ref r1), .val (.int (2 : Int32)), .val (.int (2 : Int32))] [(.ref r1), (.int (2 : Int32))])) := by
        intro t ht
        refine XS.icmpYes X6.here hx rfl (pc0 := 22) (pc' := 104) rfl (hb hby d_tail2_22) rfl (flt hc7).2.1 (by decide) (by decide) ?_
        show Steps p.tables e below (T6.setTop (mkF m 104 #[.val (.ref r0), .val (.ref r1), .val (.int (2 : Int32)), .val (.int (2 : Int32))] [])) _
        refine XS.iloadN X6.here hx rfl (hb hby d_tail2_104) rfl ?_
        show Steps p.tables e below (T6.setTop (mkF m 105 #[.val (.ref r0), .val (.ref r1), .val (.int (2 : Int32)), .val (.int (2 : Int32))] [(.int (2 : Int32))])) _
        refine XS.aloadN X6.here hx rfl (hb hby d_tail2_105) rfl rfl ?_
        exact ht
      obtain ⟨cq35, kq35, q35a, q35b, q35c⟩ := isOf hZ eq6 E_r1
      obtain ⟨_, _, ⟨T35, L35, kq35, n35⟩, -, X35, ⟨Lc35, hQ35, l35, y35, z35⟩, st35⟩ := X6.interfaceBack hx (xi := (⟨"java/lang/CharSequence", "length", "()I"⟩ : MethodName)) (y := (⟨"java/lang/String", "length", "()I"⟩ : MethodName)) hown (mvT hZ (hw _ (List.mem_of_getElem? (i := 90) rfl))) (mvT hZ (hw _ (List.mem_of_getElem? (i := 91) rfl))) (mvT hZ (hw _ (List.mem_of_getElem? (i := 92) rfl))) (mvT hZ (hw _ (List.mem_of_getElem? (i := 93) rfl))) (mvT hZ (hw _ (List.mem_of_getElem? (i := 61) rfl))) (mvT hZ (hw _ (List.mem_of_getElem? (i := 94) rfl))) (mvT hZ (hw _ (List.mem_of_getElem? (i := 95) rfl))) (mvT hZ (hw _ (List.mem_of_getElem? (i := 96) rfl))) (by decide) (StrChars.Road.lenW (W := 1) hZ (own_wordsLen hw) (kI := 4) (hw _ (List.mem_of_getElem? (i := 8) rfl)) E_r1 Fv_r1 Fc_r1 V_td (StrChars.Road.codOf rfl fun c hc => (hchd c hc).2) (own_up hchd) S_CS P5 (Nat.le_trans hld (by decide)) (by decide) (by decide)) q35a q35b q35c (g := (mkF m 106 #[.val (.ref r0), .val (.ref r1), .val (.int (2 : Int32)), .val (.int (2 : Int32))] [(.ref r1), (.int (2 : Int32))])) rfl (by rw [hml]; rfl) (Steps.refl _) (argsL := []) (rest := [(.int (2 : Int32))]) (lenOf pd_6 rfl) rfl (by show 2 * 0 + _ ≤ _; exact Nat.le_of_eq rfl) (hb hby d_tail2_106) (fun _ _ => ⟨rfl, eq6, (by decide : 0 + 0 ≤ _), (by decide : 0 + 0 ≤ _)⟩)
      dsimp only [Pt.U, Pt.locs, Pt.cells, Pt.slots] at X35 l35 y35 z35 st35 hQ35
      subst l35 y35 z35
      obtain ⟨rfl, rfl, eq35⟩ := hQ35
      have N35 := Fr.app N6 (Fr.nil n0)
      have k35 : Go p.tables e below (T6.setTop (mkF m 106 #[.val (.ref r0), .val (.ref r1), .val (.int (2 : Int32)), .val (.int (2 : Int32))] [(.ref r1), (.int (2 : Int32))])) (T35.setTop (mkF m 111 #[.val (.ref r0), .val (.ref r1), .val (.int (2 : Int32)), .val (.int (2 : Int32))] [(.int (Int32.ofNat ds.length)), (.int (2 : Int32))])) := fun _ ht => st35.trans ht
      by_cases hc36 : (2 : Int32) = (Int32.ofNat ds.length)
      · have k37 : Go p.tables e below (T35.setTop (mkF m 111 #[.val (.ref r0), .val (.ref r1), .val (.int (2 : Int32)), .val (.int (2 : Int32))] [(.int (Int32.ofNat ds.length)), (.int (2 : Int32))])) (T35.setTop (mkF m 130 #[.val (.ref r0), .val (.ref r1), .val (.int (2 : Int32)), .val (.int (2 : Int32))] [(.int (1 : Int32))])) := by
          intro t ht
          refine XS.icmpYes X35.here hx rfl (pc0 := 111) (pc' := 125) rfl (hb hby d_tail2_111) rfl (teq hc36).1 (by decide) (by decide) ?_
          show Steps p.tables e below (T35.setTop (mkF m 125 #[.val (.ref r0), .val (.ref r1), .val (.int (2 : Int32)), .val (.int (2 : Int32))] [])) _
          refine XS.iconst X35.here hx rfl (hb hby d_tail2_125) ?_
          show Steps p.tables e below (T35.setTop (mkF m 126 #[.val (.ref r0), .val (.ref r1), .val (.int (2 : Int32)), .val (.int (2 : Int32))] [(.int (1 : Int32))])) _
          refine XS.goto X35.here hx rfl (pc0 := 126) (pc' := 130) rfl (hb hby d_tail2_126) (by decide) (by decide) ?_
          exact ht
        refine ⟨T35, _, 130, #[.val (.ref r0), .val (.ref r1), .val (.int (2 : Int32)), .val (.int (2 : Int32))], X35, N35, eq35, (hb hby d_tail2_130), ?_⟩
        have kk := (goT k1 (goT k2 (goT k4 (goT k5 (goT k6 (goT k34 (goT k35 k37)))))))
        simpa only [f_tail2, if_neg P5, if_neg (own_len3 hld), if_pos hc3, if_neg hc7, if_pos hc36] using kk
      · have k38 : Go p.tables e below (T35.setTop (mkF m 111 #[.val (.ref r0), .val (.ref r1), .val (.int (2 : Int32)), .val (.int (2 : Int32))] [(.int (Int32.ofNat ds.length)), (.int (2 : Int32))])) (T35.setTop (mkF m 116 #[.val (.ref r0), .val (.ref r1), .val (.int (2 : Int32)), .val (.int (2 : Int32))] [(.ref r0), (.int (2 : Int32))])) := by
          intro t ht
          refine XS.icmpNo X35.here hx rfl (hb hby d_tail2_111) rfl (feq hc36).1 ?_
          show Steps p.tables e below (T35.setTop (mkF m 114 #[.val (.ref r0), .val (.ref r1), .val (.int (2 : Int32)), .val (.int (2 : Int32))] [])) _
          refine XS.iloadN X35.here hx rfl (hb hby d_tail2_114) rfl ?_
          show Steps p.tables e below (T35.setTop (mkF m 115 #[.val (.ref r0), .val (.ref r1), .val (.int (2 : Int32)), .val (.int (2 : Int32))] [(.int (2 : Int32))])) _
          refine XS.aloadN X35.here hx rfl (hb hby d_tail2_115) rfl rfl ?_
          exact ht
        obtain ⟨T39, X39, e39, st39⟩ := getF X35 hx hZ hown (host := "") (Or.inl (hw _ (List.mem_of_getElem? (i := 39) rfl))) Via.refl eq35 Fp (g := (mkF m 116 #[.val (.ref r0), .val (.ref r1), .val (.int (2 : Int32)), .val (.int (2 : Int32))] [(.ref r0), (.int (2 : Int32))])) rfl rfl (hb hby d_tail2_116)
        have k39 : Go p.tables e below (T35.setTop (mkF m 116 #[.val (.ref r0), .val (.ref r1), .val (.int (2 : Int32)), .val (.int (2 : Int32))] [(.ref r0), (.int (2 : Int32))])) (T39.setTop (mkF m 119 #[.val (.ref r0), .val (.ref r1), .val (.int (2 : Int32)), .val (.int (2 : Int32))] [(.ref rp), (.int (2 : Int32))])) := st39
        obtain ⟨cq40, kq40, q40a, q40b, q40c⟩ := isOf hZ e39 E_rp
        obtain ⟨_, _, ⟨T40, L40, kq40, n40⟩, -, X40, ⟨Lc40, hQ40, l40, y40, z40⟩, st40⟩ := X39.virtualBack hx (y := (⟨"java/lang/String", "length", "()I"⟩ : MethodName)) (z := (⟨"java/lang/String", "length", "()I"⟩ : MethodName)) hown (mvT hZ (hw _ (List.mem_of_getElem? (i := 111) rfl))) (mvT hZ (hw _ (List.mem_of_getElem? (i := 60) rfl))) (notFace_of_selects (args := #[]) (mvT hZ (hw _ (List.mem_of_getElem? (i := 62) rfl)))) (mvT hZ (hw _ (List.mem_of_getElem? (i := 62) rfl))) (mvT hZ (hw _ (List.mem_of_getElem? (i := 61) rfl))) (by decide) (StrChars.Road.lenW (W := 1) hZ (own_wordsLen hw) (kI := 4) (hw _ (List.mem_of_getElem? (i := 8) rfl)) E_rp Fv_rp Fc_rp V_tp (StrChars.Road.codOf rfl fun c hc => (hchp c hc).2) (own_up hchp) S_CS P5 (Nat.le_trans hlp (by decide)) (by decide) (by decide)) q40a q40c (g := (mkF m 119 #[.val (.ref r0), .val (.ref r1), .val (.int (2 : Int32)), .val (.int (2 : Int32))] [(.ref rp), (.int (2 : Int32))])) rfl (by rw [hml]; rfl) (Steps.refl _) (argsL := []) (rest := [(.int (2 : Int32))]) (lenOf pd_6 rfl) rfl (by show 2 * 0 + _ ≤ _; exact Nat.le_of_eq rfl) (hb hby d_tail2_119) (fun _ _ => ⟨rfl, e39, (by decide : 0 + 0 ≤ _), (by decide : 0 + 0 ≤ _)⟩)
        dsimp only [Pt.U, Pt.locs, Pt.cells, Pt.slots] at X40 l40 y40 z40 st40 hQ40
        subst l40 y40 z40
        obtain ⟨rfl, rfl, eq40⟩ := hQ40
        have N40 := Fr.app N35 (Fr.nil n0)
        have k40 : Go p.tables e below (T39.setTop (mkF m 119 #[.val (.ref r0), .val (.ref r1), .val (.int (2 : Int32)), .val (.int (2 : Int32))] [(.ref rp), (.int (2 : Int32))])) (T40.setTop (mkF m 122 #[.val (.ref r0), .val (.ref r1), .val (.int (2 : Int32)), .val (.int (2 : Int32))] [(.int (Int32.ofNat cs.length)), (.int (2 : Int32))])) := fun _ ht => st40.trans ht
        have k41 : Go p.tables e below (T40.setTop (mkF m 122 #[.val (.ref r0), .val (.ref r1), .val (.int (2 : Int32)), .val (.int (2 : Int32))] [(.int (Int32.ofNat cs.length)), (.int (2 : Int32))])) (T40.setTop (mkF m 130 #[.val (.ref r0), .val (.ref r1), .val (.int (2 : Int32)), .val (.int (2 : Int32))] [(.int (0 : Int32))])) := by
          intro t ht
          refine XS.icmpYes X40.here hx rfl (pc0 := 122) (pc' := 129) rfl (hb hby d_tail2_122) rfl (flt hc7).2.1 (by decide) (by decide) ?_
          show Steps p.tables e below (T40.setTop (mkF m 129 #[.val (.ref r0), .val (.ref r1), .val (.int (2 : Int32)), .val (.int (2 : Int32))] [])) _
          refine XS.iconst X40.here hx rfl (hb hby d_tail2_129) ?_
          exact ht
        refine ⟨T40, _, 130, #[.val (.ref r0), .val (.ref r1), .val (.int (2 : Int32)), .val (.int (2 : Int32))], X40, N40, eq40, (hb hby d_tail2_130), ?_⟩
        have kk := (goT k1 (goT k2 (goT k4 (goT k5 (goT k6 (goT k34 (goT k35 (goT k38 (goT k39 (goT k40 k41))))))))))
        simpa only [f_tail2, if_neg P5, if_neg (own_len3 hld), if_pos hc3, if_neg hc7, if_neg hc36] using kk
  · have k42 : Go p.tables e below (T2.setTop (mkF m 11 #[.val (.ref r0), .val (.ref r1), .val (.int (2 : Int32)), .val (.int (2 : Int32))] [(.int (Int32.ofNat ds.length)), (.int (2 : Int32))])) (T2.setTop (mkF m 106 #[.val (.ref r0), .val (.ref r1), .val (.int (2 : Int32)), .val (.int (2 : Int32))] [(.ref r1), (.int (2 : Int32))])) := by
      intro t ht
      refine XS.icmpYes X2.here hx rfl (pc0 := 11) (pc' := 104) rfl (hb hby d_tail2_11) rfl (flt hc3).2.1 (by decide) (by decide) ?_
      show Steps p.tables e below (T2.setTop (mkF m 104 #[.val (.ref r0), .val (.ref r1), .val (.int (2 : Int32)), .val (.int (2 : Int32))] [])) _
      refine XS.iloadN X2.here hx rfl (hb hby d_tail2_104) rfl ?_
      show Steps p.tables e below (T2.setTop (mkF m 105 #[.val (.ref r0), .val (.ref r1), .val (.int (2 : Int32)), .val (.int (2 : Int32))] [(.int (2 : Int32))])) _
      refine XS.aloadN X2.here hx rfl (hb hby d_tail2_105) rfl rfl ?_
      exact ht
    obtain ⟨cq43, kq43, q43a, q43b, q43c⟩ := isOf hZ eq2 E_r1
    obtain ⟨_, _, ⟨T43, L43, kq43, n43⟩, -, X43, ⟨Lc43, hQ43, l43, y43, z43⟩, st43⟩ := X2.interfaceBack hx (xi := (⟨"java/lang/CharSequence", "length", "()I"⟩ : MethodName)) (y := (⟨"java/lang/String", "length", "()I"⟩ : MethodName)) hown (mvT hZ (hw _ (List.mem_of_getElem? (i := 90) rfl))) (mvT hZ (hw _ (List.mem_of_getElem? (i := 91) rfl))) (mvT hZ (hw _ (List.mem_of_getElem? (i := 92) rfl))) (mvT hZ (hw _ (List.mem_of_getElem? (i := 93) rfl))) (mvT hZ (hw _ (List.mem_of_getElem? (i := 61) rfl))) (mvT hZ (hw _ (List.mem_of_getElem? (i := 94) rfl))) (mvT hZ (hw _ (List.mem_of_getElem? (i := 95) rfl))) (mvT hZ (hw _ (List.mem_of_getElem? (i := 96) rfl))) (by decide) (StrChars.Road.lenW (W := 1) hZ (own_wordsLen hw) (kI := 4) (hw _ (List.mem_of_getElem? (i := 8) rfl)) E_r1 Fv_r1 Fc_r1 V_td (StrChars.Road.codOf rfl fun c hc => (hchd c hc).2) (own_up hchd) S_CS P5 (Nat.le_trans hld (by decide)) (by decide) (by decide)) q43a q43b q43c (g := (mkF m 106 #[.val (.ref r0), .val (.ref r1), .val (.int (2 : Int32)), .val (.int (2 : Int32))] [(.ref r1), (.int (2 : Int32))])) rfl (by rw [hml]; rfl) (Steps.refl _) (argsL := []) (rest := [(.int (2 : Int32))]) (lenOf pd_6 rfl) rfl (by show 2 * 0 + _ ≤ _; exact Nat.le_of_eq rfl) (hb hby d_tail2_106) (fun _ _ => ⟨rfl, eq2, (by decide : 0 + 0 ≤ _), (by decide : 0 + 0 ≤ _)⟩)
    dsimp only [Pt.U, Pt.locs, Pt.cells, Pt.slots] at X43 l43 y43 z43 st43 hQ43
    subst l43 y43 z43
    obtain ⟨rfl, rfl, eq43⟩ := hQ43
    have N43 := Fr.app N2 (Fr.nil n0)
    have k43 : Go p.tables e below (T2.setTop (mkF m 106 #[.val (.ref r0), .val (.ref r1), .val (.int (2 : Int32)), .val (.int (2 : Int32))] [(.ref r1), (.int (2 : Int32))])) (T43.setTop (mkF m 111 #[.val (.ref r0), .val (.ref r1), .val (.int (2 : Int32)), .val (.int (2 : Int32))] [(.int (Int32.ofNat ds.length)), (.int (2 : Int32))])) := fun _ ht => st43.trans ht
    by_cases hc44 : (2 : Int32) = (Int32.ofNat ds.length)
    · have k45 : Go p.tables e below (T43.setTop (mkF m 111 #[.val (.ref r0), .val (.ref r1), .val (.int (2 : Int32)), .val (.int (2 : Int32))] [(.int (Int32.ofNat ds.length)), (.int (2 : Int32))])) (T43.setTop (mkF m 130 #[.val (.ref r0), .val (.ref r1), .val (.int (2 : Int32)), .val (.int (2 : Int32))] [(.int (1 : Int32))])) := by
        intro t ht
        refine XS.icmpYes X43.here hx rfl (pc0 := 111) (pc' := 125) rfl (hb hby d_tail2_111) rfl (teq hc44).1 (by decide) (by decide) ?_
        show Steps p.tables e below (T43.setTop (mkF m 125 #[.val (.ref r0), .val (.ref r1), .val (.int (2 : Int32)), .val (.int (2 : Int32))] [])) _
        refine XS.iconst X43.here hx rfl (hb hby d_tail2_125) ?_
        show Steps p.tables e below (T43.setTop (mkF m 126 #[.val (.ref r0), .val (.ref r1), .val (.int (2 : Int32)), .val (.int (2 : Int32))] [(.int (1 : Int32))])) _
        refine XS.goto X43.here hx rfl (pc0 := 126) (pc' := 130) rfl (hb hby d_tail2_126) (by decide) (by decide) ?_
        exact ht
      refine ⟨T43, _, 130, #[.val (.ref r0), .val (.ref r1), .val (.int (2 : Int32)), .val (.int (2 : Int32))], X43, N43, eq43, (hb hby d_tail2_130), ?_⟩
      have kk := (goT k1 (goT k2 (goT k42 (goT k43 k45))))
      simpa only [f_tail2, if_neg P5, if_neg (own_len3 hld), if_neg hc3, if_pos hc44] using kk
    · have k46 : Go p.tables e below (T43.setTop (mkF m 111 #[.val (.ref r0), .val (.ref r1), .val (.int (2 : Int32)), .val (.int (2 : Int32))] [(.int (Int32.ofNat ds.length)), (.int (2 : Int32))])) (T43.setTop (mkF m 116 #[.val (.ref r0), .val (.ref r1), .val (.int (2 : Int32)), .val (.int (2 : Int32))] [(.ref r0), (.int (2 : Int32))])) := by
        intro t ht
        refine XS.icmpNo X43.here hx rfl (hb hby d_tail2_111) rfl (feq hc44).1 ?_
        show Steps p.tables e below (T43.setTop (mkF m 114 #[.val (.ref r0), .val (.ref r1), .val (.int (2 : Int32)), .val (.int (2 : Int32))] [])) _
        refine XS.iloadN X43.here hx rfl (hb hby d_tail2_114) rfl ?_
        show Steps p.tables e below (T43.setTop (mkF m 115 #[.val (.ref r0), .val (.ref r1), .val (.int (2 : Int32)), .val (.int (2 : Int32))] [(.int (2 : Int32))])) _
        refine XS.aloadN X43.here hx rfl (hb hby d_tail2_115) rfl rfl ?_
        exact ht
      obtain ⟨T47, X47, e47, st47⟩ := getF X43 hx hZ hown (host := "") (Or.inl (hw _ (List.mem_of_getElem? (i := 39) rfl))) Via.refl eq43 Fp (g := (mkF m 116 #[.val (.ref r0), .val (.ref r1), .val (.int (2 : Int32)), .val (.int (2 : Int32))] [(.ref r0), (.int (2 : Int32))])) rfl rfl (hb hby d_tail2_116)
      have k47 : Go p.tables e below (T43.setTop (mkF m 116 #[.val (.ref r0), .val (.ref r1), .val (.int (2 : Int32)), .val (.int (2 : Int32))] [(.ref r0), (.int (2 : Int32))])) (T47.setTop (mkF m 119 #[.val (.ref r0), .val (.ref r1), .val (.int (2 : Int32)), .val (.int (2 : Int32))] [(.ref rp), (.int (2 : Int32))])) := st47
      obtain ⟨cq48, kq48, q48a, q48b, q48c⟩ := isOf hZ e47 E_rp
      obtain ⟨_, _, ⟨T48, L48, kq48, n48⟩, -, X48, ⟨Lc48, hQ48, l48, y48, z48⟩, st48⟩ := X47.virtualBack hx (y := (⟨"java/lang/String", "length", "()I"⟩ : MethodName)) (z := (⟨"java/lang/String", "length", "()I"⟩ : MethodName)) hown (mvT hZ (hw _ (List.mem_of_getElem? (i := 111) rfl))) (mvT hZ (hw _ (List.mem_of_getElem? (i := 60) rfl))) (notFace_of_selects (args := #[]) (mvT hZ (hw _ (List.mem_of_getElem? (i := 62) rfl)))) (mvT hZ (hw _ (List.mem_of_getElem? (i := 62) rfl))) (mvT hZ (hw _ (List.mem_of_getElem? (i := 61) rfl))) (by decide) (StrChars.Road.lenW (W := 1) hZ (own_wordsLen hw) (kI := 4) (hw _ (List.mem_of_getElem? (i := 8) rfl)) E_rp Fv_rp Fc_rp V_tp (StrChars.Road.codOf rfl fun c hc => (hchp c hc).2) (own_up hchp) S_CS P5 (Nat.le_trans hlp (by decide)) (by decide) (by decide)) q48a q48c (g := (mkF m 119 #[.val (.ref r0), .val (.ref r1), .val (.int (2 : Int32)), .val (.int (2 : Int32))] [(.ref rp), (.int (2 : Int32))])) rfl (by rw [hml]; rfl) (Steps.refl _) (argsL := []) (rest := [(.int (2 : Int32))]) (lenOf pd_6 rfl) rfl (by show 2 * 0 + _ ≤ _; exact Nat.le_of_eq rfl) (hb hby d_tail2_119) (fun _ _ => ⟨rfl, e47, (by decide : 0 + 0 ≤ _), (by decide : 0 + 0 ≤ _)⟩)
      dsimp only [Pt.U, Pt.locs, Pt.cells, Pt.slots] at X48 l48 y48 z48 st48 hQ48
      subst l48 y48 z48
      obtain ⟨rfl, rfl, eq48⟩ := hQ48
      have N48 := Fr.app N43 (Fr.nil n0)
      have k48 : Go p.tables e below (T47.setTop (mkF m 119 #[.val (.ref r0), .val (.ref r1), .val (.int (2 : Int32)), .val (.int (2 : Int32))] [(.ref rp), (.int (2 : Int32))])) (T48.setTop (mkF m 122 #[.val (.ref r0), .val (.ref r1), .val (.int (2 : Int32)), .val (.int (2 : Int32))] [(.int (Int32.ofNat cs.length)), (.int (2 : Int32))])) := fun _ ht => st48.trans ht
      by_cases hc49 : (2 : Int32) < (Int32.ofNat cs.length)
      · have k50 : Go p.tables e below (T48.setTop (mkF m 122 #[.val (.ref r0), .val (.ref r1), .val (.int (2 : Int32)), .val (.int (2 : Int32))] [(.int (Int32.ofNat cs.length)), (.int (2 : Int32))])) (T48.setTop (mkF m 130 #[.val (.ref r0), .val (.ref r1), .val (.int (2 : Int32)), .val (.int (2 : Int32))] [(.int (1 : Int32))])) := by
          intro t ht
          refine XS.icmpNo X48.here hx rfl (hb hby d_tail2_122) rfl (tlt hc49).2.1 ?_
          show Steps p.tables e below (T48.setTop (mkF m 125 #[.val (.ref r0), .val (.ref r1), .val (.int (2 : Int32)), .val (.int (2 : Int32))] [])) _
          refine XS.iconst X48.here hx rfl (hb hby d_tail2_125) ?_
          show Steps p.tables e below (T48.setTop (mkF m 126 #[.val (.ref r0), .val (.ref r1), .val (.int (2 : Int32)), .val (.int (2 : Int32))] [(.int (1 : Int32))])) _
          refine XS.goto X48.here hx rfl (pc0 := 126) (pc' := 130) rfl (hb hby d_tail2_126) (by decide) (by decide) ?_
          exact ht
        refine ⟨T48, _, 130, #[.val (.ref r0), .val (.ref r1), .val (.int (2 : Int32)), .val (.int (2 : Int32))], X48, N48, eq48, (hb hby d_tail2_130), ?_⟩
        have kk := (goT k1 (goT k2 (goT k42 (goT k43 (goT k46 (goT k47 (goT k48 k50)))))))
        simpa only [f_tail2, if_neg P5, if_neg (own_len3 hld), if_neg hc3, if_neg hc44, if_pos hc49] using kk
      · have k51 : Go p.tables e below (T48.setTop (mkF m 122 #[.val (.ref r0), .val (.ref r1), .val (.int (2 : Int32)), .val (.int (2 : Int32))] [(.int (Int32.ofNat cs.length)), (.int (2 : Int32))])) (T48.setTop (mkF m 130 #[.val (.ref r0), .val (.ref r1), .val (.int (2 : Int32)), .val (.int (2 : Int32))] [(.int (0 : Int32))])) := by
          intro t ht
          refine XS.icmpYes X48.here hx rfl (pc0 := 122) (pc' := 129) rfl (hb hby d_tail2_122) rfl (flt hc49).2.1 (by decide) (by decide) ?_
          show Steps p.tables e below (T48.setTop (mkF m 129 #[.val (.ref r0), .val (.ref r1), .val (.int (2 : Int32)), .val (.int (2 : Int32))] [])) _
          refine XS.iconst X48.here hx rfl (hb hby d_tail2_129) ?_
          exact ht
        refine ⟨T48, _, 130, #[.val (.ref r0), .val (.ref r1), .val (.int (2 : Int32)), .val (.int (2 : Int32))], X48, N48, eq48, (hb hby d_tail2_130), ?_⟩
        have kk := (goT k1 (goT k2 (goT k42 (goT k43 (goT k46 (goT k47 (goT k48 k51)))))))
        simpa only [f_tail2, if_neg P5, if_neg (own_len3 hld), if_neg hc3, if_neg hc44, if_neg hc49] using kk
theorem d_tail1_4 : decode prog_10_method_6_code 4 = .ok (.iload_n 3, 1) := by decide +kernel
theorem d_tail1_5 : decode prog_10_method_6_code 5 = .ok (.aload_n 1, 1) := by decide +kernel
theorem d_tail1_6 : decode prog_10_method_6_code 6 = .ok (.invokeinterface 36 1, 5) := by decide +kernel
theorem d_tail1_11 : decode prog_10_method_6_code 11 = .ok (.if_icmp .ge 93, 3) := by decide +kernel
theorem d_tail1_14 : decode prog_10_method_6_code 14 = .ok (.iload_n 2, 1) := by decide +kernel
theorem d_tail1_15 : decode prog_10_method_6_code 15 = .ok (.aload_n 0, 1) := by decide +kernel
theorem d_tail1_16 : decode prog_10_method_6_code 16 = .ok (.getfield 12, 3) := by decide +kernel
theorem d_tail1_19 : decode prog_10_method_6_code 19 = .ok (.invokevirtual 42, 3) := by decide +kernel
theorem d_tail1_22 : decode prog_10_method_6_code 22 = .ok (.if_icmp .ge 82, 3) := by decide +kernel
theorem d_tail1_25 : decode prog_10_method_6_code 25 = .ok (.aload_n 0, 1) := by decide +kernel
theorem d_tail1_26 : decode prog_10_method_6_code 26 = .ok (.getfield 12, 3) := by decide +kernel
theorem d_tail1_29 : decode prog_10_method_6_code 29 = .ok (.iload_n 2, 1) := by decide +kernel
theorem d_tail1_30 : decode prog_10_method_6_code 30 = .ok (.invokevirtual 43, 3) := by decide +kernel
theorem d_tail1_33 : decode prog_10_method_6_code 33 = .ok (.bipush 42, 2) := by decide +kernel
theorem d_tail1_35 : decode prog_10_method_6_code 35 = .ok (.if_icmp .eq 69, 3) := by decide +kernel
theorem d_tail1_38 : decode prog_10_method_6_code 38 = .ok (.aload_n 0, 1) := by decide +kernel
theorem d_tail1_39 : decode prog_10_method_6_code 39 = .ok (.getfield 16, 3) := by decide +kernel
theorem d_tail1_42 : decode prog_10_method_6_code 42 = .ok (.ifCond .eq 30, 3) := by decide +kernel
theorem d_tail1_72 : decode prog_10_method_6_code 72 = .ok (.aload_n 0, 1) := by decide +kernel
theorem d_tail1_73 : decode prog_10_method_6_code 73 = .ok (.getfield 12, 3) := by decide +kernel
theorem d_tail1_76 : decode prog_10_method_6_code 76 = .ok (.iload_n 2, 1) := by decide +kernel
theorem d_tail1_77 : decode prog_10_method_6_code 77 = .ok (.invokevirtual 43, 3) := by decide +kernel
theorem d_tail1_80 : decode prog_10_method_6_code 80 = .ok (.aload_n 1, 1) := by decide +kernel
theorem d_tail1_81 : decode prog_10_method_6_code 81 = .ok (.iload_n 3, 1) := by decide +kernel
theorem d_tail1_82 : decode prog_10_method_6_code 82 = .ok (.invokeinterface 56 2, 5) := by decide +kernel
theorem d_tail1_87 : decode prog_10_method_6_code 87 = .ok (.if_icmp .ne 9, 3) := by decide +kernel
theorem d_tail1_90 : decode prog_10_method_6_code 90 = .ok (.iinc 3 1, 3) := by decide +kernel
theorem d_tail1_93 : decode prog_10_method_6_code 93 = .ok (.goto 5, 3) := by decide +kernel
theorem d_tail1_96 : decode prog_10_method_6_code 96 = .ok (.iconst 0, 1) := by decide +kernel
theorem d_tail1_97 : decode prog_10_method_6_code 97 = .ok (.ireturn, 1) := by decide +kernel
theorem d_tail1_98 : decode prog_10_method_6_code 98 = .ok (.iinc 2 1, 3) := by decide +kernel
theorem d_tail1_101 : decode prog_10_method_6_code 101 = .ok (.goto (-97), 3) := by decide +kernel
theorem d_tail1_104 : decode prog_10_method_6_code 104 = .ok (.iload_n 3, 1) := by decide +kernel
theorem d_tail1_105 : decode prog_10_method_6_code 105 = .ok (.aload_n 1, 1) := by decide +kernel
theorem d_tail1_106 : decode prog_10_method_6_code 106 = .ok (.invokeinterface 36 1, 5) := by decide +kernel
theorem d_tail1_111 : decode prog_10_method_6_code 111 = .ok (.if_icmp .eq 14, 3) := by decide +kernel
theorem d_tail1_114 : decode prog_10_method_6_code 114 = .ok (.iload_n 2, 1) := by decide +kernel
theorem d_tail1_115 : decode prog_10_method_6_code 115 = .ok (.aload_n 0, 1) := by decide +kernel
theorem d_tail1_116 : decode prog_10_method_6_code 116 = .ok (.getfield 12, 3) := by decide +kernel
theorem d_tail1_119 : decode prog_10_method_6_code 119 = .ok (.invokevirtual 42, 3) := by decide +kernel
theorem d_tail1_122 : decode prog_10_method_6_code 122 = .ok (.if_icmp .ge 7, 3) := by decide +kernel
theorem d_tail1_125 : decode prog_10_method_6_code 125 = .ok (.iconst 1, 1) := by decide +kernel
theorem d_tail1_126 : decode prog_10_method_6_code 126 = .ok (.goto 4, 3) := by decide +kernel
theorem d_tail1_129 : decode prog_10_method_6_code 129 = .ok (.iconst 0, 1) := by decide +kernel
theorem d_tail1_130 : decode prog_10_method_6_code 130 = .ok (.ireturn, 1) := by decide +kernel
def f_tail1 (cs ds : List Int32) : Int32 := (if (1 : Int32) < (Int32.ofNat ds.length) then (if (1 : Int32) < (Int32.ofNat cs.length) then (if (cs.getD 1 0) = (42 : Int32) then (if (1 : Int32) = (Int32.ofNat ds.length) then (1 : Int32) else (1 : Int32)) else (if (cs.getD 1 0) = (ds.getD 1 0) then (f_tail2 cs ds) else (0 : Int32))) else (if (1 : Int32) = (Int32.ofNat ds.length) then (1 : Int32) else (0 : Int32))) else (if (1 : Int32) = (Int32.ofNat ds.length) then (1 : Int32) else (if (1 : Int32) < (Int32.ofNat cs.length) then (1 : Int32) else (0 : Int32))))
set_option maxRecDepth 65536 in
set_option maxHeartbeats 40000000 in
theorem pc_tail1 {p : Program} {l : Launch} {e : Env} {s : State} {m : MethodId} {below : List Frame} {meth : Method} {c : Code} {T0 : State} {locs : List Loc} {Z : State} {a0 : Array Value} {h0 : Heap} {n0 : Nat} (r0 r1 rp tp td : Addr) (kp kd : ClassId) (cs ds : List Int32) (G1 : Int32) (fm : Value)
    (X0 : Stand p l e ({ frames := 4, cells := 0, slots := 0, locals := 54 } : Room) s m #[(.ref r0), (.ref r1)] below meth c T0 locs 0 0) (hx : p.tables.exec = Jvm.exec) (hZ : Z.Warmed39 s.vm) (hw : ∀ d ∈ tables_1, d.before a0 Z = true) (hby : c.code = prog_10_method_6_code) (hml : c.maxLocals = 4) (hown : s.vm.findClass "com/example/fieldveil/fieldveil/Wildcard" = some m.cls) (e0 : T0.heap = h0) (N0 : Fr n0 locs) (Z0 : n0 ≤ h0.size) (E_r0 : Exa Z h0 r0 "com/example/fieldveil/fieldveil/Wildcard") (Fp : Fld Z h0 r0 "com/example/fieldveil/fieldveil/Wildcard" "pattern" "Ljava/lang/String;" (.ref rp)) (Fa : Fld Z h0 r0 "com/example/fieldveil/fieldveil/Wildcard" "anyOne" "Z" (.int (0 : Int32))) (E_rp : Exa Z h0 rp "java/lang/String") (Fv_rp : Fld Z h0 rp "java/lang/String" "value" "[B" (.ref tp)) (Fc_rp : Fld Z h0 rp "java/lang/String" "coder" "B" (.int (0 : Int32))) (E_r1 : Exa Z h0 r1 "java/lang/String") (Fv_r1 : Fld Z h0 r1 "java/lang/String" "value" "[B" (.ref td)) (Fc_r1 : Fld Z h0 r1 "java/lang/String" "coder" "B" (.int (0 : Int32))) (S_CS : Sta Z h0 "java/lang/String" "COMPACT_STRINGS" "Z" (.int G1)) (S_SI : Sta Z h0 "jdk/internal/util/Preconditions" "SIOOBE_FORMATTER" "Ljava/util/function/BiFunction;" fm) (V_tp : Arv Z h0 tp kp .byte (Int32.ofNat cs.length) ((cs.map StrChars.lo8).map Value.int) (.int (0 : Int32))) (V_td : Arv Z h0 td kd .byte (Int32.ofNat ds.length) ((ds.map StrChars.lo8).map Value.int) (.int (0 : Int32))) (P5 : ¬ (G1 = (0 : Int32))) (rf : fm.isRef = true) (hchp : ∀ c ∈ cs, ¬ c < 0 ∧ ¬ (255 : Int32) < c) (hchd : ∀ c ∈ ds, ¬ c < 0 ∧ ¬ (255 : Int32) < c) (hlp : cs.length ≤ 3) (hld : ds.length ≤ 3) :
    ∃ (T' : State) (L' : List Loc) (pc : Nat) (Ls : Array Slot), Stand p l e ({ frames := 4, cells := 0, slots := 0, locals := 54 } : Room) s m #[(.ref r0), (.ref r1)] below meth c T' L' 0 0 ∧ Fr n0 L' ∧ T'.heap = h0 ∧ decode c.code pc = .ok (.ireturn, 1) ∧ Go p.tables e below (T0.setTop (mkF m 4 #[.val (.ref r0), .val (.ref r1), .val (.int (1 : Int32)), .val (.int (1 : Int32))] [])) (T'.setTop (mkF m pc Ls [(.int (f_tail1 cs ds))])) := by
  have k1 : Go p.tables e below (T0.setTop (mkF m 4 #[.val (.ref r0), .val (.ref r1), .val (.int (1 : Int32)), .val (.int (1 : Int32))] [])) (T0.setTop (mkF m 6 #[.val (.ref r0), .val (.ref r1), .val (.int (1 : Int32)), .val (.int (1 : Int32))] [(.ref r1), (.int (1 : Int32))])) := by
    intro t ht
    refine XS.iloadN X0.here hx rfl (hb hby d_tail1_4) rfl ?_
    show Steps p.tables e below (T0.setTop (mkF m 5 #[.val (.ref r0), .val (.ref r1), .val (.int (1 : Int32)), .val (.int (1 : Int32))] [(.int (1 : Int32))])) _
    refine XS.aloadN X0.here hx rfl (hb hby d_tail1_5) rfl rfl ?_
    exact ht
  obtain ⟨cq2, kq2, q2a, q2b, q2c⟩ := isOf hZ e0 E_r1
  obtain ⟨_, _, ⟨T2, L2, kq2, n2⟩, -, X2, ⟨Lc2, hQ2, l2, y2, z2⟩, st2⟩ := X0.interfaceBack hx (xi := (⟨"java/lang/CharSequence", "length", "()I"⟩ : MethodName)) (y := (⟨"java/lang/String", "length", "()I"⟩ : MethodName)) hown (mvT hZ (hw _ (List.mem_of_getElem? (i := 90) rfl))) (mvT hZ (hw _ (List.mem_of_getElem? (i := 91) rfl))) (mvT hZ (hw _ (List.mem_of_getElem? (i := 92) rfl))) (mvT hZ (hw _ (List.mem_of_getElem? (i := 93) rfl))) (mvT hZ (hw _ (List.mem_of_getElem? (i := 61) rfl))) (mvT hZ (hw _ (List.mem_of_getElem? (i := 94) rfl))) (mvT hZ (hw _ (List.mem_of_getElem? (i := 95) rfl))) (mvT hZ (hw _ (List.mem_of_getElem? (i := 96) rfl))) (by decide) (StrChars.Road.lenW (W := 1) hZ (own_wordsLen hw) (kI := 4) (hw _ (List.mem_of_getElem? (i := 8) rfl)) E_r1 Fv_r1 Fc_r1 V_td (StrChars.Road.codOf rfl fun c hc => (hchd c hc).2) (own_up hchd) S_CS P5 (Nat.le_trans hld (by decide)) (by decide) (by decide)) q2a q2b q2c (g := (mkF m 6 #[.val (.ref r0), .val (.ref r1), .val (.int (1 : Int32)), .val (.int (1 : Int32))] [(.ref r1), (.int (1 : Int32))])) rfl (by rw [hml]; rfl) (Steps.refl _) (argsL := []) (rest := [(.int (1 : Int32))]) (lenOf pd_6 rfl) rfl (by show 2 * 0 + _ ≤ _; exact Nat.le_of_eq rfl) (hb hby d_tail1_6) (fun _ _ => ⟨rfl, e0, (by decide : 0 + 0 ≤ _), (by decide : 0 + 0 ≤ _)⟩)
  dsimp only [Pt.U, Pt.locs, Pt.cells, Pt.slots] at X2 l2 y2 z2 st2 hQ2
  subst l2 y2 z2
  obtain ⟨rfl, rfl, eq2⟩ := hQ2
  have N2 := Fr.app N0 (Fr.nil n0)
  have k2 : Go p.tables e below (T0.setTop (mkF m 6 #[.val (.ref r0), .val (.ref r1), .val (.int (1 : Int32)), .val (.int (1 : Int32))] [(.ref r1), (.int (1 : Int32))])) (T2.setTop (mkF m 11 #[.val (.ref r0), .val (.ref r1), .val (.int (1 : Int32)), .val (.int (1 : Int32))] [(.int (Int32.ofNat ds.length)), (.int (1 : Int32))])) := fun _ ht => st2.trans ht
  by_cases hc3 : (1 : Int32) < (Int32.ofNat ds.length)
  · have k4 : Go p.tables e below (T2.setTop (mkF m 11 #[.val (.ref r0), .val (.ref r1), .val (.int (1 : Int32)), .val (.int (1 : Int32))] [(.int (Int32.ofNat ds.length)), (.int (1 : Int32))])) (T2.setTop (mkF m 16 #[.val (.ref r0), .val (.ref r1), .val (.int (1 : Int32)), .val (.int (1 : Int32))] [(.ref r0), (.int (1 : Int32))])) := by
      intro t ht
      refine XS.icmpNo X2.here hx rfl (hb hby d_tail1_11) rfl (tlt hc3).2.1 ?_
      show Steps p.tables e below (T2.setTop (mkF m 14 #[.val (.ref r0), .val (.ref r1), .val (.int (1 : Int32)), .val (.int (1 : Int32))] [])) _
      refine XS.iloadN X2.here hx rfl (hb hby d_tail1_14) rfl ?_
      show Steps p.tables e below (T2.setTop (mkF m 15 #[.val (.ref r0), .val (.ref r1), .val (.int (1 : Int32)), .val (.int (1 : Int32))] [(.int (1 : Int32))])) _
      refine XS.aloadN X2.here hx rfl (hb hby d_tail1_15) rfl rfl ?_
      exact ht
    obtain ⟨T5, X5, e5, st5⟩ := getF X2 hx hZ hown (host := "") (Or.inl (hw _ (List.mem_of_getElem? (i := 39) rfl))) Via.refl eq2 Fp (g := (mkF m 16 #[.val (.ref r0), .val (.ref r1), .val (.int (1 : Int32)), .val (.int (1 : Int32))] [(.ref r0), (.int (1 : Int32))])) rfl rfl (hb hby d_tail1_16)
    have k5 : Go p.tables e below (T2.setTop (mkF m 16 #[.val (.ref r0), .val (.ref r1), .val (.int (1 : Int32)), .val (.int (1 : Int32))] [(.ref r0), (.int (1 : Int32))])) (T5.setTop (mkF m 19 #[.val (.ref r0), .val (.ref r1), .val (.int (1 : Int32)), .val (.int (1 : Int32))] [(.ref rp), (.int (1 : Int32))])) := st5
    obtain ⟨cq6, kq6, q6a, q6b, q6c⟩ := isOf hZ e5 E_rp
    obtain ⟨_, _, ⟨T6, L6, kq6, n6⟩, -, X6, ⟨Lc6, hQ6, l6, y6, z6⟩, st6⟩ := X5.virtualBack hx (y := (⟨"java/lang/String", "length", "()I"⟩ : MethodName)) (z := (⟨"java/lang/String", "length", "()I"⟩ : MethodName)) hown (mvT hZ (hw _ (List.mem_of_getElem? (i := 111) rfl))) (mvT hZ (hw _ (List.mem_of_getElem? (i := 60) rfl))) (notFace_of_selects (args := #[]) (mvT hZ (hw _ (List.mem_of_getElem? (i := 62) rfl)))) (mvT hZ (hw _ (List.mem_of_getElem? (i := 62) rfl))) (mvT hZ (hw _ (List.mem_of_getElem? (i := 61) rfl))) (by decide) (StrChars.Road.lenW (W := 1) hZ (own_wordsLen hw) (kI := 4) (hw _ (List.mem_of_getElem? (i := 8) rfl)) E_rp Fv_rp Fc_rp V_tp (StrChars.Road.codOf rfl fun c hc => (hchp c hc).2) (own_up hchp) S_CS P5 (Nat.le_trans hlp (by decide)) (by decide) (by decide)) q6a q6c (g := (mkF m 19 #[.val (.ref r0), .val (.ref r1), .val (.int (1 : Int32)), .val (.int (1 : Int32))] [(.ref rp), (.int (1 : Int32))])) rfl (by rw [hml]; rfl) (Steps.refl _) (argsL := []) (rest := [(.int (1 : Int32))]) (lenOf pd_6 rfl) rfl (by show 2 * 0 + _ ≤ _; exact Nat.le_of_eq rfl) (hb hby d_tail1_19) (fun _ _ => ⟨rfl, e5, (by decide : 0 + 0 ≤ _), (by decide : 0 + 0 ≤ _)⟩)
    dsimp only [Pt.U, Pt.locs, Pt.cells, Pt.slots] at X6 l6 y6 z6 st6 hQ6
    subst l6 y6 z6
    obtain ⟨rfl, rfl, eq6⟩ := hQ6
    have N6 := Fr.app N2 (Fr.nil n0)
    have k6 : Go p.tables e below (T5.setTop (mkF m 19 #[.val (.ref r0), .val (.ref r1), .val (.int (1 : Int32)), .val (.int (1 : Int32))] [(.ref rp), (.int (1 : Int32))])) (T6.setTop (mkF m 22 #[.val (.ref r0), .val (.ref r1), .val (.int (1 : Int32)), .val (.int (1 : Int32))] [(.int (Int32.ofNat cs.length)), (.int (1 : Int32))])) := fun _ ht => st6.trans ht
    by_cases hc7 : (1 : Int32) < (Int32.ofNat cs.length)
    · have k8 : Go p.tables e below (T6.setTop (mkF m 22 #[.val (.ref r0), .val (.ref r1), .val (.int (1 : Int32)), .val (.int (1 : Int32))] [(.int (Int32.ofNat cs.length)), (.int (1 : Int32))])) (T6.setTop (mkF m 26 #[.val (.ref r0), .val (.ref r1), .val (.int (1 : Int32)), .val (.int (1 : Int32))] [(.ref r0)])) := by
        intro t ht
        refine XS.icmpNo X6.here hx rfl (hb hby d_tail1_22) rfl (tlt hc7).2.1 ?_
        show Steps p.tables e below (T6.setTop (mkF m 25 #[.val (.ref r0), .val (.ref r1), .val (.int (1 : Int32)), .val (.int (1 : Int32))] [])) _
        refine XS.aloadN X6.here hx rfl (hb hby d_tail1_25) rfl rfl ?_
        exact ht
      obtain ⟨T9, X9, e9, st9⟩ := getF X6 hx hZ hown (host := "") (Or.inl (hw _ (List.mem_of_getElem? (i := 39) rfl))) Via.refl eq6 Fp (g := (mkF m 26 #[.val (.ref r0), .val (.ref r1), .val (.int (1 : Int32)), .val (.int (1 : Int32))] [(.ref r0)])) rfl rfl (hb hby d_tail1_26)
      have k9 : Go p.tables e below (T6.setTop (mkF m 26 #[.val (.ref r0), .val (.ref r1), .val (.int (1 : Int32)), .val (.int (1 : Int32))] [(.ref r0)])) (T9.setTop (mkF m 29 #[.val (.ref r0), .val (.ref r1), .val (.int (1 : Int32)), .val (.int (1 : Int32))] [(.ref rp)])) := st9
      have k10 : Go p.tables e below (T9.setTop (mkF m 29 #[.val (.ref r0), .val (.ref r1), .val (.int (1 : Int32)), .val (.int (1 : Int32))] [(.ref rp)])) (T9.setTop (mkF m 30 #[.val (.ref r0), .val (.ref r1), .val (.int (1 : Int32)), .val (.int (1 : Int32))] [(.int (1 : Int32)), (.ref rp)])) := by
        intro t ht
        refine XS.iloadN X9.here hx rfl (hb hby d_tail1_29) rfl ?_
        exact ht
      obtain ⟨cq11, kq11, q11a, q11b, q11c⟩ := isOf hZ e9 E_rp
      obtain ⟨_, _, ⟨T11, L11, kq11, n11⟩, -, X11, ⟨Lc11, hQ11, l11, y11, z11⟩, st11⟩ := X9.virtualBack hx (y := (⟨"java/lang/String", "charAt", "(I)C"⟩ : MethodName)) (z := (⟨"java/lang/String", "charAt", "(I)C"⟩ : MethodName)) hown (mvT hZ (hw _ (List.mem_of_getElem? (i := 112) rfl))) (mvT hZ (hw _ (List.mem_of_getElem? (i := 113) rfl))) (notFace_of_selects (args := #[]) (mvT hZ (hw _ (List.mem_of_getElem? (i := 115) rfl)))) (mvT hZ (hw _ (List.mem_of_getElem? (i := 115) rfl))) (mvT hZ (hw _ (List.mem_of_getElem? (i := 114) rfl))) (by decide) (StrChars.Road.chN (W := 0) hZ (own_wordsCh hw) (kI := 4) (hw _ (List.mem_of_getElem? (i := 8) rfl)) E_rp Fv_rp Fc_rp V_tp (StrChars.Road.codOf rfl fun c hc => (hchp c hc).2) (own_up hchp) S_CS P5 S_SI rf (Nat.le_trans hlp (by decide)) (i := 1) (own_lt_len (k := 1) hc7 (by decide) (Nat.le_trans hlp (by decide))) rfl (by decide) (by decide)) q11a q11c (g := (mkF m 30 #[.val (.ref r0), .val (.ref r1), .val (.int (1 : Int32)), .val (.int (1 : Int32))] [(.int (1 : Int32)), (.ref rp)])) rfl (by rw [hml]; rfl) (Steps.refl _) (argsL := [(.int (1 : Int32))]) (rest := []) (lenOf pd_9 rfl) rfl (by show 2 * 0 + _ ≤ _; exact Nat.le_of_eq rfl) (hb hby d_tail1_30) (fun _ _ => ⟨rfl, e9, (by decide : 0 + 0 ≤ _), (by decide : 0 + 0 ≤ _)⟩)
      dsimp only [Pt.U, Pt.locs, Pt.cells, Pt.slots] at X11 l11 y11 z11 st11 hQ11
      subst l11 y11 z11
      obtain ⟨rfl, rfl, eq11⟩ := hQ11
      have N11 := Fr.app N6 (Fr.nil n0)
      have k11 : Go p.tables e below (T9.setTop (mkF m 30 #[.val (.ref r0), .val (.ref r1), .val (.int (1 : Int32)), .val (.int (1 : Int32))] [(.int (1 : Int32)), (.ref rp)])) (T11.setTop (mkF m 33 #[.val (.ref r0), .val (.ref r1), .val (.int (1 : Int32)), .val (.int (1 : Int32))] [(.int (cs.getD 1 0))])) := fun _ ht => st11.trans ht
      have k12 : Go p.tables e below (T11.setTop (mkF m 33 #[.val (.ref r0), .val (.ref r1), .val (.int (1 : Int32)), .val (.int (1 : Int32))] [(.int (cs.getD 1 0))])) (T11.setTop (mkF m 35 #[.val (.ref r0), .val (.ref r1), .val (.int (1 : Int32)), .val (.int (1 : Int32))] [(.int (42 : Int32)), (.int (cs.getD 1 0))])) := by
        intro t ht
        refine XS.bipush X11.here hx rfl (hb hby d_tail1_33) ?_
        exact ht
      by_cases hc13 : (cs.getD 1 0) = (42 : Int32)
      · have k14 : Go p.tables e below (T11.setTop (mkF m 35 #[.val (.ref r0), .val (.ref r1), .val (.int (1 : Int32)), .val (.int (1 : Int32))] [(.int (42 : Int32)), (.int (cs.getD 1 0))])) (T11.setTop (mkF m 106 #[.val (.ref r0), .val (.ref r1), .val (.int (1 : Int32)), .val (.int (1 : Int32))] [(.ref r1), (.int (1 : Int32))])) := by
          intro t ht
          refine XS.icmpYes X11.here hx rfl (pc0 := 35) (pc' := 104) rfl (hb hby d_tail1_35) rfl (teq hc13).1 (by decide) (by decide) ?_
          show Steps p.tables e below (T11.setTop (mkF m 104 #[.val (.ref r0), .val (.ref r1), .val (.int (1 : Int32)), .val (.int (1 : Int32))] [])) _
          refine XS.iloadN X11.here hx rfl (hb hby d_tail1_104) rfl ?_
          show Steps p.tables e below (T11.setTop (mkF m 105 #[.val (.ref r0), .val (.ref r1), .val (.int (1 : Int32)), .val (.int (1 : Int32))] [(.int (1 : Int32))])) _
          refine XS.aloadN X11.here hx rfl (hb hby d_tail1_105) rfl rfl ?_
          exact ht
        obtain ⟨cq15, kq15, q15a, q15b, q15c⟩ := isOf hZ eq11 E_r1
        obtain ⟨_, _, ⟨T15, L15, kq15, n15⟩, -, X15, ⟨Lc15, hQ15, l15, y15, z15⟩, st15⟩ := X11.interfaceBack hx (xi := (⟨"java/lang/CharSequence", "length", "()I"⟩ : MethodName)) (y := (⟨"java/lang/String", "length", "()I"⟩ : MethodName)) hown (mvT hZ (hw _ (List.mem_of_getElem? (i := 90) rfl))) (mvT hZ (hw _ (List.mem_of_getElem? (i := 91) rfl))) (mvT hZ (hw _ (List.mem_of_getElem? (i := 92) rfl))) (mvT hZ (hw _ (List.mem_of_getElem? (i := 93) rfl))) (mvT hZ (hw _ (List.mem_of_getElem? (i := 61) rfl))) (mvT hZ (hw _ (List.mem_of_getElem? (i := 94) rfl))) (mvT hZ (hw _ (List.mem_of_getElem? (i := 95) rfl))) (mvT hZ (hw _ (List.mem_of_getElem? (i := 96) rfl))) (by decide) (StrChars.Road.lenW (W := 1) hZ (own_wordsLen hw) (kI := 4) (hw _ (List.mem_of_getElem? (i := 8) rfl)) E_r1 Fv_r1 Fc_r1 V_td (StrChars.Road.codOf rfl fun c hc => (hchd c hc).2) (own_up hchd) S_CS P5 (Nat.le_trans hld (by decide)) (by decide) (by decide)) q15a q15b q15c (g := (mkF m 106 #[.val (.ref r0), .val (.ref r1), .val (.int (1 : Int32)), .val (.int (1 : Int32))] [(.ref r1), (.int (1 : Int32))])) rfl (by rw [hml]; rfl) (Steps.refl _) (argsL := []) (rest := [(.int (1 : Int32))]) (lenOf pd_6 rfl) rfl (by show 2 * 0 + _ ≤ _; exact Nat.le_of_eq rfl) (hb hby d_tail1_106) (fun _ _ => ⟨rfl, eq11, (by decide : 0 + 0 ≤ _), (by decide : 0 + 0 ≤ _)⟩)
        dsimp only [Pt.U, Pt.locs, Pt.cells, Pt.slots] at X15 l15 y15 z15 st15 hQ15
        subst l15 y15 z15
        obtain ⟨rfl, rfl, eq15⟩ := hQ15
        have N15 := Fr.app N11 (Fr.nil n0)
        have k15 : Go p.tables e below (T11.setTop (mkF m 106 #[.val (.ref r0), .val (.ref r1), .val (.int (1 : Int32)), .val (.int (1 : Int32))] [(.ref r1), (.int (1 : Int32))])) (T15.setTop (mkF m 111 #[.val (.ref r0), .val (.ref r1), .val (.int (1 : Int32)), .val (.int (1 : Int32))] [(.int (Int32.ofNat ds.length)), (.int (1 : Int32))])) := fun _ ht => st15.trans ht
        by_cases hc16 : (1 : Int32) = (Int32.ofNat ds.length)
        · have k17 : Go p.tables e below (T15.setTop (mkF m 111 #[.val (.ref r0), .val (.ref r1), .val (.int (1 : Int32)), .val (.int (1 : Int32))] [(.int (Int32.ofNat ds.length)), (.int (1 : Int32))])) (T15.setTop (mkF m 130 #[.val (.ref r0), .val (.ref r1), .val (.int (1 : Int32)), .val (.int (1 : Int32))] [(.int (1 : Int32))])) := by
            intro t ht
            refine XS.icmpYes X15.here hx rfl (pc0 := 111) (pc' := 125) rfl (hb hby d_tail1_111) rfl (teq hc16).1 (by decide) (by decide) ?_
            show Steps p.tables e below (T15.setTop (mkF m 125 #[.val (.ref r0), .val (.ref r1), .val (.int (1 : Int32)), .val (.int (1 : Int32))] [])) _
            refine XS.iconst X15.here hx rfl (hb hby d_tail1_125) ?_
            show Steps p.tables e below (T15.setTop (mkF m 126 #[.val (.ref r0), .val (.ref r1), .val (.int (1 : Int32)), .val (.int (1 : Int32))] [(.int (1 : Int32))])) _
            refine XS.goto X15.here hx rfl (pc0 := 126) (pc' := 130) rfl (hb hby d_tail1_126) (by decide) (by decide) ?_
            exact ht
          refine ⟨T15, _, 130, #[.val (.ref r0), .val (.ref r1), .val (.int (1 : Int32)), .val (.int (1 : Int32))], X15, N15, eq15, (hb hby d_tail1_130), ?_⟩
          have kk := (goT k1 (goT k2 (goT k4 (goT k5 (goT k6 (goT k8 (goT k9 (goT k10 (goT k11 (goT k12 (goT k14 (goT k15 k17))))))))))))
          simpa only [f_tail1, if_neg P5, if_neg (own_len3 hld), if_pos hc3, if_pos hc7, if_pos hc13, if_pos hc16] using kk
        · have k18 : Go p.tables e below (T15.setTop (mkF m 111 #[.val (.ref r0), .val (.ref r1), .val (.int (1 : Int32)), .val (.int (1 : Int32))] [(.int (Int32.ofNat ds.length)), (.int (1 : Int32))])) (T15.setTop (mkF m 116 #[.val (.ref r0), .val (.ref r1), .val (.int (1 : Int32)), .val (.int (1 : Int32))] [(.ref r0), (.int (1 : Int32))])) := by
            intro t ht
            refine XS.icmpNo X15.here hx rfl (hb hby d_tail1_111) rfl (feq hc16).1 ?_
            show Steps p.tables e below (T15.setTop (mkF m 114 #[.val (.ref r0), .val (.ref r1), .val (.int (1 : Int32)), .val (.int (1 : Int32))] [])) _
            refine XS.iloadN X15.here hx rfl (hb hby d_tail1_114) rfl ?_
            show Steps p.tables e below (T15.setTop (mkF m 115 #[.val (.ref r0), .val (.ref r1), .val (.int (1 : Int32)), .val (.int (1 : Int32))] [(.int (1 : Int32))])) _
            refine XS.aloadN X15.here hx rfl (hb hby d_tail1_115) rfl rfl ?_
            exact ht
          obtain ⟨T19, X19, e19, st19⟩ := getF X15 hx hZ hown (host := "") (Or.inl (hw _ (List.mem_of_getElem? (i := 39) rfl))) Via.refl eq15 Fp (g := (mkF m 116 #[.val (.ref r0), .val (.ref r1), .val (.int (1 : Int32)), .val (.int (1 : Int32))] [(.ref r0), (.int (1 : Int32))])) rfl rfl (hb hby d_tail1_116)
          have k19 : Go p.tables e below (T15.setTop (mkF m 116 #[.val (.ref r0), .val (.ref r1), .val (.int (1 : Int32)), .val (.int (1 : Int32))] [(.ref r0), (.int (1 : Int32))])) (T19.setTop (mkF m 119 #[.val (.ref r0), .val (.ref r1), .val (.int (1 : Int32)), .val (.int (1 : Int32))] [(.ref rp), (.int (1 : Int32))])) := st19
          obtain ⟨cq20, kq20, q20a, q20b, q20c⟩ := isOf hZ e19 E_rp
          obtain ⟨_, _, ⟨T20, L20, kq20, n20⟩, -, X20, ⟨Lc20, hQ20, l20, y20, z20⟩, st20⟩ := X19.virtualBack hx (y := (⟨"java/lang/String", "length", "()I"⟩ : MethodName)) (z := (⟨"java/lang/String", "length", "()I"⟩ : MethodName)) hown (mvT hZ (hw _ (List.mem_of_getElem? (i := 111) rfl))) (mvT hZ (hw _ (List.mem_of_getElem? (i := 60) rfl))) (notFace_of_selects (args := #[]) (mvT hZ (hw _ (List.mem_of_getElem? (i := 62) rfl)))) (mvT hZ (hw _ (List.mem_of_getElem? (i := 62) rfl))) (mvT hZ (hw _ (List.mem_of_getElem? (i := 61) rfl))) (by decide) (StrChars.Road.lenW (W := 1) hZ (own_wordsLen hw) (kI := 4) (hw _ (List.mem_of_getElem? (i := 8) rfl)) E_rp Fv_rp Fc_rp V_tp (StrChars.Road.codOf rfl fun c hc => (hchp c hc).2) (own_up hchp) S_CS P5 (Nat.le_trans hlp (by decide)) (by decide) (by decide)) q20a q20c (g := (mkF m 119 #[.val (.ref r0), .val (.ref r1), .val (.int (1 : Int32)), .val (.int (1 : Int32))] [(.ref rp), (.int (1 : Int32))])) rfl (by rw [hml]; rfl) (Steps.refl _) (argsL := []) (rest := [(.int (1 : Int32))]) (lenOf pd_6 rfl) rfl (by show 2 * 0 + _ ≤ _; exact Nat.le_of_eq rfl) (hb hby d_tail1_119) (fun _ _ => ⟨rfl, e19, (by decide : 0 + 0 ≤ _), (by decide : 0 + 0 ≤ _)⟩)
          dsimp only [Pt.U, Pt.locs, Pt.cells, Pt.slots] at X20 l20 y20 z20 st20 hQ20
          subst l20 y20 z20
          obtain ⟨rfl, rfl, eq20⟩ := hQ20
          have N20 := Fr.app N15 (Fr.nil n0)
          have k20 : Go p.tables e below (T19.setTop (mkF m 119 #[.val (.ref r0), .val (.ref r1), .val (.int (1 : Int32)), .val (.int (1 : Int32))] [(.ref rp), (.int (1 : Int32))])) (T20.setTop (mkF m 122 #[.val (.ref r0), .val (.ref r1), .val (.int (1 : Int32)), .val (.int (1 : Int32))] [(.int (Int32.ofNat cs.length)), (.int (1 : Int32))])) := fun _ ht => st20.trans ht
          have k21 : Go p.tables e below (T20.setTop (mkF m 122 #[.val (.ref r0), .val (.ref r1), .val (.int (1 : Int32)), .val (.int (1 : Int32))] [(.int (Int32.ofNat cs.length)), (.int (1 : Int32))])) (T20.setTop (mkF m 130 #[.val (.ref r0), .val (.ref r1), .val (.int (1 : Int32)), .val (.int (1 : Int32))] [(.int (1 : Int32))])) := by
            intro t ht
            refine XS.icmpNo X20.here hx rfl (hb hby d_tail1_122) rfl (tlt hc7).2.1 ?_
            show Steps p.tables e below (T20.setTop (mkF m 125 #[.val (.ref r0), .val (.ref r1), .val (.int (1 : Int32)), .val (.int (1 : Int32))] [])) _
            refine XS.iconst X20.here hx rfl (hb hby d_tail1_125) ?_
            show Steps p.tables e below (T20.setTop (mkF m 126 #[.val (.ref r0), .val (.ref r1), .val (.int (1 : Int32)), .val (.int (1 : Int32))] [(.int (1 : Int32))])) _
            refine XS.goto X20.here hx rfl (pc0 := 126) (pc' := 130) rfl (hb hby d_tail1_126) (by decide) (by decide) ?_
            exact ht
          refine ⟨T20, _, 130, #[.val (.ref r0), .val (.ref r1), .val (.int (1 : Int32)), .val (.int (1 : Int32))], X20, N20, eq20, (hb hby d_tail1_130), ?_⟩
          have kk := (goT k1 (goT k2 (goT k4 (goT k5 (goT k6 (goT k8 (goT k9 (goT k10 (goT k11 (goT k12 (goT k14 (goT k15 (goT k18 (goT k19 (goT k20 k21)))))))))))))))
          simpa only [f_tail1, if_neg P5, if_neg (own_len3 hld), if_pos hc3, if_pos hc7, if_pos hc13, if_neg hc16] using kk
      · have k22 : Go p.tables e below (T11.setTop (mkF m 35 #[.val (.ref r0), .val (.ref r1), .val (.int (1 : Int32)), .val (.int (1 : Int32))] [(.int (42 : Int32)), (.int (cs.getD 1 0))])) (T11.setTop (mkF m 39 #[.val (.ref r0), .val (.ref r1), .val (.int (1 : Int32)), .val (.int (1 : Int32))] [(.ref r0)])) := by
          intro t ht
          refine XS.icmpNo X11.here hx rfl (hb hby d_tail1_35) rfl (feq hc13).1 ?_
          show Steps p.tables e below (T11.setTop (mkF m 38 #[.val (.ref r0), .val (.ref r1), .val (.int (1 : Int32)), .val (.int (1 : Int32))] [])) _
          refine XS.aloadN X11.here hx rfl (hb hby d_tail1_38) rfl rfl ?_
          exact ht
        obtain ⟨T23, X23, e23, st23⟩ := getF X11 hx hZ hown (host := "") (Or.inl (hw _ (List.mem_of_getElem? (i := 41) rfl))) Via.refl eq11 Fa (g := (mkF m 39 #[.val (.ref r0), .val (.ref r1), .val (.int (1 : Int32)), .val (.int (1 : Int32))] [(.ref r0)])) rfl rfl (hb hby d_tail1_39)
        have k23 : Go p.tables e below (T11.setTop (mkF m 39 #[.val (.ref r0), .val (.ref r1), .val (.int (1 : Int32)), .val (.int (1 : Int32))] [(.ref r0)])) (T23.setTop (mkF m 42 #[.val (.ref r0), .val (.ref r1), .val (.int (1 : Int32)), .val (.int (1 : Int32))] [(.int (0 : Int32))])) := st23
        have k24 : Go p.tables e below (T23.setTop (mkF m 42 #[.val (.ref r0), .val (.ref r1), .val (.int (1 : Int32)), .val (.int (1 : Int32))] [(.int (0 : Int32))])) (T23.setTop (mkF m 73 #[.val (.ref r0), .val (.ref r1), .val (.int (1 : Int32)), .val (.int (1 : Int32))] [(.ref r0)])) := by
          intro t ht
          refine XS.ifYes X23.here hx rfl (pc0 := 42) (pc' := 72) rfl (hb hby d_tail1_42) rfl ((if0 _ _).trans (teq (by decide : (0 : Int32) = (0 : Int32))).1) (by decide) (by decide) ?_
          show Steps p.tables e below (T23.setTop (mkF m 72 #[.val (.ref r0), .val (.ref r1), .val (.int (1 : Int32)), .val (.int (1 : Int32))] [])) _
          refine XS.aloadN X23.here hx rfl (hb hby d_tail1_72) rfl rfl ?_
          exact ht
        obtain ⟨T25, X25, e25, st25⟩ := getF X23 hx hZ hown (host := "") (Or.inl (hw _ (List.mem_of_getElem? (i := 39) rfl))) Via.refl e23 Fp (g := (mkF m 73 #[.val (.ref r0), .val (.ref r1), .val (.int (1 : Int32)), .val (.int (1 : Int32))] [(.ref r0)])) rfl rfl (hb hby d_tail1_73)
        have k25 : Go p.tables e below (T23.setTop (mkF m 73 #[.val (.ref r0), .val (.ref r1), .val (.int (1 : Int32)), .val (.int (1 : Int32))] [(.ref r0)])) (T25.setTop (mkF m 76 #[.val (.ref r0), .val (.ref r1), .val (.int (1 : Int32)), .val (.int (1 : Int32))] [(.ref rp)])) := st25
        have k26 : Go p.tables e below (T25.setTop (mkF m 76 #[.val (.ref r0), .val (.ref r1), .val (.int (1 : Int32)), .val (.int (1 : Int32))] [(.ref rp)])) (T25.setTop (mkF m 77 #[.val (.ref r0), .val (.ref r1), .val (.int (1 : Int32)), .val (.int (1 : Int32))] [(.int (1 : Int32)), (.ref rp)])) := by
          intro t ht
          refine XS.iloadN X25.here hx rfl (hb hby d_tail1_76) rfl ?_
          exact ht
        obtain ⟨cq27, kq27, q27a, q27b, q27c⟩ := isOf hZ e25 E_rp
        obtain ⟨_, _, ⟨T27, L27, kq27, n27⟩, -, X27, ⟨Lc27, hQ27, l27, y27, z27⟩, st27⟩ := X25.virtualBack hx (y := (⟨"java/lang/String", "charAt", "(I)C"⟩ : MethodName)) (z := (⟨"java/lang/String", "charAt", "(I)C"⟩ : MethodName)) hown (mvT hZ (hw _ (List.mem_of_getElem? (i := 112) rfl))) (mvT hZ (hw _ (List.mem_of_getElem? (i := 113) rfl))) (notFace_of_selects (args := #[]) (mvT hZ (hw _ (List.mem_of_getElem? (i := 115) rfl)))) (mvT hZ (hw _ (List.mem_of_getElem? (i := 115) rfl))) (mvT hZ (hw _ (List.mem_of_getElem? (i := 114) rfl))) (by decide) (StrChars.Road.chN (W := 0) hZ (own_wordsCh hw) (kI := 4) (hw _ (List.mem_of_getElem? (i := 8) rfl)) E_rp Fv_rp Fc_rp V_tp (StrChars.Road.codOf rfl fun c hc => (hchp c hc).2) (own_up hchp) S_CS P5 S_SI rf (Nat.le_trans hlp (by decide)) (i := 1) (own_lt_len (k := 1) hc7 (by decide) (Nat.le_trans hlp (by decide))) rfl (by decide) (by decide)) q27a q27c (g := (mkF m 77 #[.val (.ref r0), .val (.ref r1), .val (.int (1 : Int32)), .val (.int (1 : Int32))] [(.int (1 : Int32)), (.ref rp)])) rfl (by rw [hml]; rfl) (Steps.refl _) (argsL := [(.int (1 : Int32))]) (rest := []) (lenOf pd_9 rfl) rfl (by show 2 * 0 + _ ≤ _; exact Nat.le_of_eq rfl) (hb hby d_tail1_77) (fun _ _ => ⟨rfl, e25, (by decide : 0 + 0 ≤ _), (by decide : 0 + 0 ≤ _)⟩)
        dsimp only [Pt.U, Pt.locs, Pt.cells, Pt.slots] at X27 l27 y27 z27 st27 hQ27
        subst l27 y27 z27
        obtain ⟨rfl, rfl, eq27⟩ := hQ27
        have N27 := Fr.app N11 (Fr.nil n0)
        have k27 : Go p.tables e below (T25.setTop (mkF m 77 #[.val (.ref r0), .val (.ref r1), .val (.int (1 : Int32)), .val (.int (1 : Int32))] [(.int (1 : Int32)), (.ref rp)])) (T27.setTop (mkF m 80 #[.val (.ref r0), .val (.ref r1), .val (.int (1 : Int32)), .val (.int (1 : Int32))] [(.int (cs.getD 1 0))])) := fun _ ht => st27.trans ht
        have k28 : Go p.tables e below (T27.setTop (mkF m 80 #[.val (.ref r0), .val (.ref r1), .val (.int (1 : Int32)), .val (.int (1 : Int32))] [(.int (cs.getD 1 0))])) (T27.setTop (mkF m 82 #[.val (.ref r0), .val (.ref r1), .val (.int (1 : Int32)), .val (.int (1 : Int32))] [(.int (1 : Int32)), (.ref r1), (.int (cs.getD 1 0))])) := by
          intro t ht
          refine XS.aloadN X27.here hx rfl (hb hby d_tail1_80) rfl rfl ?_
          show Steps p.tables e below (T27.setTop (mkF m 81 #[.val (.ref r0), .val (.ref r1), .val (.int (1 : Int32)), .val (.int (1 : Int32))] [(.ref r1), (.int (cs.getD 1 0))])) _
          refine XS.iloadN X27.here hx rfl (hb hby d_tail1_81) rfl ?_
          exact ht
        obtain ⟨cq29, kq29, q29a, q29b, q29c⟩ := isOf hZ eq27 E_r1
        obtain ⟨_, _, ⟨T29, L29, kq29, n29⟩, -, X29, ⟨Lc29, hQ29, l29, y29, z29⟩, st29⟩ := X27.interfaceBack hx (xi := (⟨"java/lang/CharSequence", "charAt", "(I)C"⟩ : MethodName)) (y := (⟨"java/lang/String", "charAt", "(I)C"⟩ : MethodName)) hown (mvT hZ (hw _ (List.mem_of_getElem? (i := 128) rfl))) (mvT hZ (hw _ (List.mem_of_getElem? (i := 129) rfl))) (mvT hZ (hw _ (List.mem_of_getElem? (i := 130) rfl))) (mvT hZ (hw _ (List.mem_of_getElem? (i := 131) rfl))) (mvT hZ (hw _ (List.mem_of_getElem? (i := 114) rfl))) (mvT hZ (hw _ (List.mem_of_getElem? (i := 132) rfl))) (mvT hZ (hw _ (List.mem_of_getElem? (i := 133) rfl))) (mvT hZ (hw _ (List.mem_of_getElem? (i := 96) rfl))) (by decide) (StrChars.Road.chN (W := 1) hZ (own_wordsCh hw) (kI := 4) (hw _ (List.mem_of_getElem? (i := 8) rfl)) E_r1 Fv_r1 Fc_r1 V_td (StrChars.Road.codOf rfl fun c hc => (hchd c hc).2) (own_up hchd) S_CS P5 S_SI rf (Nat.le_trans hld (by decide)) (i := 1) (own_lt_len (k := 1) hc3 (by decide) (Nat.le_trans hld (by decide))) rfl (by decide) (by decide)) q29a q29b q29c (g := (mkF m 82 #[.val (.ref r0), .val (.ref r1), .val (.int (1 : Int32)), .val (.int (1 : Int32))] [(.int (1 : Int32)), (.ref r1), (.int (cs.getD 1 0))])) rfl (by rw [hml]; rfl) (Steps.refl _) (argsL := [(.int (1 : Int32))]) (rest := [(.int (cs.getD 1 0))]) (lenOf pd_9 rfl) rfl (by show 2 * 0 + _ ≤ _; exact Nat.le_of_eq rfl) (hb hby d_tail1_82) (fun _ _ => ⟨rfl, eq27, (by decide : 0 + 0 ≤ _), (by decide : 0 + 0 ≤ _)⟩)
        dsimp only [Pt.U, Pt.locs, Pt.cells, Pt.slots] at X29 l29 y29 z29 st29 hQ29
        subst l29 y29 z29
        obtain ⟨rfl, rfl, eq29⟩ := hQ29
        have N29 := Fr.app N27 (Fr.nil n0)
        have k29 : Go p.tables e below (T27.setTop (mkF m 82 #[.val (.ref r0), .val (.ref r1), .val (.int (1 : Int32)), .val (.int (1 : Int32))] [(.int (1 : Int32)), (.ref r1), (.int (cs.getD 1 0))])) (T29.setTop (mkF m 87 #[.val (.ref r0), .val (.ref r1), .val (.int (1 : Int32)), .val (.int (1 : Int32))] [(.int (ds.getD 1 0)), (.int (cs.getD 1 0))])) := fun _ ht => st29.trans ht
        by_cases hc30 : (cs.getD 1 0) = (ds.getD 1 0)
        · have k31 : Go p.tables e below (T29.setTop (mkF m 87 #[.val (.ref r0), .val (.ref r1), .val (.int (1 : Int32)), .val (.int (1 : Int32))] [(.int (ds.getD 1 0)), (.int (cs.getD 1 0))])) (T29.setTop (mkF m 4 #[.val (.ref r0), .val (.ref r1), .val (.int (2 : Int32)), .val (.int (2 : Int32))] [])) := by
            intro t ht
            refine XS.icmpNo X29.here hx rfl (hb hby d_tail1_87) rfl (teq hc30).2 ?_
            show Steps p.tables e below (T29.setTop (mkF m 90 #[.val (.ref r0), .val (.ref r1), .val (.int (1 : Int32)), .val (.int (1 : Int32))] [])) _
            refine XS.iinc X29.here hx rfl (hb hby d_tail1_90) rfl (l' := #[.val (.ref r0), .val (.ref r1), .val (.int (1 : Int32)), .val (.int (2 : Int32))]) rfl ?_
            show Steps p.tables e below (T29.setTop (mkF m 93 #[.val (.ref r0), .val (.ref r1), .val (.int (1 : Int32)), .val (.int (2 : Int32))] [])) _
            refine XS.goto X29.here hx rfl (pc0 := 93) (pc' := 98) rfl (hb hby d_tail1_93) (by decide) (by decide) ?_
            show Steps p.tables e below (T29.setTop (mkF m 98 #[.val (.ref r0), .val (.ref r1), .val (.int (1 : Int32)), .val (.int (2 : Int32))] [])) _
            refine XS.iinc X29.here hx rfl (hb hby d_tail1_98) rfl (l' := #[.val (.ref r0), .val (.ref r1), .val (.int (2 : Int32)), .val (.int (2 : Int32))]) rfl ?_
            show Steps p.tables e below (T29.setTop (mkF m 101 #[.val (.ref r0), .val (.ref r1), .val (.int (2 : Int32)), .val (.int (2 : Int32))] [])) _
            refine XS.goto X29.here hx rfl (pc0 := 101) (pc' := 4) rfl (hb hby d_tail1_101) (by decide) (by decide) ?_
            exact ht
          obtain ⟨T32, L32, pc32, Ls32, X32, N32, e32, hd32, kr32⟩ := pc_tail2 r0 r1 rp tp td kp kd cs ds G1 fm X29 hx hZ hw hby hml hown eq29 N29 Z0 E_r0 Fp Fa E_rp Fv_rp Fc_rp E_r1 Fv_r1 Fc_r1 S_CS S_SI V_tp V_td P5 rf hchp hchd hlp hld
          refine ⟨T32, L32, pc32, Ls32, X32, N32, e32, hd32, ?_⟩
          have kk := goT (goT k1 (goT k2 (goT k4 (goT k5 (goT k6 (goT k8 (goT k9 (goT k10 (goT k11 (goT k12 (goT k22 (goT k23 (goT k24 (goT k25 (goT k26 (goT k27 (goT k28 (goT k29 k31)))))))))))))))))) kr32
          simpa only [f_tail1, if_neg P5, if_neg (own_len3 hld), if_pos hc3, if_pos hc7, if_neg hc13, if_pos hc30] using kk
        · have k33 : Go p.tables e below (T29.setTop (mkF m 87 #[.val (.ref r0), .val (.ref r1), .val (.int (1 : Int32)), .val (.int (1 : Int32))] [(.int (ds.getD 1 0)), (.int (cs.getD 1 0))])) (T29.setTop (mkF m 97 #[.val (.ref r0), .val (.ref r1), .val (.int (1 : Int32)), .val (.int (1 : Int32))] [(.int (0 : Int32))])) := by
            intro t ht
            refine XS.icmpYes X29.here hx rfl (pc0 := 87) (pc' := 96) rfl (hb hby d_tail1_87) rfl (feq hc30).2 (by decide) (by decide) ?_
            show Steps p.tables e below (T29.setTop (mkF m 96 #[.val (.ref r0), .val (.ref r1), .val (.int (1 : Int32)), .val (.int (1 : Int32))] [])) _
            refine XS.iconst X29.here hx rfl (hb hby d_tail1_96) ?_
            exact ht
          refine ⟨T29, _, 97, #[.val (.ref r0), .val (.ref r1), .val (.int (1 : Int32)), .val (.int (1 : Int32))], X29, N29, eq29, (hb hby d_tail1_97), ?_⟩
          have kk := (goT k1 (goT k2 (goT k4 (goT k5 (goT k6 (goT k8 (goT k9 (goT k10 (goT k11 (goT k12 (goT k22 (goT k23 (goT k24 (goT k25 (goT k26 (goT k27 (goT k28 (goT k29 k33))))))))))))))))))
          simpa only [f_tail1, if_neg P5, if_neg (own_len3 hld), if_pos hc3, if_pos hc7, if_neg hc13, if_neg hc30] using kk
    · have k34 : Go p.tables e below (T6.setTop (mkF m 22 #[.val (.ref r0), .val (.ref r1), .val (.int (1 : Int32)), .val (.int (1 : Int32))] [(.int (Int32.ofNat cs.length)), (.int (1 : Int32))])) (T6.setTop (mkF m 106 #[.val (.ref r0), .val (.ref r1), .val (.int (1 : Int32)), .val (.int (1 : Int32))] [(.ref r1), (.int (1 : Int32))])) := by
        intro t ht
        refine XS.icmpYes X6.here hx rfl (pc0 := 22) (pc' := 104) rfl (hb hby d_tail1_22) rfl (flt hc7).2.1 (by decide) (by decide) ?_
        show Steps p.tables e below (T6.setTop (mkF m 104 #[.val (.ref r0), .val (.ref r1), .val (.int (1 : Int32)), .val (.int (1 : Int32))] [])) _
        refine XS.iloadN X6.here hx rfl (hb hby d_tail1_104) rfl ?_
        show Steps p.tables e below (T6.setTop (mkF m 105 #[.val (.ref r0), .val (.ref r1), .val (.int (1 : Int32)), .val (.int (1 : Int32))] [(.int (1 : Int32))])) _
        refine XS.aloadN X6.here hx rfl (hb hby d_tail1_105) rfl rfl ?_
        exact ht
      obtain ⟨cq35, kq35, q35a, q35b, q35c⟩ := isOf hZ eq6 E_r1
      obtain ⟨_, _, ⟨T35, L35, kq35, n35⟩, -, X35, ⟨Lc35, hQ35, l35, y35, z35⟩, st35⟩ := X6.interfaceBack hx (xi := (⟨"java/lang/CharSequence", "length", "()I"⟩ : MethodName)) (y := (⟨"java/lang/String", "length", "()I"⟩ : MethodName)) hown (mvT hZ (hw _ (List.mem_of_getElem? (i := 90) rfl))) (mvT hZ (hw _ (List.mem_of_getElem? (i := 91) rfl))) (mvT hZ (hw _ (List.mem_of_getElem? (i := 92) rfl))) (mvT hZ (hw _ (List.mem_of_getElem? (i := 93) rfl))) (mvT hZ (hw _ (List.mem_of_getElem? (i := 61) rfl))) (mvT hZ (hw _ (List.mem_of_getElem? (i := 94) rfl))) (mvT hZ (hw _ (List.mem_of_getElem? (i := 95) rfl))) (mvT hZ (hw _ (List.mem_of_getElem? (i := 96) rfl))) (by decide) (StrChars.Road.lenW (W := 1) hZ (own_wordsLen hw) (kI := 4) (hw _ (List.mem_of_getElem? (i := 8) rfl)) E_r1 Fv_r1 Fc_r1 V_td (StrChars.Road.codOf rfl fun c hc => (hchd c hc).2) (own_up hchd) S_CS P5 (Nat.le_trans hld (by decide)) (by decide) (by decide)) q35a q35b q35c (g := (mkF m 106 #[.val (.ref r0), .val (.ref r1), .val (.int (1 : Int32)), .val (.int (1 : Int32))] [(.ref r1), (.int (1 : Int32))])) rfl (by rw [hml]; rfl) (Steps.refl _) (argsL := []) (rest := [(.int (1 : Int32))]) (lenOf pd_6 rfl) rfl (by show 2 * 0 + _ ≤ _; exact Nat.le_of_eq rfl) (hb hby d_tail1_106) (fun _ _ => ⟨rfl, eq6, (by decide : 0 + 0 ≤ _), (by decide : 0 + 0 ≤ _)⟩)
      dsimp only [Pt.U, Pt.locs, Pt.cells, Pt.slots] at X35 l35 y35 z35 st35 hQ35
      subst l35 y35 z35
      obtain ⟨rfl, rfl, eq35⟩ := hQ35
      have N35 := Fr.app N6 (Fr.nil n0)
      have k35 : Go p.tables e below (T6.setTop (mkF m 106 #[.val (.ref r0), .val (.ref r1), .val (.int (1 : Int32)), .val (.int (1 : Int32))] [(.ref r1), (.int (1 : Int32))])) (T35.setTop (mkF m 111 #[.val (.ref r0), .val (.ref r1), .val (.int (1 : Int32)), .val (.int (1 : Int32))] [(.int (Int32.ofNat ds.length)), (.int (1 : Int32))])) := fun _ ht => st35.trans ht
      by_cases hc36 : (1 : Int32) = (Int32.ofNat ds.length)
      · have k37 : Go p.tables e below (T35.setTop (mkF m 111 #[.val (.ref r0), .val (.ref r1), .val (.int (1 : Int32)), .val (.int (1 : Int32))] [(.int (Int32.ofNat ds.length)), (.int (1 : Int32))])) (T35.setTop (mkF m 130 #[.val (.ref r0), .val (.ref r1), .val (.int (1 : Int32)), .val (.int (1 : Int32))] [(.int (1 : Int32))])) := by
          intro t ht
          refine XS.icmpYes X35.here hx rfl (pc0 := 111) (pc' := 125) rfl (hb hby d_tail1_111) rfl (teq hc36).1 (by decide) (by decide) ?_
          show Steps p.tables e below (T35.setTop (mkF m 125 #[.val (.ref r0), .val (.ref r1), .val (.int (1 : Int32)), .val (.int (1 : Int32))] [])) _
          refine XS.iconst X35.here hx rfl (hb hby d_tail1_125) ?_
          show Steps p.tables e below (T35.setTop (mkF m 126 #[.val (.ref r0), .val (.ref r1), .val (.int (1 : Int32)), .val (.int (1 : Int32))] [(.int (1 : Int32))])) _
          refine XS.goto X35.here hx rfl (pc0 := 126) (pc' := 130) rfl (hb hby d_tail1_126) (by decide) (by decide) ?_
          exact ht
        refine ⟨T35, _, 130, #[.val (.ref r0), .val (.ref r1), .val (.int (1 : Int32)), .val (.int (1 : Int32))], X35, N35, eq35, (hb hby d_tail1_130), ?_⟩
        have kk := (goT k1 (goT k2 (goT k4 (goT k5 (goT k6 (goT k34 (goT k35 k37)))))))
        simpa only [f_tail1, if_neg P5, if_neg (own_len3 hld), if_pos hc3, if_neg hc7, if_pos hc36] using kk
      · have k38 : Go p.tables e below (T35.setTop (mkF m 111 #[.val (.ref r0), .val (.ref r1), .val (.int (1 : Int32)), .val (.int (1 : Int32))] [(.int (Int32.ofNat ds.length)), (.int (1 : Int32))])) (T35.setTop (mkF m 116 #[.val (.ref r0), .val (.ref r1), .val (.int (1 : Int32)), .val (.int (1 : Int32))] [(.ref r0), (.int (1 : Int32))])) := by
          intro t ht
          refine XS.icmpNo X35.here hx rfl (hb hby d_tail1_111) rfl (feq hc36).1 ?_
          show Steps p.tables e below (T35.setTop (mkF m 114 #[.val (.ref r0), .val (.ref r1), .val (.int (1 : Int32)), .val (.int (1 : Int32))] [])) _
          refine XS.iloadN X35.here hx rfl (hb hby d_tail1_114) rfl ?_
          show Steps p.tables e below (T35.setTop (mkF m 115 #[.val (.ref r0), .val (.ref r1), .val (.int (1 : Int32)), .val (.int (1 : Int32))] [(.int (1 : Int32))])) _
          refine XS.aloadN X35.here hx rfl (hb hby d_tail1_115) rfl rfl ?_
          exact ht
        obtain ⟨T39, X39, e39, st39⟩ := getF X35 hx hZ hown (host := "") (Or.inl (hw _ (List.mem_of_getElem? (i := 39) rfl))) Via.refl eq35 Fp (g := (mkF m 116 #[.val (.ref r0), .val (.ref r1), .val (.int (1 : Int32)), .val (.int (1 : Int32))] [(.ref r0), (.int (1 : Int32))])) rfl rfl (hb hby d_tail1_116)
        have k39 : Go p.tables e below (T35.setTop (mkF m 116 #[.val (.ref r0), .val (.ref r1), .val (.int (1 : Int32)), .val (.int (1 : Int32))] [(.ref r0), (.int (1 : Int32))])) (T39.setTop (mkF m 119 #[.val (.ref r0), .val (.ref r1), .val (.int (1 : Int32)), .val (.int (1 : Int32))] [(.ref rp), (.int (1 : Int32))])) := st39
        obtain ⟨cq40, kq40, q40a, q40b, q40c⟩ := isOf hZ e39 E_rp
        obtain ⟨_, _, ⟨T40, L40, kq40, n40⟩, -, X40, ⟨Lc40, hQ40, l40, y40, z40⟩, st40⟩ := X39.virtualBack hx (y := (⟨"java/lang/String", "length", "()I"⟩ : MethodName)) (z := (⟨"java/lang/String", "length", "()I"⟩ : MethodName)) hown (mvT hZ (hw _ (List.mem_of_getElem? (i := 111) rfl))) (mvT hZ (hw _ (List.mem_of_getElem? (i := 60) rfl))) (notFace_of_selects (args := #[]) (mvT hZ (hw _ (List.mem_of_getElem? (i := 62) rfl)))) (mvT hZ (hw _ (List.mem_of_getElem? (i := 62) rfl))) (mvT hZ (hw _ (List.mem_of_getElem? (i := 61) rfl))) (by decide) (StrChars.Road.lenW (W := 1) hZ (own_wordsLen hw) (kI := 4) (hw _ (List.mem_of_getElem? (i := 8) rfl)) E_rp Fv_rp Fc_rp V_tp (StrChars.Road.codOf rfl fun c hc => (hchp c hc).2) (own_up hchp) S_CS P5 (Nat.le_trans hlp (by decide)) (by decide) (by decide)) q40a q40c (g := (mkF m 119 #[.val (.ref r0), .val (.ref r1), .val (.int (1 : Int32)), .val (.int (1 : Int32))] [(.ref rp), (.int (1 : Int32))])) rfl (by rw [hml]; rfl) (Steps.refl _) (argsL := []) (rest := [(.int (1 : Int32))]) (lenOf pd_6 rfl) rfl (by show 2 * 0 + _ ≤ _; exact Nat.le_of_eq rfl) (hb hby d_tail1_119) (fun _ _ => ⟨rfl, e39, (by decide : 0 + 0 ≤ _), (by decide : 0 + 0 ≤ _)⟩)
        dsimp only [Pt.U, Pt.locs, Pt.cells, Pt.slots] at X40 l40 y40 z40 st40 hQ40
        subst l40 y40 z40
        obtain ⟨rfl, rfl, eq40⟩ := hQ40
        have N40 := Fr.app N35 (Fr.nil n0)
        have k40 : Go p.tables e below (T39.setTop (mkF m 119 #[.val (.ref r0), .val (.ref r1), .val (.int (1 : Int32)), .val (.int (1 : Int32))] [(.ref rp), (.int (1 : Int32))])) (T40.setTop (mkF m 122 #[.val (.ref r0), .val (.ref r1), .val (.int (1 : Int32)), .val (.int (1 : Int32))] [(.int (Int32.ofNat cs.length)), (.int (1 : Int32))])) := fun _ ht => st40.trans ht
        have k41 : Go p.tables e below (T40.setTop (mkF m 122 #[.val (.ref r0), .val (.ref r1), .val (.int (1 : Int32)), .val (.int (1 : Int32))] [(.int (Int32.ofNat cs.length)), (.int (1 : Int32))])) (T40.setTop (mkF m 130 #[.val (.ref r0), .val (.ref r1), .val (.int (1 : Int32)), .val (.int (1 : Int32))] [(.int (0 : Int32))])) := by
          intro t ht
          refine XS.icmpYes X40.here hx rfl (pc0 := 122) (pc' := 129) rfl (hb hby d_tail1_122) rfl (flt hc7).2.1 (by decide) (by decide) ?_
          show Steps p.tables e below (T40.setTop (mkF m 129 #[.val (.ref r0), .val (.ref r1), .val (.int (1 : Int32)), .val (.int (1 : Int32))] [])) _
          refine XS.iconst X40.here hx rfl (hb hby d_tail1_129) ?_
          exact ht
        refine ⟨T40, _, 130, #[.val (.ref r0), .val (.ref r1), .val (.int (1 : Int32)), .val (.int (1 : Int32))], X40, N40, eq40, (hb hby d_tail1_130), ?_⟩
        have kk := (goT k1 (goT k2 (goT k4 (goT k5 (goT k6 (goT k34 (goT k35 (goT k38 (goT k39 (goT k40 k41))))))))))
        simpa only [f_tail1, if_neg P5, if_neg (own_len3 hld), if_pos hc3, if_neg hc7, if_neg hc36] using kk
  · have k42 : Go p.tables e below (T2.setTop (mkF m 11 #[.val (.ref r0), .val (.ref r1), .val (.int (1 : Int32)), .val (.int (1 : Int32))] [(.int (Int32.ofNat ds.length)), (.int (1 : Int32))])) (T2.setTop (mkF m 106 #[.val (.ref r0), .val (.ref r1), .val (.int (1 : Int32)), .val (.int (1 : Int32))] [(.ref r1), (.int (1 : Int32))])) := by
      intro t ht
      refine XS.icmpYes X2.here hx rfl (pc0 := 11) (pc' := 104) rfl (hb hby d_tail1_11) rfl (flt hc3).2.1 (by decide) (by decide) ?_
      show Steps p.tables e below (T2.setTop (mkF m 104 #[.val (.ref r0), .val (.ref r1), .val (.int (1 : Int32)), .val (.int (1 : Int32))] [])) _
      refine XS.iloadN X2.here hx rfl (hb hby d_tail1_104) rfl ?_
      show Steps p.tables e below (T2.setTop (mkF m 105 #[.val (.ref r0), .val (.ref r1), .val (.int (1 : Int32)), .val (.int (1 : Int32))] [(.int (1 : Int32))])) _
      refine XS.aloadN X2.here hx rfl (hb hby d_tail1_105) rfl rfl ?_
      exact ht
    obtain ⟨cq43, kq43, q43a, q43b, q43c⟩ := isOf hZ eq2 E_r1
    obtain ⟨_, _, ⟨T43, L43, kq43, n43⟩, -, X43, ⟨Lc43, hQ43, l43, y43, z43⟩, st43⟩ := X2.interfaceBack hx (xi := (⟨"java/lang/CharSequence", "length", "()I"⟩ : MethodName)) (y := (⟨"java/lang/String", "length", "()I"⟩ : MethodName)) hown (mvT hZ (hw _ (List.mem_of_getElem? (i := 90) rfl))) (mvT hZ (hw _ (List.mem_of_getElem? (i := 91) rfl))) (mvT hZ (hw _ (List.mem_of_getElem? (i := 92) rfl))) (mvT hZ (hw _ (List.mem_of_getElem? (i := 93) rfl))) (mvT hZ (hw _ (List.mem_of_getElem? (i := 61) rfl))) (mvT hZ (hw _ (List.mem_of_getElem? (i := 94) rfl))) (mvT hZ (hw _ (List.mem_of_getElem? (i := 95) rfl))) (mvT hZ (hw _ (List.mem_of_getElem? (i := 96) rfl))) (by decide) (StrChars.Road.lenW (W := 1) hZ (own_wordsLen hw) (kI := 4) (hw _ (List.mem_of_getElem? (i := 8) rfl)) E_r1 Fv_r1 Fc_r1 V_td (StrChars.Road.codOf rfl fun c hc => (hchd c hc).2) (own_up hchd) S_CS P5 (Nat.le_trans hld (by decide)) (by decide) (by decide)) q43a q43b q43c (g := (mkF m 106 #[.val (.ref r0), .val (.ref r1), .val (.int (1 : Int32)), .val (.int (1 : Int32))] [(.ref r1), (.int (1 : Int32))])) rfl (by rw [hml]; rfl) (Steps.refl _) (argsL := []) (rest := [(.int (1 : Int32))]) (lenOf pd_6 rfl) rfl (by show 2 * 0 + _ ≤ _; exact Nat.le_of_eq rfl) (hb hby d_tail1_106) (fun _ _ => ⟨rfl, eq2, (by decide : 0 + 0 ≤ _), (by decide : 0 + 0 ≤ _)⟩)
    dsimp only [Pt.U, Pt.locs, Pt.cells, Pt.slots] at X43 l43 y43 z43 st43 hQ43
    subst l43 y43 z43
    obtain ⟨rfl, rfl, eq43⟩ := hQ43
    have N43 := Fr.app N2 (Fr.nil n0)
    have k43 : Go p.tables e below (T2.setTop (mkF m 106 #[.val (.ref r0), .val (.ref r1), .val (.int (1 : Int32)), .val (.int (1 : Int32))] [(.ref r1), (.int (1 : Int32))])) (T43.setTop (mkF m 111 #[.val (.ref r0), .val (.ref r1), .val (.int (1 : Int32)), .val (.int (1 : Int32))] [(.int (Int32.ofNat ds.length)), (.int (1 : Int32))])) := fun _ ht => st43.trans ht
    by_cases hc44 : (1 : Int32) = (Int32.ofNat ds.length)
    · have k45 : Go p.tables e below (T43.setTop (mkF m 111 #[.val (.ref r0), .val (.ref r1), .val (.int (1 : Int32)), .val (.int (1 : Int32))] [(.int (Int32.ofNat ds.length)), (.int (1 : Int32))])) (T43.setTop (mkF m 130 #[.val (.ref r0), .val (.ref r1), .val (.int (1 : Int32)), .val (.int (1 : Int32))] [(.int (1 : Int32))])) := by
        intro t ht
        refine XS.icmpYes X43.here hx rfl (pc0 := 111) (pc' := 125) rfl (hb hby d_tail1_111) rfl (teq hc44).1 (by decide) (by decide) ?_
        show Steps p.tables e below (T43.setTop (mkF m 125 #[.val (.ref r0), .val (.ref r1), .val (.int (1 : Int32)), .val (.int (1 : Int32))] [])) _
        refine XS.iconst X43.here hx rfl (hb hby d_tail1_125) ?_
        show Steps p.tables e below (T43.setTop (mkF m 126 #[.val (.ref r0), .val (.ref r1), .val (.int (1 : Int32)), .val (.int (1 : Int32))] [(.int (1 : Int32))])) _
        refine XS.goto X43.here hx rfl (pc0 := 126) (pc' := 130) rfl (hb hby d_tail1_126) (by decide) (by decide) ?_
        exact ht
      refine ⟨T43, _, 130, #[.val (.ref r0), .val (.ref r1), .val (.int (1 : Int32)), .val (.int (1 : Int32))], X43, N43, eq43, (hb hby d_tail1_130), ?_⟩
      have kk := (goT k1 (goT k2 (goT k42 (goT k43 k45))))
      simpa only [f_tail1, if_neg P5, if_neg (own_len3 hld), if_neg hc3, if_pos hc44] using kk
    · have k46 : Go p.tables e below (T43.setTop (mkF m 111 #[.val (.ref r0), .val (.ref r1), .val (.int (1 : Int32)), .val (.int (1 : Int32))] [(.int (Int32.ofNat ds.length)), (.int (1 : Int32))])) (T43.setTop (mkF m 116 #[.val (.ref r0), .val (.ref r1), .val (.int (1 : Int32)), .val (.int (1 : Int32))] [(.ref r0), (.int (1 : Int32))])) := by
        intro t ht
        refine XS.icmpNo X43.here hx rfl (hb hby d_tail1_111) rfl (feq hc44).1 ?_
        show Steps p.tables e below (T43.setTop (mkF m 114 #[.val (.ref r0), .val (.ref r1), .val (.int (1 : Int32)), .val (.int (1 : Int32))] [])) _
        refine XS.iloadN X43.here hx rfl (hb hby d_tail1_114) rfl ?_
        show Steps p.tables e below (T43.setTop (mkF m 115 #[.val (.ref r0), .val (.ref r1), .val (.int (1 : Int32)), .val (.int (1 : Int32))] [(.int (1 : Int32))])) _
        refine XS.aloadN X43.here hx rfl (hb hby d_tail1_115) rfl rfl ?_
        exact ht
      obtain ⟨T47, X47, e47, st47⟩ := getF X43 hx hZ hown (host := "") (Or.inl (hw _ (List.mem_of_getElem? (i := 39) rfl))) Via.refl eq43 Fp (g := (mkF m 116 #[.val (.ref r0), .val (.ref r1), .val (.int (1 : Int32)), .val (.int (1 : Int32))] [(.ref r0), (.int (1 : Int32))])) rfl rfl (hb hby d_tail1_116)
      have k47 : Go p.tables e below (T43.setTop (mkF m 116 #[.val (.ref r0), .val (.ref r1), .val (.int (1 : Int32)), .val (.int (1 : Int32))] [(.ref r0), (.int (1 : Int32))])) (T47.setTop (mkF m 119 #[.val (.ref r0), .val (.ref r1), .val (.int (1 : Int32)), .val (.int (1 : Int32))] [(.ref rp), (.int (1 : Int32))])) := st47
      obtain ⟨cq48, kq48, q48a, q48b, q48c⟩ := isOf hZ e47 E_rp
      obtain ⟨_, _, ⟨T48, L48, kq48, n48⟩, -, X48, ⟨Lc48, hQ48, l48, y48, z48⟩, st48⟩ := X47.virtualBack hx (y := (⟨"java/lang/String", "length", "()I"⟩ : MethodName)) (z := (⟨"java/lang/String", "length", "()I"⟩ : MethodName)) hown (mvT hZ (hw _ (List.mem_of_getElem? (i := 111) rfl))) (mvT hZ (hw _ (List.mem_of_getElem? (i := 60) rfl))) (notFace_of_selects (args := #[]) (mvT hZ (hw _ (List.mem_of_getElem? (i := 62) rfl)))) (mvT hZ (hw _ (List.mem_of_getElem? (i := 62) rfl))) (mvT hZ (hw _ (List.mem_of_getElem? (i := 61) rfl))) (by decide) (StrChars.Road.lenW (W := 1) hZ (own_wordsLen hw) (kI := 4) (hw _ (List.mem_of_getElem? (i := 8) rfl)) E_rp Fv_rp Fc_rp V_tp (StrChars.Road.codOf rfl fun c hc => (hchp c hc).2) (own_up hchp) S_CS P5 (Nat.le_trans hlp (by decide)) (by decide) (by decide)) q48a q48c (g := (mkF m 119 #[.val (.ref r0), .val (.ref r1), .val (.int (1 : Int32)), .val (.int (1 : Int32))] [(.ref rp), (.int (1 : Int32))])) rfl (by rw [hml]; rfl) (Steps.refl _) (argsL := []) (rest := [(.int (1 : Int32))]) (lenOf pd_6 rfl) rfl (by show 2 * 0 + _ ≤ _; exact Nat.le_of_eq rfl) (hb hby d_tail1_119) (fun _ _ => ⟨rfl, e47, (by decide : 0 + 0 ≤ _), (by decide : 0 + 0 ≤ _)⟩)
      dsimp only [Pt.U, Pt.locs, Pt.cells, Pt.slots] at X48 l48 y48 z48 st48 hQ48
      subst l48 y48 z48
      obtain ⟨rfl, rfl, eq48⟩ := hQ48
      have N48 := Fr.app N43 (Fr.nil n0)
      have k48 : Go p.tables e below (T47.setTop (mkF m 119 #[.val (.ref r0), .val (.ref r1), .val (.int (1 : Int32)), .val (.int (1 : Int32))] [(.ref rp), (.int (1 : Int32))])) (T48.setTop (mkF m 122 #[.val (.ref r0), .val (.ref r1), .val (.int (1 : Int32)), .val (.int (1 : Int32))] [(.int (Int32.ofNat cs.length)), (.int (1 : Int32))])) := fun _ ht => st48.trans ht
      by_cases hc49 : (1 : Int32) < (Int32.ofNat cs.length)
      · have k50 : Go p.tables e below (T48.setTop (mkF m 122 #[.val (.ref r0), .val (.ref r1), .val (.int (1 : Int32)), .val (.int (1 : Int32))] [(.int (Int32.ofNat cs.length)), (.int (1 : Int32))])) (T48.setTop (mkF m 130 #[.val (.ref r0), .val (.ref r1), .val (.int (1 : Int32)), .val (.int (1 : Int32))] [(.int (1 : Int32))])) := by
          intro t ht
          refine XS.icmpNo X48.here hx rfl (hb hby d_tail1_122) rfl (tlt hc49).2.1 ?_
          show Steps p.tables e below (T48.setTop (mkF m 125 #[.val (.ref r0), .val (.ref r1), .val (.int (1 : Int32)), .val (.int (1 : Int32))] [])) _
          refine XS.iconst X48.here hx rfl (hb hby d_tail1_125) ?_
          show Steps p.tables e below (T48.setTop (mkF m 126 #[.val (.ref r0), .val (.ref r1), .val (.int (1 : Int32)), .val (.int (1 : Int32))] [(.int (1 : Int32))])) _
          refine XS.goto X48.here hx rfl (pc0 := 126) (pc' := 130) rfl (hb hby d_tail1_126) (by decide) (by decide) ?_
          exact ht
        refine ⟨T48, _, 130, #[.val (.ref r0), .val (.ref r1), .val (.int (1 : Int32)), .val (.int (1 : Int32))], X48, N48, eq48, (hb hby d_tail1_130), ?_⟩
        have kk := (goT k1 (goT k2 (goT k42 (goT k43 (goT k46 (goT k47 (goT k48 k50)))))))
        simpa only [f_tail1, if_neg P5, if_neg (own_len3 hld), if_neg hc3, if_neg hc44, if_pos hc49] using kk
      · have k51 : Go p.tables e below (T48.setTop (mkF m 122 #[.val (.ref r0), .val (.ref r1), .val (.int (1 : Int32)), .val (.int (1 : Int32))] [(.int (Int32.ofNat cs.length)), (.int (1 : Int32))])) (T48.setTop (mkF m 130 #[.val (.ref r0), .val (.ref r1), .val (.int (1 : Int32)), .val (.int (1 : Int32))] [(.int (0 : Int32))])) := by
          intro t ht
          refine XS.icmpYes X48.here hx rfl (pc0 := 122) (pc' := 129) rfl (hb hby d_tail1_122) rfl (flt hc49).2.1 (by decide) (by decide) ?_
          show Steps p.tables e below (T48.setTop (mkF m 129 #[.val (.ref r0), .val (.ref r1), .val (.int (1 : Int32)), .val (.int (1 : Int32))] [])) _
          refine XS.iconst X48.here hx rfl (hb hby d_tail1_129) ?_
          exact ht
        refine ⟨T48, _, 130, #[.val (.ref r0), .val (.ref r1), .val (.int (1 : Int32)), .val (.int (1 : Int32))], X48, N48, eq48, (hb hby d_tail1_130), ?_⟩
        have kk := (goT k1 (goT k2 (goT k42 (goT k43 (goT k46 (goT k47 (goT k48 k51)))))))
        simpa only [f_tail1, if_neg P5, if_neg (own_len3 hld), if_neg hc3, if_neg hc44, if_neg hc49] using kk
theorem d_tail0_4 : decode prog_10_method_6_code 4 = .ok (.iload_n 3, 1) := by decide +kernel
theorem d_tail0_5 : decode prog_10_method_6_code 5 = .ok (.aload_n 1, 1) := by decide +kernel
theorem d_tail0_6 : decode prog_10_method_6_code 6 = .ok (.invokeinterface 36 1, 5) := by decide +kernel
theorem d_tail0_11 : decode prog_10_method_6_code 11 = .ok (.if_icmp .ge 93, 3) := by decide +kernel
theorem d_tail0_14 : decode prog_10_method_6_code 14 = .ok (.iload_n 2, 1) := by decide +kernel
theorem d_tail0_15 : decode prog_10_method_6_code 15 = .ok (.aload_n 0, 1) := by decide +kernel
theorem d_tail0_16 : decode prog_10_method_6_code 16 = .ok (.getfield 12, 3) := by decide +kernel
theorem d_tail0_19 : decode prog_10_method_6_code 19 = .ok (.invokevirtual 42, 3) := by decide +kernel
theorem d_tail0_22 : decode prog_10_method_6_code 22 = .ok (.if_icmp .ge 82, 3) := by decide +kernel
theorem d_tail0_25 : decode prog_10_method_6_code 25 = .ok (.aload_n 0, 1) := by decide +kernel
theorem d_tail0_26 : decode prog_10_method_6_code 26 = .ok (.getfield 12, 3) := by decide +kernel
theorem d_tail0_29 : decode prog_10_method_6_code 29 = .ok (.iload_n 2, 1) := by decide +kernel
theorem d_tail0_30 : decode prog_10_method_6_code 30 = .ok (.invokevirtual 43, 3) := by decide +kernel
theorem d_tail0_33 : decode prog_10_method_6_code 33 = .ok (.bipush 42, 2) := by decide +kernel
theorem d_tail0_35 : decode prog_10_method_6_code 35 = .ok (.if_icmp .eq 69, 3) := by decide +kernel
theorem d_tail0_38 : decode prog_10_method_6_code 38 = .ok (.aload_n 0, 1) := by decide +kernel
theorem d_tail0_39 : decode prog_10_method_6_code 39 = .ok (.getfield 16, 3) := by decide +kernel
theorem d_tail0_42 : decode prog_10_method_6_code 42 = .ok (.ifCond .eq 30, 3) := by decide +kernel
theorem d_tail0_72 : decode prog_10_method_6_code 72 = .ok (.aload_n 0, 1) := by decide +kernel
theorem d_tail0_73 : decode prog_10_method_6_code 73 = .ok (.getfield 12, 3) := by decide +kernel
theorem d_tail0_76 : decode prog_10_method_6_code 76 = .ok (.iload_n 2, 1) := by decide +kernel
theorem d_tail0_77 : decode prog_10_method_6_code 77 = .ok (.invokevirtual 43, 3) := by decide +kernel
theorem d_tail0_80 : decode prog_10_method_6_code 80 = .ok (.aload_n 1, 1) := by decide +kernel
theorem d_tail0_81 : decode prog_10_method_6_code 81 = .ok (.iload_n 3, 1) := by decide +kernel
theorem d_tail0_82 : decode prog_10_method_6_code 82 = .ok (.invokeinterface 56 2, 5) := by decide +kernel
theorem d_tail0_87 : decode prog_10_method_6_code 87 = .ok (.if_icmp .ne 9, 3) := by decide +kernel
theorem d_tail0_90 : decode prog_10_method_6_code 90 = .ok (.iinc 3 1, 3) := by decide +kernel
theorem d_tail0_93 : decode prog_10_method_6_code 93 = .ok (.goto 5, 3) := by decide +kernel
theorem d_tail0_96 : decode prog_10_method_6_code 96 = .ok (.iconst 0, 1) := by decide +kernel
theorem d_tail0_97 : decode prog_10_method_6_code 97 = .ok (.ireturn, 1) := by decide +kernel
theorem d_tail0_98 : decode prog_10_method_6_code 98 = .ok (.iinc 2 1, 3) := by decide +kernel
theorem d_tail0_101 : decode prog_10_method_6_code 101 = .ok (.goto (-97), 3) := by decide +kernel
theorem d_tail0_104 : decode prog_10_method_6_code 104 = .ok (.iload_n 3, 1) := by decide +kernel
theorem d_tail0_105 : decode prog_10_method_6_code 105 = .ok (.aload_n 1, 1) := by decide +kernel
theorem d_tail0_106 : decode prog_10_method_6_code 106 = .ok (.invokeinterface 36 1, 5) := by decide +kernel
theorem d_tail0_111 : decode prog_10_method_6_code 111 = .ok (.if_icmp .eq 14, 3) := by decide +kernel
theorem d_tail0_114 : decode prog_10_method_6_code 114 = .ok (.iload_n 2, 1) := by decide +kernel
theorem d_tail0_115 : decode prog_10_method_6_code 115 = .ok (.aload_n 0, 1) := by decide +kernel
theorem d_tail0_116 : decode prog_10_method_6_code 116 = .ok (.getfield 12, 3) := by decide +kernel
theorem d_tail0_119 : decode prog_10_method_6_code 119 = .ok (.invokevirtual 42, 3) := by decide +kernel
theorem d_tail0_122 : decode prog_10_method_6_code 122 = .ok (.if_icmp .ge 7, 3) := by decide +kernel
theorem d_tail0_125 : decode prog_10_method_6_code 125 = .ok (.iconst 1, 1) := by decide +kernel
theorem d_tail0_126 : decode prog_10_method_6_code 126 = .ok (.goto 4, 3) := by decide +kernel
theorem d_tail0_129 : decode prog_10_method_6_code 129 = .ok (.iconst 0, 1) := by decide +kernel
theorem d_tail0_130 : decode prog_10_method_6_code 130 = .ok (.ireturn, 1) := by decide +kernel
def f_tail0 (cs ds : List Int32) : Int32 := (if (0 : Int32) < (Int32.ofNat ds.length) then (if (0 : Int32) < (Int32.ofNat cs.length) then (if (cs.getD 0 0) = (42 : Int32) then (if (0 : Int32) = (Int32.ofNat ds.length) then (1 : Int32) else (1 : Int32)) else (if (cs.getD 0 0) = (ds.getD 0 0) then (f_tail1 cs ds) else (0 : Int32))) else (if (0 : Int32) = (Int32.ofNat ds.length) then (1 : Int32) else (0 : Int32))) else (if (0 : Int32) = (Int32.ofNat ds.length) then (1 : Int32) else (if (0 : Int32) < (Int32.ofNat cs.length) then (1 : Int32) else (0 : Int32))))
set_option maxRecDepth 65536 in
set_option maxHeartbeats 40000000 in
theorem pc_tail0 {p : Program} {l : Launch} {e : Env} {s : State} {m : MethodId} {below : List Frame} {meth : Method} {c : Code} {T0 : State} {locs : List Loc} {Z : State} {a0 : Array Value} {h0 : Heap} {n0 : Nat} (r0 r1 rp tp td : Addr) (kp kd : ClassId) (cs ds : List Int32) (G1 : Int32) (fm : Value)
    (X0 : Stand p l e ({ frames := 4, cells := 0, slots := 0, locals := 54 } : Room) s m #[(.ref r0), (.ref r1)] below meth c T0 locs 0 0) (hx : p.tables.exec = Jvm.exec) (hZ : Z.Warmed39 s.vm) (hw : ∀ d ∈ tables_1, d.before a0 Z = true) (hby : c.code = prog_10_method_6_code) (hml : c.maxLocals = 4) (hown : s.vm.findClass "com/example/fieldveil/fieldveil/Wildcard" = some m.cls) (e0 : T0.heap = h0) (N0 : Fr n0 locs) (Z0 : n0 ≤ h0.size) (E_r0 : Exa Z h0 r0 "com/example/fieldveil/fieldveil/Wildcard") (Fp : Fld Z h0 r0 "com/example/fieldveil/fieldveil/Wildcard" "pattern" "Ljava/lang/String;" (.ref rp)) (Fa : Fld Z h0 r0 "com/example/fieldveil/fieldveil/Wildcard" "anyOne" "Z" (.int (0 : Int32))) (E_rp : Exa Z h0 rp "java/lang/String") (Fv_rp : Fld Z h0 rp "java/lang/String" "value" "[B" (.ref tp)) (Fc_rp : Fld Z h0 rp "java/lang/String" "coder" "B" (.int (0 : Int32))) (E_r1 : Exa Z h0 r1 "java/lang/String") (Fv_r1 : Fld Z h0 r1 "java/lang/String" "value" "[B" (.ref td)) (Fc_r1 : Fld Z h0 r1 "java/lang/String" "coder" "B" (.int (0 : Int32))) (S_CS : Sta Z h0 "java/lang/String" "COMPACT_STRINGS" "Z" (.int G1)) (S_SI : Sta Z h0 "jdk/internal/util/Preconditions" "SIOOBE_FORMATTER" "Ljava/util/function/BiFunction;" fm) (V_tp : Arv Z h0 tp kp .byte (Int32.ofNat cs.length) ((cs.map StrChars.lo8).map Value.int) (.int (0 : Int32))) (V_td : Arv Z h0 td kd .byte (Int32.ofNat ds.length) ((ds.map StrChars.lo8).map Value.int) (.int (0 : Int32))) (P5 : ¬ (G1 = (0 : Int32))) (rf : fm.isRef = true) (hchp : ∀ c ∈ cs, ¬ c < 0 ∧ ¬ (255 : Int32) < c) (hchd : ∀ c ∈ ds, ¬ c < 0 ∧ ¬ (255 : Int32) < c) (hlp : cs.length ≤ 3) (hld : ds.length ≤ 3) :
    ∃ (T' : State) (L' : List Loc) (pc : Nat) (Ls : Array Slot), Stand p l e ({ frames := 4, cells := 0, slots := 0, locals := 54 } : Room) s m #[(.ref r0), (.ref r1)] below meth c T' L' 0 0 ∧ Fr n0 L' ∧ T'.heap = h0 ∧ decode c.code pc = .ok (.ireturn, 1) ∧ Go p.tables e below (T0.setTop (mkF m 4 #[.val (.ref r0), .val (.ref r1), .val (.int (0 : Int32)), .val (.int (0 : Int32))] [])) (T'.setTop (mkF m pc Ls [(.int (f_tail0 cs ds))])) := by
  have k1 : Go p.tables e below (T0.setTop (mkF m 4 #[.val (.ref r0), .val (.ref r1), .val (.int (0 : Int32)), .val (.int (0 : Int32))] [])) (T0.setTop (mkF m 6 #[.val (.ref r0), .val (.ref r1), .val (.int (0 : Int32)), .val (.int (0 : Int32))] [(.ref r1), (.int (0 : Int32))])) := by
    intro t ht
    refine XS.iloadN X0.here hx rfl (hb hby d_tail0_4) rfl ?_
    show Steps p.tables e below (T0.setTop (mkF m 5 #[.val (.ref r0), .val (.ref r1), .val (.int (0 : Int32)), .val (.int (0 : Int32))] [(.int (0 : Int32))])) _
    refine XS.aloadN X0.here hx rfl (hb hby d_tail0_5) rfl rfl ?_
    exact ht
  obtain ⟨cq2, kq2, q2a, q2b, q2c⟩ := isOf hZ e0 E_r1
  obtain ⟨_, _, ⟨T2, L2, kq2, n2⟩, -, X2, ⟨Lc2, hQ2, l2, y2, z2⟩, st2⟩ := X0.interfaceBack hx (xi := (⟨"java/lang/CharSequence", "length", "()I"⟩ : MethodName)) (y := (⟨"java/lang/String", "length", "()I"⟩ : MethodName)) hown (mvT hZ (hw _ (List.mem_of_getElem? (i := 90) rfl))) (mvT hZ (hw _ (List.mem_of_getElem? (i := 91) rfl))) (mvT hZ (hw _ (List.mem_of_getElem? (i := 92) rfl))) (mvT hZ (hw _ (List.mem_of_getElem? (i := 93) rfl))) (mvT hZ (hw _ (List.mem_of_getElem? (i := 61) rfl))) (mvT hZ (hw _ (List.mem_of_getElem? (i := 94) rfl))) (mvT hZ (hw _ (List.mem_of_getElem? (i := 95) rfl))) (mvT hZ (hw _ (List.mem_of_getElem? (i := 96) rfl))) (by decide) (StrChars.Road.lenW (W := 1) hZ (own_wordsLen hw) (kI := 4) (hw _ (List.mem_of_getElem? (i := 8) rfl)) E_r1 Fv_r1 Fc_r1 V_td (StrChars.Road.codOf rfl fun c hc => (hchd c hc).2) (own_up hchd) S_CS P5 (Nat.le_trans hld (by decide)) (by decide) (by decide)) q2a q2b q2c (g := (mkF m 6 #[.val (.ref r0), .val (.ref r1), .val (.int (0 : Int32)), .val (.int (0 : Int32))] [(.ref r1), (.int (0 : Int32))])) rfl (by rw [hml]; rfl) (Steps.refl _) (argsL := []) (rest := [(.int (0 : Int32))]) (lenOf pd_6 rfl) rfl (by show 2 * 0 + _ ≤ _; exact Nat.le_of_eq rfl) (hb hby d_tail0_6) (fun _ _ => ⟨rfl, e0, (by decide : 0 + 0 ≤ _), (by decide : 0 + 0 ≤ _)⟩)
  dsimp only [Pt.U, Pt.locs, Pt.cells, Pt.slots] at X2 l2 y2 z2 st2 hQ2
  subst l2 y2 z2
  obtain ⟨rfl, rfl, eq2⟩ := hQ2
  have N2 := Fr.app N0 (Fr.nil n0)
  have k2 : Go p.tables e below (T0.setTop (mkF m 6 #[.val (.ref r0), .val (.ref r1), .val (.int (0 : Int32)), .val (.int (0 : Int32))] [(.ref r1), (.int (0 : Int32))])) (T2.setTop (mkF m 11 #[.val (.ref r0), .val (.ref r1), .val (.int (0 : Int32)), .val (.int (0 : Int32))] [(.int (Int32.ofNat ds.length)), (.int (0 : Int32))])) := fun _ ht => st2.trans ht
  by_cases hc3 : (0 : Int32) < (Int32.ofNat ds.length)
  · have k4 : Go p.tables e below (T2.setTop (mkF m 11 #[.val (.ref r0), .val (.ref r1), .val (.int (0 : Int32)), .val (.int (0 : Int32))] [(.int (Int32.ofNat ds.length)), (.int (0 : Int32))])) (T2.setTop (mkF m 16 #[.val (.ref r0), .val (.ref r1), .val (.int (0 : Int32)), .val (.int (0 : Int32))] [(.ref r0), (.int (0 : Int32))])) := by
      intro t ht
      refine XS.icmpNo X2.here hx rfl (hb hby d_tail0_11) rfl (tlt hc3).2.1 ?_
      show Steps p.tables e below (T2.setTop (mkF m 14 #[.val (.ref r0), .val (.ref r1), .val (.int (0 : Int32)), .val (.int (0 : Int32))] [])) _
      refine XS.iloadN X2.here hx rfl (hb hby d_tail0_14) rfl ?_
      show Steps p.tables e below (T2.setTop (mkF m 15 #[.val (.ref r0), .val (.ref r1), .val (.int (0 : Int32)), .val (.int (0 : Int32))] [(.int (0 : Int32))])) _
      refine XS.aloadN X2.here hx rfl (hb hby d_tail0_15) rfl rfl ?_
      exact ht
    obtain ⟨T5, X5, e5, st5⟩ := getF X2 hx hZ hown (host := "") (Or.inl (hw _ (List.mem_of_getElem? (i := 39) rfl))) Via.refl eq2 Fp (g := (mkF m 16 #[.val (.ref r0), .val (.ref r1), .val (.int (0 : Int32)), .val (.int (0 : Int32))] [(.ref r0), (.int (0 : Int32))])) rfl rfl (hb hby d_tail0_16)
    have k5 : Go p.tables e below (T2.setTop (mkF m 16 #[.val (.ref r0), .val (.ref r1), .val (.int (0 : Int32)), .val (.int (0 : Int32))] [(.ref r0), (.int (0 : Int32))])) (T5.setTop (mkF m 19 #[.val (.ref r0), .val (.ref r1), .val (.int (0 : Int32)), .val (.int (0 : Int32))] [(.ref rp), (.int (0 : Int32))])) := st5
    obtain ⟨cq6, kq6, q6a, q6b, q6c⟩ := isOf hZ e5 E_rp
    obtain ⟨_, _, ⟨T6, L6, kq6, n6⟩, -, X6, ⟨Lc6, hQ6, l6, y6, z6⟩, st6⟩ := X5.virtualBack hx (y := (⟨"java/lang/String", "length", "()I"⟩ : MethodName)) (z := (⟨"java/lang/String", "length", "()I"⟩ : MethodName)) hown (mvT hZ (hw _ (List.mem_of_getElem? (i := 111) rfl))) (mvT hZ (hw _ (List.mem_of_getElem? (i := 60) rfl))) (notFace_of_selects (args := #[]) (mvT hZ (hw _ (List.mem_of_getElem? (i := 62) rfl)))) (mvT hZ (hw _ (List.mem_of_getElem? (i := 62) rfl))) (mvT hZ (hw _ (List.mem_of_getElem? (i := 61) rfl))) (by decide) (StrChars.Road.lenW (W := 1) hZ (own_wordsLen hw) (kI := 4) (hw _ (List.mem_of_getElem? (i := 8) rfl)) E_rp Fv_rp Fc_rp V_tp (StrChars.Road.codOf rfl fun c hc => (hchp c hc).2) (own_up hchp) S_CS P5 (Nat.le_trans hlp (by decide)) (by decide) (by decide)) q6a q6c (g := (mkF m 19 #[.val (.ref r0), .val (.ref r1), .val (.int (0 : Int32)), .val (.int (0 : Int32))] [(.ref rp), (.int (0 : Int32))])) rfl (by rw [hml]; rfl) (Steps.refl _) (argsL := []) (rest := [(.int (0 : Int32))]) (lenOf pd_6 rfl) rfl (by show 2 * 0 + _ ≤ _; exact Nat.le_of_eq rfl) (hb hby d_tail0_19) (fun _ _ => ⟨rfl, e5, (by decide : 0 + 0 ≤ _), (by decide : 0 + 0 ≤ _)⟩)
    dsimp only [Pt.U, Pt.locs, Pt.cells, Pt.slots] at X6 l6 y6 z6 st6 hQ6
    subst l6 y6 z6
    obtain ⟨rfl, rfl, eq6⟩ := hQ6
    have N6 := Fr.app N2 (Fr.nil n0)
    have k6 : Go p.tables e below (T5.setTop (mkF m 19 #[.val (.ref r0), .val (.ref r1), .val (.int (0 : Int32)), .val (.int (0 : Int32))] [(.ref rp), (.int (0 : Int32))])) (T6.setTop (mkF m 22 #[.val (.ref r0), .val (.ref r1), .val (.int (0 : Int32)), .val (.int (0 : Int32))] [(.int (Int32.ofNat cs.length)), (.int (0 : Int32))])) := fun _ ht => st6.trans ht
    by_cases hc7 : (0 : Int32) < (Int32.ofNat cs.length)
    · have k8 : Go p.tables e below (T6.setTop (mkF m 22 #[.val (.ref r0), .val (.ref r1), .val (.int (0 : Int32)), .val (.int (0 : Int32))] [(.int (Int32.ofNat cs.length)), (.int (0 : Int32))])) (T6.setTop (mkF m 26 #[.val (.ref r0), .val (.ref r1), .val (.int (0 : Int32)), .val (.int (0 : Int32))] [(.ref r0)])) := by
        intro t ht
        refine XS.icmpNo X6.here hx rfl (hb hby d_tail0_22) rfl (tlt hc7).2.1 ?_
        show Steps p.tables e below (T6.setTop (mkF m 25 #[.val (.ref r0), .val (.ref r1), .val (.int (0 : Int32)), .val (.int (0 : Int32))] [])) _
        refine XS.aloadN X6.here hx rfl (hb hby d_tail0_25) rfl rfl ?_
        exact ht
      obtain ⟨T9, X9, e9, st9⟩ := getF X6 hx hZ hown (host := "") (Or.inl (hw _ (List.mem_of_getElem? (i := 39) rfl))) Via.refl eq6 Fp (g := (mkF m 26 #[.val (.ref r0), .val (.ref r1), .val (.int (0 : Int32)), .val (.int (0 : Int32))] [(.ref r0)])) rfl rfl (hb hby d_tail0_26)
      have k9 : Go p.tables e below (T6.setTop (mkF m 26 #[.val (.ref r0), .val (.ref r1), .val (.int (0 : Int32)), .val (.int (0 : Int32))] [(.ref r0)])) (T9.setTop (mkF m 29 #[.val (.ref r0), .val (.ref r1), .val (.int (0 : Int32)), .val (.int (0 : Int32))] [(.ref rp)])) := st9
      have k10 : Go p.tables e below (T9.setTop (mkF m 29 #[.val (.ref r0), .val (.ref r1), .val (.int (0 : Int32)), .val (.int (0 : Int32))] [(.ref rp)])) (T9.setTop (mkF m 30 #[.val (.ref r0), .val (.ref r1), .val (.int (0 : Int32)), .val (.int (0 : Int32))] [(.int (0 : Int32)), (.ref rp)])) := by
        intro t ht
        refine XS.iloadN X9.here hx rfl (hb hby d_tail0_29) rfl ?_
        exact ht
      obtain ⟨cq11, kq11, q11a, q11b, q11c⟩ := isOf hZ e9 E_rp
      obtain ⟨_, _, ⟨T11, L11, kq11, n11⟩, -, X11, ⟨Lc11, hQ11, l11, y11, z11⟩, st11⟩ := X9.virtualBack hx (y := (⟨"java/lang/String", "charAt", "(I)C"⟩ : MethodName)) (z := (⟨"java/lang/String", "charAt", "(I)C"⟩ : MethodName)) hown (mvT hZ (hw _ (List.mem_of_getElem? (i := 112) rfl))) (mvT hZ (hw _ (List.mem_of_getElem? (i := 113) rfl))) (notFace_of_selects (args := #[]) (mvT hZ (hw _ (List.mem_of_getElem? (i := 115) rfl)))) (mvT hZ (hw _ (List.mem_of_getElem? (i := 115) rfl))) (mvT hZ (hw _ (List.mem_of_getElem? (i := 114) rfl))) (by decide) (StrChars.Road.chN (W := 0) hZ (own_wordsCh hw) (kI := 4) (hw _ (List.mem_of_getElem? (i := 8) rfl)) E_rp Fv_rp Fc_rp V_tp (StrChars.Road.codOf rfl fun c hc => (hchp c hc).2) (own_up hchp) S_CS P5 S_SI rf (Nat.le_trans hlp (by decide)) (i := 0) (own_lt_len (k := 0) hc7 (by decide) (Nat.le_trans hlp (by decide))) rfl (by decide) (by decide)) q11a q11c (g := (mkF m 30 #[.val (.ref r0), .val (.ref r1), .val (.int (0 : Int32)), .val (.int (0 : Int32))] [(.int (0 : Int32)), (.ref rp)])) rfl (by rw [hml]; rfl) (Steps.refl _) (argsL := [(.int (0 : Int32))]) (rest := []) (lenOf pd_9 rfl) rfl (by show 2 * 0 + _ ≤ _; exact Nat.le_of_eq rfl) (hb hby d_tail0_30) (fun _ _ => ⟨rfl, e9, (by decide : 0 + 0 ≤ _), (by decide : 0 + 0 ≤ _)⟩)
      dsimp only [Pt.U, Pt.locs, Pt.cells, Pt.slots] at X11 l11 y11 z11 st11 hQ11
      subst l11 y11 z11
      obtain ⟨rfl, rfl, eq11⟩ := hQ11
      have N11 := Fr.app N6 (Fr.nil n0)
      have k11 : Go p.tables e below (T9.setTop (mkF m 30 #[.val (.ref r0), .val (.ref r1), .val (.int (0 : Int32)), .val (.int (0 : Int32))] [(.int (0 : Int32)), (.ref rp)])) (T11.setTop (mkF m 33 #[.val (.ref r0), .val (.ref r1), .val (.int (0 : Int32)), .val (.int (0 : Int32))] [(.int (cs.getD 0 0))])) := fun _ ht => st11.trans ht
      have k12 : Go p.tables e below (T11.setTop (mkF m 33 #[.val (.ref r0), .val (.ref r1), .val (.int (0 : Int32)), .val (.int (0 : Int32))] [(.int (cs.getD 0 0))])) (T11.setTop (mkF m 35 #[.val (.ref r0), .val (.ref r1), .val (.int (0 : Int32)), .val (.int (0 : Int32))] [(.int (42 : Int32)), (.int (cs.getD 0 0))])) := by
        intro t ht
        refine XS.bipush X11.here hx rfl (hb hby d_tail0_33) ?_
        exact ht
      by_cases hc13 : (cs.getD 0 0) = (42 : Int32)
      · have k14 : Go p.tables e below (T11.setTop (mkF m 35 #[.val (.ref r0), .val (.ref r1), .val (.int (0 : Int32)), .val (.int (0 : Int32))] [(.int (42 : Int32)), (.int (cs.getD 0 0))])) (T11.setTop (mkF m 106 #[.val (.ref r0), .val (.ref r1), .val (.int (0 : Int32)), .val (.int (0 : Int32))] [(.ref r1), (.int (0 : Int32))])) := by
          intro t ht
          refine XS.icmpYes X11.here hx rfl (pc0 := 35) (pc' := 104) rfl (hb hby d_tail0_35) rfl (teq hc13).1 (by decide) (by decide) ?_
          show Steps p.tables e below (T11.setTop (mkF m 104 #[.val (.ref r0), .val (.ref r1), .val (.int (0 : Int32)), .val (.int (0 : Int32))] [])) _
          refine XS.iloadN X11.here hx rfl (hb hby d_tail0_104) rfl ?_
          show Steps p.tables e below (T11.setTop (mkF m 105 #[.val (.ref r0), .val (.ref r1), .val (.int (0 : Int32)), .val (.int (0 : Int32))] [(.int (0 : Int32))])) _
          refine XS.aloadN X11.here hx rfl (hb hby d_tail0_105) rfl rfl ?_
          exact ht
        obtain ⟨cq15, kq15, q15a, q15b, q15c⟩ := isOf hZ eq11 E_r1
        obtain ⟨_, _, ⟨T15, L15, kq15, n15⟩, -, X15, ⟨Lc15, hQ15, l15, y15, z15⟩, st15⟩ := X11.interfaceBack hx (xi := (⟨"java/lang/CharSequence", "length", "()I"⟩ : MethodName)) (y := (⟨"java/lang/String", "length", "()I"⟩ : MethodName)) hown (mvT hZ (hw _ (List.mem_of_getElem? (i := 90) rfl))) (mvT hZ (hw _ (List.mem_of_getElem? (i := 91) rfl))) (mvT hZ (hw _ (List.mem_of_getElem? (i := 92) rfl))) (mvT hZ (hw _ (List.mem_of_getElem? (i := 93) rfl))) (mvT hZ (hw _ (List.mem_of_getElem? (i := 61) rfl))) (mvT hZ (hw _ (List.mem_of_getElem? (i := 94) rfl))) (mvT hZ (hw _ (List.mem_of_getElem? (i := 95) rfl))) (mvT hZ (hw _ (List.mem_of_getElem? (i := 96) rfl))) (by decide) (StrChars.Road.lenW (W := 1) hZ (own_wordsLen hw) (kI := 4) (hw _ (List.mem_of_getElem? (i := 8) rfl)) E_r1 Fv_r1 Fc_r1 V_td (StrChars.Road.codOf rfl fun c hc => (hchd c hc).2) (own_up hchd) S_CS P5 (Nat.le_trans hld (by decide)) (by decide) (by decide)) q15a q15b q15c (g := (mkF m 106 #[.val (.ref r0), .val (.ref r1), .val (.int (0 : Int32)), .val (.int (0 : Int32))] [(.ref r1), (.int (0 : Int32))])) rfl (by rw [hml]; rfl) (Steps.refl _) (argsL := []) (rest := [(.int (0 : Int32))]) (lenOf pd_6 rfl) rfl (by show 2 * 0 + _ ≤ _; exact Nat.le_of_eq rfl) (hb hby d_tail0_106) (fun _ _ => ⟨rfl, eq11, (by decide : 0 + 0 ≤ _), (by decide : 0 + 0 ≤ _)⟩)
        dsimp only [Pt.U, Pt.locs, Pt.cells, Pt.slots] at X15 l15 y15 z15 st15 hQ15
        subst l15 y15 z15
        obtain ⟨rfl, rfl, eq15⟩ := hQ15
        have N15 := Fr.app N11 (Fr.nil n0)
        have k15 : Go p.tables e below (T11.setTop (mkF m 106 #[.val (.ref r0), .val (.ref r1), .val (.int (0 : Int32)), .val (.int (0 : Int32))] [(.ref r1), (.int (0 : Int32))])) (T15.setTop (mkF m 111 #[.val (.ref r0), .val (.ref r1), .val (.int (0 : Int32)), .val (.int (0 : Int32))] [(.int (Int32.ofNat ds.length)), (.int (0 : Int32))])) := fun _ ht => st15.trans ht
        by_cases hc16 : (0 : Int32) = (Int32.ofNat ds.length)
        · have k17 : Go p.tables e below (T15.setTop (mkF m 111 #[.val (.ref r0), .val (.ref r1), .val (.int (0 : Int32)), .val (.int (0 : Int32))] [(.int (Int32.ofNat ds.length)), (.int (0 : Int32))])) (T15.setTop (mkF m 130 #[.val (.ref r0), .val (.ref r1), .val (.int (0 : Int32)), .val (.int (0 : Int32))] [(.int (1 : Int32))])) := by
            intro t ht
            refine XS.icmpYes X15.here hx rfl (pc0 := 111) (pc' := 125) rfl (hb hby d_tail0_111) rfl (teq hc16).1 (by decide) (by decide) ?_
            show Steps p.tables e below (T15.setTop (mkF m 125 #[.val (.ref r0), .val (.ref r1), .val (.int (0 : Int32)), .val (.int (0 : Int32))] [])) _
            refine XS.iconst X15.here hx rfl (hb hby d_tail0_125) ?_
            show Steps p.tables e below (T15.setTop (mkF m 126 #[.val (.ref r0), .val (.ref r1), .val (.int (0 : Int32)), .val (.int (0 : Int32))] [(.int (1 : Int32))])) _
            refine XS.goto X15.here hx rfl (pc0 := 126) (pc' := 130) rfl (hb hby d_tail0_126) (by decide) (by decide) ?_
            exact ht
          refine ⟨T15, _, 130, #[.val (.ref r0), .val (.ref r1), .val (.int (0 : Int32)), .val (.int (0 : Int32))], X15, N15, eq15, (hb hby d_tail0_130), ?_⟩
          have kk := (goT k1 (goT k2 (goT k4 (goT k5 (goT k6 (goT k8 (goT k9 (goT k10 (goT k11 (goT k12 (goT k14 (goT k15 k17))))))))))))
          simpa only [f_tail0, if_neg P5, if_neg (own_len3 hld), if_pos hc3, if_pos hc7, if_pos hc13, if_pos hc16] using kk
        · have k18 : Go p.tables e below (T15.setTop (mkF m 111 #[.val (.ref r0), .val (.ref r1), .val (.int (0 : Int32)), .val (.int (0 : Int32))] [(.int (Int32.ofNat ds.length)), (.int (0 : Int32))])) (T15.setTop (mkF m 116 #[.val (.ref r0), .val (.ref r1), .val (.int (0 : Int32)), .val (.int (0 : Int32))] [(.ref r0), (.int (0 : Int32))])) := by
            intro t ht
            refine XS.icmpNo X15.here hx rfl (hb hby d_tail0_111) rfl (feq hc16).1 ?_
            show Steps p.tables e below (T15.setTop (mkF m 114 #[.val (.ref r0), .val (.ref r1), .val (.int (0 : Int32)), .val (.int (0 : Int32))] [])) _
            refine XS.iloadN X15.here hx rfl (hb hby d_tail0_114) rfl ?_
            show Steps p.tables e below (T15.setTop (mkF m 115 #[.val (.ref r0), .val (.ref r1), .val (.int (0 : Int32)), .val (.int (0 : Int32))] [(.int (0 : Int32))])) _
            refine XS.aloadN X15.here hx rfl (hb hby d_tail0_115) rfl rfl ?_
            exact ht
          obtain ⟨T19, X19, e19, st19⟩ := getF X15 hx hZ hown (host := "") (Or.inl (hw _ (List.mem_of_getElem? (i := 39) rfl))) Via.refl eq15 Fp (g := (mkF m 116 #[.val (.ref r0), .val (.ref r1), .val (.int (0 : Int32)), .val (.int (0 : Int32))] [(.ref r0), (.int (0 : Int32))])) rfl rfl (hb hby d_tail0_116)
          have k19 : Go p.tables e below (T15.setTop (mkF m 116 #[.val (.ref r0), .val (.ref r1), .val (.int (0 : Int32)), .val (.int (0 : Int32))] [(.ref r0), (.int (0 : Int32))])) (T19.setTop (mkF m 119 #[.val (.ref r0), .val (.ref r1), .val (.int (0 : Int32)), .val (.int (0 : Int32))] [(.ref rp), (.int (0 : Int32))])) := st19
          obtain ⟨cq20, kq20, q20a, q20b, q20c⟩ := isOf hZ e19 E_rp
          obtain ⟨_, _, ⟨T20, L20, kq20, n20⟩, -, X20, ⟨Lc20, hQ20, l20, y20, z20⟩, st20⟩ := X19.virtualBack hx (y := (⟨"java/lang/String", "length", "()I"⟩ : MethodName)) (z := (⟨"java/lang/String", "length", "()I"⟩ : MethodName)) hown (mvT hZ (hw _ (List.mem_of_getElem? (i := 111) rfl))) (mvT hZ (hw _ (List.mem_of_getElem? (i := 60) rfl))) (notFace_of_selects (args := #[]) (mvT hZ (hw _ (List.mem_of_getElem? (i := 62) rfl)))) (mvT hZ (hw _ (List.mem_of_getElem? (i := 62) rfl))) (mvT hZ (hw _ (List.mem_of_getElem? (i := 61) rfl))) (by decide) (StrChars.Road.lenW (W := 1) hZ (own_wordsLen hw) (kI := 4) (hw _ (List.mem_of_getElem? (i := 8) rfl)) E_rp Fv_rp Fc_rp V_tp (StrChars.Road.codOf rfl fun c hc => (hchp c hc).2) (own_up hchp) S_CS P5 (Nat.le_trans hlp (by decide)) (by decide) (by decide)) q20a q20c (g := (mkF m 119 #[.val (.ref r0), .val (.ref r1), .val (.int (0 : Int32)), .val (.int (0 : Int32))] [(.ref rp), (.int (0 : Int32))])) rfl (by rw [hml]; rfl) (Steps.refl _) (argsL := []) (rest := [(.int (0 : Int32))]) (lenOf pd_6 rfl) rfl (by show 2 * 0 + _ ≤ _; exact Nat.le_of_eq rfl) (hb hby d_tail0_119) (fun _ _ => ⟨rfl, e19, (by decide : 0 + 0 ≤ _), (by decide : 0 + 0 ≤ _)⟩)
          dsimp only [Pt.U, Pt.locs, Pt.cells, Pt.slots] at X20 l20 y20 z20 st20 hQ20
          subst l20 y20 z20
          obtain ⟨rfl, rfl, eq20⟩ := hQ20
          have N20 := Fr.app N15 (Fr.nil n0)
          have k20 : Go p.tables e below (T19.setTop (mkF m 119 #[.val (.ref r0), .val (.ref r1), .val (.int (0 : Int32)), .val (.int (0 : Int32))] [(.ref rp), (.int (0 : Int32))])) (T20.setTop (mkF m 122 #[.val (.ref r0), .val (.ref r1), .val (.int (0 : Int32)), .val (.int (0 : Int32))] [(.int (Int32.ofNat cs.length)), (.int (0 : Int32))])) := fun _ ht => st20.trans ht
          have k21 : Go p.tables e below (T20.setTop (mkF m 122 #[.val (.ref r0), .val (.ref r1), .val (.int (0 : Int32)), .val (.int (0 : Int32))] [(.int (Int32.ofNat cs.length)), (.int (0 : Int32))])) (T20.setTop (mkF m 130 #[.val (.ref r0), .val (.ref r1), .val (.int (0 : Int32)), .val (.int (0 : Int32))] [(.int (1 : Int32))])) := by
            intro t ht
            refine XS.icmpNo X20.here hx rfl (hb hby d_tail0_122) rfl (tlt hc7).2.1 ?_
            show Steps p.tables e below (T20.setTop (mkF m 125 #[.val (.ref r0), .val (.ref r1), .val (.int (0 : Int32)), .val (.int (0 : Int32))] [])) _
            refine XS.iconst X20.here hx rfl (hb hby d_tail0_125) ?_
            show Steps p.tables e below (T20.setTop (mkF m 126 #[.val (.ref r0), .val (.ref r1), .val (.int (0 : Int32)), .val (.int (0 : Int32))] [(.int (1 : Int32))])) _
            refine XS.goto X20.here hx rfl (pc0 := 126) (pc' := 130) rfl (hb hby d_tail0_126) (by decide) (by decide) ?_
            exact ht
          refine ⟨T20, _, 130, #[.val (.ref r0), .val (.ref r1), .val (.int (0 : Int32)), .val (.int (0 : Int32))], X20, N20, eq20, (hb hby d_tail0_130), ?_⟩
          have kk := (goT k1 (goT k2 (goT k4 (goT k5 (goT k6 (goT k8 (goT k9 (goT k10 (goT k11 (goT k12 (goT k14 (goT k15 (goT k18 (goT k19 (goT k20 k21)))))))))))))))
          simpa only [f_tail0, if_neg P5, if_neg (own_len3 hld), if_pos hc3, if_pos hc7, if_pos hc13, if_neg hc16] using kk
      · have k22 : Go p.tables e below (T11.setTop (mkF m 35 #[.val (.ref r0), .val (.ref r1), .val (.int (0 : Int32)), .val (.int (0 : Int32))] [(.int (42 : Int32)), (.int (cs.getD 0 0))])) (T11.setTop (mkF m 39 #[.val (.ref r0), .val (.ref r1), .val (.int (0 : Int32)), .val (.int (0 : Int32))] [(.ref r0)])) := by
          intro t ht
          refine XS.icmpNo X11.here hx rfl (hb hby d_tail0_35) rfl (feq hc13).1 ?_
          show Steps p.tables e below (T11.setTop (mkF m 38 #[.val (.ref r0), .val (.ref r1), .val (.int (0 : Int32)), .val (.int (0 : Int32))] [])) _
          refine XS.aloadN X11.here hx rfl (hb hby d_tail0_38) rfl rfl ?_
          exact ht
        obtain ⟨T23, X23, e23, st23⟩ := getF X11 hx hZ hown (host := "") (Or.inl (hw _ (List.mem_of_getElem? (i := 41) rfl))) Via.refl eq11 Fa (g := (mkF m 39 #[.val (.ref r0), .val (.ref r1), .val (.int (0 : Int32)), .val (.int (0 : Int32))] [(.ref r0)])) rfl rfl (hb hby d_tail0_39)
        have k23 : Go p.tables e below (T11.setTop (mkF m 39 #[.val (.ref r0), .val (.ref r1), .val (.int (0 : Int32)), .val (.int (0 : Int32))] [(.ref r0)])) (T23.setTop (mkF m 42 #[.val (.ref r0), .val (.ref r1), .val (.int (0 : Int32)), .val (.int (0 : Int32))] [(.int (0 : Int32))])) := st23
        have k24 : Go p.tables e below (T23.setTop (mkF m 42 #[.val (.ref r0), .val (.ref r1), .val (.int (0 : Int32)), .val (.int (0 : Int32))] [(.int (0 : Int32))])) (T23.setTop (mkF m 73 #[.val (.ref r0), .val (.ref r1), .val (.int (0 : Int32)), .val (.int (0 : Int32))] [(.ref r0)])) := by
          intro t ht
          refine XS.ifYes X23.here hx rfl (pc0 := 42) (pc' := 72) rfl (hb hby d_tail0_42) rfl ((if0 _ _).trans (teq (by decide : (0 : Int32) = (0 : Int32))).1) (by decide) (by decide) ?_
          show Steps p.tables e below (T23.setTop (mkF m 72 #[.val (.ref r0), .val (.ref r1), .val (.int (0 : Int32)), .val (.int (0 : Int32))] [])) _
          refine XS.aloadN X23.here hx rfl (hb hby d_tail0_72) rfl rfl ?_
          exact ht
        obtain ⟨T25, X25, e25, st25⟩ := getF X23 hx hZ hown (host := "") (Or.inl (hw _ (List.mem_of_getElem? (i := 39) rfl))) Via.refl e23 Fp (g := (mkF m 73 #[.val (.ref r0), .val (.ref r1), .val (.int (0 : Int32)), .val (.int (0 : Int32))] [(.ref r0)])) rfl rfl (hb hby d_tail0_73)
        have k25 : Go p.tables e below (T23.setTop (mkF m 73 #[.val (.ref r0), .val (.ref r1), .val (.int (0 : Int32)), .val (.int (0 : Int32))] [(.ref r0)])) (T25.setTop (mkF m 76 #[.val (.ref r0), .val (.ref r1), .val (.int (0 : Int32)), .val (.int (0 : Int32))] [(.ref rp)])) := st25
        have k26 : Go p.tables e below (T25.setTop (mkF m 76 #[.val (.ref r0), .val (.ref r1), .val (.int (0 : Int32)), .val (.int (0 : Int32))] [(.ref rp)])) (T25.setTop (mkF m 77 #[.val (.ref r0), .val (.ref r1), .val (.int (0 : Int32)), .val (.int (0 : Int32))] [(.int (0 : Int32)), (.ref rp)])) := by
          intro t ht
          refine XS.iloadN X25.here hx rfl (hb hby d_tail0_76) rfl ?_
          exact ht
        obtain ⟨cq27, kq27, q27a, q27b, q27c⟩ := isOf hZ e25 E_rp
        obtain ⟨_, _, ⟨T27, L27, kq27, n27⟩, -, X27, ⟨Lc27, hQ27, l27, y27, z27⟩, st27⟩ := X25.virtualBack hx (y := (⟨"java/lang/String", "charAt", "(I)C"⟩ : MethodName)) (z := (⟨"java/lang/String", "charAt", "(I)C"⟩ : MethodName)) hown (mvT hZ (hw _ (List.mem_of_getElem? (i := 112) rfl))) (mvT hZ (hw _ (List.mem_of_getElem? (i := 113) rfl))) (notFace_of_selects (args := #[]) (mvT hZ (hw _ (List.mem_of_getElem? (i := 115) rfl)))) (mvT hZ (hw _ (List.mem_of_getElem? (i := 115) rfl))) (mvT hZ (hw _ (List.mem_of_getElem? (i := 114) rfl))) (by decide) (StrChars.Road.chN (W := 0) hZ (own_wordsCh hw) (kI := 4) (hw _ (List.mem_of_getElem? (i := 8) rfl)) E_rp Fv_rp Fc_rp V_tp (StrChars.Road.codOf rfl fun c hc => (hchp c hc).2) (own_up hchp) S_CS P5 S_SI rf (Nat.le_trans hlp (by decide)) (i := 0) (own_lt_len (k := 0) hc7 (by decide) (Nat.le_trans hlp (by decide))) rfl (by decide) (by decide)) q27a q27c (g := (mkF m 77 #[.val (.ref r0), .val (.ref r1), .val (.int (0 : Int32)), .val (.int (0 : Int32))] [(.int (0 : Int32)), (.ref rp)])) rfl (by rw [hml]; rfl) (Steps.refl _) (argsL := [(.int (0 : Int32))]) (rest := []) (lenOf pd_9 rfl) rfl (by show 2 * 0 + _ ≤ _; exact Nat.le_of_eq rfl) (hb hby d_tail0_77) (fun _ _ => ⟨rfl, e25, (by decide : 0 + 0 ≤ _), (by decide : 0 + 0 ≤ _)⟩)
        dsimp only [Pt.U, Pt.locs, Pt.cells, Pt.slots] at X27 l27 y27 z27 st27 hQ27
        subst l27 y27 z27
        obtain ⟨rfl, rfl, eq27⟩ := hQ27
        have N27 := Fr.app N11 (Fr.nil n0)
        have k27 : Go p.tables e below (T25.setTop (mkF m 77 #[.val (.ref r0), .val (.ref r1), .val (.int (0 : Int32)), .val (.int (0 : Int32))] [(.int (0 : Int32)), (.ref rp)])) (T27.setTop (mkF m 80 #[.val (.ref r0), .val (.ref r1), .val (.int (0 : Int32)), .val (.int (0 : Int32))] [(.int (cs.getD 0 0))])) := fun _ ht => st27.trans ht
        have k28 : Go p.tables e below (T27.setTop (mkF m 80 #[.val (.ref r0), .val (.ref r1), .val (.int (0 : Int32)), .val (.int (0 : Int32))] [(.int (cs.getD 0 0))])) (T27.setTop (mkF m 82 #[.val (.ref r0), .val (.ref r1), .val (.int (0 : Int32)), .val (.int (0 : Int32))] [(.int (0 : Int32)), (.ref r1), (.int (cs.getD 0 0))])) := by
          intro t ht
          refine XS.aloadN X27.here hx rfl (hb hby d_tail0_80) rfl rfl ?_
          show Steps p.tables e below (T27.setTop (mkF m 81 #[.val (.ref r0), .val (.ref r1), .val (.int (0 : Int32)), .val (.int (0 : Int32))] [(.ref r1), (.int (cs.getD 0 0))])) _
          refine XS.iloadN X27.here hx rfl (hb hby d_tail0_81) rfl ?_
          exact ht
        obtain ⟨cq29, kq29, q29a, q29b, q29c⟩ := isOf hZ eq27 E_r1
        obtain ⟨_, _, ⟨T29, L29, kq29, n29⟩, -, X29, ⟨Lc29, hQ29, l29, y29, z29⟩, st29⟩ := X27.interfaceBack hx (xi := (⟨"java/lang/CharSequence", "charAt", "(I)C"⟩ : MethodName)) (y := (⟨"java/lang/String", "charAt", "(I)C"⟩ : MethodName)) hown (mvT hZ (hw _ (List.mem_of_getElem? (i := 128) rfl))) (mvT hZ (hw _ (List.mem_of_getElem? (i := 129) rfl))) (mvT hZ (hw _ (List.mem_of_getElem? (i := 130) rfl))) (mvT hZ (hw _ (List.mem_of_getElem? (i := 131) rfl))) (mvT hZ (hw _ (List.mem_of_getElem? (i := 114) rfl))) (mvT hZ (hw _ (List.mem_of_getElem? (i := 132) rfl))) (mvT hZ (hw _ (List.mem_of_getElem? (i := 133) rfl))) (mvT hZ (hw _ (List.mem_of_getElem? (i := 96) rfl))) (by decide) (StrChars.Road.chN (W := 1) hZ (own_wordsCh hw) (kI := 4) (hw _ (List.mem_of_getElem? (i := 8) rfl)) E_r1 Fv_r1 Fc_r1 V_td (StrChars.Road.codOf rfl fun c hc => (hchd c hc).2) (own_up hchd) S_CS P5 S_SI rf (Nat.le_trans hld (by decide)) (i := 0) (own_lt_len (k := 0) hc3 (by decide) (Nat.le_trans hld (by decide))) rfl (by decide) (by decide)) q29a q29b q29c (g := (mkF m 82 #[.val (.ref r0), .val (.ref r1), .val (.int (0 : Int32)), .val (.int (0 : Int32))] [(.int (0 : Int32)), (.ref r1), (.int (cs.getD 0 0))])) rfl (by rw [hml]; rfl) (Steps.refl _) (argsL := [(.int (0 : Int32))]) (rest := [(.int (cs.getD 0 0))]) (lenOf pd_9 rfl) rfl (by show 2 * 0 + _ ≤ _; exact Nat.le_of_eq rfl) (hb hby d_tail0_82) (fun _ _ => ⟨rfl, eq27, (by decide : 0 + 0 ≤ _), (by decide : 0 + 0 ≤ _)⟩)
        dsimp only [Pt.U, Pt.locs, Pt.cells, Pt.slots] at X29 l29 y29 z29 st29 hQ29
        subst l29 y29 z29
        obtain ⟨rfl, rfl, eq29⟩ := hQ29
        have N29 := Fr.app N27 (Fr.nil n0)
        have k29 : Go p.tables e below (T27.setTop (mkF m 82 #[.val (.ref r0), .val (.ref r1), .val (.int (0 : Int32)), .val (.int (0 : Int32))] [(.int (0 : Int32)), (.ref r1), (.int (cs.getD 0 0))])) (T29.setTop (mkF m 87 #[.val (.ref r0), .val (.ref r1), .val (.int (0 : Int32)), .val (.int (0 : Int32))] [(.int (ds.getD 0 0)), (.int (cs.getD 0 0))])) := fun _ ht => st29.trans ht
        by_cases hc30 : (cs.getD 0 0) = (ds.getD 0 0)
        · have k31 : Go p.tables e below (T29.setTop (mkF m 87 #[.val (.ref r0), .val (.ref r1), .val (.int (0 : Int32)), .val (.int (0 : Int32))] [(.int (ds.getD 0 0)), (.int (cs.getD 0 0))])) (T29.setTop (mkF m 4 #[.val (.ref r0), .val (.ref r1), .val (.int (1 : Int32)), .val (.int (1 : Int32))] [])) := by
            intro t ht
            refine XS.icmpNo X29.here hx rfl (hb hby d_tail0_87) rfl (teq hc30).2 ?_
            show Steps p.tables e below (T29.setTop (mkF m 90 #[.val (.ref r0), .val (.ref r1), .val (.int (0 : Int32)), .val (.int (0 : Int32))] [])) _
            refine XS.iinc X29.here hx rfl (hb hby d_tail0_90) rfl (l' := #[.val (.ref r0), .val (.ref r1), .val (.int (0 : Int32)), .val (.int (1 : Int32))]) rfl ?_
            show Steps p.tables e below (T29.setTop (mkF m 93 #[.val (.ref r0), .val (.ref r1), .val (.int (0 : Int32)), .val (.int (1 : Int32))] [])) _
            refine XS.goto X29.here hx rfl (pc0 := 93) (pc' := 98) rfl (hb hby d_tail0_93) (by decide) (by decide) ?_
            show Steps p.tables e below (T29.setTop (mkF m 98 #[.val (.ref r0), .val (.ref r1), .val (.int (0 : Int32)), .val (.int (1 : Int32))] [])) _
            refine XS.iinc X29.here hx rfl (hb hby d_tail0_98) rfl (l' := #[.val (.ref r0), .val (.ref r1), .val (.int (1 : Int32)), .val (.int (1 : Int32))]) rfl ?_
            show Steps p.tables e below (T29.setTop (mkF m 101 #[.val (.ref r0), .val (.ref r1), .val (.int (1 : Int32)), .val (.int (1 : Int32))] [])) _
            refine XS.goto X29.here hx rfl (pc0 := 101) (pc' := 4) rfl (hb hby d_tail0_101) (by decide) (by decide) ?_
            exact ht
          obtain ⟨T32, L32, pc32, Ls32, X32, N32, e32, hd32, kr32⟩ := pc_tail1 r0 r1 rp tp td kp kd cs ds G1 fm X29 hx hZ hw hby hml hown eq29 N29 Z0 E_r0 Fp Fa E_rp Fv_rp Fc_rp E_r1 Fv_r1 Fc_r1 S_CS S_SI V_tp V_td P5 rf hchp hchd hlp hld
          refine ⟨T32, L32, pc32, Ls32, X32, N32, e32, hd32, ?_⟩
          have kk := goT (goT k1 (goT k2 (goT k4 (goT k5 (goT k6 (goT k8 (goT k9 (goT k10 (goT k11 (goT k12 (goT k22 (goT k23 (goT k24 (goT k25 (goT k26 (goT k27 (goT k28 (goT k29 k31)))))))))))))))))) kr32
          simpa only [f_tail0, if_neg P5, if_neg (own_len3 hld), if_pos hc3, if_pos hc7, if_neg hc13, if_pos hc30] using kk
        · have k33 : Go p.tables e below (T29.setTop (mkF m 87 #[.val (.ref r0), .val (.ref r1), .val (.int (0 : Int32)), .val (.int (0 : Int32))] [(.int (ds.getD 0 0)), (.int (cs.getD 0 0))])) (T29.setTop (mkF m 97 #[.val (.ref r0), .val (.ref r1), .val (.int (0 : Int32)), .val (.int (0 : Int32))] [(.int (0 : Int32))])) := by
            intro t ht
            refine XS.icmpYes X29.here hx rfl (pc0 := 87) (pc' := 96) rfl (hb hby d_tail0_87) rfl (feq hc30).2 (by decide) (by decide) ?_
            show Steps p.tables e below (T29.setTop (mkF m 96 #[.val (.ref r0), .val (.ref r1), .val (.int (0 : Int32)), .val (.int (0 : Int32))] [])) _
            refine XS.iconst X29.here hx rfl (hb hby d_tail0_96) ?_
            exact ht
          refine ⟨T29, _, 97, #[.val (.ref r0), .val (.ref r1), .val (.int (0 : Int32)), .val (.int (0 : Int32))], X29, N29, eq29, (hb hby d_tail0_97), ?_⟩
          have kk := (goT k1 (goT k2 (goT k4 (goT k5 (goT k6 (goT k8 (goT k9 (goT k10 (goT k11 (goT k12 (goT k22 (goT k23 (goT k24 (goT k25 (goT k26 (goT k27 (goT k28 (goT k29 k33))))))))))))))))))
          simpa only [f_tail0, if_neg P5, if_neg (own_len3 hld), if_pos hc3, if_pos hc7, if_neg hc13, if_neg hc30] using kk
    · have k34 : Go p.tables e below (T6.setTop (mkF m 22 #[.val (.ref r0), .val (.ref r1), .val (.int (0 : Int32)), .val (.int (0 : Int32))] [(.int (Int32.ofNat cs.length)), (.int (0 : Int32))])) (T6.setTop (mkF m 106 #[.val (.ref r0), .val (.ref r1), .val (.int (0 : Int32)), .val (.int (0 : Int32))] [(.ref r1), (.int (0 : Int32))])) := by
        intro t ht
        refine XS.icmpYes X6.here hx rfl (pc0 := 22) (pc' := 104) rfl (hb hby d_tail0_22) rfl (flt hc7).2.1 (by decide) (by decide) ?_
        show Steps p.tables e below (T6.setTop (mkF m 104 #[.val (.ref r0), .val (.ref r1), .val (.int (0 : Int32)), .val (.int (0 : Int32))] [])) _
        refine XS.iloadN X6.here hx rfl (hb hby d_tail0_104) rfl ?_
        show Steps p.tables e below (T6.setTop (mkF m 105 #[.val (.ref r0), .val (.ref r1), .val (.int (0 : Int32)), .val (.int (0 : Int32))] [(.int (0 : Int32))])) _
        refine XS.aloadN X6.here hx rfl (hb hby d_tail0_105) rfl rfl ?_
        exact ht
      obtain ⟨cq35, kq35, q35a, q35b, q35c⟩ := isOf hZ eq6 E_r1
      obtain ⟨_, _, ⟨T35, L35, kq35, n35⟩, -, X35, ⟨Lc35, hQ35, l35, y35, z35⟩, st35⟩ := X6.interfaceBack hx (xi := (⟨"java/lang/CharSequence", "length", "()I"⟩ : MethodName)) (y := (⟨"java/lang/String", "length", "()I"⟩ : MethodName)) hown (mvT hZ (hw _ (List.mem_of_getElem? (i := 90) rfl))) (mvT hZ (hw _ (List.mem_of_getElem? (i := 91) rfl))) (mvT hZ (hw _ (List.mem_of_getElem? (i := 92) rfl))) (mvT hZ (hw _ (List.mem_of_getElem? (i := 93) rfl))) (mvT hZ (hw _ (List.mem_of_getElem? (i := 61) rfl))) (mvT hZ (hw _ (List.mem_of_getElem? (i := 94) rfl))) (mvT hZ (hw _ (List.mem_of_getElem? (i := 95) rfl))) (mvT hZ (hw _ (List.mem_of_getElem? (i := 96) rfl))) (by decide) (StrChars.Road.lenW (W := 1) hZ (own_wordsLen hw) (kI := 4) (hw _ (List.mem_of_getElem? (i := 8) rfl)) E_r1 Fv_r1 Fc_r1 V_td (StrChars.Road.codOf rfl fun c hc => (hchd c hc).2) (own_up hchd) S_CS P5 (Nat.le_trans hld (by decide)) (by decide) (by decide)) q35a q35b q35c (g := (mkF m 106 #[.val (.ref r0), .val (.ref r1), .val (.int (0 : Int32)), .val (.int (0 : Int32))] [(.ref r1), (.int (0 : Int32))])) rfl (by rw [hml]; rfl) (Steps.refl _) (argsL := []) (rest := [(.int (0 : Int32))]) (lenOf pd_6 rfl) rfl (by show 2 * 0 + _ ≤ _; exact Nat.le_of_eq rfl) (hb hby d_tail0_106) (fun _ _ => ⟨rfl, eq6, (by decide : 0 + 0 ≤ _), (by decide : 0 + 0 ≤ _)⟩)
      dsimp only [Pt.U, Pt.locs, Pt.cells, Pt.slots] at X35 l35 y35 z35 st35 hQ35
      subst l35 y35 z35
      obtain ⟨rfl, rfl, eq35⟩ := hQ35
      have N35 := Fr.app N6 (Fr.nil n0)
      have k35 : Go p.tables e below (T6.setTop (mkF m 106 #[.val (.ref r0), .val (.ref r1), .val (.int (0 : Int32)), .val (.int (0 : Int32))] [(.ref r1), (.int (0 : Int32))])) (T35.setTop (mkF m 111 #[.val (.ref r0), .val (.ref r1), .val (.int (0 : Int32)), .val (.int (0 : Int32))] [(.int (Int32.ofNat ds.length)), (.int (0 : Int32))])) := fun _ ht => st35.trans ht
      by_cases hc36 : (0 : Int32) = (Int32.ofNat ds.length)
      · have k37 : Go p.tables e below (T35.setTop (mkF m 111 #[.val (.ref r0), .val (.ref r1), .val (.int (0 : Int32)), .val (.int (0 : Int32))] [(.int (Int32.ofNat ds.length)), (.int (0 : Int32))])) (T35.setTop (mkF m 130 #[.val (.ref r0), .val (.ref r1), .val (.int (0 : Int32)), .val (.int (0 : Int32))] [(.int (1 : Int32))])) := by
          intro t ht
          refine XS.icmpYes X35.here hx rfl (pc0 := 111) (pc' := 125) rfl (hb hby d_tail0_111) rfl (teq hc36).1 (by decide) (by decide) ?_
          show Steps p.tables e below (T35.setTop (mkF m 125 #[.val (.ref r0), .val (.ref r1), .val (.int (0 : Int32)), .val (.int (0 : Int32))] [])) _
          refine XS.iconst X35.here hx rfl (hb hby d_tail0_125) ?_
          show Steps p.tables e below (T35.setTop (mkF m 126 #[.val (.ref r0), .val (.ref r1), .val (.int (0 : Int32)), .val (.int (0 : Int32))] [(.int (1 : Int32))])) _
          refine XS.goto X35.here hx rfl (pc0 := 126) (pc' := 130) rfl (hb hby d_tail0_126) (by decide) (by decide) ?_
          exact ht
        refine ⟨T35, _, 130, #[.val (.ref r0), .val (.ref r1), .val (.int (0 : Int32)), .val (.int (0 : Int32))], X35, N35, eq35, (hb hby d_tail0_130), ?_⟩
        have kk := (goT k1 (goT k2 (goT k4 (goT k5 (goT k6 (goT k34 (goT k35 k37)))))))
        simpa only [f_tail0, if_neg P5, if_neg (own_len3 hld), if_pos hc3, if_neg hc7, if_pos hc36] using kk
      · have k38 : Go p.tables e below (T35.setTop (mkF m 111 #[.val (.ref r0), .val (.ref r1), .val (.int (0 : Int32)), .val (.int (0 : Int32))] [(.int (Int32.ofNat ds.length)), (.int (0 : Int32))])) (T35.setTop (mkF m 116 #[.val (.ref r0), .val (.ref r1), .val (.int (0 : Int32)), .val (.int (0 : Int32))] [(.ref r0), (.int (0 : Int32))])) := by
          intro t ht
          refine XS.icmpNo X35.here hx rfl (hb hby d_tail0_111) rfl (feq hc36).1 ?_
          show Steps p.tables e below (T35.setTop (mkF m 114 #[.val (.ref r0), .val (.ref r1), .val (.int (0 : Int32)), .val (.int (0 : Int32))] [])) _
          refine XS.iloadN X35.here hx rfl (hb hby d_tail0_114) rfl ?_
          show Steps p.tables e below (T35.setTop (mkF m 115 #[.val (.ref r0), .val (.ref r1), .val (.int (0 : Int32)), .val (.int (0 : Int32))] [(.int (0 : Int32))])) _
          refine XS.aloadN X35.here hx rfl (hb hby d_tail0_115) rfl rfl ?_
          exact ht
        obtain ⟨T39, X39, e39, st39⟩ := getF X35 hx hZ hown (host := "") (Or.inl (hw _ (List.mem_of_getElem? (i := 39) rfl))) Via.refl eq35 Fp (g := (mkF m 116 #[.val (.ref r0), .val (.ref r1), .val (.int (0 : Int32)), .val (.int (0 : Int32))] [(.ref r0), (.int (0 : Int32))])) rfl rfl (hb hby d_tail0_116)
        have k39 : Go p.tables e below (T35.setTop (mkF m 116 #[.val (.ref r0), .val (.ref r1), .val (.int (0 : Int32)), .val (.int (0 : Int32))] [(.ref r0), (.int (0 : Int32))])) (T39.setTop (mkF m 119 #[.val (.ref r0), .val (.ref r1), .val (.int (0 : Int32)), .val (.int (0 : Int32))] [(.ref rp), (.int (0 : Int32))])) := st39
        obtain ⟨cq40, kq40, q40a, q40b, q40c⟩ := isOf hZ e39 E_rp
        obtain ⟨_, _, ⟨T40, L40, kq40, n40⟩, -, X40, ⟨Lc40, hQ40, l40, y40, z40⟩, st40⟩ := X39.virtualBack hx (y := (⟨"java/lang/String", "length", "()I"⟩ : MethodName)) (z := (⟨"java/lang/String", "length", "()I"⟩ : MethodName)) hown (mvT hZ (hw _ (List.mem_of_getElem? (i := 111) rfl))) (mvT hZ (hw _ (List.mem_of_getElem? (i := 60) rfl))) (notFace_of_selects (args := #[]) (mvT hZ (hw _ (List.mem_of_getElem? (i := 62) rfl)))) (mvT hZ (hw _ (List.mem_of_getElem? (i := 62) rfl))) (mvT hZ (hw _ (List.mem_of_getElem? (i := 61) rfl))) (by decide) (StrChars.Road.lenW (W := 1) hZ (own_wordsLen hw) (kI := 4) (hw _ (List.mem_of_getElem? (i := 8) rfl)) E_rp Fv_rp Fc_rp V_tp (StrChars.Road.codOf rfl fun c hc => (hchp c hc).2) (own_up hchp) S_CS P5 (Nat.le_trans hlp (by decide)) (by decide) (by decide)) q40a q40c (g := (mkF m 119 #[.val (.ref r0), .val (.ref r1), .val (.int (0 : Int32)), .val (.int (0 : Int32))] [(.ref rp), (.int (0 : Int32))])) rfl (by rw [hml]; rfl) (Steps.refl _) (argsL := []) (rest := [(.int (0 : Int32))]) (lenOf pd_6 rfl) rfl (by show 2 * 0 + _ ≤ _; exact Nat.le_of_eq rfl) (hb hby d_tail0_119) (fun _ _ => ⟨rfl, e39, (by decide : 0 + 0 ≤ _), (by decide : 0 + 0 ≤ _)⟩)
        dsimp only [Pt.U, Pt.locs, Pt.cells, Pt.slots] at X40 l40 y40 z40 st40 hQ40
        subst l40 y40 z40
        obtain ⟨rfl, rfl, eq40⟩ := hQ40
        have N40 := Fr.app N35 (Fr.nil n0)
        have k40 : Go p.tables e below (T39.setTop (mkF m 119 #[.val (.ref r0), .val (.ref r1), .val (.int (0 : Int32)), .val (.int (0 : Int32))] [(.ref rp), (.int (0 : Int32))])) (T40.setTop (mkF m 122 #[.val (.ref r0), .val (.ref r1), .val (.int (0 : Int32)), .val (.int (0 : Int32))] [(.int (Int32.ofNat cs.length)), (.int (0 : Int32))])) := fun _ ht => st40.trans ht
        have k41 : Go p.tables e below (T40.setTop (mkF m 122 #[.val (.ref r0), .val (.ref r1), .val (.int (0 : Int32)), .val (.int (0 : Int32))] [(.int (Int32.ofNat cs.length)), (.int (0 : Int32))])) (T40.setTop (mkF m 130 #[.val (.ref r0), .val (.ref r1), .val (.int (0 : Int32)), .val (.int (0 : Int32))] [(.int (0 : Int32))])) := by
          intro t ht
          refine XS.icmpYes X40.here hx rfl (pc0 := 122) (pc' := 129) rfl (hb hby d_tail0_122) rfl (flt hc7).2.1 (by decide) (by decide) ?_
          show Steps p.tables e below (T40.setTop (mkF m 129 #[.val (.ref r0), .val (.ref r1), .val (.int (0 : Int32)), .val (.int (0 : Int32))] [])) _
          refine XS.iconst X40.here hx rfl (hb hby d_tail0_129) ?_
          exact ht
        refine ⟨T40, _, 130, #[.val (.ref r0), .val (.ref r1), .val (.int (0 : Int32)), .val (.int (0 : Int32))], X40, N40, eq40, (hb hby d_tail0_130), ?_⟩
        have kk := (goT k1 (goT k2 (goT k4 (goT k5 (goT k6 (goT k34 (goT k35 (goT k38 (goT k39 (goT k40 k41))))))))))
        simpa only [f_tail0, if_neg P5, if_neg (own_len3 hld), if_pos hc3, if_neg hc7, if_neg hc36] using kk
  · have k42 : Go p.tables e below (T2.setTop (mkF m 11 #[.val (.ref r0), .val (.ref r1), .val (.int (0 : Int32)), .val (.int (0 : Int32))] [(.int (Int32.ofNat ds.length)), (.int (0 : Int32))])) (T2.setTop (mkF m 106 #[.val (.ref r0), .val (.ref r1), .val (.int (0 : Int32)), .val (.int (0 : Int32))] [(.ref r1), (.int (0 : Int32))])) := by
      intro t ht
      refine XS.icmpYes X2.here hx rfl (pc0 := 11) (pc' := 104) rfl (hb hby d_tail0_11) rfl (flt hc3).2.1 (by decide) (by decide) ?_
      show Steps p.tables e below (T2.setTop (mkF m 104 #[.val (.ref r0), .val (.ref r1), .val (.int (0 : Int32)), .val (.int (0 : Int32))] [])) _
      refine XS.iloadN X2.here hx rfl (hb hby d_tail0_104) rfl ?_
      show Steps p.tables e below (T2.setTop (mkF m 105 #[.val (.ref r0), .val (.ref r1), .val (.int (0 : Int32)), .val (.int (0 : Int32))] [(.int (0 : Int32))])) _
      refine XS.aloadN X2.here hx rfl (hb hby d_tail0_105) rfl rfl ?_
      exact ht
    obtain ⟨cq43, kq43, q43a, q43b, q43c⟩ := isOf hZ eq2 E_r1
    obtain ⟨_, _, ⟨T43, L43, kq43, n43⟩, -, X43, ⟨Lc43, hQ43, l43, y43, z43⟩, st43⟩ := X2.interfaceBack hx (xi := (⟨"java/lang/CharSequence", "length", "()I"⟩ : MethodName)) (y := (⟨"java/lang/String", "length", "()I"⟩ : MethodName)) hown (mvT hZ (hw _ (List.mem_of_getElem? (i := 90) rfl))) (mvT hZ (hw _ (List.mem_of_getElem? (i := 91) rfl))) (mvT hZ (hw _ (List.mem_of_getElem? (i := 92) rfl))) (mvT hZ (hw _ (List.mem_of_getElem? (i := 93) rfl))) (mvT hZ (hw _ (List.mem_of_getElem? (i := 61) rfl))) (mvT hZ (hw _ (List.mem_of_getElem? (i := 94) rfl))) (mvT hZ (hw _ (List.mem_of_getElem? (i := 95) rfl))) (mvT hZ (hw _ (List.mem_of_getElem? (i := 96) rfl))) (by decide) (StrChars.Road.lenW (W := 1) hZ (own_wordsLen hw) (kI := 4) (hw _ (List.mem_of_getElem? (i := 8) rfl)) E_r1 Fv_r1 Fc_r1 V_td (StrChars.Road.codOf rfl fun c hc => (hchd c hc).2) (own_up hchd) S_CS P5 (Nat.le_trans hld (by decide)) (by decide) (by decide)) q43a q43b q43c (g := (mkF m 106 #[.val (.ref r0), .val (.ref r1), .val (.int (0 : Int32)), .val (.int (0 : Int32))] [(.ref r1), (.int (0 : Int32))])) rfl (by rw [hml]; rfl) (Steps.refl _) (argsL := []) (rest := [(.int (0 : Int32))]) (lenOf pd_6 rfl) rfl (by show 2 * 0 + _ ≤ _; exact Nat.le_of_eq rfl) (hb hby d_tail0_106) (fun _ _ => ⟨rfl, eq2, (by decide : 0 + 0 ≤ _), (by decide : 0 + 0 ≤ _)⟩)
    dsimp only [Pt.U, Pt.locs, Pt.cells, Pt.slots] at X43 l43 y43 z43 st43 hQ43
    subst l43 y43 z43
    obtain ⟨rfl, rfl, eq43⟩ := hQ43
    have N43 := Fr.app N2 (Fr.nil n0)
    have k43 : Go p.tables e below (T2.setTop (mkF m 106 #[.val (.ref r0), .val (.ref r1), .val (.int (0 : Int32)), .val (.int (0 : Int32))] [(.ref r1), (.int (0 : Int32))])) (T43.setTop (mkF m 111 #[.val (.ref r0), .val (.ref r1), .val (.int (0 : Int32)), .val (.int (0 : Int32))] [(.int (Int32.ofNat ds.length)), (.int (0 : Int32))])) := fun _ ht => st43.trans ht
    by_cases hc44 : (0 : Int32) = (Int32.ofNat ds.length)
    · have k45 : Go p.tables e below (T43.setTop (mkF m 111 #[.val (.ref r0), .val (.ref r1), .val (.int (0 : Int32)), .val (.int (0 : Int32))] [(.int (Int32.ofNat ds.length)), (.int (0 : Int32))])) (T43.setTop (mkF m 130 #[.val (.ref r0), .val (.ref r1), .val (.int (0 : Int32)), .val (.int (0 : Int32))] [(.int (1 : Int32))])) := by
        intro t ht
        refine XS.icmpYes X43.here hx rfl (pc0 := 111) (pc' := 125) rfl (hb hby d_tail0_111) rfl (teq hc44).1 (by decide) (by decide) ?_
        show Steps p.tables e below (T43.setTop (mkF m 125 #[.val (.ref r0), .val (.ref r1), .val (.int (0 : Int32)), .val (.int (0 : Int32))] [])) _
        refine XS.iconst X43.here hx rfl (hb hby d_tail0_125) ?_
        show Steps p.tables e below (T43.setTop (mkF m 126 #[.val (.ref r0), .val (.ref r1), .val (.int (0 : Int32)), .val (.int (0 : Int32))] [(.int (1 : Int32))])) _
        refine XS.goto X43.here hx rfl (pc0 := 126) (pc' := 130) rfl (hb hby d_tail0_126) (by decide) (by decide) ?_
        exact ht
      refine ⟨T43, _, 130, #[.val (.ref r0), .val (.ref r1), .val (.int (0 : Int32)), .val (.int (0 : Int32))], X43, N43, eq43, (hb hby d_tail0_130), ?_⟩
      have kk := (goT k1 (goT k2 (goT k42 (goT k43 k45))))
      simpa only [f_tail0, if_neg P5, if_neg (own_len3 hld), if_neg hc3, if_pos hc44] using kk
    · have k46 : Go p.tables e below (T43.setTop (mkF m 111 #[.val (.ref r0), .val (.ref r1), .val (.int (0 : Int32)), .val (.int (0 : Int32))] [(.int (Int32.ofNat ds.length)), (.int (0 : Int32))])) (T43.setTop (mkF m 116 #[.val (.ref r0), .val (.ref r1), .val (.int (0 : Int32)), .val (.int (0 : Int32))] [(.ref r0), (.int (0 : Int32))])) := by
        intro t ht
        refine XS.icmpNo X43.here hx rfl (hb hby d_tail0_111) rfl (feq hc44).1 ?_
        show Steps p.tables e below (T43.setTop (mkF m 114 #[.val (.ref r0), .val (.ref r1), .val (.int (0 : Int32)), .val (.int (0 : Int32))] [])) _
        refine XS.iloadN X43.here hx rfl (hb hby d_tail0_114) rfl ?_
        show Steps p.tables e below (T43.setTop (mkF m 115 #[.val (.ref r0), .val (.ref r1), .val (.int (0 : Int32)), .val (.int (0 : Int32))] [(.int (0 : Int32))])) _
        refine XS.aloadN X43.here hx rfl (hb hby d_tail0_115) rfl rfl ?_
        exact ht
      obtain ⟨T47, X47, e47, st47⟩ := getF X43 hx hZ hown (host := "") (Or.inl (hw _ (List.mem_of_getElem? (i := 39) rfl))) Via.refl eq43 Fp (g := (mkF m 116 #[.val (.ref r0), .val (.ref r1), .val (.int (0 : Int32)), .val (.int (0 : Int32))] [(.ref r0), (.int (0 : Int32))])) rfl rfl (hb hby d_tail0_116)
      have k47 : Go p.tables e below (T43.setTop (mkF m 116 #[.val (.ref r0), .val (.ref r1), .val (.int (0 : Int32)), .val (.int (0 : Int32))] [(.ref r0), (.int (0 : Int32))])) (T47.setTop (mkF m 119 #[.val (.ref r0), .val (.ref r1), .val (.int (0 : Int32)), .val (.int (0 : Int32))] [(.ref rp), (.int (0 : Int32))])) := st47
      obtain ⟨cq48, kq48, q48a, q48b, q48c⟩ := isOf hZ e47 E_rp
      obtain ⟨_, _, ⟨T48, L48, kq48, n48⟩, -, X48, ⟨Lc48, hQ48, l48, y48, z48⟩, st48⟩ := X47.virtualBack hx (y := (⟨"java/lang/String", "length", "()I"⟩ : MethodName)) (z := (⟨"java/lang/String", "length", "()I"⟩ : MethodName)) hown (mvT hZ (hw _ (List.mem_of_getElem? (i := 111) rfl))) (mvT hZ (hw _ (List.mem_of_getElem? (i := 60) rfl))) (notFace_of_selects (args := #[]) (mvT hZ (hw _ (List.mem_of_getElem? (i := 62) rfl)))) (mvT hZ (hw _ (List.mem_of_getElem? (i := 62) rfl))) (mvT hZ (hw _ (List.mem_of_getElem? (i := 61) rfl))) (by decide) (StrChars.Road.lenW (W := 1) hZ (own_wordsLen hw) (kI := 4) (hw _ (List.mem_of_getElem? (i := 8) rfl)) E_rp Fv_rp Fc_rp V_tp (StrChars.Road.codOf rfl fun c hc => (hchp c hc).2) (own_up hchp) S_CS P5 (Nat.le_trans hlp (by decide)) (by decide) (by decide)) q48a q48c (g := (mkF m 119 #[.val (.ref r0), .val (.ref r1), .val (.int (0 : Int32)), .val (.int (0 : Int32))] [(.ref rp), (.int (0 : Int32))])) rfl (by rw [hml]; rfl) (Steps.refl _) (argsL := []) (rest := [(.int (0 : Int32))]) (lenOf pd_6 rfl) rfl (by show 2 * 0 + _ ≤ _; exact Nat.le_of_eq rfl) (hb hby d_tail0_119) (fun _ _ => ⟨rfl, e47, (by decide : 0 + 0 ≤ _), (by decide : 0 + 0 ≤ _)⟩)
      dsimp only [Pt.U, Pt.locs, Pt.cells, Pt.slots] at X48 l48 y48 z48 st48 hQ48
      subst l48 y48 z48
      obtain ⟨rfl, rfl, eq48⟩ := hQ48
      have N48 := Fr.app N43 (Fr.nil n0)
      have k48 : Go p.tables e below (T47.setTop (mkF m 119 #[.val (.ref r0), .val (.ref r1), .val (.int (0 : Int32)), .val (.int (0 : Int32))] [(.ref rp), (.int (0 : Int32))])) (T48.setTop (mkF m 122 #[.val (.ref r0), .val (.ref r1), .val (.int (0 : Int32)), .val (.int (0 : Int32))] [(.int (Int32.ofNat cs.length)), (.int (0 : Int32))])) := fun _ ht => st48.trans ht
      by_cases hc49 : (0 : Int32) < (Int32.ofNat cs.length)
      · have k50 : Go p.tables e below (T48.setTop (mkF m 122 #[.val (.ref r0), .val (.ref r1), .val (.int (0 : Int32)), .val (.int (0 : Int32))] [(.int (Int32.ofNat cs.length)), (.int (0 : Int32))])) (T48.setTop (mkF m 130 #[.val (.ref r0), .val (.ref r1), .val (.int (0 : Int32)), .val (.int (0 : Int32))] [(.int (1 : Int32))])) := by
          intro t ht
          refine XS.icmpNo X48.here hx rfl (hb hby d_tail0_122) rfl (tlt hc49).2.1 ?_
          show Steps p.tables e below (T48.setTop (mkF m 125 #[.val (.ref r0), .val (.ref r1), .val (.int (0 : Int32)), .val (.int (0 : Int32))] [])) _
          refine XS.iconst X48.here hx rfl (hb hby d_tail0_125) ?_
          show Steps p.tables e below (T48.setTop (mkF m 126 #[.val (.ref r0), .val (.ref r1), .val (.int (0 : Int32)), .val (.int (0 : Int32))] [(.int (1 : Int32))])) _
          refine XS.goto X48.here hx rfl (pc0 := 126) (pc' := 130) rfl (hb hby d_tail0_126) (by decide) (by decide) ?_
          exact ht
        refine ⟨T48, _, 130, #[.val (.ref r0), .val (.ref r1), .val (.int (0 : Int32)), .val (.int (0 : Int32))], X48, N48, eq48, (hb hby d_tail0_130), ?_⟩
        have kk := (goT k1 (goT k2 (goT k42 (goT k43 (goT k46 (goT k47 (goT k48 k50)))))))
        simpa only [f_tail0, if_neg P5, if_neg (own_len3 hld), if_neg hc3, if_neg hc44, if_pos hc49] using kk
      · have k51 : Go p.tables e below (T48.setTop (mkF m 122 #[.val (.ref r0), .val (.ref r1), .val (.int (0 : Int32)), .val (.int (0 : Int32))] [(.int (Int32.ofNat cs.length)), (.int (0 : Int32))])) (T48.setTop (mkF m 130 #[.val (.ref r0), .val (.ref r1), .val (.int (0 : Int32)), .val (.int (0 : Int32))] [(.int (0 : Int32))])) := by
          intro t ht
          refine XS.icmpYes X48.here hx rfl (pc0 := 122) (pc' := 129) rfl (hb hby d_tail0_122) rfl (flt hc49).2.1 (by decide) (by decide) ?_
          show Steps p.tables e below (T48.setTop (mkF m 129 #[.val (.ref r0), .val (.ref r1), .val (.int (0 : Int32)), .val (.int (0 : Int32))] [])) _
          refine XS.iconst X48.here hx rfl (hb hby d_tail0_129) ?_
          exact ht
        refine ⟨T48, _, 130, #[.val (.ref r0), .val (.ref r1), .val (.int (0 : Int32)), .val (.int (0 : Int32))], X48, N48, eq48, (hb hby d_tail0_130), ?_⟩
        have kk := (goT k1 (goT k2 (goT k42 (goT k43 (goT k46 (goT k47 (goT k48 k51)))))))
        simpa only [f_tail0, if_neg P5, if_neg (own_len3 hld), if_neg hc3, if_neg hc44, if_neg hc49] using kk
theorem d_match_0 : decode prog_10_method_6_code 0 = .ok (.iconst 0, 1) := by decide +kernel
theorem d_match_1 : decode prog_10_method_6_code 1 = .ok (.istore_n 2, 1) := by decide +kernel
theorem d_match_2 : decode prog_10_method_6_code 2 = .ok (.iconst 0, 1) := by decide +kernel
theorem d_match_3 : decode prog_10_method_6_code 3 = .ok (.istore_n 3, 1) := by decide +kernel
theorem ef_match (m : MethodId) (x0 : Addr) (x1 : Addr) : entryFrame m #[(.ref x0), (.ref x1)] 4 = mkF m 0 #[.val (.ref x0), .val (.ref x1), .unset, .unset] [] := by first | (simp [entryFrame, mkF, argsToLocals, Value.category]; done) | rfl
def Q_match (Z : State) (r0 : Addr) (r1 : Addr) (rp : Addr) (tp : Addr) (kp : ClassId) (cs : List Int32) (td : Addr) (kd : ClassId) (ds : List Int32) (G1 : Int32) (fm : Value) (h0 : Heap) (n0 : Nat) (v : Option Value) (h : Heap) (L : List Loc) : Prop := v = some (.int (nar .boolean (f_tail0 cs ds))) ∧ Fr n0 L ∧ h = h0
set_option maxRecDepth 65536 in
set_option maxHeartbeats 40000000 in
theorem rm_match (l : Launch) (Z : State) (a0 : Array Value) (hw : ∀ d ∈ tables_1, d.before a0 Z = true) (ws : List Jvm.Cond) (r0 : Addr) (r1 : Addr) (rp : Addr) (tp : Addr) (kp : ClassId) (cs : List Int32) (td : Addr) (kd : ClassId) (ds : List Int32) (G1 : Int32) (fm : Value) (h0 : Heap) (n0 : Nat) (Z0 : n0 ≤ h0.size) (E_r0 : Exa Z h0 r0 "com/example/fieldveil/fieldveil/Wildcard") (Fp : Fld Z h0 r0 "com/example/fieldveil/fieldveil/Wildcard" "pattern" "Ljava/lang/String;" (.ref rp)) (Fa : Fld Z h0 r0 "com/example/fieldveil/fieldveil/Wildcard" "anyOne" "Z" (.int (0 : Int32))) (E_rp : Exa Z h0 rp "java/lang/String") (Fv_rp : Fld Z h0 rp "java/lang/String" "value" "[B" (.ref tp)) (Fc_rp : Fld Z h0 rp "java/lang/String" "coder" "B" (.int (0 : Int32))) (E_r1 : Exa Z h0 r1 "java/lang/String") (Fv_r1 : Fld Z h0 r1 "java/lang/String" "value" "[B" (.ref td)) (Fc_r1 : Fld Z h0 r1 "java/lang/String" "coder" "B" (.int (0 : Int32))) (S_CS : Sta Z h0 "java/lang/String" "COMPACT_STRINGS" "Z" (.int G1)) (S_SI : Sta Z h0 "jdk/internal/util/Preconditions" "SIOOBE_FORMATTER" "Ljava/util/function/BiFunction;" fm) (V_tp : Arv Z h0 tp kp .byte (Int32.ofNat cs.length) ((cs.map StrChars.lo8).map Value.int) (.int (0 : Int32))) (V_td : Arv Z h0 td kd .byte (Int32.ofNat ds.length) ((ds.map StrChars.lo8).map Value.int) (.int (0 : Int32))) (P5 : ¬ (G1 = (0 : Int32))) (rf : fm.isRef = true) (hchp : ∀ c ∈ cs, ¬ c < 0 ∧ ¬ (255 : Int32) < c) (hchd : ∀ c ∈ ds, ¬ c < 0 ∧ ¬ (255 : Int32) < c) (hlp : cs.length ≤ 3) (hld : ds.length ≤ 3) :
    MetFree l (⟨"com/example/fieldveil/fieldveil/Wildcard", "matchesSomeTextStartingWith", "(Ljava/lang/CharSequence;)Z"⟩ : MethodName) (head1 (Jvm.Cond.code (⟨"com/example/fieldveil/fieldveil/Wildcard", "matchesSomeTextStartingWith", "(Ljava/lang/CharSequence;)Z"⟩ : MethodName) prog_10_method_6_code 4 (some .boolean) :: ws) ({ frames := 4, cells := 0, slots := 0, locals := 54 } : Room)) (fun a U => a = #[(.ref r0), (.ref r1)] ∧ Z.Warmed39 U.vm ∧ U.heap = h0) (fun _ _ _ _ _ => True) (fun _ U o U' => ∃ v L, o = .returned v ∧ Q_match Z r0 r1 rp tp kp cs td kd ds G1 fm h0 n0 v U'.heap L ∧ FrameEnd U o U' L ({ frames := 4, cells := 0, slots := 0, locals := 54 } : Room).cells ({ frames := 4, cells := 0, slots := 0, locals := 54 } : Room).slots) := by
  refine MetFree.of_bodySF (plainFor_of_name pn_3) hisR ?_
  intro p e s m args below meth c s₁ Bd hml0 hP hK
  obtain ⟨rfl, hZ, hh⟩ := hP
  have hx := Bd.exec
  have hby := Bd.bytes
  have hml : c.maxLocals = 4 := hml0
  have hown : s.vm.findClass "com/example/fieldveil/fieldveil/Wildcard" = some m.cls := findClass_of_methodNamed Bd.named
  have hnm := (name_of_methodNamed Bd.named Bd.method).1
  have X0 : Stand p l e ({ frames := 4, cells := 0, slots := 0, locals := 54 } : Room) s m #[(.ref r0), (.ref r1)] below meth c s₁ [] 0 0 := Stand.of_body Bd
  have e0 : s₁.heap = h0 := by rw [← hh, Bd.state]; rfl
  have N0 := Fr.nil n0
  have pre0 : ∀ t, Steps p.tables e below (s₁.setTop (mkF m 0 #[.val (.ref r0), .val (.ref r1), .unset, .unset] [])) t → Steps p.tables e below (s₁.setTop (entryFrame m #[(.ref r0), (.ref r1)] 4)) t := fun t k => castTop (ef_match m r0 r1) k
  have k1 : Go p.tables e below (s₁.setTop (mkF m 0 #[.val (.ref r0), .val (.ref r1), .unset, .unset] [])) (s₁.setTop (mkF m 4 #[.val (.ref r0), .val (.ref r1), .val (.int (0 : Int32)), .val (.int (0 : Int32))] [])) := by
    intro t ht
    refine XS.iconst X0.here hx rfl (hb hby d_match_0) ?_
    show Steps p.tables e below (s₁.setTop (mkF m 1 #[.val (.ref r0), .val (.ref r1), .unset, .unset] [(.int (0 : Int32))])) _
    refine XS.istoreN X0.here hx rfl (hb hby d_match_1) rfl (l' := #[.val (.ref r0), .val (.ref r1), .val (.int (0 : Int32)), .unset]) rfl ?_
    show Steps p.tables e below (s₁.setTop (mkF m 2 #[.val (.ref r0), .val (.ref r1), .val (.int (0 : Int32)), .unset] [])) _
    refine XS.iconst X0.here hx rfl (hb hby d_match_2) ?_
    show Steps p.tables e below (s₁.setTop (mkF m 3 #[.val (.ref r0), .val (.ref r1), .val (.int (0 : Int32)), .unset] [(.int (0 : Int32))])) _
    refine XS.istoreN X0.here hx rfl (hb hby d_match_3) rfl (l' := #[.val (.ref r0), .val (.ref r1), .val (.int (0 : Int32)), .val (.int (0 : Int32))]) rfl ?_
    exact ht
  obtain ⟨T1, L1, pc1, Ls1, X1, N1, e1, hd1, kr1⟩ := pc_tail0 r0 r1 rp tp td kp kd cs ds G1 fm X0 hx hZ hw hby hml hown e0 N0 Z0 E_r0 Fp Fa E_rp Fv_rp Fc_rp E_r1 Fv_r1 Fc_r1 S_CS S_SI V_tp V_td P5 rf hchp hchd hlp hld
  obtain ⟨fs, hr, hrun, hended, hW, hsame⟩ := X1.leave (v := some (.int (nar .boolean (f_tail0 cs ds)))) (fun h => by rw [Bd.returns] at h; cases h)
  refine ⟨_, _, pre0 _ ((goT k1 kr1) _ (retN X1 hx (t := .boolean) Bd.returns (by simp) hd1 hr)), hrun, hended, _, _, rfl, ?_, ⟨_, rfl⟩, hW, hsame.mono (by decide) (by decide)⟩
  show Q_match Z r0 r1 rp tp kp cs td kd ds G1 fm h0 n0 _ T1.heap _
  rw [e1]
  exact ⟨rfl, N1, rfl⟩
theorem own_draw (x : Int32) : ¬ f_draw x < 0 ∧ ¬ (255 : Int32) < f_draw x := by
  unfold f_draw
  split
  · rename_i h
    have h0 : ¬ (x &&& (511 : Int32)) < 0 ∧ ¬ (255 : Int32) < (x &&& (511 : Int32)) := by
      rw [own_and x 511 9 (by decide) (by decide)] at *
      have hn : x.toBitVec.toNat % 2 ^ 9 < 2 ^ 9 := Nat.mod_lt _ (by decide)
      rw [Int32.lt_iff_toInt_lt, own_ofNat (by omega)] at *
      rw [Int32.lt_iff_toInt_lt, own_ofNat (by omega)]
      have c0 : (0 : Int32).toInt = 0 := rfl
      have c1 : (255 : Int32).toInt = 255 := rfl
      have c2 : (256 : Int32).toInt = 256 := rfl
      omega
    have e : (x &&& (511 : Int32)).toUInt32.toUInt16.toUInt32.toInt32 = x &&& (511 : Int32) := own_nc h0
    rw [e, own_nc h0]; exact h0
  · split
    · decide
    · split
      · decide
      · split <;> decide
theorem own_s0 (a b c : Int32) : own_str 0 a b c = [] := rfl
theorem own_s1 (a b c : Int32) : own_str 1 a b c = [nar .char a] := rfl
theorem own_s2 (a b c : Int32) : own_str 2 a b c = [nar .char a, nar .char b] := rfl
theorem own_s3 (a b c : Int32) : own_str 3 a b c = [nar .char a, nar .char b, nar .char c] := rfl
theorem own_l0 : Int32.ofNat ([] : List Int32).length = 0 := rfl
theorem own_l1 (a : Int32) : Int32.ofNat [a].length = 1 := rfl
theorem own_l2 (a b : Int32) : Int32.ofNat [a, b].length = 2 := rfl
theorem own_l3 (a b c : Int32) : Int32.ofNat [a, b, c].length = 3 := rfl
theorem own_g0 (a : Int32) (l : List Int32) : (a :: l).getD 0 0 = a := rfl
theorem own_g1 (a b : Int32) (l : List Int32) : (a :: b :: l).getD 1 0 = b := rfl
theorem own_g2 (a b c : Int32) (l : List Int32) : (a :: b :: c :: l).getD 2 0 = c := rfl
set_option maxHeartbeats 4000000 in
theorem own_law {n m p0 p1 p2 s0 s1 s2 k mm pf ex : Int32} (hn : n = 0 ∨ n = 1 ∨ n = 2 ∨ n = 3) (hm : m = 0 ∨ m = 1 ∨ m = 2 ∨ m = 3)
    (h0 : ¬ p0 < 0 ∧ ¬ (255 : Int32) < p0) (h1 : ¬ p1 < 0 ∧ ¬ (255 : Int32) < p1) (h2 : ¬ p2 < 0 ∧ ¬ (255 : Int32) < p2) (t0 : ¬ s0 < 0 ∧ ¬ (255 : Int32) < s0) (t1 : ¬ s1 < 0 ∧ ¬ (255 : Int32) < s1) (t2 : ¬ s2 < 0 ∧ ¬ (255 : Int32) < s2)
    (ek : k = (if (0 : Int32) < n then (if p0 = (42 : Int32) then (0 : Int32) else (if (1 : Int32) < n then (if p1 = (42 : Int32) then (1 : Int32) else (if (2 : Int32) < n then (if p2 = (42 : Int32) then (2 : Int32) else n) else n)) else (if (2 : Int32) < n then (if p2 = (42 : Int32) then (2 : Int32) else n) else n))) else (if (1 : Int32) < n then (if p1 = (42 : Int32) then (1 : Int32) else (if (2 : Int32) < n then (if p2 = (42 : Int32) then (2 : Int32) else n) else n)) else (if (2 : Int32) < n then (if p2 = (42 : Int32) then (2 : Int32) else n) else n))))
    (em : mm = (f_min m k))
    (ep : pf = (if mm < (1 : Int32) then (if mm < (2 : Int32) then (if mm < (3 : Int32) then (1 : Int32) else (if p2 = s2 then (1 : Int32) else (0 : Int32))) else (if p1 = s1 then (if mm < (3 : Int32) then (1 : Int32) else (if p2 = s2 then (1 : Int32) else (0 : Int32))) else (0 : Int32))) else (if p0 = s0 then (if mm < (2 : Int32) then (if mm < (3 : Int32) then (1 : Int32) else (if p2 = s2 then (1 : Int32) else (0 : Int32))) else (if p1 = s1 then (if mm < (3 : Int32) then (1 : Int32) else (if p2 = s2 then (1 : Int32) else (0 : Int32))) else (0 : Int32))) else (0 : Int32))))
    (ee : ex = (if pf = (0 : Int32) then (0 : Int32) else (if k < m then (if k < n then (1 : Int32) else (0 : Int32)) else (1 : Int32)))) :
    nar .boolean (f_tail0 (own_str n p0 p1 p2) (own_str m s0 s1 s2)) = ex := by
  have E : ∀ P : Prop, ∃ b : Bool, P = (b = true) := fun P => by
    by_cases h : P
    · exact ⟨true, by simp [h]⟩
    · exact ⟨false, by simp [h]⟩
  obtain ⟨a0, u0⟩ := E (p0 = (42 : Int32))
  obtain ⟨a1, u1⟩ := E (p1 = (42 : Int32))
  obtain ⟨a2, u2⟩ := E (p2 = (42 : Int32))
  obtain ⟨b0, w0⟩ := E (p0 = s0)
  obtain ⟨b1, w1⟩ := E (p1 = s1)
  obtain ⟨b2, w2⟩ := E (p2 = s2)
  subst ee ep em ek
  rcases hn with rfl | rfl | rfl | rfl <;> rcases hm with rfl | rfl | rfl | rfl <;>
    simp +decide only [own_s0, own_s1, own_s2, own_s3, own_nc h0, own_nc h1, own_nc h2, own_nc t0, own_nc t1, own_nc t2, f_tail0, f_tail1, f_tail2, f_tail3, own_l0, own_l1, own_l2, own_l3, own_g0, own_g1, own_g2, u0, u1, u2, w0, w1, w2, if_true, if_false, ite_self] <;>
    (clear u0 u1 u2 w0 w1 w2 h0 h1 h2 t0 t1 t2
     revert a0 a1 a2 b0 b1 b2
     decide +kernel)
theorem pd_10 : parseMethodDescriptor "(ICCC)Ljava/lang/String;" = some ⟨[.int, .char, .char, .char], some (.object "java/lang/String")⟩ := by decide +kernel
theorem pd_11 : parseMethodDescriptor "(Ljava/lang/String;)V" = some ⟨[(.object "java/lang/String")], none⟩ := by decide +kernel
theorem pd_12 : parseMethodDescriptor "(Ljava/lang/CharSequence;)Z" = some ⟨[(.object "java/lang/CharSequence")], some .boolean⟩ := by decide +kernel
theorem ef_law (m : MethodId) (x0 : Int32) (x1 : Int32) (x2 : Int32) : entryFrame m #[(.int x0), (.int x1), (.int x2)] maxLocals = mkF m 0 #[.val (.int x0), .val (.int x1), .val (.int x2), .unset, .unset, .unset, .unset, .unset, .unset, .unset, .unset, .unset, .unset, .unset, .unset, .unset, .unset, .unset] [] := by first | (simp [entryFrame, mkF, argsToLocals, Value.category, maxLocals]; done) | rfl
def Q_law (Z : State) (p0 : Int32) (p1 : Int32) (p2 : Int32) (G1 : Int32) (fm : Value) (h0 : Heap) (n0 : Nat) (v : Option Value) (h : Heap) (L : List Loc) : Prop := v = some (.int (1 : Int32)) ∧ Fr n0 L
set_option maxRecDepth 65536 in
set_option maxHeartbeats 40000000 in
theorem rm_law (l : Launch) (Z : State) (a0 : Array Value) (hw : ∀ d ∈ tables_1, d.before a0 Z = true) (ws : List Jvm.Cond) (p0 : Int32) (p1 : Int32) (p2 : Int32) (G1 : Int32) (fm : Value) (h0 : Heap) (n0 : Nat) (Z0 : n0 ≤ h0.size) (S_CS : Sta Z h0 "java/lang/String" "COMPACT_STRINGS" "Z" (.int G1)) (S_SI : Sta Z h0 "jdk/internal/util/Preconditions" "SIOOBE_FORMATTER" "Ljava/util/function/BiFunction;" fm) (P5 : ¬ (G1 = (0 : Int32))) (rf : fm.isRef = true) :
    MetFree l x (head1 (Jvm.Cond.code x code maxLocals ret :: ws) room_1) (fun a U => a = #[(.int p0), (.int p1), (.int p2)] ∧ Z.Warmed39 U.vm ∧ U.heap = h0 ∧ CHv Z own_ELs U.vm h0) (fun _ _ _ _ _ => True) (fun _ U o U' => ∃ v L, o = .returned v ∧ Q_law Z p0 p1 p2 G1 fm h0 n0 v U'.heap L ∧ ReturnedEndW U o U' L room_1.cells room_1.slots) := by
  refine MetFree.of_bodySF (plainFor_of_name pn_0) hisR ?_
  intro p e s m args below meth c s₁ Bd hml0 hP hK
  obtain ⟨rfl, hZ, hh, hCH⟩ := hP
  have hx := Bd.exec
  have hby := Bd.bytes
  have hml : c.maxLocals = 18 := hml0
  have hown : s.vm.findClass "com/example/fieldveil/fieldveil/WildcardMatchesSomeTextStartingWithPinLaw" = some m.cls := findClass_of_methodNamed Bd.named
  have hnm := (name_of_methodNamed Bd.named Bd.method).1
  have X0 : Stand p l e room_1 s m #[(.int p0), (.int p1), (.int p2)] below meth c s₁ [] 0 0 := Stand.of_body Bd
  have e0 : s₁.heap = h0 := by rw [← hh, Bd.state]; rfl
  have N0 := Fr.nil n0
  have pre0 : ∀ t, Steps p.tables e below (s₁.setTop (mkF m 0 #[.val (.int p0), .val (.int p1), .val (.int p2), .unset, .unset, .unset, .unset, .unset, .unset, .unset, .unset, .unset, .unset, .unset, .unset, .unset, .unset, .unset] [])) t → Steps p.tables e below (s₁.setTop (entryFrame m #[(.int p0), (.int p1), (.int p2)] maxLocals)) t := fun t k => castTop (ef_law m p0 p1 p2) k
  have k1 : Go p.tables e below (s₁.setTop (mkF m 0 #[.val (.int p0), .val (.int p1), .val (.int p2), .unset, .unset, .unset, .unset, .unset, .unset, .unset, .unset, .unset, .unset, .unset, .unset, .unset, .unset, .unset] [])) (s₁.setTop (mkF m 12 #[.val (.int p0), .val (.int p1), .val (.int p2), .val (.int (p0 &&& (3 : Int32))), .val (.int (((p0.toUInt32 >>> ((2 : Int32) &&& 31).toUInt32).toInt32) &&& (3 : Int32))), .unset, .unset, .unset, .unset, .unset, .unset, .unset, .unset, .unset, .unset, .unset, .unset, .unset] [(.int p1)])) := by
    intro t ht
    refine XS.iloadN X0.here hx rfl (hb hby at_0) rfl ?_
    show Steps p.tables e below (s₁.setTop (mkF m 1 #[.val (.int p0), .val (.int p1), .val (.int p2), .unset, .unset, .unset, .unset, .unset, .unset, .unset, .unset, .unset, .unset, .unset, .unset, .unset, .unset, .unset] [(.int p0)])) _
    refine XS.iconst X0.here hx rfl (hb hby at_1) ?_
    show Steps p.tables e below (s₁.setTop (mkF m 2 #[.val (.int p0), .val (.int p1), .val (.int p2), .unset, .unset, .unset, .unset, .unset, .unset, .unset, .unset, .unset, .unset, .unset, .unset, .unset, .unset, .unset] [(.int (3 : Int32)), (.int p0)])) _
    refine XS.iand X0.here hx rfl (hb hby at_2) rfl ?_
    show Steps p.tables e below (s₁.setTop (mkF m 3 #[.val (.int p0), .val (.int p1), .val (.int p2), .unset, .unset, .unset, .unset, .unset, .unset, .unset, .unset, .unset, .unset, .unset, .unset, .unset, .unset, .unset] [(.int (p0 &&& (3 : Int32)))])) _
    refine XS.istoreN X0.here hx rfl (hb hby at_3) rfl (l' := #[.val (.int p0), .val (.int p1), .val (.int p2), .val (.int (p0 &&& (3 : Int32))), .unset, .unset, .unset, .unset, .unset, .unset, .unset, .unset, .unset, .unset, .unset, .unset, .unset, .unset]) rfl ?_
    show Steps p.tables e below (s₁.setTop (mkF m 4 #[.val (.int p0), .val (.int p1), .val (.int p2), .val (.int (p0 &&& (3 : Int32))), .unset, .unset, .unset, .unset, .unset, .unset, .unset, .unset, .unset, .unset, .unset, .unset, .unset, .unset] [])) _
    refine XS.iloadN X0.here hx rfl (hb hby at_4) rfl ?_
    show Steps p.tables e below (s₁.setTop (mkF m 5 #[.val (.int p0), .val (.int p1), .val (.int p2), .val (.int (p0 &&& (3 : Int32))), .unset, .unset, .unset, .unset, .unset, .unset, .unset, .unset, .unset, .unset, .unset, .unset, .unset, .unset] [(.int p0)])) _
    refine XS.iconst X0.here hx rfl (hb hby at_5) ?_
    show Steps p.tables e below (s₁.setTop (mkF m 6 #[.val (.int p0), .val (.int p1), .val (.int p2), .val (.int (p0 &&& (3 : Int32))), .unset, .unset, .unset, .unset, .unset, .unset, .unset, .unset, .unset, .unset, .unset, .unset, .unset, .unset] [(.int (2 : Int32)), (.int p0)])) _
    refine XS.iushr X0.here hx rfl (hb hby at_6) rfl ?_
    show Steps p.tables e below (s₁.setTop (mkF m 7 #[.val (.int p0), .val (.int p1), .val (.int p2), .val (.int (p0 &&& (3 : Int32))), .unset, .unset, .unset, .unset, .unset, .unset, .unset, .unset, .unset, .unset, .unset, .unset, .unset, .unset] [(.int ((p0.toUInt32 >>> ((2 : Int32) &&& 31).toUInt32).toInt32))])) _
    refine XS.iconst X0.here hx rfl (hb hby at_7) ?_
    show Steps p.tables e below (s₁.setTop (mkF m 8 #[.val (.int p0), .val (.int p1), .val (.int p2), .val (.int (p0 &&& (3 : Int32))), .unset, .unset, .unset, .unset, .unset, .unset, .unset, .unset, .unset, .unset, .unset, .unset, .unset, .unset] [(.int (3 : Int32)), (.int ((p0.toUInt32 >>> ((2 : Int32) &&& 31).toUInt32).toInt32))])) _
    refine XS.iand X0.here hx rfl (hb hby at_8) rfl ?_
    show Steps p.tables e below (s₁.setTop (mkF m 9 #[.val (.int p0), .val (.int p1), .val (.int p2), .val (.int (p0 &&& (3 : Int32))), .unset, .unset, .unset, .unset, .unset, .unset, .unset, .unset, .unset, .unset, .unset, .unset, .unset, .unset] [(.int (((p0.toUInt32 >>> ((2 : Int32) &&& 31).toUInt32).toInt32) &&& (3 : Int32)))])) _
    refine XS.istore X0.here hx rfl (hb hby at_9) rfl (l' := #[.val (.int p0), .val (.int p1), .val (.int p2), .val (.int (p0 &&& (3 : Int32))), .val (.int (((p0.toUInt32 >>> ((2 : Int32) &&& 31).toUInt32).toInt32) &&& (3 : Int32))), .unset, .unset, .unset, .unset, .unset, .unset, .unset, .unset, .unset, .unset, .unset, .unset, .unset]) rfl ?_
    show Steps p.tables e below (s₁.setTop (mkF m 11 #[.val (.int p0), .val (.int p1), .val (.int p2), .val (.int (p0 &&& (3 : Int32))), .val (.int (((p0.toUInt32 >>> ((2 : Int32) &&& 31).toUInt32).toInt32) &&& (3 : Int32))), .unset, .unset, .unset, .unset, .unset, .unset, .unset, .unset, .unset, .unset, .unset, .unset, .unset] [])) _
    refine XS.iloadN X0.here hx rfl (hb hby at_11) rfl ?_
    exact ht
  obtain ⟨_, _, ⟨T2, L2, kq2, n2⟩, -, X2, ⟨Lc2, hQ2, l2, y2, z2⟩, st2⟩ := Jvm.LawKit.callS X0 hx (y := (⟨"com/example/fieldveil/fieldveil/WildcardMatchesSomeTextStartingWithPinLaw", "draw", "(I)C"⟩ : MethodName)) hown (mvT hZ (hw _ (List.mem_of_getElem? (i := 0) rfl))) (mvT hZ (hw _ (List.mem_of_getElem? (i := 1) rfl))) (mvT hZ (hw _ (List.mem_of_getElem? (i := 2) rfl))) (mvT hZ (hw _ (List.mem_of_getElem? (i := 3) rfl))) (by decide) (backOf (W := 0) (rm_draw l Z a0 hw [] p1 h0 n0 Z0 ) hZ (hw _ (List.mem_of_getElem? (i := 3) rfl)) (hw _ (List.mem_of_getElem? (i := 2) rfl)) (by decide) (by decide)) (g := (mkF m 12 #[.val (.int p0), .val (.int p1), .val (.int p2), .val (.int (p0 &&& (3 : Int32))), .val (.int (((p0.toUInt32 >>> ((2 : Int32) &&& 31).toUInt32).toInt32) &&& (3 : Int32))), .unset, .unset, .unset, .unset, .unset, .unset, .unset, .unset, .unset, .unset, .unset, .unset, .unset] [(.int p1)])) rfl (by rw [hml]; rfl) (argsL := [(.int p1)]) (rest := []) (lenOf pd_9 rfl) rfl (by show 2 * 0 + _ ≤ _; exact Nat.le_of_eq rfl) (hb hby at_12) (fun _ _ => ⟨rfl, e0, (by decide : 0 + 0 ≤ _), (by decide : 0 + 0 ≤ _)⟩)
  dsimp only [Pt.U, Pt.locs, Pt.cells, Pt.slots] at X2 l2 y2 z2 st2 hQ2
  subst l2 y2 z2
  obtain ⟨rfl, N2q, eq2⟩ := hQ2
  have N2 := Fr.app N0 N2q
  have k2 : Go p.tables e below (s₁.setTop (mkF m 12 #[.val (.int p0), .val (.int p1), .val (.int p2), .val (.int (p0 &&& (3 : Int32))), .val (.int (((p0.toUInt32 >>> ((2 : Int32) &&& 31).toUInt32).toInt32) &&& (3 : Int32))), .unset, .unset, .unset, .unset, .unset, .unset, .unset, .unset, .unset, .unset, .unset, .unset, .unset] [(.int p1)])) (T2.setTop (mkF m 15 #[.val (.int p0), .val (.int p1), .val (.int p2), .val (.int (p0 &&& (3 : Int32))), .val (.int (((p0.toUInt32 >>> ((2 : Int32) &&& 31).toUInt32).toInt32) &&& (3 : Int32))), .unset, .unset, .unset, .unset, .unset, .unset, .unset, .unset, .unset, .unset, .unset, .unset, .unset] [(.int (f_draw p1))])) := st2
  have k3 : Go p.tables e below (T2.setTop (mkF m 15 #[.val (.int p0), .val (.int p1), .val (.int p2), .val (.int (p0 &&& (3 : Int32))), .val (.int (((p0.toUInt32 >>> ((2 : Int32) &&& 31).toUInt32).toInt32) &&& (3 : Int32))), .unset, .unset, .unset, .unset, .unset, .unset, .unset, .unset, .unset, .unset, .unset, .unset, .unset] [(.int (f_draw p1))])) (T2.setTop (mkF m 21 #[.val (.int p0), .val (.int p1), .val (.int p2), .val (.int (p0 &&& (3 : Int32))), .val (.int (((p0.toUInt32 >>> ((2 : Int32) &&& 31).toUInt32).toInt32) &&& (3 : Int32))), .val (.int (f_draw p1)), .unset, .unset, .unset, .unset, .unset, .unset, .unset, .unset, .unset, .unset, .unset, .unset] [(.int ((p1.toUInt32 >>> ((9 : Int32) &&& 31).toUInt32).toInt32))])) := by
    intro t ht
    refine XS.istore X2.here hx rfl (hb hby at_15) rfl (l' := #[.val (.int p0), .val (.int p1), .val (.int p2), .val (.int (p0 &&& (3 : Int32))), .val (.int (((p0.toUInt32 >>> ((2 : Int32) &&& 31).toUInt32).toInt32) &&& (3 : Int32))), .val (.int (f_draw p1)), .unset, .unset, .unset, .unset, .unset, .unset, .unset, .unset, .unset, .unset, .unset, .unset]) rfl ?_
    show Steps p.tables e below (T2.setTop (mkF m 17 #[.val (.int p0), .val (.int p1), .val (.int p2), .val (.int (p0 &&& (3 : Int32))), .val (.int (((p0.toUInt32 >>> ((2 : Int32) &&& 31).toUInt32).toInt32) &&& (3 : Int32))), .val (.int (f_draw p1)), .unset, .unset, .unset, .unset, .unset, .unset, .unset, .unset, .unset, .unset, .unset, .unset] [])) _
    refine XS.iloadN X2.here hx rfl (hb hby at_17) rfl ?_
    show Steps p.tables e below (T2.setTop (mkF m 18 #[.val (.int p0), .val (.int p1), .val (.int p2), .val (.int (p0 &&& (3 : Int32))), .val (.int (((p0.toUInt32 >>> ((2 : Int32) &&& 31).toUInt32).toInt32) &&& (3 : Int32))), .val (.int (f_draw p1)), .unset, .unset, .unset, .unset, .unset, .unset, .unset, .unset, .unset, .unset, .unset, .unset] [(.int p1)])) _
    refine XS.bipush X2.here hx rfl (hb hby at_18) ?_
    show Steps p.tables e below (T2.setTop (mkF m 20 #[.val (.int p0), .val (.int p1), .val (.int p2), .val (.int (p0 &&& (3 : Int32))), .val (.int (((p0.toUInt32 >>> ((2 : Int32) &&& 31).toUInt32).toInt32) &&& (3 : Int32))), .val (.int (f_draw p1)), .unset, .unset, .unset, .unset, .unset, .unset, .unset, .unset, .unset, .unset, .unset, .unset] [(.int (9 : Int32)), (.int p1)])) _
    refine XS.iushr X2.here hx rfl (hb hby at_20) rfl ?_
    exact ht
  obtain ⟨_, _, ⟨T4, L4, kq4, n4⟩, -, X4, ⟨Lc4, hQ4, l4, y4, z4⟩, st4⟩ := Jvm.LawKit.callS X2 hx (y := (⟨"com/example/fieldveil/fieldveil/WildcardMatchesSomeTextStartingWithPinLaw", "draw", "(I)C"⟩ : MethodName)) hown (mvT hZ (hw _ (List.mem_of_getElem? (i := 0) rfl))) (mvT hZ (hw _ (List.mem_of_getElem? (i := 1) rfl))) (mvT hZ (hw _ (List.mem_of_getElem? (i := 2) rfl))) (mvT hZ (hw _ (List.mem_of_getElem? (i := 3) rfl))) (by decide) (backOf (W := 0) (rm_draw l Z a0 hw [] ((p1.toUInt32 >>> ((9 : Int32) &&& 31).toUInt32).toInt32) h0 n0 Z0 ) hZ (hw _ (List.mem_of_getElem? (i := 3) rfl)) (hw _ (List.mem_of_getElem? (i := 2) rfl)) (by decide) (by decide)) (g := (mkF m 21 #[.val (.int p0), .val (.int p1), .val (.int p2), .val (.int (p0 &&& (3 : Int32))), .val (.int (((p0.toUInt32 >>> ((2 : Int32) &&& 31).toUInt32).toInt32) &&& (3 : Int32))), .val (.int (f_draw p1)), .unset, .unset, .unset, .unset, .unset, .unset, .unset, .unset, .unset, .unset, .unset, .unset] [(.int ((p1.toUInt32 >>> ((9 : Int32) &&& 31).toUInt32).toInt32))])) rfl (by rw [hml]; rfl) (argsL := [(.int ((p1.toUInt32 >>> ((9 : Int32) &&& 31).toUInt32).toInt32))]) (rest := []) (lenOf pd_9 rfl) rfl (by show 2 * 0 + _ ≤ _; exact Nat.le_of_eq rfl) (hb hby at_21) (fun _ _ => ⟨rfl, eq2, (by decide : 0 + 0 ≤ _), (by decide : 0 + 0 ≤ _)⟩)
  dsimp only [Pt.U, Pt.locs, Pt.cells, Pt.slots] at X4 l4 y4 z4 st4 hQ4
  subst l4 y4 z4
  obtain ⟨rfl, N4q, eq4⟩ := hQ4
  have N4 := Fr.app N2 N4q
  have k4 : Go p.tables e below (T2.setTop (mkF m 21 #[.val (.int p0), .val (.int p1), .val (.int p2), .val (.int (p0 &&& (3 : Int32))), .val (.int (((p0.toUInt32 >>> ((2 : Int32) &&& 31).toUInt32).toInt32) &&& (3 : Int32))), .val (.int (f_draw p1)), .unset, .unset, .unset, .unset, .unset, .unset, .unset, .unset, .unset, .unset, .unset, .unset] [(.int ((p1.toUInt32 >>> ((9 : Int32) &&& 31).toUInt32).toInt32))])) (T4.setTop (mkF m 24 #[.val (.int p0), .val (.int p1), .val (.int p2), .val (.int (p0 &&& (3 : Int32))), .val (.int (((p0.toUInt32 >>> ((2 : Int32) &&& 31).toUInt32).toInt32) &&& (3 : Int32))), .val (.int (f_draw p1)), .unset, .unset, .unset, .unset, .unset, .unset, .unset, .unset, .unset, .unset, .unset, .unset] [(.int (f_draw ((p1.toUInt32 >>> ((9 : Int32) &&& 31).toUInt32).toInt32)))])) := st4
  have k5 : Go p.tables e below (T4.setTop (mkF m 24 #[.val (.int p0), .val (.int p1), .val (.int p2), .val (.int (p0 &&& (3 : Int32))), .val (.int (((p0.toUInt32 >>> ((2 : Int32) &&& 31).toUInt32).toInt32) &&& (3 : Int32))), .val (.int (f_draw p1)), .unset, .unset, .unset, .unset, .unset, .unset, .unset, .unset, .unset, .unset, .unset, .unset] [(.int (f_draw ((p1.toUInt32 >>> ((9 : Int32) &&& 31).toUInt32).toInt32)))])) (T4.setTop (mkF m 30 #[.val (.int p0), .val (.int p1), .val (.int p2), .val (.int (p0 &&& (3 : Int32))), .val (.int (((p0.toUInt32 >>> ((2 : Int32) &&& 31).toUInt32).toInt32) &&& (3 : Int32))), .val (.int (f_draw p1)), .val (.int (f_draw ((p1.toUInt32 >>> ((9 : Int32) &&& 31).toUInt32).toInt32))), .unset, .unset, .unset, .unset, .unset, .unset, .unset, .unset, .unset, .unset, .unset] [(.int ((p1.toUInt32 >>> ((18 : Int32) &&& 31).toUInt32).toInt32))])) := by
    intro t ht
    refine XS.istore X4.here hx rfl (hb hby at_24) rfl (l' := #[.val (.int p0), .val (.int p1), .val (.int p2), .val (.int (p0 &&& (3 : Int32))), .val (.int (((p0.toUInt32 >>> ((2 : Int32) &&& 31).toUInt32).toInt32) &&& (3 : Int32))), .val (.int (f_draw p1)), .val (.int (f_draw ((p1.toUInt32 >>> ((9 : Int32) &&& 31).toUInt32).toInt32))), .unset, .unset, .unset, .unset, .unset, .unset, .unset, .unset, .unset, .unset, .unset]) rfl ?_
    show Steps p.tables e below (T4.setTop (mkF m 26 #[.val (.int p0), .val (.int p1), .val (.int p2), .val (.int (p0 &&& (3 : Int32))), .val (.int (((p0.toUInt32 >>> ((2 : Int32) &&& 31).toUInt32).toInt32) &&& (3 : Int32))), .val (.int (f_draw p1)), .val (.int (f_draw ((p1.toUInt32 >>> ((9 : Int32) &&& 31).toUInt32).toInt32))), .unset, .unset, .unset, .unset, .unset, .unset, .unset, .unset, .unset, .unset, .unset] [])) _
    refine XS.iloadN X4.here hx rfl (hb hby at_26) rfl ?_
    show Steps p.tables e below (T4.setTop (mkF m 27 #[.val (.int p0), .val (.int p1), .val (.int p2), .val (.int (p0 &&& (3 : Int32))), .val (.int (((p0.toUInt32 >>> ((2 : Int32) &&& 31).toUInt32).toInt32) &&& (3 : Int32))), .val (.int (f_draw p1)), .val (.int (f_draw ((p1.toUInt32 >>> ((9 : Int32) &&& 31).toUInt32).toInt32))), .unset, .unset, .unset, .unset, .unset, .unset, .unset, .unset, .unset, .unset, .unset] [(.int p1)])) _
    refine XS.bipush X4.here hx rfl (hb hby at_27) ?_
    show Steps p.tables e below (T4.setTop (mkF m 29 #[.val (.int p0), .val (.int p1), .val (.int p2), .val (.int (p0 &&& (3 : Int32))), .val (.int (((p0.toUInt32 >>> ((2 : Int32) &&& 31).toUInt32).toInt32) &&& (3 : Int32))), .val (.int (f_draw p1)), .val (.int (f_draw ((p1.toUInt32 >>> ((9 : Int32) &&& 31).toUInt32).toInt32))), .unset, .unset, .unset, .unset, .unset, .unset, .unset, .unset, .unset, .unset, .unset] [(.int (18 : Int32)), (.int p1)])) _
    refine XS.iushr X4.here hx rfl (hb hby at_29) rfl ?_
    exact ht
  obtain ⟨_, _, ⟨T6, L6, kq6, n6⟩, -, X6, ⟨Lc6, hQ6, l6, y6, z6⟩, st6⟩ := Jvm.LawKit.callS X4 hx (y := (⟨"com/example/fieldveil/fieldveil/WildcardMatchesSomeTextStartingWithPinLaw", "draw", "(I)C"⟩ : MethodName)) hown (mvT hZ (hw _ (List.mem_of_getElem? (i := 0) rfl))) (mvT hZ (hw _ (List.mem_of_getElem? (i := 1) rfl))) (mvT hZ (hw _ (List.mem_of_getElem? (i := 2) rfl))) (mvT hZ (hw _ (List.mem_of_getElem? (i := 3) rfl))) (by decide) (backOf (W := 0) (rm_draw l Z a0 hw [] ((p1.toUInt32 >>> ((18 : Int32) &&& 31).toUInt32).toInt32) h0 n0 Z0 ) hZ (hw _ (List.mem_of_getElem? (i := 3) rfl)) (hw _ (List.mem_of_getElem? (i := 2) rfl)) (by decide) (by decide)) (g := (mkF m 30 #[.val (.int p0), .val (.int p1), .val (.int p2), .val (.int (p0 &&& (3 : Int32))), .val (.int (((p0.toUInt32 >>> ((2 : Int32) &&& 31).toUInt32).toInt32) &&& (3 : Int32))), .val (.int (f_draw p1)), .val (.int (f_draw ((p1.toUInt32 >>> ((9 : Int32) &&& 31).toUInt32).toInt32))), .unset, .unset, .unset, .unset, .unset, .unset, .unset, .unset, .unset, .unset, .unset] [(.int ((p1.toUInt32 >>> ((18 : Int32) &&& 31).toUInt32).toInt32))])) rfl (by rw [hml]; rfl) (argsL := [(.int ((p1.toUInt32 >>> ((18 : Int32) &&& 31).toUInt32).toInt32))]) (rest := []) (lenOf pd_9 rfl) rfl (by show 2 * 0 + _ ≤ _; exact Nat.le_of_eq rfl) (hb hby at_30) (fun _ _ => ⟨rfl, eq4, (by decide : 0 + 0 ≤ _), (by decide : 0 + 0 ≤ _)⟩)
  dsimp only [Pt.U, Pt.locs, Pt.cells, Pt.slots] at X6 l6 y6 z6 st6 hQ6
  subst l6 y6 z6
  obtain ⟨rfl, N6q, eq6⟩ := hQ6
  have N6 := Fr.app N4 N6q
  have k6 : Go p.tables e below (T4.setTop (mkF m 30 #[.val (.int p0), .val (.int p1), .val (.int p2), .val (.int (p0 &&& (3 : Int32))), .val (.int (((p0.toUInt32 >>> ((2 : Int32) &&& 31).toUInt32).toInt32) &&& (3 : Int32))), .val (.int (f_draw p1)), .val (.int (f_draw ((p1.toUInt32 >>> ((9 : Int32) &&& 31).toUInt32).toInt32))), .unset, .unset, .unset, .unset, .unset, .unset, .unset, .unset, .unset, .unset, .unset] [(.int ((p1.toUInt32 >>> ((18 : Int32) &&& 31).toUInt32).toInt32))])) (T6.setTop (mkF m 33 #[.val (.int p0), .val (.int p1), .val (.int p2), .val (.int (p0 &&& (3 : Int32))), .val (.int (((p0.toUInt32 >>> ((2 : Int32) &&& 31).toUInt32).toInt32) &&& (3 : Int32))), .val (.int (f_draw p1)), .val (.int (f_draw ((p1.toUInt32 >>> ((9 : Int32) &&& 31).toUInt32).toInt32))), .unset, .unset, .unset, .unset, .unset, .unset, .unset, .unset, .unset, .unset, .unset] [(.int (f_draw ((p1.toUInt32 >>> ((18 : Int32) &&& 31).toUInt32).toInt32)))])) := st6
  have k7 : Go p.tables e below (T6.setTop (mkF m 33 #[.val (.int p0), .val (.int p1), .val (.int p2), .val (.int (p0 &&& (3 : Int32))), .val (.int (((p0.toUInt32 >>> ((2 : Int32) &&& 31).toUInt32).toInt32) &&& (3 : Int32))), .val (.int (f_draw p1)), .val (.int (f_draw ((p1.toUInt32 >>> ((9 : Int32) &&& 31).toUInt32).toInt32))), .unset, .unset, .unset, .unset, .unset, .unset, .unset, .unset, .unset, .unset, .unset] [(.int (f_draw ((p1.toUInt32 >>> ((18 : Int32) &&& 31).toUInt32).toInt32)))])) (T6.setTop (mkF m 36 #[.val (.int p0), .val (.int p1), .val (.int p2), .val (.int (p0 &&& (3 : Int32))), .val (.int (((p0.toUInt32 >>> ((2 : Int32) &&& 31).toUInt32).toInt32) &&& (3 : Int32))), .val (.int (f_draw p1)), .val (.int (f_draw ((p1.toUInt32 >>> ((9 : Int32) &&& 31).toUInt32).toInt32))), .val (.int (f_draw ((p1.toUInt32 >>> ((18 : Int32) &&& 31).toUInt32).toInt32))), .unset, .unset, .unset, .unset, .unset, .unset, .unset, .unset, .unset, .unset] [(.int p2)])) := by
    intro t ht
    refine XS.istore X6.here hx rfl (hb hby at_33) rfl (l' := #[.val (.int p0), .val (.int p1), .val (.int p2), .val (.int (p0 &&& (3 : Int32))), .val (.int (((p0.toUInt32 >>> ((2 : Int32) &&& 31).toUInt32).toInt32) &&& (3 : Int32))), .val (.int (f_draw p1)), .val (.int (f_draw ((p1.toUInt32 >>> ((9 : Int32) &&& 31).toUInt32).toInt32))), .val (.int (f_draw ((p1.toUInt32 >>> ((18 : Int32) &&& 31).toUInt32).toInt32))), .unset, .unset, .unset, .unset, .unset, .unset, .unset, .unset, .unset, .unset]) rfl ?_
    show Steps p.tables e below (T6.setTop (mkF m 35 #[.val (.int p0), .val (.int p1), .val (.int p2), .val (.int (p0 &&& (3 : Int32))), .val (.int (((p0.toUInt32 >>> ((2 : Int32) &&& 31).toUInt32).toInt32) &&& (3 : Int32))), .val (.int (f_draw p1)), .val (.int (f_draw ((p1.toUInt32 >>> ((9 : Int32) &&& 31).toUInt32).toInt32))), .val (.int (f_draw ((p1.toUInt32 >>> ((18 : Int32) &&& 31).toUInt32).toInt32))), .unset, .unset, .unset, .unset, .unset, .unset, .unset, .unset, .unset, .unset] [])) _
    refine XS.iloadN X6.here hx rfl (hb hby at_35) rfl ?_
    exact ht
  obtain ⟨_, _, ⟨T8, L8, kq8, n8⟩, -, X8, ⟨Lc8, hQ8, l8, y8, z8⟩, st8⟩ := Jvm.LawKit.callS X6 hx (y := (⟨"com/example/fieldveil/fieldveil/WildcardMatchesSomeTextStartingWithPinLaw", "draw", "(I)C"⟩ : MethodName)) hown (mvT hZ (hw _ (List.mem_of_getElem? (i := 0) rfl))) (mvT hZ (hw _ (List.mem_of_getElem? (i := 1) rfl))) (mvT hZ (hw _ (List.mem_of_getElem? (i := 2) rfl))) (mvT hZ (hw _ (List.mem_of_getElem? (i := 3) rfl))) (by decide) (backOf (W := 0) (rm_draw l Z a0 hw [] p2 h0 n0 Z0 ) hZ (hw _ (List.mem_of_getElem? (i := 3) rfl)) (hw _ (List.mem_of_getElem? (i := 2) rfl)) (by decide) (by decide)) (g := (mkF m 36 #[.val (.int p0), .val (.int p1), .val (.int p2), .val (.int (p0 &&& (3 : Int32))), .val (.int (((p0.toUInt32 >>> ((2 : Int32) &&& 31).toUInt32).toInt32) &&& (3 : Int32))), .val (.int (f_draw p1)), .val (.int (f_draw ((p1.toUInt32 >>> ((9 : Int32) &&& 31).toUInt32).toInt32))), .val (.int (f_draw ((p1.toUInt32 >>> ((18 : Int32) &&& 31).toUInt32).toInt32))), .unset, .unset, .unset, .unset, .unset, .unset, .unset, .unset, .unset, .unset] [(.int p2)])) rfl (by rw [hml]; rfl) (argsL := [(.int p2)]) (rest := []) (lenOf pd_9 rfl) rfl (by show 2 * 0 + _ ≤ _; exact Nat.le_of_eq rfl) (hb hby at_36) (fun _ _ => ⟨rfl, eq6, (by decide : 0 + 0 ≤ _), (by decide : 0 + 0 ≤ _)⟩)
  dsimp only [Pt.U, Pt.locs, Pt.cells, Pt.slots] at X8 l8 y8 z8 st8 hQ8
  subst l8 y8 z8
  obtain ⟨rfl, N8q, eq8⟩ := hQ8
  have N8 := Fr.app N6 N8q
  have k8 : Go p.tables e below (T6.setTop (mkF m 36 #[.val (.int p0), .val (.int p1), .val (.int p2), .val (.int (p0 &&& (3 : Int32))), .val (.int (((p0.toUInt32 >>> ((2 : Int32) &&& 31).toUInt32).toInt32) &&& (3 : Int32))), .val (.int (f_draw p1)), .val (.int (f_draw ((p1.toUInt32 >>> ((9 : Int32) &&& 31).toUInt32).toInt32))), .val (.int (f_draw ((p1.toUInt32 >>> ((18 : Int32) &&& 31).toUInt32).toInt32))), .unset, .unset, .unset, .unset, .unset, .unset, .unset, .unset, .unset, .unset] [(.int p2)])) (T8.setTop (mkF m 39 #[.val (.int p0), .val (.int p1), .val (.int p2), .val (.int (p0 &&& (3 : Int32))), .val (.int (((p0.toUInt32 >>> ((2 : Int32) &&& 31).toUInt32).toInt32) &&& (3 : Int32))), .val (.int (f_draw p1)), .val (.int (f_draw ((p1.toUInt32 >>> ((9 : Int32) &&& 31).toUInt32).toInt32))), .val (.int (f_draw ((p1.toUInt32 >>> ((18 : Int32) &&& 31).toUInt32).toInt32))), .unset, .unset, .unset, .unset, .unset, .unset, .unset, .unset, .unset, .unset] [(.int (f_draw p2))])) := st8
  have k9 : Go p.tables e below (T8.setTop (mkF m 39 #[.val (.int p0), .val (.int p1), .val (.int p2), .val (.int (p0 &&& (3 : Int32))), .val (.int (((p0.toUInt32 >>> ((2 : Int32) &&& 31).toUInt32).toInt32) &&& (3 : Int32))), .val (.int (f_draw p1)), .val (.int (f_draw ((p1.toUInt32 >>> ((9 : Int32) &&& 31).toUInt32).toInt32))), .val (.int (f_draw ((p1.toUInt32 >>> ((18 : Int32) &&& 31).toUInt32).toInt32))), .unset, .unset, .unset, .unset, .unset, .unset, .unset, .unset, .unset, .unset] [(.int (f_draw p2))])) (T8.setTop (mkF m 45 #[.val (.int p0), .val (.int p1), .val (.int p2), .val (.int (p0 &&& (3 : Int32))), .val (.int (((p0.toUInt32 >>> ((2 : Int32) &&& 31).toUInt32).toInt32) &&& (3 : Int32))), .val (.int (f_draw p1)), .val (.int (f_draw ((p1.toUInt32 >>> ((9 : Int32) &&& 31).toUInt32).toInt32))), .val (.int (f_draw ((p1.toUInt32 >>> ((18 : Int32) &&& 31).toUInt32).toInt32))), .val (.int (f_draw p2)), .unset, .unset, .unset, .unset, .unset, .unset, .unset, .unset, .unset] [(.int ((p2.toUInt32 >>> ((9 : Int32) &&& 31).toUInt32).toInt32))])) := by
    intro t ht
    refine XS.istore X8.here hx rfl (hb hby at_39) rfl (l' := #[.val (.int p0), .val (.int p1), .val (.int p2), .val (.int (p0 &&& (3 : Int32))), .val (.int (((p0.toUInt32 >>> ((2 : Int32) &&& 31).toUInt32).toInt32) &&& (3 : Int32))), .val (.int (f_draw p1)), .val (.int (f_draw ((p1.toUInt32 >>> ((9 : Int32) &&& 31).toUInt32).toInt32))), .val (.int (f_draw ((p1.toUInt32 >>> ((18 : Int32) &&& 31).toUInt32).toInt32))), .val (.int (f_draw p2)), .unset, .unset, .unset, .unset, .unset, .unset, .unset, .unset, .unset]) rfl ?_
    show Steps p.tables e below (T8.setTop (mkF m 41 #[.val (.int p0), .val (.int p1), .val (.int p2), .val (.int (p0 &&& (3 : Int32))), .val (.int (((p0.toUInt32 >>> ((2 : Int32) &&& 31).toUInt32).toInt32) &&& (3 : Int32))), .val (.int (f_draw p1)), .val (.int (f_draw ((p1.toUInt32 >>> ((9 : Int32) &&& 31).toUInt32).toInt32))), .val (.int (f_draw ((p1.toUInt32 >>> ((18 : Int32) &&& 31).toUInt32).toInt32))), .val (.int (f_draw p2)), .unset, .unset, .unset, .unset, .unset, .unset, .unset, .unset, .unset] [])) _
    refine XS.iloadN X8.here hx rfl (hb hby at_41) rfl ?_
    show Steps p.tables e below (T8.setTop (mkF m 42 #[.val (.int p0), .val (.int p1), .val (.int p2), .val (.int (p0 &&& (3 : Int32))), .val (.int (((p0.toUInt32 >>> ((2 : Int32) &&& 31).toUInt32).toInt32) &&& (3 : Int32))), .val (.int (f_draw p1)), .val (.int (f_draw ((p1.toUInt32 >>> ((9 : Int32) &&& 31).toUInt32).toInt32))), .val (.int (f_draw ((p1.toUInt32 >>> ((18 : Int32) &&& 31).toUInt32).toInt32))), .val (.int (f_draw p2)), .unset, .unset, .unset, .unset, .unset, .unset, .unset, .unset, .unset] [(.int p2)])) _
    refine XS.bipush X8.here hx rfl (hb hby at_42) ?_
    show Steps p.tables e below (T8.setTop (mkF m 44 #[.val (.int p0), .val (.int p1), .val (.int p2), .val (.int (p0 &&& (3 : Int32))), .val (.int (((p0.toUInt32 >>> ((2 : Int32) &&& 31).toUInt32).toInt32) &&& (3 : Int32))), .val (.int (f_draw p1)), .val (.int (f_draw ((p1.toUInt32 >>> ((9 : Int32) &&& 31).toUInt32).toInt32))), .val (.int (f_draw ((p1.toUInt32 >>> ((18 : Int32) &&& 31).toUInt32).toInt32))), .val (.int (f_draw p2)), .unset, .unset, .unset, .unset, .unset, .unset, .unset, .unset, .unset] [(.int (9 : Int32)), (.int p2)])) _
    refine XS.iushr X8.here hx rfl (hb hby at_44) rfl ?_
    exact ht
  obtain ⟨_, _, ⟨T10, L10, kq10, n10⟩, -, X10, ⟨Lc10, hQ10, l10, y10, z10⟩, st10⟩ := Jvm.LawKit.callS X8 hx (y := (⟨"com/example/fieldveil/fieldveil/WildcardMatchesSomeTextStartingWithPinLaw", "draw", "(I)C"⟩ : MethodName)) hown (mvT hZ (hw _ (List.mem_of_getElem? (i := 0) rfl))) (mvT hZ (hw _ (List.mem_of_getElem? (i := 1) rfl))) (mvT hZ (hw _ (List.mem_of_getElem? (i := 2) rfl))) (mvT hZ (hw _ (List.mem_of_getElem? (i := 3) rfl))) (by decide) (backOf (W := 0) (rm_draw l Z a0 hw [] ((p2.toUInt32 >>> ((9 : Int32) &&& 31).toUInt32).toInt32) h0 n0 Z0 ) hZ (hw _ (List.mem_of_getElem? (i := 3) rfl)) (hw _ (List.mem_of_getElem? (i := 2) rfl)) (by decide) (by decide)) (g := (mkF m 45 #[.val (.int p0), .val (.int p1), .val (.int p2), .val (.int (p0 &&& (3 : Int32))), .val (.int (((p0.toUInt32 >>> ((2 : Int32) &&& 31).toUInt32).toInt32) &&& (3 : Int32))), .val (.int (f_draw p1)), .val (.int (f_draw ((p1.toUInt32 >>> ((9 : Int32) &&& 31).toUInt32).toInt32))), .val (.int (f_draw ((p1.toUInt32 >>> ((18 : Int32) &&& 31).toUInt32).toInt32))), .val (.int (f_draw p2)), .unset, .unset, .unset, .unset, .unset, .unset, .unset, .unset, .unset] [(.int ((p2.toUInt32 >>> ((9 : Int32) &&& 31).toUInt32).toInt32))])) rfl (by rw [hml]; rfl) (argsL := [(.int ((p2.toUInt32 >>> ((9 : Int32) &&& 31).toUInt32).toInt32))]) (rest := []) (lenOf pd_9 rfl) rfl (by show 2 * 0 + _ ≤ _; exact Nat.le_of_eq rfl) (hb hby at_45) (fun _ _ => ⟨rfl, eq8, (by decide : 0 + 0 ≤ _), (by decide : 0 + 0 ≤ _)⟩)
  dsimp only [Pt.U, Pt.locs, Pt.cells, Pt.slots] at X10 l10 y10 z10 st10 hQ10
  subst l10 y10 z10
  obtain ⟨rfl, N10q, eq10⟩ := hQ10
  have N10 := Fr.app N8 N10q
  have k10 : Go p.tables e below (T8.setTop (mkF m 45 #[.val (.int p0), .val (.int p1), .val (.int p2), .val (.int (p0 &&& (3 : Int32))), .val (.int (((p0.toUInt32 >>> ((2 : Int32) &&& 31).toUInt32).toInt32) &&& (3 : Int32))), .val (.int (f_draw p1)), .val (.int (f_draw ((p1.toUInt32 >>> ((9 : Int32) &&& 31).toUInt32).toInt32))), .val (.int (f_draw ((p1.toUInt32 >>> ((18 : Int32) &&& 31).toUInt32).toInt32))), .val (.int (f_draw p2)), .unset, .unset, .unset, .unset, .unset, .unset, .unset, .unset, .unset] [(.int ((p2.toUInt32 >>> ((9 : Int32) &&& 31).toUInt32).toInt32))])) (T10.setTop (mkF m 48 #[.val (.int p0), .val (.int p1), .val (.int p2), .val (.int (p0 &&& (3 : Int32))), .val (.int (((p0.toUInt32 >>> ((2 : Int32) &&& 31).toUInt32).toInt32) &&& (3 : Int32))), .val (.int (f_draw p1)), .val (.int (f_draw ((p1.toUInt32 >>> ((9 : Int32) &&& 31).toUInt32).toInt32))), .val (.int (f_draw ((p1.toUInt32 >>> ((18 : Int32) &&& 31).toUInt32).toInt32))), .val (.int (f_draw p2)), .unset, .unset, .unset, .unset, .unset, .unset, .unset, .unset, .unset] [(.int (f_draw ((p2.toUInt32 >>> ((9 : Int32) &&& 31).toUInt32).toInt32)))])) := st10
  have k11 : Go p.tables e below (T10.setTop (mkF m 48 #[.val (.int p0), .val (.int p1), .val (.int p2), .val (.int (p0 &&& (3 : Int32))), .val (.int (((p0.toUInt32 >>> ((2 : Int32) &&& 31).toUInt32).toInt32) &&& (3 : Int32))), .val (.int (f_draw p1)), .val (.int (f_draw ((p1.toUInt32 >>> ((9 : Int32) &&& 31).toUInt32).toInt32))), .val (.int (f_draw ((p1.toUInt32 >>> ((18 : Int32) &&& 31).toUInt32).toInt32))), .val (.int (f_draw p2)), .unset, .unset, .unset, .unset, .unset, .unset, .unset, .unset, .unset] [(.int (f_draw ((p2.toUInt32 >>> ((9 : Int32) &&& 31).toUInt32).toInt32)))])) (T10.setTop (mkF m 54 #[.val (.int p0), .val (.int p1), .val (.int p2), .val (.int (p0 &&& (3 : Int32))), .val (.int (((p0.toUInt32 >>> ((2 : Int32) &&& 31).toUInt32).toInt32) &&& (3 : Int32))), .val (.int (f_draw p1)), .val (.int (f_draw ((p1.toUInt32 >>> ((9 : Int32) &&& 31).toUInt32).toInt32))), .val (.int (f_draw ((p1.toUInt32 >>> ((18 : Int32) &&& 31).toUInt32).toInt32))), .val (.int (f_draw p2)), .val (.int (f_draw ((p2.toUInt32 >>> ((9 : Int32) &&& 31).toUInt32).toInt32))), .unset, .unset, .unset, .unset, .unset, .unset, .unset, .unset] [(.int ((p2.toUInt32 >>> ((18 : Int32) &&& 31).toUInt32).toInt32))])) := by
    intro t ht
    refine XS.istore X10.here hx rfl (hb hby at_48) rfl (l' := #[.val (.int p0), .val (.int p1), .val (.int p2), .val (.int (p0 &&& (3 : Int32))), .val (.int (((p0.toUInt32 >>> ((2 : Int32) &&& 31).toUInt32).toInt32) &&& (3 : Int32))), .val (.int (f_draw p1)), .val (.int (f_draw ((p1.toUInt32 >>> ((9 : Int32) &&& 31).toUInt32).toInt32))), .val (.int (f_draw ((p1.toUInt32 >>> ((18 : Int32) &&& 31).toUInt32).toInt32))), .val (.int (f_draw p2)), .val (.int (f_draw ((p2.toUInt32 >>> ((9 : Int32) &&& 31).toUInt32).toInt32))), .unset, .unset, .unset, .unset, .unset, .unset, .unset, .unset]) rfl ?_
    show Steps p.tables e below (T10.setTop (mkF m 50 #[.val (.int p0), .val (.int p1), .val (.int p2), .val (.int (p0 &&& (3 : Int32))), .val (.int (((p0.toUInt32 >>> ((2 : Int32) &&& 31).toUInt32).toInt32) &&& (3 : Int32))), .val (.int (f_draw p1)), .val (.int (f_draw ((p1.toUInt32 >>> ((9 : Int32) &&& 31).toUInt32).toInt32))), .val (.int (f_draw ((p1.toUInt32 >>> ((18 : Int32) &&& 31).toUInt32).toInt32))), .val (.int (f_draw p2)), .val (.int (f_draw ((p2.toUInt32 >>> ((9 : Int32) &&& 31).toUInt32).toInt32))), .unset, .unset, .unset, .unset, .unset, .unset, .unset, .unset] [])) _
    refine XS.iloadN X10.here hx rfl (hb hby at_50) rfl ?_
    show Steps p.tables e below (T10.setTop (mkF m 51 #[.val (.int p0), .val (.int p1), .val (.int p2), .val (.int (p0 &&& (3 : Int32))), .val (.int (((p0.toUInt32 >>> ((2 : Int32) &&& 31).toUInt32).toInt32) &&& (3 : Int32))), .val (.int (f_draw p1)), .val (.int (f_draw ((p1.toUInt32 >>> ((9 : Int32) &&& 31).toUInt32).toInt32))), .val (.int (f_draw ((p1.toUInt32 >>> ((18 : Int32) &&& 31).toUInt32).toInt32))), .val (.int (f_draw p2)), .val (.int (f_draw ((p2.toUInt32 >>> ((9 : Int32) &&& 31).toUInt32).toInt32))), .unset, .unset, .unset, .unset, .unset, .unset, .unset, .unset] [(.int p2)])) _
    refine XS.bipush X10.here hx rfl (hb hby at_51) ?_
    show Steps p.tables e below (T10.setTop (mkF m 53 #[.val (.int p0), .val (.int p1), .val (.int p2), .val (.int (p0 &&& (3 : Int32))), .val (.int (((p0.toUInt32 >>> ((2 : Int32) &&& 31).toUInt32).toInt32) &&& (3 : Int32))), .val (.int (f_draw p1)), .val (.int (f_draw ((p1.toUInt32 >>> ((9 : Int32) &&& 31).toUInt32).toInt32))), .val (.int (f_draw ((p1.toUInt32 >>> ((18 : Int32) &&& 31).toUInt32).toInt32))), .val (.int (f_draw p2)), .val (.int (f_draw ((p2.toUInt32 >>> ((9 : Int32) &&& 31).toUInt32).toInt32))), .unset, .unset, .unset, .unset, .unset, .unset, .unset, .unset] [(.int (18 : Int32)), (.int p2)])) _
    refine XS.iushr X10.here hx rfl (hb hby at_53) rfl ?_
    exact ht
  obtain ⟨_, _, ⟨T12, L12, kq12, n12⟩, -, X12, ⟨Lc12, hQ12, l12, y12, z12⟩, st12⟩ := Jvm.LawKit.callS X10 hx (y := (⟨"com/example/fieldveil/fieldveil/WildcardMatchesSomeTextStartingWithPinLaw", "draw", "(I)C"⟩ : MethodName)) hown (mvT hZ (hw _ (List.mem_of_getElem? (i := 0) rfl))) (mvT hZ (hw _ (List.mem_of_getElem? (i := 1) rfl))) (mvT hZ (hw _ (List.mem_of_getElem? (i := 2) rfl))) (mvT hZ (hw _ (List.mem_of_getElem? (i := 3) rfl))) (by decide) (backOf (W := 0) (rm_draw l Z a0 hw [] ((p2.toUInt32 >>> ((18 : Int32) &&& 31).toUInt32).toInt32) h0 n0 Z0 ) hZ (hw _ (List.mem_of_getElem? (i := 3) rfl)) (hw _ (List.mem_of_getElem? (i := 2) rfl)) (by decide) (by decide)) (g := (mkF m 54 #[.val (.int p0), .val (.int p1), .val (.int p2), .val (.int (p0 &&& (3 : Int32))), .val (.int (((p0.toUInt32 >>> ((2 : Int32) &&& 31).toUInt32).toInt32) &&& (3 : Int32))), .val (.int (f_draw p1)), .val (.int (f_draw ((p1.toUInt32 >>> ((9 : Int32) &&& 31).toUInt32).toInt32))), .val (.int (f_draw ((p1.toUInt32 >>> ((18 : Int32) &&& 31).toUInt32).toInt32))), .val (.int (f_draw p2)), .val (.int (f_draw ((p2.toUInt32 >>> ((9 : Int32) &&& 31).toUInt32).toInt32))), .unset, .unset, .unset, .unset, .unset, .unset, .unset, .unset] [(.int ((p2.toUInt32 >>> ((18 : Int32) &&& 31).toUInt32).toInt32))])) rfl (by rw [hml]; rfl) (argsL := [(.int ((p2.toUInt32 >>> ((18 : Int32) &&& 31).toUInt32).toInt32))]) (rest := []) (lenOf pd_9 rfl) rfl (by show 2 * 0 + _ ≤ _; exact Nat.le_of_eq rfl) (hb hby at_54) (fun _ _ => ⟨rfl, eq10, (by decide : 0 + 0 ≤ _), (by decide : 0 + 0 ≤ _)⟩)
  dsimp only [Pt.U, Pt.locs, Pt.cells, Pt.slots] at X12 l12 y12 z12 st12 hQ12
  subst l12 y12 z12
  obtain ⟨rfl, N12q, eq12⟩ := hQ12
  have N12 := Fr.app N10 N12q
  have k12 : Go p.tables e below (T10.setTop (mkF m 54 #[.val (.int p0), .val (.int p1), .val (.int p2), .val (.int (p0 &&& (3 : Int32))), .val (.int (((p0.toUInt32 >>> ((2 : Int32) &&& 31).toUInt32).toInt32) &&& (3 : Int32))), .val (.int (f_draw p1)), .val (.int (f_draw ((p1.toUInt32 >>> ((9 : Int32) &&& 31).toUInt32).toInt32))), .val (.int (f_draw ((p1.toUInt32 >>> ((18 : Int32) &&& 31).toUInt32).toInt32))), .val (.int (f_draw p2)), .val (.int (f_draw ((p2.toUInt32 >>> ((9 : Int32) &&& 31).toUInt32).toInt32))), .unset, .unset, .unset, .unset, .unset, .unset, .unset, .unset] [(.int ((p2.toUInt32 >>> ((18 : Int32) &&& 31).toUInt32).toInt32))])) (T12.setTop (mkF m 57 #[.val (.int p0), .val (.int p1), .val (.int p2), .val (.int (p0 &&& (3 : Int32))), .val (.int (((p0.toUInt32 >>> ((2 : Int32) &&& 31).toUInt32).toInt32) &&& (3 : Int32))), .val (.int (f_draw p1)), .val (.int (f_draw ((p1.toUInt32 >>> ((9 : Int32) &&& 31).toUInt32).toInt32))), .val (.int (f_draw ((p1.toUInt32 >>> ((18 : Int32) &&& 31).toUInt32).toInt32))), .val (.int (f_draw p2)), .val (.int (f_draw ((p2.toUInt32 >>> ((9 : Int32) &&& 31).toUInt32).toInt32))), .unset, .unset, .unset, .unset, .unset, .unset, .unset, .unset] [(.int (f_draw ((p2.toUInt32 >>> ((18 : Int32) &&& 31).toUInt32).toInt32)))])) := st12
  have k13 : Go p.tables e below (T12.setTop (mkF m 57 #[.val (.int p0), .val (.int p1), .val (.int p2), .val (.int (p0 &&& (3 : Int32))), .val (.int (((p0.toUInt32 >>> ((2 : Int32) &&& 31).toUInt32).toInt32) &&& (3 : Int32))), .val (.int (f_draw p1)), .val (.int (f_draw ((p1.toUInt32 >>> ((9 : Int32) &&& 31).toUInt32).toInt32))), .val (.int (f_draw ((p1.toUInt32 >>> ((18 : Int32) &&& 31).toUInt32).toInt32))), .val (.int (f_draw p2)), .val (.int (f_draw ((p2.toUInt32 >>> ((9 : Int32) &&& 31).toUInt32).toInt32))), .unset, .unset, .unset, .unset, .unset, .unset, .unset, .unset] [(.int (f_draw ((p2.toUInt32 >>> ((18 : Int32) &&& 31).toUInt32).toInt32)))])) (T12.setTop (mkF m 59 #[.val (.int p0), .val (.int p1), .val (.int p2), .val (.int (p0 &&& (3 : Int32))), .val (.int (((p0.toUInt32 >>> ((2 : Int32) &&& 31).toUInt32).toInt32) &&& (3 : Int32))), .val (.int (f_draw p1)), .val (.int (f_draw ((p1.toUInt32 >>> ((9 : Int32) &&& 31).toUInt32).toInt32))), .val (.int (f_draw ((p1.toUInt32 >>> ((18 : Int32) &&& 31).toUInt32).toInt32))), .val (.int (f_draw p2)), .val (.int (f_draw ((p2.toUInt32 >>> ((9 : Int32) &&& 31).toUInt32).toInt32))), .val (.int (f_draw ((p2.toUInt32 >>> ((18 : Int32) &&& 31).toUInt32).toInt32))), .unset, .unset, .unset, .unset, .unset, .unset, .unset] [])) := by
    intro t ht
    refine XS.istore X12.here hx rfl (hb hby at_57) rfl (l' := #[.val (.int p0), .val (.int p1), .val (.int p2), .val (.int (p0 &&& (3 : Int32))), .val (.int (((p0.toUInt32 >>> ((2 : Int32) &&& 31).toUInt32).toInt32) &&& (3 : Int32))), .val (.int (f_draw p1)), .val (.int (f_draw ((p1.toUInt32 >>> ((9 : Int32) &&& 31).toUInt32).toInt32))), .val (.int (f_draw ((p1.toUInt32 >>> ((18 : Int32) &&& 31).toUInt32).toInt32))), .val (.int (f_draw p2)), .val (.int (f_draw ((p2.toUInt32 >>> ((9 : Int32) &&& 31).toUInt32).toInt32))), .val (.int (f_draw ((p2.toUInt32 >>> ((18 : Int32) &&& 31).toUInt32).toInt32))), .unset, .unset, .unset, .unset, .unset, .unset, .unset]) rfl ?_
    exact ht
  obtain ⟨y14, ey14⟩ : ∃ z : Int32, z = (p0 &&& (3 : Int32)) := ⟨_, rfl⟩
  obtain ⟨y15, ey15⟩ : ∃ z : Int32, z = (((p0.toUInt32 >>> ((2 : Int32) &&& 31).toUInt32).toInt32) &&& (3 : Int32)) := ⟨_, rfl⟩
  obtain ⟨y16, ey16⟩ : ∃ z : Int32, z = (f_draw p1) := ⟨_, rfl⟩
  obtain ⟨y17, ey17⟩ : ∃ z : Int32, z = (f_draw ((p1.toUInt32 >>> ((9 : Int32) &&& 31).toUInt32).toInt32)) := ⟨_, rfl⟩
  obtain ⟨y18, ey18⟩ : ∃ z : Int32, z = (f_draw ((p1.toUInt32 >>> ((18 : Int32) &&& 31).toUInt32).toInt32)) := ⟨_, rfl⟩
  obtain ⟨y19, ey19⟩ : ∃ z : Int32, z = (f_draw p2) := ⟨_, rfl⟩
  obtain ⟨y20, ey20⟩ : ∃ z : Int32, z = (f_draw ((p2.toUInt32 >>> ((9 : Int32) &&& 31).toUInt32).toInt32)) := ⟨_, rfl⟩
  obtain ⟨y21, ey21⟩ : ∃ z : Int32, z = (f_draw ((p2.toUInt32 >>> ((18 : Int32) &&& 31).toUInt32).toInt32)) := ⟨_, rfl⟩
  have k22 : Go p.tables e below (T12.setTop (mkF m 59 #[.val (.int p0), .val (.int p1), .val (.int p2), .val (.int (p0 &&& (3 : Int32))), .val (.int (((p0.toUInt32 >>> ((2 : Int32) &&& 31).toUInt32).toInt32) &&& (3 : Int32))), .val (.int (f_draw p1)), .val (.int (f_draw ((p1.toUInt32 >>> ((9 : Int32) &&& 31).toUInt32).toInt32))), .val (.int (f_draw ((p1.toUInt32 >>> ((18 : Int32) &&& 31).toUInt32).toInt32))), .val (.int (f_draw p2)), .val (.int (f_draw ((p2.toUInt32 >>> ((9 : Int32) &&& 31).toUInt32).toInt32))), .val (.int (f_draw ((p2.toUInt32 >>> ((18 : Int32) &&& 31).toUInt32).toInt32))), .unset, .unset, .unset, .unset, .unset, .unset, .unset] [])) (T12.setTop (mkF m 59 #[.val (.int p0), .val (.int p1), .val (.int p2), .val (.int y14), .val (.int y15), .val (.int y16), .val (.int y17), .val (.int y18), .val (.int y19), .val (.int y20), .val (.int y21), .unset, .unset, .unset, .unset, .unset, .unset, .unset] [])) := by rw [ey14, ey15, ey16, ey17, ey18, ey19, ey20, ey21]; exact fun _ h => h
  have hn3 := own_and3c p0
  rw [← ey14] at hn3
  have hn4 := own_and3c ((p0.toUInt32 >>> ((2 : Int32) &&& 31).toUInt32).toInt32)
  rw [← ey15] at hn4
  have hd5 : ¬ y16 < 0 ∧ ¬ (255 : Int32) < y16 := ey16 ▸ own_draw _
  have hd6 : ¬ y17 < 0 ∧ ¬ (255 : Int32) < y17 := ey17 ▸ own_draw _
  have hd7 : ¬ y18 < 0 ∧ ¬ (255 : Int32) < y18 := ey18 ▸ own_draw _
  have hd8 : ¬ y19 < 0 ∧ ¬ (255 : Int32) < y19 := ey19 ▸ own_draw _
  have hd9 : ¬ y20 < 0 ∧ ¬ (255 : Int32) < y20 := ey20 ▸ own_draw _
  have hd10 : ¬ y21 < 0 ∧ ¬ (255 : Int32) < y21 := ey21 ▸ own_draw _
  have k23 : Go p.tables e below (T12.setTop (mkF m 59 #[.val (.int p0), .val (.int p1), .val (.int p2), .val (.int y14), .val (.int y15), .val (.int y16), .val (.int y17), .val (.int y18), .val (.int y19), .val (.int y20), .val (.int y21), .unset, .unset, .unset, .unset, .unset, .unset, .unset] [])) (T12.setTop (mkF m 66 #[.val (.int p0), .val (.int p1), .val (.int p2), .val (.int y14), .val (.int y15), .val (.int y16), .val (.int y17), .val (.int y18), .val (.int y19), .val (.int y20), .val (.int y21), .unset, .unset, .unset, .unset, .unset, .unset, .unset] [(.int y18), (.int y17), (.int y16), (.int y14)])) := by
    intro t ht
    refine XS.iloadN X12.here hx rfl (hb hby at_59) rfl ?_
    show Steps p.tables e below (T12.setTop (mkF m 60 #[.val (.int p0), .val (.int p1), .val (.int p2), .val (.int y14), .val (.int y15), .val (.int y16), .val (.int y17), .val (.int y18), .val (.int y19), .val (.int y20), .val (.int y21), .unset, .unset, .unset, .unset, .unset, .unset, .unset] [(.int y14)])) _
    refine XS.iload X12.here hx rfl (hb hby at_60) rfl ?_
    show Steps p.tables e below (T12.setTop (mkF m 62 #[.val (.int p0), .val (.int p1), .val (.int p2), .val (.int y14), .val (.int y15), .val (.int y16), .val (.int y17), .val (.int y18), .val (.int y19), .val (.int y20), .val (.int y21), .unset, .unset, .unset, .unset, .unset, .unset, .unset] [(.int y16), (.int y14)])) _
    refine XS.iload X12.here hx rfl (hb hby at_62) rfl ?_
    show Steps p.tables e below (T12.setTop (mkF m 64 #[.val (.int p0), .val (.int p1), .val (.int p2), .val (.int y14), .val (.int y15), .val (.int y16), .val (.int y17), .val (.int y18), .val (.int y19), .val (.int y20), .val (.int y21), .unset, .unset, .unset, .unset, .unset, .unset, .unset] [(.int y17), (.int y16), (.int y14)])) _
    refine XS.iload X12.here hx rfl (hb hby at_64) rfl ?_
    exact ht
  have hS0 : s.Since s.vm 0 := (State.WarmedH.refl s).since 0
  obtain ⟨_, _, ⟨T24, L24, kq24, n24⟩, -, X24, hSn24, hgr24, ⟨Lc24, hQ24, l24, y24, z24, hCr24⟩, st24⟩ := callSS X12 hx (y := (⟨"com/example/fieldveil/fieldveil/WildcardMatchesSomeTextStartingWithPinLaw", "mk", "(ICCC)Ljava/lang/String;"⟩ : MethodName)) hown (mvT hZ (hw _ (List.mem_of_getElem? (i := 4) rfl))) (mvT hZ (hw _ (List.mem_of_getElem? (i := 5) rfl))) (mvT hZ (hw _ (List.mem_of_getElem? (i := 2) rfl))) (mvT hZ (hw _ (List.mem_of_getElem? (i := 6) rfl))) (by decide) (backOfSH (s := s) (vm0 := s.vm) (W := 0) (rm_mk l Z a0 hw [] y14 y16 y17 y18 G1 h0 n0 Z0 S_CS (P5 : ¬ (G1 = (0 : Int32))) (hd5 : ¬ y16 < 0 ∧ ¬ (255 : Int32) < y16) (hd6 : ¬ y17 < 0 ∧ ¬ (255 : Int32) < y17) (hd7 : ¬ y18 < 0 ∧ ¬ (255 : Int32) < y18)) hZ (hw _ (List.mem_of_getElem? (i := 6) rfl)) (hw _ (List.mem_of_getElem? (i := 2) rfl)) (by decide) (by decide) (own_EL hw) hCH) (g := (mkF m 66 #[.val (.int p0), .val (.int p1), .val (.int p2), .val (.int y14), .val (.int y15), .val (.int y16), .val (.int y17), .val (.int y18), .val (.int y19), .val (.int y20), .val (.int y21), .unset, .unset, .unset, .unset, .unset, .unset, .unset] [(.int y18), (.int y17), (.int y16), (.int y14)])) rfl (by rw [hml]; rfl) (argsL := [(.int y14), (.int y16), (.int y17), (.int y18)]) (rest := []) (lenOf pd_10 rfl) rfl (by show 2 * 0 + _ ≤ _; exact Nat.le_of_eq rfl) (hb hby at_66) (fun _ _ => ⟨rfl, eq12, (by decide : 0 + 4 ≤ _), (by decide : 0 + 10 ≤ _)⟩)
  dsimp only [Pt.U, Pt.locs, Pt.cells, Pt.slots] at X24 l24 y24 z24 st24 hQ24 hSn24 hgr24 hCr24
  subst l24 y24 z24
  obtain ⟨X24, hS24, hZ, hown⟩ := rebS (s := s) (vm0 := s.vm) hS0 (Nat.zero_le _) X24 hSn24 (Nat.zero_le _) hZ hown
  obtain ⟨xs_24, xb_24, xk_24, rfl, N24q, K24, Pq24_0, Fq24_0, Fq24_1, Fq24_2, Fq24_3⟩ := hQ24
  have N24 := Fr.app N12 N24q
  have k24 : Go p.tables e below (T12.setTop (mkF m 66 #[.val (.int p0), .val (.int p1), .val (.int p2), .val (.int y14), .val (.int y15), .val (.int y16), .val (.int y17), .val (.int y18), .val (.int y19), .val (.int y20), .val (.int y21), .unset, .unset, .unset, .unset, .unset, .unset, .unset] [(.int y18), (.int y17), (.int y16), (.int y14)])) (T24.setTop (mkF m 69 #[.val (.int p0), .val (.int p1), .val (.int p2), .val (.int y14), .val (.int y15), .val (.int y16), .val (.int y17), .val (.int y18), .val (.int y19), .val (.int y20), .val (.int y21), .unset, .unset, .unset, .unset, .unset, .unset, .unset] [(.ref xs_24)])) := fun _ ht => st24.trans ht
  have Kp24 : Keep h0 T24.heap [] := (Keep.refl h0 []).trans K24 all0
  have Z24 : n0 ≤ T24.heap.size := Nat.le_trans Z0 K24.1
  have g_xs_24 : n0 ≤ xs_24 := Nat.le_trans Z0 Pq24_0
  have sz_xs_24 : h0.size ≤ xs_24 := Nat.le_trans (Keep.refl h0 []).1 Pq24_0
  have S_CS_c_24 := own_sta_keep0 S_CS K24
  have S_SI_c_24 := own_sta_keep0 S_SI K24
  have k25 : Go p.tables e below (T24.setTop (mkF m 69 #[.val (.int p0), .val (.int p1), .val (.int p2), .val (.int y14), .val (.int y15), .val (.int y16), .val (.int y17), .val (.int y18), .val (.int y19), .val (.int y20), .val (.int y21), .unset, .unset, .unset, .unset, .unset, .unset, .unset] [(.ref xs_24)])) (T24.setTop (mkF m 79 #[.val (.int p0), .val (.int p1), .val (.int p2), .val (.int y14), .val (.int y15), .val (.int y16), .val (.int y17), .val (.int y18), .val (.int y19), .val (.int y20), .val (.int y21), .val (.ref xs_24), .unset, .unset, .unset, .unset, .unset, .unset] [(.int y21), (.int y20), (.int y19), (.int y15)])) := by
    intro t ht
    refine XS.astore X24.here hx rfl (hb hby at_69) rfl rfl (l' := #[.val (.int p0), .val (.int p1), .val (.int p2), .val (.int y14), .val (.int y15), .val (.int y16), .val (.int y17), .val (.int y18), .val (.int y19), .val (.int y20), .val (.int y21), .val (.ref xs_24), .unset, .unset, .unset, .unset, .unset, .unset]) rfl ?_
    show Steps p.tables e below (T24.setTop (mkF m 71 #[.val (.int p0), .val (.int p1), .val (.int p2), .val (.int y14), .val (.int y15), .val (.int y16), .val (.int y17), .val (.int y18), .val (.int y19), .val (.int y20), .val (.int y21), .val (.ref xs_24), .unset, .unset, .unset, .unset, .unset, .unset] [])) _
    refine XS.iload X24.here hx rfl (hb hby at_71) rfl ?_
    show Steps p.tables e below (T24.setTop (mkF m 73 #[.val (.int p0), .val (.int p1), .val (.int p2), .val (.int y14), .val (.int y15), .val (.int y16), .val (.int y17), .val (.int y18), .val (.int y19), .val (.int y20), .val (.int y21), .val (.ref xs_24), .unset, .unset, .unset, .unset, .unset, .unset] [(.int y15)])) _
    refine XS.iload X24.here hx rfl (hb hby at_73) rfl ?_
    show Steps p.tables e below (T24.setTop (mkF m 75 #[.val (.int p0), .val (.int p1), .val (.int p2), .val (.int y14), .val (.int y15), .val (.int y16), .val (.int y17), .val (.int y18), .val (.int y19), .val (.int y20), .val (.int y21), .val (.ref xs_24), .unset, .unset, .unset, .unset, .unset, .unset] [(.int y19), (.int y15)])) _
    refine XS.iload X24.here hx rfl (hb hby at_75) rfl ?_
    show Steps p.tables e below (T24.setTop (mkF m 77 #[.val (.int p0), .val (.int p1), .val (.int p2), .val (.int y14), .val (.int y15), .val (.int y16), .val (.int y17), .val (.int y18), .val (.int y19), .val (.int y20), .val (.int y21), .val (.ref xs_24), .unset, .unset, .unset, .unset, .unset, .unset] [(.int y20), (.int y19), (.int y15)])) _
    refine XS.iload X24.here hx rfl (hb hby at_77) rfl ?_
    exact ht
  obtain ⟨_, _, ⟨T26, L26, kq26, n26⟩, -, X26, hSn26, hgr26, ⟨Lc26, hQ26, l26, y26, z26, hCr26⟩, st26⟩ := callSS X24 hx (y := (⟨"com/example/fieldveil/fieldveil/WildcardMatchesSomeTextStartingWithPinLaw", "mk", "(ICCC)Ljava/lang/String;"⟩ : MethodName)) hown (mvT hZ (hw _ (List.mem_of_getElem? (i := 4) rfl))) (mvT hZ (hw _ (List.mem_of_getElem? (i := 5) rfl))) (mvT hZ (hw _ (List.mem_of_getElem? (i := 2) rfl))) (mvT hZ (hw _ (List.mem_of_getElem? (i := 6) rfl))) (by decide) (backOfSH (s := s) (vm0 := T24.vm) (W := 0) (rm_mk l Z a0 hw [] y15 y19 y20 y21 G1 T24.heap n0 Z24 S_CS_c_24 (P5 : ¬ (G1 = (0 : Int32))) (hd8 : ¬ y19 < 0 ∧ ¬ (255 : Int32) < y19) (hd9 : ¬ y20 < 0 ∧ ¬ (255 : Int32) < y20) (hd10 : ¬ y21 < 0 ∧ ¬ (255 : Int32) < y21)) hZ (hw _ (List.mem_of_getElem? (i := 6) rfl)) (hw _ (List.mem_of_getElem? (i := 2) rfl)) (by decide) (by decide) (own_EL hw) hCr24.1) (g := (mkF m 79 #[.val (.int p0), .val (.int p1), .val (.int p2), .val (.int y14), .val (.int y15), .val (.int y16), .val (.int y17), .val (.int y18), .val (.int y19), .val (.int y20), .val (.int y21), .val (.ref xs_24), .unset, .unset, .unset, .unset, .unset, .unset] [(.int y21), (.int y20), (.int y19), (.int y15)])) rfl (by rw [hml]; rfl) (argsL := [(.int y15), (.int y19), (.int y20), (.int y21)]) (rest := []) (lenOf pd_10 rfl) rfl (by show 2 * 0 + _ ≤ _; exact Nat.le_of_eq rfl) (hb hby at_79) (fun _ _ => ⟨rfl, rfl, (by decide : 4 + 4 ≤ _), (by decide : 10 + 10 ≤ _)⟩)
  dsimp only [Pt.U, Pt.locs, Pt.cells, Pt.slots] at X26 l26 y26 z26 st26 hQ26 hSn26 hgr26 hCr26
  subst l26 y26 z26
  obtain ⟨X26, hS26, hZ, hown⟩ := rebS (s := s) hS24 (n1 := T24.heap.size) (Nat.le_refl _) X26 hSn26 hgr26 hZ hown
  obtain ⟨xs_26, xb_26, xk_26, rfl, N26q, K26, Pq26_0, Fq26_0, Fq26_1, Fq26_2, Fq26_3⟩ := hQ26
  have N26 := Fr.app N24 N26q
  have k26 : Go p.tables e below (T24.setTop (mkF m 79 #[.val (.int p0), .val (.int p1), .val (.int p2), .val (.int y14), .val (.int y15), .val (.int y16), .val (.int y17), .val (.int y18), .val (.int y19), .val (.int y20), .val (.int y21), .val (.ref xs_24), .unset, .unset, .unset, .unset, .unset, .unset] [(.int y21), (.int y20), (.int y19), (.int y15)])) (T26.setTop (mkF m 82 #[.val (.int p0), .val (.int p1), .val (.int p2), .val (.int y14), .val (.int y15), .val (.int y16), .val (.int y17), .val (.int y18), .val (.int y19), .val (.int y20), .val (.int y21), .val (.ref xs_24), .unset, .unset, .unset, .unset, .unset, .unset] [(.ref xs_26)])) := fun _ ht => st26.trans ht
  have Kp26 : Keep h0 T26.heap [] := Kp24.trans K26 all0
  have Z26 : n0 ≤ T26.heap.size := Nat.le_trans Z24 K26.1
  have ne_xs_24_xs_26 : xs_24 ≠ xs_26 := Nat.ne_of_lt (Nat.lt_of_lt_of_le Fq24_0.lt Pq26_0)
  have ne_xb_24_xs_26 : xb_24 ≠ xs_26 := Nat.ne_of_lt (Nat.lt_of_lt_of_le Fq24_3.lt Pq26_0)
  have g_xs_26 : n0 ≤ xs_26 := Nat.le_trans Z24 Pq26_0
  have sz_xs_26 : h0.size ≤ xs_26 := Nat.le_trans Kp24.1 Pq26_0
  have S_CS_c_26 := own_sta_keep0 S_CS_c_24 K26
  have S_SI_c_26 := own_sta_keep0 S_SI_c_24 K26
  have Fq24_0_c_26 := Fq24_0.keep K26
  have Fq24_1_c_26 := Fq24_1.keep K26 nin0
  have Fq24_2_c_26 := Fq24_2.keep K26 nin0
  have Fq24_3_c_26 := Fq24_3.keep K26 nin0
  have k27 : Go p.tables e below (T26.setTop (mkF m 82 #[.val (.int p0), .val (.int p1), .val (.int p2), .val (.int y14), .val (.int y15), .val (.int y16), .val (.int y17), .val (.int y18), .val (.int y19), .val (.int y20), .val (.int y21), .val (.ref xs_24), .unset, .unset, .unset, .unset, .unset, .unset] [(.ref xs_26)])) (T26.setTop (mkF m 84 #[.val (.int p0), .val (.int p1), .val (.int p2), .val (.int y14), .val (.int y15), .val (.int y16), .val (.int y17), .val (.int y18), .val (.int y19), .val (.int y20), .val (.int y21), .val (.ref xs_24), .val (.ref xs_26), .unset, .unset, .unset, .unset, .unset] [])) := by
    intro t ht
    refine XS.astore X26.here hx rfl (hb hby at_82) rfl rfl (l' := #[.val (.int p0), .val (.int p1), .val (.int p2), .val (.int y14), .val (.int y15), .val (.int y16), .val (.int y17), .val (.int y18), .val (.int y19), .val (.int y20), .val (.int y21), .val (.ref xs_24), .val (.ref xs_26), .unset, .unset, .unset, .unset, .unset]) rfl ?_
    exact ht
  obtain ⟨T28, h28, X28, e28, E28, A28, D28, -, st28⟩ := newO X26 hx hZ hown (hw _ (List.mem_of_getElem? (i := 29) rfl)) (hw _ (List.mem_of_getElem? (i := 30) rfl)) (hw _ (List.mem_of_getElem? (i := 31) rfl)) rfl (g := (mkF m 84 #[.val (.int p0), .val (.int p1), .val (.int p2), .val (.int y14), .val (.int y15), .val (.int y16), .val (.int y17), .val (.int y18), .val (.int y19), .val (.int y20), .val (.int y21), .val (.ref xs_24), .val (.ref xs_26), .unset, .unset, .unset, .unset, .unset] [])) rfl (hb hby at_84) (by decide) (by decide)
  obtain ⟨b28, g28⟩ : ∃ z, z = T26.heap.size := ⟨_, rfl⟩
  rw [← g28] at A28 D28 st28
  have g_b28 : n0 ≤ b28 := Nat.le_trans Z26 (Nat.le_of_eq g28.symm)
  have sz_b28 : h0.size ≤ b28 := Nat.le_trans Kp26.1 (Nat.le_of_eq g28.symm)
  have ne_xs_24_b28 : xs_24 ≠ b28 := Nat.ne_of_lt (Nat.lt_of_lt_of_le Fq24_0_c_26.lt (Nat.le_of_eq g28.symm))
  have ne_xb_24_b28 : xb_24 ≠ b28 := Nat.ne_of_lt (Nat.lt_of_lt_of_le Fq24_3_c_26.lt (Nat.le_of_eq g28.symm))
  have ne_xs_26_b28 : xs_26 ≠ b28 := Nat.ne_of_lt (Nat.lt_of_lt_of_le Fq26_0.lt (Nat.le_of_eq g28.symm))
  have ne_xb_26_b28 : xb_26 ≠ b28 := Nat.ne_of_lt (Nat.lt_of_lt_of_le Fq26_3.lt (Nat.le_of_eq g28.symm))
  have Kp28 : Keep h0 h28 [] := Kp26.ext E28
  have Z28 : n0 ≤ h28.size := Nat.le_trans Z26 E28.1
  have S_CS_c_28 := S_CS_c_26.ext E28
  have S_SI_c_28 := S_SI_c_26.ext E28
  have Fq24_0_c_28 := Fq24_0_c_26.ext E28
  have Fq24_1_c_28 := Fq24_1_c_26.ext E28
  have Fq24_2_c_28 := Fq24_2_c_26.ext E28
  have Fq24_3_c_28 := Fq24_3_c_26.ext E28
  have Fq26_0_c_28 := Fq26_0.ext E28
  have Fq26_1_c_28 := Fq26_1.ext E28
  have Fq26_2_c_28 := Fq26_2.ext E28
  have Fq26_3_c_28 := Fq26_3.ext E28
  have F_pattern_b28 : Fld Z h28 b28 "com/example/fieldveil/fieldveil/Wildcard" "pattern" "Ljava/lang/String;" .null := D28 (Or.inr (hw _ (List.mem_of_getElem? (i := 40) rfl))) (ty := (.object "java/lang/String")) (by decide)
  have F_anyOne_b28 : Fld Z h28 b28 "com/example/fieldveil/fieldveil/Wildcard" "anyOne" "Z" (.int (0 : Int32)) := D28 (Or.inr (hw _ (List.mem_of_getElem? (i := 42) rfl))) (ty := .boolean) (by decide)
  have F_literal_b28 : Fld Z h28 b28 "com/example/fieldveil/fieldveil/Wildcard" "literal" "Z" (.int (0 : Int32)) := D28 (Or.inr (hw _ (List.mem_of_getElem? (i := 84) rfl))) (ty := .boolean) (by decide)
  have k28 : Go p.tables e below (T26.setTop (mkF m 84 #[.val (.int p0), .val (.int p1), .val (.int p2), .val (.int y14), .val (.int y15), .val (.int y16), .val (.int y17), .val (.int y18), .val (.int y19), .val (.int y20), .val (.int y21), .val (.ref xs_24), .val (.ref xs_26), .unset, .unset, .unset, .unset, .unset] [])) (T28.setTop (mkF m 87 #[.val (.int p0), .val (.int p1), .val (.int p2), .val (.int y14), .val (.int y15), .val (.int y16), .val (.int y17), .val (.int y18), .val (.int y19), .val (.int y20), .val (.int y21), .val (.ref xs_24), .val (.ref xs_26), .unset, .unset, .unset, .unset, .unset] [(.ref b28)])) := st28
  have k29 : Go p.tables e below (T28.setTop (mkF m 87 #[.val (.int p0), .val (.int p1), .val (.int p2), .val (.int y14), .val (.int y15), .val (.int y16), .val (.int y17), .val (.int y18), .val (.int y19), .val (.int y20), .val (.int y21), .val (.ref xs_24), .val (.ref xs_26), .unset, .unset, .unset, .unset, .unset] [(.ref b28)])) (T28.setTop (mkF m 90 #[.val (.int p0), .val (.int p1), .val (.int p2), .val (.int y14), .val (.int y15), .val (.int y16), .val (.int y17), .val (.int y18), .val (.int y19), .val (.int y20), .val (.int y21), .val (.ref xs_24), .val (.ref xs_26), .unset, .unset, .unset, .unset, .unset] [(.ref xs_24), (.ref b28), (.ref b28)])) := by
    intro t ht
    refine XS.dup X28.here hx rfl (hb hby at_87) rfl rfl ?_
    show Steps p.tables e below (T28.setTop (mkF m 88 #[.val (.int p0), .val (.int p1), .val (.int p2), .val (.int y14), .val (.int y15), .val (.int y16), .val (.int y17), .val (.int y18), .val (.int y19), .val (.int y20), .val (.int y21), .val (.ref xs_24), .val (.ref xs_26), .unset, .unset, .unset, .unset, .unset] [(.ref b28), (.ref b28)])) _
    refine XS.aload X28.here hx rfl (hb hby at_88) rfl rfl ?_
    exact ht
  obtain ⟨_, _, ⟨T30, L30, kq30, n30⟩, -, X30, ⟨Lc30, hQ30, l30, y30, z30⟩, st30⟩ := X28.specialBack hx (y := (⟨"com/example/fieldveil/fieldveil/Wildcard", "<init>", "(Ljava/lang/String;)V"⟩ : MethodName)) rfl hown (mvT hZ (hw _ (List.mem_of_getElem? (i := 32) rfl))) (mvT hZ (hw _ (List.mem_of_getElem? (i := 33) rfl))) (mvT hZ (hw _ (List.mem_of_getElem? (i := 34) rfl))) (by decide) (backOf (W := 1) (rm_wc1 l Z a0 hw [] b28 xs_24 xb_24 xk_24 (own_str y14 y16 y17 y18) G1 h28 n0 Z28 F_pattern_b28 F_anyOne_b28 F_literal_b28 A28 Fq24_0_c_28 Fq24_1_c_28 Fq24_2_c_28 S_CS_c_28 Fq24_3_c_28 g_b28 (P5 : ¬ (G1 = (0 : Int32))) (own_strch hd5 hd6 hd7 : ∀ c ∈ (own_str y14 y16 y17 y18), ¬ c < 0 ∧ ¬ (255 : Int32) < c) (own_strlen _ _ _ _ : (own_str y14 y16 y17 y18).length ≤ 3) (ne_xs_24_b28 : xs_24 ≠ b28) (ne_xb_24_b28 : xb_24 ≠ b28)) hZ (hw _ (List.mem_of_getElem? (i := 34) rfl)) (hw _ (List.mem_of_getElem? (i := 31) rfl)) (by decide) (by decide)) (g := (mkF m 90 #[.val (.int p0), .val (.int p1), .val (.int p2), .val (.int y14), .val (.int y15), .val (.int y16), .val (.int y17), .val (.int y18), .val (.int y19), .val (.int y20), .val (.int y21), .val (.ref xs_24), .val (.ref xs_26), .unset, .unset, .unset, .unset, .unset] [(.ref xs_24), (.ref b28), (.ref b28)])) rfl (by rw [hml]; rfl) (Steps.refl _) (a := b28) (argsL := [(.ref xs_24)]) (rest := [(.ref b28)]) (lenOf pd_11 rfl) rfl (by show 2 * 0 + _ ≤ _; exact Nat.le_of_eq rfl) (hb hby at_90) (fun _ _ => ⟨rfl, e28, (by decide : 9 + 0 ≤ _), (by decide : 23 + 0 ≤ _)⟩)
  dsimp only [Pt.U, Pt.locs, Pt.cells, Pt.slots] at X30 l30 y30 z30 st30 hQ30
  subst l30 y30 z30
  obtain ⟨rfl, N30q, K30, Fq30_0, Fq30_1, Fq30_2⟩ := hQ30
  have N30 := Fr.app N26 N30q
  have k30 : Go p.tables e below (T28.setTop (mkF m 90 #[.val (.int p0), .val (.int p1), .val (.int p2), .val (.int y14), .val (.int y15), .val (.int y16), .val (.int y17), .val (.int y18), .val (.int y19), .val (.int y20), .val (.int y21), .val (.ref xs_24), .val (.ref xs_26), .unset, .unset, .unset, .unset, .unset] [(.ref xs_24), (.ref b28), (.ref b28)])) (T30.setTop (mkF m 93 #[.val (.int p0), .val (.int p1), .val (.int p2), .val (.int y14), .val (.int y15), .val (.int y16), .val (.int y17), .val (.int y18), .val (.int y19), .val (.int y20), .val (.int y21), .val (.ref xs_24), .val (.ref xs_26), .unset, .unset, .unset, .unset, .unset] [(.ref b28)])) := fun _ ht => st30.trans ht
  have Kp30 : Keep h0 T30.heap [] := Kp28.trans K30 (allS (Or.inr sz_b28) all0)
  have Z30 : n0 ≤ T30.heap.size := Nat.le_trans Z28 K30.1
  have S_CS_c_30 := own_sta_keep S_CS_c_28 A28 K30
  have S_SI_c_30 := own_sta_keep S_SI_c_28 A28 K30
  have Fq24_0_c_30 := Fq24_0_c_28.keep K30
  have Fq24_1_c_30 := Fq24_1_c_28.keep K30 (ninS ne_xs_24_b28 nin0)
  have Fq24_2_c_30 := Fq24_2_c_28.keep K30 (ninS ne_xs_24_b28 nin0)
  have Fq24_3_c_30 := Fq24_3_c_28.keep K30 (ninS ne_xb_24_b28 nin0)
  have Fq26_0_c_30 := Fq26_0_c_28.keep K30
  have Fq26_1_c_30 := Fq26_1_c_28.keep K30 (ninS ne_xs_26_b28 nin0)
  have Fq26_2_c_30 := Fq26_2_c_28.keep K30 (ninS ne_xs_26_b28 nin0)
  have Fq26_3_c_30 := Fq26_3_c_28.keep K30 (ninS ne_xb_26_b28 nin0)
  have A28_c_30 := A28.keep K30
  have k31 : Go p.tables e below (T30.setTop (mkF m 93 #[.val (.int p0), .val (.int p1), .val (.int p2), .val (.int y14), .val (.int y15), .val (.int y16), .val (.int y17), .val (.int y18), .val (.int y19), .val (.int y20), .val (.int y21), .val (.ref xs_24), .val (.ref xs_26), .unset, .unset, .unset, .unset, .unset] [(.ref b28)])) (T30.setTop (mkF m 95 #[.val (.int p0), .val (.int p1), .val (.int p2), .val (.int y14), .val (.int y15), .val (.int y16), .val (.int y17), .val (.int y18), .val (.int y19), .val (.int y20), .val (.int y21), .val (.ref xs_24), .val (.ref xs_26), .unset, .unset, .unset, .unset, .unset] [(.ref xs_26), (.ref b28)])) := by
    intro t ht
    refine XS.aload X30.here hx rfl (hb hby at_93) rfl rfl ?_
    exact ht
  obtain ⟨cq32, kq32, q32a, q32b, q32c⟩ := isOf hZ rfl Fq30_0
  obtain ⟨_, _, ⟨T32, L32, kq32, n32⟩, -, X32, ⟨Lc32, hQ32, l32, y32, z32⟩, st32⟩ := X30.virtualBack hx (y := (⟨"com/example/fieldveil/fieldveil/Wildcard", "matchesSomeTextStartingWith", "(Ljava/lang/CharSequence;)Z"⟩ : MethodName)) (z := (⟨"com/example/fieldveil/fieldveil/Wildcard", "matchesSomeTextStartingWith", "(Ljava/lang/CharSequence;)Z"⟩ : MethodName)) hown (mvT hZ (hw _ (List.mem_of_getElem? (i := 85) rfl))) (mvT hZ (hw _ (List.mem_of_getElem? (i := 86) rfl))) (notFace_of_selects (args := #[]) (mvT hZ (hw _ (List.mem_of_getElem? (i := 88) rfl)))) (mvT hZ (hw _ (List.mem_of_getElem? (i := 88) rfl))) (mvT hZ (hw _ (List.mem_of_getElem? (i := 87) rfl))) (by decide) (backOf (W := 0) (rm_match l Z a0 hw [] b28 xs_26 xs_24 xb_24 xk_24 (own_str y14 y16 y17 y18) xb_26 xk_26 (own_str y15 y19 y20 y21) G1 fm T30.heap n0 Z30 Fq30_0 Fq30_1 Fq30_2 Fq24_0_c_30 Fq24_1_c_30 Fq24_2_c_30 Fq26_0_c_30 Fq26_1_c_30 Fq26_2_c_30 S_CS_c_30 S_SI_c_30 Fq24_3_c_30 Fq26_3_c_30 (P5 : ¬ (G1 = (0 : Int32))) (rf : fm.isRef = true) (own_strch hd5 hd6 hd7 : ∀ c ∈ (own_str y14 y16 y17 y18), ¬ c < 0 ∧ ¬ (255 : Int32) < c) (own_strch hd8 hd9 hd10 : ∀ c ∈ (own_str y15 y19 y20 y21), ¬ c < 0 ∧ ¬ (255 : Int32) < c) (own_strlen _ _ _ _ : (own_str y14 y16 y17 y18).length ≤ 3) (own_strlen _ _ _ _ : (own_str y15 y19 y20 y21).length ≤ 3)) hZ (hw _ (List.mem_of_getElem? (i := 89) rfl)) (hw _ (List.mem_of_getElem? (i := 31) rfl)) (by decide) (by decide)) q32a q32c (g := (mkF m 95 #[.val (.int p0), .val (.int p1), .val (.int p2), .val (.int y14), .val (.int y15), .val (.int y16), .val (.int y17), .val (.int y18), .val (.int y19), .val (.int y20), .val (.int y21), .val (.ref xs_24), .val (.ref xs_26), .unset, .unset, .unset, .unset, .unset] [(.ref xs_26), (.ref b28)])) rfl (by rw [hml]; rfl) (Steps.refl _) (argsL := [(.ref xs_26)]) (rest := []) (lenOf pd_12 rfl) rfl (by show 2 * 0 + _ ≤ _; exact Nat.le_of_eq rfl) (hb hby at_95) (fun _ _ => ⟨rfl, rfl, (by decide : 9 + 0 ≤ _), (by decide : 23 + 0 ≤ _)⟩)
  dsimp only [Pt.U, Pt.locs, Pt.cells, Pt.slots] at X32 l32 y32 z32 st32 hQ32
  subst l32 y32 z32
  obtain ⟨rfl, N32q, eq32⟩ := hQ32
  have N32 := Fr.app N30 N32q
  have k32 : Go p.tables e below (T30.setTop (mkF m 95 #[.val (.int p0), .val (.int p1), .val (.int p2), .val (.int y14), .val (.int y15), .val (.int y16), .val (.int y17), .val (.int y18), .val (.int y19), .val (.int y20), .val (.int y21), .val (.ref xs_24), .val (.ref xs_26), .unset, .unset, .unset, .unset, .unset] [(.ref xs_26), (.ref b28)])) (T32.setTop (mkF m 98 #[.val (.int p0), .val (.int p1), .val (.int p2), .val (.int y14), .val (.int y15), .val (.int y16), .val (.int y17), .val (.int y18), .val (.int y19), .val (.int y20), .val (.int y21), .val (.ref xs_24), .val (.ref xs_26), .unset, .unset, .unset, .unset, .unset] [(.int (nar .boolean (f_tail0 (own_str y14 y16 y17 y18) (own_str y15 y19 y20 y21))))])) := fun _ ht => st32.trans ht
  have k33 : Go p.tables e below (T32.setTop (mkF m 98 #[.val (.int p0), .val (.int p1), .val (.int p2), .val (.int y14), .val (.int y15), .val (.int y16), .val (.int y17), .val (.int y18), .val (.int y19), .val (.int y20), .val (.int y21), .val (.ref xs_24), .val (.ref xs_26), .unset, .unset, .unset, .unset, .unset] [(.int (nar .boolean (f_tail0 (own_str y14 y16 y17 y18) (own_str y15 y19 y20 y21))))])) (T32.setTop (mkF m 105 #[.val (.int p0), .val (.int p1), .val (.int p2), .val (.int y14), .val (.int y15), .val (.int y16), .val (.int y17), .val (.int y18), .val (.int y19), .val (.int y20), .val (.int y21), .val (.ref xs_24), .val (.ref xs_26), .val (.int (nar .boolean (f_tail0 (own_str y14 y16 y17 y18) (own_str y15 y19 y20 y21)))), .val (.int y14), .unset, .unset, .unset] [(.int (2 : Int32)), (.int y14)])) := by
    intro t ht
    refine XS.istore X32.here hx rfl (hb hby at_98) rfl (l' := #[.val (.int p0), .val (.int p1), .val (.int p2), .val (.int y14), .val (.int y15), .val (.int y16), .val (.int y17), .val (.int y18), .val (.int y19), .val (.int y20), .val (.int y21), .val (.ref xs_24), .val (.ref xs_26), .val (.int (nar .boolean (f_tail0 (own_str y14 y16 y17 y18) (own_str y15 y19 y20 y21)))), .unset, .unset, .unset, .unset]) rfl ?_
    show Steps p.tables e below (T32.setTop (mkF m 100 #[.val (.int p0), .val (.int p1), .val (.int p2), .val (.int y14), .val (.int y15), .val (.int y16), .val (.int y17), .val (.int y18), .val (.int y19), .val (.int y20), .val (.int y21), .val (.ref xs_24), .val (.ref xs_26), .val (.int (nar .boolean (f_tail0 (own_str y14 y16 y17 y18) (own_str y15 y19 y20 y21)))), .unset, .unset, .unset, .unset] [])) _
    refine XS.iloadN X32.here hx rfl (hb hby at_100) rfl ?_
    show Steps p.tables e below (T32.setTop (mkF m 101 #[.val (.int p0), .val (.int p1), .val (.int p2), .val (.int y14), .val (.int y15), .val (.int y16), .val (.int y17), .val (.int y18), .val (.int y19), .val (.int y20), .val (.int y21), .val (.ref xs_24), .val (.ref xs_26), .val (.int (nar .boolean (f_tail0 (own_str y14 y16 y17 y18) (own_str y15 y19 y20 y21)))), .unset, .unset, .unset, .unset] [(.int y14)])) _
    refine XS.istore X32.here hx rfl (hb hby at_101) rfl (l' := #[.val (.int p0), .val (.int p1), .val (.int p2), .val (.int y14), .val (.int y15), .val (.int y16), .val (.int y17), .val (.int y18), .val (.int y19), .val (.int y20), .val (.int y21), .val (.ref xs_24), .val (.ref xs_26), .val (.int (nar .boolean (f_tail0 (own_str y14 y16 y17 y18) (own_str y15 y19 y20 y21)))), .val (.int y14), .unset, .unset, .unset]) rfl ?_
    show Steps p.tables e below (T32.setTop (mkF m 103 #[.val (.int p0), .val (.int p1), .val (.int p2), .val (.int y14), .val (.int y15), .val (.int y16), .val (.int y17), .val (.int y18), .val (.int y19), .val (.int y20), .val (.int y21), .val (.ref xs_24), .val (.ref xs_26), .val (.int (nar .boolean (f_tail0 (own_str y14 y16 y17 y18) (own_str y15 y19 y20 y21)))), .val (.int y14), .unset, .unset, .unset] [])) _
    refine XS.iloadN X32.here hx rfl (hb hby at_103) rfl ?_
    show Steps p.tables e below (T32.setTop (mkF m 104 #[.val (.int p0), .val (.int p1), .val (.int p2), .val (.int y14), .val (.int y15), .val (.int y16), .val (.int y17), .val (.int y18), .val (.int y19), .val (.int y20), .val (.int y21), .val (.ref xs_24), .val (.ref xs_26), .val (.int (nar .boolean (f_tail0 (own_str y14 y16 y17 y18) (own_str y15 y19 y20 y21)))), .val (.int y14), .unset, .unset, .unset] [(.int y14)])) _
    refine XS.iconst X32.here hx rfl (hb hby at_104) ?_
    exact ht
  have k34 : Go p.tables e below (T32.setTop (mkF m 105 #[.val (.int p0), .val (.int p1), .val (.int p2), .val (.int y14), .val (.int y15), .val (.int y16), .val (.int y17), .val (.int y18), .val (.int y19), .val (.int y20), .val (.int y21), .val (.ref xs_24), .val (.ref xs_26), .val (.int (nar .boolean (f_tail0 (own_str y14 y16 y17 y18) (own_str y15 y19 y20 y21)))), .val (.int y14), .unset, .unset, .unset] [(.int (2 : Int32)), (.int y14)])) (T32.setTop (mkF m 118 #[.val (.int p0), .val (.int p1), .val (.int p2), .val (.int y14), .val (.int y15), .val (.int y16), .val (.int y17), .val (.int y18), .val (.int y19), .val (.int y20), .val (.int y21), .val (.ref xs_24), .val (.ref xs_26), .val (.int (nar .boolean (f_tail0 (own_str y14 y16 y17 y18) (own_str y15 y19 y20 y21)))), .val (.int (if (2 : Int32) < y14 then (if y18 = (42 : Int32) then (2 : Int32) else y14) else y14)), .unset, .unset, .unset] [])) := by
    by_cases hc35 : (2 : Int32) < y14
    · have k36 : Go p.tables e below (T32.setTop (mkF m 105 #[.val (.int p0), .val (.int p1), .val (.int p2), .val (.int y14), .val (.int y15), .val (.int y16), .val (.int y17), .val (.int y18), .val (.int y19), .val (.int y20), .val (.int y21), .val (.ref xs_24), .val (.ref xs_26), .val (.int (nar .boolean (f_tail0 (own_str y14 y16 y17 y18) (own_str y15 y19 y20 y21)))), .val (.int y14), .unset, .unset, .unset] [(.int (2 : Int32)), (.int y14)])) (T32.setTop (mkF m 112 #[.val (.int p0), .val (.int p1), .val (.int p2), .val (.int y14), .val (.int y15), .val (.int y16), .val (.int y17), .val (.int y18), .val (.int y19), .val (.int y20), .val (.int y21), .val (.ref xs_24), .val (.ref xs_26), .val (.int (nar .boolean (f_tail0 (own_str y14 y16 y17 y18) (own_str y15 y19 y20 y21)))), .val (.int y14), .unset, .unset, .unset] [(.int (42 : Int32)), (.int y18)])) := by
        intro t ht
        refine XS.icmpNo X32.here hx rfl (hb hby at_105) rfl (tlt hc35).2.2.2 ?_
        show Steps p.tables e below (T32.setTop (mkF m 108 #[.val (.int p0), .val (.int p1), .val (.int p2), .val (.int y14), .val (.int y15), .val (.int y16), .val (.int y17), .val (.int y18), .val (.int y19), .val (.int y20), .val (.int y21), .val (.ref xs_24), .val (.ref xs_26), .val (.int (nar .boolean (f_tail0 (own_str y14 y16 y17 y18) (own_str y15 y19 y20 y21)))), .val (.int y14), .unset, .unset, .unset] [])) _
        refine XS.iload X32.here hx rfl (hb hby at_108) rfl ?_
        show Steps p.tables e below (T32.setTop (mkF m 110 #[.val (.int p0), .val (.int p1), .val (.int p2), .val (.int y14), .val (.int y15), .val (.int y16), .val (.int y17), .val (.int y18), .val (.int y19), .val (.int y20), .val (.int y21), .val (.ref xs_24), .val (.ref xs_26), .val (.int (nar .boolean (f_tail0 (own_str y14 y16 y17 y18) (own_str y15 y19 y20 y21)))), .val (.int y14), .unset, .unset, .unset] [(.int y18)])) _
        refine XS.bipush X32.here hx rfl (hb hby at_110) ?_
        exact ht
      by_cases hc37 : y18 = (42 : Int32)
      · have k38 : Go p.tables e below (T32.setTop (mkF m 112 #[.val (.int p0), .val (.int p1), .val (.int p2), .val (.int y14), .val (.int y15), .val (.int y16), .val (.int y17), .val (.int y18), .val (.int y19), .val (.int y20), .val (.int y21), .val (.ref xs_24), .val (.ref xs_26), .val (.int (nar .boolean (f_tail0 (own_str y14 y16 y17 y18) (own_str y15 y19 y20 y21)))), .val (.int y14), .unset, .unset, .unset] [(.int (42 : Int32)), (.int y18)])) (T32.setTop (mkF m 118 #[.val (.int p0), .val (.int p1), .val (.int p2), .val (.int y14), .val (.int y15), .val (.int y16), .val (.int y17), .val (.int y18), .val (.int y19), .val (.int y20), .val (.int y21), .val (.ref xs_24), .val (.ref xs_26), .val (.int (nar .boolean (f_tail0 (own_str y14 y16 y17 y18) (own_str y15 y19 y20 y21)))), .val (.int (2 : Int32)), .unset, .unset, .unset] [])) := by
          intro t ht
          refine XS.icmpNo X32.here hx rfl (hb hby at_112) rfl (teq hc37).2 ?_
          show Steps p.tables e below (T32.setTop (mkF m 115 #[.val (.int p0), .val (.int p1), .val (.int p2), .val (.int y14), .val (.int y15), .val (.int y16), .val (.int y17), .val (.int y18), .val (.int y19), .val (.int y20), .val (.int y21), .val (.ref xs_24), .val (.ref xs_26), .val (.int (nar .boolean (f_tail0 (own_str y14 y16 y17 y18) (own_str y15 y19 y20 y21)))), .val (.int y14), .unset, .unset, .unset] [])) _
          refine XS.iconst X32.here hx rfl (hb hby at_115) ?_
          show Steps p.tables e below (T32.setTop (mkF m 116 #[.val (.int p0), .val (.int p1), .val (.int p2), .val (.int y14), .val (.int y15), .val (.int y16), .val (.int y17), .val (.int y18), .val (.int y19), .val (.int y20), .val (.int y21), .val (.ref xs_24), .val (.ref xs_26), .val (.int (nar .boolean (f_tail0 (own_str y14 y16 y17 y18) (own_str y15 y19 y20 y21)))), .val (.int y14), .unset, .unset, .unset] [(.int (2 : Int32))])) _
          refine XS.istore X32.here hx rfl (hb hby at_116) rfl (l' := #[.val (.int p0), .val (.int p1), .val (.int p2), .val (.int y14), .val (.int y15), .val (.int y16), .val (.int y17), .val (.int y18), .val (.int y19), .val (.int y20), .val (.int y21), .val (.ref xs_24), .val (.ref xs_26), .val (.int (nar .boolean (f_tail0 (own_str y14 y16 y17 y18) (own_str y15 y19 y20 y21)))), .val (.int (2 : Int32)), .unset, .unset, .unset]) rfl ?_
          exact ht
        have kk := (goT k36 k38)
        simpa only [if_pos hc35, if_pos hc37] using kk
      · have k39 : Go p.tables e below (T32.setTop (mkF m 112 #[.val (.int p0), .val (.int p1), .val (.int p2), .val (.int y14), .val (.int y15), .val (.int y16), .val (.int y17), .val (.int y18), .val (.int y19), .val (.int y20), .val (.int y21), .val (.ref xs_24), .val (.ref xs_26), .val (.int (nar .boolean (f_tail0 (own_str y14 y16 y17 y18) (own_str y15 y19 y20 y21)))), .val (.int y14), .unset, .unset, .unset] [(.int (42 : Int32)), (.int y18)])) (T32.setTop (mkF m 118 #[.val (.int p0), .val (.int p1), .val (.int p2), .val (.int y14), .val (.int y15), .val (.int y16), .val (.int y17), .val (.int y18), .val (.int y19), .val (.int y20), .val (.int y21), .val (.ref xs_24), .val (.ref xs_26), .val (.int (nar .boolean (f_tail0 (own_str y14 y16 y17 y18) (own_str y15 y19 y20 y21)))), .val (.int y14), .unset, .unset, .unset] [])) := by
          intro t ht
          refine XS.icmpYes X32.here hx rfl (pc0 := 112) (pc' := 118) rfl (hb hby at_112) rfl (feq hc37).2 (by decide) (by decide) ?_
          exact ht
        have kk := (goT k36 k39)
        simpa only [if_pos hc35, if_neg hc37] using kk
    · have k40 : Go p.tables e below (T32.setTop (mkF m 105 #[.val (.int p0), .val (.int p1), .val (.int p2), .val (.int y14), .val (.int y15), .val (.int y16), .val (.int y17), .val (.int y18), .val (.int y19), .val (.int y20), .val (.int y21), .val (.ref xs_24), .val (.ref xs_26), .val (.int (nar .boolean (f_tail0 (own_str y14 y16 y17 y18) (own_str y15 y19 y20 y21)))), .val (.int y14), .unset, .unset, .unset] [(.int (2 : Int32)), (.int y14)])) (T32.setTop (mkF m 118 #[.val (.int p0), .val (.int p1), .val (.int p2), .val (.int y14), .val (.int y15), .val (.int y16), .val (.int y17), .val (.int y18), .val (.int y19), .val (.int y20), .val (.int y21), .val (.ref xs_24), .val (.ref xs_26), .val (.int (nar .boolean (f_tail0 (own_str y14 y16 y17 y18) (own_str y15 y19 y20 y21)))), .val (.int y14), .unset, .unset, .unset] [])) := by
        intro t ht
        refine XS.icmpYes X32.here hx rfl (pc0 := 105) (pc' := 118) rfl (hb hby at_105) rfl (flt hc35).2.2.2 (by decide) (by decide) ?_
        exact ht
      have kk := k40
      simpa only [if_neg hc35] using kk
  have k41 : Go p.tables e below (T32.setTop (mkF m 118 #[.val (.int p0), .val (.int p1), .val (.int p2), .val (.int y14), .val (.int y15), .val (.int y16), .val (.int y17), .val (.int y18), .val (.int y19), .val (.int y20), .val (.int y21), .val (.ref xs_24), .val (.ref xs_26), .val (.int (nar .boolean (f_tail0 (own_str y14 y16 y17 y18) (own_str y15 y19 y20 y21)))), .val (.int (if (2 : Int32) < y14 then (if y18 = (42 : Int32) then (2 : Int32) else y14) else y14)), .unset, .unset, .unset] [])) (T32.setTop (mkF m 120 #[.val (.int p0), .val (.int p1), .val (.int p2), .val (.int y14), .val (.int y15), .val (.int y16), .val (.int y17), .val (.int y18), .val (.int y19), .val (.int y20), .val (.int y21), .val (.ref xs_24), .val (.ref xs_26), .val (.int (nar .boolean (f_tail0 (own_str y14 y16 y17 y18) (own_str y15 y19 y20 y21)))), .val (.int (if (2 : Int32) < y14 then (if y18 = (42 : Int32) then (2 : Int32) else y14) else y14)), .unset, .unset, .unset] [(.int (1 : Int32)), (.int y14)])) := by
    intro t ht
    refine XS.iloadN X32.here hx rfl (hb hby at_118) rfl ?_
    show Steps p.tables e below (T32.setTop (mkF m 119 #[.val (.int p0), .val (.int p1), .val (.int p2), .val (.int y14), .val (.int y15), .val (.int y16), .val (.int y17), .val (.int y18), .val (.int y19), .val (.int y20), .val (.int y21), .val (.ref xs_24), .val (.ref xs_26), .val (.int (nar .boolean (f_tail0 (own_str y14 y16 y17 y18) (own_str y15 y19 y20 y21)))), .val (.int (if (2 : Int32) < y14 then (if y18 = (42 : Int32) then (2 : Int32) else y14) else y14)), .unset, .unset, .unset] [(.int y14)])) _
    refine XS.iconst X32.here hx rfl (hb hby at_119) ?_
    exact ht
  have k42 : Go p.tables e below (T32.setTop (mkF m 120 #[.val (.int p0), .val (.int p1), .val (.int p2), .val (.int y14), .val (.int y15), .val (.int y16), .val (.int y17), .val (.int y18), .val (.int y19), .val (.int y20), .val (.int y21), .val (.ref xs_24), .val (.ref xs_26), .val (.int (nar .boolean (f_tail0 (own_str y14 y16 y17 y18) (own_str y15 y19 y20 y21)))), .val (.int (if (2 : Int32) < y14 then (if y18 = (42 : Int32) then (2 : Int32) else y14) else y14)), .unset, .unset, .unset] [(.int (1 : Int32)), (.int y14)])) (T32.setTop (mkF m 133 #[.val (.int p0), .val (.int p1), .val (.int p2), .val (.int y14), .val (.int y15), .val (.int y16), .val (.int y17), .val (.int y18), .val (.int y19), .val (.int y20), .val (.int y21), .val (.ref xs_24), .val (.ref xs_26), .val (.int (nar .boolean (f_tail0 (own_str y14 y16 y17 y18) (own_str y15 y19 y20 y21)))), .val (.int (if (1 : Int32) < y14 then (if y17 = (42 : Int32) then (1 : Int32) else (if (2 : Int32) < y14 then (if y18 = (42 : Int32) then (2 : Int32) else y14) else y14)) else (if (2 : Int32) < y14 then (if y18 = (42 : Int32) then (2 : Int32) else y14) else y14))), .unset, .unset, .unset] [])) := by
    by_cases hc43 : (1 : Int32) < y14
    · have k44 : Go p.tables e below (T32.setTop (mkF m 120 #[.val (.int p0), .val (.int p1), .val (.int p2), .val (.int y14), .val (.int y15), .val (.int y16), .val (.int y17), .val (.int y18), .val (.int y19), .val (.int y20), .val (.int y21), .val (.ref xs_24), .val (.ref xs_26), .val (.int (nar .boolean (f_tail0 (own_str y14 y16 y17 y18) (own_str y15 y19 y20 y21)))), .val (.int (if (2 : Int32) < y14 then (if y18 = (42 : Int32) then (2 : Int32) else y14) else y14)), .unset, .unset, .unset] [(.int (1 : Int32)), (.int y14)])) (T32.setTop (mkF m 127 #[.val (.int p0), .val (.int p1), .val (.int p2), .val (.int y14), .val (.int y15), .val (.int y16), .val (.int y17), .val (.int y18), .val (.int y19), .val (.int y20), .val (.int y21), .val (.ref xs_24), .val (.ref xs_26), .val (.int (nar .boolean (f_tail0 (own_str y14 y16 y17 y18) (own_str y15 y19 y20 y21)))), .val (.int (if (2 : Int32) < y14 then (if y18 = (42 : Int32) then (2 : Int32) else y14) else y14)), .unset, .unset, .unset] [(.int (42 : Int32)), (.int y17)])) := by
        intro t ht
        refine XS.icmpNo X32.here hx rfl (hb hby at_120) rfl (tlt hc43).2.2.2 ?_
        show Steps p.tables e below (T32.setTop (mkF m 123 #[.val (.int p0), .val (.int p1), .val (.int p2), .val (.int y14), .val (.int y15), .val (.int y16), .val (.int y17), .val (.int y18), .val (.int y19), .val (.int y20), .val (.int y21), .val (.ref xs_24), .val (.ref xs_26), .val (.int (nar .boolean (f_tail0 (own_str y14 y16 y17 y18) (own_str y15 y19 y20 y21)))), .val (.int (if (2 : Int32) < y14 then (if y18 = (42 : Int32) then (2 : Int32) else y14) else y14)), .unset, .unset, .unset] [])) _
        refine XS.iload X32.here hx rfl (hb hby at_123) rfl ?_
        show Steps p.tables e below (T32.setTop (mkF m 125 #[.val (.int p0), .val (.int p1), .val (.int p2), .val (.int y14), .val (.int y15), .val (.int y16), .val (.int y17), .val (.int y18), .val (.int y19), .val (.int y20), .val (.int y21), .val (.ref xs_24), .val (.ref xs_26), .val (.int (nar .boolean (f_tail0 (own_str y14 y16 y17 y18) (own_str y15 y19 y20 y21)))), .val (.int (if (2 : Int32) < y14 then (if y18 = (42 : Int32) then (2 : Int32) else y14) else y14)), .unset, .unset, .unset] [(.int y17)])) _
        refine XS.bipush X32.here hx rfl (hb hby at_125) ?_
        exact ht
      by_cases hc45 : y17 = (42 : Int32)
      · have k46 : Go p.tables e below (T32.setTop (mkF m 127 #[.val (.int p0), .val (.int p1), .val (.int p2), .val (.int y14), .val (.int y15), .val (.int y16), .val (.int y17), .val (.int y18), .val (.int y19), .val (.int y20), .val (.int y21), .val (.ref xs_24), .val (.ref xs_26), .val (.int (nar .boolean (f_tail0 (own_str y14 y16 y17 y18) (own_str y15 y19 y20 y21)))), .val (.int (if (2 : Int32) < y14 then (if y18 = (42 : Int32) then (2 : Int32) else y14) else y14)), .unset, .unset, .unset] [(.int (42 : Int32)), (.int y17)])) (T32.setTop (mkF m 133 #[.val (.int p0), .val (.int p1), .val (.int p2), .val (.int y14), .val (.int y15), .val (.int y16), .val (.int y17), .val (.int y18), .val (.int y19), .val (.int y20), .val (.int y21), .val (.ref xs_24), .val (.ref xs_26), .val (.int (nar .boolean (f_tail0 (own_str y14 y16 y17 y18) (own_str y15 y19 y20 y21)))), .val (.int (1 : Int32)), .unset, .unset, .unset] [])) := by
          intro t ht
          refine XS.icmpNo X32.here hx rfl (hb hby at_127) rfl (teq hc45).2 ?_
          show Steps p.tables e below (T32.setTop (mkF m 130 #[.val (.int p0), .val (.int p1), .val (.int p2), .val (.int y14), .val (.int y15), .val (.int y16), .val (.int y17), .val (.int y18), .val (.int y19), .val (.int y20), .val (.int y21), .val (.ref xs_24), .val (.ref xs_26), .val (.int (nar .boolean (f_tail0 (own_str y14 y16 y17 y18) (own_str y15 y19 y20 y21)))), .val (.int (if (2 : Int32) < y14 then (if y18 = (42 : Int32) then (2 : Int32) else y14) else y14)), .unset, .unset, .unset] [])) _
          refine XS.iconst X32.here hx rfl (hb hby at_130) ?_
          show Steps p.tables e below (T32.setTop (mkF m 131 #[.val (.int p0), .val (.int p1), .val (.int p2), .val (.int y14), .val (.int y15), .val (.int y16), .val (.int y17), .val (.int y18), .val (.int y19), .val (.int y20), .val (.int y21), .val (.ref xs_24), .val (.ref xs_26), .val (.int (nar .boolean (f_tail0 (own_str y14 y16 y17 y18) (own_str y15 y19 y20 y21)))), .val (.int (if (2 : Int32) < y14 then (if y18 = (42 : Int32) then (2 : Int32) else y14) else y14)), .unset, .unset, .unset] [(.int (1 : Int32))])) _
          refine XS.istore X32.here hx rfl (hb hby at_131) rfl (l' := #[.val (.int p0), .val (.int p1), .val (.int p2), .val (.int y14), .val (.int y15), .val (.int y16), .val (.int y17), .val (.int y18), .val (.int y19), .val (.int y20), .val (.int y21), .val (.ref xs_24), .val (.ref xs_26), .val (.int (nar .boolean (f_tail0 (own_str y14 y16 y17 y18) (own_str y15 y19 y20 y21)))), .val (.int (1 : Int32)), .unset, .unset, .unset]) rfl ?_
          exact ht
        have kk := (goT k44 k46)
        simpa only [if_pos hc43, if_pos hc45] using kk
      · have k47 : Go p.tables e below (T32.setTop (mkF m 127 #[.val (.int p0), .val (.int p1), .val (.int p2), .val (.int y14), .val (.int y15), .val (.int y16), .val (.int y17), .val (.int y18), .val (.int y19), .val (.int y20), .val (.int y21), .val (.ref xs_24), .val (.ref xs_26), .val (.int (nar .boolean (f_tail0 (own_str y14 y16 y17 y18) (own_str y15 y19 y20 y21)))), .val (.int (if (2 : Int32) < y14 then (if y18 = (42 : Int32) then (2 : Int32) else y14) else y14)), .unset, .unset, .unset] [(.int (42 : Int32)), (.int y17)])) (T32.setTop (mkF m 133 #[.val (.int p0), .val (.int p1), .val (.int p2), .val (.int y14), .val (.int y15), .val (.int y16), .val (.int y17), .val (.int y18), .val (.int y19), .val (.int y20), .val (.int y21), .val (.ref xs_24), .val (.ref xs_26), .val (.int (nar .boolean (f_tail0 (own_str y14 y16 y17 y18) (own_str y15 y19 y20 y21)))), .val (.int (if (2 : Int32) < y14 then (if y18 = (42 : Int32) then (2 : Int32) else y14) else y14)), .unset, .unset, .unset] [])) := by
          intro t ht
          refine XS.icmpYes X32.here hx rfl (pc0 := 127) (pc' := 133) rfl (hb hby at_127) rfl (feq hc45).2 (by decide) (by decide) ?_
          exact ht
        have kk := (goT k44 k47)
        simpa only [if_pos hc43, if_neg hc45] using kk
    · have k48 : Go p.tables e below (T32.setTop (mkF m 120 #[.val (.int p0), .val (.int p1), .val (.int p2), .val (.int y14), .val (.int y15), .val (.int y16), .val (.int y17), .val (.int y18), .val (.int y19), .val (.int y20), .val (.int y21), .val (.ref xs_24), .val (.ref xs_26), .val (.int (nar .boolean (f_tail0 (own_str y14 y16 y17 y18) (own_str y15 y19 y20 y21)))), .val (.int (if (2 : Int32) < y14 then (if y18 = (42 : Int32) then (2 : Int32) else y14) else y14)), .unset, .unset, .unset] [(.int (1 : Int32)), (.int y14)])) (T32.setTop (mkF m 133 #[.val (.int p0), .val (.int p1), .val (.int p2), .val (.int y14), .val (.int y15), .val (.int y16), .val (.int y17), .val (.int y18), .val (.int y19), .val (.int y20), .val (.int y21), .val (.ref xs_24), .val (.ref xs_26), .val (.int (nar .boolean (f_tail0 (own_str y14 y16 y17 y18) (own_str y15 y19 y20 y21)))), .val (.int (if (2 : Int32) < y14 then (if y18 = (42 : Int32) then (2 : Int32) else y14) else y14)), .unset, .unset, .unset] [])) := by
        intro t ht
        refine XS.icmpYes X32.here hx rfl (pc0 := 120) (pc' := 133) rfl (hb hby at_120) rfl (flt hc43).2.2.2 (by decide) (by decide) ?_
        exact ht
      have kk := k48
      simpa only [if_neg hc43] using kk
  have k49 : Go p.tables e below (T32.setTop (mkF m 133 #[.val (.int p0), .val (.int p1), .val (.int p2), .val (.int y14), .val (.int y15), .val (.int y16), .val (.int y17), .val (.int y18), .val (.int y19), .val (.int y20), .val (.int y21), .val (.ref xs_24), .val (.ref xs_26), .val (.int (nar .boolean (f_tail0 (own_str y14 y16 y17 y18) (own_str y15 y19 y20 y21)))), .val (.int (if (1 : Int32) < y14 then (if y17 = (42 : Int32) then (1 : Int32) else (if (2 : Int32) < y14 then (if y18 = (42 : Int32) then (2 : Int32) else y14) else y14)) else (if (2 : Int32) < y14 then (if y18 = (42 : Int32) then (2 : Int32) else y14) else y14))), .unset, .unset, .unset] [])) (T32.setTop (mkF m 134 #[.val (.int p0), .val (.int p1), .val (.int p2), .val (.int y14), .val (.int y15), .val (.int y16), .val (.int y17), .val (.int y18), .val (.int y19), .val (.int y20), .val (.int y21), .val (.ref xs_24), .val (.ref xs_26), .val (.int (nar .boolean (f_tail0 (own_str y14 y16 y17 y18) (own_str y15 y19 y20 y21)))), .val (.int (if (1 : Int32) < y14 then (if y17 = (42 : Int32) then (1 : Int32) else (if (2 : Int32) < y14 then (if y18 = (42 : Int32) then (2 : Int32) else y14) else y14)) else (if (2 : Int32) < y14 then (if y18 = (42 : Int32) then (2 : Int32) else y14) else y14))), .unset, .unset, .unset] [(.int y14)])) := by
    intro t ht
    refine XS.iloadN X32.here hx rfl (hb hby at_133) rfl ?_
    exact ht
  have k50 : Go p.tables e below (T32.setTop (mkF m 134 #[.val (.int p0), .val (.int p1), .val (.int p2), .val (.int y14), .val (.int y15), .val (.int y16), .val (.int y17), .val (.int y18), .val (.int y19), .val (.int y20), .val (.int y21), .val (.ref xs_24), .val (.ref xs_26), .val (.int (nar .boolean (f_tail0 (own_str y14 y16 y17 y18) (own_str y15 y19 y20 y21)))), .val (.int (if (1 : Int32) < y14 then (if y17 = (42 : Int32) then (1 : Int32) else (if (2 : Int32) < y14 then (if y18 = (42 : Int32) then (2 : Int32) else y14) else y14)) else (if (2 : Int32) < y14 then (if y18 = (42 : Int32) then (2 : Int32) else y14) else y14))), .unset, .unset, .unset] [(.int y14)])) (T32.setTop (mkF m 147 #[.val (.int p0), .val (.int p1), .val (.int p2), .val (.int y14), .val (.int y15), .val (.int y16), .val (.int y17), .val (.int y18), .val (.int y19), .val (.int y20), .val (.int y21), .val (.ref xs_24), .val (.ref xs_26), .val (.int (nar .boolean (f_tail0 (own_str y14 y16 y17 y18) (own_str y15 y19 y20 y21)))), .val (.int (if (0 : Int32) < y14 then (if y16 = (42 : Int32) then (0 : Int32) else (if (1 : Int32) < y14 then (if y17 = (42 : Int32) then (1 : Int32) else (if (2 : Int32) < y14 then (if y18 = (42 : Int32) then (2 : Int32) else y14) else y14)) else (if (2 : Int32) < y14 then (if y18 = (42 : Int32) then (2 : Int32) else y14) else y14))) else (if (1 : Int32) < y14 then (if y17 = (42 : Int32) then (1 : Int32) else (if (2 : Int32) < y14 then (if y18 = (42 : Int32) then (2 : Int32) else y14) else y14)) else (if (2 : Int32) < y14 then (if y18 = (42 : Int32) then (2 : Int32) else y14) else y14)))), .unset, .unset, .unset] [])) := by
    by_cases hc51 : (0 : Int32) < y14
    · have k52 : Go p.tables e below (T32.setTop (mkF m 134 #[.val (.int p0), .val (.int p1), .val (.int p2), .val (.int y14), .val (.int y15), .val (.int y16), .val (.int y17), .val (.int y18), .val (.int y19), .val (.int y20), .val (.int y21), .val (.ref xs_24), .val (.ref xs_26), .val (.int (nar .boolean (f_tail0 (own_str y14 y16 y17 y18) (own_str y15 y19 y20 y21)))), .val (.int (if (1 : Int32) < y14 then (if y17 = (42 : Int32) then (1 : Int32) else (if (2 : Int32) < y14 then (if y18 = (42 : Int32) then (2 : Int32) else y14) else y14)) else (if (2 : Int32) < y14 then (if y18 = (42 : Int32) then (2 : Int32) else y14) else y14))), .unset, .unset, .unset] [(.int y14)])) (T32.setTop (mkF m 141 #[.val (.int p0), .val (.int p1), .val (.int p2), .val (.int y14), .val (.int y15), .val (.int y16), .val (.int y17), .val (.int y18), .val (.int y19), .val (.int y20), .val (.int y21), .val (.ref xs_24), .val (.ref xs_26), .val (.int (nar .boolean (f_tail0 (own_str y14 y16 y17 y18) (own_str y15 y19 y20 y21)))), .val (.int (if (1 : Int32) < y14 then (if y17 = (42 : Int32) then (1 : Int32) else (if (2 : Int32) < y14 then (if y18 = (42 : Int32) then (2 : Int32) else y14) else y14)) else (if (2 : Int32) < y14 then (if y18 = (42 : Int32) then (2 : Int32) else y14) else y14))), .unset, .unset, .unset] [(.int (42 : Int32)), (.int y16)])) := by
        intro t ht
        refine XS.ifNo X32.here hx rfl (hb hby at_134) rfl ((if0 _ _).trans (tlt hc51).2.2.2) ?_
        show Steps p.tables e below (T32.setTop (mkF m 137 #[.val (.int p0), .val (.int p1), .val (.int p2), .val (.int y14), .val (.int y15), .val (.int y16), .val (.int y17), .val (.int y18), .val (.int y19), .val (.int y20), .val (.int y21), .val (.ref xs_24), .val (.ref xs_26), .val (.int (nar .boolean (f_tail0 (own_str y14 y16 y17 y18) (own_str y15 y19 y20 y21)))), .val (.int (if (1 : Int32) < y14 then (if y17 = (42 : Int32) then (1 : Int32) else (if (2 : Int32) < y14 then (if y18 = (42 : Int32) then (2 : Int32) else y14) else y14)) else (if (2 : Int32) < y14 then (if y18 = (42 : Int32) then (2 : Int32) else y14) else y14))), .unset, .unset, .unset] [])) _
        refine XS.iload X32.here hx rfl (hb hby at_137) rfl ?_
        show Steps p.tables e below (T32.setTop (mkF m 139 #[.val (.int p0), .val (.int p1), .val (.int p2), .val (.int y14), .val (.int y15), .val (.int y16), .val (.int y17), .val (.int y18), .val (.int y19), .val (.int y20), .val (.int y21), .val (.ref xs_24), .val (.ref xs_26), .val (.int (nar .boolean (f_tail0 (own_str y14 y16 y17 y18) (own_str y15 y19 y20 y21)))), .val (.int (if (1 : Int32) < y14 then (if y17 = (42 : Int32) then (1 : Int32) else (if (2 : Int32) < y14 then (if y18 = (42 : Int32) then (2 : Int32) else y14) else y14)) else (if (2 : Int32) < y14 then (if y18 = (42 : Int32) then (2 : Int32) else y14) else y14))), .unset, .unset, .unset] [(.int y16)])) _
        refine XS.bipush X32.here hx rfl (hb hby at_139) ?_
        exact ht
      by_cases hc53 : y16 = (42 : Int32)
      · have k54 : Go p.tables e below (T32.setTop (mkF m 141 #[.val (.int p0), .val (.int p1), .val (.int p2), .val (.int y14), .val (.int y15), .val (.int y16), .val (.int y17), .val (.int y18), .val (.int y19), .val (.int y20), .val (.int y21), .val (.ref xs_24), .val (.ref xs_26), .val (.int (nar .boolean (f_tail0 (own_str y14 y16 y17 y18) (own_str y15 y19 y20 y21)))), .val (.int (if (1 : Int32) < y14 then (if y17 = (42 : Int32) then (1 : Int32) else (if (2 : Int32) < y14 then (if y18 = (42 : Int32) then (2 : Int32) else y14) else y14)) else (if (2 : Int32) < y14 then (if y18 = (42 : Int32) then (2 : Int32) else y14) else y14))), .unset, .unset, .unset] [(.int (42 : Int32)), (.int y16)])) (T32.setTop (mkF m 147 #[.val (.int p0), .val (.int p1), .val (.int p2), .val (.int y14), .val (.int y15), .val (.int y16), .val (.int y17), .val (.int y18), .val (.int y19), .val (.int y20), .val (.int y21), .val (.ref xs_24), .val (.ref xs_26), .val (.int (nar .boolean (f_tail0 (own_str y14 y16 y17 y18) (own_str y15 y19 y20 y21)))), .val (.int (0 : Int32)), .unset, .unset, .unset] [])) := by
          intro t ht
          refine XS.icmpNo X32.here hx rfl (hb hby at_141) rfl (teq hc53).2 ?_
          show Steps p.tables e below (T32.setTop (mkF m 144 #[.val (.int p0), .val (.int p1), .val (.int p2), .val (.int y14), .val (.int y15), .val (.int y16), .val (.int y17), .val (.int y18), .val (.int y19), .val (.int y20), .val (.int y21), .val (.ref xs_24), .val (.ref xs_26), .val (.int (nar .boolean (f_tail0 (own_str y14 y16 y17 y18) (own_str y15 y19 y20 y21)))), .val (.int (if (1 : Int32) < y14 then (if y17 = (42 : Int32) then (1 : Int32) else (if (2 : Int32) < y14 then (if y18 = (42 : Int32) then (2 : Int32) else y14) else y14)) else (if (2 : Int32) < y14 then (if y18 = (42 : Int32) then (2 : Int32) else y14) else y14))), .unset, .unset, .unset] [])) _
          refine XS.iconst X32.here hx rfl (hb hby at_144) ?_
          show Steps p.tables e below (T32.setTop (mkF m 145 #[.val (.int p0), .val (.int p1), .val (.int p2), .val (.int y14), .val (.int y15), .val (.int y16), .val (.int y17), .val (.int y18), .val (.int y19), .val (.int y20), .val (.int y21), .val (.ref xs_24), .val (.ref xs_26), .val (.int (nar .boolean (f_tail0 (own_str y14 y16 y17 y18) (own_str y15 y19 y20 y21)))), .val (.int (if (1 : Int32) < y14 then (if y17 = (42 : Int32) then (1 : Int32) else (if (2 : Int32) < y14 then (if y18 = (42 : Int32) then (2 : Int32) else y14) else y14)) else (if (2 : Int32) < y14 then (if y18 = (42 : Int32) then (2 : Int32) else y14) else y14))), .unset, .unset, .unset] [(.int (0 : Int32))])) _
          refine XS.istore X32.here hx rfl (hb hby at_145) rfl (l' := #[.val (.int p0), .val (.int p1), .val (.int p2), .val (.int y14), .val (.int y15), .val (.int y16), .val (.int y17), .val (.int y18), .val (.int y19), .val (.int y20), .val (.int y21), .val (.ref xs_24), .val (.ref xs_26), .val (.int (nar .boolean (f_tail0 (own_str y14 y16 y17 y18) (own_str y15 y19 y20 y21)))), .val (.int (0 : Int32)), .unset, .unset, .unset]) rfl ?_
          exact ht
        have kk := (goT k52 k54)
        simpa only [if_pos hc51, if_pos hc53] using kk
      · have k55 : Go p.tables e below (T32.setTop (mkF m 141 #[.val (.int p0), .val (.int p1), .val (.int p2), .val (.int y14), .val (.int y15), .val (.int y16), .val (.int y17), .val (.int y18), .val (.int y19), .val (.int y20), .val (.int y21), .val (.ref xs_24), .val (.ref xs_26), .val (.int (nar .boolean (f_tail0 (own_str y14 y16 y17 y18) (own_str y15 y19 y20 y21)))), .val (.int (if (1 : Int32) < y14 then (if y17 = (42 : Int32) then (1 : Int32) else (if (2 : Int32) < y14 then (if y18 = (42 : Int32) then (2 : Int32) else y14) else y14)) else (if (2 : Int32) < y14 then (if y18 = (42 : Int32) then (2 : Int32) else y14) else y14))), .unset, .unset, .unset] [(.int (42 : Int32)), (.int y16)])) (T32.setTop (mkF m 147 #[.val (.int p0), .val (.int p1), .val (.int p2), .val (.int y14), .val (.int y15), .val (.int y16), .val (.int y17), .val (.int y18), .val (.int y19), .val (.int y20), .val (.int y21), .val (.ref xs_24), .val (.ref xs_26), .val (.int (nar .boolean (f_tail0 (own_str y14 y16 y17 y18) (own_str y15 y19 y20 y21)))), .val (.int (if (1 : Int32) < y14 then (if y17 = (42 : Int32) then (1 : Int32) else (if (2 : Int32) < y14 then (if y18 = (42 : Int32) then (2 : Int32) else y14) else y14)) else (if (2 : Int32) < y14 then (if y18 = (42 : Int32) then (2 : Int32) else y14) else y14))), .unset, .unset, .unset] [])) := by
          intro t ht
          refine XS.icmpYes X32.here hx rfl (pc0 := 141) (pc' := 147) rfl (hb hby at_141) rfl (feq hc53).2 (by decide) (by decide) ?_
          exact ht
        have kk := (goT k52 k55)
        simpa only [if_pos hc51, if_neg hc53] using kk
    · have k56 : Go p.tables e below (T32.setTop (mkF m 134 #[.val (.int p0), .val (.int p1), .val (.int p2), .val (.int y14), .val (.int y15), .val (.int y16), .val (.int y17), .val (.int y18), .val (.int y19), .val (.int y20), .val (.int y21), .val (.ref xs_24), .val (.ref xs_26), .val (.int (nar .boolean (f_tail0 (own_str y14 y16 y17 y18) (own_str y15 y19 y20 y21)))), .val (.int (if (1 : Int32) < y14 then (if y17 = (42 : Int32) then (1 : Int32) else (if (2 : Int32) < y14 then (if y18 = (42 : Int32) then (2 : Int32) else y14) else y14)) else (if (2 : Int32) < y14 then (if y18 = (42 : Int32) then (2 : Int32) else y14) else y14))), .unset, .unset, .unset] [(.int y14)])) (T32.setTop (mkF m 147 #[.val (.int p0), .val (.int p1), .val (.int p2), .val (.int y14), .val (.int y15), .val (.int y16), .val (.int y17), .val (.int y18), .val (.int y19), .val (.int y20), .val (.int y21), .val (.ref xs_24), .val (.ref xs_26), .val (.int (nar .boolean (f_tail0 (own_str y14 y16 y17 y18) (own_str y15 y19 y20 y21)))), .val (.int (if (1 : Int32) < y14 then (if y17 = (42 : Int32) then (1 : Int32) else (if (2 : Int32) < y14 then (if y18 = (42 : Int32) then (2 : Int32) else y14) else y14)) else (if (2 : Int32) < y14 then (if y18 = (42 : Int32) then (2 : Int32) else y14) else y14))), .unset, .unset, .unset] [])) := by
        intro t ht
        refine XS.ifYes X32.here hx rfl (pc0 := 134) (pc' := 147) rfl (hb hby at_134) rfl ((if0 _ _).trans (flt hc51).2.2.2) (by decide) (by decide) ?_
        exact ht
      have kk := k56
      simpa only [if_neg hc51] using kk
  obtain ⟨y57, ey57⟩ : ∃ z : Int32, z = (if (0 : Int32) < y14 then (if y16 = (42 : Int32) then (0 : Int32) else (if (1 : Int32) < y14 then (if y17 = (42 : Int32) then (1 : Int32) else (if (2 : Int32) < y14 then (if y18 = (42 : Int32) then (2 : Int32) else y14) else y14)) else (if (2 : Int32) < y14 then (if y18 = (42 : Int32) then (2 : Int32) else y14) else y14))) else (if (1 : Int32) < y14 then (if y17 = (42 : Int32) then (1 : Int32) else (if (2 : Int32) < y14 then (if y18 = (42 : Int32) then (2 : Int32) else y14) else y14)) else (if (2 : Int32) < y14 then (if y18 = (42 : Int32) then (2 : Int32) else y14) else y14))) := ⟨_, rfl⟩
  have k58 : Go p.tables e below (T32.setTop (mkF m 147 #[.val (.int p0), .val (.int p1), .val (.int p2), .val (.int y14), .val (.int y15), .val (.int y16), .val (.int y17), .val (.int y18), .val (.int y19), .val (.int y20), .val (.int y21), .val (.ref xs_24), .val (.ref xs_26), .val (.int (nar .boolean (f_tail0 (own_str y14 y16 y17 y18) (own_str y15 y19 y20 y21)))), .val (.int (if (0 : Int32) < y14 then (if y16 = (42 : Int32) then (0 : Int32) else (if (1 : Int32) < y14 then (if y17 = (42 : Int32) then (1 : Int32) else (if (2 : Int32) < y14 then (if y18 = (42 : Int32) then (2 : Int32) else y14) else y14)) else (if (2 : Int32) < y14 then (if y18 = (42 : Int32) then (2 : Int32) else y14) else y14))) else (if (1 : Int32) < y14 then (if y17 = (42 : Int32) then (1 : Int32) else (if (2 : Int32) < y14 then (if y18 = (42 : Int32) then (2 : Int32) else y14) else y14)) else (if (2 : Int32) < y14 then (if y18 = (42 : Int32) then (2 : Int32) else y14) else y14)))), .unset, .unset, .unset] [])) (T32.setTop (mkF m 147 #[.val (.int p0), .val (.int p1), .val (.int p2), .val (.int y14), .val (.int y15), .val (.int y16), .val (.int y17), .val (.int y18), .val (.int y19), .val (.int y20), .val (.int y21), .val (.ref xs_24), .val (.ref xs_26), .val (.int (nar .boolean (f_tail0 (own_str y14 y16 y17 y18) (own_str y15 y19 y20 y21)))), .val (.int y57), .unset, .unset, .unset] [])) := by rw [ey57]; exact fun _ h => h
  have k59 : Go p.tables e below (T32.setTop (mkF m 147 #[.val (.int p0), .val (.int p1), .val (.int p2), .val (.int y14), .val (.int y15), .val (.int y16), .val (.int y17), .val (.int y18), .val (.int y19), .val (.int y20), .val (.int y21), .val (.ref xs_24), .val (.ref xs_26), .val (.int (nar .boolean (f_tail0 (own_str y14 y16 y17 y18) (own_str y15 y19 y20 y21)))), .val (.int y57), .unset, .unset, .unset] [])) (T32.setTop (mkF m 151 #[.val (.int p0), .val (.int p1), .val (.int p2), .val (.int y14), .val (.int y15), .val (.int y16), .val (.int y17), .val (.int y18), .val (.int y19), .val (.int y20), .val (.int y21), .val (.ref xs_24), .val (.ref xs_26), .val (.int (nar .boolean (f_tail0 (own_str y14 y16 y17 y18) (own_str y15 y19 y20 y21)))), .val (.int y57), .unset, .unset, .unset] [(.int y57), (.int y15)])) := by
    intro t ht
    refine XS.iload X32.here hx rfl (hb hby at_147) rfl ?_
    show Steps p.tables e below (T32.setTop (mkF m 149 #[.val (.int p0), .val (.int p1), .val (.int p2), .val (.int y14), .val (.int y15), .val (.int y16), .val (.int y17), .val (.int y18), .val (.int y19), .val (.int y20), .val (.int y21), .val (.ref xs_24), .val (.ref xs_26), .val (.int (nar .boolean (f_tail0 (own_str y14 y16 y17 y18) (own_str y15 y19 y20 y21)))), .val (.int y57), .unset, .unset, .unset] [(.int y15)])) _
    refine XS.iload X32.here hx rfl (hb hby at_149) rfl ?_
    exact ht
  obtain ⟨_, _, ⟨T60, L60, kq60, n60⟩, -, X60, ⟨Lc60, hQ60, l60, y60, z60⟩, st60⟩ := Jvm.LawKit.callS X32 hx (y := (⟨"java/lang/Math", "min", "(II)I"⟩ : MethodName)) hown (mvT hZ (hw _ (List.mem_of_getElem? (i := 97) rfl))) (mvT hZ (hw _ (List.mem_of_getElem? (i := 81) rfl))) (mvT hZ (hw _ (List.mem_of_getElem? (i := 78) rfl))) (mvT hZ (hw _ (List.mem_of_getElem? (i := 82) rfl))) (by decide) (backOf (W := 0) (rm_min l Z a0 hw [] y15 y57 T30.heap n0 Z30 ) hZ (hw _ (List.mem_of_getElem? (i := 82) rfl)) (hw _ (List.mem_of_getElem? (i := 78) rfl)) (by decide) (by decide)) (g := (mkF m 151 #[.val (.int p0), .val (.int p1), .val (.int p2), .val (.int y14), .val (.int y15), .val (.int y16), .val (.int y17), .val (.int y18), .val (.int y19), .val (.int y20), .val (.int y21), .val (.ref xs_24), .val (.ref xs_26), .val (.int (nar .boolean (f_tail0 (own_str y14 y16 y17 y18) (own_str y15 y19 y20 y21)))), .val (.int y57), .unset, .unset, .unset] [(.int y57), (.int y15)])) rfl (by rw [hml]; rfl) (argsL := [(.int y15), (.int y57)]) (rest := []) (lenOf pd_3 rfl) rfl (by show 2 * 0 + _ ≤ _; exact Nat.le_of_eq rfl) (hb hby at_151) (fun _ _ => ⟨rfl, eq32, (by decide : 9 + 0 ≤ _), (by decide : 23 + 0 ≤ _)⟩)
  dsimp only [Pt.U, Pt.locs, Pt.cells, Pt.slots] at X60 l60 y60 z60 st60 hQ60
  subst l60 y60 z60
  obtain ⟨rfl, N60q, eq60⟩ := hQ60
  have N60 := Fr.app N32 N60q
  have k60 : Go p.tables e below (T32.setTop (mkF m 151 #[.val (.int p0), .val (.int p1), .val (.int p2), .val (.int y14), .val (.int y15), .val (.int y16), .val (.int y17), .val (.int y18), .val (.int y19), .val (.int y20), .val (.int y21), .val (.ref xs_24), .val (.ref xs_26), .val (.int (nar .boolean (f_tail0 (own_str y14 y16 y17 y18) (own_str y15 y19 y20 y21)))), .val (.int y57), .unset, .unset, .unset] [(.int y57), (.int y15)])) (T60.setTop (mkF m 154 #[.val (.int p0), .val (.int p1), .val (.int p2), .val (.int y14), .val (.int y15), .val (.int y16), .val (.int y17), .val (.int y18), .val (.int y19), .val (.int y20), .val (.int y21), .val (.ref xs_24), .val (.ref xs_26), .val (.int (nar .boolean (f_tail0 (own_str y14 y16 y17 y18) (own_str y15 y19 y20 y21)))), .val (.int y57), .unset, .unset, .unset] [(.int (f_min y15 y57))])) := st60
  have k61 : Go p.tables e below (T60.setTop (mkF m 154 #[.val (.int p0), .val (.int p1), .val (.int p2), .val (.int y14), .val (.int y15), .val (.int y16), .val (.int y17), .val (.int y18), .val (.int y19), .val (.int y20), .val (.int y21), .val (.ref xs_24), .val (.ref xs_26), .val (.int (nar .boolean (f_tail0 (own_str y14 y16 y17 y18) (own_str y15 y19 y20 y21)))), .val (.int y57), .unset, .unset, .unset] [(.int (f_min y15 y57))])) (T60.setTop (mkF m 156 #[.val (.int p0), .val (.int p1), .val (.int p2), .val (.int y14), .val (.int y15), .val (.int y16), .val (.int y17), .val (.int y18), .val (.int y19), .val (.int y20), .val (.int y21), .val (.ref xs_24), .val (.ref xs_26), .val (.int (nar .boolean (f_tail0 (own_str y14 y16 y17 y18) (own_str y15 y19 y20 y21)))), .val (.int y57), .val (.int (f_min y15 y57)), .unset, .unset] [])) := by
    intro t ht
    refine XS.istore X60.here hx rfl (hb hby at_154) rfl (l' := #[.val (.int p0), .val (.int p1), .val (.int p2), .val (.int y14), .val (.int y15), .val (.int y16), .val (.int y17), .val (.int y18), .val (.int y19), .val (.int y20), .val (.int y21), .val (.ref xs_24), .val (.ref xs_26), .val (.int (nar .boolean (f_tail0 (own_str y14 y16 y17 y18) (own_str y15 y19 y20 y21)))), .val (.int y57), .val (.int (f_min y15 y57)), .unset, .unset]) rfl ?_
    exact ht
  obtain ⟨y62, ey62⟩ : ∃ z : Int32, z = (f_min y15 y57) := ⟨_, rfl⟩
  have k63 : Go p.tables e below (T60.setTop (mkF m 156 #[.val (.int p0), .val (.int p1), .val (.int p2), .val (.int y14), .val (.int y15), .val (.int y16), .val (.int y17), .val (.int y18), .val (.int y19), .val (.int y20), .val (.int y21), .val (.ref xs_24), .val (.ref xs_26), .val (.int (nar .boolean (f_tail0 (own_str y14 y16 y17 y18) (own_str y15 y19 y20 y21)))), .val (.int y57), .val (.int (f_min y15 y57)), .unset, .unset] [])) (T60.setTop (mkF m 156 #[.val (.int p0), .val (.int p1), .val (.int p2), .val (.int y14), .val (.int y15), .val (.int y16), .val (.int y17), .val (.int y18), .val (.int y19), .val (.int y20), .val (.int y21), .val (.ref xs_24), .val (.ref xs_26), .val (.int (nar .boolean (f_tail0 (own_str y14 y16 y17 y18) (own_str y15 y19 y20 y21)))), .val (.int y57), .val (.int y62), .unset, .unset] [])) := by rw [ey62]; exact fun _ h => h
  have k64 : Go p.tables e below (T60.setTop (mkF m 156 #[.val (.int p0), .val (.int p1), .val (.int p2), .val (.int y14), .val (.int y15), .val (.int y16), .val (.int y17), .val (.int y18), .val (.int y19), .val (.int y20), .val (.int y21), .val (.ref xs_24), .val (.ref xs_26), .val (.int (nar .boolean (f_tail0 (own_str y14 y16 y17 y18) (own_str y15 y19 y20 y21)))), .val (.int y57), .val (.int y62), .unset, .unset] [])) (T60.setTop (mkF m 159 #[.val (.int p0), .val (.int p1), .val (.int p2), .val (.int y14), .val (.int y15), .val (.int y16), .val (.int y17), .val (.int y18), .val (.int y19), .val (.int y20), .val (.int y21), .val (.ref xs_24), .val (.ref xs_26), .val (.int (nar .boolean (f_tail0 (own_str y14 y16 y17 y18) (own_str y15 y19 y20 y21)))), .val (.int y57), .val (.int y62), .unset, .unset] [(.int (1 : Int32)), (.int y62)])) := by
    intro t ht
    refine XS.iload X60.here hx rfl (hb hby at_156) rfl ?_
    show Steps p.tables e below (T60.setTop (mkF m 158 #[.val (.int p0), .val (.int p1), .val (.int p2), .val (.int y14), .val (.int y15), .val (.int y16), .val (.int y17), .val (.int y18), .val (.int y19), .val (.int y20), .val (.int y21), .val (.ref xs_24), .val (.ref xs_26), .val (.int (nar .boolean (f_tail0 (own_str y14 y16 y17 y18) (own_str y15 y19 y20 y21)))), .val (.int y57), .val (.int y62), .unset, .unset] [(.int y62)])) _
    refine XS.iconst X60.here hx rfl (hb hby at_158) ?_
    exact ht
  have k65 : Go p.tables e below (T60.setTop (mkF m 159 #[.val (.int p0), .val (.int p1), .val (.int p2), .val (.int y14), .val (.int y15), .val (.int y16), .val (.int y17), .val (.int y18), .val (.int y19), .val (.int y20), .val (.int y21), .val (.ref xs_24), .val (.ref xs_26), .val (.int (nar .boolean (f_tail0 (own_str y14 y16 y17 y18) (own_str y15 y19 y20 y21)))), .val (.int y57), .val (.int y62), .unset, .unset] [(.int (1 : Int32)), (.int y62)])) (T60.setTop (mkF m 200 #[.val (.int p0), .val (.int p1), .val (.int p2), .val (.int y14), .val (.int y15), .val (.int y16), .val (.int y17), .val (.int y18), .val (.int y19), .val (.int y20), .val (.int y21), .val (.ref xs_24), .val (.ref xs_26), .val (.int (nar .boolean (f_tail0 (own_str y14 y16 y17 y18) (own_str y15 y19 y20 y21)))), .val (.int y57), .val (.int y62), .unset, .unset] [(.int (if y62 < (1 : Int32) then (if y62 < (2 : Int32) then (if y62 < (3 : Int32) then (1 : Int32) else (if y18 = y21 then (1 : Int32) else (0 : Int32))) else (if y17 = y20 then (if y62 < (3 : Int32) then (1 : Int32) else (if y18 = y21 then (1 : Int32) else (0 : Int32))) else (0 : Int32))) else (if y16 = y19 then (if y62 < (2 : Int32) then (if y62 < (3 : Int32) then (1 : Int32) else (if y18 = y21 then (1 : Int32) else (0 : Int32))) else (if y17 = y20 then (if y62 < (3 : Int32) then (1 : Int32) else (if y18 = y21 then (1 : Int32) else (0 : Int32))) else (0 : Int32))) else (0 : Int32))))])) := by
    by_cases hc66 : y62 < (1 : Int32)
    · have k67 : Go p.tables e below (T60.setTop (mkF m 159 #[.val (.int p0), .val (.int p1), .val (.int p2), .val (.int y14), .val (.int y15), .val (.int y16), .val (.int y17), .val (.int y18), .val (.int y19), .val (.int y20), .val (.int y21), .val (.ref xs_24), .val (.ref xs_26), .val (.int (nar .boolean (f_tail0 (own_str y14 y16 y17 y18) (own_str y15 y19 y20 y21)))), .val (.int y57), .val (.int y62), .unset, .unset] [(.int (1 : Int32)), (.int y62)])) (T60.setTop (mkF m 172 #[.val (.int p0), .val (.int p1), .val (.int p2), .val (.int y14), .val (.int y15), .val (.int y16), .val (.int y17), .val (.int y18), .val (.int y19), .val (.int y20), .val (.int y21), .val (.ref xs_24), .val (.ref xs_26), .val (.int (nar .boolean (f_tail0 (own_str y14 y16 y17 y18) (own_str y15 y19 y20 y21)))), .val (.int y57), .val (.int y62), .unset, .unset] [(.int (2 : Int32)), (.int y62)])) := by
        intro t ht
        refine XS.icmpYes X60.here hx rfl (pc0 := 159) (pc' := 169) rfl (hb hby at_159) rfl (tlt hc66).1 (by decide) (by decide) ?_
        show Steps p.tables e below (T60.setTop (mkF m 169 #[.val (.int p0), .val (.int p1), .val (.int p2), .val (.int y14), .val (.int y15), .val (.int y16), .val (.int y17), .val (.int y18), .val (.int y19), .val (.int y20), .val (.int y21), .val (.ref xs_24), .val (.ref xs_26), .val (.int (nar .boolean (f_tail0 (own_str y14 y16 y17 y18) (own_str y15 y19 y20 y21)))), .val (.int y57), .val (.int y62), .unset, .unset] [])) _
        refine XS.iload X60.here hx rfl (hb hby at_169) rfl ?_
        show Steps p.tables e below (T60.setTop (mkF m 171 #[.val (.int p0), .val (.int p1), .val (.int p2), .val (.int y14), .val (.int y15), .val (.int y16), .val (.int y17), .val (.int y18), .val (.int y19), .val (.int y20), .val (.int y21), .val (.ref xs_24), .val (.ref xs_26), .val (.int (nar .boolean (f_tail0 (own_str y14 y16 y17 y18) (own_str y15 y19 y20 y21)))), .val (.int y57), .val (.int y62), .unset, .unset] [(.int y62)])) _
        refine XS.iconst X60.here hx rfl (hb hby at_171) ?_
        exact ht
      by_cases hc68 : y62 < (2 : Int32)
      · have k69 : Go p.tables e below (T60.setTop (mkF m 172 #[.val (.int p0), .val (.int p1), .val (.int p2), .val (.int y14), .val (.int y15), .val (.int y16), .val (.int y17), .val (.int y18), .val (.int y19), .val (.int y20), .val (.int y21), .val (.ref xs_24), .val (.ref xs_26), .val (.int (nar .boolean (f_tail0 (own_str y14 y16 y17 y18) (own_str y15 y19 y20 y21)))), .val (.int y57), .val (.int y62), .unset, .unset] [(.int (2 : Int32)), (.int y62)])) (T60.setTop (mkF m 185 #[.val (.int p0), .val (.int p1), .val (.int p2), .val (.int y14), .val (.int y15), .val (.int y16), .val (.int y17), .val (.int y18), .val (.int y19), .val (.int y20), .val (.int y21), .val (.ref xs_24), .val (.ref xs_26), .val (.int (nar .boolean (f_tail0 (own_str y14 y16 y17 y18) (own_str y15 y19 y20 y21)))), .val (.int y57), .val (.int y62), .unset, .unset] [(.int (3 : Int32)), (.int y62)])) := by
          intro t ht
          refine XS.icmpYes X60.here hx rfl (pc0 := 172) (pc' := 182) rfl (hb hby at_172) rfl (tlt hc68).1 (by decide) (by decide) ?_
          show Steps p.tables e below (T60.setTop (mkF m 182 #[.val (.int p0), .val (.int p1), .val (.int p2), .val (.int y14), .val (.int y15), .val (.int y16), .val (.int y17), .val (.int y18), .val (.int y19), .val (.int y20), .val (.int y21), .val (.ref xs_24), .val (.ref xs_26), .val (.int (nar .boolean (f_tail0 (own_str y14 y16 y17 y18) (own_str y15 y19 y20 y21)))), .val (.int y57), .val (.int y62), .unset, .unset] [])) _
          refine XS.iload X60.here hx rfl (hb hby at_182) rfl ?_
          show Steps p.tables e below (T60.setTop (mkF m 184 #[.val (.int p0), .val (.int p1), .val (.int p2), .val (.int y14), .val (.int y15), .val (.int y16), .val (.int y17), .val (.int y18), .val (.int y19), .val (.int y20), .val (.int y21), .val (.ref xs_24), .val (.ref xs_26), .val (.int (nar .boolean (f_tail0 (own_str y14 y16 y17 y18) (own_str y15 y19 y20 y21)))), .val (.int y57), .val (.int y62), .unset, .unset] [(.int y62)])) _
          refine XS.iconst X60.here hx rfl (hb hby at_184) ?_
          exact ht
        by_cases hc70 : y62 < (3 : Int32)
        · have k71 : Go p.tables e below (T60.setTop (mkF m 185 #[.val (.int p0), .val (.int p1), .val (.int p2), .val (.int y14), .val (.int y15), .val (.int y16), .val (.int y17), .val (.int y18), .val (.int y19), .val (.int y20), .val (.int y21), .val (.ref xs_24), .val (.ref xs_26), .val (.int (nar .boolean (f_tail0 (own_str y14 y16 y17 y18) (own_str y15 y19 y20 y21)))), .val (.int y57), .val (.int y62), .unset, .unset] [(.int (3 : Int32)), (.int y62)])) (T60.setTop (mkF m 200 #[.val (.int p0), .val (.int p1), .val (.int p2), .val (.int y14), .val (.int y15), .val (.int y16), .val (.int y17), .val (.int y18), .val (.int y19), .val (.int y20), .val (.int y21), .val (.ref xs_24), .val (.ref xs_26), .val (.int (nar .boolean (f_tail0 (own_str y14 y16 y17 y18) (own_str y15 y19 y20 y21)))), .val (.int y57), .val (.int y62), .unset, .unset] [(.int (1 : Int32))])) := by
            intro t ht
            refine XS.icmpYes X60.here hx rfl (pc0 := 185) (pc' := 195) rfl (hb hby at_185) rfl (tlt hc70).1 (by decide) (by decide) ?_
            show Steps p.tables e below (T60.setTop (mkF m 195 #[.val (.int p0), .val (.int p1), .val (.int p2), .val (.int y14), .val (.int y15), .val (.int y16), .val (.int y17), .val (.int y18), .val (.int y19), .val (.int y20), .val (.int y21), .val (.ref xs_24), .val (.ref xs_26), .val (.int (nar .boolean (f_tail0 (own_str y14 y16 y17 y18) (own_str y15 y19 y20 y21)))), .val (.int y57), .val (.int y62), .unset, .unset] [])) _
            refine XS.iconst X60.here hx rfl (hb hby at_195) ?_
            show Steps p.tables e below (T60.setTop (mkF m 196 #[.val (.int p0), .val (.int p1), .val (.int p2), .val (.int y14), .val (.int y15), .val (.int y16), .val (.int y17), .val (.int y18), .val (.int y19), .val (.int y20), .val (.int y21), .val (.ref xs_24), .val (.ref xs_26), .val (.int (nar .boolean (f_tail0 (own_str y14 y16 y17 y18) (own_str y15 y19 y20 y21)))), .val (.int y57), .val (.int y62), .unset, .unset] [(.int (1 : Int32))])) _
            refine XS.goto X60.here hx rfl (pc0 := 196) (pc' := 200) rfl (hb hby at_196) (by decide) (by decide) ?_
            exact ht
          have kk := (goT k67 (goT k69 k71))
          simpa only [if_pos hc66, if_pos hc68, if_pos hc70] using kk
        · have k72 : Go p.tables e below (T60.setTop (mkF m 185 #[.val (.int p0), .val (.int p1), .val (.int p2), .val (.int y14), .val (.int y15), .val (.int y16), .val (.int y17), .val (.int y18), .val (.int y19), .val (.int y20), .val (.int y21), .val (.ref xs_24), .val (.ref xs_26), .val (.int (nar .boolean (f_tail0 (own_str y14 y16 y17 y18) (own_str y15 y19 y20 y21)))), .val (.int y57), .val (.int y62), .unset, .unset] [(.int (3 : Int32)), (.int y62)])) (T60.setTop (mkF m 192 #[.val (.int p0), .val (.int p1), .val (.int p2), .val (.int y14), .val (.int y15), .val (.int y16), .val (.int y17), .val (.int y18), .val (.int y19), .val (.int y20), .val (.int y21), .val (.ref xs_24), .val (.ref xs_26), .val (.int (nar .boolean (f_tail0 (own_str y14 y16 y17 y18) (own_str y15 y19 y20 y21)))), .val (.int y57), .val (.int y62), .unset, .unset] [(.int y21), (.int y18)])) := by
            intro t ht
            refine XS.icmpNo X60.here hx rfl (hb hby at_185) rfl (flt hc70).1 ?_
            show Steps p.tables e below (T60.setTop (mkF m 188 #[.val (.int p0), .val (.int p1), .val (.int p2), .val (.int y14), .val (.int y15), .val (.int y16), .val (.int y17), .val (.int y18), .val (.int y19), .val (.int y20), .val (.int y21), .val (.ref xs_24), .val (.ref xs_26), .val (.int (nar .boolean (f_tail0 (own_str y14 y16 y17 y18) (own_str y15 y19 y20 y21)))), .val (.int y57), .val (.int y62), .unset, .unset] [])) _
            refine XS.iload X60.here hx rfl (hb hby at_188) rfl ?_
            show Steps p.tables e below (T60.setTop (mkF m 190 #[.val (.int p0), .val (.int p1), .val (.int p2), .val (.int y14), .val (.int y15), .val (.int y16), .val (.int y17), .val (.int y18), .val (.int y19), .val (.int y20), .val (.int y21), .val (.ref xs_24), .val (.ref xs_26), .val (.int (nar .boolean (f_tail0 (own_str y14 y16 y17 y18) (own_str y15 y19 y20 y21)))), .val (.int y57), .val (.int y62), .unset, .unset] [(.int y18)])) _
            refine XS.iload X60.here hx rfl (hb hby at_190) rfl ?_
            exact ht
          by_cases hc73 : y18 = y21
          · have k74 : Go p.tables e below (T60.setTop (mkF m 192 #[.val (.int p0), .val (.int p1), .val (.int p2), .val (.int y14), .val (.int y15), .val (.int y16), .val (.int y17), .val (.int y18), .val (.int y19), .val (.int y20), .val (.int y21), .val (.ref xs_24), .val (.ref xs_26), .val (.int (nar .boolean (f_tail0 (own_str y14 y16 y17 y18) (own_str y15 y19 y20 y21)))), .val (.int y57), .val (.int y62), .unset, .unset] [(.int y21), (.int y18)])) (T60.setTop (mkF m 200 #[.val (.int p0), .val (.int p1), .val (.int p2), .val (.int y14), .val (.int y15), .val (.int y16), .val (.int y17), .val (.int y18), .val (.int y19), .val (.int y20), .val (.int y21), .val (.ref xs_24), .val (.ref xs_26), .val (.int (nar .boolean (f_tail0 (own_str y14 y16 y17 y18) (own_str y15 y19 y20 y21)))), .val (.int y57), .val (.int y62), .unset, .unset] [(.int (1 : Int32))])) := by
              intro t ht
              refine XS.icmpNo X60.here hx rfl (hb hby at_192) rfl (teq hc73).2 ?_
              show Steps p.tables e below (T60.setTop (mkF m 195 #[.val (.int p0), .val (.int p1), .val (.int p2), .val (.int y14), .val (.int y15), .val (.int y16), .val (.int y17), .val (.int y18), .val (.int y19), .val (.int y20), .val (.int y21), .val (.ref xs_24), .val (.ref xs_26), .val (.int (nar .boolean (f_tail0 (own_str y14 y16 y17 y18) (own_str y15 y19 y20 y21)))), .val (.int y57), .val (.int y62), .unset, .unset] [])) _
              refine XS.iconst X60.here hx rfl (hb hby at_195) ?_
              show Steps p.tables e below (T60.setTop (mkF m 196 #[.val (.int p0), .val (.int p1), .val (.int p2), .val (.int y14), .val (.int y15), .val (.int y16), .val (.int y17), .val (.int y18), .val (.int y19), .val (.int y20), .val (.int y21), .val (.ref xs_24), .val (.ref xs_26), .val (.int (nar .boolean (f_tail0 (own_str y14 y16 y17 y18) (own_str y15 y19 y20 y21)))), .val (.int y57), .val (.int y62), .unset, .unset] [(.int (1 : Int32))])) _
              refine XS.goto X60.here hx rfl (pc0 := 196) (pc' := 200) rfl (hb hby at_196) (by decide) (by decide) ?_
              exact ht
            have kk := (goT k67 (goT k69 (goT k72 k74)))
            simpa only [if_pos hc66, if_pos hc68, if_neg hc70, if_pos hc73] using kk
          · have k75 : Go p.tables e below (T60.setTop (mkF m 192 #[.val (.int p0), .val (.int p1), .val (.int p2), .val (.int y14), .val (.int y15), .val (.int y16), .val (.int y17), .val (.int y18), .val (.int y19), .val (.int y20), .val (.int y21), .val (.ref xs_24), .val (.ref xs_26), .val (.int (nar .boolean (f_tail0 (own_str y14 y16 y17 y18) (own_str y15 y19 y20 y21)))), .val (.int y57), .val (.int y62), .unset, .unset] [(.int y21), (.int y18)])) (T60.setTop (mkF m 200 #[.val (.int p0), .val (.int p1), .val (.int p2), .val (.int y14), .val (.int y15), .val (.int y16), .val (.int y17), .val (.int y18), .val (.int y19), .val (.int y20), .val (.int y21), .val (.ref xs_24), .val (.ref xs_26), .val (.int (nar .boolean (f_tail0 (own_str y14 y16 y17 y18) (own_str y15 y19 y20 y21)))), .val (.int y57), .val (.int y62), .unset, .unset] [(.int (0 : Int32))])) := by
              intro t ht
              refine XS.icmpYes X60.here hx rfl (pc0 := 192) (pc' := 199) rfl (hb hby at_192) rfl (feq hc73).2 (by decide) (by decide) ?_
              show Steps p.tables e below (T60.setTop (mkF m 199 #[.val (.int p0), .val (.int p1), .val (.int p2), .val (.int y14), .val (.int y15), .val (.int y16), .val (.int y17), .val (.int y18), .val (.int y19), .val (.int y20), .val (.int y21), .val (.ref xs_24), .val (.ref xs_26), .val (.int (nar .boolean (f_tail0 (own_str y14 y16 y17 y18) (own_str y15 y19 y20 y21)))), .val (.int y57), .val (.int y62), .unset, .unset] [])) _
              refine XS.iconst X60.here hx rfl (hb hby at_199) ?_
              exact ht
            have kk := (goT k67 (goT k69 (goT k72 k75)))
            simpa only [if_pos hc66, if_pos hc68, if_neg hc70, if_neg hc73] using kk
      · have k76 : Go p.tables e below (T60.setTop (mkF m 172 #[.val (.int p0), .val (.int p1), .val (.int p2), .val (.int y14), .val (.int y15), .val (.int y16), .val (.int y17), .val (.int y18), .val (.int y19), .val (.int y20), .val (.int y21), .val (.ref xs_24), .val (.ref xs_26), .val (.int (nar .boolean (f_tail0 (own_str y14 y16 y17 y18) (own_str y15 y19 y20 y21)))), .val (.int y57), .val (.int y62), .unset, .unset] [(.int (2 : Int32)), (.int y62)])) (T60.setTop (mkF m 179 #[.val (.int p0), .val (.int p1), .val (.int p2), .val (.int y14), .val (.int y15), .val (.int y16), .val (.int y17), .val (.int y18), .val (.int y19), .val (.int y20), .val (.int y21), .val (.ref xs_24), .val (.ref xs_26), .val (.int (nar .boolean (f_tail0 (own_str y14 y16 y17 y18) (own_str y15 y19 y20 y21)))), .val (.int y57), .val (.int y62), .unset, .unset] [(.int y20), (.int y17)])) := by
          intro t ht
          refine XS.icmpNo X60.here hx rfl (hb hby at_172) rfl (flt hc68).1 ?_
          show Steps p.tables e below (T60.setTop (mkF m 175 #[.val (.int p0), .val (.int p1), .val (.int p2), .val (.int y14), .val (.int y15), .val (.int y16), .val (.int y17), .val (.int y18), .val (.int y19), .val (.int y20), .val (.int y21), .val (.ref xs_24), .val (.ref xs_26), .val (.int (nar .boolean (f_tail0 (own_str y14 y16 y17 y18) (own_str y15 y19 y20 y21)))), .val (.int y57), .val (.int y62), .unset, .unset] [])) _
          refine XS.iload X60.here hx rfl (hb hby at_175) rfl ?_
          show Steps p.tables e below (T60.setTop (mkF m 177 #[.val (.int p0), .val (.int p1), .val (.int p2), .val (.int y14), .val (.int y15), .val (.int y16), .val (.int y17), .val (.int y18), .val (.int y19), .val (.int y20), .val (.int y21), .val (.ref xs_24), .val (.ref xs_26), .val (.int (nar .boolean (f_tail0 (own_str y14 y16 y17 y18) (own_str y15 y19 y20 y21)))), .val (.int y57), .val (.int y62), .unset, .unset] [(.int y17)])) _
          refine XS.iload X60.here hx rfl (hb hby at_177) rfl ?_
          exact ht
        by_cases hc77 : y17 = y20
        · have k78 : Go p.tables e below (T60.setTop (mkF m 179 #[.val (.int p0), .val (.int p1), .val (.int p2), .val (.int y14), .val (.int y15), .val (.int y16), .val (.int y17), .val (.int y18), .val (.int y19), .val (.int y20), .val (.int y21), .val (.ref xs_24), .val (.ref xs_26), .val (.int (nar .boolean (f_tail0 (own_str y14 y16 y17 y18) (own_str y15 y19 y20 y21)))), .val (.int y57), .val (.int y62), .unset, .unset] [(.int y20), (.int y17)])) (T60.setTop (mkF m 185 #[.val (.int p0), .val (.int p1), .val (.int p2), .val (.int y14), .val (.int y15), .val (.int y16), .val (.int y17), .val (.int y18), .val (.int y19), .val (.int y20), .val (.int y21), .val (.ref xs_24), .val (.ref xs_26), .val (.int (nar .boolean (f_tail0 (own_str y14 y16 y17 y18) (own_str y15 y19 y20 y21)))), .val (.int y57), .val (.int y62), .unset, .unset] [(.int (3 : Int32)), (.int y62)])) := by
            intro t ht
            refine XS.icmpNo X60.here hx rfl (hb hby at_179) rfl (teq hc77).2 ?_
            show Steps p.tables e below (T60.setTop (mkF m 182 #[.val (.int p0), .val (.int p1), .val (.int p2), .val (.int y14), .val (.int y15), .val (.int y16), .val (.int y17), .val (.int y18), .val (.int y19), .val (.int y20), .val (.int y21), .val (.ref xs_24), .val (.ref xs_26), .val (.int (nar .boolean (f_tail0 (own_str y14 y16 y17 y18) (own_str y15 y19 y20 y21)))), .val (.int y57), .val (.int y62), .unset, .unset] [])) _
            refine XS.iload X60.here hx rfl (hb hby at_182) rfl ?_
            show Steps p.tables e below (T60.setTop (mkF m 184 #[.val (.int p0), .val (.int p1), .val (.int p2), .val (.int y14), .val (.int y15), .val (.int y16), .val (.int y17), .val (.int y18), .val (.int y19), .val (.int y20), .val (.int y21), .val (.ref xs_24), .val (.ref xs_26), .val (.int (nar .boolean (f_tail0 (own_str y14 y16 y17 y18) (own_str y15 y19 y20 y21)))), .val (.int y57), .val (.int y62), .unset, .unset] [(.int y62)])) _
            refine XS.iconst X60.here hx rfl (hb hby at_184) ?_
            exact ht
          by_cases hc79 : y62 < (3 : Int32)
          · have k80 : Go p.tables e below (T60.setTop (mkF m 185 #[.val (.int p0), .val (.int p1), .val (.int p2), .val (.int y14), .val (.int y15), .val (.int y16), .val (.int y17), .val (.int y18), .val (.int y19), .val (.int y20), .val (.int y21), .val (.ref xs_24), .val (.ref xs_26), .val (.int (nar .boolean (f_tail0 (own_str y14 y16 y17 y18) (own_str y15 y19 y20 y21)))), .val (.int y57), .val (.int y62), .unset, .unset] [(.int (3 : Int32)), (.int y62)])) (T60.setTop (mkF m 200 #[.val (.int p0), .val (.int p1), .val (.int p2), .val (.int y14), .val (.int y15), .val (.int y16), .val (.int y17), .val (.int y18), .val (.int y19), .val (.int y20), .val (.int y21), .val (.ref xs_24), .val (.ref xs_26), .val (.int (nar .boolean (f_tail0 (own_str y14 y16 y17 y18) (own_str y15 y19 y20 y21)))), .val (.int y57), .val (.int y62), .unset, .unset] [(.int (1 : Int32))])) := by
              intro t ht
              refine XS.icmpYes X60.here hx rfl (pc0 := 185) (pc' := 195) rfl (hb hby at_185) rfl (tlt hc79).1 (by decide) (by decide) ?_
              show Steps p.tables e below (T60.setTop (mkF m 195 #[.val (.int p0), .val (.int p1), .val (.int p2), .val (.int y14), .val (.int y15), .val (.int y16), .val (.int y17), .val (.int y18), .val (.int y19), .val (.int y20), .val (.int y21), .val (.ref xs_24), .val (.ref xs_26), .val (.int (nar .boolean (f_tail0 (own_str y14 y16 y17 y18) (own_str y15 y19 y20 y21)))), .val (.int y57), .val (.int y62), .unset, .unset] [])) _
              refine XS.iconst X60.here hx rfl (hb hby at_195) ?_
              show Steps p.tables e below (T60.setTop (mkF m 196 #[.val (.int p0), .val (.int p1), .val (.int p2), .val (.int y14), .val (.int y15), .val (.int y16), .val (.int y17), .val (.int y18), .val (.int y19), .val (.int y20), .val (.int y21), .val (.ref xs_24), .val (.ref xs_26), .val (.int (nar .boolean (f_tail0 (own_str y14 y16 y17 y18) (own_str y15 y19 y20 y21)))), .val (.int y57), .val (.int y62), .unset, .unset] [(.int (1 : Int32))])) _
              refine XS.goto X60.here hx rfl (pc0 := 196) (pc' := 200) rfl (hb hby at_196) (by decide) (by decide) ?_
              exact ht
            have kk := (goT k67 (goT k76 (goT k78 k80)))
            simpa only [if_pos hc66, if_neg hc68, if_pos hc77, if_pos hc79] using kk
          · have k81 : Go p.tables e below (T60.setTop (mkF m 185 #[.val (.int p0), .val (.int p1), .val (.int p2), .val (.int y14), .val (.int y15), .val (.int y16), .val (.int y17), .val (.int y18), .val (.int y19), .val (.int y20), .val (.int y21), .val (.ref xs_24), .val (.ref xs_26), .val (.int (nar .boolean (f_tail0 (own_str y14 y16 y17 y18) (own_str y15 y19 y20 y21)))), .val (.int y57), .val (.int y62), .unset, .unset] [(.int (3 : Int32)), (.int y62)])) (T60.setTop (mkF m 192 #[.val (.int p0), .val (.int p1), .val (.int p2), .val (.int y14), .val (.int y15), .val (.int y16), .val (.int y17), .val (.int y18), .val (.int y19), .val (.int y20), .val (.int y21), .val (.ref xs_24), .val (.ref xs_26), .val (.int (nar .boolean (f_tail0 (own_str y14 y16 y17 y18) (own_str y15 y19 y20 y21)))), .val (.int y57), .val (.int y62), .unset, .unset] [(.int y21), (.int y18)])) := by
              intro t ht
              refine XS.icmpNo X60.here hx rfl (hb hby at_185) rfl (flt hc79).1 ?_
              show Steps p.tables e below (T60.setTop (mkF m 188 #[.val (.int p0), .val (.int p1), .val (.int p2), .val (.int y14), .val (.int y15), .val (.int y16), .val (.int y17), .val (.int y18), .val (.int y19), .val (.int y20), .val (.int y21), .val (.ref xs_24), .val (.ref xs_26), .val (.int (nar .boolean (f_tail0 (own_str y14 y16 y17 y18) (own_str y15 y19 y20 y21)))), .val (.int y57), .val (.int y62), .unset, .unset] [])) _
              refine XS.iload X60.here hx rfl (hb hby at_188) rfl ?_
              show Steps p.tables e below (T60.setTop (mkF m 190 #[.val (.int p0), .val (.int p1), .val (.int p2), .val (.int y14), .val (.int y15), .val (.int y16), .val (.int y17), .val (.int y18), .val (.int y19), .val (.int y20), .val (.int y21), .val (.ref xs_24), .val (.ref xs_26), .val (.int (nar .boolean (f_tail0 (own_str y14 y16 y17 y18) (own_str y15 y19 y20 y21)))), .val (.int y57), .val (.int y62), .unset, .unset] [(.int y18)])) _
              refine XS.iload X60.here hx rfl (hb hby at_190) rfl ?_
              exact ht
            by_cases hc82 : y18 = y21
            · have k83 : Go p.tables e below (T60.setTop (mkF m 192 #[.val (.int p0), .val (.int p1), .val (.int p2), .val (.int y14), .val (.int y15), .val (.int y16), .val (.int y17), .val (.int y18), .val (.int y19), .val (.int y20), .val (.int y21), .val (.ref xs_24), .val (.ref xs_26), .val (.int (nar .boolean (f_tail0 (own_str y14 y16 y17 y18) (own_str y15 y19 y20 y21)))), .val (.int y57), .val (.int y62), .unset, .unset] [(.int y21), (.int y18)])) (T60.setTop (mkF m 200 #[.val (.int p0), .val (.int p1), .val (.int p2), .val (.int y14), .val (.int y15), .val (.int y16), .val (.int y17), .val (.int y18), .val (.int y19), .val (.int y20), .val (.int y21), .val (.ref xs_24), .val (.ref xs_26), .val (.int (nar .boolean (f_tail0 (own_str y14 y16 y17 y18) (own_str y15 y19 y20 y21)))), .val (.int y57), .val (.int y62), .unset, .unset] [(.int (1 : Int32))])) := by
                intro t ht
                refine XS.icmpNo X60.here hx rfl (hb hby at_192) rfl (teq hc82).2 ?_
                show Steps p.tables e below (T60.setTop (mkF m 195 #[.val (.int p0), .val (.int p1), .val (.int p2), .val (.int y14), .val (.int y15), .val (.int y16), .val (.int y17), .val (.int y18), .val (.int y19), .val (.int y20), .val (.int y21), .val (.ref xs_24), .val (.ref xs_26), .val (.int (nar .boolean (f_tail0 (own_str y14 y16 y17 y18) (own_str y15 y19 y20 y21)))), .val (.int y57), .val (.int y62), .unset, .unset] [])) _
                refine XS.iconst X60.here hx rfl (hb hby at_195) ?_
                show Steps p.tables e below (T60.setTop (mkF m 196 #[.val (.int p0), .val (.int p1), .val (.int p2), .val (.int y14), .val (.int y15), .val (.int y16), .val (.int y17), .val (.int y18), .val (.int y19), .val (.int y20), .val (.int y21), .val (.ref xs_24), .val (.ref xs_26), .val (.int (nar .boolean (f_tail0 (own_str y14 y16 y17 y18) (own_str y15 y19 y20 y21)))), .val (.int y57), .val (.int y62), .unset, .unset] [(.int (1 : Int32))])) _
                refine XS.goto X60.here hx rfl (pc0 := 196) (pc' := 200) rfl (hb hby at_196) (by decide) (by decide) ?_
                exact ht
              have kk := (goT k67 (goT k76 (goT k78 (goT k81 k83))))
              simpa only [if_pos hc66, if_neg hc68, if_pos hc77, if_neg hc79, if_pos hc82] using kk
            · have k84 : Go p.tables e below (T60.setTop (mkF m 192 #[.val (.int p0), .val (.int p1), .val (.int p2), .val (.int y14), .val (.int y15), .val (.int y16), .val (.int y17), .val (.int y18), .val (.int y19), .val (.int y20), .val (.int y21), .val (.ref xs_24), .val (.ref xs_26), .val (.int (nar .boolean (f_tail0 (own_str y14 y16 y17 y18) (own_str y15 y19 y20 y21)))), .val (.int y57), .val (.int y62), .unset, .unset] [(.int y21), (.int y18)])) (T60.setTop (mkF m 200 #[.val (.int p0), .val (.int p1), .val (.int p2), .val (.int y14), .val (.int y15), .val (.int y16), .val (.int y17), .val (.int y18), .val (.int y19), .val (.int y20), .val (.int y21), .val (.ref xs_24), .val (.ref xs_26), .val (.int (nar .boolean (f_tail0 (own_str y14 y16 y17 y18) (own_str y15 y19 y20 y21)))), .val (.int y57), .val (.int y62), .unset, .unset] [(.int (0 : Int32))])) := by
                intro t ht
                refine XS.icmpYes X60.here hx rfl (pc0 := 192) (pc' := 199) rfl (hb hby at_192) rfl (feq hc82).2 (by decide) (by decide) ?_
                show Steps p.tables e below (T60.setTop (mkF m 199 #[.val (.int p0), .val (.int p1), .val (.int p2), .val (.int y14), .val (.int y15), .val (.int y16), .val (.int y17), .val (.int y18), .val (.int y19), .val (.int y20), .val (.int y21), .val (.ref xs_24), .val (.ref xs_26), .val (.int (nar .boolean (f_tail0 (own_str y14 y16 y17 y18) (own_str y15 y19 y20 y21)))), .val (.int y57), .val (.int y62), .unset, .unset] [])) _
                refine XS.iconst X60.here hx rfl (hb hby at_199) ?_
                exact ht
              have kk := (goT k67 (goT k76 (goT k78 (goT k81 k84))))
              simpa only [if_pos hc66, if_neg hc68, if_pos hc77, if_neg hc79, if_neg hc82] using kk
        · have k85 : Go p.tables e below (T60.setTop (mkF m 179 #[.val (.int p0), .val (.int p1), .val (.int p2), .val (.int y14), .val (.int y15), .val (.int y16), .val (.int y17), .val (.int y18), .val (.int y19), .val (.int y20), .val (.int y21), .val (.ref xs_24), .val (.ref xs_26), .val (.int (nar .boolean (f_tail0 (own_str y14 y16 y17 y18) (own_str y15 y19 y20 y21)))), .val (.int y57), .val (.int y62), .unset, .unset] [(.int y20), (.int y17)])) (T60.setTop (mkF m 200 #[.val (.int p0), .val (.int p1), .val (.int p2), .val (.int y14), .val (.int y15), .val (.int y16), .val (.int y17), .val (.int y18), .val (.int y19), .val (.int y20), .val (.int y21), .val (.ref xs_24), .val (.ref xs_26), .val (.int (nar .boolean (f_tail0 (own_str y14 y16 y17 y18) (own_str y15 y19 y20 y21)))), .val (.int y57), .val (.int y62), .unset, .unset] [(.int (0 : Int32))])) := by
            intro t ht
            refine XS.icmpYes X60.here hx rfl (pc0 := 179) (pc' := 199) rfl (hb hby at_179) rfl (feq hc77).2 (by decide) (by decide) ?_
            show Steps p.tables e below (T60.setTop (mkF m 199 #[.val (.int p0), .val (.int p1), .val (.int p2), .val (.int y14), .val (.int y15), .val (.int y16), .val (.int y17), .val (.int y18), .val (.int y19), .val (.int y20), .val (.int y21), .val (.ref xs_24), .val (.ref xs_26), .val (.int (nar .boolean (f_tail0 (own_str y14 y16 y17 y18) (own_str y15 y19 y20 y21)))), .val (.int y57), .val (.int y62), .unset, .unset] [])) _
            refine XS.iconst X60.here hx rfl (hb hby at_199) ?_
            exact ht
          have kk := (goT k67 (goT k76 k85))
          simpa only [if_pos hc66, if_neg hc68, if_neg hc77] using kk
    · have k86 : Go p.tables e below (T60.setTop (mkF m 159 #[.val (.int p0), .val (.int p1), .val (.int p2), .val (.int y14), .val (.int y15), .val (.int y16), .val (.int y17), .val (.int y18), .val (.int y19), .val (.int y20), .val (.int y21), .val (.ref xs_24), .val (.ref xs_26), .val (.int (nar .boolean (f_tail0 (own_str y14 y16 y17 y18) (own_str y15 y19 y20 y21)))), .val (.int y57), .val (.int y62), .unset, .unset] [(.int (1 : Int32)), (.int y62)])) (T60.setTop (mkF m 166 #[.val (.int p0), .val (.int p1), .val (.int p2), .val (.int y14), .val (.int y15), .val (.int y16), .val (.int y17), .val (.int y18), .val (.int y19), .val (.int y20), .val (.int y21), .val (.ref xs_24), .val (.ref xs_26), .val (.int (nar .boolean (f_tail0 (own_str y14 y16 y17 y18) (own_str y15 y19 y20 y21)))), .val (.int y57), .val (.int y62), .unset, .unset] [(.int y19), (.int y16)])) := by
        intro t ht
        refine XS.icmpNo X60.here hx rfl (hb hby at_159) rfl (flt hc66).1 ?_
        show Steps p.tables e below (T60.setTop (mkF m 162 #[.val (.int p0), .val (.int p1), .val (.int p2), .val (.int y14), .val (.int y15), .val (.int y16), .val (.int y17), .val (.int y18), .val (.int y19), .val (.int y20), .val (.int y21), .val (.ref xs_24), .val (.ref xs_26), .val (.int (nar .boolean (f_tail0 (own_str y14 y16 y17 y18) (own_str y15 y19 y20 y21)))), .val (.int y57), .val (.int y62), .unset, .unset] [])) _
        refine XS.iload X60.here hx rfl (hb hby at_162) rfl ?_
        show Steps p.tables e below (T60.setTop (mkF m 164 #[.val (.int p0), .val (.int p1), .val (.int p2), .val (.int y14), .val (.int y15), .val (.int y16), .val (.int y17), .val (.int y18), .val (.int y19), .val (.int y20), .val (.int y21), .val (.ref xs_24), .val (.ref xs_26), .val (.int (nar .boolean (f_tail0 (own_str y14 y16 y17 y18) (own_str y15 y19 y20 y21)))), .val (.int y57), .val (.int y62), .unset, .unset] [(.int y16)])) _
        refine XS.iload X60.here hx rfl (hb hby at_164) rfl ?_
        exact ht
      by_cases hc87 : y16 = y19
      · have k88 : Go p.tables e below (T60.setTop (mkF m 166 #[.val (.int p0), .val (.int p1), .val (.int p2), .val (.int y14), .val (.int y15), .val (.int y16), .val (.int y17), .val (.int y18), .val (.int y19), .val (.int y20), .val (.int y21), .val (.ref xs_24), .val (.ref xs_26), .val (.int (nar .boolean (f_tail0 (own_str y14 y16 y17 y18) (own_str y15 y19 y20 y21)))), .val (.int y57), .val (.int y62), .unset, .unset] [(.int y19), (.int y16)])) (T60.setTop (mkF m 172 #[.val (.int p0), .val (.int p1), .val (.int p2), .val (.int y14), .val (.int y15), .val (.int y16), .val (.int y17), .val (.int y18), .val (.int y19), .val (.int y20), .val (.int y21), .val (.ref xs_24), .val (.ref xs_26), .val (.int (nar .boolean (f_tail0 (own_str y14 y16 y17 y18) (own_str y15 y19 y20 y21)))), .val (.int y57), .val (.int y62), .unset, .unset] [(.int (2 : Int32)), (.int y62)])) := by
          intro t ht
          refine XS.icmpNo X60.here hx rfl (hb hby at_166) rfl (teq hc87).2 ?_
          show Steps p.tables e below (T60.setTop (mkF m 169 #[.val (.int p0), .val (.int p1), .val (.int p2), .val (.int y14), .val (.int y15), .val (.int y16), .val (.int y17), .val (.int y18), .val (.int y19), .val (.int y20), .val (.int y21), .val (.ref xs_24), .val (.ref xs_26), .val (.int (nar .boolean (f_tail0 (own_str y14 y16 y17 y18) (own_str y15 y19 y20 y21)))), .val (.int y57), .val (.int y62), .unset, .unset] [])) _
          refine XS.iload X60.here hx rfl (hb hby at_169) rfl ?_
          show Steps p.tables e below (T60.setTop (mkF m 171 #[.val (.int p0), .val (.int p1), .val (.int p2), .val (.int y14), .val (.int y15), .val (.int y16), .val (.int y17), .val (.int y18), .val (.int y19), .val (.int y20), .val (.int y21), .val (.ref xs_24), .val (.ref xs_26), .val (.int (nar .boolean (f_tail0 (own_str y14 y16 y17 y18) (own_str y15 y19 y20 y21)))), .val (.int y57), .val (.int y62), .unset, .unset] [(.int y62)])) _
          refine XS.iconst X60.here hx rfl (hb hby at_171) ?_
          exact ht
        by_cases hc89 : y62 < (2 : Int32)
        · have k90 : Go p.tables e below (T60.setTop (mkF m 172 #[.val (.int p0), .val (.int p1), .val (.int p2), .val (.int y14), .val (.int y15), .val (.int y16), .val (.int y17), .val (.int y18), .val (.int y19), .val (.int y20), .val (.int y21), .val (.ref xs_24), .val (.ref xs_26), .val (.int (nar .boolean (f_tail0 (own_str y14 y16 y17 y18) (own_str y15 y19 y20 y21)))), .val (.int y57), .val (.int y62), .unset, .unset] [(.int (2 : Int32)), (.int y62)])) (T60.setTop (mkF m 185 #[.val (.int p0), .val (.int p1), .val (.int p2), .val (.int y14), .val (.int y15), .val (.int y16), .val (.int y17), .val (.int y18), .val (.int y19), .val (.int y20), .val (.int y21), .val (.ref xs_24), .val (.ref xs_26), .val (.int (nar .boolean (f_tail0 (own_str y14 y16 y17 y18) (own_str y15 y19 y20 y21)))), .val (.int y57), .val (.int y62), .unset, .unset] [(.int (3 : Int32)), (.int y62)])) := by
            intro t ht
            refine XS.icmpYes X60.here hx rfl (pc0 := 172) (pc' := 182) rfl (hb hby at_172) rfl (tlt hc89).1 (by decide) (by decide) ?_
            show Steps p.tables e below (T60.setTop (mkF m 182 #[.val (.int p0), .val (.int p1), .val (.int p2), .val (.int y14), .val (.int y15), .val (.int y16), .val (.int y17), .val (.int y18), .val (.int y19), .val (.int y20), .val (.int y21), .val (.ref xs_24), .val (.ref xs_26), .val (.int (nar .boolean (f_tail0 (own_str y14 y16 y17 y18) (own_str y15 y19 y20 y21)))), .val (.int y57), .val (.int y62), .unset, .unset] [])) _
            refine XS.iload X60.here hx rfl (hb hby at_182) rfl ?_
            show Steps p.tables e below (T60.setTop (mkF m 184 #[.val (.int p0), .val (.int p1), .val (.int p2), .val (.int y14), .val (.int y15), .val (.int y16), .val (.int y17), .val (.int y18), .val (.int y19), .val (.int y20), .val (.int y21), .val (.ref xs_24), .val (.ref xs_26), .val (.int (nar .boolean (f_tail0 (own_str y14 y16 y17 y18) (own_str y15 y19 y20 y21)))), .val (.int y57), .val (.int y62), .unset, .unset] [(.int y62)])) _
            refine XS.iconst X60.here hx rfl (hb hby at_184) ?_
            exact ht
          by_cases hc91 : y62 < (3 : Int32)
          · have k92 : Go p.tables e below (T60.setTop (mkF m 185 #[.val (.int p0), .val (.int p1), .val (.int p2), .val (.int y14), .val (.int y15), .val (.int y16), .val (.int y17), .val (.int y18), .val (.int y19), .val (.int y20), .val (.int y21), .val (.ref xs_24), .val (.ref xs_26), .val (.int (nar .boolean (f_tail0 (own_str y14 y16 y17 y18) (own_str y15 y19 y20 y21)))), .val (.int y57), .val (.int y62), .unset, .unset] [(.int (3 : Int32)), (.int y62)])) (T60.setTop (mkF m 200 #[.val (.int p0), .val (.int p1), .val (.int p2), .val (.int y14), .val (.int y15), .val (.int y16), .val (.int y17), .val (.int y18), .val (.int y19), .val (.int y20), .val (.int y21), .val (.ref xs_24), .val (.ref xs_26), .val (.int (nar .boolean (f_tail0 (own_str y14 y16 y17 y18) (own_str y15 y19 y20 y21)))), .val (.int y57), .val (.int y62), .unset, .unset] [(.int (1 : Int32))])) := by
              intro t ht
              refine XS.icmpYes X60.here hx rfl (pc0 := 185) (pc' := 195) rfl (hb hby at_185) rfl (tlt hc91).1 (by decide) (by decide) ?_
              show Steps p.tables e below (T60.setTop (mkF m 195 #[.val (.int p0), .val (.int p1), .val (.int p2), .val (.int y14), .val (.int y15), .val (.int y16), .val (.int y17), .val (.int y18), .val (.int y19), .val (.int y20), .val (.int y21), .val (.ref xs_24), .val (.ref xs_26), .val (.int (nar .boolean (f_tail0 (own_str y14 y16 y17 y18) (own_str y15 y19 y20 y21)))), .val (.int y57), .val (.int y62), .unset, .unset] [])) _
              refine XS.iconst X60.here hx rfl (hb hby at_195) ?_
              show Steps p.tables e below (T60.setTop (mkF m 196 #[.val (.int p0), .val (.int p1), .val (.int p2), .val (.int y14), .val (.int y15), .val (.int y16), .val (.int y17), .val (.int y18), .val (.int y19), .val (.int y20), .val (.int y21), .val (.ref xs_24), .val (.ref xs_26), .val (.int (nar .boolean (f_tail0 (own_str y14 y16 y17 y18) (own_str y15 y19 y20 y21)))), .val (.int y57), .val (.int y62), .unset, .unset] [(.int (1 : Int32))])) _
              refine XS.goto X60.here hx rfl (pc0 := 196) (pc' := 200) rfl (hb hby at_196) (by decide) (by decide) ?_
              exact ht
            have kk := (goT k86 (goT k88 (goT k90 k92)))
            simpa only [if_neg hc66, if_pos hc87, if_pos hc89, if_pos hc91] using kk
          · have k93 : Go p.tables e below (T60.setTop (mkF m 185 #[.val (.int p0), .val (.int p1), .val (.int p2), .val (.int y14), .val (.int y15), .val (.int y16), .val (.int y17), .val (.int y18), .val (.int y19), .val (.int y20), .val (.int y21), .val (.ref xs_24), .val (.ref xs_26), .val (.int (nar .boolean (f_tail0 (own_str y14 y16 y17 y18) (own_str y15 y19 y20 y21)))), .val (.int y57), .val (.int y62), .unset, .unset] [(.int (3 : Int32)), (.int y62)])) (T60.setTop (mkF m 192 #[.val (.int p0), .val (.int p1), .val (.int p2), .val (.int y14), .val (.int y15), .val (.int y16), .val (.int y17), .val (.int y18), .val (.int y19), .val (.int y20), .val (.int y21), .val (.ref xs_24), .val (.ref xs_26), .val (.int (nar .boolean (f_tail0 (own_str y14 y16 y17 y18) (own_str y15 y19 y20 y21)))), .val (.int y57), .val (.int y62), .unset, .unset] [(.int y21), (.int y18)])) := by
              intro t ht
              refine XS.icmpNo X60.here hx rfl (hb hby at_185) rfl (flt hc91).1 ?_
              show Steps p.tables e below (T60.setTop (mkF m 188 #[.val (.int p0), .val (.int p1), .val (.int p2), .val (.int y14), .val (.int y15), .val (.int y16), .val (.int y17), .val (.int y18), .val (.int y19), .val (.int y20), .val (.int y21), .val (.ref xs_24), .val (.ref xs_26), .val (.int (nar .boolean (f_tail0 (own_str y14 y16 y17 y18) (own_str y15 y19 y20 y21)))), .val (.int y57), .val (.int y62), .unset, .unset] [])) _
              refine XS.iload X60.here hx rfl (hb hby at_188) rfl ?_
              show Steps p.tables e below (T60.setTop (mkF m 190 #[.val (.int p0), .val (.int p1), .val (.int p2), .val (.int y14), .val (.int y15), .val (.int y16), .val (.int y17), .val (.int y18), .val (.int y19), .val (.int y20), .val (.int y21), .val (.ref xs_24), .val (.ref xs_26), .val (.int (nar .boolean (f_tail0 (own_str y14 y16 y17 y18) (own_str y15 y19 y20 y21)))), .val (.int y57), .val (.int y62), .unset, .unset] [(.int y18)])) _
              refine XS.iload X60.here hx rfl (hb hby at_190) rfl ?_
              exact ht
            by_cases hc94 : y18 = y21
            · have k95 : Go p.tables e below (T60.setTop (mkF m 192 #[.val (.int p0), .val (.int p1), .val (.int p2), .val (.int y14), .val (.int y15), .val (.int y16), .val (.int y17), .val (.int y18), .val (.int y19), .val (.int y20), .val (.int y21), .val (.ref xs_24), .val (.ref xs_26), .val (.int (nar .boolean (f_tail0 (own_str y14 y16 y17 y18) (own_str y15 y19 y20 y21)))), .val (.int y57), .val (.int y62), .unset, .unset] [(.int y21), (.int y18)])) (T60.setTop (mkF m 200 #[.val (.int p0), .val (.int p1), .val (.int p2), .val (.int y14), .val (.int y15), .val (.int y16), .val (.int y17), .val (.int y18), .val (.int y19), .val (.int y20), .val (.int y21), .val (.ref xs_24), .val (.ref xs_26), .val (.int (nar .boolean (f_tail0 (own_str y14 y16 y17 y18) (own_str y15 y19 y20 y21)))), .val (.int y57), .val (.int y62), .unset, .unset] [(.int (1 : Int32))])) := by
                intro t ht
                refine XS.icmpNo X60.here hx rfl (hb hby at_192) rfl (teq hc94).2 ?_
                show Steps p.tables e below (T60.setTop (mkF m 195 #[.val (.int p0), .val (.int p1), .val (.int p2), .val (.int y14), .val (.int y15), .val (.int y16), .val (.int y17), .val (.int y18), .val (.int y19), .val (.int y20), .val (.int y21), .val (.ref xs_24), .val (.ref xs_26), .val (.int (nar .boolean (f_tail0 (own_str y14 y16 y17 y18) (own_str y15 y19 y20 y21)))), .val (.int y57), .val (.int y62), .unset, .unset] [])) _
                refine XS.iconst X60.here hx rfl (hb hby at_195) ?_
                show Steps p.tables e below (T60.setTop (mkF m 196 #[.val (.int p0), .val (.int p1), .val (.int p2), .val (.int y14), .val (.int y15), .val (.int y16), .val (.int y17), .val (.int y18), .val (.int y19), .val (.int y20), .val (.int y21), .val (.ref xs_24), .val (.ref xs_26), .val (.int (nar .boolean (f_tail0 (own_str y14 y16 y17 y18) (own_str y15 y19 y20 y21)))), .val (.int y57), .val (.int y62), .unset, .unset] [(.int (1 : Int32))])) _
                refine XS.goto X60.here hx rfl (pc0 := 196) (pc' := 200) rfl (hb hby at_196) (by decide) (by decide) ?_
                exact ht
              have kk := (goT k86 (goT k88 (goT k90 (goT k93 k95))))
              simpa only [if_neg hc66, if_pos hc87, if_pos hc89, if_neg hc91, if_pos hc94] using kk
            · have k96 : Go p.tables e below (T60.setTop (mkF m 192 #[.val (.int p0), .val (.int p1), .val (.int p2), .val (.int y14), .val (.int y15), .val (.int y16), .val (.int y17), .val (.int y18), .val (.int y19), .val (.int y20), .val (.int y21), .val (.ref xs_24), .val (.ref xs_26), .val (.int (nar .boolean (f_tail0 (own_str y14 y16 y17 y18) (own_str y15 y19 y20 y21)))), .val (.int y57), .val (.int y62), .unset, .unset] [(.int y21), (.int y18)])) (T60.setTop (mkF m 200 #[.val (.int p0), .val (.int p1), .val (.int p2), .val (.int y14), .val (.int y15), .val (.int y16), .val (.int y17), .val (.int y18), .val (.int y19), .val (.int y20), .val (.int y21), .val (.ref xs_24), .val (.ref xs_26), .val (.int (nar .boolean (f_tail0 (own_str y14 y16 y17 y18) (own_str y15 y19 y20 y21)))), .val (.int y57), .val (.int y62), .unset, .unset] [(.int (0 : Int32))])) := by
                intro t ht
                refine XS.icmpYes X60.here hx rfl (pc0 := 192) (pc' := 199) rfl (hb hby at_192) rfl (feq hc94).2 (by decide) (by decide) ?_
                show Steps p.tables e below (T60.setTop (mkF m 199 #[.val (.int p0), .val (.int p1), .val (.int p2), .val (.int y14), .val (.int y15), .val (.int y16), .val (.int y17), .val (.int y18), .val (.int y19), .val (.int y20), .val (.int y21), .val (.ref xs_24), .val (.ref xs_26), .val (.int (nar .boolean (f_tail0 (own_str y14 y16 y17 y18) (own_str y15 y19 y20 y21)))), .val (.int y57), .val (.int y62), .unset, .unset] [])) _
                refine XS.iconst X60.here hx rfl (hb hby at_199) ?_
                exact ht
              have kk := (goT k86 (goT k88 (goT k90 (goT k93 k96))))
              simpa only [if_neg hc66, if_pos hc87, if_pos hc89, if_neg hc91, if_neg hc94] using kk
        · have k97 : Go p.tables e below (T60.setTop (mkF m 172 #[.val (.int p0), .val (.int p1), .val (.int p2), .val (.int y14), .val (.int y15), .val (.int y16), .val (.int y17), .val (.int y18), .val (.int y19), .val (.int y20), .val (.int y21), .val (.ref xs_24), .val (.ref xs_26), .val (.int (nar .boolean (f_tail0 (own_str y14 y16 y17 y18) (own_str y15 y19 y20 y21)))), .val (.int y57), .val (.int y62), .unset, .unset] [(.int (2 : Int32)), (.int y62)])) (T60.setTop (mkF m 179 #[.val (.int p0), .val (.int p1), .val (.int p2), .val (.int y14), .val (.int y15), .val (.int y16), .val (.int y17), .val (.int y18), .val (.int y19), .val (.int y20), .val (.int y21), .val (.ref xs_24), .val (.ref xs_26), .val (.int (nar .boolean (f_tail0 (own_str y14 y16 y17 y18) (own_str y15 y19 y20 y21)))), .val (.int y57), .val (.int y62), .unset, .unset] [(.int y20), (.int y17)])) := by
            intro t ht
            refine XS.icmpNo X60.here hx rfl (hb hby at_172) rfl (flt hc89).1 ?_
            show Steps p.tables e below (T60.setTop (mkF m 175 #[.val (.int p0), .val (.int p1), .val (.int p2), .val (.int y14), .val (.int y15), .val (.int y16), .val (.int y17), .val (.int y18), .val (.int y19), .val (.int y20), .val (.int y21), .val (.ref xs_24), .val (.ref xs_26), .val (.int (nar .boolean (f_tail0 (own_str y14 y16 y17 y18) (own_str y15 y19 y20 y21)))), .val (.int y57), .val (.int y62), .unset, .unset] [])) _
            refine XS.iload X60.here hx rfl (hb hby at_175) rfl ?_
            show Steps p.tables e below (T60.setTop (mkF m 177 #[.val (.int p0), .val (.int p1), .val (.int p2), .val (.int y14), .val (.int y15), .val (.int y16), .val (.int y17), .val (.int y18), .val (.int y19), .val (.int y20), .val (.int y21), .val (.ref xs_24), .val (.ref xs_26), .val (.int (nar .boolean (f_tail0 (own_str y14 y16 y17 y18) (own_str y15 y19 y20 y21)))), .val (.int y57), .val (.int y62), .unset, .unset] [(.int y17)])) _
            refine XS.iload X60.here hx rfl (hb hby at_177) rfl ?_
            exact ht
          by_cases hc98 : y17 = y20
          · have k99 : Go p.tables e below (T60.setTop (mkF m 179 #[.val (.int p0), .val (.int p1), .val (.int p2), .val (.int y14), .val (.int y15), .val (.int y16), .val (.int y17), .val (.int y18), .val (.int y19), .val (.int y20), .val (.int y21), .val (.ref xs_24), .val (.ref xs_26), .val (.int (nar .boolean (f_tail0 (own_str y14 y16 y17 y18) (own_str y15 y19 y20 y21)))), .val (.int y57), .val (.int y62), .unset, .unset] [(.int y20), (.int y17)])) (T60.setTop (mkF m 185 #[.val (.int p0), .val (.int p1), .val (.int p2), .val (.int y14), .val (.int y15), .val (.int y16), .val (.int y17), .val (.int y18), .val (.int y19), .val (.int y20), .val (.int y21), .val (.ref xs_24), .val (.ref xs_26), .val (.int (nar .boolean (f_tail0 (own_str y14 y16 y17 y18) (own_str y15 y19 y20 y21)))), .val (.int y57), .val (.int y62), .unset, .unset] [(.int (3 : Int32)), (.int y62)])) := by
              intro t ht
              refine XS.icmpNo X60.here hx rfl (hb hby at_179) rfl (teq hc98).2 ?_
              show Steps p.tables e below (T60.setTop (mkF m 182 #[.val (.int p0), .val (.int p1), .val (.int p2), .val (.int y14), .val (.int y15), .val (.int y16), .val (.int y17), .val (.int y18), .val (.int y19), .val (.int y20), .val (.int y21), .val (.ref xs_24), .val (.ref xs_26), .val (.int (nar .boolean (f_tail0 (own_str y14 y16 y17 y18) (own_str y15 y19 y20 y21)))), .val (.int y57), .val (.int y62), .unset, .unset] [])) _
              refine XS.iload X60.here hx rfl (hb hby at_182) rfl ?_
              show Steps p.tables e below (T60.setTop (mkF m 184 #[.val (.int p0), .val (.int p1), .val (.int p2), .val (.int y14), .val (.int y15), .val (.int y16), .val (.int y17), .val (.int y18), .val (.int y19), .val (.int y20), .val (.int y21), .val (.ref xs_24), .val (.ref xs_26), .val (.int (nar .boolean (f_tail0 (own_str y14 y16 y17 y18) (own_str y15 y19 y20 y21)))), .val (.int y57), .val (.int y62), .unset, .unset] [(.int y62)])) _
              refine XS.iconst X60.here hx rfl (hb hby at_184) ?_
              exact ht
            by_cases hc100 : y62 < (3 : Int32)
            · have k101 : Go p.tables e below (T60.setTop (mkF m 185 #[.val (.int p0), .val (.int p1), .val (.int p2), .val (.int y14), .val (.int y15), .val (.int y16), .val (.int y17), .val (.int y18), .val (.int y19), .val (.int y20), .val (.int y21), .val (.ref xs_24), .val (.ref xs_26), .val (.int (nar .boolean (f_tail0 (own_str y14 y16 y17 y18) (own_str y15 y19 y20 y21)))), .val (.int y57), .val (.int y62), .unset, .unset] [(.int (3 : Int32)), (.int y62)])) (T60.setTop (mkF m 200 #[.val (.int p0), .val (.int p1), .val (.int p2), .val (.int y14), .val (.int y15), .val (.int y16), .val (.int y17), .val (.int y18), .val (.int y19), .val (.int y20), .val (.int y21), .val (.ref xs_24), .val (.ref xs_26), .val (.int (nar .boolean (f_tail0 (own_str y14 y16 y17 y18) (own_str y15 y19 y20 y21)))), .val (.int y57), .val (.int y62), .unset, .unset] [(.int (1 : Int32))])) := by
                intro t ht
                refine XS.icmpYes X60.here hx rfl (pc0 := 185) (pc' := 195) rfl (hb hby at_185) rfl (tlt hc100).1 (by decide) (by decide) ?_
                show Steps p.tables e below (T60.setTop (mkF m 195 #[.val (.int p0), .val (.int p1), .val (.int p2), .val (.int y14), .val (.int y15), .val (.int y16), .val (.int y17), .val (.int y18), .val (.int y19), .val (.int y20), .val (.int y21), .val (.ref xs_24), .val (.ref xs_26), .val (.int (nar .boolean (f_tail0 (own_str y14 y16 y17 y18) (own_str y15 y19 y20 y21)))), .val (.int y57), .val (.int y62), .unset, .unset] [])) _
                refine XS.iconst X60.here hx rfl (hb hby at_195) ?_
                show Steps p.tables e below (T60.setTop (mkF m 196 #[.val (.int p0), .val (.int p1), .val (.int p2), .val (.int y14), .val (.int y15), .val (.int y16), .val (.int y17), .val (.int y18), .val (.int y19), .val (.int y20), .val (.int y21), .val (.ref xs_24), .val (.ref xs_26), .val (.int (nar .boolean (f_tail0 (own_str y14 y16 y17 y18) (own_str y15 y19 y20 y21)))), .val (.int y57), .val (.int y62), .unset, .unset] [(.int (1 : Int32))])) _
                refine XS.goto X60.here hx rfl (pc0 := 196) (pc' := 200) rfl (hb hby at_196) (by decide) (by decide) ?_
                exact ht
              have kk := (goT k86 (goT k88 (goT k97 (goT k99 k101))))
              simpa only [if_neg hc66, if_pos hc87, if_neg hc89, if_pos hc98, if_pos hc100] using kk
            · have k102 : Go p.tables e below (T60.setTop (mkF m 185 #[.val (.int p0), .val (.int p1), .val (.int p2), .val (.int y14), .val (.int y15), .val (.int y16), .val (.int y17), .val (.int y18), .val (.int y19), .val (.int y20), .val (.int y21), .val (.ref xs_24), .val (.ref xs_26), .val (.int (nar .boolean (f_tail0 (own_str y14 y16 y17 y18) (own_str y15 y19 y20 y21)))), .val (.int y57), .val (.int y62), .unset, .unset] [(.int (3 : Int32)), (.int y62)])) (T60.setTop (mkF m 192 #[.val (.int p0), .val (.int p1), .val (.int p2), .val (.int y14), .val (.int y15), .val (.int y16), .val (.int y17), .val (.int y18), .val (.int y19), .val (.int y20), .val (.int y21), .val (.ref xs_24), .val (.ref xs_26), .val (.int (nar .boolean (f_tail0 (own_str y14 y16 y17 y18) (own_str y15 y19 y20 y21)))), .val (.int y57), .val (.int y62), .unset, .unset] [(.int y21), (.int y18)])) := by
                intro t ht
                refine XS.icmpNo X60.here hx rfl (hb hby at_185) rfl (flt hc100).1 ?_
                show Steps p.tables e below (T60.setTop (mkF m 188 #[.val (.int p0), .val (.int p1), .val (.int p2), .val (.int y14), .val (.int y15), .val (.int y16), .val (.int y17), .val (.int y18), .val (.int y19), .val (.int y20), .val (.int y21), .val (.ref xs_24), .val (.ref xs_26), .val (.int (nar .boolean (f_tail0 (own_str y14 y16 y17 y18) (own_str y15 y19 y20 y21)))), .val (.int y57), .val (.int y62), .unset, .unset] [])) _
                refine XS.iload X60.here hx rfl (hb hby at_188) rfl ?_
                show Steps p.tables e below (T60.setTop (mkF m 190 #[.val (.int p0), .val (.int p1), .val (.int p2), .val (.int y14), .val (.int y15), .val (.int y16), .val (.int y17), .val (.int y18), .val (.int y19), .val (.int y20), .val (.int y21), .val (.ref xs_24), .val (.ref xs_26), .val (.int (nar .boolean (f_tail0 (own_str y14 y16 y17 y18) (own_str y15 y19 y20 y21)))), .val (.int y57), .val (.int y62), .unset, .unset] [(.int y18)])) _
                refine XS.iload X60.here hx rfl (hb hby at_190) rfl ?_
                exact ht
              by_cases hc103 : y18 = y21
              · have k104 : Go p.tables e below (T60.setTop (mkF m 192 #[.val (.int p0), .val (.int p1), .val (.int p2), .val (.int y14), .val (.int y15), .val (.int y16), .val (.int y17), .val (.int y18), .val (.int y19), .val (.int y20), .val (.int y21), .val (.ref xs_24), .val (.ref xs_26), .val (.int (nar .boolean (f_tail0 (own_str y14 y16 y17 y18) (own_str y15 y19 y20 y21)))), .val (.int y57), .val (.int y62), .unset, .unset] [(.int y21), (.int y18)])) (T60.setTop (mkF m 200 #[.val (.int p0), .val (.int p1), .val (.int p2), .val (.int y14), .val (.int y15), .val (.int y16), .val (.int y17), .val (.int y18), .val (.int y19), .val (.int y20), .val (.int y21), .val (.ref xs_24), .val (.ref xs_26), .val (.int (nar .boolean (f_tail0 (own_str y14 y16 y17 y18) (own_str y15 y19 y20 y21)))), .val (.int y57), .val (.int y62), .unset, .unset] [(.int (1 : Int32))])) := by
                  intro t ht
                  refine XS.icmpNo X60.here hx rfl (hb hby at_192) rfl (teq hc103).2 ?_
                  show Steps p.tables e below (T60.setTop (mkF m 195 #[.val (.int p0), .val (.int p1), .val (.int p2), .val (.int y14), .val (.int y15), .val (.int y16), .val (.int y17), .val (.int y18), .val (.int y19), .val (.int y20), .val (.int y21), .val (.ref xs_24), .val (.ref xs_26), .val (.int (nar .boolean (f_tail0 (own_str y14 y16 y17 y18) (own_str y15 y19 y20 y21)))), .val (.int y57), .val (.int y62), .unset, .unset] [])) _
                  refine XS.iconst X60.here hx rfl (hb hby at_195) ?_
                  show Steps p.tables e below (T60.setTop (mkF m 196 #[.val (.int p0), .val (.int p1), .val (.int p2), .val (.int y14), .val (.int y15), .val (.int y16), .val (.int y17), .val (.int y18), .val (.int y19), .val (.int y20), .val (.int y21), .val (.ref xs_24), .val (.ref xs_26), .val (.int (nar .boolean (f_tail0 (own_str y14 y16 y17 y18) (own_str y15 y19 y20 y21)))), .val (.int y57), .val (.int y62), .unset, .unset] [(.int (1 : Int32))])) _
                  refine XS.goto X60.here hx rfl (pc0 := 196) (pc' := 200) rfl (hb hby at_196) (by decide) (by decide) ?_
                  exact ht
                have kk := (goT k86 (goT k88 (goT k97 (goT k99 (goT k102 k104)))))
                simpa only [if_neg hc66, if_pos hc87, if_neg hc89, if_pos hc98, if_neg hc100, if_pos hc103] using kk
              · have k105 : Go p.tables e below (T60.setTop (mkF m 192 #[.val (.int p0), .val (.int p1), .val (.int p2), .val (.int y14), .val (.int y15), .val (.int y16), .val (.int y17), .val (.int y18), .val (.int y19), .val (.int y20), .val (.int y21), .val (.ref xs_24), .val (.ref xs_26), .val (.int (nar .boolean (f_tail0 (own_str y14 y16 y17 y18) (own_str y15 y19 y20 y21)))), .val (.int y57), .val (.int y62), .unset, .unset] [(.int y21), (.int y18)])) (T60.setTop (mkF m 200 #[.val (.int p0), .val (.int p1), .val (.int p2), .val (.int y14), .val (.int y15), .val (.int y16), .val (.int y17), .val (.int y18), .val (.int y19), .val (.int y20), .val (.int y21), .val (.ref xs_24), .val (.ref xs_26), .val (.int (nar .boolean (f_tail0 (own_str y14 y16 y17 y18) (own_str y15 y19 y20 y21)))), .val (.int y57), .val (.int y62), .unset, .unset] [(.int (0 : Int32))])) := by
                  intro t ht
                  refine XS.icmpYes X60.here hx rfl (pc0 := 192) (pc' := 199) rfl (hb hby at_192) rfl (feq hc103).2 (by decide) (by decide) ?_
                  show Steps p.tables e below (T60.setTop (mkF m 199 #[.val (.int p0), .val (.int p1), .val (.int p2), .val (.int y14), .val (.int y15), .val (.int y16), .val (.int y17), .val (.int y18), .val (.int y19), .val (.int y20), .val (.int y21), .val (.ref xs_24), .val (.ref xs_26), .val (.int (nar .boolean (f_tail0 (own_str y14 y16 y17 y18) (own_str y15 y19 y20 y21)))), .val (.int y57), .val (.int y62), .unset, .unset] [])) _
                  refine XS.iconst X60.here hx rfl (hb hby at_199) ?_
                  exact ht
                have kk := (goT k86 (goT k88 (goT k97 (goT k99 (goT k102 k105)))))
                simpa only [if_neg hc66, if_pos hc87, if_neg hc89, if_pos hc98, if_neg hc100, if_neg hc103] using kk
          · have k106 : Go p.tables e below (T60.setTop (mkF m 179 #[.val (.int p0), .val (.int p1), .val (.int p2), .val (.int y14), .val (.int y15), .val (.int y16), .val (.int y17), .val (.int y18), .val (.int y19), .val (.int y20), .val (.int y21), .val (.ref xs_24), .val (.ref xs_26), .val (.int (nar .boolean (f_tail0 (own_str y14 y16 y17 y18) (own_str y15 y19 y20 y21)))), .val (.int y57), .val (.int y62), .unset, .unset] [(.int y20), (.int y17)])) (T60.setTop (mkF m 200 #[.val (.int p0), .val (.int p1), .val (.int p2), .val (.int y14), .val (.int y15), .val (.int y16), .val (.int y17), .val (.int y18), .val (.int y19), .val (.int y20), .val (.int y21), .val (.ref xs_24), .val (.ref xs_26), .val (.int (nar .boolean (f_tail0 (own_str y14 y16 y17 y18) (own_str y15 y19 y20 y21)))), .val (.int y57), .val (.int y62), .unset, .unset] [(.int (0 : Int32))])) := by
              intro t ht
              refine XS.icmpYes X60.here hx rfl (pc0 := 179) (pc' := 199) rfl (hb hby at_179) rfl (feq hc98).2 (by decide) (by decide) ?_
              show Steps p.tables e below (T60.setTop (mkF m 199 #[.val (.int p0), .val (.int p1), .val (.int p2), .val (.int y14), .val (.int y15), .val (.int y16), .val (.int y17), .val (.int y18), .val (.int y19), .val (.int y20), .val (.int y21), .val (.ref xs_24), .val (.ref xs_26), .val (.int (nar .boolean (f_tail0 (own_str y14 y16 y17 y18) (own_str y15 y19 y20 y21)))), .val (.int y57), .val (.int y62), .unset, .unset] [])) _
              refine XS.iconst X60.here hx rfl (hb hby at_199) ?_
              exact ht
            have kk := (goT k86 (goT k88 (goT k97 k106)))
            simpa only [if_neg hc66, if_pos hc87, if_neg hc89, if_neg hc98] using kk
      · have k107 : Go p.tables e below (T60.setTop (mkF m 166 #[.val (.int p0), .val (.int p1), .val (.int p2), .val (.int y14), .val (.int y15), .val (.int y16), .val (.int y17), .val (.int y18), .val (.int y19), .val (.int y20), .val (.int y21), .val (.ref xs_24), .val (.ref xs_26), .val (.int (nar .boolean (f_tail0 (own_str y14 y16 y17 y18) (own_str y15 y19 y20 y21)))), .val (.int y57), .val (.int y62), .unset, .unset] [(.int y19), (.int y16)])) (T60.setTop (mkF m 200 #[.val (.int p0), .val (.int p1), .val (.int p2), .val (.int y14), .val (.int y15), .val (.int y16), .val (.int y17), .val (.int y18), .val (.int y19), .val (.int y20), .val (.int y21), .val (.ref xs_24), .val (.ref xs_26), .val (.int (nar .boolean (f_tail0 (own_str y14 y16 y17 y18) (own_str y15 y19 y20 y21)))), .val (.int y57), .val (.int y62), .unset, .unset] [(.int (0 : Int32))])) := by
          intro t ht
          refine XS.icmpYes X60.here hx rfl (pc0 := 166) (pc' := 199) rfl (hb hby at_166) rfl (feq hc87).2 (by decide) (by decide) ?_
          show Steps p.tables e below (T60.setTop (mkF m 199 #[.val (.int p0), .val (.int p1), .val (.int p2), .val (.int y14), .val (.int y15), .val (.int y16), .val (.int y17), .val (.int y18), .val (.int y19), .val (.int y20), .val (.int y21), .val (.ref xs_24), .val (.ref xs_26), .val (.int (nar .boolean (f_tail0 (own_str y14 y16 y17 y18) (own_str y15 y19 y20 y21)))), .val (.int y57), .val (.int y62), .unset, .unset] [])) _
          refine XS.iconst X60.here hx rfl (hb hby at_199) ?_
          exact ht
        have kk := (goT k86 k107)
        simpa only [if_neg hc66, if_neg hc87] using kk
  have k108 : Go p.tables e below (T60.setTop (mkF m 200 #[.val (.int p0), .val (.int p1), .val (.int p2), .val (.int y14), .val (.int y15), .val (.int y16), .val (.int y17), .val (.int y18), .val (.int y19), .val (.int y20), .val (.int y21), .val (.ref xs_24), .val (.ref xs_26), .val (.int (nar .boolean (f_tail0 (own_str y14 y16 y17 y18) (own_str y15 y19 y20 y21)))), .val (.int y57), .val (.int y62), .unset, .unset] [(.int (if y62 < (1 : Int32) then (if y62 < (2 : Int32) then (if y62 < (3 : Int32) then (1 : Int32) else (if y18 = y21 then (1 : Int32) else (0 : Int32))) else (if y17 = y20 then (if y62 < (3 : Int32) then (1 : Int32) else (if y18 = y21 then (1 : Int32) else (0 : Int32))) else (0 : Int32))) else (if y16 = y19 then (if y62 < (2 : Int32) then (if y62 < (3 : Int32) then (1 : Int32) else (if y18 = y21 then (1 : Int32) else (0 : Int32))) else (if y17 = y20 then (if y62 < (3 : Int32) then (1 : Int32) else (if y18 = y21 then (1 : Int32) else (0 : Int32))) else (0 : Int32))) else (0 : Int32))))])) (T60.setTop (mkF m 202 #[.val (.int p0), .val (.int p1), .val (.int p2), .val (.int y14), .val (.int y15), .val (.int y16), .val (.int y17), .val (.int y18), .val (.int y19), .val (.int y20), .val (.int y21), .val (.ref xs_24), .val (.ref xs_26), .val (.int (nar .boolean (f_tail0 (own_str y14 y16 y17 y18) (own_str y15 y19 y20 y21)))), .val (.int y57), .val (.int y62), .val (.int (if y62 < (1 : Int32) then (if y62 < (2 : Int32) then (if y62 < (3 : Int32) then (1 : Int32) else (if y18 = y21 then (1 : Int32) else (0 : Int32))) else (if y17 = y20 then (if y62 < (3 : Int32) then (1 : Int32) else (if y18 = y21 then (1 : Int32) else (0 : Int32))) else (0 : Int32))) else (if y16 = y19 then (if y62 < (2 : Int32) then (if y62 < (3 : Int32) then (1 : Int32) else (if y18 = y21 then (1 : Int32) else (0 : Int32))) else (if y17 = y20 then (if y62 < (3 : Int32) then (1 : Int32) else (if y18 = y21 then (1 : Int32) else (0 : Int32))) else (0 : Int32))) else (0 : Int32)))), .unset] [])) := by
    intro t ht
    refine XS.istore X60.here hx rfl (hb hby at_200) rfl (l' := #[.val (.int p0), .val (.int p1), .val (.int p2), .val (.int y14), .val (.int y15), .val (.int y16), .val (.int y17), .val (.int y18), .val (.int y19), .val (.int y20), .val (.int y21), .val (.ref xs_24), .val (.ref xs_26), .val (.int (nar .boolean (f_tail0 (own_str y14 y16 y17 y18) (own_str y15 y19 y20 y21)))), .val (.int y57), .val (.int y62), .val (.int (if y62 < (1 : Int32) then (if y62 < (2 : Int32) then (if y62 < (3 : Int32) then (1 : Int32) else (if y18 = y21 then (1 : Int32) else (0 : Int32))) else (if y17 = y20 then (if y62 < (3 : Int32) then (1 : Int32) else (if y18 = y21 then (1 : Int32) else (0 : Int32))) else (0 : Int32))) else (if y16 = y19 then (if y62 < (2 : Int32) then (if y62 < (3 : Int32) then (1 : Int32) else (if y18 = y21 then (1 : Int32) else (0 : Int32))) else (if y17 = y20 then (if y62 < (3 : Int32) then (1 : Int32) else (if y18 = y21 then (1 : Int32) else (0 : Int32))) else (0 : Int32))) else (0 : Int32)))), .unset]) rfl ?_
    exact ht
  obtain ⟨y109, ey109⟩ : ∃ z : Int32, z = (if y62 < (1 : Int32) then (if y62 < (2 : Int32) then (if y62 < (3 : Int32) then (1 : Int32) else (if y18 = y21 then (1 : Int32) else (0 : Int32))) else (if y17 = y20 then (if y62 < (3 : Int32) then (1 : Int32) else (if y18 = y21 then (1 : Int32) else (0 : Int32))) else (0 : Int32))) else (if y16 = y19 then (if y62 < (2 : Int32) then (if y62 < (3 : Int32) then (1 : Int32) else (if y18 = y21 then (1 : Int32) else (0 : Int32))) else (if y17 = y20 then (if y62 < (3 : Int32) then (1 : Int32) else (if y18 = y21 then (1 : Int32) else (0 : Int32))) else (0 : Int32))) else (0 : Int32))) := ⟨_, rfl⟩
  have k110 : Go p.tables e below (T60.setTop (mkF m 202 #[.val (.int p0), .val (.int p1), .val (.int p2), .val (.int y14), .val (.int y15), .val (.int y16), .val (.int y17), .val (.int y18), .val (.int y19), .val (.int y20), .val (.int y21), .val (.ref xs_24), .val (.ref xs_26), .val (.int (nar .boolean (f_tail0 (own_str y14 y16 y17 y18) (own_str y15 y19 y20 y21)))), .val (.int y57), .val (.int y62), .val (.int (if y62 < (1 : Int32) then (if y62 < (2 : Int32) then (if y62 < (3 : Int32) then (1 : Int32) else (if y18 = y21 then (1 : Int32) else (0 : Int32))) else (if y17 = y20 then (if y62 < (3 : Int32) then (1 : Int32) else (if y18 = y21 then (1 : Int32) else (0 : Int32))) else (0 : Int32))) else (if y16 = y19 then (if y62 < (2 : Int32) then (if y62 < (3 : Int32) then (1 : Int32) else (if y18 = y21 then (1 : Int32) else (0 : Int32))) else (if y17 = y20 then (if y62 < (3 : Int32) then (1 : Int32) else (if y18 = y21 then (1 : Int32) else (0 : Int32))) else (0 : Int32))) else (0 : Int32)))), .unset] [])) (T60.setTop (mkF m 202 #[.val (.int p0), .val (.int p1), .val (.int p2), .val (.int y14), .val (.int y15), .val (.int y16), .val (.int y17), .val (.int y18), .val (.int y19), .val (.int y20), .val (.int y21), .val (.ref xs_24), .val (.ref xs_26), .val (.int (nar .boolean (f_tail0 (own_str y14 y16 y17 y18) (own_str y15 y19 y20 y21)))), .val (.int y57), .val (.int y62), .val (.int y109), .unset] [])) := by rw [ey109]; exact fun _ h => h
  have k111 : Go p.tables e below (T60.setTop (mkF m 202 #[.val (.int p0), .val (.int p1), .val (.int p2), .val (.int y14), .val (.int y15), .val (.int y16), .val (.int y17), .val (.int y18), .val (.int y19), .val (.int y20), .val (.int y21), .val (.ref xs_24), .val (.ref xs_26), .val (.int (nar .boolean (f_tail0 (own_str y14 y16 y17 y18) (own_str y15 y19 y20 y21)))), .val (.int y57), .val (.int y62), .val (.int y109), .unset] [])) (T60.setTop (mkF m 204 #[.val (.int p0), .val (.int p1), .val (.int p2), .val (.int y14), .val (.int y15), .val (.int y16), .val (.int y17), .val (.int y18), .val (.int y19), .val (.int y20), .val (.int y21), .val (.ref xs_24), .val (.ref xs_26), .val (.int (nar .boolean (f_tail0 (own_str y14 y16 y17 y18) (own_str y15 y19 y20 y21)))), .val (.int y57), .val (.int y62), .val (.int y109), .unset] [(.int y109)])) := by
    intro t ht
    refine XS.iload X60.here hx rfl (hb hby at_202) rfl ?_
    exact ht
  have k112 : Go p.tables e below (T60.setTop (mkF m 204 #[.val (.int p0), .val (.int p1), .val (.int p2), .val (.int y14), .val (.int y15), .val (.int y16), .val (.int y17), .val (.int y18), .val (.int y19), .val (.int y20), .val (.int y21), .val (.ref xs_24), .val (.ref xs_26), .val (.int (nar .boolean (f_tail0 (own_str y14 y16 y17 y18) (own_str y15 y19 y20 y21)))), .val (.int y57), .val (.int y62), .val (.int y109), .unset] [(.int y109)])) (T60.setTop (mkF m 225 #[.val (.int p0), .val (.int p1), .val (.int p2), .val (.int y14), .val (.int y15), .val (.int y16), .val (.int y17), .val (.int y18), .val (.int y19), .val (.int y20), .val (.int y21), .val (.ref xs_24), .val (.ref xs_26), .val (.int (nar .boolean (f_tail0 (own_str y14 y16 y17 y18) (own_str y15 y19 y20 y21)))), .val (.int y57), .val (.int y62), .val (.int y109), .unset] [(.int (if y109 = (0 : Int32) then (0 : Int32) else (if y57 < y15 then (if y57 < y14 then (1 : Int32) else (0 : Int32)) else (1 : Int32))))])) := by
    by_cases hc113 : y109 = (0 : Int32)
    · have k114 : Go p.tables e below (T60.setTop (mkF m 204 #[.val (.int p0), .val (.int p1), .val (.int p2), .val (.int y14), .val (.int y15), .val (.int y16), .val (.int y17), .val (.int y18), .val (.int y19), .val (.int y20), .val (.int y21), .val (.ref xs_24), .val (.ref xs_26), .val (.int (nar .boolean (f_tail0 (own_str y14 y16 y17 y18) (own_str y15 y19 y20 y21)))), .val (.int y57), .val (.int y62), .val (.int y109), .unset] [(.int y109)])) (T60.setTop (mkF m 225 #[.val (.int p0), .val (.int p1), .val (.int p2), .val (.int y14), .val (.int y15), .val (.int y16), .val (.int y17), .val (.int y18), .val (.int y19), .val (.int y20), .val (.int y21), .val (.ref xs_24), .val (.ref xs_26), .val (.int (nar .boolean (f_tail0 (own_str y14 y16 y17 y18) (own_str y15 y19 y20 y21)))), .val (.int y57), .val (.int y62), .val (.int y109), .unset] [(.int (0 : Int32))])) := by
        intro t ht
        refine XS.ifYes X60.here hx rfl (pc0 := 204) (pc' := 224) rfl (hb hby at_204) rfl ((if0 _ _).trans (teq hc113).1) (by decide) (by decide) ?_
        show Steps p.tables e below (T60.setTop (mkF m 224 #[.val (.int p0), .val (.int p1), .val (.int p2), .val (.int y14), .val (.int y15), .val (.int y16), .val (.int y17), .val (.int y18), .val (.int y19), .val (.int y20), .val (.int y21), .val (.ref xs_24), .val (.ref xs_26), .val (.int (nar .boolean (f_tail0 (own_str y14 y16 y17 y18) (own_str y15 y19 y20 y21)))), .val (.int y57), .val (.int y62), .val (.int y109), .unset] [])) _
        refine XS.iconst X60.here hx rfl (hb hby at_224) ?_
        exact ht
      have kk := k114
      simpa only [if_pos hc113] using kk
    · have k115 : Go p.tables e below (T60.setTop (mkF m 204 #[.val (.int p0), .val (.int p1), .val (.int p2), .val (.int y14), .val (.int y15), .val (.int y16), .val (.int y17), .val (.int y18), .val (.int y19), .val (.int y20), .val (.int y21), .val (.ref xs_24), .val (.ref xs_26), .val (.int (nar .boolean (f_tail0 (own_str y14 y16 y17 y18) (own_str y15 y19 y20 y21)))), .val (.int y57), .val (.int y62), .val (.int y109), .unset] [(.int y109)])) (T60.setTop (mkF m 211 #[.val (.int p0), .val (.int p1), .val (.int p2), .val (.int y14), .val (.int y15), .val (.int y16), .val (.int y17), .val (.int y18), .val (.int y19), .val (.int y20), .val (.int y21), .val (.ref xs_24), .val (.ref xs_26), .val (.int (nar .boolean (f_tail0 (own_str y14 y16 y17 y18) (own_str y15 y19 y20 y21)))), .val (.int y57), .val (.int y62), .val (.int y109), .unset] [(.int y57), (.int y15)])) := by
        intro t ht
        refine XS.ifNo X60.here hx rfl (hb hby at_204) rfl ((if0 _ _).trans (feq hc113).1) ?_
        show Steps p.tables e below (T60.setTop (mkF m 207 #[.val (.int p0), .val (.int p1), .val (.int p2), .val (.int y14), .val (.int y15), .val (.int y16), .val (.int y17), .val (.int y18), .val (.int y19), .val (.int y20), .val (.int y21), .val (.ref xs_24), .val (.ref xs_26), .val (.int (nar .boolean (f_tail0 (own_str y14 y16 y17 y18) (own_str y15 y19 y20 y21)))), .val (.int y57), .val (.int y62), .val (.int y109), .unset] [])) _
        refine XS.iload X60.here hx rfl (hb hby at_207) rfl ?_
        show Steps p.tables e below (T60.setTop (mkF m 209 #[.val (.int p0), .val (.int p1), .val (.int p2), .val (.int y14), .val (.int y15), .val (.int y16), .val (.int y17), .val (.int y18), .val (.int y19), .val (.int y20), .val (.int y21), .val (.ref xs_24), .val (.ref xs_26), .val (.int (nar .boolean (f_tail0 (own_str y14 y16 y17 y18) (own_str y15 y19 y20 y21)))), .val (.int y57), .val (.int y62), .val (.int y109), .unset] [(.int y15)])) _
        refine XS.iload X60.here hx rfl (hb hby at_209) rfl ?_
        exact ht
      by_cases hc116 : y57 < y15
      · have k117 : Go p.tables e below (T60.setTop (mkF m 211 #[.val (.int p0), .val (.int p1), .val (.int p2), .val (.int y14), .val (.int y15), .val (.int y16), .val (.int y17), .val (.int y18), .val (.int y19), .val (.int y20), .val (.int y21), .val (.ref xs_24), .val (.ref xs_26), .val (.int (nar .boolean (f_tail0 (own_str y14 y16 y17 y18) (own_str y15 y19 y20 y21)))), .val (.int y57), .val (.int y62), .val (.int y109), .unset] [(.int y57), (.int y15)])) (T60.setTop (mkF m 217 #[.val (.int p0), .val (.int p1), .val (.int p2), .val (.int y14), .val (.int y15), .val (.int y16), .val (.int y17), .val (.int y18), .val (.int y19), .val (.int y20), .val (.int y21), .val (.ref xs_24), .val (.ref xs_26), .val (.int (nar .boolean (f_tail0 (own_str y14 y16 y17 y18) (own_str y15 y19 y20 y21)))), .val (.int y57), .val (.int y62), .val (.int y109), .unset] [(.int y14), (.int y57)])) := by
          intro t ht
          refine XS.icmpNo X60.here hx rfl (hb hby at_211) rfl (tlt hc116).2.2.2 ?_
          show Steps p.tables e below (T60.setTop (mkF m 214 #[.val (.int p0), .val (.int p1), .val (.int p2), .val (.int y14), .val (.int y15), .val (.int y16), .val (.int y17), .val (.int y18), .val (.int y19), .val (.int y20), .val (.int y21), .val (.ref xs_24), .val (.ref xs_26), .val (.int (nar .boolean (f_tail0 (own_str y14 y16 y17 y18) (own_str y15 y19 y20 y21)))), .val (.int y57), .val (.int y62), .val (.int y109), .unset] [])) _
          refine XS.iload X60.here hx rfl (hb hby at_214) rfl ?_
          show Steps p.tables e below (T60.setTop (mkF m 216 #[.val (.int p0), .val (.int p1), .val (.int p2), .val (.int y14), .val (.int y15), .val (.int y16), .val (.int y17), .val (.int y18), .val (.int y19), .val (.int y20), .val (.int y21), .val (.ref xs_24), .val (.ref xs_26), .val (.int (nar .boolean (f_tail0 (own_str y14 y16 y17 y18) (own_str y15 y19 y20 y21)))), .val (.int y57), .val (.int y62), .val (.int y109), .unset] [(.int y57)])) _
          refine XS.iloadN X60.here hx rfl (hb hby at_216) rfl ?_
          exact ht
        by_cases hc118 : y57 < y14
        · have k119 : Go p.tables e below (T60.setTop (mkF m 217 #[.val (.int p0), .val (.int p1), .val (.int p2), .val (.int y14), .val (.int y15), .val (.int y16), .val (.int y17), .val (.int y18), .val (.int y19), .val (.int y20), .val (.int y21), .val (.ref xs_24), .val (.ref xs_26), .val (.int (nar .boolean (f_tail0 (own_str y14 y16 y17 y18) (own_str y15 y19 y20 y21)))), .val (.int y57), .val (.int y62), .val (.int y109), .unset] [(.int y14), (.int y57)])) (T60.setTop (mkF m 225 #[.val (.int p0), .val (.int p1), .val (.int p2), .val (.int y14), .val (.int y15), .val (.int y16), .val (.int y17), .val (.int y18), .val (.int y19), .val (.int y20), .val (.int y21), .val (.ref xs_24), .val (.ref xs_26), .val (.int (nar .boolean (f_tail0 (own_str y14 y16 y17 y18) (own_str y15 y19 y20 y21)))), .val (.int y57), .val (.int y62), .val (.int y109), .unset] [(.int (1 : Int32))])) := by
            intro t ht
            refine XS.icmpNo X60.here hx rfl (hb hby at_217) rfl (tlt hc118).2.1 ?_
            show Steps p.tables e below (T60.setTop (mkF m 220 #[.val (.int p0), .val (.int p1), .val (.int p2), .val (.int y14), .val (.int y15), .val (.int y16), .val (.int y17), .val (.int y18), .val (.int y19), .val (.int y20), .val (.int y21), .val (.ref xs_24), .val (.ref xs_26), .val (.int (nar .boolean (f_tail0 (own_str y14 y16 y17 y18) (own_str y15 y19 y20 y21)))), .val (.int y57), .val (.int y62), .val (.int y109), .unset] [])) _
            refine XS.iconst X60.here hx rfl (hb hby at_220) ?_
            show Steps p.tables e below (T60.setTop (mkF m 221 #[.val (.int p0), .val (.int p1), .val (.int p2), .val (.int y14), .val (.int y15), .val (.int y16), .val (.int y17), .val (.int y18), .val (.int y19), .val (.int y20), .val (.int y21), .val (.ref xs_24), .val (.ref xs_26), .val (.int (nar .boolean (f_tail0 (own_str y14 y16 y17 y18) (own_str y15 y19 y20 y21)))), .val (.int y57), .val (.int y62), .val (.int y109), .unset] [(.int (1 : Int32))])) _
            refine XS.goto X60.here hx rfl (pc0 := 221) (pc' := 225) rfl (hb hby at_221) (by decide) (by decide) ?_
            exact ht
          have kk := (goT k115 (goT k117 k119))
          simpa only [if_neg hc113, if_pos hc116, if_pos hc118] using kk
        · have k120 : Go p.tables e below (T60.setTop (mkF m 217 #[.val (.int p0), .val (.int p1), .val (.int p2), .val (.int y14), .val (.int y15), .val (.int y16), .val (.int y17), .val (.int y18), .val (.int y19), .val (.int y20), .val (.int y21), .val (.ref xs_24), .val (.ref xs_26), .val (.int (nar .boolean (f_tail0 (own_str y14 y16 y17 y18) (own_str y15 y19 y20 y21)))), .val (.int y57), .val (.int y62), .val (.int y109), .unset] [(.int y14), (.int y57)])) (T60.setTop (mkF m 225 #[.val (.int p0), .val (.int p1), .val (.int p2), .val (.int y14), .val (.int y15), .val (.int y16), .val (.int y17), .val (.int y18), .val (.int y19), .val (.int y20), .val (.int y21), .val (.ref xs_24), .val (.ref xs_26), .val (.int (nar .boolean (f_tail0 (own_str y14 y16 y17 y18) (own_str y15 y19 y20 y21)))), .val (.int y57), .val (.int y62), .val (.int y109), .unset] [(.int (0 : Int32))])) := by
            intro t ht
            refine XS.icmpYes X60.here hx rfl (pc0 := 217) (pc' := 224) rfl (hb hby at_217) rfl (flt hc118).2.1 (by decide) (by decide) ?_
            show Steps p.tables e below (T60.setTop (mkF m 224 #[.val (.int p0), .val (.int p1), .val (.int p2), .val (.int y14), .val (.int y15), .val (.int y16), .val (.int y17), .val (.int y18), .val (.int y19), .val (.int y20), .val (.int y21), .val (.ref xs_24), .val (.ref xs_26), .val (.int (nar .boolean (f_tail0 (own_str y14 y16 y17 y18) (own_str y15 y19 y20 y21)))), .val (.int y57), .val (.int y62), .val (.int y109), .unset] [])) _
            refine XS.iconst X60.here hx rfl (hb hby at_224) ?_
            exact ht
          have kk := (goT k115 (goT k117 k120))
          simpa only [if_neg hc113, if_pos hc116, if_neg hc118] using kk
      · have k121 : Go p.tables e below (T60.setTop (mkF m 211 #[.val (.int p0), .val (.int p1), .val (.int p2), .val (.int y14), .val (.int y15), .val (.int y16), .val (.int y17), .val (.int y18), .val (.int y19), .val (.int y20), .val (.int y21), .val (.ref xs_24), .val (.ref xs_26), .val (.int (nar .boolean (f_tail0 (own_str y14 y16 y17 y18) (own_str y15 y19 y20 y21)))), .val (.int y57), .val (.int y62), .val (.int y109), .unset] [(.int y57), (.int y15)])) (T60.setTop (mkF m 225 #[.val (.int p0), .val (.int p1), .val (.int p2), .val (.int y14), .val (.int y15), .val (.int y16), .val (.int y17), .val (.int y18), .val (.int y19), .val (.int y20), .val (.int y21), .val (.ref xs_24), .val (.ref xs_26), .val (.int (nar .boolean (f_tail0 (own_str y14 y16 y17 y18) (own_str y15 y19 y20 y21)))), .val (.int y57), .val (.int y62), .val (.int y109), .unset] [(.int (1 : Int32))])) := by
          intro t ht
          refine XS.icmpYes X60.here hx rfl (pc0 := 211) (pc' := 220) rfl (hb hby at_211) rfl (flt hc116).2.2.2 (by decide) (by decide) ?_
          show Steps p.tables e below (T60.setTop (mkF m 220 #[.val (.int p0), .val (.int p1), .val (.int p2), .val (.int y14), .val (.int y15), .val (.int y16), .val (.int y17), .val (.int y18), .val (.int y19), .val (.int y20), .val (.int y21), .val (.ref xs_24), .val (.ref xs_26), .val (.int (nar .boolean (f_tail0 (own_str y14 y16 y17 y18) (own_str y15 y19 y20 y21)))), .val (.int y57), .val (.int y62), .val (.int y109), .unset] [])) _
          refine XS.iconst X60.here hx rfl (hb hby at_220) ?_
          show Steps p.tables e below (T60.setTop (mkF m 221 #[.val (.int p0), .val (.int p1), .val (.int p2), .val (.int y14), .val (.int y15), .val (.int y16), .val (.int y17), .val (.int y18), .val (.int y19), .val (.int y20), .val (.int y21), .val (.ref xs_24), .val (.ref xs_26), .val (.int (nar .boolean (f_tail0 (own_str y14 y16 y17 y18) (own_str y15 y19 y20 y21)))), .val (.int y57), .val (.int y62), .val (.int y109), .unset] [(.int (1 : Int32))])) _
          refine XS.goto X60.here hx rfl (pc0 := 221) (pc' := 225) rfl (hb hby at_221) (by decide) (by decide) ?_
          exact ht
        have kk := (goT k115 k121)
        simpa only [if_neg hc113, if_neg hc116] using kk
  have k122 : Go p.tables e below (T60.setTop (mkF m 225 #[.val (.int p0), .val (.int p1), .val (.int p2), .val (.int y14), .val (.int y15), .val (.int y16), .val (.int y17), .val (.int y18), .val (.int y19), .val (.int y20), .val (.int y21), .val (.ref xs_24), .val (.ref xs_26), .val (.int (nar .boolean (f_tail0 (own_str y14 y16 y17 y18) (own_str y15 y19 y20 y21)))), .val (.int y57), .val (.int y62), .val (.int y109), .unset] [(.int (if y109 = (0 : Int32) then (0 : Int32) else (if y57 < y15 then (if y57 < y14 then (1 : Int32) else (0 : Int32)) else (1 : Int32))))])) (T60.setTop (mkF m 227 #[.val (.int p0), .val (.int p1), .val (.int p2), .val (.int y14), .val (.int y15), .val (.int y16), .val (.int y17), .val (.int y18), .val (.int y19), .val (.int y20), .val (.int y21), .val (.ref xs_24), .val (.ref xs_26), .val (.int (nar .boolean (f_tail0 (own_str y14 y16 y17 y18) (own_str y15 y19 y20 y21)))), .val (.int y57), .val (.int y62), .val (.int y109), .val (.int (if y109 = (0 : Int32) then (0 : Int32) else (if y57 < y15 then (if y57 < y14 then (1 : Int32) else (0 : Int32)) else (1 : Int32))))] [])) := by
    intro t ht
    refine XS.istore X60.here hx rfl (hb hby at_225) rfl (l' := #[.val (.int p0), .val (.int p1), .val (.int p2), .val (.int y14), .val (.int y15), .val (.int y16), .val (.int y17), .val (.int y18), .val (.int y19), .val (.int y20), .val (.int y21), .val (.ref xs_24), .val (.ref xs_26), .val (.int (nar .boolean (f_tail0 (own_str y14 y16 y17 y18) (own_str y15 y19 y20 y21)))), .val (.int y57), .val (.int y62), .val (.int y109), .val (.int (if y109 = (0 : Int32) then (0 : Int32) else (if y57 < y15 then (if y57 < y14 then (1 : Int32) else (0 : Int32)) else (1 : Int32))))]) rfl ?_
    exact ht
  obtain ⟨y123, ey123⟩ : ∃ z : Int32, z = (if y109 = (0 : Int32) then (0 : Int32) else (if y57 < y15 then (if y57 < y14 then (1 : Int32) else (0 : Int32)) else (1 : Int32))) := ⟨_, rfl⟩
  have k124 : Go p.tables e below (T60.setTop (mkF m 227 #[.val (.int p0), .val (.int p1), .val (.int p2), .val (.int y14), .val (.int y15), .val (.int y16), .val (.int y17), .val (.int y18), .val (.int y19), .val (.int y20), .val (.int y21), .val (.ref xs_24), .val (.ref xs_26), .val (.int (nar .boolean (f_tail0 (own_str y14 y16 y17 y18) (own_str y15 y19 y20 y21)))), .val (.int y57), .val (.int y62), .val (.int y109), .val (.int (if y109 = (0 : Int32) then (0 : Int32) else (if y57 < y15 then (if y57 < y14 then (1 : Int32) else (0 : Int32)) else (1 : Int32))))] [])) (T60.setTop (mkF m 227 #[.val (.int p0), .val (.int p1), .val (.int p2), .val (.int y14), .val (.int y15), .val (.int y16), .val (.int y17), .val (.int y18), .val (.int y19), .val (.int y20), .val (.int y21), .val (.ref xs_24), .val (.ref xs_26), .val (.int (nar .boolean (f_tail0 (own_str y14 y16 y17 y18) (own_str y15 y19 y20 y21)))), .val (.int y57), .val (.int y62), .val (.int y109), .val (.int y123)] [])) := by rw [ey123]; exact fun _ h => h
  have k125 : Go p.tables e below (T60.setTop (mkF m 227 #[.val (.int p0), .val (.int p1), .val (.int p2), .val (.int y14), .val (.int y15), .val (.int y16), .val (.int y17), .val (.int y18), .val (.int y19), .val (.int y20), .val (.int y21), .val (.ref xs_24), .val (.ref xs_26), .val (.int (nar .boolean (f_tail0 (own_str y14 y16 y17 y18) (own_str y15 y19 y20 y21)))), .val (.int y57), .val (.int y62), .val (.int y109), .val (.int y123)] [])) (T60.setTop (mkF m 239 #[.val (.int p0), .val (.int p1), .val (.int p2), .val (.int y14), .val (.int y15), .val (.int y16), .val (.int y17), .val (.int y18), .val (.int y19), .val (.int y20), .val (.int y21), .val (.ref xs_24), .val (.ref xs_26), .val (.int (nar .boolean (f_tail0 (own_str y14 y16 y17 y18) (own_str y15 y19 y20 y21)))), .val (.int y57), .val (.int y62), .val (.int y109), .val (.int y123)] [(.int (1 : Int32))])) := by
    intro t ht
    refine XS.iload X60.here hx rfl (hb hby at_227) rfl ?_
    show Steps p.tables e below (T60.setTop (mkF m 229 #[.val (.int p0), .val (.int p1), .val (.int p2), .val (.int y14), .val (.int y15), .val (.int y16), .val (.int y17), .val (.int y18), .val (.int y19), .val (.int y20), .val (.int y21), .val (.ref xs_24), .val (.ref xs_26), .val (.int (nar .boolean (f_tail0 (own_str y14 y16 y17 y18) (own_str y15 y19 y20 y21)))), .val (.int y57), .val (.int y62), .val (.int y109), .val (.int y123)] [(.int (nar .boolean (f_tail0 (own_str y14 y16 y17 y18) (own_str y15 y19 y20 y21))))])) _
    refine XS.iload X60.here hx rfl (hb hby at_229) rfl ?_
    show Steps p.tables e below (T60.setTop (mkF m 231 #[.val (.int p0), .val (.int p1), .val (.int p2), .val (.int y14), .val (.int y15), .val (.int y16), .val (.int y17), .val (.int y18), .val (.int y19), .val (.int y20), .val (.int y21), .val (.ref xs_24), .val (.ref xs_26), .val (.int (nar .boolean (f_tail0 (own_str y14 y16 y17 y18) (own_str y15 y19 y20 y21)))), .val (.int y57), .val (.int y62), .val (.int y109), .val (.int y123)] [(.int y123), (.int (nar .boolean (f_tail0 (own_str y14 y16 y17 y18) (own_str y15 y19 y20 y21))))])) _
    refine XS.icmpNo X60.here hx rfl (hb hby at_231) rfl (teq (own_law hn3 hn4 hd5 hd6 hd7 hd8 hd9 hd10 ey57 ey62 ey109 ey123 : (nar .boolean (f_tail0 (own_str y14 y16 y17 y18) (own_str y15 y19 y20 y21))) = y123)).2 ?_
    show Steps p.tables e below (T60.setTop (mkF m 234 #[.val (.int p0), .val (.int p1), .val (.int p2), .val (.int y14), .val (.int y15), .val (.int y16), .val (.int y17), .val (.int y18), .val (.int y19), .val (.int y20), .val (.int y21), .val (.ref xs_24), .val (.ref xs_26), .val (.int (nar .boolean (f_tail0 (own_str y14 y16 y17 y18) (own_str y15 y19 y20 y21)))), .val (.int y57), .val (.int y62), .val (.int y109), .val (.int y123)] [])) _
    refine XS.iconst X60.here hx rfl (hb hby at_234) ?_
    show Steps p.tables e below (T60.setTop (mkF m 235 #[.val (.int p0), .val (.int p1), .val (.int p2), .val (.int y14), .val (.int y15), .val (.int y16), .val (.int y17), .val (.int y18), .val (.int y19), .val (.int y20), .val (.int y21), .val (.ref xs_24), .val (.ref xs_26), .val (.int (nar .boolean (f_tail0 (own_str y14 y16 y17 y18) (own_str y15 y19 y20 y21)))), .val (.int y57), .val (.int y62), .val (.int y109), .val (.int y123)] [(.int (1 : Int32))])) _
    refine XS.goto X60.here hx rfl (pc0 := 235) (pc' := 239) rfl (hb hby at_235) (by decide) (by decide) ?_
    exact ht
  obtain ⟨fs, hr, hrun, hended, hW⟩ := X60.leaveW (s := s) hS26 (by rw [eq60]; exact (Nat.le_trans (Nat.le_trans (Nat.le_refl _) E28.1) K30.1)) (v := some (.int (1 : Int32))) (fun h => by rw [Bd.returns] at h; cases h)
  refine ⟨_, _, pre0 _ ((goT k1 (goT k2 (goT k3 (goT k4 (goT k5 (goT k6 (goT k7 (goT k8 (goT k9 (goT k10 (goT k11 (goT k12 (goT k13 (goT k22 (goT k23 (goT k24 (goT k25 (goT k26 (goT k27 (goT k28 (goT k29 (goT k30 (goT k31 (goT k32 (goT k33 (goT k34 (goT k41 (goT k42 (goT k49 (goT k50 (goT k58 (goT k59 (goT k60 (goT k61 (goT k63 (goT k64 (goT k65 (goT k108 (goT k110 (goT k111 (goT k112 (goT k122 (goT k124 k125))))))))))))))))))))))))))))))))))))))))))) _ (retN X60 hx (t := .boolean) Bd.returns (by simp) (hb hby at_239) hr)), hrun, hended, _, _, rfl, ?_, hW.1, hW.2.1, hW.2.2.1, hW.2.2.2.mono (by decide) (by decide)⟩
  show Q_law Z p0 p1 p2 G1 fm h0 n0 _ T60.heap _
  rw [eq60]
  exact ⟨rfl, N60⟩
set_option maxRecDepth 65536 in
set_option maxHeartbeats 40000000 in
theorem comes_1 {Post : Tables → Env → Array Value → State → Outcome → State → Prop} (hpost : ∀ tb e args s v u, (limb_1_1.after args s (.returned v) u = true ∧ limb_1_2.after args s (.returned v) u = true ∧ True) → ReturnedEndW s (.returned v) u (Jvm.fieldLocs frame_1_writes args s ++ Jvm.arrayLocs frame_1_arrays args s ++ Jvm.staticLocs frame_1_statics s) 24 1152 → Post tb e args s (.returned v) u) :
    ArmFor flags0 classFile x code maxLocals ret World_1 tables_1 room_1 Calls_1 rest_1 Pre_1 Post := by
  intro l hfl _ _ p e ha hc hk s m args below hf hA hF happ hP
  obtain ⟨hcalls, hrest, hpre⟩ := hP
  obtain ⟨-, -, -, hnamed, -, -, -, hat⟩ := (Spec.applies_iff hf).mp happ
  obtain ⟨hg, hn⟩ := and_e (Cond.before_iff.mp (show (Jvm.Cond.and given_1 narrow_1).before args s = true from hpre))
  obtain ⟨hcnt, hg⟩ := and_e hg
  obtain ⟨ha0, hg⟩ := and_e hg
  obtain ⟨ha1, hg⟩ := and_e hg
  have ha2 := hg
  obtain ⟨w0, w1, w2, rfl⟩ : ∃ w0 w1 w2 : Value, args = #[w0, w1, w2] := by
    have hs : args.size = 3 := by simpa [Cond.value, given_1] using hcnt
    obtain ⟨L⟩ := args
    match L, hs with
    | [w0, w1, w2], _ => exact ⟨w0, w1, w2, rfl⟩
  have hw := fun d (hd : d ∈ tables_1) => atoms_spec (ws := Jvm.Cond.code x code maxLocals ret :: tables_1) hat d (List.mem_cons_of_mem _ hd)
  have hfit : Fit s := fun {y c} hc i hi => by
    obtain ⟨ha, rfl⟩ := Array.getElem?_eq_some_iff.mp hc
    have q := List.all_eq_true.mp ((Array.all_eq_true_iff_forall_mem.mp hF) _ (Array.getElem_mem ha)) i (List.mem_range.mpr hi)
    simpa [Array.getElem?_eq_getElem hi] using q
  obtain ⟨hsets, hown0⟩ := atoms_of _ (rest_1_c_eq ▸ (show rest_1_c.before _ s = true from hrest))
  have hr0 := Cond.before_iff.mp hown0
  obtain ⟨i0, ei0⟩ := is_v ha0
  obtain rfl : w0 = (.int i0) := Option.some.inj ei0
  obtain ⟨i1, ei1⟩ := is_v ha1
  obtain rfl : w1 = (.int i1) := Option.some.inj ei1
  obtain ⟨i2, ei2⟩ := is_v ha2
  obtain rfl : w2 = (.int i2) := Option.some.inj ei2
  have n3s := not_v (Cond.before_iff.mp (hsets _ (List.mem_of_getElem? (i := 2) rfl)))
  obtain ⟨G1, eG1⟩ := is_v (Cond.before_iff.mp (hsets _ (List.mem_of_getElem? (i := 1) rfl)))
  have S_CS : Sta s s.heap "java/lang/String" "COMPACT_STRINGS" "Z" (.int G1) := Sta.start eG1 (Or.inl (hsets _ (List.mem_of_getElem? (i := 0) rfl)))
  have P5 : ¬ (G1 = (0 : Int32)) := gotF (Cond.eq_ints eG1 (Term.int_eval (0))) n3s
  have hCH0 : CHv s own_ELs s.vm s.heap := CHv.start (own_EL hw) (fun q hq => hcalls.1 q hq) (hsets _ (List.mem_of_getElem? (i := 2) rfl)) (hw _ (List.mem_of_getElem? (i := 22) rfl)) (hw _ (List.mem_of_getElem? (i := 8) rfl))
  obtain ⟨fm, evf, rf⟩ := isR_v (Cond.before_iff.mp (hsets _ (List.mem_of_getElem? (i := 8) rfl)))
  have S_SI : Sta s s.heap "jdk/internal/util/Preconditions" "SIOOBE_FORMATTER" "Ljava/util/function/BiFunction;" fm := Sta.start evf (Or.inl (hsets _ (List.mem_of_getElem? (i := 7) rfl)))
  obtain ⟨n, o, h1, h2, h3, _, L, rfl, ⟨rfl, N⟩, hq⟩ := rm_law l s _ hw tables_1 i0 i1 i2 G1 fm s.heap s.heap.size (Nat.le_refl _) S_CS S_SI P5 rf p e ha hc hk s m _ below hf ((Spec.applies_iff_loose hf).mp happ).1 ⟨rfl, State.Warmed39.refl s, rfl, hCH0⟩ trivial
  refine ⟨n, _, h1, h2, h3, hpost _ _ _ _ _ _ ⟨Cond.after_iff.mpr rfl, Cond.after_iff.mpr (eq_i res_at (Term.int_eval (1)) rfl), trivial⟩ ⟨hq.1, hq.2.1, hq.2.2.1, (hq.2.2.2.sift fun y hy => Or.inr (N y hy)).mono (by decide) (by decide)⟩⟩
theorem main_1_1 : Claimed_1_1 := comes_1 fun _ _ _ _ _ _ h hF => ⟨h.1, hF⟩
theorem main_1_2 : Claimed_1_2 := comes_1 fun _ _ _ _ _ _ h hF => ⟨h.2.1, hF⟩
end Jvm.Pilot.@@N@@
namespace Jvm.Pilot.@@N@@
open Jvm Jvm.ClassFile Sem Op Lib Jvm.Free Jvm.Stand Jvm.Pilot.@@N@@.Jvm.D
/-! MADE BY PROGRAM (witnessworld.py) out of the Statement's table words and the real class files: 21 classes; the members and pool entries that the words name. The judged class is class 1, her method 1. -/
namespace start1
open Jvm.ClassFile
def u (s : String) : CpInfo := .utf8 (stringToUtf16 s)
/-- a pool by its gaps: so many unusable entries, then the entry; so many at the end -/
def gap : Nat → List CpInfo → List CpInfo
  | 0, r => r
  | n + 1, r => .unusable :: gap n r
def poolList (es : List (Nat × CpInfo)) (last : Nat) : List CpInfo := es.foldr (fun e r => gap e.1 (e.2 :: r)) (gap last [])
def pool (es : List (Nat × CpInfo)) (last : Nat) : Array CpInfo := ⟨poolList es last⟩
def fileOf (pool : Array CpInfo) (this : Nat) (attrs : Array Attribute := #[]) (ms : Array MethodInfo := #[]) (fl : Nat := 33) (sup : Nat := 0) (ifs : Array Nat := #[]) (fds : Array FieldInfo := #[]) : ClassFile where
  minorVersion := 0
  majorVersion := 65
  constantPool := pool
  accessFlags := fl
  thisClass := this
  superClass := sup
  interfaces := ifs
  fields := fds
  methods := ms
  attributes := attrs
def plain (name : String) (sup : Option ClassId) : Class where
  name := name
  kind := .ordinary
  loader := none
  accessFlags := 33
  super := sup
  interfaces := #[]
  cf := none
  fields := #[]
  methods := #[]
  instanceTypes := #[]
  staticTypes := #[]
  resolved := #[]
  callSites := []
  init := .initialized
  statics := none
  mirror := none

def pool0 : Array CpInfo := pool [(5, u "<init>"), (0, u "()V"), (1, .class_ 10), (1, u "java/lang/Object")] 113

def k0c0 : Code := { maxStack := 0, maxLocals := 1, code := object_method_1_code, exceptionTable := #[], attributes := #[] }
def k0m0 : Method := { name := "<init>", desc := "()V", sig := { parameters := [], returnType := none }, accessFlags := 1, code := some k0c0 }
/-- java/lang/Object -/
def k0 : Class := { plain "java/lang/Object" none with
  accessFlags := 33
  interfaces := #[]
  cf := some (fileOf pool0 8 #[] #[{ accessFlags := 1, nameIndex := 5, descriptorIndex := 6, attributes := #[] }] 33 0 #[] #[])
  fields := #[]
  methods := #[k0m0]
  instanceTypes := #[]
  staticTypes := #[]
  resolved := Array.replicate 124 none
  statics := none }

def pool1 : Array CpInfo := pool [(2, .class_ 4), (1, u "java/lang/Object"), (0, u "<init>"), (0, u "()V"), (0, .methodref 8 9), (0, .class_ 10), (0, .nameAndType 11 12), (0, u "com/example/fieldveil/fieldveil/WildcardMatchesSomeTextStartingWithPinLaw"), (0, u "draw"), (0, u "(I)C"), (0, .methodref 8 14), (0, .nameAndType 15 16), (0, u "mk"), (0, u "(ICCC)Ljava/lang/String;"), (0, .class_ 18), (0, u "com/example/fieldveil/fieldveil/Wildcard"), (0, .methodref 17 20), (0, .nameAndType 5 21), (0, u "(Ljava/lang/String;)V"), (0, .methodref 17 23), (0, .nameAndType 24 25), (0, u "matchesSomeTextStartingWith"), (0, u "(Ljava/lang/CharSequence;)Z"), (0, .methodref 27 28), (0, .class_ 29), (0, .nameAndType 30 31), (0, u "java/lang/Math"), (0, u "min"), (0, u "(II)I"), (0, .class_ 33), (0, u "java/lang/String"), (0, .methodref 32 35), (0, .nameAndType 5 36), (0, u "([C)V"), (2, u "law"), (0, u "(III)Z")] 3

def k1m0 : Method := { name := "<init>", desc := "()V", sig := { parameters := [], returnType := none }, accessFlags := 1, code := none }
def k1c1 : Code := { maxStack := 4, maxLocals := 18, code := code, exceptionTable := #[], attributes := #[] }
def k1m1 : Method := { name := "law", desc := "(III)Z", sig := { parameters := [.int, .int, .int], returnType := some .boolean }, accessFlags := 9, code := some k1c1 }
def k1c2 : Code := { maxStack := 2, maxLocals := 3, code := method_3_code, exceptionTable := #[], attributes := #[] }
def k1m2 : Method := { name := "draw", desc := "(I)C", sig := { parameters := [.int], returnType := some .char }, accessFlags := 10, code := some k1c2 }
def k1c3 : Code := { maxStack := 6, maxLocals := 4, code := method_4_code, exceptionTable := #[], attributes := #[] }
def k1m3 : Method := { name := "mk", desc := "(ICCC)Ljava/lang/String;", sig := { parameters := [.int, .char, .char, .char], returnType := some (.object "java/lang/String") }, accessFlags := 10, code := some k1c3 }
/-- com/example/fieldveil/fieldveil/WildcardMatchesSomeTextStartingWithPinLaw -/
def k1 : Class := { plain "com/example/fieldveil/fieldveil/WildcardMatchesSomeTextStartingWithPinLaw" (some 0) with
  accessFlags := 49
  interfaces := #[]
  cf := some (fileOf pool1 8 #[] #[{ accessFlags := 1, nameIndex := 5, descriptorIndex := 6, attributes := #[] }, { accessFlags := 9, nameIndex := 39, descriptorIndex := 40, attributes := #[] }, { accessFlags := 10, nameIndex := 11, descriptorIndex := 12, attributes := #[] }, { accessFlags := 10, nameIndex := 15, descriptorIndex := 16, attributes := #[] }] 49 2 #[] #[])
  fields := #[]
  methods := #[k1m0, k1m1, k1m2, k1m3]
  instanceTypes := #[]
  staticTypes := #[]
  resolved := Array.replicate 44 none
  statics := none }

def pool2 : Array CpInfo := pool [(1, .class_ 2), (0, u "java/io/Serializable"), (0, .class_ 4), (0, u "java/lang/Object")] 2

/-- java/io/Serializable -/
def k2 : Class := { plain "java/io/Serializable" (some 0) with
  accessFlags := 1537
  interfaces := #[]
  cf := some (fileOf pool2 1 #[] #[] 1537 3 #[] #[])
  fields := #[]
  methods := #[]
  instanceTypes := #[]
  staticTypes := #[]
  resolved := Array.replicate 7 none
  statics := none }

def pool3 : Array CpInfo := pool [(1, .class_ 2), (0, u "java/lang/Comparable"), (0, .class_ 4), (0, u "java/lang/Object")] 7

/-- java/lang/Comparable -/
def k3 : Class := { plain "java/lang/Comparable" (some 0) with
  accessFlags := 1537
  interfaces := #[]
  cf := some (fileOf pool3 1 #[] #[] 1537 3 #[] #[])
  fields := #[]
  methods := #[]
  instanceTypes := #[]
  staticTypes := #[]
  resolved := Array.replicate 12 none
  statics := none }

def pool4 : Array CpInfo := pool [(2, .class_ 4), (1, u "java/lang/CharSequence"), (0, u "length"), (0, u "()I"), (38, u "charAt"), (0, u "(I)C"), (0, .class_ 48), (0, u "java/lang/CharSequence$1CodePointIterator"), (10, .class_ 60), (0, u "java/lang/CharSequence$1CharIterator"), (5, .class_ 67), (0, u "java/lang/Object")] 63

def k4m0 : Method := { name := "length", desc := "()I", sig := { parameters := [], returnType := some .int }, accessFlags := 1025, code := none }
def k4m1 : Method := { name := "charAt", desc := "(I)C", sig := { parameters := [.int], returnType := some .char }, accessFlags := 1025, code := none }
/-- java/lang/CharSequence -/
def k4 : Class := { plain "java/lang/CharSequence" (some 0) with
  accessFlags := 1537
  interfaces := #[]
  cf := some (fileOf pool4 2 #[.nestMembers #[47, 59]] #[{ accessFlags := 1025, nameIndex := 5, descriptorIndex := 6, attributes := #[] }, { accessFlags := 1025, nameIndex := 45, descriptorIndex := 46, attributes := #[] }] 1537 66 #[] #[])
  fields := #[]
  methods := #[k4m0, k4m1]
  instanceTypes := #[]
  staticTypes := #[]
  resolved := Array.replicate 131 none
  statics := none }

def pool5 : Array CpInfo := pool [(1, .class_ 2), (0, u "java/lang/constant/Constable"), (0, .class_ 4), (0, u "java/lang/Object")] 6

/-- java/lang/constant/Constable -/
def k5 : Class := { plain "java/lang/constant/Constable" (some 0) with
  accessFlags := 1537
  interfaces := #[]
  cf := some (fileOf pool5 1 #[] #[] 1537 3 #[] #[])
  fields := #[]
  methods := #[]
  instanceTypes := #[]
  staticTypes := #[]
  resolved := Array.replicate 11 none
  statics := none }

def pool6 : Array CpInfo := pool [(1, .class_ 2), (0, u "java/lang/constant/ConstantDesc"), (0, .class_ 4), (0, u "java/lang/Object")] 32

/-- java/lang/constant/ConstantDesc -/
def k6 : Class := { plain "java/lang/constant/ConstantDesc" (some 0) with
  accessFlags := 1537
  interfaces := #[]
  cf := some (fileOf pool6 1 #[] #[] 1537 3 #[] #[])
  fields := #[]
  methods := #[]
  instanceTypes := #[]
  staticTypes := #[]
  resolved := Array.replicate 37 none
  statics := none }

def pool7 : Array CpInfo := pool [(1, .methodref 2 3), (0, .class_ 4), (0, .nameAndType 5 6), (0, u "java/lang/Object"), (0, u "<init>"), (0, u "()V"), (0, .string 8), (0, u ""), (0, .fieldref 10 11), (0, .class_ 12), (0, .nameAndType 13 14), (0, u "java/lang/String"), (0, u "value"), (0, u "[B"), (0, .fieldref 10 16), (0, .nameAndType 17 18), (0, u "coder"), (0, u "B"), (2, u "hash"), (0, u "I"), (2, u "hashIsZero"), (0, u "Z"), (0, .methodref 10 28), (0, .nameAndType 5 29), (0, u "([CIILjava/lang/Void;)V"), (8, .fieldref 10 39), (0, .nameAndType 40 26), (0, u "COMPACT_STRINGS"), (1, .class_ 44), (1, u "java/lang/StringUTF16"), (0, u "compress"), (1, .methodref 42 48), (0, .nameAndType 49 50), (0, u "coderFromArrayLen"), (0, u "([BI)B"), (56, .class_ 109), (1, u "java/lang/StringLatin1"), (32, u "()Z"), (34, .methodref 42 178), (0, .nameAndType 45 179), (0, u "([CII)[B"), (154, u "()I"), (0, .methodref 10 336), (0, .nameAndType 17 337), (0, u "()B"), (25, u "([BI)C"), (27, u "(II)V"), (35, u "(I)C"), (64, .methodref 10 493), (0, .nameAndType 494 142), (0, u "isLatin1"), (0, .methodref 107 496), (0, .nameAndType 497 363), (0, u "charAt"), (3, u "checkIndex"), (3, .methodref 10 506), (0, .nameAndType 507 334), (0, u "length"), (67, .class_ 576), (0, u "java/lang/CharSequence"), (22, u "CASE_INSENSITIVE_ORDER"), (0, u "Ljava/util/Comparator;"), (32, .methodref 10 634), (0, .nameAndType 635 636), (0, u "indexOf"), (0, u "(II)I"), (0, .methodref 107 638), (0, .nameAndType 635 639), (0, u "([BIII)I"), (125, u "(I)I"), (244, u "([C)V"), (42, .fieldref 1054 1055), (0, .class_ 1056), (0, .nameAndType 1057 1058), (0, u "jdk/internal/util/Preconditions"), (0, u "SIOOBE_FORMATTER"), (0, u "Ljava/util/function/BiFunction;"), (0, .methodref 1054 1060), (0, .nameAndType 501 1061), (0, u "(IILjava/util/function/BiFunction;)I"), (39, u "serialPersistentFields"), (0, u "[Ljava/io/ObjectStreamField;"), (0, .class_ 1104), (0, u "java/lang/String$CaseInsensitiveComparator"), (1, .class_ 1107), (0, u "java/io/Serializable"), (0, .class_ 1109), (0, u "java/lang/Comparable"), (0, .class_ 1111), (0, u "java/lang/constant/Constable"), (0, .class_ 1113), (0, u "java/lang/constant/ConstantDesc"), (2, u "serialVersionUID"), (0, u "J"), (3, u "REPL"), (0, u "C"), (2, u "LATIN1"), (1, u "UTF16")] 323

def k7m0 : Method := { name := "<init>", desc := "()V", sig := { parameters := [], returnType := none }, accessFlags := 1, code := none }
def k7c1 : Code := { maxStack := 5, maxLocals := 2, code := jdk_42_method_3_code, exceptionTable := #[], attributes := #[] }
def k7m1 : Method := { name := "<init>", desc := "([C)V", sig := { parameters := [(.array .char)], returnType := none }, accessFlags := 1, code := some k7c1 }
def k7c2 : Code := { maxStack := 2, maxLocals := 1, code := jdk_42_method_54_code, exceptionTable := #[], attributes := #[] }
def k7m2 : Method := { name := "length", desc := "()I", sig := { parameters := [], returnType := some .int }, accessFlags := 1, code := some k7c2 }
def k7c3 : Code := { maxStack := 2, maxLocals := 2, code := jdk_42_method_56_code, exceptionTable := #[], attributes := #[] }
def k7m3 : Method := { name := "charAt", desc := "(I)C", sig := { parameters := [.int], returnType := some .char }, accessFlags := 1, code := some k7c3 }
def k7c4 : Code := { maxStack := 3, maxLocals := 2, code := jdk_42_method_79_code, exceptionTable := #[], attributes := #[] }
def k7m4 : Method := { name := "indexOf", desc := "(I)I", sig := { parameters := [.int], returnType := some .int }, accessFlags := 1, code := some k7c4 }
def k7c5 : Code := { maxStack := 4, maxLocals := 3, code := jdk_42_method_80_code, exceptionTable := #[], attributes := #[] }
def k7m5 : Method := { name := "indexOf", desc := "(II)I", sig := { parameters := [.int, .int], returnType := some .int }, accessFlags := 1, code := some k7c5 }
def k7c6 : Code := { maxStack := 4, maxLocals := 6, code := jdk_42_method_149_code, exceptionTable := #[], attributes := #[] }
def k7m6 : Method := { name := "<init>", desc := "([CIILjava/lang/Void;)V", sig := { parameters := [(.array .char), .int, .int, (.object "java/lang/Void")], returnType := none }, accessFlags := 2, code := some k7c6 }
def k7c7 : Code := { maxStack := 1, maxLocals := 1, code := jdk_42_method_152_code, exceptionTable := #[], attributes := #[] }
def k7m7 : Method := { name := "coder", desc := "()B", sig := { parameters := [], returnType := some .byte }, accessFlags := 0, code := some k7c7 }
def k7c8 : Code := { maxStack := 1, maxLocals := 1, code := jdk_42_method_154_code, exceptionTable := #[], attributes := #[] }
def k7m8 : Method := { name := "isLatin1", desc := "()Z", sig := { parameters := [], returnType := some .boolean }, accessFlags := 0, code := some k7c8 }
def k7c9 : Code := { maxStack := 3, maxLocals := 2, code := jdk_42_method_155_code, exceptionTable := #[], attributes := #[] }
def k7m9 : Method := { name := "checkIndex", desc := "(II)V", sig := { parameters := [.int, .int], returnType := none }, accessFlags := 8, code := some k7c9 }
/-- java/lang/String -/
def k7 : Class := { plain "java/lang/String" (some 0) with
  accessFlags := 49
  interfaces := #[2, 3, 4, 5, 6]
  cf := some (fileOf pool7 10 #[.nestMembers #[1103]] #[{ accessFlags := 1, nameIndex := 5, descriptorIndex := 6, attributes := #[] }, { accessFlags := 1, nameIndex := 5, descriptorIndex := 1010, attributes := #[] }, { accessFlags := 1, nameIndex := 507, descriptorIndex := 334, attributes := #[] }, { accessFlags := 1, nameIndex := 497, descriptorIndex := 427, attributes := #[] }, { accessFlags := 1, nameIndex := 635, descriptorIndex := 765, attributes := #[] }, { accessFlags := 1, nameIndex := 635, descriptorIndex := 636, attributes := #[] }, { accessFlags := 2, nameIndex := 5, descriptorIndex := 29, attributes := #[] }, { accessFlags := 0, nameIndex := 17, descriptorIndex := 337, attributes := #[] }, { accessFlags := 0, nameIndex := 494, descriptorIndex := 142, attributes := #[] }, { accessFlags := 8, nameIndex := 501, descriptorIndex := 391, attributes := #[] }] 49 2 #[1106, 1108, 575, 1110, 1112] #[{ accessFlags := 18, nameIndex := 13, descriptorIndex := 14, attributes := #[] }, { accessFlags := 18, nameIndex := 17, descriptorIndex := 18, attributes := #[] }, { accessFlags := 2, nameIndex := 21, descriptorIndex := 22, attributes := #[] }, { accessFlags := 2, nameIndex := 25, descriptorIndex := 26, attributes := #[] }, { accessFlags := 26, nameIndex := 1116, descriptorIndex := 1117, attributes := #[] }, { accessFlags := 24, nameIndex := 40, descriptorIndex := 26, attributes := #[] }, { accessFlags := 26, nameIndex := 1101, descriptorIndex := 1102, attributes := #[] }, { accessFlags := 26, nameIndex := 1121, descriptorIndex := 1122, attributes := #[] }, { accessFlags := 25, nameIndex := 599, descriptorIndex := 600, attributes := #[] }, { accessFlags := 24, nameIndex := 1125, descriptorIndex := 18, attributes := #[] }, { accessFlags := 24, nameIndex := 1127, descriptorIndex := 18, attributes := #[] }])
  fields := #[{ name := "value", type := (.array .byte), accessFlags := 18, slot := 0, constantValue := 0 }, { name := "coder", type := .byte, accessFlags := 18, slot := 1, constantValue := 0 }, { name := "hash", type := .int, accessFlags := 2, slot := 2, constantValue := 0 }, { name := "hashIsZero", type := .boolean, accessFlags := 2, slot := 3, constantValue := 0 }, { name := "serialVersionUID", type := .long, accessFlags := 26, slot := 0, constantValue := 0 }, { name := "COMPACT_STRINGS", type := .boolean, accessFlags := 24, slot := 1, constantValue := 0 }, { name := "serialPersistentFields", type := (.array (.object "java/io/ObjectStreamField")), accessFlags := 26, slot := 2, constantValue := 0 }, { name := "REPL", type := .char, accessFlags := 26, slot := 3, constantValue := 0 }, { name := "CASE_INSENSITIVE_ORDER", type := (.object "java/util/Comparator"), accessFlags := 25, slot := 4, constantValue := 0 }, { name := "LATIN1", type := .byte, accessFlags := 24, slot := 5, constantValue := 0 }, { name := "UTF16", type := .byte, accessFlags := 24, slot := 6, constantValue := 0 }]
  methods := #[k7m0, k7m1, k7m2, k7m3, k7m4, k7m5, k7m6, k7m7, k7m8, k7m9]
  instanceTypes := #[(.array .byte), .byte, .int, .boolean]
  staticTypes := #[.long, .boolean, (.array (.object "java/io/ObjectStreamField")), .char, (.object "java/util/Comparator"), .byte, .byte]
  resolved := Array.replicate 1451 none
  statics := some 0 }

def pool8 : Array CpInfo := pool [(1, .methodref 2 3), (0, .class_ 4), (0, .nameAndType 5 6), (0, u "com/example/fieldveil/fieldveil/Wildcard"), (0, u "<init>"), (0, u "(Ljava/lang/String;Z)V"), (0, .methodref 8 9), (0, .class_ 10), (0, .nameAndType 5 11), (0, u "java/lang/Object"), (0, u "()V"), (0, .fieldref 2 13), (0, .nameAndType 14 15), (0, u "pattern"), (0, u "Ljava/lang/String;"), (0, .fieldref 2 17), (0, .nameAndType 18 19), (0, u "anyOne"), (0, u "Z"), (0, .methodref 21 22), (0, .class_ 23), (0, .nameAndType 24 25), (0, u "java/lang/String"), (0, u "indexOf"), (0, u "(I)I"), (0, .fieldref 2 27), (0, .nameAndType 28 19), (0, u "literal"), (3, u "(Ljava/lang/CharSequence;)Z"), (3, .interfaceMethodref 37 38), (0, .class_ 39), (0, .nameAndType 40 41), (0, u "java/lang/CharSequence"), (0, u "length"), (0, u "()I"), (0, .methodref 21 38), (0, .methodref 21 44), (0, .nameAndType 45 46), (0, u "charAt"), (0, u "(I)C"), (9, .interfaceMethodref 37 44), (0, u "ANY"), (0, u "C"), (2, u "ONE"), (1, u "(Ljava/lang/String;)V"), (6, u "matchesSomeTextStartingWith")] 4

def k8c0 : Code := { maxStack := 3, maxLocals := 2, code := prog_10_method_1_code, exceptionTable := #[], attributes := #[] }
def k8m0 : Method := { name := "<init>", desc := "(Ljava/lang/String;)V", sig := { parameters := [(.object "java/lang/String")], returnType := none }, accessFlags := 0, code := some k8c0 }
def k8c1 : Code := { maxStack := 3, maxLocals := 3, code := prog_10_method_2_code, exceptionTable := #[], attributes := #[] }
def k8m1 : Method := { name := "<init>", desc := "(Ljava/lang/String;Z)V", sig := { parameters := [(.object "java/lang/String"), .boolean], returnType := none }, accessFlags := 2, code := some k8c1 }
def k8c2 : Code := { maxStack := 3, maxLocals := 4, code := prog_10_method_6_code, exceptionTable := #[], attributes := #[] }
def k8m2 : Method := { name := "matchesSomeTextStartingWith", desc := "(Ljava/lang/CharSequence;)Z", sig := { parameters := [(.object "java/lang/CharSequence")], returnType := some .boolean }, accessFlags := 0, code := some k8c2 }
/-- com/example/fieldveil/fieldveil/Wildcard -/
def k8 : Class := { plain "com/example/fieldveil/fieldveil/Wildcard" (some 0) with
  accessFlags := 48
  interfaces := #[]
  cf := some (fileOf pool8 2 #[] #[{ accessFlags := 0, nameIndex := 5, descriptorIndex := 63, attributes := #[] }, { accessFlags := 2, nameIndex := 5, descriptorIndex := 6, attributes := #[] }, { accessFlags := 0, nameIndex := 70, descriptorIndex := 32, attributes := #[] }] 48 8 #[] #[{ accessFlags := 26, nameIndex := 57, descriptorIndex := 58, attributes := #[] }, { accessFlags := 26, nameIndex := 61, descriptorIndex := 58, attributes := #[] }, { accessFlags := 18, nameIndex := 14, descriptorIndex := 15, attributes := #[] }, { accessFlags := 18, nameIndex := 18, descriptorIndex := 19, attributes := #[] }, { accessFlags := 18, nameIndex := 28, descriptorIndex := 19, attributes := #[] }])
  fields := #[{ name := "ANY", type := .char, accessFlags := 26, slot := 0, constantValue := 0 }, { name := "ONE", type := .char, accessFlags := 26, slot := 1, constantValue := 0 }, { name := "pattern", type := (.object "java/lang/String"), accessFlags := 18, slot := 0, constantValue := 0 }, { name := "anyOne", type := .boolean, accessFlags := 18, slot := 1, constantValue := 0 }, { name := "literal", type := .boolean, accessFlags := 18, slot := 2, constantValue := 0 }]
  methods := #[k8m0, k8m1, k8m2]
  instanceTypes := #[(.object "java/lang/String"), .boolean, .boolean]
  staticTypes := #[.char, .char]
  resolved := Array.replicate 75 none
  statics := none }

def pool9 : Array CpInfo := pool [(1, .class_ 2), (0, u "java/lang/String"), (1, .class_ 6), (1, u "java/lang/Object"), (0, u "<init>"), (0, u "()V"), (0, .methodref 1 10), (0, .nameAndType 11 12), (0, u "checkIndex"), (0, u "(II)V"), (1, .class_ 16), (1, u "java/lang/StringLatin1"), (21, .methodref 39 40), (0, .class_ 41), (0, .nameAndType 42 43), (0, u "java/lang/Math"), (0, u "min"), (0, u "(II)I"), (9, u "([BI)C"), (34, .methodref 14 89), (0, .nameAndType 90 91), (0, u "canEncode"), (0, u "(I)Z"), (0, .methodref 39 93), (0, .nameAndType 94 43), (0, u "max"), (0, .methodref 14 96), (0, .nameAndType 97 98), (0, u "indexOfChar"), (0, u "([BIII)I"), (2, u "indexOf"), (19, u "$assertionsDisabled"), (0, u "Z"), (98, .class_ 223), (1, u "java/lang/StringLatin1$LinesSpliterator"), (28, u "charAt"), (137, .class_ 391), (0, u "java/lang/StringLatin1$CharsSpliterator")] 3

def k9m0 : Method := { name := "<init>", desc := "()V", sig := { parameters := [], returnType := none }, accessFlags := 0, code := none }
def k9c1 : Code := { maxStack := 2, maxLocals := 2, code := jdk_43_method_2_code, exceptionTable := #[], attributes := #[] }
def k9m1 : Method := { name := "charAt", desc := "([BI)C", sig := { parameters := [(.array .byte), .int], returnType := some .char }, accessFlags := 9, code := some k9c1 }
def k9c2 : Code := { maxStack := 2, maxLocals := 1, code := jdk_43_method_4_code, exceptionTable := #[], attributes := #[] }
def k9m2 : Method := { name := "canEncode", desc := "(I)Z", sig := { parameters := [.int], returnType := some .boolean }, accessFlags := 9, code := some k9c2 }
def k9c3 : Code := { maxStack := 4, maxLocals := 4, code := jdk_43_method_22_code, exceptionTable := #[], attributes := #[] }
def k9m3 : Method := { name := "indexOf", desc := "([BIII)I", sig := { parameters := [(.array .byte), .int, .int, .int], returnType := some .int }, accessFlags := 9, code := some k9c3 }
def k9c4 : Code := { maxStack := 2, maxLocals := 6, code := jdk_43_method_23_code, exceptionTable := #[], attributes := #[] }
def k9m4 : Method := { name := "indexOfChar", desc := "([BIII)I", sig := { parameters := [(.array .byte), .int, .int, .int], returnType := some .int }, accessFlags := 10, code := some k9c4 }
/-- java/lang/StringLatin1 -/
def k9 : Class := { plain "java/lang/StringLatin1" (some 0) with
  accessFlags := 48
  interfaces := #[]
  cf := some (fileOf pool9 14 #[.nestMembers #[390, 221]] #[{ accessFlags := 0, nameIndex := 7, descriptorIndex := 8, attributes := #[] }, { accessFlags := 9, nameIndex := 252, descriptorIndex := 53, attributes := #[] }, { accessFlags := 9, nameIndex := 90, descriptorIndex := 91, attributes := #[] }, { accessFlags := 9, nameIndex := 101, descriptorIndex := 98, attributes := #[] }, { accessFlags := 10, nameIndex := 97, descriptorIndex := 98, attributes := #[] }] 48 4 #[] #[{ accessFlags := 4120, nameIndex := 121, descriptorIndex := 122, attributes := #[] }])
  fields := #[{ name := "$assertionsDisabled", type := .boolean, accessFlags := 4120, slot := 0, constantValue := 0 }]
  methods := #[k9m0, k9m1, k9m2, k9m3, k9m4]
  instanceTypes := #[]
  staticTypes := #[.boolean]
  resolved := Array.replicate 395 none
  statics := none }

def pool10 : Array CpInfo := pool [(1, .class_ 2), (0, u "java/lang/Math"), (1, .class_ 6), (1, u "java/lang/Object"), (0, u "<init>"), (0, u "()V"), (89, .class_ 100), (1, u "java/lang/Math$RandomNumberGeneratorHolder"), (71, u "negativeZeroFloatBits"), (0, u "J"), (2, u "negativeZeroDoubleBits"), (21, u "max"), (2, u "min"), (43, u "$assertionsDisabled"), (0, u "Z"), (88, u "(II)I"), (2, u "twoToTheDoubleScaleDown"), (0, u "D"), (4, u "twoToTheDoubleScaleUp"), (9, u "E"), (3, u "PI"), (2, u "TAU"), (2, u "DEGREES_TO_RADIANS"), (0, u "RADIANS_TO_DEGREES")] 94

def k10m0 : Method := { name := "<init>", desc := "()V", sig := { parameters := [], returnType := none }, accessFlags := 2, code := none }
def k10c1 : Code := { maxStack := 2, maxLocals := 2, code := jdk_29_method_65_code, exceptionTable := #[], attributes := #[] }
def k10m1 : Method := { name := "max", desc := "(II)I", sig := { parameters := [.int, .int], returnType := some .int }, accessFlags := 9, code := some k10c1 }
def k10c2 : Code := { maxStack := 2, maxLocals := 2, code := jdk_29_method_69_code, exceptionTable := #[], attributes := #[] }
def k10m2 : Method := { name := "min", desc := "(II)I", sig := { parameters := [.int, .int], returnType := some .int }, accessFlags := 9, code := some k10c2 }
/-- java/lang/Math -/
def k10 : Class := { plain "java/lang/Math" (some 0) with
  accessFlags := 49
  interfaces := #[]
  cf := some (fileOf pool10 1 #[.nestMembers #[98]] #[{ accessFlags := 2, nameIndex := 7, descriptorIndex := 8, attributes := #[] }, { accessFlags := 9, nameIndex := 198, descriptorIndex := 335, attributes := #[] }, { accessFlags := 9, nameIndex := 201, descriptorIndex := 335, attributes := #[] }] 49 4 #[] #[{ accessFlags := 25, nameIndex := 354, descriptorIndex := 339, attributes := #[] }, { accessFlags := 25, nameIndex := 358, descriptorIndex := 339, attributes := #[] }, { accessFlags := 25, nameIndex := 361, descriptorIndex := 339, attributes := #[] }, { accessFlags := 26, nameIndex := 364, descriptorIndex := 339, attributes := #[] }, { accessFlags := 26, nameIndex := 365, descriptorIndex := 339, attributes := #[] }, { accessFlags := 26, nameIndex := 172, descriptorIndex := 173, attributes := #[] }, { accessFlags := 26, nameIndex := 176, descriptorIndex := 173, attributes := #[] }, { accessFlags := 8, nameIndex := 344, descriptorIndex := 339, attributes := #[] }, { accessFlags := 8, nameIndex := 338, descriptorIndex := 339, attributes := #[] }, { accessFlags := 4120, nameIndex := 245, descriptorIndex := 246, attributes := #[] }])
  fields := #[{ name := "E", type := .double, accessFlags := 25, slot := 0, constantValue := 0 }, { name := "PI", type := .double, accessFlags := 25, slot := 1, constantValue := 0 }, { name := "TAU", type := .double, accessFlags := 25, slot := 2, constantValue := 0 }, { name := "DEGREES_TO_RADIANS", type := .double, accessFlags := 26, slot := 3, constantValue := 0 }, { name := "RADIANS_TO_DEGREES", type := .double, accessFlags := 26, slot := 4, constantValue := 0 }, { name := "negativeZeroFloatBits", type := .long, accessFlags := 26, slot := 5, constantValue := 0 }, { name := "negativeZeroDoubleBits", type := .long, accessFlags := 26, slot := 6, constantValue := 0 }, { name := "twoToTheDoubleScaleUp", type := .double, accessFlags := 8, slot := 7, constantValue := 0 }, { name := "twoToTheDoubleScaleDown", type := .double, accessFlags := 8, slot := 8, constantValue := 0 }, { name := "$assertionsDisabled", type := .boolean, accessFlags := 4120, slot := 9, constantValue := 0 }]
  methods := #[k10m0, k10m1, k10m2]
  instanceTypes := #[]
  staticTypes := #[.double, .double, .double, .double, .double, .long, .long, .double, .double, .boolean]
  resolved := Array.replicate 460 none
  statics := none }

def pool11 : Array CpInfo := pool [(6, .class_ 8), (1, u "java/lang/Object"), (0, u "<init>"), (0, u "()V"), (1, .class_ 14), (1, u "java/lang/StringUTF16"), (31, u "$assertionsDisabled"), (0, u "Z"), (13, u "HI_BYTE_SHIFT"), (0, u "I"), (2, u "LO_BYTE_SHIFT"), (49, .methodref 12 116), (0, .nameAndType 117 118), (0, u "compress"), (0, u "([CI[BII)I"), (3, u "([CII)[B"), (138, u "coderFromArrayLen"), (0, u "([BI)B"), (106, .class_ 371), (1, u "java/lang/StringUTF16$LinesSpliterator"), (58, u "MAX_LENGTH"), (196, .class_ 628), (0, u "java/lang/StringUTF16$CodePointsSpliterator"), (0, .class_ 630), (0, u "java/lang/StringUTF16$CharsSpliterator")] 4

def k11m0 : Method := { name := "<init>", desc := "()V", sig := { parameters := [], returnType := none }, accessFlags := 0, code := none }
def k11c1 : Code := { maxStack := 2, maxLocals := 2, code := jdk_52_method_15_code, exceptionTable := #[], attributes := #[] }
def k11m1 : Method := { name := "coderFromArrayLen", desc := "([BI)B", sig := { parameters := [(.array .byte), .int], returnType := some .byte }, accessFlags := 8, code := some k11c1 }
def k11c2 : Code := { maxStack := 5, maxLocals := 6, code := jdk_52_method_16_code, exceptionTable := #[], attributes := #[] }
def k11m2 : Method := { name := "compress", desc := "([CII)[B", sig := { parameters := [(.array .char), .int, .int], returnType := some (.array .byte) }, accessFlags := 9, code := some k11c2 }
def k11c3 : Code := { maxStack := 3, maxLocals := 7, code := jdk_52_method_21_code, exceptionTable := #[], attributes := #[] }
def k11m3 : Method := { name := "compress", desc := "([CI[BII)I", sig := { parameters := [(.array .char), .int, (.array .byte), .int, .int], returnType := some .int }, accessFlags := 9, code := some k11c3 }
/-- java/lang/StringUTF16 -/
def k11 : Class := { plain "java/lang/StringUTF16" (some 0) with
  accessFlags := 48
  interfaces := #[]
  cf := some (fileOf pool11 12 #[.nestMembers #[627, 629, 369]] #[{ accessFlags := 0, nameIndex := 9, descriptorIndex := 10, attributes := #[] }, { accessFlags := 8, nameIndex := 261, descriptorIndex := 262, attributes := #[] }, { accessFlags := 9, nameIndex := 117, descriptorIndex := 122, attributes := #[] }, { accessFlags := 9, nameIndex := 117, descriptorIndex := 118, attributes := #[] }] 48 6 #[] #[{ accessFlags := 26, nameIndex := 61, descriptorIndex := 62, attributes := #[] }, { accessFlags := 26, nameIndex := 65, descriptorIndex := 62, attributes := #[] }, { accessFlags := 24, nameIndex := 430, descriptorIndex := 62, attributes := #[] }, { accessFlags := 4120, nameIndex := 46, descriptorIndex := 47, attributes := #[] }])
  fields := #[{ name := "HI_BYTE_SHIFT", type := .int, accessFlags := 26, slot := 0, constantValue := 0 }, { name := "LO_BYTE_SHIFT", type := .int, accessFlags := 26, slot := 1, constantValue := 0 }, { name := "MAX_LENGTH", type := .int, accessFlags := 24, slot := 2, constantValue := 0 }, { name := "$assertionsDisabled", type := .boolean, accessFlags := 4120, slot := 3, constantValue := 0 }]
  methods := #[k11m0, k11m1, k11m2, k11m3]
  instanceTypes := #[]
  staticTypes := #[.int, .int, .int, .boolean]
  resolved := Array.replicate 635 none
  statics := none }

def pool12 : Array CpInfo := pool [(2, .class_ 4), (1, u "java/lang/Object"), (0, u "<init>"), (0, u "()V"), (17, .class_ 26), (1, u "jdk/internal/util/Preconditions"), (6, u "checkIndex"), (21, .class_ 56), (0, u "jdk/internal/util/Preconditions$4"), (57, .class_ 115), (0, u "jdk/internal/util/Preconditions$1"), (7, u "SIOOBE_FORMATTER"), (0, u "Ljava/util/function/BiFunction;"), (0, .class_ 126), (0, u "jdk/internal/util/Preconditions$2"), (3, u "AIOOBE_FORMATTER"), (0, .class_ 132), (0, u "jdk/internal/util/Preconditions$3"), (3, u "IOOBE_FORMATTER"), (41, u "(IILjava/util/function/BiFunction;)I")] 15

def k12m0 : Method := { name := "<init>", desc := "()V", sig := { parameters := [], returnType := none }, accessFlags := 1, code := none }
def k12c1 : Code := { maxStack := 3, maxLocals := 3, code := jdk_41_method_11_code, exceptionTable := #[], attributes := #[] }
def k12m1 : Method := { name := "checkIndex", desc := "(IILjava/util/function/BiFunction;)I", sig := { parameters := [.int, .int, (.object "java/util/function/BiFunction")], returnType := some .int }, accessFlags := 9, code := some k12c1 }
/-- jdk/internal/util/Preconditions -/
def k12 : Class := { plain "jdk/internal/util/Preconditions" (some 0) with
  accessFlags := 33
  interfaces := #[]
  cf := some (fileOf pool12 24 #[.nestMembers #[55, 131, 125, 114]] #[{ accessFlags := 1, nameIndex := 5, descriptorIndex := 6, attributes := #[] }, { accessFlags := 9, nameIndex := 33, descriptorIndex := 178, attributes := #[] }] 33 2 #[] #[{ accessFlags := 25, nameIndex := 123, descriptorIndex := 124, attributes := #[] }, { accessFlags := 25, nameIndex := 130, descriptorIndex := 124, attributes := #[] }, { accessFlags := 25, nameIndex := 136, descriptorIndex := 124, attributes := #[] }])
  fields := #[{ name := "SIOOBE_FORMATTER", type := (.object "java/util/function/BiFunction"), accessFlags := 25, slot := 0, constantValue := 0 }, { name := "AIOOBE_FORMATTER", type := (.object "java/util/function/BiFunction"), accessFlags := 25, slot := 1, constantValue := 0 }, { name := "IOOBE_FORMATTER", type := (.object "java/util/function/BiFunction"), accessFlags := 25, slot := 2, constantValue := 0 }]
  methods := #[k12m0, k12m1]
  instanceTypes := #[]
  staticTypes := #[(.object "java/util/function/BiFunction"), (.object "java/util/function/BiFunction"), (.object "java/util/function/BiFunction")]
  resolved := Array.replicate 194 none
  statics := some 1 }

def pool13 : Array CpInfo := pool [(9, u "<init>"), (6, .class_ 18), (1, u "java/lang/Object"), (0, u "()V"), (1, .class_ 23), (1, u "jdk/internal/util/ArraysSupport"), (0, u "LOG2_ARRAY_LONG_INDEX_SCALE"), (0, u "I"), (2, u "U"), (0, u "Ljdk/internal/misc/Unsafe;"), (8, u "BIG_ENDIAN"), (0, u "Z"), (8, u "LOG2_BYTE_BIT_SIZE"), (4, u "LOG2_ARRAY_INT_INDEX_SCALE"), (54, u "JLA"), (0, u "Ljdk/internal/access/JavaLangAccess;"), (11, u "LOG2_ARRAY_BOOLEAN_INDEX_SCALE"), (9, u "LOG2_ARRAY_BYTE_INDEX_SCALE"), (5, u "LOG2_ARRAY_CHAR_INDEX_SCALE"), (5, u "LOG2_ARRAY_SHORT_INDEX_SCALE"), (18, u "LOG2_ARRAY_FLOAT_INDEX_SCALE"), (24, u "LOG2_ARRAY_DOUBLE_INDEX_SCALE"), (89, u "T_BOOLEAN"), (2, u "T_CHAR"), (1, u "T_FLOAT"), (1, u "T_DOUBLE"), (1, u "T_BYTE"), (1, u "T_SHORT"), (1, u "T_INT"), (1, u "T_LONG"), (1, u "SOFT_MAX_ARRAY_LENGTH")] 83

def k13m0 : Method := { name := "<init>", desc := "()V", sig := { parameters := [], returnType := none }, accessFlags := 2, code := none }
/-- jdk/internal/util/ArraysSupport -/
def k13 : Class := { plain "jdk/internal/util/ArraysSupport" (some 0) with
  accessFlags := 33
  interfaces := #[]
  cf := some (fileOf pool13 21 #[] #[{ accessFlags := 2, nameIndex := 9, descriptorIndex := 19, attributes := #[] }] 33 16 #[] #[{ accessFlags := 24, nameIndex := 28, descriptorIndex := 29, attributes := #[] }, { accessFlags := 26, nameIndex := 38, descriptorIndex := 39, attributes := #[] }, { accessFlags := 25, nameIndex := 121, descriptorIndex := 25, attributes := #[] }, { accessFlags := 25, nameIndex := 131, descriptorIndex := 25, attributes := #[] }, { accessFlags := 25, nameIndex := 137, descriptorIndex := 25, attributes := #[] }, { accessFlags := 25, nameIndex := 143, descriptorIndex := 25, attributes := #[] }, { accessFlags := 25, nameIndex := 53, descriptorIndex := 25, attributes := #[] }, { accessFlags := 25, nameIndex := 24, descriptorIndex := 25, attributes := #[] }, { accessFlags := 25, nameIndex := 162, descriptorIndex := 25, attributes := #[] }, { accessFlags := 25, nameIndex := 187, descriptorIndex := 25, attributes := #[] }, { accessFlags := 26, nameIndex := 48, descriptorIndex := 25, attributes := #[] }, { accessFlags := 25, nameIndex := 277, descriptorIndex := 25, attributes := #[] }, { accessFlags := 25, nameIndex := 280, descriptorIndex := 25, attributes := #[] }, { accessFlags := 25, nameIndex := 282, descriptorIndex := 25, attributes := #[] }, { accessFlags := 25, nameIndex := 284, descriptorIndex := 25, attributes := #[] }, { accessFlags := 25, nameIndex := 286, descriptorIndex := 25, attributes := #[] }, { accessFlags := 25, nameIndex := 288, descriptorIndex := 25, attributes := #[] }, { accessFlags := 25, nameIndex := 290, descriptorIndex := 25, attributes := #[] }, { accessFlags := 25, nameIndex := 292, descriptorIndex := 25, attributes := #[] }, { accessFlags := 26, nameIndex := 108, descriptorIndex := 109, attributes := #[] }, { accessFlags := 25, nameIndex := 294, descriptorIndex := 25, attributes := #[] }])
  fields := #[{ name := "U", type := (.object "jdk/internal/misc/Unsafe"), accessFlags := 24, slot := 0, constantValue := 0 }, { name := "BIG_ENDIAN", type := .boolean, accessFlags := 26, slot := 1, constantValue := 0 }, { name := "LOG2_ARRAY_BOOLEAN_INDEX_SCALE", type := .int, accessFlags := 25, slot := 2, constantValue := 0 }, { name := "LOG2_ARRAY_BYTE_INDEX_SCALE", type := .int, accessFlags := 25, slot := 3, constantValue := 0 }, { name := "LOG2_ARRAY_CHAR_INDEX_SCALE", type := .int, accessFlags := 25, slot := 4, constantValue := 0 }, { name := "LOG2_ARRAY_SHORT_INDEX_SCALE", type := .int, accessFlags := 25, slot := 5, constantValue := 0 }, { name := "LOG2_ARRAY_INT_INDEX_SCALE", type := .int, accessFlags := 25, slot := 6, constantValue := 0 }, { name := "LOG2_ARRAY_LONG_INDEX_SCALE", type := .int, accessFlags := 25, slot := 7, constantValue := 0 }, { name := "LOG2_ARRAY_FLOAT_INDEX_SCALE", type := .int, accessFlags := 25, slot := 8, constantValue := 0 }, { name := "LOG2_ARRAY_DOUBLE_INDEX_SCALE", type := .int, accessFlags := 25, slot := 9, constantValue := 0 }, { name := "LOG2_BYTE_BIT_SIZE", type := .int, accessFlags := 26, slot := 10, constantValue := 0 }, { name := "T_BOOLEAN", type := .int, accessFlags := 25, slot := 11, constantValue := 0 }, { name := "T_CHAR", type := .int, accessFlags := 25, slot := 12, constantValue := 0 }, { name := "T_FLOAT", type := .int, accessFlags := 25, slot := 13, constantValue := 0 }, { name := "T_DOUBLE", type := .int, accessFlags := 25, slot := 14, constantValue := 0 }, { name := "T_BYTE", type := .int, accessFlags := 25, slot := 15, constantValue := 0 }, { name := "T_SHORT", type := .int, accessFlags := 25, slot := 16, constantValue := 0 }, { name := "T_INT", type := .int, accessFlags := 25, slot := 17, constantValue := 0 }, { name := "T_LONG", type := .int, accessFlags := 25, slot := 18, constantValue := 0 }, { name := "JLA", type := (.object "jdk/internal/access/JavaLangAccess"), accessFlags := 26, slot := 19, constantValue := 0 }, { name := "SOFT_MAX_ARRAY_LENGTH", type := .int, accessFlags := 25, slot := 20, constantValue := 0 }]
  methods := #[k13m0]
  instanceTypes := #[]
  staticTypes := #[(.object "jdk/internal/misc/Unsafe"), .boolean, .int, .int, .int, .int, .int, .int, .int, .int, .int, .int, .int, .int, .int, .int, .int, .int, .int, (.object "jdk/internal/access/JavaLangAccess"), .int]
  resolved := Array.replicate 378 none
  statics := none }

def pool14 : Array CpInfo := pool [(1, u "java/lang/Cloneable"), (0, .class_ 1), (0, u "java/lang/Object"), (0, .class_ 3)] 3

/-- java/lang/Cloneable -/
def k14 : Class := { plain "java/lang/Cloneable" (some 0) with
  accessFlags := 1537
  interfaces := #[]
  cf := some (fileOf pool14 2 #[] #[] 1537 4 #[] #[])
  fields := #[]
  methods := #[]
  instanceTypes := #[]
  staticTypes := #[]
  resolved := Array.replicate 8 none
  statics := none }

/-- the primitive byte -/
def k15 : Class := { plain "byte" none with kind := .primitive 'B', accessFlags := 0x411 }
/-- [B -/
def k16 : Class := { plain "[B" (some 0) with kind := .array 15 .byte, interfaces := #[14, 2], accessFlags := 1041 }

/-- the primitive char -/
def k17 : Class := { plain "char" none with kind := .primitive 'C', accessFlags := 0x411 }
/-- [C -/
def k18 : Class := { plain "[C" (some 0) with kind := .array 17 .char, interfaces := #[14, 2], accessFlags := 1041 }

/-- the primitive int -/
def k19 : Class := { plain "int" none with kind := .primitive 'I', accessFlags := 0x411 }
/-- [I -/
def k20 : Class := { plain "[I" (some 0) with kind := .array 19 .int, interfaces := #[14, 2], accessFlags := 1041 }

def heap : Heap := #[{ cls := 7, slots := #[.long 0, .int 1, .null, .int 0, .null, .int 0, .int 0], vm := .statics 7 },
  { cls := 12, slots := #[.null, .null, .null], vm := .statics 12 }]
def classes : Array Class := #[k0, k1, k2, k3, k4, k5, k6, k7, k8, k9, k10, k11, k12, k13, k14, k15, k16, k17, k18, k19, k20]
def interned : List (Array UInt16 × Addr) := []
def slotsUsed : Nat := 10
def theMethod : MethodId := ⟨1, 1⟩
def args0 : Array Value := #[.int 5, .int 65, .int 66]
def aboutOver (below : List Frame) : State where
  vm := { classes := classes, interned := interned.toArray }
  heap := heap
  slotsUsed := slotsUsed
  threads := #[{ frames := .invoking theMethod args0 :: below }]
def below0 : List Frame := [.native { method := ⟨0, 0⟩, args := #[] }]
def about1 : State := aboutOver below0
def p0 : Program := .bare "" "" ""
def e0 : Env := launch0.env 0 0 0
theorem w_frames : about1.frames = Frame.invoking theMethod args0 :: below0 := rfl
set_option maxRecDepth 65536 in
theorem w_args : argsFit about1.vm theMethod args0 = true := by decide +kernel
set_option maxRecDepth 65536 in
theorem w_heap : heapFits about1 = true := by decide +kernel
set_option maxRecDepth 65536 in
theorem w_runnable : about1.curStatus? = some .runnable := by decide +kernel
set_option maxRecDepth 65536 in
theorem w_alone : about1.alone = true := by decide +kernel
set_option maxRecDepth 65536 in
theorem w_named : about1.methodNamed? x = some theMethod := by decide +kernel
set_option maxRecDepth 65536 in
theorem w_hears : about1.hears theMethod below0 = true := by decide +kernel
set_option maxRecDepth 65536 in
theorem w_ripe : about1.ripe theMethod args0 below0 = true := by decide +kernel
theorem w_running : about1.status = .running := rfl
set_option maxRecDepth 65536 in
theorem w_room : about1.hasRoom e0.platform room_1 = true :=
  launch0.hasRoom_least _ room_1 (by decide +kernel) (by decide +kernel) (by decide +kernel) (by decide +kernel) (by decide +kernel) (by decide +kernel)
theorem allAtoms_all (ts : List Jvm.Cond) (a : Array Jvm.Value) (st : Jvm.State) : (allAtoms ts).before a st = ts.all (fun c => c.before a st) := by
  induction ts with
  | nil => rfl
  | cons c t ih =>
    show (Jvm.Cond.and c (allAtoms t)).before a st = _
    rw [Jvm.Cond.before_and, ih, List.all_cons]
def words1 : List Jvm.Cond := Jvm.Cond.code x code maxLocals ret :: tables_1
/-- a 'code' word, met by the world's own term for the bytes: nothing is compared byte by byte -/
theorem code_word {y : MethodName} {bytes : ByteArray} {mx : Nat} {rt : Option FieldType} {a : Array Value} {s : State} {m : MethodId} {meth : Method} {c : Code} (h1 : s.methodNamed? y = some m) (h2 : s.vm.method? m = some meth) (h3 : meth.code = some c) (h4 : c.code = bytes)
    (h5 : (c.maxLocals == mx && c.exceptionTable.isEmpty && decide (c.maxStack ≤ mostOperands) && decide (meth.sig.returnType = rt) && !meth.locks && decide (parseMethodDescriptor y.desc = some meth.sig)) = true) : (Jvm.Cond.code y bytes mx rt).before a s = true := by
  simp only [Bool.and_eq_true, beq_iff_eq, Bool.not_eq_true', decide_eq_true_eq] at h5
  obtain ⟨⟨⟨⟨⟨g1, g2⟩, g3⟩, g4⟩, g5⟩, g6⟩ := h5
  simp [Cond.before, Cond.holds, Cond.value, h1, h2, h3, h4, g1, g2, g3, g4, g5, g6]
def isCode : Jvm.Cond → Bool
  | .code _ _ _ _ => true
  | _ => false
theorem all_split {L : List Jvm.Cond} {P : Jvm.Cond → Bool} (h1 : L.all (fun c => isCode c || P c) = true) (h2 : ∀ c ∈ L.filter isCode, P c = true) : L.all P = true := by
  refine List.all_eq_true.mpr fun c hc => ?_
  have h := List.all_eq_true.mp h1 c hc
  rcases Bool.eq_false_or_eq_true (isCode c) with hi | hi
  · exact h2 c (List.mem_filter.mpr ⟨hc, hi⟩)
  · simpa [hi] using h
set_option maxRecDepth 65536 in
theorem w_c0 : (Jvm.Cond.code x code maxLocals ret).before args0 about1 = true := code_word (m := ⟨1, 1⟩) (meth := k1m1) (c := k1c1) (by decide +kernel) rfl rfl rfl (by decide +kernel)
set_option maxRecDepth 65536 in
theorem w_c1 : (Jvm.Cond.code ({ cls := "com/example/fieldveil/fieldveil/WildcardMatchesSomeTextStartingWithPinLaw", name := "draw", desc := "(I)C" } : Jvm.MethodName) method_3_code (3 : Nat) (Option.some Jvm.ClassFile.FieldType.char)).before args0 about1 = true := code_word (m := ⟨1, 2⟩) (meth := k1m2) (c := k1c2) (by decide +kernel) rfl rfl rfl (by decide +kernel)
set_option maxRecDepth 65536 in
theorem w_c2 : (Jvm.Cond.code ({ cls := "com/example/fieldveil/fieldveil/WildcardMatchesSomeTextStartingWithPinLaw", name := "mk", desc := "(ICCC)Ljava/lang/String;" } : Jvm.MethodName) method_4_code (4 : Nat) (Option.some (Jvm.ClassFile.FieldType.object "java/lang/String"))).before args0 about1 = true := code_word (m := ⟨1, 3⟩) (meth := k1m3) (c := k1c3) (by decide +kernel) rfl rfl rfl (by decide +kernel)
set_option maxRecDepth 65536 in
theorem w_c3 : (Jvm.Cond.code ({ cls := "java/lang/String", name := "<init>", desc := "([C)V" } : Jvm.MethodName) jdk_42_method_3_code (2 : Nat) (Option.none : Option Jvm.ClassFile.FieldType)).before args0 about1 = true := code_word (m := ⟨7, 1⟩) (meth := k7m1) (c := k7c1) (by decide +kernel) rfl rfl rfl (by decide +kernel)
set_option maxRecDepth 65536 in
theorem w_c4 : (Jvm.Cond.code ({ cls := "java/lang/String", name := "<init>", desc := "([CIILjava/lang/Void;)V" } : Jvm.MethodName) jdk_42_method_149_code (6 : Nat) (Option.none : Option Jvm.ClassFile.FieldType)).before args0 about1 = true := code_word (m := ⟨7, 6⟩) (meth := k7m6) (c := k7c6) (by decide +kernel) rfl rfl rfl (by decide +kernel)
set_option maxRecDepth 65536 in
theorem w_c5 : (Jvm.Cond.code ({ cls := "java/lang/Object", name := "<init>", desc := "()V" } : Jvm.MethodName) object_method_1_code (1 : Nat) (Option.none : Option Jvm.ClassFile.FieldType)).before args0 about1 = true := code_word (m := ⟨0, 0⟩) (meth := k0m0) (c := k0c0) (by decide +kernel) rfl rfl rfl (by decide +kernel)
set_option maxRecDepth 65536 in
theorem w_c6 : (Jvm.Cond.code ({ cls := "com/example/fieldveil/fieldveil/Wildcard", name := "<init>", desc := "(Ljava/lang/String;)V" } : Jvm.MethodName) prog_10_method_1_code (2 : Nat) (Option.none : Option Jvm.ClassFile.FieldType)).before args0 about1 = true := code_word (m := ⟨8, 0⟩) (meth := k8m0) (c := k8c0) (by decide +kernel) rfl rfl rfl (by decide +kernel)
set_option maxRecDepth 65536 in
theorem w_c7 : (Jvm.Cond.code ({ cls := "com/example/fieldveil/fieldveil/Wildcard", name := "<init>", desc := "(Ljava/lang/String;Z)V" } : Jvm.MethodName) prog_10_method_2_code (3 : Nat) (Option.none : Option Jvm.ClassFile.FieldType)).before args0 about1 = true := code_word (m := ⟨8, 1⟩) (meth := k8m1) (c := k8c1) (by decide +kernel) rfl rfl rfl (by decide +kernel)
set_option maxRecDepth 65536 in
theorem w_c8 : (Jvm.Cond.code ({ cls := "java/lang/String", name := "indexOf", desc := "(I)I" } : Jvm.MethodName) jdk_42_method_79_code (2 : Nat) (Option.some Jvm.ClassFile.FieldType.int)).before args0 about1 = true := code_word (m := ⟨7, 4⟩) (meth := k7m4) (c := k7c4) (by decide +kernel) rfl rfl rfl (by decide +kernel)
set_option maxRecDepth 65536 in
theorem w_c9 : (Jvm.Cond.code ({ cls := "java/lang/String", name := "indexOf", desc := "(II)I" } : Jvm.MethodName) jdk_42_method_80_code (3 : Nat) (Option.some Jvm.ClassFile.FieldType.int)).before args0 about1 = true := code_word (m := ⟨7, 5⟩) (meth := k7m5) (c := k7c5) (by decide +kernel) rfl rfl rfl (by decide +kernel)
set_option maxRecDepth 65536 in
theorem w_c10 : (Jvm.Cond.code ({ cls := "java/lang/String", name := "isLatin1", desc := "()Z" } : Jvm.MethodName) jdk_42_method_154_code (1 : Nat) (Option.some Jvm.ClassFile.FieldType.boolean)).before args0 about1 = true := code_word (m := ⟨7, 8⟩) (meth := k7m8) (c := k7c8) (by decide +kernel) rfl rfl rfl (by decide +kernel)
set_option maxRecDepth 65536 in
theorem w_c11 : (Jvm.Cond.code ({ cls := "java/lang/String", name := "length", desc := "()I" } : Jvm.MethodName) jdk_42_method_54_code (1 : Nat) (Option.some Jvm.ClassFile.FieldType.int)).before args0 about1 = true := code_word (m := ⟨7, 2⟩) (meth := k7m2) (c := k7c2) (by decide +kernel) rfl rfl rfl (by decide +kernel)
set_option maxRecDepth 65536 in
theorem w_c12 : (Jvm.Cond.code ({ cls := "java/lang/String", name := "coder", desc := "()B" } : Jvm.MethodName) jdk_42_method_152_code (1 : Nat) (Option.some Jvm.ClassFile.FieldType.byte)).before args0 about1 = true := code_word (m := ⟨7, 7⟩) (meth := k7m7) (c := k7c7) (by decide +kernel) rfl rfl rfl (by decide +kernel)
set_option maxRecDepth 65536 in
theorem w_c13 : (Jvm.Cond.code ({ cls := "java/lang/StringLatin1", name := "indexOf", desc := "([BIII)I" } : Jvm.MethodName) jdk_43_method_22_code (4 : Nat) (Option.some Jvm.ClassFile.FieldType.int)).before args0 about1 = true := code_word (m := ⟨9, 3⟩) (meth := k9m3) (c := k9c3) (by decide +kernel) rfl rfl rfl (by decide +kernel)
set_option maxRecDepth 65536 in
theorem w_c14 : (Jvm.Cond.code ({ cls := "java/lang/StringLatin1", name := "canEncode", desc := "(I)Z" } : Jvm.MethodName) jdk_43_method_4_code (1 : Nat) (Option.some Jvm.ClassFile.FieldType.boolean)).before args0 about1 = true := code_word (m := ⟨9, 2⟩) (meth := k9m2) (c := k9c2) (by decide +kernel) rfl rfl rfl (by decide +kernel)
set_option maxRecDepth 65536 in
theorem w_c15 : (Jvm.Cond.code ({ cls := "java/lang/Math", name := "max", desc := "(II)I" } : Jvm.MethodName) jdk_29_method_65_code (2 : Nat) (Option.some Jvm.ClassFile.FieldType.int)).before args0 about1 = true := code_word (m := ⟨10, 1⟩) (meth := k10m1) (c := k10c1) (by decide +kernel) rfl rfl rfl (by decide +kernel)
set_option maxRecDepth 65536 in
theorem w_c16 : (Jvm.Cond.code ({ cls := "java/lang/Math", name := "min", desc := "(II)I" } : Jvm.MethodName) jdk_29_method_69_code (2 : Nat) (Option.some Jvm.ClassFile.FieldType.int)).before args0 about1 = true := code_word (m := ⟨10, 2⟩) (meth := k10m2) (c := k10c2) (by decide +kernel) rfl rfl rfl (by decide +kernel)
set_option maxRecDepth 65536 in
theorem w_c17 : (Jvm.Cond.code ({ cls := "com/example/fieldveil/fieldveil/Wildcard", name := "matchesSomeTextStartingWith", desc := "(Ljava/lang/CharSequence;)Z" } : Jvm.MethodName) prog_10_method_6_code (4 : Nat) (Option.some Jvm.ClassFile.FieldType.boolean)).before args0 about1 = true := code_word (m := ⟨8, 2⟩) (meth := k8m2) (c := k8c2) (by decide +kernel) rfl rfl rfl (by decide +kernel)
set_option maxRecDepth 65536 in
theorem w_c18 : (Jvm.Cond.code ({ cls := "java/lang/StringUTF16", name := "compress", desc := "([CII)[B" } : Jvm.MethodName) jdk_52_method_16_code (6 : Nat) (Option.some (Jvm.ClassFile.FieldType.array Jvm.ClassFile.FieldType.byte))).before args0 about1 = true := code_word (m := ⟨11, 2⟩) (meth := k11m2) (c := k11c2) (by decide +kernel) rfl rfl rfl (by decide +kernel)
set_option maxRecDepth 65536 in
theorem w_c19 : (Jvm.Cond.code ({ cls := "java/lang/StringUTF16", name := "compress", desc := "([CI[BII)I" } : Jvm.MethodName) jdk_52_method_21_code (7 : Nat) (Option.some Jvm.ClassFile.FieldType.int)).before args0 about1 = true := code_word (m := ⟨11, 3⟩) (meth := k11m3) (c := k11c3) (by decide +kernel) rfl rfl rfl (by decide +kernel)
set_option maxRecDepth 65536 in
theorem w_c20 : (Jvm.Cond.code ({ cls := "java/lang/StringUTF16", name := "coderFromArrayLen", desc := "([BI)B" } : Jvm.MethodName) jdk_52_method_15_code (2 : Nat) (Option.some Jvm.ClassFile.FieldType.byte)).before args0 about1 = true := code_word (m := ⟨11, 1⟩) (meth := k11m1) (c := k11c1) (by decide +kernel) rfl rfl rfl (by decide +kernel)
set_option maxRecDepth 65536 in
theorem w_c21 : (Jvm.Cond.code ({ cls := "java/lang/StringLatin1", name := "indexOfChar", desc := "([BIII)I" } : Jvm.MethodName) jdk_43_method_23_code (6 : Nat) (Option.some Jvm.ClassFile.FieldType.int)).before args0 about1 = true := code_word (m := ⟨9, 4⟩) (meth := k9m4) (c := k9c4) (by decide +kernel) rfl rfl rfl (by decide +kernel)
set_option maxRecDepth 65536 in
theorem w_c22 : (Jvm.Cond.code ({ cls := "java/lang/String", name := "charAt", desc := "(I)C" } : Jvm.MethodName) jdk_42_method_56_code (2 : Nat) (Option.some Jvm.ClassFile.FieldType.char)).before args0 about1 = true := code_word (m := ⟨7, 3⟩) (meth := k7m3) (c := k7c3) (by decide +kernel) rfl rfl rfl (by decide +kernel)
set_option maxRecDepth 65536 in
theorem w_c23 : (Jvm.Cond.code ({ cls := "java/lang/StringLatin1", name := "charAt", desc := "([BI)C" } : Jvm.MethodName) jdk_43_method_2_code (2 : Nat) (Option.some Jvm.ClassFile.FieldType.char)).before args0 about1 = true := code_word (m := ⟨9, 1⟩) (meth := k9m1) (c := k9c1) (by decide +kernel) rfl rfl rfl (by decide +kernel)
set_option maxRecDepth 65536 in
theorem w_c24 : (Jvm.Cond.code ({ cls := "java/lang/String", name := "checkIndex", desc := "(II)V" } : Jvm.MethodName) jdk_42_method_155_code (2 : Nat) (Option.none : Option Jvm.ClassFile.FieldType)).before args0 about1 = true := code_word (m := ⟨7, 9⟩) (meth := k7m9) (c := k7c9) (by decide +kernel) rfl rfl rfl (by decide +kernel)
set_option maxRecDepth 65536 in
theorem w_c25 : (Jvm.Cond.code ({ cls := "jdk/internal/util/Preconditions", name := "checkIndex", desc := "(IILjava/util/function/BiFunction;)I" } : Jvm.MethodName) jdk_41_method_11_code (3 : Nat) (Option.some Jvm.ClassFile.FieldType.int)).before args0 about1 = true := code_word (m := ⟨12, 1⟩) (meth := k12m1) (c := k12c1) (by decide +kernel) rfl rfl rfl (by decide +kernel)
def codes1 : List Jvm.Cond := [Jvm.Cond.code x code maxLocals ret, Jvm.Cond.code ({ cls := "com/example/fieldveil/fieldveil/WildcardMatchesSomeTextStartingWithPinLaw", name := "draw", desc := "(I)C" } : Jvm.MethodName) method_3_code (3 : Nat) (Option.some Jvm.ClassFile.FieldType.char), Jvm.Cond.code ({ cls := "com/example/fieldveil/fieldveil/WildcardMatchesSomeTextStartingWithPinLaw", name := "mk", desc := "(ICCC)Ljava/lang/String;" } : Jvm.MethodName) method_4_code (4 : Nat) (Option.some (Jvm.ClassFile.FieldType.object "java/lang/String")), Jvm.Cond.code ({ cls := "java/lang/String", name := "<init>", desc := "([C)V" } : Jvm.MethodName) jdk_42_method_3_code (2 : Nat) (Option.none : Option Jvm.ClassFile.FieldType), Jvm.Cond.code ({ cls := "java/lang/String", name := "<init>", desc := "([CIILjava/lang/Void;)V" } : Jvm.MethodName) jdk_42_method_149_code (6 : Nat) (Option.none : Option Jvm.ClassFile.FieldType), Jvm.Cond.code ({ cls := "java/lang/Object", name := "<init>", desc := "()V" } : Jvm.MethodName) object_method_1_code (1 : Nat) (Option.none : Option Jvm.ClassFile.FieldType), Jvm.Cond.code ({ cls := "com/example/fieldveil/fieldveil/Wildcard", name := "<init>", desc := "(Ljava/lang/String;)V" } : Jvm.MethodName) prog_10_method_1_code (2 : Nat) (Option.none : Option Jvm.ClassFile.FieldType), Jvm.Cond.code ({ cls := "com/example/fieldveil/fieldveil/Wildcard", name := "<init>", desc := "(Ljava/lang/String;Z)V" } : Jvm.MethodName) prog_10_method_2_code (3 : Nat) (Option.none : Option Jvm.ClassFile.FieldType), Jvm.Cond.code ({ cls := "java/lang/String", name := "indexOf", desc := "(I)I" } : Jvm.MethodName) jdk_42_method_79_code (2 : Nat) (Option.some Jvm.ClassFile.FieldType.int), Jvm.Cond.code ({ cls := "java/lang/String", name := "indexOf", desc := "(II)I" } : Jvm.MethodName) jdk_42_method_80_code (3 : Nat) (Option.some Jvm.ClassFile.FieldType.int), Jvm.Cond.code ({ cls := "java/lang/String", name := "isLatin1", desc := "()Z" } : Jvm.MethodName) jdk_42_method_154_code (1 : Nat) (Option.some Jvm.ClassFile.FieldType.boolean), Jvm.Cond.code ({ cls := "java/lang/String", name := "length", desc := "()I" } : Jvm.MethodName) jdk_42_method_54_code (1 : Nat) (Option.some Jvm.ClassFile.FieldType.int), Jvm.Cond.code ({ cls := "java/lang/String", name := "coder", desc := "()B" } : Jvm.MethodName) jdk_42_method_152_code (1 : Nat) (Option.some Jvm.ClassFile.FieldType.byte), Jvm.Cond.code ({ cls := "java/lang/StringLatin1", name := "indexOf", desc := "([BIII)I" } : Jvm.MethodName) jdk_43_method_22_code (4 : Nat) (Option.some Jvm.ClassFile.FieldType.int), Jvm.Cond.code ({ cls := "java/lang/StringLatin1", name := "canEncode", desc := "(I)Z" } : Jvm.MethodName) jdk_43_method_4_code (1 : Nat) (Option.some Jvm.ClassFile.FieldType.boolean), Jvm.Cond.code ({ cls := "java/lang/Math", name := "max", desc := "(II)I" } : Jvm.MethodName) jdk_29_method_65_code (2 : Nat) (Option.some Jvm.ClassFile.FieldType.int), Jvm.Cond.code ({ cls := "java/lang/Math", name := "min", desc := "(II)I" } : Jvm.MethodName) jdk_29_method_69_code (2 : Nat) (Option.some Jvm.ClassFile.FieldType.int), Jvm.Cond.code ({ cls := "com/example/fieldveil/fieldveil/Wildcard", name := "matchesSomeTextStartingWith", desc := "(Ljava/lang/CharSequence;)Z" } : Jvm.MethodName) prog_10_method_6_code (4 : Nat) (Option.some Jvm.ClassFile.FieldType.boolean), Jvm.Cond.code ({ cls := "java/lang/StringUTF16", name := "compress", desc := "([CII)[B" } : Jvm.MethodName) jdk_52_method_16_code (6 : Nat) (Option.some (Jvm.ClassFile.FieldType.array Jvm.ClassFile.FieldType.byte)), Jvm.Cond.code ({ cls := "java/lang/StringUTF16", name := "compress", desc := "([CI[BII)I" } : Jvm.MethodName) jdk_52_method_21_code (7 : Nat) (Option.some Jvm.ClassFile.FieldType.int), Jvm.Cond.code ({ cls := "java/lang/StringUTF16", name := "coderFromArrayLen", desc := "([BI)B" } : Jvm.MethodName) jdk_52_method_15_code (2 : Nat) (Option.some Jvm.ClassFile.FieldType.byte), Jvm.Cond.code ({ cls := "java/lang/StringLatin1", name := "indexOfChar", desc := "([BIII)I" } : Jvm.MethodName) jdk_43_method_23_code (6 : Nat) (Option.some Jvm.ClassFile.FieldType.int), Jvm.Cond.code ({ cls := "java/lang/String", name := "charAt", desc := "(I)C" } : Jvm.MethodName) jdk_42_method_56_code (2 : Nat) (Option.some Jvm.ClassFile.FieldType.char), Jvm.Cond.code ({ cls := "java/lang/StringLatin1", name := "charAt", desc := "([BI)C" } : Jvm.MethodName) jdk_43_method_2_code (2 : Nat) (Option.some Jvm.ClassFile.FieldType.char), Jvm.Cond.code ({ cls := "java/lang/String", name := "checkIndex", desc := "(II)V" } : Jvm.MethodName) jdk_42_method_155_code (2 : Nat) (Option.none : Option Jvm.ClassFile.FieldType), Jvm.Cond.code ({ cls := "jdk/internal/util/Preconditions", name := "checkIndex", desc := "(IILjava/util/function/BiFunction;)I" } : Jvm.MethodName) jdk_41_method_11_code (3 : Nat) (Option.some Jvm.ClassFile.FieldType.int)]
set_option maxRecDepth 65536 in
theorem codes_eq : words1.filter isCode = codes1 := rfl
theorem w_codes : ∀ c ∈ words1.filter isCode, c.before args0 about1 = true := by
  rw [codes_eq]
  intro c hc
  simp only [codes1, List.mem_cons, List.not_mem_nil, or_false] at hc
  rcases hc with rfl | rfl | rfl | rfl | rfl | rfl | rfl | rfl | rfl | rfl | rfl | rfl | rfl | rfl | rfl | rfl | rfl | rfl | rfl | rfl | rfl | rfl | rfl | rfl | rfl | rfl
  · exact w_c0
  · exact w_c1
  · exact w_c2
  · exact w_c3
  · exact w_c4
  · exact w_c5
  · exact w_c6
  · exact w_c7
  · exact w_c8
  · exact w_c9
  · exact w_c10
  · exact w_c11
  · exact w_c12
  · exact w_c13
  · exact w_c14
  · exact w_c15
  · exact w_c16
  · exact w_c17
  · exact w_c18
  · exact w_c19
  · exact w_c20
  · exact w_c21
  · exact w_c22
  · exact w_c23
  · exact w_c24
  · exact w_c25
set_option maxRecDepth 65536 in
theorem w_t1 : (words1.take 24).all (fun c => isCode c || c.before args0 about1) = true := by decide +kernel
set_option maxRecDepth 65536 in
theorem w_t2 : ((words1.drop 24).take 24).all (fun c => isCode c || c.before args0 about1) = true := by decide +kernel
set_option maxRecDepth 65536 in
theorem w_t3 : (((words1.drop 24).drop 24).take 24).all (fun c => isCode c || c.before args0 about1) = true := by decide +kernel
set_option maxRecDepth 65536 in
theorem w_t4 : ((((words1.drop 24).drop 24).drop 24).take 24).all (fun c => isCode c || c.before args0 about1) = true := by decide +kernel
set_option maxRecDepth 65536 in
theorem w_t5 : (((((words1.drop 24).drop 24).drop 24).drop 24).take 24).all (fun c => isCode c || c.before args0 about1) = true := by decide +kernel
set_option maxRecDepth 65536 in
theorem w_t6 : (((((words1.drop 24).drop 24).drop 24).drop 24).drop 24).all (fun c => isCode c || c.before args0 about1) = true := by decide +kernel
theorem w_tables : (allAtoms (Jvm.Cond.code x code maxLocals ret :: tables_1)).before args0 about1 = true := by
  rw [allAtoms_all]
  show words1.all (fun c => c.before args0 about1) = true
  refine all_split ?_ w_codes
  rw [← List.take_append_drop 24 words1, List.all_append, w_t1, ← List.take_append_drop 24 (words1.drop 24), List.all_append, w_t2, ← List.take_append_drop 24 ((words1.drop 24).drop 24), List.all_append, w_t3, ← List.take_append_drop 24 (((words1.drop 24).drop 24).drop 24), List.all_append, w_t4, ← List.take_append_drop 24 ((((words1.drop 24).drop 24).drop 24).drop 24), List.all_append, w_t5, w_t6]
  rfl
set_option maxRecDepth 65536 in
theorem w_rest : rest_1_c.before args0 about1 = true := by decide +kernel
set_option maxRecDepth 65536 in
theorem w_case : (Jvm.Cond.and given_1 narrow_1).before args0 about1 = true := by decide +kernel
set_option maxRecDepth 65536 in
theorem w_consts : constsHeld consts_1 about1 := Jvm.Lit.constsHeldB_iff.mp (by decide +kernel)
theorem w_applies : (headSpec (Jvm.Cond.code x code maxLocals ret :: tables_1) room_1).applies x e0.platform about1 = true :=
  (Spec.applies_iff w_frames).mpr ⟨w_running, w_runnable, w_alone, w_named, w_hears, w_ripe, w_room, w_tables⟩
theorem atStart : AtStart classFile x code maxLocals ret World_1 tables_1 room_1 Calls_1 rest_1 Pre_1 launch0 p0 e0 about1 theMethod args0 below0 :=
  ⟨lists_1, trivial, launch0.admits_env _ _ _, launch0.least_env, fairChoices_fair.cas, fairChoices_fair.clock, w_frames, w_args, w_heap, w_applies, ⟨w_consts, trivial⟩, w_rest, w_case⟩
end start1
theorem witness_1 : WitnessClaimed_1 := ⟨start1.p0, start1.e0, start1.about1, start1.theMethod, start1.args0, start1.below0, start1.atStart⟩
end Jvm.Pilot.@@N@@
