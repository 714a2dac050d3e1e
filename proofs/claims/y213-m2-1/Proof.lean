import JvmDerived
import JvmDerived.Pilot.@@N@@Statement
import JvmDerived.Pilot.@@N@@Code
set_option linter.unusedVariables false
set_option linter.unusedSimpArgs false
namespace Jvm.RoadKit
open Sem ClassFile Op Lib Jvm.Stand Jvm.Free Jvm.LawKit
abbrev Go (tb : Tables) (e : Env) (below : List Frame) (A B : State) : Prop := ∀ t, Steps tb e below B t → Steps tb e below A t
theorem goT {tb : Tables} {e : Env} {below : List Frame} {A B C : State} (f : Go tb e below A B) (g : Go tb e below B C) : Go tb e below A C := fun t h => f t (g t h)
section New
variable {p : Program} {l : Launch} {e : Env} {R : Room} {s : State} {m : MethodId} {args : Array Value} {below : List Frame} {meth : Method} {c : Code} {T : State} {locs : List Loc} {cells slots : Nat}
theorem retI (X : Stand p l e R s m args below meth c T locs cells slots) (hx : p.tables.exec = Jvm.exec) {pc : Nat} {Ls : Array Slot} {z : Int32} {rest : List Value} (hret : meth.sig.returnType = some .int) (hd : decode c.code pc = .ok (.ireturn, 1)) {fs : List Frame}
    (hl : ∀ (f : JFrame) (acts : List Action), f.method = m → f.locked = none → f.entered = [] → (doReturn e (T.setTop f) acts (some (.int z))).1 = T.setFrames fs) : Steps p.tables e below (T.setTop (mkF m pc Ls (.int z :: rest))) (T.setFrames fs) := by
  have hm' : T.vm.method? m = some meth := X.method'
  have hn : narrow .int (.int z) = .int z := rfl
  show Steps p.tables e below (T.setTop { method := m, pc := pc, locals := Ls, stack := _ :: rest, locked := none }) _
  jvm_step X.here [X.here.top, hx, hd, hm', hret, hn]
  first | (intro acts; rw [hl _ acts rfl rfl rfl]) | rw [hl _ _ rfl rfl rfl]
  exact Steps.refl _
theorem retJ (X : Stand p l e R s m args below meth c T locs cells slots) (hx : p.tables.exec = Jvm.exec) {pc : Nat} {Ls : Array Slot} {z : Int64} {rest : List Value} (hret : meth.sig.returnType = some .long) (hd : decode c.code pc = .ok (.lreturn, 1)) {fs : List Frame}
    (hl : ∀ (f : JFrame) (acts : List Action), f.method = m → f.locked = none → f.entered = [] → (doReturn e (T.setTop f) acts (some (.long z))).1 = T.setFrames fs) : Steps p.tables e below (T.setTop (mkF m pc Ls (.long z :: rest))) (T.setFrames fs) := by
  have hm' : T.vm.method? m = some meth := X.method'
  have hn : narrow .long (.long z) = .long z := rfl
  show Steps p.tables e below (T.setTop { method := m, pc := pc, locals := Ls, stack := _ :: rest, locked := none }) _
  jvm_step X.here [X.here.top, hx, hd, hm', hret, hn]
  first | (intro acts; rw [hl _ acts rfl rfl rfl]) | rw [hl _ _ rfl rfl rfl]
  exact Steps.refl _
theorem retR (X : Stand p l e R s m args below meth c T locs cells slots) (hx : p.tables.exec = Jvm.exec) {pc : Nat} {Ls : Array Slot} {z : Addr} {rest : List Value} {C : String} (hret : meth.sig.returnType = some (.object C)) (hd : decode c.code pc = .ok (.areturn, 1)) {fs : List Frame}
    (hl : ∀ (f : JFrame) (acts : List Action), f.method = m → f.locked = none → f.entered = [] → (doReturn e (T.setTop f) acts (some (.ref z))).1 = T.setFrames fs) : Steps p.tables e below (T.setTop (mkF m pc Ls (.ref z :: rest))) (T.setFrames fs) := by
  have hm' : T.vm.method? m = some meth := X.method'
  show Steps p.tables e below (T.setTop { method := m, pc := pc, locals := Ls, stack := _ :: rest, locked := none }) _
  jvm_step X.here [X.here.top, hx, hd, hm', hret, Value.isRef, FieldType.isReference]
  first | (intro acts; rw [hl _ acts rfl rfl rfl]) | rw [hl _ _ rfl rfl rfl]
  exact Steps.refl _
theorem retA (X : Stand p l e R s m args below meth c T locs cells slots) (hx : p.tables.exec = Jvm.exec) {pc : Nat} {Ls : Array Slot} {z : Addr} {rest : List Value} {ty : FieldType} (hret : meth.sig.returnType = some (.array ty)) (hd : decode c.code pc = .ok (.areturn, 1)) {fs : List Frame}
    (hl : ∀ (f : JFrame) (acts : List Action), f.method = m → f.locked = none → f.entered = [] → (doReturn e (T.setTop f) acts (some (.ref z))).1 = T.setFrames fs) : Steps p.tables e below (T.setTop (mkF m pc Ls (.ref z :: rest))) (T.setFrames fs) := by
  have hm' : T.vm.method? m = some meth := X.method'
  show Steps p.tables e below (T.setTop { method := m, pc := pc, locals := Ls, stack := _ :: rest, locked := none }) _
  jvm_step X.here [X.here.top, hx, hd, hm', hret, Value.isRef, FieldType.isReference]
  first | (intro acts; rw [hl _ acts rfl rfl rfl]) | rw [hl _ _ rfl rfl rfl]
  exact Steps.refl _
end New
theorem own_sta_keep0 {Z : State} {h h' : Heap} {C n d : String} {v : Value} (F : Sta Z h C n d v) (Kp : Keep h h' []) : Sta Z h' C n d v := by
  obtain ⟨cf, i, k, f, st, cell, h1, h2, h3, h4, h5, h6, h7⟩ := F
  exact ⟨cf, i, k, f, st, cell, h1, h2, h3, h4, Kp.2.1 st cell h5 nin0, h6, h7⟩
theorem own_sta_keep {Z : State} {h h' : Heap} {b : Addr} {C n d K : String} {v : Value} (F : Sta Z h C n d v) (E : Exa Z h b K) (Kp : Keep h h' [b]) : Sta Z h' C n d v := by
  obtain ⟨cf, i, k, f, st, cell, h1, h2, h3, h4, h5, h6, h7⟩ := F
  obtain ⟨c2, _, g1, -, -, g4, -⟩ := E
  have ne : st ∉ [b] := fun q => by
    cases List.mem_singleton.mp q
    cases h5.symm.trans g1
    rw [g4] at h6; cases h6
  exact ⟨cf, i, k, f, st, cell, h1, h2, h3, h4, Kp.2.1 st cell h5 ne, h6, h7⟩
theorem own_backOfSC {p : Program} {l : Launch} {e : Env} {R : Room} {s : State} {args : Array Value} {below : List Frame} {Z : State} {a0 : Array Value} {EL : List (String × Nat)} {h : Heap} {vm0 : Vm} {y : MethodName} {bytes : ByteArray} {maxL : Nat} {ret : Option FieldType} {rm : Room} {len W : Nat} {as' : Array Value} {Q : Option Value → Heap → List Loc → Prop}
    (hM : MetFree l y (head1 [Cond.code y bytes maxL ret] rm) (fun a U => a = as' ∧ Z.Warmed39 U.vm ∧ U.heap = h ∧ CHv Z EL U.vm h) (fun _ _ _ _ _ => True) (fun _ U o U' => ∃ v L, o = .returned v ∧ Q v U'.heap L ∧ ReturnedEndW U o U' L rm.cells rm.slots))
    (hZ : Z.Warmed39 vm0) (wc : (Cond.code y bytes maxL ret).before a0 Z = true) (wz : (Cond.initialized y.cls).before a0 Z = true) (hf : rm.frames + 1 ≤ R.frames) (hl : W + (maxL + 11) + rm.locals ≤ R.locals) (hEL : EW Z a0 EL) (H : CHv Z EL vm0 h) :
    BackS l R p e below (s.setVm vm0) args y len W (fun A a => a = as' ∧ A.U.heap = h ∧ A.cells + rm.cells ≤ R.cells ∧ A.slots + rm.slots ≤ R.slots)
      (fun A _ v B => ∃ L, Q v B.U.heap L ∧ B.locs = A.locs ++ L ∧ B.cells = A.cells + rm.cells ∧ B.slots = A.slots + rm.slots) :=
  BackS.of_freeW (bytes := bytes) (maxL := maxL) (ret := ret) (E := fun _ _ o t L k n => k = rm.cells ∧ n = rm.slots ∧ ∃ v, o = .returned v ∧ Q v t.heap L) hM hf hl
    (fun m meth c A a Y hp => have hU : Z.Warmed39 A.U.vm := wtrans (s := s.setVm vm0) hZ Y.warmed
      ⟨by show (Cond.and _ .tt).before a A.U = true; rw [Cond.before_and, mv hU wc]; rfl, mv hU wc, mv hU wz, hp.2.2.1, hp.2.2.2⟩)
    (fun m meth c A a g mk Y hp => ⟨hp.1, wtrans (s := s.setVm vm0) hZ Y.warmed, hp.2.1, (CHv.at Y hZ hEL H).1⟩) (fun _ _ _ _ _ _ _ _ _ => trivial)
    (fun _ _ _ _ ⟨v, L, h1, h2, h3⟩ => ⟨L, _, _, h3, rfl, rfl, v, h1, h2⟩)
    (fun m meth c A a g mk v t L k n Y hp _ _ ⟨e1, e2, v', e3, e4⟩ => by cases e3; subst e1 e2; exact ⟨L, e4, rfl, rfl, rfl⟩)
theorem own_mvM {Z s : State} {a0 args : Array Value} {own host : String} {index : Nat} {y : MethodName} (hZ : Z.Warmed39 s.vm) (w : (Cond.methodLinkNest own index y host).before a0 Z = true) : (Cond.methodLinkNest own index y host).before args s = true := (Cond.methodLinkNest_wide hZ w :)
theorem own_fld_ne {Z : State} {h : Heap} {a : Addr} {C n d : String} {v w : Value} (F : Fld Z h a C n d v) (G : Fld Z h a C n d w) (ne : v ≠ w) : False := by
  obtain ⟨cell, cf, k, i, f, h1, h2, -, -, -, -, h7⟩ := F
  obtain ⟨cell', cf', k', i', f', g1, g2, -, -, -, -, g7⟩ := G
  cases h1.symm.trans g1
  cases h2.symm.trans g2
  cases h7.symm.trans g7
  exact ne rfl
theorem own_eq_i {args : Array Value} {first s : State} {o : Option Outcome} {idx : List Nat} {a : Term} {z : Int32} (h : (Cond.eq a (.int z)).value args first o s idx = some true) : a.eval args first o idx s = some (.int z) := by
  cases ha : a.eval args first o idx s with
  | none => simp [Cond.value, Term.eval, ha] at h
  | some x => cases x <;> simp [Cond.value, Term.eval, ha] at h ⊢; exact h
theorem own_eq_l {args : Array Value} {first s : State} {o : Option Outcome} {idx : List Nat} {a : Term} {z : Int64} (h : (Cond.eq a (.long z)).value args first o s idx = some true) : a.eval args first o idx s = some (.long z) := by
  cases ha : a.eval args first o idx s with
  | none => simp [Cond.value, Term.eval, ha] at h
  | some x => cases x <;> simp [Cond.value, Term.eval, ha] at h ⊢; exact h
theorem own_ltL {x y : Int64} (h : x < y) : lcmpW x y < 0 := (lw_lt x y).mpr h
theorem own_nltL {x y : Int64} (h : ¬ x < y) : ¬ lcmpW x y < 0 := fun q => h ((lw_lt x y).mp q)
theorem own_gtL {x y : Int64} (h : y < x) : 0 < lcmpW x y := (lw_gt x y).mpr h
theorem own_ngtL {x y : Int64} (h : ¬ y < x) : ¬ 0 < lcmpW x y := fun q => h ((lw_gt x y).mp q)
theorem own_eqL {x y : Int64} (h : x = y) : lcmpW x y = 0 := (lw_eq x y).mpr h
theorem own_neqL {x y : Int64} (h : ¬ x = y) : ¬ lcmpW x y = 0 := fun q => h ((lw_eq x y).mp q)
end Jvm.RoadKit
/- laws to paste: Road.backV (cut by pick.py; bodies as the Statement names them) -/
namespace Jvm.Pilot.@@N@@
namespace StrChars
open Jvm Sem ClassFile Op Lib Jvm.Stand Jvm.Free.XT Jvm.Free.ALB Jvm.Free.JM Jvm.Free
open Jvm.Lib.Cold (StaticIs)
/-- a char array whose places are chars -/
def Ch (a : Addr) (A : Cell) (U : State) : Prop := Arr .char a A U ∧ Typed .char A
theorem Ch.mv {a : Addr} {A : Cell} {U U' : State} (h : Ch a A U) (hal : U.vm.Alike U'.vm) (hh : U'.heap = U.heap) : Ch a A U' := ⟨h.1.mv hal hh, h.2⟩
theorem Ch.keep {a : Addr} {A : Cell} {U U' : State} (h : Ch a A U) (hal : U.vm.Alike U'.vm) (hk : U'.heap[a]? = some A) : Ch a A U' := ⟨h.1.keep hal hk, h.2⟩
/-- what place i of a char[]'s cell holds -/
def cv (A : Cell) (i : Nat) : Int32 := match A.slots[i]? with | some (.int x) => x | _ => 0
theorem Ch.get {a : Addr} {A : Cell} {U : State} (h : Ch a A U) {i : Nat} (hi : i < A.slots.size) : A.slots[i]? = some (.int (cv A i)) := by
  have e := Array.getElem?_eq_getElem hi
  have f := h.2 i _ e
  unfold cv; rw [e]
  generalize A.slots[i] = v at f
  cases v <;> simp [fits] at f ⊢
/-- the byte that i2b leaves of a char -/
def lo8 (x : Int32) : Int32 := x.toInt8.toInt32
theorem fits_lo8 (y : Int32) : fits .byte (.int (lo8 y)) = true := by
  have h1 := y.toInt8.le_toInt
  have h2 := y.toInt8.toInt_lt
  simp only [lo8, fits, Bool.and_eq_true, decide_eq_true_eq, Int32.le_iff_toInt_le, Int8.toInt_toInt32, show (-128 : Int32).toInt = -128 from by decide, show (127 : Int32).toInt = 127 from by decide]
  omega
/-- A' is A but that each place j of lo .. hi - 1 holds f j -/
def Laid (A A' : Cell) (lo hi : Nat) (f : Nat → Value) : Prop := A'.cls = A.cls ∧ A'.vm = A.vm ∧ A'.slots.size = A.slots.size ∧ ∀ i, A'.slots[i]? = if lo ≤ i ∧ i < hi then some (f i) else A.slots[i]?
theorem Laid.zero (A : Cell) (lo : Nat) (f : Nat → Value) : Laid A A lo (lo + 0) f := ⟨rfl, rfl, rfl, fun i => by rw [if_neg (by omega)]⟩
theorem Laid.step {A Ak : Cell} {lo k : Nat} {f : Nat → Value} {v : Value} (h : Laid A Ak lo k f) (hlo : lo ≤ k) (hk : k < Ak.slots.size) (hv : v = f k) : Laid A (Ak.setSlot k v) lo (k + 1) f := by
  refine ⟨h.1, h.2.1, by simpa [Cell.setSlot] using h.2.2.1, fun i => ?_⟩
  by_cases e : k = i
  · subst e; rw [Cell.slots_setSlot_self v hk, if_pos (by omega), hv]
  · rw [Cell.slots_setSlot_ne v e, h.2.2.2 i]
    by_cases q : lo ≤ i ∧ i < k
    · rw [if_pos q, if_pos (by omega)]
    · rw [if_neg q, if_neg (by omega)]
def U16 : String := "java/lang/StringUTF16"
namespace Cmp5
def yN : MethodName := ⟨"java/lang/StringUTF16", "compress", "([CI[BII)I"⟩
abbrev yB : ByteArray := jdk_52_method_21_code
theorem d0 : decode yB 0 = .ok (.iconst 0, 1) := by decide +kernel
theorem d1 : decode yB 1 = .ok (.istore 5, 2) := by decide +kernel
theorem d3 : decode yB 3 = .ok (.iload 5, 2) := by decide +kernel
theorem d5 : decode yB 5 = .ok (.iload 4, 2) := by decide +kernel
theorem d7 : decode yB 7 = .ok (.if_icmp (.ge) 37, 3) := by decide +kernel
theorem d10 : decode yB 10 = .ok (.aload_n 0, 1) := by decide +kernel
theorem d11 : decode yB 11 = .ok (.iload_n 1, 1) := by decide +kernel
theorem d12 : decode yB 12 = .ok (.caload, 1) := by decide +kernel
theorem d13 : decode yB 13 = .ok (.istore 6, 2) := by decide +kernel
theorem d15 : decode yB 15 = .ok (.iload 6, 2) := by decide +kernel
theorem d17 : decode yB 17 = .ok (.sipush 255, 3) := by decide +kernel
theorem d20 : decode yB 20 = .ok (.if_icmp (.le) 6, 3) := by decide +kernel
theorem d26 : decode yB 26 = .ok (.aload_n 2, 1) := by decide +kernel
theorem d27 : decode yB 27 = .ok (.iload_n 3, 1) := by decide +kernel
theorem d28 : decode yB 28 = .ok (.iload 6, 2) := by decide +kernel
theorem d30 : decode yB 30 = .ok (.i2b, 1) := by decide +kernel
theorem d31 : decode yB 31 = .ok (.bastore, 1) := by decide +kernel
theorem d32 : decode yB 32 = .ok (.iinc 1 1, 3) := by decide +kernel
theorem d35 : decode yB 35 = .ok (.iinc 3 1, 3) := by decide +kernel
theorem d38 : decode yB 38 = .ok (.iinc 5 1, 3) := by decide +kernel
theorem d41 : decode yB 41 = .ok (.goto (-38), 3) := by decide +kernel
theorem d44 : decode yB 44 = .ok (.iload 4, 2) := by decide +kernel
theorem d46 : decode yB 46 = .ok (.ireturn, 1) := by decide +kernel
def site : List Cond := []
def tab : Cond := tabOf yN yB 7 (some .int) site
def P (b : Addr) (A : Cell) (d : Addr) (B : Cell) (o q len : Nat) (args : Array Value) (s : State) : Prop := args = #[.ref b, .int (Int32.ofNat o), .ref d, .int (Int32.ofNat q), .int (Int32.ofNat len)] ∧ Ch b A s ∧ Arr .byte d B s ∧ b ≠ d ∧ o + len ≤ A.slots.size ∧ q + len ≤ B.slots.size ∧ ∀ i, i < len → ¬ 255 < cv A (o + i)
def E (b : Addr) (A : Cell) (d : Addr) (B : Cell) (o q len : Nat) (r : Option Value) (s u : State) : Prop := r = some (.int (Int32.ofNat len)) ∧ ∃ B', Put d B' s u ∧ Laid B B' q (q + len) (fun j => Value.int (lo8 (cv A (o + (j - q)))))
/-- no char of the range above 255: len; the places written hold each char's low byte -/
theorem law (l : Launch) (b : Addr) (A : Cell) (d : Addr) (B : Cell) (o q len : Nat) : Law l yN 5 5 0 0 yB 7 (some .int) site (P b A d B o q len) (E b A d B o q len) (copyLocs d q len) 0 0 := by
  refine Law.of_walk (plainFor_of_name (by decide +kernel)) (by decide +kernel) (by decide +kernel) (by decide) (fun _ _ h => by rw [h.1]; rfl) (fun _ U U' hal hh h => ⟨h.1, h.2.1.mv hal hh, h.2.2.1.mv hal hh, h.2.2.2⟩) (fun r U U' V V' h1 hal h2 h => ⟨h.1, h.2.elim fun B' q => ⟨B', q.1.mv h1 h2, q.2⟩⟩) ?_
  intro p e s m args below meth c s₁ X0 hexec hbytes hml hret hlk hnm hown hh0 W hP
  obtain ⟨rfl, hA, hB, hne, l1, l2, hp⟩ := hP
  have c1 : Steps p.tables e below (s₁.setTop (entryFrame m #[.ref b, .int (Int32.ofNat o), .ref d, .int (Int32.ofNat q), .int (Int32.ofNat len)] 7)) (s₁.setTop (mkF m 0 #[.val (.ref b), .val (.int (Int32.ofNat o)), .val (.ref d), .val (.int (Int32.ofNat q)), .val (.int (Int32.ofNat len)), .unset, .unset] [])) := entry rfl
  have hA0 := hA.1.mv X0.warmed.alike hh0
  have hB0 := hB.mv X0.warmed.alike hh0
  have a31 := hA.1.2.2.2
  have c2 : Steps p.tables e below (s₁.setTop (entryFrame m #[.ref b, .int (Int32.ofNat o), .ref d, .int (Int32.ofNat q), .int (Int32.ofNat len)] 7)) (s₁.setTop (mkF m 3 #[.val (.ref b), .val (.int (Int32.ofNat o)), .val (.ref d), .val (.int (Int32.ofNat q)), .val (.int (Int32.ofNat len)), .val (.int 0), .unset] [])) := c1.trans (by
    refine iconstV X0.here hexec rfl 0 (hb hbytes d0) (by decide) ?_
    refine XS.istore X0.here hexec rfl (hb hbytes d1) rfl rfl ?_
    exact Steps.refl _)
  have loop : ∀ (r i : Nat), i + r = len → ∀ (z : Slot), (z = .unset ∨ ∃ w, z = .val w ∧ w.category = 1) → ∀ (Tl : State) (Bk : Cell), Stand p l e { frames := 0, locals := 0, cells := 0, slots := 0 } s m #[.ref b, .int (Int32.ofNat o), .ref d, .int (Int32.ofNat q), .int (Int32.ofNat len)] below meth c Tl ([] ++ copyLocs d q i) 0 0 → Put d Bk s₁ Tl → Laid B Bk q (q + i) (fun j => Value.int (lo8 (cv A (o + (j - q))))) →
      Steps p.tables e below (s₁.setTop (entryFrame m #[.ref b, .int (Int32.ofNat o), .ref d, .int (Int32.ofNat q), .int (Int32.ofNat len)] 7)) (Tl.setTop (mkF m 3 #[.val (.ref b), .val (.int (Int32.ofNat (o + i))), .val (.ref d), .val (.int (Int32.ofNat (q + i))), .val (.int (Int32.ofNat len)), .val (.int (Int32.ofNat i)), z] [])) → ∃ (T' : State) (B' : Cell) (z' : Slot), Stand p l e { frames := 0, locals := 0, cells := 0, slots := 0 } s m #[.ref b, .int (Int32.ofNat o), .ref d, .int (Int32.ofNat q), .int (Int32.ofNat len)] below meth c T' ([] ++ copyLocs d q len) 0 0 ∧ Put d B' s₁ T' ∧ Laid B B' q (q + len) (fun j => Value.int (lo8 (cv A (o + (j - q))))) ∧
      Steps p.tables e below (s₁.setTop (entryFrame m #[.ref b, .int (Int32.ofNat o), .ref d, .int (Int32.ofNat q), .int (Int32.ofNat len)] 7)) (T'.setTop (mkF m 3 #[.val (.ref b), .val (.int (Int32.ofNat (o + len))), .val (.ref d), .val (.int (Int32.ofNat (q + len))), .val (.int (Int32.ofNat len)), .val (.int (Int32.ofNat len)), z'] [])) := by
    intro r
    induction r with
    | zero =>
      intro i hi z hz Tl Bk Xl pl fl cl
      have hil : i = len := by omega
      rw [hil] at Xl fl cl
      exact ⟨Tl, Bk, z, Xl, pl, fl, cl⟩
    | succ r ih =>
      intro i hi z hz Tl Bk Xl pl fl cl
      have all := X0.warmed.alike.symm.trans Xl.warmed.alike
      have hAl := hA0.keep all (pl.other hne hA0.1)
      have hBk := hB0.like all pl.1 fl.1 fl.2.1 fl.2.2.1
      have hlt : q + i < Bk.slots.size := by rw [fl.2.2.1]; omega
      have c3 : Steps p.tables e below (s₁.setTop (entryFrame m #[.ref b, .int (Int32.ofNat o), .ref d, .int (Int32.ofNat q), .int (Int32.ofNat len)] 7)) (Tl.setTop (mkF m 12 #[.val (.ref b), .val (.int (Int32.ofNat (o + i))), .val (.ref d), .val (.int (Int32.ofNat (q + i))), .val (.int (Int32.ofNat len)), .val (.int (Int32.ofNat i)), z] [.int (Int32.ofNat (o + i)), .ref b])) := cl.trans (by
        refine XS.iload Xl.here hexec rfl (hb hbytes d3) rfl ?_
        refine XS.iload Xl.here hexec rfl (hb hbytes d5) rfl ?_
        refine XS.icmpNo Xl.here hexec rfl (hb hbytes d7) rfl (ii_ge_f (lt32 (by omega) (by omega))) ?_
        refine XS.aloadN Xl.here hexec rfl (hb hbytes d10) rfl rfl ?_
        refine XS.iloadN Xl.here hexec rfl (hb hbytes d11) rfl ?_
        exact Steps.refl _)
      have c4 : Steps p.tables e below (s₁.setTop (entryFrame m #[.ref b, .int (Int32.ofNat o), .ref d, .int (Int32.ofNat q), .int (Int32.ofNat len)] 7)) (Tl.setTop (mkF m 13 #[.val (.ref b), .val (.int (Int32.ofNat (o + i))), .val (.ref d), .val (.int (Int32.ofNat (q + i))), .val (.int (Int32.ofNat len)), .val (.int (Int32.ofNat i)), z] [.int (cv A (o + i))])) := c3.trans (by
        refine Xl.aget hexec hAl rfl (hA.get (i := o + i) (by omega)) rfl rfl (hb hbytes d12) ?_
        exact Steps.refl _)
      have c5 : Steps p.tables e below (s₁.setTop (entryFrame m #[.ref b, .int (Int32.ofNat o), .ref d, .int (Int32.ofNat q), .int (Int32.ofNat len)] 7)) (Tl.setTop (mkF m 15 #[.val (.ref b), .val (.int (Int32.ofNat (o + i))), .val (.ref d), .val (.int (Int32.ofNat (q + i))), .val (.int (Int32.ofNat len)), .val (.int (Int32.ofNat i)), .val (.int (cv A (o + i)))] [])) := c4.trans (by
        refine XS.istoreS Xl.here hexec rfl (hb hbytes d13) rfl rfl hz ?_
        exact Steps.refl _)
      have c6 : Steps p.tables e below (s₁.setTop (entryFrame m #[.ref b, .int (Int32.ofNat o), .ref d, .int (Int32.ofNat q), .int (Int32.ofNat len)] 7)) (Tl.setTop (mkF m 31 #[.val (.ref b), .val (.int (Int32.ofNat (o + i))), .val (.ref d), .val (.int (Int32.ofNat (q + i))), .val (.int (Int32.ofNat len)), .val (.int (Int32.ofNat i)), .val (.int (cv A (o + i)))] [.int (lo8 (cv A (o + i))), .int (Int32.ofNat (q + i)), .ref d])) := c5.trans (by
        refine XS.iload Xl.here hexec rfl (hb hbytes d15) rfl ?_
        refine sipushV Xl.here hexec rfl 255 (hb hbytes d17) (by decide) ?_
        refine XS.icmpYes Xl.here hexec rfl (pc0 := 20) rfl (hb hbytes d20) rfl (ii_le_t (hp i (by omega))) (by decide) rfl ?_
        refine XS.aloadN Xl.here hexec rfl (hb hbytes d26) rfl rfl ?_
        refine XS.iloadN Xl.here hexec rfl (hb hbytes d27) rfl ?_
        refine XS.iload Xl.here hexec rfl (hb hbytes d28) rfl ?_
        refine i2b Xl.here hexec rfl (hb hbytes d30) rfl ?_
        exact Steps.refl _)
      obtain ⟨T7, X7, p7, st7⟩ := Xl.aput hexec hBk rfl hlt rfl (fits_lo8 (cv A (o + i))) (g := (mkF m 31 #[.val (.ref b), .val (.int (Int32.ofNat (o + i))), .val (.ref d), .val (.int (Int32.ofNat (q + i))), .val (.int (Int32.ofNat len)), .val (.int (Int32.ofNat i)), .val (.int (cv A (o + i)))] [.int (lo8 (cv A (o + i))), .int (Int32.ofNat (q + i)), .ref d])) rfl (rest := []) rfl (hb hbytes d31)
      have c8 : Steps p.tables e below (s₁.setTop (entryFrame m #[.ref b, .int (Int32.ofNat o), .ref d, .int (Int32.ofNat q), .int (Int32.ofNat len)] 7)) (T7.setTop (mkF m 32 #[.val (.ref b), .val (.int (Int32.ofNat (o + i))), .val (.ref d), .val (.int (Int32.ofNat (q + i))), .val (.int (Int32.ofNat len)), .val (.int (Int32.ofNat i)), .val (.int (cv A (o + i)))] [])) := c6.trans (st7 _ (Steps.refl _))
      have c9 : Steps p.tables e below (s₁.setTop (entryFrame m #[.ref b, .int (Int32.ofNat o), .ref d, .int (Int32.ofNat q), .int (Int32.ofNat len)] 7)) (T7.setTop (mkF m 3 #[.val (.ref b), .val (.int (Int32.ofNat (o + i) + 1)), .val (.ref d), .val (.int (Int32.ofNat (q + i) + 1)), .val (.int (Int32.ofNat len)), .val (.int (Int32.ofNat i + 1)), .val (.int (cv A (o + i)))] [])) := c8.trans (by
        refine iincV X7.here hexec rfl 1 (hb hbytes d32) (by decide) rfl rfl ?_
        refine iincV X7.here hexec rfl 1 (hb hbytes d35) (by decide) rfl rfl ?_
        refine iincV X7.here hexec rfl 1 (hb hbytes d38) (by decide) rfl rfl ?_
        refine XS.goto X7.here hexec rfl (pc0 := 41) rfl (hb hbytes d41) (by decide) rfl ?_
        exact Steps.refl _)
      have c10 : Steps p.tables e below (s₁.setTop (entryFrame m #[.ref b, .int (Int32.ofNat o), .ref d, .int (Int32.ofNat q), .int (Int32.ofNat len)] 7)) (T7.setTop (mkF m 3 #[.val (.ref b), .val (.int (Int32.ofNat (o + (i + 1)))), .val (.ref d), .val (.int (Int32.ofNat (q + (i + 1)))), .val (.int (Int32.ofNat len)), .val (.int (Int32.ofNat (i + 1))), .val (.int (cv A (o + i)))] [])) := by
        have := c9
        rw [succ32, succ32, succ32] at this
        exact this
      exact ih (i + 1) (by omega) _ (Or.inr ⟨_, rfl, rfl⟩) T7 _ (by rw [copyLocs_step, ← List.append_assoc]; exact X7) (pl.trans p7) (fl.step (by omega) hlt (by simp)) c10
  obtain ⟨T9, B9, z9, X9, p9, f9, g9⟩ := loop len 0 (by omega) .unset (Or.inl rfl) s₁ B (by simpa [copyLocs] using X0) ⟨hB0.1, fun _ _ => rfl, rfl⟩ (Laid.zero _ _ _) c2
  have c11 : Steps p.tables e below (s₁.setTop (entryFrame m #[.ref b, .int (Int32.ofNat o), .ref d, .int (Int32.ofNat q), .int (Int32.ofNat len)] 7)) (T9.setTop (mkF m 46 #[.val (.ref b), .val (.int (Int32.ofNat (o + len))), .val (.ref d), .val (.int (Int32.ofNat (q + len))), .val (.int (Int32.ofNat len)), .val (.int (Int32.ofNat len)), z9] [.int (Int32.ofNat len)])) := g9.trans (by
    refine XS.iload X9.here hexec rfl (hb hbytes d3) rfl ?_
    refine XS.iload X9.here hexec rfl (hb hbytes d5) rfl ?_
    refine XS.icmpYes X9.here hexec rfl (pc0 := 7) rfl (hb hbytes d7) rfl (ii_ge_t (nlt32 (by omega) (Nat.le_refl _))) (by decide) rfl ?_
    refine XS.iload X9.here hexec rfl (hb hbytes d44) rfl ?_
    exact Steps.refl _)
  exact ⟨T9, some (.int (Int32.ofNat len)), _, _, _, X9, by simp, rfl, rfl, (fun h => by cases h), ⟨rfl, B9, p9.from hh0, f9⟩, fun fs hl => c11.trans (X9.ireturnOut hexec hret rfl (Or.inl rfl) (hb hbytes d46) hl)⟩
end Cmp5
namespace Cmp3
def yN : MethodName := ⟨"java/lang/StringUTF16", "compress", "([CII)[B"⟩
abbrev yB : ByteArray := jdk_52_method_16_code
theorem d0 : decode yB 0 = .ok (.iload_n 2, 1) := by decide +kernel
theorem d1 : decode yB 1 = .ok (.newarray .byte, 2) := by decide +kernel
theorem d3 : decode yB 3 = .ok (.astore_n 3, 1) := by decide +kernel
theorem d4 : decode yB 4 = .ok (.aload_n 0, 1) := by decide +kernel
theorem d5 : decode yB 5 = .ok (.iload_n 1, 1) := by decide +kernel
theorem d6 : decode yB 6 = .ok (.aload_n 3, 1) := by decide +kernel
theorem d7 : decode yB 7 = .ok (.iconst 0, 1) := by decide +kernel
theorem d8 : decode yB 8 = .ok (.iload_n 2, 1) := by decide +kernel
theorem d9 : decode yB 9 = .ok (.invokestatic 115, 3) := by decide +kernel
theorem d12 : decode yB 12 = .ok (.istore 4, 2) := by decide +kernel
theorem d14 : decode yB 14 = .ok (.iload 4, 2) := by decide +kernel
theorem d16 : decode yB 16 = .ok (.iload_n 2, 1) := by decide +kernel
theorem d17 : decode yB 17 = .ok (.if_icmp (.eq) 40, 3) := by decide +kernel
theorem d57 : decode yB 57 = .ok (.aload_n 3, 1) := by decide +kernel
theorem d58 : decode yB 58 = .ok (.areturn, 1) := by decide +kernel
def site : List Cond := [.arrayClass .byte, Cmp5.tab] ++ staticW U16 115 Cmp5.yN
def tab : Cond := tabOf yN yB 6 (some (.array .byte)) site
def P (b : Addr) (A : Cell) (o len : Nat) (args : Array Value) (s : State) : Prop := args = #[.ref b, .int (Int32.ofNat o), .int (Int32.ofNat len)] ∧ Ch b A s ∧ o + len ≤ A.slots.size ∧ len ≤ 536870912 ∧ ∀ i, i < len → ¬ 255 < cv A (o + i)
def E (b : Addr) (A : Cell) (o len : Nat) (r : Option Value) (s u : State) : Prop := NewArr .byte "[B" len (fun j => .int (lo8 (cv A (o + j)))) r s u ∧ u.heap.size = s.heap.size + 1
/-- no char of the range above 255: a new byte[] of their low bytes -/
theorem law (l : Launch) (b : Addr) (A : Cell) (o len : Nat) : Law l yN 3 3 1 18 yB 6 (some (.array .byte)) site (P b A o len) (E b A o len) [] 1 len := by
  refine Law.of_walk (plainFor_of_name (by decide +kernel)) (by decide +kernel) (by decide +kernel) (by decide) (fun _ _ h => by rw [h.1]; rfl) (fun _ U U' hal hh h => ⟨h.1, h.2.1.mv hal hh, h.2.2⟩) (fun r U U' V V' h1 hal h2 h => ⟨NewArr.mv r U U' V V' h1 hal h2 h.1, by rw [h1, h2]; exact h.2⟩) ?_
  intro p e s m args below meth c s₁ X0 hexec hbytes hml hret hlk hnm hown hh0 W hP
  obtain ⟨rfl, hA, l1, l2, hp⟩ := hP
  have a31 := hA.1.2.2.2
  have c1 : Steps p.tables e below (s₁.setTop (entryFrame m #[.ref b, .int (Int32.ofNat o), .int (Int32.ofNat len)] 6)) (s₁.setTop (mkF m 0 #[.val (.ref b), .val (.int (Int32.ofNat o)), .val (.int (Int32.ofNat len)), .unset, .unset, .unset] [])) := entry rfl
  have c2 : Steps p.tables e below (s₁.setTop (entryFrame m #[.ref b, .int (Int32.ofNat o), .int (Int32.ofNat len)] 6)) (s₁.setTop (mkF m 1 #[.val (.ref b), .val (.int (Int32.ofNat o)), .val (.int (Int32.ofNat len)), .unset, .unset, .unset] [.int (Int32.ofNat len)])) := c1.trans (by
    refine XS.iloadN X0.here hexec rfl (hb hbytes d0) rfl ?_
    exact Steps.refl _)
  obtain ⟨T3, B3, X3, ba3, bs3, bv3, bh3, bf3, st3⟩ := X0.anew hexec (atype := .byte) (wk W (.arrayClass .byte)) rfl (by show len * 1 ≤ _; omega) (by omega) (g := (mkF m 1 #[.val (.ref b), .val (.int (Int32.ofNat o)), .val (.int (Int32.ofNat len)), .unset, .unset, .unset] [.int (Int32.ofNat len)])) rfl (hb hbytes d1) (rest := []) rfl (Nat.le_refl _) (by show 0 + len ≤ len; omega)
  rw [hh0] at ba3 st3
  have kp3 : XT.Kept s T3 := (XT.Kept.of_eq hh0).push bh3
  have hA3 := hA.keep X3.warmed.alike (kp3 _ _ hA.1.1)
  have hne : b ≠ s.heap.size := hA.1.ne
  have c4 : Steps p.tables e below (s₁.setTop (entryFrame m #[.ref b, .int (Int32.ofNat o), .int (Int32.ofNat len)] 6)) (T3.setTop (mkF m 3 #[.val (.ref b), .val (.int (Int32.ofNat o)), .val (.int (Int32.ofNat len)), .unset, .unset, .unset] [.ref s.heap.size])) := c2.trans (st3 _ (Steps.refl _))
  have c5 : Steps p.tables e below (s₁.setTop (entryFrame m #[.ref b, .int (Int32.ofNat o), .int (Int32.ofNat len)] 6)) (T3.setTop (mkF m 9 #[.val (.ref b), .val (.int (Int32.ofNat o)), .val (.int (Int32.ofNat len)), .val (.ref s.heap.size), .unset, .unset] [.int (Int32.ofNat len), .int 0, .ref s.heap.size, .int (Int32.ofNat o), .ref b])) := c4.trans (by
    refine XS.astoreN X3.here hexec rfl (hb hbytes d3) rfl rfl rfl ?_
    refine XS.aloadN X3.here hexec rfl (hb hbytes d4) rfl rfl ?_
    refine XS.iloadN X3.here hexec rfl (hb hbytes d5) rfl ?_
    refine XS.aloadN X3.here hexec rfl (hb hbytes d6) rfl rfl ?_
    refine iconstV X3.here hexec rfl 0 (hb hbytes d7) (by decide) ?_
    refine XS.iloadN X3.here hexec rfl (hb hbytes d8) rfl ?_
    exact Steps.refl _)
  obtain ⟨v6, T6, X6, E6, g6⟩ := X3.callS hexec (Cmp5.law l b A s.heap.size B3 o 0 len) hown (wks W (staticW U16 115 Cmp5.yN)) (wk W Cmp5.tab) (W := 0) (Nat.le_of_ble_eq_true rfl) (Nat.le_of_ble_eq_true rfl) (Nat.le_refl _) (by show 0 + len + 0 ≤ len; omega) (g := (mkF m 9 #[.val (.ref b), .val (.int (Int32.ofNat o)), .val (.int (Int32.ofNat len)), .val (.ref s.heap.size), .unset, .unset] [.int (Int32.ofNat len), .int (Int32.ofNat 0), .ref s.heap.size, .int (Int32.ofNat o), .ref b])) rfl (by rw [hml]; rfl) c5 (argsL := [.ref b, .int (Int32.ofNat o), .ref s.heap.size, .int (Int32.ofNat 0), .int (Int32.ofNat len)]) (rest := []) rfl rfl (by show 2 * 0 + 0 ≤ _; decide) (hb hbytes d9) (⟨rfl, hA3, ba3, hne, l1, by rw [bs3]; simp, hp⟩)
  obtain ⟨rfl, B6, p6, f6⟩ := E6
  have c7 : Steps p.tables e below (s₁.setTop (entryFrame m #[.ref b, .int (Int32.ofNat o), .int (Int32.ofNat len)] 6)) (T6.setTop (mkF m 12 #[.val (.ref b), .val (.int (Int32.ofNat o)), .val (.int (Int32.ofNat len)), .val (.ref s.heap.size), .unset, .unset] [.int (Int32.ofNat len)])) := g6
  have c8 : Steps p.tables e below (s₁.setTop (entryFrame m #[.ref b, .int (Int32.ofNat o), .int (Int32.ofNat len)] 6)) (T6.setTop (mkF m 58 #[.val (.ref b), .val (.int (Int32.ofNat o)), .val (.int (Int32.ofNat len)), .val (.ref s.heap.size), .val (.int (Int32.ofNat len)), .unset] [.ref s.heap.size])) := c7.trans (by
    refine XS.istore X6.here hexec rfl (hb hbytes d12) rfl rfl ?_
    refine XS.iload X6.here hexec rfl (hb hbytes d14) rfl ?_
    refine XS.iloadN X6.here hexec rfl (hb hbytes d16) rfl ?_
    refine XS.icmpYes X6.here hexec rfl (pc0 := 17) rfl (hb hbytes d17) rfl (ii_eq_t rfl) (by decide) rfl ?_
    refine XS.aloadN X6.here hexec rfl (hb hbytes d57) rfl rfl ?_
    exact Steps.refl _)
  have X8 := X6.wide (L' := []) (cells' := 1) (slots' := len) (fun x hx hlt => by
    simp only [List.nil_append, copyLocs, List.mem_map, List.mem_range] at hx
    obtain ⟨i, -, rfl⟩ := hx
    exact absurd hlt (Nat.lt_irrefl _)) (Nat.le_refl _) (by omega)
  exact ⟨T6, some (.ref s.heap.size), _, _, _, X8, rfl, rfl, rfl, (fun h => by cases h), ⟨⟨rfl, B6, ba3.like (X3.warmed.alike.symm.trans X6.warmed.alike) p6.1 f6.1 f6.2.1 f6.2.2.1, f6.2.1.trans bv3, by rw [X6.warmed.alike.findClass, f6.1]; exact bf3, by rw [f6.2.2.1, bs3]; simp, fun j hj => by rw [f6.2.2.2 j, if_pos (by omega)]; rfl, kp3.put p6 (Nat.le_refl _)⟩, by rw [p6.2.2, bh3, hh0]; simp⟩, fun fs hl => c8.trans (X8.areturnOut hexec rfl hret rfl (hb hbytes d58) hl)⟩
end Cmp3
namespace CodL
def yN : MethodName := ⟨"java/lang/StringUTF16", "coderFromArrayLen", "([BI)B"⟩
abbrev yB : ByteArray := jdk_52_method_15_code
theorem d0 : decode yB 0 = .ok (.iload_n 1, 1) := by decide +kernel
theorem d1 : decode yB 1 = .ok (.aload_n 0, 1) := by decide +kernel
theorem d2 : decode yB 2 = .ok (.arraylength, 1) := by decide +kernel
theorem d3 : decode yB 3 = .ok (.isub, 1) := by decide +kernel
theorem d4 : decode yB 4 = .ok (.bipush 31, 2) := by decide +kernel
theorem d6 : decode yB 6 = .ok (.iushr, 1) := by decide +kernel
theorem d7 : decode yB 7 = .ok (.i2b, 1) := by decide +kernel
theorem d8 : decode yB 8 = .ok (.ireturn, 1) := by decide +kernel
def site : List Cond := []
def tab : Cond := tabOf yN yB 2 (some .byte) site
def P (d : Addr) (B : Cell) (args : Array Value) (s : State) : Prop := args = #[.ref d, .int (Int32.ofNat B.slots.size)] ∧ Arr .byte d B s
def E (r : Option Value) (s u : State) : Prop := XT.PureE (some (.int 0)) r s u
/-- an array as long as the number of chars: LATIN1 -/
theorem law (l : Launch) (d : Addr) (B : Cell) : Law l yN 2 2 0 0 yB 2 (some .byte) site (P d B) E [] 0 0 := by
  refine Law.of_walk (plainFor_of_name (by decide +kernel)) (by decide +kernel) (by decide +kernel) (by decide) (fun _ _ h => by rw [h.1]; rfl) (fun _ U U' hal hh h => ⟨h.1, h.2.mv hal hh⟩) (fun r U U' V V' h1 hal h2 h => XT.PureE.mv r U U' V V' h1 hal h2 h) ?_
  intro p e s m args below meth c s₁ X0 hexec hbytes hml hret hlk hnm hown hh0 W hP
  obtain ⟨rfl, hB⟩ := hP
  have hB0 := hB.mv X0.warmed.alike hh0
  have c1 : Steps p.tables e below (s₁.setTop (entryFrame m #[.ref d, .int (Int32.ofNat B.slots.size)] 2)) (s₁.setTop (mkF m 0 #[.val (.ref d), .val (.int (Int32.ofNat B.slots.size))] [])) := entry rfl
  have c2 : Steps p.tables e below (s₁.setTop (entryFrame m #[.ref d, .int (Int32.ofNat B.slots.size)] 2)) (s₁.setTop (mkF m 2 #[.val (.ref d), .val (.int (Int32.ofNat B.slots.size))] [.ref d, .int (Int32.ofNat B.slots.size)])) := c1.trans (by
    refine XS.iloadN X0.here hexec rfl (hb hbytes d0) rfl ?_
    refine XS.aloadN X0.here hexec rfl (hb hbytes d1) rfl rfl ?_
    exact Steps.refl _)
  have c3 : Steps p.tables e below (s₁.setTop (entryFrame m #[.ref d, .int (Int32.ofNat B.slots.size)] 2)) (s₁.setTop (mkF m 8 #[.val (.ref d), .val (.int (Int32.ofNat B.slots.size))] [.int (lo8 (ushr (Int32.ofNat B.slots.size - Int32.ofNat B.slots.size) 31))])) := c2.trans (by
    refine X0.alen hexec hB0 rfl rfl (hb hbytes d2) ?_
    refine XS.isub X0.here hexec rfl (hb hbytes d3) rfl ?_
    refine bipushV X0.here hexec rfl 31 (hb hbytes d4) (by decide) ?_
    refine iushr X0.here hexec rfl (hb hbytes d6) rfl ?_
    refine i2b X0.here hexec rfl (hb hbytes d7) rfl ?_
    exact Steps.refl _)
  have e0 : lo8 (ushr (Int32.ofNat B.slots.size - Int32.ofNat B.slots.size) 31) = 0 := by rw [Int32.sub_self]; decide
  rw [e0] at c3
  exact ⟨s₁, some (.int 0), _, _, _, X0, rfl, rfl, rfl, (fun h => by cases h), ⟨rfl, hh0⟩, fun fs hl => c3.trans (X0.ireturnOut hexec hret rfl (Or.inr (Or.inr (Or.inl rfl))) (hb hbytes d8) hl)⟩
end CodL
/-- the String at a is Latin-1 over a new byte[] (the heap's one new cell): the low bytes of the len chars of A from o on; every cell but a is kept -/
def Got (a : Addr) (D : Cell) (fV fC : Field) (A : Cell) (o len : Nat) (r : Option Value) (s u : State) : Prop := r = none ∧ ∃ D' V : Cell, Blank "java/lang/String" a D' u ∧ Same D D' [fV.slot, fC.slot] ∧ D'.slots[fV.slot]? = some (.ref s.heap.size) ∧ D'.slots[fC.slot]? = some (.int 0) ∧ Arr .byte s.heap.size V u ∧ V.vm = .none ∧ u.vm.findClass "[B" = some V.cls ∧ V.slots.size = len ∧ (∀ j, j < len → V.slots[j]? = some (.int (lo8 (cv A (o + j))))) ∧ (∀ (y : Addr) (c : Cell), y ≠ a → s.heap[y]? = some c → u.heap[y]? = some c) ∧ u.heap.size = s.heap.size + 1
theorem Got.mv {a : Addr} {D A : Cell} {fV fC : Field} {o len : Nat} : ∀ r (U U' V V' : State), U'.heap = U.heap → V.vm.Alike V'.vm → V'.heap = V.heap → Got a D fV fC A o len r U V → Got a D fV fC A o len r U' V' :=
  fun r U U' V V' h1 hal h2 ⟨e0, D', X, a1, a2, a3, a4, a5, a6, a7, a8, a9, a10, a11⟩ => ⟨e0, D', X, a1.mv hal h2, a2, by rw [h1]; exact a3, a4, by rw [h1]; exact a5.mv hal h2, a6, by rw [hal.findClass]; exact a7, a8, a9, by rw [h1, h2]; exact a10, by rw [h1, h2]; exact a11⟩
namespace New4
def yN : MethodName := ⟨"java/lang/String", "<init>", "([CIILjava/lang/Void;)V"⟩
abbrev yB : ByteArray := jdk_42_method_149_code
theorem d0 : decode yB 0 = .ok (.aload_n 0, 1) := by decide +kernel
theorem d1 : decode yB 1 = .ok (.invokespecial 1, 3) := by decide +kernel
theorem d4 : decode yB 4 = .ok (.iload_n 3, 1) := by decide +kernel
theorem d5 : decode yB 5 = .ok (.ifCond (.ne) 22, 3) := by decide +kernel
theorem d27 : decode yB 27 = .ok (.getstatic 38, 3) := by decide +kernel
theorem d30 : decode yB 30 = .ok (.ifCond (.eq) 28, 3) := by decide +kernel
theorem d33 : decode yB 33 = .ok (.aload_n 1, 1) := by decide +kernel
theorem d34 : decode yB 34 = .ok (.iload_n 2, 1) := by decide +kernel
theorem d35 : decode yB 35 = .ok (.iload_n 3, 1) := by decide +kernel
theorem d36 : decode yB 36 = .ok (.invokestatic 177, 3) := by decide +kernel
theorem d39 : decode yB 39 = .ok (.astore 5, 2) := by decide +kernel
theorem d41 : decode yB 41 = .ok (.aload_n 0, 1) := by decide +kernel
theorem d42 : decode yB 42 = .ok (.aload 5, 2) := by decide +kernel
theorem d44 : decode yB 44 = .ok (.iload_n 3, 1) := by decide +kernel
theorem d45 : decode yB 45 = .ok (.invokestatic 47, 3) := by decide +kernel
theorem d48 : decode yB 48 = .ok (.putfield 15, 3) := by decide +kernel
theorem d51 : decode yB 51 = .ok (.aload_n 0, 1) := by decide +kernel
theorem d52 : decode yB 52 = .ok (.aload 5, 2) := by decide +kernel
theorem d54 : decode yB 54 = .ok (.putfield 9, 3) := by decide +kernel
theorem d57 : decode yB 57 = .ok (.return_, 1) := by decide +kernel
def site : List Cond := [.fieldLink "java/lang/String" 38 "java/lang/String" "COMPACT_STRINGS" "Z", Cmp3.tab, CodL.tab, .laysFinal "java/lang/String" "java/lang/String" "value" "[B", .fieldLink "java/lang/String" 9 "java/lang/String" "value" "[B", .laysFinal "java/lang/String" "java/lang/String" "coder" "B", .fieldLink "java/lang/String" 15 "java/lang/String" "coder" "B"] ++ objW "java/lang/String" 1 ++ staticW "java/lang/String" 177 Cmp3.yN ++ staticW "java/lang/String" 47 CodL.yN
def tab : Cond := tabOf yN yB 6 none site
def P (a : Addr) (D : Cell) (fV fC : Field) (b : Addr) (A : Cell) (z : Int32) (o len : Nat) (args : Array Value) (s : State) : Prop := args = #[.ref a, .ref b, .int (Int32.ofNat o), .int (Int32.ofNat len), .null] ∧ Blank "java/lang/String" a D s ∧ Found "java/lang/String" "value" "[B" fV s ∧ Found "java/lang/String" "coder" "B" fC s ∧ Ch b A s ∧ StaticIs s "java/lang/String" "COMPACT_STRINGS" "Z" (.int z) ∧ ¬ z = 0 ∧ 0 < len ∧ o + len ≤ A.slots.size ∧ len ≤ 536870912 ∧ ∀ i, i < len → ¬ 255 < cv A (o + i)
def E (a : Addr) (D : Cell) (fV fC : Field) (A : Cell) (o len : Nat) (r : Option Value) (s u : State) : Prop := Got a D fV fC A o len r s u
/-- len > 0, no char of the range above 255: a Latin-1 String of their low bytes -/
theorem law (l : Launch) (a : Addr) (D : Cell) (fV fC : Field) (b : Addr) (A : Cell) (z : Int32) (o len : Nat) : Law l yN 5 4 2 35 yB 6 none site (P a D fV fC b A z o len) (E a D fV fC A o len) [⟨a, fC.slot⟩, ⟨a, fV.slot⟩] 1 len := by
  refine Law.of_walk (plainFor_of_name (by decide +kernel)) (by decide +kernel) (by decide +kernel) (by decide) (fun _ _ h => by rw [h.1]; rfl) (fun _ U U' hal hh h => ⟨h.1, h.2.1.mv hal hh, h.2.2.1.al hal, h.2.2.2.1.al hal, h.2.2.2.2.1.mv hal hh, h.2.2.2.2.2.1.there hal hh, h.2.2.2.2.2.2⟩) (fun r U U' V V' h1 hal h2 h => Got.mv r U U' V V' h1 hal h2 h) ?_
  intro p e s m args below meth c s₁ X0 hexec hbytes hml hret hlk hnm hown hh0 W hP
  obtain ⟨rfl, hB, f1, f2, hA, s1, hz, l0, l1, l2, hp⟩ := hP
  have a31 := hA.1.2.2.2
  have c1 : Steps p.tables e below (s₁.setTop (entryFrame m #[.ref a, .ref b, .int (Int32.ofNat o), .int (Int32.ofNat len), .null] 6)) (s₁.setTop (mkF m 0 #[.val (.ref a), .val (.ref b), .val (.int (Int32.ofNat o)), .val (.int (Int32.ofNat len)), .val .null, .unset] [])) := entry rfl
  have c2 : Steps p.tables e below (s₁.setTop (entryFrame m #[.ref a, .ref b, .int (Int32.ofNat o), .int (Int32.ofNat len), .null] 6)) (s₁.setTop (mkF m 1 #[.val (.ref a), .val (.ref b), .val (.int (Int32.ofNat o)), .val (.int (Int32.ofNat len)), .val .null, .unset] [.ref a])) := c1.trans (by
    refine XS.aloadN X0.here hexec rfl (hb hbytes d0) rfl rfl ?_
    exact Steps.refl _)
  obtain ⟨T3, X3, q3, st3⟩ := X0.oinit hexec hown (wks W (objW "java/lang/String" 1)) (g := (mkF m 1 #[.val (.ref a), .val (.ref b), .val (.int (Int32.ofNat o)), .val (.int (Int32.ofNat len)), .val .null, .unset] [.ref a])) rfl (by rw [hml]; rfl) (rest := []) rfl (hb hbytes d1) (W := 0) (by show 2 * 0 + 0 ≤ _; decide) (Nat.le_of_ble_eq_true rfl) (Nat.le_of_ble_eq_true rfl)
  have hh3 := q3.trans hh0
  have c4 : Steps p.tables e below (s₁.setTop (entryFrame m #[.ref a, .ref b, .int (Int32.ofNat o), .int (Int32.ofNat len), .null] 6)) (T3.setTop (mkF m 27 #[.val (.ref a), .val (.ref b), .val (.int (Int32.ofNat o)), .val (.int (Int32.ofNat len)), .val .null, .unset] [])) := (c2.trans (st3 _ (Steps.refl _))).trans (by
    refine XS.iloadN X3.here hexec rfl (hb hbytes d4) rfl ?_
    refine XS.ifYes X3.here hexec rfl (pc0 := 5) rfl (hb hbytes d5) rfl (i0_ne_t (nz32 (by omega) l0)) (by decide) rfl ?_
    exact Steps.refl _)
  obtain ⟨T5, X5, q5, st5⟩ := X3.sget hexec hown (wk W (.fieldLink "java/lang/String" 38 "java/lang/String" "COMPACT_STRINGS" "Z")) s1 (fun _ _ h => by rw [hh3]; exact h) (g := (mkF m 27 #[.val (.ref a), .val (.ref b), .val (.int (Int32.ofNat o)), .val (.int (Int32.ofNat len)), .val .null, .unset] [])) rfl (hb hbytes d27)
  have hh5 := q5.trans hh3
  have c6 : Steps p.tables e below (s₁.setTop (entryFrame m #[.ref a, .ref b, .int (Int32.ofNat o), .int (Int32.ofNat len), .null] 6)) (T5.setTop (mkF m 30 #[.val (.ref a), .val (.ref b), .val (.int (Int32.ofNat o)), .val (.int (Int32.ofNat len)), .val .null, .unset] [.int z])) := c4.trans (st5 _ (Steps.refl _))
  have c7 : Steps p.tables e below (s₁.setTop (entryFrame m #[.ref a, .ref b, .int (Int32.ofNat o), .int (Int32.ofNat len), .null] 6)) (T5.setTop (mkF m 36 #[.val (.ref a), .val (.ref b), .val (.int (Int32.ofNat o)), .val (.int (Int32.ofNat len)), .val .null, .unset] [.int (Int32.ofNat len), .int (Int32.ofNat o), .ref b])) := c6.trans (by
    refine XS.ifNo X5.here hexec rfl (hb hbytes d30) rfl (i0_eq_f hz) ?_
    refine XS.aloadN X5.here hexec rfl (hb hbytes d33) rfl rfl ?_
    refine XS.iloadN X5.here hexec rfl (hb hbytes d34) rfl ?_
    refine XS.iloadN X5.here hexec rfl (hb hbytes d35) rfl ?_
    exact Steps.refl _)
  obtain ⟨v8, T8, X8, E8, g8⟩ := X5.callS hexec (Cmp3.law l b A o len) hown (wks W (staticW "java/lang/String" 177 Cmp3.yN)) (wk W Cmp3.tab) (W := 0) (Nat.le_of_ble_eq_true rfl) (Nat.le_of_ble_eq_true rfl) (Nat.le_refl _) (by show 0 + len ≤ len; omega) (g := (mkF m 36 #[.val (.ref a), .val (.ref b), .val (.int (Int32.ofNat o)), .val (.int (Int32.ofNat len)), .val .null, .unset] [.int (Int32.ofNat len), .int (Int32.ofNat o), .ref b])) rfl (by rw [hml]; rfl) c7 (argsL := [.ref b, .int (Int32.ofNat o), .int (Int32.ofNat len)]) (rest := []) rfl rfl (by show 2 * 0 + 0 ≤ _; decide) (hb hbytes d36) (⟨rfl, hA.mv X5.warmed.alike hh5, l1, l2, hp⟩)
  obtain ⟨e8, z8⟩ := E8
  obtain ⟨rfl, N, n1, n2, n3, n4, n5, n6⟩ := NewArr.mv _ T5 s _ _ hh5.symm (Vm.Alike.refl _) rfl e8
  rw [hh5] at z8
  have hB1 := hB.keep X8.warmed.alike (n6 _ _ hB.1)
  have hne : s.heap.size ≠ a := (Nat.ne_of_lt (Array.getElem?_eq_some_iff.mp hB.1).1).symm
  have c9 : Steps p.tables e below (s₁.setTop (entryFrame m #[.ref a, .ref b, .int (Int32.ofNat o), .int (Int32.ofNat len), .null] 6)) (T8.setTop (mkF m 39 #[.val (.ref a), .val (.ref b), .val (.int (Int32.ofNat o)), .val (.int (Int32.ofNat len)), .val .null, .unset] [.ref s.heap.size])) := g8
  have c10 : Steps p.tables e below (s₁.setTop (entryFrame m #[.ref a, .ref b, .int (Int32.ofNat o), .int (Int32.ofNat len), .null] 6)) (T8.setTop (mkF m 45 #[.val (.ref a), .val (.ref b), .val (.int (Int32.ofNat o)), .val (.int (Int32.ofNat len)), .val .null, .val (.ref s.heap.size)] [.int (Int32.ofNat N.slots.size), .ref s.heap.size, .ref a])) := by
    have hc : Steps p.tables e below (s₁.setTop (entryFrame m #[.ref a, .ref b, .int (Int32.ofNat o), .int (Int32.ofNat len), .null] 6)) (T8.setTop (mkF m 45 #[.val (.ref a), .val (.ref b), .val (.int (Int32.ofNat o)), .val (.int (Int32.ofNat len)), .val .null, .val (.ref s.heap.size)] [.int (Int32.ofNat len), .ref s.heap.size, .ref a])) := c9.trans (by
      refine XS.astore X8.here hexec rfl (hb hbytes d39) rfl rfl rfl ?_
      refine XS.aloadN X8.here hexec rfl (hb hbytes d41) rfl rfl ?_
      refine XS.aload X8.here hexec rfl (hb hbytes d42) rfl rfl ?_
      refine XS.iloadN X8.here hexec rfl (hb hbytes d44) rfl ?_
      exact Steps.refl _)
    rw [n4]; exact hc
  obtain ⟨v11, T11, X11, E11, g11⟩ := X8.callS hexec (CodL.law l s.heap.size N) hown (wks W (staticW "java/lang/String" 47 CodL.yN)) (wk W CodL.tab) (W := 1) (Nat.le_of_ble_eq_true rfl) (Nat.le_of_ble_eq_true rfl) (Nat.le_refl _) (by show 0 + len + 0 ≤ len; omega) (g := (mkF m 45 #[.val (.ref a), .val (.ref b), .val (.int (Int32.ofNat o)), .val (.int (Int32.ofNat len)), .val .null, .val (.ref s.heap.size)] [.int (Int32.ofNat N.slots.size), .ref s.heap.size, .ref a])) rfl (by rw [hml]; rfl) c10 (argsL := [.ref s.heap.size, .int (Int32.ofNat N.slots.size)]) (rest := [.ref a]) rfl rfl (by show 2 * 0 + (1 + 0) ≤ _; decide) (hb hbytes d45) (⟨rfl, n1⟩)
  obtain ⟨rfl, q11⟩ := E11
  have hB11 := hB1.mv (X8.warmed.alike.symm.trans X11.warmed.alike) q11
  have c12 : Steps p.tables e below (s₁.setTop (entryFrame m #[.ref a, .ref b, .int (Int32.ofNat o), .int (Int32.ofNat len), .null] 6)) (T11.setTop (mkF m 48 #[.val (.ref a), .val (.ref b), .val (.int (Int32.ofNat o)), .val (.int (Int32.ofNat len)), .val .null, .val (.ref s.heap.size)] [.int 0, .ref a])) := g11
  obtain ⟨T13, X13, p13, bl13, sl13, st13⟩ := X11.finit hexec hown (wk W (.fieldLink "java/lang/String" 15 "java/lang/String" "coder" "B")) (Or.inr ⟨_, (wk W (.laysFinal "java/lang/String" "java/lang/String" "coder" "B"))⟩) (Or.inl ⟨rfl, hnm⟩) f2 (Or.inl rfl) hB11 (t := .byte) (by decide +kernel) rfl (g := (mkF m 48 #[.val (.ref a), .val (.ref b), .val (.int (Int32.ofNat o)), .val (.int (Int32.ofNat len)), .val .null, .val (.ref s.heap.size)] [.int 0, .ref a])) rfl (rest := []) rfl (hb hbytes d48)
  have c14 : Steps p.tables e below (s₁.setTop (entryFrame m #[.ref a, .ref b, .int (Int32.ofNat o), .int (Int32.ofNat len), .null] 6)) (T13.setTop (mkF m 54 #[.val (.ref a), .val (.ref b), .val (.int (Int32.ofNat o)), .val (.int (Int32.ofNat len)), .val .null, .val (.ref s.heap.size)] [.ref s.heap.size, .ref a])) := (c12.trans (st13 _ (Steps.refl _))).trans (by
    refine XS.aloadN X13.here hexec rfl (hb hbytes d51) rfl rfl ?_
    refine XS.aload X13.here hexec rfl (hb hbytes d52) rfl rfl ?_
    exact Steps.refl _)
  obtain ⟨T15, X15, p15, bl15, sl15, st15⟩ := X13.finit hexec hown (wk W (.fieldLink "java/lang/String" 9 "java/lang/String" "value" "[B")) (Or.inr ⟨_, (wk W (.laysFinal "java/lang/String" "java/lang/String" "value" "[B"))⟩) (Or.inl ⟨rfl, hnm⟩) f1 (Or.inl rfl) bl13 (t := (.array .byte)) (by decide +kernel) rfl (g := (mkF m 54 #[.val (.ref a), .val (.ref b), .val (.int (Int32.ofNat o)), .val (.int (Int32.ofNat len)), .val .null, .val (.ref s.heap.size)] [.ref s.heap.size, .ref a])) rfl (rest := []) rfl (hb hbytes d54)
  have c16 : Steps p.tables e below (s₁.setTop (entryFrame m #[.ref a, .ref b, .int (Int32.ofNat o), .int (Int32.ofNat len), .null] 6)) (T15.setTop (mkF m 57 #[.val (.ref a), .val (.ref b), .val (.int (Int32.ofNat o)), .val (.int (Int32.ofNat len)), .val .null, .val (.ref s.heap.size)] [])) := c14.trans (st15 _ (Steps.refl _))
  have ap := apart (Or.inr ⟨_, (wk W (.laysFinal "java/lang/String" "java/lang/String" "value" "[B"))⟩) (Or.inr ⟨_, (wk W (.laysFinal "java/lang/String" "java/lang/String" "coder" "B"))⟩) f1 f2 (t₁ := .array .byte) (t₂ := .byte) (by decide +kernel) (by decide +kernel) (by decide)
  have al := X8.warmed.alike.symm.trans X15.warmed.alike
  have n7 : T11.heap[s.heap.size]? = some N := by rw [q11]; exact n1.1
  exact ⟨T15, none, _, _, _, X15, by simp, rfl, by omega, (fun _ => rfl), ⟨rfl, _, N, bl15, ((Same.refl D _).set _ (by simp)).set _ (by simp), sl15, (Cell.slots_setSlot_ne _ ap).trans sl13, n1.keep al (p15.other hne (p13.other hne n7)), n2, by rw [al.findClass]; exact n3, n4, n5, fun y c h1 h2 => p15.other h1 (p13.other h1 (by rw [q11]; exact n6 y c h2)), by rw [p15.2.2, p13.2.2, q11]; exact z8⟩, fun fs hl => c16.trans (X15.returnOut hexec hret (hb hbytes d57) hl)⟩
end New4
namespace New1
def yN : MethodName := ⟨"java/lang/String", "<init>", "([C)V"⟩
abbrev yB : ByteArray := jdk_42_method_3_code
theorem d0 : decode yB 0 = .ok (.aload_n 0, 1) := by decide +kernel
theorem d1 : decode yB 1 = .ok (.aload_n 1, 1) := by decide +kernel
theorem d2 : decode yB 2 = .ok (.iconst 0, 1) := by decide +kernel
theorem d3 : decode yB 3 = .ok (.aload_n 1, 1) := by decide +kernel
theorem d4 : decode yB 4 = .ok (.arraylength, 1) := by decide +kernel
theorem d5 : decode yB 5 = .ok (.aconst_null, 1) := by decide +kernel
theorem d6 : decode yB 6 = .ok (.invokespecial 27, 3) := by decide +kernel
theorem d9 : decode yB 9 = .ok (.return_, 1) := by decide +kernel
def site : List Cond := [New4.tab] ++ initW "java/lang/String" 27 New4.yN
def tab : Cond := tabOf yN yB 2 none site
def P (a : Addr) (D : Cell) (fV fC : Field) (b : Addr) (A : Cell) (z : Int32) (args : Array Value) (s : State) : Prop := args = #[.ref a, .ref b] ∧ Blank "java/lang/String" a D s ∧ Found "java/lang/String" "value" "[B" fV s ∧ Found "java/lang/String" "coder" "B" fC s ∧ Ch b A s ∧ StaticIs s "java/lang/String" "COMPACT_STRINGS" "Z" (.int z) ∧ ¬ z = 0 ∧ 0 < A.slots.size ∧ A.slots.size ≤ 536870912 ∧ ∀ i, i < A.slots.size → ¬ 255 < cv A i
def E (a : Addr) (D : Cell) (fV fC : Field) (A : Cell) (r : Option Value) (s u : State) : Prop := Got a D fV fC A 0 A.slots.size r s u
/-- new String(chars), not empty, no char above 255: a Latin-1 String of their low bytes -/
theorem law (l : Launch) (a : Addr) (D : Cell) (fV fC : Field) (b : Addr) (A : Cell) (z : Int32) : Law l yN 2 1 3 52 yB 2 none site (P a D fV fC b A z) (E a D fV fC A) [⟨a, fC.slot⟩, ⟨a, fV.slot⟩] 1 A.slots.size := by
  refine Law.of_walk (plainFor_of_name (by decide +kernel)) (by decide +kernel) (by decide +kernel) (by decide) (fun _ _ h => by rw [h.1]; rfl) (fun _ U U' hal hh h => ⟨h.1, h.2.1.mv hal hh, h.2.2.1.al hal, h.2.2.2.1.al hal, h.2.2.2.2.1.mv hal hh, h.2.2.2.2.2.1.there hal hh, h.2.2.2.2.2.2⟩) (fun r U U' V V' h1 hal h2 h => Got.mv r U U' V V' h1 hal h2 h) ?_
  intro p e s m args below meth c s₁ X0 hexec hbytes hml hret hlk hnm hown hh0 W hP
  obtain ⟨rfl, hB, f1, f2, hA, s1, hz, l0, l2, hp⟩ := hP
  have c1 : Steps p.tables e below (s₁.setTop (entryFrame m #[.ref a, .ref b] 2)) (s₁.setTop (mkF m 0 #[.val (.ref a), .val (.ref b)] [])) := entry rfl
  have c2 : Steps p.tables e below (s₁.setTop (entryFrame m #[.ref a, .ref b] 2)) (s₁.setTop (mkF m 6 #[.val (.ref a), .val (.ref b)] [.null, .int (Int32.ofNat A.slots.size), .int 0, .ref b, .ref a])) := c1.trans (by
    refine XS.aloadN X0.here hexec rfl (hb hbytes d0) rfl rfl ?_
    refine XS.aloadN X0.here hexec rfl (hb hbytes d1) rfl rfl ?_
    refine iconstV X0.here hexec rfl 0 (hb hbytes d2) (by decide) ?_
    refine XS.aloadN X0.here hexec rfl (hb hbytes d3) rfl rfl ?_
    refine X0.alen hexec (hA.1.mv X0.warmed.alike hh0) rfl rfl (hb hbytes d4) ?_
    refine XS.aconstNull X0.here hexec rfl (hb hbytes d5) ?_
    exact Steps.refl _)
  obtain ⟨v3, T3, X3, E3, g3⟩ := X0.callN hexec (New4.law l a D fV fC b A z 0 A.slots.size) rfl hown (wks W (initW "java/lang/String" 27 New4.yN)) (W New4.tab (by simp only [site, List.mem_cons, List.mem_append, true_or, or_true])) (W := 0) (Nat.le_of_ble_eq_true rfl) (Nat.le_of_ble_eq_true rfl) (Nat.le_refl _) (by show 0 + A.slots.size ≤ A.slots.size; omega) (g := (mkF m 6 #[.val (.ref a), .val (.ref b)] [.null, .int (Int32.ofNat A.slots.size), .int (Int32.ofNat 0), .ref b, .ref a])) rfl (by rw [hml]; rfl) c2 (argsL := [.ref b, .int (Int32.ofNat 0), .int (Int32.ofNat A.slots.size), .null]) (rest := []) rfl rfl (by show 2 * 0 + 0 ≤ _; decide) (hb hbytes d6) (⟨rfl, hB.mv X0.warmed.alike hh0, f1.al X0.warmed.alike, f2.al X0.warmed.alike, hA.mv X0.warmed.alike hh0, s1.there X0.warmed.alike hh0, hz, l0, by omega, l2, fun i hi => by rw [Nat.zero_add]; exact hp i hi⟩)
  have e0 := Got.mv _ s₁ s _ _ hh0.symm (Vm.Alike.refl _) rfl E3
  obtain rfl := e0.1
  have c4 : Steps p.tables e below (s₁.setTop (entryFrame m #[.ref a, .ref b] 2)) (T3.setTop (mkF m 9 #[.val (.ref a), .val (.ref b)] [])) := g3
  exact ⟨T3, none, _, _, _, X3, by simp, rfl, by omega, (fun _ => rfl), e0, fun fs hl => c4.trans (X3.returnOut hexec hret (hb hbytes d9) hl)⟩
theorem pays {l : Launch} {R : Room} {p : Program} {e : Env} {below : List Frame} {s : State} {sargs : Array Value} {len W : Nat} (a : Addr) (D : Cell) (fV fC : Field) (b : Addr) (A : Cell) (z : Int32) (htab : tab.before sargs s = true) (hfr : 4 ≤ R.frames) (hlo : W + 65 ≤ R.locals) :
    Back l R p e below s sargs yN len W (fun A₁ a₁ => A₁.cells + 1 ≤ R.cells ∧ A₁.slots + A.slots.size ≤ R.slots ∧ P a D fV fC b A z a₁ A₁.U) (fun A₁ _ v₁ B₁ => E a D fV fC A v₁ A₁.U B₁.U ∧ B₁.locs = A₁.locs ++ [⟨a, fC.slot⟩, ⟨a, fV.slot⟩] ∧ B₁.cells = A₁.cells + 1 ∧ B₁.slots = A₁.slots + A.slots.size) :=
  (law l a D fV fC b A z).pays htab hfr (by omega)
end New1
end StrChars
namespace StrChars.Road
open Jvm Sem ClassFile Op Lib Jvm.Stand Jvm.Free Jvm.Free.XT
open Jvm.Lib.Cold (StaticIs)
abbrev ST : String := "java/lang/String"
/-- every table word that New1's law asks, flat -/
abbrev words : List Jvm.Cond := [.code New1.yN New1.yB 2 none, .initialized ST, .methodLink ST 27 New4.yN, .instanceMethod New4.yN,
  .code New4.yN New4.yB 6 none, .fieldLink ST 38 ST "COMPACT_STRINGS" "Z", .laysFinal ST ST "value" "[B", .fieldLink ST 9 ST "value" "[B", .laysFinal ST ST "coder" "B", .fieldLink ST 15 ST "coder" "B",
  .methodLink ST 1 Lib.objectInit, .instanceMethod Lib.objectInit, .code Lib.objectInit ⟨#[0xb1]⟩ 1 none, .methodLink ST 177 Cmp3.yN, .static Cmp3.yN, .methodLink ST 47 CodL.yN, .static CodL.yN,
  .code Cmp3.yN Cmp3.yB 6 (some (.array .byte)), .initialized U16, .arrayClass .byte, .methodLink U16 115 Cmp5.yN, .static Cmp5.yN, .code Cmp5.yN Cmp5.yB 7 (some .int), .code CodL.yN CodL.yB 2 (some .byte)]
theorem tab_of {a : Array Value} {s : State} (h : ∀ w ∈ words, w.before a s = true) : New1.tab.before a s = true := by
  have h5 : Cmp5.tab.before a s = true := unparts (wk h (.code Cmp5.yN Cmp5.yB 7 (some .int))) (wks h (.initialized Cmp5.yN.cls :: Cmp5.site))
  have hc : CodL.tab.before a s = true := unparts (wk h (.code CodL.yN CodL.yB 2 (some .byte))) (wks h (.initialized CodL.yN.cls :: CodL.site))
  have q5 : ∀ w ∈ Cmp5.tab :: words, w.before a s = true := fun w hw => (List.mem_cons.mp hw).elim (fun e => e ▸ h5) (h w)
  have h3 : Cmp3.tab.before a s = true := unparts (wk q5 (.code Cmp3.yN Cmp3.yB 6 (some (.array .byte)))) (wks q5 (.initialized Cmp3.yN.cls :: Cmp3.site))
  have q3 : ∀ w ∈ Cmp3.tab :: CodL.tab :: words, w.before a s = true := fun w hw => (List.mem_cons.mp hw).elim (fun e => e ▸ h3) fun hw => (List.mem_cons.mp hw).elim (fun e => e ▸ hc) (h w)
  have h4 : New4.tab.before a s = true := unparts (wk q3 (.code New4.yN New4.yB 6 none)) (wks q3 (.initialized New4.yN.cls :: New4.site))
  have q4 : ∀ w ∈ New4.tab :: words, w.before a s = true := fun w hw => (List.mem_cons.mp hw).elim (fun e => e ▸ h4) (h w)
  exact unparts (wk q4 (.code New1.yN New1.yB 2 none)) (wks q4 (.initialized New1.yN.cls :: New1.site))
/-- the words ride from the start Z to the walk's own state -/
theorem moved {Z s : State} {a0 args : Array Value} (hZ : Z.Warmed39 s.vm) (hw : ∀ d ∈ words, d.before a0 Z = true) : ∀ d ∈ words, d.before args s = true := fun d hd => by
  have q := hw d hd
  have t : ∀ d ∈ words, d = .arrayClass .byte ∨ (d.onTables && d.keepsFace) = true := by decide +kernel
  rcases t d hd with rfl | t
  · exact RoadKit.mvA hZ q
  · exact RoadKit.mv hZ q t
/-- WHAT COMES BACK, over the tables of the start Z: h the heap at the call, h' behind it -/
def Q (Z : State) (x : Addr) (A : Cell) (h : Heap) (v : Option Value) (h' : Heap) (L : List Loc) : Prop := v = none ∧ (∀ y ∈ L, y.base = x) ∧ RoadKit.Keep h h' [x] ∧ h'.size = h.size + 1 ∧ RoadKit.Exa Z h' x ST ∧ RoadKit.Fld Z h' x ST "value" "[B" (.ref h.size) ∧ RoadKit.Fld Z h' x ST "coder" "B" (.int 0) ∧
  (∃ V : Cell, RoadKit.Arr Z h' h.size V .byte ∧ V.vm = .none ∧ Z.vm.findClass "[B" = some V.cls ∧ V.slots.size = A.slots.size ∧ ∀ j, j < A.slots.size → V.slots[j]? = some (.int (lo8 (cv A j)))) ∧
  ∀ (O n d : String) (w : Value), RoadKit.Fld Z h x O n d w → RoadKit.slotOf Z O n d ≠ RoadKit.slotOf Z ST "value" "[B" → RoadKit.slotOf Z O n d ≠ RoadKit.slotOf Z ST "coder" "B" → RoadKit.Fld Z h' x O n d w
/-- **new String(chars) AT A CALL, IN THE ROAD'S FORM**: for specialBack behind newO: x the fresh String, b the char[] with the cell A -/
theorem back {p : Program} {l : Launch} {e : Env} {R : Room} {s : State} {args : Array Value} {below : List Frame} {len W : Nat} {Z : State} {a0 : Array Value} {h : Heap} (hZ : Z.Warmed39 s.vm) (hw : ∀ d ∈ words, d.before a0 Z = true) {kI : Nat} (wi : (Jvm.Cond.instantiable ST kI).before a0 Z = true)
    {x b : Addr} {A : Cell} {z : Int32} {v0 c0 : Value} (E : RoadKit.Exa Z h x ST) (V : RoadKit.Fld Z h x ST "value" "[B" v0) (C : RoadKit.Fld Z h x ST "coder" "B" c0) (K : RoadKit.Arr Z h b A .char) (hty : Typed .char A) (S : RoadKit.Sta Z h ST "COMPACT_STRINGS" "Z" (.int z)) (hz : ¬ z = 0)
    (l0 : 0 < A.slots.size) (l2 : A.slots.size ≤ 536870912) (hp : ∀ i, i < A.slots.size → ¬ 255 < cv A i) (hfr : 4 ≤ R.frames) (hlo : W + 65 ≤ R.locals) :
    Back l R p e below s args New1.yN len W (fun P a => a = #[.ref x, .ref b] ∧ P.U.heap = h ∧ P.cells + 1 ≤ R.cells ∧ P.slots + A.slots.size ≤ R.slots)
      (fun P _ v B => ∃ L, Q Z x A h v B.U.heap L ∧ B.locs = P.locs ++ L ∧ B.cells = P.cells + 1 ∧ B.slots = P.slots + A.slots.size) := by
  intro m meth c P g ig mk a X hg hsize hdg hW hn hp'
  obtain ⟨rfl, rfl, r1, r2⟩ := hp'
  have al : Z.vm.Alike P.U.vm := hZ.alike.trans X.warmed.alike
  obtain ⟨D, cfV, kV, iV, fV, hD, gV, stV, knV, obV, asV, slV⟩ := id V
  obtain ⟨D', cfC, kC, iC, fC, hD', gC, stC, -, -, asC, slC⟩ := id C
  cases hD.symm.trans hD'
  obtain ⟨D2, kD, e1, e2, e3, e4, e5⟩ := id E
  cases hD.symm.trans e1
  obtain ⟨c2, k2, i1, i2, i3, -⟩ := Cond.instantiable_spec wi
  cases e2.symm.trans i1
  cases e3.symm.trans i2
  obtain ⟨kU, u1, u2⟩ := al.2.2 _ _ e3
  have hB : Blank ST x D P.U := ⟨hD, ⟨knV, fun q hq => by rw [hq] at obV; cases obV⟩, by rw [al.findClass]; exact e2, kU, u1, by rw [u2]; exact i3, by rw [u2]; exact e5 i3⟩
  have F1 : Found ST "value" "[B" fV P.U := ⟨SBG.found_only al ⟨cfV, kV, iV, gV⟩, stV⟩
  have F2 : Found ST "coder" "B" fC P.U := ⟨SBG.found_only al ⟨cfC, kC, iC, gC⟩, stC⟩
  have hA : Ch b A P.U := ⟨⟨K.1, State.isArrayOf_alike al K.2.1, K.2.2, by omega⟩, hty⟩
  have hS : StaticIs P.U ST "COMPACT_STRINGS" "Z" (.int z) := by
    obtain ⟨cfS, iS, kS, fS, st, cS, t1, t2, t3, t4, t5, t6, t7⟩ := S
    exact StaticIs.there (s := { Z with heap := P.U.heap }) ⟨cfS, iS, kS, fS, st, cS, t1, t2, t3, t4, t5, (fun q => by rw [q] at t6; cases t6), t7⟩ al rfl
  obtain ⟨v, B, X', ⟨⟨hv, E', V', q1, q2, q3, q4, q5, q6, q7, q8, q9, q10, q11⟩, hl, hc, hs⟩, st⟩ := New1.pays x D fV fC b A z (tab_of (moved hZ hw)) hfr hlo m meth c P g ig mk _ X hg hsize hdg hW hn ⟨r1, r2, rfl, hB, F1, F2, hA, hS, hz, l0, l2, hp⟩
  have al' : Z.vm.Alike B.U.vm := hZ.alike.trans X'.warmed.alike
  have hsz : E'.slots.size = D.slots.size := by
    obtain ⟨-, -, -, kB, w1, w2, w3⟩ := q1
    obtain ⟨kB', y1, y2⟩ := al'.2.2 _ _ e3
    rw [q2.2.1] at w1
    cases w1.symm.trans y1
    rw [w3, e5 i3, y2]
  refine ⟨v, B, X', ⟨_, ⟨hv, ?_, ⟨by omega, fun y cy hy hn' => q10 y cy (by simpa using hn') hy, fun y cy hy => ?_⟩, q11, ⟨E', _, q1.1, by rw [q2.2.1]; exact e2, by rw [q2.2.1]; exact e3, by rw [q2.1]; exact obV, fun _ => by rw [hsz]; exact e5 i3⟩,
    ⟨E', cfV, kV, iV, fV, q1.1, gV, stV, by rw [q2.1]; exact knV, by rw [q2.1]; exact obV, by rw [q2.2.1]; exact asV, q3⟩, ⟨E', cfC, kC, iC, fC, q1.1, gC, stC, by rw [q2.1]; exact knV, by rw [q2.1]; exact obV, by rw [q2.2.1]; exact asC, q4⟩,
    ⟨V', ⟨q5.1, State.isArrayOf_alike al'.symm q5.2.1, q5.2.2.1⟩, q6, by rw [← al'.findClass]; exact q7, q8, fun j hj => by have := q9 j hj; rwa [Nat.zero_add] at this⟩, fun O n d w F n1 n2 => ?_⟩, hl, hc, hs⟩, st⟩
  · intro y hy
    simp only [List.mem_cons, List.not_mem_nil, or_false] at hy
    rcases hy with rfl | rfl <;> rfl
  · by_cases q : y = x
    · subst q
      cases hD.symm.trans hy
      exact ⟨E', q1.1, q2.2.1, q2.1, hsz⟩
    · exact ⟨cy, q10 y cy q hy, rfl, rfl, rfl⟩
  · obtain ⟨D3, cf, k, i, f, g1, g2, g3, g4, g5, g6, g7⟩ := F
    cases hD.symm.trans g1
    simp only [RoadKit.slotOf, g2, gV, gC, Option.map_some, Option.getD_some] at n1 n2
    exact ⟨E', cf, k, i, f, q1.1, g2, g3, by rw [q2.1]; exact g4, by rw [q2.1]; exact g5, by rw [q2.2.1]; exact g6, by rw [q2.2.2 f.slot (by simp [n1, n2])]; exact g7⟩
end StrChars.Road
namespace StrChars.Road
open Jvm Sem ClassFile Op Lib Jvm.Stand Jvm.Free Jvm.Free.XT
/-- WHAT COMES BACK, the byte[] as a list of values -/
def QA (Z : State) (x : Addr) (zn : Int32) (cs : List Int32) (h : Heap) (v : Option Value) (h' : Heap) (L : List Loc) : Prop := v = none ∧ (∀ y ∈ L, y.base = x) ∧ RoadKit.Keep h h' [x] ∧ h'.size = h.size + 1 ∧ RoadKit.Exa Z h' x ST ∧ RoadKit.Fld Z h' x ST "value" "[B" (.ref h.size) ∧ RoadKit.Fld Z h' x ST "coder" "B" (.int 0) ∧
  (∃ kb, Z.vm.findClass "[B" = some kb ∧ RoadKit.Arv Z h' h.size kb .byte zn (cs.map fun c => .int (lo8 c)) (.int 0)) ∧
  ∀ (O n d : String) (w : Value), RoadKit.Fld Z h x O n d w → RoadKit.slotOf Z O n d ≠ RoadKit.slotOf Z ST "value" "[B" → RoadKit.slotOf Z O n d ≠ RoadKit.slotOf Z ST "coder" "B" → RoadKit.Fld Z h' x O n d w
/-- **new String(chars) AT A CALL, THE ARRAYS AS LISTS**: the char[] at b holds cs, not empty, no char above 255 -/
theorem backArv {p : Program} {l : Launch} {e : Env} {R : Room} {s : State} {args : Array Value} {below : List Frame} {len W : Nat} {Z : State} {a0 : Array Value} {h : Heap} (hZ : Z.Warmed39 s.vm) (hw : ∀ d ∈ words, d.before a0 Z = true) {kI : Nat} (wi : (Jvm.Cond.instantiable ST kI).before a0 Z = true)
    {x b : Addr} {k : ClassId} {zn z : Int32} {cs : List Int32} {dv v0 c0 : Value} (E : RoadKit.Exa Z h x ST) (V : RoadKit.Fld Z h x ST "value" "[B" v0) (C : RoadKit.Fld Z h x ST "coder" "B" c0) (K : RoadKit.Arv Z h b k .char zn (cs.map Value.int) dv) (S : RoadKit.Sta Z h ST "COMPACT_STRINGS" "Z" (.int z)) (hz : ¬ z = 0)
    (hlen : zn.toNatClampNeg = cs.length) (h0 : 0 < cs.length) (hbig : cs.length ≤ 536870912) (hall : ∀ c ∈ cs, ¬ 255 < c) (hfr : 4 ≤ R.frames) (hlo : W + 65 ≤ R.locals) :
    Back l R p e below s args New1.yN len W (fun P a => a = #[.ref x, .ref b] ∧ P.U.heap = h ∧ P.cells + 1 ≤ R.cells ∧ P.slots + cs.length ≤ R.slots)
      (fun P _ v B => ∃ L, QA Z x zn cs h v B.U.heap L ∧ B.locs = P.locs ++ L ∧ B.cells = P.cells + 1 ∧ B.slots = P.slots + cs.length) := by
  obtain ⟨A, K1, K2, K3, K4, K5, K6⟩ := K
  have e : A.slots.size = cs.length := K3.trans hlen
  have hat : ∀ (i : Nat) (hi : i < cs.length), A.slots[i]? = some (.int cs[i]) := fun i hi => by rw [K5 i (by omega)]; simp [List.getD_eq_getElem?_getD, hi]
  have hcv : ∀ (i : Nat) (hi : i < cs.length), cv A i = cs[i] := fun i hi => by unfold cv; rw [hat i hi]
  have hty : Typed .char A := fun i v hv => by
    have hi : i < A.slots.size := (Array.getElem?_eq_some_iff.mp hv).1
    have q := K5 i hi
    rw [hv] at q
    rw [Option.some.inj q]
    exact K6 i hi
  refine Back.mono (back hZ hw wi E V C K1 hty S hz (by omega) (by omega) (fun i hi => by rw [hcv i (by omega)]; exact hall _ (List.getElem_mem _)) hfr hlo) (fun P a hp => ⟨hp.1, hp.2.1, hp.2.2.1, by rw [e]; exact hp.2.2.2⟩) (fun P a v B hp hq => ?_)
  obtain ⟨L, ⟨q1, q2, q3, q4, q5, q6, q7, ⟨V', v1, v2, v3, v4, v5⟩, q9⟩, hl, hc, hs⟩ := hq
  refine ⟨L, ⟨q1, q2, q3, q4, q5, q6, q7, ⟨V'.cls, v3, V', v1, rfl, by rw [v4, e, hlen], K4, fun i hi => ?_, fun i hi => ?_⟩, q9⟩, hl, hc, by rw [hs, e]⟩
  · have hi' : i < cs.length := by omega
    rw [v5 i (by omega), hcv i hi']; simp [List.getD_eq_getElem?_getD, hi']
  · have hi' : i < cs.length := by omega
    simp only [List.getD_eq_getElem?_getD, List.getElem?_map, List.getElem?_eq_getElem hi', Option.map_some, Option.getD_some]
    exact fits_lo8 _
end StrChars.Road
namespace StrChars.Road
open Jvm Sem ClassFile Op Lib Jvm.Stand Jvm.Free Jvm.Free.XT
/-- WHAT COMES BACK, in the writer's own shape -/
def QV (Z : State) (x : Addr) (N : Int32) (bs : List Int32) (h : Heap) (n0 : Nat) (v : Option Value) (h' : Heap) (L : List Loc) : Prop := v = none ∧ RoadKit.Fr n0 L ∧ RoadKit.Keep h h' [x] ∧ RoadKit.Exa Z h' x ST ∧ RoadKit.Fld Z h' x ST "coder" "B" (.int 0) ∧
  ∃ (t : Addr) (kb : ClassId), n0 ≤ t ∧ h.size ≤ t ∧ ¬ t = x ∧ RoadKit.Fld Z h' x ST "value" "[B" (.ref t) ∧ RoadKit.Arv Z h' t kb .byte N (bs.map Value.int) (.int 0)
/-- **new String(chars) AT A CALL, FOR THE WRITER**: a char[] of n known ints, each 0 to 255 -/
theorem backV {p : Program} {l : Launch} {e : Env} {R : Room} {s : State} {args : Array Value} {below : List Frame} {len W : Nat} {Z : State} {a0 : Array Value} {h : Heap} (hZ : Z.Warmed39 s.vm) (hw : ∀ d ∈ words, d.before a0 Z = true) {kI : Nat} (wi : (Jvm.Cond.instantiable ST kI).before a0 Z = true)
    {x b : Addr} {kC : ClassId} {cs bs : List Int32} {d v0 c0 : Value} {z N : Int32} {n n0 : Nat} (hx0 : n0 ≤ x) (hh0 : n0 ≤ h.size) (E : RoadKit.Exa Z h x ST) (V : RoadKit.Fld Z h x ST "value" "[B" v0) (C : RoadKit.Fld Z h x ST "coder" "B" c0) (K : RoadKit.Arv Z h b kC .char N (cs.map Value.int) d) (S : RoadKit.Sta Z h ST "COMPACT_STRINGS" "Z" (.int z)) (hz : ¬ z = 0)
    (hn : cs.length = n) (hN : N = Int32.ofNat n) (l0 : 0 < n) (l2 : n ≤ 4000) (hp : ∀ c ∈ cs, ¬ c < 0 ∧ ¬ (255 : Int32) < c) (hb : bs = cs.map (fun c => c.toInt8.toInt32)) (hfr : 4 ≤ R.frames) (hlo : W + 65 ≤ R.locals) :
    Back l R p e below s args (⟨"java/lang/String", "<init>", "([C)V"⟩ : MethodName) len W (fun P a => a = #[.ref x, .ref b] ∧ P.U.heap = h ∧ P.cells + 1 ≤ R.cells ∧ P.slots + n ≤ R.slots)
      (fun P _ v B => ∃ L, QV Z x N bs h n0 v B.U.heap L ∧ B.locs = P.locs ++ L ∧ B.cells = P.cells + 1 ∧ B.slots = P.slots + n) := by
  subst hn hN hb
  refine Back.mono (backArv hZ hw wi E V C K S hz (n32 (by omega)) l0 (by omega) (fun c hc => (hp c hc).2) hfr hlo) (fun P a hp => hp) (fun P a v B hp hq => ?_)
  obtain ⟨L, ⟨q1, q2, q3, q4, q5, q6, q7, ⟨kb, v1, v2⟩, q9⟩, hl, hc, hs⟩ := hq
  exact ⟨L, ⟨q1, fun y hy => by rw [q2 y hy]; exact hx0, q3, q5, q7, h.size, kb, hh0, Nat.le_refl _, Nat.ne_of_gt E.lt, q6, by rw [List.map_map]; exact v2⟩, hl, hc, hs⟩
end StrChars.Road
end Jvm.Pilot.@@N@@
namespace Jvm.Pilot.@@N@@
open Jvm Jvm.ClassFile Sem Op Lib Jvm.Free Jvm.Stand Jvm.LawKit Jvm.RoadKit Bundle Jvm.Pilot.@@N@@.Jvm.D
theorem own_and (x m : Int32) (k : Nat) (hk : k < 32) (hm : m.toBitVec.toNat = 2 ^ k - 1) : x &&& m = Int32.ofNat (x.toBitVec.toNat % 2 ^ k) := by
  apply Int32.toBitVec_inj.mp
  apply BitVec.eq_of_toNat_eq
  show (x.toBitVec &&& m.toBitVec).toNat = (x.toBitVec.toNat % 2 ^ k) % 2 ^ 32
  have hp : 2 ^ k ≤ 2 ^ 32 := Nat.pow_le_pow_right (by decide) (by omega)
  have hq : x.toBitVec.toNat % 2 ^ k < 2 ^ k := Nat.mod_lt _ (Nat.two_pow_pos k)
  rw [BitVec.toNat_and, hm, Nat.and_two_pow_sub_one_eq_mod, Nat.mod_eq_of_lt (Nat.lt_of_lt_of_le hq hp)]
theorem own_ofNat {n : Nat} (h : n < 2 ^ 31) : (Int32.ofNat n).toInt = n := Int32.toInt_ofNat_of_lt h
theorem own_rem {n k : Nat} (h : n < 2 ^ 31) (hk : 0 < k) (hk2 : k < 2 ^ 31) : Int32.ofNat n % Int32.ofNat k = Int32.ofNat (n % k) := by
  apply Int32.toInt_inj.mp
  have : n % k < k := Nat.mod_lt _ hk
  rw [Int32.toInt_mod, own_ofNat h, own_ofNat hk2, own_ofNat (by omega), Int.tmod_eq_emod_of_nonneg (by omega)]
  rfl
theorem own_bmod {n : Int} (h1 : -2 ^ 31 ≤ n) (h2 : n < 2 ^ 31) : n.bmod (2 ^ 32) = n := by
  rw [Int.bmod_def]; omega
theorem own_remE {n k : Nat} (h : n < 2 ^ 31) (hk : 0 < k) (hk2 : k < 2 ^ 31) : Int32.ofNat n - ((Int32.ofNat n / Int32.ofNat k) * Int32.ofNat k) = Int32.ofNat (n % k) := by
  apply Int32.toInt_inj.mp
  have h3 : n % k < k := Nat.mod_lt _ hk
  have h4 : n / k ≤ n := Nat.div_le_self _ _
  have h5 : (n / k) * k + n % k = n := Nat.div_add_mod' n k
  have e0 : (n : Int).tdiv (k : Int) = ((n / k : Nat) : Int) := rfl
  generalize n / k = d at *
  generalize n % k = r at *
  have e1 : (Int32.ofNat n / Int32.ofNat k).toInt = (d : Int) := by
    rw [Int32.toInt_div, own_ofNat h, own_ofNat hk2, e0]
    exact own_bmod (by omega) (by omega)
  have e2 : ((Int32.ofNat n / Int32.ofNat k) * Int32.ofNat k).toInt = ((d * k : Nat) : Int) := by
    rw [Int32.toInt_mul, e1, own_ofNat hk2, ← Int.natCast_mul]
    exact own_bmod (by omega) (by omega)
  rw [Int32.toInt_sub, e2, own_ofNat h, own_ofNat (by omega), own_bmod (by omega) (by omega)]
  omega
theorem own_and255 (x : Int32) : ¬ (x &&& 255) < 0 ∧ ¬ (255 : Int32) < (x &&& 255) := by
  rw [own_and x 255 8 (by decide) (by decide)]
  have h : x.toBitVec.toNat % 2 ^ 8 < 256 := Nat.mod_lt _ (by decide)
  generalize x.toBitVec.toNat % 2 ^ 8 = n at h
  have c0 : (0 : Int32).toInt = 0 := rfl
  have c1 : (255 : Int32).toInt = 255 := rfl
  rw [Int32.lt_iff_toInt_lt, Int32.lt_iff_toInt_lt, own_ofNat (by omega), c0, c1]
  omega
theorem own_words {Z : State} {a0 : Array Value} (hw : ∀ d ∈ tables_1, d.before a0 Z = true) : ∀ d ∈ StrChars.Road.words, d.before a0 Z = true := fun d hd => hw d ((by decide +kernel : ∀ d ∈ StrChars.Road.words, d ∈ tables_1) d hd)
theorem own_atoms {Z : State} {a0 : Array Value} (hw : ∀ d ∈ tables_1, d.before a0 Z = true) : ∀ a ∈ Bundle.stringAtoms, a.before a0 Z = true := fun d hd => by
  simp only [Bundle.stringAtoms, List.mem_cons, List.not_mem_nil, or_false] at hd
  rcases hd with rfl | rfl | rfl | rfl | rfl | rfl | rfl
  · exact (hw _ (List.mem_of_getElem? (i := 3) rfl))
  · exact (hw _ (List.mem_of_getElem? (i := 11) rfl))
  · exact (hw _ (List.mem_of_getElem? (i := 15) rfl))
  · exact (hw _ (List.mem_of_getElem? (i := 24) rfl))
  · exact (hw _ (List.mem_of_getElem? (i := 26) rfl))
  · exact (hw _ (List.mem_of_getElem? (i := 70) rfl))
  · exact (hw _ (List.mem_of_getElem? (i := 71) rfl))
def own_ELs : List (String × Nat) := [("java/lang/String", 7)]
theorem own_EL {Z : State} {a0 : Array Value} (hw : ∀ d ∈ tables_1, d.before a0 Z = true) : EW Z a0 own_ELs := (EW.cons (text := "") (hw _ (List.mem_of_getElem? (i := 69) rfl)) (by decide) EW.nil)
theorem d_recordInit_0 : decode jdk_30_method_1_code 0 = .ok (.aload_n 0, 1) := by decide +kernel
theorem d_recordInit_1 : decode jdk_30_method_1_code 1 = .ok (.invokespecial 1, 3) := by decide +kernel
theorem d_recordInit_4 : decode jdk_30_method_1_code 4 = .ok (.return_, 1) := by decide +kernel
theorem pn_0 : plainName "java/lang/Record" = true := by first | (simp [plainName, overriddenIn]; done) | decide +kernel
theorem ef_recordInit (m : MethodId) (x0 : Addr) : entryFrame m #[(.ref x0)] 1 = mkF m 0 #[.val (.ref x0)] [] := by first | (simp [entryFrame, mkF, argsToLocals, Value.category]; done) | rfl
def Q_recordInit (Z : State) (r0 : Addr) (h0 : Heap) (n0 : Nat) (v : Option Value) (h : Heap) (L : List Loc) : Prop := v = none ∧ Fr n0 L ∧ h = h0
set_option maxRecDepth 65536 in
set_option maxHeartbeats 40000000 in
theorem rm_recordInit (l : Launch) (Z : State) (a0 : Array Value) (hw : ∀ d ∈ tables_1, d.before a0 Z = true) (ws : List Jvm.Cond) (r0 : Addr) (h0 : Heap) (n0 : Nat) (Z0 : n0 ≤ h0.size) :
    MetFree l (⟨"java/lang/Record", "<init>", "()V"⟩ : MethodName) (head1 (Jvm.Cond.code (⟨"java/lang/Record", "<init>", "()V"⟩ : MethodName) jdk_30_method_1_code 1 none :: ws) ({ frames := 1, cells := 0, slots := 0, locals := 12 } : Room)) (fun a U => a = #[(.ref r0)] ∧ Z.Warmed39 U.vm ∧ U.heap = h0) (fun _ _ _ _ _ => True) (fun _ U o U' => ∃ v L, o = .returned v ∧ Q_recordInit Z r0 h0 n0 v U'.heap L ∧ FrameEnd U o U' L ({ frames := 1, cells := 0, slots := 0, locals := 12 } : Room).cells ({ frames := 1, cells := 0, slots := 0, locals := 12 } : Room).slots) := by
  refine MetFree.of_bodySF (plainFor_of_name pn_0) hisR ?_
  intro p e s m args below meth c s₁ Bd hml0 hP hK
  obtain ⟨rfl, hZ, hh⟩ := hP
  have hx := Bd.exec
  have hby := Bd.bytes
  have hml : c.maxLocals = 1 := hml0
  have hown : s.vm.findClass "java/lang/Record" = some m.cls := findClass_of_methodNamed Bd.named
  have hnm := (name_of_methodNamed Bd.named Bd.method).1
  have X0 : Stand p l e ({ frames := 1, cells := 0, slots := 0, locals := 12 } : Room) s m #[(.ref r0)] below meth c s₁ [] 0 0 := Stand.of_body Bd
  have e0 : s₁.heap = h0 := by rw [← hh, Bd.state]; rfl
  have N0 := Fr.nil n0
  have pre0 : ∀ t, Steps p.tables e below (s₁.setTop (mkF m 0 #[.val (.ref r0)] [])) t → Steps p.tables e below (s₁.setTop (entryFrame m #[(.ref r0)] 1)) t := fun t k => castTop (ef_recordInit m r0) k
  have k1 : Go p.tables e below (s₁.setTop (mkF m 0 #[.val (.ref r0)] [])) (s₁.setTop (mkF m 1 #[.val (.ref r0)] [(.ref r0)])) := by
    intro t ht
    refine XS.aloadN X0.here hx rfl (hb hby d_recordInit_0) rfl rfl ?_
    exact ht
  obtain ⟨T2, X2, e2, st2⟩ := initO X0 hx hZ hown (hw _ (List.mem_of_getElem? (i := 38) rfl)) (hw _ (List.mem_of_getElem? (i := 21) rfl)) (hw _ (List.mem_of_getElem? (i := 22) rfl)) e0 (g := (mkF m 1 #[.val (.ref r0)] [(.ref r0)])) rfl (by rw [hml]; rfl) rfl (hb hby d_recordInit_1) (by decide) (W := 0) (by show 2 * 0 + _ ≤ _; exact Nat.le_of_eq rfl) (by decide)
  have k2 : Go p.tables e below (s₁.setTop (mkF m 1 #[.val (.ref r0)] [(.ref r0)])) (T2.setTop (mkF m 4 #[.val (.ref r0)] [])) := st2
  obtain ⟨fs, hr, hrun, hended, hW, hsame⟩ := X2.leave (v := none) (fun _ => rfl)
  refine ⟨_, _, pre0 _ ((goT k1 k2) _ (X2.returnOut hx Bd.returns (hb hby d_recordInit_4) hr)), hrun, hended, _, _, rfl, ?_, ⟨_, rfl⟩, hW, hsame.mono (by decide) (by decide)⟩
  show Q_recordInit Z r0 h0 n0 _ T2.heap _
  rw [e2]
  exact ⟨rfl, N0, rfl⟩
theorem d_canEnc_0 : decode jdk_43_method_3_code 0 = .ok (.iload_n 0, 1) := by decide +kernel
theorem d_canEnc_1 : decode jdk_43_method_3_code 1 = .ok (.sipush 255, 3) := by decide +kernel
theorem d_canEnc_4 : decode jdk_43_method_3_code 4 = .ok (.if_icmp .gt 7, 3) := by decide +kernel
theorem d_canEnc_7 : decode jdk_43_method_3_code 7 = .ok (.iconst 1, 1) := by decide +kernel
theorem d_canEnc_8 : decode jdk_43_method_3_code 8 = .ok (.goto 4, 3) := by decide +kernel
theorem d_canEnc_11 : decode jdk_43_method_3_code 11 = .ok (.iconst 0, 1) := by decide +kernel
theorem d_canEnc_12 : decode jdk_43_method_3_code 12 = .ok (.ireturn, 1) := by decide +kernel
theorem pn_1 : plainName "java/lang/StringLatin1" = true := by first | (simp [plainName, overriddenIn]; done) | decide +kernel
theorem ef_canEnc (m : MethodId) (x0 : Int32) : entryFrame m #[(.int x0)] 1 = mkF m 0 #[.val (.int x0)] [] := by first | (simp [entryFrame, mkF, argsToLocals, Value.category]; done) | rfl
def f_canEnc (p0 : Int32) : Int32 := (if (255 : Int32) < p0 then (0 : Int32) else (1 : Int32))
def Q_canEnc (Z : State) (p0 : Int32) (h0 : Heap) (n0 : Nat) (v : Option Value) (h : Heap) (L : List Loc) : Prop := v = some (.int (f_canEnc p0)) ∧ Fr n0 L ∧ h = h0
set_option maxRecDepth 65536 in
set_option maxHeartbeats 40000000 in
theorem rm_canEnc (l : Launch) (Z : State) (a0 : Array Value) (hw : ∀ d ∈ tables_1, d.before a0 Z = true) (ws : List Jvm.Cond) (p0 : Int32) (h0 : Heap) (n0 : Nat) (Z0 : n0 ≤ h0.size) :
    MetFree l (⟨"java/lang/StringLatin1", "canEncode", "(C)Z"⟩ : MethodName) (head1 (Jvm.Cond.code (⟨"java/lang/StringLatin1", "canEncode", "(C)Z"⟩ : MethodName) jdk_43_method_3_code 1 (some .boolean) :: ws) ({ frames := 0, cells := 0, slots := 0, locals := 0 } : Room)) (fun a U => a = #[(.int p0)] ∧ Z.Warmed39 U.vm ∧ U.heap = h0) (fun _ _ _ _ _ => True) (fun _ U o U' => ∃ v L, o = .returned v ∧ Q_canEnc Z p0 h0 n0 v U'.heap L ∧ FrameEnd U o U' L ({ frames := 0, cells := 0, slots := 0, locals := 0 } : Room).cells ({ frames := 0, cells := 0, slots := 0, locals := 0 } : Room).slots) := by
  refine MetFree.of_bodySF (plainFor_of_name pn_1) hisR ?_
  intro p e s m args below meth c s₁ Bd hml0 hP hK
  obtain ⟨rfl, hZ, hh⟩ := hP
  have hx := Bd.exec
  have hby := Bd.bytes
  have hml : c.maxLocals = 1 := hml0
  have hown : s.vm.findClass "java/lang/StringLatin1" = some m.cls := findClass_of_methodNamed Bd.named
  have hnm := (name_of_methodNamed Bd.named Bd.method).1
  have X0 : Stand p l e ({ frames := 0, cells := 0, slots := 0, locals := 0 } : Room) s m #[(.int p0)] below meth c s₁ [] 0 0 := Stand.of_body Bd
  have e0 : s₁.heap = h0 := by rw [← hh, Bd.state]; rfl
  have N0 := Fr.nil n0
  have pre0 : ∀ t, Steps p.tables e below (s₁.setTop (mkF m 0 #[.val (.int p0)] [])) t → Steps p.tables e below (s₁.setTop (entryFrame m #[(.int p0)] 1)) t := fun t k => castTop (ef_canEnc m p0) k
  have k1 : Go p.tables e below (s₁.setTop (mkF m 0 #[.val (.int p0)] [])) (s₁.setTop (mkF m 4 #[.val (.int p0)] [(.int (255 : Int32)), (.int p0)])) := by
    intro t ht
    refine XS.iloadN X0.here hx rfl (hb hby d_canEnc_0) rfl ?_
    show Steps p.tables e below (s₁.setTop (mkF m 1 #[.val (.int p0)] [(.int p0)])) _
    refine XS.sipush X0.here hx rfl (hb hby d_canEnc_1) ?_
    exact ht
  by_cases hc2 : (255 : Int32) < p0
  · have k3 : Go p.tables e below (s₁.setTop (mkF m 4 #[.val (.int p0)] [(.int (255 : Int32)), (.int p0)])) (s₁.setTop (mkF m 12 #[.val (.int p0)] [(.int (0 : Int32))])) := by
      intro t ht
      refine XS.icmpYes X0.here hx rfl (pc0 := 4) (pc' := 11) rfl (hb hby d_canEnc_4) rfl (tlt hc2).2.2.1 (by decide) (by decide) ?_
      show Steps p.tables e below (s₁.setTop (mkF m 11 #[.val (.int p0)] [])) _
      refine XS.iconst X0.here hx rfl (hb hby d_canEnc_11) ?_
      exact ht
    obtain ⟨fs, hr, hrun, hended, hW, hsame⟩ := X0.leave (v := some (.int (0 : Int32))) (fun h => by rw [Bd.returns] at h; cases h)
    refine ⟨_, _, pre0 _ ((goT k1 k3) _ (retN X0 hx (t := .boolean) Bd.returns (by simp) (hb hby d_canEnc_12) hr)), hrun, hended, _, _, rfl, ?_, ⟨_, rfl⟩, hW, hsame.mono (by decide) (by decide)⟩
    show Q_canEnc Z p0 h0 n0 _ s₁.heap _
    rw [e0]
    exact ⟨by simp only [f_canEnc, if_pos hc2], N0, rfl⟩
  · have k4 : Go p.tables e below (s₁.setTop (mkF m 4 #[.val (.int p0)] [(.int (255 : Int32)), (.int p0)])) (s₁.setTop (mkF m 12 #[.val (.int p0)] [(.int (1 : Int32))])) := by
      intro t ht
      refine XS.icmpNo X0.here hx rfl (hb hby d_canEnc_4) rfl (flt hc2).2.2.1 ?_
      show Steps p.tables e below (s₁.setTop (mkF m 7 #[.val (.int p0)] [])) _
      refine XS.iconst X0.here hx rfl (hb hby d_canEnc_7) ?_
      show Steps p.tables e below (s₁.setTop (mkF m 8 #[.val (.int p0)] [(.int (1 : Int32))])) _
      refine XS.goto X0.here hx rfl (pc0 := 8) (pc' := 12) rfl (hb hby d_canEnc_8) (by decide) (by decide) ?_
      exact ht
    obtain ⟨fs, hr, hrun, hended, hW, hsame⟩ := X0.leave (v := some (.int (1 : Int32))) (fun h => by rw [Bd.returns] at h; cases h)
    refine ⟨_, _, pre0 _ ((goT k1 k4) _ (retN X0 hx (t := .boolean) Bd.returns (by simp) (hb hby d_canEnc_12) hr)), hrun, hended, _, _, rfl, ?_, ⟨_, rfl⟩, hW, hsame.mono (by decide) (by decide)⟩
    show Q_canEnc Z p0 h0 n0 _ s₁.heap _
    rw [e0]
    exact ⟨by simp only [f_canEnc, if_neg hc2], N0, rfl⟩
theorem d_toBytes_0 : decode jdk_43_method_46_code 0 = .ok (.iconst 1, 1) := by decide +kernel
theorem d_toBytes_1 : decode jdk_43_method_46_code 1 = .ok (.newarray .byte, 2) := by decide +kernel
theorem d_toBytes_3 : decode jdk_43_method_46_code 3 = .ok (.dup, 1) := by decide +kernel
theorem d_toBytes_4 : decode jdk_43_method_46_code 4 = .ok (.iconst 0, 1) := by decide +kernel
theorem d_toBytes_5 : decode jdk_43_method_46_code 5 = .ok (.iload_n 0, 1) := by decide +kernel
theorem d_toBytes_6 : decode jdk_43_method_46_code 6 = .ok (.i2b, 1) := by decide +kernel
theorem d_toBytes_7 : decode jdk_43_method_46_code 7 = .ok (.bastore, 1) := by decide +kernel
theorem d_toBytes_8 : decode jdk_43_method_46_code 8 = .ok (.areturn, 1) := by decide +kernel
theorem ef_toBytes (m : MethodId) (x0 : Int32) : entryFrame m #[(.int x0)] 1 = mkF m 0 #[.val (.int x0)] [] := by first | (simp [entryFrame, mkF, argsToLocals, Value.category]; done) | rfl
def Q_toBytes (Z : State) (p0 : Int32) (h0 : Heap) (n0 : Nat) (v : Option Value) (h : Heap) (L : List Loc) : Prop := ∃ (xb : Addr) (xk : ClassId), v = some (.ref xb) ∧ Fr n0 L ∧ Keep h0 h [] ∧ h0.size ≤ xb ∧ Arv Z h xb xk .byte (1 : Int32) [(.int (nar .byte (p0.toInt8.toInt32)))] (.int (0 : Int32))
set_option maxRecDepth 65536 in
set_option maxHeartbeats 40000000 in
theorem rm_toBytes (l : Launch) (Z : State) (a0 : Array Value) (hw : ∀ d ∈ tables_1, d.before a0 Z = true) (ws : List Jvm.Cond) (p0 : Int32) (h0 : Heap) (n0 : Nat) (Z0 : n0 ≤ h0.size) :
    MetFree l (⟨"java/lang/StringLatin1", "toBytes", "(C)[B"⟩ : MethodName) (head1 (Jvm.Cond.code (⟨"java/lang/StringLatin1", "toBytes", "(C)[B"⟩ : MethodName) jdk_43_method_46_code 1 (some (.array .byte)) :: ws) ({ frames := 0, cells := 1, slots := 1, locals := 0 } : Room)) (fun a U => a = #[(.int p0)] ∧ Z.Warmed39 U.vm ∧ U.heap = h0) (fun _ _ _ _ _ => True) (fun _ U o U' => ∃ v L, o = .returned v ∧ Q_toBytes Z p0 h0 n0 v U'.heap L ∧ FrameEnd U o U' L ({ frames := 0, cells := 1, slots := 1, locals := 0 } : Room).cells ({ frames := 0, cells := 1, slots := 1, locals := 0 } : Room).slots) := by
  refine MetFree.of_bodySF (plainFor_of_name pn_1) hisR ?_
  intro p e s m args below meth c s₁ Bd hml0 hP hK
  obtain ⟨rfl, hZ, hh⟩ := hP
  have hx := Bd.exec
  have hby := Bd.bytes
  have hml : c.maxLocals = 1 := hml0
  have hown : s.vm.findClass "java/lang/StringLatin1" = some m.cls := findClass_of_methodNamed Bd.named
  have hnm := (name_of_methodNamed Bd.named Bd.method).1
  have X0 : Stand p l e ({ frames := 0, cells := 1, slots := 1, locals := 0 } : Room) s m #[(.int p0)] below meth c s₁ [] 0 0 := Stand.of_body Bd
  have e0 : s₁.heap = h0 := by rw [← hh, Bd.state]; rfl
  have N0 := Fr.nil n0
  have pre0 : ∀ t, Steps p.tables e below (s₁.setTop (mkF m 0 #[.val (.int p0)] [])) t → Steps p.tables e below (s₁.setTop (entryFrame m #[(.int p0)] 1)) t := fun t k => castTop (ef_toBytes m p0) k
  have k1 : Go p.tables e below (s₁.setTop (mkF m 0 #[.val (.int p0)] [])) (s₁.setTop (mkF m 1 #[.val (.int p0)] [(.int (1 : Int32))])) := by
    intro t ht
    refine XS.iconst X0.here hx rfl (hb hby d_toBytes_0) ?_
    exact ht
  obtain ⟨T2, h2, kc2, X2, e2, E2, A2, st2⟩ := newP X0 hx hZ (hw _ (List.mem_of_getElem? (i := 15) rfl)) e0 (g := (mkF m 1 #[.val (.int p0)] [(.int (1 : Int32))])) rfl (hb hby d_toBytes_1) rfl (by decide) (cap := 1) (by decide) (by decide) (by decide) (by decide)
  obtain ⟨b2, g2⟩ : ∃ z, z = h0.size := ⟨_, rfl⟩
  rw [← g2] at A2 st2
  have g_b2 : n0 ≤ b2 := Nat.le_trans Z0 (Nat.le_of_eq g2.symm)
  have sz_b2 : h0.size ≤ b2 := Nat.le_trans (Keep.refl h0 []).1 (Nat.le_of_eq g2.symm)
  have Kp2 : Keep h0 h2 [] := (Keep.refl h0 []).ext E2
  have Z2 : n0 ≤ h2.size := Nat.le_trans Z0 E2.1
  have V_b2 : Arv Z h2 b2 kc2 .byte (1 : Int32) [(.int (0 : Int32))] (.int (0 : Int32)) := (Arv.new A2 (by decide)).pad (pad_rep [] (.int (0 : Int32)) 1)
  have k2 : Go p.tables e below (s₁.setTop (mkF m 1 #[.val (.int p0)] [(.int (1 : Int32))])) (T2.setTop (mkF m 3 #[.val (.int p0)] [(.ref b2)])) := st2
  have k3 : Go p.tables e below (T2.setTop (mkF m 3 #[.val (.int p0)] [(.ref b2)])) (T2.setTop (mkF m 7 #[.val (.int p0)] [(.int (p0.toInt8.toInt32)), (.int (0 : Int32)), (.ref b2), (.ref b2)])) := by
    intro t ht
    refine XS.dup X2.here hx rfl (hb hby d_toBytes_3) rfl rfl ?_
    show Steps p.tables e below (T2.setTop (mkF m 4 #[.val (.int p0)] [(.ref b2), (.ref b2)])) _
    refine XS.iconst X2.here hx rfl (hb hby d_toBytes_4) ?_
    show Steps p.tables e below (T2.setTop (mkF m 5 #[.val (.int p0)] [(.int (0 : Int32)), (.ref b2), (.ref b2)])) _
    refine XS.iloadN X2.here hx rfl (hb hby d_toBytes_5) rfl ?_
    show Steps p.tables e below (T2.setTop (mkF m 6 #[.val (.int p0)] [(.int p0), (.int (0 : Int32)), (.ref b2), (.ref b2)])) _
    refine XS.i2b X2.here hx rfl (hb hby d_toBytes_6) rfl ?_
    exact ht
  obtain ⟨cl4, Ar4, q4, S4, M4, H4, G4⟩ := id V_b2
  have hin4 : ¬ ((0 : Int32) < 0 ∨ cl4.slots.size ≤ ((0 : Int32)).toNatClampNeg) := inb_of S4 ⟨by decide, by decide⟩
  obtain ⟨T4, h4, X4, e4, W4, st4⟩ := stB X2 hx hZ e2 Ar4 (j := (0 : Int32)) hin4 (g := (mkF m 7 #[.val (.int p0)] [(.int (p0.toInt8.toInt32)), (.int (0 : Int32)), (.ref b2), (.ref b2)])) rfl rfl (hb hby d_toBytes_7)
  have V4_b2 : Arv Z h4 b2 kc2 .byte (1 : Int32) [(.int (nar .byte (p0.toInt8.toInt32)))] (.int (0 : Int32)) := Arv.set Ar4 q4 S4 M4 H4 G4 (fits_nar_byte _) W4 0 rfl (Nat.le_of_ble_eq_true rfl)
  have Kp4 : Keep h0 h4 [] := Kp2.wr W4 (Or.inr sz_b2)
  have Z4 : n0 ≤ h4.size := Nat.le_trans Z2 (Keep.of_wr W4).1
  have k4 : Go p.tables e below (T2.setTop (mkF m 7 #[.val (.int p0)] [(.int (p0.toInt8.toInt32)), (.int (0 : Int32)), (.ref b2), (.ref b2)])) (T4.setTop (mkF m 8 #[.val (.int p0)] [(.ref b2)])) := st4
  have N4 := Fr.snoc X4 N0 g_b2
  obtain ⟨fs, hr, hrun, hended, hW, hsame⟩ := X4.leave (v := some (.ref b2)) (fun h => by rw [Bd.returns] at h; cases h)
  refine ⟨_, _, pre0 _ ((goT k1 (goT k2 (goT k3 k4))) _ (retA X4 hx Bd.returns (hb hby d_toBytes_8) hr)), hrun, hended, _, _, rfl, ?_, ⟨_, rfl⟩, hW, hsame.mono (by decide) (by decide)⟩
  show Q_toBytes Z p0 h0 n0 _ T4.heap _
  rw [e4]
  exact ⟨b2, kc2, rfl, N4, Kp4, sz_b2, V4_b2⟩
theorem d_initBB_0 : decode jdk_42_method_151_code 0 = .ok (.aload_n 0, 1) := by decide +kernel
theorem d_initBB_1 : decode jdk_42_method_151_code 1 = .ok (.invokespecial 1, 3) := by decide +kernel
theorem d_initBB_4 : decode jdk_42_method_151_code 4 = .ok (.aload_n 0, 1) := by decide +kernel
theorem d_initBB_5 : decode jdk_42_method_151_code 5 = .ok (.aload_n 1, 1) := by decide +kernel
theorem d_initBB_6 : decode jdk_42_method_151_code 6 = .ok (.putfield 9, 3) := by decide +kernel
theorem d_initBB_9 : decode jdk_42_method_151_code 9 = .ok (.aload_n 0, 1) := by decide +kernel
theorem d_initBB_10 : decode jdk_42_method_151_code 10 = .ok (.iload_n 2, 1) := by decide +kernel
theorem d_initBB_11 : decode jdk_42_method_151_code 11 = .ok (.putfield 15, 3) := by decide +kernel
theorem d_initBB_14 : decode jdk_42_method_151_code 14 = .ok (.return_, 1) := by decide +kernel
theorem pn_2 : plainName "java/lang/String" = true := by first | (simp [plainName, overriddenIn]; done) | decide +kernel
theorem ef_initBB (m : MethodId) (x0 : Addr) (x1 : Addr) (x2 : Int32) : entryFrame m #[(.ref x0), (.ref x1), (.int x2)] 3 = mkF m 0 #[.val (.ref x0), .val (.ref x1), .val (.int x2)] [] := by first | (simp [entryFrame, mkF, argsToLocals, Value.category]; done) | rfl
def Q_initBB (Z : State) (r0 : Addr) (r1 : Addr) (p2 : Int32) (h0 : Heap) (n0 : Nat) (v : Option Value) (h : Heap) (L : List Loc) : Prop := v = none ∧ Fr n0 L ∧ Keep h0 h [r0] ∧ Exa Z h r0 "java/lang/String" ∧ Fld Z h r0 "java/lang/String" "value" "[B" (.ref r1) ∧ Fld Z h r0 "java/lang/String" "coder" "B" (.int (nar .byte p2))
set_option maxRecDepth 65536 in
set_option maxHeartbeats 40000000 in
theorem rm_initBB (l : Launch) (Z : State) (a0 : Array Value) (hw : ∀ d ∈ tables_1, d.before a0 Z = true) (ws : List Jvm.Cond) (r0 : Addr) (r1 : Addr) (p2 : Int32) (h0 : Heap) (n0 : Nat) (Z0 : n0 ≤ h0.size) (F_value : Fld Z h0 r0 "java/lang/String" "value" "[B" .null) (F_coder : Fld Z h0 r0 "java/lang/String" "coder" "B" (.int (0 : Int32))) (E_r0 : Exa Z h0 r0 "java/lang/String") (g_r0 : n0 ≤ r0) :
    MetFree l (⟨"java/lang/String", "<init>", "([BB)V"⟩ : MethodName) (head1 (Jvm.Cond.code (⟨"java/lang/String", "<init>", "([BB)V"⟩ : MethodName) jdk_42_method_151_code 3 none :: ws) ({ frames := 1, cells := 0, slots := 0, locals := 12 } : Room)) (fun a U => a = #[(.ref r0), (.ref r1), (.int p2)] ∧ Z.Warmed39 U.vm ∧ U.heap = h0) (fun _ _ _ _ _ => True) (fun _ U o U' => ∃ v L, o = .returned v ∧ Q_initBB Z r0 r1 p2 h0 n0 v U'.heap L ∧ FrameEnd U o U' L ({ frames := 1, cells := 0, slots := 0, locals := 12 } : Room).cells ({ frames := 1, cells := 0, slots := 0, locals := 12 } : Room).slots) := by
  refine MetFree.of_bodySF (plainFor_of_name pn_2) hisR ?_
  intro p e s m args below meth c s₁ Bd hml0 hP hK
  obtain ⟨rfl, hZ, hh⟩ := hP
  have hx := Bd.exec
  have hby := Bd.bytes
  have hml : c.maxLocals = 3 := hml0
  have hown : s.vm.findClass "java/lang/String" = some m.cls := findClass_of_methodNamed Bd.named
  have hnm := (name_of_methodNamed Bd.named Bd.method).1
  have X0 : Stand p l e ({ frames := 1, cells := 0, slots := 0, locals := 12 } : Room) s m #[(.ref r0), (.ref r1), (.int p2)] below meth c s₁ [] 0 0 := Stand.of_body Bd
  have e0 : s₁.heap = h0 := by rw [← hh, Bd.state]; rfl
  have N0 := Fr.nil n0
  have pre0 : ∀ t, Steps p.tables e below (s₁.setTop (mkF m 0 #[.val (.ref r0), .val (.ref r1), .val (.int p2)] [])) t → Steps p.tables e below (s₁.setTop (entryFrame m #[(.ref r0), (.ref r1), (.int p2)] 3)) t := fun t k => castTop (ef_initBB m r0 r1 p2) k
  have k1 : Go p.tables e below (s₁.setTop (mkF m 0 #[.val (.ref r0), .val (.ref r1), .val (.int p2)] [])) (s₁.setTop (mkF m 1 #[.val (.ref r0), .val (.ref r1), .val (.int p2)] [(.ref r0)])) := by
    intro t ht
    refine XS.aloadN X0.here hx rfl (hb hby d_initBB_0) rfl rfl ?_
    exact ht
  obtain ⟨T2, X2, e2, st2⟩ := initO X0 hx hZ hown (hw _ (List.mem_of_getElem? (i := 20) rfl)) (hw _ (List.mem_of_getElem? (i := 21) rfl)) (hw _ (List.mem_of_getElem? (i := 22) rfl)) e0 (g := (mkF m 1 #[.val (.ref r0), .val (.ref r1), .val (.int p2)] [(.ref r0)])) rfl (by rw [hml]; rfl) rfl (hb hby d_initBB_1) (by decide) (W := 0) (by show 2 * 0 + _ ≤ _; exact Nat.le_of_eq rfl) (by decide)
  have k2 : Go p.tables e below (s₁.setTop (mkF m 1 #[.val (.ref r0), .val (.ref r1), .val (.int p2)] [(.ref r0)])) (T2.setTop (mkF m 4 #[.val (.ref r0), .val (.ref r1), .val (.int p2)] [])) := st2
  have k3 : Go p.tables e below (T2.setTop (mkF m 4 #[.val (.ref r0), .val (.ref r1), .val (.int p2)] [])) (T2.setTop (mkF m 6 #[.val (.ref r0), .val (.ref r1), .val (.int p2)] [(.ref r1), (.ref r0)])) := by
    intro t ht
    refine XS.aloadN X2.here hx rfl (hb hby d_initBB_4) rfl rfl ?_
    show Steps p.tables e below (T2.setTop (mkF m 5 #[.val (.ref r0), .val (.ref r1), .val (.int p2)] [(.ref r0)])) _
    refine XS.aloadN X2.here hx rfl (hb hby d_initBB_5) rfl rfl ?_
    exact ht
  obtain ⟨T4, h4, X4, e4, W4, st4⟩ := putF X2 hx hZ hown (host := "") (Or.inl (hw _ (List.mem_of_getElem? (i := 23) rfl))) Via.refl e2 F_value E_r0 (Or.inr ⟨(hw _ (List.mem_of_getElem? (i := 24) rfl)), rfl, hnm⟩) (hw _ (List.mem_of_getElem? (i := 11) rfl)) (ty := (.array .byte)) (by decide) rfl rfl (g := (mkF m 6 #[.val (.ref r0), .val (.ref r1), .val (.int p2)] [(.ref r1), (.ref r0)])) rfl rfl (hb hby d_initBB_6)
  have Kp4 : Keep h0 h4 [r0] := (Keep.refl h0 [r0]).wr W4 (Or.inl (by simp))
  have Z4 : n0 ≤ h4.size := Nat.le_trans Z0 (Keep.of_wr W4).1
  have F_value_c_4 := F_value.same W4
  have F_c_4 := F_coder.other W4 (Or.inr (slot_ne (Or.inr (hw _ (List.mem_of_getElem? (i := 26) rfl))) (Or.inr (hw _ (List.mem_of_getElem? (i := 24) rfl))) (by decide) (t := .byte) (t' := (.array .byte)) (by decide) (by decide)))
  have E_r0_c_4 := E_r0.wr W4
  have k4 : Go p.tables e below (T2.setTop (mkF m 6 #[.val (.ref r0), .val (.ref r1), .val (.int p2)] [(.ref r1), (.ref r0)])) (T4.setTop (mkF m 9 #[.val (.ref r0), .val (.ref r1), .val (.int p2)] [])) := st4
  have N4 := Fr.snoc X4 N0 g_r0
  have k5 : Go p.tables e below (T4.setTop (mkF m 9 #[.val (.ref r0), .val (.ref r1), .val (.int p2)] [])) (T4.setTop (mkF m 11 #[.val (.ref r0), .val (.ref r1), .val (.int p2)] [(.int p2), (.ref r0)])) := by
    intro t ht
    refine XS.aloadN X4.here hx rfl (hb hby d_initBB_9) rfl rfl ?_
    show Steps p.tables e below (T4.setTop (mkF m 10 #[.val (.ref r0), .val (.ref r1), .val (.int p2)] [(.ref r0)])) _
    refine XS.iloadN X4.here hx rfl (hb hby d_initBB_10) rfl ?_
    exact ht
  obtain ⟨T6, h6, X6, e6, W6, st6⟩ := putFN X4 hx hZ hown (hw _ (List.mem_of_getElem? (i := 25) rfl)) Via.refl e4 F_c_4 E_r0_c_4 (Or.inr ⟨(hw _ (List.mem_of_getElem? (i := 26) rfl)), rfl, hnm⟩) (hw _ (List.mem_of_getElem? (i := 11) rfl)) (ty := .byte) (v' := (.int (nar .byte p2))) (by decide) rfl (fits_nar_byte _) (g := (mkF m 11 #[.val (.ref r0), .val (.ref r1), .val (.int p2)] [(.int p2), (.ref r0)])) rfl rfl (hb hby d_initBB_11)
  have Kp6 : Keep h0 h6 [r0] := Kp4.wr W6 (Or.inl (by simp))
  have Z6 : n0 ≤ h6.size := Nat.le_trans Z4 (Keep.of_wr W6).1
  have F_value_c_6 := F_value_c_4.other W6 (Or.inr (slot_ne (Or.inr (hw _ (List.mem_of_getElem? (i := 24) rfl))) (Or.inr (hw _ (List.mem_of_getElem? (i := 26) rfl))) (by decide) (t := (.array .byte)) (t' := .byte) (by decide) (by decide)))
  have F_c_6 := F_c_4.same W6
  have E_r0_c_6 := E_r0_c_4.wr W6
  have k6 : Go p.tables e below (T4.setTop (mkF m 11 #[.val (.ref r0), .val (.ref r1), .val (.int p2)] [(.int p2), (.ref r0)])) (T6.setTop (mkF m 14 #[.val (.ref r0), .val (.ref r1), .val (.int p2)] [])) := st6
  have N6 := Fr.snoc X6 N4 g_r0
  obtain ⟨fs, hr, hrun, hended, hW, hsame⟩ := X6.leave (v := none) (fun _ => rfl)
  refine ⟨_, _, pre0 _ ((goT k1 (goT k2 (goT k3 (goT k4 (goT k5 k6))))) _ (X6.returnOut hx Bd.returns (hb hby d_initBB_14) hr)), hrun, hended, _, _, rfl, ?_, ⟨_, rfl⟩, hW, hsame.mono (by decide) (by decide)⟩
  show Q_initBB Z r0 r1 p2 h0 n0 _ T6.heap _
  rw [e6]
  exact ⟨rfl, N6, Kp6, E_r0_c_6, F_value_c_6, F_c_6⟩
theorem pd_0 : parseMethodDescriptor "(C)Z" = some ⟨[.char], some .boolean⟩ := by decide +kernel
theorem pd_1 : parseMethodDescriptor "(C)[B" = some ⟨[.char], some (.array .byte)⟩ := by decide +kernel
theorem pd_2 : parseMethodDescriptor "([BB)V" = some ⟨[(.array .byte), .byte], none⟩ := by decide +kernel
theorem d_valueOf_0 : decode jdk_42_method_139_code 0 = .ok (.getstatic 38, 3) := by decide +kernel
theorem d_valueOf_3 : decode jdk_42_method_139_code 3 = .ok (.ifCond .eq 23, 3) := by decide +kernel
theorem d_valueOf_6 : decode jdk_42_method_139_code 6 = .ok (.iload_n 0, 1) := by decide +kernel
theorem d_valueOf_7 : decode jdk_42_method_139_code 7 = .ok (.invokestatic 1015, 3) := by decide +kernel
theorem d_valueOf_10 : decode jdk_42_method_139_code 10 = .ok (.ifCond .eq 16, 3) := by decide +kernel
theorem d_valueOf_13 : decode jdk_42_method_139_code 13 = .ok (.new 10, 3) := by decide +kernel
theorem d_valueOf_16 : decode jdk_42_method_139_code 16 = .ok (.dup, 1) := by decide +kernel
theorem d_valueOf_17 : decode jdk_42_method_139_code 17 = .ok (.iload_n 0, 1) := by decide +kernel
theorem d_valueOf_18 : decode jdk_42_method_139_code 18 = .ok (.invokestatic 1018, 3) := by decide +kernel
theorem d_valueOf_21 : decode jdk_42_method_139_code 21 = .ok (.iconst 0, 1) := by decide +kernel
theorem d_valueOf_22 : decode jdk_42_method_139_code 22 = .ok (.invokespecial 209, 3) := by decide +kernel
theorem d_valueOf_25 : decode jdk_42_method_139_code 25 = .ok (.areturn, 1) := by decide +kernel
theorem ef_valueOf (m : MethodId) (x0 : Int32) : entryFrame m #[(.int x0)] 1 = mkF m 0 #[.val (.int x0)] [] := by first | (simp [entryFrame, mkF, argsToLocals, Value.category]; done) | rfl
def Q_valueOf (Z : State) (p0 : Int32) (G1 : Int32) (h0 : Heap) (n0 : Nat) (v : Option Value) (h : Heap) (L : List Loc) : Prop := ∃ (xs : Addr) (xb : Addr) (xk : ClassId), v = some (.ref xs) ∧ Fr n0 L ∧ Keep h0 h [] ∧ h0.size ≤ xs ∧ h0.size ≤ xb ∧ Exa Z h xs "java/lang/String" ∧ Fld Z h xs "java/lang/String" "value" "[B" (.ref xb) ∧ Fld Z h xs "java/lang/String" "coder" "B" (.int (nar .byte (0 : Int32))) ∧ Arv Z h xb xk .byte (1 : Int32) [(.int (nar .byte (p0.toInt8.toInt32)))] (.int (0 : Int32))
set_option maxRecDepth 65536 in
set_option maxHeartbeats 40000000 in
theorem rm_valueOf (l : Launch) (Z : State) (a0 : Array Value) (hw : ∀ d ∈ tables_1, d.before a0 Z = true) (ws : List Jvm.Cond) (p0 : Int32) (G1 : Int32) (h0 : Heap) (n0 : Nat) (Z0 : n0 ≤ h0.size) (S_CS : Sta Z h0 "java/lang/String" "COMPACT_STRINGS" "Z" (.int G1)) (P5 : ¬ (G1 = (0 : Int32))) (hp : ¬ ((255 : Int32) < p0)) :
    MetFree l (⟨"java/lang/String", "valueOf", "(C)Ljava/lang/String;"⟩ : MethodName) (head1 (Jvm.Cond.code (⟨"java/lang/String", "valueOf", "(C)Ljava/lang/String;"⟩ : MethodName) jdk_42_method_139_code 1 (some (.object "java/lang/String")) :: ws) ({ frames := 2, cells := 2, slots := 5, locals := 27 } : Room)) (fun a U => a = #[(.int p0)] ∧ Z.Warmed39 U.vm ∧ U.heap = h0) (fun _ _ _ _ _ => True) (fun _ U o U' => ∃ v L, o = .returned v ∧ Q_valueOf Z p0 G1 h0 n0 v U'.heap L ∧ FrameEnd U o U' L ({ frames := 2, cells := 2, slots := 5, locals := 27 } : Room).cells ({ frames := 2, cells := 2, slots := 5, locals := 27 } : Room).slots) := by
  refine MetFree.of_bodySF (plainFor_of_name pn_2) hisR ?_
  intro p e s m args below meth c s₁ Bd hml0 hP hK
  obtain ⟨rfl, hZ, hh⟩ := hP
  have hx := Bd.exec
  have hby := Bd.bytes
  have hml : c.maxLocals = 1 := hml0
  have hown : s.vm.findClass "java/lang/String" = some m.cls := findClass_of_methodNamed Bd.named
  have hnm := (name_of_methodNamed Bd.named Bd.method).1
  have X0 : Stand p l e ({ frames := 2, cells := 2, slots := 5, locals := 27 } : Room) s m #[(.int p0)] below meth c s₁ [] 0 0 := Stand.of_body Bd
  have e0 : s₁.heap = h0 := by rw [← hh, Bd.state]; rfl
  have N0 := Fr.nil n0
  have pre0 : ∀ t, Steps p.tables e below (s₁.setTop (mkF m 0 #[.val (.int p0)] [])) t → Steps p.tables e below (s₁.setTop (entryFrame m #[(.int p0)] 1)) t := fun t k => castTop (ef_valueOf m p0) k
  obtain ⟨T1, X1, e1, st1⟩ := getS2 X0 hx hZ hown (host := "") (Or.inl (hw _ (List.mem_of_getElem? (i := 5) rfl))) Via.refl e0 S_CS (g := (mkF m 0 #[.val (.int p0)] [])) rfl (hb hby d_valueOf_0)
  have k1 : Go p.tables e below (s₁.setTop (mkF m 0 #[.val (.int p0)] [])) (T1.setTop (mkF m 3 #[.val (.int p0)] [(.int G1)])) := st1
  have k2 : Go p.tables e below (T1.setTop (mkF m 3 #[.val (.int p0)] [(.int G1)])) (T1.setTop (mkF m 7 #[.val (.int p0)] [(.int p0)])) := by
    intro t ht
    refine XS.ifNo X1.here hx rfl (hb hby d_valueOf_3) rfl ((if0 _ _).trans (feq P5).1) ?_
    show Steps p.tables e below (T1.setTop (mkF m 6 #[.val (.int p0)] [])) _
    refine XS.iloadN X1.here hx rfl (hb hby d_valueOf_6) rfl ?_
    exact ht
  obtain ⟨_, _, ⟨T3, L3, kq3, n3⟩, -, X3, ⟨Lc3, hQ3, l3, y3, z3⟩, st3⟩ := Jvm.LawKit.callS X1 hx (y := (⟨"java/lang/StringLatin1", "canEncode", "(C)Z"⟩ : MethodName)) hown (mvT hZ (hw _ (List.mem_of_getElem? (i := 6) rfl))) (mvT hZ (hw _ (List.mem_of_getElem? (i := 7) rfl))) (mvT hZ (hw _ (List.mem_of_getElem? (i := 8) rfl))) (mvT hZ (hw _ (List.mem_of_getElem? (i := 9) rfl))) (by decide) (backOf (W := 0) (rm_canEnc l Z a0 hw [] p0 h0 n0 Z0 ) hZ (hw _ (List.mem_of_getElem? (i := 9) rfl)) (hw _ (List.mem_of_getElem? (i := 8) rfl)) (by decide) (by decide)) (g := (mkF m 7 #[.val (.int p0)] [(.int p0)])) rfl (by rw [hml]; rfl) (argsL := [(.int p0)]) (rest := []) (lenOf pd_0 rfl) rfl (by show 2 * 0 + _ ≤ _; exact Nat.le_of_eq rfl) (hb hby d_valueOf_7) (fun _ _ => ⟨rfl, e1, (by decide : 0 + 0 ≤ _), (by decide : 0 + 0 ≤ _)⟩)
  dsimp only [Pt.U, Pt.locs, Pt.cells, Pt.slots] at X3 l3 y3 z3 st3 hQ3
  subst l3 y3 z3
  obtain ⟨rfl, N3q, eq3⟩ := hQ3
  have N3 := Fr.app N0 N3q
  have k3 : Go p.tables e below (T1.setTop (mkF m 7 #[.val (.int p0)] [(.int p0)])) (T3.setTop (mkF m 10 #[.val (.int p0)] [(.int (f_canEnc p0))])) := st3
  have k4 : Go p.tables e below (T3.setTop (mkF m 10 #[.val (.int p0)] [(.int (f_canEnc p0))])) (T3.setTop (mkF m 10 #[.val (.int p0)] [(.int (1 : Int32))])) := by
    simp only [f_canEnc, if_neg hp]; exact fun _ h => h
  have k5 : Go p.tables e below (T3.setTop (mkF m 10 #[.val (.int p0)] [(.int (1 : Int32))])) (T3.setTop (mkF m 13 #[.val (.int p0)] [])) := by
    intro t ht
    refine XS.ifNo X3.here hx rfl (hb hby d_valueOf_10) rfl ((if0 _ _).trans (feq (by decide : ¬ ((1 : Int32) = (0 : Int32)))).1) ?_
    exact ht
  obtain ⟨T6, h6, X6, e6, E6, A6, D6, -, st6⟩ := newO X3 hx hZ hown (hw _ (List.mem_of_getElem? (i := 10) rfl)) (hw _ (List.mem_of_getElem? (i := 11) rfl)) (hw _ (List.mem_of_getElem? (i := 3) rfl)) eq3 (g := (mkF m 13 #[.val (.int p0)] [])) rfl (hb hby d_valueOf_13) (by decide) (by decide)
  obtain ⟨b6, g6⟩ : ∃ z, z = h0.size := ⟨_, rfl⟩
  rw [← g6] at A6 D6 st6
  have g_b6 : n0 ≤ b6 := Nat.le_trans Z0 (Nat.le_of_eq g6.symm)
  have sz_b6 : h0.size ≤ b6 := Nat.le_trans (Keep.refl h0 []).1 (Nat.le_of_eq g6.symm)
  have Kp6 : Keep h0 h6 [] := (Keep.refl h0 []).ext E6
  have Z6 : n0 ≤ h6.size := Nat.le_trans Z0 E6.1
  have S_CS_c_6 := S_CS.ext E6
  have F_value_b6 : Fld Z h6 b6 "java/lang/String" "value" "[B" .null := D6 (Or.inr (hw _ (List.mem_of_getElem? (i := 24) rfl))) (ty := (.array .byte)) (by decide)
  have F_coder_b6 : Fld Z h6 b6 "java/lang/String" "coder" "B" (.int (0 : Int32)) := D6 (Or.inr (hw _ (List.mem_of_getElem? (i := 26) rfl))) (ty := .byte) (by decide)
  have k6 : Go p.tables e below (T3.setTop (mkF m 13 #[.val (.int p0)] [])) (T6.setTop (mkF m 16 #[.val (.int p0)] [(.ref b6)])) := st6
  have k7 : Go p.tables e below (T6.setTop (mkF m 16 #[.val (.int p0)] [(.ref b6)])) (T6.setTop (mkF m 18 #[.val (.int p0)] [(.int p0), (.ref b6), (.ref b6)])) := by
    intro t ht
    refine XS.dup X6.here hx rfl (hb hby d_valueOf_16) rfl rfl ?_
    show Steps p.tables e below (T6.setTop (mkF m 17 #[.val (.int p0)] [(.ref b6), (.ref b6)])) _
    refine XS.iloadN X6.here hx rfl (hb hby d_valueOf_17) rfl ?_
    exact ht
  obtain ⟨_, _, ⟨T8, L8, kq8, n8⟩, -, X8, ⟨Lc8, hQ8, l8, y8, z8⟩, st8⟩ := Jvm.LawKit.callS X6 hx (y := (⟨"java/lang/StringLatin1", "toBytes", "(C)[B"⟩ : MethodName)) hown (mvT hZ (hw _ (List.mem_of_getElem? (i := 12) rfl))) (mvT hZ (hw _ (List.mem_of_getElem? (i := 13) rfl))) (mvT hZ (hw _ (List.mem_of_getElem? (i := 8) rfl))) (mvT hZ (hw _ (List.mem_of_getElem? (i := 14) rfl))) (by decide) (backOf (W := 2) (rm_toBytes l Z a0 hw [] p0 h6 n0 Z6 ) hZ (hw _ (List.mem_of_getElem? (i := 14) rfl)) (hw _ (List.mem_of_getElem? (i := 8) rfl)) (by decide) (by decide)) (g := (mkF m 18 #[.val (.int p0)] [(.int p0), (.ref b6), (.ref b6)])) rfl (by rw [hml]; rfl) (argsL := [(.int p0)]) (rest := [(.ref b6), (.ref b6)]) (lenOf pd_1 rfl) rfl (by show 2 * 0 + _ ≤ _; exact Nat.le_of_eq rfl) (hb hby d_valueOf_18) (fun _ _ => ⟨rfl, e6, (by decide : 1 + 1 ≤ _), (by decide : 4 + 1 ≤ _)⟩)
  dsimp only [Pt.U, Pt.locs, Pt.cells, Pt.slots] at X8 l8 y8 z8 st8 hQ8
  subst l8 y8 z8
  obtain ⟨xb_8, xk_8, rfl, N8q, K8, Pq8_0, Fq8_0⟩ := hQ8
  have N8 := Fr.app N3 N8q
  have k8 : Go p.tables e below (T6.setTop (mkF m 18 #[.val (.int p0)] [(.int p0), (.ref b6), (.ref b6)])) (T8.setTop (mkF m 21 #[.val (.int p0)] [(.ref xb_8), (.ref b6), (.ref b6)])) := st8
  have Kp8 : Keep h0 T8.heap [] := Kp6.trans K8 all0
  have Z8 : n0 ≤ T8.heap.size := Nat.le_trans Z6 K8.1
  have ne_b6_xb_8 : b6 ≠ xb_8 := Nat.ne_of_lt (Nat.lt_of_lt_of_le A6.lt Pq8_0)
  have g_xb_8 : n0 ≤ xb_8 := Nat.le_trans Z6 Pq8_0
  have sz_xb_8 : h0.size ≤ xb_8 := Nat.le_trans Kp6.1 Pq8_0
  have S_CS_c_8 := own_sta_keep0 S_CS_c_6 K8
  have A6_c_8 := A6.keep K8
  have F_value_b6_c_8 := F_value_b6.keep K8 nin0
  have F_c_8 := F_coder_b6.keep K8 nin0
  have k9 : Go p.tables e below (T8.setTop (mkF m 21 #[.val (.int p0)] [(.ref xb_8), (.ref b6), (.ref b6)])) (T8.setTop (mkF m 22 #[.val (.int p0)] [(.int (0 : Int32)), (.ref xb_8), (.ref b6), (.ref b6)])) := by
    intro t ht
    refine XS.iconst X8.here hx rfl (hb hby d_valueOf_21) ?_
    exact ht
  obtain ⟨_, _, ⟨T10, L10, kq10, n10⟩, -, X10, ⟨Lc10, hQ10, l10, y10, z10⟩, st10⟩ := X8.specialBack hx (y := (⟨"java/lang/String", "<init>", "([BB)V"⟩ : MethodName)) rfl hown (mvT hZ (hw _ (List.mem_of_getElem? (i := 16) rfl))) (mvT hZ (hw _ (List.mem_of_getElem? (i := 17) rfl))) (mvT hZ (hw _ (List.mem_of_getElem? (i := 19) rfl))) (by decide) (backOf (W := 1) (rm_initBB l Z a0 hw [] b6 xb_8 (0 : Int32) T8.heap n0 Z8 F_value_b6_c_8 F_c_8 A6_c_8 g_b6) hZ (hw _ (List.mem_of_getElem? (i := 19) rfl)) (hw _ (List.mem_of_getElem? (i := 3) rfl)) (by decide) (by decide)) (g := (mkF m 22 #[.val (.int p0)] [(.int (0 : Int32)), (.ref xb_8), (.ref b6), (.ref b6)])) rfl (by rw [hml]; rfl) (Steps.refl _) (a := b6) (argsL := [(.ref xb_8), (.int (0 : Int32))]) (rest := [(.ref b6)]) (lenOf pd_2 rfl) rfl (by show 2 * 0 + _ ≤ _; exact Nat.le_of_eq rfl) (hb hby d_valueOf_22) (fun _ _ => ⟨rfl, rfl, (by decide : 2 + 0 ≤ _), (by decide : 5 + 0 ≤ _)⟩)
  dsimp only [Pt.U, Pt.locs, Pt.cells, Pt.slots] at X10 l10 y10 z10 st10 hQ10
  subst l10 y10 z10
  obtain ⟨rfl, N10q, K10, Fq10_0, Fq10_1, Fq10_2⟩ := hQ10
  have N10 := Fr.app N8 N10q
  have k10 : Go p.tables e below (T8.setTop (mkF m 22 #[.val (.int p0)] [(.int (0 : Int32)), (.ref xb_8), (.ref b6), (.ref b6)])) (T10.setTop (mkF m 25 #[.val (.int p0)] [(.ref b6)])) := fun _ ht => st10.trans ht
  have Kp10 : Keep h0 T10.heap [] := Kp8.trans K10 (allS (Or.inr sz_b6) all0)
  have Z10 : n0 ≤ T10.heap.size := Nat.le_trans Z8 K10.1
  have S_CS_c_10 := own_sta_keep S_CS_c_8 A6_c_8 K10
  have A6_c_10 := A6_c_8.keep K10
  have Fq8_0_c_10 := Fq8_0.keep K10 (ninS (Ne.symm ne_b6_xb_8) nin0)
  obtain ⟨fs, hr, hrun, hended, hW, hsame⟩ := X10.leave (v := some (.ref b6)) (fun h => by rw [Bd.returns] at h; cases h)
  refine ⟨_, _, pre0 _ ((goT k1 (goT k2 (goT k3 (goT k4 (goT k5 (goT k6 (goT k7 (goT k8 (goT k9 k10))))))))) _ (retR X10 hx Bd.returns (hb hby d_valueOf_25) hr)), hrun, hended, _, _, rfl, ?_, ⟨_, rfl⟩, hW, hsame.mono (by decide) (by decide)⟩
  show Q_valueOf Z p0 G1 h0 n0 _ T10.heap _
  exact ⟨b6, xb_8, xk_8, rfl, N10, Kp10, sz_b6, sz_xb_8, Fq10_0, Fq10_1, Fq10_2, Fq8_0_c_10⟩
theorem d_initE2_0 : decode jdk_42_method_149_code 0 = .ok (.aload_n 0, 1) := by decide +kernel
theorem d_initE2_1 : decode jdk_42_method_149_code 1 = .ok (.invokespecial 1, 3) := by decide +kernel
theorem d_initE2_4 : decode jdk_42_method_149_code 4 = .ok (.iload_n 3, 1) := by decide +kernel
theorem d_initE2_5 : decode jdk_42_method_149_code 5 = .ok (.ifCond .ne 22, 3) := by decide +kernel
theorem d_initE2_8 : decode jdk_42_method_149_code 8 = .ok (.aload_n 0, 1) := by decide +kernel
theorem d_initE2_9 : decode jdk_42_method_149_code 9 = .ok (.ldc 7, 2) := by decide +kernel
theorem d_initE2_11 : decode jdk_42_method_149_code 11 = .ok (.getfield 9, 3) := by decide +kernel
theorem d_initE2_14 : decode jdk_42_method_149_code 14 = .ok (.putfield 9, 3) := by decide +kernel
theorem d_initE2_17 : decode jdk_42_method_149_code 17 = .ok (.aload_n 0, 1) := by decide +kernel
theorem d_initE2_18 : decode jdk_42_method_149_code 18 = .ok (.ldc 7, 2) := by decide +kernel
theorem d_initE2_20 : decode jdk_42_method_149_code 20 = .ok (.getfield 15, 3) := by decide +kernel
theorem d_initE2_23 : decode jdk_42_method_149_code 23 = .ok (.putfield 15, 3) := by decide +kernel
theorem d_initE2_26 : decode jdk_42_method_149_code 26 = .ok (.return_, 1) := by decide +kernel
theorem ef_initE2 (m : MethodId) (x0 : Addr) (x1 : Addr) : entryFrame m #[(.ref x0), (.ref x1), (.int (0 : Int32)), (.int (0 : Int32)), .null] 6 = mkF m 0 #[.val (.ref x0), .val (.ref x1), .val (.int (0 : Int32)), .val (.int (0 : Int32)), .val .null, .unset] [] := by first | (simp [entryFrame, mkF, argsToLocals, Value.category]; done) | rfl
def Q_initE2 (Z : State) (r0 : Addr) (r1 : Addr) (h0 : Heap) (n0 : Nat) (v : Option Value) (h : Heap) (L : List Loc) : Prop := ∃ (xb : Addr) (xk : ClassId), v = none ∧ Fr n0 L ∧ Keep h0 h [r0] ∧ Exa Z h r0 "java/lang/String" ∧ Fld Z h r0 "java/lang/String" "value" "[B" (.ref xb) ∧ Fld Z h r0 "java/lang/String" "coder" "B" (.int (nar .byte (0 : Int32))) ∧ Arv Z h xb xk .byte (0 : Int32) [] (.int (0 : Int32))
set_option maxRecDepth 65536 in
set_option maxHeartbeats 40000000 in
theorem rm_initE2 (l : Launch) (Z : State) (a0 : Array Value) (hw : ∀ d ∈ tables_1, d.before a0 Z = true) (ws : List Jvm.Cond) (r0 : Addr) (r1 : Addr) (h0 : Heap) (n0 : Nat) (Z0 : n0 ≤ h0.size) (F_value : Fld Z h0 r0 "java/lang/String" "value" "[B" .null) (F_coder : Fld Z h0 r0 "java/lang/String" "coder" "B" (.int (0 : Int32))) (E_r0 : Exa Z h0 r0 "java/lang/String") (g_r0 : n0 ≤ r0) :
    MetFree l (⟨"java/lang/String", "<init>", "([CIILjava/lang/Void;)V"⟩ : MethodName) (head1 (Jvm.Cond.code (⟨"java/lang/String", "<init>", "([CIILjava/lang/Void;)V"⟩ : MethodName) jdk_42_method_149_code 6 none :: ws) ({ frames := 1, cells := 2, slots := 4, locals := 12 } : Room)) (fun a U => a = #[(.ref r0), (.ref r1), (.int (0 : Int32)), (.int (0 : Int32)), .null] ∧ Z.Warmed39 U.vm ∧ U.heap = h0 ∧ CHv Z own_ELs U.vm h0) (fun _ _ _ _ _ => True) (fun _ U o U' => ∃ v L, o = .returned v ∧ Q_initE2 Z r0 r1 h0 n0 v U'.heap L ∧ ReturnedEndW U o U' L ({ frames := 1, cells := 2, slots := 4, locals := 12 } : Room).cells ({ frames := 1, cells := 2, slots := 4, locals := 12 } : Room).slots) := by
  refine MetFree.of_bodySF (plainFor_of_name pn_2) hisR ?_
  intro p e s m args below meth c s₁ Bd hml0 hP hK
  obtain ⟨rfl, hZ, hh, hCH⟩ := hP
  have hx := Bd.exec
  have hby := Bd.bytes
  have hml : c.maxLocals = 6 := hml0
  have hown : s.vm.findClass "java/lang/String" = some m.cls := findClass_of_methodNamed Bd.named
  have hnm := (name_of_methodNamed Bd.named Bd.method).1
  have X0 : Stand p l e ({ frames := 1, cells := 2, slots := 4, locals := 12 } : Room) s m #[(.ref r0), (.ref r1), (.int (0 : Int32)), (.int (0 : Int32)), .null] below meth c s₁ [] 0 0 := Stand.of_body Bd
  have e0 : s₁.heap = h0 := by rw [← hh, Bd.state]; rfl
  have N0 := Fr.nil n0
  have pre0 : ∀ t, Steps p.tables e below (s₁.setTop (mkF m 0 #[.val (.ref r0), .val (.ref r1), .val (.int (0 : Int32)), .val (.int (0 : Int32)), .val .null, .unset] [])) t → Steps p.tables e below (s₁.setTop (entryFrame m #[(.ref r0), (.ref r1), (.int (0 : Int32)), (.int (0 : Int32)), .null] 6)) t := fun t k => castTop (ef_initE2 m r0 r1) k
  have k1 : Go p.tables e below (s₁.setTop (mkF m 0 #[.val (.ref r0), .val (.ref r1), .val (.int (0 : Int32)), .val (.int (0 : Int32)), .val .null, .unset] [])) (s₁.setTop (mkF m 1 #[.val (.ref r0), .val (.ref r1), .val (.int (0 : Int32)), .val (.int (0 : Int32)), .val .null, .unset] [(.ref r0)])) := by
    intro t ht
    refine XS.aloadN X0.here hx rfl (hb hby d_initE2_0) rfl rfl ?_
    exact ht
  obtain ⟨T2, X2, e2, st2⟩ := initO X0 hx hZ hown (hw _ (List.mem_of_getElem? (i := 20) rfl)) (hw _ (List.mem_of_getElem? (i := 21) rfl)) (hw _ (List.mem_of_getElem? (i := 22) rfl)) e0 (g := (mkF m 1 #[.val (.ref r0), .val (.ref r1), .val (.int (0 : Int32)), .val (.int (0 : Int32)), .val .null, .unset] [(.ref r0)])) rfl (by rw [hml]; rfl) rfl (hb hby d_initE2_1) (by decide) (W := 0) (by show 2 * 0 + _ ≤ _; exact Nat.le_of_eq rfl) (by decide)
  have k2 : Go p.tables e below (s₁.setTop (mkF m 1 #[.val (.ref r0), .val (.ref r1), .val (.int (0 : Int32)), .val (.int (0 : Int32)), .val .null, .unset] [(.ref r0)])) (T2.setTop (mkF m 4 #[.val (.ref r0), .val (.ref r1), .val (.int (0 : Int32)), .val (.int (0 : Int32)), .val .null, .unset] [])) := st2
  have k3 : Go p.tables e below (T2.setTop (mkF m 4 #[.val (.ref r0), .val (.ref r1), .val (.int (0 : Int32)), .val (.int (0 : Int32)), .val .null, .unset] [])) (T2.setTop (mkF m 9 #[.val (.ref r0), .val (.ref r1), .val (.int (0 : Int32)), .val (.int (0 : Int32)), .val .null, .unset] [(.ref r0)])) := by
    intro t ht
    refine XS.iloadN X2.here hx rfl (hb hby d_initE2_4) rfl ?_
    show Steps p.tables e below (T2.setTop (mkF m 5 #[.val (.ref r0), .val (.ref r1), .val (.int (0 : Int32)), .val (.int (0 : Int32)), .val .null, .unset] [(.int (0 : Int32))])) _
    refine XS.ifNo X2.here hx rfl (hb hby d_initE2_5) rfl ((if0 _ _).trans (teq (by decide : (0 : Int32) = (0 : Int32))).2) ?_
    show Steps p.tables e below (T2.setTop (mkF m 8 #[.val (.ref r0), .val (.ref r1), .val (.int (0 : Int32)), .val (.int (0 : Int32)), .val .null, .unset] [])) _
    refine XS.aloadN X2.here hx rfl (hb hby d_initE2_8) rfl rfl ?_
    exact ht
  have hS0 : s.Since s.vm 0 := (State.WarmedH.refl s).since 0
  obtain ⟨c4, T4, h4, kk4, cb4, ck4, X4, e4, E4, hS4, hk4, hZ, hown, Ec4, Cc4, Vc4, Ac4, la4, lb4, hCr4, Lt4, Sf4, st4⟩ := ldcCH (s := s) (vm0 := s.vm) X2 hx hZ hown (hw _ (List.mem_of_getElem? (i := 69) rfl)) (own_atoms hw) e2 hS0 (Nat.zero_le _) (own_EL hw) (by simp [own_ELs]) hCH (vs := []) (z := 0) ⟨by decide, by decide⟩ (by decide) rfl (g := (mkF m 9 #[.val (.ref r0), .val (.ref r1), .val (.int (0 : Int32)), .val (.int (0 : Int32)), .val .null, .unset] [(.ref r0)])) rfl (hb hby d_initE2_9) (n := 0) (by decide) (by decide) (by decide) (by decide)
  have Kp4 : Keep h0 h4 [r0] := (Keep.refl h0 [r0]).ext E4
  have Z4 : n0 ≤ h4.size := Nat.le_trans Z0 E4.1
  have F_value_c_4 := F_value.ext E4
  have F_c_4 := F_coder.ext E4
  have E_r0_c_4 := E_r0.ext E4
  have ne_r0_c4 : r0 ≠ c4 := Fld.ne F_value_c_4 Vc4 (by intro q; cases q)
  have ne_r0_cb4 : r0 ≠ cb4 := Exa.neArv E_r0_c_4 Ac4 (hw _ (List.mem_of_getElem? (i := 11) rfl))
  have k4 : Go p.tables e below (T2.setTop (mkF m 9 #[.val (.ref r0), .val (.ref r1), .val (.int (0 : Int32)), .val (.int (0 : Int32)), .val .null, .unset] [(.ref r0)])) (T4.setTop (mkF m 11 #[.val (.ref r0), .val (.ref r1), .val (.int (0 : Int32)), .val (.int (0 : Int32)), .val .null, .unset] [(.ref c4), (.ref r0)])) := st4
  obtain ⟨T5, X5, e5, st5⟩ := getF X4 hx hZ hown (host := "") (Or.inl (hw _ (List.mem_of_getElem? (i := 23) rfl))) Via.refl e4 Vc4 (g := (mkF m 11 #[.val (.ref r0), .val (.ref r1), .val (.int (0 : Int32)), .val (.int (0 : Int32)), .val .null, .unset] [(.ref c4), (.ref r0)])) rfl rfl (hb hby d_initE2_11)
  have k5 : Go p.tables e below (T4.setTop (mkF m 11 #[.val (.ref r0), .val (.ref r1), .val (.int (0 : Int32)), .val (.int (0 : Int32)), .val .null, .unset] [(.ref c4), (.ref r0)])) (T5.setTop (mkF m 14 #[.val (.ref r0), .val (.ref r1), .val (.int (0 : Int32)), .val (.int (0 : Int32)), .val .null, .unset] [(.ref cb4), (.ref r0)])) := st5
  obtain ⟨T6, h6, X6, e6, W6, st6⟩ := putF X5 hx hZ hown (host := "") (Or.inl (hw _ (List.mem_of_getElem? (i := 23) rfl))) Via.refl e5 F_value_c_4 E_r0_c_4 (Or.inr ⟨(hw _ (List.mem_of_getElem? (i := 24) rfl)), rfl, hnm⟩) (hw _ (List.mem_of_getElem? (i := 11) rfl)) (ty := (.array .byte)) (by decide) rfl rfl (g := (mkF m 14 #[.val (.ref r0), .val (.ref r1), .val (.int (0 : Int32)), .val (.int (0 : Int32)), .val .null, .unset] [(.ref cb4), (.ref r0)])) rfl rfl (hb hby d_initE2_14)
  have Kp6 : Keep h0 h6 [r0] := Kp4.wr W6 (Or.inl (by simp))
  have Z6 : n0 ≤ h6.size := Nat.le_trans Z4 (Keep.of_wr W6).1
  have F_value_c_6 := F_value_c_4.same W6
  have F_c_6 := F_c_4.other W6 (Or.inr (slot_ne (Or.inr (hw _ (List.mem_of_getElem? (i := 26) rfl))) (Or.inr (hw _ (List.mem_of_getElem? (i := 24) rfl))) (by decide) (t := .byte) (t' := (.array .byte)) (by decide) (by decide)))
  have E_r0_c_6 := E_r0_c_4.wr W6
  have Ec4_c_6 := Ec4.wr W6
  have Cc4_c_6 := Cc4.other W6 (Or.inl (Ne.symm ne_r0_c4))
  have Vc4_c_6 := Vc4.other W6 (Or.inl (Ne.symm ne_r0_c4))
  have Ac4_c_6 := Ac4.other W6 (Ne.symm ne_r0_cb4)
  have k6 : Go p.tables e below (T5.setTop (mkF m 14 #[.val (.ref r0), .val (.ref r1), .val (.int (0 : Int32)), .val (.int (0 : Int32)), .val .null, .unset] [(.ref cb4), (.ref r0)])) (T6.setTop (mkF m 17 #[.val (.ref r0), .val (.ref r1), .val (.int (0 : Int32)), .val (.int (0 : Int32)), .val .null, .unset] [])) := st6
  have N6 := Fr.snoc X6 N0 g_r0
  have k7 : Go p.tables e below (T6.setTop (mkF m 17 #[.val (.ref r0), .val (.ref r1), .val (.int (0 : Int32)), .val (.int (0 : Int32)), .val .null, .unset] [])) (T6.setTop (mkF m 20 #[.val (.ref r0), .val (.ref r1), .val (.int (0 : Int32)), .val (.int (0 : Int32)), .val .null, .unset] [(.ref c4), (.ref r0)])) := by
    intro t ht
    refine XS.aloadN X6.here hx rfl (hb hby d_initE2_17) rfl rfl ?_
    show Steps p.tables e below (T6.setTop (mkF m 18 #[.val (.ref r0), .val (.ref r1), .val (.int (0 : Int32)), .val (.int (0 : Int32)), .val .null, .unset] [(.ref r0)])) _
    refine ldcAgain X6 hx hZ hown (hw _ (List.mem_of_getElem? (i := 69) rfl)) Lt4 (g := (mkF m 18 #[.val (.ref r0), .val (.ref r1), .val (.int (0 : Int32)), .val (.int (0 : Int32)), .val .null, .unset] [(.ref r0)])) rfl (hb hby d_initE2_18) _ ?_
    exact ht
  obtain ⟨T8, X8, e8, st8⟩ := getF X6 hx hZ hown (host := "") (Or.inl (hw _ (List.mem_of_getElem? (i := 25) rfl))) Via.refl e6 Cc4_c_6 (g := (mkF m 20 #[.val (.ref r0), .val (.ref r1), .val (.int (0 : Int32)), .val (.int (0 : Int32)), .val .null, .unset] [(.ref c4), (.ref r0)])) rfl rfl (hb hby d_initE2_20)
  have k8 : Go p.tables e below (T6.setTop (mkF m 20 #[.val (.ref r0), .val (.ref r1), .val (.int (0 : Int32)), .val (.int (0 : Int32)), .val .null, .unset] [(.ref c4), (.ref r0)])) (T8.setTop (mkF m 23 #[.val (.ref r0), .val (.ref r1), .val (.int (0 : Int32)), .val (.int (0 : Int32)), .val .null, .unset] [(.int (0 : Int32)), (.ref r0)])) := st8
  obtain ⟨T9, h9, X9, e9, W9, st9⟩ := putFN X8 hx hZ hown (hw _ (List.mem_of_getElem? (i := 25) rfl)) Via.refl e8 F_c_6 E_r0_c_6 (Or.inr ⟨(hw _ (List.mem_of_getElem? (i := 26) rfl)), rfl, hnm⟩) (hw _ (List.mem_of_getElem? (i := 11) rfl)) (ty := .byte) (v' := (.int (0 : Int32))) (by decide) rfl (by decide) (g := (mkF m 23 #[.val (.ref r0), .val (.ref r1), .val (.int (0 : Int32)), .val (.int (0 : Int32)), .val .null, .unset] [(.int (0 : Int32)), (.ref r0)])) rfl rfl (hb hby d_initE2_23)
  have Kp9 : Keep h0 h9 [r0] := Kp6.wr W9 (Or.inl (by simp))
  have Z9 : n0 ≤ h9.size := Nat.le_trans Z6 (Keep.of_wr W9).1
  have F_value_c_9 := F_value_c_6.other W9 (Or.inr (slot_ne (Or.inr (hw _ (List.mem_of_getElem? (i := 24) rfl))) (Or.inr (hw _ (List.mem_of_getElem? (i := 26) rfl))) (by decide) (t := (.array .byte)) (t' := .byte) (by decide) (by decide)))
  have F_c_9 := F_c_6.same W9
  have E_r0_c_9 := E_r0_c_6.wr W9
  have Ec4_c_9 := Ec4_c_6.wr W9
  have Cc4_c_9 := Cc4_c_6.other W9 (Or.inl (Ne.symm ne_r0_c4))
  have Vc4_c_9 := Vc4_c_6.other W9 (Or.inl (Ne.symm ne_r0_c4))
  have Ac4_c_9 := Ac4_c_6.other W9 (Ne.symm ne_r0_cb4)
  have k9 : Go p.tables e below (T8.setTop (mkF m 23 #[.val (.ref r0), .val (.ref r1), .val (.int (0 : Int32)), .val (.int (0 : Int32)), .val .null, .unset] [(.int (0 : Int32)), (.ref r0)])) (T9.setTop (mkF m 26 #[.val (.ref r0), .val (.ref r1), .val (.int (0 : Int32)), .val (.int (0 : Int32)), .val .null, .unset] [])) := st9
  have N9 := Fr.snoc X9 N6 g_r0
  obtain ⟨fs, hr, hrun, hended, hW⟩ := X9.leaveW (s := s) hS4 (by rw [e9]; exact (Nat.le_trans (Nat.le_trans hk4 (Keep.of_wr W6).1) (Keep.of_wr W9).1)) (v := none) (fun _ => rfl)
  refine ⟨_, _, pre0 _ ((goT k1 (goT k2 (goT k3 (goT k4 (goT k5 (goT k6 (goT k7 (goT k8 k9)))))))) _ (X9.returnOut hx Bd.returns (hb hby d_initE2_26) hr)), hrun, hended, _, _, rfl, ?_, hW.1, hW.2.1, hW.2.2.1, hW.2.2.2.mono (by decide) (by decide)⟩
  show Q_initE2 Z r0 r1 h0 n0 _ T9.heap _
  rw [e9]
  exact ⟨cb4, ck4, rfl, N9, Kp9, E_r0_c_9, F_value_c_9, F_c_9, Ac4_c_9⟩
theorem pd_3 : parseMethodDescriptor "([CIILjava/lang/Void;)V" = some ⟨[(.array .char), .int, .int, (.object "java/lang/Void")], none⟩ := by decide +kernel
theorem d_initE1_0 : decode jdk_42_method_3_code 0 = .ok (.aload_n 0, 1) := by decide +kernel
theorem d_initE1_1 : decode jdk_42_method_3_code 1 = .ok (.aload_n 1, 1) := by decide +kernel
theorem d_initE1_2 : decode jdk_42_method_3_code 2 = .ok (.iconst 0, 1) := by decide +kernel
theorem d_initE1_3 : decode jdk_42_method_3_code 3 = .ok (.aload_n 1, 1) := by decide +kernel
theorem d_initE1_4 : decode jdk_42_method_3_code 4 = .ok (.arraylength, 1) := by decide +kernel
theorem d_initE1_5 : decode jdk_42_method_3_code 5 = .ok (.aconst_null, 1) := by decide +kernel
theorem d_initE1_6 : decode jdk_42_method_3_code 6 = .ok (.invokespecial 27, 3) := by decide +kernel
theorem d_initE1_9 : decode jdk_42_method_3_code 9 = .ok (.return_, 1) := by decide +kernel
theorem ef_initE1 (m : MethodId) (x0 : Addr) (x1 : Addr) : entryFrame m #[(.ref x0), (.ref x1)] 2 = mkF m 0 #[.val (.ref x0), .val (.ref x1)] [] := by first | (simp [entryFrame, mkF, argsToLocals, Value.category]; done) | rfl
def Q_initE1 (Z : State) (r0 : Addr) (r1 : Addr) (kA : ClassId) (h0 : Heap) (n0 : Nat) (v : Option Value) (h : Heap) (L : List Loc) : Prop := ∃ (xb : Addr) (xk : ClassId), v = none ∧ Fr n0 L ∧ Keep h0 h [r0] ∧ Exa Z h r0 "java/lang/String" ∧ Fld Z h r0 "java/lang/String" "value" "[B" (.ref xb) ∧ Fld Z h r0 "java/lang/String" "coder" "B" (.int (nar .byte (0 : Int32))) ∧ Arv Z h xb xk .byte (0 : Int32) [] (.int (0 : Int32))
set_option maxRecDepth 65536 in
set_option maxHeartbeats 40000000 in
theorem rm_initE1 (l : Launch) (Z : State) (a0 : Array Value) (hw : ∀ d ∈ tables_1, d.before a0 Z = true) (ws : List Jvm.Cond) (r0 : Addr) (r1 : Addr) (kA : ClassId) (h0 : Heap) (n0 : Nat) (Z0 : n0 ≤ h0.size) (F_value : Fld Z h0 r0 "java/lang/String" "value" "[B" .null) (F_coder : Fld Z h0 r0 "java/lang/String" "coder" "B" (.int (0 : Int32))) (E_r0 : Exa Z h0 r0 "java/lang/String") (V_A : Arv Z h0 r1 kA .char (0 : Int32) [] (.int (0 : Int32))) (g_r0 : n0 ≤ r0) :
    MetFree l (⟨"java/lang/String", "<init>", "([C)V"⟩ : MethodName) (head1 (Jvm.Cond.code (⟨"java/lang/String", "<init>", "([C)V"⟩ : MethodName) jdk_42_method_3_code 2 none :: ws) ({ frames := 2, cells := 2, slots := 4, locals := 29 } : Room)) (fun a U => a = #[(.ref r0), (.ref r1)] ∧ Z.Warmed39 U.vm ∧ U.heap = h0 ∧ CHv Z own_ELs U.vm h0) (fun _ _ _ _ _ => True) (fun _ U o U' => ∃ v L, o = .returned v ∧ Q_initE1 Z r0 r1 kA h0 n0 v U'.heap L ∧ ReturnedEndW U o U' L ({ frames := 2, cells := 2, slots := 4, locals := 29 } : Room).cells ({ frames := 2, cells := 2, slots := 4, locals := 29 } : Room).slots) := by
  refine MetFree.of_bodySF (plainFor_of_name pn_2) hisR ?_
  intro p e s m args below meth c s₁ Bd hml0 hP hK
  obtain ⟨rfl, hZ, hh, hCH⟩ := hP
  have hx := Bd.exec
  have hby := Bd.bytes
  have hml : c.maxLocals = 2 := hml0
  have hown : s.vm.findClass "java/lang/String" = some m.cls := findClass_of_methodNamed Bd.named
  have hnm := (name_of_methodNamed Bd.named Bd.method).1
  have X0 : Stand p l e ({ frames := 2, cells := 2, slots := 4, locals := 29 } : Room) s m #[(.ref r0), (.ref r1)] below meth c s₁ [] 0 0 := Stand.of_body Bd
  have e0 : s₁.heap = h0 := by rw [← hh, Bd.state]; rfl
  have N0 := Fr.nil n0
  have pre0 : ∀ t, Steps p.tables e below (s₁.setTop (mkF m 0 #[.val (.ref r0), .val (.ref r1)] [])) t → Steps p.tables e below (s₁.setTop (entryFrame m #[(.ref r0), (.ref r1)] 2)) t := fun t k => castTop (ef_initE1 m r0 r1) k
  have k1 : Go p.tables e below (s₁.setTop (mkF m 0 #[.val (.ref r0), .val (.ref r1)] [])) (s₁.setTop (mkF m 4 #[.val (.ref r0), .val (.ref r1)] [(.ref r1), (.int (0 : Int32)), (.ref r1), (.ref r0)])) := by
    intro t ht
    refine XS.aloadN X0.here hx rfl (hb hby d_initE1_0) rfl rfl ?_
    show Steps p.tables e below (s₁.setTop (mkF m 1 #[.val (.ref r0), .val (.ref r1)] [(.ref r0)])) _
    refine XS.aloadN X0.here hx rfl (hb hby d_initE1_1) rfl rfl ?_
    show Steps p.tables e below (s₁.setTop (mkF m 2 #[.val (.ref r0), .val (.ref r1)] [(.ref r1), (.ref r0)])) _
    refine XS.iconst X0.here hx rfl (hb hby d_initE1_2) ?_
    show Steps p.tables e below (s₁.setTop (mkF m 3 #[.val (.ref r0), .val (.ref r1)] [(.int (0 : Int32)), (.ref r1), (.ref r0)])) _
    refine XS.aloadN X0.here hx rfl (hb hby d_initE1_3) rfl rfl ?_
    exact ht
  obtain ⟨cl2, Ar2, q2, S2, M2, H2, G2⟩ := id V_A
  have k3 : Go p.tables e below (s₁.setTop (mkF m 4 #[.val (.ref r0), .val (.ref r1)] [(.ref r1), (.int (0 : Int32)), (.ref r1), (.ref r0)])) (s₁.setTop (mkF m 6 #[.val (.ref r0), .val (.ref r1)] [.null, (.int (0 : Int32)), (.int (0 : Int32)), (.ref r1), (.ref r0)])) := by
    intro t ht
    refine X0.arraylength hx (by rw [e0]; exact Ar2.1) (State.isArrayOf_alike hZ.alike Ar2.2.1) (g := (mkF m 4 #[.val (.ref r0), .val (.ref r1)] [(.ref r1), (.int (0 : Int32)), (.ref r1), (.ref r0)])) rfl rfl (hb hby d_initE1_4) _ ?_
    rw [len_of S2 M2]
    show Steps p.tables e below (s₁.setTop (mkF m 5 #[.val (.ref r0), .val (.ref r1)] [(.int (0 : Int32)), (.int (0 : Int32)), (.ref r1), (.ref r0)])) _
    refine XS.aconstNull X0.here hx rfl (hb hby d_initE1_5) ?_
    exact ht
  have hS0 : s.Since s.vm 0 := (State.WarmedH.refl s).since 0
  obtain ⟨_, _, ⟨T4, L4, kq4, n4⟩, -, X4, hSn4, hgr4, ⟨Lc4, hQ4, l4, y4, z4⟩, st4⟩ := X0.specialBackS hx (y := (⟨"java/lang/String", "<init>", "([CIILjava/lang/Void;)V"⟩ : MethodName)) rfl hown (mvT hZ (hw _ (List.mem_of_getElem? (i := 56) rfl))) (mvT hZ (hw _ (List.mem_of_getElem? (i := 57) rfl))) (mvT hZ (hw _ (List.mem_of_getElem? (i := 58) rfl))) (by decide) (own_backOfSC (s := s) (vm0 := s.vm) (W := 0) (rm_initE2 l Z a0 hw [] r0 r1 h0 n0 Z0 F_value F_coder E_r0 g_r0) hZ (hw _ (List.mem_of_getElem? (i := 58) rfl)) (hw _ (List.mem_of_getElem? (i := 3) rfl)) (by decide) (by decide) (own_EL hw) hCH) (g := (mkF m 6 #[.val (.ref r0), .val (.ref r1)] [.null, (.int (0 : Int32)), (.int (0 : Int32)), (.ref r1), (.ref r0)])) rfl (by rw [hml]; rfl) (Steps.refl _) (a := r0) (argsL := [(.ref r1), (.int (0 : Int32)), (.int (0 : Int32)), .null]) (rest := []) (lenOf pd_3 rfl) rfl (by show 2 * 0 + _ ≤ _; exact Nat.le_of_eq rfl) (hb hby d_initE1_6) (fun _ _ => ⟨rfl, e0, (by decide : 0 + 2 ≤ _), (by decide : 0 + 4 ≤ _)⟩)
  dsimp only [Pt.U, Pt.locs, Pt.cells, Pt.slots] at X4 l4 y4 z4 st4 hQ4 hSn4 hgr4
  subst l4 y4 z4
  obtain ⟨X4, hS4, hZ, hown⟩ := rebS (s := s) (vm0 := s.vm) hS0 (Nat.zero_le _) X4 hSn4 (Nat.zero_le _) hZ hown
  obtain ⟨xb_4, xk_4, rfl, N4q, K4, Fq4_0, Fq4_1, Fq4_2, Fq4_3⟩ := hQ4
  have N4 := Fr.app N0 N4q
  have k4 : Go p.tables e below (s₁.setTop (mkF m 6 #[.val (.ref r0), .val (.ref r1)] [.null, (.int (0 : Int32)), (.int (0 : Int32)), (.ref r1), (.ref r0)])) (T4.setTop (mkF m 9 #[.val (.ref r0), .val (.ref r1)] [])) := fun _ ht => st4.trans ht
  have Kp4 : Keep h0 T4.heap [r0] := (Keep.refl h0 [r0]).trans K4 (allS (Or.inl (by simp)) all0)
  have Z4 : n0 ≤ T4.heap.size := Nat.le_trans Z0 K4.1
  have E_r0_c_4 := E_r0.keep K4
  obtain ⟨fs, hr, hrun, hended, hW⟩ := X4.leaveW (s := s) hS4 (Nat.le_refl _) (v := none) (fun _ => rfl)
  refine ⟨_, _, pre0 _ ((goT k1 (goT k3 k4)) _ (X4.returnOut hx Bd.returns (hb hby d_initE1_9) hr)), hrun, hended, _, _, rfl, ?_, hW.1, hW.2.1, hW.2.2.1, hW.2.2.2.mono (by decide) (by decide)⟩
  show Q_initE1 Z r0 r1 kA h0 n0 _ T4.heap _
  exact ⟨xb_4, xk_4, rfl, N4, Kp4, Fq4_0, Fq4_1, Fq4_2, Fq4_3⟩
theorem pd_4 : parseMethodDescriptor "()V" = some ⟨[], none⟩ := by decide +kernel
theorem d_init_0 : decode prog_21_method_1_code 0 = .ok (.aload_n 0, 1) := by decide +kernel
theorem d_init_1 : decode prog_21_method_1_code 1 = .ok (.invokespecial 1, 3) := by decide +kernel
theorem d_init_4 : decode prog_21_method_1_code 4 = .ok (.aload_n 0, 1) := by decide +kernel
theorem d_init_5 : decode prog_21_method_1_code 5 = .ok (.aload_n 1, 1) := by decide +kernel
theorem d_init_6 : decode prog_21_method_1_code 6 = .ok (.putfield 7, 3) := by decide +kernel
theorem d_init_9 : decode prog_21_method_1_code 9 = .ok (.aload_n 0, 1) := by decide +kernel
theorem d_init_10 : decode prog_21_method_1_code 10 = .ok (.aload_n 2, 1) := by decide +kernel
theorem d_init_11 : decode prog_21_method_1_code 11 = .ok (.putfield 13, 3) := by decide +kernel
theorem d_init_14 : decode prog_21_method_1_code 14 = .ok (.aload_n 0, 1) := by decide +kernel
theorem d_init_15 : decode prog_21_method_1_code 15 = .ok (.iload_n 3, 1) := by decide +kernel
theorem d_init_16 : decode prog_21_method_1_code 16 = .ok (.putfield 16, 3) := by decide +kernel
theorem d_init_19 : decode prog_21_method_1_code 19 = .ok (.return_, 1) := by decide +kernel
theorem pn_3 : plainName "com/example/plain_keys/plainkeys/dialect/KeyTableLayout" = true := by first | (simp [plainName, overriddenIn]; done) | decide +kernel
theorem ef_init (m : MethodId) (x0 : Addr) (x1 : Addr) (x2 : Addr) (x3 : Int32) : entryFrame m #[(.ref x0), (.ref x1), (.ref x2), (.int x3)] 4 = mkF m 0 #[.val (.ref x0), .val (.ref x1), .val (.ref x2), .val (.int x3)] [] := by first | (simp [entryFrame, mkF, argsToLocals, Value.category]; done) | rfl
def Q_init (Z : State) (r0 : Addr) (r1 : Addr) (r2 : Addr) (p3 : Int32) (h0 : Heap) (n0 : Nat) (v : Option Value) (h : Heap) (L : List Loc) : Prop := v = none ∧ Fr n0 L ∧ Keep h0 h [r0] ∧ Exa Z h r0 "com/example/plain_keys/plainkeys/dialect/KeyTableLayout" ∧ Fld Z h r0 "com/example/plain_keys/plainkeys/dialect/KeyTableLayout" "nameColumn" "Ljava/lang/String;" (.ref r1) ∧ Fld Z h r0 "com/example/plain_keys/plainkeys/dialect/KeyTableLayout" "valueColumn" "Ljava/lang/String;" (.ref r2) ∧ Fld Z h r0 "com/example/plain_keys/plainkeys/dialect/KeyTableLayout" "valueIsLastKey" "Z" (.int (nar .boolean p3))
set_option maxRecDepth 65536 in
set_option maxHeartbeats 40000000 in
theorem rm_init (l : Launch) (Z : State) (a0 : Array Value) (hw : ∀ d ∈ tables_1, d.before a0 Z = true) (ws : List Jvm.Cond) (r0 : Addr) (r1 : Addr) (r2 : Addr) (p3 : Int32) (h0 : Heap) (n0 : Nat) (Z0 : n0 ≤ h0.size) (F_nameColumn : Fld Z h0 r0 "com/example/plain_keys/plainkeys/dialect/KeyTableLayout" "nameColumn" "Ljava/lang/String;" .null) (F_valueColumn : Fld Z h0 r0 "com/example/plain_keys/plainkeys/dialect/KeyTableLayout" "valueColumn" "Ljava/lang/String;" .null) (F_valueIsLastKey : Fld Z h0 r0 "com/example/plain_keys/plainkeys/dialect/KeyTableLayout" "valueIsLastKey" "Z" (.int (0 : Int32))) (E_r0 : Exa Z h0 r0 "com/example/plain_keys/plainkeys/dialect/KeyTableLayout") (g_r0 : n0 ≤ r0) :
    MetFree l (⟨"com/example/plain_keys/plainkeys/dialect/KeyTableLayout", "<init>", "(Ljava/lang/String;Ljava/lang/String;Z)V"⟩ : MethodName) (head1 (Jvm.Cond.code (⟨"com/example/plain_keys/plainkeys/dialect/KeyTableLayout", "<init>", "(Ljava/lang/String;Ljava/lang/String;Z)V"⟩ : MethodName) prog_21_method_1_code 4 none :: ws) ({ frames := 2, cells := 0, slots := 0, locals := 24 } : Room)) (fun a U => a = #[(.ref r0), (.ref r1), (.ref r2), (.int p3)] ∧ Z.Warmed39 U.vm ∧ U.heap = h0) (fun _ _ _ _ _ => True) (fun _ U o U' => ∃ v L, o = .returned v ∧ Q_init Z r0 r1 r2 p3 h0 n0 v U'.heap L ∧ FrameEnd U o U' L ({ frames := 2, cells := 0, slots := 0, locals := 24 } : Room).cells ({ frames := 2, cells := 0, slots := 0, locals := 24 } : Room).slots) := by
  refine MetFree.of_bodySF (plainFor_of_name pn_3) hisR ?_
  intro p e s m args below meth c s₁ Bd hml0 hP hK
  obtain ⟨rfl, hZ, hh⟩ := hP
  have hx := Bd.exec
  have hby := Bd.bytes
  have hml : c.maxLocals = 4 := hml0
  have hown : s.vm.findClass "com/example/plain_keys/plainkeys/dialect/KeyTableLayout" = some m.cls := findClass_of_methodNamed Bd.named
  have hnm := (name_of_methodNamed Bd.named Bd.method).1
  have X0 : Stand p l e ({ frames := 2, cells := 0, slots := 0, locals := 24 } : Room) s m #[(.ref r0), (.ref r1), (.ref r2), (.int p3)] below meth c s₁ [] 0 0 := Stand.of_body Bd
  have e0 : s₁.heap = h0 := by rw [← hh, Bd.state]; rfl
  have N0 := Fr.nil n0
  have pre0 : ∀ t, Steps p.tables e below (s₁.setTop (mkF m 0 #[.val (.ref r0), .val (.ref r1), .val (.ref r2), .val (.int p3)] [])) t → Steps p.tables e below (s₁.setTop (entryFrame m #[(.ref r0), (.ref r1), (.ref r2), (.int p3)] 4)) t := fun t k => castTop (ef_init m r0 r1 r2 p3) k
  have k1 : Go p.tables e below (s₁.setTop (mkF m 0 #[.val (.ref r0), .val (.ref r1), .val (.ref r2), .val (.int p3)] [])) (s₁.setTop (mkF m 1 #[.val (.ref r0), .val (.ref r1), .val (.ref r2), .val (.int p3)] [(.ref r0)])) := by
    intro t ht
    refine XS.aloadN X0.here hx rfl (hb hby d_init_0) rfl rfl ?_
    exact ht
  obtain ⟨_, _, ⟨T2, L2, kq2, n2⟩, -, X2, ⟨Lc2, hQ2, l2, y2, z2⟩, st2⟩ := X0.specialBack hx (y := (⟨"java/lang/Record", "<init>", "()V"⟩ : MethodName)) rfl hown (mvT hZ (hw _ (List.mem_of_getElem? (i := 33) rfl))) (mvT hZ (hw _ (List.mem_of_getElem? (i := 34) rfl))) (mvT hZ (hw _ (List.mem_of_getElem? (i := 37) rfl))) (by decide) (backOf (W := 0) (rm_recordInit l Z a0 hw [] r0 h0 n0 Z0 ) hZ (hw _ (List.mem_of_getElem? (i := 37) rfl)) (hw _ (List.mem_of_getElem? (i := 36) rfl)) (by decide) (by decide)) (g := (mkF m 1 #[.val (.ref r0), .val (.ref r1), .val (.ref r2), .val (.int p3)] [(.ref r0)])) rfl (by rw [hml]; rfl) (Steps.refl _) (a := r0) (argsL := []) (rest := []) (lenOf pd_4 rfl) rfl (by show 2 * 0 + _ ≤ _; exact Nat.le_of_eq rfl) (hb hby d_init_1) (fun _ _ => ⟨rfl, e0, (by decide : 0 + 0 ≤ _), (by decide : 0 + 0 ≤ _)⟩)
  dsimp only [Pt.U, Pt.locs, Pt.cells, Pt.slots] at X2 l2 y2 z2 st2 hQ2
  subst l2 y2 z2
  obtain ⟨rfl, N2q, eq2⟩ := hQ2
  have N2 := Fr.app N0 N2q
  have k2 : Go p.tables e below (s₁.setTop (mkF m 1 #[.val (.ref r0), .val (.ref r1), .val (.ref r2), .val (.int p3)] [(.ref r0)])) (T2.setTop (mkF m 4 #[.val (.ref r0), .val (.ref r1), .val (.ref r2), .val (.int p3)] [])) := fun _ ht => st2.trans ht
  have k3 : Go p.tables e below (T2.setTop (mkF m 4 #[.val (.ref r0), .val (.ref r1), .val (.ref r2), .val (.int p3)] [])) (T2.setTop (mkF m 6 #[.val (.ref r0), .val (.ref r1), .val (.ref r2), .val (.int p3)] [(.ref r1), (.ref r0)])) := by
    intro t ht
    refine XS.aloadN X2.here hx rfl (hb hby d_init_4) rfl rfl ?_
    show Steps p.tables e below (T2.setTop (mkF m 5 #[.val (.ref r0), .val (.ref r1), .val (.ref r2), .val (.int p3)] [(.ref r0)])) _
    refine XS.aloadN X2.here hx rfl (hb hby d_init_5) rfl rfl ?_
    exact ht
  obtain ⟨T4, h4, X4, e4, W4, st4⟩ := putF X2 hx hZ hown (host := "") (Or.inl (hw _ (List.mem_of_getElem? (i := 39) rfl))) Via.refl eq2 F_nameColumn E_r0 (Or.inr ⟨(hw _ (List.mem_of_getElem? (i := 40) rfl)), rfl, hnm⟩) (hw _ (List.mem_of_getElem? (i := 28) rfl)) (ty := (.object "java/lang/String")) (by decide) rfl rfl (g := (mkF m 6 #[.val (.ref r0), .val (.ref r1), .val (.ref r2), .val (.int p3)] [(.ref r1), (.ref r0)])) rfl rfl (hb hby d_init_6)
  have Kp4 : Keep h0 h4 [r0] := (Keep.refl h0 [r0]).wr W4 (Or.inl (by simp))
  have Z4 : n0 ≤ h4.size := Nat.le_trans Z0 (Keep.of_wr W4).1
  have F_nameColumn_c_4 := F_nameColumn.same W4
  have F_valueColumn_c_4 := F_valueColumn.other W4 (Or.inr (slot_ne (Or.inr (hw _ (List.mem_of_getElem? (i := 42) rfl))) (Or.inr (hw _ (List.mem_of_getElem? (i := 40) rfl))) (by decide) (t := (.object "java/lang/String")) (t' := (.object "java/lang/String")) (by decide) (by decide)))
  have F_valueIsLastKey_c_4 := F_valueIsLastKey.other W4 (Or.inr (slot_ne (Or.inr (hw _ (List.mem_of_getElem? (i := 44) rfl))) (Or.inr (hw _ (List.mem_of_getElem? (i := 40) rfl))) (by decide) (t := .boolean) (t' := (.object "java/lang/String")) (by decide) (by decide)))
  have E_r0_c_4 := E_r0.wr W4
  have k4 : Go p.tables e below (T2.setTop (mkF m 6 #[.val (.ref r0), .val (.ref r1), .val (.ref r2), .val (.int p3)] [(.ref r1), (.ref r0)])) (T4.setTop (mkF m 9 #[.val (.ref r0), .val (.ref r1), .val (.ref r2), .val (.int p3)] [])) := st4
  have N4 := Fr.snoc X4 N2 g_r0
  have k5 : Go p.tables e below (T4.setTop (mkF m 9 #[.val (.ref r0), .val (.ref r1), .val (.ref r2), .val (.int p3)] [])) (T4.setTop (mkF m 11 #[.val (.ref r0), .val (.ref r1), .val (.ref r2), .val (.int p3)] [(.ref r2), (.ref r0)])) := by
    intro t ht
    refine XS.aloadN X4.here hx rfl (hb hby d_init_9) rfl rfl ?_
    show Steps p.tables e below (T4.setTop (mkF m 10 #[.val (.ref r0), .val (.ref r1), .val (.ref r2), .val (.int p3)] [(.ref r0)])) _
    refine XS.aloadN X4.here hx rfl (hb hby d_init_10) rfl rfl ?_
    exact ht
  obtain ⟨T6, h6, X6, e6, W6, st6⟩ := putF X4 hx hZ hown (host := "") (Or.inl (hw _ (List.mem_of_getElem? (i := 41) rfl))) Via.refl e4 F_valueColumn_c_4 E_r0_c_4 (Or.inr ⟨(hw _ (List.mem_of_getElem? (i := 42) rfl)), rfl, hnm⟩) (hw _ (List.mem_of_getElem? (i := 28) rfl)) (ty := (.object "java/lang/String")) (by decide) rfl rfl (g := (mkF m 11 #[.val (.ref r0), .val (.ref r1), .val (.ref r2), .val (.int p3)] [(.ref r2), (.ref r0)])) rfl rfl (hb hby d_init_11)
  have Kp6 : Keep h0 h6 [r0] := Kp4.wr W6 (Or.inl (by simp))
  have Z6 : n0 ≤ h6.size := Nat.le_trans Z4 (Keep.of_wr W6).1
  have F_nameColumn_c_6 := F_nameColumn_c_4.other W6 (Or.inr (slot_ne (Or.inr (hw _ (List.mem_of_getElem? (i := 40) rfl))) (Or.inr (hw _ (List.mem_of_getElem? (i := 42) rfl))) (by decide) (t := (.object "java/lang/String")) (t' := (.object "java/lang/String")) (by decide) (by decide)))
  have F_valueColumn_c_6 := F_valueColumn_c_4.same W6
  have F_valueIsLastKey_c_6 := F_valueIsLastKey_c_4.other W6 (Or.inr (slot_ne (Or.inr (hw _ (List.mem_of_getElem? (i := 44) rfl))) (Or.inr (hw _ (List.mem_of_getElem? (i := 42) rfl))) (by decide) (t := .boolean) (t' := (.object "java/lang/String")) (by decide) (by decide)))
  have E_r0_c_6 := E_r0_c_4.wr W6
  have k6 : Go p.tables e below (T4.setTop (mkF m 11 #[.val (.ref r0), .val (.ref r1), .val (.ref r2), .val (.int p3)] [(.ref r2), (.ref r0)])) (T6.setTop (mkF m 14 #[.val (.ref r0), .val (.ref r1), .val (.ref r2), .val (.int p3)] [])) := st6
  have N6 := Fr.snoc X6 N4 g_r0
  have k7 : Go p.tables e below (T6.setTop (mkF m 14 #[.val (.ref r0), .val (.ref r1), .val (.ref r2), .val (.int p3)] [])) (T6.setTop (mkF m 16 #[.val (.ref r0), .val (.ref r1), .val (.ref r2), .val (.int p3)] [(.int p3), (.ref r0)])) := by
    intro t ht
    refine XS.aloadN X6.here hx rfl (hb hby d_init_14) rfl rfl ?_
    show Steps p.tables e below (T6.setTop (mkF m 15 #[.val (.ref r0), .val (.ref r1), .val (.ref r2), .val (.int p3)] [(.ref r0)])) _
    refine XS.iloadN X6.here hx rfl (hb hby d_init_15) rfl ?_
    exact ht
  obtain ⟨T8, h8, X8, e8, W8, st8⟩ := putFN X6 hx hZ hown (hw _ (List.mem_of_getElem? (i := 43) rfl)) Via.refl e6 F_valueIsLastKey_c_6 E_r0_c_6 (Or.inr ⟨(hw _ (List.mem_of_getElem? (i := 44) rfl)), rfl, hnm⟩) (hw _ (List.mem_of_getElem? (i := 28) rfl)) (ty := .boolean) (v' := (.int (nar .boolean p3))) (by decide) rfl (fits_nar_bool _) (g := (mkF m 16 #[.val (.ref r0), .val (.ref r1), .val (.ref r2), .val (.int p3)] [(.int p3), (.ref r0)])) rfl rfl (hb hby d_init_16)
  have Kp8 : Keep h0 h8 [r0] := Kp6.wr W8 (Or.inl (by simp))
  have Z8 : n0 ≤ h8.size := Nat.le_trans Z6 (Keep.of_wr W8).1
  have F_nameColumn_c_8 := F_nameColumn_c_6.other W8 (Or.inr (slot_ne (Or.inr (hw _ (List.mem_of_getElem? (i := 40) rfl))) (Or.inr (hw _ (List.mem_of_getElem? (i := 44) rfl))) (by decide) (t := (.object "java/lang/String")) (t' := .boolean) (by decide) (by decide)))
  have F_valueColumn_c_8 := F_valueColumn_c_6.other W8 (Or.inr (slot_ne (Or.inr (hw _ (List.mem_of_getElem? (i := 42) rfl))) (Or.inr (hw _ (List.mem_of_getElem? (i := 44) rfl))) (by decide) (t := (.object "java/lang/String")) (t' := .boolean) (by decide) (by decide)))
  have F_valueIsLastKey_c_8 := F_valueIsLastKey_c_6.same W8
  have E_r0_c_8 := E_r0_c_6.wr W8
  have k8 : Go p.tables e below (T6.setTop (mkF m 16 #[.val (.ref r0), .val (.ref r1), .val (.ref r2), .val (.int p3)] [(.int p3), (.ref r0)])) (T8.setTop (mkF m 19 #[.val (.ref r0), .val (.ref r1), .val (.ref r2), .val (.int p3)] [])) := st8
  have N8 := Fr.snoc X8 N6 g_r0
  obtain ⟨fs, hr, hrun, hended, hW, hsame⟩ := X8.leave (v := none) (fun _ => rfl)
  refine ⟨_, _, pre0 _ ((goT k1 (goT k2 (goT k3 (goT k4 (goT k5 (goT k6 (goT k7 k8))))))) _ (X8.returnOut hx Bd.returns (hb hby d_init_19) hr)), hrun, hended, _, _, rfl, ?_, ⟨_, rfl⟩, hW, hsame.mono (by decide) (by decide)⟩
  show Q_init Z r0 r1 r2 p3 h0 n0 _ T8.heap _
  rw [e8]
  exact ⟨rfl, N8, Kp8, E_r0_c_8, F_nameColumn_c_8, F_valueColumn_c_8, F_valueIsLastKey_c_8⟩
theorem d_initNull_0 : decode prog_21_method_1_code 0 = .ok (.aload_n 0, 1) := by decide +kernel
theorem d_initNull_1 : decode prog_21_method_1_code 1 = .ok (.invokespecial 1, 3) := by decide +kernel
theorem d_initNull_4 : decode prog_21_method_1_code 4 = .ok (.aload_n 0, 1) := by decide +kernel
theorem d_initNull_5 : decode prog_21_method_1_code 5 = .ok (.aload_n 1, 1) := by decide +kernel
theorem d_initNull_6 : decode prog_21_method_1_code 6 = .ok (.putfield 7, 3) := by decide +kernel
theorem d_initNull_9 : decode prog_21_method_1_code 9 = .ok (.aload_n 0, 1) := by decide +kernel
theorem d_initNull_10 : decode prog_21_method_1_code 10 = .ok (.aload_n 2, 1) := by decide +kernel
theorem d_initNull_11 : decode prog_21_method_1_code 11 = .ok (.putfield 13, 3) := by decide +kernel
theorem d_initNull_14 : decode prog_21_method_1_code 14 = .ok (.aload_n 0, 1) := by decide +kernel
theorem d_initNull_15 : decode prog_21_method_1_code 15 = .ok (.iload_n 3, 1) := by decide +kernel
theorem d_initNull_16 : decode prog_21_method_1_code 16 = .ok (.putfield 16, 3) := by decide +kernel
theorem d_initNull_19 : decode prog_21_method_1_code 19 = .ok (.return_, 1) := by decide +kernel
theorem ef_initNull (m : MethodId) (x0 : Addr) (x2 : Addr) (x3 : Int32) : entryFrame m #[(.ref x0), .null, (.ref x2), (.int x3)] 4 = mkF m 0 #[.val (.ref x0), .val .null, .val (.ref x2), .val (.int x3)] [] := by first | (simp [entryFrame, mkF, argsToLocals, Value.category]; done) | rfl
def Q_initNull (Z : State) (r0 : Addr) (r2 : Addr) (p3 : Int32) (h0 : Heap) (n0 : Nat) (v : Option Value) (h : Heap) (L : List Loc) : Prop := v = none ∧ Fr n0 L ∧ Keep h0 h [r0] ∧ Exa Z h r0 "com/example/plain_keys/plainkeys/dialect/KeyTableLayout" ∧ Fld Z h r0 "com/example/plain_keys/plainkeys/dialect/KeyTableLayout" "nameColumn" "Ljava/lang/String;" .null ∧ Fld Z h r0 "com/example/plain_keys/plainkeys/dialect/KeyTableLayout" "valueColumn" "Ljava/lang/String;" (.ref r2) ∧ Fld Z h r0 "com/example/plain_keys/plainkeys/dialect/KeyTableLayout" "valueIsLastKey" "Z" (.int (nar .boolean p3))
set_option maxRecDepth 65536 in
set_option maxHeartbeats 40000000 in
theorem rm_initNull (l : Launch) (Z : State) (a0 : Array Value) (hw : ∀ d ∈ tables_1, d.before a0 Z = true) (ws : List Jvm.Cond) (r0 : Addr) (r2 : Addr) (p3 : Int32) (h0 : Heap) (n0 : Nat) (Z0 : n0 ≤ h0.size) (F_nameColumn : Fld Z h0 r0 "com/example/plain_keys/plainkeys/dialect/KeyTableLayout" "nameColumn" "Ljava/lang/String;" .null) (F_valueColumn : Fld Z h0 r0 "com/example/plain_keys/plainkeys/dialect/KeyTableLayout" "valueColumn" "Ljava/lang/String;" .null) (F_valueIsLastKey : Fld Z h0 r0 "com/example/plain_keys/plainkeys/dialect/KeyTableLayout" "valueIsLastKey" "Z" (.int (0 : Int32))) (E_r0 : Exa Z h0 r0 "com/example/plain_keys/plainkeys/dialect/KeyTableLayout") (g_r0 : n0 ≤ r0) :
    MetFree l (⟨"com/example/plain_keys/plainkeys/dialect/KeyTableLayout", "<init>", "(Ljava/lang/String;Ljava/lang/String;Z)V"⟩ : MethodName) (head1 (Jvm.Cond.code (⟨"com/example/plain_keys/plainkeys/dialect/KeyTableLayout", "<init>", "(Ljava/lang/String;Ljava/lang/String;Z)V"⟩ : MethodName) prog_21_method_1_code 4 none :: ws) ({ frames := 2, cells := 0, slots := 0, locals := 24 } : Room)) (fun a U => a = #[(.ref r0), .null, (.ref r2), (.int p3)] ∧ Z.Warmed39 U.vm ∧ U.heap = h0) (fun _ _ _ _ _ => True) (fun _ U o U' => ∃ v L, o = .returned v ∧ Q_initNull Z r0 r2 p3 h0 n0 v U'.heap L ∧ FrameEnd U o U' L ({ frames := 2, cells := 0, slots := 0, locals := 24 } : Room).cells ({ frames := 2, cells := 0, slots := 0, locals := 24 } : Room).slots) := by
  refine MetFree.of_bodySF (plainFor_of_name pn_3) hisR ?_
  intro p e s m args below meth c s₁ Bd hml0 hP hK
  obtain ⟨rfl, hZ, hh⟩ := hP
  have hx := Bd.exec
  have hby := Bd.bytes
  have hml : c.maxLocals = 4 := hml0
  have hown : s.vm.findClass "com/example/plain_keys/plainkeys/dialect/KeyTableLayout" = some m.cls := findClass_of_methodNamed Bd.named
  have hnm := (name_of_methodNamed Bd.named Bd.method).1
  have X0 : Stand p l e ({ frames := 2, cells := 0, slots := 0, locals := 24 } : Room) s m #[(.ref r0), .null, (.ref r2), (.int p3)] below meth c s₁ [] 0 0 := Stand.of_body Bd
  have e0 : s₁.heap = h0 := by rw [← hh, Bd.state]; rfl
  have N0 := Fr.nil n0
  have pre0 : ∀ t, Steps p.tables e below (s₁.setTop (mkF m 0 #[.val (.ref r0), .val .null, .val (.ref r2), .val (.int p3)] [])) t → Steps p.tables e below (s₁.setTop (entryFrame m #[(.ref r0), .null, (.ref r2), (.int p3)] 4)) t := fun t k => castTop (ef_initNull m r0 r2 p3) k
  have k1 : Go p.tables e below (s₁.setTop (mkF m 0 #[.val (.ref r0), .val .null, .val (.ref r2), .val (.int p3)] [])) (s₁.setTop (mkF m 1 #[.val (.ref r0), .val .null, .val (.ref r2), .val (.int p3)] [(.ref r0)])) := by
    intro t ht
    refine XS.aloadN X0.here hx rfl (hb hby d_initNull_0) rfl rfl ?_
    exact ht
  obtain ⟨_, _, ⟨T2, L2, kq2, n2⟩, -, X2, ⟨Lc2, hQ2, l2, y2, z2⟩, st2⟩ := X0.specialBack hx (y := (⟨"java/lang/Record", "<init>", "()V"⟩ : MethodName)) rfl hown (mvT hZ (hw _ (List.mem_of_getElem? (i := 33) rfl))) (mvT hZ (hw _ (List.mem_of_getElem? (i := 34) rfl))) (mvT hZ (hw _ (List.mem_of_getElem? (i := 37) rfl))) (by decide) (backOf (W := 0) (rm_recordInit l Z a0 hw [] r0 h0 n0 Z0 ) hZ (hw _ (List.mem_of_getElem? (i := 37) rfl)) (hw _ (List.mem_of_getElem? (i := 36) rfl)) (by decide) (by decide)) (g := (mkF m 1 #[.val (.ref r0), .val .null, .val (.ref r2), .val (.int p3)] [(.ref r0)])) rfl (by rw [hml]; rfl) (Steps.refl _) (a := r0) (argsL := []) (rest := []) (lenOf pd_4 rfl) rfl (by show 2 * 0 + _ ≤ _; exact Nat.le_of_eq rfl) (hb hby d_initNull_1) (fun _ _ => ⟨rfl, e0, (by decide : 0 + 0 ≤ _), (by decide : 0 + 0 ≤ _)⟩)
  dsimp only [Pt.U, Pt.locs, Pt.cells, Pt.slots] at X2 l2 y2 z2 st2 hQ2
  subst l2 y2 z2
  obtain ⟨rfl, N2q, eq2⟩ := hQ2
  have N2 := Fr.app N0 N2q
  have k2 : Go p.tables e below (s₁.setTop (mkF m 1 #[.val (.ref r0), .val .null, .val (.ref r2), .val (.int p3)] [(.ref r0)])) (T2.setTop (mkF m 4 #[.val (.ref r0), .val .null, .val (.ref r2), .val (.int p3)] [])) := fun _ ht => st2.trans ht
  have k3 : Go p.tables e below (T2.setTop (mkF m 4 #[.val (.ref r0), .val .null, .val (.ref r2), .val (.int p3)] [])) (T2.setTop (mkF m 6 #[.val (.ref r0), .val .null, .val (.ref r2), .val (.int p3)] [.null, (.ref r0)])) := by
    intro t ht
    refine XS.aloadN X2.here hx rfl (hb hby d_initNull_4) rfl rfl ?_
    show Steps p.tables e below (T2.setTop (mkF m 5 #[.val (.ref r0), .val .null, .val (.ref r2), .val (.int p3)] [(.ref r0)])) _
    refine XS.aloadN X2.here hx rfl (hb hby d_initNull_5) rfl rfl ?_
    exact ht
  obtain ⟨T4, h4, X4, e4, W4, st4⟩ := putF X2 hx hZ hown (host := "") (Or.inl (hw _ (List.mem_of_getElem? (i := 39) rfl))) Via.refl eq2 F_nameColumn E_r0 (Or.inr ⟨(hw _ (List.mem_of_getElem? (i := 40) rfl)), rfl, hnm⟩) (hw _ (List.mem_of_getElem? (i := 28) rfl)) (ty := (.object "java/lang/String")) (by decide) rfl rfl (g := (mkF m 6 #[.val (.ref r0), .val .null, .val (.ref r2), .val (.int p3)] [.null, (.ref r0)])) rfl rfl (hb hby d_initNull_6)
  have Kp4 : Keep h0 h4 [r0] := (Keep.refl h0 [r0]).wr W4 (Or.inl (by simp))
  have Z4 : n0 ≤ h4.size := Nat.le_trans Z0 (Keep.of_wr W4).1
  have F_nameColumn_c_4 := F_nameColumn.same W4
  have F_valueColumn_c_4 := F_valueColumn.other W4 (Or.inr (slot_ne (Or.inr (hw _ (List.mem_of_getElem? (i := 42) rfl))) (Or.inr (hw _ (List.mem_of_getElem? (i := 40) rfl))) (by decide) (t := (.object "java/lang/String")) (t' := (.object "java/lang/String")) (by decide) (by decide)))
  have F_valueIsLastKey_c_4 := F_valueIsLastKey.other W4 (Or.inr (slot_ne (Or.inr (hw _ (List.mem_of_getElem? (i := 44) rfl))) (Or.inr (hw _ (List.mem_of_getElem? (i := 40) rfl))) (by decide) (t := .boolean) (t' := (.object "java/lang/String")) (by decide) (by decide)))
  have E_r0_c_4 := E_r0.wr W4
  have k4 : Go p.tables e below (T2.setTop (mkF m 6 #[.val (.ref r0), .val .null, .val (.ref r2), .val (.int p3)] [.null, (.ref r0)])) (T4.setTop (mkF m 9 #[.val (.ref r0), .val .null, .val (.ref r2), .val (.int p3)] [])) := st4
  have N4 := Fr.snoc X4 N2 g_r0
  have k5 : Go p.tables e below (T4.setTop (mkF m 9 #[.val (.ref r0), .val .null, .val (.ref r2), .val (.int p3)] [])) (T4.setTop (mkF m 11 #[.val (.ref r0), .val .null, .val (.ref r2), .val (.int p3)] [(.ref r2), (.ref r0)])) := by
    intro t ht
    refine XS.aloadN X4.here hx rfl (hb hby d_initNull_9) rfl rfl ?_
    show Steps p.tables e below (T4.setTop (mkF m 10 #[.val (.ref r0), .val .null, .val (.ref r2), .val (.int p3)] [(.ref r0)])) _
    refine XS.aloadN X4.here hx rfl (hb hby d_initNull_10) rfl rfl ?_
    exact ht
  obtain ⟨T6, h6, X6, e6, W6, st6⟩ := putF X4 hx hZ hown (host := "") (Or.inl (hw _ (List.mem_of_getElem? (i := 41) rfl))) Via.refl e4 F_valueColumn_c_4 E_r0_c_4 (Or.inr ⟨(hw _ (List.mem_of_getElem? (i := 42) rfl)), rfl, hnm⟩) (hw _ (List.mem_of_getElem? (i := 28) rfl)) (ty := (.object "java/lang/String")) (by decide) rfl rfl (g := (mkF m 11 #[.val (.ref r0), .val .null, .val (.ref r2), .val (.int p3)] [(.ref r2), (.ref r0)])) rfl rfl (hb hby d_initNull_11)
  have Kp6 : Keep h0 h6 [r0] := Kp4.wr W6 (Or.inl (by simp))
  have Z6 : n0 ≤ h6.size := Nat.le_trans Z4 (Keep.of_wr W6).1
  have F_nameColumn_c_6 := F_nameColumn_c_4.other W6 (Or.inr (slot_ne (Or.inr (hw _ (List.mem_of_getElem? (i := 40) rfl))) (Or.inr (hw _ (List.mem_of_getElem? (i := 42) rfl))) (by decide) (t := (.object "java/lang/String")) (t' := (.object "java/lang/String")) (by decide) (by decide)))
  have F_valueColumn_c_6 := F_valueColumn_c_4.same W6
  have F_valueIsLastKey_c_6 := F_valueIsLastKey_c_4.other W6 (Or.inr (slot_ne (Or.inr (hw _ (List.mem_of_getElem? (i := 44) rfl))) (Or.inr (hw _ (List.mem_of_getElem? (i := 42) rfl))) (by decide) (t := .boolean) (t' := (.object "java/lang/String")) (by decide) (by decide)))
  have E_r0_c_6 := E_r0_c_4.wr W6
  have k6 : Go p.tables e below (T4.setTop (mkF m 11 #[.val (.ref r0), .val .null, .val (.ref r2), .val (.int p3)] [(.ref r2), (.ref r0)])) (T6.setTop (mkF m 14 #[.val (.ref r0), .val .null, .val (.ref r2), .val (.int p3)] [])) := st6
  have N6 := Fr.snoc X6 N4 g_r0
  have k7 : Go p.tables e below (T6.setTop (mkF m 14 #[.val (.ref r0), .val .null, .val (.ref r2), .val (.int p3)] [])) (T6.setTop (mkF m 16 #[.val (.ref r0), .val .null, .val (.ref r2), .val (.int p3)] [(.int p3), (.ref r0)])) := by
    intro t ht
    refine XS.aloadN X6.here hx rfl (hb hby d_initNull_14) rfl rfl ?_
    show Steps p.tables e below (T6.setTop (mkF m 15 #[.val (.ref r0), .val .null, .val (.ref r2), .val (.int p3)] [(.ref r0)])) _
    refine XS.iloadN X6.here hx rfl (hb hby d_initNull_15) rfl ?_
    exact ht
  obtain ⟨T8, h8, X8, e8, W8, st8⟩ := putFN X6 hx hZ hown (hw _ (List.mem_of_getElem? (i := 43) rfl)) Via.refl e6 F_valueIsLastKey_c_6 E_r0_c_6 (Or.inr ⟨(hw _ (List.mem_of_getElem? (i := 44) rfl)), rfl, hnm⟩) (hw _ (List.mem_of_getElem? (i := 28) rfl)) (ty := .boolean) (v' := (.int (nar .boolean p3))) (by decide) rfl (fits_nar_bool _) (g := (mkF m 16 #[.val (.ref r0), .val .null, .val (.ref r2), .val (.int p3)] [(.int p3), (.ref r0)])) rfl rfl (hb hby d_initNull_16)
  have Kp8 : Keep h0 h8 [r0] := Kp6.wr W8 (Or.inl (by simp))
  have Z8 : n0 ≤ h8.size := Nat.le_trans Z6 (Keep.of_wr W8).1
  have F_nameColumn_c_8 := F_nameColumn_c_6.other W8 (Or.inr (slot_ne (Or.inr (hw _ (List.mem_of_getElem? (i := 40) rfl))) (Or.inr (hw _ (List.mem_of_getElem? (i := 44) rfl))) (by decide) (t := (.object "java/lang/String")) (t' := .boolean) (by decide) (by decide)))
  have F_valueColumn_c_8 := F_valueColumn_c_6.other W8 (Or.inr (slot_ne (Or.inr (hw _ (List.mem_of_getElem? (i := 42) rfl))) (Or.inr (hw _ (List.mem_of_getElem? (i := 44) rfl))) (by decide) (t := (.object "java/lang/String")) (t' := .boolean) (by decide) (by decide)))
  have F_valueIsLastKey_c_8 := F_valueIsLastKey_c_6.same W8
  have E_r0_c_8 := E_r0_c_6.wr W8
  have k8 : Go p.tables e below (T6.setTop (mkF m 16 #[.val (.ref r0), .val .null, .val (.ref r2), .val (.int p3)] [(.int p3), (.ref r0)])) (T8.setTop (mkF m 19 #[.val (.ref r0), .val .null, .val (.ref r2), .val (.int p3)] [])) := st8
  have N8 := Fr.snoc X8 N6 g_r0
  obtain ⟨fs, hr, hrun, hended, hW, hsame⟩ := X8.leave (v := none) (fun _ => rfl)
  refine ⟨_, _, pre0 _ ((goT k1 (goT k2 (goT k3 (goT k4 (goT k5 (goT k6 (goT k7 k8))))))) _ (X8.returnOut hx Bd.returns (hb hby d_initNull_19) hr)), hrun, hended, _, _, rfl, ?_, ⟨_, rfl⟩, hW, hsame.mono (by decide) (by decide)⟩
  show Q_initNull Z r0 r2 p3 h0 n0 _ T8.heap _
  rw [e8]
  exact ⟨rfl, N8, Kp8, E_r0_c_8, F_nameColumn_c_8, F_valueColumn_c_8, F_valueIsLastKey_c_8⟩
theorem d_rows1_0 : decode prog_21_method_2_code 0 = .ok (.aload_n 0, 1) := by decide +kernel
theorem d_rows1_1 : decode prog_21_method_2_code 1 = .ok (.getfield 7, 3) := by decide +kernel
theorem d_rows1_4 : decode prog_21_method_2_code 4 = .ok (.ifnull 7, 3) := by decide +kernel
theorem d_rows1_7 : decode prog_21_method_2_code 7 = .ok (.iconst 1, 1) := by decide +kernel
theorem d_rows1_8 : decode prog_21_method_2_code 8 = .ok (.goto 4, 3) := by decide +kernel
theorem d_rows1_12 : decode prog_21_method_2_code 12 = .ok (.ireturn, 1) := by decide +kernel
theorem ef_rows1 (m : MethodId) (x0 : Addr) : entryFrame m #[(.ref x0)] 1 = mkF m 0 #[.val (.ref x0)] [] := by first | (simp [entryFrame, mkF, argsToLocals, Value.category]; done) | rfl
def Q_rows1 (Z : State) (r0 : Addr) (rn : Addr) (h0 : Heap) (n0 : Nat) (v : Option Value) (h : Heap) (L : List Loc) : Prop := v = some (.int (1 : Int32)) ∧ Fr n0 L ∧ h = h0
set_option maxRecDepth 65536 in
set_option maxHeartbeats 40000000 in
theorem rm_rows1 (l : Launch) (Z : State) (a0 : Array Value) (hw : ∀ d ∈ tables_1, d.before a0 Z = true) (ws : List Jvm.Cond) (r0 : Addr) (rn : Addr) (h0 : Heap) (n0 : Nat) (Z0 : n0 ≤ h0.size) (F_n : Fld Z h0 r0 "com/example/plain_keys/plainkeys/dialect/KeyTableLayout" "nameColumn" "Ljava/lang/String;" (.ref rn)) :
    MetFree l (⟨"com/example/plain_keys/plainkeys/dialect/KeyTableLayout", "namesRows", "()Z"⟩ : MethodName) (head1 (Jvm.Cond.code (⟨"com/example/plain_keys/plainkeys/dialect/KeyTableLayout", "namesRows", "()Z"⟩ : MethodName) prog_21_method_2_code 1 (some .boolean) :: ws) ({ frames := 0, cells := 0, slots := 0, locals := 0 } : Room)) (fun a U => a = #[(.ref r0)] ∧ Z.Warmed39 U.vm ∧ U.heap = h0) (fun _ _ _ _ _ => True) (fun _ U o U' => ∃ v L, o = .returned v ∧ Q_rows1 Z r0 rn h0 n0 v U'.heap L ∧ FrameEnd U o U' L ({ frames := 0, cells := 0, slots := 0, locals := 0 } : Room).cells ({ frames := 0, cells := 0, slots := 0, locals := 0 } : Room).slots) := by
  refine MetFree.of_bodySF (plainFor_of_name pn_3) hisR ?_
  intro p e s m args below meth c s₁ Bd hml0 hP hK
  obtain ⟨rfl, hZ, hh⟩ := hP
  have hx := Bd.exec
  have hby := Bd.bytes
  have hml : c.maxLocals = 1 := hml0
  have hown : s.vm.findClass "com/example/plain_keys/plainkeys/dialect/KeyTableLayout" = some m.cls := findClass_of_methodNamed Bd.named
  have hnm := (name_of_methodNamed Bd.named Bd.method).1
  have X0 : Stand p l e ({ frames := 0, cells := 0, slots := 0, locals := 0 } : Room) s m #[(.ref r0)] below meth c s₁ [] 0 0 := Stand.of_body Bd
  have e0 : s₁.heap = h0 := by rw [← hh, Bd.state]; rfl
  have N0 := Fr.nil n0
  have pre0 : ∀ t, Steps p.tables e below (s₁.setTop (mkF m 0 #[.val (.ref r0)] [])) t → Steps p.tables e below (s₁.setTop (entryFrame m #[(.ref r0)] 1)) t := fun t k => castTop (ef_rows1 m r0) k
  have k1 : Go p.tables e below (s₁.setTop (mkF m 0 #[.val (.ref r0)] [])) (s₁.setTop (mkF m 1 #[.val (.ref r0)] [(.ref r0)])) := by
    intro t ht
    refine XS.aloadN X0.here hx rfl (hb hby d_rows1_0) rfl rfl ?_
    exact ht
  obtain ⟨T2, X2, e2, st2⟩ := getF X0 hx hZ hown (host := "") (Or.inl (hw _ (List.mem_of_getElem? (i := 39) rfl))) Via.refl e0 F_n (g := (mkF m 1 #[.val (.ref r0)] [(.ref r0)])) rfl rfl (hb hby d_rows1_1)
  have k2 : Go p.tables e below (s₁.setTop (mkF m 1 #[.val (.ref r0)] [(.ref r0)])) (T2.setTop (mkF m 4 #[.val (.ref r0)] [(.ref rn)])) := st2
  have k3 : Go p.tables e below (T2.setTop (mkF m 4 #[.val (.ref r0)] [(.ref rn)])) (T2.setTop (mkF m 12 #[.val (.ref r0)] [(.int (1 : Int32))])) := by
    intro t ht
    refine XS.ifnullNo X2.here hx rfl (hb hby d_rows1_4) rfl ?_
    show Steps p.tables e below (T2.setTop (mkF m 7 #[.val (.ref r0)] [])) _
    refine XS.iconst X2.here hx rfl (hb hby d_rows1_7) ?_
    show Steps p.tables e below (T2.setTop (mkF m 8 #[.val (.ref r0)] [(.int (1 : Int32))])) _
    refine XS.goto X2.here hx rfl (pc0 := 8) (pc' := 12) rfl (hb hby d_rows1_8) (by decide) (by decide) ?_
    exact ht
  obtain ⟨fs, hr, hrun, hended, hW, hsame⟩ := X2.leave (v := some (.int (1 : Int32))) (fun h => by rw [Bd.returns] at h; cases h)
  refine ⟨_, _, pre0 _ ((goT k1 (goT k2 k3)) _ (retN X2 hx (t := .boolean) Bd.returns (by simp) (hb hby d_rows1_12) hr)), hrun, hended, _, _, rfl, ?_, ⟨_, rfl⟩, hW, hsame.mono (by decide) (by decide)⟩
  show Q_rows1 Z r0 rn h0 n0 _ T2.heap _
  rw [e2]
  exact ⟨rfl, N0, rfl⟩
theorem d_rows0_0 : decode prog_21_method_2_code 0 = .ok (.aload_n 0, 1) := by decide +kernel
theorem d_rows0_1 : decode prog_21_method_2_code 1 = .ok (.getfield 7, 3) := by decide +kernel
theorem d_rows0_4 : decode prog_21_method_2_code 4 = .ok (.ifnull 7, 3) := by decide +kernel
theorem d_rows0_11 : decode prog_21_method_2_code 11 = .ok (.iconst 0, 1) := by decide +kernel
theorem d_rows0_12 : decode prog_21_method_2_code 12 = .ok (.ireturn, 1) := by decide +kernel
theorem ef_rows0 (m : MethodId) (x0 : Addr) : entryFrame m #[(.ref x0)] 1 = mkF m 0 #[.val (.ref x0)] [] := by first | (simp [entryFrame, mkF, argsToLocals, Value.category]; done) | rfl
def Q_rows0 (Z : State) (r0 : Addr) (h0 : Heap) (n0 : Nat) (v : Option Value) (h : Heap) (L : List Loc) : Prop := v = some (.int (0 : Int32)) ∧ Fr n0 L ∧ h = h0
set_option maxRecDepth 65536 in
set_option maxHeartbeats 40000000 in
theorem rm_rows0 (l : Launch) (Z : State) (a0 : Array Value) (hw : ∀ d ∈ tables_1, d.before a0 Z = true) (ws : List Jvm.Cond) (r0 : Addr) (h0 : Heap) (n0 : Nat) (Z0 : n0 ≤ h0.size) (F_n : Fld Z h0 r0 "com/example/plain_keys/plainkeys/dialect/KeyTableLayout" "nameColumn" "Ljava/lang/String;" .null) :
    MetFree l (⟨"com/example/plain_keys/plainkeys/dialect/KeyTableLayout", "namesRows", "()Z"⟩ : MethodName) (head1 (Jvm.Cond.code (⟨"com/example/plain_keys/plainkeys/dialect/KeyTableLayout", "namesRows", "()Z"⟩ : MethodName) prog_21_method_2_code 1 (some .boolean) :: ws) ({ frames := 0, cells := 0, slots := 0, locals := 0 } : Room)) (fun a U => a = #[(.ref r0)] ∧ Z.Warmed39 U.vm ∧ U.heap = h0) (fun _ _ _ _ _ => True) (fun _ U o U' => ∃ v L, o = .returned v ∧ Q_rows0 Z r0 h0 n0 v U'.heap L ∧ FrameEnd U o U' L ({ frames := 0, cells := 0, slots := 0, locals := 0 } : Room).cells ({ frames := 0, cells := 0, slots := 0, locals := 0 } : Room).slots) := by
  refine MetFree.of_bodySF (plainFor_of_name pn_3) hisR ?_
  intro p e s m args below meth c s₁ Bd hml0 hP hK
  obtain ⟨rfl, hZ, hh⟩ := hP
  have hx := Bd.exec
  have hby := Bd.bytes
  have hml : c.maxLocals = 1 := hml0
  have hown : s.vm.findClass "com/example/plain_keys/plainkeys/dialect/KeyTableLayout" = some m.cls := findClass_of_methodNamed Bd.named
  have hnm := (name_of_methodNamed Bd.named Bd.method).1
  have X0 : Stand p l e ({ frames := 0, cells := 0, slots := 0, locals := 0 } : Room) s m #[(.ref r0)] below meth c s₁ [] 0 0 := Stand.of_body Bd
  have e0 : s₁.heap = h0 := by rw [← hh, Bd.state]; rfl
  have N0 := Fr.nil n0
  have pre0 : ∀ t, Steps p.tables e below (s₁.setTop (mkF m 0 #[.val (.ref r0)] [])) t → Steps p.tables e below (s₁.setTop (entryFrame m #[(.ref r0)] 1)) t := fun t k => castTop (ef_rows0 m r0) k
  have k1 : Go p.tables e below (s₁.setTop (mkF m 0 #[.val (.ref r0)] [])) (s₁.setTop (mkF m 1 #[.val (.ref r0)] [(.ref r0)])) := by
    intro t ht
    refine XS.aloadN X0.here hx rfl (hb hby d_rows0_0) rfl rfl ?_
    exact ht
  obtain ⟨T2, X2, e2, st2⟩ := getF X0 hx hZ hown (host := "") (Or.inl (hw _ (List.mem_of_getElem? (i := 39) rfl))) Via.refl e0 F_n (g := (mkF m 1 #[.val (.ref r0)] [(.ref r0)])) rfl rfl (hb hby d_rows0_1)
  have k2 : Go p.tables e below (s₁.setTop (mkF m 1 #[.val (.ref r0)] [(.ref r0)])) (T2.setTop (mkF m 4 #[.val (.ref r0)] [.null])) := st2
  have k3 : Go p.tables e below (T2.setTop (mkF m 4 #[.val (.ref r0)] [.null])) (T2.setTop (mkF m 12 #[.val (.ref r0)] [(.int (0 : Int32))])) := by
    intro t ht
    refine XS.ifnullYes X2.here hx rfl (pc0 := 4) (pc' := 11) rfl (hb hby d_rows0_4) rfl (by decide) (by decide) ?_
    show Steps p.tables e below (T2.setTop (mkF m 11 #[.val (.ref r0)] [])) _
    refine XS.iconst X2.here hx rfl (hb hby d_rows0_11) ?_
    exact ht
  obtain ⟨fs, hr, hrun, hended, hW, hsame⟩ := X2.leave (v := some (.int (0 : Int32))) (fun h => by rw [Bd.returns] at h; cases h)
  refine ⟨_, _, pre0 _ ((goT k1 (goT k2 k3)) _ (retN X2 hx (t := .boolean) Bd.returns (by simp) (hb hby d_rows0_12) hr)), hrun, hended, _, _, rfl, ?_, ⟨_, rfl⟩, hW, hsame.mono (by decide) (by decide)⟩
  show Q_rows0 Z r0 h0 n0 _ T2.heap _
  rw [e2]
  exact ⟨rfl, N0, rfl⟩
theorem own_and3c (x : Int32) : (x &&& (3 : Int32)) = 0 ∨ (x &&& (3 : Int32)) = 1 ∨ (x &&& (3 : Int32)) = 2 ∨ (x &&& (3 : Int32)) = 3 := by
  rw [own_and x 3 2 (by decide) (by decide)]
  have h : x.toBitVec.toNat % 2 ^ 2 < 4 := Nat.mod_lt _ (by decide)
  generalize x.toBitVec.toNat % 2 ^ 2 = n at h
  exact (by decide : ∀ n : Fin 4, Int32.ofNat n.val = 0 ∨ Int32.ofNat n.val = 1 ∨ Int32.ofNat n.val = 2 ∨ Int32.ofNat n.val = 3) ⟨n, h⟩
theorem own_c255 (x : Int32) : ¬ ((255 : Int32) < ((x &&& (255 : Int32)).toUInt32.toUInt16.toUInt32.toInt32)) := by
  rw [show ((x &&& (255 : Int32)).toUInt32.toUInt16.toUInt32.toInt32) = x &&& 255 from by simp only [i2c_mask]]; exact (own_and255 x).2
theorem pd_5 : parseMethodDescriptor "(C)Ljava/lang/String;" = some ⟨[.char], some (.object "java/lang/String")⟩ := by decide +kernel
theorem pd_6 : parseMethodDescriptor "(Ljava/lang/String;Ljava/lang/String;Z)V" = some ⟨[(.object "java/lang/String"), (.object "java/lang/String"), .boolean], none⟩ := by decide +kernel
theorem pd_7 : parseMethodDescriptor "()Z" = some ⟨[], some .boolean⟩ := by decide +kernel
theorem pd_8 : parseMethodDescriptor "([C)V" = some ⟨[(.array .char)], none⟩ := by decide +kernel
theorem pn_4 : plainName "com/example/plain_keys/plainkeys/dialect/KeyTableLayoutNamesRowsPinLaw" = true := by first | (simp [plainName, overriddenIn]; done) | decide +kernel
theorem ef_law (m : MethodId) (x0 : Int32) (x1 : Int32) (x2 : Int32) (x3 : Int32) : entryFrame m #[(.int x0), (.int x1), (.int x2), (.int x3)] maxLocals = mkF m 0 #[.val (.int x0), .val (.int x1), .val (.int x2), .val (.int x3), .unset, .unset, .unset, .unset, .unset, .unset, .unset] [] := by first | (simp [entryFrame, mkF, argsToLocals, Value.category, maxLocals]; done) | rfl
def Q_law (Z : State) (p0 : Int32) (p1 : Int32) (p2 : Int32) (p3 : Int32) (G1 : Int32) (wD : Addr) (wn : Addr) (h0 : Heap) (n0 : Nat) (v : Option Value) (h : Heap) (L : List Loc) : Prop := v = some (.int (1 : Int32)) ∧ Fr n0 L
set_option maxRecDepth 65536 in
set_option maxHeartbeats 40000000 in
theorem rm_law (l : Launch) (Z : State) (a0 : Array Value) (hw : ∀ d ∈ tables_1, d.before a0 Z = true) (ws : List Jvm.Cond) (p0 : Int32) (p1 : Int32) (p2 : Int32) (p3 : Int32) (G1 : Int32) (wD : Addr) (wn : Addr) (h0 : Heap) (n0 : Nat) (Z0 : n0 ≤ h0.size) (S_CS : Sta Z h0 "java/lang/String" "COMPACT_STRINGS" "Z" (.int G1)) (S_D : Sta Z h0 "com/example/plain_keys/plainkeys/dialect/KeyTableLayout" "DEFAULT" "Lcom/example/plain_keys/plainkeys/dialect/KeyTableLayout;" (.ref wD)) (E_D : Exa Z h0 wD "com/example/plain_keys/plainkeys/dialect/KeyTableLayout") (F_D : Fld Z h0 wD "com/example/plain_keys/plainkeys/dialect/KeyTableLayout" "nameColumn" "Ljava/lang/String;" (.ref wn)) (P5 : ¬ (G1 = (0 : Int32))) :
    MetFree l x (head1 (Jvm.Cond.code x code maxLocals ret :: ws) room_1) (fun a U => a = #[(.int p0), (.int p1), (.int p2), (.int p3)] ∧ Z.Warmed39 U.vm ∧ U.heap = h0 ∧ CHv Z own_ELs U.vm h0) (fun _ _ _ _ _ => True) (fun _ U o U' => ∃ v L, o = .returned v ∧ Q_law Z p0 p1 p2 p3 G1 wD wn h0 n0 v U'.heap L ∧ ReturnedEndW U o U' L room_1.cells room_1.slots) := by
  refine MetFree.of_bodySF (plainFor_of_name pn_4) hisR ?_
  intro p e s m args below meth c s₁ Bd hml0 hP hK
  obtain ⟨rfl, hZ, hh, hCH⟩ := hP
  have hx := Bd.exec
  have hby := Bd.bytes
  have hml : c.maxLocals = 11 := hml0
  have hown : s.vm.findClass "com/example/plain_keys/plainkeys/dialect/KeyTableLayoutNamesRowsPinLaw" = some m.cls := findClass_of_methodNamed Bd.named
  have hnm := (name_of_methodNamed Bd.named Bd.method).1
  have X0 : Stand p l e room_1 s m #[(.int p0), (.int p1), (.int p2), (.int p3)] below meth c s₁ [] 0 0 := Stand.of_body Bd
  have e0 : s₁.heap = h0 := by rw [← hh, Bd.state]; rfl
  have N0 := Fr.nil n0
  have pre0 : ∀ t, Steps p.tables e below (s₁.setTop (mkF m 0 #[.val (.int p0), .val (.int p1), .val (.int p2), .val (.int p3), .unset, .unset, .unset, .unset, .unset, .unset, .unset] [])) t → Steps p.tables e below (s₁.setTop (entryFrame m #[(.int p0), (.int p1), (.int p2), (.int p3)] maxLocals)) t := fun t k => castTop (ef_law m p0 p1 p2 p3) k
  have k1 : Go p.tables e below (s₁.setTop (mkF m 0 #[.val (.int p0), .val (.int p1), .val (.int p2), .val (.int p3), .unset, .unset, .unset, .unset, .unset, .unset, .unset] [])) (s₁.setTop (mkF m 3 #[.val (.int p0), .val (.int p1), .val (.int p2), .val (.int p3), .unset, .unset, .unset, .unset, .unset, .unset, .unset] [(.int (p0 &&& (1 : Int32)))])) := by
    intro t ht
    refine XS.iloadN X0.here hx rfl (hb hby at_0) rfl ?_
    show Steps p.tables e below (s₁.setTop (mkF m 1 #[.val (.int p0), .val (.int p1), .val (.int p2), .val (.int p3), .unset, .unset, .unset, .unset, .unset, .unset, .unset] [(.int p0)])) _
    refine XS.iconst X0.here hx rfl (hb hby at_1) ?_
    show Steps p.tables e below (s₁.setTop (mkF m 2 #[.val (.int p0), .val (.int p1), .val (.int p2), .val (.int p3), .unset, .unset, .unset, .unset, .unset, .unset, .unset] [(.int (1 : Int32)), (.int p0)])) _
    refine XS.iand X0.here hx rfl (hb hby at_2) rfl ?_
    exact ht
  have k2 : Go p.tables e below (s₁.setTop (mkF m 3 #[.val (.int p0), .val (.int p1), .val (.int p2), .val (.int p3), .unset, .unset, .unset, .unset, .unset, .unset, .unset] [(.int (p0 &&& (1 : Int32)))])) (s₁.setTop (mkF m 11 #[.val (.int p0), .val (.int p1), .val (.int p2), .val (.int p3), .unset, .unset, .unset, .unset, .unset, .unset, .unset] [(.int (if (p0 &&& (1 : Int32)) = (0 : Int32) then (0 : Int32) else (1 : Int32)))])) := by
    by_cases hc3 : (p0 &&& (1 : Int32)) = (0 : Int32)
    · have k4 : Go p.tables e below (s₁.setTop (mkF m 3 #[.val (.int p0), .val (.int p1), .val (.int p2), .val (.int p3), .unset, .unset, .unset, .unset, .unset, .unset, .unset] [(.int (p0 &&& (1 : Int32)))])) (s₁.setTop (mkF m 11 #[.val (.int p0), .val (.int p1), .val (.int p2), .val (.int p3), .unset, .unset, .unset, .unset, .unset, .unset, .unset] [(.int (0 : Int32))])) := by
        intro t ht
        refine XS.ifYes X0.here hx rfl (pc0 := 3) (pc' := 10) rfl (hb hby at_3) rfl ((if0 _ _).trans (teq hc3).1) (by decide) (by decide) ?_
        show Steps p.tables e below (s₁.setTop (mkF m 10 #[.val (.int p0), .val (.int p1), .val (.int p2), .val (.int p3), .unset, .unset, .unset, .unset, .unset, .unset, .unset] [])) _
        refine XS.iconst X0.here hx rfl (hb hby at_10) ?_
        exact ht
      have kk := k4
      simpa only [if_neg P5, if_pos hc3] using kk
    · have k5 : Go p.tables e below (s₁.setTop (mkF m 3 #[.val (.int p0), .val (.int p1), .val (.int p2), .val (.int p3), .unset, .unset, .unset, .unset, .unset, .unset, .unset] [(.int (p0 &&& (1 : Int32)))])) (s₁.setTop (mkF m 11 #[.val (.int p0), .val (.int p1), .val (.int p2), .val (.int p3), .unset, .unset, .unset, .unset, .unset, .unset, .unset] [(.int (1 : Int32))])) := by
        intro t ht
        refine XS.ifNo X0.here hx rfl (hb hby at_3) rfl ((if0 _ _).trans (feq hc3).1) ?_
        show Steps p.tables e below (s₁.setTop (mkF m 6 #[.val (.int p0), .val (.int p1), .val (.int p2), .val (.int p3), .unset, .unset, .unset, .unset, .unset, .unset, .unset] [])) _
        refine XS.iconst X0.here hx rfl (hb hby at_6) ?_
        show Steps p.tables e below (s₁.setTop (mkF m 7 #[.val (.int p0), .val (.int p1), .val (.int p2), .val (.int p3), .unset, .unset, .unset, .unset, .unset, .unset, .unset] [(.int (1 : Int32))])) _
        refine XS.goto X0.here hx rfl (pc0 := 7) (pc' := 11) rfl (hb hby at_7) (by decide) (by decide) ?_
        exact ht
      have kk := k5
      simpa only [if_neg P5, if_neg hc3] using kk
  have k6 : Go p.tables e below (s₁.setTop (mkF m 11 #[.val (.int p0), .val (.int p1), .val (.int p2), .val (.int p3), .unset, .unset, .unset, .unset, .unset, .unset, .unset] [(.int (if (p0 &&& (1 : Int32)) = (0 : Int32) then (0 : Int32) else (1 : Int32)))])) (s₁.setTop (mkF m 20 #[.val (.int p0), .val (.int p1), .val (.int p2), .val (.int p3), .val (.int (if (p0 &&& (1 : Int32)) = (0 : Int32) then (0 : Int32) else (1 : Int32))), .val (.int (((p0.toUInt32 >>> ((1 : Int32) &&& 31).toUInt32).toInt32) &&& (3 : Int32))), .unset, .unset, .unset, .unset, .unset] [])) := by
    intro t ht
    refine XS.istore X0.here hx rfl (hb hby at_11) rfl (l' := #[.val (.int p0), .val (.int p1), .val (.int p2), .val (.int p3), .val (.int (if (p0 &&& (1 : Int32)) = (0 : Int32) then (0 : Int32) else (1 : Int32))), .unset, .unset, .unset, .unset, .unset, .unset]) rfl ?_
    show Steps p.tables e below (s₁.setTop (mkF m 13 #[.val (.int p0), .val (.int p1), .val (.int p2), .val (.int p3), .val (.int (if (p0 &&& (1 : Int32)) = (0 : Int32) then (0 : Int32) else (1 : Int32))), .unset, .unset, .unset, .unset, .unset, .unset] [])) _
    refine XS.iloadN X0.here hx rfl (hb hby at_13) rfl ?_
    show Steps p.tables e below (s₁.setTop (mkF m 14 #[.val (.int p0), .val (.int p1), .val (.int p2), .val (.int p3), .val (.int (if (p0 &&& (1 : Int32)) = (0 : Int32) then (0 : Int32) else (1 : Int32))), .unset, .unset, .unset, .unset, .unset, .unset] [(.int p0)])) _
    refine XS.iconst X0.here hx rfl (hb hby at_14) ?_
    show Steps p.tables e below (s₁.setTop (mkF m 15 #[.val (.int p0), .val (.int p1), .val (.int p2), .val (.int p3), .val (.int (if (p0 &&& (1 : Int32)) = (0 : Int32) then (0 : Int32) else (1 : Int32))), .unset, .unset, .unset, .unset, .unset, .unset] [(.int (1 : Int32)), (.int p0)])) _
    refine XS.iushr X0.here hx rfl (hb hby at_15) rfl ?_
    show Steps p.tables e below (s₁.setTop (mkF m 16 #[.val (.int p0), .val (.int p1), .val (.int p2), .val (.int p3), .val (.int (if (p0 &&& (1 : Int32)) = (0 : Int32) then (0 : Int32) else (1 : Int32))), .unset, .unset, .unset, .unset, .unset, .unset] [(.int ((p0.toUInt32 >>> ((1 : Int32) &&& 31).toUInt32).toInt32))])) _
    refine XS.iconst X0.here hx rfl (hb hby at_16) ?_
    show Steps p.tables e below (s₁.setTop (mkF m 17 #[.val (.int p0), .val (.int p1), .val (.int p2), .val (.int p3), .val (.int (if (p0 &&& (1 : Int32)) = (0 : Int32) then (0 : Int32) else (1 : Int32))), .unset, .unset, .unset, .unset, .unset, .unset] [(.int (3 : Int32)), (.int ((p0.toUInt32 >>> ((1 : Int32) &&& 31).toUInt32).toInt32))])) _
    refine XS.iand X0.here hx rfl (hb hby at_17) rfl ?_
    show Steps p.tables e below (s₁.setTop (mkF m 18 #[.val (.int p0), .val (.int p1), .val (.int p2), .val (.int p3), .val (.int (if (p0 &&& (1 : Int32)) = (0 : Int32) then (0 : Int32) else (1 : Int32))), .unset, .unset, .unset, .unset, .unset, .unset] [(.int (((p0.toUInt32 >>> ((1 : Int32) &&& 31).toUInt32).toInt32) &&& (3 : Int32)))])) _
    refine XS.istore X0.here hx rfl (hb hby at_18) rfl (l' := #[.val (.int p0), .val (.int p1), .val (.int p2), .val (.int p3), .val (.int (if (p0 &&& (1 : Int32)) = (0 : Int32) then (0 : Int32) else (1 : Int32))), .val (.int (((p0.toUInt32 >>> ((1 : Int32) &&& 31).toUInt32).toInt32) &&& (3 : Int32))), .unset, .unset, .unset, .unset, .unset]) rfl ?_
    exact ht
  rcases own_and3c ((p0.toUInt32 >>> ((1 : Int32) &&& 31).toUInt32).toInt32) with hk7 | hk7 | hk7 | hk7
  · have k8 : Go p.tables e below (s₁.setTop (mkF m 20 #[.val (.int p0), .val (.int p1), .val (.int p2), .val (.int p3), .val (.int (if (p0 &&& (1 : Int32)) = (0 : Int32) then (0 : Int32) else (1 : Int32))), .val (.int (((p0.toUInt32 >>> ((1 : Int32) &&& 31).toUInt32).toInt32) &&& (3 : Int32))), .unset, .unset, .unset, .unset, .unset] [])) (s₁.setTop (mkF m 20 #[.val (.int p0), .val (.int p1), .val (.int p2), .val (.int p3), .val (.int (if (p0 &&& (1 : Int32)) = (0 : Int32) then (0 : Int32) else (1 : Int32))), .val (.int (0 : Int32)), .unset, .unset, .unset, .unset, .unset] [])) := by rw [hk7]; exact fun _ h => h
    have k9 : Go p.tables e below (s₁.setTop (mkF m 20 #[.val (.int p0), .val (.int p1), .val (.int p2), .val (.int p3), .val (.int (if (p0 &&& (1 : Int32)) = (0 : Int32) then (0 : Int32) else (1 : Int32))), .val (.int (0 : Int32)), .unset, .unset, .unset, .unset, .unset] [])) (s₁.setTop (mkF m 22 #[.val (.int p0), .val (.int p1), .val (.int p2), .val (.int p3), .val (.int (if (p0 &&& (1 : Int32)) = (0 : Int32) then (0 : Int32) else (1 : Int32))), .val (.int (0 : Int32)), .unset, .unset, .unset, .unset, .unset] [(.int (0 : Int32))])) := by
      intro t ht
      refine XS.iload X0.here hx rfl (hb hby at_20) rfl ?_
      exact ht
    obtain ⟨T10, h10, kc10, X10, e10, E10, A10, st10⟩ := newP X0 hx hZ (hw _ (List.mem_of_getElem? (i := 0) rfl)) e0 (g := (mkF m 22 #[.val (.int p0), .val (.int p1), .val (.int p2), .val (.int p3), .val (.int (if (p0 &&& (1 : Int32)) = (0 : Int32) then (0 : Int32) else (1 : Int32))), .val (.int (0 : Int32)), .unset, .unset, .unset, .unset, .unset] [(.int (0 : Int32))])) rfl (hb hby at_22) rfl (by decide) (cap := 0) (by decide) (by decide) (by decide) (by decide)
    obtain ⟨b10, g10⟩ : ∃ z, z = h0.size := ⟨_, rfl⟩
    rw [← g10] at A10 st10
    have g_b10 : n0 ≤ b10 := Nat.le_trans Z0 (Nat.le_of_eq g10.symm)
    have sz_b10 : h0.size ≤ b10 := Nat.le_trans (Keep.refl h0 []).1 (Nat.le_of_eq g10.symm)
    have ne_wD_b10 : wD ≠ b10 := Nat.ne_of_lt (Nat.lt_of_lt_of_le E_D.lt (Nat.le_of_eq g10.symm))
    have Kp10 : Keep h0 h10 [] := (Keep.refl h0 []).ext E10
    have Z10 : n0 ≤ h10.size := Nat.le_trans Z0 E10.1
    have S_CS_c_10 := S_CS.ext E10
    have S_D_c_10 := S_D.ext E10
    have E_D_c_10 := E_D.ext E10
    have F_D_c_10 := F_D.ext E10
    have V_b10 : Arv Z h10 b10 kc10 .char (0 : Int32) [] (.int (0 : Int32)) := (Arv.new A10 (by decide)).pad (pad_rep [] (.int (0 : Int32)) 0)
    have k10 : Go p.tables e below (s₁.setTop (mkF m 22 #[.val (.int p0), .val (.int p1), .val (.int p2), .val (.int p3), .val (.int (if (p0 &&& (1 : Int32)) = (0 : Int32) then (0 : Int32) else (1 : Int32))), .val (.int (0 : Int32)), .unset, .unset, .unset, .unset, .unset] [(.int (0 : Int32))])) (T10.setTop (mkF m 24 #[.val (.int p0), .val (.int p1), .val (.int p2), .val (.int p3), .val (.int (if (p0 &&& (1 : Int32)) = (0 : Int32) then (0 : Int32) else (1 : Int32))), .val (.int (0 : Int32)), .unset, .unset, .unset, .unset, .unset] [(.ref b10)])) := st10
    have k11 : Go p.tables e below (T10.setTop (mkF m 24 #[.val (.int p0), .val (.int p1), .val (.int p2), .val (.int p3), .val (.int (if (p0 &&& (1 : Int32)) = (0 : Int32) then (0 : Int32) else (1 : Int32))), .val (.int (0 : Int32)), .unset, .unset, .unset, .unset, .unset] [(.ref b10)])) (T10.setTop (mkF m 78 #[.val (.int p0), .val (.int p1), .val (.int p2), .val (.int p3), .val (.int (if (p0 &&& (1 : Int32)) = (0 : Int32) then (0 : Int32) else (1 : Int32))), .val (.int (0 : Int32)), .val (.ref b10), .unset, .unset, .unset, .unset] [(.int (if (p0 &&& (1 : Int32)) = (0 : Int32) then (0 : Int32) else (1 : Int32)))])) := by
      intro t ht
      refine XS.astore X10.here hx rfl (hb hby at_24) rfl rfl (l' := #[.val (.int p0), .val (.int p1), .val (.int p2), .val (.int p3), .val (.int (if (p0 &&& (1 : Int32)) = (0 : Int32) then (0 : Int32) else (1 : Int32))), .val (.int (0 : Int32)), .val (.ref b10), .unset, .unset, .unset, .unset]) rfl ?_
      show Steps p.tables e below (T10.setTop (mkF m 26 #[.val (.int p0), .val (.int p1), .val (.int p2), .val (.int p3), .val (.int (if (p0 &&& (1 : Int32)) = (0 : Int32) then (0 : Int32) else (1 : Int32))), .val (.int (0 : Int32)), .val (.ref b10), .unset, .unset, .unset, .unset] [])) _
      refine XS.iload X10.here hx rfl (hb hby at_26) rfl ?_
      show Steps p.tables e below (T10.setTop (mkF m 28 #[.val (.int p0), .val (.int p1), .val (.int p2), .val (.int p3), .val (.int (if (p0 &&& (1 : Int32)) = (0 : Int32) then (0 : Int32) else (1 : Int32))), .val (.int (0 : Int32)), .val (.ref b10), .unset, .unset, .unset, .unset] [(.int (0 : Int32))])) _
      refine XS.ifYes X10.here hx rfl (pc0 := 28) (pc' := 41) rfl (hb hby at_28) rfl ((if0 _ _).trans (flt (by decide : ¬ ((0 : Int32) < (0 : Int32)))).2.2.2) (by decide) (by decide) ?_
      show Steps p.tables e below (T10.setTop (mkF m 41 #[.val (.int p0), .val (.int p1), .val (.int p2), .val (.int p3), .val (.int (if (p0 &&& (1 : Int32)) = (0 : Int32) then (0 : Int32) else (1 : Int32))), .val (.int (0 : Int32)), .val (.ref b10), .unset, .unset, .unset, .unset] [])) _
      refine XS.iload X10.here hx rfl (hb hby at_41) rfl ?_
      show Steps p.tables e below (T10.setTop (mkF m 43 #[.val (.int p0), .val (.int p1), .val (.int p2), .val (.int p3), .val (.int (if (p0 &&& (1 : Int32)) = (0 : Int32) then (0 : Int32) else (1 : Int32))), .val (.int (0 : Int32)), .val (.ref b10), .unset, .unset, .unset, .unset] [(.int (0 : Int32))])) _
      refine XS.iconst X10.here hx rfl (hb hby at_43) ?_
      show Steps p.tables e below (T10.setTop (mkF m 44 #[.val (.int p0), .val (.int p1), .val (.int p2), .val (.int p3), .val (.int (if (p0 &&& (1 : Int32)) = (0 : Int32) then (0 : Int32) else (1 : Int32))), .val (.int (0 : Int32)), .val (.ref b10), .unset, .unset, .unset, .unset] [(.int (1 : Int32)), (.int (0 : Int32))])) _
      refine XS.icmpYes X10.here hx rfl (pc0 := 44) (pc' := 57) rfl (hb hby at_44) rfl (flt (by decide : ¬ ((1 : Int32) < (0 : Int32)))).2.2.2 (by decide) (by decide) ?_
      show Steps p.tables e below (T10.setTop (mkF m 57 #[.val (.int p0), .val (.int p1), .val (.int p2), .val (.int p3), .val (.int (if (p0 &&& (1 : Int32)) = (0 : Int32) then (0 : Int32) else (1 : Int32))), .val (.int (0 : Int32)), .val (.ref b10), .unset, .unset, .unset, .unset] [])) _
      refine XS.iload X10.here hx rfl (hb hby at_57) rfl ?_
      show Steps p.tables e below (T10.setTop (mkF m 59 #[.val (.int p0), .val (.int p1), .val (.int p2), .val (.int p3), .val (.int (if (p0 &&& (1 : Int32)) = (0 : Int32) then (0 : Int32) else (1 : Int32))), .val (.int (0 : Int32)), .val (.ref b10), .unset, .unset, .unset, .unset] [(.int (0 : Int32))])) _
      refine XS.iconst X10.here hx rfl (hb hby at_59) ?_
      show Steps p.tables e below (T10.setTop (mkF m 60 #[.val (.int p0), .val (.int p1), .val (.int p2), .val (.int p3), .val (.int (if (p0 &&& (1 : Int32)) = (0 : Int32) then (0 : Int32) else (1 : Int32))), .val (.int (0 : Int32)), .val (.ref b10), .unset, .unset, .unset, .unset] [(.int (2 : Int32)), (.int (0 : Int32))])) _
      refine XS.icmpYes X10.here hx rfl (pc0 := 60) (pc' := 76) rfl (hb hby at_60) rfl (flt (by decide : ¬ ((2 : Int32) < (0 : Int32)))).2.2.2 (by decide) (by decide) ?_
      show Steps p.tables e below (T10.setTop (mkF m 76 #[.val (.int p0), .val (.int p1), .val (.int p2), .val (.int p3), .val (.int (if (p0 &&& (1 : Int32)) = (0 : Int32) then (0 : Int32) else (1 : Int32))), .val (.int (0 : Int32)), .val (.ref b10), .unset, .unset, .unset, .unset] [])) _
      refine XS.iload X10.here hx rfl (hb hby at_76) rfl ?_
      exact ht
    by_cases hc12 : (p0 &&& (1 : Int32)) = (0 : Int32)
    · have k13 : Go p.tables e below (T10.setTop (mkF m 78 #[.val (.int p0), .val (.int p1), .val (.int p2), .val (.int p3), .val (.int (if (p0 &&& (1 : Int32)) = (0 : Int32) then (0 : Int32) else (1 : Int32))), .val (.int (0 : Int32)), .val (.ref b10), .unset, .unset, .unset, .unset] [(.int (if (p0 &&& (1 : Int32)) = (0 : Int32) then (0 : Int32) else (1 : Int32)))])) (T10.setTop (mkF m 78 #[.val (.int p0), .val (.int p1), .val (.int p2), .val (.int p3), .val (.int (0 : Int32)), .val (.int (0 : Int32)), .val (.ref b10), .unset, .unset, .unset, .unset] [(.int (0 : Int32))])) := by
        simp only [if_pos hc12]; exact fun _ h => h
      have k14 : Go p.tables e below (T10.setTop (mkF m 78 #[.val (.int p0), .val (.int p1), .val (.int p2), .val (.int p3), .val (.int (0 : Int32)), .val (.int (0 : Int32)), .val (.ref b10), .unset, .unset, .unset, .unset] [(.int (0 : Int32))])) (T10.setTop (mkF m 105 #[.val (.int p0), .val (.int p1), .val (.int p2), .val (.int p3), .val (.int (0 : Int32)), .val (.int (0 : Int32)), .val (.ref b10), .val .null, .unset, .unset, .unset] [(.int ((((p2.toUInt32 >>> ((8 : Int32) &&& 31).toUInt32).toInt32) &&& (255 : Int32)).toUInt32.toUInt16.toUInt32.toInt32))])) := by
        intro t ht
        refine XS.ifYes X10.here hx rfl (pc0 := 78) (pc' := 93) rfl (hb hby at_78) rfl ((if0 _ _).trans (teq (by decide : (0 : Int32) = (0 : Int32))).1) (by decide) (by decide) ?_
        show Steps p.tables e below (T10.setTop (mkF m 93 #[.val (.int p0), .val (.int p1), .val (.int p2), .val (.int p3), .val (.int (0 : Int32)), .val (.int (0 : Int32)), .val (.ref b10), .unset, .unset, .unset, .unset] [])) _
        refine XS.aconstNull X10.here hx rfl (hb hby at_93) ?_
        show Steps p.tables e below (T10.setTop (mkF m 94 #[.val (.int p0), .val (.int p1), .val (.int p2), .val (.int p3), .val (.int (0 : Int32)), .val (.int (0 : Int32)), .val (.ref b10), .unset, .unset, .unset, .unset] [.null])) _
        refine XS.astore X10.here hx rfl (hb hby at_94) rfl rfl (l' := #[.val (.int p0), .val (.int p1), .val (.int p2), .val (.int p3), .val (.int (0 : Int32)), .val (.int (0 : Int32)), .val (.ref b10), .val .null, .unset, .unset, .unset]) rfl ?_
        show Steps p.tables e below (T10.setTop (mkF m 96 #[.val (.int p0), .val (.int p1), .val (.int p2), .val (.int p3), .val (.int (0 : Int32)), .val (.int (0 : Int32)), .val (.ref b10), .val .null, .unset, .unset, .unset] [])) _
        refine XS.iloadN X10.here hx rfl (hb hby at_96) rfl ?_
        show Steps p.tables e below (T10.setTop (mkF m 97 #[.val (.int p0), .val (.int p1), .val (.int p2), .val (.int p3), .val (.int (0 : Int32)), .val (.int (0 : Int32)), .val (.ref b10), .val .null, .unset, .unset, .unset] [(.int p2)])) _
        refine XS.bipush X10.here hx rfl (hb hby at_97) ?_
        show Steps p.tables e below (T10.setTop (mkF m 99 #[.val (.int p0), .val (.int p1), .val (.int p2), .val (.int p3), .val (.int (0 : Int32)), .val (.int (0 : Int32)), .val (.ref b10), .val .null, .unset, .unset, .unset] [(.int (8 : Int32)), (.int p2)])) _
        refine XS.iushr X10.here hx rfl (hb hby at_99) rfl ?_
        show Steps p.tables e below (T10.setTop (mkF m 100 #[.val (.int p0), .val (.int p1), .val (.int p2), .val (.int p3), .val (.int (0 : Int32)), .val (.int (0 : Int32)), .val (.ref b10), .val .null, .unset, .unset, .unset] [(.int ((p2.toUInt32 >>> ((8 : Int32) &&& 31).toUInt32).toInt32))])) _
        refine XS.sipush X10.here hx rfl (hb hby at_100) ?_
        show Steps p.tables e below (T10.setTop (mkF m 103 #[.val (.int p0), .val (.int p1), .val (.int p2), .val (.int p3), .val (.int (0 : Int32)), .val (.int (0 : Int32)), .val (.ref b10), .val .null, .unset, .unset, .unset] [(.int (255 : Int32)), (.int ((p2.toUInt32 >>> ((8 : Int32) &&& 31).toUInt32).toInt32))])) _
        refine XS.iand X10.here hx rfl (hb hby at_103) rfl ?_
        show Steps p.tables e below (T10.setTop (mkF m 104 #[.val (.int p0), .val (.int p1), .val (.int p2), .val (.int p3), .val (.int (0 : Int32)), .val (.int (0 : Int32)), .val (.ref b10), .val .null, .unset, .unset, .unset] [(.int (((p2.toUInt32 >>> ((8 : Int32) &&& 31).toUInt32).toInt32) &&& (255 : Int32)))])) _
        refine XS.i2c X10.here hx rfl (hb hby at_104) rfl ?_
        exact ht
      obtain ⟨_, _, ⟨T15, L15, kq15, n15⟩, -, X15, ⟨Lc15, hQ15, l15, y15, z15⟩, st15⟩ := Jvm.LawKit.callS X10 hx (y := (⟨"java/lang/String", "valueOf", "(C)Ljava/lang/String;"⟩ : MethodName)) hown (mvT hZ (hw _ (List.mem_of_getElem? (i := 1) rfl))) (mvT hZ (hw _ (List.mem_of_getElem? (i := 2) rfl))) (mvT hZ (hw _ (List.mem_of_getElem? (i := 3) rfl))) (mvT hZ (hw _ (List.mem_of_getElem? (i := 4) rfl))) (by decide) (backOf (W := 0) (rm_valueOf l Z a0 hw [] ((((p2.toUInt32 >>> ((8 : Int32) &&& 31).toUInt32).toInt32) &&& (255 : Int32)).toUInt32.toUInt16.toUInt32.toInt32) G1 h10 n0 Z10 S_CS_c_10 (P5 : ¬ (G1 = (0 : Int32))) (own_c255 _ : ¬ ((255 : Int32) < ((((p2.toUInt32 >>> ((8 : Int32) &&& 31).toUInt32).toInt32) &&& (255 : Int32)).toUInt32.toUInt16.toUInt32.toInt32)))) hZ (hw _ (List.mem_of_getElem? (i := 4) rfl)) (hw _ (List.mem_of_getElem? (i := 3) rfl)) (by decide) (by decide)) (g := (mkF m 105 #[.val (.int p0), .val (.int p1), .val (.int p2), .val (.int p3), .val (.int (0 : Int32)), .val (.int (0 : Int32)), .val (.ref b10), .val .null, .unset, .unset, .unset] [(.int ((((p2.toUInt32 >>> ((8 : Int32) &&& 31).toUInt32).toInt32) &&& (255 : Int32)).toUInt32.toUInt16.toUInt32.toInt32))])) rfl (by rw [hml]; rfl) (argsL := [(.int ((((p2.toUInt32 >>> ((8 : Int32) &&& 31).toUInt32).toInt32) &&& (255 : Int32)).toUInt32.toUInt16.toUInt32.toInt32))]) (rest := []) (lenOf pd_5 rfl) rfl (by show 2 * 0 + _ ≤ _; exact Nat.le_of_eq rfl) (hb hby at_105) (fun _ _ => ⟨rfl, e10, (by decide : 1 + 2 ≤ _), (by decide : 0 + 5 ≤ _)⟩)
      dsimp only [Pt.U, Pt.locs, Pt.cells, Pt.slots] at X15 l15 y15 z15 st15 hQ15
      subst l15 y15 z15
      obtain ⟨xs_15, xb_15, xk_15, rfl, N15q, K15, Pq15_0, Pq15_1, Fq15_0, Fq15_1, Fq15_2, Fq15_3⟩ := hQ15
      have N15 := Fr.app N0 N15q
      have k15 : Go p.tables e below (T10.setTop (mkF m 105 #[.val (.int p0), .val (.int p1), .val (.int p2), .val (.int p3), .val (.int (0 : Int32)), .val (.int (0 : Int32)), .val (.ref b10), .val .null, .unset, .unset, .unset] [(.int ((((p2.toUInt32 >>> ((8 : Int32) &&& 31).toUInt32).toInt32) &&& (255 : Int32)).toUInt32.toUInt16.toUInt32.toInt32))])) (T15.setTop (mkF m 108 #[.val (.int p0), .val (.int p1), .val (.int p2), .val (.int p3), .val (.int (0 : Int32)), .val (.int (0 : Int32)), .val (.ref b10), .val .null, .unset, .unset, .unset] [(.ref xs_15)])) := st15
      have Kp15 : Keep h0 T15.heap [] := Kp10.trans K15 all0
      have Z15 : n0 ≤ T15.heap.size := Nat.le_trans Z10 K15.1
      have ne_wD_xs_15 : wD ≠ xs_15 := Nat.ne_of_lt (Nat.lt_of_lt_of_le E_D_c_10.lt Pq15_0)
      have ne_b10_xs_15 : b10 ≠ xs_15 := Nat.ne_of_lt (Nat.lt_of_lt_of_le V_b10.lt Pq15_0)
      have g_xs_15 : n0 ≤ xs_15 := Nat.le_trans Z10 Pq15_0
      have sz_xs_15 : h0.size ≤ xs_15 := Nat.le_trans Kp10.1 Pq15_0
      have ne_wD_xb_15 : wD ≠ xb_15 := Nat.ne_of_lt (Nat.lt_of_lt_of_le E_D_c_10.lt Pq15_1)
      have ne_b10_xb_15 : b10 ≠ xb_15 := Nat.ne_of_lt (Nat.lt_of_lt_of_le V_b10.lt Pq15_1)
      have g_xb_15 : n0 ≤ xb_15 := Nat.le_trans Z10 Pq15_1
      have sz_xb_15 : h0.size ≤ xb_15 := Nat.le_trans Kp10.1 Pq15_1
      have S_CS_c_15 := own_sta_keep0 S_CS_c_10 K15
      have S_D_c_15 := own_sta_keep0 S_D_c_10 K15
      have E_D_c_15 := E_D_c_10.keep K15
      have F_D_c_15 := F_D_c_10.keep K15 nin0
      have V_b10_c_15 := V_b10.keep K15 nin0
      have k16 : Go p.tables e below (T15.setTop (mkF m 108 #[.val (.int p0), .val (.int p1), .val (.int p2), .val (.int p3), .val (.int (0 : Int32)), .val (.int (0 : Int32)), .val (.ref b10), .val .null, .unset, .unset, .unset] [(.ref xs_15)])) (T15.setTop (mkF m 113 #[.val (.int p0), .val (.int p1), .val (.int p2), .val (.int p3), .val (.int (0 : Int32)), .val (.int (0 : Int32)), .val (.ref b10), .val .null, .val (.ref xs_15), .unset, .unset] [(.int (p3 &&& (1 : Int32)))])) := by
        intro t ht
        refine XS.astore X15.here hx rfl (hb hby at_108) rfl rfl (l' := #[.val (.int p0), .val (.int p1), .val (.int p2), .val (.int p3), .val (.int (0 : Int32)), .val (.int (0 : Int32)), .val (.ref b10), .val .null, .val (.ref xs_15), .unset, .unset]) rfl ?_
        show Steps p.tables e below (T15.setTop (mkF m 110 #[.val (.int p0), .val (.int p1), .val (.int p2), .val (.int p3), .val (.int (0 : Int32)), .val (.int (0 : Int32)), .val (.ref b10), .val .null, .val (.ref xs_15), .unset, .unset] [])) _
        refine XS.iloadN X15.here hx rfl (hb hby at_110) rfl ?_
        show Steps p.tables e below (T15.setTop (mkF m 111 #[.val (.int p0), .val (.int p1), .val (.int p2), .val (.int p3), .val (.int (0 : Int32)), .val (.int (0 : Int32)), .val (.ref b10), .val .null, .val (.ref xs_15), .unset, .unset] [(.int p3)])) _
        refine XS.iconst X15.here hx rfl (hb hby at_111) ?_
        show Steps p.tables e below (T15.setTop (mkF m 112 #[.val (.int p0), .val (.int p1), .val (.int p2), .val (.int p3), .val (.int (0 : Int32)), .val (.int (0 : Int32)), .val (.ref b10), .val .null, .val (.ref xs_15), .unset, .unset] [(.int (1 : Int32)), (.int p3)])) _
        refine XS.iand X15.here hx rfl (hb hby at_112) rfl ?_
        exact ht
      have k17 : Go p.tables e below (T15.setTop (mkF m 113 #[.val (.int p0), .val (.int p1), .val (.int p2), .val (.int p3), .val (.int (0 : Int32)), .val (.int (0 : Int32)), .val (.ref b10), .val .null, .val (.ref xs_15), .unset, .unset] [(.int (p3 &&& (1 : Int32)))])) (T15.setTop (mkF m 121 #[.val (.int p0), .val (.int p1), .val (.int p2), .val (.int p3), .val (.int (0 : Int32)), .val (.int (0 : Int32)), .val (.ref b10), .val .null, .val (.ref xs_15), .unset, .unset] [(.int (if (p3 &&& (1 : Int32)) = (0 : Int32) then (0 : Int32) else (1 : Int32)))])) := by
        by_cases hc18 : (p3 &&& (1 : Int32)) = (0 : Int32)
        · have k19 : Go p.tables e below (T15.setTop (mkF m 113 #[.val (.int p0), .val (.int p1), .val (.int p2), .val (.int p3), .val (.int (0 : Int32)), .val (.int (0 : Int32)), .val (.ref b10), .val .null, .val (.ref xs_15), .unset, .unset] [(.int (p3 &&& (1 : Int32)))])) (T15.setTop (mkF m 121 #[.val (.int p0), .val (.int p1), .val (.int p2), .val (.int p3), .val (.int (0 : Int32)), .val (.int (0 : Int32)), .val (.ref b10), .val .null, .val (.ref xs_15), .unset, .unset] [(.int (0 : Int32))])) := by
            intro t ht
            refine XS.ifYes X15.here hx rfl (pc0 := 113) (pc' := 120) rfl (hb hby at_113) rfl ((if0 _ _).trans (teq hc18).1) (by decide) (by decide) ?_
            show Steps p.tables e below (T15.setTop (mkF m 120 #[.val (.int p0), .val (.int p1), .val (.int p2), .val (.int p3), .val (.int (0 : Int32)), .val (.int (0 : Int32)), .val (.ref b10), .val .null, .val (.ref xs_15), .unset, .unset] [])) _
            refine XS.iconst X15.here hx rfl (hb hby at_120) ?_
            exact ht
          have kk := k19
          simpa only [if_neg P5, if_pos hc12, if_pos hc18] using kk
        · have k20 : Go p.tables e below (T15.setTop (mkF m 113 #[.val (.int p0), .val (.int p1), .val (.int p2), .val (.int p3), .val (.int (0 : Int32)), .val (.int (0 : Int32)), .val (.ref b10), .val .null, .val (.ref xs_15), .unset, .unset] [(.int (p3 &&& (1 : Int32)))])) (T15.setTop (mkF m 121 #[.val (.int p0), .val (.int p1), .val (.int p2), .val (.int p3), .val (.int (0 : Int32)), .val (.int (0 : Int32)), .val (.ref b10), .val .null, .val (.ref xs_15), .unset, .unset] [(.int (1 : Int32))])) := by
            intro t ht
            refine XS.ifNo X15.here hx rfl (hb hby at_113) rfl ((if0 _ _).trans (feq hc18).1) ?_
            show Steps p.tables e below (T15.setTop (mkF m 116 #[.val (.int p0), .val (.int p1), .val (.int p2), .val (.int p3), .val (.int (0 : Int32)), .val (.int (0 : Int32)), .val (.ref b10), .val .null, .val (.ref xs_15), .unset, .unset] [])) _
            refine XS.iconst X15.here hx rfl (hb hby at_116) ?_
            show Steps p.tables e below (T15.setTop (mkF m 117 #[.val (.int p0), .val (.int p1), .val (.int p2), .val (.int p3), .val (.int (0 : Int32)), .val (.int (0 : Int32)), .val (.ref b10), .val .null, .val (.ref xs_15), .unset, .unset] [(.int (1 : Int32))])) _
            refine XS.goto X15.here hx rfl (pc0 := 117) (pc' := 121) rfl (hb hby at_117) (by decide) (by decide) ?_
            exact ht
          have kk := k20
          simpa only [if_neg P5, if_pos hc12, if_neg hc18] using kk
      have k21 : Go p.tables e below (T15.setTop (mkF m 121 #[.val (.int p0), .val (.int p1), .val (.int p2), .val (.int p3), .val (.int (0 : Int32)), .val (.int (0 : Int32)), .val (.ref b10), .val .null, .val (.ref xs_15), .unset, .unset] [(.int (if (p3 &&& (1 : Int32)) = (0 : Int32) then (0 : Int32) else (1 : Int32)))])) (T15.setTop (mkF m 123 #[.val (.int p0), .val (.int p1), .val (.int p2), .val (.int p3), .val (.int (0 : Int32)), .val (.int (0 : Int32)), .val (.ref b10), .val .null, .val (.ref xs_15), .val (.int (if (p3 &&& (1 : Int32)) = (0 : Int32) then (0 : Int32) else (1 : Int32))), .unset] [])) := by
        intro t ht
        refine XS.istore X15.here hx rfl (hb hby at_121) rfl (l' := #[.val (.int p0), .val (.int p1), .val (.int p2), .val (.int p3), .val (.int (0 : Int32)), .val (.int (0 : Int32)), .val (.ref b10), .val .null, .val (.ref xs_15), .val (.int (if (p3 &&& (1 : Int32)) = (0 : Int32) then (0 : Int32) else (1 : Int32))), .unset]) rfl ?_
        exact ht
      obtain ⟨T22, h22, X22, e22, E22, A22, D22, -, st22⟩ := newO X15 hx hZ hown (hw _ (List.mem_of_getElem? (i := 27) rfl)) (hw _ (List.mem_of_getElem? (i := 28) rfl)) (hw _ (List.mem_of_getElem? (i := 29) rfl)) rfl (g := (mkF m 123 #[.val (.int p0), .val (.int p1), .val (.int p2), .val (.int p3), .val (.int (0 : Int32)), .val (.int (0 : Int32)), .val (.ref b10), .val .null, .val (.ref xs_15), .val (.int (if (p3 &&& (1 : Int32)) = (0 : Int32) then (0 : Int32) else (1 : Int32))), .unset] [])) rfl (hb hby at_123) (by decide) (by decide)
      obtain ⟨b22, g22⟩ : ∃ z, z = T15.heap.size := ⟨_, rfl⟩
      rw [← g22] at A22 D22 st22
      have g_b22 : n0 ≤ b22 := Nat.le_trans Z15 (Nat.le_of_eq g22.symm)
      have sz_b22 : h0.size ≤ b22 := Nat.le_trans Kp15.1 (Nat.le_of_eq g22.symm)
      have ne_wD_b22 : wD ≠ b22 := Nat.ne_of_lt (Nat.lt_of_lt_of_le E_D_c_15.lt (Nat.le_of_eq g22.symm))
      have ne_b10_b22 : b10 ≠ b22 := Nat.ne_of_lt (Nat.lt_of_lt_of_le V_b10_c_15.lt (Nat.le_of_eq g22.symm))
      have ne_xs_15_b22 : xs_15 ≠ b22 := Nat.ne_of_lt (Nat.lt_of_lt_of_le Fq15_0.lt (Nat.le_of_eq g22.symm))
      have ne_xb_15_b22 : xb_15 ≠ b22 := Nat.ne_of_lt (Nat.lt_of_lt_of_le Fq15_3.lt (Nat.le_of_eq g22.symm))
      have Kp22 : Keep h0 h22 [] := Kp15.ext E22
      have Z22 : n0 ≤ h22.size := Nat.le_trans Z15 E22.1
      have S_CS_c_22 := S_CS_c_15.ext E22
      have S_D_c_22 := S_D_c_15.ext E22
      have E_D_c_22 := E_D_c_15.ext E22
      have F_D_c_22 := F_D_c_15.ext E22
      have V_b10_c_22 := V_b10_c_15.ext E22
      have Fq15_0_c_22 := Fq15_0.ext E22
      have Fq15_1_c_22 := Fq15_1.ext E22
      have Fq15_2_c_22 := Fq15_2.ext E22
      have Fq15_3_c_22 := Fq15_3.ext E22
      have F_nameColumn_b22 : Fld Z h22 b22 "com/example/plain_keys/plainkeys/dialect/KeyTableLayout" "nameColumn" "Ljava/lang/String;" .null := D22 (Or.inr (hw _ (List.mem_of_getElem? (i := 40) rfl))) (ty := (.object "java/lang/String")) (by decide)
      have F_valueColumn_b22 : Fld Z h22 b22 "com/example/plain_keys/plainkeys/dialect/KeyTableLayout" "valueColumn" "Ljava/lang/String;" .null := D22 (Or.inr (hw _ (List.mem_of_getElem? (i := 42) rfl))) (ty := (.object "java/lang/String")) (by decide)
      have F_valueIsLastKey_b22 : Fld Z h22 b22 "com/example/plain_keys/plainkeys/dialect/KeyTableLayout" "valueIsLastKey" "Z" (.int (0 : Int32)) := D22 (Or.inr (hw _ (List.mem_of_getElem? (i := 44) rfl))) (ty := .boolean) (by decide)
      have k22 : Go p.tables e below (T15.setTop (mkF m 123 #[.val (.int p0), .val (.int p1), .val (.int p2), .val (.int p3), .val (.int (0 : Int32)), .val (.int (0 : Int32)), .val (.ref b10), .val .null, .val (.ref xs_15), .val (.int (if (p3 &&& (1 : Int32)) = (0 : Int32) then (0 : Int32) else (1 : Int32))), .unset] [])) (T22.setTop (mkF m 126 #[.val (.int p0), .val (.int p1), .val (.int p2), .val (.int p3), .val (.int (0 : Int32)), .val (.int (0 : Int32)), .val (.ref b10), .val .null, .val (.ref xs_15), .val (.int (if (p3 &&& (1 : Int32)) = (0 : Int32) then (0 : Int32) else (1 : Int32))), .unset] [(.ref b22)])) := st22
      have k23 : Go p.tables e below (T22.setTop (mkF m 126 #[.val (.int p0), .val (.int p1), .val (.int p2), .val (.int p3), .val (.int (0 : Int32)), .val (.int (0 : Int32)), .val (.ref b10), .val .null, .val (.ref xs_15), .val (.int (if (p3 &&& (1 : Int32)) = (0 : Int32) then (0 : Int32) else (1 : Int32))), .unset] [(.ref b22)])) (T22.setTop (mkF m 133 #[.val (.int p0), .val (.int p1), .val (.int p2), .val (.int p3), .val (.int (0 : Int32)), .val (.int (0 : Int32)), .val (.ref b10), .val .null, .val (.ref xs_15), .val (.int (if (p3 &&& (1 : Int32)) = (0 : Int32) then (0 : Int32) else (1 : Int32))), .unset] [(.int (if (p3 &&& (1 : Int32)) = (0 : Int32) then (0 : Int32) else (1 : Int32))), (.ref xs_15), .null, (.ref b22), (.ref b22)])) := by
        intro t ht
        refine XS.dup X22.here hx rfl (hb hby at_126) rfl rfl ?_
        show Steps p.tables e below (T22.setTop (mkF m 127 #[.val (.int p0), .val (.int p1), .val (.int p2), .val (.int p3), .val (.int (0 : Int32)), .val (.int (0 : Int32)), .val (.ref b10), .val .null, .val (.ref xs_15), .val (.int (if (p3 &&& (1 : Int32)) = (0 : Int32) then (0 : Int32) else (1 : Int32))), .unset] [(.ref b22), (.ref b22)])) _
        refine XS.aload X22.here hx rfl (hb hby at_127) rfl rfl ?_
        show Steps p.tables e below (T22.setTop (mkF m 129 #[.val (.int p0), .val (.int p1), .val (.int p2), .val (.int p3), .val (.int (0 : Int32)), .val (.int (0 : Int32)), .val (.ref b10), .val .null, .val (.ref xs_15), .val (.int (if (p3 &&& (1 : Int32)) = (0 : Int32) then (0 : Int32) else (1 : Int32))), .unset] [.null, (.ref b22), (.ref b22)])) _
        refine XS.aload X22.here hx rfl (hb hby at_129) rfl rfl ?_
        show Steps p.tables e below (T22.setTop (mkF m 131 #[.val (.int p0), .val (.int p1), .val (.int p2), .val (.int p3), .val (.int (0 : Int32)), .val (.int (0 : Int32)), .val (.ref b10), .val .null, .val (.ref xs_15), .val (.int (if (p3 &&& (1 : Int32)) = (0 : Int32) then (0 : Int32) else (1 : Int32))), .unset] [(.ref xs_15), .null, (.ref b22), (.ref b22)])) _
        refine XS.iload X22.here hx rfl (hb hby at_131) rfl ?_
        exact ht
      obtain ⟨_, _, ⟨T24, L24, kq24, n24⟩, -, X24, ⟨Lc24, hQ24, l24, y24, z24⟩, st24⟩ := X22.specialBack hx (y := (⟨"com/example/plain_keys/plainkeys/dialect/KeyTableLayout", "<init>", "(Ljava/lang/String;Ljava/lang/String;Z)V"⟩ : MethodName)) rfl hown (mvT hZ (hw _ (List.mem_of_getElem? (i := 30) rfl))) (mvT hZ (hw _ (List.mem_of_getElem? (i := 31) rfl))) (mvT hZ (hw _ (List.mem_of_getElem? (i := 32) rfl))) (by decide) (backOf (W := 1) (rm_initNull l Z a0 hw [] b22 xs_15 (if (p3 &&& (1 : Int32)) = (0 : Int32) then (0 : Int32) else (1 : Int32)) h22 n0 Z22 F_nameColumn_b22 F_valueColumn_b22 F_valueIsLastKey_b22 A22 g_b22) hZ (hw _ (List.mem_of_getElem? (i := 32) rfl)) (hw _ (List.mem_of_getElem? (i := 29) rfl)) (by decide) (by decide)) (g := (mkF m 133 #[.val (.int p0), .val (.int p1), .val (.int p2), .val (.int p3), .val (.int (0 : Int32)), .val (.int (0 : Int32)), .val (.ref b10), .val .null, .val (.ref xs_15), .val (.int (if (p3 &&& (1 : Int32)) = (0 : Int32) then (0 : Int32) else (1 : Int32))), .unset] [(.int (if (p3 &&& (1 : Int32)) = (0 : Int32) then (0 : Int32) else (1 : Int32))), (.ref xs_15), .null, (.ref b22), (.ref b22)])) rfl (by rw [hml]; rfl) (Steps.refl _) (a := b22) (argsL := [.null, (.ref xs_15), (.int (if (p3 &&& (1 : Int32)) = (0 : Int32) then (0 : Int32) else (1 : Int32)))]) (rest := [(.ref b22)]) (lenOf pd_6 rfl) rfl (by show 2 * 0 + _ ≤ _; exact Nat.le_of_eq rfl) (hb hby at_133) (fun _ _ => ⟨rfl, e22, (by decide : 4 + 0 ≤ _), (by decide : 8 + 0 ≤ _)⟩)
      dsimp only [Pt.U, Pt.locs, Pt.cells, Pt.slots] at X24 l24 y24 z24 st24 hQ24
      subst l24 y24 z24
      obtain ⟨rfl, N24q, K24, Fq24_0, Fq24_1, Fq24_2, Fq24_3⟩ := hQ24
      have N24 := Fr.app N15 N24q
      have k24 : Go p.tables e below (T22.setTop (mkF m 133 #[.val (.int p0), .val (.int p1), .val (.int p2), .val (.int p3), .val (.int (0 : Int32)), .val (.int (0 : Int32)), .val (.ref b10), .val .null, .val (.ref xs_15), .val (.int (if (p3 &&& (1 : Int32)) = (0 : Int32) then (0 : Int32) else (1 : Int32))), .unset] [(.int (if (p3 &&& (1 : Int32)) = (0 : Int32) then (0 : Int32) else (1 : Int32))), (.ref xs_15), .null, (.ref b22), (.ref b22)])) (T24.setTop (mkF m 136 #[.val (.int p0), .val (.int p1), .val (.int p2), .val (.int p3), .val (.int (0 : Int32)), .val (.int (0 : Int32)), .val (.ref b10), .val .null, .val (.ref xs_15), .val (.int (if (p3 &&& (1 : Int32)) = (0 : Int32) then (0 : Int32) else (1 : Int32))), .unset] [(.ref b22)])) := fun _ ht => st24.trans ht
      have Kp24 : Keep h0 T24.heap [] := Kp22.trans K24 (allS (Or.inr sz_b22) all0)
      have Z24 : n0 ≤ T24.heap.size := Nat.le_trans Z22 K24.1
      have S_CS_c_24 := own_sta_keep S_CS_c_22 A22 K24
      have S_D_c_24 := own_sta_keep S_D_c_22 A22 K24
      have E_D_c_24 := E_D_c_22.keep K24
      have F_D_c_24 := F_D_c_22.keep K24 (ninS ne_wD_b22 nin0)
      have V_b10_c_24 := V_b10_c_22.keep K24 (ninS ne_b10_b22 nin0)
      have Fq15_0_c_24 := Fq15_0_c_22.keep K24
      have Fq15_1_c_24 := Fq15_1_c_22.keep K24 (ninS ne_xs_15_b22 nin0)
      have Fq15_2_c_24 := Fq15_2_c_22.keep K24 (ninS ne_xs_15_b22 nin0)
      have Fq15_3_c_24 := Fq15_3_c_22.keep K24 (ninS ne_xb_15_b22 nin0)
      have A22_c_24 := A22.keep K24
      have k25 : Go p.tables e below (T24.setTop (mkF m 136 #[.val (.int p0), .val (.int p1), .val (.int p2), .val (.int p3), .val (.int (0 : Int32)), .val (.int (0 : Int32)), .val (.ref b10), .val .null, .val (.ref xs_15), .val (.int (if (p3 &&& (1 : Int32)) = (0 : Int32) then (0 : Int32) else (1 : Int32))), .unset] [(.ref b22)])) (T24.setTop (mkF m 140 #[.val (.int p0), .val (.int p1), .val (.int p2), .val (.int p3), .val (.int (0 : Int32)), .val (.int (0 : Int32)), .val (.ref b10), .val .null, .val (.ref xs_15), .val (.int (if (p3 &&& (1 : Int32)) = (0 : Int32) then (0 : Int32) else (1 : Int32))), .val (.ref b22)] [(.ref b22)])) := by
        intro t ht
        refine XS.astore X24.here hx rfl (hb hby at_136) rfl rfl (l' := #[.val (.int p0), .val (.int p1), .val (.int p2), .val (.int p3), .val (.int (0 : Int32)), .val (.int (0 : Int32)), .val (.ref b10), .val .null, .val (.ref xs_15), .val (.int (if (p3 &&& (1 : Int32)) = (0 : Int32) then (0 : Int32) else (1 : Int32))), .val (.ref b22)]) rfl ?_
        show Steps p.tables e below (T24.setTop (mkF m 138 #[.val (.int p0), .val (.int p1), .val (.int p2), .val (.int p3), .val (.int (0 : Int32)), .val (.int (0 : Int32)), .val (.ref b10), .val .null, .val (.ref xs_15), .val (.int (if (p3 &&& (1 : Int32)) = (0 : Int32) then (0 : Int32) else (1 : Int32))), .val (.ref b22)] [])) _
        refine XS.aload X24.here hx rfl (hb hby at_138) rfl rfl ?_
        exact ht
      obtain ⟨cq26, kq26, q26a, q26b, q26c⟩ := isOf hZ rfl Fq24_0
      obtain ⟨_, _, ⟨T26, L26, kq26, n26⟩, -, X26, ⟨Lc26, hQ26, l26, y26, z26⟩, st26⟩ := X24.virtualBack hx (y := (⟨"com/example/plain_keys/plainkeys/dialect/KeyTableLayout", "namesRows", "()Z"⟩ : MethodName)) (z := (⟨"com/example/plain_keys/plainkeys/dialect/KeyTableLayout", "namesRows", "()Z"⟩ : MethodName)) hown (mvT hZ (hw _ (List.mem_of_getElem? (i := 45) rfl))) (mvT hZ (hw _ (List.mem_of_getElem? (i := 46) rfl))) (notFace_of_selects (args := #[]) (mvT hZ (hw _ (List.mem_of_getElem? (i := 48) rfl)))) (mvT hZ (hw _ (List.mem_of_getElem? (i := 48) rfl))) (mvT hZ (hw _ (List.mem_of_getElem? (i := 47) rfl))) (by decide) (backOf (W := 0) (rm_rows0 l Z a0 hw [] b22 T24.heap n0 Z24 Fq24_1) hZ (hw _ (List.mem_of_getElem? (i := 49) rfl)) (hw _ (List.mem_of_getElem? (i := 29) rfl)) (by decide) (by decide)) q26a q26c (g := (mkF m 140 #[.val (.int p0), .val (.int p1), .val (.int p2), .val (.int p3), .val (.int (0 : Int32)), .val (.int (0 : Int32)), .val (.ref b10), .val .null, .val (.ref xs_15), .val (.int (if (p3 &&& (1 : Int32)) = (0 : Int32) then (0 : Int32) else (1 : Int32))), .val (.ref b22)] [(.ref b22)])) rfl (by rw [hml]; rfl) (Steps.refl _) (argsL := []) (rest := []) (lenOf pd_7 rfl) rfl (by show 2 * 0 + _ ≤ _; exact Nat.le_of_eq rfl) (hb hby at_140) (fun _ _ => ⟨rfl, rfl, (by decide : 4 + 0 ≤ _), (by decide : 8 + 0 ≤ _)⟩)
      dsimp only [Pt.U, Pt.locs, Pt.cells, Pt.slots] at X26 l26 y26 z26 st26 hQ26
      subst l26 y26 z26
      obtain ⟨rfl, N26q, eq26⟩ := hQ26
      have N26 := Fr.app N24 N26q
      have k26 : Go p.tables e below (T24.setTop (mkF m 140 #[.val (.int p0), .val (.int p1), .val (.int p2), .val (.int p3), .val (.int (0 : Int32)), .val (.int (0 : Int32)), .val (.ref b10), .val .null, .val (.ref xs_15), .val (.int (if (p3 &&& (1 : Int32)) = (0 : Int32) then (0 : Int32) else (1 : Int32))), .val (.ref b22)] [(.ref b22)])) (T26.setTop (mkF m 143 #[.val (.int p0), .val (.int p1), .val (.int p2), .val (.int p3), .val (.int (0 : Int32)), .val (.int (0 : Int32)), .val (.ref b10), .val .null, .val (.ref xs_15), .val (.int (if (p3 &&& (1 : Int32)) = (0 : Int32) then (0 : Int32) else (1 : Int32))), .val (.ref b22)] [(.int (0 : Int32))])) := fun _ ht => st26.trans ht
      have k27 : Go p.tables e below (T26.setTop (mkF m 143 #[.val (.int p0), .val (.int p1), .val (.int p2), .val (.int p3), .val (.int (0 : Int32)), .val (.int (0 : Int32)), .val (.ref b10), .val .null, .val (.ref xs_15), .val (.int (if (p3 &&& (1 : Int32)) = (0 : Int32) then (0 : Int32) else (1 : Int32))), .val (.ref b22)] [(.int (0 : Int32))])) (T26.setTop (mkF m 148 #[.val (.int p0), .val (.int p1), .val (.int p2), .val (.int p3), .val (.int (0 : Int32)), .val (.int (0 : Int32)), .val (.ref b10), .val .null, .val (.ref xs_15), .val (.int (if (p3 &&& (1 : Int32)) = (0 : Int32) then (0 : Int32) else (1 : Int32))), .val (.ref b22)] [])) := by
        intro t ht
        refine XS.iload X26.here hx rfl (hb hby at_143) rfl ?_
        show Steps p.tables e below (T26.setTop (mkF m 145 #[.val (.int p0), .val (.int p1), .val (.int p2), .val (.int p3), .val (.int (0 : Int32)), .val (.int (0 : Int32)), .val (.ref b10), .val .null, .val (.ref xs_15), .val (.int (if (p3 &&& (1 : Int32)) = (0 : Int32) then (0 : Int32) else (1 : Int32))), .val (.ref b22)] [(.int (0 : Int32)), (.int (0 : Int32))])) _
        refine XS.icmpNo X26.here hx rfl (hb hby at_145) rfl (teq (by decide : (0 : Int32) = (0 : Int32))).2 ?_
        exact ht
      obtain ⟨T28, X28, e28, st28⟩ := getS2 X26 hx hZ hown (host := "") (Or.inl (hw _ (List.mem_of_getElem? (i := 50) rfl))) Via.refl eq26 S_D_c_24 (g := (mkF m 148 #[.val (.int p0), .val (.int p1), .val (.int p2), .val (.int p3), .val (.int (0 : Int32)), .val (.int (0 : Int32)), .val (.ref b10), .val .null, .val (.ref xs_15), .val (.int (if (p3 &&& (1 : Int32)) = (0 : Int32) then (0 : Int32) else (1 : Int32))), .val (.ref b22)] [])) rfl (hb hby at_148)
      have k28 : Go p.tables e below (T26.setTop (mkF m 148 #[.val (.int p0), .val (.int p1), .val (.int p2), .val (.int p3), .val (.int (0 : Int32)), .val (.int (0 : Int32)), .val (.ref b10), .val .null, .val (.ref xs_15), .val (.int (if (p3 &&& (1 : Int32)) = (0 : Int32) then (0 : Int32) else (1 : Int32))), .val (.ref b22)] [])) (T28.setTop (mkF m 151 #[.val (.int p0), .val (.int p1), .val (.int p2), .val (.int p3), .val (.int (0 : Int32)), .val (.int (0 : Int32)), .val (.ref b10), .val .null, .val (.ref xs_15), .val (.int (if (p3 &&& (1 : Int32)) = (0 : Int32) then (0 : Int32) else (1 : Int32))), .val (.ref b22)] [(.ref wD)])) := st28
      obtain ⟨cq29, kq29, q29a, q29b, q29c⟩ := isOf hZ e28 E_D_c_24
      obtain ⟨_, _, ⟨T29, L29, kq29, n29⟩, -, X29, ⟨Lc29, hQ29, l29, y29, z29⟩, st29⟩ := X28.virtualBack hx (y := (⟨"com/example/plain_keys/plainkeys/dialect/KeyTableLayout", "namesRows", "()Z"⟩ : MethodName)) (z := (⟨"com/example/plain_keys/plainkeys/dialect/KeyTableLayout", "namesRows", "()Z"⟩ : MethodName)) hown (mvT hZ (hw _ (List.mem_of_getElem? (i := 45) rfl))) (mvT hZ (hw _ (List.mem_of_getElem? (i := 46) rfl))) (notFace_of_selects (args := #[]) (mvT hZ (hw _ (List.mem_of_getElem? (i := 48) rfl)))) (mvT hZ (hw _ (List.mem_of_getElem? (i := 48) rfl))) (mvT hZ (hw _ (List.mem_of_getElem? (i := 47) rfl))) (by decide) (backOf (W := 0) (rm_rows1 l Z a0 hw [] wD wn T24.heap n0 Z24 F_D_c_24) hZ (hw _ (List.mem_of_getElem? (i := 49) rfl)) (hw _ (List.mem_of_getElem? (i := 29) rfl)) (by decide) (by decide)) q29a q29c (g := (mkF m 151 #[.val (.int p0), .val (.int p1), .val (.int p2), .val (.int p3), .val (.int (0 : Int32)), .val (.int (0 : Int32)), .val (.ref b10), .val .null, .val (.ref xs_15), .val (.int (if (p3 &&& (1 : Int32)) = (0 : Int32) then (0 : Int32) else (1 : Int32))), .val (.ref b22)] [(.ref wD)])) rfl (by rw [hml]; rfl) (Steps.refl _) (argsL := []) (rest := []) (lenOf pd_7 rfl) rfl (by show 2 * 0 + _ ≤ _; exact Nat.le_of_eq rfl) (hb hby at_151) (fun _ _ => ⟨rfl, e28, (by decide : 4 + 0 ≤ _), (by decide : 8 + 0 ≤ _)⟩)
      dsimp only [Pt.U, Pt.locs, Pt.cells, Pt.slots] at X29 l29 y29 z29 st29 hQ29
      subst l29 y29 z29
      obtain ⟨rfl, N29q, eq29⟩ := hQ29
      have N29 := Fr.app N26 N29q
      have k29 : Go p.tables e below (T28.setTop (mkF m 151 #[.val (.int p0), .val (.int p1), .val (.int p2), .val (.int p3), .val (.int (0 : Int32)), .val (.int (0 : Int32)), .val (.ref b10), .val .null, .val (.ref xs_15), .val (.int (if (p3 &&& (1 : Int32)) = (0 : Int32) then (0 : Int32) else (1 : Int32))), .val (.ref b22)] [(.ref wD)])) (T29.setTop (mkF m 154 #[.val (.int p0), .val (.int p1), .val (.int p2), .val (.int p3), .val (.int (0 : Int32)), .val (.int (0 : Int32)), .val (.ref b10), .val .null, .val (.ref xs_15), .val (.int (if (p3 &&& (1 : Int32)) = (0 : Int32) then (0 : Int32) else (1 : Int32))), .val (.ref b22)] [(.int (1 : Int32))])) := fun _ ht => st29.trans ht
      have k30 : Go p.tables e below (T29.setTop (mkF m 154 #[.val (.int p0), .val (.int p1), .val (.int p2), .val (.int p3), .val (.int (0 : Int32)), .val (.int (0 : Int32)), .val (.ref b10), .val .null, .val (.ref xs_15), .val (.int (if (p3 &&& (1 : Int32)) = (0 : Int32) then (0 : Int32) else (1 : Int32))), .val (.ref b22)] [(.int (1 : Int32))])) (T29.setTop (mkF m 162 #[.val (.int p0), .val (.int p1), .val (.int p2), .val (.int p3), .val (.int (0 : Int32)), .val (.int (0 : Int32)), .val (.ref b10), .val .null, .val (.ref xs_15), .val (.int (if (p3 &&& (1 : Int32)) = (0 : Int32) then (0 : Int32) else (1 : Int32))), .val (.ref b22)] [(.int (1 : Int32))])) := by
        intro t ht
        refine XS.ifNo X29.here hx rfl (hb hby at_154) rfl ((if0 _ _).trans (feq (by decide : ¬ ((1 : Int32) = (0 : Int32)))).1) ?_
        show Steps p.tables e below (T29.setTop (mkF m 157 #[.val (.int p0), .val (.int p1), .val (.int p2), .val (.int p3), .val (.int (0 : Int32)), .val (.int (0 : Int32)), .val (.ref b10), .val .null, .val (.ref xs_15), .val (.int (if (p3 &&& (1 : Int32)) = (0 : Int32) then (0 : Int32) else (1 : Int32))), .val (.ref b22)] [])) _
        refine XS.iconst X29.here hx rfl (hb hby at_157) ?_
        show Steps p.tables e below (T29.setTop (mkF m 158 #[.val (.int p0), .val (.int p1), .val (.int p2), .val (.int p3), .val (.int (0 : Int32)), .val (.int (0 : Int32)), .val (.ref b10), .val .null, .val (.ref xs_15), .val (.int (if (p3 &&& (1 : Int32)) = (0 : Int32) then (0 : Int32) else (1 : Int32))), .val (.ref b22)] [(.int (1 : Int32))])) _
        refine XS.goto X29.here hx rfl (pc0 := 158) (pc' := 162) rfl (hb hby at_158) (by decide) (by decide) ?_
        exact ht
      have hS0 : s.Since s.vm 0 := (State.WarmedH.refl s).since 0
      obtain ⟨fs, hr, hrun, hended, hW⟩ := X29.leaveW (s := s) (vm₁ := s.vm) hS0 (Nat.zero_le _) (v := some (.int (1 : Int32))) (fun h => by rw [Bd.returns] at h; cases h)
      refine ⟨_, _, pre0 _ ((goT k1 (goT k2 (goT k6 (goT k8 (goT k9 (goT k10 (goT k11 (goT k13 (goT k14 (goT k15 (goT k16 (goT k17 (goT k21 (goT k22 (goT k23 (goT k24 (goT k25 (goT k26 (goT k27 (goT k28 (goT k29 k30))))))))))))))))))))) _ (retN X29 hx (t := .boolean) Bd.returns (by simp) (hb hby at_162) hr)), hrun, hended, _, _, rfl, ?_, hW.1, hW.2.1, hW.2.2.1, hW.2.2.2.mono (by decide) (by decide)⟩
      show Q_law Z p0 p1 p2 p3 G1 wD wn h0 n0 _ T29.heap _
      rw [eq29]
      exact ⟨rfl, N29⟩
    · have k31 : Go p.tables e below (T10.setTop (mkF m 78 #[.val (.int p0), .val (.int p1), .val (.int p2), .val (.int p3), .val (.int (if (p0 &&& (1 : Int32)) = (0 : Int32) then (0 : Int32) else (1 : Int32))), .val (.int (0 : Int32)), .val (.ref b10), .unset, .unset, .unset, .unset] [(.int (if (p0 &&& (1 : Int32)) = (0 : Int32) then (0 : Int32) else (1 : Int32)))])) (T10.setTop (mkF m 78 #[.val (.int p0), .val (.int p1), .val (.int p2), .val (.int p3), .val (.int (1 : Int32)), .val (.int (0 : Int32)), .val (.ref b10), .unset, .unset, .unset, .unset] [(.int (1 : Int32))])) := by
        simp only [if_neg hc12]; exact fun _ h => h
      have k32 : Go p.tables e below (T10.setTop (mkF m 78 #[.val (.int p0), .val (.int p1), .val (.int p2), .val (.int p3), .val (.int (1 : Int32)), .val (.int (0 : Int32)), .val (.ref b10), .unset, .unset, .unset, .unset] [(.int (1 : Int32))])) (T10.setTop (mkF m 81 #[.val (.int p0), .val (.int p1), .val (.int p2), .val (.int p3), .val (.int (1 : Int32)), .val (.int (0 : Int32)), .val (.ref b10), .unset, .unset, .unset, .unset] [])) := by
        intro t ht
        refine XS.ifNo X10.here hx rfl (hb hby at_78) rfl ((if0 _ _).trans (feq (by decide : ¬ ((1 : Int32) = (0 : Int32)))).1) ?_
        exact ht
      obtain ⟨T33, h33, X33, e33, E33, A33, D33, -, st33⟩ := newO X10 hx hZ hown (hw _ (List.mem_of_getElem? (i := 52) rfl)) (hw _ (List.mem_of_getElem? (i := 11) rfl)) (hw _ (List.mem_of_getElem? (i := 3) rfl)) e10 (g := (mkF m 81 #[.val (.int p0), .val (.int p1), .val (.int p2), .val (.int p3), .val (.int (1 : Int32)), .val (.int (0 : Int32)), .val (.ref b10), .unset, .unset, .unset, .unset] [])) rfl (hb hby at_81) (by decide) (by decide)
      obtain ⟨b33, g33⟩ : ∃ z, z = h10.size := ⟨_, rfl⟩
      rw [← g33] at A33 D33 st33
      have g_b33 : n0 ≤ b33 := Nat.le_trans Z10 (Nat.le_of_eq g33.symm)
      have sz_b33 : h0.size ≤ b33 := Nat.le_trans Kp10.1 (Nat.le_of_eq g33.symm)
      have ne_wD_b33 : wD ≠ b33 := Nat.ne_of_lt (Nat.lt_of_lt_of_le E_D_c_10.lt (Nat.le_of_eq g33.symm))
      have ne_b10_b33 : b10 ≠ b33 := Nat.ne_of_lt (Nat.lt_of_lt_of_le V_b10.lt (Nat.le_of_eq g33.symm))
      have Kp33 : Keep h0 h33 [] := Kp10.ext E33
      have Z33 : n0 ≤ h33.size := Nat.le_trans Z10 E33.1
      have S_CS_c_33 := S_CS_c_10.ext E33
      have S_D_c_33 := S_D_c_10.ext E33
      have E_D_c_33 := E_D_c_10.ext E33
      have F_D_c_33 := F_D_c_10.ext E33
      have V_b10_c_33 := V_b10.ext E33
      have F_value_b33 : Fld Z h33 b33 "java/lang/String" "value" "[B" .null := D33 (Or.inr (hw _ (List.mem_of_getElem? (i := 24) rfl))) (ty := (.array .byte)) (by decide)
      have F_coder_b33 : Fld Z h33 b33 "java/lang/String" "coder" "B" (.int (0 : Int32)) := D33 (Or.inr (hw _ (List.mem_of_getElem? (i := 26) rfl))) (ty := .byte) (by decide)
      have k33 : Go p.tables e below (T10.setTop (mkF m 81 #[.val (.int p0), .val (.int p1), .val (.int p2), .val (.int p3), .val (.int (1 : Int32)), .val (.int (0 : Int32)), .val (.ref b10), .unset, .unset, .unset, .unset] [])) (T33.setTop (mkF m 84 #[.val (.int p0), .val (.int p1), .val (.int p2), .val (.int p3), .val (.int (1 : Int32)), .val (.int (0 : Int32)), .val (.ref b10), .unset, .unset, .unset, .unset] [(.ref b33)])) := st33
      have k34 : Go p.tables e below (T33.setTop (mkF m 84 #[.val (.int p0), .val (.int p1), .val (.int p2), .val (.int p3), .val (.int (1 : Int32)), .val (.int (0 : Int32)), .val (.ref b10), .unset, .unset, .unset, .unset] [(.ref b33)])) (T33.setTop (mkF m 87 #[.val (.int p0), .val (.int p1), .val (.int p2), .val (.int p3), .val (.int (1 : Int32)), .val (.int (0 : Int32)), .val (.ref b10), .unset, .unset, .unset, .unset] [(.ref b10), (.ref b33), (.ref b33)])) := by
        intro t ht
        refine XS.dup X33.here hx rfl (hb hby at_84) rfl rfl ?_
        show Steps p.tables e below (T33.setTop (mkF m 85 #[.val (.int p0), .val (.int p1), .val (.int p2), .val (.int p3), .val (.int (1 : Int32)), .val (.int (0 : Int32)), .val (.ref b10), .unset, .unset, .unset, .unset] [(.ref b33), (.ref b33)])) _
        refine XS.aload X33.here hx rfl (hb hby at_85) rfl rfl ?_
        exact ht
      have hS0 : s.Since s.vm 0 := (State.WarmedH.refl s).since 0
      obtain ⟨_, _, ⟨T35, L35, kq35, n35⟩, -, X35, hSn35, hgr35, ⟨Lc35, hQ35, l35, y35, z35⟩, st35⟩ := X33.specialBackS hx (y := (⟨"java/lang/String", "<init>", "([C)V"⟩ : MethodName)) rfl hown (mvT hZ (hw _ (List.mem_of_getElem? (i := 53) rfl))) (mvT hZ (hw _ (List.mem_of_getElem? (i := 54) rfl))) (mvT hZ (hw _ (List.mem_of_getElem? (i := 55) rfl))) (by decide) (own_backOfSC (s := s) (vm0 := s.vm) (W := 1) (rm_initE1 l Z a0 hw [] b33 b10 kc10 h33 n0 Z33 F_value_b33 F_coder_b33 A33 V_b10_c_33 g_b33) hZ (hw _ (List.mem_of_getElem? (i := 55) rfl)) (hw _ (List.mem_of_getElem? (i := 3) rfl)) (by decide) (by decide) (own_EL hw) (CHv.ext E33 (CHv.ext E10 hCH))) (g := (mkF m 87 #[.val (.int p0), .val (.int p1), .val (.int p2), .val (.int p3), .val (.int (1 : Int32)), .val (.int (0 : Int32)), .val (.ref b10), .unset, .unset, .unset, .unset] [(.ref b10), (.ref b33), (.ref b33)])) rfl (by rw [hml]; rfl) (Steps.refl _) (a := b33) (argsL := [(.ref b10)]) (rest := [(.ref b33)]) (lenOf pd_8 rfl) rfl (by show 2 * 0 + _ ≤ _; exact Nat.le_of_eq rfl) (hb hby at_87) (fun _ _ => ⟨rfl, e33, (by decide : 2 + 2 ≤ _), (by decide : 4 + 4 ≤ _)⟩)
      dsimp only [Pt.U, Pt.locs, Pt.cells, Pt.slots] at X35 l35 y35 z35 st35 hQ35 hSn35 hgr35
      subst l35 y35 z35
      obtain ⟨X35, hS35, hZ, hown⟩ := rebS (s := s) (vm0 := s.vm) hS0 (Nat.zero_le _) X35 hSn35 (Nat.zero_le _) hZ hown
      obtain ⟨xb_35, xk_35, rfl, N35q, K35, Fq35_0, Fq35_1, Fq35_2, Fq35_3⟩ := hQ35
      have N35 := Fr.app N0 N35q
      have k35 : Go p.tables e below (T33.setTop (mkF m 87 #[.val (.int p0), .val (.int p1), .val (.int p2), .val (.int p3), .val (.int (1 : Int32)), .val (.int (0 : Int32)), .val (.ref b10), .unset, .unset, .unset, .unset] [(.ref b10), (.ref b33), (.ref b33)])) (T35.setTop (mkF m 90 #[.val (.int p0), .val (.int p1), .val (.int p2), .val (.int p3), .val (.int (1 : Int32)), .val (.int (0 : Int32)), .val (.ref b10), .unset, .unset, .unset, .unset] [(.ref b33)])) := fun _ ht => st35.trans ht
      have Kp35 : Keep h0 T35.heap [] := Kp33.trans K35 (allS (Or.inr sz_b33) all0)
      have Z35 : n0 ≤ T35.heap.size := Nat.le_trans Z33 K35.1
      have S_CS_c_35 := own_sta_keep S_CS_c_33 A33 K35
      have S_D_c_35 := own_sta_keep S_D_c_33 A33 K35
      have E_D_c_35 := E_D_c_33.keep K35
      have F_D_c_35 := F_D_c_33.keep K35 (ninS ne_wD_b33 nin0)
      have V_b10_c_35 := V_b10_c_33.keep K35 (ninS ne_b10_b33 nin0)
      have A33_c_35 := A33.keep K35
      have k36 : Go p.tables e below (T35.setTop (mkF m 90 #[.val (.int p0), .val (.int p1), .val (.int p2), .val (.int p3), .val (.int (1 : Int32)), .val (.int (0 : Int32)), .val (.ref b10), .unset, .unset, .unset, .unset] [(.ref b33)])) (T35.setTop (mkF m 105 #[.val (.int p0), .val (.int p1), .val (.int p2), .val (.int p3), .val (.int (1 : Int32)), .val (.int (0 : Int32)), .val (.ref b10), .val (.ref b33), .unset, .unset, .unset] [(.int ((((p2.toUInt32 >>> ((8 : Int32) &&& 31).toUInt32).toInt32) &&& (255 : Int32)).toUInt32.toUInt16.toUInt32.toInt32))])) := by
        intro t ht
        refine XS.goto X35.here hx rfl (pc0 := 90) (pc' := 94) rfl (hb hby at_90) (by decide) (by decide) ?_
        show Steps p.tables e below (T35.setTop (mkF m 94 #[.val (.int p0), .val (.int p1), .val (.int p2), .val (.int p3), .val (.int (1 : Int32)), .val (.int (0 : Int32)), .val (.ref b10), .unset, .unset, .unset, .unset] [(.ref b33)])) _
        refine XS.astore X35.here hx rfl (hb hby at_94) rfl rfl (l' := #[.val (.int p0), .val (.int p1), .val (.int p2), .val (.int p3), .val (.int (1 : Int32)), .val (.int (0 : Int32)), .val (.ref b10), .val (.ref b33), .unset, .unset, .unset]) rfl ?_
        show Steps p.tables e below (T35.setTop (mkF m 96 #[.val (.int p0), .val (.int p1), .val (.int p2), .val (.int p3), .val (.int (1 : Int32)), .val (.int (0 : Int32)), .val (.ref b10), .val (.ref b33), .unset, .unset, .unset] [])) _
        refine XS.iloadN X35.here hx rfl (hb hby at_96) rfl ?_
        show Steps p.tables e below (T35.setTop (mkF m 97 #[.val (.int p0), .val (.int p1), .val (.int p2), .val (.int p3), .val (.int (1 : Int32)), .val (.int (0 : Int32)), .val (.ref b10), .val (.ref b33), .unset, .unset, .unset] [(.int p2)])) _
        refine XS.bipush X35.here hx rfl (hb hby at_97) ?_
        show Steps p.tables e below (T35.setTop (mkF m 99 #[.val (.int p0), .val (.int p1), .val (.int p2), .val (.int p3), .val (.int (1 : Int32)), .val (.int (0 : Int32)), .val (.ref b10), .val (.ref b33), .unset, .unset, .unset] [(.int (8 : Int32)), (.int p2)])) _
        refine XS.iushr X35.here hx rfl (hb hby at_99) rfl ?_
        show Steps p.tables e below (T35.setTop (mkF m 100 #[.val (.int p0), .val (.int p1), .val (.int p2), .val (.int p3), .val (.int (1 : Int32)), .val (.int (0 : Int32)), .val (.ref b10), .val (.ref b33), .unset, .unset, .unset] [(.int ((p2.toUInt32 >>> ((8 : Int32) &&& 31).toUInt32).toInt32))])) _
        refine XS.sipush X35.here hx rfl (hb hby at_100) ?_
        show Steps p.tables e below (T35.setTop (mkF m 103 #[.val (.int p0), .val (.int p1), .val (.int p2), .val (.int p3), .val (.int (1 : Int32)), .val (.int (0 : Int32)), .val (.ref b10), .val (.ref b33), .unset, .unset, .unset] [(.int (255 : Int32)), (.int ((p2.toUInt32 >>> ((8 : Int32) &&& 31).toUInt32).toInt32))])) _
        refine XS.iand X35.here hx rfl (hb hby at_103) rfl ?_
        show Steps p.tables e below (T35.setTop (mkF m 104 #[.val (.int p0), .val (.int p1), .val (.int p2), .val (.int p3), .val (.int (1 : Int32)), .val (.int (0 : Int32)), .val (.ref b10), .val (.ref b33), .unset, .unset, .unset] [(.int (((p2.toUInt32 >>> ((8 : Int32) &&& 31).toUInt32).toInt32) &&& (255 : Int32)))])) _
        refine XS.i2c X35.here hx rfl (hb hby at_104) rfl ?_
        exact ht
      obtain ⟨_, _, ⟨T37, L37, kq37, n37⟩, -, X37, ⟨Lc37, hQ37, l37, y37, z37⟩, st37⟩ := Jvm.LawKit.callS X35 hx (y := (⟨"java/lang/String", "valueOf", "(C)Ljava/lang/String;"⟩ : MethodName)) hown (mvT hZ (hw _ (List.mem_of_getElem? (i := 1) rfl))) (mvT hZ (hw _ (List.mem_of_getElem? (i := 2) rfl))) (mvT hZ (hw _ (List.mem_of_getElem? (i := 3) rfl))) (mvT hZ (hw _ (List.mem_of_getElem? (i := 4) rfl))) (by decide) (backOf (W := 0) (rm_valueOf l Z a0 hw [] ((((p2.toUInt32 >>> ((8 : Int32) &&& 31).toUInt32).toInt32) &&& (255 : Int32)).toUInt32.toUInt16.toUInt32.toInt32) G1 T35.heap n0 Z35 S_CS_c_35 (P5 : ¬ (G1 = (0 : Int32))) (own_c255 _ : ¬ ((255 : Int32) < ((((p2.toUInt32 >>> ((8 : Int32) &&& 31).toUInt32).toInt32) &&& (255 : Int32)).toUInt32.toUInt16.toUInt32.toInt32)))) hZ (hw _ (List.mem_of_getElem? (i := 4) rfl)) (hw _ (List.mem_of_getElem? (i := 3) rfl)) (by decide) (by decide)) (g := (mkF m 105 #[.val (.int p0), .val (.int p1), .val (.int p2), .val (.int p3), .val (.int (1 : Int32)), .val (.int (0 : Int32)), .val (.ref b10), .val (.ref b33), .unset, .unset, .unset] [(.int ((((p2.toUInt32 >>> ((8 : Int32) &&& 31).toUInt32).toInt32) &&& (255 : Int32)).toUInt32.toUInt16.toUInt32.toInt32))])) rfl (by rw [hml]; rfl) (argsL := [(.int ((((p2.toUInt32 >>> ((8 : Int32) &&& 31).toUInt32).toInt32) &&& (255 : Int32)).toUInt32.toUInt16.toUInt32.toInt32))]) (rest := []) (lenOf pd_5 rfl) rfl (by show 2 * 0 + _ ≤ _; exact Nat.le_of_eq rfl) (hb hby at_105) (fun _ _ => ⟨rfl, rfl, (by decide : 4 + 2 ≤ _), (by decide : 8 + 5 ≤ _)⟩)
      dsimp only [Pt.U, Pt.locs, Pt.cells, Pt.slots] at X37 l37 y37 z37 st37 hQ37
      subst l37 y37 z37
      obtain ⟨xs_37, xb_37, xk_37, rfl, N37q, K37, Pq37_0, Pq37_1, Fq37_0, Fq37_1, Fq37_2, Fq37_3⟩ := hQ37
      have N37 := Fr.app N35 N37q
      have k37 : Go p.tables e below (T35.setTop (mkF m 105 #[.val (.int p0), .val (.int p1), .val (.int p2), .val (.int p3), .val (.int (1 : Int32)), .val (.int (0 : Int32)), .val (.ref b10), .val (.ref b33), .unset, .unset, .unset] [(.int ((((p2.toUInt32 >>> ((8 : Int32) &&& 31).toUInt32).toInt32) &&& (255 : Int32)).toUInt32.toUInt16.toUInt32.toInt32))])) (T37.setTop (mkF m 108 #[.val (.int p0), .val (.int p1), .val (.int p2), .val (.int p3), .val (.int (1 : Int32)), .val (.int (0 : Int32)), .val (.ref b10), .val (.ref b33), .unset, .unset, .unset] [(.ref xs_37)])) := st37
      have Kp37 : Keep h0 T37.heap [] := Kp35.trans K37 all0
      have Z37 : n0 ≤ T37.heap.size := Nat.le_trans Z35 K37.1
      have ne_wD_xs_37 : wD ≠ xs_37 := Nat.ne_of_lt (Nat.lt_of_lt_of_le E_D_c_35.lt Pq37_0)
      have ne_b10_xs_37 : b10 ≠ xs_37 := Nat.ne_of_lt (Nat.lt_of_lt_of_le V_b10_c_35.lt Pq37_0)
      have ne_b33_xs_37 : b33 ≠ xs_37 := Nat.ne_of_lt (Nat.lt_of_lt_of_le Fq35_0.lt Pq37_0)
      have ne_xb_35_xs_37 : xb_35 ≠ xs_37 := Nat.ne_of_lt (Nat.lt_of_lt_of_le Fq35_3.lt Pq37_0)
      have g_xs_37 : n0 ≤ xs_37 := Nat.le_trans Z35 Pq37_0
      have sz_xs_37 : h0.size ≤ xs_37 := Nat.le_trans Kp35.1 Pq37_0
      have ne_wD_xb_37 : wD ≠ xb_37 := Nat.ne_of_lt (Nat.lt_of_lt_of_le E_D_c_35.lt Pq37_1)
      have ne_b10_xb_37 : b10 ≠ xb_37 := Nat.ne_of_lt (Nat.lt_of_lt_of_le V_b10_c_35.lt Pq37_1)
      have ne_b33_xb_37 : b33 ≠ xb_37 := Nat.ne_of_lt (Nat.lt_of_lt_of_le Fq35_0.lt Pq37_1)
      have ne_xb_35_xb_37 : xb_35 ≠ xb_37 := Nat.ne_of_lt (Nat.lt_of_lt_of_le Fq35_3.lt Pq37_1)
      have g_xb_37 : n0 ≤ xb_37 := Nat.le_trans Z35 Pq37_1
      have sz_xb_37 : h0.size ≤ xb_37 := Nat.le_trans Kp35.1 Pq37_1
      have S_CS_c_37 := own_sta_keep0 S_CS_c_35 K37
      have S_D_c_37 := own_sta_keep0 S_D_c_35 K37
      have E_D_c_37 := E_D_c_35.keep K37
      have F_D_c_37 := F_D_c_35.keep K37 nin0
      have V_b10_c_37 := V_b10_c_35.keep K37 nin0
      have Fq35_0_c_37 := Fq35_0.keep K37
      have Fq35_1_c_37 := Fq35_1.keep K37 nin0
      have Fq35_2_c_37 := Fq35_2.keep K37 nin0
      have Fq35_3_c_37 := Fq35_3.keep K37 nin0
      have k38 : Go p.tables e below (T37.setTop (mkF m 108 #[.val (.int p0), .val (.int p1), .val (.int p2), .val (.int p3), .val (.int (1 : Int32)), .val (.int (0 : Int32)), .val (.ref b10), .val (.ref b33), .unset, .unset, .unset] [(.ref xs_37)])) (T37.setTop (mkF m 113 #[.val (.int p0), .val (.int p1), .val (.int p2), .val (.int p3), .val (.int (1 : Int32)), .val (.int (0 : Int32)), .val (.ref b10), .val (.ref b33), .val (.ref xs_37), .unset, .unset] [(.int (p3 &&& (1 : Int32)))])) := by
        intro t ht
        refine XS.astore X37.here hx rfl (hb hby at_108) rfl rfl (l' := #[.val (.int p0), .val (.int p1), .val (.int p2), .val (.int p3), .val (.int (1 : Int32)), .val (.int (0 : Int32)), .val (.ref b10), .val (.ref b33), .val (.ref xs_37), .unset, .unset]) rfl ?_
        show Steps p.tables e below (T37.setTop (mkF m 110 #[.val (.int p0), .val (.int p1), .val (.int p2), .val (.int p3), .val (.int (1 : Int32)), .val (.int (0 : Int32)), .val (.ref b10), .val (.ref b33), .val (.ref xs_37), .unset, .unset] [])) _
        refine XS.iloadN X37.here hx rfl (hb hby at_110) rfl ?_
        show Steps p.tables e below (T37.setTop (mkF m 111 #[.val (.int p0), .val (.int p1), .val (.int p2), .val (.int p3), .val (.int (1 : Int32)), .val (.int (0 : Int32)), .val (.ref b10), .val (.ref b33), .val (.ref xs_37), .unset, .unset] [(.int p3)])) _
        refine XS.iconst X37.here hx rfl (hb hby at_111) ?_
        show Steps p.tables e below (T37.setTop (mkF m 112 #[.val (.int p0), .val (.int p1), .val (.int p2), .val (.int p3), .val (.int (1 : Int32)), .val (.int (0 : Int32)), .val (.ref b10), .val (.ref b33), .val (.ref xs_37), .unset, .unset] [(.int (1 : Int32)), (.int p3)])) _
        refine XS.iand X37.here hx rfl (hb hby at_112) rfl ?_
        exact ht
      have k39 : Go p.tables e below (T37.setTop (mkF m 113 #[.val (.int p0), .val (.int p1), .val (.int p2), .val (.int p3), .val (.int (1 : Int32)), .val (.int (0 : Int32)), .val (.ref b10), .val (.ref b33), .val (.ref xs_37), .unset, .unset] [(.int (p3 &&& (1 : Int32)))])) (T37.setTop (mkF m 121 #[.val (.int p0), .val (.int p1), .val (.int p2), .val (.int p3), .val (.int (1 : Int32)), .val (.int (0 : Int32)), .val (.ref b10), .val (.ref b33), .val (.ref xs_37), .unset, .unset] [(.int (if (p3 &&& (1 : Int32)) = (0 : Int32) then (0 : Int32) else (1 : Int32)))])) := by
        by_cases hc40 : (p3 &&& (1 : Int32)) = (0 : Int32)
        · have k41 : Go p.tables e below (T37.setTop (mkF m 113 #[.val (.int p0), .val (.int p1), .val (.int p2), .val (.int p3), .val (.int (1 : Int32)), .val (.int (0 : Int32)), .val (.ref b10), .val (.ref b33), .val (.ref xs_37), .unset, .unset] [(.int (p3 &&& (1 : Int32)))])) (T37.setTop (mkF m 121 #[.val (.int p0), .val (.int p1), .val (.int p2), .val (.int p3), .val (.int (1 : Int32)), .val (.int (0 : Int32)), .val (.ref b10), .val (.ref b33), .val (.ref xs_37), .unset, .unset] [(.int (0 : Int32))])) := by
            intro t ht
            refine XS.ifYes X37.here hx rfl (pc0 := 113) (pc' := 120) rfl (hb hby at_113) rfl ((if0 _ _).trans (teq hc40).1) (by decide) (by decide) ?_
            show Steps p.tables e below (T37.setTop (mkF m 120 #[.val (.int p0), .val (.int p1), .val (.int p2), .val (.int p3), .val (.int (1 : Int32)), .val (.int (0 : Int32)), .val (.ref b10), .val (.ref b33), .val (.ref xs_37), .unset, .unset] [])) _
            refine XS.iconst X37.here hx rfl (hb hby at_120) ?_
            exact ht
          have kk := k41
          simpa only [if_neg P5, if_neg hc12, if_pos hc40] using kk
        · have k42 : Go p.tables e below (T37.setTop (mkF m 113 #[.val (.int p0), .val (.int p1), .val (.int p2), .val (.int p3), .val (.int (1 : Int32)), .val (.int (0 : Int32)), .val (.ref b10), .val (.ref b33), .val (.ref xs_37), .unset, .unset] [(.int (p3 &&& (1 : Int32)))])) (T37.setTop (mkF m 121 #[.val (.int p0), .val (.int p1), .val (.int p2), .val (.int p3), .val (.int (1 : Int32)), .val (.int (0 : Int32)), .val (.ref b10), .val (.ref b33), .val (.ref xs_37), .unset, .unset] [(.int (1 : Int32))])) := by
            intro t ht
            refine XS.ifNo X37.here hx rfl (hb hby at_113) rfl ((if0 _ _).trans (feq hc40).1) ?_
            show Steps p.tables e below (T37.setTop (mkF m 116 #[.val (.int p0), .val (.int p1), .val (.int p2), .val (.int p3), .val (.int (1 : Int32)), .val (.int (0 : Int32)), .val (.ref b10), .val (.ref b33), .val (.ref xs_37), .unset, .unset] [])) _
            refine XS.iconst X37.here hx rfl (hb hby at_116) ?_
            show Steps p.tables e below (T37.setTop (mkF m 117 #[.val (.int p0), .val (.int p1), .val (.int p2), .val (.int p3), .val (.int (1 : Int32)), .val (.int (0 : Int32)), .val (.ref b10), .val (.ref b33), .val (.ref xs_37), .unset, .unset] [(.int (1 : Int32))])) _
            refine XS.goto X37.here hx rfl (pc0 := 117) (pc' := 121) rfl (hb hby at_117) (by decide) (by decide) ?_
            exact ht
          have kk := k42
          simpa only [if_neg P5, if_neg hc12, if_neg hc40] using kk
      have k43 : Go p.tables e below (T37.setTop (mkF m 121 #[.val (.int p0), .val (.int p1), .val (.int p2), .val (.int p3), .val (.int (1 : Int32)), .val (.int (0 : Int32)), .val (.ref b10), .val (.ref b33), .val (.ref xs_37), .unset, .unset] [(.int (if (p3 &&& (1 : Int32)) = (0 : Int32) then (0 : Int32) else (1 : Int32)))])) (T37.setTop (mkF m 123 #[.val (.int p0), .val (.int p1), .val (.int p2), .val (.int p3), .val (.int (1 : Int32)), .val (.int (0 : Int32)), .val (.ref b10), .val (.ref b33), .val (.ref xs_37), .val (.int (if (p3 &&& (1 : Int32)) = (0 : Int32) then (0 : Int32) else (1 : Int32))), .unset] [])) := by
        intro t ht
        refine XS.istore X37.here hx rfl (hb hby at_121) rfl (l' := #[.val (.int p0), .val (.int p1), .val (.int p2), .val (.int p3), .val (.int (1 : Int32)), .val (.int (0 : Int32)), .val (.ref b10), .val (.ref b33), .val (.ref xs_37), .val (.int (if (p3 &&& (1 : Int32)) = (0 : Int32) then (0 : Int32) else (1 : Int32))), .unset]) rfl ?_
        exact ht
      obtain ⟨T44, h44, X44, e44, E44, A44, D44, -, st44⟩ := newO X37 hx hZ hown (hw _ (List.mem_of_getElem? (i := 27) rfl)) (hw _ (List.mem_of_getElem? (i := 28) rfl)) (hw _ (List.mem_of_getElem? (i := 29) rfl)) rfl (g := (mkF m 123 #[.val (.int p0), .val (.int p1), .val (.int p2), .val (.int p3), .val (.int (1 : Int32)), .val (.int (0 : Int32)), .val (.ref b10), .val (.ref b33), .val (.ref xs_37), .val (.int (if (p3 &&& (1 : Int32)) = (0 : Int32) then (0 : Int32) else (1 : Int32))), .unset] [])) rfl (hb hby at_123) (by decide) (by decide)
      obtain ⟨b44, g44⟩ : ∃ z, z = T37.heap.size := ⟨_, rfl⟩
      rw [← g44] at A44 D44 st44
      have g_b44 : n0 ≤ b44 := Nat.le_trans Z37 (Nat.le_of_eq g44.symm)
      have sz_b44 : h0.size ≤ b44 := Nat.le_trans Kp37.1 (Nat.le_of_eq g44.symm)
      have ne_wD_b44 : wD ≠ b44 := Nat.ne_of_lt (Nat.lt_of_lt_of_le E_D_c_37.lt (Nat.le_of_eq g44.symm))
      have ne_b10_b44 : b10 ≠ b44 := Nat.ne_of_lt (Nat.lt_of_lt_of_le V_b10_c_37.lt (Nat.le_of_eq g44.symm))
      have ne_b33_b44 : b33 ≠ b44 := Nat.ne_of_lt (Nat.lt_of_lt_of_le Fq35_0_c_37.lt (Nat.le_of_eq g44.symm))
      have ne_xb_35_b44 : xb_35 ≠ b44 := Nat.ne_of_lt (Nat.lt_of_lt_of_le Fq35_3_c_37.lt (Nat.le_of_eq g44.symm))
      have ne_xs_37_b44 : xs_37 ≠ b44 := Nat.ne_of_lt (Nat.lt_of_lt_of_le Fq37_0.lt (Nat.le_of_eq g44.symm))
      have ne_xb_37_b44 : xb_37 ≠ b44 := Nat.ne_of_lt (Nat.lt_of_lt_of_le Fq37_3.lt (Nat.le_of_eq g44.symm))
      have Kp44 : Keep h0 h44 [] := Kp37.ext E44
      have Z44 : n0 ≤ h44.size := Nat.le_trans Z37 E44.1
      have S_CS_c_44 := S_CS_c_37.ext E44
      have S_D_c_44 := S_D_c_37.ext E44
      have E_D_c_44 := E_D_c_37.ext E44
      have F_D_c_44 := F_D_c_37.ext E44
      have V_b10_c_44 := V_b10_c_37.ext E44
      have Fq35_0_c_44 := Fq35_0_c_37.ext E44
      have Fq35_1_c_44 := Fq35_1_c_37.ext E44
      have Fq35_2_c_44 := Fq35_2_c_37.ext E44
      have Fq35_3_c_44 := Fq35_3_c_37.ext E44
      have Fq37_0_c_44 := Fq37_0.ext E44
      have Fq37_1_c_44 := Fq37_1.ext E44
      have Fq37_2_c_44 := Fq37_2.ext E44
      have Fq37_3_c_44 := Fq37_3.ext E44
      have F_nameColumn_b44 : Fld Z h44 b44 "com/example/plain_keys/plainkeys/dialect/KeyTableLayout" "nameColumn" "Ljava/lang/String;" .null := D44 (Or.inr (hw _ (List.mem_of_getElem? (i := 40) rfl))) (ty := (.object "java/lang/String")) (by decide)
      have F_valueColumn_b44 : Fld Z h44 b44 "com/example/plain_keys/plainkeys/dialect/KeyTableLayout" "valueColumn" "Ljava/lang/String;" .null := D44 (Or.inr (hw _ (List.mem_of_getElem? (i := 42) rfl))) (ty := (.object "java/lang/String")) (by decide)
      have F_valueIsLastKey_b44 : Fld Z h44 b44 "com/example/plain_keys/plainkeys/dialect/KeyTableLayout" "valueIsLastKey" "Z" (.int (0 : Int32)) := D44 (Or.inr (hw _ (List.mem_of_getElem? (i := 44) rfl))) (ty := .boolean) (by decide)
      have k44 : Go p.tables e below (T37.setTop (mkF m 123 #[.val (.int p0), .val (.int p1), .val (.int p2), .val (.int p3), .val (.int (1 : Int32)), .val (.int (0 : Int32)), .val (.ref b10), .val (.ref b33), .val (.ref xs_37), .val (.int (if (p3 &&& (1 : Int32)) = (0 : Int32) then (0 : Int32) else (1 : Int32))), .unset] [])) (T44.setTop (mkF m 126 #[.val (.int p0), .val (.int p1), .val (.int p2), .val (.int p3), .val (.int (1 : Int32)), .val (.int (0 : Int32)), .val (.ref b10), .val (.ref b33), .val (.ref xs_37), .val (.int (if (p3 &&& (1 : Int32)) = (0 : Int32) then (0 : Int32) else (1 : Int32))), .unset] [(.ref b44)])) := st44
      have k45 : Go p.tables e below (T44.setTop (mkF m 126 #[.val (.int p0), .val (.int p1), .val (.int p2), .val (.int p3), .val (.int (1 : Int32)), .val (.int (0 : Int32)), .val (.ref b10), .val (.ref b33), .val (.ref xs_37), .val (.int (if (p3 &&& (1 : Int32)) = (0 : Int32) then (0 : Int32) else (1 : Int32))), .unset] [(.ref b44)])) (T44.setTop (mkF m 133 #[.val (.int p0), .val (.int p1), .val (.int p2), .val (.int p3), .val (.int (1 : Int32)), .val (.int (0 : Int32)), .val (.ref b10), .val (.ref b33), .val (.ref xs_37), .val (.int (if (p3 &&& (1 : Int32)) = (0 : Int32) then (0 : Int32) else (1 : Int32))), .unset] [(.int (if (p3 &&& (1 : Int32)) = (0 : Int32) then (0 : Int32) else (1 : Int32))), (.ref xs_37), (.ref b33), (.ref b44), (.ref b44)])) := by
        intro t ht
        refine XS.dup X44.here hx rfl (hb hby at_126) rfl rfl ?_
        show Steps p.tables e below (T44.setTop (mkF m 127 #[.val (.int p0), .val (.int p1), .val (.int p2), .val (.int p3), .val (.int (1 : Int32)), .val (.int (0 : Int32)), .val (.ref b10), .val (.ref b33), .val (.ref xs_37), .val (.int (if (p3 &&& (1 : Int32)) = (0 : Int32) then (0 : Int32) else (1 : Int32))), .unset] [(.ref b44), (.ref b44)])) _
        refine XS.aload X44.here hx rfl (hb hby at_127) rfl rfl ?_
        show Steps p.tables e below (T44.setTop (mkF m 129 #[.val (.int p0), .val (.int p1), .val (.int p2), .val (.int p3), .val (.int (1 : Int32)), .val (.int (0 : Int32)), .val (.ref b10), .val (.ref b33), .val (.ref xs_37), .val (.int (if (p3 &&& (1 : Int32)) = (0 : Int32) then (0 : Int32) else (1 : Int32))), .unset] [(.ref b33), (.ref b44), (.ref b44)])) _
        refine XS.aload X44.here hx rfl (hb hby at_129) rfl rfl ?_
        show Steps p.tables e below (T44.setTop (mkF m 131 #[.val (.int p0), .val (.int p1), .val (.int p2), .val (.int p3), .val (.int (1 : Int32)), .val (.int (0 : Int32)), .val (.ref b10), .val (.ref b33), .val (.ref xs_37), .val (.int (if (p3 &&& (1 : Int32)) = (0 : Int32) then (0 : Int32) else (1 : Int32))), .unset] [(.ref xs_37), (.ref b33), (.ref b44), (.ref b44)])) _
        refine XS.iload X44.here hx rfl (hb hby at_131) rfl ?_
        exact ht
      obtain ⟨_, _, ⟨T46, L46, kq46, n46⟩, -, X46, ⟨Lc46, hQ46, l46, y46, z46⟩, st46⟩ := X44.specialBack hx (y := (⟨"com/example/plain_keys/plainkeys/dialect/KeyTableLayout", "<init>", "(Ljava/lang/String;Ljava/lang/String;Z)V"⟩ : MethodName)) rfl hown (mvT hZ (hw _ (List.mem_of_getElem? (i := 30) rfl))) (mvT hZ (hw _ (List.mem_of_getElem? (i := 31) rfl))) (mvT hZ (hw _ (List.mem_of_getElem? (i := 32) rfl))) (by decide) (backOf (W := 1) (rm_init l Z a0 hw [] b44 b33 xs_37 (if (p3 &&& (1 : Int32)) = (0 : Int32) then (0 : Int32) else (1 : Int32)) h44 n0 Z44 F_nameColumn_b44 F_valueColumn_b44 F_valueIsLastKey_b44 A44 g_b44) hZ (hw _ (List.mem_of_getElem? (i := 32) rfl)) (hw _ (List.mem_of_getElem? (i := 29) rfl)) (by decide) (by decide)) (g := (mkF m 133 #[.val (.int p0), .val (.int p1), .val (.int p2), .val (.int p3), .val (.int (1 : Int32)), .val (.int (0 : Int32)), .val (.ref b10), .val (.ref b33), .val (.ref xs_37), .val (.int (if (p3 &&& (1 : Int32)) = (0 : Int32) then (0 : Int32) else (1 : Int32))), .unset] [(.int (if (p3 &&& (1 : Int32)) = (0 : Int32) then (0 : Int32) else (1 : Int32))), (.ref xs_37), (.ref b33), (.ref b44), (.ref b44)])) rfl (by rw [hml]; rfl) (Steps.refl _) (a := b44) (argsL := [(.ref b33), (.ref xs_37), (.int (if (p3 &&& (1 : Int32)) = (0 : Int32) then (0 : Int32) else (1 : Int32)))]) (rest := [(.ref b44)]) (lenOf pd_6 rfl) rfl (by show 2 * 0 + _ ≤ _; exact Nat.le_of_eq rfl) (hb hby at_133) (fun _ _ => ⟨rfl, e44, (by decide : 7 + 0 ≤ _), (by decide : 16 + 0 ≤ _)⟩)
      dsimp only [Pt.U, Pt.locs, Pt.cells, Pt.slots] at X46 l46 y46 z46 st46 hQ46
      subst l46 y46 z46
      obtain ⟨rfl, N46q, K46, Fq46_0, Fq46_1, Fq46_2, Fq46_3⟩ := hQ46
      have N46 := Fr.app N37 N46q
      have k46 : Go p.tables e below (T44.setTop (mkF m 133 #[.val (.int p0), .val (.int p1), .val (.int p2), .val (.int p3), .val (.int (1 : Int32)), .val (.int (0 : Int32)), .val (.ref b10), .val (.ref b33), .val (.ref xs_37), .val (.int (if (p3 &&& (1 : Int32)) = (0 : Int32) then (0 : Int32) else (1 : Int32))), .unset] [(.int (if (p3 &&& (1 : Int32)) = (0 : Int32) then (0 : Int32) else (1 : Int32))), (.ref xs_37), (.ref b33), (.ref b44), (.ref b44)])) (T46.setTop (mkF m 136 #[.val (.int p0), .val (.int p1), .val (.int p2), .val (.int p3), .val (.int (1 : Int32)), .val (.int (0 : Int32)), .val (.ref b10), .val (.ref b33), .val (.ref xs_37), .val (.int (if (p3 &&& (1 : Int32)) = (0 : Int32) then (0 : Int32) else (1 : Int32))), .unset] [(.ref b44)])) := fun _ ht => st46.trans ht
      have Kp46 : Keep h0 T46.heap [] := Kp44.trans K46 (allS (Or.inr sz_b44) all0)
      have Z46 : n0 ≤ T46.heap.size := Nat.le_trans Z44 K46.1
      have S_CS_c_46 := own_sta_keep S_CS_c_44 A44 K46
      have S_D_c_46 := own_sta_keep S_D_c_44 A44 K46
      have E_D_c_46 := E_D_c_44.keep K46
      have F_D_c_46 := F_D_c_44.keep K46 (ninS ne_wD_b44 nin0)
      have V_b10_c_46 := V_b10_c_44.keep K46 (ninS ne_b10_b44 nin0)
      have Fq35_0_c_46 := Fq35_0_c_44.keep K46
      have Fq35_1_c_46 := Fq35_1_c_44.keep K46 (ninS ne_b33_b44 nin0)
      have Fq35_2_c_46 := Fq35_2_c_44.keep K46 (ninS ne_b33_b44 nin0)
      have Fq35_3_c_46 := Fq35_3_c_44.keep K46 (ninS ne_xb_35_b44 nin0)
      have Fq37_0_c_46 := Fq37_0_c_44.keep K46
      have Fq37_1_c_46 := Fq37_1_c_44.keep K46 (ninS ne_xs_37_b44 nin0)
      have Fq37_2_c_46 := Fq37_2_c_44.keep K46 (ninS ne_xs_37_b44 nin0)
      have Fq37_3_c_46 := Fq37_3_c_44.keep K46 (ninS ne_xb_37_b44 nin0)
      have A44_c_46 := A44.keep K46
      have k47 : Go p.tables e below (T46.setTop (mkF m 136 #[.val (.int p0), .val (.int p1), .val (.int p2), .val (.int p3), .val (.int (1 : Int32)), .val (.int (0 : Int32)), .val (.ref b10), .val (.ref b33), .val (.ref xs_37), .val (.int (if (p3 &&& (1 : Int32)) = (0 : Int32) then (0 : Int32) else (1 : Int32))), .unset] [(.ref b44)])) (T46.setTop (mkF m 140 #[.val (.int p0), .val (.int p1), .val (.int p2), .val (.int p3), .val (.int (1 : Int32)), .val (.int (0 : Int32)), .val (.ref b10), .val (.ref b33), .val (.ref xs_37), .val (.int (if (p3 &&& (1 : Int32)) = (0 : Int32) then (0 : Int32) else (1 : Int32))), .val (.ref b44)] [(.ref b44)])) := by
        intro t ht
        refine XS.astore X46.here hx rfl (hb hby at_136) rfl rfl (l' := #[.val (.int p0), .val (.int p1), .val (.int p2), .val (.int p3), .val (.int (1 : Int32)), .val (.int (0 : Int32)), .val (.ref b10), .val (.ref b33), .val (.ref xs_37), .val (.int (if (p3 &&& (1 : Int32)) = (0 : Int32) then (0 : Int32) else (1 : Int32))), .val (.ref b44)]) rfl ?_
        show Steps p.tables e below (T46.setTop (mkF m 138 #[.val (.int p0), .val (.int p1), .val (.int p2), .val (.int p3), .val (.int (1 : Int32)), .val (.int (0 : Int32)), .val (.ref b10), .val (.ref b33), .val (.ref xs_37), .val (.int (if (p3 &&& (1 : Int32)) = (0 : Int32) then (0 : Int32) else (1 : Int32))), .val (.ref b44)] [])) _
        refine XS.aload X46.here hx rfl (hb hby at_138) rfl rfl ?_
        exact ht
      obtain ⟨cq48, kq48, q48a, q48b, q48c⟩ := isOf hZ rfl Fq46_0
      obtain ⟨_, _, ⟨T48, L48, kq48, n48⟩, -, X48, ⟨Lc48, hQ48, l48, y48, z48⟩, st48⟩ := X46.virtualBack hx (y := (⟨"com/example/plain_keys/plainkeys/dialect/KeyTableLayout", "namesRows", "()Z"⟩ : MethodName)) (z := (⟨"com/example/plain_keys/plainkeys/dialect/KeyTableLayout", "namesRows", "()Z"⟩ : MethodName)) hown (mvT hZ (hw _ (List.mem_of_getElem? (i := 45) rfl))) (mvT hZ (hw _ (List.mem_of_getElem? (i := 46) rfl))) (notFace_of_selects (args := #[]) (mvT hZ (hw _ (List.mem_of_getElem? (i := 48) rfl)))) (mvT hZ (hw _ (List.mem_of_getElem? (i := 48) rfl))) (mvT hZ (hw _ (List.mem_of_getElem? (i := 47) rfl))) (by decide) (backOf (W := 0) (rm_rows1 l Z a0 hw [] b44 b33 T46.heap n0 Z46 Fq46_1) hZ (hw _ (List.mem_of_getElem? (i := 49) rfl)) (hw _ (List.mem_of_getElem? (i := 29) rfl)) (by decide) (by decide)) q48a q48c (g := (mkF m 140 #[.val (.int p0), .val (.int p1), .val (.int p2), .val (.int p3), .val (.int (1 : Int32)), .val (.int (0 : Int32)), .val (.ref b10), .val (.ref b33), .val (.ref xs_37), .val (.int (if (p3 &&& (1 : Int32)) = (0 : Int32) then (0 : Int32) else (1 : Int32))), .val (.ref b44)] [(.ref b44)])) rfl (by rw [hml]; rfl) (Steps.refl _) (argsL := []) (rest := []) (lenOf pd_7 rfl) rfl (by show 2 * 0 + _ ≤ _; exact Nat.le_of_eq rfl) (hb hby at_140) (fun _ _ => ⟨rfl, rfl, (by decide : 7 + 0 ≤ _), (by decide : 16 + 0 ≤ _)⟩)
      dsimp only [Pt.U, Pt.locs, Pt.cells, Pt.slots] at X48 l48 y48 z48 st48 hQ48
      subst l48 y48 z48
      obtain ⟨rfl, N48q, eq48⟩ := hQ48
      have N48 := Fr.app N46 N48q
      have k48 : Go p.tables e below (T46.setTop (mkF m 140 #[.val (.int p0), .val (.int p1), .val (.int p2), .val (.int p3), .val (.int (1 : Int32)), .val (.int (0 : Int32)), .val (.ref b10), .val (.ref b33), .val (.ref xs_37), .val (.int (if (p3 &&& (1 : Int32)) = (0 : Int32) then (0 : Int32) else (1 : Int32))), .val (.ref b44)] [(.ref b44)])) (T48.setTop (mkF m 143 #[.val (.int p0), .val (.int p1), .val (.int p2), .val (.int p3), .val (.int (1 : Int32)), .val (.int (0 : Int32)), .val (.ref b10), .val (.ref b33), .val (.ref xs_37), .val (.int (if (p3 &&& (1 : Int32)) = (0 : Int32) then (0 : Int32) else (1 : Int32))), .val (.ref b44)] [(.int (1 : Int32))])) := fun _ ht => st48.trans ht
      have k49 : Go p.tables e below (T48.setTop (mkF m 143 #[.val (.int p0), .val (.int p1), .val (.int p2), .val (.int p3), .val (.int (1 : Int32)), .val (.int (0 : Int32)), .val (.ref b10), .val (.ref b33), .val (.ref xs_37), .val (.int (if (p3 &&& (1 : Int32)) = (0 : Int32) then (0 : Int32) else (1 : Int32))), .val (.ref b44)] [(.int (1 : Int32))])) (T48.setTop (mkF m 148 #[.val (.int p0), .val (.int p1), .val (.int p2), .val (.int p3), .val (.int (1 : Int32)), .val (.int (0 : Int32)), .val (.ref b10), .val (.ref b33), .val (.ref xs_37), .val (.int (if (p3 &&& (1 : Int32)) = (0 : Int32) then (0 : Int32) else (1 : Int32))), .val (.ref b44)] [])) := by
        intro t ht
        refine XS.iload X48.here hx rfl (hb hby at_143) rfl ?_
        show Steps p.tables e below (T48.setTop (mkF m 145 #[.val (.int p0), .val (.int p1), .val (.int p2), .val (.int p3), .val (.int (1 : Int32)), .val (.int (0 : Int32)), .val (.ref b10), .val (.ref b33), .val (.ref xs_37), .val (.int (if (p3 &&& (1 : Int32)) = (0 : Int32) then (0 : Int32) else (1 : Int32))), .val (.ref b44)] [(.int (1 : Int32)), (.int (1 : Int32))])) _
        refine XS.icmpNo X48.here hx rfl (hb hby at_145) rfl (teq (by decide : (1 : Int32) = (1 : Int32))).2 ?_
        exact ht
      obtain ⟨T50, X50, e50, st50⟩ := getS2 X48 hx hZ hown (host := "") (Or.inl (hw _ (List.mem_of_getElem? (i := 50) rfl))) Via.refl eq48 S_D_c_46 (g := (mkF m 148 #[.val (.int p0), .val (.int p1), .val (.int p2), .val (.int p3), .val (.int (1 : Int32)), .val (.int (0 : Int32)), .val (.ref b10), .val (.ref b33), .val (.ref xs_37), .val (.int (if (p3 &&& (1 : Int32)) = (0 : Int32) then (0 : Int32) else (1 : Int32))), .val (.ref b44)] [])) rfl (hb hby at_148)
      have k50 : Go p.tables e below (T48.setTop (mkF m 148 #[.val (.int p0), .val (.int p1), .val (.int p2), .val (.int p3), .val (.int (1 : Int32)), .val (.int (0 : Int32)), .val (.ref b10), .val (.ref b33), .val (.ref xs_37), .val (.int (if (p3 &&& (1 : Int32)) = (0 : Int32) then (0 : Int32) else (1 : Int32))), .val (.ref b44)] [])) (T50.setTop (mkF m 151 #[.val (.int p0), .val (.int p1), .val (.int p2), .val (.int p3), .val (.int (1 : Int32)), .val (.int (0 : Int32)), .val (.ref b10), .val (.ref b33), .val (.ref xs_37), .val (.int (if (p3 &&& (1 : Int32)) = (0 : Int32) then (0 : Int32) else (1 : Int32))), .val (.ref b44)] [(.ref wD)])) := st50
      obtain ⟨cq51, kq51, q51a, q51b, q51c⟩ := isOf hZ e50 E_D_c_46
      obtain ⟨_, _, ⟨T51, L51, kq51, n51⟩, -, X51, ⟨Lc51, hQ51, l51, y51, z51⟩, st51⟩ := X50.virtualBack hx (y := (⟨"com/example/plain_keys/plainkeys/dialect/KeyTableLayout", "namesRows", "()Z"⟩ : MethodName)) (z := (⟨"com/example/plain_keys/plainkeys/dialect/KeyTableLayout", "namesRows", "()Z"⟩ : MethodName)) hown (mvT hZ (hw _ (List.mem_of_getElem? (i := 45) rfl))) (mvT hZ (hw _ (List.mem_of_getElem? (i := 46) rfl))) (notFace_of_selects (args := #[]) (mvT hZ (hw _ (List.mem_of_getElem? (i := 48) rfl)))) (mvT hZ (hw _ (List.mem_of_getElem? (i := 48) rfl))) (mvT hZ (hw _ (List.mem_of_getElem? (i := 47) rfl))) (by decide) (backOf (W := 0) (rm_rows1 l Z a0 hw [] wD wn T46.heap n0 Z46 F_D_c_46) hZ (hw _ (List.mem_of_getElem? (i := 49) rfl)) (hw _ (List.mem_of_getElem? (i := 29) rfl)) (by decide) (by decide)) q51a q51c (g := (mkF m 151 #[.val (.int p0), .val (.int p1), .val (.int p2), .val (.int p3), .val (.int (1 : Int32)), .val (.int (0 : Int32)), .val (.ref b10), .val (.ref b33), .val (.ref xs_37), .val (.int (if (p3 &&& (1 : Int32)) = (0 : Int32) then (0 : Int32) else (1 : Int32))), .val (.ref b44)] [(.ref wD)])) rfl (by rw [hml]; rfl) (Steps.refl _) (argsL := []) (rest := []) (lenOf pd_7 rfl) rfl (by show 2 * 0 + _ ≤ _; exact Nat.le_of_eq rfl) (hb hby at_151) (fun _ _ => ⟨rfl, e50, (by decide : 7 + 0 ≤ _), (by decide : 16 + 0 ≤ _)⟩)
      dsimp only [Pt.U, Pt.locs, Pt.cells, Pt.slots] at X51 l51 y51 z51 st51 hQ51
      subst l51 y51 z51
      obtain ⟨rfl, N51q, eq51⟩ := hQ51
      have N51 := Fr.app N48 N51q
      have k51 : Go p.tables e below (T50.setTop (mkF m 151 #[.val (.int p0), .val (.int p1), .val (.int p2), .val (.int p3), .val (.int (1 : Int32)), .val (.int (0 : Int32)), .val (.ref b10), .val (.ref b33), .val (.ref xs_37), .val (.int (if (p3 &&& (1 : Int32)) = (0 : Int32) then (0 : Int32) else (1 : Int32))), .val (.ref b44)] [(.ref wD)])) (T51.setTop (mkF m 154 #[.val (.int p0), .val (.int p1), .val (.int p2), .val (.int p3), .val (.int (1 : Int32)), .val (.int (0 : Int32)), .val (.ref b10), .val (.ref b33), .val (.ref xs_37), .val (.int (if (p3 &&& (1 : Int32)) = (0 : Int32) then (0 : Int32) else (1 : Int32))), .val (.ref b44)] [(.int (1 : Int32))])) := fun _ ht => st51.trans ht
      have k52 : Go p.tables e below (T51.setTop (mkF m 154 #[.val (.int p0), .val (.int p1), .val (.int p2), .val (.int p3), .val (.int (1 : Int32)), .val (.int (0 : Int32)), .val (.ref b10), .val (.ref b33), .val (.ref xs_37), .val (.int (if (p3 &&& (1 : Int32)) = (0 : Int32) then (0 : Int32) else (1 : Int32))), .val (.ref b44)] [(.int (1 : Int32))])) (T51.setTop (mkF m 162 #[.val (.int p0), .val (.int p1), .val (.int p2), .val (.int p3), .val (.int (1 : Int32)), .val (.int (0 : Int32)), .val (.ref b10), .val (.ref b33), .val (.ref xs_37), .val (.int (if (p3 &&& (1 : Int32)) = (0 : Int32) then (0 : Int32) else (1 : Int32))), .val (.ref b44)] [(.int (1 : Int32))])) := by
        intro t ht
        refine XS.ifNo X51.here hx rfl (hb hby at_154) rfl ((if0 _ _).trans (feq (by decide : ¬ ((1 : Int32) = (0 : Int32)))).1) ?_
        show Steps p.tables e below (T51.setTop (mkF m 157 #[.val (.int p0), .val (.int p1), .val (.int p2), .val (.int p3), .val (.int (1 : Int32)), .val (.int (0 : Int32)), .val (.ref b10), .val (.ref b33), .val (.ref xs_37), .val (.int (if (p3 &&& (1 : Int32)) = (0 : Int32) then (0 : Int32) else (1 : Int32))), .val (.ref b44)] [])) _
        refine XS.iconst X51.here hx rfl (hb hby at_157) ?_
        show Steps p.tables e below (T51.setTop (mkF m 158 #[.val (.int p0), .val (.int p1), .val (.int p2), .val (.int p3), .val (.int (1 : Int32)), .val (.int (0 : Int32)), .val (.ref b10), .val (.ref b33), .val (.ref xs_37), .val (.int (if (p3 &&& (1 : Int32)) = (0 : Int32) then (0 : Int32) else (1 : Int32))), .val (.ref b44)] [(.int (1 : Int32))])) _
        refine XS.goto X51.here hx rfl (pc0 := 158) (pc' := 162) rfl (hb hby at_158) (by decide) (by decide) ?_
        exact ht
      obtain ⟨fs, hr, hrun, hended, hW⟩ := X51.leaveW (s := s) hS35 (by rw [eq51]; exact (Nat.le_trans (Nat.le_trans (Nat.le_trans (Nat.le_refl _) K37.1) E44.1) K46.1)) (v := some (.int (1 : Int32))) (fun h => by rw [Bd.returns] at h; cases h)
      refine ⟨_, _, pre0 _ ((goT k1 (goT k2 (goT k6 (goT k8 (goT k9 (goT k10 (goT k11 (goT k31 (goT k32 (goT k33 (goT k34 (goT k35 (goT k36 (goT k37 (goT k38 (goT k39 (goT k43 (goT k44 (goT k45 (goT k46 (goT k47 (goT k48 (goT k49 (goT k50 (goT k51 k52))))))))))))))))))))))))) _ (retN X51 hx (t := .boolean) Bd.returns (by simp) (hb hby at_162) hr)), hrun, hended, _, _, rfl, ?_, hW.1, hW.2.1, hW.2.2.1, hW.2.2.2.mono (by decide) (by decide)⟩
      show Q_law Z p0 p1 p2 p3 G1 wD wn h0 n0 _ T51.heap _
      rw [eq51]
      exact ⟨rfl, N51⟩
  · have k53 : Go p.tables e below (s₁.setTop (mkF m 20 #[.val (.int p0), .val (.int p1), .val (.int p2), .val (.int p3), .val (.int (if (p0 &&& (1 : Int32)) = (0 : Int32) then (0 : Int32) else (1 : Int32))), .val (.int (((p0.toUInt32 >>> ((1 : Int32) &&& 31).toUInt32).toInt32) &&& (3 : Int32))), .unset, .unset, .unset, .unset, .unset] [])) (s₁.setTop (mkF m 20 #[.val (.int p0), .val (.int p1), .val (.int p2), .val (.int p3), .val (.int (if (p0 &&& (1 : Int32)) = (0 : Int32) then (0 : Int32) else (1 : Int32))), .val (.int (1 : Int32)), .unset, .unset, .unset, .unset, .unset] [])) := by rw [hk7]; exact fun _ h => h
    have k54 : Go p.tables e below (s₁.setTop (mkF m 20 #[.val (.int p0), .val (.int p1), .val (.int p2), .val (.int p3), .val (.int (if (p0 &&& (1 : Int32)) = (0 : Int32) then (0 : Int32) else (1 : Int32))), .val (.int (1 : Int32)), .unset, .unset, .unset, .unset, .unset] [])) (s₁.setTop (mkF m 22 #[.val (.int p0), .val (.int p1), .val (.int p2), .val (.int p3), .val (.int (if (p0 &&& (1 : Int32)) = (0 : Int32) then (0 : Int32) else (1 : Int32))), .val (.int (1 : Int32)), .unset, .unset, .unset, .unset, .unset] [(.int (1 : Int32))])) := by
      intro t ht
      refine XS.iload X0.here hx rfl (hb hby at_20) rfl ?_
      exact ht
    obtain ⟨T55, h55, kc55, X55, e55, E55, A55, st55⟩ := newP X0 hx hZ (hw _ (List.mem_of_getElem? (i := 0) rfl)) e0 (g := (mkF m 22 #[.val (.int p0), .val (.int p1), .val (.int p2), .val (.int p3), .val (.int (if (p0 &&& (1 : Int32)) = (0 : Int32) then (0 : Int32) else (1 : Int32))), .val (.int (1 : Int32)), .unset, .unset, .unset, .unset, .unset] [(.int (1 : Int32))])) rfl (hb hby at_22) rfl (by decide) (cap := 1) (by decide) (by decide) (by decide) (by decide)
    obtain ⟨b55, g55⟩ : ∃ z, z = h0.size := ⟨_, rfl⟩
    rw [← g55] at A55 st55
    have g_b55 : n0 ≤ b55 := Nat.le_trans Z0 (Nat.le_of_eq g55.symm)
    have sz_b55 : h0.size ≤ b55 := Nat.le_trans (Keep.refl h0 []).1 (Nat.le_of_eq g55.symm)
    have ne_wD_b55 : wD ≠ b55 := Nat.ne_of_lt (Nat.lt_of_lt_of_le E_D.lt (Nat.le_of_eq g55.symm))
    have Kp55 : Keep h0 h55 [] := (Keep.refl h0 []).ext E55
    have Z55 : n0 ≤ h55.size := Nat.le_trans Z0 E55.1
    have S_CS_c_55 := S_CS.ext E55
    have S_D_c_55 := S_D.ext E55
    have E_D_c_55 := E_D.ext E55
    have F_D_c_55 := F_D.ext E55
    have V_b55 : Arv Z h55 b55 kc55 .char (1 : Int32) [(.int (0 : Int32))] (.int (0 : Int32)) := (Arv.new A55 (by decide)).pad (pad_rep [] (.int (0 : Int32)) 1)
    have k55 : Go p.tables e below (s₁.setTop (mkF m 22 #[.val (.int p0), .val (.int p1), .val (.int p2), .val (.int p3), .val (.int (if (p0 &&& (1 : Int32)) = (0 : Int32) then (0 : Int32) else (1 : Int32))), .val (.int (1 : Int32)), .unset, .unset, .unset, .unset, .unset] [(.int (1 : Int32))])) (T55.setTop (mkF m 24 #[.val (.int p0), .val (.int p1), .val (.int p2), .val (.int p3), .val (.int (if (p0 &&& (1 : Int32)) = (0 : Int32) then (0 : Int32) else (1 : Int32))), .val (.int (1 : Int32)), .unset, .unset, .unset, .unset, .unset] [(.ref b55)])) := st55
    have k56 : Go p.tables e below (T55.setTop (mkF m 24 #[.val (.int p0), .val (.int p1), .val (.int p2), .val (.int p3), .val (.int (if (p0 &&& (1 : Int32)) = (0 : Int32) then (0 : Int32) else (1 : Int32))), .val (.int (1 : Int32)), .unset, .unset, .unset, .unset, .unset] [(.ref b55)])) (T55.setTop (mkF m 40 #[.val (.int p0), .val (.int p1), .val (.int p2), .val (.int p3), .val (.int (if (p0 &&& (1 : Int32)) = (0 : Int32) then (0 : Int32) else (1 : Int32))), .val (.int (1 : Int32)), .val (.ref b55), .unset, .unset, .unset, .unset] [(.int ((p1 &&& (255 : Int32)).toUInt32.toUInt16.toUInt32.toInt32)), (.int (0 : Int32)), (.ref b55)])) := by
      intro t ht
      refine XS.astore X55.here hx rfl (hb hby at_24) rfl rfl (l' := #[.val (.int p0), .val (.int p1), .val (.int p2), .val (.int p3), .val (.int (if (p0 &&& (1 : Int32)) = (0 : Int32) then (0 : Int32) else (1 : Int32))), .val (.int (1 : Int32)), .val (.ref b55), .unset, .unset, .unset, .unset]) rfl ?_
      show Steps p.tables e below (T55.setTop (mkF m 26 #[.val (.int p0), .val (.int p1), .val (.int p2), .val (.int p3), .val (.int (if (p0 &&& (1 : Int32)) = (0 : Int32) then (0 : Int32) else (1 : Int32))), .val (.int (1 : Int32)), .val (.ref b55), .unset, .unset, .unset, .unset] [])) _
      refine XS.iload X55.here hx rfl (hb hby at_26) rfl ?_
      show Steps p.tables e below (T55.setTop (mkF m 28 #[.val (.int p0), .val (.int p1), .val (.int p2), .val (.int p3), .val (.int (if (p0 &&& (1 : Int32)) = (0 : Int32) then (0 : Int32) else (1 : Int32))), .val (.int (1 : Int32)), .val (.ref b55), .unset, .unset, .unset, .unset] [(.int (1 : Int32))])) _
      refine XS.ifNo X55.here hx rfl (hb hby at_28) rfl ((if0 _ _).trans (tlt (by decide : (0 : Int32) < (1 : Int32))).2.2.2) ?_
      show Steps p.tables e below (T55.setTop (mkF m 31 #[.val (.int p0), .val (.int p1), .val (.int p2), .val (.int p3), .val (.int (if (p0 &&& (1 : Int32)) = (0 : Int32) then (0 : Int32) else (1 : Int32))), .val (.int (1 : Int32)), .val (.ref b55), .unset, .unset, .unset, .unset] [])) _
      refine XS.aload X55.here hx rfl (hb hby at_31) rfl rfl ?_
      show Steps p.tables e below (T55.setTop (mkF m 33 #[.val (.int p0), .val (.int p1), .val (.int p2), .val (.int p3), .val (.int (if (p0 &&& (1 : Int32)) = (0 : Int32) then (0 : Int32) else (1 : Int32))), .val (.int (1 : Int32)), .val (.ref b55), .unset, .unset, .unset, .unset] [(.ref b55)])) _
      refine XS.iconst X55.here hx rfl (hb hby at_33) ?_
      show Steps p.tables e below (T55.setTop (mkF m 34 #[.val (.int p0), .val (.int p1), .val (.int p2), .val (.int p3), .val (.int (if (p0 &&& (1 : Int32)) = (0 : Int32) then (0 : Int32) else (1 : Int32))), .val (.int (1 : Int32)), .val (.ref b55), .unset, .unset, .unset, .unset] [(.int (0 : Int32)), (.ref b55)])) _
      refine XS.iloadN X55.here hx rfl (hb hby at_34) rfl ?_
      show Steps p.tables e below (T55.setTop (mkF m 35 #[.val (.int p0), .val (.int p1), .val (.int p2), .val (.int p3), .val (.int (if (p0 &&& (1 : Int32)) = (0 : Int32) then (0 : Int32) else (1 : Int32))), .val (.int (1 : Int32)), .val (.ref b55), .unset, .unset, .unset, .unset] [(.int p1), (.int (0 : Int32)), (.ref b55)])) _
      refine XS.sipush X55.here hx rfl (hb hby at_35) ?_
      show Steps p.tables e below (T55.setTop (mkF m 38 #[.val (.int p0), .val (.int p1), .val (.int p2), .val (.int p3), .val (.int (if (p0 &&& (1 : Int32)) = (0 : Int32) then (0 : Int32) else (1 : Int32))), .val (.int (1 : Int32)), .val (.ref b55), .unset, .unset, .unset, .unset] [(.int (255 : Int32)), (.int p1), (.int (0 : Int32)), (.ref b55)])) _
      refine XS.iand X55.here hx rfl (hb hby at_38) rfl ?_
      show Steps p.tables e below (T55.setTop (mkF m 39 #[.val (.int p0), .val (.int p1), .val (.int p2), .val (.int p3), .val (.int (if (p0 &&& (1 : Int32)) = (0 : Int32) then (0 : Int32) else (1 : Int32))), .val (.int (1 : Int32)), .val (.ref b55), .unset, .unset, .unset, .unset] [(.int (p1 &&& (255 : Int32))), (.int (0 : Int32)), (.ref b55)])) _
      refine XS.i2c X55.here hx rfl (hb hby at_39) rfl ?_
      exact ht
    obtain ⟨cl57, Ar57, q57, S57, M57, H57, G57⟩ := id V_b55
    have hin57 : ¬ ((0 : Int32) < 0 ∨ cl57.slots.size ≤ ((0 : Int32)).toNatClampNeg) := inb_of S57 ⟨by decide, by decide⟩
    obtain ⟨T57, h57, X57, e57, W57, st57⟩ := stC X55 hx hZ e55 Ar57 (j := (0 : Int32)) hin57 (g := (mkF m 40 #[.val (.int p0), .val (.int p1), .val (.int p2), .val (.int p3), .val (.int (if (p0 &&& (1 : Int32)) = (0 : Int32) then (0 : Int32) else (1 : Int32))), .val (.int (1 : Int32)), .val (.ref b55), .unset, .unset, .unset, .unset] [(.int ((p1 &&& (255 : Int32)).toUInt32.toUInt16.toUInt32.toInt32)), (.int (0 : Int32)), (.ref b55)])) rfl rfl (hb hby at_40)
    have V57_b55 : Arv Z h57 b55 kc55 .char (1 : Int32) [(.int (nar .char ((p1 &&& (255 : Int32)).toUInt32.toUInt16.toUInt32.toInt32)))] (.int (0 : Int32)) := Arv.set Ar57 q57 S57 M57 H57 G57 (fits_nar_char _) W57 0 rfl (Nat.le_of_ble_eq_true rfl)
    have Kp57 : Keep h0 h57 [] := Kp55.wr W57 (Or.inr sz_b55)
    have Z57 : n0 ≤ h57.size := Nat.le_trans Z55 (Keep.of_wr W57).1
    have S_CS_c_57 := S_CS_c_55.wr W57
    have S_D_c_57 := S_D_c_55.wr W57
    have E_D_c_57 := E_D_c_55.wr W57
    have F_D_c_57 := F_D_c_55.other W57 (Or.inl ne_wD_b55)
    have k57 : Go p.tables e below (T55.setTop (mkF m 40 #[.val (.int p0), .val (.int p1), .val (.int p2), .val (.int p3), .val (.int (if (p0 &&& (1 : Int32)) = (0 : Int32) then (0 : Int32) else (1 : Int32))), .val (.int (1 : Int32)), .val (.ref b55), .unset, .unset, .unset, .unset] [(.int ((p1 &&& (255 : Int32)).toUInt32.toUInt16.toUInt32.toInt32)), (.int (0 : Int32)), (.ref b55)])) (T57.setTop (mkF m 41 #[.val (.int p0), .val (.int p1), .val (.int p2), .val (.int p3), .val (.int (if (p0 &&& (1 : Int32)) = (0 : Int32) then (0 : Int32) else (1 : Int32))), .val (.int (1 : Int32)), .val (.ref b55), .unset, .unset, .unset, .unset] [])) := st57
    have N57 := Fr.snoc X57 N0 g_b55
    have k58 : Go p.tables e below (T57.setTop (mkF m 41 #[.val (.int p0), .val (.int p1), .val (.int p2), .val (.int p3), .val (.int (if (p0 &&& (1 : Int32)) = (0 : Int32) then (0 : Int32) else (1 : Int32))), .val (.int (1 : Int32)), .val (.ref b55), .unset, .unset, .unset, .unset] [])) (T57.setTop (mkF m 78 #[.val (.int p0), .val (.int p1), .val (.int p2), .val (.int p3), .val (.int (if (p0 &&& (1 : Int32)) = (0 : Int32) then (0 : Int32) else (1 : Int32))), .val (.int (1 : Int32)), .val (.ref b55), .unset, .unset, .unset, .unset] [(.int (if (p0 &&& (1 : Int32)) = (0 : Int32) then (0 : Int32) else (1 : Int32)))])) := by
      intro t ht
      refine XS.iload X57.here hx rfl (hb hby at_41) rfl ?_
      show Steps p.tables e below (T57.setTop (mkF m 43 #[.val (.int p0), .val (.int p1), .val (.int p2), .val (.int p3), .val (.int (if (p0 &&& (1 : Int32)) = (0 : Int32) then (0 : Int32) else (1 : Int32))), .val (.int (1 : Int32)), .val (.ref b55), .unset, .unset, .unset, .unset] [(.int (1 : Int32))])) _
      refine XS.iconst X57.here hx rfl (hb hby at_43) ?_
      show Steps p.tables e below (T57.setTop (mkF m 44 #[.val (.int p0), .val (.int p1), .val (.int p2), .val (.int p3), .val (.int (if (p0 &&& (1 : Int32)) = (0 : Int32) then (0 : Int32) else (1 : Int32))), .val (.int (1 : Int32)), .val (.ref b55), .unset, .unset, .unset, .unset] [(.int (1 : Int32)), (.int (1 : Int32))])) _
      refine XS.icmpYes X57.here hx rfl (pc0 := 44) (pc' := 57) rfl (hb hby at_44) rfl (flt (by decide : ¬ ((1 : Int32) < (1 : Int32)))).2.2.2 (by decide) (by decide) ?_
      show Steps p.tables e below (T57.setTop (mkF m 57 #[.val (.int p0), .val (.int p1), .val (.int p2), .val (.int p3), .val (.int (if (p0 &&& (1 : Int32)) = (0 : Int32) then (0 : Int32) else (1 : Int32))), .val (.int (1 : Int32)), .val (.ref b55), .unset, .unset, .unset, .unset] [])) _
      refine XS.iload X57.here hx rfl (hb hby at_57) rfl ?_
      show Steps p.tables e below (T57.setTop (mkF m 59 #[.val (.int p0), .val (.int p1), .val (.int p2), .val (.int p3), .val (.int (if (p0 &&& (1 : Int32)) = (0 : Int32) then (0 : Int32) else (1 : Int32))), .val (.int (1 : Int32)), .val (.ref b55), .unset, .unset, .unset, .unset] [(.int (1 : Int32))])) _
      refine XS.iconst X57.here hx rfl (hb hby at_59) ?_
      show Steps p.tables e below (T57.setTop (mkF m 60 #[.val (.int p0), .val (.int p1), .val (.int p2), .val (.int p3), .val (.int (if (p0 &&& (1 : Int32)) = (0 : Int32) then (0 : Int32) else (1 : Int32))), .val (.int (1 : Int32)), .val (.ref b55), .unset, .unset, .unset, .unset] [(.int (2 : Int32)), (.int (1 : Int32))])) _
      refine XS.icmpYes X57.here hx rfl (pc0 := 60) (pc' := 76) rfl (hb hby at_60) rfl (flt (by decide : ¬ ((2 : Int32) < (1 : Int32)))).2.2.2 (by decide) (by decide) ?_
      show Steps p.tables e below (T57.setTop (mkF m 76 #[.val (.int p0), .val (.int p1), .val (.int p2), .val (.int p3), .val (.int (if (p0 &&& (1 : Int32)) = (0 : Int32) then (0 : Int32) else (1 : Int32))), .val (.int (1 : Int32)), .val (.ref b55), .unset, .unset, .unset, .unset] [])) _
      refine XS.iload X57.here hx rfl (hb hby at_76) rfl ?_
      exact ht
    by_cases hc59 : (p0 &&& (1 : Int32)) = (0 : Int32)
    · have k60 : Go p.tables e below (T57.setTop (mkF m 78 #[.val (.int p0), .val (.int p1), .val (.int p2), .val (.int p3), .val (.int (if (p0 &&& (1 : Int32)) = (0 : Int32) then (0 : Int32) else (1 : Int32))), .val (.int (1 : Int32)), .val (.ref b55), .unset, .unset, .unset, .unset] [(.int (if (p0 &&& (1 : Int32)) = (0 : Int32) then (0 : Int32) else (1 : Int32)))])) (T57.setTop (mkF m 78 #[.val (.int p0), .val (.int p1), .val (.int p2), .val (.int p3), .val (.int (0 : Int32)), .val (.int (1 : Int32)), .val (.ref b55), .unset, .unset, .unset, .unset] [(.int (0 : Int32))])) := by
        simp only [if_pos hc59]; exact fun _ h => h
      have k61 : Go p.tables e below (T57.setTop (mkF m 78 #[.val (.int p0), .val (.int p1), .val (.int p2), .val (.int p3), .val (.int (0 : Int32)), .val (.int (1 : Int32)), .val (.ref b55), .unset, .unset, .unset, .unset] [(.int (0 : Int32))])) (T57.setTop (mkF m 105 #[.val (.int p0), .val (.int p1), .val (.int p2), .val (.int p3), .val (.int (0 : Int32)), .val (.int (1 : Int32)), .val (.ref b55), .val .null, .unset, .unset, .unset] [(.int ((((p2.toUInt32 >>> ((8 : Int32) &&& 31).toUInt32).toInt32) &&& (255 : Int32)).toUInt32.toUInt16.toUInt32.toInt32))])) := by
        intro t ht
        refine XS.ifYes X57.here hx rfl (pc0 := 78) (pc' := 93) rfl (hb hby at_78) rfl ((if0 _ _).trans (teq (by decide : (0 : Int32) = (0 : Int32))).1) (by decide) (by decide) ?_
        show Steps p.tables e below (T57.setTop (mkF m 93 #[.val (.int p0), .val (.int p1), .val (.int p2), .val (.int p3), .val (.int (0 : Int32)), .val (.int (1 : Int32)), .val (.ref b55), .unset, .unset, .unset, .unset] [])) _
        refine XS.aconstNull X57.here hx rfl (hb hby at_93) ?_
        show Steps p.tables e below (T57.setTop (mkF m 94 #[.val (.int p0), .val (.int p1), .val (.int p2), .val (.int p3), .val (.int (0 : Int32)), .val (.int (1 : Int32)), .val (.ref b55), .unset, .unset, .unset, .unset] [.null])) _
        refine XS.astore X57.here hx rfl (hb hby at_94) rfl rfl (l' := #[.val (.int p0), .val (.int p1), .val (.int p2), .val (.int p3), .val (.int (0 : Int32)), .val (.int (1 : Int32)), .val (.ref b55), .val .null, .unset, .unset, .unset]) rfl ?_
        show Steps p.tables e below (T57.setTop (mkF m 96 #[.val (.int p0), .val (.int p1), .val (.int p2), .val (.int p3), .val (.int (0 : Int32)), .val (.int (1 : Int32)), .val (.ref b55), .val .null, .unset, .unset, .unset] [])) _
        refine XS.iloadN X57.here hx rfl (hb hby at_96) rfl ?_
        show Steps p.tables e below (T57.setTop (mkF m 97 #[.val (.int p0), .val (.int p1), .val (.int p2), .val (.int p3), .val (.int (0 : Int32)), .val (.int (1 : Int32)), .val (.ref b55), .val .null, .unset, .unset, .unset] [(.int p2)])) _
        refine XS.bipush X57.here hx rfl (hb hby at_97) ?_
        show Steps p.tables e below (T57.setTop (mkF m 99 #[.val (.int p0), .val (.int p1), .val (.int p2), .val (.int p3), .val (.int (0 : Int32)), .val (.int (1 : Int32)), .val (.ref b55), .val .null, .unset, .unset, .unset] [(.int (8 : Int32)), (.int p2)])) _
        refine XS.iushr X57.here hx rfl (hb hby at_99) rfl ?_
        show Steps p.tables e below (T57.setTop (mkF m 100 #[.val (.int p0), .val (.int p1), .val (.int p2), .val (.int p3), .val (.int (0 : Int32)), .val (.int (1 : Int32)), .val (.ref b55), .val .null, .unset, .unset, .unset] [(.int ((p2.toUInt32 >>> ((8 : Int32) &&& 31).toUInt32).toInt32))])) _
        refine XS.sipush X57.here hx rfl (hb hby at_100) ?_
        show Steps p.tables e below (T57.setTop (mkF m 103 #[.val (.int p0), .val (.int p1), .val (.int p2), .val (.int p3), .val (.int (0 : Int32)), .val (.int (1 : Int32)), .val (.ref b55), .val .null, .unset, .unset, .unset] [(.int (255 : Int32)), (.int ((p2.toUInt32 >>> ((8 : Int32) &&& 31).toUInt32).toInt32))])) _
        refine XS.iand X57.here hx rfl (hb hby at_103) rfl ?_
        show Steps p.tables e below (T57.setTop (mkF m 104 #[.val (.int p0), .val (.int p1), .val (.int p2), .val (.int p3), .val (.int (0 : Int32)), .val (.int (1 : Int32)), .val (.ref b55), .val .null, .unset, .unset, .unset] [(.int (((p2.toUInt32 >>> ((8 : Int32) &&& 31).toUInt32).toInt32) &&& (255 : Int32)))])) _
        refine XS.i2c X57.here hx rfl (hb hby at_104) rfl ?_
        exact ht
      obtain ⟨_, _, ⟨T62, L62, kq62, n62⟩, -, X62, ⟨Lc62, hQ62, l62, y62, z62⟩, st62⟩ := Jvm.LawKit.callS X57 hx (y := (⟨"java/lang/String", "valueOf", "(C)Ljava/lang/String;"⟩ : MethodName)) hown (mvT hZ (hw _ (List.mem_of_getElem? (i := 1) rfl))) (mvT hZ (hw _ (List.mem_of_getElem? (i := 2) rfl))) (mvT hZ (hw _ (List.mem_of_getElem? (i := 3) rfl))) (mvT hZ (hw _ (List.mem_of_getElem? (i := 4) rfl))) (by decide) (backOf (W := 0) (rm_valueOf l Z a0 hw [] ((((p2.toUInt32 >>> ((8 : Int32) &&& 31).toUInt32).toInt32) &&& (255 : Int32)).toUInt32.toUInt16.toUInt32.toInt32) G1 h57 n0 Z57 S_CS_c_57 (P5 : ¬ (G1 = (0 : Int32))) (own_c255 _ : ¬ ((255 : Int32) < ((((p2.toUInt32 >>> ((8 : Int32) &&& 31).toUInt32).toInt32) &&& (255 : Int32)).toUInt32.toUInt16.toUInt32.toInt32)))) hZ (hw _ (List.mem_of_getElem? (i := 4) rfl)) (hw _ (List.mem_of_getElem? (i := 3) rfl)) (by decide) (by decide)) (g := (mkF m 105 #[.val (.int p0), .val (.int p1), .val (.int p2), .val (.int p3), .val (.int (0 : Int32)), .val (.int (1 : Int32)), .val (.ref b55), .val .null, .unset, .unset, .unset] [(.int ((((p2.toUInt32 >>> ((8 : Int32) &&& 31).toUInt32).toInt32) &&& (255 : Int32)).toUInt32.toUInt16.toUInt32.toInt32))])) rfl (by rw [hml]; rfl) (argsL := [(.int ((((p2.toUInt32 >>> ((8 : Int32) &&& 31).toUInt32).toInt32) &&& (255 : Int32)).toUInt32.toUInt16.toUInt32.toInt32))]) (rest := []) (lenOf pd_5 rfl) rfl (by show 2 * 0 + _ ≤ _; exact Nat.le_of_eq rfl) (hb hby at_105) (fun _ _ => ⟨rfl, e57, (by decide : 1 + 2 ≤ _), (by decide : 1 + 5 ≤ _)⟩)
      dsimp only [Pt.U, Pt.locs, Pt.cells, Pt.slots] at X62 l62 y62 z62 st62 hQ62
      subst l62 y62 z62
      obtain ⟨xs_62, xb_62, xk_62, rfl, N62q, K62, Pq62_0, Pq62_1, Fq62_0, Fq62_1, Fq62_2, Fq62_3⟩ := hQ62
      have N62 := Fr.app N57 N62q
      have k62 : Go p.tables e below (T57.setTop (mkF m 105 #[.val (.int p0), .val (.int p1), .val (.int p2), .val (.int p3), .val (.int (0 : Int32)), .val (.int (1 : Int32)), .val (.ref b55), .val .null, .unset, .unset, .unset] [(.int ((((p2.toUInt32 >>> ((8 : Int32) &&& 31).toUInt32).toInt32) &&& (255 : Int32)).toUInt32.toUInt16.toUInt32.toInt32))])) (T62.setTop (mkF m 108 #[.val (.int p0), .val (.int p1), .val (.int p2), .val (.int p3), .val (.int (0 : Int32)), .val (.int (1 : Int32)), .val (.ref b55), .val .null, .unset, .unset, .unset] [(.ref xs_62)])) := st62
      have Kp62 : Keep h0 T62.heap [] := Kp57.trans K62 all0
      have Z62 : n0 ≤ T62.heap.size := Nat.le_trans Z57 K62.1
      have ne_wD_xs_62 : wD ≠ xs_62 := Nat.ne_of_lt (Nat.lt_of_lt_of_le E_D_c_57.lt Pq62_0)
      have ne_b55_xs_62 : b55 ≠ xs_62 := Nat.ne_of_lt (Nat.lt_of_lt_of_le V57_b55.lt Pq62_0)
      have g_xs_62 : n0 ≤ xs_62 := Nat.le_trans Z57 Pq62_0
      have sz_xs_62 : h0.size ≤ xs_62 := Nat.le_trans Kp57.1 Pq62_0
      have ne_wD_xb_62 : wD ≠ xb_62 := Nat.ne_of_lt (Nat.lt_of_lt_of_le E_D_c_57.lt Pq62_1)
      have ne_b55_xb_62 : b55 ≠ xb_62 := Nat.ne_of_lt (Nat.lt_of_lt_of_le V57_b55.lt Pq62_1)
      have g_xb_62 : n0 ≤ xb_62 := Nat.le_trans Z57 Pq62_1
      have sz_xb_62 : h0.size ≤ xb_62 := Nat.le_trans Kp57.1 Pq62_1
      have S_CS_c_62 := own_sta_keep0 S_CS_c_57 K62
      have S_D_c_62 := own_sta_keep0 S_D_c_57 K62
      have E_D_c_62 := E_D_c_57.keep K62
      have F_D_c_62 := F_D_c_57.keep K62 nin0
      have V57_b55_c_62 := V57_b55.keep K62 nin0
      have k63 : Go p.tables e below (T62.setTop (mkF m 108 #[.val (.int p0), .val (.int p1), .val (.int p2), .val (.int p3), .val (.int (0 : Int32)), .val (.int (1 : Int32)), .val (.ref b55), .val .null, .unset, .unset, .unset] [(.ref xs_62)])) (T62.setTop (mkF m 113 #[.val (.int p0), .val (.int p1), .val (.int p2), .val (.int p3), .val (.int (0 : Int32)), .val (.int (1 : Int32)), .val (.ref b55), .val .null, .val (.ref xs_62), .unset, .unset] [(.int (p3 &&& (1 : Int32)))])) := by
        intro t ht
        refine XS.astore X62.here hx rfl (hb hby at_108) rfl rfl (l' := #[.val (.int p0), .val (.int p1), .val (.int p2), .val (.int p3), .val (.int (0 : Int32)), .val (.int (1 : Int32)), .val (.ref b55), .val .null, .val (.ref xs_62), .unset, .unset]) rfl ?_
        show Steps p.tables e below (T62.setTop (mkF m 110 #[.val (.int p0), .val (.int p1), .val (.int p2), .val (.int p3), .val (.int (0 : Int32)), .val (.int (1 : Int32)), .val (.ref b55), .val .null, .val (.ref xs_62), .unset, .unset] [])) _
        refine XS.iloadN X62.here hx rfl (hb hby at_110) rfl ?_
        show Steps p.tables e below (T62.setTop (mkF m 111 #[.val (.int p0), .val (.int p1), .val (.int p2), .val (.int p3), .val (.int (0 : Int32)), .val (.int (1 : Int32)), .val (.ref b55), .val .null, .val (.ref xs_62), .unset, .unset] [(.int p3)])) _
        refine XS.iconst X62.here hx rfl (hb hby at_111) ?_
        show Steps p.tables e below (T62.setTop (mkF m 112 #[.val (.int p0), .val (.int p1), .val (.int p2), .val (.int p3), .val (.int (0 : Int32)), .val (.int (1 : Int32)), .val (.ref b55), .val .null, .val (.ref xs_62), .unset, .unset] [(.int (1 : Int32)), (.int p3)])) _
        refine XS.iand X62.here hx rfl (hb hby at_112) rfl ?_
        exact ht
      have k64 : Go p.tables e below (T62.setTop (mkF m 113 #[.val (.int p0), .val (.int p1), .val (.int p2), .val (.int p3), .val (.int (0 : Int32)), .val (.int (1 : Int32)), .val (.ref b55), .val .null, .val (.ref xs_62), .unset, .unset] [(.int (p3 &&& (1 : Int32)))])) (T62.setTop (mkF m 121 #[.val (.int p0), .val (.int p1), .val (.int p2), .val (.int p3), .val (.int (0 : Int32)), .val (.int (1 : Int32)), .val (.ref b55), .val .null, .val (.ref xs_62), .unset, .unset] [(.int (if (p3 &&& (1 : Int32)) = (0 : Int32) then (0 : Int32) else (1 : Int32)))])) := by
        by_cases hc65 : (p3 &&& (1 : Int32)) = (0 : Int32)
        · have k66 : Go p.tables e below (T62.setTop (mkF m 113 #[.val (.int p0), .val (.int p1), .val (.int p2), .val (.int p3), .val (.int (0 : Int32)), .val (.int (1 : Int32)), .val (.ref b55), .val .null, .val (.ref xs_62), .unset, .unset] [(.int (p3 &&& (1 : Int32)))])) (T62.setTop (mkF m 121 #[.val (.int p0), .val (.int p1), .val (.int p2), .val (.int p3), .val (.int (0 : Int32)), .val (.int (1 : Int32)), .val (.ref b55), .val .null, .val (.ref xs_62), .unset, .unset] [(.int (0 : Int32))])) := by
            intro t ht
            refine XS.ifYes X62.here hx rfl (pc0 := 113) (pc' := 120) rfl (hb hby at_113) rfl ((if0 _ _).trans (teq hc65).1) (by decide) (by decide) ?_
            show Steps p.tables e below (T62.setTop (mkF m 120 #[.val (.int p0), .val (.int p1), .val (.int p2), .val (.int p3), .val (.int (0 : Int32)), .val (.int (1 : Int32)), .val (.ref b55), .val .null, .val (.ref xs_62), .unset, .unset] [])) _
            refine XS.iconst X62.here hx rfl (hb hby at_120) ?_
            exact ht
          have kk := k66
          simpa only [if_neg P5, if_pos hc59, if_pos hc65] using kk
        · have k67 : Go p.tables e below (T62.setTop (mkF m 113 #[.val (.int p0), .val (.int p1), .val (.int p2), .val (.int p3), .val (.int (0 : Int32)), .val (.int (1 : Int32)), .val (.ref b55), .val .null, .val (.ref xs_62), .unset, .unset] [(.int (p3 &&& (1 : Int32)))])) (T62.setTop (mkF m 121 #[.val (.int p0), .val (.int p1), .val (.int p2), .val (.int p3), .val (.int (0 : Int32)), .val (.int (1 : Int32)), .val (.ref b55), .val .null, .val (.ref xs_62), .unset, .unset] [(.int (1 : Int32))])) := by
            intro t ht
            refine XS.ifNo X62.here hx rfl (hb hby at_113) rfl ((if0 _ _).trans (feq hc65).1) ?_
            show Steps p.tables e below (T62.setTop (mkF m 116 #[.val (.int p0), .val (.int p1), .val (.int p2), .val (.int p3), .val (.int (0 : Int32)), .val (.int (1 : Int32)), .val (.ref b55), .val .null, .val (.ref xs_62), .unset, .unset] [])) _
            refine XS.iconst X62.here hx rfl (hb hby at_116) ?_
            show Steps p.tables e below (T62.setTop (mkF m 117 #[.val (.int p0), .val (.int p1), .val (.int p2), .val (.int p3), .val (.int (0 : Int32)), .val (.int (1 : Int32)), .val (.ref b55), .val .null, .val (.ref xs_62), .unset, .unset] [(.int (1 : Int32))])) _
            refine XS.goto X62.here hx rfl (pc0 := 117) (pc' := 121) rfl (hb hby at_117) (by decide) (by decide) ?_
            exact ht
          have kk := k67
          simpa only [if_neg P5, if_pos hc59, if_neg hc65] using kk
      have k68 : Go p.tables e below (T62.setTop (mkF m 121 #[.val (.int p0), .val (.int p1), .val (.int p2), .val (.int p3), .val (.int (0 : Int32)), .val (.int (1 : Int32)), .val (.ref b55), .val .null, .val (.ref xs_62), .unset, .unset] [(.int (if (p3 &&& (1 : Int32)) = (0 : Int32) then (0 : Int32) else (1 : Int32)))])) (T62.setTop (mkF m 123 #[.val (.int p0), .val (.int p1), .val (.int p2), .val (.int p3), .val (.int (0 : Int32)), .val (.int (1 : Int32)), .val (.ref b55), .val .null, .val (.ref xs_62), .val (.int (if (p3 &&& (1 : Int32)) = (0 : Int32) then (0 : Int32) else (1 : Int32))), .unset] [])) := by
        intro t ht
        refine XS.istore X62.here hx rfl (hb hby at_121) rfl (l' := #[.val (.int p0), .val (.int p1), .val (.int p2), .val (.int p3), .val (.int (0 : Int32)), .val (.int (1 : Int32)), .val (.ref b55), .val .null, .val (.ref xs_62), .val (.int (if (p3 &&& (1 : Int32)) = (0 : Int32) then (0 : Int32) else (1 : Int32))), .unset]) rfl ?_
        exact ht
      obtain ⟨T69, h69, X69, e69, E69, A69, D69, -, st69⟩ := newO X62 hx hZ hown (hw _ (List.mem_of_getElem? (i := 27) rfl)) (hw _ (List.mem_of_getElem? (i := 28) rfl)) (hw _ (List.mem_of_getElem? (i := 29) rfl)) rfl (g := (mkF m 123 #[.val (.int p0), .val (.int p1), .val (.int p2), .val (.int p3), .val (.int (0 : Int32)), .val (.int (1 : Int32)), .val (.ref b55), .val .null, .val (.ref xs_62), .val (.int (if (p3 &&& (1 : Int32)) = (0 : Int32) then (0 : Int32) else (1 : Int32))), .unset] [])) rfl (hb hby at_123) (by decide) (by decide)
      obtain ⟨b69, g69⟩ : ∃ z, z = T62.heap.size := ⟨_, rfl⟩
      rw [← g69] at A69 D69 st69
      have g_b69 : n0 ≤ b69 := Nat.le_trans Z62 (Nat.le_of_eq g69.symm)
      have sz_b69 : h0.size ≤ b69 := Nat.le_trans Kp62.1 (Nat.le_of_eq g69.symm)
      have ne_wD_b69 : wD ≠ b69 := Nat.ne_of_lt (Nat.lt_of_lt_of_le E_D_c_62.lt (Nat.le_of_eq g69.symm))
      have ne_b55_b69 : b55 ≠ b69 := Nat.ne_of_lt (Nat.lt_of_lt_of_le V57_b55_c_62.lt (Nat.le_of_eq g69.symm))
      have ne_xs_62_b69 : xs_62 ≠ b69 := Nat.ne_of_lt (Nat.lt_of_lt_of_le Fq62_0.lt (Nat.le_of_eq g69.symm))
      have ne_xb_62_b69 : xb_62 ≠ b69 := Nat.ne_of_lt (Nat.lt_of_lt_of_le Fq62_3.lt (Nat.le_of_eq g69.symm))
      have Kp69 : Keep h0 h69 [] := Kp62.ext E69
      have Z69 : n0 ≤ h69.size := Nat.le_trans Z62 E69.1
      have S_CS_c_69 := S_CS_c_62.ext E69
      have S_D_c_69 := S_D_c_62.ext E69
      have E_D_c_69 := E_D_c_62.ext E69
      have F_D_c_69 := F_D_c_62.ext E69
      have V57_b55_c_69 := V57_b55_c_62.ext E69
      have Fq62_0_c_69 := Fq62_0.ext E69
      have Fq62_1_c_69 := Fq62_1.ext E69
      have Fq62_2_c_69 := Fq62_2.ext E69
      have Fq62_3_c_69 := Fq62_3.ext E69
      have F_nameColumn_b69 : Fld Z h69 b69 "com/example/plain_keys/plainkeys/dialect/KeyTableLayout" "nameColumn" "Ljava/lang/String;" .null := D69 (Or.inr (hw _ (List.mem_of_getElem? (i := 40) rfl))) (ty := (.object "java/lang/String")) (by decide)
      have F_valueColumn_b69 : Fld Z h69 b69 "com/example/plain_keys/plainkeys/dialect/KeyTableLayout" "valueColumn" "Ljava/lang/String;" .null := D69 (Or.inr (hw _ (List.mem_of_getElem? (i := 42) rfl))) (ty := (.object "java/lang/String")) (by decide)
      have F_valueIsLastKey_b69 : Fld Z h69 b69 "com/example/plain_keys/plainkeys/dialect/KeyTableLayout" "valueIsLastKey" "Z" (.int (0 : Int32)) := D69 (Or.inr (hw _ (List.mem_of_getElem? (i := 44) rfl))) (ty := .boolean) (by decide)
      have k69 : Go p.tables e below (T62.setTop (mkF m 123 #[.val (.int p0), .val (.int p1), .val (.int p2), .val (.int p3), .val (.int (0 : Int32)), .val (.int (1 : Int32)), .val (.ref b55), .val .null, .val (.ref xs_62), .val (.int (if (p3 &&& (1 : Int32)) = (0 : Int32) then (0 : Int32) else (1 : Int32))), .unset] [])) (T69.setTop (mkF m 126 #[.val (.int p0), .val (.int p1), .val (.int p2), .val (.int p3), .val (.int (0 : Int32)), .val (.int (1 : Int32)), .val (.ref b55), .val .null, .val (.ref xs_62), .val (.int (if (p3 &&& (1 : Int32)) = (0 : Int32) then (0 : Int32) else (1 : Int32))), .unset] [(.ref b69)])) := st69
      have k70 : Go p.tables e below (T69.setTop (mkF m 126 #[.val (.int p0), .val (.int p1), .val (.int p2), .val (.int p3), .val (.int (0 : Int32)), .val (.int (1 : Int32)), .val (.ref b55), .val .null, .val (.ref xs_62), .val (.int (if (p3 &&& (1 : Int32)) = (0 : Int32) then (0 : Int32) else (1 : Int32))), .unset] [(.ref b69)])) (T69.setTop (mkF m 133 #[.val (.int p0), .val (.int p1), .val (.int p2), .val (.int p3), .val (.int (0 : Int32)), .val (.int (1 : Int32)), .val (.ref b55), .val .null, .val (.ref xs_62), .val (.int (if (p3 &&& (1 : Int32)) = (0 : Int32) then (0 : Int32) else (1 : Int32))), .unset] [(.int (if (p3 &&& (1 : Int32)) = (0 : Int32) then (0 : Int32) else (1 : Int32))), (.ref xs_62), .null, (.ref b69), (.ref b69)])) := by
        intro t ht
        refine XS.dup X69.here hx rfl (hb hby at_126) rfl rfl ?_
        show Steps p.tables e below (T69.setTop (mkF m 127 #[.val (.int p0), .val (.int p1), .val (.int p2), .val (.int p3), .val (.int (0 : Int32)), .val (.int (1 : Int32)), .val (.ref b55), .val .null, .val (.ref xs_62), .val (.int (if (p3 &&& (1 : Int32)) = (0 : Int32) then (0 : Int32) else (1 : Int32))), .unset] [(.ref b69), (.ref b69)])) _
        refine XS.aload X69.here hx rfl (hb hby at_127) rfl rfl ?_
        show Steps p.tables e below (T69.setTop (mkF m 129 #[.val (.int p0), .val (.int p1), .val (.int p2), .val (.int p3), .val (.int (0 : Int32)), .val (.int (1 : Int32)), .val (.ref b55), .val .null, .val (.ref xs_62), .val (.int (if (p3 &&& (1 : Int32)) = (0 : Int32) then (0 : Int32) else (1 : Int32))), .unset] [.null, (.ref b69), (.ref b69)])) _
        refine XS.aload X69.here hx rfl (hb hby at_129) rfl rfl ?_
        show Steps p.tables e below (T69.setTop (mkF m 131 #[.val (.int p0), .val (.int p1), .val (.int p2), .val (.int p3), .val (.int (0 : Int32)), .val (.int (1 : Int32)), .val (.ref b55), .val .null, .val (.ref xs_62), .val (.int (if (p3 &&& (1 : Int32)) = (0 : Int32) then (0 : Int32) else (1 : Int32))), .unset] [(.ref xs_62), .null, (.ref b69), (.ref b69)])) _
        refine XS.iload X69.here hx rfl (hb hby at_131) rfl ?_
        exact ht
      obtain ⟨_, _, ⟨T71, L71, kq71, n71⟩, -, X71, ⟨Lc71, hQ71, l71, y71, z71⟩, st71⟩ := X69.specialBack hx (y := (⟨"com/example/plain_keys/plainkeys/dialect/KeyTableLayout", "<init>", "(Ljava/lang/String;Ljava/lang/String;Z)V"⟩ : MethodName)) rfl hown (mvT hZ (hw _ (List.mem_of_getElem? (i := 30) rfl))) (mvT hZ (hw _ (List.mem_of_getElem? (i := 31) rfl))) (mvT hZ (hw _ (List.mem_of_getElem? (i := 32) rfl))) (by decide) (backOf (W := 1) (rm_initNull l Z a0 hw [] b69 xs_62 (if (p3 &&& (1 : Int32)) = (0 : Int32) then (0 : Int32) else (1 : Int32)) h69 n0 Z69 F_nameColumn_b69 F_valueColumn_b69 F_valueIsLastKey_b69 A69 g_b69) hZ (hw _ (List.mem_of_getElem? (i := 32) rfl)) (hw _ (List.mem_of_getElem? (i := 29) rfl)) (by decide) (by decide)) (g := (mkF m 133 #[.val (.int p0), .val (.int p1), .val (.int p2), .val (.int p3), .val (.int (0 : Int32)), .val (.int (1 : Int32)), .val (.ref b55), .val .null, .val (.ref xs_62), .val (.int (if (p3 &&& (1 : Int32)) = (0 : Int32) then (0 : Int32) else (1 : Int32))), .unset] [(.int (if (p3 &&& (1 : Int32)) = (0 : Int32) then (0 : Int32) else (1 : Int32))), (.ref xs_62), .null, (.ref b69), (.ref b69)])) rfl (by rw [hml]; rfl) (Steps.refl _) (a := b69) (argsL := [.null, (.ref xs_62), (.int (if (p3 &&& (1 : Int32)) = (0 : Int32) then (0 : Int32) else (1 : Int32)))]) (rest := [(.ref b69)]) (lenOf pd_6 rfl) rfl (by show 2 * 0 + _ ≤ _; exact Nat.le_of_eq rfl) (hb hby at_133) (fun _ _ => ⟨rfl, e69, (by decide : 4 + 0 ≤ _), (by decide : 9 + 0 ≤ _)⟩)
      dsimp only [Pt.U, Pt.locs, Pt.cells, Pt.slots] at X71 l71 y71 z71 st71 hQ71
      subst l71 y71 z71
      obtain ⟨rfl, N71q, K71, Fq71_0, Fq71_1, Fq71_2, Fq71_3⟩ := hQ71
      have N71 := Fr.app N62 N71q
      have k71 : Go p.tables e below (T69.setTop (mkF m 133 #[.val (.int p0), .val (.int p1), .val (.int p2), .val (.int p3), .val (.int (0 : Int32)), .val (.int (1 : Int32)), .val (.ref b55), .val .null, .val (.ref xs_62), .val (.int (if (p3 &&& (1 : Int32)) = (0 : Int32) then (0 : Int32) else (1 : Int32))), .unset] [(.int (if (p3 &&& (1 : Int32)) = (0 : Int32) then (0 : Int32) else (1 : Int32))), (.ref xs_62), .null, (.ref b69), (.ref b69)])) (T71.setTop (mkF m 136 #[.val (.int p0), .val (.int p1), .val (.int p2), .val (.int p3), .val (.int (0 : Int32)), .val (.int (1 : Int32)), .val (.ref b55), .val .null, .val (.ref xs_62), .val (.int (if (p3 &&& (1 : Int32)) = (0 : Int32) then (0 : Int32) else (1 : Int32))), .unset] [(.ref b69)])) := fun _ ht => st71.trans ht
      have Kp71 : Keep h0 T71.heap [] := Kp69.trans K71 (allS (Or.inr sz_b69) all0)
      have Z71 : n0 ≤ T71.heap.size := Nat.le_trans Z69 K71.1
      have S_CS_c_71 := own_sta_keep S_CS_c_69 A69 K71
      have S_D_c_71 := own_sta_keep S_D_c_69 A69 K71
      have E_D_c_71 := E_D_c_69.keep K71
      have F_D_c_71 := F_D_c_69.keep K71 (ninS ne_wD_b69 nin0)
      have V57_b55_c_71 := V57_b55_c_69.keep K71 (ninS ne_b55_b69 nin0)
      have Fq62_0_c_71 := Fq62_0_c_69.keep K71
      have Fq62_1_c_71 := Fq62_1_c_69.keep K71 (ninS ne_xs_62_b69 nin0)
      have Fq62_2_c_71 := Fq62_2_c_69.keep K71 (ninS ne_xs_62_b69 nin0)
      have Fq62_3_c_71 := Fq62_3_c_69.keep K71 (ninS ne_xb_62_b69 nin0)
      have A69_c_71 := A69.keep K71
      have k72 : Go p.tables e below (T71.setTop (mkF m 136 #[.val (.int p0), .val (.int p1), .val (.int p2), .val (.int p3), .val (.int (0 : Int32)), .val (.int (1 : Int32)), .val (.ref b55), .val .null, .val (.ref xs_62), .val (.int (if (p3 &&& (1 : Int32)) = (0 : Int32) then (0 : Int32) else (1 : Int32))), .unset] [(.ref b69)])) (T71.setTop (mkF m 140 #[.val (.int p0), .val (.int p1), .val (.int p2), .val (.int p3), .val (.int (0 : Int32)), .val (.int (1 : Int32)), .val (.ref b55), .val .null, .val (.ref xs_62), .val (.int (if (p3 &&& (1 : Int32)) = (0 : Int32) then (0 : Int32) else (1 : Int32))), .val (.ref b69)] [(.ref b69)])) := by
        intro t ht
        refine XS.astore X71.here hx rfl (hb hby at_136) rfl rfl (l' := #[.val (.int p0), .val (.int p1), .val (.int p2), .val (.int p3), .val (.int (0 : Int32)), .val (.int (1 : Int32)), .val (.ref b55), .val .null, .val (.ref xs_62), .val (.int (if (p3 &&& (1 : Int32)) = (0 : Int32) then (0 : Int32) else (1 : Int32))), .val (.ref b69)]) rfl ?_
        show Steps p.tables e below (T71.setTop (mkF m 138 #[.val (.int p0), .val (.int p1), .val (.int p2), .val (.int p3), .val (.int (0 : Int32)), .val (.int (1 : Int32)), .val (.ref b55), .val .null, .val (.ref xs_62), .val (.int (if (p3 &&& (1 : Int32)) = (0 : Int32) then (0 : Int32) else (1 : Int32))), .val (.ref b69)] [])) _
        refine XS.aload X71.here hx rfl (hb hby at_138) rfl rfl ?_
        exact ht
      obtain ⟨cq73, kq73, q73a, q73b, q73c⟩ := isOf hZ rfl Fq71_0
      obtain ⟨_, _, ⟨T73, L73, kq73, n73⟩, -, X73, ⟨Lc73, hQ73, l73, y73, z73⟩, st73⟩ := X71.virtualBack hx (y := (⟨"com/example/plain_keys/plainkeys/dialect/KeyTableLayout", "namesRows", "()Z"⟩ : MethodName)) (z := (⟨"com/example/plain_keys/plainkeys/dialect/KeyTableLayout", "namesRows", "()Z"⟩ : MethodName)) hown (mvT hZ (hw _ (List.mem_of_getElem? (i := 45) rfl))) (mvT hZ (hw _ (List.mem_of_getElem? (i := 46) rfl))) (notFace_of_selects (args := #[]) (mvT hZ (hw _ (List.mem_of_getElem? (i := 48) rfl)))) (mvT hZ (hw _ (List.mem_of_getElem? (i := 48) rfl))) (mvT hZ (hw _ (List.mem_of_getElem? (i := 47) rfl))) (by decide) (backOf (W := 0) (rm_rows0 l Z a0 hw [] b69 T71.heap n0 Z71 Fq71_1) hZ (hw _ (List.mem_of_getElem? (i := 49) rfl)) (hw _ (List.mem_of_getElem? (i := 29) rfl)) (by decide) (by decide)) q73a q73c (g := (mkF m 140 #[.val (.int p0), .val (.int p1), .val (.int p2), .val (.int p3), .val (.int (0 : Int32)), .val (.int (1 : Int32)), .val (.ref b55), .val .null, .val (.ref xs_62), .val (.int (if (p3 &&& (1 : Int32)) = (0 : Int32) then (0 : Int32) else (1 : Int32))), .val (.ref b69)] [(.ref b69)])) rfl (by rw [hml]; rfl) (Steps.refl _) (argsL := []) (rest := []) (lenOf pd_7 rfl) rfl (by show 2 * 0 + _ ≤ _; exact Nat.le_of_eq rfl) (hb hby at_140) (fun _ _ => ⟨rfl, rfl, (by decide : 4 + 0 ≤ _), (by decide : 9 + 0 ≤ _)⟩)
      dsimp only [Pt.U, Pt.locs, Pt.cells, Pt.slots] at X73 l73 y73 z73 st73 hQ73
      subst l73 y73 z73
      obtain ⟨rfl, N73q, eq73⟩ := hQ73
      have N73 := Fr.app N71 N73q
      have k73 : Go p.tables e below (T71.setTop (mkF m 140 #[.val (.int p0), .val (.int p1), .val (.int p2), .val (.int p3), .val (.int (0 : Int32)), .val (.int (1 : Int32)), .val (.ref b55), .val .null, .val (.ref xs_62), .val (.int (if (p3 &&& (1 : Int32)) = (0 : Int32) then (0 : Int32) else (1 : Int32))), .val (.ref b69)] [(.ref b69)])) (T73.setTop (mkF m 143 #[.val (.int p0), .val (.int p1), .val (.int p2), .val (.int p3), .val (.int (0 : Int32)), .val (.int (1 : Int32)), .val (.ref b55), .val .null, .val (.ref xs_62), .val (.int (if (p3 &&& (1 : Int32)) = (0 : Int32) then (0 : Int32) else (1 : Int32))), .val (.ref b69)] [(.int (0 : Int32))])) := fun _ ht => st73.trans ht
      have k74 : Go p.tables e below (T73.setTop (mkF m 143 #[.val (.int p0), .val (.int p1), .val (.int p2), .val (.int p3), .val (.int (0 : Int32)), .val (.int (1 : Int32)), .val (.ref b55), .val .null, .val (.ref xs_62), .val (.int (if (p3 &&& (1 : Int32)) = (0 : Int32) then (0 : Int32) else (1 : Int32))), .val (.ref b69)] [(.int (0 : Int32))])) (T73.setTop (mkF m 148 #[.val (.int p0), .val (.int p1), .val (.int p2), .val (.int p3), .val (.int (0 : Int32)), .val (.int (1 : Int32)), .val (.ref b55), .val .null, .val (.ref xs_62), .val (.int (if (p3 &&& (1 : Int32)) = (0 : Int32) then (0 : Int32) else (1 : Int32))), .val (.ref b69)] [])) := by
        intro t ht
        refine XS.iload X73.here hx rfl (hb hby at_143) rfl ?_
        show Steps p.tables e below (T73.setTop (mkF m 145 #[.val (.int p0), .val (.int p1), .val (.int p2), .val (.int p3), .val (.int (0 : Int32)), .val (.int (1 : Int32)), .val (.ref b55), .val .null, .val (.ref xs_62), .val (.int (if (p3 &&& (1 : Int32)) = (0 : Int32) then (0 : Int32) else (1 : Int32))), .val (.ref b69)] [(.int (0 : Int32)), (.int (0 : Int32))])) _
        refine XS.icmpNo X73.here hx rfl (hb hby at_145) rfl (teq (by decide : (0 : Int32) = (0 : Int32))).2 ?_
        exact ht
      obtain ⟨T75, X75, e75, st75⟩ := getS2 X73 hx hZ hown (host := "") (Or.inl (hw _ (List.mem_of_getElem? (i := 50) rfl))) Via.refl eq73 S_D_c_71 (g := (mkF m 148 #[.val (.int p0), .val (.int p1), .val (.int p2), .val (.int p3), .val (.int (0 : Int32)), .val (.int (1 : Int32)), .val (.ref b55), .val .null, .val (.ref xs_62), .val (.int (if (p3 &&& (1 : Int32)) = (0 : Int32) then (0 : Int32) else (1 : Int32))), .val (.ref b69)] [])) rfl (hb hby at_148)
      have k75 : Go p.tables e below (T73.setTop (mkF m 148 #[.val (.int p0), .val (.int p1), .val (.int p2), .val (.int p3), .val (.int (0 : Int32)), .val (.int (1 : Int32)), .val (.ref b55), .val .null, .val (.ref xs_62), .val (.int (if (p3 &&& (1 : Int32)) = (0 : Int32) then (0 : Int32) else (1 : Int32))), .val (.ref b69)] [])) (T75.setTop (mkF m 151 #[.val (.int p0), .val (.int p1), .val (.int p2), .val (.int p3), .val (.int (0 : Int32)), .val (.int (1 : Int32)), .val (.ref b55), .val .null, .val (.ref xs_62), .val (.int (if (p3 &&& (1 : Int32)) = (0 : Int32) then (0 : Int32) else (1 : Int32))), .val (.ref b69)] [(.ref wD)])) := st75
      obtain ⟨cq76, kq76, q76a, q76b, q76c⟩ := isOf hZ e75 E_D_c_71
      obtain ⟨_, _, ⟨T76, L76, kq76, n76⟩, -, X76, ⟨Lc76, hQ76, l76, y76, z76⟩, st76⟩ := X75.virtualBack hx (y := (⟨"com/example/plain_keys/plainkeys/dialect/KeyTableLayout", "namesRows", "()Z"⟩ : MethodName)) (z := (⟨"com/example/plain_keys/plainkeys/dialect/KeyTableLayout", "namesRows", "()Z"⟩ : MethodName)) hown (mvT hZ (hw _ (List.mem_of_getElem? (i := 45) rfl))) (mvT hZ (hw _ (List.mem_of_getElem? (i := 46) rfl))) (notFace_of_selects (args := #[]) (mvT hZ (hw _ (List.mem_of_getElem? (i := 48) rfl)))) (mvT hZ (hw _ (List.mem_of_getElem? (i := 48) rfl))) (mvT hZ (hw _ (List.mem_of_getElem? (i := 47) rfl))) (by decide) (backOf (W := 0) (rm_rows1 l Z a0 hw [] wD wn T71.heap n0 Z71 F_D_c_71) hZ (hw _ (List.mem_of_getElem? (i := 49) rfl)) (hw _ (List.mem_of_getElem? (i := 29) rfl)) (by decide) (by decide)) q76a q76c (g := (mkF m 151 #[.val (.int p0), .val (.int p1), .val (.int p2), .val (.int p3), .val (.int (0 : Int32)), .val (.int (1 : Int32)), .val (.ref b55), .val .null, .val (.ref xs_62), .val (.int (if (p3 &&& (1 : Int32)) = (0 : Int32) then (0 : Int32) else (1 : Int32))), .val (.ref b69)] [(.ref wD)])) rfl (by rw [hml]; rfl) (Steps.refl _) (argsL := []) (rest := []) (lenOf pd_7 rfl) rfl (by show 2 * 0 + _ ≤ _; exact Nat.le_of_eq rfl) (hb hby at_151) (fun _ _ => ⟨rfl, e75, (by decide : 4 + 0 ≤ _), (by decide : 9 + 0 ≤ _)⟩)
      dsimp only [Pt.U, Pt.locs, Pt.cells, Pt.slots] at X76 l76 y76 z76 st76 hQ76
      subst l76 y76 z76
      obtain ⟨rfl, N76q, eq76⟩ := hQ76
      have N76 := Fr.app N73 N76q
      have k76 : Go p.tables e below (T75.setTop (mkF m 151 #[.val (.int p0), .val (.int p1), .val (.int p2), .val (.int p3), .val (.int (0 : Int32)), .val (.int (1 : Int32)), .val (.ref b55), .val .null, .val (.ref xs_62), .val (.int (if (p3 &&& (1 : Int32)) = (0 : Int32) then (0 : Int32) else (1 : Int32))), .val (.ref b69)] [(.ref wD)])) (T76.setTop (mkF m 154 #[.val (.int p0), .val (.int p1), .val (.int p2), .val (.int p3), .val (.int (0 : Int32)), .val (.int (1 : Int32)), .val (.ref b55), .val .null, .val (.ref xs_62), .val (.int (if (p3 &&& (1 : Int32)) = (0 : Int32) then (0 : Int32) else (1 : Int32))), .val (.ref b69)] [(.int (1 : Int32))])) := fun _ ht => st76.trans ht
      have k77 : Go p.tables e below (T76.setTop (mkF m 154 #[.val (.int p0), .val (.int p1), .val (.int p2), .val (.int p3), .val (.int (0 : Int32)), .val (.int (1 : Int32)), .val (.ref b55), .val .null, .val (.ref xs_62), .val (.int (if (p3 &&& (1 : Int32)) = (0 : Int32) then (0 : Int32) else (1 : Int32))), .val (.ref b69)] [(.int (1 : Int32))])) (T76.setTop (mkF m 162 #[.val (.int p0), .val (.int p1), .val (.int p2), .val (.int p3), .val (.int (0 : Int32)), .val (.int (1 : Int32)), .val (.ref b55), .val .null, .val (.ref xs_62), .val (.int (if (p3 &&& (1 : Int32)) = (0 : Int32) then (0 : Int32) else (1 : Int32))), .val (.ref b69)] [(.int (1 : Int32))])) := by
        intro t ht
        refine XS.ifNo X76.here hx rfl (hb hby at_154) rfl ((if0 _ _).trans (feq (by decide : ¬ ((1 : Int32) = (0 : Int32)))).1) ?_
        show Steps p.tables e below (T76.setTop (mkF m 157 #[.val (.int p0), .val (.int p1), .val (.int p2), .val (.int p3), .val (.int (0 : Int32)), .val (.int (1 : Int32)), .val (.ref b55), .val .null, .val (.ref xs_62), .val (.int (if (p3 &&& (1 : Int32)) = (0 : Int32) then (0 : Int32) else (1 : Int32))), .val (.ref b69)] [])) _
        refine XS.iconst X76.here hx rfl (hb hby at_157) ?_
        show Steps p.tables e below (T76.setTop (mkF m 158 #[.val (.int p0), .val (.int p1), .val (.int p2), .val (.int p3), .val (.int (0 : Int32)), .val (.int (1 : Int32)), .val (.ref b55), .val .null, .val (.ref xs_62), .val (.int (if (p3 &&& (1 : Int32)) = (0 : Int32) then (0 : Int32) else (1 : Int32))), .val (.ref b69)] [(.int (1 : Int32))])) _
        refine XS.goto X76.here hx rfl (pc0 := 158) (pc' := 162) rfl (hb hby at_158) (by decide) (by decide) ?_
        exact ht
      have hS0 : s.Since s.vm 0 := (State.WarmedH.refl s).since 0
      obtain ⟨fs, hr, hrun, hended, hW⟩ := X76.leaveW (s := s) (vm₁ := s.vm) hS0 (Nat.zero_le _) (v := some (.int (1 : Int32))) (fun h => by rw [Bd.returns] at h; cases h)
      refine ⟨_, _, pre0 _ ((goT k1 (goT k2 (goT k6 (goT k53 (goT k54 (goT k55 (goT k56 (goT k57 (goT k58 (goT k60 (goT k61 (goT k62 (goT k63 (goT k64 (goT k68 (goT k69 (goT k70 (goT k71 (goT k72 (goT k73 (goT k74 (goT k75 (goT k76 k77))))))))))))))))))))))) _ (retN X76 hx (t := .boolean) Bd.returns (by simp) (hb hby at_162) hr)), hrun, hended, _, _, rfl, ?_, hW.1, hW.2.1, hW.2.2.1, hW.2.2.2.mono (by decide) (by decide)⟩
      show Q_law Z p0 p1 p2 p3 G1 wD wn h0 n0 _ T76.heap _
      rw [eq76]
      exact ⟨rfl, N76⟩
    · have k78 : Go p.tables e below (T57.setTop (mkF m 78 #[.val (.int p0), .val (.int p1), .val (.int p2), .val (.int p3), .val (.int (if (p0 &&& (1 : Int32)) = (0 : Int32) then (0 : Int32) else (1 : Int32))), .val (.int (1 : Int32)), .val (.ref b55), .unset, .unset, .unset, .unset] [(.int (if (p0 &&& (1 : Int32)) = (0 : Int32) then (0 : Int32) else (1 : Int32)))])) (T57.setTop (mkF m 78 #[.val (.int p0), .val (.int p1), .val (.int p2), .val (.int p3), .val (.int (1 : Int32)), .val (.int (1 : Int32)), .val (.ref b55), .unset, .unset, .unset, .unset] [(.int (1 : Int32))])) := by
        simp only [if_neg hc59]; exact fun _ h => h
      have k79 : Go p.tables e below (T57.setTop (mkF m 78 #[.val (.int p0), .val (.int p1), .val (.int p2), .val (.int p3), .val (.int (1 : Int32)), .val (.int (1 : Int32)), .val (.ref b55), .unset, .unset, .unset, .unset] [(.int (1 : Int32))])) (T57.setTop (mkF m 81 #[.val (.int p0), .val (.int p1), .val (.int p2), .val (.int p3), .val (.int (1 : Int32)), .val (.int (1 : Int32)), .val (.ref b55), .unset, .unset, .unset, .unset] [])) := by
        intro t ht
        refine XS.ifNo X57.here hx rfl (hb hby at_78) rfl ((if0 _ _).trans (feq (by decide : ¬ ((1 : Int32) = (0 : Int32)))).1) ?_
        exact ht
      obtain ⟨T80, h80, X80, e80, E80, A80, D80, -, st80⟩ := newO X57 hx hZ hown (hw _ (List.mem_of_getElem? (i := 52) rfl)) (hw _ (List.mem_of_getElem? (i := 11) rfl)) (hw _ (List.mem_of_getElem? (i := 3) rfl)) e57 (g := (mkF m 81 #[.val (.int p0), .val (.int p1), .val (.int p2), .val (.int p3), .val (.int (1 : Int32)), .val (.int (1 : Int32)), .val (.ref b55), .unset, .unset, .unset, .unset] [])) rfl (hb hby at_81) (by decide) (by decide)
      obtain ⟨b80, g80⟩ : ∃ z, z = h57.size := ⟨_, rfl⟩
      rw [← g80] at A80 D80 st80
      have g_b80 : n0 ≤ b80 := Nat.le_trans Z57 (Nat.le_of_eq g80.symm)
      have sz_b80 : h0.size ≤ b80 := Nat.le_trans Kp57.1 (Nat.le_of_eq g80.symm)
      have ne_wD_b80 : wD ≠ b80 := Nat.ne_of_lt (Nat.lt_of_lt_of_le E_D_c_57.lt (Nat.le_of_eq g80.symm))
      have ne_b55_b80 : b55 ≠ b80 := Nat.ne_of_lt (Nat.lt_of_lt_of_le V57_b55.lt (Nat.le_of_eq g80.symm))
      have Kp80 : Keep h0 h80 [] := Kp57.ext E80
      have Z80 : n0 ≤ h80.size := Nat.le_trans Z57 E80.1
      have S_CS_c_80 := S_CS_c_57.ext E80
      have S_D_c_80 := S_D_c_57.ext E80
      have E_D_c_80 := E_D_c_57.ext E80
      have F_D_c_80 := F_D_c_57.ext E80
      have V57_b55_c_80 := V57_b55.ext E80
      have F_value_b80 : Fld Z h80 b80 "java/lang/String" "value" "[B" .null := D80 (Or.inr (hw _ (List.mem_of_getElem? (i := 24) rfl))) (ty := (.array .byte)) (by decide)
      have F_coder_b80 : Fld Z h80 b80 "java/lang/String" "coder" "B" (.int (0 : Int32)) := D80 (Or.inr (hw _ (List.mem_of_getElem? (i := 26) rfl))) (ty := .byte) (by decide)
      have k80 : Go p.tables e below (T57.setTop (mkF m 81 #[.val (.int p0), .val (.int p1), .val (.int p2), .val (.int p3), .val (.int (1 : Int32)), .val (.int (1 : Int32)), .val (.ref b55), .unset, .unset, .unset, .unset] [])) (T80.setTop (mkF m 84 #[.val (.int p0), .val (.int p1), .val (.int p2), .val (.int p3), .val (.int (1 : Int32)), .val (.int (1 : Int32)), .val (.ref b55), .unset, .unset, .unset, .unset] [(.ref b80)])) := st80
      have k81 : Go p.tables e below (T80.setTop (mkF m 84 #[.val (.int p0), .val (.int p1), .val (.int p2), .val (.int p3), .val (.int (1 : Int32)), .val (.int (1 : Int32)), .val (.ref b55), .unset, .unset, .unset, .unset] [(.ref b80)])) (T80.setTop (mkF m 87 #[.val (.int p0), .val (.int p1), .val (.int p2), .val (.int p3), .val (.int (1 : Int32)), .val (.int (1 : Int32)), .val (.ref b55), .unset, .unset, .unset, .unset] [(.ref b55), (.ref b80), (.ref b80)])) := by
        intro t ht
        refine XS.dup X80.here hx rfl (hb hby at_84) rfl rfl ?_
        show Steps p.tables e below (T80.setTop (mkF m 85 #[.val (.int p0), .val (.int p1), .val (.int p2), .val (.int p3), .val (.int (1 : Int32)), .val (.int (1 : Int32)), .val (.ref b55), .unset, .unset, .unset, .unset] [(.ref b80), (.ref b80)])) _
        refine XS.aload X80.here hx rfl (hb hby at_85) rfl rfl ?_
        exact ht
      have hlat82 : ∀ c ∈ ([(nar .char ((p1 &&& (255 : Int32)).toUInt32.toUInt16.toUInt32.toInt32))] : List Int32), ¬ c < 0 ∧ ¬ (255 : Int32) < c := by
        intro c hc
        simp only [List.mem_cons, List.not_mem_nil, or_false] at hc
        rcases hc with rfl
        · rw [show (nar .char ((p1 &&& (255 : Int32)).toUInt32.toUInt16.toUInt32.toInt32)) = p1 &&& 255 from by simp only [nar, i2c_mask]]; exact own_and255 _
      obtain ⟨_, _, ⟨T82, L82, kq82, n82⟩, -, X82, ⟨Lc82, hQ82, l82, y82, z82⟩, st82⟩ := X80.specialBack hx (y := (⟨"java/lang/String", "<init>", "([C)V"⟩ : MethodName)) rfl hown (mvT hZ (hw _ (List.mem_of_getElem? (i := 53) rfl))) (mvT hZ (hw _ (List.mem_of_getElem? (i := 54) rfl))) (mvT hZ (hw _ (List.mem_of_getElem? (i := 55) rfl))) (by decide) (StrChars.Road.backV (W := 1) hZ (own_words hw) (kI := 4) (hw _ (List.mem_of_getElem? (i := 11) rfl)) (cs := [(nar .char ((p1 &&& (255 : Int32)).toUInt32.toUInt16.toUInt32.toInt32))]) (bs := [((nar .char ((p1 &&& (255 : Int32)).toUInt32.toUInt16.toUInt32.toInt32))).toInt8.toInt32]) (n := 1) g_b80 Z80 A80 F_value_b80 F_coder_b80 V57_b55_c_80 S_CS_c_80 P5 rfl rfl (by decide) (by decide) hlat82 rfl (by decide) (by decide)) (g := (mkF m 87 #[.val (.int p0), .val (.int p1), .val (.int p2), .val (.int p3), .val (.int (1 : Int32)), .val (.int (1 : Int32)), .val (.ref b55), .unset, .unset, .unset, .unset] [(.ref b55), (.ref b80), (.ref b80)])) rfl (by rw [hml]; rfl) (Steps.refl _) (a := b80) (argsL := [(.ref b55)]) (rest := [(.ref b80)]) (lenOf pd_8 rfl) rfl (by show 2 * 0 + _ ≤ _; exact Nat.le_of_eq rfl) (hb hby at_87) (fun _ _ => ⟨rfl, e80, (by decide : 2 + 1 ≤ _), (by decide : 5 + 1 ≤ _)⟩)
      dsimp only [Pt.U, Pt.locs, Pt.cells, Pt.slots] at X82 l82 y82 z82 st82 hQ82
      subst l82 y82 z82
      obtain ⟨rfl, N82q, K82, Eq82, Cq82, t82, kb82, gt82, gs82, gn82, Vq82, Aq82⟩ := hQ82
      have N82 := Fr.app N57 N82q
      have k82 : Go p.tables e below (T80.setTop (mkF m 87 #[.val (.int p0), .val (.int p1), .val (.int p2), .val (.int p3), .val (.int (1 : Int32)), .val (.int (1 : Int32)), .val (.ref b55), .unset, .unset, .unset, .unset] [(.ref b55), (.ref b80), (.ref b80)])) (T82.setTop (mkF m 90 #[.val (.int p0), .val (.int p1), .val (.int p2), .val (.int p3), .val (.int (1 : Int32)), .val (.int (1 : Int32)), .val (.ref b55), .unset, .unset, .unset, .unset] [(.ref b80)])) := fun _ ht => st82.trans ht
      have Kp82 : Keep h0 T82.heap [] := Kp80.trans K82 (allS (Or.inr sz_b80) all0)
      have sz_t82 : h0.size ≤ t82 := Nat.le_trans Kp80.1 gs82
      have Z82 : n0 ≤ T82.heap.size := Nat.le_trans Z80 K82.1
      have ne_wD_t82 : wD ≠ t82 := Nat.ne_of_lt (Nat.lt_of_lt_of_le E_D_c_80.lt gs82)
      have ne_b55_t82 : b55 ≠ t82 := Nat.ne_of_lt (Nat.lt_of_lt_of_le V57_b55_c_80.lt gs82)
      have ne_b80_t82 : b80 ≠ t82 := Nat.ne_of_lt (Nat.lt_of_lt_of_le A80.lt gs82)
      have g_t82 : n0 ≤ t82 := gt82
      have S_CS_c_82 := own_sta_keep S_CS_c_80 A80 K82
      have S_D_c_82 := own_sta_keep S_D_c_80 A80 K82
      have E_D_c_82 := E_D_c_80.keep K82
      have F_D_c_82 := F_D_c_80.keep K82 (ninS ne_wD_b80 nin0)
      have V57_b55_c_82 := V57_b55_c_80.keep K82 (ninS ne_b55_b80 nin0)
      have A80_c_82 := A80.keep K82
      have k83 : Go p.tables e below (T82.setTop (mkF m 90 #[.val (.int p0), .val (.int p1), .val (.int p2), .val (.int p3), .val (.int (1 : Int32)), .val (.int (1 : Int32)), .val (.ref b55), .unset, .unset, .unset, .unset] [(.ref b80)])) (T82.setTop (mkF m 105 #[.val (.int p0), .val (.int p1), .val (.int p2), .val (.int p3), .val (.int (1 : Int32)), .val (.int (1 : Int32)), .val (.ref b55), .val (.ref b80), .unset, .unset, .unset] [(.int ((((p2.toUInt32 >>> ((8 : Int32) &&& 31).toUInt32).toInt32) &&& (255 : Int32)).toUInt32.toUInt16.toUInt32.toInt32))])) := by
        intro t ht
        refine XS.goto X82.here hx rfl (pc0 := 90) (pc' := 94) rfl (hb hby at_90) (by decide) (by decide) ?_
        show Steps p.tables e below (T82.setTop (mkF m 94 #[.val (.int p0), .val (.int p1), .val (.int p2), .val (.int p3), .val (.int (1 : Int32)), .val (.int (1 : Int32)), .val (.ref b55), .unset, .unset, .unset, .unset] [(.ref b80)])) _
        refine XS.astore X82.here hx rfl (hb hby at_94) rfl rfl (l' := #[.val (.int p0), .val (.int p1), .val (.int p2), .val (.int p3), .val (.int (1 : Int32)), .val (.int (1 : Int32)), .val (.ref b55), .val (.ref b80), .unset, .unset, .unset]) rfl ?_
        show Steps p.tables e below (T82.setTop (mkF m 96 #[.val (.int p0), .val (.int p1), .val (.int p2), .val (.int p3), .val (.int (1 : Int32)), .val (.int (1 : Int32)), .val (.ref b55), .val (.ref b80), .unset, .unset, .unset] [])) _
        refine XS.iloadN X82.here hx rfl (hb hby at_96) rfl ?_
        show Steps p.tables e below (T82.setTop (mkF m 97 #[.val (.int p0), .val (.int p1), .val (.int p2), .val (.int p3), .val (.int (1 : Int32)), .val (.int (1 : Int32)), .val (.ref b55), .val (.ref b80), .unset, .unset, .unset] [(.int p2)])) _
        refine XS.bipush X82.here hx rfl (hb hby at_97) ?_
        show Steps p.tables e below (T82.setTop (mkF m 99 #[.val (.int p0), .val (.int p1), .val (.int p2), .val (.int p3), .val (.int (1 : Int32)), .val (.int (1 : Int32)), .val (.ref b55), .val (.ref b80), .unset, .unset, .unset] [(.int (8 : Int32)), (.int p2)])) _
        refine XS.iushr X82.here hx rfl (hb hby at_99) rfl ?_
        show Steps p.tables e below (T82.setTop (mkF m 100 #[.val (.int p0), .val (.int p1), .val (.int p2), .val (.int p3), .val (.int (1 : Int32)), .val (.int (1 : Int32)), .val (.ref b55), .val (.ref b80), .unset, .unset, .unset] [(.int ((p2.toUInt32 >>> ((8 : Int32) &&& 31).toUInt32).toInt32))])) _
        refine XS.sipush X82.here hx rfl (hb hby at_100) ?_
        show Steps p.tables e below (T82.setTop (mkF m 103 #[.val (.int p0), .val (.int p1), .val (.int p2), .val (.int p3), .val (.int (1 : Int32)), .val (.int (1 : Int32)), .val (.ref b55), .val (.ref b80), .unset, .unset, .unset] [(.int (255 : Int32)), (.int ((p2.toUInt32 >>> ((8 : Int32) &&& 31).toUInt32).toInt32))])) _
        refine XS.iand X82.here hx rfl (hb hby at_103) rfl ?_
        show Steps p.tables e below (T82.setTop (mkF m 104 #[.val (.int p0), .val (.int p1), .val (.int p2), .val (.int p3), .val (.int (1 : Int32)), .val (.int (1 : Int32)), .val (.ref b55), .val (.ref b80), .unset, .unset, .unset] [(.int (((p2.toUInt32 >>> ((8 : Int32) &&& 31).toUInt32).toInt32) &&& (255 : Int32)))])) _
        refine XS.i2c X82.here hx rfl (hb hby at_104) rfl ?_
        exact ht
      obtain ⟨_, _, ⟨T84, L84, kq84, n84⟩, -, X84, ⟨Lc84, hQ84, l84, y84, z84⟩, st84⟩ := Jvm.LawKit.callS X82 hx (y := (⟨"java/lang/String", "valueOf", "(C)Ljava/lang/String;"⟩ : MethodName)) hown (mvT hZ (hw _ (List.mem_of_getElem? (i := 1) rfl))) (mvT hZ (hw _ (List.mem_of_getElem? (i := 2) rfl))) (mvT hZ (hw _ (List.mem_of_getElem? (i := 3) rfl))) (mvT hZ (hw _ (List.mem_of_getElem? (i := 4) rfl))) (by decide) (backOf (W := 0) (rm_valueOf l Z a0 hw [] ((((p2.toUInt32 >>> ((8 : Int32) &&& 31).toUInt32).toInt32) &&& (255 : Int32)).toUInt32.toUInt16.toUInt32.toInt32) G1 T82.heap n0 Z82 S_CS_c_82 (P5 : ¬ (G1 = (0 : Int32))) (own_c255 _ : ¬ ((255 : Int32) < ((((p2.toUInt32 >>> ((8 : Int32) &&& 31).toUInt32).toInt32) &&& (255 : Int32)).toUInt32.toUInt16.toUInt32.toInt32)))) hZ (hw _ (List.mem_of_getElem? (i := 4) rfl)) (hw _ (List.mem_of_getElem? (i := 3) rfl)) (by decide) (by decide)) (g := (mkF m 105 #[.val (.int p0), .val (.int p1), .val (.int p2), .val (.int p3), .val (.int (1 : Int32)), .val (.int (1 : Int32)), .val (.ref b55), .val (.ref b80), .unset, .unset, .unset] [(.int ((((p2.toUInt32 >>> ((8 : Int32) &&& 31).toUInt32).toInt32) &&& (255 : Int32)).toUInt32.toUInt16.toUInt32.toInt32))])) rfl (by rw [hml]; rfl) (argsL := [(.int ((((p2.toUInt32 >>> ((8 : Int32) &&& 31).toUInt32).toInt32) &&& (255 : Int32)).toUInt32.toUInt16.toUInt32.toInt32))]) (rest := []) (lenOf pd_5 rfl) rfl (by show 2 * 0 + _ ≤ _; exact Nat.le_of_eq rfl) (hb hby at_105) (fun _ _ => ⟨rfl, rfl, (by decide : 3 + 2 ≤ _), (by decide : 6 + 5 ≤ _)⟩)
      dsimp only [Pt.U, Pt.locs, Pt.cells, Pt.slots] at X84 l84 y84 z84 st84 hQ84
      subst l84 y84 z84
      obtain ⟨xs_84, xb_84, xk_84, rfl, N84q, K84, Pq84_0, Pq84_1, Fq84_0, Fq84_1, Fq84_2, Fq84_3⟩ := hQ84
      have N84 := Fr.app N82 N84q
      have k84 : Go p.tables e below (T82.setTop (mkF m 105 #[.val (.int p0), .val (.int p1), .val (.int p2), .val (.int p3), .val (.int (1 : Int32)), .val (.int (1 : Int32)), .val (.ref b55), .val (.ref b80), .unset, .unset, .unset] [(.int ((((p2.toUInt32 >>> ((8 : Int32) &&& 31).toUInt32).toInt32) &&& (255 : Int32)).toUInt32.toUInt16.toUInt32.toInt32))])) (T84.setTop (mkF m 108 #[.val (.int p0), .val (.int p1), .val (.int p2), .val (.int p3), .val (.int (1 : Int32)), .val (.int (1 : Int32)), .val (.ref b55), .val (.ref b80), .unset, .unset, .unset] [(.ref xs_84)])) := st84
      have Kp84 : Keep h0 T84.heap [] := Kp82.trans K84 all0
      have Z84 : n0 ≤ T84.heap.size := Nat.le_trans Z82 K84.1
      have ne_wD_xs_84 : wD ≠ xs_84 := Nat.ne_of_lt (Nat.lt_of_lt_of_le E_D_c_82.lt Pq84_0)
      have ne_b55_xs_84 : b55 ≠ xs_84 := Nat.ne_of_lt (Nat.lt_of_lt_of_le V57_b55_c_82.lt Pq84_0)
      have ne_b80_xs_84 : b80 ≠ xs_84 := Nat.ne_of_lt (Nat.lt_of_lt_of_le Eq82.lt Pq84_0)
      have ne_t82_xs_84 : t82 ≠ xs_84 := Nat.ne_of_lt (Nat.lt_of_lt_of_le Aq82.lt Pq84_0)
      have g_xs_84 : n0 ≤ xs_84 := Nat.le_trans Z82 Pq84_0
      have sz_xs_84 : h0.size ≤ xs_84 := Nat.le_trans Kp82.1 Pq84_0
      have ne_wD_xb_84 : wD ≠ xb_84 := Nat.ne_of_lt (Nat.lt_of_lt_of_le E_D_c_82.lt Pq84_1)
      have ne_b55_xb_84 : b55 ≠ xb_84 := Nat.ne_of_lt (Nat.lt_of_lt_of_le V57_b55_c_82.lt Pq84_1)
      have ne_b80_xb_84 : b80 ≠ xb_84 := Nat.ne_of_lt (Nat.lt_of_lt_of_le Eq82.lt Pq84_1)
      have ne_t82_xb_84 : t82 ≠ xb_84 := Nat.ne_of_lt (Nat.lt_of_lt_of_le Aq82.lt Pq84_1)
      have g_xb_84 : n0 ≤ xb_84 := Nat.le_trans Z82 Pq84_1
      have sz_xb_84 : h0.size ≤ xb_84 := Nat.le_trans Kp82.1 Pq84_1
      have S_CS_c_84 := own_sta_keep0 S_CS_c_82 K84
      have S_D_c_84 := own_sta_keep0 S_D_c_82 K84
      have E_D_c_84 := E_D_c_82.keep K84
      have F_D_c_84 := F_D_c_82.keep K84 nin0
      have V57_b55_c_84 := V57_b55_c_82.keep K84 nin0
      have Eq82_c_84 := Eq82.keep K84
      have Cq82_c_84 := Cq82.keep K84 nin0
      have Vq82_c_84 := Vq82.keep K84 nin0
      have Aq82_c_84 := Aq82.keep K84 nin0
      have k85 : Go p.tables e below (T84.setTop (mkF m 108 #[.val (.int p0), .val (.int p1), .val (.int p2), .val (.int p3), .val (.int (1 : Int32)), .val (.int (1 : Int32)), .val (.ref b55), .val (.ref b80), .unset, .unset, .unset] [(.ref xs_84)])) (T84.setTop (mkF m 113 #[.val (.int p0), .val (.int p1), .val (.int p2), .val (.int p3), .val (.int (1 : Int32)), .val (.int (1 : Int32)), .val (.ref b55), .val (.ref b80), .val (.ref xs_84), .unset, .unset] [(.int (p3 &&& (1 : Int32)))])) := by
        intro t ht
        refine XS.astore X84.here hx rfl (hb hby at_108) rfl rfl (l' := #[.val (.int p0), .val (.int p1), .val (.int p2), .val (.int p3), .val (.int (1 : Int32)), .val (.int (1 : Int32)), .val (.ref b55), .val (.ref b80), .val (.ref xs_84), .unset, .unset]) rfl ?_
        show Steps p.tables e below (T84.setTop (mkF m 110 #[.val (.int p0), .val (.int p1), .val (.int p2), .val (.int p3), .val (.int (1 : Int32)), .val (.int (1 : Int32)), .val (.ref b55), .val (.ref b80), .val (.ref xs_84), .unset, .unset] [])) _
        refine XS.iloadN X84.here hx rfl (hb hby at_110) rfl ?_
        show Steps p.tables e below (T84.setTop (mkF m 111 #[.val (.int p0), .val (.int p1), .val (.int p2), .val (.int p3), .val (.int (1 : Int32)), .val (.int (1 : Int32)), .val (.ref b55), .val (.ref b80), .val (.ref xs_84), .unset, .unset] [(.int p3)])) _
        refine XS.iconst X84.here hx rfl (hb hby at_111) ?_
        show Steps p.tables e below (T84.setTop (mkF m 112 #[.val (.int p0), .val (.int p1), .val (.int p2), .val (.int p3), .val (.int (1 : Int32)), .val (.int (1 : Int32)), .val (.ref b55), .val (.ref b80), .val (.ref xs_84), .unset, .unset] [(.int (1 : Int32)), (.int p3)])) _
        refine XS.iand X84.here hx rfl (hb hby at_112) rfl ?_
        exact ht
      have k86 : Go p.tables e below (T84.setTop (mkF m 113 #[.val (.int p0), .val (.int p1), .val (.int p2), .val (.int p3), .val (.int (1 : Int32)), .val (.int (1 : Int32)), .val (.ref b55), .val (.ref b80), .val (.ref xs_84), .unset, .unset] [(.int (p3 &&& (1 : Int32)))])) (T84.setTop (mkF m 121 #[.val (.int p0), .val (.int p1), .val (.int p2), .val (.int p3), .val (.int (1 : Int32)), .val (.int (1 : Int32)), .val (.ref b55), .val (.ref b80), .val (.ref xs_84), .unset, .unset] [(.int (if (p3 &&& (1 : Int32)) = (0 : Int32) then (0 : Int32) else (1 : Int32)))])) := by
        by_cases hc87 : (p3 &&& (1 : Int32)) = (0 : Int32)
        · have k88 : Go p.tables e below (T84.setTop (mkF m 113 #[.val (.int p0), .val (.int p1), .val (.int p2), .val (.int p3), .val (.int (1 : Int32)), .val (.int (1 : Int32)), .val (.ref b55), .val (.ref b80), .val (.ref xs_84), .unset, .unset] [(.int (p3 &&& (1 : Int32)))])) (T84.setTop (mkF m 121 #[.val (.int p0), .val (.int p1), .val (.int p2), .val (.int p3), .val (.int (1 : Int32)), .val (.int (1 : Int32)), .val (.ref b55), .val (.ref b80), .val (.ref xs_84), .unset, .unset] [(.int (0 : Int32))])) := by
            intro t ht
            refine XS.ifYes X84.here hx rfl (pc0 := 113) (pc' := 120) rfl (hb hby at_113) rfl ((if0 _ _).trans (teq hc87).1) (by decide) (by decide) ?_
            show Steps p.tables e below (T84.setTop (mkF m 120 #[.val (.int p0), .val (.int p1), .val (.int p2), .val (.int p3), .val (.int (1 : Int32)), .val (.int (1 : Int32)), .val (.ref b55), .val (.ref b80), .val (.ref xs_84), .unset, .unset] [])) _
            refine XS.iconst X84.here hx rfl (hb hby at_120) ?_
            exact ht
          have kk := k88
          simpa only [if_neg P5, if_neg hc59, if_pos hc87] using kk
        · have k89 : Go p.tables e below (T84.setTop (mkF m 113 #[.val (.int p0), .val (.int p1), .val (.int p2), .val (.int p3), .val (.int (1 : Int32)), .val (.int (1 : Int32)), .val (.ref b55), .val (.ref b80), .val (.ref xs_84), .unset, .unset] [(.int (p3 &&& (1 : Int32)))])) (T84.setTop (mkF m 121 #[.val (.int p0), .val (.int p1), .val (.int p2), .val (.int p3), .val (.int (1 : Int32)), .val (.int (1 : Int32)), .val (.ref b55), .val (.ref b80), .val (.ref xs_84), .unset, .unset] [(.int (1 : Int32))])) := by
            intro t ht
            refine XS.ifNo X84.here hx rfl (hb hby at_113) rfl ((if0 _ _).trans (feq hc87).1) ?_
            show Steps p.tables e below (T84.setTop (mkF m 116 #[.val (.int p0), .val (.int p1), .val (.int p2), .val (.int p3), .val (.int (1 : Int32)), .val (.int (1 : Int32)), .val (.ref b55), .val (.ref b80), .val (.ref xs_84), .unset, .unset] [])) _
            refine XS.iconst X84.here hx rfl (hb hby at_116) ?_
            show Steps p.tables e below (T84.setTop (mkF m 117 #[.val (.int p0), .val (.int p1), .val (.int p2), .val (.int p3), .val (.int (1 : Int32)), .val (.int (1 : Int32)), .val (.ref b55), .val (.ref b80), .val (.ref xs_84), .unset, .unset] [(.int (1 : Int32))])) _
            refine XS.goto X84.here hx rfl (pc0 := 117) (pc' := 121) rfl (hb hby at_117) (by decide) (by decide) ?_
            exact ht
          have kk := k89
          simpa only [if_neg P5, if_neg hc59, if_neg hc87] using kk
      have k90 : Go p.tables e below (T84.setTop (mkF m 121 #[.val (.int p0), .val (.int p1), .val (.int p2), .val (.int p3), .val (.int (1 : Int32)), .val (.int (1 : Int32)), .val (.ref b55), .val (.ref b80), .val (.ref xs_84), .unset, .unset] [(.int (if (p3 &&& (1 : Int32)) = (0 : Int32) then (0 : Int32) else (1 : Int32)))])) (T84.setTop (mkF m 123 #[.val (.int p0), .val (.int p1), .val (.int p2), .val (.int p3), .val (.int (1 : Int32)), .val (.int (1 : Int32)), .val (.ref b55), .val (.ref b80), .val (.ref xs_84), .val (.int (if (p3 &&& (1 : Int32)) = (0 : Int32) then (0 : Int32) else (1 : Int32))), .unset] [])) := by
        intro t ht
        refine XS.istore X84.here hx rfl (hb hby at_121) rfl (l' := #[.val (.int p0), .val (.int p1), .val (.int p2), .val (.int p3), .val (.int (1 : Int32)), .val (.int (1 : Int32)), .val (.ref b55), .val (.ref b80), .val (.ref xs_84), .val (.int (if (p3 &&& (1 : Int32)) = (0 : Int32) then (0 : Int32) else (1 : Int32))), .unset]) rfl ?_
        exact ht
      obtain ⟨T91, h91, X91, e91, E91, A91, D91, -, st91⟩ := newO X84 hx hZ hown (hw _ (List.mem_of_getElem? (i := 27) rfl)) (hw _ (List.mem_of_getElem? (i := 28) rfl)) (hw _ (List.mem_of_getElem? (i := 29) rfl)) rfl (g := (mkF m 123 #[.val (.int p0), .val (.int p1), .val (.int p2), .val (.int p3), .val (.int (1 : Int32)), .val (.int (1 : Int32)), .val (.ref b55), .val (.ref b80), .val (.ref xs_84), .val (.int (if (p3 &&& (1 : Int32)) = (0 : Int32) then (0 : Int32) else (1 : Int32))), .unset] [])) rfl (hb hby at_123) (by decide) (by decide)
      obtain ⟨b91, g91⟩ : ∃ z, z = T84.heap.size := ⟨_, rfl⟩
      rw [← g91] at A91 D91 st91
      have g_b91 : n0 ≤ b91 := Nat.le_trans Z84 (Nat.le_of_eq g91.symm)
      have sz_b91 : h0.size ≤ b91 := Nat.le_trans Kp84.1 (Nat.le_of_eq g91.symm)
      have ne_wD_b91 : wD ≠ b91 := Nat.ne_of_lt (Nat.lt_of_lt_of_le E_D_c_84.lt (Nat.le_of_eq g91.symm))
      have ne_b55_b91 : b55 ≠ b91 := Nat.ne_of_lt (Nat.lt_of_lt_of_le V57_b55_c_84.lt (Nat.le_of_eq g91.symm))
      have ne_b80_b91 : b80 ≠ b91 := Nat.ne_of_lt (Nat.lt_of_lt_of_le Eq82_c_84.lt (Nat.le_of_eq g91.symm))
      have ne_t82_b91 : t82 ≠ b91 := Nat.ne_of_lt (Nat.lt_of_lt_of_le Aq82_c_84.lt (Nat.le_of_eq g91.symm))
      have ne_xs_84_b91 : xs_84 ≠ b91 := Nat.ne_of_lt (Nat.lt_of_lt_of_le Fq84_0.lt (Nat.le_of_eq g91.symm))
      have ne_xb_84_b91 : xb_84 ≠ b91 := Nat.ne_of_lt (Nat.lt_of_lt_of_le Fq84_3.lt (Nat.le_of_eq g91.symm))
      have Kp91 : Keep h0 h91 [] := Kp84.ext E91
      have Z91 : n0 ≤ h91.size := Nat.le_trans Z84 E91.1
      have S_CS_c_91 := S_CS_c_84.ext E91
      have S_D_c_91 := S_D_c_84.ext E91
      have E_D_c_91 := E_D_c_84.ext E91
      have F_D_c_91 := F_D_c_84.ext E91
      have V57_b55_c_91 := V57_b55_c_84.ext E91
      have Eq82_c_91 := Eq82_c_84.ext E91
      have Cq82_c_91 := Cq82_c_84.ext E91
      have Vq82_c_91 := Vq82_c_84.ext E91
      have Aq82_c_91 := Aq82_c_84.ext E91
      have Fq84_0_c_91 := Fq84_0.ext E91
      have Fq84_1_c_91 := Fq84_1.ext E91
      have Fq84_2_c_91 := Fq84_2.ext E91
      have Fq84_3_c_91 := Fq84_3.ext E91
      have F_nameColumn_b91 : Fld Z h91 b91 "com/example/plain_keys/plainkeys/dialect/KeyTableLayout" "nameColumn" "Ljava/lang/String;" .null := D91 (Or.inr (hw _ (List.mem_of_getElem? (i := 40) rfl))) (ty := (.object "java/lang/String")) (by decide)
      have F_valueColumn_b91 : Fld Z h91 b91 "com/example/plain_keys/plainkeys/dialect/KeyTableLayout" "valueColumn" "Ljava/lang/String;" .null := D91 (Or.inr (hw _ (List.mem_of_getElem? (i := 42) rfl))) (ty := (.object "java/lang/String")) (by decide)
      have F_valueIsLastKey_b91 : Fld Z h91 b91 "com/example/plain_keys/plainkeys/dialect/KeyTableLayout" "valueIsLastKey" "Z" (.int (0 : Int32)) := D91 (Or.inr (hw _ (List.mem_of_getElem? (i := 44) rfl))) (ty := .boolean) (by decide)
      have k91 : Go p.tables e below (T84.setTop (mkF m 123 #[.val (.int p0), .val (.int p1), .val (.int p2), .val (.int p3), .val (.int (1 : Int32)), .val (.int (1 : Int32)), .val (.ref b55), .val (.ref b80), .val (.ref xs_84), .val (.int (if (p3 &&& (1 : Int32)) = (0 : Int32) then (0 : Int32) else (1 : Int32))), .unset] [])) (T91.setTop (mkF m 126 #[.val (.int p0), .val (.int p1), .val (.int p2), .val (.int p3), .val (.int (1 : Int32)), .val (.int (1 : Int32)), .val (.ref b55), .val (.ref b80), .val (.ref xs_84), .val (.int (if (p3 &&& (1 : Int32)) = (0 : Int32) then (0 : Int32) else (1 : Int32))), .unset] [(.ref b91)])) := st91
      have k92 : Go p.tables e below (T91.setTop (mkF m 126 #[.val (.int p0), .val (.int p1), .val (.int p2), .val (.int p3), .val (.int (1 : Int32)), .val (.int (1 : Int32)), .val (.ref b55), .val (.ref b80), .val (.ref xs_84), .val (.int (if (p3 &&& (1 : Int32)) = (0 : Int32) then (0 : Int32) else (1 : Int32))), .unset] [(.ref b91)])) (T91.setTop (mkF m 133 #[.val (.int p0), .val (.int p1), .val (.int p2), .val (.int p3), .val (.int (1 : Int32)), .val (.int (1 : Int32)), .val (.ref b55), .val (.ref b80), .val (.ref xs_84), .val (.int (if (p3 &&& (1 : Int32)) = (0 : Int32) then (0 : Int32) else (1 : Int32))), .unset] [(.int (if (p3 &&& (1 : Int32)) = (0 : Int32) then (0 : Int32) else (1 : Int32))), (.ref xs_84), (.ref b80), (.ref b91), (.ref b91)])) := by
        intro t ht
        refine XS.dup X91.here hx rfl (hb hby at_126) rfl rfl ?_
        show Steps p.tables e below (T91.setTop (mkF m 127 #[.val (.int p0), .val (.int p1), .val (.int p2), .val (.int p3), .val (.int (1 : Int32)), .val (.int (1 : Int32)), .val (.ref b55), .val (.ref b80), .val (.ref xs_84), .val (.int (if (p3 &&& (1 : Int32)) = (0 : Int32) then (0 : Int32) else (1 : Int32))), .unset] [(.ref b91), (.ref b91)])) _
        refine XS.aload X91.here hx rfl (hb hby at_127) rfl rfl ?_
        show Steps p.tables e below (T91.setTop (mkF m 129 #[.val (.int p0), .val (.int p1), .val (.int p2), .val (.int p3), .val (.int (1 : Int32)), .val (.int (1 : Int32)), .val (.ref b55), .val (.ref b80), .val (.ref xs_84), .val (.int (if (p3 &&& (1 : Int32)) = (0 : Int32) then (0 : Int32) else (1 : Int32))), .unset] [(.ref b80), (.ref b91), (.ref b91)])) _
        refine XS.aload X91.here hx rfl (hb hby at_129) rfl rfl ?_
        show Steps p.tables e below (T91.setTop (mkF m 131 #[.val (.int p0), .val (.int p1), .val (.int p2), .val (.int p3), .val (.int (1 : Int32)), .val (.int (1 : Int32)), .val (.ref b55), .val (.ref b80), .val (.ref xs_84), .val (.int (if (p3 &&& (1 : Int32)) = (0 : Int32) then (0 : Int32) else (1 : Int32))), .unset] [(.ref xs_84), (.ref b80), (.ref b91), (.ref b91)])) _
        refine XS.iload X91.here hx rfl (hb hby at_131) rfl ?_
        exact ht
      obtain ⟨_, _, ⟨T93, L93, kq93, n93⟩, -, X93, ⟨Lc93, hQ93, l93, y93, z93⟩, st93⟩ := X91.specialBack hx (y := (⟨"com/example/plain_keys/plainkeys/dialect/KeyTableLayout", "<init>", "(Ljava/lang/String;Ljava/lang/String;Z)V"⟩ : MethodName)) rfl hown (mvT hZ (hw _ (List.mem_of_getElem? (i := 30) rfl))) (mvT hZ (hw _ (List.mem_of_getElem? (i := 31) rfl))) (mvT hZ (hw _ (List.mem_of_getElem? (i := 32) rfl))) (by decide) (backOf (W := 1) (rm_init l Z a0 hw [] b91 b80 xs_84 (if (p3 &&& (1 : Int32)) = (0 : Int32) then (0 : Int32) else (1 : Int32)) h91 n0 Z91 F_nameColumn_b91 F_valueColumn_b91 F_valueIsLastKey_b91 A91 g_b91) hZ (hw _ (List.mem_of_getElem? (i := 32) rfl)) (hw _ (List.mem_of_getElem? (i := 29) rfl)) (by decide) (by decide)) (g := (mkF m 133 #[.val (.int p0), .val (.int p1), .val (.int p2), .val (.int p3), .val (.int (1 : Int32)), .val (.int (1 : Int32)), .val (.ref b55), .val (.ref b80), .val (.ref xs_84), .val (.int (if (p3 &&& (1 : Int32)) = (0 : Int32) then (0 : Int32) else (1 : Int32))), .unset] [(.int (if (p3 &&& (1 : Int32)) = (0 : Int32) then (0 : Int32) else (1 : Int32))), (.ref xs_84), (.ref b80), (.ref b91), (.ref b91)])) rfl (by rw [hml]; rfl) (Steps.refl _) (a := b91) (argsL := [(.ref b80), (.ref xs_84), (.int (if (p3 &&& (1 : Int32)) = (0 : Int32) then (0 : Int32) else (1 : Int32)))]) (rest := [(.ref b91)]) (lenOf pd_6 rfl) rfl (by show 2 * 0 + _ ≤ _; exact Nat.le_of_eq rfl) (hb hby at_133) (fun _ _ => ⟨rfl, e91, (by decide : 6 + 0 ≤ _), (by decide : 14 + 0 ≤ _)⟩)
      dsimp only [Pt.U, Pt.locs, Pt.cells, Pt.slots] at X93 l93 y93 z93 st93 hQ93
      subst l93 y93 z93
      obtain ⟨rfl, N93q, K93, Fq93_0, Fq93_1, Fq93_2, Fq93_3⟩ := hQ93
      have N93 := Fr.app N84 N93q
      have k93 : Go p.tables e below (T91.setTop (mkF m 133 #[.val (.int p0), .val (.int p1), .val (.int p2), .val (.int p3), .val (.int (1 : Int32)), .val (.int (1 : Int32)), .val (.ref b55), .val (.ref b80), .val (.ref xs_84), .val (.int (if (p3 &&& (1 : Int32)) = (0 : Int32) then (0 : Int32) else (1 : Int32))), .unset] [(.int (if (p3 &&& (1 : Int32)) = (0 : Int32) then (0 : Int32) else (1 : Int32))), (.ref xs_84), (.ref b80), (.ref b91), (.ref b91)])) (T93.setTop (mkF m 136 #[.val (.int p0), .val (.int p1), .val (.int p2), .val (.int p3), .val (.int (1 : Int32)), .val (.int (1 : Int32)), .val (.ref b55), .val (.ref b80), .val (.ref xs_84), .val (.int (if (p3 &&& (1 : Int32)) = (0 : Int32) then (0 : Int32) else (1 : Int32))), .unset] [(.ref b91)])) := fun _ ht => st93.trans ht
      have Kp93 : Keep h0 T93.heap [] := Kp91.trans K93 (allS (Or.inr sz_b91) all0)
      have Z93 : n0 ≤ T93.heap.size := Nat.le_trans Z91 K93.1
      have S_CS_c_93 := own_sta_keep S_CS_c_91 A91 K93
      have S_D_c_93 := own_sta_keep S_D_c_91 A91 K93
      have E_D_c_93 := E_D_c_91.keep K93
      have F_D_c_93 := F_D_c_91.keep K93 (ninS ne_wD_b91 nin0)
      have V57_b55_c_93 := V57_b55_c_91.keep K93 (ninS ne_b55_b91 nin0)
      have Eq82_c_93 := Eq82_c_91.keep K93
      have Cq82_c_93 := Cq82_c_91.keep K93 (ninS ne_b80_b91 nin0)
      have Vq82_c_93 := Vq82_c_91.keep K93 (ninS ne_b80_b91 nin0)
      have Aq82_c_93 := Aq82_c_91.keep K93 (ninS ne_t82_b91 nin0)
      have Fq84_0_c_93 := Fq84_0_c_91.keep K93
      have Fq84_1_c_93 := Fq84_1_c_91.keep K93 (ninS ne_xs_84_b91 nin0)
      have Fq84_2_c_93 := Fq84_2_c_91.keep K93 (ninS ne_xs_84_b91 nin0)
      have Fq84_3_c_93 := Fq84_3_c_91.keep K93 (ninS ne_xb_84_b91 nin0)
      have A91_c_93 := A91.keep K93
      have k94 : Go p.tables e below (T93.setTop (mkF m 136 #[.val (.int p0), .val (.int p1), .val (.int p2), .val (.int p3), .val (.int (1 : Int32)), .val (.int (1 : Int32)), .val (.ref b55), .val (.ref b80), .val (.ref xs_84), .val (.int (if (p3 &&& (1 : Int32)) = (0 : Int32) then (0 : Int32) else (1 : Int32))), .unset] [(.ref b91)])) (T93.setTop (mkF m 140 #[.val (.int p0), .val (.int p1), .val (.int p2), .val (.int p3), .val (.int (1 : Int32)), .val (.int (1 : Int32)), .val (.ref b55), .val (.ref b80), .val (.ref xs_84), .val (.int (if (p3 &&& (1 : Int32)) = (0 : Int32) then (0 : Int32) else (1 : Int32))), .val (.ref b91)] [(.ref b91)])) := by
        intro t ht
        refine XS.astore X93.here hx rfl (hb hby at_136) rfl rfl (l' := #[.val (.int p0), .val (.int p1), .val (.int p2), .val (.int p3), .val (.int (1 : Int32)), .val (.int (1 : Int32)), .val (.ref b55), .val (.ref b80), .val (.ref xs_84), .val (.int (if (p3 &&& (1 : Int32)) = (0 : Int32) then (0 : Int32) else (1 : Int32))), .val (.ref b91)]) rfl ?_
        show Steps p.tables e below (T93.setTop (mkF m 138 #[.val (.int p0), .val (.int p1), .val (.int p2), .val (.int p3), .val (.int (1 : Int32)), .val (.int (1 : Int32)), .val (.ref b55), .val (.ref b80), .val (.ref xs_84), .val (.int (if (p3 &&& (1 : Int32)) = (0 : Int32) then (0 : Int32) else (1 : Int32))), .val (.ref b91)] [])) _
        refine XS.aload X93.here hx rfl (hb hby at_138) rfl rfl ?_
        exact ht
      obtain ⟨cq95, kq95, q95a, q95b, q95c⟩ := isOf hZ rfl Fq93_0
      obtain ⟨_, _, ⟨T95, L95, kq95, n95⟩, -, X95, ⟨Lc95, hQ95, l95, y95, z95⟩, st95⟩ := X93.virtualBack hx (y := (⟨"com/example/plain_keys/plainkeys/dialect/KeyTableLayout", "namesRows", "()Z"⟩ : MethodName)) (z := (⟨"com/example/plain_keys/plainkeys/dialect/KeyTableLayout", "namesRows", "()Z"⟩ : MethodName)) hown (mvT hZ (hw _ (List.mem_of_getElem? (i := 45) rfl))) (mvT hZ (hw _ (List.mem_of_getElem? (i := 46) rfl))) (notFace_of_selects (args := #[]) (mvT hZ (hw _ (List.mem_of_getElem? (i := 48) rfl)))) (mvT hZ (hw _ (List.mem_of_getElem? (i := 48) rfl))) (mvT hZ (hw _ (List.mem_of_getElem? (i := 47) rfl))) (by decide) (backOf (W := 0) (rm_rows1 l Z a0 hw [] b91 b80 T93.heap n0 Z93 Fq93_1) hZ (hw _ (List.mem_of_getElem? (i := 49) rfl)) (hw _ (List.mem_of_getElem? (i := 29) rfl)) (by decide) (by decide)) q95a q95c (g := (mkF m 140 #[.val (.int p0), .val (.int p1), .val (.int p2), .val (.int p3), .val (.int (1 : Int32)), .val (.int (1 : Int32)), .val (.ref b55), .val (.ref b80), .val (.ref xs_84), .val (.int (if (p3 &&& (1 : Int32)) = (0 : Int32) then (0 : Int32) else (1 : Int32))), .val (.ref b91)] [(.ref b91)])) rfl (by rw [hml]; rfl) (Steps.refl _) (argsL := []) (rest := []) (lenOf pd_7 rfl) rfl (by show 2 * 0 + _ ≤ _; exact Nat.le_of_eq rfl) (hb hby at_140) (fun _ _ => ⟨rfl, rfl, (by decide : 6 + 0 ≤ _), (by decide : 14 + 0 ≤ _)⟩)
      dsimp only [Pt.U, Pt.locs, Pt.cells, Pt.slots] at X95 l95 y95 z95 st95 hQ95
      subst l95 y95 z95
      obtain ⟨rfl, N95q, eq95⟩ := hQ95
      have N95 := Fr.app N93 N95q
      have k95 : Go p.tables e below (T93.setTop (mkF m 140 #[.val (.int p0), .val (.int p1), .val (.int p2), .val (.int p3), .val (.int (1 : Int32)), .val (.int (1 : Int32)), .val (.ref b55), .val (.ref b80), .val (.ref xs_84), .val (.int (if (p3 &&& (1 : Int32)) = (0 : Int32) then (0 : Int32) else (1 : Int32))), .val (.ref b91)] [(.ref b91)])) (T95.setTop (mkF m 143 #[.val (.int p0), .val (.int p1), .val (.int p2), .val (.int p3), .val (.int (1 : Int32)), .val (.int (1 : Int32)), .val (.ref b55), .val (.ref b80), .val (.ref xs_84), .val (.int (if (p3 &&& (1 : Int32)) = (0 : Int32) then (0 : Int32) else (1 : Int32))), .val (.ref b91)] [(.int (1 : Int32))])) := fun _ ht => st95.trans ht
      have k96 : Go p.tables e below (T95.setTop (mkF m 143 #[.val (.int p0), .val (.int p1), .val (.int p2), .val (.int p3), .val (.int (1 : Int32)), .val (.int (1 : Int32)), .val (.ref b55), .val (.ref b80), .val (.ref xs_84), .val (.int (if (p3 &&& (1 : Int32)) = (0 : Int32) then (0 : Int32) else (1 : Int32))), .val (.ref b91)] [(.int (1 : Int32))])) (T95.setTop (mkF m 148 #[.val (.int p0), .val (.int p1), .val (.int p2), .val (.int p3), .val (.int (1 : Int32)), .val (.int (1 : Int32)), .val (.ref b55), .val (.ref b80), .val (.ref xs_84), .val (.int (if (p3 &&& (1 : Int32)) = (0 : Int32) then (0 : Int32) else (1 : Int32))), .val (.ref b91)] [])) := by
        intro t ht
        refine XS.iload X95.here hx rfl (hb hby at_143) rfl ?_
        show Steps p.tables e below (T95.setTop (mkF m 145 #[.val (.int p0), .val (.int p1), .val (.int p2), .val (.int p3), .val (.int (1 : Int32)), .val (.int (1 : Int32)), .val (.ref b55), .val (.ref b80), .val (.ref xs_84), .val (.int (if (p3 &&& (1 : Int32)) = (0 : Int32) then (0 : Int32) else (1 : Int32))), .val (.ref b91)] [(.int (1 : Int32)), (.int (1 : Int32))])) _
        refine XS.icmpNo X95.here hx rfl (hb hby at_145) rfl (teq (by decide : (1 : Int32) = (1 : Int32))).2 ?_
        exact ht
      obtain ⟨T97, X97, e97, st97⟩ := getS2 X95 hx hZ hown (host := "") (Or.inl (hw _ (List.mem_of_getElem? (i := 50) rfl))) Via.refl eq95 S_D_c_93 (g := (mkF m 148 #[.val (.int p0), .val (.int p1), .val (.int p2), .val (.int p3), .val (.int (1 : Int32)), .val (.int (1 : Int32)), .val (.ref b55), .val (.ref b80), .val (.ref xs_84), .val (.int (if (p3 &&& (1 : Int32)) = (0 : Int32) then (0 : Int32) else (1 : Int32))), .val (.ref b91)] [])) rfl (hb hby at_148)
      have k97 : Go p.tables e below (T95.setTop (mkF m 148 #[.val (.int p0), .val (.int p1), .val (.int p2), .val (.int p3), .val (.int (1 : Int32)), .val (.int (1 : Int32)), .val (.ref b55), .val (.ref b80), .val (.ref xs_84), .val (.int (if (p3 &&& (1 : Int32)) = (0 : Int32) then (0 : Int32) else (1 : Int32))), .val (.ref b91)] [])) (T97.setTop (mkF m 151 #[.val (.int p0), .val (.int p1), .val (.int p2), .val (.int p3), .val (.int (1 : Int32)), .val (.int (1 : Int32)), .val (.ref b55), .val (.ref b80), .val (.ref xs_84), .val (.int (if (p3 &&& (1 : Int32)) = (0 : Int32) then (0 : Int32) else (1 : Int32))), .val (.ref b91)] [(.ref wD)])) := st97
      obtain ⟨cq98, kq98, q98a, q98b, q98c⟩ := isOf hZ e97 E_D_c_93
      obtain ⟨_, _, ⟨T98, L98, kq98, n98⟩, -, X98, ⟨Lc98, hQ98, l98, y98, z98⟩, st98⟩ := X97.virtualBack hx (y := (⟨"com/example/plain_keys/plainkeys/dialect/KeyTableLayout", "namesRows", "()Z"⟩ : MethodName)) (z := (⟨"com/example/plain_keys/plainkeys/dialect/KeyTableLayout", "namesRows", "()Z"⟩ : MethodName)) hown (mvT hZ (hw _ (List.mem_of_getElem? (i := 45) rfl))) (mvT hZ (hw _ (List.mem_of_getElem? (i := 46) rfl))) (notFace_of_selects (args := #[]) (mvT hZ (hw _ (List.mem_of_getElem? (i := 48) rfl)))) (mvT hZ (hw _ (List.mem_of_getElem? (i := 48) rfl))) (mvT hZ (hw _ (List.mem_of_getElem? (i := 47) rfl))) (by decide) (backOf (W := 0) (rm_rows1 l Z a0 hw [] wD wn T93.heap n0 Z93 F_D_c_93) hZ (hw _ (List.mem_of_getElem? (i := 49) rfl)) (hw _ (List.mem_of_getElem? (i := 29) rfl)) (by decide) (by decide)) q98a q98c (g := (mkF m 151 #[.val (.int p0), .val (.int p1), .val (.int p2), .val (.int p3), .val (.int (1 : Int32)), .val (.int (1 : Int32)), .val (.ref b55), .val (.ref b80), .val (.ref xs_84), .val (.int (if (p3 &&& (1 : Int32)) = (0 : Int32) then (0 : Int32) else (1 : Int32))), .val (.ref b91)] [(.ref wD)])) rfl (by rw [hml]; rfl) (Steps.refl _) (argsL := []) (rest := []) (lenOf pd_7 rfl) rfl (by show 2 * 0 + _ ≤ _; exact Nat.le_of_eq rfl) (hb hby at_151) (fun _ _ => ⟨rfl, e97, (by decide : 6 + 0 ≤ _), (by decide : 14 + 0 ≤ _)⟩)
      dsimp only [Pt.U, Pt.locs, Pt.cells, Pt.slots] at X98 l98 y98 z98 st98 hQ98
      subst l98 y98 z98
      obtain ⟨rfl, N98q, eq98⟩ := hQ98
      have N98 := Fr.app N95 N98q
      have k98 : Go p.tables e below (T97.setTop (mkF m 151 #[.val (.int p0), .val (.int p1), .val (.int p2), .val (.int p3), .val (.int (1 : Int32)), .val (.int (1 : Int32)), .val (.ref b55), .val (.ref b80), .val (.ref xs_84), .val (.int (if (p3 &&& (1 : Int32)) = (0 : Int32) then (0 : Int32) else (1 : Int32))), .val (.ref b91)] [(.ref wD)])) (T98.setTop (mkF m 154 #[.val (.int p0), .val (.int p1), .val (.int p2), .val (.int p3), .val (.int (1 : Int32)), .val (.int (1 : Int32)), .val (.ref b55), .val (.ref b80), .val (.ref xs_84), .val (.int (if (p3 &&& (1 : Int32)) = (0 : Int32) then (0 : Int32) else (1 : Int32))), .val (.ref b91)] [(.int (1 : Int32))])) := fun _ ht => st98.trans ht
      have k99 : Go p.tables e below (T98.setTop (mkF m 154 #[.val (.int p0), .val (.int p1), .val (.int p2), .val (.int p3), .val (.int (1 : Int32)), .val (.int (1 : Int32)), .val (.ref b55), .val (.ref b80), .val (.ref xs_84), .val (.int (if (p3 &&& (1 : Int32)) = (0 : Int32) then (0 : Int32) else (1 : Int32))), .val (.ref b91)] [(.int (1 : Int32))])) (T98.setTop (mkF m 162 #[.val (.int p0), .val (.int p1), .val (.int p2), .val (.int p3), .val (.int (1 : Int32)), .val (.int (1 : Int32)), .val (.ref b55), .val (.ref b80), .val (.ref xs_84), .val (.int (if (p3 &&& (1 : Int32)) = (0 : Int32) then (0 : Int32) else (1 : Int32))), .val (.ref b91)] [(.int (1 : Int32))])) := by
        intro t ht
        refine XS.ifNo X98.here hx rfl (hb hby at_154) rfl ((if0 _ _).trans (feq (by decide : ¬ ((1 : Int32) = (0 : Int32)))).1) ?_
        show Steps p.tables e below (T98.setTop (mkF m 157 #[.val (.int p0), .val (.int p1), .val (.int p2), .val (.int p3), .val (.int (1 : Int32)), .val (.int (1 : Int32)), .val (.ref b55), .val (.ref b80), .val (.ref xs_84), .val (.int (if (p3 &&& (1 : Int32)) = (0 : Int32) then (0 : Int32) else (1 : Int32))), .val (.ref b91)] [])) _
        refine XS.iconst X98.here hx rfl (hb hby at_157) ?_
        show Steps p.tables e below (T98.setTop (mkF m 158 #[.val (.int p0), .val (.int p1), .val (.int p2), .val (.int p3), .val (.int (1 : Int32)), .val (.int (1 : Int32)), .val (.ref b55), .val (.ref b80), .val (.ref xs_84), .val (.int (if (p3 &&& (1 : Int32)) = (0 : Int32) then (0 : Int32) else (1 : Int32))), .val (.ref b91)] [(.int (1 : Int32))])) _
        refine XS.goto X98.here hx rfl (pc0 := 158) (pc' := 162) rfl (hb hby at_158) (by decide) (by decide) ?_
        exact ht
      have hS0 : s.Since s.vm 0 := (State.WarmedH.refl s).since 0
      obtain ⟨fs, hr, hrun, hended, hW⟩ := X98.leaveW (s := s) (vm₁ := s.vm) hS0 (Nat.zero_le _) (v := some (.int (1 : Int32))) (fun h => by rw [Bd.returns] at h; cases h)
      refine ⟨_, _, pre0 _ ((goT k1 (goT k2 (goT k6 (goT k53 (goT k54 (goT k55 (goT k56 (goT k57 (goT k58 (goT k78 (goT k79 (goT k80 (goT k81 (goT k82 (goT k83 (goT k84 (goT k85 (goT k86 (goT k90 (goT k91 (goT k92 (goT k93 (goT k94 (goT k95 (goT k96 (goT k97 (goT k98 k99))))))))))))))))))))))))))) _ (retN X98 hx (t := .boolean) Bd.returns (by simp) (hb hby at_162) hr)), hrun, hended, _, _, rfl, ?_, hW.1, hW.2.1, hW.2.2.1, hW.2.2.2.mono (by decide) (by decide)⟩
      show Q_law Z p0 p1 p2 p3 G1 wD wn h0 n0 _ T98.heap _
      rw [eq98]
      exact ⟨rfl, N98⟩
  · have k100 : Go p.tables e below (s₁.setTop (mkF m 20 #[.val (.int p0), .val (.int p1), .val (.int p2), .val (.int p3), .val (.int (if (p0 &&& (1 : Int32)) = (0 : Int32) then (0 : Int32) else (1 : Int32))), .val (.int (((p0.toUInt32 >>> ((1 : Int32) &&& 31).toUInt32).toInt32) &&& (3 : Int32))), .unset, .unset, .unset, .unset, .unset] [])) (s₁.setTop (mkF m 20 #[.val (.int p0), .val (.int p1), .val (.int p2), .val (.int p3), .val (.int (if (p0 &&& (1 : Int32)) = (0 : Int32) then (0 : Int32) else (1 : Int32))), .val (.int (2 : Int32)), .unset, .unset, .unset, .unset, .unset] [])) := by rw [hk7]; exact fun _ h => h
    have k101 : Go p.tables e below (s₁.setTop (mkF m 20 #[.val (.int p0), .val (.int p1), .val (.int p2), .val (.int p3), .val (.int (if (p0 &&& (1 : Int32)) = (0 : Int32) then (0 : Int32) else (1 : Int32))), .val (.int (2 : Int32)), .unset, .unset, .unset, .unset, .unset] [])) (s₁.setTop (mkF m 22 #[.val (.int p0), .val (.int p1), .val (.int p2), .val (.int p3), .val (.int (if (p0 &&& (1 : Int32)) = (0 : Int32) then (0 : Int32) else (1 : Int32))), .val (.int (2 : Int32)), .unset, .unset, .unset, .unset, .unset] [(.int (2 : Int32))])) := by
      intro t ht
      refine XS.iload X0.here hx rfl (hb hby at_20) rfl ?_
      exact ht
    obtain ⟨T102, h102, kc102, X102, e102, E102, A102, st102⟩ := newP X0 hx hZ (hw _ (List.mem_of_getElem? (i := 0) rfl)) e0 (g := (mkF m 22 #[.val (.int p0), .val (.int p1), .val (.int p2), .val (.int p3), .val (.int (if (p0 &&& (1 : Int32)) = (0 : Int32) then (0 : Int32) else (1 : Int32))), .val (.int (2 : Int32)), .unset, .unset, .unset, .unset, .unset] [(.int (2 : Int32))])) rfl (hb hby at_22) rfl (by decide) (cap := 2) (by decide) (by decide) (by decide) (by decide)
    obtain ⟨b102, g102⟩ : ∃ z, z = h0.size := ⟨_, rfl⟩
    rw [← g102] at A102 st102
    have g_b102 : n0 ≤ b102 := Nat.le_trans Z0 (Nat.le_of_eq g102.symm)
    have sz_b102 : h0.size ≤ b102 := Nat.le_trans (Keep.refl h0 []).1 (Nat.le_of_eq g102.symm)
    have ne_wD_b102 : wD ≠ b102 := Nat.ne_of_lt (Nat.lt_of_lt_of_le E_D.lt (Nat.le_of_eq g102.symm))
    have Kp102 : Keep h0 h102 [] := (Keep.refl h0 []).ext E102
    have Z102 : n0 ≤ h102.size := Nat.le_trans Z0 E102.1
    have S_CS_c_102 := S_CS.ext E102
    have S_D_c_102 := S_D.ext E102
    have E_D_c_102 := E_D.ext E102
    have F_D_c_102 := F_D.ext E102
    have V_b102 : Arv Z h102 b102 kc102 .char (2 : Int32) [(.int (0 : Int32)), (.int (0 : Int32))] (.int (0 : Int32)) := (Arv.new A102 (by decide)).pad (pad_rep [] (.int (0 : Int32)) 2)
    have k102 : Go p.tables e below (s₁.setTop (mkF m 22 #[.val (.int p0), .val (.int p1), .val (.int p2), .val (.int p3), .val (.int (if (p0 &&& (1 : Int32)) = (0 : Int32) then (0 : Int32) else (1 : Int32))), .val (.int (2 : Int32)), .unset, .unset, .unset, .unset, .unset] [(.int (2 : Int32))])) (T102.setTop (mkF m 24 #[.val (.int p0), .val (.int p1), .val (.int p2), .val (.int p3), .val (.int (if (p0 &&& (1 : Int32)) = (0 : Int32) then (0 : Int32) else (1 : Int32))), .val (.int (2 : Int32)), .unset, .unset, .unset, .unset, .unset] [(.ref b102)])) := st102
    have k103 : Go p.tables e below (T102.setTop (mkF m 24 #[.val (.int p0), .val (.int p1), .val (.int p2), .val (.int p3), .val (.int (if (p0 &&& (1 : Int32)) = (0 : Int32) then (0 : Int32) else (1 : Int32))), .val (.int (2 : Int32)), .unset, .unset, .unset, .unset, .unset] [(.ref b102)])) (T102.setTop (mkF m 40 #[.val (.int p0), .val (.int p1), .val (.int p2), .val (.int p3), .val (.int (if (p0 &&& (1 : Int32)) = (0 : Int32) then (0 : Int32) else (1 : Int32))), .val (.int (2 : Int32)), .val (.ref b102), .unset, .unset, .unset, .unset] [(.int ((p1 &&& (255 : Int32)).toUInt32.toUInt16.toUInt32.toInt32)), (.int (0 : Int32)), (.ref b102)])) := by
      intro t ht
      refine XS.astore X102.here hx rfl (hb hby at_24) rfl rfl (l' := #[.val (.int p0), .val (.int p1), .val (.int p2), .val (.int p3), .val (.int (if (p0 &&& (1 : Int32)) = (0 : Int32) then (0 : Int32) else (1 : Int32))), .val (.int (2 : Int32)), .val (.ref b102), .unset, .unset, .unset, .unset]) rfl ?_
      show Steps p.tables e below (T102.setTop (mkF m 26 #[.val (.int p0), .val (.int p1), .val (.int p2), .val (.int p3), .val (.int (if (p0 &&& (1 : Int32)) = (0 : Int32) then (0 : Int32) else (1 : Int32))), .val (.int (2 : Int32)), .val (.ref b102), .unset, .unset, .unset, .unset] [])) _
      refine XS.iload X102.here hx rfl (hb hby at_26) rfl ?_
      show Steps p.tables e below (T102.setTop (mkF m 28 #[.val (.int p0), .val (.int p1), .val (.int p2), .val (.int p3), .val (.int (if (p0 &&& (1 : Int32)) = (0 : Int32) then (0 : Int32) else (1 : Int32))), .val (.int (2 : Int32)), .val (.ref b102), .unset, .unset, .unset, .unset] [(.int (2 : Int32))])) _
      refine XS.ifNo X102.here hx rfl (hb hby at_28) rfl ((if0 _ _).trans (tlt (by decide : (0 : Int32) < (2 : Int32))).2.2.2) ?_
      show Steps p.tables e below (T102.setTop (mkF m 31 #[.val (.int p0), .val (.int p1), .val (.int p2), .val (.int p3), .val (.int (if (p0 &&& (1 : Int32)) = (0 : Int32) then (0 : Int32) else (1 : Int32))), .val (.int (2 : Int32)), .val (.ref b102), .unset, .unset, .unset, .unset] [])) _
      refine XS.aload X102.here hx rfl (hb hby at_31) rfl rfl ?_
      show Steps p.tables e below (T102.setTop (mkF m 33 #[.val (.int p0), .val (.int p1), .val (.int p2), .val (.int p3), .val (.int (if (p0 &&& (1 : Int32)) = (0 : Int32) then (0 : Int32) else (1 : Int32))), .val (.int (2 : Int32)), .val (.ref b102), .unset, .unset, .unset, .unset] [(.ref b102)])) _
      refine XS.iconst X102.here hx rfl (hb hby at_33) ?_
      show Steps p.tables e below (T102.setTop (mkF m 34 #[.val (.int p0), .val (.int p1), .val (.int p2), .val (.int p3), .val (.int (if (p0 &&& (1 : Int32)) = (0 : Int32) then (0 : Int32) else (1 : Int32))), .val (.int (2 : Int32)), .val (.ref b102), .unset, .unset, .unset, .unset] [(.int (0 : Int32)), (.ref b102)])) _
      refine XS.iloadN X102.here hx rfl (hb hby at_34) rfl ?_
      show Steps p.tables e below (T102.setTop (mkF m 35 #[.val (.int p0), .val (.int p1), .val (.int p2), .val (.int p3), .val (.int (if (p0 &&& (1 : Int32)) = (0 : Int32) then (0 : Int32) else (1 : Int32))), .val (.int (2 : Int32)), .val (.ref b102), .unset, .unset, .unset, .unset] [(.int p1), (.int (0 : Int32)), (.ref b102)])) _
      refine XS.sipush X102.here hx rfl (hb hby at_35) ?_
      show Steps p.tables e below (T102.setTop (mkF m 38 #[.val (.int p0), .val (.int p1), .val (.int p2), .val (.int p3), .val (.int (if (p0 &&& (1 : Int32)) = (0 : Int32) then (0 : Int32) else (1 : Int32))), .val (.int (2 : Int32)), .val (.ref b102), .unset, .unset, .unset, .unset] [(.int (255 : Int32)), (.int p1), (.int (0 : Int32)), (.ref b102)])) _
      refine XS.iand X102.here hx rfl (hb hby at_38) rfl ?_
      show Steps p.tables e below (T102.setTop (mkF m 39 #[.val (.int p0), .val (.int p1), .val (.int p2), .val (.int p3), .val (.int (if (p0 &&& (1 : Int32)) = (0 : Int32) then (0 : Int32) else (1 : Int32))), .val (.int (2 : Int32)), .val (.ref b102), .unset, .unset, .unset, .unset] [(.int (p1 &&& (255 : Int32))), (.int (0 : Int32)), (.ref b102)])) _
      refine XS.i2c X102.here hx rfl (hb hby at_39) rfl ?_
      exact ht
    obtain ⟨cl104, Ar104, q104, S104, M104, H104, G104⟩ := id V_b102
    have hin104 : ¬ ((0 : Int32) < 0 ∨ cl104.slots.size ≤ ((0 : Int32)).toNatClampNeg) := inb_of S104 ⟨by decide, by decide⟩
    obtain ⟨T104, h104, X104, e104, W104, st104⟩ := stC X102 hx hZ e102 Ar104 (j := (0 : Int32)) hin104 (g := (mkF m 40 #[.val (.int p0), .val (.int p1), .val (.int p2), .val (.int p3), .val (.int (if (p0 &&& (1 : Int32)) = (0 : Int32) then (0 : Int32) else (1 : Int32))), .val (.int (2 : Int32)), .val (.ref b102), .unset, .unset, .unset, .unset] [(.int ((p1 &&& (255 : Int32)).toUInt32.toUInt16.toUInt32.toInt32)), (.int (0 : Int32)), (.ref b102)])) rfl rfl (hb hby at_40)
    have V104_b102 : Arv Z h104 b102 kc102 .char (2 : Int32) [(.int (nar .char ((p1 &&& (255 : Int32)).toUInt32.toUInt16.toUInt32.toInt32))), (.int (0 : Int32))] (.int (0 : Int32)) := Arv.set Ar104 q104 S104 M104 H104 G104 (fits_nar_char _) W104 0 rfl (Nat.le_of_ble_eq_true rfl)
    have Kp104 : Keep h0 h104 [] := Kp102.wr W104 (Or.inr sz_b102)
    have Z104 : n0 ≤ h104.size := Nat.le_trans Z102 (Keep.of_wr W104).1
    have S_CS_c_104 := S_CS_c_102.wr W104
    have S_D_c_104 := S_D_c_102.wr W104
    have E_D_c_104 := E_D_c_102.wr W104
    have F_D_c_104 := F_D_c_102.other W104 (Or.inl ne_wD_b102)
    have k104 : Go p.tables e below (T102.setTop (mkF m 40 #[.val (.int p0), .val (.int p1), .val (.int p2), .val (.int p3), .val (.int (if (p0 &&& (1 : Int32)) = (0 : Int32) then (0 : Int32) else (1 : Int32))), .val (.int (2 : Int32)), .val (.ref b102), .unset, .unset, .unset, .unset] [(.int ((p1 &&& (255 : Int32)).toUInt32.toUInt16.toUInt32.toInt32)), (.int (0 : Int32)), (.ref b102)])) (T104.setTop (mkF m 41 #[.val (.int p0), .val (.int p1), .val (.int p2), .val (.int p3), .val (.int (if (p0 &&& (1 : Int32)) = (0 : Int32) then (0 : Int32) else (1 : Int32))), .val (.int (2 : Int32)), .val (.ref b102), .unset, .unset, .unset, .unset] [])) := st104
    have N104 := Fr.snoc X104 N0 g_b102
    have k105 : Go p.tables e below (T104.setTop (mkF m 41 #[.val (.int p0), .val (.int p1), .val (.int p2), .val (.int p3), .val (.int (if (p0 &&& (1 : Int32)) = (0 : Int32) then (0 : Int32) else (1 : Int32))), .val (.int (2 : Int32)), .val (.ref b102), .unset, .unset, .unset, .unset] [])) (T104.setTop (mkF m 56 #[.val (.int p0), .val (.int p1), .val (.int p2), .val (.int p3), .val (.int (if (p0 &&& (1 : Int32)) = (0 : Int32) then (0 : Int32) else (1 : Int32))), .val (.int (2 : Int32)), .val (.ref b102), .unset, .unset, .unset, .unset] [(.int ((p2 &&& (255 : Int32)).toUInt32.toUInt16.toUInt32.toInt32)), (.int (1 : Int32)), (.ref b102)])) := by
      intro t ht
      refine XS.iload X104.here hx rfl (hb hby at_41) rfl ?_
      show Steps p.tables e below (T104.setTop (mkF m 43 #[.val (.int p0), .val (.int p1), .val (.int p2), .val (.int p3), .val (.int (if (p0 &&& (1 : Int32)) = (0 : Int32) then (0 : Int32) else (1 : Int32))), .val (.int (2 : Int32)), .val (.ref b102), .unset, .unset, .unset, .unset] [(.int (2 : Int32))])) _
      refine XS.iconst X104.here hx rfl (hb hby at_43) ?_
      show Steps p.tables e below (T104.setTop (mkF m 44 #[.val (.int p0), .val (.int p1), .val (.int p2), .val (.int p3), .val (.int (if (p0 &&& (1 : Int32)) = (0 : Int32) then (0 : Int32) else (1 : Int32))), .val (.int (2 : Int32)), .val (.ref b102), .unset, .unset, .unset, .unset] [(.int (1 : Int32)), (.int (2 : Int32))])) _
      refine XS.icmpNo X104.here hx rfl (hb hby at_44) rfl (tlt (by decide : (1 : Int32) < (2 : Int32))).2.2.2 ?_
      show Steps p.tables e below (T104.setTop (mkF m 47 #[.val (.int p0), .val (.int p1), .val (.int p2), .val (.int p3), .val (.int (if (p0 &&& (1 : Int32)) = (0 : Int32) then (0 : Int32) else (1 : Int32))), .val (.int (2 : Int32)), .val (.ref b102), .unset, .unset, .unset, .unset] [])) _
      refine XS.aload X104.here hx rfl (hb hby at_47) rfl rfl ?_
      show Steps p.tables e below (T104.setTop (mkF m 49 #[.val (.int p0), .val (.int p1), .val (.int p2), .val (.int p3), .val (.int (if (p0 &&& (1 : Int32)) = (0 : Int32) then (0 : Int32) else (1 : Int32))), .val (.int (2 : Int32)), .val (.ref b102), .unset, .unset, .unset, .unset] [(.ref b102)])) _
      refine XS.iconst X104.here hx rfl (hb hby at_49) ?_
      show Steps p.tables e below (T104.setTop (mkF m 50 #[.val (.int p0), .val (.int p1), .val (.int p2), .val (.int p3), .val (.int (if (p0 &&& (1 : Int32)) = (0 : Int32) then (0 : Int32) else (1 : Int32))), .val (.int (2 : Int32)), .val (.ref b102), .unset, .unset, .unset, .unset] [(.int (1 : Int32)), (.ref b102)])) _
      refine XS.iloadN X104.here hx rfl (hb hby at_50) rfl ?_
      show Steps p.tables e below (T104.setTop (mkF m 51 #[.val (.int p0), .val (.int p1), .val (.int p2), .val (.int p3), .val (.int (if (p0 &&& (1 : Int32)) = (0 : Int32) then (0 : Int32) else (1 : Int32))), .val (.int (2 : Int32)), .val (.ref b102), .unset, .unset, .unset, .unset] [(.int p2), (.int (1 : Int32)), (.ref b102)])) _
      refine XS.sipush X104.here hx rfl (hb hby at_51) ?_
      show Steps p.tables e below (T104.setTop (mkF m 54 #[.val (.int p0), .val (.int p1), .val (.int p2), .val (.int p3), .val (.int (if (p0 &&& (1 : Int32)) = (0 : Int32) then (0 : Int32) else (1 : Int32))), .val (.int (2 : Int32)), .val (.ref b102), .unset, .unset, .unset, .unset] [(.int (255 : Int32)), (.int p2), (.int (1 : Int32)), (.ref b102)])) _
      refine XS.iand X104.here hx rfl (hb hby at_54) rfl ?_
      show Steps p.tables e below (T104.setTop (mkF m 55 #[.val (.int p0), .val (.int p1), .val (.int p2), .val (.int p3), .val (.int (if (p0 &&& (1 : Int32)) = (0 : Int32) then (0 : Int32) else (1 : Int32))), .val (.int (2 : Int32)), .val (.ref b102), .unset, .unset, .unset, .unset] [(.int (p2 &&& (255 : Int32))), (.int (1 : Int32)), (.ref b102)])) _
      refine XS.i2c X104.here hx rfl (hb hby at_55) rfl ?_
      exact ht
    obtain ⟨cl106, Ar106, q106, S106, M106, H106, G106⟩ := id V104_b102
    have hin106 : ¬ ((1 : Int32) < 0 ∨ cl106.slots.size ≤ ((1 : Int32)).toNatClampNeg) := inb_of S106 ⟨by decide, by decide⟩
    obtain ⟨T106, h106, X106, e106, W106, st106⟩ := stC X104 hx hZ e104 Ar106 (j := (1 : Int32)) hin106 (g := (mkF m 56 #[.val (.int p0), .val (.int p1), .val (.int p2), .val (.int p3), .val (.int (if (p0 &&& (1 : Int32)) = (0 : Int32) then (0 : Int32) else (1 : Int32))), .val (.int (2 : Int32)), .val (.ref b102), .unset, .unset, .unset, .unset] [(.int ((p2 &&& (255 : Int32)).toUInt32.toUInt16.toUInt32.toInt32)), (.int (1 : Int32)), (.ref b102)])) rfl rfl (hb hby at_56)
    have V106_b102 : Arv Z h106 b102 kc102 .char (2 : Int32) [(.int (nar .char ((p1 &&& (255 : Int32)).toUInt32.toUInt16.toUInt32.toInt32))), (.int (nar .char ((p2 &&& (255 : Int32)).toUInt32.toUInt16.toUInt32.toInt32)))] (.int (0 : Int32)) := Arv.set Ar106 q106 S106 M106 H106 G106 (fits_nar_char _) W106 1 rfl (Nat.le_of_ble_eq_true rfl)
    have Kp106 : Keep h0 h106 [] := Kp104.wr W106 (Or.inr sz_b102)
    have Z106 : n0 ≤ h106.size := Nat.le_trans Z104 (Keep.of_wr W106).1
    have S_CS_c_106 := S_CS_c_104.wr W106
    have S_D_c_106 := S_D_c_104.wr W106
    have E_D_c_106 := E_D_c_104.wr W106
    have F_D_c_106 := F_D_c_104.other W106 (Or.inl ne_wD_b102)
    have k106 : Go p.tables e below (T104.setTop (mkF m 56 #[.val (.int p0), .val (.int p1), .val (.int p2), .val (.int p3), .val (.int (if (p0 &&& (1 : Int32)) = (0 : Int32) then (0 : Int32) else (1 : Int32))), .val (.int (2 : Int32)), .val (.ref b102), .unset, .unset, .unset, .unset] [(.int ((p2 &&& (255 : Int32)).toUInt32.toUInt16.toUInt32.toInt32)), (.int (1 : Int32)), (.ref b102)])) (T106.setTop (mkF m 57 #[.val (.int p0), .val (.int p1), .val (.int p2), .val (.int p3), .val (.int (if (p0 &&& (1 : Int32)) = (0 : Int32) then (0 : Int32) else (1 : Int32))), .val (.int (2 : Int32)), .val (.ref b102), .unset, .unset, .unset, .unset] [])) := st106
    have N106 := Fr.snoc X106 N104 g_b102
    have k107 : Go p.tables e below (T106.setTop (mkF m 57 #[.val (.int p0), .val (.int p1), .val (.int p2), .val (.int p3), .val (.int (if (p0 &&& (1 : Int32)) = (0 : Int32) then (0 : Int32) else (1 : Int32))), .val (.int (2 : Int32)), .val (.ref b102), .unset, .unset, .unset, .unset] [])) (T106.setTop (mkF m 78 #[.val (.int p0), .val (.int p1), .val (.int p2), .val (.int p3), .val (.int (if (p0 &&& (1 : Int32)) = (0 : Int32) then (0 : Int32) else (1 : Int32))), .val (.int (2 : Int32)), .val (.ref b102), .unset, .unset, .unset, .unset] [(.int (if (p0 &&& (1 : Int32)) = (0 : Int32) then (0 : Int32) else (1 : Int32)))])) := by
      intro t ht
      refine XS.iload X106.here hx rfl (hb hby at_57) rfl ?_
      show Steps p.tables e below (T106.setTop (mkF m 59 #[.val (.int p0), .val (.int p1), .val (.int p2), .val (.int p3), .val (.int (if (p0 &&& (1 : Int32)) = (0 : Int32) then (0 : Int32) else (1 : Int32))), .val (.int (2 : Int32)), .val (.ref b102), .unset, .unset, .unset, .unset] [(.int (2 : Int32))])) _
      refine XS.iconst X106.here hx rfl (hb hby at_59) ?_
      show Steps p.tables e below (T106.setTop (mkF m 60 #[.val (.int p0), .val (.int p1), .val (.int p2), .val (.int p3), .val (.int (if (p0 &&& (1 : Int32)) = (0 : Int32) then (0 : Int32) else (1 : Int32))), .val (.int (2 : Int32)), .val (.ref b102), .unset, .unset, .unset, .unset] [(.int (2 : Int32)), (.int (2 : Int32))])) _
      refine XS.icmpYes X106.here hx rfl (pc0 := 60) (pc' := 76) rfl (hb hby at_60) rfl (flt (by decide : ¬ ((2 : Int32) < (2 : Int32)))).2.2.2 (by decide) (by decide) ?_
      show Steps p.tables e below (T106.setTop (mkF m 76 #[.val (.int p0), .val (.int p1), .val (.int p2), .val (.int p3), .val (.int (if (p0 &&& (1 : Int32)) = (0 : Int32) then (0 : Int32) else (1 : Int32))), .val (.int (2 : Int32)), .val (.ref b102), .unset, .unset, .unset, .unset] [])) _
      refine XS.iload X106.here hx rfl (hb hby at_76) rfl ?_
      exact ht
    by_cases hc108 : (p0 &&& (1 : Int32)) = (0 : Int32)
    · have k109 : Go p.tables e below (T106.setTop (mkF m 78 #[.val (.int p0), .val (.int p1), .val (.int p2), .val (.int p3), .val (.int (if (p0 &&& (1 : Int32)) = (0 : Int32) then (0 : Int32) else (1 : Int32))), .val (.int (2 : Int32)), .val (.ref b102), .unset, .unset, .unset, .unset] [(.int (if (p0 &&& (1 : Int32)) = (0 : Int32) then (0 : Int32) else (1 : Int32)))])) (T106.setTop (mkF m 78 #[.val (.int p0), .val (.int p1), .val (.int p2), .val (.int p3), .val (.int (0 : Int32)), .val (.int (2 : Int32)), .val (.ref b102), .unset, .unset, .unset, .unset] [(.int (0 : Int32))])) := by
        simp only [if_pos hc108]; exact fun _ h => h
      have k110 : Go p.tables e below (T106.setTop (mkF m 78 #[.val (.int p0), .val (.int p1), .val (.int p2), .val (.int p3), .val (.int (0 : Int32)), .val (.int (2 : Int32)), .val (.ref b102), .unset, .unset, .unset, .unset] [(.int (0 : Int32))])) (T106.setTop (mkF m 105 #[.val (.int p0), .val (.int p1), .val (.int p2), .val (.int p3), .val (.int (0 : Int32)), .val (.int (2 : Int32)), .val (.ref b102), .val .null, .unset, .unset, .unset] [(.int ((((p2.toUInt32 >>> ((8 : Int32) &&& 31).toUInt32).toInt32) &&& (255 : Int32)).toUInt32.toUInt16.toUInt32.toInt32))])) := by
        intro t ht
        refine XS.ifYes X106.here hx rfl (pc0 := 78) (pc' := 93) rfl (hb hby at_78) rfl ((if0 _ _).trans (teq (by decide : (0 : Int32) = (0 : Int32))).1) (by decide) (by decide) ?_
        show Steps p.tables e below (T106.setTop (mkF m 93 #[.val (.int p0), .val (.int p1), .val (.int p2), .val (.int p3), .val (.int (0 : Int32)), .val (.int (2 : Int32)), .val (.ref b102), .unset, .unset, .unset, .unset] [])) _
        refine XS.aconstNull X106.here hx rfl (hb hby at_93) ?_
        show Steps p.tables e below (T106.setTop (mkF m 94 #[.val (.int p0), .val (.int p1), .val (.int p2), .val (.int p3), .val (.int (0 : Int32)), .val (.int (2 : Int32)), .val (.ref b102), .unset, .unset, .unset, .unset] [.null])) _
        refine XS.astore X106.here hx rfl (hb hby at_94) rfl rfl (l' := #[.val (.int p0), .val (.int p1), .val (.int p2), .val (.int p3), .val (.int (0 : Int32)), .val (.int (2 : Int32)), .val (.ref b102), .val .null, .unset, .unset, .unset]) rfl ?_
        show Steps p.tables e below (T106.setTop (mkF m 96 #[.val (.int p0), .val (.int p1), .val (.int p2), .val (.int p3), .val (.int (0 : Int32)), .val (.int (2 : Int32)), .val (.ref b102), .val .null, .unset, .unset, .unset] [])) _
        refine XS.iloadN X106.here hx rfl (hb hby at_96) rfl ?_
        show Steps p.tables e below (T106.setTop (mkF m 97 #[.val (.int p0), .val (.int p1), .val (.int p2), .val (.int p3), .val (.int (0 : Int32)), .val (.int (2 : Int32)), .val (.ref b102), .val .null, .unset, .unset, .unset] [(.int p2)])) _
        refine XS.bipush X106.here hx rfl (hb hby at_97) ?_
        show Steps p.tables e below (T106.setTop (mkF m 99 #[.val (.int p0), .val (.int p1), .val (.int p2), .val (.int p3), .val (.int (0 : Int32)), .val (.int (2 : Int32)), .val (.ref b102), .val .null, .unset, .unset, .unset] [(.int (8 : Int32)), (.int p2)])) _
        refine XS.iushr X106.here hx rfl (hb hby at_99) rfl ?_
        show Steps p.tables e below (T106.setTop (mkF m 100 #[.val (.int p0), .val (.int p1), .val (.int p2), .val (.int p3), .val (.int (0 : Int32)), .val (.int (2 : Int32)), .val (.ref b102), .val .null, .unset, .unset, .unset] [(.int ((p2.toUInt32 >>> ((8 : Int32) &&& 31).toUInt32).toInt32))])) _
        refine XS.sipush X106.here hx rfl (hb hby at_100) ?_
        show Steps p.tables e below (T106.setTop (mkF m 103 #[.val (.int p0), .val (.int p1), .val (.int p2), .val (.int p3), .val (.int (0 : Int32)), .val (.int (2 : Int32)), .val (.ref b102), .val .null, .unset, .unset, .unset] [(.int (255 : Int32)), (.int ((p2.toUInt32 >>> ((8 : Int32) &&& 31).toUInt32).toInt32))])) _
        refine XS.iand X106.here hx rfl (hb hby at_103) rfl ?_
        show Steps p.tables e below (T106.setTop (mkF m 104 #[.val (.int p0), .val (.int p1), .val (.int p2), .val (.int p3), .val (.int (0 : Int32)), .val (.int (2 : Int32)), .val (.ref b102), .val .null, .unset, .unset, .unset] [(.int (((p2.toUInt32 >>> ((8 : Int32) &&& 31).toUInt32).toInt32) &&& (255 : Int32)))])) _
        refine XS.i2c X106.here hx rfl (hb hby at_104) rfl ?_
        exact ht
      obtain ⟨_, _, ⟨T111, L111, kq111, n111⟩, -, X111, ⟨Lc111, hQ111, l111, y111, z111⟩, st111⟩ := Jvm.LawKit.callS X106 hx (y := (⟨"java/lang/String", "valueOf", "(C)Ljava/lang/String;"⟩ : MethodName)) hown (mvT hZ (hw _ (List.mem_of_getElem? (i := 1) rfl))) (mvT hZ (hw _ (List.mem_of_getElem? (i := 2) rfl))) (mvT hZ (hw _ (List.mem_of_getElem? (i := 3) rfl))) (mvT hZ (hw _ (List.mem_of_getElem? (i := 4) rfl))) (by decide) (backOf (W := 0) (rm_valueOf l Z a0 hw [] ((((p2.toUInt32 >>> ((8 : Int32) &&& 31).toUInt32).toInt32) &&& (255 : Int32)).toUInt32.toUInt16.toUInt32.toInt32) G1 h106 n0 Z106 S_CS_c_106 (P5 : ¬ (G1 = (0 : Int32))) (own_c255 _ : ¬ ((255 : Int32) < ((((p2.toUInt32 >>> ((8 : Int32) &&& 31).toUInt32).toInt32) &&& (255 : Int32)).toUInt32.toUInt16.toUInt32.toInt32)))) hZ (hw _ (List.mem_of_getElem? (i := 4) rfl)) (hw _ (List.mem_of_getElem? (i := 3) rfl)) (by decide) (by decide)) (g := (mkF m 105 #[.val (.int p0), .val (.int p1), .val (.int p2), .val (.int p3), .val (.int (0 : Int32)), .val (.int (2 : Int32)), .val (.ref b102), .val .null, .unset, .unset, .unset] [(.int ((((p2.toUInt32 >>> ((8 : Int32) &&& 31).toUInt32).toInt32) &&& (255 : Int32)).toUInt32.toUInt16.toUInt32.toInt32))])) rfl (by rw [hml]; rfl) (argsL := [(.int ((((p2.toUInt32 >>> ((8 : Int32) &&& 31).toUInt32).toInt32) &&& (255 : Int32)).toUInt32.toUInt16.toUInt32.toInt32))]) (rest := []) (lenOf pd_5 rfl) rfl (by show 2 * 0 + _ ≤ _; exact Nat.le_of_eq rfl) (hb hby at_105) (fun _ _ => ⟨rfl, e106, (by decide : 1 + 2 ≤ _), (by decide : 2 + 5 ≤ _)⟩)
      dsimp only [Pt.U, Pt.locs, Pt.cells, Pt.slots] at X111 l111 y111 z111 st111 hQ111
      subst l111 y111 z111
      obtain ⟨xs_111, xb_111, xk_111, rfl, N111q, K111, Pq111_0, Pq111_1, Fq111_0, Fq111_1, Fq111_2, Fq111_3⟩ := hQ111
      have N111 := Fr.app N106 N111q
      have k111 : Go p.tables e below (T106.setTop (mkF m 105 #[.val (.int p0), .val (.int p1), .val (.int p2), .val (.int p3), .val (.int (0 : Int32)), .val (.int (2 : Int32)), .val (.ref b102), .val .null, .unset, .unset, .unset] [(.int ((((p2.toUInt32 >>> ((8 : Int32) &&& 31).toUInt32).toInt32) &&& (255 : Int32)).toUInt32.toUInt16.toUInt32.toInt32))])) (T111.setTop (mkF m 108 #[.val (.int p0), .val (.int p1), .val (.int p2), .val (.int p3), .val (.int (0 : Int32)), .val (.int (2 : Int32)), .val (.ref b102), .val .null, .unset, .unset, .unset] [(.ref xs_111)])) := st111
      have Kp111 : Keep h0 T111.heap [] := Kp106.trans K111 all0
      have Z111 : n0 ≤ T111.heap.size := Nat.le_trans Z106 K111.1
      have ne_wD_xs_111 : wD ≠ xs_111 := Nat.ne_of_lt (Nat.lt_of_lt_of_le E_D_c_106.lt Pq111_0)
      have ne_b102_xs_111 : b102 ≠ xs_111 := Nat.ne_of_lt (Nat.lt_of_lt_of_le V106_b102.lt Pq111_0)
      have g_xs_111 : n0 ≤ xs_111 := Nat.le_trans Z106 Pq111_0
      have sz_xs_111 : h0.size ≤ xs_111 := Nat.le_trans Kp106.1 Pq111_0
      have ne_wD_xb_111 : wD ≠ xb_111 := Nat.ne_of_lt (Nat.lt_of_lt_of_le E_D_c_106.lt Pq111_1)
      have ne_b102_xb_111 : b102 ≠ xb_111 := Nat.ne_of_lt (Nat.lt_of_lt_of_le V106_b102.lt Pq111_1)
      have g_xb_111 : n0 ≤ xb_111 := Nat.le_trans Z106 Pq111_1
      have sz_xb_111 : h0.size ≤ xb_111 := Nat.le_trans Kp106.1 Pq111_1
      have S_CS_c_111 := own_sta_keep0 S_CS_c_106 K111
      have S_D_c_111 := own_sta_keep0 S_D_c_106 K111
      have E_D_c_111 := E_D_c_106.keep K111
      have F_D_c_111 := F_D_c_106.keep K111 nin0
      have V106_b102_c_111 := V106_b102.keep K111 nin0
      have k112 : Go p.tables e below (T111.setTop (mkF m 108 #[.val (.int p0), .val (.int p1), .val (.int p2), .val (.int p3), .val (.int (0 : Int32)), .val (.int (2 : Int32)), .val (.ref b102), .val .null, .unset, .unset, .unset] [(.ref xs_111)])) (T111.setTop (mkF m 113 #[.val (.int p0), .val (.int p1), .val (.int p2), .val (.int p3), .val (.int (0 : Int32)), .val (.int (2 : Int32)), .val (.ref b102), .val .null, .val (.ref xs_111), .unset, .unset] [(.int (p3 &&& (1 : Int32)))])) := by
        intro t ht
        refine XS.astore X111.here hx rfl (hb hby at_108) rfl rfl (l' := #[.val (.int p0), .val (.int p1), .val (.int p2), .val (.int p3), .val (.int (0 : Int32)), .val (.int (2 : Int32)), .val (.ref b102), .val .null, .val (.ref xs_111), .unset, .unset]) rfl ?_
        show Steps p.tables e below (T111.setTop (mkF m 110 #[.val (.int p0), .val (.int p1), .val (.int p2), .val (.int p3), .val (.int (0 : Int32)), .val (.int (2 : Int32)), .val (.ref b102), .val .null, .val (.ref xs_111), .unset, .unset] [])) _
        refine XS.iloadN X111.here hx rfl (hb hby at_110) rfl ?_
        show Steps p.tables e below (T111.setTop (mkF m 111 #[.val (.int p0), .val (.int p1), .val (.int p2), .val (.int p3), .val (.int (0 : Int32)), .val (.int (2 : Int32)), .val (.ref b102), .val .null, .val (.ref xs_111), .unset, .unset] [(.int p3)])) _
        refine XS.iconst X111.here hx rfl (hb hby at_111) ?_
        show Steps p.tables e below (T111.setTop (mkF m 112 #[.val (.int p0), .val (.int p1), .val (.int p2), .val (.int p3), .val (.int (0 : Int32)), .val (.int (2 : Int32)), .val (.ref b102), .val .null, .val (.ref xs_111), .unset, .unset] [(.int (1 : Int32)), (.int p3)])) _
        refine XS.iand X111.here hx rfl (hb hby at_112) rfl ?_
        exact ht
      have k113 : Go p.tables e below (T111.setTop (mkF m 113 #[.val (.int p0), .val (.int p1), .val (.int p2), .val (.int p3), .val (.int (0 : Int32)), .val (.int (2 : Int32)), .val (.ref b102), .val .null, .val (.ref xs_111), .unset, .unset] [(.int (p3 &&& (1 : Int32)))])) (T111.setTop (mkF m 121 #[.val (.int p0), .val (.int p1), .val (.int p2), .val (.int p3), .val (.int (0 : Int32)), .val (.int (2 : Int32)), .val (.ref b102), .val .null, .val (.ref xs_111), .unset, .unset] [(.int (if (p3 &&& (1 : Int32)) = (0 : Int32) then (0 : Int32) else (1 : Int32)))])) := by
        by_cases hc114 : (p3 &&& (1 : Int32)) = (0 : Int32)
        · have k115 : Go p.tables e below (T111.setTop (mkF m 113 #[.val (.int p0), .val (.int p1), .val (.int p2), .val (.int p3), .val (.int (0 : Int32)), .val (.int (2 : Int32)), .val (.ref b102), .val .null, .val (.ref xs_111), .unset, .unset] [(.int (p3 &&& (1 : Int32)))])) (T111.setTop (mkF m 121 #[.val (.int p0), .val (.int p1), .val (.int p2), .val (.int p3), .val (.int (0 : Int32)), .val (.int (2 : Int32)), .val (.ref b102), .val .null, .val (.ref xs_111), .unset, .unset] [(.int (0 : Int32))])) := by
            intro t ht
            refine XS.ifYes X111.here hx rfl (pc0 := 113) (pc' := 120) rfl (hb hby at_113) rfl ((if0 _ _).trans (teq hc114).1) (by decide) (by decide) ?_
            show Steps p.tables e below (T111.setTop (mkF m 120 #[.val (.int p0), .val (.int p1), .val (.int p2), .val (.int p3), .val (.int (0 : Int32)), .val (.int (2 : Int32)), .val (.ref b102), .val .null, .val (.ref xs_111), .unset, .unset] [])) _
            refine XS.iconst X111.here hx rfl (hb hby at_120) ?_
            exact ht
          have kk := k115
          simpa only [if_neg P5, if_pos hc108, if_pos hc114] using kk
        · have k116 : Go p.tables e below (T111.setTop (mkF m 113 #[.val (.int p0), .val (.int p1), .val (.int p2), .val (.int p3), .val (.int (0 : Int32)), .val (.int (2 : Int32)), .val (.ref b102), .val .null, .val (.ref xs_111), .unset, .unset] [(.int (p3 &&& (1 : Int32)))])) (T111.setTop (mkF m 121 #[.val (.int p0), .val (.int p1), .val (.int p2), .val (.int p3), .val (.int (0 : Int32)), .val (.int (2 : Int32)), .val (.ref b102), .val .null, .val (.ref xs_111), .unset, .unset] [(.int (1 : Int32))])) := by
            intro t ht
            refine XS.ifNo X111.here hx rfl (hb hby at_113) rfl ((if0 _ _).trans (feq hc114).1) ?_
            show Steps p.tables e below (T111.setTop (mkF m 116 #[.val (.int p0), .val (.int p1), .val (.int p2), .val (.int p3), .val (.int (0 : Int32)), .val (.int (2 : Int32)), .val (.ref b102), .val .null, .val (.ref xs_111), .unset, .unset] [])) _
            refine XS.iconst X111.here hx rfl (hb hby at_116) ?_
            show Steps p.tables e below (T111.setTop (mkF m 117 #[.val (.int p0), .val (.int p1), .val (.int p2), .val (.int p3), .val (.int (0 : Int32)), .val (.int (2 : Int32)), .val (.ref b102), .val .null, .val (.ref xs_111), .unset, .unset] [(.int (1 : Int32))])) _
            refine XS.goto X111.here hx rfl (pc0 := 117) (pc' := 121) rfl (hb hby at_117) (by decide) (by decide) ?_
            exact ht
          have kk := k116
          simpa only [if_neg P5, if_pos hc108, if_neg hc114] using kk
      have k117 : Go p.tables e below (T111.setTop (mkF m 121 #[.val (.int p0), .val (.int p1), .val (.int p2), .val (.int p3), .val (.int (0 : Int32)), .val (.int (2 : Int32)), .val (.ref b102), .val .null, .val (.ref xs_111), .unset, .unset] [(.int (if (p3 &&& (1 : Int32)) = (0 : Int32) then (0 : Int32) else (1 : Int32)))])) (T111.setTop (mkF m 123 #[.val (.int p0), .val (.int p1), .val (.int p2), .val (.int p3), .val (.int (0 : Int32)), .val (.int (2 : Int32)), .val (.ref b102), .val .null, .val (.ref xs_111), .val (.int (if (p3 &&& (1 : Int32)) = (0 : Int32) then (0 : Int32) else (1 : Int32))), .unset] [])) := by
        intro t ht
        refine XS.istore X111.here hx rfl (hb hby at_121) rfl (l' := #[.val (.int p0), .val (.int p1), .val (.int p2), .val (.int p3), .val (.int (0 : Int32)), .val (.int (2 : Int32)), .val (.ref b102), .val .null, .val (.ref xs_111), .val (.int (if (p3 &&& (1 : Int32)) = (0 : Int32) then (0 : Int32) else (1 : Int32))), .unset]) rfl ?_
        exact ht
      obtain ⟨T118, h118, X118, e118, E118, A118, D118, -, st118⟩ := newO X111 hx hZ hown (hw _ (List.mem_of_getElem? (i := 27) rfl)) (hw _ (List.mem_of_getElem? (i := 28) rfl)) (hw _ (List.mem_of_getElem? (i := 29) rfl)) rfl (g := (mkF m 123 #[.val (.int p0), .val (.int p1), .val (.int p2), .val (.int p3), .val (.int (0 : Int32)), .val (.int (2 : Int32)), .val (.ref b102), .val .null, .val (.ref xs_111), .val (.int (if (p3 &&& (1 : Int32)) = (0 : Int32) then (0 : Int32) else (1 : Int32))), .unset] [])) rfl (hb hby at_123) (by decide) (by decide)
      obtain ⟨b118, g118⟩ : ∃ z, z = T111.heap.size := ⟨_, rfl⟩
      rw [← g118] at A118 D118 st118
      have g_b118 : n0 ≤ b118 := Nat.le_trans Z111 (Nat.le_of_eq g118.symm)
      have sz_b118 : h0.size ≤ b118 := Nat.le_trans Kp111.1 (Nat.le_of_eq g118.symm)
      have ne_wD_b118 : wD ≠ b118 := Nat.ne_of_lt (Nat.lt_of_lt_of_le E_D_c_111.lt (Nat.le_of_eq g118.symm))
      have ne_b102_b118 : b102 ≠ b118 := Nat.ne_of_lt (Nat.lt_of_lt_of_le V106_b102_c_111.lt (Nat.le_of_eq g118.symm))
      have ne_xs_111_b118 : xs_111 ≠ b118 := Nat.ne_of_lt (Nat.lt_of_lt_of_le Fq111_0.lt (Nat.le_of_eq g118.symm))
      have ne_xb_111_b118 : xb_111 ≠ b118 := Nat.ne_of_lt (Nat.lt_of_lt_of_le Fq111_3.lt (Nat.le_of_eq g118.symm))
      have Kp118 : Keep h0 h118 [] := Kp111.ext E118
      have Z118 : n0 ≤ h118.size := Nat.le_trans Z111 E118.1
      have S_CS_c_118 := S_CS_c_111.ext E118
      have S_D_c_118 := S_D_c_111.ext E118
      have E_D_c_118 := E_D_c_111.ext E118
      have F_D_c_118 := F_D_c_111.ext E118
      have V106_b102_c_118 := V106_b102_c_111.ext E118
      have Fq111_0_c_118 := Fq111_0.ext E118
      have Fq111_1_c_118 := Fq111_1.ext E118
      have Fq111_2_c_118 := Fq111_2.ext E118
      have Fq111_3_c_118 := Fq111_3.ext E118
      have F_nameColumn_b118 : Fld Z h118 b118 "com/example/plain_keys/plainkeys/dialect/KeyTableLayout" "nameColumn" "Ljava/lang/String;" .null := D118 (Or.inr (hw _ (List.mem_of_getElem? (i := 40) rfl))) (ty := (.object "java/lang/String")) (by decide)
      have F_valueColumn_b118 : Fld Z h118 b118 "com/example/plain_keys/plainkeys/dialect/KeyTableLayout" "valueColumn" "Ljava/lang/String;" .null := D118 (Or.inr (hw _ (List.mem_of_getElem? (i := 42) rfl))) (ty := (.object "java/lang/String")) (by decide)
      have F_valueIsLastKey_b118 : Fld Z h118 b118 "com/example/plain_keys/plainkeys/dialect/KeyTableLayout" "valueIsLastKey" "Z" (.int (0 : Int32)) := D118 (Or.inr (hw _ (List.mem_of_getElem? (i := 44) rfl))) (ty := .boolean) (by decide)
      have k118 : Go p.tables e below (T111.setTop (mkF m 123 #[.val (.int p0), .val (.int p1), .val (.int p2), .val (.int p3), .val (.int (0 : Int32)), .val (.int (2 : Int32)), .val (.ref b102), .val .null, .val (.ref xs_111), .val (.int (if (p3 &&& (1 : Int32)) = (0 : Int32) then (0 : Int32) else (1 : Int32))), .unset] [])) (T118.setTop (mkF m 126 #[.val (.int p0), .val (.int p1), .val (.int p2), .val (.int p3), .val (.int (0 : Int32)), .val (.int (2 : Int32)), .val (.ref b102), .val .null, .val (.ref xs_111), .val (.int (if (p3 &&& (1 : Int32)) = (0 : Int32) then (0 : Int32) else (1 : Int32))), .unset] [(.ref b118)])) := st118
      have k119 : Go p.tables e below (T118.setTop (mkF m 126 #[.val (.int p0), .val (.int p1), .val (.int p2), .val (.int p3), .val (.int (0 : Int32)), .val (.int (2 : Int32)), .val (.ref b102), .val .null, .val (.ref xs_111), .val (.int (if (p3 &&& (1 : Int32)) = (0 : Int32) then (0 : Int32) else (1 : Int32))), .unset] [(.ref b118)])) (T118.setTop (mkF m 133 #[.val (.int p0), .val (.int p1), .val (.int p2), .val (.int p3), .val (.int (0 : Int32)), .val (.int (2 : Int32)), .val (.ref b102), .val .null, .val (.ref xs_111), .val (.int (if (p3 &&& (1 : Int32)) = (0 : Int32) then (0 : Int32) else (1 : Int32))), .unset] [(.int (if (p3 &&& (1 : Int32)) = (0 : Int32) then (0 : Int32) else (1 : Int32))), (.ref xs_111), .null, (.ref b118), (.ref b118)])) := by
        intro t ht
        refine XS.dup X118.here hx rfl (hb hby at_126) rfl rfl ?_
        show Steps p.tables e below (T118.setTop (mkF m 127 #[.val (.int p0), .val (.int p1), .val (.int p2), .val (.int p3), .val (.int (0 : Int32)), .val (.int (2 : Int32)), .val (.ref b102), .val .null, .val (.ref xs_111), .val (.int (if (p3 &&& (1 : Int32)) = (0 : Int32) then (0 : Int32) else (1 : Int32))), .unset] [(.ref b118), (.ref b118)])) _
        refine XS.aload X118.here hx rfl (hb hby at_127) rfl rfl ?_
        show Steps p.tables e below (T118.setTop (mkF m 129 #[.val (.int p0), .val (.int p1), .val (.int p2), .val (.int p3), .val (.int (0 : Int32)), .val (.int (2 : Int32)), .val (.ref b102), .val .null, .val (.ref xs_111), .val (.int (if (p3 &&& (1 : Int32)) = (0 : Int32) then (0 : Int32) else (1 : Int32))), .unset] [.null, (.ref b118), (.ref b118)])) _
        refine XS.aload X118.here hx rfl (hb hby at_129) rfl rfl ?_
        show Steps p.tables e below (T118.setTop (mkF m 131 #[.val (.int p0), .val (.int p1), .val (.int p2), .val (.int p3), .val (.int (0 : Int32)), .val (.int (2 : Int32)), .val (.ref b102), .val .null, .val (.ref xs_111), .val (.int (if (p3 &&& (1 : Int32)) = (0 : Int32) then (0 : Int32) else (1 : Int32))), .unset] [(.ref xs_111), .null, (.ref b118), (.ref b118)])) _
        refine XS.iload X118.here hx rfl (hb hby at_131) rfl ?_
        exact ht
      obtain ⟨_, _, ⟨T120, L120, kq120, n120⟩, -, X120, ⟨Lc120, hQ120, l120, y120, z120⟩, st120⟩ := X118.specialBack hx (y := (⟨"com/example/plain_keys/plainkeys/dialect/KeyTableLayout", "<init>", "(Ljava/lang/String;Ljava/lang/String;Z)V"⟩ : MethodName)) rfl hown (mvT hZ (hw _ (List.mem_of_getElem? (i := 30) rfl))) (mvT hZ (hw _ (List.mem_of_getElem? (i := 31) rfl))) (mvT hZ (hw _ (List.mem_of_getElem? (i := 32) rfl))) (by decide) (backOf (W := 1) (rm_initNull l Z a0 hw [] b118 xs_111 (if (p3 &&& (1 : Int32)) = (0 : Int32) then (0 : Int32) else (1 : Int32)) h118 n0 Z118 F_nameColumn_b118 F_valueColumn_b118 F_valueIsLastKey_b118 A118 g_b118) hZ (hw _ (List.mem_of_getElem? (i := 32) rfl)) (hw _ (List.mem_of_getElem? (i := 29) rfl)) (by decide) (by decide)) (g := (mkF m 133 #[.val (.int p0), .val (.int p1), .val (.int p2), .val (.int p3), .val (.int (0 : Int32)), .val (.int (2 : Int32)), .val (.ref b102), .val .null, .val (.ref xs_111), .val (.int (if (p3 &&& (1 : Int32)) = (0 : Int32) then (0 : Int32) else (1 : Int32))), .unset] [(.int (if (p3 &&& (1 : Int32)) = (0 : Int32) then (0 : Int32) else (1 : Int32))), (.ref xs_111), .null, (.ref b118), (.ref b118)])) rfl (by rw [hml]; rfl) (Steps.refl _) (a := b118) (argsL := [.null, (.ref xs_111), (.int (if (p3 &&& (1 : Int32)) = (0 : Int32) then (0 : Int32) else (1 : Int32)))]) (rest := [(.ref b118)]) (lenOf pd_6 rfl) rfl (by show 2 * 0 + _ ≤ _; exact Nat.le_of_eq rfl) (hb hby at_133) (fun _ _ => ⟨rfl, e118, (by decide : 4 + 0 ≤ _), (by decide : 10 + 0 ≤ _)⟩)
      dsimp only [Pt.U, Pt.locs, Pt.cells, Pt.slots] at X120 l120 y120 z120 st120 hQ120
      subst l120 y120 z120
      obtain ⟨rfl, N120q, K120, Fq120_0, Fq120_1, Fq120_2, Fq120_3⟩ := hQ120
      have N120 := Fr.app N111 N120q
      have k120 : Go p.tables e below (T118.setTop (mkF m 133 #[.val (.int p0), .val (.int p1), .val (.int p2), .val (.int p3), .val (.int (0 : Int32)), .val (.int (2 : Int32)), .val (.ref b102), .val .null, .val (.ref xs_111), .val (.int (if (p3 &&& (1 : Int32)) = (0 : Int32) then (0 : Int32) else (1 : Int32))), .unset] [(.int (if (p3 &&& (1 : Int32)) = (0 : Int32) then (0 : Int32) else (1 : Int32))), (.ref xs_111), .null, (.ref b118), (.ref b118)])) (T120.setTop (mkF m 136 #[.val (.int p0), .val (.int p1), .val (.int p2), .val (.int p3), .val (.int (0 : Int32)), .val (.int (2 : Int32)), .val (.ref b102), .val .null, .val (.ref xs_111), .val (.int (if (p3 &&& (1 : Int32)) = (0 : Int32) then (0 : Int32) else (1 : Int32))), .unset] [(.ref b118)])) := fun _ ht => st120.trans ht
      have Kp120 : Keep h0 T120.heap [] := Kp118.trans K120 (allS (Or.inr sz_b118) all0)
      have Z120 : n0 ≤ T120.heap.size := Nat.le_trans Z118 K120.1
      have S_CS_c_120 := own_sta_keep S_CS_c_118 A118 K120
      have S_D_c_120 := own_sta_keep S_D_c_118 A118 K120
      have E_D_c_120 := E_D_c_118.keep K120
      have F_D_c_120 := F_D_c_118.keep K120 (ninS ne_wD_b118 nin0)
      have V106_b102_c_120 := V106_b102_c_118.keep K120 (ninS ne_b102_b118 nin0)
      have Fq111_0_c_120 := Fq111_0_c_118.keep K120
      have Fq111_1_c_120 := Fq111_1_c_118.keep K120 (ninS ne_xs_111_b118 nin0)
      have Fq111_2_c_120 := Fq111_2_c_118.keep K120 (ninS ne_xs_111_b118 nin0)
      have Fq111_3_c_120 := Fq111_3_c_118.keep K120 (ninS ne_xb_111_b118 nin0)
      have A118_c_120 := A118.keep K120
      have k121 : Go p.tables e below (T120.setTop (mkF m 136 #[.val (.int p0), .val (.int p1), .val (.int p2), .val (.int p3), .val (.int (0 : Int32)), .val (.int (2 : Int32)), .val (.ref b102), .val .null, .val (.ref xs_111), .val (.int (if (p3 &&& (1 : Int32)) = (0 : Int32) then (0 : Int32) else (1 : Int32))), .unset] [(.ref b118)])) (T120.setTop (mkF m 140 #[.val (.int p0), .val (.int p1), .val (.int p2), .val (.int p3), .val (.int (0 : Int32)), .val (.int (2 : Int32)), .val (.ref b102), .val .null, .val (.ref xs_111), .val (.int (if (p3 &&& (1 : Int32)) = (0 : Int32) then (0 : Int32) else (1 : Int32))), .val (.ref b118)] [(.ref b118)])) := by
        intro t ht
        refine XS.astore X120.here hx rfl (hb hby at_136) rfl rfl (l' := #[.val (.int p0), .val (.int p1), .val (.int p2), .val (.int p3), .val (.int (0 : Int32)), .val (.int (2 : Int32)), .val (.ref b102), .val .null, .val (.ref xs_111), .val (.int (if (p3 &&& (1 : Int32)) = (0 : Int32) then (0 : Int32) else (1 : Int32))), .val (.ref b118)]) rfl ?_
        show Steps p.tables e below (T120.setTop (mkF m 138 #[.val (.int p0), .val (.int p1), .val (.int p2), .val (.int p3), .val (.int (0 : Int32)), .val (.int (2 : Int32)), .val (.ref b102), .val .null, .val (.ref xs_111), .val (.int (if (p3 &&& (1 : Int32)) = (0 : Int32) then (0 : Int32) else (1 : Int32))), .val (.ref b118)] [])) _
        refine XS.aload X120.here hx rfl (hb hby at_138) rfl rfl ?_
        exact ht
      obtain ⟨cq122, kq122, q122a, q122b, q122c⟩ := isOf hZ rfl Fq120_0
      obtain ⟨_, _, ⟨T122, L122, kq122, n122⟩, -, X122, ⟨Lc122, hQ122, l122, y122, z122⟩, st122⟩ := X120.virtualBack hx (y := (⟨"com/example/plain_keys/plainkeys/dialect/KeyTableLayout", "namesRows", "()Z"⟩ : MethodName)) (z := (⟨"com/example/plain_keys/plainkeys/dialect/KeyTableLayout", "namesRows", "()Z"⟩ : MethodName)) hown (mvT hZ (hw _ (List.mem_of_getElem? (i := 45) rfl))) (mvT hZ (hw _ (List.mem_of_getElem? (i := 46) rfl))) (notFace_of_selects (args := #[]) (mvT hZ (hw _ (List.mem_of_getElem? (i := 48) rfl)))) (mvT hZ (hw _ (List.mem_of_getElem? (i := 48) rfl))) (mvT hZ (hw _ (List.mem_of_getElem? (i := 47) rfl))) (by decide) (backOf (W := 0) (rm_rows0 l Z a0 hw [] b118 T120.heap n0 Z120 Fq120_1) hZ (hw _ (List.mem_of_getElem? (i := 49) rfl)) (hw _ (List.mem_of_getElem? (i := 29) rfl)) (by decide) (by decide)) q122a q122c (g := (mkF m 140 #[.val (.int p0), .val (.int p1), .val (.int p2), .val (.int p3), .val (.int (0 : Int32)), .val (.int (2 : Int32)), .val (.ref b102), .val .null, .val (.ref xs_111), .val (.int (if (p3 &&& (1 : Int32)) = (0 : Int32) then (0 : Int32) else (1 : Int32))), .val (.ref b118)] [(.ref b118)])) rfl (by rw [hml]; rfl) (Steps.refl _) (argsL := []) (rest := []) (lenOf pd_7 rfl) rfl (by show 2 * 0 + _ ≤ _; exact Nat.le_of_eq rfl) (hb hby at_140) (fun _ _ => ⟨rfl, rfl, (by decide : 4 + 0 ≤ _), (by decide : 10 + 0 ≤ _)⟩)
      dsimp only [Pt.U, Pt.locs, Pt.cells, Pt.slots] at X122 l122 y122 z122 st122 hQ122
      subst l122 y122 z122
      obtain ⟨rfl, N122q, eq122⟩ := hQ122
      have N122 := Fr.app N120 N122q
      have k122 : Go p.tables e below (T120.setTop (mkF m 140 #[.val (.int p0), .val (.int p1), .val (.int p2), .val (.int p3), .val (.int (0 : Int32)), .val (.int (2 : Int32)), .val (.ref b102), .val .null, .val (.ref xs_111), .val (.int (if (p3 &&& (1 : Int32)) = (0 : Int32) then (0 : Int32) else (1 : Int32))), .val (.ref b118)] [(.ref b118)])) (T122.setTop (mkF m 143 #[.val (.int p0), .val (.int p1), .val (.int p2), .val (.int p3), .val (.int (0 : Int32)), .val (.int (2 : Int32)), .val (.ref b102), .val .null, .val (.ref xs_111), .val (.int (if (p3 &&& (1 : Int32)) = (0 : Int32) then (0 : Int32) else (1 : Int32))), .val (.ref b118)] [(.int (0 : Int32))])) := fun _ ht => st122.trans ht
      have k123 : Go p.tables e below (T122.setTop (mkF m 143 #[.val (.int p0), .val (.int p1), .val (.int p2), .val (.int p3), .val (.int (0 : Int32)), .val (.int (2 : Int32)), .val (.ref b102), .val .null, .val (.ref xs_111), .val (.int (if (p3 &&& (1 : Int32)) = (0 : Int32) then (0 : Int32) else (1 : Int32))), .val (.ref b118)] [(.int (0 : Int32))])) (T122.setTop (mkF m 148 #[.val (.int p0), .val (.int p1), .val (.int p2), .val (.int p3), .val (.int (0 : Int32)), .val (.int (2 : Int32)), .val (.ref b102), .val .null, .val (.ref xs_111), .val (.int (if (p3 &&& (1 : Int32)) = (0 : Int32) then (0 : Int32) else (1 : Int32))), .val (.ref b118)] [])) := by
        intro t ht
        refine XS.iload X122.here hx rfl (hb hby at_143) rfl ?_
        show Steps p.tables e below (T122.setTop (mkF m 145 #[.val (.int p0), .val (.int p1), .val (.int p2), .val (.int p3), .val (.int (0 : Int32)), .val (.int (2 : Int32)), .val (.ref b102), .val .null, .val (.ref xs_111), .val (.int (if (p3 &&& (1 : Int32)) = (0 : Int32) then (0 : Int32) else (1 : Int32))), .val (.ref b118)] [(.int (0 : Int32)), (.int (0 : Int32))])) _
        refine XS.icmpNo X122.here hx rfl (hb hby at_145) rfl (teq (by decide : (0 : Int32) = (0 : Int32))).2 ?_
        exact ht
      obtain ⟨T124, X124, e124, st124⟩ := getS2 X122 hx hZ hown (host := "") (Or.inl (hw _ (List.mem_of_getElem? (i := 50) rfl))) Via.refl eq122 S_D_c_120 (g := (mkF m 148 #[.val (.int p0), .val (.int p1), .val (.int p2), .val (.int p3), .val (.int (0 : Int32)), .val (.int (2 : Int32)), .val (.ref b102), .val .null, .val (.ref xs_111), .val (.int (if (p3 &&& (1 : Int32)) = (0 : Int32) then (0 : Int32) else (1 : Int32))), .val (.ref b118)] [])) rfl (hb hby at_148)
      have k124 : Go p.tables e below (T122.setTop (mkF m 148 #[.val (.int p0), .val (.int p1), .val (.int p2), .val (.int p3), .val (.int (0 : Int32)), .val (.int (2 : Int32)), .val (.ref b102), .val .null, .val (.ref xs_111), .val (.int (if (p3 &&& (1 : Int32)) = (0 : Int32) then (0 : Int32) else (1 : Int32))), .val (.ref b118)] [])) (T124.setTop (mkF m 151 #[.val (.int p0), .val (.int p1), .val (.int p2), .val (.int p3), .val (.int (0 : Int32)), .val (.int (2 : Int32)), .val (.ref b102), .val .null, .val (.ref xs_111), .val (.int (if (p3 &&& (1 : Int32)) = (0 : Int32) then (0 : Int32) else (1 : Int32))), .val (.ref b118)] [(.ref wD)])) := st124
      obtain ⟨cq125, kq125, q125a, q125b, q125c⟩ := isOf hZ e124 E_D_c_120
      obtain ⟨_, _, ⟨T125, L125, kq125, n125⟩, -, X125, ⟨Lc125, hQ125, l125, y125, z125⟩, st125⟩ := X124.virtualBack hx (y := (⟨"com/example/plain_keys/plainkeys/dialect/KeyTableLayout", "namesRows", "()Z"⟩ : MethodName)) (z := (⟨"com/example/plain_keys/plainkeys/dialect/KeyTableLayout", "namesRows", "()Z"⟩ : MethodName)) hown (mvT hZ (hw _ (List.mem_of_getElem? (i := 45) rfl))) (mvT hZ (hw _ (List.mem_of_getElem? (i := 46) rfl))) (notFace_of_selects (args := #[]) (mvT hZ (hw _ (List.mem_of_getElem? (i := 48) rfl)))) (mvT hZ (hw _ (List.mem_of_getElem? (i := 48) rfl))) (mvT hZ (hw _ (List.mem_of_getElem? (i := 47) rfl))) (by decide) (backOf (W := 0) (rm_rows1 l Z a0 hw [] wD wn T120.heap n0 Z120 F_D_c_120) hZ (hw _ (List.mem_of_getElem? (i := 49) rfl)) (hw _ (List.mem_of_getElem? (i := 29) rfl)) (by decide) (by decide)) q125a q125c (g := (mkF m 151 #[.val (.int p0), .val (.int p1), .val (.int p2), .val (.int p3), .val (.int (0 : Int32)), .val (.int (2 : Int32)), .val (.ref b102), .val .null, .val (.ref xs_111), .val (.int (if (p3 &&& (1 : Int32)) = (0 : Int32) then (0 : Int32) else (1 : Int32))), .val (.ref b118)] [(.ref wD)])) rfl (by rw [hml]; rfl) (Steps.refl _) (argsL := []) (rest := []) (lenOf pd_7 rfl) rfl (by show 2 * 0 + _ ≤ _; exact Nat.le_of_eq rfl) (hb hby at_151) (fun _ _ => ⟨rfl, e124, (by decide : 4 + 0 ≤ _), (by decide : 10 + 0 ≤ _)⟩)
      dsimp only [Pt.U, Pt.locs, Pt.cells, Pt.slots] at X125 l125 y125 z125 st125 hQ125
      subst l125 y125 z125
      obtain ⟨rfl, N125q, eq125⟩ := hQ125
      have N125 := Fr.app N122 N125q
      have k125 : Go p.tables e below (T124.setTop (mkF m 151 #[.val (.int p0), .val (.int p1), .val (.int p2), .val (.int p3), .val (.int (0 : Int32)), .val (.int (2 : Int32)), .val (.ref b102), .val .null, .val (.ref xs_111), .val (.int (if (p3 &&& (1 : Int32)) = (0 : Int32) then (0 : Int32) else (1 : Int32))), .val (.ref b118)] [(.ref wD)])) (T125.setTop (mkF m 154 #[.val (.int p0), .val (.int p1), .val (.int p2), .val (.int p3), .val (.int (0 : Int32)), .val (.int (2 : Int32)), .val (.ref b102), .val .null, .val (.ref xs_111), .val (.int (if (p3 &&& (1 : Int32)) = (0 : Int32) then (0 : Int32) else (1 : Int32))), .val (.ref b118)] [(.int (1 : Int32))])) := fun _ ht => st125.trans ht
      have k126 : Go p.tables e below (T125.setTop (mkF m 154 #[.val (.int p0), .val (.int p1), .val (.int p2), .val (.int p3), .val (.int (0 : Int32)), .val (.int (2 : Int32)), .val (.ref b102), .val .null, .val (.ref xs_111), .val (.int (if (p3 &&& (1 : Int32)) = (0 : Int32) then (0 : Int32) else (1 : Int32))), .val (.ref b118)] [(.int (1 : Int32))])) (T125.setTop (mkF m 162 #[.val (.int p0), .val (.int p1), .val (.int p2), .val (.int p3), .val (.int (0 : Int32)), .val (.int (2 : Int32)), .val (.ref b102), .val .null, .val (.ref xs_111), .val (.int (if (p3 &&& (1 : Int32)) = (0 : Int32) then (0 : Int32) else (1 : Int32))), .val (.ref b118)] [(.int (1 : Int32))])) := by
        intro t ht
        refine XS.ifNo X125.here hx rfl (hb hby at_154) rfl ((if0 _ _).trans (feq (by decide : ¬ ((1 : Int32) = (0 : Int32)))).1) ?_
        show Steps p.tables e below (T125.setTop (mkF m 157 #[.val (.int p0), .val (.int p1), .val (.int p2), .val (.int p3), .val (.int (0 : Int32)), .val (.int (2 : Int32)), .val (.ref b102), .val .null, .val (.ref xs_111), .val (.int (if (p3 &&& (1 : Int32)) = (0 : Int32) then (0 : Int32) else (1 : Int32))), .val (.ref b118)] [])) _
        refine XS.iconst X125.here hx rfl (hb hby at_157) ?_
        show Steps p.tables e below (T125.setTop (mkF m 158 #[.val (.int p0), .val (.int p1), .val (.int p2), .val (.int p3), .val (.int (0 : Int32)), .val (.int (2 : Int32)), .val (.ref b102), .val .null, .val (.ref xs_111), .val (.int (if (p3 &&& (1 : Int32)) = (0 : Int32) then (0 : Int32) else (1 : Int32))), .val (.ref b118)] [(.int (1 : Int32))])) _
        refine XS.goto X125.here hx rfl (pc0 := 158) (pc' := 162) rfl (hb hby at_158) (by decide) (by decide) ?_
        exact ht
      have hS0 : s.Since s.vm 0 := (State.WarmedH.refl s).since 0
      obtain ⟨fs, hr, hrun, hended, hW⟩ := X125.leaveW (s := s) (vm₁ := s.vm) hS0 (Nat.zero_le _) (v := some (.int (1 : Int32))) (fun h => by rw [Bd.returns] at h; cases h)
      refine ⟨_, _, pre0 _ ((goT k1 (goT k2 (goT k6 (goT k100 (goT k101 (goT k102 (goT k103 (goT k104 (goT k105 (goT k106 (goT k107 (goT k109 (goT k110 (goT k111 (goT k112 (goT k113 (goT k117 (goT k118 (goT k119 (goT k120 (goT k121 (goT k122 (goT k123 (goT k124 (goT k125 k126))))))))))))))))))))))))) _ (retN X125 hx (t := .boolean) Bd.returns (by simp) (hb hby at_162) hr)), hrun, hended, _, _, rfl, ?_, hW.1, hW.2.1, hW.2.2.1, hW.2.2.2.mono (by decide) (by decide)⟩
      show Q_law Z p0 p1 p2 p3 G1 wD wn h0 n0 _ T125.heap _
      rw [eq125]
      exact ⟨rfl, N125⟩
    · have k127 : Go p.tables e below (T106.setTop (mkF m 78 #[.val (.int p0), .val (.int p1), .val (.int p2), .val (.int p3), .val (.int (if (p0 &&& (1 : Int32)) = (0 : Int32) then (0 : Int32) else (1 : Int32))), .val (.int (2 : Int32)), .val (.ref b102), .unset, .unset, .unset, .unset] [(.int (if (p0 &&& (1 : Int32)) = (0 : Int32) then (0 : Int32) else (1 : Int32)))])) (T106.setTop (mkF m 78 #[.val (.int p0), .val (.int p1), .val (.int p2), .val (.int p3), .val (.int (1 : Int32)), .val (.int (2 : Int32)), .val (.ref b102), .unset, .unset, .unset, .unset] [(.int (1 : Int32))])) := by
        simp only [if_neg hc108]; exact fun _ h => h
      have k128 : Go p.tables e below (T106.setTop (mkF m 78 #[.val (.int p0), .val (.int p1), .val (.int p2), .val (.int p3), .val (.int (1 : Int32)), .val (.int (2 : Int32)), .val (.ref b102), .unset, .unset, .unset, .unset] [(.int (1 : Int32))])) (T106.setTop (mkF m 81 #[.val (.int p0), .val (.int p1), .val (.int p2), .val (.int p3), .val (.int (1 : Int32)), .val (.int (2 : Int32)), .val (.ref b102), .unset, .unset, .unset, .unset] [])) := by
        intro t ht
        refine XS.ifNo X106.here hx rfl (hb hby at_78) rfl ((if0 _ _).trans (feq (by decide : ¬ ((1 : Int32) = (0 : Int32)))).1) ?_
        exact ht
      obtain ⟨T129, h129, X129, e129, E129, A129, D129, -, st129⟩ := newO X106 hx hZ hown (hw _ (List.mem_of_getElem? (i := 52) rfl)) (hw _ (List.mem_of_getElem? (i := 11) rfl)) (hw _ (List.mem_of_getElem? (i := 3) rfl)) e106 (g := (mkF m 81 #[.val (.int p0), .val (.int p1), .val (.int p2), .val (.int p3), .val (.int (1 : Int32)), .val (.int (2 : Int32)), .val (.ref b102), .unset, .unset, .unset, .unset] [])) rfl (hb hby at_81) (by decide) (by decide)
      obtain ⟨b129, g129⟩ : ∃ z, z = h106.size := ⟨_, rfl⟩
      rw [← g129] at A129 D129 st129
      have g_b129 : n0 ≤ b129 := Nat.le_trans Z106 (Nat.le_of_eq g129.symm)
      have sz_b129 : h0.size ≤ b129 := Nat.le_trans Kp106.1 (Nat.le_of_eq g129.symm)
      have ne_wD_b129 : wD ≠ b129 := Nat.ne_of_lt (Nat.lt_of_lt_of_le E_D_c_106.lt (Nat.le_of_eq g129.symm))
      have ne_b102_b129 : b102 ≠ b129 := Nat.ne_of_lt (Nat.lt_of_lt_of_le V106_b102.lt (Nat.le_of_eq g129.symm))
      have Kp129 : Keep h0 h129 [] := Kp106.ext E129
      have Z129 : n0 ≤ h129.size := Nat.le_trans Z106 E129.1
      have S_CS_c_129 := S_CS_c_106.ext E129
      have S_D_c_129 := S_D_c_106.ext E129
      have E_D_c_129 := E_D_c_106.ext E129
      have F_D_c_129 := F_D_c_106.ext E129
      have V106_b102_c_129 := V106_b102.ext E129
      have F_value_b129 : Fld Z h129 b129 "java/lang/String" "value" "[B" .null := D129 (Or.inr (hw _ (List.mem_of_getElem? (i := 24) rfl))) (ty := (.array .byte)) (by decide)
      have F_coder_b129 : Fld Z h129 b129 "java/lang/String" "coder" "B" (.int (0 : Int32)) := D129 (Or.inr (hw _ (List.mem_of_getElem? (i := 26) rfl))) (ty := .byte) (by decide)
      have k129 : Go p.tables e below (T106.setTop (mkF m 81 #[.val (.int p0), .val (.int p1), .val (.int p2), .val (.int p3), .val (.int (1 : Int32)), .val (.int (2 : Int32)), .val (.ref b102), .unset, .unset, .unset, .unset] [])) (T129.setTop (mkF m 84 #[.val (.int p0), .val (.int p1), .val (.int p2), .val (.int p3), .val (.int (1 : Int32)), .val (.int (2 : Int32)), .val (.ref b102), .unset, .unset, .unset, .unset] [(.ref b129)])) := st129
      have k130 : Go p.tables e below (T129.setTop (mkF m 84 #[.val (.int p0), .val (.int p1), .val (.int p2), .val (.int p3), .val (.int (1 : Int32)), .val (.int (2 : Int32)), .val (.ref b102), .unset, .unset, .unset, .unset] [(.ref b129)])) (T129.setTop (mkF m 87 #[.val (.int p0), .val (.int p1), .val (.int p2), .val (.int p3), .val (.int (1 : Int32)), .val (.int (2 : Int32)), .val (.ref b102), .unset, .unset, .unset, .unset] [(.ref b102), (.ref b129), (.ref b129)])) := by
        intro t ht
        refine XS.dup X129.here hx rfl (hb hby at_84) rfl rfl ?_
        show Steps p.tables e below (T129.setTop (mkF m 85 #[.val (.int p0), .val (.int p1), .val (.int p2), .val (.int p3), .val (.int (1 : Int32)), .val (.int (2 : Int32)), .val (.ref b102), .unset, .unset, .unset, .unset] [(.ref b129), (.ref b129)])) _
        refine XS.aload X129.here hx rfl (hb hby at_85) rfl rfl ?_
        exact ht
      have hlat131 : ∀ c ∈ ([(nar .char ((p1 &&& (255 : Int32)).toUInt32.toUInt16.toUInt32.toInt32)), (nar .char ((p2 &&& (255 : Int32)).toUInt32.toUInt16.toUInt32.toInt32))] : List Int32), ¬ c < 0 ∧ ¬ (255 : Int32) < c := by
        intro c hc
        simp only [List.mem_cons, List.not_mem_nil, or_false] at hc
        rcases hc with rfl | rfl
        · rw [show (nar .char ((p1 &&& (255 : Int32)).toUInt32.toUInt16.toUInt32.toInt32)) = p1 &&& 255 from by simp only [nar, i2c_mask]]; exact own_and255 _
        · rw [show (nar .char ((p2 &&& (255 : Int32)).toUInt32.toUInt16.toUInt32.toInt32)) = p2 &&& 255 from by simp only [nar, i2c_mask]]; exact own_and255 _
      obtain ⟨_, _, ⟨T131, L131, kq131, n131⟩, -, X131, ⟨Lc131, hQ131, l131, y131, z131⟩, st131⟩ := X129.specialBack hx (y := (⟨"java/lang/String", "<init>", "([C)V"⟩ : MethodName)) rfl hown (mvT hZ (hw _ (List.mem_of_getElem? (i := 53) rfl))) (mvT hZ (hw _ (List.mem_of_getElem? (i := 54) rfl))) (mvT hZ (hw _ (List.mem_of_getElem? (i := 55) rfl))) (by decide) (StrChars.Road.backV (W := 1) hZ (own_words hw) (kI := 4) (hw _ (List.mem_of_getElem? (i := 11) rfl)) (cs := [(nar .char ((p1 &&& (255 : Int32)).toUInt32.toUInt16.toUInt32.toInt32)), (nar .char ((p2 &&& (255 : Int32)).toUInt32.toUInt16.toUInt32.toInt32))]) (bs := [((nar .char ((p1 &&& (255 : Int32)).toUInt32.toUInt16.toUInt32.toInt32))).toInt8.toInt32, ((nar .char ((p2 &&& (255 : Int32)).toUInt32.toUInt16.toUInt32.toInt32))).toInt8.toInt32]) (n := 2) g_b129 Z129 A129 F_value_b129 F_coder_b129 V106_b102_c_129 S_CS_c_129 P5 rfl rfl (by decide) (by decide) hlat131 rfl (by decide) (by decide)) (g := (mkF m 87 #[.val (.int p0), .val (.int p1), .val (.int p2), .val (.int p3), .val (.int (1 : Int32)), .val (.int (2 : Int32)), .val (.ref b102), .unset, .unset, .unset, .unset] [(.ref b102), (.ref b129), (.ref b129)])) rfl (by rw [hml]; rfl) (Steps.refl _) (a := b129) (argsL := [(.ref b102)]) (rest := [(.ref b129)]) (lenOf pd_8 rfl) rfl (by show 2 * 0 + _ ≤ _; exact Nat.le_of_eq rfl) (hb hby at_87) (fun _ _ => ⟨rfl, e129, (by decide : 2 + 1 ≤ _), (by decide : 6 + 2 ≤ _)⟩)
      dsimp only [Pt.U, Pt.locs, Pt.cells, Pt.slots] at X131 l131 y131 z131 st131 hQ131
      subst l131 y131 z131
      obtain ⟨rfl, N131q, K131, Eq131, Cq131, t131, kb131, gt131, gs131, gn131, Vq131, Aq131⟩ := hQ131
      have N131 := Fr.app N106 N131q
      have k131 : Go p.tables e below (T129.setTop (mkF m 87 #[.val (.int p0), .val (.int p1), .val (.int p2), .val (.int p3), .val (.int (1 : Int32)), .val (.int (2 : Int32)), .val (.ref b102), .unset, .unset, .unset, .unset] [(.ref b102), (.ref b129), (.ref b129)])) (T131.setTop (mkF m 90 #[.val (.int p0), .val (.int p1), .val (.int p2), .val (.int p3), .val (.int (1 : Int32)), .val (.int (2 : Int32)), .val (.ref b102), .unset, .unset, .unset, .unset] [(.ref b129)])) := fun _ ht => st131.trans ht
      have Kp131 : Keep h0 T131.heap [] := Kp129.trans K131 (allS (Or.inr sz_b129) all0)
      have sz_t131 : h0.size ≤ t131 := Nat.le_trans Kp129.1 gs131
      have Z131 : n0 ≤ T131.heap.size := Nat.le_trans Z129 K131.1
      have ne_wD_t131 : wD ≠ t131 := Nat.ne_of_lt (Nat.lt_of_lt_of_le E_D_c_129.lt gs131)
      have ne_b102_t131 : b102 ≠ t131 := Nat.ne_of_lt (Nat.lt_of_lt_of_le V106_b102_c_129.lt gs131)
      have ne_b129_t131 : b129 ≠ t131 := Nat.ne_of_lt (Nat.lt_of_lt_of_le A129.lt gs131)
      have g_t131 : n0 ≤ t131 := gt131
      have S_CS_c_131 := own_sta_keep S_CS_c_129 A129 K131
      have S_D_c_131 := own_sta_keep S_D_c_129 A129 K131
      have E_D_c_131 := E_D_c_129.keep K131
      have F_D_c_131 := F_D_c_129.keep K131 (ninS ne_wD_b129 nin0)
      have V106_b102_c_131 := V106_b102_c_129.keep K131 (ninS ne_b102_b129 nin0)
      have A129_c_131 := A129.keep K131
      have k132 : Go p.tables e below (T131.setTop (mkF m 90 #[.val (.int p0), .val (.int p1), .val (.int p2), .val (.int p3), .val (.int (1 : Int32)), .val (.int (2 : Int32)), .val (.ref b102), .unset, .unset, .unset, .unset] [(.ref b129)])) (T131.setTop (mkF m 105 #[.val (.int p0), .val (.int p1), .val (.int p2), .val (.int p3), .val (.int (1 : Int32)), .val (.int (2 : Int32)), .val (.ref b102), .val (.ref b129), .unset, .unset, .unset] [(.int ((((p2.toUInt32 >>> ((8 : Int32) &&& 31).toUInt32).toInt32) &&& (255 : Int32)).toUInt32.toUInt16.toUInt32.toInt32))])) := by
        intro t ht
        refine XS.goto X131.here hx rfl (pc0 := 90) (pc' := 94) rfl (hb hby at_90) (by decide) (by decide) ?_
        show Steps p.tables e below (T131.setTop (mkF m 94 #[.val (.int p0), .val (.int p1), .val (.int p2), .val (.int p3), .val (.int (1 : Int32)), .val (.int (2 : Int32)), .val (.ref b102), .unset, .unset, .unset, .unset] [(.ref b129)])) _
        refine XS.astore X131.here hx rfl (hb hby at_94) rfl rfl (l' := #[.val (.int p0), .val (.int p1), .val (.int p2), .val (.int p3), .val (.int (1 : Int32)), .val (.int (2 : Int32)), .val (.ref b102), .val (.ref b129), .unset, .unset, .unset]) rfl ?_
        show Steps p.tables e below (T131.setTop (mkF m 96 #[.val (.int p0), .val (.int p1), .val (.int p2), .val (.int p3), .val (.int (1 : Int32)), .val (.int (2 : Int32)), .val (.ref b102), .val (.ref b129), .unset, .unset, .unset] [])) _
        refine XS.iloadN X131.here hx rfl (hb hby at_96) rfl ?_
        show Steps p.tables e below (T131.setTop (mkF m 97 #[.val (.int p0), .val (.int p1), .val (.int p2), .val (.int p3), .val (.int (1 : Int32)), .val (.int (2 : Int32)), .val (.ref b102), .val (.ref b129), .unset, .unset, .unset] [(.int p2)])) _
        refine XS.bipush X131.here hx rfl (hb hby at_97) ?_
        show Steps p.tables e below (T131.setTop (mkF m 99 #[.val (.int p0), .val (.int p1), .val (.int p2), .val (.int p3), .val (.int (1 : Int32)), .val (.int (2 : Int32)), .val (.ref b102), .val (.ref b129), .unset, .unset, .unset] [(.int (8 : Int32)), (.int p2)])) _
        refine XS.iushr X131.here hx rfl (hb hby at_99) rfl ?_
        show Steps p.tables e below (T131.setTop (mkF m 100 #[.val (.int p0), .val (.int p1), .val (.int p2), .val (.int p3), .val (.int (1 : Int32)), .val (.int (2 : Int32)), .val (.ref b102), .val (.ref b129), .unset, .unset, .unset] [(.int ((p2.toUInt32 >>> ((8 : Int32) &&& 31).toUInt32).toInt32))])) _
        refine XS.sipush X131.here hx rfl (hb hby at_100) ?_
        show Steps p.tables e below (T131.setTop (mkF m 103 #[.val (.int p0), .val (.int p1), .val (.int p2), .val (.int p3), .val (.int (1 : Int32)), .val (.int (2 : Int32)), .val (.ref b102), .val (.ref b129), .unset, .unset, .unset] [(.int (255 : Int32)), (.int ((p2.toUInt32 >>> ((8 : Int32) &&& 31).toUInt32).toInt32))])) _
        refine XS.iand X131.here hx rfl (hb hby at_103) rfl ?_
        show Steps p.tables e below (T131.setTop (mkF m 104 #[.val (.int p0), .val (.int p1), .val (.int p2), .val (.int p3), .val (.int (1 : Int32)), .val (.int (2 : Int32)), .val (.ref b102), .val (.ref b129), .unset, .unset, .unset] [(.int (((p2.toUInt32 >>> ((8 : Int32) &&& 31).toUInt32).toInt32) &&& (255 : Int32)))])) _
        refine XS.i2c X131.here hx rfl (hb hby at_104) rfl ?_
        exact ht
      obtain ⟨_, _, ⟨T133, L133, kq133, n133⟩, -, X133, ⟨Lc133, hQ133, l133, y133, z133⟩, st133⟩ := Jvm.LawKit.callS X131 hx (y := (⟨"java/lang/String", "valueOf", "(C)Ljava/lang/String;"⟩ : MethodName)) hown (mvT hZ (hw _ (List.mem_of_getElem? (i := 1) rfl))) (mvT hZ (hw _ (List.mem_of_getElem? (i := 2) rfl))) (mvT hZ (hw _ (List.mem_of_getElem? (i := 3) rfl))) (mvT hZ (hw _ (List.mem_of_getElem? (i := 4) rfl))) (by decide) (backOf (W := 0) (rm_valueOf l Z a0 hw [] ((((p2.toUInt32 >>> ((8 : Int32) &&& 31).toUInt32).toInt32) &&& (255 : Int32)).toUInt32.toUInt16.toUInt32.toInt32) G1 T131.heap n0 Z131 S_CS_c_131 (P5 : ¬ (G1 = (0 : Int32))) (own_c255 _ : ¬ ((255 : Int32) < ((((p2.toUInt32 >>> ((8 : Int32) &&& 31).toUInt32).toInt32) &&& (255 : Int32)).toUInt32.toUInt16.toUInt32.toInt32)))) hZ (hw _ (List.mem_of_getElem? (i := 4) rfl)) (hw _ (List.mem_of_getElem? (i := 3) rfl)) (by decide) (by decide)) (g := (mkF m 105 #[.val (.int p0), .val (.int p1), .val (.int p2), .val (.int p3), .val (.int (1 : Int32)), .val (.int (2 : Int32)), .val (.ref b102), .val (.ref b129), .unset, .unset, .unset] [(.int ((((p2.toUInt32 >>> ((8 : Int32) &&& 31).toUInt32).toInt32) &&& (255 : Int32)).toUInt32.toUInt16.toUInt32.toInt32))])) rfl (by rw [hml]; rfl) (argsL := [(.int ((((p2.toUInt32 >>> ((8 : Int32) &&& 31).toUInt32).toInt32) &&& (255 : Int32)).toUInt32.toUInt16.toUInt32.toInt32))]) (rest := []) (lenOf pd_5 rfl) rfl (by show 2 * 0 + _ ≤ _; exact Nat.le_of_eq rfl) (hb hby at_105) (fun _ _ => ⟨rfl, rfl, (by decide : 3 + 2 ≤ _), (by decide : 8 + 5 ≤ _)⟩)
      dsimp only [Pt.U, Pt.locs, Pt.cells, Pt.slots] at X133 l133 y133 z133 st133 hQ133
      subst l133 y133 z133
      obtain ⟨xs_133, xb_133, xk_133, rfl, N133q, K133, Pq133_0, Pq133_1, Fq133_0, Fq133_1, Fq133_2, Fq133_3⟩ := hQ133
      have N133 := Fr.app N131 N133q
      have k133 : Go p.tables e below (T131.setTop (mkF m 105 #[.val (.int p0), .val (.int p1), .val (.int p2), .val (.int p3), .val (.int (1 : Int32)), .val (.int (2 : Int32)), .val (.ref b102), .val (.ref b129), .unset, .unset, .unset] [(.int ((((p2.toUInt32 >>> ((8 : Int32) &&& 31).toUInt32).toInt32) &&& (255 : Int32)).toUInt32.toUInt16.toUInt32.toInt32))])) (T133.setTop (mkF m 108 #[.val (.int p0), .val (.int p1), .val (.int p2), .val (.int p3), .val (.int (1 : Int32)), .val (.int (2 : Int32)), .val (.ref b102), .val (.ref b129), .unset, .unset, .unset] [(.ref xs_133)])) := st133
      have Kp133 : Keep h0 T133.heap [] := Kp131.trans K133 all0
      have Z133 : n0 ≤ T133.heap.size := Nat.le_trans Z131 K133.1
      have ne_wD_xs_133 : wD ≠ xs_133 := Nat.ne_of_lt (Nat.lt_of_lt_of_le E_D_c_131.lt Pq133_0)
      have ne_b102_xs_133 : b102 ≠ xs_133 := Nat.ne_of_lt (Nat.lt_of_lt_of_le V106_b102_c_131.lt Pq133_0)
      have ne_b129_xs_133 : b129 ≠ xs_133 := Nat.ne_of_lt (Nat.lt_of_lt_of_le Eq131.lt Pq133_0)
      have ne_t131_xs_133 : t131 ≠ xs_133 := Nat.ne_of_lt (Nat.lt_of_lt_of_le Aq131.lt Pq133_0)
      have g_xs_133 : n0 ≤ xs_133 := Nat.le_trans Z131 Pq133_0
      have sz_xs_133 : h0.size ≤ xs_133 := Nat.le_trans Kp131.1 Pq133_0
      have ne_wD_xb_133 : wD ≠ xb_133 := Nat.ne_of_lt (Nat.lt_of_lt_of_le E_D_c_131.lt Pq133_1)
      have ne_b102_xb_133 : b102 ≠ xb_133 := Nat.ne_of_lt (Nat.lt_of_lt_of_le V106_b102_c_131.lt Pq133_1)
      have ne_b129_xb_133 : b129 ≠ xb_133 := Nat.ne_of_lt (Nat.lt_of_lt_of_le Eq131.lt Pq133_1)
      have ne_t131_xb_133 : t131 ≠ xb_133 := Nat.ne_of_lt (Nat.lt_of_lt_of_le Aq131.lt Pq133_1)
      have g_xb_133 : n0 ≤ xb_133 := Nat.le_trans Z131 Pq133_1
      have sz_xb_133 : h0.size ≤ xb_133 := Nat.le_trans Kp131.1 Pq133_1
      have S_CS_c_133 := own_sta_keep0 S_CS_c_131 K133
      have S_D_c_133 := own_sta_keep0 S_D_c_131 K133
      have E_D_c_133 := E_D_c_131.keep K133
      have F_D_c_133 := F_D_c_131.keep K133 nin0
      have V106_b102_c_133 := V106_b102_c_131.keep K133 nin0
      have Eq131_c_133 := Eq131.keep K133
      have Cq131_c_133 := Cq131.keep K133 nin0
      have Vq131_c_133 := Vq131.keep K133 nin0
      have Aq131_c_133 := Aq131.keep K133 nin0
      have k134 : Go p.tables e below (T133.setTop (mkF m 108 #[.val (.int p0), .val (.int p1), .val (.int p2), .val (.int p3), .val (.int (1 : Int32)), .val (.int (2 : Int32)), .val (.ref b102), .val (.ref b129), .unset, .unset, .unset] [(.ref xs_133)])) (T133.setTop (mkF m 113 #[.val (.int p0), .val (.int p1), .val (.int p2), .val (.int p3), .val (.int (1 : Int32)), .val (.int (2 : Int32)), .val (.ref b102), .val (.ref b129), .val (.ref xs_133), .unset, .unset] [(.int (p3 &&& (1 : Int32)))])) := by
        intro t ht
        refine XS.astore X133.here hx rfl (hb hby at_108) rfl rfl (l' := #[.val (.int p0), .val (.int p1), .val (.int p2), .val (.int p3), .val (.int (1 : Int32)), .val (.int (2 : Int32)), .val (.ref b102), .val (.ref b129), .val (.ref xs_133), .unset, .unset]) rfl ?_
        show Steps p.tables e below (T133.setTop (mkF m 110 #[.val (.int p0), .val (.int p1), .val (.int p2), .val (.int p3), .val (.int (1 : Int32)), .val (.int (2 : Int32)), .val (.ref b102), .val (.ref b129), .val (.ref xs_133), .unset, .unset] [])) _
        refine XS.iloadN X133.here hx rfl (hb hby at_110) rfl ?_
        show Steps p.tables e below (T133.setTop (mkF m 111 #[.val (.int p0), .val (.int p1), .val (.int p2), .val (.int p3), .val (.int (1 : Int32)), .val (.int (2 : Int32)), .val (.ref b102), .val (.ref b129), .val (.ref xs_133), .unset, .unset] [(.int p3)])) _
        refine XS.iconst X133.here hx rfl (hb hby at_111) ?_
        show Steps p.tables e below (T133.setTop (mkF m 112 #[.val (.int p0), .val (.int p1), .val (.int p2), .val (.int p3), .val (.int (1 : Int32)), .val (.int (2 : Int32)), .val (.ref b102), .val (.ref b129), .val (.ref xs_133), .unset, .unset] [(.int (1 : Int32)), (.int p3)])) _
        refine XS.iand X133.here hx rfl (hb hby at_112) rfl ?_
        exact ht
      have k135 : Go p.tables e below (T133.setTop (mkF m 113 #[.val (.int p0), .val (.int p1), .val (.int p2), .val (.int p3), .val (.int (1 : Int32)), .val (.int (2 : Int32)), .val (.ref b102), .val (.ref b129), .val (.ref xs_133), .unset, .unset] [(.int (p3 &&& (1 : Int32)))])) (T133.setTop (mkF m 121 #[.val (.int p0), .val (.int p1), .val (.int p2), .val (.int p3), .val (.int (1 : Int32)), .val (.int (2 : Int32)), .val (.ref b102), .val (.ref b129), .val (.ref xs_133), .unset, .unset] [(.int (if (p3 &&& (1 : Int32)) = (0 : Int32) then (0 : Int32) else (1 : Int32)))])) := by
        by_cases hc136 : (p3 &&& (1 : Int32)) = (0 : Int32)
        · have k137 : Go p.tables e below (T133.setTop (mkF m 113 #[.val (.int p0), .val (.int p1), .val (.int p2), .val (.int p3), .val (.int (1 : Int32)), .val (.int (2 : Int32)), .val (.ref b102), .val (.ref b129), .val (.ref xs_133), .unset, .unset] [(.int (p3 &&& (1 : Int32)))])) (T133.setTop (mkF m 121 #[.val (.int p0), .val (.int p1), .val (.int p2), .val (.int p3), .val (.int (1 : Int32)), .val (.int (2 : Int32)), .val (.ref b102), .val (.ref b129), .val (.ref xs_133), .unset, .unset] [(.int (0 : Int32))])) := by
            intro t ht
            refine XS.ifYes X133.here hx rfl (pc0 := 113) (pc' := 120) rfl (hb hby at_113) rfl ((if0 _ _).trans (teq hc136).1) (by decide) (by decide) ?_
            show Steps p.tables e below (T133.setTop (mkF m 120 #[.val (.int p0), .val (.int p1), .val (.int p2), .val (.int p3), .val (.int (1 : Int32)), .val (.int (2 : Int32)), .val (.ref b102), .val (.ref b129), .val (.ref xs_133), .unset, .unset] [])) _
            refine XS.iconst X133.here hx rfl (hb hby at_120) ?_
            exact ht
          have kk := k137
          simpa only [if_neg P5, if_neg hc108, if_pos hc136] using kk
        · have k138 : Go p.tables e below (T133.setTop (mkF m 113 #[.val (.int p0), .val (.int p1), .val (.int p2), .val (.int p3), .val (.int (1 : Int32)), .val (.int (2 : Int32)), .val (.ref b102), .val (.ref b129), .val (.ref xs_133), .unset, .unset] [(.int (p3 &&& (1 : Int32)))])) (T133.setTop (mkF m 121 #[.val (.int p0), .val (.int p1), .val (.int p2), .val (.int p3), .val (.int (1 : Int32)), .val (.int (2 : Int32)), .val (.ref b102), .val (.ref b129), .val (.ref xs_133), .unset, .unset] [(.int (1 : Int32))])) := by
            intro t ht
            refine XS.ifNo X133.here hx rfl (hb hby at_113) rfl ((if0 _ _).trans (feq hc136).1) ?_
            show Steps p.tables e below (T133.setTop (mkF m 116 #[.val (.int p0), .val (.int p1), .val (.int p2), .val (.int p3), .val (.int (1 : Int32)), .val (.int (2 : Int32)), .val (.ref b102), .val (.ref b129), .val (.ref xs_133), .unset, .unset] [])) _
            refine XS.iconst X133.here hx rfl (hb hby at_116) ?_
            show Steps p.tables e below (T133.setTop (mkF m 117 #[.val (.int p0), .val (.int p1), .val (.int p2), .val (.int p3), .val (.int (1 : Int32)), .val (.int (2 : Int32)), .val (.ref b102), .val (.ref b129), .val (.ref xs_133), .unset, .unset] [(.int (1 : Int32))])) _
            refine XS.goto X133.here hx rfl (pc0 := 117) (pc' := 121) rfl (hb hby at_117) (by decide) (by decide) ?_
            exact ht
          have kk := k138
          simpa only [if_neg P5, if_neg hc108, if_neg hc136] using kk
      have k139 : Go p.tables e below (T133.setTop (mkF m 121 #[.val (.int p0), .val (.int p1), .val (.int p2), .val (.int p3), .val (.int (1 : Int32)), .val (.int (2 : Int32)), .val (.ref b102), .val (.ref b129), .val (.ref xs_133), .unset, .unset] [(.int (if (p3 &&& (1 : Int32)) = (0 : Int32) then (0 : Int32) else (1 : Int32)))])) (T133.setTop (mkF m 123 #[.val (.int p0), .val (.int p1), .val (.int p2), .val (.int p3), .val (.int (1 : Int32)), .val (.int (2 : Int32)), .val (.ref b102), .val (.ref b129), .val (.ref xs_133), .val (.int (if (p3 &&& (1 : Int32)) = (0 : Int32) then (0 : Int32) else (1 : Int32))), .unset] [])) := by
        intro t ht
        refine XS.istore X133.here hx rfl (hb hby at_121) rfl (l' := #[.val (.int p0), .val (.int p1), .val (.int p2), .val (.int p3), .val (.int (1 : Int32)), .val (.int (2 : Int32)), .val (.ref b102), .val (.ref b129), .val (.ref xs_133), .val (.int (if (p3 &&& (1 : Int32)) = (0 : Int32) then (0 : Int32) else (1 : Int32))), .unset]) rfl ?_
        exact ht
      obtain ⟨T140, h140, X140, e140, E140, A140, D140, -, st140⟩ := newO X133 hx hZ hown (hw _ (List.mem_of_getElem? (i := 27) rfl)) (hw _ (List.mem_of_getElem? (i := 28) rfl)) (hw _ (List.mem_of_getElem? (i := 29) rfl)) rfl (g := (mkF m 123 #[.val (.int p0), .val (.int p1), .val (.int p2), .val (.int p3), .val (.int (1 : Int32)), .val (.int (2 : Int32)), .val (.ref b102), .val (.ref b129), .val (.ref xs_133), .val (.int (if (p3 &&& (1 : Int32)) = (0 : Int32) then (0 : Int32) else (1 : Int32))), .unset] [])) rfl (hb hby at_123) (by decide) (by decide)
      obtain ⟨b140, g140⟩ : ∃ z, z = T133.heap.size := ⟨_, rfl⟩
      rw [← g140] at A140 D140 st140
      have g_b140 : n0 ≤ b140 := Nat.le_trans Z133 (Nat.le_of_eq g140.symm)
      have sz_b140 : h0.size ≤ b140 := Nat.le_trans Kp133.1 (Nat.le_of_eq g140.symm)
      have ne_wD_b140 : wD ≠ b140 := Nat.ne_of_lt (Nat.lt_of_lt_of_le E_D_c_133.lt (Nat.le_of_eq g140.symm))
      have ne_b102_b140 : b102 ≠ b140 := Nat.ne_of_lt (Nat.lt_of_lt_of_le V106_b102_c_133.lt (Nat.le_of_eq g140.symm))
      have ne_b129_b140 : b129 ≠ b140 := Nat.ne_of_lt (Nat.lt_of_lt_of_le Eq131_c_133.lt (Nat.le_of_eq g140.symm))
      have ne_t131_b140 : t131 ≠ b140 := Nat.ne_of_lt (Nat.lt_of_lt_of_le Aq131_c_133.lt (Nat.le_of_eq g140.symm))
      have ne_xs_133_b140 : xs_133 ≠ b140 := Nat.ne_of_lt (Nat.lt_of_lt_of_le Fq133_0.lt (Nat.le_of_eq g140.symm))
      have ne_xb_133_b140 : xb_133 ≠ b140 := Nat.ne_of_lt (Nat.lt_of_lt_of_le Fq133_3.lt (Nat.le_of_eq g140.symm))
      have Kp140 : Keep h0 h140 [] := Kp133.ext E140
      have Z140 : n0 ≤ h140.size := Nat.le_trans Z133 E140.1
      have S_CS_c_140 := S_CS_c_133.ext E140
      have S_D_c_140 := S_D_c_133.ext E140
      have E_D_c_140 := E_D_c_133.ext E140
      have F_D_c_140 := F_D_c_133.ext E140
      have V106_b102_c_140 := V106_b102_c_133.ext E140
      have Eq131_c_140 := Eq131_c_133.ext E140
      have Cq131_c_140 := Cq131_c_133.ext E140
      have Vq131_c_140 := Vq131_c_133.ext E140
      have Aq131_c_140 := Aq131_c_133.ext E140
      have Fq133_0_c_140 := Fq133_0.ext E140
      have Fq133_1_c_140 := Fq133_1.ext E140
      have Fq133_2_c_140 := Fq133_2.ext E140
      have Fq133_3_c_140 := Fq133_3.ext E140
      have F_nameColumn_b140 : Fld Z h140 b140 "com/example/plain_keys/plainkeys/dialect/KeyTableLayout" "nameColumn" "Ljava/lang/String;" .null := D140 (Or.inr (hw _ (List.mem_of_getElem? (i := 40) rfl))) (ty := (.object "java/lang/String")) (by decide)
      have F_valueColumn_b140 : Fld Z h140 b140 "com/example/plain_keys/plainkeys/dialect/KeyTableLayout" "valueColumn" "Ljava/lang/String;" .null := D140 (Or.inr (hw _ (List.mem_of_getElem? (i := 42) rfl))) (ty := (.object "java/lang/String")) (by decide)
      have F_valueIsLastKey_b140 : Fld Z h140 b140 "com/example/plain_keys/plainkeys/dialect/KeyTableLayout" "valueIsLastKey" "Z" (.int (0 : Int32)) := D140 (Or.inr (hw _ (List.mem_of_getElem? (i := 44) rfl))) (ty := .boolean) (by decide)
      have k140 : Go p.tables e below (T133.setTop (mkF m 123 #[.val (.int p0), .val (.int p1), .val (.int p2), .val (.int p3), .val (.int (1 : Int32)), .val (.int (2 : Int32)), .val (.ref b102), .val (.ref b129), .val (.ref xs_133), .val (.int (if (p3 &&& (1 : Int32)) = (0 : Int32) then (0 : Int32) else (1 : Int32))), .unset] [])) (T140.setTop (mkF m 126 #[.val (.int p0), .val (.int p1), .val (.int p2), .val (.int p3), .val (.int (1 : Int32)), .val (.int (2 : Int32)), .val (.ref b102), .val (.ref b129), .val (.ref xs_133), .val (.int (if (p3 &&& (1 : Int32)) = (0 : Int32) then (0 : Int32) else (1 : Int32))), .unset] [(.ref b140)])) := st140
      have k141 : Go p.tables e below (T140.setTop (mkF m 126 #[.val (.int p0), .val (.int p1), .val (.int p2), .val (.int p3), .val (.int (1 : Int32)), .val (.int (2 : Int32)), .val (.ref b102), .val (.ref b129), .val (.ref xs_133), .val (.int (if (p3 &&& (1 : Int32)) = (0 : Int32) then (0 : Int32) else (1 : Int32))), .unset] [(.ref b140)])) (T140.setTop (mkF m 133 #[.val (.int p0), .val (.int p1), .val (.int p2), .val (.int p3), .val (.int (1 : Int32)), .val (.int (2 : Int32)), .val (.ref b102), .val (.ref b129), .val (.ref xs_133), .val (.int (if (p3 &&& (1 : Int32)) = (0 : Int32) then (0 : Int32) else (1 : Int32))), .unset] [(.int (if (p3 &&& (1 : Int32)) = (0 : Int32) then (0 : Int32) else (1 : Int32))), (.ref xs_133), (.ref b129), (.ref b140), (.ref b140)])) := by
        intro t ht
        refine XS.dup X140.here hx rfl (hb hby at_126) rfl rfl ?_
        show Steps p.tables e below (T140.setTop (mkF m 127 #[.val (.int p0), .val (.int p1), .val (.int p2), .val (.int p3), .val (.int (1 : Int32)), .val (.int (2 : Int32)), .val (.ref b102), .val (.ref b129), .val (.ref xs_133), .val (.int (if (p3 &&& (1 : Int32)) = (0 : Int32) then (0 : Int32) else (1 : Int32))), .unset] [(.ref b140), (.ref b140)])) _
        refine XS.aload X140.here hx rfl (hb hby at_127) rfl rfl ?_
        show Steps p.tables e below (T140.setTop (mkF m 129 #[.val (.int p0), .val (.int p1), .val (.int p2), .val (.int p3), .val (.int (1 : Int32)), .val (.int (2 : Int32)), .val (.ref b102), .val (.ref b129), .val (.ref xs_133), .val (.int (if (p3 &&& (1 : Int32)) = (0 : Int32) then (0 : Int32) else (1 : Int32))), .unset] [(.ref b129), (.ref b140), (.ref b140)])) _
        refine XS.aload X140.here hx rfl (hb hby at_129) rfl rfl ?_
        show Steps p.tables e below (T140.setTop (mkF m 131 #[.val (.int p0), .val (.int p1), .val (.int p2), .val (.int p3), .val (.int (1 : Int32)), .val (.int (2 : Int32)), .val (.ref b102), .val (.ref b129), .val (.ref xs_133), .val (.int (if (p3 &&& (1 : Int32)) = (0 : Int32) then (0 : Int32) else (1 : Int32))), .unset] [(.ref xs_133), (.ref b129), (.ref b140), (.ref b140)])) _
        refine XS.iload X140.here hx rfl (hb hby at_131) rfl ?_
        exact ht
      obtain ⟨_, _, ⟨T142, L142, kq142, n142⟩, -, X142, ⟨Lc142, hQ142, l142, y142, z142⟩, st142⟩ := X140.specialBack hx (y := (⟨"com/example/plain_keys/plainkeys/dialect/KeyTableLayout", "<init>", "(Ljava/lang/String;Ljava/lang/String;Z)V"⟩ : MethodName)) rfl hown (mvT hZ (hw _ (List.mem_of_getElem? (i := 30) rfl))) (mvT hZ (hw _ (List.mem_of_getElem? (i := 31) rfl))) (mvT hZ (hw _ (List.mem_of_getElem? (i := 32) rfl))) (by decide) (backOf (W := 1) (rm_init l Z a0 hw [] b140 b129 xs_133 (if (p3 &&& (1 : Int32)) = (0 : Int32) then (0 : Int32) else (1 : Int32)) h140 n0 Z140 F_nameColumn_b140 F_valueColumn_b140 F_valueIsLastKey_b140 A140 g_b140) hZ (hw _ (List.mem_of_getElem? (i := 32) rfl)) (hw _ (List.mem_of_getElem? (i := 29) rfl)) (by decide) (by decide)) (g := (mkF m 133 #[.val (.int p0), .val (.int p1), .val (.int p2), .val (.int p3), .val (.int (1 : Int32)), .val (.int (2 : Int32)), .val (.ref b102), .val (.ref b129), .val (.ref xs_133), .val (.int (if (p3 &&& (1 : Int32)) = (0 : Int32) then (0 : Int32) else (1 : Int32))), .unset] [(.int (if (p3 &&& (1 : Int32)) = (0 : Int32) then (0 : Int32) else (1 : Int32))), (.ref xs_133), (.ref b129), (.ref b140), (.ref b140)])) rfl (by rw [hml]; rfl) (Steps.refl _) (a := b140) (argsL := [(.ref b129), (.ref xs_133), (.int (if (p3 &&& (1 : Int32)) = (0 : Int32) then (0 : Int32) else (1 : Int32)))]) (rest := [(.ref b140)]) (lenOf pd_6 rfl) rfl (by show 2 * 0 + _ ≤ _; exact Nat.le_of_eq rfl) (hb hby at_133) (fun _ _ => ⟨rfl, e140, (by decide : 6 + 0 ≤ _), (by decide : 16 + 0 ≤ _)⟩)
      dsimp only [Pt.U, Pt.locs, Pt.cells, Pt.slots] at X142 l142 y142 z142 st142 hQ142
      subst l142 y142 z142
      obtain ⟨rfl, N142q, K142, Fq142_0, Fq142_1, Fq142_2, Fq142_3⟩ := hQ142
      have N142 := Fr.app N133 N142q
      have k142 : Go p.tables e below (T140.setTop (mkF m 133 #[.val (.int p0), .val (.int p1), .val (.int p2), .val (.int p3), .val (.int (1 : Int32)), .val (.int (2 : Int32)), .val (.ref b102), .val (.ref b129), .val (.ref xs_133), .val (.int (if (p3 &&& (1 : Int32)) = (0 : Int32) then (0 : Int32) else (1 : Int32))), .unset] [(.int (if (p3 &&& (1 : Int32)) = (0 : Int32) then (0 : Int32) else (1 : Int32))), (.ref xs_133), (.ref b129), (.ref b140), (.ref b140)])) (T142.setTop (mkF m 136 #[.val (.int p0), .val (.int p1), .val (.int p2), .val (.int p3), .val (.int (1 : Int32)), .val (.int (2 : Int32)), .val (.ref b102), .val (.ref b129), .val (.ref xs_133), .val (.int (if (p3 &&& (1 : Int32)) = (0 : Int32) then (0 : Int32) else (1 : Int32))), .unset] [(.ref b140)])) := fun _ ht => st142.trans ht
      have Kp142 : Keep h0 T142.heap [] := Kp140.trans K142 (allS (Or.inr sz_b140) all0)
      have Z142 : n0 ≤ T142.heap.size := Nat.le_trans Z140 K142.1
      have S_CS_c_142 := own_sta_keep S_CS_c_140 A140 K142
      have S_D_c_142 := own_sta_keep S_D_c_140 A140 K142
      have E_D_c_142 := E_D_c_140.keep K142
      have F_D_c_142 := F_D_c_140.keep K142 (ninS ne_wD_b140 nin0)
      have V106_b102_c_142 := V106_b102_c_140.keep K142 (ninS ne_b102_b140 nin0)
      have Eq131_c_142 := Eq131_c_140.keep K142
      have Cq131_c_142 := Cq131_c_140.keep K142 (ninS ne_b129_b140 nin0)
      have Vq131_c_142 := Vq131_c_140.keep K142 (ninS ne_b129_b140 nin0)
      have Aq131_c_142 := Aq131_c_140.keep K142 (ninS ne_t131_b140 nin0)
      have Fq133_0_c_142 := Fq133_0_c_140.keep K142
      have Fq133_1_c_142 := Fq133_1_c_140.keep K142 (ninS ne_xs_133_b140 nin0)
      have Fq133_2_c_142 := Fq133_2_c_140.keep K142 (ninS ne_xs_133_b140 nin0)
      have Fq133_3_c_142 := Fq133_3_c_140.keep K142 (ninS ne_xb_133_b140 nin0)
      have A140_c_142 := A140.keep K142
      have k143 : Go p.tables e below (T142.setTop (mkF m 136 #[.val (.int p0), .val (.int p1), .val (.int p2), .val (.int p3), .val (.int (1 : Int32)), .val (.int (2 : Int32)), .val (.ref b102), .val (.ref b129), .val (.ref xs_133), .val (.int (if (p3 &&& (1 : Int32)) = (0 : Int32) then (0 : Int32) else (1 : Int32))), .unset] [(.ref b140)])) (T142.setTop (mkF m 140 #[.val (.int p0), .val (.int p1), .val (.int p2), .val (.int p3), .val (.int (1 : Int32)), .val (.int (2 : Int32)), .val (.ref b102), .val (.ref b129), .val (.ref xs_133), .val (.int (if (p3 &&& (1 : Int32)) = (0 : Int32) then (0 : Int32) else (1 : Int32))), .val (.ref b140)] [(.ref b140)])) := by
        intro t ht
        refine XS.astore X142.here hx rfl (hb hby at_136) rfl rfl (l' := #[.val (.int p0), .val (.int p1), .val (.int p2), .val (.int p3), .val (.int (1 : Int32)), .val (.int (2 : Int32)), .val (.ref b102), .val (.ref b129), .val (.ref xs_133), .val (.int (if (p3 &&& (1 : Int32)) = (0 : Int32) then (0 : Int32) else (1 : Int32))), .val (.ref b140)]) rfl ?_
        show Steps p.tables e below (T142.setTop (mkF m 138 #[.val (.int p0), .val (.int p1), .val (.int p2), .val (.int p3), .val (.int (1 : Int32)), .val (.int (2 : Int32)), .val (.ref b102), .val (.ref b129), .val (.ref xs_133), .val (.int (if (p3 &&& (1 : Int32)) = (0 : Int32) then (0 : Int32) else (1 : Int32))), .val (.ref b140)] [])) _
        refine XS.aload X142.here hx rfl (hb hby at_138) rfl rfl ?_
        exact ht
      obtain ⟨cq144, kq144, q144a, q144b, q144c⟩ := isOf hZ rfl Fq142_0
      obtain ⟨_, _, ⟨T144, L144, kq144, n144⟩, -, X144, ⟨Lc144, hQ144, l144, y144, z144⟩, st144⟩ := X142.virtualBack hx (y := (⟨"com/example/plain_keys/plainkeys/dialect/KeyTableLayout", "namesRows", "()Z"⟩ : MethodName)) (z := (⟨"com/example/plain_keys/plainkeys/dialect/KeyTableLayout", "namesRows", "()Z"⟩ : MethodName)) hown (mvT hZ (hw _ (List.mem_of_getElem? (i := 45) rfl))) (mvT hZ (hw _ (List.mem_of_getElem? (i := 46) rfl))) (notFace_of_selects (args := #[]) (mvT hZ (hw _ (List.mem_of_getElem? (i := 48) rfl)))) (mvT hZ (hw _ (List.mem_of_getElem? (i := 48) rfl))) (mvT hZ (hw _ (List.mem_of_getElem? (i := 47) rfl))) (by decide) (backOf (W := 0) (rm_rows1 l Z a0 hw [] b140 b129 T142.heap n0 Z142 Fq142_1) hZ (hw _ (List.mem_of_getElem? (i := 49) rfl)) (hw _ (List.mem_of_getElem? (i := 29) rfl)) (by decide) (by decide)) q144a q144c (g := (mkF m 140 #[.val (.int p0), .val (.int p1), .val (.int p2), .val (.int p3), .val (.int (1 : Int32)), .val (.int (2 : Int32)), .val (.ref b102), .val (.ref b129), .val (.ref xs_133), .val (.int (if (p3 &&& (1 : Int32)) = (0 : Int32) then (0 : Int32) else (1 : Int32))), .val (.ref b140)] [(.ref b140)])) rfl (by rw [hml]; rfl) (Steps.refl _) (argsL := []) (rest := []) (lenOf pd_7 rfl) rfl (by show 2 * 0 + _ ≤ _; exact Nat.le_of_eq rfl) (hb hby at_140) (fun _ _ => ⟨rfl, rfl, (by decide : 6 + 0 ≤ _), (by decide : 16 + 0 ≤ _)⟩)
      dsimp only [Pt.U, Pt.locs, Pt.cells, Pt.slots] at X144 l144 y144 z144 st144 hQ144
      subst l144 y144 z144
      obtain ⟨rfl, N144q, eq144⟩ := hQ144
      have N144 := Fr.app N142 N144q
      have k144 : Go p.tables e below (T142.setTop (mkF m 140 #[.val (.int p0), .val (.int p1), .val (.int p2), .val (.int p3), .val (.int (1 : Int32)), .val (.int (2 : Int32)), .val (.ref b102), .val (.ref b129), .val (.ref xs_133), .val (.int (if (p3 &&& (1 : Int32)) = (0 : Int32) then (0 : Int32) else (1 : Int32))), .val (.ref b140)] [(.ref b140)])) (T144.setTop (mkF m 143 #[.val (.int p0), .val (.int p1), .val (.int p2), .val (.int p3), .val (.int (1 : Int32)), .val (.int (2 : Int32)), .val (.ref b102), .val (.ref b129), .val (.ref xs_133), .val (.int (if (p3 &&& (1 : Int32)) = (0 : Int32) then (0 : Int32) else (1 : Int32))), .val (.ref b140)] [(.int (1 : Int32))])) := fun _ ht => st144.trans ht
      have k145 : Go p.tables e below (T144.setTop (mkF m 143 #[.val (.int p0), .val (.int p1), .val (.int p2), .val (.int p3), .val (.int (1 : Int32)), .val (.int (2 : Int32)), .val (.ref b102), .val (.ref b129), .val (.ref xs_133), .val (.int (if (p3 &&& (1 : Int32)) = (0 : Int32) then (0 : Int32) else (1 : Int32))), .val (.ref b140)] [(.int (1 : Int32))])) (T144.setTop (mkF m 148 #[.val (.int p0), .val (.int p1), .val (.int p2), .val (.int p3), .val (.int (1 : Int32)), .val (.int (2 : Int32)), .val (.ref b102), .val (.ref b129), .val (.ref xs_133), .val (.int (if (p3 &&& (1 : Int32)) = (0 : Int32) then (0 : Int32) else (1 : Int32))), .val (.ref b140)] [])) := by
        intro t ht
        refine XS.iload X144.here hx rfl (hb hby at_143) rfl ?_
        show Steps p.tables e below (T144.setTop (mkF m 145 #[.val (.int p0), .val (.int p1), .val (.int p2), .val (.int p3), .val (.int (1 : Int32)), .val (.int (2 : Int32)), .val (.ref b102), .val (.ref b129), .val (.ref xs_133), .val (.int (if (p3 &&& (1 : Int32)) = (0 : Int32) then (0 : Int32) else (1 : Int32))), .val (.ref b140)] [(.int (1 : Int32)), (.int (1 : Int32))])) _
        refine XS.icmpNo X144.here hx rfl (hb hby at_145) rfl (teq (by decide : (1 : Int32) = (1 : Int32))).2 ?_
        exact ht
      obtain ⟨T146, X146, e146, st146⟩ := getS2 X144 hx hZ hown (host := "") (Or.inl (hw _ (List.mem_of_getElem? (i := 50) rfl))) Via.refl eq144 S_D_c_142 (g := (mkF m 148 #[.val (.int p0), .val (.int p1), .val (.int p2), .val (.int p3), .val (.int (1 : Int32)), .val (.int (2 : Int32)), .val (.ref b102), .val (.ref b129), .val (.ref xs_133), .val (.int (if (p3 &&& (1 : Int32)) = (0 : Int32) then (0 : Int32) else (1 : Int32))), .val (.ref b140)] [])) rfl (hb hby at_148)
      have k146 : Go p.tables e below (T144.setTop (mkF m 148 #[.val (.int p0), .val (.int p1), .val (.int p2), .val (.int p3), .val (.int (1 : Int32)), .val (.int (2 : Int32)), .val (.ref b102), .val (.ref b129), .val (.ref xs_133), .val (.int (if (p3 &&& (1 : Int32)) = (0 : Int32) then (0 : Int32) else (1 : Int32))), .val (.ref b140)] [])) (T146.setTop (mkF m 151 #[.val (.int p0), .val (.int p1), .val (.int p2), .val (.int p3), .val (.int (1 : Int32)), .val (.int (2 : Int32)), .val (.ref b102), .val (.ref b129), .val (.ref xs_133), .val (.int (if (p3 &&& (1 : Int32)) = (0 : Int32) then (0 : Int32) else (1 : Int32))), .val (.ref b140)] [(.ref wD)])) := st146
      obtain ⟨cq147, kq147, q147a, q147b, q147c⟩ := isOf hZ e146 E_D_c_142
      obtain ⟨_, _, ⟨T147, L147, kq147, n147⟩, -, X147, ⟨Lc147, hQ147, l147, y147, z147⟩, st147⟩ := X146.virtualBack hx (y := (⟨"com/example/plain_keys/plainkeys/dialect/KeyTableLayout", "namesRows", "()Z"⟩ : MethodName)) (z := (⟨"com/example/plain_keys/plainkeys/dialect/KeyTableLayout", "namesRows", "()Z"⟩ : MethodName)) hown (mvT hZ (hw _ (List.mem_of_getElem? (i := 45) rfl))) (mvT hZ (hw _ (List.mem_of_getElem? (i := 46) rfl))) (notFace_of_selects (args := #[]) (mvT hZ (hw _ (List.mem_of_getElem? (i := 48) rfl)))) (mvT hZ (hw _ (List.mem_of_getElem? (i := 48) rfl))) (mvT hZ (hw _ (List.mem_of_getElem? (i := 47) rfl))) (by decide) (backOf (W := 0) (rm_rows1 l Z a0 hw [] wD wn T142.heap n0 Z142 F_D_c_142) hZ (hw _ (List.mem_of_getElem? (i := 49) rfl)) (hw _ (List.mem_of_getElem? (i := 29) rfl)) (by decide) (by decide)) q147a q147c (g := (mkF m 151 #[.val (.int p0), .val (.int p1), .val (.int p2), .val (.int p3), .val (.int (1 : Int32)), .val (.int (2 : Int32)), .val (.ref b102), .val (.ref b129), .val (.ref xs_133), .val (.int (if (p3 &&& (1 : Int32)) = (0 : Int32) then (0 : Int32) else (1 : Int32))), .val (.ref b140)] [(.ref wD)])) rfl (by rw [hml]; rfl) (Steps.refl _) (argsL := []) (rest := []) (lenOf pd_7 rfl) rfl (by show 2 * 0 + _ ≤ _; exact Nat.le_of_eq rfl) (hb hby at_151) (fun _ _ => ⟨rfl, e146, (by decide : 6 + 0 ≤ _), (by decide : 16 + 0 ≤ _)⟩)
      dsimp only [Pt.U, Pt.locs, Pt.cells, Pt.slots] at X147 l147 y147 z147 st147 hQ147
      subst l147 y147 z147
      obtain ⟨rfl, N147q, eq147⟩ := hQ147
      have N147 := Fr.app N144 N147q
      have k147 : Go p.tables e below (T146.setTop (mkF m 151 #[.val (.int p0), .val (.int p1), .val (.int p2), .val (.int p3), .val (.int (1 : Int32)), .val (.int (2 : Int32)), .val (.ref b102), .val (.ref b129), .val (.ref xs_133), .val (.int (if (p3 &&& (1 : Int32)) = (0 : Int32) then (0 : Int32) else (1 : Int32))), .val (.ref b140)] [(.ref wD)])) (T147.setTop (mkF m 154 #[.val (.int p0), .val (.int p1), .val (.int p2), .val (.int p3), .val (.int (1 : Int32)), .val (.int (2 : Int32)), .val (.ref b102), .val (.ref b129), .val (.ref xs_133), .val (.int (if (p3 &&& (1 : Int32)) = (0 : Int32) then (0 : Int32) else (1 : Int32))), .val (.ref b140)] [(.int (1 : Int32))])) := fun _ ht => st147.trans ht
      have k148 : Go p.tables e below (T147.setTop (mkF m 154 #[.val (.int p0), .val (.int p1), .val (.int p2), .val (.int p3), .val (.int (1 : Int32)), .val (.int (2 : Int32)), .val (.ref b102), .val (.ref b129), .val (.ref xs_133), .val (.int (if (p3 &&& (1 : Int32)) = (0 : Int32) then (0 : Int32) else (1 : Int32))), .val (.ref b140)] [(.int (1 : Int32))])) (T147.setTop (mkF m 162 #[.val (.int p0), .val (.int p1), .val (.int p2), .val (.int p3), .val (.int (1 : Int32)), .val (.int (2 : Int32)), .val (.ref b102), .val (.ref b129), .val (.ref xs_133), .val (.int (if (p3 &&& (1 : Int32)) = (0 : Int32) then (0 : Int32) else (1 : Int32))), .val (.ref b140)] [(.int (1 : Int32))])) := by
        intro t ht
        refine XS.ifNo X147.here hx rfl (hb hby at_154) rfl ((if0 _ _).trans (feq (by decide : ¬ ((1 : Int32) = (0 : Int32)))).1) ?_
        show Steps p.tables e below (T147.setTop (mkF m 157 #[.val (.int p0), .val (.int p1), .val (.int p2), .val (.int p3), .val (.int (1 : Int32)), .val (.int (2 : Int32)), .val (.ref b102), .val (.ref b129), .val (.ref xs_133), .val (.int (if (p3 &&& (1 : Int32)) = (0 : Int32) then (0 : Int32) else (1 : Int32))), .val (.ref b140)] [])) _
        refine XS.iconst X147.here hx rfl (hb hby at_157) ?_
        show Steps p.tables e below (T147.setTop (mkF m 158 #[.val (.int p0), .val (.int p1), .val (.int p2), .val (.int p3), .val (.int (1 : Int32)), .val (.int (2 : Int32)), .val (.ref b102), .val (.ref b129), .val (.ref xs_133), .val (.int (if (p3 &&& (1 : Int32)) = (0 : Int32) then (0 : Int32) else (1 : Int32))), .val (.ref b140)] [(.int (1 : Int32))])) _
        refine XS.goto X147.here hx rfl (pc0 := 158) (pc' := 162) rfl (hb hby at_158) (by decide) (by decide) ?_
        exact ht
      have hS0 : s.Since s.vm 0 := (State.WarmedH.refl s).since 0
      obtain ⟨fs, hr, hrun, hended, hW⟩ := X147.leaveW (s := s) (vm₁ := s.vm) hS0 (Nat.zero_le _) (v := some (.int (1 : Int32))) (fun h => by rw [Bd.returns] at h; cases h)
      refine ⟨_, _, pre0 _ ((goT k1 (goT k2 (goT k6 (goT k100 (goT k101 (goT k102 (goT k103 (goT k104 (goT k105 (goT k106 (goT k107 (goT k127 (goT k128 (goT k129 (goT k130 (goT k131 (goT k132 (goT k133 (goT k134 (goT k135 (goT k139 (goT k140 (goT k141 (goT k142 (goT k143 (goT k144 (goT k145 (goT k146 (goT k147 k148))))))))))))))))))))))))))))) _ (retN X147 hx (t := .boolean) Bd.returns (by simp) (hb hby at_162) hr)), hrun, hended, _, _, rfl, ?_, hW.1, hW.2.1, hW.2.2.1, hW.2.2.2.mono (by decide) (by decide)⟩
      show Q_law Z p0 p1 p2 p3 G1 wD wn h0 n0 _ T147.heap _
      rw [eq147]
      exact ⟨rfl, N147⟩
  · have k149 : Go p.tables e below (s₁.setTop (mkF m 20 #[.val (.int p0), .val (.int p1), .val (.int p2), .val (.int p3), .val (.int (if (p0 &&& (1 : Int32)) = (0 : Int32) then (0 : Int32) else (1 : Int32))), .val (.int (((p0.toUInt32 >>> ((1 : Int32) &&& 31).toUInt32).toInt32) &&& (3 : Int32))), .unset, .unset, .unset, .unset, .unset] [])) (s₁.setTop (mkF m 20 #[.val (.int p0), .val (.int p1), .val (.int p2), .val (.int p3), .val (.int (if (p0 &&& (1 : Int32)) = (0 : Int32) then (0 : Int32) else (1 : Int32))), .val (.int (3 : Int32)), .unset, .unset, .unset, .unset, .unset] [])) := by rw [hk7]; exact fun _ h => h
    have k150 : Go p.tables e below (s₁.setTop (mkF m 20 #[.val (.int p0), .val (.int p1), .val (.int p2), .val (.int p3), .val (.int (if (p0 &&& (1 : Int32)) = (0 : Int32) then (0 : Int32) else (1 : Int32))), .val (.int (3 : Int32)), .unset, .unset, .unset, .unset, .unset] [])) (s₁.setTop (mkF m 22 #[.val (.int p0), .val (.int p1), .val (.int p2), .val (.int p3), .val (.int (if (p0 &&& (1 : Int32)) = (0 : Int32) then (0 : Int32) else (1 : Int32))), .val (.int (3 : Int32)), .unset, .unset, .unset, .unset, .unset] [(.int (3 : Int32))])) := by
      intro t ht
      refine XS.iload X0.here hx rfl (hb hby at_20) rfl ?_
      exact ht
    obtain ⟨T151, h151, kc151, X151, e151, E151, A151, st151⟩ := newP X0 hx hZ (hw _ (List.mem_of_getElem? (i := 0) rfl)) e0 (g := (mkF m 22 #[.val (.int p0), .val (.int p1), .val (.int p2), .val (.int p3), .val (.int (if (p0 &&& (1 : Int32)) = (0 : Int32) then (0 : Int32) else (1 : Int32))), .val (.int (3 : Int32)), .unset, .unset, .unset, .unset, .unset] [(.int (3 : Int32))])) rfl (hb hby at_22) rfl (by decide) (cap := 3) (by decide) (by decide) (by decide) (by decide)
    obtain ⟨b151, g151⟩ : ∃ z, z = h0.size := ⟨_, rfl⟩
    rw [← g151] at A151 st151
    have g_b151 : n0 ≤ b151 := Nat.le_trans Z0 (Nat.le_of_eq g151.symm)
    have sz_b151 : h0.size ≤ b151 := Nat.le_trans (Keep.refl h0 []).1 (Nat.le_of_eq g151.symm)
    have ne_wD_b151 : wD ≠ b151 := Nat.ne_of_lt (Nat.lt_of_lt_of_le E_D.lt (Nat.le_of_eq g151.symm))
    have Kp151 : Keep h0 h151 [] := (Keep.refl h0 []).ext E151
    have Z151 : n0 ≤ h151.size := Nat.le_trans Z0 E151.1
    have S_CS_c_151 := S_CS.ext E151
    have S_D_c_151 := S_D.ext E151
    have E_D_c_151 := E_D.ext E151
    have F_D_c_151 := F_D.ext E151
    have V_b151 : Arv Z h151 b151 kc151 .char (3 : Int32) [(.int (0 : Int32)), (.int (0 : Int32)), (.int (0 : Int32))] (.int (0 : Int32)) := (Arv.new A151 (by decide)).pad (pad_rep [] (.int (0 : Int32)) 3)
    have k151 : Go p.tables e below (s₁.setTop (mkF m 22 #[.val (.int p0), .val (.int p1), .val (.int p2), .val (.int p3), .val (.int (if (p0 &&& (1 : Int32)) = (0 : Int32) then (0 : Int32) else (1 : Int32))), .val (.int (3 : Int32)), .unset, .unset, .unset, .unset, .unset] [(.int (3 : Int32))])) (T151.setTop (mkF m 24 #[.val (.int p0), .val (.int p1), .val (.int p2), .val (.int p3), .val (.int (if (p0 &&& (1 : Int32)) = (0 : Int32) then (0 : Int32) else (1 : Int32))), .val (.int (3 : Int32)), .unset, .unset, .unset, .unset, .unset] [(.ref b151)])) := st151
    have k152 : Go p.tables e below (T151.setTop (mkF m 24 #[.val (.int p0), .val (.int p1), .val (.int p2), .val (.int p3), .val (.int (if (p0 &&& (1 : Int32)) = (0 : Int32) then (0 : Int32) else (1 : Int32))), .val (.int (3 : Int32)), .unset, .unset, .unset, .unset, .unset] [(.ref b151)])) (T151.setTop (mkF m 40 #[.val (.int p0), .val (.int p1), .val (.int p2), .val (.int p3), .val (.int (if (p0 &&& (1 : Int32)) = (0 : Int32) then (0 : Int32) else (1 : Int32))), .val (.int (3 : Int32)), .val (.ref b151), .unset, .unset, .unset, .unset] [(.int ((p1 &&& (255 : Int32)).toUInt32.toUInt16.toUInt32.toInt32)), (.int (0 : Int32)), (.ref b151)])) := by
      intro t ht
      refine XS.astore X151.here hx rfl (hb hby at_24) rfl rfl (l' := #[.val (.int p0), .val (.int p1), .val (.int p2), .val (.int p3), .val (.int (if (p0 &&& (1 : Int32)) = (0 : Int32) then (0 : Int32) else (1 : Int32))), .val (.int (3 : Int32)), .val (.ref b151), .unset, .unset, .unset, .unset]) rfl ?_
      show Steps p.tables e below (T151.setTop (mkF m 26 #[.val (.int p0), .val (.int p1), .val (.int p2), .val (.int p3), .val (.int (if (p0 &&& (1 : Int32)) = (0 : Int32) then (0 : Int32) else (1 : Int32))), .val (.int (3 : Int32)), .val (.ref b151), .unset, .unset, .unset, .unset] [])) _
      refine XS.iload X151.here hx rfl (hb hby at_26) rfl ?_
      show Steps p.tables e below (T151.setTop (mkF m 28 #[.val (.int p0), .val (.int p1), .val (.int p2), .val (.int p3), .val (.int (if (p0 &&& (1 : Int32)) = (0 : Int32) then (0 : Int32) else (1 : Int32))), .val (.int (3 : Int32)), .val (.ref b151), .unset, .unset, .unset, .unset] [(.int (3 : Int32))])) _
      refine XS.ifNo X151.here hx rfl (hb hby at_28) rfl ((if0 _ _).trans (tlt (by decide : (0 : Int32) < (3 : Int32))).2.2.2) ?_
      show Steps p.tables e below (T151.setTop (mkF m 31 #[.val (.int p0), .val (.int p1), .val (.int p2), .val (.int p3), .val (.int (if (p0 &&& (1 : Int32)) = (0 : Int32) then (0 : Int32) else (1 : Int32))), .val (.int (3 : Int32)), .val (.ref b151), .unset, .unset, .unset, .unset] [])) _
      refine XS.aload X151.here hx rfl (hb hby at_31) rfl rfl ?_
      show Steps p.tables e below (T151.setTop (mkF m 33 #[.val (.int p0), .val (.int p1), .val (.int p2), .val (.int p3), .val (.int (if (p0 &&& (1 : Int32)) = (0 : Int32) then (0 : Int32) else (1 : Int32))), .val (.int (3 : Int32)), .val (.ref b151), .unset, .unset, .unset, .unset] [(.ref b151)])) _
      refine XS.iconst X151.here hx rfl (hb hby at_33) ?_
      show Steps p.tables e below (T151.setTop (mkF m 34 #[.val (.int p0), .val (.int p1), .val (.int p2), .val (.int p3), .val (.int (if (p0 &&& (1 : Int32)) = (0 : Int32) then (0 : Int32) else (1 : Int32))), .val (.int (3 : Int32)), .val (.ref b151), .unset, .unset, .unset, .unset] [(.int (0 : Int32)), (.ref b151)])) _
      refine XS.iloadN X151.here hx rfl (hb hby at_34) rfl ?_
      show Steps p.tables e below (T151.setTop (mkF m 35 #[.val (.int p0), .val (.int p1), .val (.int p2), .val (.int p3), .val (.int (if (p0 &&& (1 : Int32)) = (0 : Int32) then (0 : Int32) else (1 : Int32))), .val (.int (3 : Int32)), .val (.ref b151), .unset, .unset, .unset, .unset] [(.int p1), (.int (0 : Int32)), (.ref b151)])) _
      refine XS.sipush X151.here hx rfl (hb hby at_35) ?_
      show Steps p.tables e below (T151.setTop (mkF m 38 #[.val (.int p0), .val (.int p1), .val (.int p2), .val (.int p3), .val (.int (if (p0 &&& (1 : Int32)) = (0 : Int32) then (0 : Int32) else (1 : Int32))), .val (.int (3 : Int32)), .val (.ref b151), .unset, .unset, .unset, .unset] [(.int (255 : Int32)), (.int p1), (.int (0 : Int32)), (.ref b151)])) _
      refine XS.iand X151.here hx rfl (hb hby at_38) rfl ?_
      show Steps p.tables e below (T151.setTop (mkF m 39 #[.val (.int p0), .val (.int p1), .val (.int p2), .val (.int p3), .val (.int (if (p0 &&& (1 : Int32)) = (0 : Int32) then (0 : Int32) else (1 : Int32))), .val (.int (3 : Int32)), .val (.ref b151), .unset, .unset, .unset, .unset] [(.int (p1 &&& (255 : Int32))), (.int (0 : Int32)), (.ref b151)])) _
      refine XS.i2c X151.here hx rfl (hb hby at_39) rfl ?_
      exact ht
    obtain ⟨cl153, Ar153, q153, S153, M153, H153, G153⟩ := id V_b151
    have hin153 : ¬ ((0 : Int32) < 0 ∨ cl153.slots.size ≤ ((0 : Int32)).toNatClampNeg) := inb_of S153 ⟨by decide, by decide⟩
    obtain ⟨T153, h153, X153, e153, W153, st153⟩ := stC X151 hx hZ e151 Ar153 (j := (0 : Int32)) hin153 (g := (mkF m 40 #[.val (.int p0), .val (.int p1), .val (.int p2), .val (.int p3), .val (.int (if (p0 &&& (1 : Int32)) = (0 : Int32) then (0 : Int32) else (1 : Int32))), .val (.int (3 : Int32)), .val (.ref b151), .unset, .unset, .unset, .unset] [(.int ((p1 &&& (255 : Int32)).toUInt32.toUInt16.toUInt32.toInt32)), (.int (0 : Int32)), (.ref b151)])) rfl rfl (hb hby at_40)
    have V153_b151 : Arv Z h153 b151 kc151 .char (3 : Int32) [(.int (nar .char ((p1 &&& (255 : Int32)).toUInt32.toUInt16.toUInt32.toInt32))), (.int (0 : Int32)), (.int (0 : Int32))] (.int (0 : Int32)) := Arv.set Ar153 q153 S153 M153 H153 G153 (fits_nar_char _) W153 0 rfl (Nat.le_of_ble_eq_true rfl)
    have Kp153 : Keep h0 h153 [] := Kp151.wr W153 (Or.inr sz_b151)
    have Z153 : n0 ≤ h153.size := Nat.le_trans Z151 (Keep.of_wr W153).1
    have S_CS_c_153 := S_CS_c_151.wr W153
    have S_D_c_153 := S_D_c_151.wr W153
    have E_D_c_153 := E_D_c_151.wr W153
    have F_D_c_153 := F_D_c_151.other W153 (Or.inl ne_wD_b151)
    have k153 : Go p.tables e below (T151.setTop (mkF m 40 #[.val (.int p0), .val (.int p1), .val (.int p2), .val (.int p3), .val (.int (if (p0 &&& (1 : Int32)) = (0 : Int32) then (0 : Int32) else (1 : Int32))), .val (.int (3 : Int32)), .val (.ref b151), .unset, .unset, .unset, .unset] [(.int ((p1 &&& (255 : Int32)).toUInt32.toUInt16.toUInt32.toInt32)), (.int (0 : Int32)), (.ref b151)])) (T153.setTop (mkF m 41 #[.val (.int p0), .val (.int p1), .val (.int p2), .val (.int p3), .val (.int (if (p0 &&& (1 : Int32)) = (0 : Int32) then (0 : Int32) else (1 : Int32))), .val (.int (3 : Int32)), .val (.ref b151), .unset, .unset, .unset, .unset] [])) := st153
    have N153 := Fr.snoc X153 N0 g_b151
    have k154 : Go p.tables e below (T153.setTop (mkF m 41 #[.val (.int p0), .val (.int p1), .val (.int p2), .val (.int p3), .val (.int (if (p0 &&& (1 : Int32)) = (0 : Int32) then (0 : Int32) else (1 : Int32))), .val (.int (3 : Int32)), .val (.ref b151), .unset, .unset, .unset, .unset] [])) (T153.setTop (mkF m 56 #[.val (.int p0), .val (.int p1), .val (.int p2), .val (.int p3), .val (.int (if (p0 &&& (1 : Int32)) = (0 : Int32) then (0 : Int32) else (1 : Int32))), .val (.int (3 : Int32)), .val (.ref b151), .unset, .unset, .unset, .unset] [(.int ((p2 &&& (255 : Int32)).toUInt32.toUInt16.toUInt32.toInt32)), (.int (1 : Int32)), (.ref b151)])) := by
      intro t ht
      refine XS.iload X153.here hx rfl (hb hby at_41) rfl ?_
      show Steps p.tables e below (T153.setTop (mkF m 43 #[.val (.int p0), .val (.int p1), .val (.int p2), .val (.int p3), .val (.int (if (p0 &&& (1 : Int32)) = (0 : Int32) then (0 : Int32) else (1 : Int32))), .val (.int (3 : Int32)), .val (.ref b151), .unset, .unset, .unset, .unset] [(.int (3 : Int32))])) _
      refine XS.iconst X153.here hx rfl (hb hby at_43) ?_
      show Steps p.tables e below (T153.setTop (mkF m 44 #[.val (.int p0), .val (.int p1), .val (.int p2), .val (.int p3), .val (.int (if (p0 &&& (1 : Int32)) = (0 : Int32) then (0 : Int32) else (1 : Int32))), .val (.int (3 : Int32)), .val (.ref b151), .unset, .unset, .unset, .unset] [(.int (1 : Int32)), (.int (3 : Int32))])) _
      refine XS.icmpNo X153.here hx rfl (hb hby at_44) rfl (tlt (by decide : (1 : Int32) < (3 : Int32))).2.2.2 ?_
      show Steps p.tables e below (T153.setTop (mkF m 47 #[.val (.int p0), .val (.int p1), .val (.int p2), .val (.int p3), .val (.int (if (p0 &&& (1 : Int32)) = (0 : Int32) then (0 : Int32) else (1 : Int32))), .val (.int (3 : Int32)), .val (.ref b151), .unset, .unset, .unset, .unset] [])) _
      refine XS.aload X153.here hx rfl (hb hby at_47) rfl rfl ?_
      show Steps p.tables e below (T153.setTop (mkF m 49 #[.val (.int p0), .val (.int p1), .val (.int p2), .val (.int p3), .val (.int (if (p0 &&& (1 : Int32)) = (0 : Int32) then (0 : Int32) else (1 : Int32))), .val (.int (3 : Int32)), .val (.ref b151), .unset, .unset, .unset, .unset] [(.ref b151)])) _
      refine XS.iconst X153.here hx rfl (hb hby at_49) ?_
      show Steps p.tables e below (T153.setTop (mkF m 50 #[.val (.int p0), .val (.int p1), .val (.int p2), .val (.int p3), .val (.int (if (p0 &&& (1 : Int32)) = (0 : Int32) then (0 : Int32) else (1 : Int32))), .val (.int (3 : Int32)), .val (.ref b151), .unset, .unset, .unset, .unset] [(.int (1 : Int32)), (.ref b151)])) _
      refine XS.iloadN X153.here hx rfl (hb hby at_50) rfl ?_
      show Steps p.tables e below (T153.setTop (mkF m 51 #[.val (.int p0), .val (.int p1), .val (.int p2), .val (.int p3), .val (.int (if (p0 &&& (1 : Int32)) = (0 : Int32) then (0 : Int32) else (1 : Int32))), .val (.int (3 : Int32)), .val (.ref b151), .unset, .unset, .unset, .unset] [(.int p2), (.int (1 : Int32)), (.ref b151)])) _
      refine XS.sipush X153.here hx rfl (hb hby at_51) ?_
      show Steps p.tables e below (T153.setTop (mkF m 54 #[.val (.int p0), .val (.int p1), .val (.int p2), .val (.int p3), .val (.int (if (p0 &&& (1 : Int32)) = (0 : Int32) then (0 : Int32) else (1 : Int32))), .val (.int (3 : Int32)), .val (.ref b151), .unset, .unset, .unset, .unset] [(.int (255 : Int32)), (.int p2), (.int (1 : Int32)), (.ref b151)])) _
      refine XS.iand X153.here hx rfl (hb hby at_54) rfl ?_
      show Steps p.tables e below (T153.setTop (mkF m 55 #[.val (.int p0), .val (.int p1), .val (.int p2), .val (.int p3), .val (.int (if (p0 &&& (1 : Int32)) = (0 : Int32) then (0 : Int32) else (1 : Int32))), .val (.int (3 : Int32)), .val (.ref b151), .unset, .unset, .unset, .unset] [(.int (p2 &&& (255 : Int32))), (.int (1 : Int32)), (.ref b151)])) _
      refine XS.i2c X153.here hx rfl (hb hby at_55) rfl ?_
      exact ht
    obtain ⟨cl155, Ar155, q155, S155, M155, H155, G155⟩ := id V153_b151
    have hin155 : ¬ ((1 : Int32) < 0 ∨ cl155.slots.size ≤ ((1 : Int32)).toNatClampNeg) := inb_of S155 ⟨by decide, by decide⟩
    obtain ⟨T155, h155, X155, e155, W155, st155⟩ := stC X153 hx hZ e153 Ar155 (j := (1 : Int32)) hin155 (g := (mkF m 56 #[.val (.int p0), .val (.int p1), .val (.int p2), .val (.int p3), .val (.int (if (p0 &&& (1 : Int32)) = (0 : Int32) then (0 : Int32) else (1 : Int32))), .val (.int (3 : Int32)), .val (.ref b151), .unset, .unset, .unset, .unset] [(.int ((p2 &&& (255 : Int32)).toUInt32.toUInt16.toUInt32.toInt32)), (.int (1 : Int32)), (.ref b151)])) rfl rfl (hb hby at_56)
    have V155_b151 : Arv Z h155 b151 kc151 .char (3 : Int32) [(.int (nar .char ((p1 &&& (255 : Int32)).toUInt32.toUInt16.toUInt32.toInt32))), (.int (nar .char ((p2 &&& (255 : Int32)).toUInt32.toUInt16.toUInt32.toInt32))), (.int (0 : Int32))] (.int (0 : Int32)) := Arv.set Ar155 q155 S155 M155 H155 G155 (fits_nar_char _) W155 1 rfl (Nat.le_of_ble_eq_true rfl)
    have Kp155 : Keep h0 h155 [] := Kp153.wr W155 (Or.inr sz_b151)
    have Z155 : n0 ≤ h155.size := Nat.le_trans Z153 (Keep.of_wr W155).1
    have S_CS_c_155 := S_CS_c_153.wr W155
    have S_D_c_155 := S_D_c_153.wr W155
    have E_D_c_155 := E_D_c_153.wr W155
    have F_D_c_155 := F_D_c_153.other W155 (Or.inl ne_wD_b151)
    have k155 : Go p.tables e below (T153.setTop (mkF m 56 #[.val (.int p0), .val (.int p1), .val (.int p2), .val (.int p3), .val (.int (if (p0 &&& (1 : Int32)) = (0 : Int32) then (0 : Int32) else (1 : Int32))), .val (.int (3 : Int32)), .val (.ref b151), .unset, .unset, .unset, .unset] [(.int ((p2 &&& (255 : Int32)).toUInt32.toUInt16.toUInt32.toInt32)), (.int (1 : Int32)), (.ref b151)])) (T155.setTop (mkF m 57 #[.val (.int p0), .val (.int p1), .val (.int p2), .val (.int p3), .val (.int (if (p0 &&& (1 : Int32)) = (0 : Int32) then (0 : Int32) else (1 : Int32))), .val (.int (3 : Int32)), .val (.ref b151), .unset, .unset, .unset, .unset] [])) := st155
    have N155 := Fr.snoc X155 N153 g_b151
    have k156 : Go p.tables e below (T155.setTop (mkF m 57 #[.val (.int p0), .val (.int p1), .val (.int p2), .val (.int p3), .val (.int (if (p0 &&& (1 : Int32)) = (0 : Int32) then (0 : Int32) else (1 : Int32))), .val (.int (3 : Int32)), .val (.ref b151), .unset, .unset, .unset, .unset] [])) (T155.setTop (mkF m 75 #[.val (.int p0), .val (.int p1), .val (.int p2), .val (.int p3), .val (.int (if (p0 &&& (1 : Int32)) = (0 : Int32) then (0 : Int32) else (1 : Int32))), .val (.int (3 : Int32)), .val (.ref b151), .unset, .unset, .unset, .unset] [(.int ((((p1.toUInt32 >>> ((8 : Int32) &&& 31).toUInt32).toInt32) &&& (255 : Int32)).toUInt32.toUInt16.toUInt32.toInt32)), (.int (2 : Int32)), (.ref b151)])) := by
      intro t ht
      refine XS.iload X155.here hx rfl (hb hby at_57) rfl ?_
      show Steps p.tables e below (T155.setTop (mkF m 59 #[.val (.int p0), .val (.int p1), .val (.int p2), .val (.int p3), .val (.int (if (p0 &&& (1 : Int32)) = (0 : Int32) then (0 : Int32) else (1 : Int32))), .val (.int (3 : Int32)), .val (.ref b151), .unset, .unset, .unset, .unset] [(.int (3 : Int32))])) _
      refine XS.iconst X155.here hx rfl (hb hby at_59) ?_
      show Steps p.tables e below (T155.setTop (mkF m 60 #[.val (.int p0), .val (.int p1), .val (.int p2), .val (.int p3), .val (.int (if (p0 &&& (1 : Int32)) = (0 : Int32) then (0 : Int32) else (1 : Int32))), .val (.int (3 : Int32)), .val (.ref b151), .unset, .unset, .unset, .unset] [(.int (2 : Int32)), (.int (3 : Int32))])) _
      refine XS.icmpNo X155.here hx rfl (hb hby at_60) rfl (tlt (by decide : (2 : Int32) < (3 : Int32))).2.2.2 ?_
      show Steps p.tables e below (T155.setTop (mkF m 63 #[.val (.int p0), .val (.int p1), .val (.int p2), .val (.int p3), .val (.int (if (p0 &&& (1 : Int32)) = (0 : Int32) then (0 : Int32) else (1 : Int32))), .val (.int (3 : Int32)), .val (.ref b151), .unset, .unset, .unset, .unset] [])) _
      refine XS.aload X155.here hx rfl (hb hby at_63) rfl rfl ?_
      show Steps p.tables e below (T155.setTop (mkF m 65 #[.val (.int p0), .val (.int p1), .val (.int p2), .val (.int p3), .val (.int (if (p0 &&& (1 : Int32)) = (0 : Int32) then (0 : Int32) else (1 : Int32))), .val (.int (3 : Int32)), .val (.ref b151), .unset, .unset, .unset, .unset] [(.ref b151)])) _
      refine XS.iconst X155.here hx rfl (hb hby at_65) ?_
      show Steps p.tables e below (T155.setTop (mkF m 66 #[.val (.int p0), .val (.int p1), .val (.int p2), .val (.int p3), .val (.int (if (p0 &&& (1 : Int32)) = (0 : Int32) then (0 : Int32) else (1 : Int32))), .val (.int (3 : Int32)), .val (.ref b151), .unset, .unset, .unset, .unset] [(.int (2 : Int32)), (.ref b151)])) _
      refine XS.iloadN X155.here hx rfl (hb hby at_66) rfl ?_
      show Steps p.tables e below (T155.setTop (mkF m 67 #[.val (.int p0), .val (.int p1), .val (.int p2), .val (.int p3), .val (.int (if (p0 &&& (1 : Int32)) = (0 : Int32) then (0 : Int32) else (1 : Int32))), .val (.int (3 : Int32)), .val (.ref b151), .unset, .unset, .unset, .unset] [(.int p1), (.int (2 : Int32)), (.ref b151)])) _
      refine XS.bipush X155.here hx rfl (hb hby at_67) ?_
      show Steps p.tables e below (T155.setTop (mkF m 69 #[.val (.int p0), .val (.int p1), .val (.int p2), .val (.int p3), .val (.int (if (p0 &&& (1 : Int32)) = (0 : Int32) then (0 : Int32) else (1 : Int32))), .val (.int (3 : Int32)), .val (.ref b151), .unset, .unset, .unset, .unset] [(.int (8 : Int32)), (.int p1), (.int (2 : Int32)), (.ref b151)])) _
      refine XS.iushr X155.here hx rfl (hb hby at_69) rfl ?_
      show Steps p.tables e below (T155.setTop (mkF m 70 #[.val (.int p0), .val (.int p1), .val (.int p2), .val (.int p3), .val (.int (if (p0 &&& (1 : Int32)) = (0 : Int32) then (0 : Int32) else (1 : Int32))), .val (.int (3 : Int32)), .val (.ref b151), .unset, .unset, .unset, .unset] [(.int ((p1.toUInt32 >>> ((8 : Int32) &&& 31).toUInt32).toInt32)), (.int (2 : Int32)), (.ref b151)])) _
      refine XS.sipush X155.here hx rfl (hb hby at_70) ?_
      show Steps p.tables e below (T155.setTop (mkF m 73 #[.val (.int p0), .val (.int p1), .val (.int p2), .val (.int p3), .val (.int (if (p0 &&& (1 : Int32)) = (0 : Int32) then (0 : Int32) else (1 : Int32))), .val (.int (3 : Int32)), .val (.ref b151), .unset, .unset, .unset, .unset] [(.int (255 : Int32)), (.int ((p1.toUInt32 >>> ((8 : Int32) &&& 31).toUInt32).toInt32)), (.int (2 : Int32)), (.ref b151)])) _
      refine XS.iand X155.here hx rfl (hb hby at_73) rfl ?_
      show Steps p.tables e below (T155.setTop (mkF m 74 #[.val (.int p0), .val (.int p1), .val (.int p2), .val (.int p3), .val (.int (if (p0 &&& (1 : Int32)) = (0 : Int32) then (0 : Int32) else (1 : Int32))), .val (.int (3 : Int32)), .val (.ref b151), .unset, .unset, .unset, .unset] [(.int (((p1.toUInt32 >>> ((8 : Int32) &&& 31).toUInt32).toInt32) &&& (255 : Int32))), (.int (2 : Int32)), (.ref b151)])) _
      refine XS.i2c X155.here hx rfl (hb hby at_74) rfl ?_
      exact ht
    obtain ⟨cl157, Ar157, q157, S157, M157, H157, G157⟩ := id V155_b151
    have hin157 : ¬ ((2 : Int32) < 0 ∨ cl157.slots.size ≤ ((2 : Int32)).toNatClampNeg) := inb_of S157 ⟨by decide, by decide⟩
    obtain ⟨T157, h157, X157, e157, W157, st157⟩ := stC X155 hx hZ e155 Ar157 (j := (2 : Int32)) hin157 (g := (mkF m 75 #[.val (.int p0), .val (.int p1), .val (.int p2), .val (.int p3), .val (.int (if (p0 &&& (1 : Int32)) = (0 : Int32) then (0 : Int32) else (1 : Int32))), .val (.int (3 : Int32)), .val (.ref b151), .unset, .unset, .unset, .unset] [(.int ((((p1.toUInt32 >>> ((8 : Int32) &&& 31).toUInt32).toInt32) &&& (255 : Int32)).toUInt32.toUInt16.toUInt32.toInt32)), (.int (2 : Int32)), (.ref b151)])) rfl rfl (hb hby at_75)
    have V157_b151 : Arv Z h157 b151 kc151 .char (3 : Int32) [(.int (nar .char ((p1 &&& (255 : Int32)).toUInt32.toUInt16.toUInt32.toInt32))), (.int (nar .char ((p2 &&& (255 : Int32)).toUInt32.toUInt16.toUInt32.toInt32))), (.int (nar .char ((((p1.toUInt32 >>> ((8 : Int32) &&& 31).toUInt32).toInt32) &&& (255 : Int32)).toUInt32.toUInt16.toUInt32.toInt32)))] (.int (0 : Int32)) := Arv.set Ar157 q157 S157 M157 H157 G157 (fits_nar_char _) W157 2 rfl (Nat.le_of_ble_eq_true rfl)
    have Kp157 : Keep h0 h157 [] := Kp155.wr W157 (Or.inr sz_b151)
    have Z157 : n0 ≤ h157.size := Nat.le_trans Z155 (Keep.of_wr W157).1
    have S_CS_c_157 := S_CS_c_155.wr W157
    have S_D_c_157 := S_D_c_155.wr W157
    have E_D_c_157 := E_D_c_155.wr W157
    have F_D_c_157 := F_D_c_155.other W157 (Or.inl ne_wD_b151)
    have k157 : Go p.tables e below (T155.setTop (mkF m 75 #[.val (.int p0), .val (.int p1), .val (.int p2), .val (.int p3), .val (.int (if (p0 &&& (1 : Int32)) = (0 : Int32) then (0 : Int32) else (1 : Int32))), .val (.int (3 : Int32)), .val (.ref b151), .unset, .unset, .unset, .unset] [(.int ((((p1.toUInt32 >>> ((8 : Int32) &&& 31).toUInt32).toInt32) &&& (255 : Int32)).toUInt32.toUInt16.toUInt32.toInt32)), (.int (2 : Int32)), (.ref b151)])) (T157.setTop (mkF m 76 #[.val (.int p0), .val (.int p1), .val (.int p2), .val (.int p3), .val (.int (if (p0 &&& (1 : Int32)) = (0 : Int32) then (0 : Int32) else (1 : Int32))), .val (.int (3 : Int32)), .val (.ref b151), .unset, .unset, .unset, .unset] [])) := st157
    have N157 := Fr.snoc X157 N155 g_b151
    have k158 : Go p.tables e below (T157.setTop (mkF m 76 #[.val (.int p0), .val (.int p1), .val (.int p2), .val (.int p3), .val (.int (if (p0 &&& (1 : Int32)) = (0 : Int32) then (0 : Int32) else (1 : Int32))), .val (.int (3 : Int32)), .val (.ref b151), .unset, .unset, .unset, .unset] [])) (T157.setTop (mkF m 78 #[.val (.int p0), .val (.int p1), .val (.int p2), .val (.int p3), .val (.int (if (p0 &&& (1 : Int32)) = (0 : Int32) then (0 : Int32) else (1 : Int32))), .val (.int (3 : Int32)), .val (.ref b151), .unset, .unset, .unset, .unset] [(.int (if (p0 &&& (1 : Int32)) = (0 : Int32) then (0 : Int32) else (1 : Int32)))])) := by
      intro t ht
      refine XS.iload X157.here hx rfl (hb hby at_76) rfl ?_
      exact ht
    by_cases hc159 : (p0 &&& (1 : Int32)) = (0 : Int32)
    · have k160 : Go p.tables e below (T157.setTop (mkF m 78 #[.val (.int p0), .val (.int p1), .val (.int p2), .val (.int p3), .val (.int (if (p0 &&& (1 : Int32)) = (0 : Int32) then (0 : Int32) else (1 : Int32))), .val (.int (3 : Int32)), .val (.ref b151), .unset, .unset, .unset, .unset] [(.int (if (p0 &&& (1 : Int32)) = (0 : Int32) then (0 : Int32) else (1 : Int32)))])) (T157.setTop (mkF m 78 #[.val (.int p0), .val (.int p1), .val (.int p2), .val (.int p3), .val (.int (0 : Int32)), .val (.int (3 : Int32)), .val (.ref b151), .unset, .unset, .unset, .unset] [(.int (0 : Int32))])) := by
        simp only [if_pos hc159]; exact fun _ h => h
      have k161 : Go p.tables e below (T157.setTop (mkF m 78 #[.val (.int p0), .val (.int p1), .val (.int p2), .val (.int p3), .val (.int (0 : Int32)), .val (.int (3 : Int32)), .val (.ref b151), .unset, .unset, .unset, .unset] [(.int (0 : Int32))])) (T157.setTop (mkF m 105 #[.val (.int p0), .val (.int p1), .val (.int p2), .val (.int p3), .val (.int (0 : Int32)), .val (.int (3 : Int32)), .val (.ref b151), .val .null, .unset, .unset, .unset] [(.int ((((p2.toUInt32 >>> ((8 : Int32) &&& 31).toUInt32).toInt32) &&& (255 : Int32)).toUInt32.toUInt16.toUInt32.toInt32))])) := by
        intro t ht
        refine XS.ifYes X157.here hx rfl (pc0 := 78) (pc' := 93) rfl (hb hby at_78) rfl ((if0 _ _).trans (teq (by decide : (0 : Int32) = (0 : Int32))).1) (by decide) (by decide) ?_
        show Steps p.tables e below (T157.setTop (mkF m 93 #[.val (.int p0), .val (.int p1), .val (.int p2), .val (.int p3), .val (.int (0 : Int32)), .val (.int (3 : Int32)), .val (.ref b151), .unset, .unset, .unset, .unset] [])) _
        refine XS.aconstNull X157.here hx rfl (hb hby at_93) ?_
        show Steps p.tables e below (T157.setTop (mkF m 94 #[.val (.int p0), .val (.int p1), .val (.int p2), .val (.int p3), .val (.int (0 : Int32)), .val (.int (3 : Int32)), .val (.ref b151), .unset, .unset, .unset, .unset] [.null])) _
        refine XS.astore X157.here hx rfl (hb hby at_94) rfl rfl (l' := #[.val (.int p0), .val (.int p1), .val (.int p2), .val (.int p3), .val (.int (0 : Int32)), .val (.int (3 : Int32)), .val (.ref b151), .val .null, .unset, .unset, .unset]) rfl ?_
        show Steps p.tables e below (T157.setTop (mkF m 96 #[.val (.int p0), .val (.int p1), .val (.int p2), .val (.int p3), .val (.int (0 : Int32)), .val (.int (3 : Int32)), .val (.ref b151), .val .null, .unset, .unset, .unset] [])) _
        refine XS.iloadN X157.here hx rfl (hb hby at_96) rfl ?_
        show Steps p.tables e below (T157.setTop (mkF m 97 #[.val (.int p0), .val (.int p1), .val (.int p2), .val (.int p3), .val (.int (0 : Int32)), .val (.int (3 : Int32)), .val (.ref b151), .val .null, .unset, .unset, .unset] [(.int p2)])) _
        refine XS.bipush X157.here hx rfl (hb hby at_97) ?_
        show Steps p.tables e below (T157.setTop (mkF m 99 #[.val (.int p0), .val (.int p1), .val (.int p2), .val (.int p3), .val (.int (0 : Int32)), .val (.int (3 : Int32)), .val (.ref b151), .val .null, .unset, .unset, .unset] [(.int (8 : Int32)), (.int p2)])) _
        refine XS.iushr X157.here hx rfl (hb hby at_99) rfl ?_
        show Steps p.tables e below (T157.setTop (mkF m 100 #[.val (.int p0), .val (.int p1), .val (.int p2), .val (.int p3), .val (.int (0 : Int32)), .val (.int (3 : Int32)), .val (.ref b151), .val .null, .unset, .unset, .unset] [(.int ((p2.toUInt32 >>> ((8 : Int32) &&& 31).toUInt32).toInt32))])) _
        refine XS.sipush X157.here hx rfl (hb hby at_100) ?_
        show Steps p.tables e below (T157.setTop (mkF m 103 #[.val (.int p0), .val (.int p1), .val (.int p2), .val (.int p3), .val (.int (0 : Int32)), .val (.int (3 : Int32)), .val (.ref b151), .val .null, .unset, .unset, .unset] [(.int (255 : Int32)), (.int ((p2.toUInt32 >>> ((8 : Int32) &&& 31).toUInt32).toInt32))])) _
        refine XS.iand X157.here hx rfl (hb hby at_103) rfl ?_
        show Steps p.tables e below (T157.setTop (mkF m 104 #[.val (.int p0), .val (.int p1), .val (.int p2), .val (.int p3), .val (.int (0 : Int32)), .val (.int (3 : Int32)), .val (.ref b151), .val .null, .unset, .unset, .unset] [(.int (((p2.toUInt32 >>> ((8 : Int32) &&& 31).toUInt32).toInt32) &&& (255 : Int32)))])) _
        refine XS.i2c X157.here hx rfl (hb hby at_104) rfl ?_
        exact ht
      obtain ⟨_, _, ⟨T162, L162, kq162, n162⟩, -, X162, ⟨Lc162, hQ162, l162, y162, z162⟩, st162⟩ := Jvm.LawKit.callS X157 hx (y := (⟨"java/lang/String", "valueOf", "(C)Ljava/lang/String;"⟩ : MethodName)) hown (mvT hZ (hw _ (List.mem_of_getElem? (i := 1) rfl))) (mvT hZ (hw _ (List.mem_of_getElem? (i := 2) rfl))) (mvT hZ (hw _ (List.mem_of_getElem? (i := 3) rfl))) (mvT hZ (hw _ (List.mem_of_getElem? (i := 4) rfl))) (by decide) (backOf (W := 0) (rm_valueOf l Z a0 hw [] ((((p2.toUInt32 >>> ((8 : Int32) &&& 31).toUInt32).toInt32) &&& (255 : Int32)).toUInt32.toUInt16.toUInt32.toInt32) G1 h157 n0 Z157 S_CS_c_157 (P5 : ¬ (G1 = (0 : Int32))) (own_c255 _ : ¬ ((255 : Int32) < ((((p2.toUInt32 >>> ((8 : Int32) &&& 31).toUInt32).toInt32) &&& (255 : Int32)).toUInt32.toUInt16.toUInt32.toInt32)))) hZ (hw _ (List.mem_of_getElem? (i := 4) rfl)) (hw _ (List.mem_of_getElem? (i := 3) rfl)) (by decide) (by decide)) (g := (mkF m 105 #[.val (.int p0), .val (.int p1), .val (.int p2), .val (.int p3), .val (.int (0 : Int32)), .val (.int (3 : Int32)), .val (.ref b151), .val .null, .unset, .unset, .unset] [(.int ((((p2.toUInt32 >>> ((8 : Int32) &&& 31).toUInt32).toInt32) &&& (255 : Int32)).toUInt32.toUInt16.toUInt32.toInt32))])) rfl (by rw [hml]; rfl) (argsL := [(.int ((((p2.toUInt32 >>> ((8 : Int32) &&& 31).toUInt32).toInt32) &&& (255 : Int32)).toUInt32.toUInt16.toUInt32.toInt32))]) (rest := []) (lenOf pd_5 rfl) rfl (by show 2 * 0 + _ ≤ _; exact Nat.le_of_eq rfl) (hb hby at_105) (fun _ _ => ⟨rfl, e157, (by decide : 1 + 2 ≤ _), (by decide : 3 + 5 ≤ _)⟩)
      dsimp only [Pt.U, Pt.locs, Pt.cells, Pt.slots] at X162 l162 y162 z162 st162 hQ162
      subst l162 y162 z162
      obtain ⟨xs_162, xb_162, xk_162, rfl, N162q, K162, Pq162_0, Pq162_1, Fq162_0, Fq162_1, Fq162_2, Fq162_3⟩ := hQ162
      have N162 := Fr.app N157 N162q
      have k162 : Go p.tables e below (T157.setTop (mkF m 105 #[.val (.int p0), .val (.int p1), .val (.int p2), .val (.int p3), .val (.int (0 : Int32)), .val (.int (3 : Int32)), .val (.ref b151), .val .null, .unset, .unset, .unset] [(.int ((((p2.toUInt32 >>> ((8 : Int32) &&& 31).toUInt32).toInt32) &&& (255 : Int32)).toUInt32.toUInt16.toUInt32.toInt32))])) (T162.setTop (mkF m 108 #[.val (.int p0), .val (.int p1), .val (.int p2), .val (.int p3), .val (.int (0 : Int32)), .val (.int (3 : Int32)), .val (.ref b151), .val .null, .unset, .unset, .unset] [(.ref xs_162)])) := st162
      have Kp162 : Keep h0 T162.heap [] := Kp157.trans K162 all0
      have Z162 : n0 ≤ T162.heap.size := Nat.le_trans Z157 K162.1
      have ne_wD_xs_162 : wD ≠ xs_162 := Nat.ne_of_lt (Nat.lt_of_lt_of_le E_D_c_157.lt Pq162_0)
      have ne_b151_xs_162 : b151 ≠ xs_162 := Nat.ne_of_lt (Nat.lt_of_lt_of_le V157_b151.lt Pq162_0)
      have g_xs_162 : n0 ≤ xs_162 := Nat.le_trans Z157 Pq162_0
      have sz_xs_162 : h0.size ≤ xs_162 := Nat.le_trans Kp157.1 Pq162_0
      have ne_wD_xb_162 : wD ≠ xb_162 := Nat.ne_of_lt (Nat.lt_of_lt_of_le E_D_c_157.lt Pq162_1)
      have ne_b151_xb_162 : b151 ≠ xb_162 := Nat.ne_of_lt (Nat.lt_of_lt_of_le V157_b151.lt Pq162_1)
      have g_xb_162 : n0 ≤ xb_162 := Nat.le_trans Z157 Pq162_1
      have sz_xb_162 : h0.size ≤ xb_162 := Nat.le_trans Kp157.1 Pq162_1
      have S_CS_c_162 := own_sta_keep0 S_CS_c_157 K162
      have S_D_c_162 := own_sta_keep0 S_D_c_157 K162
      have E_D_c_162 := E_D_c_157.keep K162
      have F_D_c_162 := F_D_c_157.keep K162 nin0
      have V157_b151_c_162 := V157_b151.keep K162 nin0
      have k163 : Go p.tables e below (T162.setTop (mkF m 108 #[.val (.int p0), .val (.int p1), .val (.int p2), .val (.int p3), .val (.int (0 : Int32)), .val (.int (3 : Int32)), .val (.ref b151), .val .null, .unset, .unset, .unset] [(.ref xs_162)])) (T162.setTop (mkF m 113 #[.val (.int p0), .val (.int p1), .val (.int p2), .val (.int p3), .val (.int (0 : Int32)), .val (.int (3 : Int32)), .val (.ref b151), .val .null, .val (.ref xs_162), .unset, .unset] [(.int (p3 &&& (1 : Int32)))])) := by
        intro t ht
        refine XS.astore X162.here hx rfl (hb hby at_108) rfl rfl (l' := #[.val (.int p0), .val (.int p1), .val (.int p2), .val (.int p3), .val (.int (0 : Int32)), .val (.int (3 : Int32)), .val (.ref b151), .val .null, .val (.ref xs_162), .unset, .unset]) rfl ?_
        show Steps p.tables e below (T162.setTop (mkF m 110 #[.val (.int p0), .val (.int p1), .val (.int p2), .val (.int p3), .val (.int (0 : Int32)), .val (.int (3 : Int32)), .val (.ref b151), .val .null, .val (.ref xs_162), .unset, .unset] [])) _
        refine XS.iloadN X162.here hx rfl (hb hby at_110) rfl ?_
        show Steps p.tables e below (T162.setTop (mkF m 111 #[.val (.int p0), .val (.int p1), .val (.int p2), .val (.int p3), .val (.int (0 : Int32)), .val (.int (3 : Int32)), .val (.ref b151), .val .null, .val (.ref xs_162), .unset, .unset] [(.int p3)])) _
        refine XS.iconst X162.here hx rfl (hb hby at_111) ?_
        show Steps p.tables e below (T162.setTop (mkF m 112 #[.val (.int p0), .val (.int p1), .val (.int p2), .val (.int p3), .val (.int (0 : Int32)), .val (.int (3 : Int32)), .val (.ref b151), .val .null, .val (.ref xs_162), .unset, .unset] [(.int (1 : Int32)), (.int p3)])) _
        refine XS.iand X162.here hx rfl (hb hby at_112) rfl ?_
        exact ht
      have k164 : Go p.tables e below (T162.setTop (mkF m 113 #[.val (.int p0), .val (.int p1), .val (.int p2), .val (.int p3), .val (.int (0 : Int32)), .val (.int (3 : Int32)), .val (.ref b151), .val .null, .val (.ref xs_162), .unset, .unset] [(.int (p3 &&& (1 : Int32)))])) (T162.setTop (mkF m 121 #[.val (.int p0), .val (.int p1), .val (.int p2), .val (.int p3), .val (.int (0 : Int32)), .val (.int (3 : Int32)), .val (.ref b151), .val .null, .val (.ref xs_162), .unset, .unset] [(.int (if (p3 &&& (1 : Int32)) = (0 : Int32) then (0 : Int32) else (1 : Int32)))])) := by
        by_cases hc165 : (p3 &&& (1 : Int32)) = (0 : Int32)
        · have k166 : Go p.tables e below (T162.setTop (mkF m 113 #[.val (.int p0), .val (.int p1), .val (.int p2), .val (.int p3), .val (.int (0 : Int32)), .val (.int (3 : Int32)), .val (.ref b151), .val .null, .val (.ref xs_162), .unset, .unset] [(.int (p3 &&& (1 : Int32)))])) (T162.setTop (mkF m 121 #[.val (.int p0), .val (.int p1), .val (.int p2), .val (.int p3), .val (.int (0 : Int32)), .val (.int (3 : Int32)), .val (.ref b151), .val .null, .val (.ref xs_162), .unset, .unset] [(.int (0 : Int32))])) := by
            intro t ht
            refine XS.ifYes X162.here hx rfl (pc0 := 113) (pc' := 120) rfl (hb hby at_113) rfl ((if0 _ _).trans (teq hc165).1) (by decide) (by decide) ?_
            show Steps p.tables e below (T162.setTop (mkF m 120 #[.val (.int p0), .val (.int p1), .val (.int p2), .val (.int p3), .val (.int (0 : Int32)), .val (.int (3 : Int32)), .val (.ref b151), .val .null, .val (.ref xs_162), .unset, .unset] [])) _
            refine XS.iconst X162.here hx rfl (hb hby at_120) ?_
            exact ht
          have kk := k166
          simpa only [if_neg P5, if_pos hc159, if_pos hc165] using kk
        · have k167 : Go p.tables e below (T162.setTop (mkF m 113 #[.val (.int p0), .val (.int p1), .val (.int p2), .val (.int p3), .val (.int (0 : Int32)), .val (.int (3 : Int32)), .val (.ref b151), .val .null, .val (.ref xs_162), .unset, .unset] [(.int (p3 &&& (1 : Int32)))])) (T162.setTop (mkF m 121 #[.val (.int p0), .val (.int p1), .val (.int p2), .val (.int p3), .val (.int (0 : Int32)), .val (.int (3 : Int32)), .val (.ref b151), .val .null, .val (.ref xs_162), .unset, .unset] [(.int (1 : Int32))])) := by
            intro t ht
            refine XS.ifNo X162.here hx rfl (hb hby at_113) rfl ((if0 _ _).trans (feq hc165).1) ?_
            show Steps p.tables e below (T162.setTop (mkF m 116 #[.val (.int p0), .val (.int p1), .val (.int p2), .val (.int p3), .val (.int (0 : Int32)), .val (.int (3 : Int32)), .val (.ref b151), .val .null, .val (.ref xs_162), .unset, .unset] [])) _
            refine XS.iconst X162.here hx rfl (hb hby at_116) ?_
            show Steps p.tables e below (T162.setTop (mkF m 117 #[.val (.int p0), .val (.int p1), .val (.int p2), .val (.int p3), .val (.int (0 : Int32)), .val (.int (3 : Int32)), .val (.ref b151), .val .null, .val (.ref xs_162), .unset, .unset] [(.int (1 : Int32))])) _
            refine XS.goto X162.here hx rfl (pc0 := 117) (pc' := 121) rfl (hb hby at_117) (by decide) (by decide) ?_
            exact ht
          have kk := k167
          simpa only [if_neg P5, if_pos hc159, if_neg hc165] using kk
      have k168 : Go p.tables e below (T162.setTop (mkF m 121 #[.val (.int p0), .val (.int p1), .val (.int p2), .val (.int p3), .val (.int (0 : Int32)), .val (.int (3 : Int32)), .val (.ref b151), .val .null, .val (.ref xs_162), .unset, .unset] [(.int (if (p3 &&& (1 : Int32)) = (0 : Int32) then (0 : Int32) else (1 : Int32)))])) (T162.setTop (mkF m 123 #[.val (.int p0), .val (.int p1), .val (.int p2), .val (.int p3), .val (.int (0 : Int32)), .val (.int (3 : Int32)), .val (.ref b151), .val .null, .val (.ref xs_162), .val (.int (if (p3 &&& (1 : Int32)) = (0 : Int32) then (0 : Int32) else (1 : Int32))), .unset] [])) := by
        intro t ht
        refine XS.istore X162.here hx rfl (hb hby at_121) rfl (l' := #[.val (.int p0), .val (.int p1), .val (.int p2), .val (.int p3), .val (.int (0 : Int32)), .val (.int (3 : Int32)), .val (.ref b151), .val .null, .val (.ref xs_162), .val (.int (if (p3 &&& (1 : Int32)) = (0 : Int32) then (0 : Int32) else (1 : Int32))), .unset]) rfl ?_
        exact ht
      obtain ⟨T169, h169, X169, e169, E169, A169, D169, -, st169⟩ := newO X162 hx hZ hown (hw _ (List.mem_of_getElem? (i := 27) rfl)) (hw _ (List.mem_of_getElem? (i := 28) rfl)) (hw _ (List.mem_of_getElem? (i := 29) rfl)) rfl (g := (mkF m 123 #[.val (.int p0), .val (.int p1), .val (.int p2), .val (.int p3), .val (.int (0 : Int32)), .val (.int (3 : Int32)), .val (.ref b151), .val .null, .val (.ref xs_162), .val (.int (if (p3 &&& (1 : Int32)) = (0 : Int32) then (0 : Int32) else (1 : Int32))), .unset] [])) rfl (hb hby at_123) (by decide) (by decide)
      obtain ⟨b169, g169⟩ : ∃ z, z = T162.heap.size := ⟨_, rfl⟩
      rw [← g169] at A169 D169 st169
      have g_b169 : n0 ≤ b169 := Nat.le_trans Z162 (Nat.le_of_eq g169.symm)
      have sz_b169 : h0.size ≤ b169 := Nat.le_trans Kp162.1 (Nat.le_of_eq g169.symm)
      have ne_wD_b169 : wD ≠ b169 := Nat.ne_of_lt (Nat.lt_of_lt_of_le E_D_c_162.lt (Nat.le_of_eq g169.symm))
      have ne_b151_b169 : b151 ≠ b169 := Nat.ne_of_lt (Nat.lt_of_lt_of_le V157_b151_c_162.lt (Nat.le_of_eq g169.symm))
      have ne_xs_162_b169 : xs_162 ≠ b169 := Nat.ne_of_lt (Nat.lt_of_lt_of_le Fq162_0.lt (Nat.le_of_eq g169.symm))
      have ne_xb_162_b169 : xb_162 ≠ b169 := Nat.ne_of_lt (Nat.lt_of_lt_of_le Fq162_3.lt (Nat.le_of_eq g169.symm))
      have Kp169 : Keep h0 h169 [] := Kp162.ext E169
      have Z169 : n0 ≤ h169.size := Nat.le_trans Z162 E169.1
      have S_CS_c_169 := S_CS_c_162.ext E169
      have S_D_c_169 := S_D_c_162.ext E169
      have E_D_c_169 := E_D_c_162.ext E169
      have F_D_c_169 := F_D_c_162.ext E169
      have V157_b151_c_169 := V157_b151_c_162.ext E169
      have Fq162_0_c_169 := Fq162_0.ext E169
      have Fq162_1_c_169 := Fq162_1.ext E169
      have Fq162_2_c_169 := Fq162_2.ext E169
      have Fq162_3_c_169 := Fq162_3.ext E169
      have F_nameColumn_b169 : Fld Z h169 b169 "com/example/plain_keys/plainkeys/dialect/KeyTableLayout" "nameColumn" "Ljava/lang/String;" .null := D169 (Or.inr (hw _ (List.mem_of_getElem? (i := 40) rfl))) (ty := (.object "java/lang/String")) (by decide)
      have F_valueColumn_b169 : Fld Z h169 b169 "com/example/plain_keys/plainkeys/dialect/KeyTableLayout" "valueColumn" "Ljava/lang/String;" .null := D169 (Or.inr (hw _ (List.mem_of_getElem? (i := 42) rfl))) (ty := (.object "java/lang/String")) (by decide)
      have F_valueIsLastKey_b169 : Fld Z h169 b169 "com/example/plain_keys/plainkeys/dialect/KeyTableLayout" "valueIsLastKey" "Z" (.int (0 : Int32)) := D169 (Or.inr (hw _ (List.mem_of_getElem? (i := 44) rfl))) (ty := .boolean) (by decide)
      have k169 : Go p.tables e below (T162.setTop (mkF m 123 #[.val (.int p0), .val (.int p1), .val (.int p2), .val (.int p3), .val (.int (0 : Int32)), .val (.int (3 : Int32)), .val (.ref b151), .val .null, .val (.ref xs_162), .val (.int (if (p3 &&& (1 : Int32)) = (0 : Int32) then (0 : Int32) else (1 : Int32))), .unset] [])) (T169.setTop (mkF m 126 #[.val (.int p0), .val (.int p1), .val (.int p2), .val (.int p3), .val (.int (0 : Int32)), .val (.int (3 : Int32)), .val (.ref b151), .val .null, .val (.ref xs_162), .val (.int (if (p3 &&& (1 : Int32)) = (0 : Int32) then (0 : Int32) else (1 : Int32))), .unset] [(.ref b169)])) := st169
      have k170 : Go p.tables e below (T169.setTop (mkF m 126 #[.val (.int p0), .val (.int p1), .val (.int p2), .val (.int p3), .val (.int (0 : Int32)), .val (.int (3 : Int32)), .val (.ref b151), .val .null, .val (.ref xs_162), .val (.int (if (p3 &&& (1 : Int32)) = (0 : Int32) then (0 : Int32) else (1 : Int32))), .unset] [(.ref b169)])) (T169.setTop (mkF m 133 #[.val (.int p0), .val (.int p1), .val (.int p2), .val (.int p3), .val (.int (0 : Int32)), .val (.int (3 : Int32)), .val (.ref b151), .val .null, .val (.ref xs_162), .val (.int (if (p3 &&& (1 : Int32)) = (0 : Int32) then (0 : Int32) else (1 : Int32))), .unset] [(.int (if (p3 &&& (1 : Int32)) = (0 : Int32) then (0 : Int32) else (1 : Int32))), (.ref xs_162), .null, (.ref b169), (.ref b169)])) := by
        intro t ht
        refine XS.dup X169.here hx rfl (hb hby at_126) rfl rfl ?_
        show Steps p.tables e below (T169.setTop (mkF m 127 #[.val (.int p0), .val (.int p1), .val (.int p2), .val (.int p3), .val (.int (0 : Int32)), .val (.int (3 : Int32)), .val (.ref b151), .val .null, .val (.ref xs_162), .val (.int (if (p3 &&& (1 : Int32)) = (0 : Int32) then (0 : Int32) else (1 : Int32))), .unset] [(.ref b169), (.ref b169)])) _
        refine XS.aload X169.here hx rfl (hb hby at_127) rfl rfl ?_
        show Steps p.tables e below (T169.setTop (mkF m 129 #[.val (.int p0), .val (.int p1), .val (.int p2), .val (.int p3), .val (.int (0 : Int32)), .val (.int (3 : Int32)), .val (.ref b151), .val .null, .val (.ref xs_162), .val (.int (if (p3 &&& (1 : Int32)) = (0 : Int32) then (0 : Int32) else (1 : Int32))), .unset] [.null, (.ref b169), (.ref b169)])) _
        refine XS.aload X169.here hx rfl (hb hby at_129) rfl rfl ?_
        show Steps p.tables e below (T169.setTop (mkF m 131 #[.val (.int p0), .val (.int p1), .val (.int p2), .val (.int p3), .val (.int (0 : Int32)), .val (.int (3 : Int32)), .val (.ref b151), .val .null, .val (.ref xs_162), .val (.int (if (p3 &&& (1 : Int32)) = (0 : Int32) then (0 : Int32) else (1 : Int32))), .unset] [(.ref xs_162), .null, (.ref b169), (.ref b169)])) _
        refine XS.iload X169.here hx rfl (hb hby at_131) rfl ?_
        exact ht
      obtain ⟨_, _, ⟨T171, L171, kq171, n171⟩, -, X171, ⟨Lc171, hQ171, l171, y171, z171⟩, st171⟩ := X169.specialBack hx (y := (⟨"com/example/plain_keys/plainkeys/dialect/KeyTableLayout", "<init>", "(Ljava/lang/String;Ljava/lang/String;Z)V"⟩ : MethodName)) rfl hown (mvT hZ (hw _ (List.mem_of_getElem? (i := 30) rfl))) (mvT hZ (hw _ (List.mem_of_getElem? (i := 31) rfl))) (mvT hZ (hw _ (List.mem_of_getElem? (i := 32) rfl))) (by decide) (backOf (W := 1) (rm_initNull l Z a0 hw [] b169 xs_162 (if (p3 &&& (1 : Int32)) = (0 : Int32) then (0 : Int32) else (1 : Int32)) h169 n0 Z169 F_nameColumn_b169 F_valueColumn_b169 F_valueIsLastKey_b169 A169 g_b169) hZ (hw _ (List.mem_of_getElem? (i := 32) rfl)) (hw _ (List.mem_of_getElem? (i := 29) rfl)) (by decide) (by decide)) (g := (mkF m 133 #[.val (.int p0), .val (.int p1), .val (.int p2), .val (.int p3), .val (.int (0 : Int32)), .val (.int (3 : Int32)), .val (.ref b151), .val .null, .val (.ref xs_162), .val (.int (if (p3 &&& (1 : Int32)) = (0 : Int32) then (0 : Int32) else (1 : Int32))), .unset] [(.int (if (p3 &&& (1 : Int32)) = (0 : Int32) then (0 : Int32) else (1 : Int32))), (.ref xs_162), .null, (.ref b169), (.ref b169)])) rfl (by rw [hml]; rfl) (Steps.refl _) (a := b169) (argsL := [.null, (.ref xs_162), (.int (if (p3 &&& (1 : Int32)) = (0 : Int32) then (0 : Int32) else (1 : Int32)))]) (rest := [(.ref b169)]) (lenOf pd_6 rfl) rfl (by show 2 * 0 + _ ≤ _; exact Nat.le_of_eq rfl) (hb hby at_133) (fun _ _ => ⟨rfl, e169, (by decide : 4 + 0 ≤ _), (by decide : 11 + 0 ≤ _)⟩)
      dsimp only [Pt.U, Pt.locs, Pt.cells, Pt.slots] at X171 l171 y171 z171 st171 hQ171
      subst l171 y171 z171
      obtain ⟨rfl, N171q, K171, Fq171_0, Fq171_1, Fq171_2, Fq171_3⟩ := hQ171
      have N171 := Fr.app N162 N171q
      have k171 : Go p.tables e below (T169.setTop (mkF m 133 #[.val (.int p0), .val (.int p1), .val (.int p2), .val (.int p3), .val (.int (0 : Int32)), .val (.int (3 : Int32)), .val (.ref b151), .val .null, .val (.ref xs_162), .val (.int (if (p3 &&& (1 : Int32)) = (0 : Int32) then (0 : Int32) else (1 : Int32))), .unset] [(.int (if (p3 &&& (1 : Int32)) = (0 : Int32) then (0 : Int32) else (1 : Int32))), (.ref xs_162), .null, (.ref b169), (.ref b169)])) (T171.setTop (mkF m 136 #[.val (.int p0), .val (.int p1), .val (.int p2), .val (.int p3), .val (.int (0 : Int32)), .val (.int (3 : Int32)), .val (.ref b151), .val .null, .val (.ref xs_162), .val (.int (if (p3 &&& (1 : Int32)) = (0 : Int32) then (0 : Int32) else (1 : Int32))), .unset] [(.ref b169)])) := fun _ ht => st171.trans ht
      have Kp171 : Keep h0 T171.heap [] := Kp169.trans K171 (allS (Or.inr sz_b169) all0)
      have Z171 : n0 ≤ T171.heap.size := Nat.le_trans Z169 K171.1
      have S_CS_c_171 := own_sta_keep S_CS_c_169 A169 K171
      have S_D_c_171 := own_sta_keep S_D_c_169 A169 K171
      have E_D_c_171 := E_D_c_169.keep K171
      have F_D_c_171 := F_D_c_169.keep K171 (ninS ne_wD_b169 nin0)
      have V157_b151_c_171 := V157_b151_c_169.keep K171 (ninS ne_b151_b169 nin0)
      have Fq162_0_c_171 := Fq162_0_c_169.keep K171
      have Fq162_1_c_171 := Fq162_1_c_169.keep K171 (ninS ne_xs_162_b169 nin0)
      have Fq162_2_c_171 := Fq162_2_c_169.keep K171 (ninS ne_xs_162_b169 nin0)
      have Fq162_3_c_171 := Fq162_3_c_169.keep K171 (ninS ne_xb_162_b169 nin0)
      have A169_c_171 := A169.keep K171
      have k172 : Go p.tables e below (T171.setTop (mkF m 136 #[.val (.int p0), .val (.int p1), .val (.int p2), .val (.int p3), .val (.int (0 : Int32)), .val (.int (3 : Int32)), .val (.ref b151), .val .null, .val (.ref xs_162), .val (.int (if (p3 &&& (1 : Int32)) = (0 : Int32) then (0 : Int32) else (1 : Int32))), .unset] [(.ref b169)])) (T171.setTop (mkF m 140 #[.val (.int p0), .val (.int p1), .val (.int p2), .val (.int p3), .val (.int (0 : Int32)), .val (.int (3 : Int32)), .val (.ref b151), .val .null, .val (.ref xs_162), .val (.int (if (p3 &&& (1 : Int32)) = (0 : Int32) then (0 : Int32) else (1 : Int32))), .val (.ref b169)] [(.ref b169)])) := by
        intro t ht
        refine XS.astore X171.here hx rfl (hb hby at_136) rfl rfl (l' := #[.val (.int p0), .val (.int p1), .val (.int p2), .val (.int p3), .val (.int (0 : Int32)), .val (.int (3 : Int32)), .val (.ref b151), .val .null, .val (.ref xs_162), .val (.int (if (p3 &&& (1 : Int32)) = (0 : Int32) then (0 : Int32) else (1 : Int32))), .val (.ref b169)]) rfl ?_
        show Steps p.tables e below (T171.setTop (mkF m 138 #[.val (.int p0), .val (.int p1), .val (.int p2), .val (.int p3), .val (.int (0 : Int32)), .val (.int (3 : Int32)), .val (.ref b151), .val .null, .val (.ref xs_162), .val (.int (if (p3 &&& (1 : Int32)) = (0 : Int32) then (0 : Int32) else (1 : Int32))), .val (.ref b169)] [])) _
        refine XS.aload X171.here hx rfl (hb hby at_138) rfl rfl ?_
        exact ht
      obtain ⟨cq173, kq173, q173a, q173b, q173c⟩ := isOf hZ rfl Fq171_0
      obtain ⟨_, _, ⟨T173, L173, kq173, n173⟩, -, X173, ⟨Lc173, hQ173, l173, y173, z173⟩, st173⟩ := X171.virtualBack hx (y := (⟨"com/example/plain_keys/plainkeys/dialect/KeyTableLayout", "namesRows", "()Z"⟩ : MethodName)) (z := (⟨"com/example/plain_keys/plainkeys/dialect/KeyTableLayout", "namesRows", "()Z"⟩ : MethodName)) hown (mvT hZ (hw _ (List.mem_of_getElem? (i := 45) rfl))) (mvT hZ (hw _ (List.mem_of_getElem? (i := 46) rfl))) (notFace_of_selects (args := #[]) (mvT hZ (hw _ (List.mem_of_getElem? (i := 48) rfl)))) (mvT hZ (hw _ (List.mem_of_getElem? (i := 48) rfl))) (mvT hZ (hw _ (List.mem_of_getElem? (i := 47) rfl))) (by decide) (backOf (W := 0) (rm_rows0 l Z a0 hw [] b169 T171.heap n0 Z171 Fq171_1) hZ (hw _ (List.mem_of_getElem? (i := 49) rfl)) (hw _ (List.mem_of_getElem? (i := 29) rfl)) (by decide) (by decide)) q173a q173c (g := (mkF m 140 #[.val (.int p0), .val (.int p1), .val (.int p2), .val (.int p3), .val (.int (0 : Int32)), .val (.int (3 : Int32)), .val (.ref b151), .val .null, .val (.ref xs_162), .val (.int (if (p3 &&& (1 : Int32)) = (0 : Int32) then (0 : Int32) else (1 : Int32))), .val (.ref b169)] [(.ref b169)])) rfl (by rw [hml]; rfl) (Steps.refl _) (argsL := []) (rest := []) (lenOf pd_7 rfl) rfl (by show 2 * 0 + _ ≤ _; exact Nat.le_of_eq rfl) (hb hby at_140) (fun _ _ => ⟨rfl, rfl, (by decide : 4 + 0 ≤ _), (by decide : 11 + 0 ≤ _)⟩)
      dsimp only [Pt.U, Pt.locs, Pt.cells, Pt.slots] at X173 l173 y173 z173 st173 hQ173
      subst l173 y173 z173
      obtain ⟨rfl, N173q, eq173⟩ := hQ173
      have N173 := Fr.app N171 N173q
      have k173 : Go p.tables e below (T171.setTop (mkF m 140 #[.val (.int p0), .val (.int p1), .val (.int p2), .val (.int p3), .val (.int (0 : Int32)), .val (.int (3 : Int32)), .val (.ref b151), .val .null, .val (.ref xs_162), .val (.int (if (p3 &&& (1 : Int32)) = (0 : Int32) then (0 : Int32) else (1 : Int32))), .val (.ref b169)] [(.ref b169)])) (T173.setTop (mkF m 143 #[.val (.int p0), .val (.int p1), .val (.int p2), .val (.int p3), .val (.int (0 : Int32)), .val (.int (3 : Int32)), .val (.ref b151), .val .null, .val (.ref xs_162), .val (.int (if (p3 &&& (1 : Int32)) = (0 : Int32) then (0 : Int32) else (1 : Int32))), .val (.ref b169)] [(.int (0 : Int32))])) := fun _ ht => st173.trans ht
      have k174 : Go p.tables e below (T173.setTop (mkF m 143 #[.val (.int p0), .val (.int p1), .val (.int p2), .val (.int p3), .val (.int (0 : Int32)), .val (.int (3 : Int32)), .val (.ref b151), .val .null, .val (.ref xs_162), .val (.int (if (p3 &&& (1 : Int32)) = (0 : Int32) then (0 : Int32) else (1 : Int32))), .val (.ref b169)] [(.int (0 : Int32))])) (T173.setTop (mkF m 148 #[.val (.int p0), .val (.int p1), .val (.int p2), .val (.int p3), .val (.int (0 : Int32)), .val (.int (3 : Int32)), .val (.ref b151), .val .null, .val (.ref xs_162), .val (.int (if (p3 &&& (1 : Int32)) = (0 : Int32) then (0 : Int32) else (1 : Int32))), .val (.ref b169)] [])) := by
        intro t ht
        refine XS.iload X173.here hx rfl (hb hby at_143) rfl ?_
        show Steps p.tables e below (T173.setTop (mkF m 145 #[.val (.int p0), .val (.int p1), .val (.int p2), .val (.int p3), .val (.int (0 : Int32)), .val (.int (3 : Int32)), .val (.ref b151), .val .null, .val (.ref xs_162), .val (.int (if (p3 &&& (1 : Int32)) = (0 : Int32) then (0 : Int32) else (1 : Int32))), .val (.ref b169)] [(.int (0 : Int32)), (.int (0 : Int32))])) _
        refine XS.icmpNo X173.here hx rfl (hb hby at_145) rfl (teq (by decide : (0 : Int32) = (0 : Int32))).2 ?_
        exact ht
      obtain ⟨T175, X175, e175, st175⟩ := getS2 X173 hx hZ hown (host := "") (Or.inl (hw _ (List.mem_of_getElem? (i := 50) rfl))) Via.refl eq173 S_D_c_171 (g := (mkF m 148 #[.val (.int p0), .val (.int p1), .val (.int p2), .val (.int p3), .val (.int (0 : Int32)), .val (.int (3 : Int32)), .val (.ref b151), .val .null, .val (.ref xs_162), .val (.int (if (p3 &&& (1 : Int32)) = (0 : Int32) then (0 : Int32) else (1 : Int32))), .val (.ref b169)] [])) rfl (hb hby at_148)
      have k175 : Go p.tables e below (T173.setTop (mkF m 148 #[.val (.int p0), .val (.int p1), .val (.int p2), .val (.int p3), .val (.int (0 : Int32)), .val (.int (3 : Int32)), .val (.ref b151), .val .null, .val (.ref xs_162), .val (.int (if (p3 &&& (1 : Int32)) = (0 : Int32) then (0 : Int32) else (1 : Int32))), .val (.ref b169)] [])) (T175.setTop (mkF m 151 #[.val (.int p0), .val (.int p1), .val (.int p2), .val (.int p3), .val (.int (0 : Int32)), .val (.int (3 : Int32)), .val (.ref b151), .val .null, .val (.ref xs_162), .val (.int (if (p3 &&& (1 : Int32)) = (0 : Int32) then (0 : Int32) else (1 : Int32))), .val (.ref b169)] [(.ref wD)])) := st175
      obtain ⟨cq176, kq176, q176a, q176b, q176c⟩ := isOf hZ e175 E_D_c_171
      obtain ⟨_, _, ⟨T176, L176, kq176, n176⟩, -, X176, ⟨Lc176, hQ176, l176, y176, z176⟩, st176⟩ := X175.virtualBack hx (y := (⟨"com/example/plain_keys/plainkeys/dialect/KeyTableLayout", "namesRows", "()Z"⟩ : MethodName)) (z := (⟨"com/example/plain_keys/plainkeys/dialect/KeyTableLayout", "namesRows", "()Z"⟩ : MethodName)) hown (mvT hZ (hw _ (List.mem_of_getElem? (i := 45) rfl))) (mvT hZ (hw _ (List.mem_of_getElem? (i := 46) rfl))) (notFace_of_selects (args := #[]) (mvT hZ (hw _ (List.mem_of_getElem? (i := 48) rfl)))) (mvT hZ (hw _ (List.mem_of_getElem? (i := 48) rfl))) (mvT hZ (hw _ (List.mem_of_getElem? (i := 47) rfl))) (by decide) (backOf (W := 0) (rm_rows1 l Z a0 hw [] wD wn T171.heap n0 Z171 F_D_c_171) hZ (hw _ (List.mem_of_getElem? (i := 49) rfl)) (hw _ (List.mem_of_getElem? (i := 29) rfl)) (by decide) (by decide)) q176a q176c (g := (mkF m 151 #[.val (.int p0), .val (.int p1), .val (.int p2), .val (.int p3), .val (.int (0 : Int32)), .val (.int (3 : Int32)), .val (.ref b151), .val .null, .val (.ref xs_162), .val (.int (if (p3 &&& (1 : Int32)) = (0 : Int32) then (0 : Int32) else (1 : Int32))), .val (.ref b169)] [(.ref wD)])) rfl (by rw [hml]; rfl) (Steps.refl _) (argsL := []) (rest := []) (lenOf pd_7 rfl) rfl (by show 2 * 0 + _ ≤ _; exact Nat.le_of_eq rfl) (hb hby at_151) (fun _ _ => ⟨rfl, e175, (by decide : 4 + 0 ≤ _), (by decide : 11 + 0 ≤ _)⟩)
      dsimp only [Pt.U, Pt.locs, Pt.cells, Pt.slots] at X176 l176 y176 z176 st176 hQ176
      subst l176 y176 z176
      obtain ⟨rfl, N176q, eq176⟩ := hQ176
      have N176 := Fr.app N173 N176q
      have k176 : Go p.tables e below (T175.setTop (mkF m 151 #[.val (.int p0), .val (.int p1), .val (.int p2), .val (.int p3), .val (.int (0 : Int32)), .val (.int (3 : Int32)), .val (.ref b151), .val .null, .val (.ref xs_162), .val (.int (if (p3 &&& (1 : Int32)) = (0 : Int32) then (0 : Int32) else (1 : Int32))), .val (.ref b169)] [(.ref wD)])) (T176.setTop (mkF m 154 #[.val (.int p0), .val (.int p1), .val (.int p2), .val (.int p3), .val (.int (0 : Int32)), .val (.int (3 : Int32)), .val (.ref b151), .val .null, .val (.ref xs_162), .val (.int (if (p3 &&& (1 : Int32)) = (0 : Int32) then (0 : Int32) else (1 : Int32))), .val (.ref b169)] [(.int (1 : Int32))])) := fun _ ht => st176.trans ht
      have k177 : Go p.tables e below (T176.setTop (mkF m 154 #[.val (.int p0), .val (.int p1), .val (.int p2), .val (.int p3), .val (.int (0 : Int32)), .val (.int (3 : Int32)), .val (.ref b151), .val .null, .val (.ref xs_162), .val (.int (if (p3 &&& (1 : Int32)) = (0 : Int32) then (0 : Int32) else (1 : Int32))), .val (.ref b169)] [(.int (1 : Int32))])) (T176.setTop (mkF m 162 #[.val (.int p0), .val (.int p1), .val (.int p2), .val (.int p3), .val (.int (0 : Int32)), .val (.int (3 : Int32)), .val (.ref b151), .val .null, .val (.ref xs_162), .val (.int (if (p3 &&& (1 : Int32)) = (0 : Int32) then (0 : Int32) else (1 : Int32))), .val (.ref b169)] [(.int (1 : Int32))])) := by
        intro t ht
        refine XS.ifNo X176.here hx rfl (hb hby at_154) rfl ((if0 _ _).trans (feq (by decide : ¬ ((1 : Int32) = (0 : Int32)))).1) ?_
        show Steps p.tables e below (T176.setTop (mkF m 157 #[.val (.int p0), .val (.int p1), .val (.int p2), .val (.int p3), .val (.int (0 : Int32)), .val (.int (3 : Int32)), .val (.ref b151), .val .null, .val (.ref xs_162), .val (.int (if (p3 &&& (1 : Int32)) = (0 : Int32) then (0 : Int32) else (1 : Int32))), .val (.ref b169)] [])) _
        refine XS.iconst X176.here hx rfl (hb hby at_157) ?_
        show Steps p.tables e below (T176.setTop (mkF m 158 #[.val (.int p0), .val (.int p1), .val (.int p2), .val (.int p3), .val (.int (0 : Int32)), .val (.int (3 : Int32)), .val (.ref b151), .val .null, .val (.ref xs_162), .val (.int (if (p3 &&& (1 : Int32)) = (0 : Int32) then (0 : Int32) else (1 : Int32))), .val (.ref b169)] [(.int (1 : Int32))])) _
        refine XS.goto X176.here hx rfl (pc0 := 158) (pc' := 162) rfl (hb hby at_158) (by decide) (by decide) ?_
        exact ht
      have hS0 : s.Since s.vm 0 := (State.WarmedH.refl s).since 0
      obtain ⟨fs, hr, hrun, hended, hW⟩ := X176.leaveW (s := s) (vm₁ := s.vm) hS0 (Nat.zero_le _) (v := some (.int (1 : Int32))) (fun h => by rw [Bd.returns] at h; cases h)
      refine ⟨_, _, pre0 _ ((goT k1 (goT k2 (goT k6 (goT k149 (goT k150 (goT k151 (goT k152 (goT k153 (goT k154 (goT k155 (goT k156 (goT k157 (goT k158 (goT k160 (goT k161 (goT k162 (goT k163 (goT k164 (goT k168 (goT k169 (goT k170 (goT k171 (goT k172 (goT k173 (goT k174 (goT k175 (goT k176 k177))))))))))))))))))))))))))) _ (retN X176 hx (t := .boolean) Bd.returns (by simp) (hb hby at_162) hr)), hrun, hended, _, _, rfl, ?_, hW.1, hW.2.1, hW.2.2.1, hW.2.2.2.mono (by decide) (by decide)⟩
      show Q_law Z p0 p1 p2 p3 G1 wD wn h0 n0 _ T176.heap _
      rw [eq176]
      exact ⟨rfl, N176⟩
    · have k178 : Go p.tables e below (T157.setTop (mkF m 78 #[.val (.int p0), .val (.int p1), .val (.int p2), .val (.int p3), .val (.int (if (p0 &&& (1 : Int32)) = (0 : Int32) then (0 : Int32) else (1 : Int32))), .val (.int (3 : Int32)), .val (.ref b151), .unset, .unset, .unset, .unset] [(.int (if (p0 &&& (1 : Int32)) = (0 : Int32) then (0 : Int32) else (1 : Int32)))])) (T157.setTop (mkF m 78 #[.val (.int p0), .val (.int p1), .val (.int p2), .val (.int p3), .val (.int (1 : Int32)), .val (.int (3 : Int32)), .val (.ref b151), .unset, .unset, .unset, .unset] [(.int (1 : Int32))])) := by
        simp only [if_neg hc159]; exact fun _ h => h
      have k179 : Go p.tables e below (T157.setTop (mkF m 78 #[.val (.int p0), .val (.int p1), .val (.int p2), .val (.int p3), .val (.int (1 : Int32)), .val (.int (3 : Int32)), .val (.ref b151), .unset, .unset, .unset, .unset] [(.int (1 : Int32))])) (T157.setTop (mkF m 81 #[.val (.int p0), .val (.int p1), .val (.int p2), .val (.int p3), .val (.int (1 : Int32)), .val (.int (3 : Int32)), .val (.ref b151), .unset, .unset, .unset, .unset] [])) := by
        intro t ht
        refine XS.ifNo X157.here hx rfl (hb hby at_78) rfl ((if0 _ _).trans (feq (by decide : ¬ ((1 : Int32) = (0 : Int32)))).1) ?_
        exact ht
      obtain ⟨T180, h180, X180, e180, E180, A180, D180, -, st180⟩ := newO X157 hx hZ hown (hw _ (List.mem_of_getElem? (i := 52) rfl)) (hw _ (List.mem_of_getElem? (i := 11) rfl)) (hw _ (List.mem_of_getElem? (i := 3) rfl)) e157 (g := (mkF m 81 #[.val (.int p0), .val (.int p1), .val (.int p2), .val (.int p3), .val (.int (1 : Int32)), .val (.int (3 : Int32)), .val (.ref b151), .unset, .unset, .unset, .unset] [])) rfl (hb hby at_81) (by decide) (by decide)
      obtain ⟨b180, g180⟩ : ∃ z, z = h157.size := ⟨_, rfl⟩
      rw [← g180] at A180 D180 st180
      have g_b180 : n0 ≤ b180 := Nat.le_trans Z157 (Nat.le_of_eq g180.symm)
      have sz_b180 : h0.size ≤ b180 := Nat.le_trans Kp157.1 (Nat.le_of_eq g180.symm)
      have ne_wD_b180 : wD ≠ b180 := Nat.ne_of_lt (Nat.lt_of_lt_of_le E_D_c_157.lt (Nat.le_of_eq g180.symm))
      have ne_b151_b180 : b151 ≠ b180 := Nat.ne_of_lt (Nat.lt_of_lt_of_le V157_b151.lt (Nat.le_of_eq g180.symm))
      have Kp180 : Keep h0 h180 [] := Kp157.ext E180
      have Z180 : n0 ≤ h180.size := Nat.le_trans Z157 E180.1
      have S_CS_c_180 := S_CS_c_157.ext E180
      have S_D_c_180 := S_D_c_157.ext E180
      have E_D_c_180 := E_D_c_157.ext E180
      have F_D_c_180 := F_D_c_157.ext E180
      have V157_b151_c_180 := V157_b151.ext E180
      have F_value_b180 : Fld Z h180 b180 "java/lang/String" "value" "[B" .null := D180 (Or.inr (hw _ (List.mem_of_getElem? (i := 24) rfl))) (ty := (.array .byte)) (by decide)
      have F_coder_b180 : Fld Z h180 b180 "java/lang/String" "coder" "B" (.int (0 : Int32)) := D180 (Or.inr (hw _ (List.mem_of_getElem? (i := 26) rfl))) (ty := .byte) (by decide)
      have k180 : Go p.tables e below (T157.setTop (mkF m 81 #[.val (.int p0), .val (.int p1), .val (.int p2), .val (.int p3), .val (.int (1 : Int32)), .val (.int (3 : Int32)), .val (.ref b151), .unset, .unset, .unset, .unset] [])) (T180.setTop (mkF m 84 #[.val (.int p0), .val (.int p1), .val (.int p2), .val (.int p3), .val (.int (1 : Int32)), .val (.int (3 : Int32)), .val (.ref b151), .unset, .unset, .unset, .unset] [(.ref b180)])) := st180
      have k181 : Go p.tables e below (T180.setTop (mkF m 84 #[.val (.int p0), .val (.int p1), .val (.int p2), .val (.int p3), .val (.int (1 : Int32)), .val (.int (3 : Int32)), .val (.ref b151), .unset, .unset, .unset, .unset] [(.ref b180)])) (T180.setTop (mkF m 87 #[.val (.int p0), .val (.int p1), .val (.int p2), .val (.int p3), .val (.int (1 : Int32)), .val (.int (3 : Int32)), .val (.ref b151), .unset, .unset, .unset, .unset] [(.ref b151), (.ref b180), (.ref b180)])) := by
        intro t ht
        refine XS.dup X180.here hx rfl (hb hby at_84) rfl rfl ?_
        show Steps p.tables e below (T180.setTop (mkF m 85 #[.val (.int p0), .val (.int p1), .val (.int p2), .val (.int p3), .val (.int (1 : Int32)), .val (.int (3 : Int32)), .val (.ref b151), .unset, .unset, .unset, .unset] [(.ref b180), (.ref b180)])) _
        refine XS.aload X180.here hx rfl (hb hby at_85) rfl rfl ?_
        exact ht
      have hlat182 : ∀ c ∈ ([(nar .char ((p1 &&& (255 : Int32)).toUInt32.toUInt16.toUInt32.toInt32)), (nar .char ((p2 &&& (255 : Int32)).toUInt32.toUInt16.toUInt32.toInt32)), (nar .char ((((p1.toUInt32 >>> ((8 : Int32) &&& 31).toUInt32).toInt32) &&& (255 : Int32)).toUInt32.toUInt16.toUInt32.toInt32))] : List Int32), ¬ c < 0 ∧ ¬ (255 : Int32) < c := by
        intro c hc
        simp only [List.mem_cons, List.not_mem_nil, or_false] at hc
        rcases hc with rfl | rfl | rfl
        · rw [show (nar .char ((p1 &&& (255 : Int32)).toUInt32.toUInt16.toUInt32.toInt32)) = p1 &&& 255 from by simp only [nar, i2c_mask]]; exact own_and255 _
        · rw [show (nar .char ((p2 &&& (255 : Int32)).toUInt32.toUInt16.toUInt32.toInt32)) = p2 &&& 255 from by simp only [nar, i2c_mask]]; exact own_and255 _
        · rw [show (nar .char ((((p1.toUInt32 >>> ((8 : Int32) &&& 31).toUInt32).toInt32) &&& (255 : Int32)).toUInt32.toUInt16.toUInt32.toInt32)) = ((p1.toUInt32 >>> ((8 : Int32) &&& 31).toUInt32).toInt32) &&& 255 from by simp only [nar, i2c_mask]]; exact own_and255 _
      obtain ⟨_, _, ⟨T182, L182, kq182, n182⟩, -, X182, ⟨Lc182, hQ182, l182, y182, z182⟩, st182⟩ := X180.specialBack hx (y := (⟨"java/lang/String", "<init>", "([C)V"⟩ : MethodName)) rfl hown (mvT hZ (hw _ (List.mem_of_getElem? (i := 53) rfl))) (mvT hZ (hw _ (List.mem_of_getElem? (i := 54) rfl))) (mvT hZ (hw _ (List.mem_of_getElem? (i := 55) rfl))) (by decide) (StrChars.Road.backV (W := 1) hZ (own_words hw) (kI := 4) (hw _ (List.mem_of_getElem? (i := 11) rfl)) (cs := [(nar .char ((p1 &&& (255 : Int32)).toUInt32.toUInt16.toUInt32.toInt32)), (nar .char ((p2 &&& (255 : Int32)).toUInt32.toUInt16.toUInt32.toInt32)), (nar .char ((((p1.toUInt32 >>> ((8 : Int32) &&& 31).toUInt32).toInt32) &&& (255 : Int32)).toUInt32.toUInt16.toUInt32.toInt32))]) (bs := [((nar .char ((p1 &&& (255 : Int32)).toUInt32.toUInt16.toUInt32.toInt32))).toInt8.toInt32, ((nar .char ((p2 &&& (255 : Int32)).toUInt32.toUInt16.toUInt32.toInt32))).toInt8.toInt32, ((nar .char ((((p1.toUInt32 >>> ((8 : Int32) &&& 31).toUInt32).toInt32) &&& (255 : Int32)).toUInt32.toUInt16.toUInt32.toInt32))).toInt8.toInt32]) (n := 3) g_b180 Z180 A180 F_value_b180 F_coder_b180 V157_b151_c_180 S_CS_c_180 P5 rfl rfl (by decide) (by decide) hlat182 rfl (by decide) (by decide)) (g := (mkF m 87 #[.val (.int p0), .val (.int p1), .val (.int p2), .val (.int p3), .val (.int (1 : Int32)), .val (.int (3 : Int32)), .val (.ref b151), .unset, .unset, .unset, .unset] [(.ref b151), (.ref b180), (.ref b180)])) rfl (by rw [hml]; rfl) (Steps.refl _) (a := b180) (argsL := [(.ref b151)]) (rest := [(.ref b180)]) (lenOf pd_8 rfl) rfl (by show 2 * 0 + _ ≤ _; exact Nat.le_of_eq rfl) (hb hby at_87) (fun _ _ => ⟨rfl, e180, (by decide : 2 + 1 ≤ _), (by decide : 7 + 3 ≤ _)⟩)
      dsimp only [Pt.U, Pt.locs, Pt.cells, Pt.slots] at X182 l182 y182 z182 st182 hQ182
      subst l182 y182 z182
      obtain ⟨rfl, N182q, K182, Eq182, Cq182, t182, kb182, gt182, gs182, gn182, Vq182, Aq182⟩ := hQ182
      have N182 := Fr.app N157 N182q
      have k182 : Go p.tables e below (T180.setTop (mkF m 87 #[.val (.int p0), .val (.int p1), .val (.int p2), .val (.int p3), .val (.int (1 : Int32)), .val (.int (3 : Int32)), .val (.ref b151), .unset, .unset, .unset, .unset] [(.ref b151), (.ref b180), (.ref b180)])) (T182.setTop (mkF m 90 #[.val (.int p0), .val (.int p1), .val (.int p2), .val (.int p3), .val (.int (1 : Int32)), .val (.int (3 : Int32)), .val (.ref b151), .unset, .unset, .unset, .unset] [(.ref b180)])) := fun _ ht => st182.trans ht
      have Kp182 : Keep h0 T182.heap [] := Kp180.trans K182 (allS (Or.inr sz_b180) all0)
      have sz_t182 : h0.size ≤ t182 := Nat.le_trans Kp180.1 gs182
      have Z182 : n0 ≤ T182.heap.size := Nat.le_trans Z180 K182.1
      have ne_wD_t182 : wD ≠ t182 := Nat.ne_of_lt (Nat.lt_of_lt_of_le E_D_c_180.lt gs182)
      have ne_b151_t182 : b151 ≠ t182 := Nat.ne_of_lt (Nat.lt_of_lt_of_le V157_b151_c_180.lt gs182)
      have ne_b180_t182 : b180 ≠ t182 := Nat.ne_of_lt (Nat.lt_of_lt_of_le A180.lt gs182)
      have g_t182 : n0 ≤ t182 := gt182
      have S_CS_c_182 := own_sta_keep S_CS_c_180 A180 K182
      have S_D_c_182 := own_sta_keep S_D_c_180 A180 K182
      have E_D_c_182 := E_D_c_180.keep K182
      have F_D_c_182 := F_D_c_180.keep K182 (ninS ne_wD_b180 nin0)
      have V157_b151_c_182 := V157_b151_c_180.keep K182 (ninS ne_b151_b180 nin0)
      have A180_c_182 := A180.keep K182
      have k183 : Go p.tables e below (T182.setTop (mkF m 90 #[.val (.int p0), .val (.int p1), .val (.int p2), .val (.int p3), .val (.int (1 : Int32)), .val (.int (3 : Int32)), .val (.ref b151), .unset, .unset, .unset, .unset] [(.ref b180)])) (T182.setTop (mkF m 105 #[.val (.int p0), .val (.int p1), .val (.int p2), .val (.int p3), .val (.int (1 : Int32)), .val (.int (3 : Int32)), .val (.ref b151), .val (.ref b180), .unset, .unset, .unset] [(.int ((((p2.toUInt32 >>> ((8 : Int32) &&& 31).toUInt32).toInt32) &&& (255 : Int32)).toUInt32.toUInt16.toUInt32.toInt32))])) := by
        intro t ht
        refine XS.goto X182.here hx rfl (pc0 := 90) (pc' := 94) rfl (hb hby at_90) (by decide) (by decide) ?_
        show Steps p.tables e below (T182.setTop (mkF m 94 #[.val (.int p0), .val (.int p1), .val (.int p2), .val (.int p3), .val (.int (1 : Int32)), .val (.int (3 : Int32)), .val (.ref b151), .unset, .unset, .unset, .unset] [(.ref b180)])) _
        refine XS.astore X182.here hx rfl (hb hby at_94) rfl rfl (l' := #[.val (.int p0), .val (.int p1), .val (.int p2), .val (.int p3), .val (.int (1 : Int32)), .val (.int (3 : Int32)), .val (.ref b151), .val (.ref b180), .unset, .unset, .unset]) rfl ?_
        show Steps p.tables e below (T182.setTop (mkF m 96 #[.val (.int p0), .val (.int p1), .val (.int p2), .val (.int p3), .val (.int (1 : Int32)), .val (.int (3 : Int32)), .val (.ref b151), .val (.ref b180), .unset, .unset, .unset] [])) _
        refine XS.iloadN X182.here hx rfl (hb hby at_96) rfl ?_
        show Steps p.tables e below (T182.setTop (mkF m 97 #[.val (.int p0), .val (.int p1), .val (.int p2), .val (.int p3), .val (.int (1 : Int32)), .val (.int (3 : Int32)), .val (.ref b151), .val (.ref b180), .unset, .unset, .unset] [(.int p2)])) _
        refine XS.bipush X182.here hx rfl (hb hby at_97) ?_
        show Steps p.tables e below (T182.setTop (mkF m 99 #[.val (.int p0), .val (.int p1), .val (.int p2), .val (.int p3), .val (.int (1 : Int32)), .val (.int (3 : Int32)), .val (.ref b151), .val (.ref b180), .unset, .unset, .unset] [(.int (8 : Int32)), (.int p2)])) _
        refine XS.iushr X182.here hx rfl (hb hby at_99) rfl ?_
        show Steps p.tables e below (T182.setTop (mkF m 100 #[.val (.int p0), .val (.int p1), .val (.int p2), .val (.int p3), .val (.int (1 : Int32)), .val (.int (3 : Int32)), .val (.ref b151), .val (.ref b180), .unset, .unset, .unset] [(.int ((p2.toUInt32 >>> ((8 : Int32) &&& 31).toUInt32).toInt32))])) _
        refine XS.sipush X182.here hx rfl (hb hby at_100) ?_
        show Steps p.tables e below (T182.setTop (mkF m 103 #[.val (.int p0), .val (.int p1), .val (.int p2), .val (.int p3), .val (.int (1 : Int32)), .val (.int (3 : Int32)), .val (.ref b151), .val (.ref b180), .unset, .unset, .unset] [(.int (255 : Int32)), (.int ((p2.toUInt32 >>> ((8 : Int32) &&& 31).toUInt32).toInt32))])) _
        refine XS.iand X182.here hx rfl (hb hby at_103) rfl ?_
        show Steps p.tables e below (T182.setTop (mkF m 104 #[.val (.int p0), .val (.int p1), .val (.int p2), .val (.int p3), .val (.int (1 : Int32)), .val (.int (3 : Int32)), .val (.ref b151), .val (.ref b180), .unset, .unset, .unset] [(.int (((p2.toUInt32 >>> ((8 : Int32) &&& 31).toUInt32).toInt32) &&& (255 : Int32)))])) _
        refine XS.i2c X182.here hx rfl (hb hby at_104) rfl ?_
        exact ht
      obtain ⟨_, _, ⟨T184, L184, kq184, n184⟩, -, X184, ⟨Lc184, hQ184, l184, y184, z184⟩, st184⟩ := Jvm.LawKit.callS X182 hx (y := (⟨"java/lang/String", "valueOf", "(C)Ljava/lang/String;"⟩ : MethodName)) hown (mvT hZ (hw _ (List.mem_of_getElem? (i := 1) rfl))) (mvT hZ (hw _ (List.mem_of_getElem? (i := 2) rfl))) (mvT hZ (hw _ (List.mem_of_getElem? (i := 3) rfl))) (mvT hZ (hw _ (List.mem_of_getElem? (i := 4) rfl))) (by decide) (backOf (W := 0) (rm_valueOf l Z a0 hw [] ((((p2.toUInt32 >>> ((8 : Int32) &&& 31).toUInt32).toInt32) &&& (255 : Int32)).toUInt32.toUInt16.toUInt32.toInt32) G1 T182.heap n0 Z182 S_CS_c_182 (P5 : ¬ (G1 = (0 : Int32))) (own_c255 _ : ¬ ((255 : Int32) < ((((p2.toUInt32 >>> ((8 : Int32) &&& 31).toUInt32).toInt32) &&& (255 : Int32)).toUInt32.toUInt16.toUInt32.toInt32)))) hZ (hw _ (List.mem_of_getElem? (i := 4) rfl)) (hw _ (List.mem_of_getElem? (i := 3) rfl)) (by decide) (by decide)) (g := (mkF m 105 #[.val (.int p0), .val (.int p1), .val (.int p2), .val (.int p3), .val (.int (1 : Int32)), .val (.int (3 : Int32)), .val (.ref b151), .val (.ref b180), .unset, .unset, .unset] [(.int ((((p2.toUInt32 >>> ((8 : Int32) &&& 31).toUInt32).toInt32) &&& (255 : Int32)).toUInt32.toUInt16.toUInt32.toInt32))])) rfl (by rw [hml]; rfl) (argsL := [(.int ((((p2.toUInt32 >>> ((8 : Int32) &&& 31).toUInt32).toInt32) &&& (255 : Int32)).toUInt32.toUInt16.toUInt32.toInt32))]) (rest := []) (lenOf pd_5 rfl) rfl (by show 2 * 0 + _ ≤ _; exact Nat.le_of_eq rfl) (hb hby at_105) (fun _ _ => ⟨rfl, rfl, (by decide : 3 + 2 ≤ _), (by decide : 10 + 5 ≤ _)⟩)
      dsimp only [Pt.U, Pt.locs, Pt.cells, Pt.slots] at X184 l184 y184 z184 st184 hQ184
      subst l184 y184 z184
      obtain ⟨xs_184, xb_184, xk_184, rfl, N184q, K184, Pq184_0, Pq184_1, Fq184_0, Fq184_1, Fq184_2, Fq184_3⟩ := hQ184
      have N184 := Fr.app N182 N184q
      have k184 : Go p.tables e below (T182.setTop (mkF m 105 #[.val (.int p0), .val (.int p1), .val (.int p2), .val (.int p3), .val (.int (1 : Int32)), .val (.int (3 : Int32)), .val (.ref b151), .val (.ref b180), .unset, .unset, .unset] [(.int ((((p2.toUInt32 >>> ((8 : Int32) &&& 31).toUInt32).toInt32) &&& (255 : Int32)).toUInt32.toUInt16.toUInt32.toInt32))])) (T184.setTop (mkF m 108 #[.val (.int p0), .val (.int p1), .val (.int p2), .val (.int p3), .val (.int (1 : Int32)), .val (.int (3 : Int32)), .val (.ref b151), .val (.ref b180), .unset, .unset, .unset] [(.ref xs_184)])) := st184
      have Kp184 : Keep h0 T184.heap [] := Kp182.trans K184 all0
      have Z184 : n0 ≤ T184.heap.size := Nat.le_trans Z182 K184.1
      have ne_wD_xs_184 : wD ≠ xs_184 := Nat.ne_of_lt (Nat.lt_of_lt_of_le E_D_c_182.lt Pq184_0)
      have ne_b151_xs_184 : b151 ≠ xs_184 := Nat.ne_of_lt (Nat.lt_of_lt_of_le V157_b151_c_182.lt Pq184_0)
      have ne_b180_xs_184 : b180 ≠ xs_184 := Nat.ne_of_lt (Nat.lt_of_lt_of_le Eq182.lt Pq184_0)
      have ne_t182_xs_184 : t182 ≠ xs_184 := Nat.ne_of_lt (Nat.lt_of_lt_of_le Aq182.lt Pq184_0)
      have g_xs_184 : n0 ≤ xs_184 := Nat.le_trans Z182 Pq184_0
      have sz_xs_184 : h0.size ≤ xs_184 := Nat.le_trans Kp182.1 Pq184_0
      have ne_wD_xb_184 : wD ≠ xb_184 := Nat.ne_of_lt (Nat.lt_of_lt_of_le E_D_c_182.lt Pq184_1)
      have ne_b151_xb_184 : b151 ≠ xb_184 := Nat.ne_of_lt (Nat.lt_of_lt_of_le V157_b151_c_182.lt Pq184_1)
      have ne_b180_xb_184 : b180 ≠ xb_184 := Nat.ne_of_lt (Nat.lt_of_lt_of_le Eq182.lt Pq184_1)
      have ne_t182_xb_184 : t182 ≠ xb_184 := Nat.ne_of_lt (Nat.lt_of_lt_of_le Aq182.lt Pq184_1)
      have g_xb_184 : n0 ≤ xb_184 := Nat.le_trans Z182 Pq184_1
      have sz_xb_184 : h0.size ≤ xb_184 := Nat.le_trans Kp182.1 Pq184_1
      have S_CS_c_184 := own_sta_keep0 S_CS_c_182 K184
      have S_D_c_184 := own_sta_keep0 S_D_c_182 K184
      have E_D_c_184 := E_D_c_182.keep K184
      have F_D_c_184 := F_D_c_182.keep K184 nin0
      have V157_b151_c_184 := V157_b151_c_182.keep K184 nin0
      have Eq182_c_184 := Eq182.keep K184
      have Cq182_c_184 := Cq182.keep K184 nin0
      have Vq182_c_184 := Vq182.keep K184 nin0
      have Aq182_c_184 := Aq182.keep K184 nin0
      have k185 : Go p.tables e below (T184.setTop (mkF m 108 #[.val (.int p0), .val (.int p1), .val (.int p2), .val (.int p3), .val (.int (1 : Int32)), .val (.int (3 : Int32)), .val (.ref b151), .val (.ref b180), .unset, .unset, .unset] [(.ref xs_184)])) (T184.setTop (mkF m 113 #[.val (.int p0), .val (.int p1), .val (.int p2), .val (.int p3), .val (.int (1 : Int32)), .val (.int (3 : Int32)), .val (.ref b151), .val (.ref b180), .val (.ref xs_184), .unset, .unset] [(.int (p3 &&& (1 : Int32)))])) := by
        intro t ht
        refine XS.astore X184.here hx rfl (hb hby at_108) rfl rfl (l' := #[.val (.int p0), .val (.int p1), .val (.int p2), .val (.int p3), .val (.int (1 : Int32)), .val (.int (3 : Int32)), .val (.ref b151), .val (.ref b180), .val (.ref xs_184), .unset, .unset]) rfl ?_
        show Steps p.tables e below (T184.setTop (mkF m 110 #[.val (.int p0), .val (.int p1), .val (.int p2), .val (.int p3), .val (.int (1 : Int32)), .val (.int (3 : Int32)), .val (.ref b151), .val (.ref b180), .val (.ref xs_184), .unset, .unset] [])) _
        refine XS.iloadN X184.here hx rfl (hb hby at_110) rfl ?_
        show Steps p.tables e below (T184.setTop (mkF m 111 #[.val (.int p0), .val (.int p1), .val (.int p2), .val (.int p3), .val (.int (1 : Int32)), .val (.int (3 : Int32)), .val (.ref b151), .val (.ref b180), .val (.ref xs_184), .unset, .unset] [(.int p3)])) _
        refine XS.iconst X184.here hx rfl (hb hby at_111) ?_
        show Steps p.tables e below (T184.setTop (mkF m 112 #[.val (.int p0), .val (.int p1), .val (.int p2), .val (.int p3), .val (.int (1 : Int32)), .val (.int (3 : Int32)), .val (.ref b151), .val (.ref b180), .val (.ref xs_184), .unset, .unset] [(.int (1 : Int32)), (.int p3)])) _
        refine XS.iand X184.here hx rfl (hb hby at_112) rfl ?_
        exact ht
      have k186 : Go p.tables e below (T184.setTop (mkF m 113 #[.val (.int p0), .val (.int p1), .val (.int p2), .val (.int p3), .val (.int (1 : Int32)), .val (.int (3 : Int32)), .val (.ref b151), .val (.ref b180), .val (.ref xs_184), .unset, .unset] [(.int (p3 &&& (1 : Int32)))])) (T184.setTop (mkF m 121 #[.val (.int p0), .val (.int p1), .val (.int p2), .val (.int p3), .val (.int (1 : Int32)), .val (.int (3 : Int32)), .val (.ref b151), .val (.ref b180), .val (.ref xs_184), .unset, .unset] [(.int (if (p3 &&& (1 : Int32)) = (0 : Int32) then (0 : Int32) else (1 : Int32)))])) := by
        by_cases hc187 : (p3 &&& (1 : Int32)) = (0 : Int32)
        · have k188 : Go p.tables e below (T184.setTop (mkF m 113 #[.val (.int p0), .val (.int p1), .val (.int p2), .val (.int p3), .val (.int (1 : Int32)), .val (.int (3 : Int32)), .val (.ref b151), .val (.ref b180), .val (.ref xs_184), .unset, .unset] [(.int (p3 &&& (1 : Int32)))])) (T184.setTop (mkF m 121 #[.val (.int p0), .val (.int p1), .val (.int p2), .val (.int p3), .val (.int (1 : Int32)), .val (.int (3 : Int32)), .val (.ref b151), .val (.ref b180), .val (.ref xs_184), .unset, .unset] [(.int (0 : Int32))])) := by
            intro t ht
            refine XS.ifYes X184.here hx rfl (pc0 := 113) (pc' := 120) rfl (hb hby at_113) rfl ((if0 _ _).trans (teq hc187).1) (by decide) (by decide) ?_
            show Steps p.tables e below (T184.setTop (mkF m 120 #[.val (.int p0), .val (.int p1), .val (.int p2), .val (.int p3), .val (.int (1 : Int32)), .val (.int (3 : Int32)), .val (.ref b151), .val (.ref b180), .val (.ref xs_184), .unset, .unset] [])) _
            refine XS.iconst X184.here hx rfl (hb hby at_120) ?_
            exact ht
          have kk := k188
          simpa only [if_neg P5, if_neg hc159, if_pos hc187] using kk
        · have k189 : Go p.tables e below (T184.setTop (mkF m 113 #[.val (.int p0), .val (.int p1), .val (.int p2), .val (.int p3), .val (.int (1 : Int32)), .val (.int (3 : Int32)), .val (.ref b151), .val (.ref b180), .val (.ref xs_184), .unset, .unset] [(.int (p3 &&& (1 : Int32)))])) (T184.setTop (mkF m 121 #[.val (.int p0), .val (.int p1), .val (.int p2), .val (.int p3), .val (.int (1 : Int32)), .val (.int (3 : Int32)), .val (.ref b151), .val (.ref b180), .val (.ref xs_184), .unset, .unset] [(.int (1 : Int32))])) := by
            intro t ht
            refine XS.ifNo X184.here hx rfl (hb hby at_113) rfl ((if0 _ _).trans (feq hc187).1) ?_
            show Steps p.tables e below (T184.setTop (mkF m 116 #[.val (.int p0), .val (.int p1), .val (.int p2), .val (.int p3), .val (.int (1 : Int32)), .val (.int (3 : Int32)), .val (.ref b151), .val (.ref b180), .val (.ref xs_184), .unset, .unset] [])) _
            refine XS.iconst X184.here hx rfl (hb hby at_116) ?_
            show Steps p.tables e below (T184.setTop (mkF m 117 #[.val (.int p0), .val (.int p1), .val (.int p2), .val (.int p3), .val (.int (1 : Int32)), .val (.int (3 : Int32)), .val (.ref b151), .val (.ref b180), .val (.ref xs_184), .unset, .unset] [(.int (1 : Int32))])) _
            refine XS.goto X184.here hx rfl (pc0 := 117) (pc' := 121) rfl (hb hby at_117) (by decide) (by decide) ?_
            exact ht
          have kk := k189
          simpa only [if_neg P5, if_neg hc159, if_neg hc187] using kk
      have k190 : Go p.tables e below (T184.setTop (mkF m 121 #[.val (.int p0), .val (.int p1), .val (.int p2), .val (.int p3), .val (.int (1 : Int32)), .val (.int (3 : Int32)), .val (.ref b151), .val (.ref b180), .val (.ref xs_184), .unset, .unset] [(.int (if (p3 &&& (1 : Int32)) = (0 : Int32) then (0 : Int32) else (1 : Int32)))])) (T184.setTop (mkF m 123 #[.val (.int p0), .val (.int p1), .val (.int p2), .val (.int p3), .val (.int (1 : Int32)), .val (.int (3 : Int32)), .val (.ref b151), .val (.ref b180), .val (.ref xs_184), .val (.int (if (p3 &&& (1 : Int32)) = (0 : Int32) then (0 : Int32) else (1 : Int32))), .unset] [])) := by
        intro t ht
        refine XS.istore X184.here hx rfl (hb hby at_121) rfl (l' := #[.val (.int p0), .val (.int p1), .val (.int p2), .val (.int p3), .val (.int (1 : Int32)), .val (.int (3 : Int32)), .val (.ref b151), .val (.ref b180), .val (.ref xs_184), .val (.int (if (p3 &&& (1 : Int32)) = (0 : Int32) then (0 : Int32) else (1 : Int32))), .unset]) rfl ?_
        exact ht
      obtain ⟨T191, h191, X191, e191, E191, A191, D191, -, st191⟩ := newO X184 hx hZ hown (hw _ (List.mem_of_getElem? (i := 27) rfl)) (hw _ (List.mem_of_getElem? (i := 28) rfl)) (hw _ (List.mem_of_getElem? (i := 29) rfl)) rfl (g := (mkF m 123 #[.val (.int p0), .val (.int p1), .val (.int p2), .val (.int p3), .val (.int (1 : Int32)), .val (.int (3 : Int32)), .val (.ref b151), .val (.ref b180), .val (.ref xs_184), .val (.int (if (p3 &&& (1 : Int32)) = (0 : Int32) then (0 : Int32) else (1 : Int32))), .unset] [])) rfl (hb hby at_123) (by decide) (by decide)
      obtain ⟨b191, g191⟩ : ∃ z, z = T184.heap.size := ⟨_, rfl⟩
      rw [← g191] at A191 D191 st191
      have g_b191 : n0 ≤ b191 := Nat.le_trans Z184 (Nat.le_of_eq g191.symm)
      have sz_b191 : h0.size ≤ b191 := Nat.le_trans Kp184.1 (Nat.le_of_eq g191.symm)
      have ne_wD_b191 : wD ≠ b191 := Nat.ne_of_lt (Nat.lt_of_lt_of_le E_D_c_184.lt (Nat.le_of_eq g191.symm))
      have ne_b151_b191 : b151 ≠ b191 := Nat.ne_of_lt (Nat.lt_of_lt_of_le V157_b151_c_184.lt (Nat.le_of_eq g191.symm))
      have ne_b180_b191 : b180 ≠ b191 := Nat.ne_of_lt (Nat.lt_of_lt_of_le Eq182_c_184.lt (Nat.le_of_eq g191.symm))
      have ne_t182_b191 : t182 ≠ b191 := Nat.ne_of_lt (Nat.lt_of_lt_of_le Aq182_c_184.lt (Nat.le_of_eq g191.symm))
      have ne_xs_184_b191 : xs_184 ≠ b191 := Nat.ne_of_lt (Nat.lt_of_lt_of_le Fq184_0.lt (Nat.le_of_eq g191.symm))
      have ne_xb_184_b191 : xb_184 ≠ b191 := Nat.ne_of_lt (Nat.lt_of_lt_of_le Fq184_3.lt (Nat.le_of_eq g191.symm))
      have Kp191 : Keep h0 h191 [] := Kp184.ext E191
      have Z191 : n0 ≤ h191.size := Nat.le_trans Z184 E191.1
      have S_CS_c_191 := S_CS_c_184.ext E191
      have S_D_c_191 := S_D_c_184.ext E191
      have E_D_c_191 := E_D_c_184.ext E191
      have F_D_c_191 := F_D_c_184.ext E191
      have V157_b151_c_191 := V157_b151_c_184.ext E191
      have Eq182_c_191 := Eq182_c_184.ext E191
      have Cq182_c_191 := Cq182_c_184.ext E191
      have Vq182_c_191 := Vq182_c_184.ext E191
      have Aq182_c_191 := Aq182_c_184.ext E191
      have Fq184_0_c_191 := Fq184_0.ext E191
      have Fq184_1_c_191 := Fq184_1.ext E191
      have Fq184_2_c_191 := Fq184_2.ext E191
      have Fq184_3_c_191 := Fq184_3.ext E191
      have F_nameColumn_b191 : Fld Z h191 b191 "com/example/plain_keys/plainkeys/dialect/KeyTableLayout" "nameColumn" "Ljava/lang/String;" .null := D191 (Or.inr (hw _ (List.mem_of_getElem? (i := 40) rfl))) (ty := (.object "java/lang/String")) (by decide)
      have F_valueColumn_b191 : Fld Z h191 b191 "com/example/plain_keys/plainkeys/dialect/KeyTableLayout" "valueColumn" "Ljava/lang/String;" .null := D191 (Or.inr (hw _ (List.mem_of_getElem? (i := 42) rfl))) (ty := (.object "java/lang/String")) (by decide)
      have F_valueIsLastKey_b191 : Fld Z h191 b191 "com/example/plain_keys/plainkeys/dialect/KeyTableLayout" "valueIsLastKey" "Z" (.int (0 : Int32)) := D191 (Or.inr (hw _ (List.mem_of_getElem? (i := 44) rfl))) (ty := .boolean) (by decide)
      have k191 : Go p.tables e below (T184.setTop (mkF m 123 #[.val (.int p0), .val (.int p1), .val (.int p2), .val (.int p3), .val (.int (1 : Int32)), .val (.int (3 : Int32)), .val (.ref b151), .val (.ref b180), .val (.ref xs_184), .val (.int (if (p3 &&& (1 : Int32)) = (0 : Int32) then (0 : Int32) else (1 : Int32))), .unset] [])) (T191.setTop (mkF m 126 #[.val (.int p0), .val (.int p1), .val (.int p2), .val (.int p3), .val (.int (1 : Int32)), .val (.int (3 : Int32)), .val (.ref b151), .val (.ref b180), .val (.ref xs_184), .val (.int (if (p3 &&& (1 : Int32)) = (0 : Int32) then (0 : Int32) else (1 : Int32))), .unset] [(.ref b191)])) := st191
      have k192 : Go p.tables e below (T191.setTop (mkF m 126 #[.val (.int p0), .val (.int p1), .val (.int p2), .val (.int p3), .val (.int (1 : Int32)), .val (.int (3 : Int32)), .val (.ref b151), .val (.ref b180), .val (.ref xs_184), .val (.int (if (p3 &&& (1 : Int32)) = (0 : Int32) then (0 : Int32) else (1 : Int32))), .unset] [(.ref b191)])) (T191.setTop (mkF m 133 #[.val (.int p0), .val (.int p1), .val (.int p2), .val (.int p3), .val (.int (1 : Int32)), .val (.int (3 : Int32)), .val (.ref b151), .val (.ref b180), .val (.ref xs_184), .val (.int (if (p3 &&& (1 : Int32)) = (0 : Int32) then (0 : Int32) else (1 : Int32))), .unset] [(.int (if (p3 &&& (1 : Int32)) = (0 : Int32) then (0 : Int32) else (1 : Int32))), (.ref xs_184), (.ref b180), (.ref b191), (.ref b191)])) := by
        intro t ht
        refine XS.dup X191.here hx rfl (hb hby at_126) rfl rfl ?_
        show Steps p.tables e below (T191.setTop (mkF m 127 #[.val (.int p0), .val (.int p1), .val (.int p2), .val (.int p3), .val (.int (1 : Int32)), .val (.int (3 : Int32)), .val (.ref b151), .val (.ref b180), .val (.ref xs_184), .val (.int (if (p3 &&& (1 : Int32)) = (0 : Int32) then (0 : Int32) else (1 : Int32))), .unset] [(.ref b191), (.ref b191)])) _
        refine XS.aload X191.here hx rfl (hb hby at_127) rfl rfl ?_
        show Steps p.tables e below (T191.setTop (mkF m 129 #[.val (.int p0), .val (.int p1), .val (.int p2), .val (.int p3), .val (.int (1 : Int32)), .val (.int (3 : Int32)), .val (.ref b151), .val (.ref b180), .val (.ref xs_184), .val (.int (if (p3 &&& (1 : Int32)) = (0 : Int32) then (0 : Int32) else (1 : Int32))), .unset] [(.ref b180), (.ref b191), (.ref b191)])) _
        refine XS.aload X191.here hx rfl (hb hby at_129) rfl rfl ?_
        show Steps p.tables e below (T191.setTop (mkF m 131 #[.val (.int p0), .val (.int p1), .val (.int p2), .val (.int p3), .val (.int (1 : Int32)), .val (.int (3 : Int32)), .val (.ref b151), .val (.ref b180), .val (.ref xs_184), .val (.int (if (p3 &&& (1 : Int32)) = (0 : Int32) then (0 : Int32) else (1 : Int32))), .unset] [(.ref xs_184), (.ref b180), (.ref b191), (.ref b191)])) _
        refine XS.iload X191.here hx rfl (hb hby at_131) rfl ?_
        exact ht
      obtain ⟨_, _, ⟨T193, L193, kq193, n193⟩, -, X193, ⟨Lc193, hQ193, l193, y193, z193⟩, st193⟩ := X191.specialBack hx (y := (⟨"com/example/plain_keys/plainkeys/dialect/KeyTableLayout", "<init>", "(Ljava/lang/String;Ljava/lang/String;Z)V"⟩ : MethodName)) rfl hown (mvT hZ (hw _ (List.mem_of_getElem? (i := 30) rfl))) (mvT hZ (hw _ (List.mem_of_getElem? (i := 31) rfl))) (mvT hZ (hw _ (List.mem_of_getElem? (i := 32) rfl))) (by decide) (backOf (W := 1) (rm_init l Z a0 hw [] b191 b180 xs_184 (if (p3 &&& (1 : Int32)) = (0 : Int32) then (0 : Int32) else (1 : Int32)) h191 n0 Z191 F_nameColumn_b191 F_valueColumn_b191 F_valueIsLastKey_b191 A191 g_b191) hZ (hw _ (List.mem_of_getElem? (i := 32) rfl)) (hw _ (List.mem_of_getElem? (i := 29) rfl)) (by decide) (by decide)) (g := (mkF m 133 #[.val (.int p0), .val (.int p1), .val (.int p2), .val (.int p3), .val (.int (1 : Int32)), .val (.int (3 : Int32)), .val (.ref b151), .val (.ref b180), .val (.ref xs_184), .val (.int (if (p3 &&& (1 : Int32)) = (0 : Int32) then (0 : Int32) else (1 : Int32))), .unset] [(.int (if (p3 &&& (1 : Int32)) = (0 : Int32) then (0 : Int32) else (1 : Int32))), (.ref xs_184), (.ref b180), (.ref b191), (.ref b191)])) rfl (by rw [hml]; rfl) (Steps.refl _) (a := b191) (argsL := [(.ref b180), (.ref xs_184), (.int (if (p3 &&& (1 : Int32)) = (0 : Int32) then (0 : Int32) else (1 : Int32)))]) (rest := [(.ref b191)]) (lenOf pd_6 rfl) rfl (by show 2 * 0 + _ ≤ _; exact Nat.le_of_eq rfl) (hb hby at_133) (fun _ _ => ⟨rfl, e191, (by decide : 6 + 0 ≤ _), (by decide : 18 + 0 ≤ _)⟩)
      dsimp only [Pt.U, Pt.locs, Pt.cells, Pt.slots] at X193 l193 y193 z193 st193 hQ193
      subst l193 y193 z193
      obtain ⟨rfl, N193q, K193, Fq193_0, Fq193_1, Fq193_2, Fq193_3⟩ := hQ193
      have N193 := Fr.app N184 N193q
      have k193 : Go p.tables e below (T191.setTop (mkF m 133 #[.val (.int p0), .val (.int p1), .val (.int p2), .val (.int p3), .val (.int (1 : Int32)), .val (.int (3 : Int32)), .val (.ref b151), .val (.ref b180), .val (.ref xs_184), .val (.int (if (p3 &&& (1 : Int32)) = (0 : Int32) then (0 : Int32) else (1 : Int32))), .unset] [(.int (if (p3 &&& (1 : Int32)) = (0 : Int32) then (0 : Int32) else (1 : Int32))), (.ref xs_184), (.ref b180), (.ref b191), (.ref b191)])) (T193.setTop (mkF m 136 #[.val (.int p0), .val (.int p1), .val (.int p2), .val (.int p3), .val (.int (1 : Int32)), .val (.int (3 : Int32)), .val (.ref b151), .val (.ref b180), .val (.ref xs_184), .val (.int (if (p3 &&& (1 : Int32)) = (0 : Int32) then (0 : Int32) else (1 : Int32))), .unset] [(.ref b191)])) := fun _ ht => st193.trans ht
      have Kp193 : Keep h0 T193.heap [] := Kp191.trans K193 (allS (Or.inr sz_b191) all0)
      have Z193 : n0 ≤ T193.heap.size := Nat.le_trans Z191 K193.1
      have S_CS_c_193 := own_sta_keep S_CS_c_191 A191 K193
      have S_D_c_193 := own_sta_keep S_D_c_191 A191 K193
      have E_D_c_193 := E_D_c_191.keep K193
      have F_D_c_193 := F_D_c_191.keep K193 (ninS ne_wD_b191 nin0)
      have V157_b151_c_193 := V157_b151_c_191.keep K193 (ninS ne_b151_b191 nin0)
      have Eq182_c_193 := Eq182_c_191.keep K193
      have Cq182_c_193 := Cq182_c_191.keep K193 (ninS ne_b180_b191 nin0)
      have Vq182_c_193 := Vq182_c_191.keep K193 (ninS ne_b180_b191 nin0)
      have Aq182_c_193 := Aq182_c_191.keep K193 (ninS ne_t182_b191 nin0)
      have Fq184_0_c_193 := Fq184_0_c_191.keep K193
      have Fq184_1_c_193 := Fq184_1_c_191.keep K193 (ninS ne_xs_184_b191 nin0)
      have Fq184_2_c_193 := Fq184_2_c_191.keep K193 (ninS ne_xs_184_b191 nin0)
      have Fq184_3_c_193 := Fq184_3_c_191.keep K193 (ninS ne_xb_184_b191 nin0)
      have A191_c_193 := A191.keep K193
      have k194 : Go p.tables e below (T193.setTop (mkF m 136 #[.val (.int p0), .val (.int p1), .val (.int p2), .val (.int p3), .val (.int (1 : Int32)), .val (.int (3 : Int32)), .val (.ref b151), .val (.ref b180), .val (.ref xs_184), .val (.int (if (p3 &&& (1 : Int32)) = (0 : Int32) then (0 : Int32) else (1 : Int32))), .unset] [(.ref b191)])) (T193.setTop (mkF m 140 #[.val (.int p0), .val (.int p1), .val (.int p2), .val (.int p3), .val (.int (1 : Int32)), .val (.int (3 : Int32)), .val (.ref b151), .val (.ref b180), .val (.ref xs_184), .val (.int (if (p3 &&& (1 : Int32)) = (0 : Int32) then (0 : Int32) else (1 : Int32))), .val (.ref b191)] [(.ref b191)])) := by
        intro t ht
        refine XS.astore X193.here hx rfl (hb hby at_136) rfl rfl (l' := #[.val (.int p0), .val (.int p1), .val (.int p2), .val (.int p3), .val (.int (1 : Int32)), .val (.int (3 : Int32)), .val (.ref b151), .val (.ref b180), .val (.ref xs_184), .val (.int (if (p3 &&& (1 : Int32)) = (0 : Int32) then (0 : Int32) else (1 : Int32))), .val (.ref b191)]) rfl ?_
        show Steps p.tables e below (T193.setTop (mkF m 138 #[.val (.int p0), .val (.int p1), .val (.int p2), .val (.int p3), .val (.int (1 : Int32)), .val (.int (3 : Int32)), .val (.ref b151), .val (.ref b180), .val (.ref xs_184), .val (.int (if (p3 &&& (1 : Int32)) = (0 : Int32) then (0 : Int32) else (1 : Int32))), .val (.ref b191)] [])) _
        refine XS.aload X193.here hx rfl (hb hby at_138) rfl rfl ?_
        exact ht
      obtain ⟨cq195, kq195, q195a, q195b, q195c⟩ := isOf hZ rfl Fq193_0
      obtain ⟨_, _, ⟨T195, L195, kq195, n195⟩, -, X195, ⟨Lc195, hQ195, l195, y195, z195⟩, st195⟩ := X193.virtualBack hx (y := (⟨"com/example/plain_keys/plainkeys/dialect/KeyTableLayout", "namesRows", "()Z"⟩ : MethodName)) (z := (⟨"com/example/plain_keys/plainkeys/dialect/KeyTableLayout", "namesRows", "()Z"⟩ : MethodName)) hown (mvT hZ (hw _ (List.mem_of_getElem? (i := 45) rfl))) (mvT hZ (hw _ (List.mem_of_getElem? (i := 46) rfl))) (notFace_of_selects (args := #[]) (mvT hZ (hw _ (List.mem_of_getElem? (i := 48) rfl)))) (mvT hZ (hw _ (List.mem_of_getElem? (i := 48) rfl))) (mvT hZ (hw _ (List.mem_of_getElem? (i := 47) rfl))) (by decide) (backOf (W := 0) (rm_rows1 l Z a0 hw [] b191 b180 T193.heap n0 Z193 Fq193_1) hZ (hw _ (List.mem_of_getElem? (i := 49) rfl)) (hw _ (List.mem_of_getElem? (i := 29) rfl)) (by decide) (by decide)) q195a q195c (g := (mkF m 140 #[.val (.int p0), .val (.int p1), .val (.int p2), .val (.int p3), .val (.int (1 : Int32)), .val (.int (3 : Int32)), .val (.ref b151), .val (.ref b180), .val (.ref xs_184), .val (.int (if (p3 &&& (1 : Int32)) = (0 : Int32) then (0 : Int32) else (1 : Int32))), .val (.ref b191)] [(.ref b191)])) rfl (by rw [hml]; rfl) (Steps.refl _) (argsL := []) (rest := []) (lenOf pd_7 rfl) rfl (by show 2 * 0 + _ ≤ _; exact Nat.le_of_eq rfl) (hb hby at_140) (fun _ _ => ⟨rfl, rfl, (by decide : 6 + 0 ≤ _), (by decide : 18 + 0 ≤ _)⟩)
      dsimp only [Pt.U, Pt.locs, Pt.cells, Pt.slots] at X195 l195 y195 z195 st195 hQ195
      subst l195 y195 z195
      obtain ⟨rfl, N195q, eq195⟩ := hQ195
      have N195 := Fr.app N193 N195q
      have k195 : Go p.tables e below (T193.setTop (mkF m 140 #[.val (.int p0), .val (.int p1), .val (.int p2), .val (.int p3), .val (.int (1 : Int32)), .val (.int (3 : Int32)), .val (.ref b151), .val (.ref b180), .val (.ref xs_184), .val (.int (if (p3 &&& (1 : Int32)) = (0 : Int32) then (0 : Int32) else (1 : Int32))), .val (.ref b191)] [(.ref b191)])) (T195.setTop (mkF m 143 #[.val (.int p0), .val (.int p1), .val (.int p2), .val (.int p3), .val (.int (1 : Int32)), .val (.int (3 : Int32)), .val (.ref b151), .val (.ref b180), .val (.ref xs_184), .val (.int (if (p3 &&& (1 : Int32)) = (0 : Int32) then (0 : Int32) else (1 : Int32))), .val (.ref b191)] [(.int (1 : Int32))])) := fun _ ht => st195.trans ht
      have k196 : Go p.tables e below (T195.setTop (mkF m 143 #[.val (.int p0), .val (.int p1), .val (.int p2), .val (.int p3), .val (.int (1 : Int32)), .val (.int (3 : Int32)), .val (.ref b151), .val (.ref b180), .val (.ref xs_184), .val (.int (if (p3 &&& (1 : Int32)) = (0 : Int32) then (0 : Int32) else (1 : Int32))), .val (.ref b191)] [(.int (1 : Int32))])) (T195.setTop (mkF m 148 #[.val (.int p0), .val (.int p1), .val (.int p2), .val (.int p3), .val (.int (1 : Int32)), .val (.int (3 : Int32)), .val (.ref b151), .val (.ref b180), .val (.ref xs_184), .val (.int (if (p3 &&& (1 : Int32)) = (0 : Int32) then (0 : Int32) else (1 : Int32))), .val (.ref b191)] [])) := by
        intro t ht
        refine XS.iload X195.here hx rfl (hb hby at_143) rfl ?_
        show Steps p.tables e below (T195.setTop (mkF m 145 #[.val (.int p0), .val (.int p1), .val (.int p2), .val (.int p3), .val (.int (1 : Int32)), .val (.int (3 : Int32)), .val (.ref b151), .val (.ref b180), .val (.ref xs_184), .val (.int (if (p3 &&& (1 : Int32)) = (0 : Int32) then (0 : Int32) else (1 : Int32))), .val (.ref b191)] [(.int (1 : Int32)), (.int (1 : Int32))])) _
        refine XS.icmpNo X195.here hx rfl (hb hby at_145) rfl (teq (by decide : (1 : Int32) = (1 : Int32))).2 ?_
        exact ht
      obtain ⟨T197, X197, e197, st197⟩ := getS2 X195 hx hZ hown (host := "") (Or.inl (hw _ (List.mem_of_getElem? (i := 50) rfl))) Via.refl eq195 S_D_c_193 (g := (mkF m 148 #[.val (.int p0), .val (.int p1), .val (.int p2), .val (.int p3), .val (.int (1 : Int32)), .val (.int (3 : Int32)), .val (.ref b151), .val (.ref b180), .val (.ref xs_184), .val (.int (if (p3 &&& (1 : Int32)) = (0 : Int32) then (0 : Int32) else (1 : Int32))), .val (.ref b191)] [])) rfl (hb hby at_148)
      have k197 : Go p.tables e below (T195.setTop (mkF m 148 #[.val (.int p0), .val (.int p1), .val (.int p2), .val (.int p3), .val (.int (1 : Int32)), .val (.int (3 : Int32)), .val (.ref b151), .val (.ref b180), .val (.ref xs_184), .val (.int (if (p3 &&& (1 : Int32)) = (0 : Int32) then (0 : Int32) else (1 : Int32))), .val (.ref b191)] [])) (T197.setTop (mkF m 151 #[.val (.int p0), .val (.int p1), .val (.int p2), .val (.int p3), .val (.int (1 : Int32)), .val (.int (3 : Int32)), .val (.ref b151), .val (.ref b180), .val (.ref xs_184), .val (.int (if (p3 &&& (1 : Int32)) = (0 : Int32) then (0 : Int32) else (1 : Int32))), .val (.ref b191)] [(.ref wD)])) := st197
      obtain ⟨cq198, kq198, q198a, q198b, q198c⟩ := isOf hZ e197 E_D_c_193
      obtain ⟨_, _, ⟨T198, L198, kq198, n198⟩, -, X198, ⟨Lc198, hQ198, l198, y198, z198⟩, st198⟩ := X197.virtualBack hx (y := (⟨"com/example/plain_keys/plainkeys/dialect/KeyTableLayout", "namesRows", "()Z"⟩ : MethodName)) (z := (⟨"com/example/plain_keys/plainkeys/dialect/KeyTableLayout", "namesRows", "()Z"⟩ : MethodName)) hown (mvT hZ (hw _ (List.mem_of_getElem? (i := 45) rfl))) (mvT hZ (hw _ (List.mem_of_getElem? (i := 46) rfl))) (notFace_of_selects (args := #[]) (mvT hZ (hw _ (List.mem_of_getElem? (i := 48) rfl)))) (mvT hZ (hw _ (List.mem_of_getElem? (i := 48) rfl))) (mvT hZ (hw _ (List.mem_of_getElem? (i := 47) rfl))) (by decide) (backOf (W := 0) (rm_rows1 l Z a0 hw [] wD wn T193.heap n0 Z193 F_D_c_193) hZ (hw _ (List.mem_of_getElem? (i := 49) rfl)) (hw _ (List.mem_of_getElem? (i := 29) rfl)) (by decide) (by decide)) q198a q198c (g := (mkF m 151 #[.val (.int p0), .val (.int p1), .val (.int p2), .val (.int p3), .val (.int (1 : Int32)), .val (.int (3 : Int32)), .val (.ref b151), .val (.ref b180), .val (.ref xs_184), .val (.int (if (p3 &&& (1 : Int32)) = (0 : Int32) then (0 : Int32) else (1 : Int32))), .val (.ref b191)] [(.ref wD)])) rfl (by rw [hml]; rfl) (Steps.refl _) (argsL := []) (rest := []) (lenOf pd_7 rfl) rfl (by show 2 * 0 + _ ≤ _; exact Nat.le_of_eq rfl) (hb hby at_151) (fun _ _ => ⟨rfl, e197, (by decide : 6 + 0 ≤ _), (by decide : 18 + 0 ≤ _)⟩)
      dsimp only [Pt.U, Pt.locs, Pt.cells, Pt.slots] at X198 l198 y198 z198 st198 hQ198
      subst l198 y198 z198
      obtain ⟨rfl, N198q, eq198⟩ := hQ198
      have N198 := Fr.app N195 N198q
      have k198 : Go p.tables e below (T197.setTop (mkF m 151 #[.val (.int p0), .val (.int p1), .val (.int p2), .val (.int p3), .val (.int (1 : Int32)), .val (.int (3 : Int32)), .val (.ref b151), .val (.ref b180), .val (.ref xs_184), .val (.int (if (p3 &&& (1 : Int32)) = (0 : Int32) then (0 : Int32) else (1 : Int32))), .val (.ref b191)] [(.ref wD)])) (T198.setTop (mkF m 154 #[.val (.int p0), .val (.int p1), .val (.int p2), .val (.int p3), .val (.int (1 : Int32)), .val (.int (3 : Int32)), .val (.ref b151), .val (.ref b180), .val (.ref xs_184), .val (.int (if (p3 &&& (1 : Int32)) = (0 : Int32) then (0 : Int32) else (1 : Int32))), .val (.ref b191)] [(.int (1 : Int32))])) := fun _ ht => st198.trans ht
      have k199 : Go p.tables e below (T198.setTop (mkF m 154 #[.val (.int p0), .val (.int p1), .val (.int p2), .val (.int p3), .val (.int (1 : Int32)), .val (.int (3 : Int32)), .val (.ref b151), .val (.ref b180), .val (.ref xs_184), .val (.int (if (p3 &&& (1 : Int32)) = (0 : Int32) then (0 : Int32) else (1 : Int32))), .val (.ref b191)] [(.int (1 : Int32))])) (T198.setTop (mkF m 162 #[.val (.int p0), .val (.int p1), .val (.int p2), .val (.int p3), .val (.int (1 : Int32)), .val (.int (3 : Int32)), .val (.ref b151), .val (.ref b180), .val (.ref xs_184), .val (.int (if (p3 &&& (1 : Int32)) = (0 : Int32) then (0 : Int32) else (1 : Int32))), .val (.ref b191)] [(.int (1 : Int32))])) := by
        intro t ht
        refine XS.ifNo X198.here hx rfl (hb hby at_154) rfl ((if0 _ _).trans (feq (by decide : ¬ ((1 : Int32) = (0 : Int32)))).1) ?_
        show Steps p.tables e below (T198.setTop (mkF m 157 #[.val (.int p0), .val (.int p1), .val (.int p2), .val (.int p3), .val (.int (1 : Int32)), .val (.int (3 : Int32)), .val (.ref b151), .val (.ref b180), .val (.ref xs_184), .val (.int (if (p3 &&& (1 : Int32)) = (0 : Int32) then (0 : Int32) else (1 : Int32))), .val (.ref b191)] [])) _
        refine XS.iconst X198.here hx rfl (hb hby at_157) ?_
        show Steps p.tables e below (T198.setTop (mkF m 158 #[.val (.int p0), .val (.int p1), .val (.int p2), .val (.int p3), .val (.int (1 : Int32)), .val (.int (3 : Int32)), .val (.ref b151), .val (.ref b180), .val (.ref xs_184), .val (.int (if (p3 &&& (1 : Int32)) = (0 : Int32) then (0 : Int32) else (1 : Int32))), .val (.ref b191)] [(.int (1 : Int32))])) _
        refine XS.goto X198.here hx rfl (pc0 := 158) (pc' := 162) rfl (hb hby at_158) (by decide) (by decide) ?_
        exact ht
      have hS0 : s.Since s.vm 0 := (State.WarmedH.refl s).since 0
      obtain ⟨fs, hr, hrun, hended, hW⟩ := X198.leaveW (s := s) (vm₁ := s.vm) hS0 (Nat.zero_le _) (v := some (.int (1 : Int32))) (fun h => by rw [Bd.returns] at h; cases h)
      refine ⟨_, _, pre0 _ ((goT k1 (goT k2 (goT k6 (goT k149 (goT k150 (goT k151 (goT k152 (goT k153 (goT k154 (goT k155 (goT k156 (goT k157 (goT k158 (goT k178 (goT k179 (goT k180 (goT k181 (goT k182 (goT k183 (goT k184 (goT k185 (goT k186 (goT k190 (goT k191 (goT k192 (goT k193 (goT k194 (goT k195 (goT k196 (goT k197 (goT k198 k199))))))))))))))))))))))))))))))) _ (retN X198 hx (t := .boolean) Bd.returns (by simp) (hb hby at_162) hr)), hrun, hended, _, _, rfl, ?_, hW.1, hW.2.1, hW.2.2.1, hW.2.2.2.mono (by decide) (by decide)⟩
      show Q_law Z p0 p1 p2 p3 G1 wD wn h0 n0 _ T198.heap _
      rw [eq198]
      exact ⟨rfl, N198⟩
set_option maxRecDepth 65536 in
set_option maxHeartbeats 40000000 in
theorem comes_1 {Post : Tables → Env → Array Value → State → Outcome → State → Prop} (hpost : ∀ tb e args s v u, (limb_1_1.after args s (.returned v) u = true ∧ limb_1_2.after args s (.returned v) u = true ∧ True) → ReturnedEndW s (.returned v) u (Jvm.fieldLocs frame_1_writes args s ++ Jvm.arrayLocs frame_1_arrays args s ++ Jvm.staticLocs frame_1_statics s) 24 1152 → Post tb e args s (.returned v) u) :
    ArmFor flags0 classFile x code maxLocals ret World_1 tables_1 room_1 Calls_1 rest_1 Pre_1 Post := by
  intro l hfl _ _ p e ha hc hk s m args below hf hA hF happ hP
  obtain ⟨hcalls, hrest, hpre⟩ := hP
  obtain ⟨-, -, -, hnamed, -, -, -, hat⟩ := (Spec.applies_iff hf).mp happ
  obtain ⟨hg, hn⟩ := and_e (Cond.before_iff.mp (show (Jvm.Cond.and given_1 narrow_1).before args s = true from hpre))
  obtain ⟨hcnt, hg⟩ := and_e hg
  obtain ⟨ha0, hg⟩ := and_e hg
  obtain ⟨ha1, hg⟩ := and_e hg
  obtain ⟨ha2, hg⟩ := and_e hg
  have ha3 := hg
  obtain ⟨w0, w1, w2, w3, rfl⟩ : ∃ w0 w1 w2 w3 : Value, args = #[w0, w1, w2, w3] := by
    have hs : args.size = 4 := by simpa [Cond.value, given_1] using hcnt
    obtain ⟨L⟩ := args
    match L, hs with
    | [w0, w1, w2, w3], _ => exact ⟨w0, w1, w2, w3, rfl⟩
  have hw := fun d (hd : d ∈ tables_1) => atoms_spec (ws := Jvm.Cond.code x code maxLocals ret :: tables_1) hat d (List.mem_cons_of_mem _ hd)
  have hfit : Fit s := fun {y c} hc i hi => by
    obtain ⟨ha, rfl⟩ := Array.getElem?_eq_some_iff.mp hc
    have q := List.all_eq_true.mp ((Array.all_eq_true_iff_forall_mem.mp hF) _ (Array.getElem_mem ha)) i (List.mem_range.mpr hi)
    simpa [Array.getElem?_eq_getElem hi] using q
  obtain ⟨hsets, hown0⟩ := atoms_of _ (rest_1_c_eq ▸ (show rest_1_c.before _ s = true from hrest))
  have hr0 := Cond.before_iff.mp hown0
  obtain ⟨i0, ei0⟩ := is_v ha0
  obtain rfl : w0 = (.int i0) := Option.some.inj ei0
  obtain ⟨i1, ei1⟩ := is_v ha1
  obtain rfl : w1 = (.int i1) := Option.some.inj ei1
  obtain ⟨i2, ei2⟩ := is_v ha2
  obtain rfl : w2 = (.int i2) := Option.some.inj ei2
  obtain ⟨i3, ei3⟩ := is_v ha3
  obtain rfl : w3 = (.int i3) := Option.some.inj ei3
  have n3s := not_v (Cond.before_iff.mp (hsets _ (List.mem_of_getElem? (i := 2) rfl)))
  obtain ⟨G1, eG1⟩ := is_v (Cond.before_iff.mp (hsets _ (List.mem_of_getElem? (i := 1) rfl)))
  have S_CS : Sta s s.heap "java/lang/String" "COMPACT_STRINGS" "Z" (.int G1) := Sta.start eG1 (Or.inl (hsets _ (List.mem_of_getElem? (i := 0) rfl)))
  have P5 : ¬ (G1 = (0 : Int32)) := gotF (Cond.eq_ints eG1 (Term.int_eval (0))) n3s
  have hCH0 : CHv s own_ELs s.vm s.heap := CHv.start (own_EL hw) (fun q hq => hcalls.1 q hq) (hsets _ (List.mem_of_getElem? (i := 2) rfl)) (hw _ (List.mem_of_getElem? (i := 15) rfl)) (hw _ (List.mem_of_getElem? (i := 11) rfl))
  obtain ⟨hn0, hn1⟩ := and_e hn
  obtain ⟨wD, evD⟩ := exa_v hn0
  have S_D := Sta.start evD (Or.inr ⟨(hw _ (List.mem_of_getElem? (i := 29) rfl)), (hw _ (List.mem_of_getElem? (i := 51) rfl))⟩)
  have E_D := Exa.start evD hn0
  obtain ⟨wn, evn⟩ := exa_v hn1
  have F_D : Fld s s.heap wD "com/example/plain_keys/plainkeys/dialect/KeyTableLayout" "nameColumn" "Ljava/lang/String;" (.ref wn) := Fld.start ((fld_at evD).symm.trans evn)
  obtain ⟨n, o, h1, h2, h3, _, L, rfl, ⟨rfl, N⟩, hq⟩ := rm_law l s _ hw tables_1 i0 i1 i2 i3 G1 wD wn s.heap s.heap.size (Nat.le_refl _) S_CS S_D E_D F_D P5 p e ha hc hk s m _ below hf ((Spec.applies_iff_loose hf).mp happ).1 ⟨rfl, State.Warmed39.refl s, rfl, hCH0⟩ trivial
  refine ⟨n, _, h1, h2, h3, hpost _ _ _ _ _ _ ⟨Cond.after_iff.mpr rfl, Cond.after_iff.mpr (eq_i res_at (Term.int_eval (1)) rfl), trivial⟩ ⟨hq.1, hq.2.1, hq.2.2.1, (hq.2.2.2.sift fun y hy => Or.inr (N y hy)).mono (by decide) (by decide)⟩⟩
theorem main_1_1 : Claimed_1_1 := comes_1 fun _ _ _ _ _ _ h hF => ⟨h.1, hF⟩
theorem main_1_2 : Claimed_1_2 := comes_1 fun _ _ _ _ _ _ h hF => ⟨h.2.1, hF⟩
end Jvm.Pilot.@@N@@
namespace Jvm.Pilot.@@N@@
open Jvm Jvm.ClassFile Sem Op Lib Jvm.Free Jvm.Stand Jvm.Pilot.@@N@@.Jvm.D
/-! MADE BY PROGRAM (witnessworld.py) out of the Statement's table words and the real class files: 21 classes; the members and pool entries that the words name. The judged class is class 1, her method 1. -/
namespace start1
open Jvm.ClassFile
def u (s : String) : CpInfo := .utf8 (stringToUtf16 s)
/-- a pool by its gaps: so many unusable entries, then the entry; so many at the end -/
def gap : Nat → List CpInfo → List CpInfo
  | 0, r => r
  | n + 1, r => .unusable :: gap n r
def poolList (es : List (Nat × CpInfo)) (last : Nat) : List CpInfo := es.foldr (fun e r => gap e.1 (e.2 :: r)) (gap last [])
def pool (es : List (Nat × CpInfo)) (last : Nat) : Array CpInfo := ⟨poolList es last⟩
def fileOf (pool : Array CpInfo) (this : Nat) (attrs : Array Attribute := #[]) (ms : Array MethodInfo := #[]) (fl : Nat := 33) (sup : Nat := 0) (ifs : Array Nat := #[]) (fds : Array FieldInfo := #[]) : ClassFile where
  minorVersion := 0
  majorVersion := 65
  constantPool := pool
  accessFlags := fl
  thisClass := this
  superClass := sup
  interfaces := ifs
  fields := fds
  methods := ms
  attributes := attrs
def plain (name : String) (sup : Option ClassId) : Class where
  name := name
  kind := .ordinary
  loader := none
  accessFlags := 33
  super := sup
  interfaces := #[]
  cf := none
  fields := #[]
  methods := #[]
  instanceTypes := #[]
  staticTypes := #[]
  resolved := #[]
  callSites := []
  init := .initialized
  statics := none
  mirror := none

def pool0 : Array CpInfo := pool [(5, u "<init>"), (0, u "()V"), (1, .class_ 10), (1, u "java/lang/Object")] 113

def k0c0 : Code := { maxStack := 0, maxLocals := 1, code := object_method_1_code, exceptionTable := #[], attributes := #[] }
def k0m0 : Method := { name := "<init>", desc := "()V", sig := { parameters := [], returnType := none }, accessFlags := 1, code := some k0c0 }
/-- java/lang/Object -/
def k0 : Class := { plain "java/lang/Object" none with
  accessFlags := 33
  interfaces := #[]
  cf := some (fileOf pool0 8 #[] #[{ accessFlags := 1, nameIndex := 5, descriptorIndex := 6, attributes := #[] }] 33 0 #[] #[])
  fields := #[]
  methods := #[k0m0]
  instanceTypes := #[]
  staticTypes := #[]
  resolved := Array.replicate 124 none
  statics := none }

def pool1 : Array CpInfo := pool [(2, .class_ 4), (1, u "java/lang/Object"), (0, u "<init>"), (0, u "()V"), (0, .class_ 8), (0, u "java/lang/String"), (0, .methodref 7 10), (0, .nameAndType 5 11), (0, u "([C)V"), (0, .methodref 7 13), (0, .nameAndType 14 15), (0, u "valueOf"), (0, u "(C)Ljava/lang/String;"), (0, .class_ 17), (0, u "com/example/plain_keys/plainkeys/dialect/KeyTableLayout"), (0, .methodref 16 19), (0, .nameAndType 5 20), (0, u "(Ljava/lang/String;Ljava/lang/String;Z)V"), (0, .methodref 16 22), (0, .nameAndType 23 24), (0, u "namesRows"), (0, u "()Z"), (0, .fieldref 16 26), (0, .nameAndType 27 28), (0, u "DEFAULT"), (0, u "Lcom/example/plain_keys/plainkeys/dialect/KeyTableLayout;"), (0, .class_ 30), (0, u "com/example/plain_keys/plainkeys/dialect/KeyTableLayoutNamesRowsPinLaw"), (2, u "law"), (0, u "(IIII)Z")] 5

def k1m0 : Method := { name := "<init>", desc := "()V", sig := { parameters := [], returnType := none }, accessFlags := 1, code := none }
def k1c1 : Code := { maxStack := 5, maxLocals := 11, code := code, exceptionTable := #[], attributes := #[] }
def k1m1 : Method := { name := "law", desc := "(IIII)Z", sig := { parameters := [.int, .int, .int, .int], returnType := some .boolean }, accessFlags := 9, code := some k1c1 }
/-- com/example/plain_keys/plainkeys/dialect/KeyTableLayoutNamesRowsPinLaw -/
def k1 : Class := { plain "com/example/plain_keys/plainkeys/dialect/KeyTableLayoutNamesRowsPinLaw" (some 0) with
  accessFlags := 49
  interfaces := #[]
  cf := some (fileOf pool1 29 #[] #[{ accessFlags := 1, nameIndex := 5, descriptorIndex := 6, attributes := #[] }, { accessFlags := 9, nameIndex := 33, descriptorIndex := 34, attributes := #[] }] 49 2 #[] #[])
  fields := #[]
  methods := #[k1m0, k1m1]
  instanceTypes := #[]
  staticTypes := #[]
  resolved := Array.replicate 40 none
  statics := none }

def pool2 : Array CpInfo := pool [(1, .class_ 2), (0, u "java/io/Serializable"), (0, .class_ 4), (0, u "java/lang/Object")] 2

/-- java/io/Serializable -/
def k2 : Class := { plain "java/io/Serializable" (some 0) with
  accessFlags := 1537
  interfaces := #[]
  cf := some (fileOf pool2 1 #[] #[] 1537 3 #[] #[])
  fields := #[]
  methods := #[]
  instanceTypes := #[]
  staticTypes := #[]
  resolved := Array.replicate 7 none
  statics := none }

def pool3 : Array CpInfo := pool [(1, .class_ 2), (0, u "java/lang/Comparable"), (0, .class_ 4), (0, u "java/lang/Object")] 7

/-- java/lang/Comparable -/
def k3 : Class := { plain "java/lang/Comparable" (some 0) with
  accessFlags := 1537
  interfaces := #[]
  cf := some (fileOf pool3 1 #[] #[] 1537 3 #[] #[])
  fields := #[]
  methods := #[]
  instanceTypes := #[]
  staticTypes := #[]
  resolved := Array.replicate 12 none
  statics := none }

def pool4 : Array CpInfo := pool [(2, .class_ 4), (1, u "java/lang/CharSequence"), (42, .class_ 48), (0, u "java/lang/CharSequence$1CodePointIterator"), (10, .class_ 60), (0, u "java/lang/CharSequence$1CharIterator"), (5, .class_ 67), (0, u "java/lang/Object")] 63

/-- java/lang/CharSequence -/
def k4 : Class := { plain "java/lang/CharSequence" (some 0) with
  accessFlags := 1537
  interfaces := #[]
  cf := some (fileOf pool4 2 #[.nestMembers #[47, 59]] #[] 1537 66 #[] #[])
  fields := #[]
  methods := #[]
  instanceTypes := #[]
  staticTypes := #[]
  resolved := Array.replicate 131 none
  statics := none }

def pool5 : Array CpInfo := pool [(1, .class_ 2), (0, u "java/lang/constant/Constable"), (0, .class_ 4), (0, u "java/lang/Object")] 6

/-- java/lang/constant/Constable -/
def k5 : Class := { plain "java/lang/constant/Constable" (some 0) with
  accessFlags := 1537
  interfaces := #[]
  cf := some (fileOf pool5 1 #[] #[] 1537 3 #[] #[])
  fields := #[]
  methods := #[]
  instanceTypes := #[]
  staticTypes := #[]
  resolved := Array.replicate 11 none
  statics := none }

def pool6 : Array CpInfo := pool [(1, .class_ 2), (0, u "java/lang/constant/ConstantDesc"), (0, .class_ 4), (0, u "java/lang/Object")] 32

/-- java/lang/constant/ConstantDesc -/
def k6 : Class := { plain "java/lang/constant/ConstantDesc" (some 0) with
  accessFlags := 1537
  interfaces := #[]
  cf := some (fileOf pool6 1 #[] #[] 1537 3 #[] #[])
  fields := #[]
  methods := #[]
  instanceTypes := #[]
  staticTypes := #[]
  resolved := Array.replicate 37 none
  statics := none }

def pool7 : Array CpInfo := pool [(1, .methodref 2 3), (0, .class_ 4), (0, .nameAndType 5 6), (0, u "java/lang/Object"), (0, u "<init>"), (0, u "()V"), (0, .string 8), (0, u ""), (0, .fieldref 10 11), (0, .class_ 12), (0, .nameAndType 13 14), (0, u "java/lang/String"), (0, u "value"), (0, u "[B"), (0, .fieldref 10 16), (0, .nameAndType 17 18), (0, u "coder"), (0, u "B"), (2, u "hash"), (0, u "I"), (2, u "hashIsZero"), (0, u "Z"), (0, .methodref 10 28), (0, .nameAndType 5 29), (0, u "([CIILjava/lang/Void;)V"), (8, .fieldref 10 39), (0, .nameAndType 40 26), (0, u "COMPACT_STRINGS"), (1, .class_ 44), (1, u "java/lang/StringUTF16"), (0, u "compress"), (1, .methodref 42 48), (0, .nameAndType 49 50), (0, u "coderFromArrayLen"), (0, u "([BI)B"), (2, u "toBytes"), (53, .class_ 109), (1, u "java/lang/StringLatin1"), (67, .methodref 42 178), (0, .nameAndType 45 179), (0, u "([CII)[B"), (29, .methodref 10 210), (0, .nameAndType 5 211), (0, u "([BB)V"), (157, u "(C)Z"), (205, .class_ 576), (0, u "java/lang/CharSequence"), (22, u "CASE_INSENSITIVE_ORDER"), (0, u "Ljava/util/Comparator;"), (181, u "valueOf"), (0, u "(C)Ljava/lang/String;"), (226, u "([C)V"), (4, .methodref 107 1016), (0, .nameAndType 1017 369), (0, u "canEncode"), (0, .methodref 107 1019), (0, .nameAndType 53 1020), (0, u "(C)[B"), (80, u "serialPersistentFields"), (0, u "[Ljava/io/ObjectStreamField;"), (0, .class_ 1104), (0, u "java/lang/String$CaseInsensitiveComparator"), (1, .class_ 1107), (0, u "java/io/Serializable"), (0, .class_ 1109), (0, u "java/lang/Comparable"), (0, .class_ 1111), (0, u "java/lang/constant/Constable"), (0, .class_ 1113), (0, u "java/lang/constant/ConstantDesc"), (2, u "serialVersionUID"), (0, u "J"), (3, u "REPL"), (0, u "C"), (2, u "LATIN1"), (1, u "UTF16")] 323

def k7m0 : Method := { name := "<init>", desc := "()V", sig := { parameters := [], returnType := none }, accessFlags := 1, code := none }
def k7c1 : Code := { maxStack := 5, maxLocals := 2, code := jdk_42_method_3_code, exceptionTable := #[], attributes := #[] }
def k7m1 : Method := { name := "<init>", desc := "([C)V", sig := { parameters := [(.array .char)], returnType := none }, accessFlags := 1, code := some k7c1 }
def k7c2 : Code := { maxStack := 4, maxLocals := 1, code := jdk_42_method_139_code, exceptionTable := #[], attributes := #[] }
def k7m2 : Method := { name := "valueOf", desc := "(C)Ljava/lang/String;", sig := { parameters := [.char], returnType := some (.object "java/lang/String") }, accessFlags := 9, code := some k7c2 }
def k7c3 : Code := { maxStack := 4, maxLocals := 6, code := jdk_42_method_149_code, exceptionTable := #[], attributes := #[] }
def k7m3 : Method := { name := "<init>", desc := "([CIILjava/lang/Void;)V", sig := { parameters := [(.array .char), .int, .int, (.object "java/lang/Void")], returnType := none }, accessFlags := 2, code := some k7c3 }
def k7c4 : Code := { maxStack := 2, maxLocals := 3, code := jdk_42_method_151_code, exceptionTable := #[], attributes := #[] }
def k7m4 : Method := { name := "<init>", desc := "([BB)V", sig := { parameters := [(.array .byte), .byte], returnType := none }, accessFlags := 0, code := some k7c4 }
/-- java/lang/String -/
def k7 : Class := { plain "java/lang/String" (some 0) with
  accessFlags := 49
  interfaces := #[2, 3, 4, 5, 6]
  cf := some (fileOf pool7 10 #[.nestMembers #[1103]] #[{ accessFlags := 1, nameIndex := 5, descriptorIndex := 6, attributes := #[] }, { accessFlags := 1, nameIndex := 5, descriptorIndex := 1010, attributes := #[] }, { accessFlags := 9, nameIndex := 782, descriptorIndex := 783, attributes := #[] }, { accessFlags := 2, nameIndex := 5, descriptorIndex := 29, attributes := #[] }, { accessFlags := 0, nameIndex := 5, descriptorIndex := 211, attributes := #[] }] 49 2 #[1106, 1108, 575, 1110, 1112] #[{ accessFlags := 18, nameIndex := 13, descriptorIndex := 14, attributes := #[] }, { accessFlags := 18, nameIndex := 17, descriptorIndex := 18, attributes := #[] }, { accessFlags := 2, nameIndex := 21, descriptorIndex := 22, attributes := #[] }, { accessFlags := 2, nameIndex := 25, descriptorIndex := 26, attributes := #[] }, { accessFlags := 26, nameIndex := 1116, descriptorIndex := 1117, attributes := #[] }, { accessFlags := 24, nameIndex := 40, descriptorIndex := 26, attributes := #[] }, { accessFlags := 26, nameIndex := 1101, descriptorIndex := 1102, attributes := #[] }, { accessFlags := 26, nameIndex := 1121, descriptorIndex := 1122, attributes := #[] }, { accessFlags := 25, nameIndex := 599, descriptorIndex := 600, attributes := #[] }, { accessFlags := 24, nameIndex := 1125, descriptorIndex := 18, attributes := #[] }, { accessFlags := 24, nameIndex := 1127, descriptorIndex := 18, attributes := #[] }])
  fields := #[{ name := "value", type := (.array .byte), accessFlags := 18, slot := 0, constantValue := 0 }, { name := "coder", type := .byte, accessFlags := 18, slot := 1, constantValue := 0 }, { name := "hash", type := .int, accessFlags := 2, slot := 2, constantValue := 0 }, { name := "hashIsZero", type := .boolean, accessFlags := 2, slot := 3, constantValue := 0 }, { name := "serialVersionUID", type := .long, accessFlags := 26, slot := 0, constantValue := 0 }, { name := "COMPACT_STRINGS", type := .boolean, accessFlags := 24, slot := 1, constantValue := 0 }, { name := "serialPersistentFields", type := (.array (.object "java/io/ObjectStreamField")), accessFlags := 26, slot := 2, constantValue := 0 }, { name := "REPL", type := .char, accessFlags := 26, slot := 3, constantValue := 0 }, { name := "CASE_INSENSITIVE_ORDER", type := (.object "java/util/Comparator"), accessFlags := 25, slot := 4, constantValue := 0 }, { name := "LATIN1", type := .byte, accessFlags := 24, slot := 5, constantValue := 0 }, { name := "UTF16", type := .byte, accessFlags := 24, slot := 6, constantValue := 0 }]
  methods := #[k7m0, k7m1, k7m2, k7m3, k7m4]
  instanceTypes := #[(.array .byte), .byte, .int, .boolean]
  staticTypes := #[.long, .boolean, (.array (.object "java/io/ObjectStreamField")), .char, (.object "java/util/Comparator"), .byte, .byte]
  resolved := Array.replicate 1451 none
  statics := some 0 }

def pool8 : Array CpInfo := pool [(4, .class_ 6), (1, u "java/lang/Object"), (0, u "<init>"), (0, u "()V"), (5, .class_ 16), (1, u "java/lang/StringLatin1"), (73, u "canEncode"), (14, u "(C)Z"), (15, u "$assertionsDisabled"), (0, u "Z"), (98, .class_ 223), (1, u "java/lang/StringLatin1$LinesSpliterator"), (156, u "toBytes"), (1, u "(C)[B"), (7, .class_ 391), (0, u "java/lang/StringLatin1$CharsSpliterator")] 3

def k8m0 : Method := { name := "<init>", desc := "()V", sig := { parameters := [], returnType := none }, accessFlags := 0, code := none }
def k8c1 : Code := { maxStack := 2, maxLocals := 1, code := jdk_43_method_3_code, exceptionTable := #[], attributes := #[] }
def k8m1 : Method := { name := "canEncode", desc := "(C)Z", sig := { parameters := [.char], returnType := some .boolean }, accessFlags := 9, code := some k8c1 }
def k8c2 : Code := { maxStack := 4, maxLocals := 1, code := jdk_43_method_46_code, exceptionTable := #[], attributes := #[] }
def k8m2 : Method := { name := "toBytes", desc := "(C)[B", sig := { parameters := [.char], returnType := some (.array .byte) }, accessFlags := 9, code := some k8c2 }
/-- java/lang/StringLatin1 -/
def k8 : Class := { plain "java/lang/StringLatin1" (some 0) with
  accessFlags := 48
  interfaces := #[]
  cf := some (fileOf pool8 14 #[.nestMembers #[390, 221]] #[{ accessFlags := 0, nameIndex := 7, descriptorIndex := 8, attributes := #[] }, { accessFlags := 9, nameIndex := 90, descriptorIndex := 105, attributes := #[] }, { accessFlags := 9, nameIndex := 380, descriptorIndex := 382, attributes := #[] }] 48 4 #[] #[{ accessFlags := 4120, nameIndex := 121, descriptorIndex := 122, attributes := #[] }])
  fields := #[{ name := "$assertionsDisabled", type := .boolean, accessFlags := 4120, slot := 0, constantValue := 0 }]
  methods := #[k8m0, k8m1, k8m2]
  instanceTypes := #[]
  staticTypes := #[.boolean]
  resolved := Array.replicate 395 none
  statics := none }

def pool9 : Array CpInfo := pool [(1, .methodref 2 3), (0, .class_ 4), (0, .nameAndType 5 6), (0, u "java/lang/Object"), (0, u "<init>"), (0, u "()V"), (0, .class_ 8), (0, u "java/lang/Record")] 13

def k9c0 : Code := { maxStack := 1, maxLocals := 1, code := jdk_30_method_1_code, exceptionTable := #[], attributes := #[] }
def k9m0 : Method := { name := "<init>", desc := "()V", sig := { parameters := [], returnType := none }, accessFlags := 4, code := some k9c0 }
/-- java/lang/Record -/
def k9 : Class := { plain "java/lang/Record" (some 0) with
  accessFlags := 1057
  interfaces := #[]
  cf := some (fileOf pool9 7 #[] #[{ accessFlags := 4, nameIndex := 5, descriptorIndex := 6, attributes := #[] }] 1057 2 #[] #[])
  fields := #[]
  methods := #[k9m0]
  instanceTypes := #[]
  staticTypes := #[]
  resolved := Array.replicate 22 none
  statics := none }

def pool10 : Array CpInfo := pool [(1, .methodref 2 3), (0, .class_ 4), (0, .nameAndType 5 6), (0, u "java/lang/Record"), (0, u "<init>"), (0, u "()V"), (0, .fieldref 8 9), (0, .class_ 10), (0, .nameAndType 11 12), (0, u "com/example/plain_keys/plainkeys/dialect/KeyTableLayout"), (0, u "nameColumn"), (0, u "Ljava/lang/String;"), (0, .fieldref 8 14), (0, .nameAndType 15 12), (0, u "valueColumn"), (0, .fieldref 8 17), (0, .nameAndType 18 19), (0, u "valueIsLastKey"), (0, u "Z"), (22, u "(Ljava/lang/String;Ljava/lang/String;Z)V"), (2, u "DEFAULT"), (0, u "Lcom/example/plain_keys/plainkeys/dialect/KeyTableLayout;"), (0, u "FIRST_KEY"), (0, u "J"), (6, u "namesRows"), (0, u "()Z")] 31

def k10c0 : Code := { maxStack := 2, maxLocals := 4, code := prog_21_method_1_code, exceptionTable := #[], attributes := #[] }
def k10m0 : Method := { name := "<init>", desc := "(Ljava/lang/String;Ljava/lang/String;Z)V", sig := { parameters := [(.object "java/lang/String"), (.object "java/lang/String"), .boolean], returnType := none }, accessFlags := 1, code := some k10c0 }
def k10c1 : Code := { maxStack := 1, maxLocals := 1, code := prog_21_method_2_code, exceptionTable := #[], attributes := #[] }
def k10m1 : Method := { name := "namesRows", desc := "()Z", sig := { parameters := [], returnType := some .boolean }, accessFlags := 1, code := some k10c1 }
/-- com/example/plain_keys/plainkeys/dialect/KeyTableLayout -/
def k10 : Class := { plain "com/example/plain_keys/plainkeys/dialect/KeyTableLayout" (some 9) with
  accessFlags := 49
  interfaces := #[]
  cf := some (fileOf pool10 8 #[] #[{ accessFlags := 1, nameIndex := 5, descriptorIndex := 42, attributes := #[] }, { accessFlags := 1, nameIndex := 55, descriptorIndex := 56, attributes := #[] }] 49 2 #[] #[{ accessFlags := 18, nameIndex := 11, descriptorIndex := 12, attributes := #[] }, { accessFlags := 18, nameIndex := 15, descriptorIndex := 12, attributes := #[] }, { accessFlags := 18, nameIndex := 18, descriptorIndex := 19, attributes := #[] }, { accessFlags := 25, nameIndex := 45, descriptorIndex := 46, attributes := #[] }, { accessFlags := 26, nameIndex := 47, descriptorIndex := 48, attributes := #[] }])
  fields := #[{ name := "nameColumn", type := (.object "java/lang/String"), accessFlags := 18, slot := 0, constantValue := 0 }, { name := "valueColumn", type := (.object "java/lang/String"), accessFlags := 18, slot := 1, constantValue := 0 }, { name := "valueIsLastKey", type := .boolean, accessFlags := 18, slot := 2, constantValue := 0 }, { name := "DEFAULT", type := (.object "com/example/plain_keys/plainkeys/dialect/KeyTableLayout"), accessFlags := 25, slot := 0, constantValue := 0 }, { name := "FIRST_KEY", type := .long, accessFlags := 26, slot := 1, constantValue := 0 }]
  methods := #[k10m0, k10m1]
  instanceTypes := #[(.object "java/lang/String"), (.object "java/lang/String"), .boolean]
  staticTypes := #[(.object "com/example/plain_keys/plainkeys/dialect/KeyTableLayout"), .long]
  resolved := Array.replicate 88 none
  statics := some 1 }

def pool11 : Array CpInfo := pool [(6, .class_ 8), (1, u "java/lang/Object"), (0, u "<init>"), (0, u "()V"), (1, .class_ 14), (1, u "java/lang/StringUTF16"), (31, u "$assertionsDisabled"), (0, u "Z"), (13, u "HI_BYTE_SHIFT"), (0, u "I"), (2, u "LO_BYTE_SHIFT"), (49, .methodref 12 116), (0, .nameAndType 117 118), (0, u "compress"), (0, u "([CI[BII)I"), (3, u "([CII)[B"), (138, u "coderFromArrayLen"), (0, u "([BI)B"), (106, .class_ 371), (1, u "java/lang/StringUTF16$LinesSpliterator"), (58, u "MAX_LENGTH"), (196, .class_ 628), (0, u "java/lang/StringUTF16$CodePointsSpliterator"), (0, .class_ 630), (0, u "java/lang/StringUTF16$CharsSpliterator")] 4

def k11m0 : Method := { name := "<init>", desc := "()V", sig := { parameters := [], returnType := none }, accessFlags := 0, code := none }
def k11c1 : Code := { maxStack := 2, maxLocals := 2, code := jdk_52_method_15_code, exceptionTable := #[], attributes := #[] }
def k11m1 : Method := { name := "coderFromArrayLen", desc := "([BI)B", sig := { parameters := [(.array .byte), .int], returnType := some .byte }, accessFlags := 8, code := some k11c1 }
def k11c2 : Code := { maxStack := 5, maxLocals := 6, code := jdk_52_method_16_code, exceptionTable := #[], attributes := #[] }
def k11m2 : Method := { name := "compress", desc := "([CII)[B", sig := { parameters := [(.array .char), .int, .int], returnType := some (.array .byte) }, accessFlags := 9, code := some k11c2 }
def k11c3 : Code := { maxStack := 3, maxLocals := 7, code := jdk_52_method_21_code, exceptionTable := #[], attributes := #[] }
def k11m3 : Method := { name := "compress", desc := "([CI[BII)I", sig := { parameters := [(.array .char), .int, (.array .byte), .int, .int], returnType := some .int }, accessFlags := 9, code := some k11c3 }
/-- java/lang/StringUTF16 -/
def k11 : Class := { plain "java/lang/StringUTF16" (some 0) with
  accessFlags := 48
  interfaces := #[]
  cf := some (fileOf pool11 12 #[.nestMembers #[627, 629, 369]] #[{ accessFlags := 0, nameIndex := 9, descriptorIndex := 10, attributes := #[] }, { accessFlags := 8, nameIndex := 261, descriptorIndex := 262, attributes := #[] }, { accessFlags := 9, nameIndex := 117, descriptorIndex := 122, attributes := #[] }, { accessFlags := 9, nameIndex := 117, descriptorIndex := 118, attributes := #[] }] 48 6 #[] #[{ accessFlags := 26, nameIndex := 61, descriptorIndex := 62, attributes := #[] }, { accessFlags := 26, nameIndex := 65, descriptorIndex := 62, attributes := #[] }, { accessFlags := 24, nameIndex := 430, descriptorIndex := 62, attributes := #[] }, { accessFlags := 4120, nameIndex := 46, descriptorIndex := 47, attributes := #[] }])
  fields := #[{ name := "HI_BYTE_SHIFT", type := .int, accessFlags := 26, slot := 0, constantValue := 0 }, { name := "LO_BYTE_SHIFT", type := .int, accessFlags := 26, slot := 1, constantValue := 0 }, { name := "MAX_LENGTH", type := .int, accessFlags := 24, slot := 2, constantValue := 0 }, { name := "$assertionsDisabled", type := .boolean, accessFlags := 4120, slot := 3, constantValue := 0 }]
  methods := #[k11m0, k11m1, k11m2, k11m3]
  instanceTypes := #[]
  staticTypes := #[.int, .int, .int, .boolean]
  resolved := Array.replicate 635 none
  statics := none }

def pool12 : Array CpInfo := pool [(2, .class_ 4), (1, u "java/lang/Object"), (0, u "<init>"), (0, u "()V"), (17, .class_ 26), (1, u "jdk/internal/util/Preconditions"), (28, .class_ 56), (0, u "jdk/internal/util/Preconditions$4"), (57, .class_ 115), (0, u "jdk/internal/util/Preconditions$1"), (7, u "SIOOBE_FORMATTER"), (0, u "Ljava/util/function/BiFunction;"), (0, .class_ 126), (0, u "jdk/internal/util/Preconditions$2"), (3, u "AIOOBE_FORMATTER"), (0, .class_ 132), (0, u "jdk/internal/util/Preconditions$3"), (3, u "IOOBE_FORMATTER")] 57

def k12m0 : Method := { name := "<init>", desc := "()V", sig := { parameters := [], returnType := none }, accessFlags := 1, code := none }
/-- jdk/internal/util/Preconditions -/
def k12 : Class := { plain "jdk/internal/util/Preconditions" (some 0) with
  accessFlags := 33
  interfaces := #[]
  cf := some (fileOf pool12 24 #[.nestMembers #[55, 131, 125, 114]] #[{ accessFlags := 1, nameIndex := 5, descriptorIndex := 6, attributes := #[] }] 33 2 #[] #[{ accessFlags := 25, nameIndex := 123, descriptorIndex := 124, attributes := #[] }, { accessFlags := 25, nameIndex := 130, descriptorIndex := 124, attributes := #[] }, { accessFlags := 25, nameIndex := 136, descriptorIndex := 124, attributes := #[] }])
  fields := #[{ name := "SIOOBE_FORMATTER", type := (.object "java/util/function/BiFunction"), accessFlags := 25, slot := 0, constantValue := 0 }, { name := "AIOOBE_FORMATTER", type := (.object "java/util/function/BiFunction"), accessFlags := 25, slot := 1, constantValue := 0 }, { name := "IOOBE_FORMATTER", type := (.object "java/util/function/BiFunction"), accessFlags := 25, slot := 2, constantValue := 0 }]
  methods := #[k12m0]
  instanceTypes := #[]
  staticTypes := #[(.object "java/util/function/BiFunction"), (.object "java/util/function/BiFunction"), (.object "java/util/function/BiFunction")]
  resolved := Array.replicate 194 none
  statics := some 2 }

def pool13 : Array CpInfo := pool [(9, u "<init>"), (6, .class_ 18), (1, u "java/lang/Object"), (0, u "()V"), (1, .class_ 23), (1, u "jdk/internal/util/ArraysSupport"), (0, u "LOG2_ARRAY_LONG_INDEX_SCALE"), (0, u "I"), (2, u "U"), (0, u "Ljdk/internal/misc/Unsafe;"), (8, u "BIG_ENDIAN"), (0, u "Z"), (8, u "LOG2_BYTE_BIT_SIZE"), (4, u "LOG2_ARRAY_INT_INDEX_SCALE"), (54, u "JLA"), (0, u "Ljdk/internal/access/JavaLangAccess;"), (11, u "LOG2_ARRAY_BOOLEAN_INDEX_SCALE"), (9, u "LOG2_ARRAY_BYTE_INDEX_SCALE"), (5, u "LOG2_ARRAY_CHAR_INDEX_SCALE"), (5, u "LOG2_ARRAY_SHORT_INDEX_SCALE"), (18, u "LOG2_ARRAY_FLOAT_INDEX_SCALE"), (24, u "LOG2_ARRAY_DOUBLE_INDEX_SCALE"), (89, u "T_BOOLEAN"), (2, u "T_CHAR"), (1, u "T_FLOAT"), (1, u "T_DOUBLE"), (1, u "T_BYTE"), (1, u "T_SHORT"), (1, u "T_INT"), (1, u "T_LONG"), (1, u "SOFT_MAX_ARRAY_LENGTH")] 83

def k13m0 : Method := { name := "<init>", desc := "()V", sig := { parameters := [], returnType := none }, accessFlags := 2, code := none }
/-- jdk/internal/util/ArraysSupport -/
def k13 : Class := { plain "jdk/internal/util/ArraysSupport" (some 0) with
  accessFlags := 33
  interfaces := #[]
  cf := some (fileOf pool13 21 #[] #[{ accessFlags := 2, nameIndex := 9, descriptorIndex := 19, attributes := #[] }] 33 16 #[] #[{ accessFlags := 24, nameIndex := 28, descriptorIndex := 29, attributes := #[] }, { accessFlags := 26, nameIndex := 38, descriptorIndex := 39, attributes := #[] }, { accessFlags := 25, nameIndex := 121, descriptorIndex := 25, attributes := #[] }, { accessFlags := 25, nameIndex := 131, descriptorIndex := 25, attributes := #[] }, { accessFlags := 25, nameIndex := 137, descriptorIndex := 25, attributes := #[] }, { accessFlags := 25, nameIndex := 143, descriptorIndex := 25, attributes := #[] }, { accessFlags := 25, nameIndex := 53, descriptorIndex := 25, attributes := #[] }, { accessFlags := 25, nameIndex := 24, descriptorIndex := 25, attributes := #[] }, { accessFlags := 25, nameIndex := 162, descriptorIndex := 25, attributes := #[] }, { accessFlags := 25, nameIndex := 187, descriptorIndex := 25, attributes := #[] }, { accessFlags := 26, nameIndex := 48, descriptorIndex := 25, attributes := #[] }, { accessFlags := 25, nameIndex := 277, descriptorIndex := 25, attributes := #[] }, { accessFlags := 25, nameIndex := 280, descriptorIndex := 25, attributes := #[] }, { accessFlags := 25, nameIndex := 282, descriptorIndex := 25, attributes := #[] }, { accessFlags := 25, nameIndex := 284, descriptorIndex := 25, attributes := #[] }, { accessFlags := 25, nameIndex := 286, descriptorIndex := 25, attributes := #[] }, { accessFlags := 25, nameIndex := 288, descriptorIndex := 25, attributes := #[] }, { accessFlags := 25, nameIndex := 290, descriptorIndex := 25, attributes := #[] }, { accessFlags := 25, nameIndex := 292, descriptorIndex := 25, attributes := #[] }, { accessFlags := 26, nameIndex := 108, descriptorIndex := 109, attributes := #[] }, { accessFlags := 25, nameIndex := 294, descriptorIndex := 25, attributes := #[] }])
  fields := #[{ name := "U", type := (.object "jdk/internal/misc/Unsafe"), accessFlags := 24, slot := 0, constantValue := 0 }, { name := "BIG_ENDIAN", type := .boolean, accessFlags := 26, slot := 1, constantValue := 0 }, { name := "LOG2_ARRAY_BOOLEAN_INDEX_SCALE", type := .int, accessFlags := 25, slot := 2, constantValue := 0 }, { name := "LOG2_ARRAY_BYTE_INDEX_SCALE", type := .int, accessFlags := 25, slot := 3, constantValue := 0 }, { name := "LOG2_ARRAY_CHAR_INDEX_SCALE", type := .int, accessFlags := 25, slot := 4, constantValue := 0 }, { name := "LOG2_ARRAY_SHORT_INDEX_SCALE", type := .int, accessFlags := 25, slot := 5, constantValue := 0 }, { name := "LOG2_ARRAY_INT_INDEX_SCALE", type := .int, accessFlags := 25, slot := 6, constantValue := 0 }, { name := "LOG2_ARRAY_LONG_INDEX_SCALE", type := .int, accessFlags := 25, slot := 7, constantValue := 0 }, { name := "LOG2_ARRAY_FLOAT_INDEX_SCALE", type := .int, accessFlags := 25, slot := 8, constantValue := 0 }, { name := "LOG2_ARRAY_DOUBLE_INDEX_SCALE", type := .int, accessFlags := 25, slot := 9, constantValue := 0 }, { name := "LOG2_BYTE_BIT_SIZE", type := .int, accessFlags := 26, slot := 10, constantValue := 0 }, { name := "T_BOOLEAN", type := .int, accessFlags := 25, slot := 11, constantValue := 0 }, { name := "T_CHAR", type := .int, accessFlags := 25, slot := 12, constantValue := 0 }, { name := "T_FLOAT", type := .int, accessFlags := 25, slot := 13, constantValue := 0 }, { name := "T_DOUBLE", type := .int, accessFlags := 25, slot := 14, constantValue := 0 }, { name := "T_BYTE", type := .int, accessFlags := 25, slot := 15, constantValue := 0 }, { name := "T_SHORT", type := .int, accessFlags := 25, slot := 16, constantValue := 0 }, { name := "T_INT", type := .int, accessFlags := 25, slot := 17, constantValue := 0 }, { name := "T_LONG", type := .int, accessFlags := 25, slot := 18, constantValue := 0 }, { name := "JLA", type := (.object "jdk/internal/access/JavaLangAccess"), accessFlags := 26, slot := 19, constantValue := 0 }, { name := "SOFT_MAX_ARRAY_LENGTH", type := .int, accessFlags := 25, slot := 20, constantValue := 0 }]
  methods := #[k13m0]
  instanceTypes := #[]
  staticTypes := #[(.object "jdk/internal/misc/Unsafe"), .boolean, .int, .int, .int, .int, .int, .int, .int, .int, .int, .int, .int, .int, .int, .int, .int, .int, .int, (.object "jdk/internal/access/JavaLangAccess"), .int]
  resolved := Array.replicate 378 none
  statics := none }

def pool14 : Array CpInfo := pool [(1, u "java/lang/Cloneable"), (0, .class_ 1), (0, u "java/lang/Object"), (0, .class_ 3)] 3

/-- java/lang/Cloneable -/
def k14 : Class := { plain "java/lang/Cloneable" (some 0) with
  accessFlags := 1537
  interfaces := #[]
  cf := some (fileOf pool14 2 #[] #[] 1537 4 #[] #[])
  fields := #[]
  methods := #[]
  instanceTypes := #[]
  staticTypes := #[]
  resolved := Array.replicate 8 none
  statics := none }

/-- the primitive byte -/
def k15 : Class := { plain "byte" none with kind := .primitive 'B', accessFlags := 0x411 }
/-- [B -/
def k16 : Class := { plain "[B" (some 0) with kind := .array 15 .byte, interfaces := #[14, 2], accessFlags := 1041 }

/-- the primitive char -/
def k17 : Class := { plain "char" none with kind := .primitive 'C', accessFlags := 0x411 }
/-- [C -/
def k18 : Class := { plain "[C" (some 0) with kind := .array 17 .char, interfaces := #[14, 2], accessFlags := 1041 }

/-- the primitive int -/
def k19 : Class := { plain "int" none with kind := .primitive 'I', accessFlags := 0x411 }
/-- [I -/
def k20 : Class := { plain "[I" (some 0) with kind := .array 19 .int, interfaces := #[14, 2], accessFlags := 1041 }

def heap : Heap := #[{ cls := 7, slots := #[.long 0, .int 1, .null, .int 0, .null, .int 0, .int 0], vm := .statics 7 },
  { cls := 10, slots := #[.ref 4, .long 0], vm := .statics 10 },
  { cls := 12, slots := #[.null, .null, .null], vm := .statics 12 },
  { cls := 7, slots := #[.null, .int 0, .int 0, .int 0], vm := .none },
  { cls := 10, slots := #[.ref 3, .null, .int 0], vm := .none }]
def classes : Array Class := #[k0, k1, k2, k3, k4, k5, k6, k7, k8, k9, k10, k11, k12, k13, k14, k15, k16, k17, k18, k19, k20]
def interned : List (Array UInt16 × Addr) := []
def slotsUsed : Nat := 19
def theMethod : MethodId := ⟨1, 1⟩
def args0 : Array Value := #[.int 3, .int 65, .int 66, .int 7]
def aboutOver (below : List Frame) : State where
  vm := { classes := classes, interned := interned.toArray }
  heap := heap
  slotsUsed := slotsUsed
  threads := #[{ frames := .invoking theMethod args0 :: below }]
def below0 : List Frame := [.native { method := ⟨0, 0⟩, args := #[] }]
def about1 : State := aboutOver below0
def p0 : Program := .bare "" "" ""
def e0 : Env := launch0.env 0 0 0
theorem w_frames : about1.frames = Frame.invoking theMethod args0 :: below0 := rfl
set_option maxRecDepth 65536 in
theorem w_args : argsFit about1.vm theMethod args0 = true := by decide +kernel
set_option maxRecDepth 65536 in
theorem w_heap : heapFits about1 = true := by decide +kernel
set_option maxRecDepth 65536 in
theorem w_runnable : about1.curStatus? = some .runnable := by decide +kernel
set_option maxRecDepth 65536 in
theorem w_alone : about1.alone = true := by decide +kernel
set_option maxRecDepth 65536 in
theorem w_named : about1.methodNamed? x = some theMethod := by decide +kernel
set_option maxRecDepth 65536 in
theorem w_hears : about1.hears theMethod below0 = true := by decide +kernel
set_option maxRecDepth 65536 in
theorem w_ripe : about1.ripe theMethod args0 below0 = true := by decide +kernel
theorem w_running : about1.status = .running := rfl
set_option maxRecDepth 65536 in
theorem w_room : about1.hasRoom e0.platform room_1 = true :=
  launch0.hasRoom_least _ room_1 (by decide +kernel) (by decide +kernel) (by decide +kernel) (by decide +kernel) (by decide +kernel) (by decide +kernel)
theorem allAtoms_all (ts : List Jvm.Cond) (a : Array Jvm.Value) (st : Jvm.State) : (allAtoms ts).before a st = ts.all (fun c => c.before a st) := by
  induction ts with
  | nil => rfl
  | cons c t ih =>
    show (Jvm.Cond.and c (allAtoms t)).before a st = _
    rw [Jvm.Cond.before_and, ih, List.all_cons]
def words1 : List Jvm.Cond := Jvm.Cond.code x code maxLocals ret :: tables_1
/-- a 'code' word, met by the world's own term for the bytes: nothing is compared byte by byte -/
theorem code_word {y : MethodName} {bytes : ByteArray} {mx : Nat} {rt : Option FieldType} {a : Array Value} {s : State} {m : MethodId} {meth : Method} {c : Code} (h1 : s.methodNamed? y = some m) (h2 : s.vm.method? m = some meth) (h3 : meth.code = some c) (h4 : c.code = bytes)
    (h5 : (c.maxLocals == mx && c.exceptionTable.isEmpty && decide (c.maxStack ≤ mostOperands) && decide (meth.sig.returnType = rt) && !meth.locks && decide (parseMethodDescriptor y.desc = some meth.sig)) = true) : (Jvm.Cond.code y bytes mx rt).before a s = true := by
  simp only [Bool.and_eq_true, beq_iff_eq, Bool.not_eq_true', decide_eq_true_eq] at h5
  obtain ⟨⟨⟨⟨⟨g1, g2⟩, g3⟩, g4⟩, g5⟩, g6⟩ := h5
  simp [Cond.before, Cond.holds, Cond.value, h1, h2, h3, h4, g1, g2, g3, g4, g5, g6]
def isCode : Jvm.Cond → Bool
  | .code _ _ _ _ => true
  | _ => false
theorem all_split {L : List Jvm.Cond} {P : Jvm.Cond → Bool} (h1 : L.all (fun c => isCode c || P c) = true) (h2 : ∀ c ∈ L.filter isCode, P c = true) : L.all P = true := by
  refine List.all_eq_true.mpr fun c hc => ?_
  have h := List.all_eq_true.mp h1 c hc
  rcases Bool.eq_false_or_eq_true (isCode c) with hi | hi
  · exact h2 c (List.mem_filter.mpr ⟨hc, hi⟩)
  · simpa [hi] using h
set_option maxRecDepth 65536 in
theorem w_c0 : (Jvm.Cond.code x code maxLocals ret).before args0 about1 = true := code_word (m := ⟨1, 1⟩) (meth := k1m1) (c := k1c1) (by decide +kernel) rfl rfl rfl (by decide +kernel)
set_option maxRecDepth 65536 in
theorem w_c1 : (Jvm.Cond.code ({ cls := "java/lang/String", name := "valueOf", desc := "(C)Ljava/lang/String;" } : Jvm.MethodName) jdk_42_method_139_code (1 : Nat) (Option.some (Jvm.ClassFile.FieldType.object "java/lang/String"))).before args0 about1 = true := code_word (m := ⟨7, 2⟩) (meth := k7m2) (c := k7c2) (by decide +kernel) rfl rfl rfl (by decide +kernel)
set_option maxRecDepth 65536 in
theorem w_c2 : (Jvm.Cond.code ({ cls := "java/lang/StringLatin1", name := "canEncode", desc := "(C)Z" } : Jvm.MethodName) jdk_43_method_3_code (1 : Nat) (Option.some Jvm.ClassFile.FieldType.boolean)).before args0 about1 = true := code_word (m := ⟨8, 1⟩) (meth := k8m1) (c := k8c1) (by decide +kernel) rfl rfl rfl (by decide +kernel)
set_option maxRecDepth 65536 in
theorem w_c3 : (Jvm.Cond.code ({ cls := "java/lang/StringLatin1", name := "toBytes", desc := "(C)[B" } : Jvm.MethodName) jdk_43_method_46_code (1 : Nat) (Option.some (Jvm.ClassFile.FieldType.array Jvm.ClassFile.FieldType.byte))).before args0 about1 = true := code_word (m := ⟨8, 2⟩) (meth := k8m2) (c := k8c2) (by decide +kernel) rfl rfl rfl (by decide +kernel)
set_option maxRecDepth 65536 in
theorem w_c4 : (Jvm.Cond.code ({ cls := "java/lang/String", name := "<init>", desc := "([BB)V" } : Jvm.MethodName) jdk_42_method_151_code (3 : Nat) (Option.none : Option Jvm.ClassFile.FieldType)).before args0 about1 = true := code_word (m := ⟨7, 4⟩) (meth := k7m4) (c := k7c4) (by decide +kernel) rfl rfl rfl (by decide +kernel)
set_option maxRecDepth 65536 in
theorem w_c5 : (Jvm.Cond.code ({ cls := "java/lang/Object", name := "<init>", desc := "()V" } : Jvm.MethodName) object_method_1_code (1 : Nat) (Option.none : Option Jvm.ClassFile.FieldType)).before args0 about1 = true := code_word (m := ⟨0, 0⟩) (meth := k0m0) (c := k0c0) (by decide +kernel) rfl rfl rfl (by decide +kernel)
set_option maxRecDepth 65536 in
theorem w_c6 : (Jvm.Cond.code ({ cls := "com/example/plain_keys/plainkeys/dialect/KeyTableLayout", name := "<init>", desc := "(Ljava/lang/String;Ljava/lang/String;Z)V" } : Jvm.MethodName) prog_21_method_1_code (4 : Nat) (Option.none : Option Jvm.ClassFile.FieldType)).before args0 about1 = true := code_word (m := ⟨10, 0⟩) (meth := k10m0) (c := k10c0) (by decide +kernel) rfl rfl rfl (by decide +kernel)
set_option maxRecDepth 65536 in
theorem w_c7 : (Jvm.Cond.code ({ cls := "java/lang/Record", name := "<init>", desc := "()V" } : Jvm.MethodName) jdk_30_method_1_code (1 : Nat) (Option.none : Option Jvm.ClassFile.FieldType)).before args0 about1 = true := code_word (m := ⟨9, 0⟩) (meth := k9m0) (c := k9c0) (by decide +kernel) rfl rfl rfl (by decide +kernel)
set_option maxRecDepth 65536 in
theorem w_c8 : (Jvm.Cond.code ({ cls := "com/example/plain_keys/plainkeys/dialect/KeyTableLayout", name := "namesRows", desc := "()Z" } : Jvm.MethodName) prog_21_method_2_code (1 : Nat) (Option.some Jvm.ClassFile.FieldType.boolean)).before args0 about1 = true := code_word (m := ⟨10, 1⟩) (meth := k10m1) (c := k10c1) (by decide +kernel) rfl rfl rfl (by decide +kernel)
set_option maxRecDepth 65536 in
theorem w_c9 : (Jvm.Cond.code ({ cls := "java/lang/String", name := "<init>", desc := "([C)V" } : Jvm.MethodName) jdk_42_method_3_code (2 : Nat) (Option.none : Option Jvm.ClassFile.FieldType)).before args0 about1 = true := code_word (m := ⟨7, 1⟩) (meth := k7m1) (c := k7c1) (by decide +kernel) rfl rfl rfl (by decide +kernel)
set_option maxRecDepth 65536 in
theorem w_c10 : (Jvm.Cond.code ({ cls := "java/lang/String", name := "<init>", desc := "([CIILjava/lang/Void;)V" } : Jvm.MethodName) jdk_42_method_149_code (6 : Nat) (Option.none : Option Jvm.ClassFile.FieldType)).before args0 about1 = true := code_word (m := ⟨7, 3⟩) (meth := k7m3) (c := k7c3) (by decide +kernel) rfl rfl rfl (by decide +kernel)
set_option maxRecDepth 65536 in
theorem w_c11 : (Jvm.Cond.code ({ cls := "java/lang/StringUTF16", name := "compress", desc := "([CII)[B" } : Jvm.MethodName) jdk_52_method_16_code (6 : Nat) (Option.some (Jvm.ClassFile.FieldType.array Jvm.ClassFile.FieldType.byte))).before args0 about1 = true := code_word (m := ⟨11, 2⟩) (meth := k11m2) (c := k11c2) (by decide +kernel) rfl rfl rfl (by decide +kernel)
set_option maxRecDepth 65536 in
theorem w_c12 : (Jvm.Cond.code ({ cls := "java/lang/StringUTF16", name := "compress", desc := "([CI[BII)I" } : Jvm.MethodName) jdk_52_method_21_code (7 : Nat) (Option.some Jvm.ClassFile.FieldType.int)).before args0 about1 = true := code_word (m := ⟨11, 3⟩) (meth := k11m3) (c := k11c3) (by decide +kernel) rfl rfl rfl (by decide +kernel)
set_option maxRecDepth 65536 in
theorem w_c13 : (Jvm.Cond.code ({ cls := "java/lang/StringUTF16", name := "coderFromArrayLen", desc := "([BI)B" } : Jvm.MethodName) jdk_52_method_15_code (2 : Nat) (Option.some Jvm.ClassFile.FieldType.byte)).before args0 about1 = true := code_word (m := ⟨11, 1⟩) (meth := k11m1) (c := k11c1) (by decide +kernel) rfl rfl rfl (by decide +kernel)
def codes1 : List Jvm.Cond := [Jvm.Cond.code x code maxLocals ret, Jvm.Cond.code ({ cls := "java/lang/String", name := "valueOf", desc := "(C)Ljava/lang/String;" } : Jvm.MethodName) jdk_42_method_139_code (1 : Nat) (Option.some (Jvm.ClassFile.FieldType.object "java/lang/String")), Jvm.Cond.code ({ cls := "java/lang/StringLatin1", name := "canEncode", desc := "(C)Z" } : Jvm.MethodName) jdk_43_method_3_code (1 : Nat) (Option.some Jvm.ClassFile.FieldType.boolean), Jvm.Cond.code ({ cls := "java/lang/StringLatin1", name := "toBytes", desc := "(C)[B" } : Jvm.MethodName) jdk_43_method_46_code (1 : Nat) (Option.some (Jvm.ClassFile.FieldType.array Jvm.ClassFile.FieldType.byte)), Jvm.Cond.code ({ cls := "java/lang/String", name := "<init>", desc := "([BB)V" } : Jvm.MethodName) jdk_42_method_151_code (3 : Nat) (Option.none : Option Jvm.ClassFile.FieldType), Jvm.Cond.code ({ cls := "java/lang/Object", name := "<init>", desc := "()V" } : Jvm.MethodName) object_method_1_code (1 : Nat) (Option.none : Option Jvm.ClassFile.FieldType), Jvm.Cond.code ({ cls := "com/example/plain_keys/plainkeys/dialect/KeyTableLayout", name := "<init>", desc := "(Ljava/lang/String;Ljava/lang/String;Z)V" } : Jvm.MethodName) prog_21_method_1_code (4 : Nat) (Option.none : Option Jvm.ClassFile.FieldType), Jvm.Cond.code ({ cls := "java/lang/Record", name := "<init>", desc := "()V" } : Jvm.MethodName) jdk_30_method_1_code (1 : Nat) (Option.none : Option Jvm.ClassFile.FieldType), Jvm.Cond.code ({ cls := "com/example/plain_keys/plainkeys/dialect/KeyTableLayout", name := "namesRows", desc := "()Z" } : Jvm.MethodName) prog_21_method_2_code (1 : Nat) (Option.some Jvm.ClassFile.FieldType.boolean), Jvm.Cond.code ({ cls := "java/lang/String", name := "<init>", desc := "([C)V" } : Jvm.MethodName) jdk_42_method_3_code (2 : Nat) (Option.none : Option Jvm.ClassFile.FieldType), Jvm.Cond.code ({ cls := "java/lang/String", name := "<init>", desc := "([CIILjava/lang/Void;)V" } : Jvm.MethodName) jdk_42_method_149_code (6 : Nat) (Option.none : Option Jvm.ClassFile.FieldType), Jvm.Cond.code ({ cls := "java/lang/StringUTF16", name := "compress", desc := "([CII)[B" } : Jvm.MethodName) jdk_52_method_16_code (6 : Nat) (Option.some (Jvm.ClassFile.FieldType.array Jvm.ClassFile.FieldType.byte)), Jvm.Cond.code ({ cls := "java/lang/StringUTF16", name := "compress", desc := "([CI[BII)I" } : Jvm.MethodName) jdk_52_method_21_code (7 : Nat) (Option.some Jvm.ClassFile.FieldType.int), Jvm.Cond.code ({ cls := "java/lang/StringUTF16", name := "coderFromArrayLen", desc := "([BI)B" } : Jvm.MethodName) jdk_52_method_15_code (2 : Nat) (Option.some Jvm.ClassFile.FieldType.byte)]
set_option maxRecDepth 65536 in
theorem codes_eq : words1.filter isCode = codes1 := rfl
theorem w_codes : ∀ c ∈ words1.filter isCode, c.before args0 about1 = true := by
  rw [codes_eq]
  intro c hc
  simp only [codes1, List.mem_cons, List.not_mem_nil, or_false] at hc
  rcases hc with rfl | rfl | rfl | rfl | rfl | rfl | rfl | rfl | rfl | rfl | rfl | rfl | rfl | rfl
  · exact w_c0
  · exact w_c1
  · exact w_c2
  · exact w_c3
  · exact w_c4
  · exact w_c5
  · exact w_c6
  · exact w_c7
  · exact w_c8
  · exact w_c9
  · exact w_c10
  · exact w_c11
  · exact w_c12
  · exact w_c13
set_option maxRecDepth 65536 in
theorem w_t1 : (words1.take 24).all (fun c => isCode c || c.before args0 about1) = true := by decide +kernel
set_option maxRecDepth 65536 in
theorem w_t2 : ((words1.drop 24).take 24).all (fun c => isCode c || c.before args0 about1) = true := by decide +kernel
set_option maxRecDepth 65536 in
theorem w_t3 : (((words1.drop 24).drop 24).take 24).all (fun c => isCode c || c.before args0 about1) = true := by decide +kernel
set_option maxRecDepth 65536 in
theorem w_t4 : (((words1.drop 24).drop 24).drop 24).all (fun c => isCode c || c.before args0 about1) = true := by decide +kernel
theorem w_tables : (allAtoms (Jvm.Cond.code x code maxLocals ret :: tables_1)).before args0 about1 = true := by
  rw [allAtoms_all]
  show words1.all (fun c => c.before args0 about1) = true
  refine all_split ?_ w_codes
  rw [← List.take_append_drop 24 words1, List.all_append, w_t1, ← List.take_append_drop 24 (words1.drop 24), List.all_append, w_t2, ← List.take_append_drop 24 ((words1.drop 24).drop 24), List.all_append, w_t3, w_t4]
  rfl
set_option maxRecDepth 65536 in
theorem w_rest : rest_1_c.before args0 about1 = true := by decide +kernel
set_option maxRecDepth 65536 in
theorem w_case : (Jvm.Cond.and given_1 narrow_1).before args0 about1 = true := by decide +kernel
set_option maxRecDepth 65536 in
theorem w_consts : constsHeld consts_1 about1 := Jvm.Lit.constsHeldB_iff.mp (by decide +kernel)
theorem w_applies : (headSpec (Jvm.Cond.code x code maxLocals ret :: tables_1) room_1).applies x e0.platform about1 = true :=
  (Spec.applies_iff w_frames).mpr ⟨w_running, w_runnable, w_alone, w_named, w_hears, w_ripe, w_room, w_tables⟩
theorem atStart : AtStart classFile x code maxLocals ret World_1 tables_1 room_1 Calls_1 rest_1 Pre_1 launch0 p0 e0 about1 theMethod args0 below0 :=
  ⟨lists_1, trivial, launch0.admits_env _ _ _, launch0.least_env, fairChoices_fair.cas, fairChoices_fair.clock, w_frames, w_args, w_heap, w_applies, ⟨w_consts, trivial⟩, w_rest, w_case⟩
end start1
theorem witness_1 : WitnessClaimed_1 := ⟨start1.p0, start1.e0, start1.about1, start1.theMethod, start1.args0, start1.below0, start1.atStart⟩
end Jvm.Pilot.@@N@@
