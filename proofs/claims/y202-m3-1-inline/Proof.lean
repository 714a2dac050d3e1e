import JvmDerived
import JvmDerived.Pilot.@@N@@Statement
import JvmDerived.Pilot.@@N@@Code
set_option linter.unusedVariables false
set_option linter.unusedSimpArgs false
namespace Jvm.RoadKit
open Sem ClassFile Op Lib Jvm.Stand Jvm.Free Jvm.LawKit
abbrev Go (tb : Tables) (e : Env) (below : List Frame) (A B : State) : Prop := ∀ t, Steps tb e below B t → Steps tb e below A t
theorem goT {tb : Tables} {e : Env} {below : List Frame} {A B C : State} (f : Go tb e below A B) (g : Go tb e below B C) : Go tb e below A C := fun t h => f t (g t h)
section New
variable {p : Program} {l : Launch} {e : Env} {R : Room} {s : State} {m : MethodId} {args : Array Value} {below : List Frame} {meth : Method} {c : Code} {T : State} {locs : List Loc} {cells slots : Nat}
theorem retI (X : Stand p l e R s m args below meth c T locs cells slots) (hx : p.tables.exec = Jvm.exec) {pc : Nat} {Ls : Array Slot} {z : Int32} {rest : List Value} (hret : meth.sig.returnType = some .int) (hd : decode c.code pc = .ok (.ireturn, 1)) {fs : List Frame}
    (hl : ∀ (f : JFrame) (acts : List Action), f.method = m → f.locked = none → f.entered = [] → (doReturn e (T.setTop f) acts (some (.int z))).1 = T.setFrames fs) : Steps p.tables e below (T.setTop (mkF m pc Ls (.int z :: rest))) (T.setFrames fs) := by
  have hm' : T.vm.method? m = some meth := X.method'
  have hn : narrow .int (.int z) = .int z := rfl
  jvm_step X.here [X.here.top, hx, hd, hm', hret, hn]
  first | (intro acts; rw [hl _ acts rfl rfl rfl]) | rw [hl _ _ rfl rfl rfl]
  exact Steps.refl _
theorem retJ (X : Stand p l e R s m args below meth c T locs cells slots) (hx : p.tables.exec = Jvm.exec) {pc : Nat} {Ls : Array Slot} {z : Int64} {rest : List Value} (hret : meth.sig.returnType = some .long) (hd : decode c.code pc = .ok (.lreturn, 1)) {fs : List Frame}
    (hl : ∀ (f : JFrame) (acts : List Action), f.method = m → f.locked = none → f.entered = [] → (doReturn e (T.setTop f) acts (some (.long z))).1 = T.setFrames fs) : Steps p.tables e below (T.setTop (mkF m pc Ls (.long z :: rest))) (T.setFrames fs) := by
  have hm' : T.vm.method? m = some meth := X.method'
  have hn : narrow .long (.long z) = .long z := rfl
  jvm_step X.here [X.here.top, hx, hd, hm', hret, hn]
  first | (intro acts; rw [hl _ acts rfl rfl rfl]) | rw [hl _ _ rfl rfl rfl]
  exact Steps.refl _
theorem retD (X : Stand p l e R s m args below meth c T locs cells slots) (hx : p.tables.exec = Jvm.exec) {pc : Nat} {Ls : Array Slot} {z : UInt64} {rest : List Value} (hret : meth.sig.returnType = some .double) (hd : decode c.code pc = .ok (.dreturn, 1)) {fs : List Frame}
    (hl : ∀ (f : JFrame) (acts : List Action), f.method = m → f.locked = none → f.entered = [] → (doReturn e (T.setTop f) acts (some (.double z))).1 = T.setFrames fs) : Steps p.tables e below (T.setTop (mkF m pc Ls (.double z :: rest))) (T.setFrames fs) := by
  have hm' : T.vm.method? m = some meth := X.method'
  have hn : narrow .double (.double z) = .double z := rfl
  jvm_step X.here [X.here.top, hx, hd, hm', hret, hn]
  first | (intro acts; rw [hl _ acts rfl rfl rfl]) | rw [hl _ _ rfl rfl rfl]
  exact Steps.refl _
theorem retR (X : Stand p l e R s m args below meth c T locs cells slots) (hx : p.tables.exec = Jvm.exec) {pc : Nat} {Ls : Array Slot} {z : Addr} {rest : List Value} {C : String} (hret : meth.sig.returnType = some (.object C)) (hd : decode c.code pc = .ok (.areturn, 1)) {fs : List Frame}
    (hl : ∀ (f : JFrame) (acts : List Action), f.method = m → f.locked = none → f.entered = [] → (doReturn e (T.setTop f) acts (some (.ref z))).1 = T.setFrames fs) : Steps p.tables e below (T.setTop (mkF m pc Ls (.ref z :: rest))) (T.setFrames fs) := by
  have hm' : T.vm.method? m = some meth := X.method'
  jvm_step X.here [X.here.top, hx, hd, hm', hret, Value.isRef, FieldType.isReference]
  first | (intro acts; rw [hl _ acts rfl rfl rfl]) | rw [hl _ _ rfl rfl rfl]
  exact Steps.refl _
theorem retA (X : Stand p l e R s m args below meth c T locs cells slots) (hx : p.tables.exec = Jvm.exec) {pc : Nat} {Ls : Array Slot} {z : Addr} {rest : List Value} {ty : FieldType} (hret : meth.sig.returnType = some (.array ty)) (hd : decode c.code pc = .ok (.areturn, 1)) {fs : List Frame}
    (hl : ∀ (f : JFrame) (acts : List Action), f.method = m → f.locked = none → f.entered = [] → (doReturn e (T.setTop f) acts (some (.ref z))).1 = T.setFrames fs) : Steps p.tables e below (T.setTop (mkF m pc Ls (.ref z :: rest))) (T.setFrames fs) := by
  have hm' : T.vm.method? m = some meth := X.method'
  jvm_step X.here [X.here.top, hx, hd, hm', hret, Value.isRef, FieldType.isReference]
  first | (intro acts; rw [hl _ acts rfl rfl rfl]) | rw [hl _ _ rfl rfl rfl]
  exact Steps.refl _
end New
theorem own_sta_keep0 {Z : State} {h h' : Heap} {C n d : String} {v : Value} (F : Sta Z h C n d v) (Kp : Keep h h' []) : Sta Z h' C n d v := by
  obtain ⟨cf, i, k, f, st, cell, h1, h2, h3, h4, h5, h6, h7⟩ := F
  exact ⟨cf, i, k, f, st, cell, h1, h2, h3, h4, Kp.2.1 st cell h5 nin0, h6, h7⟩
theorem own_sta_keepV {Z : State} {h h' : Heap} {b : Addr} {C n d : String} {v : Value} {k : ClassId} {ty : FieldType} {z : Int32} {vs : List Value} {dv : Value} (F : Sta Z h C n d v) (E : Arv Z h b k ty z vs dv) (Kp : Keep h h' [b]) : Sta Z h' C n d v := by
  obtain ⟨cf, i, k, f, st, cell, h1, h2, h3, h4, h5, h6, h7⟩ := F
  obtain ⟨c2, A, -⟩ := E
  have ne : st ∉ [b] := fun q => by
    cases List.mem_singleton.mp q
    cases h5.symm.trans A.1
    obtain ⟨o, -⟩ := A.2.1
    cases hv : cell.vm <;> rw [hv] at h6 <;> first | exact o _ hv | cases h6
  exact ⟨cf, i, k, f, st, cell, h1, h2, h3, h4, Kp.2.1 st cell h5 ne, h6, h7⟩
theorem own_sta_keep {Z : State} {h h' : Heap} {b : Addr} {C n d K : String} {v : Value} (F : Sta Z h C n d v) (E : Exa Z h b K) (Kp : Keep h h' [b]) : Sta Z h' C n d v := by
  obtain ⟨cf, i, k, f, st, cell, h1, h2, h3, h4, h5, h6, h7⟩ := F
  obtain ⟨c2, _, g1, -, -, g4, -⟩ := E
  have ne : st ∉ [b] := fun q => by
    cases List.mem_singleton.mp q
    cases h5.symm.trans g1
    rw [g4] at h6; cases h6
  exact ⟨cf, i, k, f, st, cell, h1, h2, h3, h4, Kp.2.1 st cell h5 ne, h6, h7⟩
theorem own_fld_ne {Z : State} {h : Heap} {a : Addr} {C n d : String} {v w : Value} (F : Fld Z h a C n d v) (G : Fld Z h a C n d w) (ne : v ≠ w) : False := by
  obtain ⟨cell, cf, k, i, f, h1, h2, -, -, -, -, h7⟩ := F
  obtain ⟨cell', cf', k', i', f', g1, g2, -, -, -, -, g7⟩ := G
  cases h1.symm.trans g1
  cases h2.symm.trans g2
  cases h7.symm.trans g7
  exact ne rfl
theorem own_safe {Z : State} {a0 : Array Value} {EL : List (String × Nat)} {vm : Vm} {h : Heap} {x : Addr} {n : Nat} (hal : Z.vm.Alike vm) (wi : (Cond.instantiable "java/lang/String" n).before a0 Z = true) (E : Exa Z h x "java/lang/String") (G : Fld Z h x "java/lang/String" "value" "[B" .null) : Safe Z EL vm h x := fun B => by
  obtain ⟨p, -, u, a, -, q, -, F, hx⟩ := B
  obtain ⟨cS, ⟨⟨s1, s2, s3, ⟨cv, kv, iv, s4, s4'⟩, -, s6, -, s8, -, s10, s11, s12, -⟩, -⟩, -, -, -⟩ := F
  obtain ⟨kv', z4⟩ := ff_back (U := Wst Z vm h) hal s4
  rcases hx with rfl | rfl
  · have G' : Fld Z h q.sa "java/lang/String" "value" "[B" (.ref q.sd) := ⟨q.sC, cv, kv', iv, q.fSV, s1, z4, s6, s2, s3, by rw [← hal.assignable]; exact s4', s8⟩
    exact own_fld_ne G G' (by intro e; cases e)
  · obtain ⟨hst, k9, hk9, comp, hkind9⟩ := s11
    obtain ⟨c1, k1, h1, h2, h3, -⟩ := E
    cases h1.symm.trans s10
    obtain ⟨c2, k2, i1, i2, i3, -⟩ := Cond.instantiable_spec wi
    cases h2.symm.trans i1
    cases h3.symm.trans i2
    obtain ⟨k4, q1, q2⟩ := hal.2.2 _ _ h3
    have e9 : k9 = k4 := Option.some.inj ((show vm.classes[q.SA.cls]? = some k9 from hk9).symm.trans q1)
    have e10 : k9.kind = k1.kind := by rw [e9, q2]
    rw [e10, i3] at hkind9; cases hkind9
theorem own_backOfSC {p : Program} {l : Launch} {e : Env} {R : Room} {s : State} {args : Array Value} {below : List Frame} {Z : State} {a0 : Array Value} {EL : List (String × Nat)} {h : Heap} {vm0 : Vm} {y : MethodName} {bytes : ByteArray} {maxL : Nat} {ret : Option FieldType} {rm : Room} {len W : Nat} {as' : Array Value} {Q : Option Value → Heap → List Loc → Prop}
    (hM : MetFree l y (head1 [Cond.code y bytes maxL ret] rm) (fun a U => a = as' ∧ Z.Warmed39 U.vm ∧ U.heap = h ∧ CHv Z EL U.vm h) (fun _ _ _ _ _ => True) (fun _ U o U' => ∃ v L, o = .returned v ∧ Q v U'.heap L ∧ ReturnedEndW U o U' L rm.cells rm.slots))
    (hZ : Z.Warmed39 vm0) (wc : (Cond.code y bytes maxL ret).before a0 Z = true) (wz : (Cond.initialized y.cls).before a0 Z = true) (hf : rm.frames + 1 ≤ R.frames) (hl : W + (maxL + 11) + rm.locals ≤ R.locals) (hEL : EW Z a0 EL) (H : CHv Z EL vm0 h) :
    BackS l R p e below (s.setVm vm0) args y len W (fun A a => a = as' ∧ A.U.heap = h ∧ A.cells + rm.cells ≤ R.cells ∧ A.slots + rm.slots ≤ R.slots)
      (fun A _ v B => ∃ L, Q v B.U.heap L ∧ B.locs = A.locs ++ L ∧ B.cells = A.cells + rm.cells ∧ B.slots = A.slots + rm.slots) :=
  BackS.of_freeW (bytes := bytes) (maxL := maxL) (ret := ret) (E := fun _ _ o t L k n => k = rm.cells ∧ n = rm.slots ∧ ∃ v, o = .returned v ∧ Q v t.heap L) hM hf hl
    (fun m meth c A a Y hp => have hU : Z.Warmed39 A.U.vm := wtrans (s := s.setVm vm0) hZ Y.warmed
      ⟨by show (Cond.and _ .tt).before a A.U = true; rw [Cond.before_and, mv hU wc]; rfl, mv hU wc, mv hU wz, hp.2.2.1, hp.2.2.2⟩)
    (fun m meth c A a g mk Y hp => ⟨hp.1, wtrans (s := s.setVm vm0) hZ Y.warmed, hp.2.1, (CHv.at Y hZ hEL H).1⟩) (fun _ _ _ _ _ _ _ _ _ => trivial)
    (fun _ _ _ _ ⟨v, L, h1, h2, h3⟩ => ⟨L, _, _, h3, rfl, rfl, v, h1, h2⟩)
    (fun m meth c A a g mk v t L k n Y hp _ _ ⟨e1, e2, v', e3, e4⟩ => by cases e3; subst e1 e2; exact ⟨L, e4, rfl, rfl, rfl⟩)
theorem own_mvM {Z s : State} {a0 args : Array Value} {own host : String} {index : Nat} {y : MethodName} (hZ : Z.Warmed39 s.vm) (w : (Cond.methodLinkNest own index y host).before a0 Z = true) : (Cond.methodLinkNest own index y host).before args s = true := (Cond.methodLinkNest_wide hZ w :)
theorem own_eq_i {args : Array Value} {first s : State} {o : Option Outcome} {idx : List Nat} {a : Term} {z : Int32} (h : (Cond.eq a (.int z)).value args first o s idx = some true) : a.eval args first o idx s = some (.int z) := by
  cases ha : a.eval args first o idx s with
  | none => simp [Cond.value, Term.eval, ha] at h
  | some x => cases x <;> simp [Cond.value, Term.eval, ha] at h ⊢; exact h
theorem own_eq_l {args : Array Value} {first s : State} {o : Option Outcome} {idx : List Nat} {a : Term} {z : Int64} (h : (Cond.eq a (.long z)).value args first o s idx = some true) : a.eval args first o idx s = some (.long z) := by
  cases ha : a.eval args first o idx s with
  | none => simp [Cond.value, Term.eval, ha] at h
  | some x => cases x <;> simp [Cond.value, Term.eval, ha] at h ⊢; exact h
theorem own_selp {s : State} {args args' : Array Value} {y r z : MethodName} (hsel : (Cond.selects y.cls r z).before args' s = true) (hinst : (Cond.instanceMethod y).before args s = true) (hpriv : s.PrivateAt y) (hz : z.cls = y.cls ∧ y.cls ≠ "java/lang/invoke/MethodHandle" ∧ y.cls ≠ "java/lang/invoke/VarHandle") : (Cond.selects y.cls y y).before args s = true := by
  obtain ⟨c, r', m, h1, -, h3, -, k, h5, h6⟩ := Cond.selects_spec hsel
  have hc : s.vm.findClass z.cls = some m.cls := findClass_of_methodNamed h3
  rw [hz.1] at hc
  exact Jvm.Stand.selects_self_of_private hc h5 h6 hpriv hinst hz.2
theorem own_irr (x : Int32) : ¬ (x < x) := by rw [Int32.lt_iff_toInt_lt]; omega
theorem own_ltL {x y : Int64} (h : x < y) : lcmpW x y < 0 := (lw_lt x y).mpr h
theorem own_nltL {x y : Int64} (h : ¬ x < y) : ¬ lcmpW x y < 0 := fun q => h ((lw_lt x y).mp q)
theorem own_gtL {x y : Int64} (h : y < x) : 0 < lcmpW x y := (lw_gt x y).mpr h
theorem own_ngtL {x y : Int64} (h : ¬ y < x) : ¬ 0 < lcmpW x y := fun q => h ((lw_gt x y).mp q)
theorem own_eqL {x y : Int64} (h : x = y) : lcmpW x y = 0 := (lw_eq x y).mpr h
theorem own_neqL {x y : Int64} (h : ¬ x = y) : ¬ lcmpW x y = 0 := fun q => h ((lw_eq x y).mp q)
end Jvm.RoadKit
namespace Jvm.Pilot.@@N@@
open Jvm Jvm.ClassFile Sem Op Lib Jvm.Free Jvm.Stand Jvm.LawKit Jvm.RoadKit Bundle Jvm.Pilot.@@N@@.Jvm.D
abbrev f0 (Z : State) (h : Heap) (a : Addr) (v : Value) : Prop := Fld Z h a "java/lang/String" "coder" "B" v
abbrev f1 (Z : State) (h : Heap) (a : Addr) (v : Value) : Prop := Fld Z h a "java/lang/String" "value" "[B" v
abbrev f2 (Z : State) (h : Heap) (a : Addr) (v : Value) : Prop := Fld Z h a "java/lang/AbstractStringBuilder" "coder" "B" v
abbrev f3 (Z : State) (h : Heap) (a : Addr) (v : Value) : Prop := Fld Z h a "java/lang/AbstractStringBuilder" "value" "[B" v
abbrev f4 (Z : State) (h : Heap) (a : Addr) (v : Value) : Prop := Fld Z h a "java/lang/AbstractStringBuilder" "count" "I" v
abbrev f5 (Z : State) (h : Heap) (a : Addr) (v : Value) : Prop := Fld Z h a "java/lang/AbstractStringBuilder" "maybeLatin1" "Z" v
abbrev f6 (Z : State) (h : Heap) (a : Addr) (v : Value) : Prop := Fld Z h a "com/example/fieldveil/fieldveil/Placeholder" "name" "Ljava/lang/String;" v
abbrev f7 (Z : State) (h : Heap) (a : Addr) (v : Value) : Prop := Fld Z h a "com/example/fieldveil/fieldveil/Placeholder" "json" "Z" v
abbrev f8 (Z : State) (h : Heap) (v : Value) : Prop := Sta Z h "java/lang/StringUTF16" "$assertionsDisabled" "Z" v
abbrev f9 (Z : State) (h : Heap) (v : Value) : Prop := Sta Z h "java/lang/StringUTF16" "HI_BYTE_SHIFT" "I" v
abbrev f10 (Z : State) (h : Heap) (v : Value) : Prop := Sta Z h "java/lang/StringUTF16" "LO_BYTE_SHIFT" "I" v
abbrev f11 (Z : State) (h : Heap) (v : Value) : Prop := Sta Z h "jdk/internal/util/Preconditions" "SIOOBE_FORMATTER" "Ljava/util/function/BiFunction;" v
abbrev f12 (Z : State) (h : Heap) (v : Value) : Prop := Sta Z h "java/lang/String" "COMPACT_STRINGS" "Z" v
abbrev HW (a0 : Array Value) (Z : State) : Prop := ∀ d ∈ tables_1, d.before a0 Z = true
theorem own_w {Z : State} {a0 : Array Value} (hw : HW a0 Z) (i : Nat) {d : Jvm.Cond} (h : tables_1[i]? = some d) : d.before a0 Z = true := hw d (List.mem_of_getElem? h)
abbrev rR (f c s l : Nat) : Room := { frames := f, cells := c, slots := s, locals := l }
abbrev own_A (Z : State) (h : Heap) (a : Addr) (k : ClassId) (ty : FieldType) (z : Int32) (ls : List Int32) : Prop := Arv Z h a k ty z (ls.map Value.int) (.int (0 : Int32))
abbrev own_M (l : Launch) (Z : State) (h0 : Heap) (y : MethodName) (bytes : ByteArray) (maxL : Nat) (ret : Option FieldType) (ws : List Jvm.Cond) (R : Room) (as : Array Value) (Q : Option Value → Heap → List Loc → Prop) : Prop :=
  MetFree l y (head1 (Jvm.Cond.code y bytes maxL ret :: ws) R) (fun a U => a = as ∧ Z.Warmed39 U.vm ∧ U.heap = h0) (fun _ _ _ _ _ => True) (fun _ U o U' => ∃ v L, o = .returned v ∧ Q v U'.heap L ∧ FrameEnd U o U' L R.cells R.slots)
theorem own_body {l : Launch} {Z : State} {h0 : Heap} {y : MethodName} {bytes : ByteArray} {maxL : Nat} {ret : Option FieldType} {ws : List Jvm.Cond} {R : Room} {as : Array Value} {Q : Option Value → Heap → List Loc → Prop} {own : String} (hpl : plainFor y = true) (ho : y.cls = own)
    (K : ∀ p e s m below meth c s₁, BodyLoose p l y (head1 (Jvm.Cond.code y bytes maxL ret :: ws) R) bytes maxL ret e s m as below meth c s₁ → Z.Warmed39 s.vm → s.heap = h0 → p.tables.exec = Jvm.exec → c.code = bytes → c.maxLocals = maxL → s.vm.findClass own = some m.cls → Stand p l e R s m as below meth c s₁ [] 0 0 → s₁.heap = h0 →
      ∃ s₂ o, Steps p.tables e below (s₁.setTop (entryFrame m as maxL)) s₂ ∧ s₂.status = .running ∧ Ended s₂ below o ∧ ∃ v L, o = .returned v ∧ Q v s₂.heap L ∧ FrameEnd s o s₂ L R.cells R.slots) : own_M l Z h0 y bytes maxL ret ws R as Q := by
  refine MetFree.of_bodySF hpl hisR ?_
  intro p e s m args below meth c s₁ Bd hml0 hP hK
  obtain ⟨rfl, hZ, hh⟩ := hP
  exact K p e s m below meth c s₁ Bd hZ hh Bd.exec Bd.bytes hml0 (ho ▸ findClass_of_methodNamed Bd.named) (Stand.of_body Bd) (by rw [← hh, Bd.state]; rfl)
theorem own_obE {Z : State} {h : Heap} {b : Addr} {K : String} (E : Exa Z h b K) : ∀ cell : Cell, h[b]? = some cell → cell.vm.isStatics = false := fun cell q => by
  obtain ⟨c2, _, g1, -, -, g4, -⟩ := E
  cases q.symm.trans g1
  exact g4
theorem own_obV {Z : State} {h : Heap} {b : Addr} {k : ClassId} {ty : FieldType} {z : Int32} {vs : List Value} {dv : Value} (E : Arv Z h b k ty z vs dv) : ∀ cell : Cell, h[b]? = some cell → cell.vm.isStatics = false := fun cell q => by
  obtain ⟨c2, A, -⟩ := E
  cases q.symm.trans A.1
  obtain ⟨o, -⟩ := A.2.1
  cases hv : cell.vm <;> first | rfl | exact (o _ hv).elim
theorem own_sta_keepN {Z : State} {h h' : Heap} {C n d : String} {v : Value} {ws : List Addr} (F : Sta Z h C n d v) (Kp : Keep h h' ws) (hn : ∀ b ∈ ws, ∀ cell : Cell, h[b]? = some cell → cell.vm.isStatics = false) : Sta Z h' C n d v := by
  obtain ⟨cf, i, k, f, st, cell, h1, h2, h3, h4, h5, h6, h7⟩ := F
  have ne : st ∉ ws := fun q => by
    have := hn st q cell h5
    rw [this] at h6; cases h6
  exact ⟨cf, i, k, f, st, cell, h1, h2, h3, h4, Kp.2.1 st cell h5 ne, h6, h7⟩
section Ret
variable {p : Program} {l : Launch} {e : Env} {R : Room} {s : State} {m : MethodId} {args : Array Value} {below : List Frame} {meth : Method} {c : Code} {T : State} {locs : List Loc} {cells slots : Nat}
theorem own_rS (X : Stand p l e R s m args below meth c T locs cells slots) {Q : Option Value → Heap → List Loc → Prop} {k n : Nat} {g : JFrame} {rest : List Value} (h : ∃ (v : Option Value) (vm₁ : Vm) (B : Pt), s.WarmedH vm₁ ∧ Stand p l e R s m args below meth c B.U B.locs B.cells B.slots ∧ (∃ L, Q v B.U.heap L ∧ B.locs = locs ++ L ∧ B.cells = cells + k ∧ B.slots = slots + n) ∧ ∀ t, Steps p.tables e below (B.U.setTop { g with pc := g.pc + 3, stack := v.toList ++ rest }) t → Steps p.tables e below (T.setTop g) t) :
    ∃ (v : Option Value) (T' : State) (L : List Loc), Stand p l e R s m args below meth c T' (locs ++ L) (cells + k) (slots + n) ∧ Q v T'.heap L ∧ ∀ t, Steps p.tables e below (T'.setTop { g with pc := g.pc + 3, stack := v.toList ++ rest }) t → Steps p.tables e below (T.setTop g) t := by
  obtain ⟨v, _, ⟨U, lo, ce, sl⟩, -, X', ⟨L, hQ, h1, h2, h3⟩, st⟩ := h
  subst h1 h2 h3
  exact ⟨v, U, L, X', hQ, st⟩
theorem own_r (X : Stand p l e R s m args below meth c T locs cells slots) {Q : Option Value → Heap → List Loc → Prop} {k n : Nat} {g : JFrame} {rest : List Value} (h : ∃ (v : Option Value) (vm₁ : Vm) (B : Pt), s.WarmedH vm₁ ∧ Stand p l e R s m args below meth c B.U B.locs B.cells B.slots ∧ (∃ L, Q v B.U.heap L ∧ B.locs = locs ++ L ∧ B.cells = cells + k ∧ B.slots = slots + n) ∧ Steps p.tables e below (T.setTop g) (B.U.setTop { g with pc := g.pc + 3, stack := v.toList ++ rest })) :
    ∃ (v : Option Value) (T' : State) (L : List Loc), Stand p l e R s m args below meth c T' (locs ++ L) (cells + k) (slots + n) ∧ Q v T'.heap L ∧ ∀ t, Steps p.tables e below (T'.setTop { g with pc := g.pc + 3, stack := v.toList ++ rest }) t → Steps p.tables e below (T.setTop g) t := by
  obtain ⟨v, vm, B, hW, X', hQ, st⟩ := h
  exact own_rS X ⟨v, vm, B, hW, X', hQ, fun t ht => st.trans ht⟩
end Ret
theorem own_and (x m : Int32) (k : Nat) (hk : k < 32) (hm : m.toBitVec.toNat = 2 ^ k - 1) : x &&& m = Int32.ofNat (x.toBitVec.toNat % 2 ^ k) := by
  apply Int32.toBitVec_inj.mp
  apply BitVec.eq_of_toNat_eq
  show (x.toBitVec &&& m.toBitVec).toNat = (x.toBitVec.toNat % 2 ^ k) % 2 ^ 32
  have hp : 2 ^ k ≤ 2 ^ 32 := Nat.pow_le_pow_right (by decide) (by omega)
  have hq : x.toBitVec.toNat % 2 ^ k < 2 ^ k := Nat.mod_lt _ (Nat.two_pow_pos k)
  rw [BitVec.toNat_and, hm, Nat.and_two_pow_sub_one_eq_mod, Nat.mod_eq_of_lt (Nat.lt_of_lt_of_le hq hp)]
theorem own_ofNat {n : Nat} (h : n < 2 ^ 31) : (Int32.ofNat n).toInt = n := Int32.toInt_ofNat_of_lt h
theorem own_rem {n k : Nat} (h : n < 2 ^ 31) (hk : 0 < k) (hk2 : k < 2 ^ 31) : Int32.ofNat n % Int32.ofNat k = Int32.ofNat (n % k) := by
  apply Int32.toInt_inj.mp
  have : n % k < k := Nat.mod_lt _ hk
  rw [Int32.toInt_mod, own_ofNat h, own_ofNat hk2, own_ofNat (by omega), Int.tmod_eq_emod_of_nonneg (by omega)]
  rfl
theorem own_bmod {n : Int} (h1 : -2 ^ 31 ≤ n) (h2 : n < 2 ^ 31) : n.bmod (2 ^ 32) = n := by
  rw [Int.bmod_def]; omega
theorem own_remE {n k : Nat} (h : n < 2 ^ 31) (hk : 0 < k) (hk2 : k < 2 ^ 31) : Int32.ofNat n - ((Int32.ofNat n / Int32.ofNat k) * Int32.ofNat k) = Int32.ofNat (n % k) := by
  apply Int32.toInt_inj.mp
  have h3 : n % k < k := Nat.mod_lt _ hk
  have h4 : n / k ≤ n := Nat.div_le_self _ _
  have h5 : (n / k) * k + n % k = n := Nat.div_add_mod' n k
  have e0 : (n : Int).tdiv (k : Int) = ((n / k : Nat) : Int) := rfl
  generalize n / k = d at *
  generalize n % k = r at *
  have e1 : (Int32.ofNat n / Int32.ofNat k).toInt = (d : Int) := by
    rw [Int32.toInt_div, own_ofNat h, own_ofNat hk2, e0]
    exact own_bmod (by omega) (by omega)
  have e2 : ((Int32.ofNat n / Int32.ofNat k) * Int32.ofNat k).toInt = ((d * k : Nat) : Int) := by
    rw [Int32.toInt_mul, e1, own_ofNat hk2, ← Int.natCast_mul]
    exact own_bmod (by omega) (by omega)
  rw [Int32.toInt_sub, e2, own_ofNat h, own_ofNat (by omega), own_bmod (by omega) (by omega)]
  omega
theorem own_and255 (x : Int32) : ¬ (x &&& 255) < 0 ∧ ¬ (255 : Int32) < (x &&& 255) := by
  rw [own_and x 255 8 (by decide) (by decide)]
  have h : x.toBitVec.toNat % 2 ^ 8 < 256 := Nat.mod_lt _ (by decide)
  generalize x.toBitVec.toNat % 2 ^ 8 = n at h
  have c0 : (0 : Int32).toInt = 0 := rfl
  have c1 : (255 : Int32).toInt = 255 := rfl
  rw [Int32.lt_iff_toInt_lt, Int32.lt_iff_toInt_lt, own_ofNat (by omega), c0, c1]
  omega
theorem own_lt_len {k n : Nat} (h : Int32.ofNat k < Int32.ofNat n) (hk : k < 2 ^ 31) (hn : n ≤ 4000) : k < n := by
  rw [Int32.lt_iff_toInt_lt, own_ofNat hk, own_ofNat (by omega)] at h; omega
theorem own_up {cs : List Int32} (h : ∀ c ∈ cs, ¬ c < 0 ∧ ¬ (255 : Int32) < c) : ∀ c ∈ cs, ¬ c < 0 ∧ ¬ (65535 : Int32) < c := fun c hc => by
  obtain ⟨h1, h2⟩ := h c hc
  refine ⟨h1, ?_⟩
  rw [Int32.lt_iff_toInt_lt] at *
  have c1 : (255 : Int32).toInt = 255 := rfl
  have c2 : (65535 : Int32).toInt = 65535 := rfl
  omega
def own_l8 (c : Int32) : Int32 := (nar .byte (c.toInt8.toInt32))
def own_b (cs : List Int32) : List Int32 := cs.map own_l8
theorem own_pad {n : Nat} : ∀ i, ((List.replicate n (0 : Int32)).map Value.int).getD i (.int (0 : Int32)) = ([] : List Value).getD i (.int (0 : Int32)) := fun i => by
  simp only [List.getD_eq_getElem?_getD, List.map_replicate, List.getElem?_replicate]
  split <;> rfl
theorem own_getI (ls : List Int32) (i : Nat) : (ls.map Value.int).getD i (.int (0 : Int32)) = .int (ls.getD i 0) := by
  rw [List.getD_eq_getElem?_getD, List.getD_eq_getElem?_getD, List.getElem?_map]
  cases ls[i]? <;> rfl
theorem own_us {ls : List Int32} {i k : Nat} (h : i + k ≤ ls.length) : ((List.range k).map fun x => (ls.map Value.int).getD (i + x) (.int (0 : Int32))) = (((ls.drop i).take k).map Value.int) := by
  apply List.ext_getElem
  · simp; omega
  · intro n h1 h2
    have h3 : n < k := by simpa using h1
    rw [List.getElem_map, List.getElem_range, own_getI, List.getElem_map, List.getElem_take, List.getElem_drop, List.getD_eq_getElem?_getD, List.getElem?_eq_getElem (by omega)]
    rfl
section Copy
variable {p : Program} {l : Launch} {e : Env} {R : Room} {s : State} {m : MethodId} {args : Array Value} {below : List Frame} {meth : Method} {c : Code} {T : State} {locs : List Loc} {cells slots : Nat} {Z : State} {h : Heap} {a b : Addr}
theorem own_acopy (X : Stand p l e R s m args below meth c T locs cells slots) (hx : p.tables.exec = Jvm.exec) (hZ : Z.Warmed39 s.vm) {a0 : Array Value} {own : String} {index : Nat} (hown : s.vm.findClass own = some m.cls)
    (w1 : (Cond.methodLink own index Jvm.Stand.acN).before a0 Z = true) (w2 : (Cond.native Jvm.Stand.acN).before a0 Z = true) (w3 : (Cond.static Jvm.Stand.acN).before a0 Z = true) (w4 : (Cond.initialized "java/lang/System").before a0 Z = true) (eT : T.heap = h)
    {ka kb : ClassId} {za zb sp dp nn : Int32} {i j k : Nat} {LS LD NEW : List Int32} (A : Arv Z h a ka .byte za (LS.map Value.int) (.int (0 : Int32))) (B : Arv Z h b kb .byte zb (LD.map Value.int) (.int (0 : Int32)))
    (h1 : sp.toInt = i) (h2 : dp.toInt = j) (h3 : nn.toInt = k) (h4 : ((i + k : Nat) : Int) ≤ za.toInt) (h5 : ((j + k : Nat) : Int) ≤ zb.toInt) (l4 : i + k ≤ LS.length) (l5 : j + k ≤ LD.length) (hN : NEW = LD.take j ++ (LS.drop i).take k ++ LD.drop (j + k))
    {n0 : Nat} (N : Fr n0 locs) (ge : n0 ≤ b) {g : JFrame} (hg : g.method = m) (hsize : g.locals.size = c.maxLocals) {rest : List Value} (hs : g.stack = .int nn :: .int dp :: .ref b :: .int sp :: .ref a :: rest) (hd : decode c.code g.pc = .ok (.invokestatic index, 3))
    (hf : 1 ≤ R.frames) {W : Nat} (hW : 2 * g.monitorRoom + (rest.map fun v => v.category).sum ≤ W) (hlo : W + (nativeFrameWords "java/lang/System" "arraycopy" 5 + 11) ≤ R.locals) :
    ∃ T' h' L, Stand p l e R s m args below meth c T' L cells slots ∧ T'.heap = h' ∧ Fr n0 L ∧ Keep h h' [b] ∧ Arv Z h' b kb .byte zb (NEW.map Value.int) (.int (0 : Int32)) ∧
      ∀ target, Steps p.tables e below (T'.setTop { g with pc := g.pc + 3, stack := rest }) target → Steps p.tables e below (T.setTop g) target := by
  have nn0 : ∀ {x : Int32} {y : Nat}, x.toInt = y → ¬ x < 0 := fun {x y} q => by
    have c0 : (0 : Int32).toInt = 0 := rfl
    rw [Int32.lt_iff_toInt_lt, q, c0]; omega
  have tc : ∀ {x : Int32} {y : Nat}, x.toInt = y → x.toNatClampNeg = y := fun {x y} q => by
    show x.toInt.toNat = y
    rw [q]; rfl
  have zc : ∀ {x : Int32} {y : Nat}, (y : Int) ≤ x.toInt → y ≤ x.toNatClampNeg := fun {x y} q => by
    show y ≤ x.toInt.toNat
    omega
  obtain ⟨T', h', L, X', e', N', K', V', st⟩ := cpA X hx hZ hown w1 w2 w3 w4 eT (us := (((LS.drop i).take k).map Value.int)) A B (Or.inl ⟨rfl, rfl⟩) (nn0 h1) (nn0 h2) (nn0 h3) (by rw [tc h1, tc h3]; exact zc h4) (by rw [tc h2, tc h3]; exact zc h5)
    (by rw [tc h1, tc h3]; exact (own_us l4).symm) (by rw [tc h2, tc h3, List.length_map]; exact l5) N ge hg hsize hs hd hf hW hlo
  refine ⟨T', h', L, X', e', N', K', ?_, st⟩
  rw [tc h2, tc h3] at V'
  rw [hN, List.map_append, List.map_append, List.map_take (l := LD), List.map_drop (l := LD)]
  exact V'
end Copy
theorem own_cat {v : Value} (h : v.isRef = true) : v.category = 1 := by cases v <;> first | rfl | cases h
theorem own_clamp {n : Nat} (h : n ≤ 200) : (Int32.ofNat n).toNatClampNeg = n := by
  show (Int32.ofNat n).toInt.toNat = n
  rw [own_ofNat (by omega)]; rfl
theorem own_nneg {n : Nat} (h : n ≤ 200) : ¬ Int32.ofNat n < 0 := by
  have c0 : (0 : Int32).toInt = 0 := rfl
  rw [Int32.lt_iff_toInt_lt, own_ofNat (by omega), c0]; omega
theorem own_ltz {n k : Nat} {z : Int32} (h : ((k : Nat) : Int) < z.toInt) (h1 : n ≤ k) (h2 : n ≤ 200) : Int32.ofNat n < z := by
  rw [Int32.lt_iff_toInt_lt, own_ofNat (by omega)]; omega
theorem own_add1 {k : Nat} : Int32.ofNat k + (1 : Int32) = Int32.ofNat (k + 1) := (Int32.ofNat_add k 1).symm
theorem own_shF : ∀ n : Fin 128, (Int32.ofNat n.val) <<< ((1 : Int32) &&& 31) = Int32.ofNat (2 * n.val) := by decide +kernel
theorem own_shl1 {n : Nat} (h : n ≤ 64) : (Int32.ofNat n) <<< ((1 : Int32) &&& 31) = Int32.ofNat (2 * n) := own_shF ⟨n, by omega⟩
theorem own_getN (ls : List Int32) {n : Nat} (h : n ≤ 200) : (ls.map Value.int).getD (Int32.ofNat n).toNatClampNeg (.int (0 : Int32)) = .int (ls.getD n 0) := by rw [own_clamp h, own_getI]
theorem own_shrF : ∀ n : Fin 128, (Int32.ofNat (2 * n.val)) >>> ((1 : Int32) &&& 31) = Int32.ofNat n.val := by decide +kernel
theorem own_shr1 {n : Nat} (h : n ≤ 64) : (Int32.ofNat (2 * n)) >>> ((1 : Int32) &&& 31) = Int32.ofNat n := own_shrF ⟨n, by omega⟩
theorem own_ltc {n : Nat} (h : n ≤ 64) : Int32.ofNat n < (1073741823 : Int32) := by
  have c0 : (1073741823 : Int32).toInt = 1073741823 := rfl
  rw [Int32.lt_iff_toInt_lt, own_ofNat (by omega), c0]; omega
theorem own_clampLe {n m : Nat} (h : n ≤ m ∧ n ≤ 200) : (Int32.ofNat n).toNatClampNeg ≤ m := by rw [own_clamp h.2]; exact h.1
theorem own_orN (a b : Nat) (ha : a < 2 ^ 31) (hb : b < 2 ^ 31) : Int32.ofNat a ||| Int32.ofNat b = Int32.ofNat (a ||| b) := by
  apply Int32.toBitVec_inj.mp
  apply BitVec.eq_of_toNat_eq
  have h3 : a ||| b < 2 ^ 31 := Nat.or_lt_two_pow ha hb
  show (BitVec.ofNat 32 a ||| BitVec.ofNat 32 b).toNat = (BitVec.ofNat 32 (a ||| b)).toNat
  rw [BitVec.toNat_or, BitVec.toNat_ofNat, BitVec.toNat_ofNat, BitVec.toNat_ofNat, Nat.mod_eq_of_lt (by omega), Nat.mod_eq_of_lt (by omega), Nat.mod_eq_of_lt (by omega)]
theorem own_or3 {a b c : Nat} (h : a + b ≤ c ∧ c ≤ 64) : ¬ (((Int32.ofNat c) ||| (Int32.ofNat a)) ||| (Int32.ofNat b)) < (0 : Int32) := by
  have h1 : c ||| a < 2 ^ 31 := Nat.or_lt_two_pow (by omega) (by omega)
  have h2 : (c ||| a) ||| b < 2 ^ 31 := Nat.or_lt_two_pow h1 (by omega)
  have c0 : (0 : Int32).toInt = 0 := rfl
  rw [own_orN c a (by omega) (by omega), own_orN _ b h1 (by omega), Int32.lt_iff_toInt_lt, own_ofNat h2, c0]
  omega
theorem own_subge {a b c : Nat} (h : a + b ≤ c ∧ c ≤ 64) : ¬ ((Int32.ofNat c) - (Int32.ofNat a)) < (Int32.ofNat b) := by
  rw [Int32.lt_iff_toInt_lt, Int32.toInt_sub, own_ofNat (by omega), own_ofNat (by omega), own_ofNat (by omega), own_bmod (by omega) (by omega)]
  omega
theorem own_ltk {a b : Nat} (h : a < b) (hb : b ≤ 200) : Int32.ofNat a < Int32.ofNat b := by
  rw [Int32.lt_iff_toInt_lt, own_ofNat (by omega), own_ofNat (by omega)]; omega
theorem own_ltz' {n k : Nat} {z : Int32} (h : ((k : Nat) : Int) ≤ z.toInt) (h1 : n < k) (h2 : n ≤ 200) : Int32.ofNat n < z := by
  rw [Int32.lt_iff_toInt_lt, own_ofNat (by omega)]; omega
theorem own_le2 {n M : Nat} (h : n ≤ M ∧ M ≤ 64) : ((2 * n : Nat) : Int) ≤ (Int32.ofNat (2 * M)).toInt := by
  rw [own_ofNat (by omega)]; omega
theorem own_face {s : State} {a1 : Array Value} {r y : MethodName} (h : NotFace s r) (hr : (Cond.instanceMethod r).before a1 s = true) (e : r.cls = y.cls) : NotFace s y := by
  intro m hm
  obtain ⟨mr, _, h1, -⟩ := Cond.instanceMethod_spec hr
  obtain ⟨kr, k1, k2⟩ := h mr h1
  have h2 := findClass_of_methodNamed h1
  have h3 := findClass_of_methodNamed hm
  rw [e, h3] at h2
  exact ⟨kr, by rw [Option.some.inj h2]; exact k1, k2⟩
theorem own_same {s : State} {args a3 : Array Value} {y : MethodName} (hi : (Cond.instanceMethod y).before args s = true) (hf : NotFace s y) (hy : y.cls ≠ "java/lang/invoke/MethodHandle" ∧ y.cls ≠ "java/lang/invoke/VarHandle") : (Cond.sameMethod y.cls y.cls y.name y.desc).before a3 s = true := by
  obtain ⟨m, meth, h1, h2, -⟩ := Cond.instanceMethod_spec hi
  have h3 := State.methodFound?_of_named h1 hy
  have h4 : s.vm.findClass y.cls = some m.cls := findClass_of_methodNamed h1
  obtain ⟨k, hk, hn⟩ := hf m h1
  simp only [Cond.before, Cond.holds, Cond.value, h4, h3, h1, hk]
  simp [hn]
theorem own_selp2 {s : State} {args args' : Array Value} {C : String} {y r z : MethodName} (hsel : (Cond.selects C r z).before args' s = true) (hinst : (Cond.instanceMethod y).before args s = true) (hpriv : s.PrivateAt y) (hz : z.cls = y.cls ∧ y.cls ≠ "java/lang/invoke/MethodHandle" ∧ y.cls ≠ "java/lang/invoke/VarHandle") : (Cond.selects y.cls y y).before args s = true := by
  obtain ⟨c, r', m, h1, -, h3, -, k, h5, h6⟩ := Cond.selects_spec hsel
  have hc : s.vm.findClass z.cls = some m.cls := findClass_of_methodNamed h3
  rw [hz.1] at hc
  exact Jvm.Stand.selects_self_of_private hc h5 h6 hpriv hinst hz.2
def own_ul (c : Int32) : Int32 := (nar .byte ((c >>> ((0 : Int32) &&& 31)).toInt8.toInt32))
def own_uh (c : Int32) : Int32 := (nar .byte ((c >>> ((8 : Int32) &&& 31)).toInt8.toInt32))
theorem d_m0_0 : decode jdk_52_method_4_code 0 = .ok (.getstatic 44, 3) := by decide +kernel
theorem d_m0_3 : decode jdk_52_method_4_code 3 = .ok (.ifCond .ne 25, 3) := by decide +kernel
theorem d_m0_28 : decode jdk_52_method_4_code 28 = .ok (.iload_n 1, 1) := by decide +kernel
theorem d_m0_29 : decode jdk_52_method_4_code 29 = .ok (.iconst 1, 1) := by decide +kernel
theorem d_m0_30 : decode jdk_52_method_4_code 30 = .ok (.ishl, 1) := by decide +kernel
theorem d_m0_31 : decode jdk_52_method_4_code 31 = .ok (.istore_n 1, 1) := by decide +kernel
theorem d_m0_32 : decode jdk_52_method_4_code 32 = .ok (.aload_n 0, 1) := by decide +kernel
theorem d_m0_33 : decode jdk_52_method_4_code 33 = .ok (.iload_n 1, 1) := by decide +kernel
theorem d_m0_34 : decode jdk_52_method_4_code 34 = .ok (.iinc 1 1, 3) := by decide +kernel
theorem d_m0_37 : decode jdk_52_method_4_code 37 = .ok (.iload_n 2, 1) := by decide +kernel
theorem d_m0_38 : decode jdk_52_method_4_code 38 = .ok (.getstatic 59, 3) := by decide +kernel
theorem d_m0_41 : decode jdk_52_method_4_code 41 = .ok (.ishr, 1) := by decide +kernel
theorem d_m0_42 : decode jdk_52_method_4_code 42 = .ok (.i2b, 1) := by decide +kernel
theorem d_m0_43 : decode jdk_52_method_4_code 43 = .ok (.bastore, 1) := by decide +kernel
theorem d_m0_44 : decode jdk_52_method_4_code 44 = .ok (.aload_n 0, 1) := by decide +kernel
theorem d_m0_45 : decode jdk_52_method_4_code 45 = .ok (.iload_n 1, 1) := by decide +kernel
theorem d_m0_46 : decode jdk_52_method_4_code 46 = .ok (.iload_n 2, 1) := by decide +kernel
theorem d_m0_47 : decode jdk_52_method_4_code 47 = .ok (.getstatic 63, 3) := by decide +kernel
theorem d_m0_50 : decode jdk_52_method_4_code 50 = .ok (.ishr, 1) := by decide +kernel
theorem d_m0_51 : decode jdk_52_method_4_code 51 = .ok (.i2b, 1) := by decide +kernel
theorem d_m0_52 : decode jdk_52_method_4_code 52 = .ok (.bastore, 1) := by decide +kernel
theorem d_m0_53 : decode jdk_52_method_4_code 53 = .ok (.return_, 1) := by decide +kernel
theorem pn_0 : plainName "java/lang/StringUTF16" = true := by first | (simp [plainName, overriddenIn]; done) | decide +kernel
theorem ef_putC (m : MethodId) (x0 : Addr) (x1 : Int32) (x2 : Int32) : entryFrame m #[(.ref x0), (.int x1), (.int x2)] 3 = mkF m 0 #[.val (.ref x0), .val (.int x1), .val (.int x2)] [] := by first | (simp [entryFrame, mkF, argsToLocals, Value.category]; done) | rfl
def Q_putC (Z : State) (r0 : Addr) (i : Nat) (p2 : Int32) (kA : ClassId) (zA : Int32) (ls : List Int32) (h0 : Heap) (n0 : Nat) (v : Option Value) (h : Heap) (L : List Loc) : Prop := v = none ∧ Fr n0 L ∧ Keep h0 h [r0] ∧ own_A Z h r0 kA .byte zA ((ls.set (2 * i) (own_ul p2)).set (2 * i + 1) (own_uh p2))
set_option maxRecDepth 65536 in
set_option maxHeartbeats 40000000 in
theorem rm_putC (l : Launch) (Z : State) (a0 : Array Value) (hw : HW a0 Z) (ws : List Jvm.Cond) (r0 : Addr) (i : Nat) (p2 : Int32) (kA : ClassId) (zA : Int32) (ls : List Int32) (h0 : Heap) (n0 : Nat) (Z0 : n0 ≤ h0.size) (S_AD : f8 Z h0 (.int (1 : Int32))) (S_HI : f9 Z h0 (.int (0 : Int32))) (S_LO : f10 Z h0 (.int (8 : Int32))) (V_A : own_A Z h0 r0 kA .byte zA ls) (g_r0 : n0 ≤ r0) (hz : ((2 * i + 1 : Nat) : Int) < zA.toInt) (hl : 2 * i + 1 < ls.length) (hi : i ≤ 64) :
    own_M l Z h0 (⟨"java/lang/StringUTF16", "putChar", "([BII)V"⟩ : MethodName) jdk_52_method_4_code 3 none ws (rR 0 0 0 0) #[(.ref r0), (.int (Int32.ofNat i)), (.int p2)] (Q_putC Z r0 i p2 kA zA ls h0 n0) := by
  refine own_body (own := "java/lang/StringUTF16") (plainFor_of_name pn_0) rfl ?_
  intro p e s m below meth c s₁ Bd hZ hh hx hby hml hown X0 e0
  have N0 := Fr.nil n0
  obtain ⟨T1, X1, e1, st1⟩ := getS2 X0 hx hZ hown (host := "") (Or.inl (own_w hw 224 rfl)) Via.refl e0 S_AD (g := (mkF m 0 #[.val (.ref r0), .val (.int (Int32.ofNat i)), .val (.int p2)] [])) rfl (hb hby d_m0_0)
  have k2 : Go p.tables e below _ (T1.setTop (mkF m 31 #[.val (.ref r0), .val (.int (Int32.ofNat i)), .val (.int p2)] [(.int ((Int32.ofNat i) <<< ((1 : Int32) &&& 31)))])) := fun t ht => st1 t (by
    refine XS.ifYes X1.here hx rfl (pc0 := 3) (pc' := 28) rfl (hb hby d_m0_3) rfl ((if0 _ _).trans (feq (by decide : ¬ ((1 : Int32) = (0 : Int32)))).2) (by decide) (by decide) ?_
    refine XS.iloadN X1.here hx rfl (hb hby d_m0_28) rfl ?_
    refine XS.iconst X1.here hx rfl (hb hby d_m0_29) ?_
    refine XS.ishl X1.here hx rfl (hb hby d_m0_30) rfl ?_
    exact ht)
  have k3 : Go p.tables e below _ (T1.setTop (mkF m 31 #[.val (.ref r0), .val (.int (Int32.ofNat i)), .val (.int p2)] [(.int (Int32.ofNat (2 * i)))])) := goT k2 (by rw [own_shl1 hi]; exact fun _ h => h)
  have k4 : Go p.tables e below _ (T1.setTop (mkF m 37 #[.val (.ref r0), .val (.int ((Int32.ofNat (2 * i)) + (1 : Int32))), .val (.int p2)] [(.int (Int32.ofNat (2 * i))), (.ref r0)])) := goT k3 fun t ht => (by
    refine XS.istoreN X1.here hx rfl (hb hby d_m0_31) rfl (l' := #[.val (.ref r0), .val (.int (Int32.ofNat (2 * i))), .val (.int p2)]) rfl ?_
    refine XS.aloadN X1.here hx rfl (hb hby d_m0_32) rfl rfl ?_
    refine XS.iloadN X1.here hx rfl (hb hby d_m0_33) rfl ?_
    refine XS.iinc X1.here hx rfl (hb hby d_m0_34) rfl (l' := #[.val (.ref r0), .val (.int ((Int32.ofNat (2 * i)) + (1 : Int32))), .val (.int p2)]) rfl ?_
    exact ht)
  have k5 : Go p.tables e below _ (T1.setTop (mkF m 37 #[.val (.ref r0), .val (.int (Int32.ofNat (2 * i + 1))), .val (.int p2)] [(.int (Int32.ofNat (2 * i))), (.ref r0)])) := goT k4 (by rw [own_add1]; exact fun _ h => h)
  have k6 : Go p.tables e below _ (T1.setTop (mkF m 38 #[.val (.ref r0), .val (.int (Int32.ofNat (2 * i + 1))), .val (.int p2)] [(.int p2), (.int (Int32.ofNat (2 * i))), (.ref r0)])) := goT k5 fun t ht => (by
    refine XS.iloadN X1.here hx rfl (hb hby d_m0_37) rfl ?_
    exact ht)
  obtain ⟨T7, X7, e7, st7⟩ := getS2 X1 hx hZ hown (host := "") (Or.inl (own_w hw 225 rfl)) Via.refl e1 S_HI (g := (mkF m 38 #[.val (.ref r0), .val (.int (Int32.ofNat (2 * i + 1))), .val (.int p2)] [(.int p2), (.int (Int32.ofNat (2 * i))), (.ref r0)])) rfl (hb hby d_m0_38)
  have k8 : Go p.tables e below _ (T7.setTop (mkF m 43 #[.val (.ref r0), .val (.int (Int32.ofNat (2 * i + 1))), .val (.int p2)] [(.int ((p2 >>> ((0 : Int32) &&& 31)).toInt8.toInt32)), (.int (Int32.ofNat (2 * i))), (.ref r0)])) := fun t ht => st7 t (by
    refine XS.ishr X7.here hx rfl (hb hby d_m0_41) rfl ?_
    refine XS.i2b X7.here hx rfl (hb hby d_m0_42) rfl ?_
    exact ht)
  obtain ⟨cl9, Ar9, q9, S9, M9, H9, G9⟩ := id V_A
  have hin9 : ¬ ((Int32.ofNat (2 * i)) < 0 ∨ cl9.slots.size ≤ ((Int32.ofNat (2 * i))).toNatClampNeg) := inb_of S9 ⟨own_nneg (by omega), own_ltz hz (by omega) (by omega)⟩
  obtain ⟨T9, h9, X9, e9, W9, st9⟩ := stB X7 hx hZ e7 Ar9 (j := (Int32.ofNat (2 * i))) hin9 (g := (mkF m 43 #[.val (.ref r0), .val (.int (Int32.ofNat (2 * i + 1))), .val (.int p2)] [(.int ((p2 >>> ((0 : Int32) &&& 31)).toInt8.toInt32)), (.int (Int32.ofNat (2 * i))), (.ref r0)])) rfl rfl (hb hby d_m0_43)
  have V9_r0 : Arv Z h9 r0 kA .byte zA ((ls.set (2 * i) (nar .byte ((p2 >>> ((0 : Int32) &&& 31)).toInt8.toInt32))).map Value.int) (.int (0 : Int32)) := by rw [List.map_set]; exact Arv.set Ar9 q9 S9 M9 H9 G9 (fits_nar_byte _) W9 (2 * i) (own_clamp (by omega)) (by rw [List.length_map]; omega)
  have Kp9 : Keep h0 h9 [r0] := (Keep.refl h0 [r0]).wr W9 (Or.inl (by simp))
  have S_LO_c_9 := S_LO.wr W9
  have N9 := Fr.snoc X9 N0 g_r0
  have k10 : Go p.tables e below _ (T9.setTop (mkF m 47 #[.val (.ref r0), .val (.int (Int32.ofNat (2 * i + 1))), .val (.int p2)] [(.int p2), (.int (Int32.ofNat (2 * i + 1))), (.ref r0)])) := fun t ht => st9 t (by
    refine XS.aloadN X9.here hx rfl (hb hby d_m0_44) rfl rfl ?_
    refine XS.iloadN X9.here hx rfl (hb hby d_m0_45) rfl ?_
    refine XS.iloadN X9.here hx rfl (hb hby d_m0_46) rfl ?_
    exact ht)
  obtain ⟨T11, X11, e11, st11⟩ := getS2 X9 hx hZ hown (host := "") (Or.inl (own_w hw 226 rfl)) Via.refl e9 S_LO_c_9 (g := (mkF m 47 #[.val (.ref r0), .val (.int (Int32.ofNat (2 * i + 1))), .val (.int p2)] [(.int p2), (.int (Int32.ofNat (2 * i + 1))), (.ref r0)])) rfl (hb hby d_m0_47)
  have k12 : Go p.tables e below _ (T11.setTop (mkF m 52 #[.val (.ref r0), .val (.int (Int32.ofNat (2 * i + 1))), .val (.int p2)] [(.int ((p2 >>> ((8 : Int32) &&& 31)).toInt8.toInt32)), (.int (Int32.ofNat (2 * i + 1))), (.ref r0)])) := fun t ht => st11 t (by
    refine XS.ishr X11.here hx rfl (hb hby d_m0_50) rfl ?_
    refine XS.i2b X11.here hx rfl (hb hby d_m0_51) rfl ?_
    exact ht)
  obtain ⟨cl13, Ar13, q13, S13, M13, H13, G13⟩ := id V9_r0
  have hin13 : ¬ ((Int32.ofNat (2 * i + 1)) < 0 ∨ cl13.slots.size ≤ ((Int32.ofNat (2 * i + 1))).toNatClampNeg) := inb_of S13 ⟨own_nneg (by omega), own_ltz hz (by omega) (by omega)⟩
  obtain ⟨T13, h13, X13, e13, W13, st13⟩ := stB X11 hx hZ e11 Ar13 (j := (Int32.ofNat (2 * i + 1))) hin13 (g := (mkF m 52 #[.val (.ref r0), .val (.int (Int32.ofNat (2 * i + 1))), .val (.int p2)] [(.int ((p2 >>> ((8 : Int32) &&& 31)).toInt8.toInt32)), (.int (Int32.ofNat (2 * i + 1))), (.ref r0)])) rfl rfl (hb hby d_m0_52)
  have V13_r0 : Arv Z h13 r0 kA .byte zA (((ls.set (2 * i) (nar .byte ((p2 >>> ((0 : Int32) &&& 31)).toInt8.toInt32))).set (2 * i + 1) (nar .byte ((p2 >>> ((8 : Int32) &&& 31)).toInt8.toInt32))).map Value.int) (.int (0 : Int32)) := by rw [List.map_set]; exact Arv.set Ar13 q13 S13 M13 H13 G13 (fits_nar_byte _) W13 (2 * i + 1) (own_clamp (by omega)) (by rw [List.length_map, List.length_set]; omega)
  have Kp13 : Keep h0 h13 [r0] := Kp9.wr W13 (Or.inl (by simp))
  have N13 := Fr.snoc X13 N9 g_r0
  have k13 : Go p.tables e below _ (T13.setTop (mkF m 53 #[.val (.ref r0), .val (.int (Int32.ofNat (2 * i + 1))), .val (.int p2)] [])) := st13
  obtain ⟨fs, hr, hrun, hended, hW, hsame⟩ := X13.leave (v := none) (fun _ => rfl)
  refine ⟨_, _, castTop (ef_putC m r0 (Int32.ofNat i) p2) ((goT k6 (goT k8 (goT k10 (goT k12 k13)))) _ (X13.returnOut hx Bd.returns (hb hby d_m0_53) hr)), hrun, hended, _, _, rfl, ?_, ⟨_, rfl⟩, hW, hsame.mono (by decide) (by decide)⟩
  show Q_putC Z r0 i p2 kA zA ls h0 n0 _ T13.heap _
  rw [e13]
  exact ⟨rfl, N13, Kp13, V13_r0⟩
theorem d_m1_0 : decode jdk_52_method_5_code 0 = .ok (.getstatic 44, 3) := by decide +kernel
theorem d_m1_3 : decode jdk_52_method_5_code 3 = .ok (.ifCond .ne 25, 3) := by decide +kernel
theorem d_m1_28 : decode jdk_52_method_5_code 28 = .ok (.iload_n 1, 1) := by decide +kernel
theorem d_m1_29 : decode jdk_52_method_5_code 29 = .ok (.iconst 1, 1) := by decide +kernel
theorem d_m1_30 : decode jdk_52_method_5_code 30 = .ok (.ishl, 1) := by decide +kernel
theorem d_m1_31 : decode jdk_52_method_5_code 31 = .ok (.istore_n 1, 1) := by decide +kernel
theorem d_m1_32 : decode jdk_52_method_5_code 32 = .ok (.aload_n 0, 1) := by decide +kernel
theorem d_m1_33 : decode jdk_52_method_5_code 33 = .ok (.iload_n 1, 1) := by decide +kernel
theorem d_m1_34 : decode jdk_52_method_5_code 34 = .ok (.iinc 1 1, 3) := by decide +kernel
theorem d_m1_37 : decode jdk_52_method_5_code 37 = .ok (.baload, 1) := by decide +kernel
theorem d_m1_38 : decode jdk_52_method_5_code 38 = .ok (.sipush 255, 3) := by decide +kernel
theorem d_m1_41 : decode jdk_52_method_5_code 41 = .ok (.iand, 1) := by decide +kernel
theorem d_m1_42 : decode jdk_52_method_5_code 42 = .ok (.getstatic 59, 3) := by decide +kernel
theorem d_m1_45 : decode jdk_52_method_5_code 45 = .ok (.ishl, 1) := by decide +kernel
theorem d_m1_46 : decode jdk_52_method_5_code 46 = .ok (.aload_n 0, 1) := by decide +kernel
theorem d_m1_47 : decode jdk_52_method_5_code 47 = .ok (.iload_n 1, 1) := by decide +kernel
theorem d_m1_48 : decode jdk_52_method_5_code 48 = .ok (.baload, 1) := by decide +kernel
theorem d_m1_49 : decode jdk_52_method_5_code 49 = .ok (.sipush 255, 3) := by decide +kernel
theorem d_m1_52 : decode jdk_52_method_5_code 52 = .ok (.iand, 1) := by decide +kernel
theorem d_m1_53 : decode jdk_52_method_5_code 53 = .ok (.getstatic 63, 3) := by decide +kernel
theorem d_m1_56 : decode jdk_52_method_5_code 56 = .ok (.ishl, 1) := by decide +kernel
theorem d_m1_57 : decode jdk_52_method_5_code 57 = .ok (.ior, 1) := by decide +kernel
theorem d_m1_58 : decode jdk_52_method_5_code 58 = .ok (.i2c, 1) := by decide +kernel
theorem d_m1_59 : decode jdk_52_method_5_code 59 = .ok (.ireturn, 1) := by decide +kernel
theorem ef_getC (m : MethodId) (x0 : Addr) (x1 : Int32) : entryFrame m #[(.ref x0), (.int x1)] 2 = mkF m 0 #[.val (.ref x0), .val (.int x1)] [] := by first | (simp [entryFrame, mkF, argsToLocals, Value.category]; done) | rfl
def f_getC (i : Nat) (ls : List Int32) : Int32 := (nar .char (((((ls.getD (2 * i) 0) &&& (255 : Int32)) <<< ((0 : Int32) &&& 31)) ||| (((ls.getD (2 * i + 1) 0) &&& (255 : Int32)) <<< ((8 : Int32) &&& 31))).toUInt32.toUInt16.toUInt32.toInt32))
def Q_getC (Z : State) (r0 : Addr) (i : Nat) (kA : ClassId) (zA : Int32) (ls : List Int32) (h0 : Heap) (n0 : Nat) (v : Option Value) (h : Heap) (L : List Loc) : Prop := v = some (.int (f_getC i ls)) ∧ Fr n0 L ∧ h = h0
set_option maxRecDepth 65536 in
set_option maxHeartbeats 40000000 in
theorem rm_getC (l : Launch) (Z : State) (a0 : Array Value) (hw : HW a0 Z) (ws : List Jvm.Cond) (r0 : Addr) (i : Nat) (kA : ClassId) (zA : Int32) (ls : List Int32) (h0 : Heap) (n0 : Nat) (Z0 : n0 ≤ h0.size) (S_AD : f8 Z h0 (.int (1 : Int32))) (S_HI : f9 Z h0 (.int (0 : Int32))) (S_LO : f10 Z h0 (.int (8 : Int32))) (V_A : own_A Z h0 r0 kA .byte zA ls) (hz : ((2 * i + 1 : Nat) : Int) < zA.toInt) (hl : 2 * i + 1 < ls.length) (hi : i ≤ 64) :
    own_M l Z h0 (⟨"java/lang/StringUTF16", "getChar", "([BI)C"⟩ : MethodName) jdk_52_method_5_code 2 (some .char) ws (rR 0 0 0 0) #[(.ref r0), (.int (Int32.ofNat i))] (Q_getC Z r0 i kA zA ls h0 n0) := by
  refine own_body (own := "java/lang/StringUTF16") (plainFor_of_name pn_0) rfl ?_
  intro p e s m below meth c s₁ Bd hZ hh hx hby hml hown X0 e0
  have N0 := Fr.nil n0
  obtain ⟨T1, X1, e1, st1⟩ := getS2 X0 hx hZ hown (host := "") (Or.inl (own_w hw 224 rfl)) Via.refl e0 S_AD (g := (mkF m 0 #[.val (.ref r0), .val (.int (Int32.ofNat i))] [])) rfl (hb hby d_m1_0)
  have k2 : Go p.tables e below _ (T1.setTop (mkF m 31 #[.val (.ref r0), .val (.int (Int32.ofNat i))] [(.int ((Int32.ofNat i) <<< ((1 : Int32) &&& 31)))])) := fun t ht => st1 t (by
    refine XS.ifYes X1.here hx rfl (pc0 := 3) (pc' := 28) rfl (hb hby d_m1_3) rfl ((if0 _ _).trans (feq (by decide : ¬ ((1 : Int32) = (0 : Int32)))).2) (by decide) (by decide) ?_
    refine XS.iloadN X1.here hx rfl (hb hby d_m1_28) rfl ?_
    refine XS.iconst X1.here hx rfl (hb hby d_m1_29) ?_
    refine XS.ishl X1.here hx rfl (hb hby d_m1_30) rfl ?_
    exact ht)
  have k3 : Go p.tables e below _ (T1.setTop (mkF m 31 #[.val (.ref r0), .val (.int (Int32.ofNat i))] [(.int (Int32.ofNat (2 * i)))])) := goT k2 (by rw [own_shl1 hi]; exact fun _ h => h)
  have k4 : Go p.tables e below _ (T1.setTop (mkF m 37 #[.val (.ref r0), .val (.int ((Int32.ofNat (2 * i)) + (1 : Int32)))] [(.int (Int32.ofNat (2 * i))), (.ref r0)])) := goT k3 fun t ht => (by
    refine XS.istoreN X1.here hx rfl (hb hby d_m1_31) rfl (l' := #[.val (.ref r0), .val (.int (Int32.ofNat (2 * i)))]) rfl ?_
    refine XS.aloadN X1.here hx rfl (hb hby d_m1_32) rfl rfl ?_
    refine XS.iloadN X1.here hx rfl (hb hby d_m1_33) rfl ?_
    refine XS.iinc X1.here hx rfl (hb hby d_m1_34) rfl (l' := #[.val (.ref r0), .val (.int ((Int32.ofNat (2 * i)) + (1 : Int32)))]) rfl ?_
    exact ht)
  have k5 : Go p.tables e below _ (T1.setTop (mkF m 37 #[.val (.ref r0), .val (.int (Int32.ofNat (2 * i + 1)))] [(.int (Int32.ofNat (2 * i))), (.ref r0)])) := goT k4 (by rw [own_add1]; exact fun _ h => h)
  obtain ⟨cl6, Ar6, q6, S6, M6, H6, G6⟩ := id V_A
  have hin6 : ¬ ((Int32.ofNat (2 * i)) < 0 ∨ cl6.slots.size ≤ ((Int32.ofNat (2 * i))).toNatClampNeg) := inb_of S6 ⟨own_nneg (by omega), own_ltz hz (by omega) (by omega)⟩
  have hat6 : cl6.slots[((Int32.ofNat (2 * i))).toNatClampNeg]? = some (.int (ls.getD (2 * i) 0)) := (H6 _ (Nat.lt_of_not_le fun y => hin6 (Or.inr y))).trans (congrArg some (own_getN ls (by omega)))
  have k7 : Go p.tables e below _ (T1.setTop (mkF m 42 #[.val (.ref r0), .val (.int (Int32.ofNat (2 * i + 1)))] [(.int ((ls.getD (2 * i) 0) &&& (255 : Int32)))])) := goT k5 fun t ht => (by
    refine X1.baloadBytes hx (j := (Int32.ofNat (2 * i))) (v := (.int (ls.getD (2 * i) 0))) (by rw [e1]; exact Ar6.1) (State.isArrayOf_alike hZ.alike Ar6.2.1) Ar6.2.2 hin6 hat6 (g := (mkF m 37 #[.val (.ref r0), .val (.int (Int32.ofNat (2 * i + 1)))] [(.int (Int32.ofNat (2 * i))), (.ref r0)])) rfl rfl (hb hby d_m1_37) _ ?_
    refine XS.sipush X1.here hx rfl (hb hby d_m1_38) ?_
    refine XS.iand X1.here hx rfl (hb hby d_m1_41) rfl ?_
    exact ht)
  obtain ⟨T8, X8, e8, st8⟩ := getS2 X1 hx hZ hown (host := "") (Or.inl (own_w hw 225 rfl)) Via.refl e1 S_HI (g := (mkF m 42 #[.val (.ref r0), .val (.int (Int32.ofNat (2 * i + 1)))] [(.int ((ls.getD (2 * i) 0) &&& (255 : Int32)))])) rfl (hb hby d_m1_42)
  have k9 : Go p.tables e below _ (T8.setTop (mkF m 48 #[.val (.ref r0), .val (.int (Int32.ofNat (2 * i + 1)))] [(.int (Int32.ofNat (2 * i + 1))), (.ref r0), (.int (((ls.getD (2 * i) 0) &&& (255 : Int32)) <<< ((0 : Int32) &&& 31)))])) := fun t ht => st8 t (by
    refine XS.ishl X8.here hx rfl (hb hby d_m1_45) rfl ?_
    refine XS.aloadN X8.here hx rfl (hb hby d_m1_46) rfl rfl ?_
    refine XS.iloadN X8.here hx rfl (hb hby d_m1_47) rfl ?_
    exact ht)
  obtain ⟨cl10, Ar10, q10, S10, M10, H10, G10⟩ := id V_A
  have hin10 : ¬ ((Int32.ofNat (2 * i + 1)) < 0 ∨ cl10.slots.size ≤ ((Int32.ofNat (2 * i + 1))).toNatClampNeg) := inb_of S10 ⟨own_nneg (by omega), own_ltz hz (by omega) (by omega)⟩
  have hat10 : cl10.slots[((Int32.ofNat (2 * i + 1))).toNatClampNeg]? = some (.int (ls.getD (2 * i + 1) 0)) := (H10 _ (Nat.lt_of_not_le fun y => hin10 (Or.inr y))).trans (congrArg some (own_getN ls (by omega)))
  have k11 : Go p.tables e below _ (T8.setTop (mkF m 53 #[.val (.ref r0), .val (.int (Int32.ofNat (2 * i + 1)))] [(.int ((ls.getD (2 * i + 1) 0) &&& (255 : Int32))), (.int (((ls.getD (2 * i) 0) &&& (255 : Int32)) <<< ((0 : Int32) &&& 31)))])) := goT k9 fun t ht => (by
    refine X8.baloadBytes hx (j := (Int32.ofNat (2 * i + 1))) (v := (.int (ls.getD (2 * i + 1) 0))) (by rw [e8]; exact Ar10.1) (State.isArrayOf_alike hZ.alike Ar10.2.1) Ar10.2.2 hin10 hat10 (g := (mkF m 48 #[.val (.ref r0), .val (.int (Int32.ofNat (2 * i + 1)))] [(.int (Int32.ofNat (2 * i + 1))), (.ref r0), (.int (((ls.getD (2 * i) 0) &&& (255 : Int32)) <<< ((0 : Int32) &&& 31)))])) rfl rfl (hb hby d_m1_48) _ ?_
    refine XS.sipush X8.here hx rfl (hb hby d_m1_49) ?_
    refine XS.iand X8.here hx rfl (hb hby d_m1_52) rfl ?_
    exact ht)
  obtain ⟨T12, X12, e12, st12⟩ := getS2 X8 hx hZ hown (host := "") (Or.inl (own_w hw 226 rfl)) Via.refl e8 S_LO (g := (mkF m 53 #[.val (.ref r0), .val (.int (Int32.ofNat (2 * i + 1)))] [(.int ((ls.getD (2 * i + 1) 0) &&& (255 : Int32))), (.int (((ls.getD (2 * i) 0) &&& (255 : Int32)) <<< ((0 : Int32) &&& 31)))])) rfl (hb hby d_m1_53)
  have k13 : Go p.tables e below _ (T12.setTop (mkF m 59 #[.val (.ref r0), .val (.int (Int32.ofNat (2 * i + 1)))] [(.int (((((ls.getD (2 * i) 0) &&& (255 : Int32)) <<< ((0 : Int32) &&& 31)) ||| (((ls.getD (2 * i + 1) 0) &&& (255 : Int32)) <<< ((8 : Int32) &&& 31))).toUInt32.toUInt16.toUInt32.toInt32))])) := fun t ht => st12 t (by
    refine XS.ishl X12.here hx rfl (hb hby d_m1_56) rfl ?_
    refine XS.ior X12.here hx rfl (hb hby d_m1_57) rfl ?_
    refine XS.i2c X12.here hx rfl (hb hby d_m1_58) rfl ?_
    exact ht)
  obtain ⟨fs, hr, hrun, hended, hW, hsame⟩ := X12.leave (v := some (.int (nar .char (((((ls.getD (2 * i) 0) &&& (255 : Int32)) <<< ((0 : Int32) &&& 31)) ||| (((ls.getD (2 * i + 1) 0) &&& (255 : Int32)) <<< ((8 : Int32) &&& 31))).toUInt32.toUInt16.toUInt32.toInt32)))) (fun h => by rw [Bd.returns] at h; cases h)
  refine ⟨_, _, castTop (ef_getC m r0 (Int32.ofNat i)) ((goT k7 (goT k11 k13)) _ (retN X12 hx (t := .char) Bd.returns (by simp) (hb hby d_m1_59) hr)), hrun, hended, _, _, rfl, ?_, ⟨_, rfl⟩, hW, hsame.mono (by decide) (by decide)⟩
  show Q_getC Z r0 i kA zA ls h0 n0 _ T12.heap _
  rw [e12]
  exact ⟨by simp only [f_getC], N0, rfl⟩
theorem d_m2_0 : decode jdk_52_method_6_code 0 = .ok (.aload_n 0, 1) := by decide +kernel
theorem d_m2_1 : decode jdk_52_method_6_code 1 = .ok (.arraylength, 1) := by decide +kernel
theorem d_m2_2 : decode jdk_52_method_6_code 2 = .ok (.iconst 1, 1) := by decide +kernel
theorem d_m2_3 : decode jdk_52_method_6_code 3 = .ok (.ishr, 1) := by decide +kernel
theorem d_m2_4 : decode jdk_52_method_6_code 4 = .ok (.ireturn, 1) := by decide +kernel
theorem ef_lenU (m : MethodId) (x0 : Addr) : entryFrame m #[(.ref x0)] 1 = mkF m 0 #[.val (.ref x0)] [] := by first | (simp [entryFrame, mkF, argsToLocals, Value.category]; done) | rfl
def Q_lenU (Z : State) (r0 : Addr) (kA : ClassId) (M : Nat) (ls : List Int32) (h0 : Heap) (n0 : Nat) (v : Option Value) (h : Heap) (L : List Loc) : Prop := v = some (.int (Int32.ofNat M)) ∧ Fr n0 L ∧ h = h0
set_option maxRecDepth 65536 in
set_option maxHeartbeats 40000000 in
theorem rm_lenU (l : Launch) (Z : State) (a0 : Array Value) (hw : HW a0 Z) (ws : List Jvm.Cond) (r0 : Addr) (kA : ClassId) (M : Nat) (ls : List Int32) (h0 : Heap) (n0 : Nat) (Z0 : n0 ≤ h0.size) (V_A : own_A Z h0 r0 kA .byte (Int32.ofNat (2 * M)) ls) (hM : M ≤ 64) :
    own_M l Z h0 (⟨"java/lang/StringUTF16", "length", "([B)I"⟩ : MethodName) jdk_52_method_6_code 1 (some .int) ws (rR 0 0 0 0) #[(.ref r0)] (Q_lenU Z r0 kA M ls h0 n0) := by
  refine own_body (own := "java/lang/StringUTF16") (plainFor_of_name pn_0) rfl ?_
  intro p e s m below meth c s₁ Bd hZ hh hx hby hml hown X0 e0
  have N0 := Fr.nil n0
  have k1 : Go p.tables e below (s₁.setTop (mkF m 0 #[.val (.ref r0)] [])) (s₁.setTop (mkF m 1 #[.val (.ref r0)] [(.ref r0)])) := by
    intro t ht
    refine XS.aloadN X0.here hx rfl (hb hby d_m2_0) rfl rfl ?_
    exact ht
  obtain ⟨cl2, Ar2, q2, S2, M2, H2, G2⟩ := id V_A
  have k3 : Go p.tables e below _ (s₁.setTop (mkF m 4 #[.val (.ref r0)] [(.int ((Int32.ofNat (2 * M)) >>> ((1 : Int32) &&& 31)))])) := goT k1 fun t ht => (by
    refine X0.arraylength hx (by rw [e0]; exact Ar2.1) (State.isArrayOf_alike hZ.alike Ar2.2.1) (g := (mkF m 1 #[.val (.ref r0)] [(.ref r0)])) rfl rfl (hb hby d_m2_1) _ ?_
    rw [len_of S2 M2]
    refine XS.iconst X0.here hx rfl (hb hby d_m2_2) ?_
    refine XS.ishr X0.here hx rfl (hb hby d_m2_3) rfl ?_
    exact ht)
  have k4 : Go p.tables e below _ (s₁.setTop (mkF m 4 #[.val (.ref r0)] [(.int (Int32.ofNat M))])) := goT k3 (by rw [own_shr1 hM]; exact fun _ h => h)
  obtain ⟨fs, hr, hrun, hended, hW, hsame⟩ := X0.leave (v := some (.int (Int32.ofNat M))) (fun h => by rw [Bd.returns] at h; cases h)
  refine ⟨_, _, castTop (ef_lenU m r0) (k4 _ (retI X0 hx Bd.returns (hb hby d_m2_4) hr)), hrun, hended, _, _, rfl, ?_, ⟨_, rfl⟩, hW, hsame.mono (by decide) (by decide)⟩
  show Q_lenU Z r0 kA M ls h0 n0 _ s₁.heap _
  rw [e0]
  exact ⟨rfl, N0, rfl⟩
theorem d_m3_0 : decode jdk_52_method_3_code 0 = .ok (.iload_n 0, 1) := by decide +kernel
theorem d_m3_1 : decode jdk_52_method_3_code 1 = .ok (.ifCond .ge 11, 3) := by decide +kernel
theorem d_m3_12 : decode jdk_52_method_3_code 12 = .ok (.iload_n 0, 1) := by decide +kernel
theorem d_m3_13 : decode jdk_52_method_3_code 13 = .ok (.ldc 20, 2) := by decide +kernel
theorem d_m3_15 : decode jdk_52_method_3_code 15 = .ok (.if_icmp .lt 40, 3) := by decide +kernel
theorem d_m3_55 : decode jdk_52_method_3_code 55 = .ok (.iload_n 0, 1) := by decide +kernel
theorem d_m3_56 : decode jdk_52_method_3_code 56 = .ok (.iconst 1, 1) := by decide +kernel
theorem d_m3_57 : decode jdk_52_method_3_code 57 = .ok (.ishl, 1) := by decide +kernel
theorem d_m3_58 : decode jdk_52_method_3_code 58 = .ok (.ireturn, 1) := by decide +kernel
theorem ef_nbl (m : MethodId) (x0 : Int32) : entryFrame m #[(.int x0)] 1 = mkF m 0 #[.val (.int x0)] [] := by first | (simp [entryFrame, mkF, argsToLocals, Value.category]; done) | rfl
def Q_nbl (Z : State) (n : Nat) (h0 : Heap) (n0 : Nat) (v : Option Value) (h : Heap) (L : List Loc) : Prop := v = some (.int (Int32.ofNat (2 * n))) ∧ Fr n0 L ∧ h = h0
set_option maxRecDepth 65536 in
set_option maxHeartbeats 40000000 in
theorem rm_nbl (l : Launch) (Z : State) (a0 : Array Value) (hw : HW a0 Z) (ws : List Jvm.Cond) (n : Nat) (h0 : Heap) (n0 : Nat) (Z0 : n0 ≤ h0.size) (hn : n ≤ 64) :
    own_M l Z h0 (⟨"java/lang/StringUTF16", "newBytesLength", "(I)I"⟩ : MethodName) jdk_52_method_3_code 1 (some .int) ws (rR 0 0 0 0) #[(.int (Int32.ofNat n))] (Q_nbl Z n h0 n0) := by
  refine own_body (own := "java/lang/StringUTF16") (plainFor_of_name pn_0) rfl ?_
  intro p e s m below meth c s₁ Bd hZ hh hx hby hml hown X0 e0
  have N0 := Fr.nil n0
  have k1 : Go p.tables e below (s₁.setTop (mkF m 0 #[.val (.int (Int32.ofNat n))] [])) (s₁.setTop (mkF m 58 #[.val (.int (Int32.ofNat n))] [(.int ((Int32.ofNat n) <<< ((1 : Int32) &&& 31)))])) := by
    intro t ht
    refine XS.iloadN X0.here hx rfl (hb hby d_m3_0) rfl ?_
    refine XS.ifYes X0.here hx rfl (pc0 := 1) (pc' := 12) rfl (hb hby d_m3_1) rfl ((if0 _ _).trans (flt (own_nneg (by omega))).2.1) (by decide) (by decide) ?_
    refine XS.iloadN X0.here hx rfl (hb hby d_m3_12) rfl ?_
    refine X0.ldcInt hx hown (mvT hZ (own_w hw 220 rfl)) (g := (mkF m 13 #[.val (.int (Int32.ofNat n))] [(.int (Int32.ofNat n))])) rfl (hb hby d_m3_13) _ ?_
    refine XS.icmpYes X0.here hx rfl (pc0 := 15) (pc' := 55) rfl (hb hby d_m3_15) rfl (tlt (own_ltc hn)).1 (by decide) (by decide) ?_
    refine XS.iloadN X0.here hx rfl (hb hby d_m3_55) rfl ?_
    refine XS.iconst X0.here hx rfl (hb hby d_m3_56) ?_
    refine XS.ishl X0.here hx rfl (hb hby d_m3_57) rfl ?_
    exact ht
  have k2 : Go p.tables e below _ (s₁.setTop (mkF m 58 #[.val (.int (Int32.ofNat n))] [(.int (Int32.ofNat (2 * n)))])) := goT k1 (by rw [own_shl1 hn]; exact fun _ h => h)
  obtain ⟨fs, hr, hrun, hended, hW, hsame⟩ := X0.leave (v := some (.int (Int32.ofNat (2 * n)))) (fun h => by rw [Bd.returns] at h; cases h)
  refine ⟨_, _, castTop (ef_nbl m (Int32.ofNat n)) (k2 _ (retI X0 hx Bd.returns (hb hby d_m3_58) hr)), hrun, hended, _, _, rfl, ?_, ⟨_, rfl⟩, hW, hsame.mono (by decide) (by decide)⟩
  show Q_nbl Z n h0 n0 _ s₁.heap _
  rw [e0]
  exact ⟨rfl, N0, rfl⟩
theorem pd_0 : parseMethodDescriptor "(I)I" = some ⟨[.int], some .int⟩ := by decide +kernel
theorem d_m4_0 : decode jdk_52_method_2_code 0 = .ok (.iload_n 0, 1) := by decide +kernel
theorem d_m4_1 : decode jdk_52_method_2_code 1 = .ok (.invokestatic 11, 3) := by decide +kernel
theorem d_m4_4 : decode jdk_52_method_2_code 4 = .ok (.newarray .byte, 2) := by decide +kernel
theorem d_m4_6 : decode jdk_52_method_2_code 6 = .ok (.areturn, 1) := by decide +kernel
theorem ef_nbf (m : MethodId) (x0 : Int32) : entryFrame m #[(.int x0)] 1 = mkF m 0 #[.val (.int x0)] [] := by first | (simp [entryFrame, mkF, argsToLocals, Value.category]; done) | rfl
def Q_nbf (Z : State) (n : Nat) (h0 : Heap) (n0 : Nat) (v : Option Value) (h : Heap) (L : List Loc) : Prop := ∃ (xb : Addr) (xk : ClassId), v = some (.ref xb) ∧ Fr n0 L ∧ Keep h0 h [] ∧ h0.size ≤ xb ∧ own_A Z h xb xk .byte (Int32.ofNat (2 * n)) (List.replicate (2 * n) (0 : Int32))
set_option maxRecDepth 65536 in
set_option maxHeartbeats 40000000 in
theorem rm_nbf (l : Launch) (Z : State) (a0 : Array Value) (hw : HW a0 Z) (ws : List Jvm.Cond) (n : Nat) (h0 : Heap) (n0 : Nat) (Z0 : n0 ≤ h0.size) (hn : n ≤ 24) :
    own_M l Z h0 (⟨"java/lang/StringUTF16", "newBytesFor", "(I)[B"⟩ : MethodName) jdk_52_method_2_code 1 (some (.array .byte)) ws (rR 1 1 48 12) #[(.int (Int32.ofNat n))] (Q_nbf Z n h0 n0) := by
  refine own_body (own := "java/lang/StringUTF16") (plainFor_of_name pn_0) rfl ?_
  intro p e s m below meth c s₁ Bd hZ hh hx hby hml hown X0 e0
  have N0 := Fr.nil n0
  have k1 : Go p.tables e below (s₁.setTop (mkF m 0 #[.val (.int (Int32.ofNat n))] [])) (s₁.setTop (mkF m 1 #[.val (.int (Int32.ofNat n))] [(.int (Int32.ofNat n))])) := by
    intro t ht
    refine XS.iloadN X0.here hx rfl (hb hby d_m4_0) rfl ?_
    exact ht
  have rq2 := Jvm.LawKit.callS X0 hx (y := (⟨"java/lang/StringUTF16", "newBytesLength", "(I)I"⟩ : MethodName)) hown (mvT hZ (own_w hw 217 rfl)) (mvT hZ (own_w hw 218 rfl)) (mvT hZ (own_w hw 175 rfl)) (mvT hZ (own_w hw 219 rfl)) (by decide) (backOf (W := 0) (rm_nbl l Z a0 hw [] n h0 n0 Z0 (by omega : n ≤ 64)) hZ (own_w hw 219 rfl) (own_w hw 175 rfl) (by decide) (by decide)) (g := (mkF m 1 #[.val (.int (Int32.ofNat n))] [(.int (Int32.ofNat n))])) rfl (by rw [hml]; rfl) (argsL := [(.int (Int32.ofNat n))]) (rest := []) (lenOf pd_0 rfl) rfl (by show 2 * 0 + _ ≤ _; exact Nat.le_of_eq rfl) (hb hby d_m4_1) (fun _ _ => ⟨rfl, e0, (by decide : 0 + 0 ≤ _), (by decide : 0 + 0 ≤ _)⟩)
  obtain ⟨_, T2, L2, X2, ⟨rfl, N2q, eq2⟩, st2⟩ := own_rS X0 rq2
  have N2 := Fr.app N0 N2q
  have k2 : Go p.tables e below _ (T2.setTop (mkF m 4 #[.val (.int (Int32.ofNat n))] [(.int (Int32.ofNat (2 * n)))])) := st2
  obtain ⟨T3, h3, kc3, X3, e3, E3, A3, st3⟩ := newP X2 hx hZ (own_w hw 14 rfl) eq2 (g := (mkF m 4 #[.val (.int (Int32.ofNat n))] [(.int (Int32.ofNat (2 * n)))])) rfl (hb hby d_m4_4) rfl (own_nneg (by omega)) (cap := 48) (own_clampLe (by omega)) (by decide) (by decide) (by decide)
  obtain ⟨b3, g3⟩ : ∃ z, z = h0.size := ⟨_, rfl⟩
  rw [← g3] at A3 st3
  have sz_b3 : h0.size ≤ b3 := Nat.le_trans (Keep.refl h0 []).1 (Nat.le_of_eq g3.symm)
  have Kp3 : Keep h0 h3 [] := (Keep.refl h0 []).ext E3
  have V_b3 : Arv Z h3 b3 kc3 .byte (Int32.ofNat (2 * n)) ((List.replicate (2 * n) (0 : Int32)).map Value.int) (.int (0 : Int32)) := (Arv.new A3 (own_nneg (by omega))).pad own_pad
  have k3 : Go p.tables e below _ (T3.setTop (mkF m 6 #[.val (.int (Int32.ofNat n))] [(.ref b3)])) := st3
  obtain ⟨fs, hr, hrun, hended, hW, hsame⟩ := X3.leave (v := some (.ref b3)) (fun h => by rw [Bd.returns] at h; cases h)
  refine ⟨_, _, castTop (ef_nbf m (Int32.ofNat n)) ((goT k1 (goT k2 k3)) _ (retA X3 hx Bd.returns (hb hby d_m4_6) hr)), hrun, hended, _, _, rfl, ?_, ⟨_, rfl⟩, hW, hsame.mono (by decide) (by decide)⟩
  show Q_nbf Z n h0 n0 _ T3.heap _
  rw [e3]
  exact ⟨b3, kc3, rfl, N2, Kp3, sz_b3, V_b3⟩
theorem d_m5_0 : decode jdk_41_method_13_code 0 = .ok (.iload_n 2, 1) := by decide +kernel
theorem d_m5_1 : decode jdk_41_method_13_code 1 = .ok (.iload_n 0, 1) := by decide +kernel
theorem d_m5_2 : decode jdk_41_method_13_code 2 = .ok (.ior, 1) := by decide +kernel
theorem d_m5_3 : decode jdk_41_method_13_code 3 = .ok (.iload_n 1, 1) := by decide +kernel
theorem d_m5_4 : decode jdk_41_method_13_code 4 = .ok (.ior, 1) := by decide +kernel
theorem d_m5_5 : decode jdk_41_method_13_code 5 = .ok (.ifCond .lt 10, 3) := by decide +kernel
theorem d_m5_8 : decode jdk_41_method_13_code 8 = .ok (.iload_n 1, 1) := by decide +kernel
theorem d_m5_9 : decode jdk_41_method_13_code 9 = .ok (.iload_n 2, 1) := by decide +kernel
theorem d_m5_10 : decode jdk_41_method_13_code 10 = .ok (.iload_n 0, 1) := by decide +kernel
theorem d_m5_11 : decode jdk_41_method_13_code 11 = .ok (.isub, 1) := by decide +kernel
theorem d_m5_12 : decode jdk_41_method_13_code 12 = .ok (.if_icmp .le 11, 3) := by decide +kernel
theorem d_m5_23 : decode jdk_41_method_13_code 23 = .ok (.iload_n 0, 1) := by decide +kernel
theorem d_m5_24 : decode jdk_41_method_13_code 24 = .ok (.ireturn, 1) := by decide +kernel
theorem pn_1 : plainName "jdk/internal/util/Preconditions" = true := by first | (simp [plainName, overriddenIn]; done) | decide +kernel
theorem ef_cfis (m : MethodId) (x0 : Int32) (x1 : Int32) (x2 : Int32) (x3 : Value) (hx3 : x3.category = 1) : entryFrame m #[(.int x0), (.int x1), (.int x2), x3] 4 = mkF m 0 #[.val (.int x0), .val (.int x1), .val (.int x2), .val x3] [] := by cases x3 <;> first | (simp [entryFrame, mkF, argsToLocals, Value.category]; done) | (simp [Value.category] at hx3; done)
def Q_cfis (Z : State) (na : Nat) (nb : Nat) (nc : Nat) (fm : Value) (h0 : Heap) (n0 : Nat) (v : Option Value) (h : Heap) (L : List Loc) : Prop := v = some (.int (Int32.ofNat na)) ∧ Fr n0 L ∧ h = h0
set_option maxRecDepth 65536 in
set_option maxHeartbeats 40000000 in
theorem rm_cfis (l : Launch) (Z : State) (a0 : Array Value) (hw : HW a0 Z) (ws : List Jvm.Cond) (na : Nat) (nb : Nat) (nc : Nat) (fm : Value) (h0 : Heap) (n0 : Nat) (Z0 : n0 ≤ h0.size) (hc : na + nb ≤ nc ∧ nc ≤ 64) (rf : fm.isRef = true) :
    own_M l Z h0 (⟨"jdk/internal/util/Preconditions", "checkFromIndexSize", "(IIILjava/util/function/BiFunction;)I"⟩ : MethodName) jdk_41_method_13_code 4 (some .int) ws (rR 0 0 0 0) #[(.int (Int32.ofNat na)), (.int (Int32.ofNat nb)), (.int (Int32.ofNat nc)), fm] (Q_cfis Z na nb nc fm h0 n0) := by
  refine own_body (own := "jdk/internal/util/Preconditions") (plainFor_of_name pn_1) rfl ?_
  intro p e s m below meth c s₁ Bd hZ hh hx hby hml hown X0 e0
  have N0 := Fr.nil n0
  have k1 : Go p.tables e below (s₁.setTop (mkF m 0 #[.val (.int (Int32.ofNat na)), .val (.int (Int32.ofNat nb)), .val (.int (Int32.ofNat nc)), .val fm] [])) (s₁.setTop (mkF m 24 #[.val (.int (Int32.ofNat na)), .val (.int (Int32.ofNat nb)), .val (.int (Int32.ofNat nc)), .val fm] [(.int (Int32.ofNat na))])) := by
    intro t ht
    refine XS.iloadN X0.here hx rfl (hb hby d_m5_0) rfl ?_
    refine XS.iloadN X0.here hx rfl (hb hby d_m5_1) rfl ?_
    refine XS.ior X0.here hx rfl (hb hby d_m5_2) rfl ?_
    refine XS.iloadN X0.here hx rfl (hb hby d_m5_3) rfl ?_
    refine XS.ior X0.here hx rfl (hb hby d_m5_4) rfl ?_
    refine XS.ifNo X0.here hx rfl (hb hby d_m5_5) rfl ((if0 _ _).trans (flt (own_or3 hc)).1) ?_
    refine XS.iloadN X0.here hx rfl (hb hby d_m5_8) rfl ?_
    refine XS.iloadN X0.here hx rfl (hb hby d_m5_9) rfl ?_
    refine XS.iloadN X0.here hx rfl (hb hby d_m5_10) rfl ?_
    refine XS.isub X0.here hx rfl (hb hby d_m5_11) rfl ?_
    refine XS.icmpYes X0.here hx rfl (pc0 := 12) (pc' := 23) rfl (hb hby d_m5_12) rfl (flt (own_subge hc)).2.2.2 (by decide) (by decide) ?_
    refine XS.iloadN X0.here hx rfl (hb hby d_m5_23) rfl ?_
    exact ht
  obtain ⟨fs, hr, hrun, hended, hW, hsame⟩ := X0.leave (v := some (.int (Int32.ofNat na))) (fun h => by rw [Bd.returns] at h; cases h)
  refine ⟨_, _, castTop (ef_cfis m (Int32.ofNat na) (Int32.ofNat nb) (Int32.ofNat nc) fm (own_cat rf)) (k1 _ (retI X0 hx Bd.returns (hb hby d_m5_24) hr)), hrun, hended, _, _, rfl, ?_, ⟨_, rfl⟩, hW, hsame.mono (by decide) (by decide)⟩
  show Q_cfis Z na nb nc fm h0 n0 _ s₁.heap _
  rw [e0]
  exact ⟨rfl, N0, rfl⟩
theorem pd_1 : parseMethodDescriptor "(IIILjava/util/function/BiFunction;)I" = some ⟨[.int, .int, .int, (.object "java/util/function/BiFunction")], some .int⟩ := by decide +kernel
theorem d_m6_0 : decode jdk_42_method_157_code 0 = .ok (.iload_n 0, 1) := by decide +kernel
theorem d_m6_1 : decode jdk_42_method_157_code 1 = .ok (.iload_n 1, 1) := by decide +kernel
theorem d_m6_2 : decode jdk_42_method_157_code 2 = .ok (.iload_n 2, 1) := by decide +kernel
theorem d_m6_3 : decode jdk_42_method_157_code 3 = .ok (.getstatic 1053, 3) := by decide +kernel
theorem d_m6_6 : decode jdk_42_method_157_code 6 = .ok (.invokestatic 1065, 3) := by decide +kernel
theorem d_m6_9 : decode jdk_42_method_157_code 9 = .ok (.ireturn, 1) := by decide +kernel
theorem pn_2 : plainName "java/lang/String" = true := by first | (simp [plainName, overriddenIn]; done) | decide +kernel
theorem ef_cboc (m : MethodId) (x0 : Int32) (x1 : Int32) (x2 : Int32) : entryFrame m #[(.int x0), (.int x1), (.int x2)] 3 = mkF m 0 #[.val (.int x0), .val (.int x1), .val (.int x2)] [] := by first | (simp [entryFrame, mkF, argsToLocals, Value.category]; done) | rfl
def Q_cboc (Z : State) (na : Nat) (nb : Nat) (nc : Nat) (fm : Value) (h0 : Heap) (n0 : Nat) (v : Option Value) (h : Heap) (L : List Loc) : Prop := v = some (.int (Int32.ofNat na)) ∧ Fr n0 L ∧ h = h0
set_option maxRecDepth 65536 in
set_option maxHeartbeats 40000000 in
theorem rm_cboc (l : Launch) (Z : State) (a0 : Array Value) (hw : HW a0 Z) (ws : List Jvm.Cond) (na : Nat) (nb : Nat) (nc : Nat) (fm : Value) (h0 : Heap) (n0 : Nat) (Z0 : n0 ≤ h0.size) (S_SI : f11 Z h0 fm) (hc : na + nb ≤ nc ∧ nc ≤ 64) (rf : fm.isRef = true) :
    own_M l Z h0 (⟨"java/lang/String", "checkBoundsOffCount", "(III)I"⟩ : MethodName) jdk_42_method_157_code 3 (some .int) ws (rR 1 0 0 15) #[(.int (Int32.ofNat na)), (.int (Int32.ofNat nb)), (.int (Int32.ofNat nc))] (Q_cboc Z na nb nc fm h0 n0) := by
  refine own_body (own := "java/lang/String") (plainFor_of_name pn_2) rfl ?_
  intro p e s m below meth c s₁ Bd hZ hh hx hby hml hown X0 e0
  have N0 := Fr.nil n0
  have k1 : Go p.tables e below (s₁.setTop (mkF m 0 #[.val (.int (Int32.ofNat na)), .val (.int (Int32.ofNat nb)), .val (.int (Int32.ofNat nc))] [])) (s₁.setTop (mkF m 3 #[.val (.int (Int32.ofNat na)), .val (.int (Int32.ofNat nb)), .val (.int (Int32.ofNat nc))] [(.int (Int32.ofNat nc)), (.int (Int32.ofNat nb)), (.int (Int32.ofNat na))])) := by
    intro t ht
    refine XS.iloadN X0.here hx rfl (hb hby d_m6_0) rfl ?_
    refine XS.iloadN X0.here hx rfl (hb hby d_m6_1) rfl ?_
    refine XS.iloadN X0.here hx rfl (hb hby d_m6_2) rfl ?_
    exact ht
  obtain ⟨T2, X2, e2, st2⟩ := getS2 X0 hx hZ hown (host := "") (Or.inl (own_w hw 252 rfl)) Via.refl e0 S_SI (g := (mkF m 3 #[.val (.int (Int32.ofNat na)), .val (.int (Int32.ofNat nb)), .val (.int (Int32.ofNat nc))] [(.int (Int32.ofNat nc)), (.int (Int32.ofNat nb)), (.int (Int32.ofNat na))])) rfl (hb hby d_m6_3)
  have k2 : Go p.tables e below _ (T2.setTop (mkF m 6 #[.val (.int (Int32.ofNat na)), .val (.int (Int32.ofNat nb)), .val (.int (Int32.ofNat nc))] [fm, (.int (Int32.ofNat nc)), (.int (Int32.ofNat nb)), (.int (Int32.ofNat na))])) := st2
  have rq3 := Jvm.LawKit.callS X2 hx (y := (⟨"jdk/internal/util/Preconditions", "checkFromIndexSize", "(IIILjava/util/function/BiFunction;)I"⟩ : MethodName)) hown (mvT hZ (own_w hw 254 rfl)) (mvT hZ (own_w hw 255 rfl)) (mvT hZ (own_w hw 253 rfl)) (mvT hZ (own_w hw 256 rfl)) (by decide) (backOf (W := 0) (rm_cfis l Z a0 hw [] na nb nc fm h0 n0 Z0 hc rf) hZ (own_w hw 256 rfl) (own_w hw 253 rfl) (by decide) (by decide)) (g := (mkF m 6 #[.val (.int (Int32.ofNat na)), .val (.int (Int32.ofNat nb)), .val (.int (Int32.ofNat nc))] [fm, (.int (Int32.ofNat nc)), (.int (Int32.ofNat nb)), (.int (Int32.ofNat na))])) rfl (by rw [hml]; rfl) (argsL := [(.int (Int32.ofNat na)), (.int (Int32.ofNat nb)), (.int (Int32.ofNat nc)), fm]) (rest := []) (lenOf pd_1 rfl) rfl (by show 2 * 0 + _ ≤ _; exact Nat.le_of_eq rfl) (hb hby d_m6_6) (fun _ _ => ⟨rfl, e2, (by decide : 0 + 0 ≤ _), (by decide : 0 + 0 ≤ _)⟩)
  obtain ⟨_, T3, L3, X3, ⟨rfl, N3q, eq3⟩, st3⟩ := own_rS X2 rq3
  have N3 := Fr.app N0 N3q
  have k3 : Go p.tables e below _ (T3.setTop (mkF m 9 #[.val (.int (Int32.ofNat na)), .val (.int (Int32.ofNat nb)), .val (.int (Int32.ofNat nc))] [(.int (Int32.ofNat na))])) := st3
  obtain ⟨fs, hr, hrun, hended, hW, hsame⟩ := X3.leave (v := some (.int (Int32.ofNat na))) (fun h => by rw [Bd.returns] at h; cases h)
  refine ⟨_, _, castTop (ef_cboc m (Int32.ofNat na) (Int32.ofNat nb) (Int32.ofNat nc)) ((goT k1 (goT k2 k3)) _ (retI X3 hx Bd.returns (hb hby d_m6_9) hr)), hrun, hended, _, _, rfl, ?_, ⟨_, rfl⟩, hW, hsame.mono (by decide) (by decide)⟩
  show Q_cboc Z na nb nc fm h0 n0 _ T3.heap _
  rw [eq3]
  exact ⟨rfl, N3, rfl⟩
theorem pd_2 : parseMethodDescriptor "([B)I" = some ⟨[(.array .byte)], some .int⟩ := by decide +kernel
theorem pd_3 : parseMethodDescriptor "(III)I" = some ⟨[.int, .int, .int], some .int⟩ := by decide +kernel
theorem d_m7_0 : decode jdk_52_method_94_code 0 = .ok (.iload_n 0, 1) := by decide +kernel
theorem d_m7_1 : decode jdk_52_method_94_code 1 = .ok (.iload_n 1, 1) := by decide +kernel
theorem d_m7_2 : decode jdk_52_method_94_code 2 = .ok (.aload_n 2, 1) := by decide +kernel
theorem d_m7_3 : decode jdk_52_method_94_code 3 = .ok (.invokestatic 48, 3) := by decide +kernel
theorem d_m7_6 : decode jdk_52_method_94_code 6 = .ok (.invokestatic 419, 3) := by decide +kernel
theorem d_m7_9 : decode jdk_52_method_94_code 9 = .ok (.pop, 1) := by decide +kernel
theorem d_m7_10 : decode jdk_52_method_94_code 10 = .ok (.return_, 1) := by decide +kernel
theorem ef_cboU (m : MethodId) (x0 : Int32) (x1 : Int32) (x2 : Addr) : entryFrame m #[(.int x0), (.int x1), (.ref x2)] 3 = mkF m 0 #[.val (.int x0), .val (.int x1), .val (.ref x2)] [] := by first | (simp [entryFrame, mkF, argsToLocals, Value.category]; done) | rfl
def Q_cboU (Z : State) (na : Nat) (nb : Nat) (r2 : Addr) (fm : Value) (kA : ClassId) (nc : Nat) (ls : List Int32) (h0 : Heap) (n0 : Nat) (v : Option Value) (h : Heap) (L : List Loc) : Prop := v = none ∧ Fr n0 L ∧ h = h0
set_option maxRecDepth 65536 in
set_option maxHeartbeats 40000000 in
theorem rm_cboU (l : Launch) (Z : State) (a0 : Array Value) (hw : HW a0 Z) (ws : List Jvm.Cond) (na : Nat) (nb : Nat) (r2 : Addr) (fm : Value) (kA : ClassId) (nc : Nat) (ls : List Int32) (h0 : Heap) (n0 : Nat) (Z0 : n0 ≤ h0.size) (S_SI : f11 Z h0 fm) (V_A : own_A Z h0 r2 kA .byte (Int32.ofNat (2 * nc)) ls) (hc : na + nb ≤ nc ∧ nc ≤ 64) (rf : fm.isRef = true) :
    own_M l Z h0 (⟨"java/lang/StringUTF16", "checkBoundsOffCount", "(II[B)V"⟩ : MethodName) jdk_52_method_94_code 3 none ws (rR 2 0 0 29) #[(.int (Int32.ofNat na)), (.int (Int32.ofNat nb)), (.ref r2)] (Q_cboU Z na nb r2 fm kA nc ls h0 n0) := by
  refine own_body (own := "java/lang/StringUTF16") (plainFor_of_name pn_0) rfl ?_
  intro p e s m below meth c s₁ Bd hZ hh hx hby hml hown X0 e0
  have N0 := Fr.nil n0
  have k1 : Go p.tables e below (s₁.setTop (mkF m 0 #[.val (.int (Int32.ofNat na)), .val (.int (Int32.ofNat nb)), .val (.ref r2)] [])) (s₁.setTop (mkF m 3 #[.val (.int (Int32.ofNat na)), .val (.int (Int32.ofNat nb)), .val (.ref r2)] [(.ref r2), (.int (Int32.ofNat nb)), (.int (Int32.ofNat na))])) := by
    intro t ht
    refine XS.iloadN X0.here hx rfl (hb hby d_m7_0) rfl ?_
    refine XS.iloadN X0.here hx rfl (hb hby d_m7_1) rfl ?_
    refine XS.aloadN X0.here hx rfl (hb hby d_m7_2) rfl rfl ?_
    exact ht
  have rq2 := Jvm.LawKit.callS X0 hx (y := (⟨"java/lang/StringUTF16", "length", "([B)I"⟩ : MethodName)) hown (mvT hZ (own_w hw 246 rfl)) (mvT hZ (own_w hw 247 rfl)) (mvT hZ (own_w hw 175 rfl)) (mvT hZ (own_w hw 248 rfl)) (by decide) (backOf (W := 2) (rm_lenU l Z a0 hw [] r2 kA nc ls h0 n0 Z0 V_A (hc.2 : nc ≤ 64)) hZ (own_w hw 248 rfl) (own_w hw 175 rfl) (by decide) (by decide)) (g := (mkF m 3 #[.val (.int (Int32.ofNat na)), .val (.int (Int32.ofNat nb)), .val (.ref r2)] [(.ref r2), (.int (Int32.ofNat nb)), (.int (Int32.ofNat na))])) rfl (by rw [hml]; rfl) (argsL := [(.ref r2)]) (rest := [(.int (Int32.ofNat nb)), (.int (Int32.ofNat na))]) (lenOf pd_2 rfl) rfl (by show 2 * 0 + _ ≤ _; exact Nat.le_of_eq rfl) (hb hby d_m7_3) (fun _ _ => ⟨rfl, e0, (by decide : 0 + 0 ≤ _), (by decide : 0 + 0 ≤ _)⟩)
  obtain ⟨_, T2, L2, X2, ⟨rfl, N2q, eq2⟩, st2⟩ := own_rS X0 rq2
  have N2 := Fr.app N0 N2q
  have k2 : Go p.tables e below _ (T2.setTop (mkF m 6 #[.val (.int (Int32.ofNat na)), .val (.int (Int32.ofNat nb)), .val (.ref r2)] [(.int (Int32.ofNat nc)), (.int (Int32.ofNat nb)), (.int (Int32.ofNat na))])) := st2
  have rq3 := Jvm.LawKit.callS X2 hx (y := (⟨"java/lang/String", "checkBoundsOffCount", "(III)I"⟩ : MethodName)) hown (mvT hZ (own_w hw 249 rfl)) (mvT hZ (own_w hw 250 rfl)) (mvT hZ (own_w hw 2 rfl)) (mvT hZ (own_w hw 251 rfl)) (by decide) (backOf (W := 0) (rm_cboc l Z a0 hw [] na nb nc fm h0 n0 Z0 S_SI hc rf) hZ (own_w hw 251 rfl) (own_w hw 2 rfl) (by decide) (by decide)) (g := (mkF m 6 #[.val (.int (Int32.ofNat na)), .val (.int (Int32.ofNat nb)), .val (.ref r2)] [(.int (Int32.ofNat nc)), (.int (Int32.ofNat nb)), (.int (Int32.ofNat na))])) rfl (by rw [hml]; rfl) (argsL := [(.int (Int32.ofNat na)), (.int (Int32.ofNat nb)), (.int (Int32.ofNat nc))]) (rest := []) (lenOf pd_3 rfl) rfl (by show 2 * 0 + _ ≤ _; exact Nat.le_of_eq rfl) (hb hby d_m7_6) (fun _ _ => ⟨rfl, eq2, (by decide : 0 + 0 ≤ _), (by decide : 0 + 0 ≤ _)⟩)
  obtain ⟨_, T3, L3, X3, ⟨rfl, N3q, eq3⟩, st3⟩ := own_rS X2 rq3
  have N3 := Fr.app N2 N3q
  have k4 : Go p.tables e below _ (T3.setTop (mkF m 10 #[.val (.int (Int32.ofNat na)), .val (.int (Int32.ofNat nb)), .val (.ref r2)] [])) := fun t ht => st3 t (by
    refine XS.pop X3.here hx rfl (hb hby d_m7_9) rfl rfl ?_
    exact ht)
  obtain ⟨fs, hr, hrun, hended, hW, hsame⟩ := X3.leave (v := none) (fun _ => rfl)
  refine ⟨_, _, castTop (ef_cboU m (Int32.ofNat na) (Int32.ofNat nb) r2) ((goT k1 (goT k2 k4)) _ (X3.returnOut hx Bd.returns (hb hby d_m7_10) hr)), hrun, hended, _, _, rfl, ?_, ⟨_, rfl⟩, hW, hsame.mono (by decide) (by decide)⟩
  show Q_cboU Z na nb r2 fm kA nc ls h0 n0 _ T3.heap _
  rw [eq3]
  exact ⟨rfl, N3, rfl⟩
theorem pd_4 : parseMethodDescriptor "([BII)V" = some ⟨[(.array .byte), .int, .int], none⟩ := by decide +kernel
theorem d_m8_10 : decode jdk_52_method_86_code 10 = .ok (.iload 5, 2) := by decide +kernel
theorem d_m8_12 : decode jdk_52_method_86_code 12 = .ok (.iload 4, 2) := by decide +kernel
theorem d_m8_14 : decode jdk_52_method_86_code 14 = .ok (.if_icmp .ge 27, 3) := by decide +kernel
theorem d_m8_17 : decode jdk_52_method_86_code 17 = .ok (.aload_n 2, 1) := by decide +kernel
theorem d_m8_18 : decode jdk_52_method_86_code 18 = .ok (.iload_n 3, 1) := by decide +kernel
theorem d_m8_19 : decode jdk_52_method_86_code 19 = .ok (.iinc 3 1, 3) := by decide +kernel
theorem d_m8_22 : decode jdk_52_method_86_code 22 = .ok (.aload_n 0, 1) := by decide +kernel
theorem d_m8_23 : decode jdk_52_method_86_code 23 = .ok (.iload_n 1, 1) := by decide +kernel
theorem d_m8_24 : decode jdk_52_method_86_code 24 = .ok (.iinc 1 1, 3) := by decide +kernel
theorem d_m8_27 : decode jdk_52_method_86_code 27 = .ok (.baload, 1) := by decide +kernel
theorem d_m8_28 : decode jdk_52_method_86_code 28 = .ok (.sipush 255, 3) := by decide +kernel
theorem d_m8_31 : decode jdk_52_method_86_code 31 = .ok (.iand, 1) := by decide +kernel
theorem d_m8_32 : decode jdk_52_method_86_code 32 = .ok (.invokestatic 111, 3) := by decide +kernel
theorem d_m8_35 : decode jdk_52_method_86_code 35 = .ok (.iinc 5 1, 3) := by decide +kernel
theorem d_m8_38 : decode jdk_52_method_86_code 38 = .ok (.goto (-28), 3) := by decide +kernel
set_option maxRecDepth 65536 in
set_option maxHeartbeats 40000000 in
theorem pc_inf {p : Program} {l : Launch} {e : Env} {s : State} {m : MethodId} {below : List Frame} {meth : Method} {c : Code} {T0 : State} {locs : List Loc} {Z : State} {a0 : Array Value} {h0 : Heap} {n0 : Nat} (r0 r2 : Addr) (ka kb : ClassId) (za zb : Int32) (src ls : List Int32) (off n i : Nat)
    (X0 : Stand p l e (rR 4 0 0 60) s m #[(.ref r0), (.int (0 : Int32)), (.ref r2), (.int (Int32.ofNat off)), (.int (Int32.ofNat n))] below meth c T0 locs 0 0) (hx : p.tables.exec = Jvm.exec) (hZ : Z.Warmed39 s.vm) (hw : HW a0 Z) (hby : c.code = jdk_52_method_86_code) (hml : c.maxLocals = 6) (hown : s.vm.findClass "java/lang/StringUTF16" = some m.cls) (e0 : T0.heap = h0) (N0 : Fr n0 locs) (Z0 : n0 ≤ h0.size) (S_AD : f8 Z h0 (.int (1 : Int32))) (S_HI : f9 Z h0 (.int (0 : Int32))) (S_LO : f10 Z h0 (.int (8 : Int32))) (Va : own_A Z h0 r0 ka .byte za src) (Vb : own_A Z h0 r2 kb .byte zb ls) (g_r2 : n0 ≤ r2) (hne : r0 ≠ r2) (hi : i < n) (ha : (n : Int) ≤ za.toInt) (hzb : ((2 * (off + n) : Nat) : Int) ≤ zb.toInt) (hll : 2 * (off + n) ≤ ls.length) (hon : off + n ≤ 64) :
    ∃ (T' : State) (L' : List Loc), Stand p l e (rR 4 0 0 60) s m #[(.ref r0), (.int (0 : Int32)), (.ref r2), (.int (Int32.ofNat off)), (.int (Int32.ofNat n))] below meth c T' L' 0 0 ∧ Fr n0 L' ∧ Keep h0 T'.heap [r2] ∧ own_A Z T'.heap r2 kb .byte zb ((ls.set (2 * (off + i)) (own_ul ((src.getD i 0) &&& (255 : Int32)))).set (2 * (off + i) + 1) (own_uh ((src.getD i 0) &&& (255 : Int32)))) ∧ Go p.tables e below (T0.setTop (mkF m 10 #[.val (.ref r0), .val (.int (Int32.ofNat i)), .val (.ref r2), .val (.int (Int32.ofNat (off + i))), .val (.int (Int32.ofNat n)), .val (.int (Int32.ofNat i))] [])) (T'.setTop (mkF m 10 #[.val (.ref r0), .val (.int (Int32.ofNat (i + 1))), .val (.ref r2), .val (.int (Int32.ofNat (off + (i + 1)))), .val (.int (Int32.ofNat n)), .val (.int (Int32.ofNat (i + 1)))] [])) := by
  have k1 : Go p.tables e below (T0.setTop (mkF m 10 #[.val (.ref r0), .val (.int (Int32.ofNat i)), .val (.ref r2), .val (.int (Int32.ofNat (off + i))), .val (.int (Int32.ofNat n)), .val (.int (Int32.ofNat i))] [])) (T0.setTop (mkF m 22 #[.val (.ref r0), .val (.int (Int32.ofNat i)), .val (.ref r2), .val (.int ((Int32.ofNat (off + i)) + (1 : Int32))), .val (.int (Int32.ofNat n)), .val (.int (Int32.ofNat i))] [(.int (Int32.ofNat (off + i))), (.ref r2)])) := by
    intro t ht
    refine XS.iload X0.here hx rfl (hb hby d_m8_10) rfl ?_
    refine XS.iload X0.here hx rfl (hb hby d_m8_12) rfl ?_
    refine XS.icmpNo X0.here hx rfl (hb hby d_m8_14) rfl (tlt (own_ltk hi (by omega))).2.1 ?_
    refine XS.aloadN X0.here hx rfl (hb hby d_m8_17) rfl rfl ?_
    refine XS.iloadN X0.here hx rfl (hb hby d_m8_18) rfl ?_
    refine XS.iinc X0.here hx rfl (hb hby d_m8_19) rfl (l' := #[.val (.ref r0), .val (.int (Int32.ofNat i)), .val (.ref r2), .val (.int ((Int32.ofNat (off + i)) + (1 : Int32))), .val (.int (Int32.ofNat n)), .val (.int (Int32.ofNat i))]) rfl ?_
    exact ht
  have k2 : Go p.tables e below _ (T0.setTop (mkF m 22 #[.val (.ref r0), .val (.int (Int32.ofNat i)), .val (.ref r2), .val (.int (Int32.ofNat (off + (i + 1)))), .val (.int (Int32.ofNat n)), .val (.int (Int32.ofNat i))] [(.int (Int32.ofNat (off + i))), (.ref r2)])) := goT k1 (by rw [own_add1]; exact fun _ h => h)
  have k3 : Go p.tables e below _ (T0.setTop (mkF m 27 #[.val (.ref r0), .val (.int ((Int32.ofNat i) + (1 : Int32))), .val (.ref r2), .val (.int (Int32.ofNat (off + (i + 1)))), .val (.int (Int32.ofNat n)), .val (.int (Int32.ofNat i))] [(.int (Int32.ofNat i)), (.ref r0), (.int (Int32.ofNat (off + i))), (.ref r2)])) := goT k2 fun t ht => (by
    refine XS.aloadN X0.here hx rfl (hb hby d_m8_22) rfl rfl ?_
    refine XS.iloadN X0.here hx rfl (hb hby d_m8_23) rfl ?_
    refine XS.iinc X0.here hx rfl (hb hby d_m8_24) rfl (l' := #[.val (.ref r0), .val (.int ((Int32.ofNat i) + (1 : Int32))), .val (.ref r2), .val (.int (Int32.ofNat (off + (i + 1)))), .val (.int (Int32.ofNat n)), .val (.int (Int32.ofNat i))]) rfl ?_
    exact ht)
  have k4 : Go p.tables e below _ (T0.setTop (mkF m 27 #[.val (.ref r0), .val (.int (Int32.ofNat (i + 1))), .val (.ref r2), .val (.int (Int32.ofNat (off + (i + 1)))), .val (.int (Int32.ofNat n)), .val (.int (Int32.ofNat i))] [(.int (Int32.ofNat i)), (.ref r0), (.int (Int32.ofNat (off + i))), (.ref r2)])) := goT k3 (by rw [own_add1]; exact fun _ h => h)
  obtain ⟨cl5, Ar5, q5, S5, M5, H5, G5⟩ := id Va
  have hin5 : ¬ ((Int32.ofNat i) < 0 ∨ cl5.slots.size ≤ ((Int32.ofNat i)).toNatClampNeg) := inb_of S5 ⟨own_nneg (by omega), own_ltz' ha hi (by omega)⟩
  have hat5 : cl5.slots[((Int32.ofNat i)).toNatClampNeg]? = some (.int (src.getD i 0)) := (H5 _ (Nat.lt_of_not_le fun y => hin5 (Or.inr y))).trans (congrArg some (own_getN src (by omega)))
  have k6 : Go p.tables e below _ (T0.setTop (mkF m 32 #[.val (.ref r0), .val (.int (Int32.ofNat (i + 1))), .val (.ref r2), .val (.int (Int32.ofNat (off + (i + 1)))), .val (.int (Int32.ofNat n)), .val (.int (Int32.ofNat i))] [(.int ((src.getD i 0) &&& (255 : Int32))), (.int (Int32.ofNat (off + i))), (.ref r2)])) := goT k4 fun t ht => (by
    refine X0.baloadBytes hx (j := (Int32.ofNat i)) (v := (.int (src.getD i 0))) (by rw [e0]; exact Ar5.1) (State.isArrayOf_alike hZ.alike Ar5.2.1) Ar5.2.2 hin5 hat5 (g := (mkF m 27 #[.val (.ref r0), .val (.int (Int32.ofNat (i + 1))), .val (.ref r2), .val (.int (Int32.ofNat (off + (i + 1)))), .val (.int (Int32.ofNat n)), .val (.int (Int32.ofNat i))] [(.int (Int32.ofNat i)), (.ref r0), (.int (Int32.ofNat (off + i))), (.ref r2)])) rfl rfl (hb hby d_m8_27) _ ?_
    refine XS.sipush X0.here hx rfl (hb hby d_m8_28) ?_
    refine XS.iand X0.here hx rfl (hb hby d_m8_31) rfl ?_
    exact ht)
  have rq7 := Jvm.LawKit.callS X0 hx (y := (⟨"java/lang/StringUTF16", "putChar", "([BII)V"⟩ : MethodName)) hown (mvT hZ (own_w hw 221 rfl)) (mvT hZ (own_w hw 222 rfl)) (mvT hZ (own_w hw 175 rfl)) (mvT hZ (own_w hw 223 rfl)) (by decide) (backOf (W := 0) (rm_putC l Z a0 hw [] r2 (off + i) ((src.getD i 0) &&& (255 : Int32)) kb zb ls h0 n0 Z0 S_AD S_HI S_LO Vb g_r2 (by omega : ((2 * (off + i) + 1 : Nat) : Int) < zb.toInt) (by omega : 2 * (off + i) + 1 < ls.length) (by omega : (off + i) ≤ 64)) hZ (own_w hw 223 rfl) (own_w hw 175 rfl) (by decide) (by decide)) (g := (mkF m 32 #[.val (.ref r0), .val (.int (Int32.ofNat (i + 1))), .val (.ref r2), .val (.int (Int32.ofNat (off + (i + 1)))), .val (.int (Int32.ofNat n)), .val (.int (Int32.ofNat i))] [(.int ((src.getD i 0) &&& (255 : Int32))), (.int (Int32.ofNat (off + i))), (.ref r2)])) rfl (by rw [hml]; rfl) (argsL := [(.ref r2), (.int (Int32.ofNat (off + i))), (.int ((src.getD i 0) &&& (255 : Int32)))]) (rest := []) (lenOf pd_4 rfl) rfl (by show 2 * 0 + _ ≤ _; exact Nat.le_of_eq rfl) (hb hby d_m8_32) (fun _ _ => ⟨rfl, e0, (by decide : 0 + 0 ≤ _), (by decide : 0 + 0 ≤ _)⟩)
  obtain ⟨_, T7, L7, X7, ⟨rfl, N7q, K7, Fq7_0⟩, st7⟩ := own_rS X0 rq7
  have N7 := Fr.app N0 N7q
  have Kp7 : Keep h0 T7.heap [r2] := (Keep.refl h0 [r2]).trans K7 (allS (Or.inl (by simp)) all0)
  have k8 : Go p.tables e below _ (T7.setTop (mkF m 38 #[.val (.ref r0), .val (.int (Int32.ofNat (i + 1))), .val (.ref r2), .val (.int (Int32.ofNat (off + (i + 1)))), .val (.int (Int32.ofNat n)), .val (.int ((Int32.ofNat i) + (1 : Int32)))] [])) := fun t ht => st7 t (by
    refine XS.iinc X7.here hx rfl (hb hby d_m8_35) rfl (l' := #[.val (.ref r0), .val (.int (Int32.ofNat (i + 1))), .val (.ref r2), .val (.int (Int32.ofNat (off + (i + 1)))), .val (.int (Int32.ofNat n)), .val (.int ((Int32.ofNat i) + (1 : Int32)))]) rfl ?_
    exact ht)
  have k9 : Go p.tables e below _ (T7.setTop (mkF m 38 #[.val (.ref r0), .val (.int (Int32.ofNat (i + 1))), .val (.ref r2), .val (.int (Int32.ofNat (off + (i + 1)))), .val (.int (Int32.ofNat n)), .val (.int (Int32.ofNat (i + 1)))] [])) := goT k8 (by rw [own_add1]; exact fun _ h => h)
  have k10 : Go p.tables e below _ (T7.setTop (mkF m 10 #[.val (.ref r0), .val (.int (Int32.ofNat (i + 1))), .val (.ref r2), .val (.int (Int32.ofNat (off + (i + 1)))), .val (.int (Int32.ofNat n)), .val (.int (Int32.ofNat (i + 1)))] [])) := goT k9 fun t ht => (by
    refine XS.goto X7.here hx rfl (pc0 := 38) (pc' := 10) rfl (hb hby d_m8_38) (by decide) (by decide) ?_
    exact ht)
  exact ⟨T7, _, X7, N7, Kp7, Fq7_0, (goT k6 k10)⟩
def own_infl (src : List Int32) (off : Nat) : Nat → Nat → List Int32 → List Int32
  | 0, _, ls => ls
  | r + 1, i, ls => own_infl src off r (i + 1) ((ls.set (2 * (off + i)) (own_ul ((src.getD i 0) &&& (255 : Int32)))).set (2 * (off + i) + 1) (own_uh ((src.getD i 0) &&& (255 : Int32))))
theorem lp_inf {p : Program} {l : Launch} {e : Env} {s : State} {m : MethodId} {below : List Frame} {meth : Method} {c : Code} {Z : State} {a0 : Array Value} {n0 : Nat} (r0 r2 : Addr) (ka kb : ClassId) (za zb : Int32) (src : List Int32) (off n : Nat) (hx : p.tables.exec = Jvm.exec) (hZ : Z.Warmed39 s.vm) (hw : HW a0 Z) (hby : c.code = jdk_52_method_86_code) (hml : c.maxLocals = 6) (hown : s.vm.findClass "java/lang/StringUTF16" = some m.cls) (g_r2 : n0 ≤ r2) (hne : r0 ≠ r2) (ha : (n : Int) ≤ za.toInt) (hzb : ((2 * (off + n) : Nat) : Int) ≤ zb.toInt) (hon : off + n ≤ 64) (r : Nat) :
    ∀ (i : Nat) (ls : List Int32) (h0 : Heap) (T0 : State) (locs : List Loc) (_ : Stand p l e (rR 4 0 0 60) s m #[(.ref r0), (.int (0 : Int32)), (.ref r2), (.int (Int32.ofNat off)), (.int (Int32.ofNat n))] below meth c T0 locs 0 0) (_ : T0.heap = h0) (_ : Fr n0 locs) (_ : n0 ≤ h0.size) (_ : f8 Z h0 (.int (1 : Int32))) (_ : f9 Z h0 (.int (0 : Int32))) (_ : f10 Z h0 (.int (8 : Int32))) (_ : own_A Z h0 r0 ka .byte za src) (_ : Arv Z h0 r2 kb .byte zb (ls.map Value.int) (.int (0 : Int32))) (_ : 2 * (off + n) ≤ ls.length) (_ : i + r = n),
    ∃ (T' : State) (L' : List Loc), Stand p l e (rR 4 0 0 60) s m #[(.ref r0), (.int (0 : Int32)), (.ref r2), (.int (Int32.ofNat off)), (.int (Int32.ofNat n))] below meth c T' L' 0 0 ∧ Fr n0 L' ∧ Keep h0 T'.heap [r2] ∧ Arv Z T'.heap r2 kb .byte zb ((own_infl src off r i ls).map Value.int) (.int (0 : Int32)) ∧ Go p.tables e below (T0.setTop (mkF m 10 #[.val (.ref r0), .val (.int (Int32.ofNat i)), .val (.ref r2), .val (.int (Int32.ofNat (off + i))), .val (.int (Int32.ofNat n)), .val (.int (Int32.ofNat i))] [])) (T'.setTop (mkF m 10 #[.val (.ref r0), .val (.int (Int32.ofNat n)), .val (.ref r2), .val (.int (Int32.ofNat (off + n))), .val (.int (Int32.ofNat n)), .val (.int (Int32.ofNat n))] [])) := by
  induction r with
  | zero =>
    intro i ls h0 T0 locs X0 e0 N0 Z0 S_AD S_HI S_LO Va Vb hll hir
    obtain rfl : i = n := by omega
    exact ⟨T0, locs, X0, N0, by rw [e0]; exact Keep.refl _ _, by rw [e0]; exact Vb, fun _ h => h⟩
  | succ r ih =>
    intro i ls h0 T0 locs X0 e0 N0 Z0 S_AD S_HI S_LO Va Vb hll hir
    obtain ⟨T1, L1, X1, N1, K1, V1, k1⟩ := pc_inf r0 r2 ka kb za zb src ls off n i X0 hx hZ hw hby hml hown e0 N0 Z0 S_AD S_HI S_LO Va Vb g_r2 hne (by omega) ha hzb hll hon
    obtain ⟨T2, L2, X2, N2, K2, V2, k2⟩ := ih (i + 1) _ T1.heap T1 L1 X1 rfl N1 (Nat.le_trans Z0 K1.1) (own_sta_keepV S_AD Vb K1) (own_sta_keepV S_HI Vb K1) (own_sta_keepV S_LO Vb K1) (Va.keep K1 (ninS hne nin0)) V1 (by simpa using hll) (by omega)
    exact ⟨T2, L2, X2, N2, K1.trans K2 (fun x hx => Or.inl hx), V2, goT k1 k2⟩
theorem pd_5 : parseMethodDescriptor "(II[B)V" = some ⟨[.int, .int, (.array .byte)], none⟩ := by decide +kernel
theorem d_m8_0 : decode jdk_52_method_86_code 0 = .ok (.iload_n 3, 1) := by decide +kernel
theorem d_m8_1 : decode jdk_52_method_86_code 1 = .ok (.iload 4, 2) := by decide +kernel
theorem d_m8_3 : decode jdk_52_method_86_code 3 = .ok (.aload_n 2, 1) := by decide +kernel
theorem d_m8_4 : decode jdk_52_method_86_code 4 = .ok (.invokestatic 173, 3) := by decide +kernel
theorem d_m8_7 : decode jdk_52_method_86_code 7 = .ok (.iconst 0, 1) := by decide +kernel
theorem d_m8_8 : decode jdk_52_method_86_code 8 = .ok (.istore 5, 2) := by decide +kernel
theorem d_m8_41 : decode jdk_52_method_86_code 41 = .ok (.return_, 1) := by decide +kernel
theorem ef_infW (m : MethodId) (x0 : Addr) (x2 : Addr) (x3 : Int32) (x4 : Int32) : entryFrame m #[(.ref x0), (.int (0 : Int32)), (.ref x2), (.int x3), (.int x4)] 6 = mkF m 0 #[.val (.ref x0), .val (.int (0 : Int32)), .val (.ref x2), .val (.int x3), .val (.int x4), .unset] [] := by first | (simp [entryFrame, mkF, argsToLocals, Value.category]; done) | rfl
def Q_infW (Z : State) (r0 : Addr) (r2 : Addr) (off : Nat) (n : Nat) (ka : ClassId) (kb : ClassId) (za : Int32) (M : Nat) (src : List Int32) (ls : List Int32) (fm : Value) (h0 : Heap) (n0 : Nat) (v : Option Value) (h : Heap) (L : List Loc) : Prop := v = none ∧ Fr n0 L ∧ Keep h0 h [r2] ∧ own_A Z h r2 kb .byte (Int32.ofNat (2 * M)) (own_infl src off n 0 ls)
set_option maxRecDepth 65536 in
set_option maxHeartbeats 40000000 in
theorem rm_infW (l : Launch) (Z : State) (a0 : Array Value) (hw : HW a0 Z) (ws : List Jvm.Cond) (r0 : Addr) (r2 : Addr) (off : Nat) (n : Nat) (ka : ClassId) (kb : ClassId) (za : Int32) (M : Nat) (src : List Int32) (ls : List Int32) (fm : Value) (h0 : Heap) (n0 : Nat) (Z0 : n0 ≤ h0.size) (S_AD : f8 Z h0 (.int (1 : Int32))) (S_HI : f9 Z h0 (.int (0 : Int32))) (S_LO : f10 Z h0 (.int (8 : Int32))) (S_SI : f11 Z h0 fm) (Va : own_A Z h0 r0 ka .byte za src) (Vb : own_A Z h0 r2 kb .byte (Int32.ofNat (2 * M)) ls) (g_r2 : n0 ≤ r2) (hne : r0 ≠ r2) (ha : (n : Int) ≤ za.toInt) (hM : off + n ≤ M ∧ M ≤ 64) (hll : 2 * M ≤ ls.length) (rf : fm.isRef = true) :
    own_M l Z h0 (⟨"java/lang/StringUTF16", "inflate", "([BI[BII)V"⟩ : MethodName) jdk_52_method_86_code 6 none ws (rR 4 0 0 60) #[(.ref r0), (.int (0 : Int32)), (.ref r2), (.int (Int32.ofNat off)), (.int (Int32.ofNat n))] (Q_infW Z r0 r2 off n ka kb za M src ls fm h0 n0) := by
  refine own_body (own := "java/lang/StringUTF16") (plainFor_of_name pn_0) rfl ?_
  intro p e s m below meth c s₁ Bd hZ hh hx hby hml hown X0 e0
  have N0 := Fr.nil n0
  have k1 : Go p.tables e below (s₁.setTop (mkF m 0 #[.val (.ref r0), .val (.int (0 : Int32)), .val (.ref r2), .val (.int (Int32.ofNat off)), .val (.int (Int32.ofNat n)), .unset] [])) (s₁.setTop (mkF m 4 #[.val (.ref r0), .val (.int (0 : Int32)), .val (.ref r2), .val (.int (Int32.ofNat off)), .val (.int (Int32.ofNat n)), .unset] [(.ref r2), (.int (Int32.ofNat n)), (.int (Int32.ofNat off))])) := by
    intro t ht
    refine XS.iloadN X0.here hx rfl (hb hby d_m8_0) rfl ?_
    refine XS.iload X0.here hx rfl (hb hby d_m8_1) rfl ?_
    refine XS.aloadN X0.here hx rfl (hb hby d_m8_3) rfl rfl ?_
    exact ht
  have rq2 := Jvm.LawKit.callS X0 hx (y := (⟨"java/lang/StringUTF16", "checkBoundsOffCount", "(II[B)V"⟩ : MethodName)) hown (mvT hZ (own_w hw 243 rfl)) (mvT hZ (own_w hw 244 rfl)) (mvT hZ (own_w hw 175 rfl)) (mvT hZ (own_w hw 245 rfl)) (by decide) (backOf (W := 0) (rm_cboU l Z a0 hw [] off n r2 fm kb M ls h0 n0 Z0 S_SI Vb hM rf) hZ (own_w hw 245 rfl) (own_w hw 175 rfl) (by decide) (by decide)) (g := (mkF m 4 #[.val (.ref r0), .val (.int (0 : Int32)), .val (.ref r2), .val (.int (Int32.ofNat off)), .val (.int (Int32.ofNat n)), .unset] [(.ref r2), (.int (Int32.ofNat n)), (.int (Int32.ofNat off))])) rfl (by rw [hml]; rfl) (argsL := [(.int (Int32.ofNat off)), (.int (Int32.ofNat n)), (.ref r2)]) (rest := []) (lenOf pd_5 rfl) rfl (by show 2 * 0 + _ ≤ _; exact Nat.le_of_eq rfl) (hb hby d_m8_4) (fun _ _ => ⟨rfl, e0, (by decide : 0 + 0 ≤ _), (by decide : 0 + 0 ≤ _)⟩)
  obtain ⟨_, T2, L2, X2, ⟨rfl, N2q, eq2⟩, st2⟩ := own_rS X0 rq2
  have N2 := Fr.app N0 N2q
  have k3 : Go p.tables e below _ (T2.setTop (mkF m 10 #[.val (.ref r0), .val (.int (0 : Int32)), .val (.ref r2), .val (.int (Int32.ofNat off)), .val (.int (Int32.ofNat n)), .val (.int (0 : Int32))] [])) := fun t ht => st2 t (by
    refine XS.iconst X2.here hx rfl (hb hby d_m8_7) ?_
    refine XS.istore X2.here hx rfl (hb hby d_m8_8) rfl (l' := #[.val (.ref r0), .val (.int (0 : Int32)), .val (.ref r2), .val (.int (Int32.ofNat off)), .val (.int (Int32.ofNat n)), .val (.int (0 : Int32))]) rfl ?_
    exact ht)
  obtain ⟨T4, L4, X4, N4, K4, V4, st4⟩ := lp_inf r0 r2 ka kb za (Int32.ofNat (2 * M)) src off n hx hZ hw hby hml hown g_r2 hne ha (own_le2 hM) (by omega) n 0 ls h0 T2 _ X2 eq2 N2 Z0 S_AD S_HI S_LO Va Vb (by omega) (by omega)
  have Kp4 : Keep h0 T4.heap [r2] := (Keep.refl h0 [r2]).trans K4 (allS (Or.inl (by simp)) all0)
  have k5 : Go p.tables e below _ (T4.setTop (mkF m 41 #[.val (.ref r0), .val (.int (Int32.ofNat n)), .val (.ref r2), .val (.int (Int32.ofNat (off + n))), .val (.int (Int32.ofNat n)), .val (.int (Int32.ofNat n))] [])) := goT st4 fun t ht => (by
    refine XS.iload X4.here hx rfl (hb hby d_m8_10) rfl ?_
    refine XS.iload X4.here hx rfl (hb hby d_m8_12) rfl ?_
    refine XS.icmpYes X4.here hx rfl (pc0 := 14) (pc' := 41) rfl (hb hby d_m8_14) rfl (flt (by first | exact own_irr _ | exact fun q => Int64.lt_irrefl q : ¬ ((Int32.ofNat n) < (Int32.ofNat n)))).2.1 (by decide) (by decide) ?_
    exact ht)
  obtain ⟨fs, hr, hrun, hended, hW, hsame⟩ := X4.leave (v := none) (fun _ => rfl)
  refine ⟨_, _, castTop (ef_infW m r0 r2 (Int32.ofNat off) (Int32.ofNat n)) ((goT k1 (goT k3 k5)) _ (X4.returnOut hx Bd.returns (hb hby d_m8_41) hr)), hrun, hended, _, _, rfl, ?_, ⟨_, rfl⟩, hW, hsame.mono (by decide) (by decide)⟩
  show Q_infW Z r0 r2 off n ka kb za M src ls fm h0 n0 _ T4.heap _
  exact ⟨rfl, N4, Kp4, V4⟩
theorem pd_6 : parseMethodDescriptor "([BI[BII)V" = some ⟨[(.array .byte), .int, (.array .byte), .int, .int], none⟩ := by decide +kernel
theorem d_m9_0 : decode jdk_43_method_50_code 0 = .ok (.aload_n 0, 1) := by decide +kernel
theorem d_m9_1 : decode jdk_43_method_50_code 1 = .ok (.iload_n 1, 1) := by decide +kernel
theorem d_m9_2 : decode jdk_43_method_50_code 2 = .ok (.aload_n 2, 1) := by decide +kernel
theorem d_m9_3 : decode jdk_43_method_50_code 3 = .ok (.iload_n 3, 1) := by decide +kernel
theorem d_m9_4 : decode jdk_43_method_50_code 4 = .ok (.iload 4, 2) := by decide +kernel
theorem d_m9_6 : decode jdk_43_method_50_code 6 = .ok (.invokestatic 240, 3) := by decide +kernel
theorem d_m9_9 : decode jdk_43_method_50_code 9 = .ok (.return_, 1) := by decide +kernel
theorem pn_3 : plainName "java/lang/StringLatin1" = true := by first | (simp [plainName, overriddenIn]; done) | decide +kernel
theorem ef_infL (m : MethodId) (x0 : Addr) (x2 : Addr) (x3 : Int32) (x4 : Int32) : entryFrame m #[(.ref x0), (.int (0 : Int32)), (.ref x2), (.int x3), (.int x4)] 5 = mkF m 0 #[.val (.ref x0), .val (.int (0 : Int32)), .val (.ref x2), .val (.int x3), .val (.int x4)] [] := by first | (simp [entryFrame, mkF, argsToLocals, Value.category]; done) | rfl
def Q_infL (Z : State) (r0 : Addr) (r2 : Addr) (off : Nat) (n : Nat) (ka : ClassId) (kb : ClassId) (za : Int32) (M : Nat) (src : List Int32) (ls : List Int32) (fm : Value) (h0 : Heap) (n0 : Nat) (v : Option Value) (h : Heap) (L : List Loc) : Prop := v = none ∧ Fr n0 L ∧ Keep h0 h [r2] ∧ own_A Z h r2 kb .byte (Int32.ofNat (2 * M)) (own_infl src off n 0 ls)
set_option maxRecDepth 65536 in
set_option maxHeartbeats 40000000 in
theorem rm_infL (l : Launch) (Z : State) (a0 : Array Value) (hw : HW a0 Z) (ws : List Jvm.Cond) (r0 : Addr) (r2 : Addr) (off : Nat) (n : Nat) (ka : ClassId) (kb : ClassId) (za : Int32) (M : Nat) (src : List Int32) (ls : List Int32) (fm : Value) (h0 : Heap) (n0 : Nat) (Z0 : n0 ≤ h0.size) (S_AD : f8 Z h0 (.int (1 : Int32))) (S_HI : f9 Z h0 (.int (0 : Int32))) (S_LO : f10 Z h0 (.int (8 : Int32))) (S_SI : f11 Z h0 fm) (Va : own_A Z h0 r0 ka .byte za src) (Vb : own_A Z h0 r2 kb .byte (Int32.ofNat (2 * M)) ls) (g_r2 : n0 ≤ r2) (hne : r0 ≠ r2) (ha : (n : Int) ≤ za.toInt) (hM : off + n ≤ M ∧ M ≤ 64) (hll : 2 * M ≤ ls.length) (rf : fm.isRef = true) :
    own_M l Z h0 (⟨"java/lang/StringLatin1", "inflate", "([BI[BII)V"⟩ : MethodName) jdk_43_method_50_code 5 none ws (rR 5 0 0 77) #[(.ref r0), (.int (0 : Int32)), (.ref r2), (.int (Int32.ofNat off)), (.int (Int32.ofNat n))] (Q_infL Z r0 r2 off n ka kb za M src ls fm h0 n0) := by
  refine own_body (own := "java/lang/StringLatin1") (plainFor_of_name pn_3) rfl ?_
  intro p e s m below meth c s₁ Bd hZ hh hx hby hml hown X0 e0
  have N0 := Fr.nil n0
  have k1 : Go p.tables e below (s₁.setTop (mkF m 0 #[.val (.ref r0), .val (.int (0 : Int32)), .val (.ref r2), .val (.int (Int32.ofNat off)), .val (.int (Int32.ofNat n))] [])) (s₁.setTop (mkF m 6 #[.val (.ref r0), .val (.int (0 : Int32)), .val (.ref r2), .val (.int (Int32.ofNat off)), .val (.int (Int32.ofNat n))] [(.int (Int32.ofNat n)), (.int (Int32.ofNat off)), (.ref r2), (.int (0 : Int32)), (.ref r0)])) := by
    intro t ht
    refine XS.aloadN X0.here hx rfl (hb hby d_m9_0) rfl rfl ?_
    refine XS.iloadN X0.here hx rfl (hb hby d_m9_1) rfl ?_
    refine XS.aloadN X0.here hx rfl (hb hby d_m9_2) rfl rfl ?_
    refine XS.iloadN X0.here hx rfl (hb hby d_m9_3) rfl ?_
    refine XS.iload X0.here hx rfl (hb hby d_m9_4) rfl ?_
    exact ht
  have rq2 := Jvm.LawKit.callS X0 hx (y := (⟨"java/lang/StringUTF16", "inflate", "([BI[BII)V"⟩ : MethodName)) hown (mvT hZ (own_w hw 240 rfl)) (mvT hZ (own_w hw 241 rfl)) (mvT hZ (own_w hw 175 rfl)) (mvT hZ (own_w hw 242 rfl)) (by decide) (backOf (W := 0) (rm_infW l Z a0 hw [] r0 r2 off n ka kb za M src ls fm h0 n0 Z0 S_AD S_HI S_LO S_SI Va Vb g_r2 hne ha hM hll rf) hZ (own_w hw 242 rfl) (own_w hw 175 rfl) (by decide) (by decide)) (g := (mkF m 6 #[.val (.ref r0), .val (.int (0 : Int32)), .val (.ref r2), .val (.int (Int32.ofNat off)), .val (.int (Int32.ofNat n))] [(.int (Int32.ofNat n)), (.int (Int32.ofNat off)), (.ref r2), (.int (0 : Int32)), (.ref r0)])) rfl (by rw [hml]; rfl) (argsL := [(.ref r0), (.int (0 : Int32)), (.ref r2), (.int (Int32.ofNat off)), (.int (Int32.ofNat n))]) (rest := []) (lenOf pd_6 rfl) rfl (by show 2 * 0 + _ ≤ _; exact Nat.le_of_eq rfl) (hb hby d_m9_6) (fun _ _ => ⟨rfl, e0, (by decide : 0 + 0 ≤ _), (by decide : 0 + 0 ≤ _)⟩)
  obtain ⟨_, T2, L2, X2, ⟨rfl, N2q, K2, Fq2_0⟩, st2⟩ := own_rS X0 rq2
  have N2 := Fr.app N0 N2q
  have Kp2 : Keep h0 T2.heap [r2] := (Keep.refl h0 [r2]).trans K2 (allS (Or.inl (by simp)) all0)
  have k2 : Go p.tables e below _ (T2.setTop (mkF m 9 #[.val (.ref r0), .val (.int (0 : Int32)), .val (.ref r2), .val (.int (Int32.ofNat off)), .val (.int (Int32.ofNat n))] [])) := st2
  obtain ⟨fs, hr, hrun, hended, hW, hsame⟩ := X2.leave (v := none) (fun _ => rfl)
  refine ⟨_, _, castTop (ef_infL m r0 r2 (Int32.ofNat off) (Int32.ofNat n)) ((goT k1 k2) _ (X2.returnOut hx Bd.returns (hb hby d_m9_9) hr)), hrun, hended, _, _, rfl, ?_, ⟨_, rfl⟩, hW, hsame.mono (by decide) (by decide)⟩
  show Q_infL Z r0 r2 off n ka kb za M src ls fm h0 n0 _ T2.heap _
  exact ⟨rfl, N2, Kp2, Fq2_0⟩
def own_u (cs : List Int32) : List Int32 := cs.flatMap fun c => [own_ul c, own_uh c]
def own_B (M : Nat) (ds : List Int32) : List Int32 := own_b ds ++ List.replicate (M - ds.length) (0 : Int32)
def own_U (M : Nat) (ds : List Int32) : List Int32 := own_u ds ++ List.replicate (2 * M - 2 * ds.length) (0 : Int32)
theorem own_lenb (cs : List Int32) : (own_b cs).length = cs.length := by simp [own_b]
theorem own_lenu (cs : List Int32) : (own_u cs).length = 2 * cs.length := by
  unfold own_u
  induction cs with
  | nil => rfl
  | cons c cs ih => simp only [List.flatMap_cons, List.length_append, List.length_cons, List.length_nil, ih]; omega
theorem own_bapp (a b : List Int32) : own_b (a ++ b) = own_b a ++ own_b b := by simp [own_b]
theorem own_uapp (a b : List Int32) : own_u (a ++ b) = own_u a ++ own_u b := by simp [own_u]
theorem own_lenB' {M : Nat} {ds : List Int32} (h : ds.length ≤ M) : (own_B M ds).length = M := by
  unfold own_B; rw [List.length_append, own_lenb, List.length_replicate]; omega
theorem own_lenUU {M : Nat} {ds : List Int32} (h : ds.length ≤ M) : (own_U M ds).length = 2 * M := by
  unfold own_U; rw [List.length_append, own_lenu, List.length_replicate]; omega
theorem own_lenB {M : Nat} {ds cs : List Int32} (h : ds.length + cs.length ≤ M ∧ M ≤ 64) : (own_B M ds).length = M := own_lenB' (by omega)
theorem own_lenU {M : Nat} {ds cs : List Int32} (h : ds.length + cs.length ≤ M ∧ M ≤ 64) : (own_U M ds).length = 2 * M := own_lenUU (by omega)
theorem own_lenU' {M : Nat} {ds cs : List Int32} (h : ds.length + cs.length ≤ M ∧ M ≤ 64) : (own_U M ds).length = 2 * M := own_lenU h
theorem own_take {α : Type} (a b : List α) {n : Nat} (h : n = a.length) : (a ++ b).take n = a := by subst h; simp
theorem own_dropr {α : Type} (a : List α) (x : α) {n m : Nat} : (a ++ List.replicate n x).drop (a.length + m) = List.replicate (n - m) x := by
  rw [List.drop_append, List.drop_eq_nil_of_le (by omega), List.nil_append, List.drop_replicate]; congr 1; omega
theorem own_cpB {M : Nat} {ds cs : List Int32} (h : ds.length + cs.length ≤ M ∧ M ≤ 64) : own_B M (ds ++ cs) = (own_B M ds).take ds.length ++ ((own_b cs).drop 0).take cs.length ++ (own_B M ds).drop (ds.length + cs.length) := by
  unfold own_B
  rw [own_take _ _ (own_lenb ds).symm, List.drop_zero, List.take_of_length_le (by rw [own_lenb]; omega), own_bapp, ← own_lenb ds, own_dropr, own_lenb, List.length_append]
  congr 2; omega
theorem own_cpU {M : Nat} {ds cs : List Int32} (h : ds.length + cs.length ≤ M ∧ M ≤ 64) : own_U M (ds ++ cs) = (own_U M ds).take (2 * ds.length) ++ ((own_u cs).drop 0).take (2 * cs.length) ++ (own_U M ds).drop (2 * ds.length + 2 * cs.length) := by
  unfold own_U
  rw [own_take _ _ (own_lenu ds).symm, List.drop_zero, List.take_of_length_le (by rw [own_lenu]; omega), own_uapp, ← own_lenu ds, own_dropr, own_lenu, List.length_append]
  congr 2; omega
theorem own_shr0 {n : Nat} : (Int32.ofNat n) >>> ((0 : Int32) &&& 31) = Int32.ofNat n := by
  apply Int32.toBitVec_inj.mp
  show (Int32.ofNat n).toBitVec.sshiftRight' (((0 : Int32) &&& 31).toBitVec.smod 32) = _
  rw [show (((0 : Int32) &&& 31).toBitVec.smod 32) = 0#32 from rfl]
  simp [BitVec.sshiftRight']
theorem own_shl0 {n : Nat} : (Int32.ofNat n) <<< ((0 : Int32) &&& 31) = Int32.ofNat n := by
  apply Int32.toBitVec_inj.mp
  show (Int32.ofNat n).toBitVec <<< (((0 : Int32) &&& 31).toBitVec.smod 32) = _
  simp
theorem own_int {n : Nat} (h : n ≤ 200) : (Int32.ofNat n).toInt = n := own_ofNat (by omega)
theorem own_z0 : (0 : Int32).toInt = ((0 : Nat) : Int) := rfl
theorem own_intle {n m : Nat} (h : n ≤ m ∧ m ≤ 200) : ((n : Nat) : Int) ≤ (Int32.ofNat m).toInt := by rw [own_ofNat (by omega)]; omega
theorem own_nat {c : Int32} {m : Nat} {b : Int32} (hb : b.toInt = m) (h : ¬ c < 0 ∧ ¬ b < c) : ∃ k : Nat, k ≤ m ∧ c = Int32.ofNat k := by
  have c0 : (0 : Int32).toInt = 0 := rfl
  rw [Int32.lt_iff_toInt_lt, Int32.lt_iff_toInt_lt, c0, hb] at h
  have hc := c.toInt_lt
  refine ⟨c.toInt.toNat, by omega, Int32.toInt_inj.mp ?_⟩
  rw [own_ofNat (by omega)]; omega
theorem own_l8F : ∀ k : Fin 256, own_l8 (Int32.ofNat k.val) &&& (255 : Int32) = Int32.ofNat k.val := by decide +kernel
theorem own_l8and {c : Int32} (h : ¬ c < 0 ∧ ¬ (255 : Int32) < c) : own_l8 c &&& (255 : Int32) = c := by
  obtain ⟨k, hk, rfl⟩ := own_nat (m := 255) rfl h
  exact own_l8F ⟨k, by omega⟩
theorem own_setU {M : Nat} {ds : List Int32} {c : Int32} (h : ds.length < M) : ((own_U M ds).set (2 * ds.length) (own_ul c)).set (2 * ds.length + 1) (own_uh c) = own_U M (ds ++ [c]) := by
  obtain ⟨k, hk⟩ : ∃ k, 2 * M - 2 * ds.length = k + 2 := ⟨2 * M - 2 * ds.length - 2, by omega⟩
  have hk2 : 2 * M - 2 * (ds ++ [c]).length = k := by rw [List.length_append]; simp only [List.length_cons, List.length_nil]; omega
  unfold own_U
  rw [hk, hk2, own_uapp, List.replicate_succ, List.replicate_succ, List.set_append_right _ _ (by rw [own_lenu]; exact Nat.le_refl _), own_lenu, Nat.sub_self, List.set_cons_zero, List.set_append_right _ _ (by rw [own_lenu]; omega), own_lenu, show 2 * ds.length + 1 - 2 * ds.length = 1 from by omega, List.set_cons_succ, List.set_cons_zero, List.append_assoc]
  rfl
theorem own_getb (cs : List Int32) {i : Nat} (h : i < cs.length) : (own_b cs).getD i 0 = own_l8 (cs.getD i 0) := by
  unfold own_b
  rw [List.getD_eq_getElem?_getD, List.getD_eq_getElem?_getD, List.getElem?_map, List.getElem?_eq_getElem h]
  rfl
theorem own_getBb {M : Nat} (cs : List Int32) {i : Nat} (h : i < cs.length) : (own_B M cs).getD i 0 = own_l8 (cs.getD i 0) := by
  rw [← own_getb cs h]
  unfold own_B
  rw [List.getD_eq_getElem?_getD, List.getD_eq_getElem?_getD, List.getElem?_append_left (by rw [own_lenb]; exact h)]
theorem own_takeS (cs : List Int32) {i : Nat} (h : i < cs.length) : cs.take (i + 1) = cs.take i ++ [cs.getD i 0] := by
  rw [List.take_add_one, List.getElem?_eq_getElem h, List.getD_eq_getElem?_getD, List.getElem?_eq_getElem h]
  rfl
theorem own_mem (cs : List Int32) {i : Nat} (h : i < cs.length) : cs.getD i 0 ∈ cs := by
  rw [List.getD_eq_getElem?_getD, List.getElem?_eq_getElem h]
  exact List.getElem_mem h
theorem own_inflG {src cs ds : List Int32} {M : Nat} (hM : ds.length + cs.length ≤ M) (hs : ∀ i, i < cs.length → src.getD i 0 = own_l8 (cs.getD i 0)) (hch : ∀ c ∈ cs, ¬ c < 0 ∧ ¬ (255 : Int32) < c) (r : Nat) : ∀ i, i + r = cs.length → own_infl src ds.length r i (own_U M (ds ++ cs.take i)) = own_U M (ds ++ cs) := by
  induction r with
  | zero => intro i hi; rw [show i = cs.length from by omega, List.take_length]; rfl
  | succ r ih =>
    intro i hi
    have hi' : i < cs.length := by omega
    have hl : (ds ++ cs.take i).length = ds.length + i := by rw [List.length_append, List.length_take]; omega
    show own_infl src ds.length r (i + 1) (((own_U M (ds ++ cs.take i)).set (2 * (ds.length + i)) (own_ul ((src.getD i 0) &&& (255 : Int32)))).set (2 * (ds.length + i) + 1) (own_uh ((src.getD i 0) &&& (255 : Int32)))) = _
    rw [hs i hi', own_l8and (hch _ (own_mem cs hi')), ← hl, own_setU (by omega), List.append_assoc, ← own_takeS cs hi']
    exact ih (i + 1) (by omega)
theorem own_inflU {M : Nat} {ds cs : List Int32} (hM : ds.length + cs.length ≤ M ∧ M ≤ 64) (hch : ∀ c ∈ cs, ¬ c < 0 ∧ ¬ (255 : Int32) < c) : own_infl (own_b cs) ds.length cs.length 0 (own_U M ds) = own_U M (ds ++ cs) := by
  have := own_inflG (src := own_b cs) (ds := ds) hM.1 (fun i h => own_getb cs h) hch cs.length 0 (by omega)
  rw [List.take_zero, List.append_nil] at this
  exact this
theorem own_inflB {M : Nat} {ds : List Int32} (hM : ds.length ≤ M) (hch : ∀ c ∈ ds, ¬ c < 0 ∧ ¬ (255 : Int32) < c) : own_infl (own_B M ds) 0 ds.length 0 (List.replicate (2 * M) (0 : Int32)) = own_U M ds := by
  have := own_inflG (src := own_B M ds) (cs := ds) (ds := []) (M := M) (by simpa using hM) (fun i h => own_getBb ds h) hch ds.length 0 (by omega)
  exact this
theorem own_inflU' {M nd : Nat} {ds cs : List Int32} (hnd : nd = ds.length) (hM : ds.length + cs.length ≤ M ∧ M ≤ 64) (hch : ∀ c ∈ cs, ¬ c < 0 ∧ ¬ (255 : Int32) < c) : own_infl (own_b cs) nd cs.length 0 (own_U M ds) = own_U M (ds ++ cs) := by rw [hnd]; exact own_inflU hM hch
theorem d_m10_0 : decode jdk_42_method_152_code 0 = .ok (.getstatic 38, 3) := by decide +kernel
theorem d_m10_3 : decode jdk_42_method_152_code 3 = .ok (.ifCond .eq 10, 3) := by decide +kernel
theorem d_m10_6 : decode jdk_42_method_152_code 6 = .ok (.aload_n 0, 1) := by decide +kernel
theorem d_m10_7 : decode jdk_42_method_152_code 7 = .ok (.getfield 15, 3) := by decide +kernel
theorem d_m10_10 : decode jdk_42_method_152_code 10 = .ok (.goto 4, 3) := by decide +kernel
theorem d_m10_14 : decode jdk_42_method_152_code 14 = .ok (.ireturn, 1) := by decide +kernel
theorem ef_cod0 (m : MethodId) (x0 : Addr) : entryFrame m #[(.ref x0)] 1 = mkF m 0 #[.val (.ref x0)] [] := by first | (simp [entryFrame, mkF, argsToLocals, Value.category]; done) | rfl
def Q_cod0 (Z : State) (r0 : Addr) (G1 : Int32) (h0 : Heap) (n0 : Nat) (v : Option Value) (h : Heap) (L : List Loc) : Prop := v = some (.int (0 : Int32)) ∧ Fr n0 L ∧ h = h0
set_option maxRecDepth 65536 in
set_option maxHeartbeats 40000000 in
theorem rm_cod0 (l : Launch) (Z : State) (a0 : Array Value) (hw : HW a0 Z) (ws : List Jvm.Cond) (r0 : Addr) (G1 : Int32) (h0 : Heap) (n0 : Nat) (Z0 : n0 ≤ h0.size) (Fc : f0 Z h0 r0 (.int (0 : Int32))) (S_CS : f12 Z h0 (.int G1)) (P5 : ¬ (G1 = (0 : Int32))) :
    own_M l Z h0 (⟨"java/lang/String", "coder", "()B"⟩ : MethodName) jdk_42_method_152_code 1 (some .byte) ws (rR 0 0 0 0) #[(.ref r0)] (Q_cod0 Z r0 G1 h0 n0) := by
  refine own_body (own := "java/lang/String") (plainFor_of_name pn_2) rfl ?_
  intro p e s m below meth c s₁ Bd hZ hh hx hby hml hown X0 e0
  have N0 := Fr.nil n0
  obtain ⟨T1, X1, e1, st1⟩ := getS2 X0 hx hZ hown (host := "") (Or.inl (own_w hw 4 rfl)) Via.refl e0 S_CS (g := (mkF m 0 #[.val (.ref r0)] [])) rfl (hb hby d_m10_0)
  have k2 : Go p.tables e below _ (T1.setTop (mkF m 7 #[.val (.ref r0)] [(.ref r0)])) := fun t ht => st1 t (by
    refine XS.ifNo X1.here hx rfl (hb hby d_m10_3) rfl ((if0 _ _).trans (feq P5).1) ?_
    refine XS.aloadN X1.here hx rfl (hb hby d_m10_6) rfl rfl ?_
    exact ht)
  obtain ⟨T3, X3, e3, st3⟩ := getF X1 hx hZ hown (host := "") (Or.inl (own_w hw 24 rfl)) Via.refl e1 Fc (g := (mkF m 7 #[.val (.ref r0)] [(.ref r0)])) rfl rfl (hb hby d_m10_7)
  have k4 : Go p.tables e below _ (T3.setTop (mkF m 14 #[.val (.ref r0)] [(.int (0 : Int32))])) := fun t ht => st3 t (by
    refine XS.goto X3.here hx rfl (pc0 := 10) (pc' := 14) rfl (hb hby d_m10_10) (by decide) (by decide) ?_
    exact ht)
  obtain ⟨fs, hr, hrun, hended, hW, hsame⟩ := X3.leave (v := some (.int (0 : Int32))) (fun h => by rw [Bd.returns] at h; cases h)
  refine ⟨_, _, castTop (ef_cod0 m r0) ((goT k2 k4) _ (retN X3 hx (t := .byte) Bd.returns (by simp) (hb hby d_m10_14) hr)), hrun, hended, _, _, rfl, ?_, ⟨_, rfl⟩, hW, hsame.mono (by decide) (by decide)⟩
  show Q_cod0 Z r0 G1 h0 n0 _ T3.heap _
  rw [e3]
  exact ⟨rfl, N0, rfl⟩
theorem ef_cod1 (m : MethodId) (x0 : Addr) : entryFrame m #[(.ref x0)] 1 = mkF m 0 #[.val (.ref x0)] [] := by first | (simp [entryFrame, mkF, argsToLocals, Value.category]; done) | rfl
def Q_cod1 (Z : State) (r0 : Addr) (G1 : Int32) (h0 : Heap) (n0 : Nat) (v : Option Value) (h : Heap) (L : List Loc) : Prop := v = some (.int (1 : Int32)) ∧ Fr n0 L ∧ h = h0
set_option maxRecDepth 65536 in
set_option maxHeartbeats 40000000 in
theorem rm_cod1 (l : Launch) (Z : State) (a0 : Array Value) (hw : HW a0 Z) (ws : List Jvm.Cond) (r0 : Addr) (G1 : Int32) (h0 : Heap) (n0 : Nat) (Z0 : n0 ≤ h0.size) (Fc : f0 Z h0 r0 (.int (1 : Int32))) (S_CS : f12 Z h0 (.int G1)) (P5 : ¬ (G1 = (0 : Int32))) :
    own_M l Z h0 (⟨"java/lang/String", "coder", "()B"⟩ : MethodName) jdk_42_method_152_code 1 (some .byte) ws (rR 0 0 0 0) #[(.ref r0)] (Q_cod1 Z r0 G1 h0 n0) := by
  refine own_body (own := "java/lang/String") (plainFor_of_name pn_2) rfl ?_
  intro p e s m below meth c s₁ Bd hZ hh hx hby hml hown X0 e0
  have N0 := Fr.nil n0
  obtain ⟨T1, X1, e1, st1⟩ := getS2 X0 hx hZ hown (host := "") (Or.inl (own_w hw 4 rfl)) Via.refl e0 S_CS (g := (mkF m 0 #[.val (.ref r0)] [])) rfl (hb hby d_m10_0)
  have k2 : Go p.tables e below _ (T1.setTop (mkF m 7 #[.val (.ref r0)] [(.ref r0)])) := fun t ht => st1 t (by
    refine XS.ifNo X1.here hx rfl (hb hby d_m10_3) rfl ((if0 _ _).trans (feq P5).1) ?_
    refine XS.aloadN X1.here hx rfl (hb hby d_m10_6) rfl rfl ?_
    exact ht)
  obtain ⟨T3, X3, e3, st3⟩ := getF X1 hx hZ hown (host := "") (Or.inl (own_w hw 24 rfl)) Via.refl e1 Fc (g := (mkF m 7 #[.val (.ref r0)] [(.ref r0)])) rfl rfl (hb hby d_m10_7)
  have k4 : Go p.tables e below _ (T3.setTop (mkF m 14 #[.val (.ref r0)] [(.int (1 : Int32))])) := fun t ht => st3 t (by
    refine XS.goto X3.here hx rfl (pc0 := 10) (pc' := 14) rfl (hb hby d_m10_10) (by decide) (by decide) ?_
    exact ht)
  obtain ⟨fs, hr, hrun, hended, hW, hsame⟩ := X3.leave (v := some (.int (1 : Int32))) (fun h => by rw [Bd.returns] at h; cases h)
  refine ⟨_, _, castTop (ef_cod1 m r0) ((goT k2 k4) _ (retN X3 hx (t := .byte) Bd.returns (by simp) (hb hby d_m10_14) hr)), hrun, hended, _, _, rfl, ?_, ⟨_, rfl⟩, hW, hsame.mono (by decide) (by decide)⟩
  show Q_cod1 Z r0 G1 h0 n0 _ T3.heap _
  rw [e3]
  exact ⟨rfl, N0, rfl⟩
theorem pd_7 : parseMethodDescriptor "()B" = some ⟨[], some .byte⟩ := by decide +kernel
theorem d_m11_0 : decode jdk_42_method_54_code 0 = .ok (.aload_n 0, 1) := by decide +kernel
theorem d_m11_1 : decode jdk_42_method_54_code 1 = .ok (.getfield 9, 3) := by decide +kernel
theorem d_m11_4 : decode jdk_42_method_54_code 4 = .ok (.arraylength, 1) := by decide +kernel
theorem d_m11_5 : decode jdk_42_method_54_code 5 = .ok (.aload_n 0, 1) := by decide +kernel
theorem d_m11_6 : decode jdk_42_method_54_code 6 = .ok (.invokevirtual 335, 3) := by decide +kernel
theorem d_m11_9 : decode jdk_42_method_54_code 9 = .ok (.ishr, 1) := by decide +kernel
theorem d_m11_10 : decode jdk_42_method_54_code 10 = .ok (.ireturn, 1) := by decide +kernel
theorem ef_len0 (m : MethodId) (x0 : Addr) : entryFrame m #[(.ref x0)] 1 = mkF m 0 #[.val (.ref x0)] [] := by first | (simp [entryFrame, mkF, argsToLocals, Value.category]; done) | rfl
def Q_len0 (Z : State) (r0 : Addr) (t0 : Addr) (kz0 : ClassId) (cs : List Int32) (G1 : Int32) (h0 : Heap) (n0 : Nat) (v : Option Value) (h : Heap) (L : List Loc) : Prop := v = some (.int (Int32.ofNat cs.length)) ∧ Fr n0 L ∧ h = h0
set_option maxRecDepth 65536 in
set_option maxHeartbeats 40000000 in
theorem rm_len0 (l : Launch) (Z : State) (a0 : Array Value) (hw : HW a0 Z) (ws : List Jvm.Cond) (r0 : Addr) (t0 : Addr) (kz0 : ClassId) (cs : List Int32) (G1 : Int32) (h0 : Heap) (n0 : Nat) (Z0 : n0 ≤ h0.size) (E_r0 : Exa Z h0 r0 "java/lang/String") (Fv_r0 : f1 Z h0 r0 (.ref t0)) (Fc_r0 : f0 Z h0 r0 (.int (0 : Int32))) (S_CS : f12 Z h0 (.int G1)) (V_t0 : own_A Z h0 t0 kz0 .byte (Int32.ofNat cs.length) (own_b cs)) (P5 : ¬ (G1 = (0 : Int32))) (hcs : cs.length ≤ 64) :
    own_M l Z h0 (⟨"java/lang/String", "length", "()I"⟩ : MethodName) jdk_42_method_54_code 1 (some .int) ws (rR 1 0 0 13) #[(.ref r0)] (Q_len0 Z r0 t0 kz0 cs G1 h0 n0) := by
  refine own_body (own := "java/lang/String") (plainFor_of_name pn_2) rfl ?_
  intro p e s m below meth c s₁ Bd hZ hh hx hby hml hown X0 e0
  have N0 := Fr.nil n0
  have k1 : Go p.tables e below (s₁.setTop (mkF m 0 #[.val (.ref r0)] [])) (s₁.setTop (mkF m 1 #[.val (.ref r0)] [(.ref r0)])) := by
    intro t ht
    refine XS.aloadN X0.here hx rfl (hb hby d_m11_0) rfl rfl ?_
    exact ht
  obtain ⟨T2, X2, e2, st2⟩ := getF X0 hx hZ hown (host := "") (Or.inl (own_w hw 22 rfl)) Via.refl e0 Fv_r0 (g := (mkF m 1 #[.val (.ref r0)] [(.ref r0)])) rfl rfl (hb hby d_m11_1)
  have k2 : Go p.tables e below _ (T2.setTop (mkF m 4 #[.val (.ref r0)] [(.ref t0)])) := st2
  obtain ⟨cl3, Ar3, q3, S3, M3, H3, G3⟩ := id V_t0
  have k4 : Go p.tables e below _ (T2.setTop (mkF m 6 #[.val (.ref r0)] [(.ref r0), (.int (Int32.ofNat cs.length))])) := goT k2 fun t ht => (by
    refine X2.arraylength hx (by rw [e2]; exact Ar3.1) (State.isArrayOf_alike hZ.alike Ar3.2.1) (g := (mkF m 4 #[.val (.ref r0)] [(.ref t0)])) rfl rfl (hb hby d_m11_4) _ ?_
    rw [len_of S3 M3]
    refine XS.aloadN X2.here hx rfl (hb hby d_m11_5) rfl rfl ?_
    exact ht)
  obtain ⟨cq5, kq5, q5a, q5b, q5c⟩ := isOf hZ e2 E_r0
  have rq5 := X2.virtualBack hx (y := (⟨"java/lang/String", "coder", "()B"⟩ : MethodName)) (z := (⟨"java/lang/String", "coder", "()B"⟩ : MethodName)) hown (mvT hZ (own_w hw 83 rfl)) (mvT hZ (own_w hw 84 rfl)) (notFace_of_selects (args := #[]) (mvT hZ (own_w hw 86 rfl))) (mvT hZ (own_w hw 86 rfl)) (mvT hZ (own_w hw 85 rfl)) (by decide) (backOf (W := 1) (rm_cod0 l Z a0 hw [] r0 G1 h0 n0 Z0 Fc_r0 S_CS P5) hZ (own_w hw 87 rfl) (own_w hw 2 rfl) (by decide) (by decide)) q5a q5c (g := (mkF m 6 #[.val (.ref r0)] [(.ref r0), (.int (Int32.ofNat cs.length))])) rfl (by rw [hml]; rfl) (Steps.refl _) (argsL := []) (rest := [(.int (Int32.ofNat cs.length))]) (lenOf pd_7 rfl) rfl (by show 2 * 0 + _ ≤ _; exact Nat.le_of_eq rfl) (hb hby d_m11_6) (fun _ _ => ⟨rfl, e2, (by decide : 0 + 0 ≤ _), (by decide : 0 + 0 ≤ _)⟩)
  obtain ⟨_, T5, L5, X5, ⟨rfl, N5q, eq5⟩, st5⟩ := own_r X2 rq5
  have N5 := Fr.app N0 N5q
  have k6 : Go p.tables e below _ (T5.setTop (mkF m 10 #[.val (.ref r0)] [(.int ((Int32.ofNat cs.length) >>> ((0 : Int32) &&& 31)))])) := fun t ht => st5 t (by
    refine XS.ishr X5.here hx rfl (hb hby d_m11_9) rfl ?_
    exact ht)
  have k7 : Go p.tables e below _ (T5.setTop (mkF m 10 #[.val (.ref r0)] [(.int (Int32.ofNat cs.length))])) := goT k6 (by rw [own_shr0]; exact fun _ h => h)
  obtain ⟨fs, hr, hrun, hended, hW, hsame⟩ := X5.leave (v := some (.int (Int32.ofNat cs.length))) (fun h => by rw [Bd.returns] at h; cases h)
  refine ⟨_, _, castTop (ef_len0 m r0) ((goT k1 (goT k4 k7)) _ (retI X5 hx Bd.returns (hb hby d_m11_10) hr)), hrun, hended, _, _, rfl, ?_, ⟨_, rfl⟩, hW, hsame.mono (by decide) (by decide)⟩
  show Q_len0 Z r0 t0 kz0 cs G1 h0 n0 _ T5.heap _
  rw [eq5]
  exact ⟨rfl, N5, rfl⟩
theorem ef_len1 (m : MethodId) (x0 : Addr) : entryFrame m #[(.ref x0)] 1 = mkF m 0 #[.val (.ref x0)] [] := by first | (simp [entryFrame, mkF, argsToLocals, Value.category]; done) | rfl
def Q_len1 (Z : State) (r0 : Addr) (t0 : Addr) (kz0 : ClassId) (cs : List Int32) (G1 : Int32) (h0 : Heap) (n0 : Nat) (v : Option Value) (h : Heap) (L : List Loc) : Prop := v = some (.int (Int32.ofNat cs.length)) ∧ Fr n0 L ∧ h = h0
set_option maxRecDepth 65536 in
set_option maxHeartbeats 40000000 in
theorem rm_len1 (l : Launch) (Z : State) (a0 : Array Value) (hw : HW a0 Z) (ws : List Jvm.Cond) (r0 : Addr) (t0 : Addr) (kz0 : ClassId) (cs : List Int32) (G1 : Int32) (h0 : Heap) (n0 : Nat) (Z0 : n0 ≤ h0.size) (E_r0 : Exa Z h0 r0 "java/lang/String") (Fv_r0 : f1 Z h0 r0 (.ref t0)) (Fc_r0 : f0 Z h0 r0 (.int (1 : Int32))) (S_CS : f12 Z h0 (.int G1)) (V_t0 : own_A Z h0 t0 kz0 .byte (Int32.ofNat (2 * cs.length)) (own_u cs)) (P5 : ¬ (G1 = (0 : Int32))) (hcs : cs.length ≤ 64) :
    own_M l Z h0 (⟨"java/lang/String", "length", "()I"⟩ : MethodName) jdk_42_method_54_code 1 (some .int) ws (rR 1 0 0 13) #[(.ref r0)] (Q_len1 Z r0 t0 kz0 cs G1 h0 n0) := by
  refine own_body (own := "java/lang/String") (plainFor_of_name pn_2) rfl ?_
  intro p e s m below meth c s₁ Bd hZ hh hx hby hml hown X0 e0
  have N0 := Fr.nil n0
  have k1 : Go p.tables e below (s₁.setTop (mkF m 0 #[.val (.ref r0)] [])) (s₁.setTop (mkF m 1 #[.val (.ref r0)] [(.ref r0)])) := by
    intro t ht
    refine XS.aloadN X0.here hx rfl (hb hby d_m11_0) rfl rfl ?_
    exact ht
  obtain ⟨T2, X2, e2, st2⟩ := getF X0 hx hZ hown (host := "") (Or.inl (own_w hw 22 rfl)) Via.refl e0 Fv_r0 (g := (mkF m 1 #[.val (.ref r0)] [(.ref r0)])) rfl rfl (hb hby d_m11_1)
  have k2 : Go p.tables e below _ (T2.setTop (mkF m 4 #[.val (.ref r0)] [(.ref t0)])) := st2
  obtain ⟨cl3, Ar3, q3, S3, M3, H3, G3⟩ := id V_t0
  have k4 : Go p.tables e below _ (T2.setTop (mkF m 6 #[.val (.ref r0)] [(.ref r0), (.int (Int32.ofNat (2 * cs.length)))])) := goT k2 fun t ht => (by
    refine X2.arraylength hx (by rw [e2]; exact Ar3.1) (State.isArrayOf_alike hZ.alike Ar3.2.1) (g := (mkF m 4 #[.val (.ref r0)] [(.ref t0)])) rfl rfl (hb hby d_m11_4) _ ?_
    rw [len_of S3 M3]
    refine XS.aloadN X2.here hx rfl (hb hby d_m11_5) rfl rfl ?_
    exact ht)
  obtain ⟨cq5, kq5, q5a, q5b, q5c⟩ := isOf hZ e2 E_r0
  have rq5 := X2.virtualBack hx (y := (⟨"java/lang/String", "coder", "()B"⟩ : MethodName)) (z := (⟨"java/lang/String", "coder", "()B"⟩ : MethodName)) hown (mvT hZ (own_w hw 83 rfl)) (mvT hZ (own_w hw 84 rfl)) (notFace_of_selects (args := #[]) (mvT hZ (own_w hw 86 rfl))) (mvT hZ (own_w hw 86 rfl)) (mvT hZ (own_w hw 85 rfl)) (by decide) (backOf (W := 1) (rm_cod1 l Z a0 hw [] r0 G1 h0 n0 Z0 Fc_r0 S_CS P5) hZ (own_w hw 87 rfl) (own_w hw 2 rfl) (by decide) (by decide)) q5a q5c (g := (mkF m 6 #[.val (.ref r0)] [(.ref r0), (.int (Int32.ofNat (2 * cs.length)))])) rfl (by rw [hml]; rfl) (Steps.refl _) (argsL := []) (rest := [(.int (Int32.ofNat (2 * cs.length)))]) (lenOf pd_7 rfl) rfl (by show 2 * 0 + _ ≤ _; exact Nat.le_of_eq rfl) (hb hby d_m11_6) (fun _ _ => ⟨rfl, e2, (by decide : 0 + 0 ≤ _), (by decide : 0 + 0 ≤ _)⟩)
  obtain ⟨_, T5, L5, X5, ⟨rfl, N5q, eq5⟩, st5⟩ := own_r X2 rq5
  have N5 := Fr.app N0 N5q
  have k6 : Go p.tables e below _ (T5.setTop (mkF m 10 #[.val (.ref r0)] [(.int ((Int32.ofNat (2 * cs.length)) >>> ((1 : Int32) &&& 31)))])) := fun t ht => st5 t (by
    refine XS.ishr X5.here hx rfl (hb hby d_m11_9) rfl ?_
    exact ht)
  have k7 : Go p.tables e below _ (T5.setTop (mkF m 10 #[.val (.ref r0)] [(.int (Int32.ofNat cs.length))])) := goT k6 (by rw [own_shr1 hcs]; exact fun _ h => h)
  obtain ⟨fs, hr, hrun, hended, hW, hsame⟩ := X5.leave (v := some (.int (Int32.ofNat cs.length))) (fun h => by rw [Bd.returns] at h; cases h)
  refine ⟨_, _, castTop (ef_len1 m r0) ((goT k1 (goT k4 k7)) _ (retI X5 hx Bd.returns (hb hby d_m11_10) hr)), hrun, hended, _, _, rfl, ?_, ⟨_, rfl⟩, hW, hsame.mono (by decide) (by decide)⟩
  show Q_len1 Z r0 t0 kz0 cs G1 h0 n0 _ T5.heap _
  rw [eq5]
  exact ⟨rfl, N5, rfl⟩
theorem d_m12_0 : decode jdk_68_method_68_code 0 = .ok (.getstatic 18, 3) := by decide +kernel
theorem d_m12_3 : decode jdk_68_method_68_code 3 = .ok (.ifCond .eq 14, 3) := by decide +kernel
theorem d_m12_6 : decode jdk_68_method_68_code 6 = .ok (.aload_n 0, 1) := by decide +kernel
theorem d_m12_7 : decode jdk_68_method_68_code 7 = .ok (.getfield 22, 3) := by decide +kernel
theorem d_m12_10 : decode jdk_68_method_68_code 10 = .ok (.ifCond .ne 7, 3) := by decide +kernel
theorem d_m12_13 : decode jdk_68_method_68_code 13 = .ok (.iconst 1, 1) := by decide +kernel
theorem d_m12_14 : decode jdk_68_method_68_code 14 = .ok (.goto 4, 3) := by decide +kernel
theorem d_m12_18 : decode jdk_68_method_68_code 18 = .ok (.ireturn, 1) := by decide +kernel
theorem pn_4 : plainName "java/lang/AbstractStringBuilder" = true := by first | (simp [plainName, overriddenIn]; done) | decide +kernel
theorem ef_isL0 (m : MethodId) (x0 : Addr) : entryFrame m #[(.ref x0)] 1 = mkF m 0 #[.val (.ref x0)] [] := by first | (simp [entryFrame, mkF, argsToLocals, Value.category]; done) | rfl
def Q_isL0 (Z : State) (r0 : Addr) (G1 : Int32) (h0 : Heap) (n0 : Nat) (v : Option Value) (h : Heap) (L : List Loc) : Prop := v = some (.int (1 : Int32)) ∧ Fr n0 L ∧ h = h0
set_option maxRecDepth 65536 in
set_option maxHeartbeats 40000000 in
theorem rm_isL0 (l : Launch) (Z : State) (a0 : Array Value) (hw : HW a0 Z) (ws : List Jvm.Cond) (r0 : Addr) (G1 : Int32) (h0 : Heap) (n0 : Nat) (Z0 : n0 ≤ h0.size) (Bc : f2 Z h0 r0 (.int (0 : Int32))) (S_CS : f12 Z h0 (.int G1)) (P5 : ¬ (G1 = (0 : Int32))) :
    own_M l Z h0 (⟨"java/lang/AbstractStringBuilder", "isLatin1", "()Z"⟩ : MethodName) jdk_68_method_68_code 1 (some .boolean) ws (rR 0 0 0 0) #[(.ref r0)] (Q_isL0 Z r0 G1 h0 n0) := by
  refine own_body (own := "java/lang/AbstractStringBuilder") (plainFor_of_name pn_4) rfl ?_
  intro p e s m below meth c s₁ Bd hZ hh hx hby hml hown X0 e0
  have N0 := Fr.nil n0
  obtain ⟨T1, X1, e1, st1⟩ := getS2 X0 hx hZ hown (host := "") (Or.inl (own_w hw 60 rfl)) Via.refl e0 S_CS (g := (mkF m 0 #[.val (.ref r0)] [])) rfl (hb hby d_m12_0)
  have k2 : Go p.tables e below _ (T1.setTop (mkF m 7 #[.val (.ref r0)] [(.ref r0)])) := fun t ht => st1 t (by
    refine XS.ifNo X1.here hx rfl (hb hby d_m12_3) rfl ((if0 _ _).trans (feq P5).1) ?_
    refine XS.aloadN X1.here hx rfl (hb hby d_m12_6) rfl rfl ?_
    exact ht)
  obtain ⟨T3, X3, e3, st3⟩ := getF X1 hx hZ hown (host := "") (Or.inl (own_w hw 63 rfl)) Via.refl e1 Bc (g := (mkF m 7 #[.val (.ref r0)] [(.ref r0)])) rfl rfl (hb hby d_m12_7)
  have k4 : Go p.tables e below _ (T3.setTop (mkF m 18 #[.val (.ref r0)] [(.int (1 : Int32))])) := fun t ht => st3 t (by
    refine XS.ifNo X3.here hx rfl (hb hby d_m12_10) rfl ((if0 _ _).trans (teq (by decide : (0 : Int32) = (0 : Int32))).2) ?_
    refine XS.iconst X3.here hx rfl (hb hby d_m12_13) ?_
    refine XS.goto X3.here hx rfl (pc0 := 14) (pc' := 18) rfl (hb hby d_m12_14) (by decide) (by decide) ?_
    exact ht)
  obtain ⟨fs, hr, hrun, hended, hW, hsame⟩ := X3.leave (v := some (.int (1 : Int32))) (fun h => by rw [Bd.returns] at h; cases h)
  refine ⟨_, _, castTop (ef_isL0 m r0) ((goT k2 k4) _ (retN X3 hx (t := .boolean) Bd.returns (by simp) (hb hby d_m12_18) hr)), hrun, hended, _, _, rfl, ?_, ⟨_, rfl⟩, hW, hsame.mono (by decide) (by decide)⟩
  show Q_isL0 Z r0 G1 h0 n0 _ T3.heap _
  rw [e3]
  exact ⟨rfl, N0, rfl⟩
theorem d_m12_17 : decode jdk_68_method_68_code 17 = .ok (.iconst 0, 1) := by decide +kernel
theorem ef_isL1 (m : MethodId) (x0 : Addr) : entryFrame m #[(.ref x0)] 1 = mkF m 0 #[.val (.ref x0)] [] := by first | (simp [entryFrame, mkF, argsToLocals, Value.category]; done) | rfl
def Q_isL1 (Z : State) (r0 : Addr) (G1 : Int32) (h0 : Heap) (n0 : Nat) (v : Option Value) (h : Heap) (L : List Loc) : Prop := v = some (.int (0 : Int32)) ∧ Fr n0 L ∧ h = h0
set_option maxRecDepth 65536 in
set_option maxHeartbeats 40000000 in
theorem rm_isL1 (l : Launch) (Z : State) (a0 : Array Value) (hw : HW a0 Z) (ws : List Jvm.Cond) (r0 : Addr) (G1 : Int32) (h0 : Heap) (n0 : Nat) (Z0 : n0 ≤ h0.size) (Bc : f2 Z h0 r0 (.int (1 : Int32))) (S_CS : f12 Z h0 (.int G1)) (P5 : ¬ (G1 = (0 : Int32))) :
    own_M l Z h0 (⟨"java/lang/AbstractStringBuilder", "isLatin1", "()Z"⟩ : MethodName) jdk_68_method_68_code 1 (some .boolean) ws (rR 0 0 0 0) #[(.ref r0)] (Q_isL1 Z r0 G1 h0 n0) := by
  refine own_body (own := "java/lang/AbstractStringBuilder") (plainFor_of_name pn_4) rfl ?_
  intro p e s m below meth c s₁ Bd hZ hh hx hby hml hown X0 e0
  have N0 := Fr.nil n0
  obtain ⟨T1, X1, e1, st1⟩ := getS2 X0 hx hZ hown (host := "") (Or.inl (own_w hw 60 rfl)) Via.refl e0 S_CS (g := (mkF m 0 #[.val (.ref r0)] [])) rfl (hb hby d_m12_0)
  have k2 : Go p.tables e below _ (T1.setTop (mkF m 7 #[.val (.ref r0)] [(.ref r0)])) := fun t ht => st1 t (by
    refine XS.ifNo X1.here hx rfl (hb hby d_m12_3) rfl ((if0 _ _).trans (feq P5).1) ?_
    refine XS.aloadN X1.here hx rfl (hb hby d_m12_6) rfl rfl ?_
    exact ht)
  obtain ⟨T3, X3, e3, st3⟩ := getF X1 hx hZ hown (host := "") (Or.inl (own_w hw 63 rfl)) Via.refl e1 Bc (g := (mkF m 7 #[.val (.ref r0)] [(.ref r0)])) rfl rfl (hb hby d_m12_7)
  have k4 : Go p.tables e below _ (T3.setTop (mkF m 18 #[.val (.ref r0)] [(.int (0 : Int32))])) := fun t ht => st3 t (by
    refine XS.ifYes X3.here hx rfl (pc0 := 10) (pc' := 17) rfl (hb hby d_m12_10) rfl ((if0 _ _).trans (feq (by decide : ¬ ((1 : Int32) = (0 : Int32)))).2) (by decide) (by decide) ?_
    refine XS.iconst X3.here hx rfl (hb hby d_m12_17) ?_
    exact ht)
  obtain ⟨fs, hr, hrun, hended, hW, hsame⟩ := X3.leave (v := some (.int (0 : Int32))) (fun h => by rw [Bd.returns] at h; cases h)
  refine ⟨_, _, castTop (ef_isL1 m r0) ((goT k2 k4) _ (retN X3 hx (t := .boolean) Bd.returns (by simp) (hb hby d_m12_18) hr)), hrun, hended, _, _, rfl, ?_, ⟨_, rfl⟩, hW, hsame.mono (by decide) (by decide)⟩
  show Q_isL1 Z r0 G1 h0 n0 _ T3.heap _
  rw [e3]
  exact ⟨rfl, N0, rfl⟩
theorem d_m13_0 : decode jdk_42_method_147_code 0 = .ok (.aload_n 0, 1) := by decide +kernel
theorem d_m13_1 : decode jdk_42_method_147_code 1 = .ok (.invokevirtual 335, 3) := by decide +kernel
theorem d_m13_4 : decode jdk_42_method_147_code 4 = .ok (.iload_n 3, 1) := by decide +kernel
theorem d_m13_5 : decode jdk_42_method_147_code 5 = .ok (.if_icmp .ne 23, 3) := by decide +kernel
theorem d_m13_8 : decode jdk_42_method_147_code 8 = .ok (.aload_n 0, 1) := by decide +kernel
theorem d_m13_9 : decode jdk_42_method_147_code 9 = .ok (.getfield 9, 3) := by decide +kernel
theorem d_m13_12 : decode jdk_42_method_147_code 12 = .ok (.iconst 0, 1) := by decide +kernel
theorem d_m13_13 : decode jdk_42_method_147_code 13 = .ok (.aload_n 1, 1) := by decide +kernel
theorem d_m13_14 : decode jdk_42_method_147_code 14 = .ok (.iload_n 2, 1) := by decide +kernel
theorem d_m13_15 : decode jdk_42_method_147_code 15 = .ok (.iload_n 3, 1) := by decide +kernel
theorem d_m13_16 : decode jdk_42_method_147_code 16 = .ok (.ishl, 1) := by decide +kernel
theorem d_m13_17 : decode jdk_42_method_147_code 17 = .ok (.aload_n 0, 1) := by decide +kernel
theorem d_m13_18 : decode jdk_42_method_147_code 18 = .ok (.getfield 9, 3) := by decide +kernel
theorem d_m13_21 : decode jdk_42_method_147_code 21 = .ok (.arraylength, 1) := by decide +kernel
theorem d_m13_22 : decode jdk_42_method_147_code 22 = .ok (.invokestatic 212, 3) := by decide +kernel
theorem d_m13_25 : decode jdk_42_method_147_code 25 = .ok (.goto 18, 3) := by decide +kernel
theorem d_m13_43 : decode jdk_42_method_147_code 43 = .ok (.return_, 1) := by decide +kernel
theorem ef_gb00 (m : MethodId) (x0 : Addr) (x1 : Addr) (x2 : Int32) : entryFrame m #[(.ref x0), (.ref x1), (.int x2), (.int (0 : Int32))] 4 = mkF m 0 #[.val (.ref x0), .val (.ref x1), .val (.int x2), .val (.int (0 : Int32))] [] := by first | (simp [entryFrame, mkF, argsToLocals, Value.category]; done) | rfl
def Q_gb00 (Z : State) (r0 : Addr) (r1 : Addr) (nd : Nat) (t0 : Addr) (kz0 : ClassId) (cs : List Int32) (G1 : Int32) (kv : ClassId) (M : Nat) (ds : List Int32) (h0 : Heap) (n0 : Nat) (v : Option Value) (h : Heap) (L : List Loc) : Prop := v = none ∧ Fr n0 L ∧ Keep h0 h [r1] ∧ own_A Z h r1 kv .byte (Int32.ofNat M) (own_B M (ds ++ cs))
set_option maxRecDepth 65536 in
set_option maxHeartbeats 40000000 in
theorem rm_gb00 (l : Launch) (Z : State) (a0 : Array Value) (hw : HW a0 Z) (ws : List Jvm.Cond) (r0 : Addr) (r1 : Addr) (nd : Nat) (t0 : Addr) (kz0 : ClassId) (cs : List Int32) (G1 : Int32) (kv : ClassId) (M : Nat) (ds : List Int32) (h0 : Heap) (n0 : Nat) (Z0 : n0 ≤ h0.size) (E_r0 : Exa Z h0 r0 "java/lang/String") (Fv_r0 : f1 Z h0 r0 (.ref t0)) (Fc_r0 : f0 Z h0 r0 (.int (0 : Int32))) (S_CS : f12 Z h0 (.int G1)) (V_t0 : own_A Z h0 t0 kz0 .byte (Int32.ofNat cs.length) (own_b cs)) (V_1 : own_A Z h0 r1 kv .byte (Int32.ofNat M) (own_B M ds)) (P5 : ¬ (G1 = (0 : Int32))) (g_r1 : n0 ≤ r1) (hne : t0 ≠ r1) (hnr : r0 ≠ r1) (hM : ds.length + cs.length ≤ M ∧ M ≤ 64) (hnd : nd = ds.length) :
    own_M l Z h0 (⟨"java/lang/String", "getBytes", "([BIB)V"⟩ : MethodName) jdk_42_method_147_code 4 none ws (rR 1 0 0 18) #[(.ref r0), (.ref r1), (.int (Int32.ofNat nd)), (.int (0 : Int32))] (Q_gb00 Z r0 r1 nd t0 kz0 cs G1 kv M ds h0 n0) := by
  refine own_body (own := "java/lang/String") (plainFor_of_name pn_2) rfl ?_
  intro p e s m below meth c s₁ Bd hZ hh hx hby hml hown X0 e0
  have N0 := Fr.nil n0
  have k1 : Go p.tables e below (s₁.setTop (mkF m 0 #[.val (.ref r0), .val (.ref r1), .val (.int (Int32.ofNat nd)), .val (.int (0 : Int32))] [])) (s₁.setTop (mkF m 1 #[.val (.ref r0), .val (.ref r1), .val (.int (Int32.ofNat nd)), .val (.int (0 : Int32))] [(.ref r0)])) := by
    intro t ht
    refine XS.aloadN X0.here hx rfl (hb hby d_m13_0) rfl rfl ?_
    exact ht
  obtain ⟨cq2, kq2, q2a, q2b, q2c⟩ := isOf hZ e0 E_r0
  have rq2 := X0.virtualBack hx (y := (⟨"java/lang/String", "coder", "()B"⟩ : MethodName)) (z := (⟨"java/lang/String", "coder", "()B"⟩ : MethodName)) hown (mvT hZ (own_w hw 83 rfl)) (mvT hZ (own_w hw 84 rfl)) (notFace_of_selects (args := #[]) (mvT hZ (own_w hw 86 rfl))) (mvT hZ (own_w hw 86 rfl)) (mvT hZ (own_w hw 85 rfl)) (by decide) (backOf (W := 0) (rm_cod0 l Z a0 hw [] r0 G1 h0 n0 Z0 Fc_r0 S_CS P5) hZ (own_w hw 87 rfl) (own_w hw 2 rfl) (by decide) (by decide)) q2a q2c (g := (mkF m 1 #[.val (.ref r0), .val (.ref r1), .val (.int (Int32.ofNat nd)), .val (.int (0 : Int32))] [(.ref r0)])) rfl (by rw [hml]; rfl) (Steps.refl _) (argsL := []) (rest := []) (lenOf pd_7 rfl) rfl (by show 2 * 0 + _ ≤ _; exact Nat.le_of_eq rfl) (hb hby d_m13_1) (fun _ _ => ⟨rfl, e0, (by decide : 0 + 0 ≤ _), (by decide : 0 + 0 ≤ _)⟩)
  obtain ⟨_, T2, L2, X2, ⟨rfl, N2q, eq2⟩, st2⟩ := own_r X0 rq2
  have N2 := Fr.app N0 N2q
  have k3 : Go p.tables e below _ (T2.setTop (mkF m 9 #[.val (.ref r0), .val (.ref r1), .val (.int (Int32.ofNat nd)), .val (.int (0 : Int32))] [(.ref r0)])) := fun t ht => st2 t (by
    refine XS.iloadN X2.here hx rfl (hb hby d_m13_4) rfl ?_
    refine XS.icmpNo X2.here hx rfl (hb hby d_m13_5) rfl (teq (by decide : (0 : Int32) = (0 : Int32))).2 ?_
    refine XS.aloadN X2.here hx rfl (hb hby d_m13_8) rfl rfl ?_
    exact ht)
  obtain ⟨T4, X4, e4, st4⟩ := getF X2 hx hZ hown (host := "") (Or.inl (own_w hw 22 rfl)) Via.refl eq2 Fv_r0 (g := (mkF m 9 #[.val (.ref r0), .val (.ref r1), .val (.int (Int32.ofNat nd)), .val (.int (0 : Int32))] [(.ref r0)])) rfl rfl (hb hby d_m13_9)
  have k5 : Go p.tables e below _ (T4.setTop (mkF m 17 #[.val (.ref r0), .val (.ref r1), .val (.int (Int32.ofNat nd)), .val (.int (0 : Int32))] [(.int ((Int32.ofNat nd) <<< ((0 : Int32) &&& 31))), (.ref r1), (.int (0 : Int32)), (.ref t0)])) := fun t ht => st4 t (by
    refine XS.iconst X4.here hx rfl (hb hby d_m13_12) ?_
    refine XS.aloadN X4.here hx rfl (hb hby d_m13_13) rfl rfl ?_
    refine XS.iloadN X4.here hx rfl (hb hby d_m13_14) rfl ?_
    refine XS.iloadN X4.here hx rfl (hb hby d_m13_15) rfl ?_
    refine XS.ishl X4.here hx rfl (hb hby d_m13_16) rfl ?_
    exact ht)
  have k6 : Go p.tables e below _ (T4.setTop (mkF m 17 #[.val (.ref r0), .val (.ref r1), .val (.int (Int32.ofNat nd)), .val (.int (0 : Int32))] [(.int (Int32.ofNat ds.length)), (.ref r1), (.int (0 : Int32)), (.ref t0)])) := goT k5 (by rw [hnd, own_shl0]; exact fun _ h => h)
  have k7 : Go p.tables e below _ (T4.setTop (mkF m 18 #[.val (.ref r0), .val (.ref r1), .val (.int (Int32.ofNat nd)), .val (.int (0 : Int32))] [(.ref r0), (.int (Int32.ofNat ds.length)), (.ref r1), (.int (0 : Int32)), (.ref t0)])) := goT k6 fun t ht => (by
    refine XS.aloadN X4.here hx rfl (hb hby d_m13_17) rfl rfl ?_
    exact ht)
  obtain ⟨T8, X8, e8, st8⟩ := getF X4 hx hZ hown (host := "") (Or.inl (own_w hw 22 rfl)) Via.refl e4 Fv_r0 (g := (mkF m 18 #[.val (.ref r0), .val (.ref r1), .val (.int (Int32.ofNat nd)), .val (.int (0 : Int32))] [(.ref r0), (.int (Int32.ofNat ds.length)), (.ref r1), (.int (0 : Int32)), (.ref t0)])) rfl rfl (hb hby d_m13_18)
  have k8 : Go p.tables e below _ (T8.setTop (mkF m 21 #[.val (.ref r0), .val (.ref r1), .val (.int (Int32.ofNat nd)), .val (.int (0 : Int32))] [(.ref t0), (.int (Int32.ofNat ds.length)), (.ref r1), (.int (0 : Int32)), (.ref t0)])) := st8
  obtain ⟨cl9, Ar9, q9, S9, M9, H9, G9⟩ := id V_t0
  have k10 : Go p.tables e below _ (T8.setTop (mkF m 22 #[.val (.ref r0), .val (.ref r1), .val (.int (Int32.ofNat nd)), .val (.int (0 : Int32))] [(.int (Int32.ofNat cs.length)), (.int (Int32.ofNat ds.length)), (.ref r1), (.int (0 : Int32)), (.ref t0)])) := goT k8 fun t ht => (by
    refine X8.arraylength hx (by rw [e8]; exact Ar9.1) (State.isArrayOf_alike hZ.alike Ar9.2.1) (g := (mkF m 21 #[.val (.ref r0), .val (.ref r1), .val (.int (Int32.ofNat nd)), .val (.int (0 : Int32))] [(.ref t0), (.int (Int32.ofNat ds.length)), (.ref r1), (.int (0 : Int32)), (.ref t0)])) rfl rfl (hb hby d_m13_21) _ ?_
    rw [len_of S9 M9]
    exact ht)
  obtain ⟨T11, h11, L11, X11, e11, N11, K11, V11, st11⟩ := own_acopy X8 hx hZ hown (own_w hw 111 rfl) (own_w hw 114 rfl) (own_w hw 112 rfl) (own_w hw 113 rfl) e8 (i := 0) (j := ds.length) (k := cs.length) V_t0 V_1 (NEW := (own_B M (ds ++ cs))) own_z0 (own_int (by omega)) (own_int (by omega)) (own_intle (by omega)) (own_intle (by omega)) (by simp [own_lenu, own_lenb]) (by simp [own_lenU hM, own_lenB hM]; omega) (own_cpB hM) N2 g_r1 (g := (mkF m 22 #[.val (.ref r0), .val (.ref r1), .val (.int (Int32.ofNat nd)), .val (.int (0 : Int32))] [(.int (Int32.ofNat cs.length)), (.int (Int32.ofNat ds.length)), (.ref r1), (.int (0 : Int32)), (.ref t0)])) rfl (by rw [hml]; rfl) (rest := []) rfl (hb hby d_m13_22) (by decide) (W := 0) (by show 2 * 0 + _ ≤ _; exact Nat.le_of_eq rfl) (by decide)
  have Kp11 : Keep h0 h11 [r1] := (Keep.refl h0 [r1]).trans K11 (allS (Or.inl (by simp)) all0)
  have k12 : Go p.tables e below _ (T11.setTop (mkF m 43 #[.val (.ref r0), .val (.ref r1), .val (.int (Int32.ofNat nd)), .val (.int (0 : Int32))] [])) := fun t ht => st11 t (by
    refine XS.goto X11.here hx rfl (pc0 := 25) (pc' := 43) rfl (hb hby d_m13_25) (by decide) (by decide) ?_
    exact ht)
  obtain ⟨fs, hr, hrun, hended, hW, hsame⟩ := X11.leave (v := none) (fun _ => rfl)
  refine ⟨_, _, castTop (ef_gb00 m r0 r1 (Int32.ofNat nd)) ((goT k1 (goT k3 (goT k7 (goT k10 k12)))) _ (X11.returnOut hx Bd.returns (hb hby d_m13_43) hr)), hrun, hended, _, _, rfl, ?_, ⟨_, rfl⟩, hW, hsame.mono (by decide) (by decide)⟩
  show Q_gb00 Z r0 r1 nd t0 kz0 cs G1 kv M ds h0 n0 _ T11.heap _
  rw [e11]
  exact ⟨rfl, N11, Kp11, V11⟩
theorem ef_gb11 (m : MethodId) (x0 : Addr) (x1 : Addr) (x2 : Int32) : entryFrame m #[(.ref x0), (.ref x1), (.int x2), (.int (1 : Int32))] 4 = mkF m 0 #[.val (.ref x0), .val (.ref x1), .val (.int x2), .val (.int (1 : Int32))] [] := by first | (simp [entryFrame, mkF, argsToLocals, Value.category]; done) | rfl
def Q_gb11 (Z : State) (r0 : Addr) (r1 : Addr) (nd : Nat) (t0 : Addr) (kz0 : ClassId) (cs : List Int32) (G1 : Int32) (kv : ClassId) (M : Nat) (ds : List Int32) (h0 : Heap) (n0 : Nat) (v : Option Value) (h : Heap) (L : List Loc) : Prop := v = none ∧ Fr n0 L ∧ Keep h0 h [r1] ∧ own_A Z h r1 kv .byte (Int32.ofNat (2 * M)) (own_U M (ds ++ cs))
set_option maxRecDepth 65536 in
set_option maxHeartbeats 40000000 in
theorem rm_gb11 (l : Launch) (Z : State) (a0 : Array Value) (hw : HW a0 Z) (ws : List Jvm.Cond) (r0 : Addr) (r1 : Addr) (nd : Nat) (t0 : Addr) (kz0 : ClassId) (cs : List Int32) (G1 : Int32) (kv : ClassId) (M : Nat) (ds : List Int32) (h0 : Heap) (n0 : Nat) (Z0 : n0 ≤ h0.size) (E_r0 : Exa Z h0 r0 "java/lang/String") (Fv_r0 : f1 Z h0 r0 (.ref t0)) (Fc_r0 : f0 Z h0 r0 (.int (1 : Int32))) (S_CS : f12 Z h0 (.int G1)) (V_t0 : own_A Z h0 t0 kz0 .byte (Int32.ofNat (2 * cs.length)) (own_u cs)) (V_1 : own_A Z h0 r1 kv .byte (Int32.ofNat (2 * M)) (own_U M ds)) (P5 : ¬ (G1 = (0 : Int32))) (g_r1 : n0 ≤ r1) (hne : t0 ≠ r1) (hnr : r0 ≠ r1) (hM : ds.length + cs.length ≤ M ∧ M ≤ 64) (hnd : nd = ds.length) :
    own_M l Z h0 (⟨"java/lang/String", "getBytes", "([BIB)V"⟩ : MethodName) jdk_42_method_147_code 4 none ws (rR 1 0 0 18) #[(.ref r0), (.ref r1), (.int (Int32.ofNat nd)), (.int (1 : Int32))] (Q_gb11 Z r0 r1 nd t0 kz0 cs G1 kv M ds h0 n0) := by
  refine own_body (own := "java/lang/String") (plainFor_of_name pn_2) rfl ?_
  intro p e s m below meth c s₁ Bd hZ hh hx hby hml hown X0 e0
  have N0 := Fr.nil n0
  have k1 : Go p.tables e below (s₁.setTop (mkF m 0 #[.val (.ref r0), .val (.ref r1), .val (.int (Int32.ofNat nd)), .val (.int (1 : Int32))] [])) (s₁.setTop (mkF m 1 #[.val (.ref r0), .val (.ref r1), .val (.int (Int32.ofNat nd)), .val (.int (1 : Int32))] [(.ref r0)])) := by
    intro t ht
    refine XS.aloadN X0.here hx rfl (hb hby d_m13_0) rfl rfl ?_
    exact ht
  obtain ⟨cq2, kq2, q2a, q2b, q2c⟩ := isOf hZ e0 E_r0
  have rq2 := X0.virtualBack hx (y := (⟨"java/lang/String", "coder", "()B"⟩ : MethodName)) (z := (⟨"java/lang/String", "coder", "()B"⟩ : MethodName)) hown (mvT hZ (own_w hw 83 rfl)) (mvT hZ (own_w hw 84 rfl)) (notFace_of_selects (args := #[]) (mvT hZ (own_w hw 86 rfl))) (mvT hZ (own_w hw 86 rfl)) (mvT hZ (own_w hw 85 rfl)) (by decide) (backOf (W := 0) (rm_cod1 l Z a0 hw [] r0 G1 h0 n0 Z0 Fc_r0 S_CS P5) hZ (own_w hw 87 rfl) (own_w hw 2 rfl) (by decide) (by decide)) q2a q2c (g := (mkF m 1 #[.val (.ref r0), .val (.ref r1), .val (.int (Int32.ofNat nd)), .val (.int (1 : Int32))] [(.ref r0)])) rfl (by rw [hml]; rfl) (Steps.refl _) (argsL := []) (rest := []) (lenOf pd_7 rfl) rfl (by show 2 * 0 + _ ≤ _; exact Nat.le_of_eq rfl) (hb hby d_m13_1) (fun _ _ => ⟨rfl, e0, (by decide : 0 + 0 ≤ _), (by decide : 0 + 0 ≤ _)⟩)
  obtain ⟨_, T2, L2, X2, ⟨rfl, N2q, eq2⟩, st2⟩ := own_r X0 rq2
  have N2 := Fr.app N0 N2q
  have k3 : Go p.tables e below _ (T2.setTop (mkF m 9 #[.val (.ref r0), .val (.ref r1), .val (.int (Int32.ofNat nd)), .val (.int (1 : Int32))] [(.ref r0)])) := fun t ht => st2 t (by
    refine XS.iloadN X2.here hx rfl (hb hby d_m13_4) rfl ?_
    refine XS.icmpNo X2.here hx rfl (hb hby d_m13_5) rfl (teq (by decide : (1 : Int32) = (1 : Int32))).2 ?_
    refine XS.aloadN X2.here hx rfl (hb hby d_m13_8) rfl rfl ?_
    exact ht)
  obtain ⟨T4, X4, e4, st4⟩ := getF X2 hx hZ hown (host := "") (Or.inl (own_w hw 22 rfl)) Via.refl eq2 Fv_r0 (g := (mkF m 9 #[.val (.ref r0), .val (.ref r1), .val (.int (Int32.ofNat nd)), .val (.int (1 : Int32))] [(.ref r0)])) rfl rfl (hb hby d_m13_9)
  have k5 : Go p.tables e below _ (T4.setTop (mkF m 17 #[.val (.ref r0), .val (.ref r1), .val (.int (Int32.ofNat nd)), .val (.int (1 : Int32))] [(.int ((Int32.ofNat nd) <<< ((1 : Int32) &&& 31))), (.ref r1), (.int (0 : Int32)), (.ref t0)])) := fun t ht => st4 t (by
    refine XS.iconst X4.here hx rfl (hb hby d_m13_12) ?_
    refine XS.aloadN X4.here hx rfl (hb hby d_m13_13) rfl rfl ?_
    refine XS.iloadN X4.here hx rfl (hb hby d_m13_14) rfl ?_
    refine XS.iloadN X4.here hx rfl (hb hby d_m13_15) rfl ?_
    refine XS.ishl X4.here hx rfl (hb hby d_m13_16) rfl ?_
    exact ht)
  have k6 : Go p.tables e below _ (T4.setTop (mkF m 17 #[.val (.ref r0), .val (.ref r1), .val (.int (Int32.ofNat nd)), .val (.int (1 : Int32))] [(.int (Int32.ofNat (2 * ds.length))), (.ref r1), (.int (0 : Int32)), (.ref t0)])) := goT k5 (by rw [hnd, own_shl1 (by omega)]; exact fun _ h => h)
  have k7 : Go p.tables e below _ (T4.setTop (mkF m 18 #[.val (.ref r0), .val (.ref r1), .val (.int (Int32.ofNat nd)), .val (.int (1 : Int32))] [(.ref r0), (.int (Int32.ofNat (2 * ds.length))), (.ref r1), (.int (0 : Int32)), (.ref t0)])) := goT k6 fun t ht => (by
    refine XS.aloadN X4.here hx rfl (hb hby d_m13_17) rfl rfl ?_
    exact ht)
  obtain ⟨T8, X8, e8, st8⟩ := getF X4 hx hZ hown (host := "") (Or.inl (own_w hw 22 rfl)) Via.refl e4 Fv_r0 (g := (mkF m 18 #[.val (.ref r0), .val (.ref r1), .val (.int (Int32.ofNat nd)), .val (.int (1 : Int32))] [(.ref r0), (.int (Int32.ofNat (2 * ds.length))), (.ref r1), (.int (0 : Int32)), (.ref t0)])) rfl rfl (hb hby d_m13_18)
  have k8 : Go p.tables e below _ (T8.setTop (mkF m 21 #[.val (.ref r0), .val (.ref r1), .val (.int (Int32.ofNat nd)), .val (.int (1 : Int32))] [(.ref t0), (.int (Int32.ofNat (2 * ds.length))), (.ref r1), (.int (0 : Int32)), (.ref t0)])) := st8
  obtain ⟨cl9, Ar9, q9, S9, M9, H9, G9⟩ := id V_t0
  have k10 : Go p.tables e below _ (T8.setTop (mkF m 22 #[.val (.ref r0), .val (.ref r1), .val (.int (Int32.ofNat nd)), .val (.int (1 : Int32))] [(.int (Int32.ofNat (2 * cs.length))), (.int (Int32.ofNat (2 * ds.length))), (.ref r1), (.int (0 : Int32)), (.ref t0)])) := goT k8 fun t ht => (by
    refine X8.arraylength hx (by rw [e8]; exact Ar9.1) (State.isArrayOf_alike hZ.alike Ar9.2.1) (g := (mkF m 21 #[.val (.ref r0), .val (.ref r1), .val (.int (Int32.ofNat nd)), .val (.int (1 : Int32))] [(.ref t0), (.int (Int32.ofNat (2 * ds.length))), (.ref r1), (.int (0 : Int32)), (.ref t0)])) rfl rfl (hb hby d_m13_21) _ ?_
    rw [len_of S9 M9]
    exact ht)
  obtain ⟨T11, h11, L11, X11, e11, N11, K11, V11, st11⟩ := own_acopy X8 hx hZ hown (own_w hw 111 rfl) (own_w hw 114 rfl) (own_w hw 112 rfl) (own_w hw 113 rfl) e8 (i := 0) (j := (2 * ds.length)) (k := (2 * cs.length)) V_t0 V_1 (NEW := (own_U M (ds ++ cs))) own_z0 (own_int (by omega)) (own_int (by omega)) (own_intle (by omega)) (own_intle (by omega)) (by simp [own_lenu, own_lenb]) (by simp [own_lenU hM, own_lenB hM]; omega) (own_cpU hM) N2 g_r1 (g := (mkF m 22 #[.val (.ref r0), .val (.ref r1), .val (.int (Int32.ofNat nd)), .val (.int (1 : Int32))] [(.int (Int32.ofNat (2 * cs.length))), (.int (Int32.ofNat (2 * ds.length))), (.ref r1), (.int (0 : Int32)), (.ref t0)])) rfl (by rw [hml]; rfl) (rest := []) rfl (hb hby d_m13_22) (by decide) (W := 0) (by show 2 * 0 + _ ≤ _; exact Nat.le_of_eq rfl) (by decide)
  have Kp11 : Keep h0 h11 [r1] := (Keep.refl h0 [r1]).trans K11 (allS (Or.inl (by simp)) all0)
  have k12 : Go p.tables e below _ (T11.setTop (mkF m 43 #[.val (.ref r0), .val (.ref r1), .val (.int (Int32.ofNat nd)), .val (.int (1 : Int32))] [])) := fun t ht => st11 t (by
    refine XS.goto X11.here hx rfl (pc0 := 25) (pc' := 43) rfl (hb hby d_m13_25) (by decide) (by decide) ?_
    exact ht)
  obtain ⟨fs, hr, hrun, hended, hW, hsame⟩ := X11.leave (v := none) (fun _ => rfl)
  refine ⟨_, _, castTop (ef_gb11 m r0 r1 (Int32.ofNat nd)) ((goT k1 (goT k3 (goT k7 (goT k10 k12)))) _ (X11.returnOut hx Bd.returns (hb hby d_m13_43) hr)), hrun, hended, _, _, rfl, ?_, ⟨_, rfl⟩, hW, hsame.mono (by decide) (by decide)⟩
  show Q_gb11 Z r0 r1 nd t0 kz0 cs G1 kv M ds h0 n0 _ T11.heap _
  rw [e11]
  exact ⟨rfl, N11, Kp11, V11⟩
theorem d_m13_28 : decode jdk_42_method_147_code 28 = .ok (.aload_n 0, 1) := by decide +kernel
theorem d_m13_29 : decode jdk_42_method_147_code 29 = .ok (.getfield 9, 3) := by decide +kernel
theorem d_m13_32 : decode jdk_42_method_147_code 32 = .ok (.iconst 0, 1) := by decide +kernel
theorem d_m13_33 : decode jdk_42_method_147_code 33 = .ok (.aload_n 1, 1) := by decide +kernel
theorem d_m13_34 : decode jdk_42_method_147_code 34 = .ok (.iload_n 2, 1) := by decide +kernel
theorem d_m13_35 : decode jdk_42_method_147_code 35 = .ok (.aload_n 0, 1) := by decide +kernel
theorem d_m13_36 : decode jdk_42_method_147_code 36 = .ok (.getfield 9, 3) := by decide +kernel
theorem d_m13_39 : decode jdk_42_method_147_code 39 = .ok (.arraylength, 1) := by decide +kernel
theorem d_m13_40 : decode jdk_42_method_147_code 40 = .ok (.invokestatic 106, 3) := by decide +kernel
theorem ef_gb01 (m : MethodId) (x0 : Addr) (x1 : Addr) (x2 : Int32) : entryFrame m #[(.ref x0), (.ref x1), (.int x2), (.int (1 : Int32))] 4 = mkF m 0 #[.val (.ref x0), .val (.ref x1), .val (.int x2), .val (.int (1 : Int32))] [] := by first | (simp [entryFrame, mkF, argsToLocals, Value.category]; done) | rfl
def Q_gb01 (Z : State) (r0 : Addr) (r1 : Addr) (nd : Nat) (t0 : Addr) (kz0 : ClassId) (cs : List Int32) (G1 : Int32) (kv : ClassId) (M : Nat) (ds : List Int32) (fm : Value) (h0 : Heap) (n0 : Nat) (v : Option Value) (h : Heap) (L : List Loc) : Prop := v = none ∧ Fr n0 L ∧ Keep h0 h [r1] ∧ own_A Z h r1 kv .byte (Int32.ofNat (2 * M)) (own_U M (ds ++ cs))
set_option maxRecDepth 65536 in
set_option maxHeartbeats 40000000 in
theorem rm_gb01 (l : Launch) (Z : State) (a0 : Array Value) (hw : HW a0 Z) (ws : List Jvm.Cond) (r0 : Addr) (r1 : Addr) (nd : Nat) (t0 : Addr) (kz0 : ClassId) (cs : List Int32) (G1 : Int32) (kv : ClassId) (M : Nat) (ds : List Int32) (fm : Value) (h0 : Heap) (n0 : Nat) (Z0 : n0 ≤ h0.size) (E_r0 : Exa Z h0 r0 "java/lang/String") (Fv_r0 : f1 Z h0 r0 (.ref t0)) (Fc_r0 : f0 Z h0 r0 (.int (0 : Int32))) (S_CS : f12 Z h0 (.int G1)) (S_AD : f8 Z h0 (.int (1 : Int32))) (S_HI : f9 Z h0 (.int (0 : Int32))) (S_LO : f10 Z h0 (.int (8 : Int32))) (S_SI : f11 Z h0 fm) (V_t0 : own_A Z h0 t0 kz0 .byte (Int32.ofNat cs.length) (own_b cs)) (V_1 : own_A Z h0 r1 kv .byte (Int32.ofNat (2 * M)) (own_U M ds)) (P5 : ¬ (G1 = (0 : Int32))) (g_r1 : n0 ≤ r1) (hne : t0 ≠ r1) (hnr : r0 ≠ r1) (hM : ds.length + cs.length ≤ M ∧ M ≤ 64) (hch : ∀ c ∈ cs, ¬ c < 0 ∧ ¬ (255 : Int32) < c) (rf : fm.isRef = true) (hnd : nd = ds.length) :
    own_M l Z h0 (⟨"java/lang/String", "getBytes", "([BIB)V"⟩ : MethodName) jdk_42_method_147_code 4 none ws (rR 6 0 0 93) #[(.ref r0), (.ref r1), (.int (Int32.ofNat nd)), (.int (1 : Int32))] (Q_gb01 Z r0 r1 nd t0 kz0 cs G1 kv M ds fm h0 n0) := by
  refine own_body (own := "java/lang/String") (plainFor_of_name pn_2) rfl ?_
  intro p e s m below meth c s₁ Bd hZ hh hx hby hml hown X0 e0
  have N0 := Fr.nil n0
  have k1 : Go p.tables e below (s₁.setTop (mkF m 0 #[.val (.ref r0), .val (.ref r1), .val (.int (Int32.ofNat nd)), .val (.int (1 : Int32))] [])) (s₁.setTop (mkF m 1 #[.val (.ref r0), .val (.ref r1), .val (.int (Int32.ofNat nd)), .val (.int (1 : Int32))] [(.ref r0)])) := by
    intro t ht
    refine XS.aloadN X0.here hx rfl (hb hby d_m13_0) rfl rfl ?_
    exact ht
  obtain ⟨cq2, kq2, q2a, q2b, q2c⟩ := isOf hZ e0 E_r0
  have rq2 := X0.virtualBack hx (y := (⟨"java/lang/String", "coder", "()B"⟩ : MethodName)) (z := (⟨"java/lang/String", "coder", "()B"⟩ : MethodName)) hown (mvT hZ (own_w hw 83 rfl)) (mvT hZ (own_w hw 84 rfl)) (notFace_of_selects (args := #[]) (mvT hZ (own_w hw 86 rfl))) (mvT hZ (own_w hw 86 rfl)) (mvT hZ (own_w hw 85 rfl)) (by decide) (backOf (W := 0) (rm_cod0 l Z a0 hw [] r0 G1 h0 n0 Z0 Fc_r0 S_CS P5) hZ (own_w hw 87 rfl) (own_w hw 2 rfl) (by decide) (by decide)) q2a q2c (g := (mkF m 1 #[.val (.ref r0), .val (.ref r1), .val (.int (Int32.ofNat nd)), .val (.int (1 : Int32))] [(.ref r0)])) rfl (by rw [hml]; rfl) (Steps.refl _) (argsL := []) (rest := []) (lenOf pd_7 rfl) rfl (by show 2 * 0 + _ ≤ _; exact Nat.le_of_eq rfl) (hb hby d_m13_1) (fun _ _ => ⟨rfl, e0, (by decide : 0 + 0 ≤ _), (by decide : 0 + 0 ≤ _)⟩)
  obtain ⟨_, T2, L2, X2, ⟨rfl, N2q, eq2⟩, st2⟩ := own_r X0 rq2
  have N2 := Fr.app N0 N2q
  have k3 : Go p.tables e below _ (T2.setTop (mkF m 29 #[.val (.ref r0), .val (.ref r1), .val (.int (Int32.ofNat nd)), .val (.int (1 : Int32))] [(.ref r0)])) := fun t ht => st2 t (by
    refine XS.iloadN X2.here hx rfl (hb hby d_m13_4) rfl ?_
    refine XS.icmpYes X2.here hx rfl (pc0 := 5) (pc' := 28) rfl (hb hby d_m13_5) rfl (feq (by decide : ¬ ((0 : Int32) = (1 : Int32)))).2 (by decide) (by decide) ?_
    refine XS.aloadN X2.here hx rfl (hb hby d_m13_28) rfl rfl ?_
    exact ht)
  obtain ⟨T4, X4, e4, st4⟩ := getF X2 hx hZ hown (host := "") (Or.inl (own_w hw 22 rfl)) Via.refl eq2 Fv_r0 (g := (mkF m 29 #[.val (.ref r0), .val (.ref r1), .val (.int (Int32.ofNat nd)), .val (.int (1 : Int32))] [(.ref r0)])) rfl rfl (hb hby d_m13_29)
  have k5 : Go p.tables e below _ (T4.setTop (mkF m 36 #[.val (.ref r0), .val (.ref r1), .val (.int (Int32.ofNat nd)), .val (.int (1 : Int32))] [(.ref r0), (.int (Int32.ofNat nd)), (.ref r1), (.int (0 : Int32)), (.ref t0)])) := fun t ht => st4 t (by
    refine XS.iconst X4.here hx rfl (hb hby d_m13_32) ?_
    refine XS.aloadN X4.here hx rfl (hb hby d_m13_33) rfl rfl ?_
    refine XS.iloadN X4.here hx rfl (hb hby d_m13_34) rfl ?_
    refine XS.aloadN X4.here hx rfl (hb hby d_m13_35) rfl rfl ?_
    exact ht)
  obtain ⟨T6, X6, e6, st6⟩ := getF X4 hx hZ hown (host := "") (Or.inl (own_w hw 22 rfl)) Via.refl e4 Fv_r0 (g := (mkF m 36 #[.val (.ref r0), .val (.ref r1), .val (.int (Int32.ofNat nd)), .val (.int (1 : Int32))] [(.ref r0), (.int (Int32.ofNat nd)), (.ref r1), (.int (0 : Int32)), (.ref t0)])) rfl rfl (hb hby d_m13_36)
  have k6 : Go p.tables e below _ (T6.setTop (mkF m 39 #[.val (.ref r0), .val (.ref r1), .val (.int (Int32.ofNat nd)), .val (.int (1 : Int32))] [(.ref t0), (.int (Int32.ofNat nd)), (.ref r1), (.int (0 : Int32)), (.ref t0)])) := st6
  obtain ⟨cl7, Ar7, q7, S7, M7, H7, G7⟩ := id V_t0
  have k8 : Go p.tables e below _ (T6.setTop (mkF m 40 #[.val (.ref r0), .val (.ref r1), .val (.int (Int32.ofNat nd)), .val (.int (1 : Int32))] [(.int (Int32.ofNat cs.length)), (.int (Int32.ofNat nd)), (.ref r1), (.int (0 : Int32)), (.ref t0)])) := goT k6 fun t ht => (by
    refine X6.arraylength hx (by rw [e6]; exact Ar7.1) (State.isArrayOf_alike hZ.alike Ar7.2.1) (g := (mkF m 39 #[.val (.ref r0), .val (.ref r1), .val (.int (Int32.ofNat nd)), .val (.int (1 : Int32))] [(.ref t0), (.int (Int32.ofNat nd)), (.ref r1), (.int (0 : Int32)), (.ref t0)])) rfl rfl (hb hby d_m13_39) _ ?_
    rw [len_of S7 M7]
    exact ht)
  have rq9 := Jvm.LawKit.callS X6 hx (y := (⟨"java/lang/StringLatin1", "inflate", "([BI[BII)V"⟩ : MethodName)) hown (mvT hZ (own_w hw 257 rfl)) (mvT hZ (own_w hw 238 rfl)) (mvT hZ (own_w hw 7 rfl)) (mvT hZ (own_w hw 239 rfl)) (by decide) (backOf (W := 0) (rm_infL l Z a0 hw [] t0 r1 nd cs.length kz0 kv (Int32.ofNat cs.length) M (own_b cs) (own_U M ds) fm h0 n0 Z0 S_AD S_HI S_LO S_SI V_t0 V_1 g_r1 hne ((own_intle (by omega)) : (cs.length : Int) ≤ (Int32.ofNat cs.length).toInt) (by omega : nd + cs.length ≤ M ∧ M ≤ 64) (by rw [own_lenU' hM]; omega : 2 * M ≤ (own_U M ds).length) rf) hZ (own_w hw 239 rfl) (own_w hw 7 rfl) (by decide) (by decide)) (g := (mkF m 40 #[.val (.ref r0), .val (.ref r1), .val (.int (Int32.ofNat nd)), .val (.int (1 : Int32))] [(.int (Int32.ofNat cs.length)), (.int (Int32.ofNat nd)), (.ref r1), (.int (0 : Int32)), (.ref t0)])) rfl (by rw [hml]; rfl) (argsL := [(.ref t0), (.int (0 : Int32)), (.ref r1), (.int (Int32.ofNat nd)), (.int (Int32.ofNat cs.length))]) (rest := []) (lenOf pd_6 rfl) rfl (by show 2 * 0 + _ ≤ _; exact Nat.le_of_eq rfl) (hb hby d_m13_40) (fun _ _ => ⟨rfl, e6, (by decide : 0 + 0 ≤ _), (by decide : 0 + 0 ≤ _)⟩)
  obtain ⟨_, T9, L9, X9, ⟨rfl, N9q, K9, Fq9_0⟩, st9⟩ := own_rS X6 rq9
  have N9 := Fr.app N2 N9q
  have Kp9 : Keep h0 T9.heap [r1] := (Keep.refl h0 [r1]).trans K9 (allS (Or.inl (by simp)) all0)
  have k9 : Go p.tables e below _ (T9.setTop (mkF m 43 #[.val (.ref r0), .val (.ref r1), .val (.int (Int32.ofNat nd)), .val (.int (1 : Int32))] [])) := st9
  have Vc10 : own_A Z T9.heap r1 kv .byte (Int32.ofNat (2 * M)) (own_U M (ds ++ cs)) := by rw [← own_inflU' hnd hM hch]; exact Fq9_0
  obtain ⟨fs, hr, hrun, hended, hW, hsame⟩ := X9.leave (v := none) (fun _ => rfl)
  refine ⟨_, _, castTop (ef_gb01 m r0 r1 (Int32.ofNat nd)) ((goT k1 (goT k3 (goT k5 (goT k8 k9)))) _ (X9.returnOut hx Bd.returns (hb hby d_m13_43) hr)), hrun, hended, _, _, rfl, ?_, ⟨_, rfl⟩, hW, hsame.mono (by decide) (by decide)⟩
  show Q_gb01 Z r0 r1 nd t0 kz0 cs G1 kv M ds fm h0 n0 _ T9.heap _
  exact ⟨rfl, N9, Kp9, Vc10⟩
theorem d_m14_0 : decode jdk_29_method_65_code 0 = .ok (.iload_n 0, 1) := by decide +kernel
theorem d_m14_1 : decode jdk_29_method_65_code 1 = .ok (.iload_n 1, 1) := by decide +kernel
theorem d_m14_2 : decode jdk_29_method_65_code 2 = .ok (.if_icmp .lt 7, 3) := by decide +kernel
theorem d_m14_5 : decode jdk_29_method_65_code 5 = .ok (.iload_n 0, 1) := by decide +kernel
theorem d_m14_6 : decode jdk_29_method_65_code 6 = .ok (.goto 4, 3) := by decide +kernel
theorem d_m14_9 : decode jdk_29_method_65_code 9 = .ok (.iload_n 1, 1) := by decide +kernel
theorem d_m14_10 : decode jdk_29_method_65_code 10 = .ok (.ireturn, 1) := by decide +kernel
theorem ef_max (m : MethodId) (x0 : Int32) (x1 : Int32) : entryFrame m #[(.int x0), (.int x1)] 2 = mkF m 0 #[.val (.int x0), .val (.int x1)] [] := by first | (simp [entryFrame, mkF, argsToLocals, Value.category]; done) | rfl
def f_max (p0 : Int32) (p1 : Int32) : Int32 := (if p0 < p1 then p1 else p0)
def Q_max (Z : State) (p0 : Int32) (p1 : Int32) (h0 : Heap) (n0 : Nat) (v : Option Value) (h : Heap) (L : List Loc) : Prop := v = some (.int (f_max p0 p1)) ∧ Fr n0 L ∧ h = h0
set_option maxRecDepth 65536 in
set_option maxHeartbeats 40000000 in
theorem rm_max (l : Launch) (Z : State) (a0 : Array Value) (hw : HW a0 Z) (ws : List Jvm.Cond) (p0 : Int32) (p1 : Int32) (h0 : Heap) (n0 : Nat) (Z0 : n0 ≤ h0.size) :
    own_M l Z h0 (⟨"java/lang/Math", "max", "(II)I"⟩ : MethodName) jdk_29_method_65_code 2 (some .int) ws (rR 0 0 0 0) #[(.int p0), (.int p1)] (Q_max Z p0 p1 h0 n0) := by
  refine own_body (own := "java/lang/Math") (Jvm.Free.JP.mathPlain rfl (by decide +kernel)) rfl ?_
  intro p e s m below meth c s₁ Bd hZ hh hx hby hml hown X0 e0
  have N0 := Fr.nil n0
  have k1 : Go p.tables e below (s₁.setTop (mkF m 0 #[.val (.int p0), .val (.int p1)] [])) (s₁.setTop (mkF m 2 #[.val (.int p0), .val (.int p1)] [(.int p1), (.int p0)])) := by
    intro t ht
    refine XS.iloadN X0.here hx rfl (hb hby d_m14_0) rfl ?_
    refine XS.iloadN X0.here hx rfl (hb hby d_m14_1) rfl ?_
    exact ht
  by_cases hc2 : p0 < p1
  · have k3 : Go p.tables e below _ (s₁.setTop (mkF m 10 #[.val (.int p0), .val (.int p1)] [(.int p1)])) := goT k1 fun t ht => (by
      refine XS.icmpYes X0.here hx rfl (pc0 := 2) (pc' := 9) rfl (hb hby d_m14_2) rfl (tlt hc2).1 (by decide) (by decide) ?_
      refine XS.iloadN X0.here hx rfl (hb hby d_m14_9) rfl ?_
      exact ht)
    obtain ⟨fs, hr, hrun, hended, hW, hsame⟩ := X0.leave (v := some (.int p1)) (fun h => by rw [Bd.returns] at h; cases h)
    refine ⟨_, _, castTop (ef_max m p0 p1) (k3 _ (retI X0 hx Bd.returns (hb hby d_m14_10) hr)), hrun, hended, _, _, rfl, ?_, ⟨_, rfl⟩, hW, hsame.mono (by decide) (by decide)⟩
    show Q_max Z p0 p1 h0 n0 _ s₁.heap _
    rw [e0]
    exact ⟨by simp only [f_max, if_pos hc2], N0, rfl⟩
  · have k4 : Go p.tables e below _ (s₁.setTop (mkF m 10 #[.val (.int p0), .val (.int p1)] [(.int p0)])) := goT k1 fun t ht => (by
      refine XS.icmpNo X0.here hx rfl (hb hby d_m14_2) rfl (flt hc2).1 ?_
      refine XS.iloadN X0.here hx rfl (hb hby d_m14_5) rfl ?_
      refine XS.goto X0.here hx rfl (pc0 := 6) (pc' := 10) rfl (hb hby d_m14_6) (by decide) (by decide) ?_
      exact ht)
    obtain ⟨fs, hr, hrun, hended, hW, hsame⟩ := X0.leave (v := some (.int p0)) (fun h => by rw [Bd.returns] at h; cases h)
    refine ⟨_, _, castTop (ef_max m p0 p1) (k4 _ (retI X0 hx Bd.returns (hb hby d_m14_10) hr)), hrun, hended, _, _, rfl, ?_, ⟨_, rfl⟩, hW, hsame.mono (by decide) (by decide)⟩
    show Q_max Z p0 p1 h0 n0 _ s₁.heap _
    rw [e0]
    exact ⟨by simp only [f_max, if_neg hc2], N0, rfl⟩
theorem d_m15_0 : decode jdk_29_method_69_code 0 = .ok (.iload_n 0, 1) := by decide +kernel
theorem d_m15_1 : decode jdk_29_method_69_code 1 = .ok (.iload_n 1, 1) := by decide +kernel
theorem d_m15_2 : decode jdk_29_method_69_code 2 = .ok (.if_icmp .gt 7, 3) := by decide +kernel
theorem d_m15_5 : decode jdk_29_method_69_code 5 = .ok (.iload_n 0, 1) := by decide +kernel
theorem d_m15_6 : decode jdk_29_method_69_code 6 = .ok (.goto 4, 3) := by decide +kernel
theorem d_m15_9 : decode jdk_29_method_69_code 9 = .ok (.iload_n 1, 1) := by decide +kernel
theorem d_m15_10 : decode jdk_29_method_69_code 10 = .ok (.ireturn, 1) := by decide +kernel
theorem ef_min (m : MethodId) (x0 : Int32) (x1 : Int32) : entryFrame m #[(.int x0), (.int x1)] 2 = mkF m 0 #[.val (.int x0), .val (.int x1)] [] := by first | (simp [entryFrame, mkF, argsToLocals, Value.category]; done) | rfl
def f_min (p0 : Int32) (p1 : Int32) : Int32 := (if p1 < p0 then p1 else p0)
def Q_min (Z : State) (p0 : Int32) (p1 : Int32) (h0 : Heap) (n0 : Nat) (v : Option Value) (h : Heap) (L : List Loc) : Prop := v = some (.int (f_min p0 p1)) ∧ Fr n0 L ∧ h = h0
set_option maxRecDepth 65536 in
set_option maxHeartbeats 40000000 in
theorem rm_min (l : Launch) (Z : State) (a0 : Array Value) (hw : HW a0 Z) (ws : List Jvm.Cond) (p0 : Int32) (p1 : Int32) (h0 : Heap) (n0 : Nat) (Z0 : n0 ≤ h0.size) :
    own_M l Z h0 (⟨"java/lang/Math", "min", "(II)I"⟩ : MethodName) jdk_29_method_69_code 2 (some .int) ws (rR 0 0 0 0) #[(.int p0), (.int p1)] (Q_min Z p0 p1 h0 n0) := by
  refine own_body (own := "java/lang/Math") (Jvm.Free.JP.mathPlain rfl (by decide +kernel)) rfl ?_
  intro p e s m below meth c s₁ Bd hZ hh hx hby hml hown X0 e0
  have N0 := Fr.nil n0
  have k1 : Go p.tables e below (s₁.setTop (mkF m 0 #[.val (.int p0), .val (.int p1)] [])) (s₁.setTop (mkF m 2 #[.val (.int p0), .val (.int p1)] [(.int p1), (.int p0)])) := by
    intro t ht
    refine XS.iloadN X0.here hx rfl (hb hby d_m15_0) rfl ?_
    refine XS.iloadN X0.here hx rfl (hb hby d_m15_1) rfl ?_
    exact ht
  by_cases hc2 : p1 < p0
  · have k3 : Go p.tables e below _ (s₁.setTop (mkF m 10 #[.val (.int p0), .val (.int p1)] [(.int p1)])) := goT k1 fun t ht => (by
      refine XS.icmpYes X0.here hx rfl (pc0 := 2) (pc' := 9) rfl (hb hby d_m15_2) rfl (tlt hc2).2.2.1 (by decide) (by decide) ?_
      refine XS.iloadN X0.here hx rfl (hb hby d_m15_9) rfl ?_
      exact ht)
    obtain ⟨fs, hr, hrun, hended, hW, hsame⟩ := X0.leave (v := some (.int p1)) (fun h => by rw [Bd.returns] at h; cases h)
    refine ⟨_, _, castTop (ef_min m p0 p1) (k3 _ (retI X0 hx Bd.returns (hb hby d_m15_10) hr)), hrun, hended, _, _, rfl, ?_, ⟨_, rfl⟩, hW, hsame.mono (by decide) (by decide)⟩
    show Q_min Z p0 p1 h0 n0 _ s₁.heap _
    rw [e0]
    exact ⟨by simp only [f_min, if_pos hc2], N0, rfl⟩
  · have k4 : Go p.tables e below _ (s₁.setTop (mkF m 10 #[.val (.int p0), .val (.int p1)] [(.int p0)])) := goT k1 fun t ht => (by
      refine XS.icmpNo X0.here hx rfl (hb hby d_m15_2) rfl (flt hc2).2.2.1 ?_
      refine XS.iloadN X0.here hx rfl (hb hby d_m15_5) rfl ?_
      refine XS.goto X0.here hx rfl (pc0 := 6) (pc' := 10) rfl (hb hby d_m15_6) (by decide) (by decide) ?_
      exact ht)
    obtain ⟨fs, hr, hrun, hended, hW, hsame⟩ := X0.leave (v := some (.int p0)) (fun h => by rw [Bd.returns] at h; cases h)
    refine ⟨_, _, castTop (ef_min m p0 p1) (k4 _ (retI X0 hx Bd.returns (hb hby d_m15_10) hr)), hrun, hended, _, _, rfl, ?_, ⟨_, rfl⟩, hW, hsame.mono (by decide) (by decide)⟩
    show Q_min Z p0 p1 h0 n0 _ s₁.heap _
    rw [e0]
    exact ⟨by simp only [f_min, if_neg hc2], N0, rfl⟩
theorem own_max {a b : Nat} (h : a ≤ b) (hb : b ≤ 200) : f_max (Int32.ofNat a) (Int32.ofNat b) = Int32.ofNat b := by
  unfold f_max
  split
  · rename_i h1
    rw [Int32.lt_iff_toInt_lt, own_ofNat (by omega), own_ofNat (by omega)] at h1 <;> first | rfl | exact congrArg Int32.ofNat (by omega)
  · rename_i h1
    rw [Int32.lt_iff_toInt_lt, own_ofNat (by omega), own_ofNat (by omega)] at h1 <;> first | rfl | exact congrArg Int32.ofNat (by omega)
theorem own_min {a b : Nat} (h : a ≤ b) (hb : b ≤ 200) : f_min (Int32.ofNat a) (Int32.ofNat b) = Int32.ofNat a := by
  unfold f_min
  split
  · rename_i h1
    rw [Int32.lt_iff_toInt_lt, own_ofNat (by omega), own_ofNat (by omega)] at h1 <;> first | rfl | exact congrArg Int32.ofNat (by omega)
  · rename_i h1
    rw [Int32.lt_iff_toInt_lt, own_ofNat (by omega), own_ofNat (by omega)] at h1 <;> first | rfl | exact congrArg Int32.ofNat (by omega)
theorem own_pos {n : Nat} (h : 1 ≤ n ∧ n ≤ 200) : (0 : Int32) < Int32.ofNat n := by
  have c0 : (0 : Int32).toInt = 0 := rfl
  rw [Int32.lt_iff_toInt_lt, own_ofNat (by omega), c0]; omega
theorem own_big {n : Nat} (h : n ≤ 200) : ¬ (2147483639 : Int32) < Int32.ofNat n := by
  have c0 : (2147483639 : Int32).toInt = 2147483639 := rfl
  rw [Int32.lt_iff_toInt_lt, own_ofNat (by omega), c0]; omega
theorem own_sub {a b : Nat} (h : b ≤ a ∧ a ≤ 200) : Int32.ofNat a - Int32.ofNat b = Int32.ofNat (a - b) := by
  apply Int32.toInt_inj.mp
  rw [Int32.toInt_sub, own_ofNat (by omega), own_ofNat (by omega), own_ofNat (by omega), own_bmod (by omega) (by omega)]; omega
theorem own_grB {ds : List Int32} (hd : ds.length ≤ 16) : own_B 34 ds = (List.replicate 34 (0 : Int32)).take 0 ++ ((own_B 16 ds).drop 0).take 16 ++ (List.replicate 34 (0 : Int32)).drop (0 + 16) := by
  rw [List.take_zero, List.nil_append, List.drop_zero, List.take_of_length_le (by rw [own_lenB' hd]; exact Nat.le_refl _), List.drop_replicate]
  unfold own_B
  rw [List.append_assoc, List.replicate_append_replicate]
  congr 2; omega
theorem own_grU {ds : List Int32} (hd : ds.length ≤ 16) : own_U 34 ds = (List.replicate (2 * 34) (0 : Int32)).take 0 ++ ((own_U 16 ds).drop 0).take (2 * 16) ++ (List.replicate (2 * 34) (0 : Int32)).drop (0 + (2 * 16)) := by
  rw [List.take_zero, List.nil_append, List.drop_zero, List.take_of_length_le (by rw [own_lenUU hd]; exact Nat.le_refl _), List.drop_replicate]
  unfold own_U
  rw [List.append_assoc, List.replicate_append_replicate]
  congr 2; omega
theorem own_subnp {a b : Nat} (h : a ≤ b ∧ b ≤ 64) : ¬ (0 : Int32) < ((Int32.ofNat a) - (Int32.ofNat b)) := by
  have c0 : (0 : Int32).toInt = 0 := rfl
  rw [Int32.lt_iff_toInt_lt, Int32.toInt_sub, own_ofNat (by omega), own_ofNat (by omega), own_bmod (by omega) (by omega), c0]; omega
theorem own_subp {a b : Nat} (h : b < a ∧ a ≤ 64) : (0 : Int32) < ((Int32.ofNat a) - (Int32.ofNat b)) := by
  have c0 : (0 : Int32).toInt = 0 := rfl
  rw [Int32.lt_iff_toInt_lt, Int32.toInt_sub, own_ofNat (by omega), own_ofNat (by omega), own_bmod (by omega) (by omega), c0]; omega
theorem pd_8 : parseMethodDescriptor "(II)I" = some ⟨[.int, .int], some .int⟩ := by decide +kernel
theorem d_m16_0 : decode jdk_48_method_27_code 0 = .ok (.iload_n 0, 1) := by decide +kernel
theorem d_m16_1 : decode jdk_48_method_27_code 1 = .ok (.iload_n 1, 1) := by decide +kernel
theorem d_m16_2 : decode jdk_48_method_27_code 2 = .ok (.iload_n 2, 1) := by decide +kernel
theorem d_m16_3 : decode jdk_48_method_27_code 3 = .ok (.invokestatic 194, 3) := by decide +kernel
theorem d_m16_6 : decode jdk_48_method_27_code 6 = .ok (.iadd, 1) := by decide +kernel
theorem d_m16_7 : decode jdk_48_method_27_code 7 = .ok (.istore_n 3, 1) := by decide +kernel
theorem d_m16_8 : decode jdk_48_method_27_code 8 = .ok (.iconst 0, 1) := by decide +kernel
theorem d_m16_9 : decode jdk_48_method_27_code 9 = .ok (.iload_n 3, 1) := by decide +kernel
theorem d_m16_10 : decode jdk_48_method_27_code 10 = .ok (.if_icmp .ge 11, 3) := by decide +kernel
theorem d_m16_13 : decode jdk_48_method_27_code 13 = .ok (.iload_n 3, 1) := by decide +kernel
theorem d_m16_14 : decode jdk_48_method_27_code 14 = .ok (.ldc 200, 2) := by decide +kernel
theorem d_m16_16 : decode jdk_48_method_27_code 16 = .ok (.if_icmp .gt 5, 3) := by decide +kernel
theorem d_m16_19 : decode jdk_48_method_27_code 19 = .ok (.iload_n 3, 1) := by decide +kernel
theorem d_m16_20 : decode jdk_48_method_27_code 20 = .ok (.ireturn, 1) := by decide +kernel
theorem pn_5 : plainName "jdk/internal/util/ArraysSupport" = true := by first | (simp [plainName, overriddenIn]; done) | decide +kernel
theorem ef_nlen (m : MethodId) (x0 : Int32) (x1 : Int32) (x2 : Int32) : entryFrame m #[(.int x0), (.int x1), (.int x2)] 4 = mkF m 0 #[.val (.int x0), .val (.int x1), .val (.int x2), .unset] [] := by first | (simp [entryFrame, mkF, argsToLocals, Value.category]; done) | rfl
def Q_nlen (Z : State) (na : Nat) (nb : Nat) (nc : Nat) (h0 : Heap) (n0 : Nat) (v : Option Value) (h : Heap) (L : List Loc) : Prop := v = some (.int (Int32.ofNat (na + nc))) ∧ Fr n0 L ∧ h = h0
set_option maxRecDepth 65536 in
set_option maxHeartbeats 40000000 in
theorem rm_nlen (l : Launch) (Z : State) (a0 : Array Value) (hw : HW a0 Z) (ws : List Jvm.Cond) (na : Nat) (nb : Nat) (nc : Nat) (h0 : Heap) (n0 : Nat) (Z0 : n0 ≤ h0.size) (hbc : nb ≤ nc) (hc : 1 ≤ nc ∧ nc ≤ 40 ∧ na ≤ 40) :
    own_M l Z h0 (⟨"jdk/internal/util/ArraysSupport", "newLength", "(III)I"⟩ : MethodName) jdk_48_method_27_code 4 (some .int) ws (rR 1 0 0 14) #[(.int (Int32.ofNat na)), (.int (Int32.ofNat nb)), (.int (Int32.ofNat nc))] (Q_nlen Z na nb nc h0 n0) := by
  refine own_body (own := "jdk/internal/util/ArraysSupport") (plainFor_of_name pn_5) rfl ?_
  intro p e s m below meth c s₁ Bd hZ hh hx hby hml hown X0 e0
  have N0 := Fr.nil n0
  have k1 : Go p.tables e below (s₁.setTop (mkF m 0 #[.val (.int (Int32.ofNat na)), .val (.int (Int32.ofNat nb)), .val (.int (Int32.ofNat nc)), .unset] [])) (s₁.setTop (mkF m 3 #[.val (.int (Int32.ofNat na)), .val (.int (Int32.ofNat nb)), .val (.int (Int32.ofNat nc)), .unset] [(.int (Int32.ofNat nc)), (.int (Int32.ofNat nb)), (.int (Int32.ofNat na))])) := by
    intro t ht
    refine XS.iloadN X0.here hx rfl (hb hby d_m16_0) rfl ?_
    refine XS.iloadN X0.here hx rfl (hb hby d_m16_1) rfl ?_
    refine XS.iloadN X0.here hx rfl (hb hby d_m16_2) rfl ?_
    exact ht
  have rq2 := Jvm.LawKit.callS X0 hx (y := (⟨"java/lang/Math", "max", "(II)I"⟩ : MethodName)) hown (mvT hZ (own_w hw 202 rfl)) (mvT hZ (own_w hw 203 rfl)) (mvT hZ (own_w hw 158 rfl)) (mvT hZ (own_w hw 204 rfl)) (by decide) (backOf (W := 1) (rm_max l Z a0 hw [] (Int32.ofNat nb) (Int32.ofNat nc) h0 n0 Z0 ) hZ (own_w hw 204 rfl) (own_w hw 158 rfl) (by decide) (by decide)) (g := (mkF m 3 #[.val (.int (Int32.ofNat na)), .val (.int (Int32.ofNat nb)), .val (.int (Int32.ofNat nc)), .unset] [(.int (Int32.ofNat nc)), (.int (Int32.ofNat nb)), (.int (Int32.ofNat na))])) rfl (by rw [hml]; rfl) (argsL := [(.int (Int32.ofNat nb)), (.int (Int32.ofNat nc))]) (rest := [(.int (Int32.ofNat na))]) (lenOf pd_8 rfl) rfl (by show 2 * 0 + _ ≤ _; exact Nat.le_of_eq rfl) (hb hby d_m16_3) (fun _ _ => ⟨rfl, e0, (by decide : 0 + 0 ≤ _), (by decide : 0 + 0 ≤ _)⟩)
  obtain ⟨_, T2, L2, X2, ⟨rfl, N2q, eq2⟩, st2⟩ := own_rS X0 rq2
  have N2 := Fr.app N0 N2q
  have k3 : Go p.tables e below _ (T2.setTop (mkF m 7 #[.val (.int (Int32.ofNat na)), .val (.int (Int32.ofNat nb)), .val (.int (Int32.ofNat nc)), .unset] [(.int ((Int32.ofNat na) + (f_max (Int32.ofNat nb) (Int32.ofNat nc))))])) := fun t ht => st2 t (by
    refine XS.iadd X2.here hx rfl (hb hby d_m16_6) rfl ?_
    exact ht)
  have k4 : Go p.tables e below _ (T2.setTop (mkF m 7 #[.val (.int (Int32.ofNat na)), .val (.int (Int32.ofNat nb)), .val (.int (Int32.ofNat nc)), .unset] [(.int (Int32.ofNat (na + nc)))])) := goT k3 (by rw [own_max hbc (by omega), ← Int32.ofNat_add]; exact fun _ h => h)
  have k5 : Go p.tables e below _ (T2.setTop (mkF m 20 #[.val (.int (Int32.ofNat na)), .val (.int (Int32.ofNat nb)), .val (.int (Int32.ofNat nc)), .val (.int (Int32.ofNat (na + nc)))] [(.int (Int32.ofNat (na + nc)))])) := goT k4 fun t ht => (by
    refine XS.istoreN X2.here hx rfl (hb hby d_m16_7) rfl (l' := #[.val (.int (Int32.ofNat na)), .val (.int (Int32.ofNat nb)), .val (.int (Int32.ofNat nc)), .val (.int (Int32.ofNat (na + nc)))]) rfl ?_
    refine XS.iconst X2.here hx rfl (hb hby d_m16_8) ?_
    refine XS.iloadN X2.here hx rfl (hb hby d_m16_9) rfl ?_
    refine XS.icmpNo X2.here hx rfl (hb hby d_m16_10) rfl (tlt (own_pos (by omega))).2.1 ?_
    refine XS.iloadN X2.here hx rfl (hb hby d_m16_13) rfl ?_
    refine X2.ldcInt hx hown (mvT hZ (own_w hw 205 rfl)) (g := (mkF m 14 #[.val (.int (Int32.ofNat na)), .val (.int (Int32.ofNat nb)), .val (.int (Int32.ofNat nc)), .val (.int (Int32.ofNat (na + nc)))] [(.int (Int32.ofNat (na + nc)))])) rfl (hb hby d_m16_14) _ ?_
    refine XS.icmpNo X2.here hx rfl (hb hby d_m16_16) rfl (flt (own_big (by omega))).2.2.1 ?_
    refine XS.iloadN X2.here hx rfl (hb hby d_m16_19) rfl ?_
    exact ht)
  obtain ⟨fs, hr, hrun, hended, hW, hsame⟩ := X2.leave (v := some (.int (Int32.ofNat (na + nc)))) (fun h => by rw [Bd.returns] at h; cases h)
  refine ⟨_, _, castTop (ef_nlen m (Int32.ofNat na) (Int32.ofNat nb) (Int32.ofNat nc)) ((goT k1 k5) _ (retI X2 hx Bd.returns (hb hby d_m16_20) hr)), hrun, hended, _, _, rfl, ?_, ⟨_, rfl⟩, hW, hsame.mono (by decide) (by decide)⟩
  show Q_nlen Z na nb nc h0 n0 _ T2.heap _
  rw [eq2]
  exact ⟨rfl, N2, rfl⟩
theorem d_m17_0 : decode jdk_68_method_10_code 0 = .ok (.aload_n 0, 1) := by decide +kernel
theorem d_m17_1 : decode jdk_68_method_10_code 1 = .ok (.getfield 15, 3) := by decide +kernel
theorem d_m17_4 : decode jdk_68_method_10_code 4 = .ok (.arraylength, 1) := by decide +kernel
theorem d_m17_5 : decode jdk_68_method_10_code 5 = .ok (.istore_n 2, 1) := by decide +kernel
theorem d_m17_6 : decode jdk_68_method_10_code 6 = .ok (.iload_n 1, 1) := by decide +kernel
theorem d_m17_7 : decode jdk_68_method_10_code 7 = .ok (.aload_n 0, 1) := by decide +kernel
theorem d_m17_8 : decode jdk_68_method_10_code 8 = .ok (.getfield 22, 3) := by decide +kernel
theorem d_m17_11 : decode jdk_68_method_10_code 11 = .ok (.ishl, 1) := by decide +kernel
theorem d_m17_12 : decode jdk_68_method_10_code 12 = .ok (.istore_n 3, 1) := by decide +kernel
theorem d_m17_13 : decode jdk_68_method_10_code 13 = .ok (.iload_n 3, 1) := by decide +kernel
theorem d_m17_14 : decode jdk_68_method_10_code 14 = .ok (.iload_n 2, 1) := by decide +kernel
theorem d_m17_15 : decode jdk_68_method_10_code 15 = .ok (.isub, 1) := by decide +kernel
theorem d_m17_16 : decode jdk_68_method_10_code 16 = .ok (.istore 4, 2) := by decide +kernel
theorem d_m17_18 : decode jdk_68_method_10_code 18 = .ok (.iload_n 2, 1) := by decide +kernel
theorem d_m17_19 : decode jdk_68_method_10_code 19 = .ok (.iload 4, 2) := by decide +kernel
theorem d_m17_21 : decode jdk_68_method_10_code 21 = .ok (.iload_n 2, 1) := by decide +kernel
theorem d_m17_22 : decode jdk_68_method_10_code 22 = .ok (.iconst 2, 1) := by decide +kernel
theorem d_m17_23 : decode jdk_68_method_10_code 23 = .ok (.aload_n 0, 1) := by decide +kernel
theorem d_m17_24 : decode jdk_68_method_10_code 24 = .ok (.getfield 22, 3) := by decide +kernel
theorem d_m17_27 : decode jdk_68_method_10_code 27 = .ok (.ishl, 1) := by decide +kernel
theorem d_m17_28 : decode jdk_68_method_10_code 28 = .ok (.iadd, 1) := by decide +kernel
theorem d_m17_29 : decode jdk_68_method_10_code 29 = .ok (.invokestatic 114, 3) := by decide +kernel
theorem d_m17_32 : decode jdk_68_method_10_code 32 = .ok (.istore 5, 2) := by decide +kernel
theorem d_m17_34 : decode jdk_68_method_10_code 34 = .ok (.iload 5, 2) := by decide +kernel
theorem d_m17_36 : decode jdk_68_method_10_code 36 = .ok (.ldc 39, 2) := by decide +kernel
theorem d_m17_38 : decode jdk_68_method_10_code 38 = .ok (.if_icmp .ne 13, 3) := by decide +kernel
theorem d_m17_51 : decode jdk_68_method_10_code 51 = .ok (.iload 5, 2) := by decide +kernel
theorem d_m17_53 : decode jdk_68_method_10_code 53 = .ok (.aload_n 0, 1) := by decide +kernel
theorem d_m17_54 : decode jdk_68_method_10_code 54 = .ok (.getfield 22, 3) := by decide +kernel
theorem d_m17_57 : decode jdk_68_method_10_code 57 = .ok (.ishr, 1) := by decide +kernel
theorem d_m17_58 : decode jdk_68_method_10_code 58 = .ok (.ireturn, 1) := by decide +kernel
theorem ef_ncap0 (m : MethodId) (x0 : Addr) (x1 : Int32) : entryFrame m #[(.ref x0), (.int x1)] 6 = mkF m 0 #[.val (.ref x0), .val (.int x1), .unset, .unset, .unset, .unset] [] := by first | (simp [entryFrame, mkF, argsToLocals, Value.category]; done) | rfl
def Q_ncap0 (Z : State) (r0 : Addr) (T : Nat) (tv : Addr) (kv : ClassId) (ds : List Int32) (h0 : Heap) (n0 : Nat) (v : Option Value) (h : Heap) (L : List Loc) : Prop := v = some (.int (Int32.ofNat 34)) ∧ Fr n0 L ∧ h = h0
set_option maxRecDepth 65536 in
set_option maxHeartbeats 40000000 in
theorem rm_ncap0 (l : Launch) (Z : State) (a0 : Array Value) (hw : HW a0 Z) (ws : List Jvm.Cond) (r0 : Addr) (T : Nat) (tv : Addr) (kv : ClassId) (ds : List Int32) (h0 : Heap) (n0 : Nat) (Z0 : n0 ≤ h0.size) (Bv : f3 Z h0 r0 (.ref tv)) (Bc : f2 Z h0 r0 (.int (0 : Int32))) (V_v : own_A Z h0 tv kv .byte (Int32.ofNat 16) (own_B 16 ds)) (hT : 17 ≤ T ∧ T ≤ 24) :
    own_M l Z h0 (⟨"java/lang/AbstractStringBuilder", "newCapacity", "(I)I"⟩ : MethodName) jdk_68_method_10_code 6 (some .int) ws (rR 2 0 0 29) #[(.ref r0), (.int (Int32.ofNat T))] (Q_ncap0 Z r0 T tv kv ds h0 n0) := by
  refine own_body (own := "java/lang/AbstractStringBuilder") (plainFor_of_name pn_4) rfl ?_
  intro p e s m below meth c s₁ Bd hZ hh hx hby hml hown X0 e0
  have N0 := Fr.nil n0
  have k1 : Go p.tables e below (s₁.setTop (mkF m 0 #[.val (.ref r0), .val (.int (Int32.ofNat T)), .unset, .unset, .unset, .unset] [])) (s₁.setTop (mkF m 1 #[.val (.ref r0), .val (.int (Int32.ofNat T)), .unset, .unset, .unset, .unset] [(.ref r0)])) := by
    intro t ht
    refine XS.aloadN X0.here hx rfl (hb hby d_m17_0) rfl rfl ?_
    exact ht
  obtain ⟨T2, X2, e2, st2⟩ := getF X0 hx hZ hown (host := "") (Or.inl (own_w hw 61 rfl)) Via.refl e0 Bv (g := (mkF m 1 #[.val (.ref r0), .val (.int (Int32.ofNat T)), .unset, .unset, .unset, .unset] [(.ref r0)])) rfl rfl (hb hby d_m17_1)
  have k2 : Go p.tables e below _ (T2.setTop (mkF m 4 #[.val (.ref r0), .val (.int (Int32.ofNat T)), .unset, .unset, .unset, .unset] [(.ref tv)])) := st2
  obtain ⟨cl3, Ar3, q3, S3, M3, H3, G3⟩ := id V_v
  have k4 : Go p.tables e below _ (T2.setTop (mkF m 8 #[.val (.ref r0), .val (.int (Int32.ofNat T)), .val (.int (Int32.ofNat 16)), .unset, .unset, .unset] [(.ref r0), (.int (Int32.ofNat T))])) := goT k2 fun t ht => (by
    refine X2.arraylength hx (by rw [e2]; exact Ar3.1) (State.isArrayOf_alike hZ.alike Ar3.2.1) (g := (mkF m 4 #[.val (.ref r0), .val (.int (Int32.ofNat T)), .unset, .unset, .unset, .unset] [(.ref tv)])) rfl rfl (hb hby d_m17_4) _ ?_
    rw [len_of S3 M3]
    refine XS.istoreN X2.here hx rfl (hb hby d_m17_5) rfl (l' := #[.val (.ref r0), .val (.int (Int32.ofNat T)), .val (.int (Int32.ofNat 16)), .unset, .unset, .unset]) rfl ?_
    refine XS.iloadN X2.here hx rfl (hb hby d_m17_6) rfl ?_
    refine XS.aloadN X2.here hx rfl (hb hby d_m17_7) rfl rfl ?_
    exact ht)
  obtain ⟨T5, X5, e5, st5⟩ := getF X2 hx hZ hown (host := "") (Or.inl (own_w hw 63 rfl)) Via.refl e2 Bc (g := (mkF m 8 #[.val (.ref r0), .val (.int (Int32.ofNat T)), .val (.int (Int32.ofNat 16)), .unset, .unset, .unset] [(.ref r0), (.int (Int32.ofNat T))])) rfl rfl (hb hby d_m17_8)
  have k6 : Go p.tables e below _ (T5.setTop (mkF m 12 #[.val (.ref r0), .val (.int (Int32.ofNat T)), .val (.int (Int32.ofNat 16)), .unset, .unset, .unset] [(.int ((Int32.ofNat T) <<< ((0 : Int32) &&& 31)))])) := fun t ht => st5 t (by
    refine XS.ishl X5.here hx rfl (hb hby d_m17_11) rfl ?_
    exact ht)
  have k7 : Go p.tables e below _ (T5.setTop (mkF m 12 #[.val (.ref r0), .val (.int (Int32.ofNat T)), .val (.int (Int32.ofNat 16)), .unset, .unset, .unset] [(.int (Int32.ofNat T))])) := goT k6 (by rw [own_shl0]; exact fun _ h => h)
  have k8 : Go p.tables e below _ (T5.setTop (mkF m 16 #[.val (.ref r0), .val (.int (Int32.ofNat T)), .val (.int (Int32.ofNat 16)), .val (.int (Int32.ofNat T)), .unset, .unset] [(.int ((Int32.ofNat T) - (Int32.ofNat 16)))])) := goT k7 fun t ht => (by
    refine XS.istoreN X5.here hx rfl (hb hby d_m17_12) rfl (l' := #[.val (.ref r0), .val (.int (Int32.ofNat T)), .val (.int (Int32.ofNat 16)), .val (.int (Int32.ofNat T)), .unset, .unset]) rfl ?_
    refine XS.iloadN X5.here hx rfl (hb hby d_m17_13) rfl ?_
    refine XS.iloadN X5.here hx rfl (hb hby d_m17_14) rfl ?_
    refine XS.isub X5.here hx rfl (hb hby d_m17_15) rfl ?_
    exact ht)
  have k9 : Go p.tables e below _ (T5.setTop (mkF m 16 #[.val (.ref r0), .val (.int (Int32.ofNat T)), .val (.int (Int32.ofNat 16)), .val (.int (Int32.ofNat T)), .unset, .unset] [(.int (Int32.ofNat (T - 16)))])) := goT k8 (by rw [own_sub (by omega)]; exact fun _ h => h)
  have k10 : Go p.tables e below _ (T5.setTop (mkF m 24 #[.val (.ref r0), .val (.int (Int32.ofNat T)), .val (.int (Int32.ofNat 16)), .val (.int (Int32.ofNat T)), .val (.int (Int32.ofNat (T - 16))), .unset] [(.ref r0), (.int (2 : Int32)), (.int (Int32.ofNat 16)), (.int (Int32.ofNat (T - 16))), (.int (Int32.ofNat 16))])) := goT k9 fun t ht => (by
    refine XS.istore X5.here hx rfl (hb hby d_m17_16) rfl (l' := #[.val (.ref r0), .val (.int (Int32.ofNat T)), .val (.int (Int32.ofNat 16)), .val (.int (Int32.ofNat T)), .val (.int (Int32.ofNat (T - 16))), .unset]) rfl ?_
    refine XS.iloadN X5.here hx rfl (hb hby d_m17_18) rfl ?_
    refine XS.iload X5.here hx rfl (hb hby d_m17_19) rfl ?_
    refine XS.iloadN X5.here hx rfl (hb hby d_m17_21) rfl ?_
    refine XS.iconst X5.here hx rfl (hb hby d_m17_22) ?_
    refine XS.aloadN X5.here hx rfl (hb hby d_m17_23) rfl rfl ?_
    exact ht)
  obtain ⟨T11, X11, e11, st11⟩ := getF X5 hx hZ hown (host := "") (Or.inl (own_w hw 63 rfl)) Via.refl e5 Bc (g := (mkF m 24 #[.val (.ref r0), .val (.int (Int32.ofNat T)), .val (.int (Int32.ofNat 16)), .val (.int (Int32.ofNat T)), .val (.int (Int32.ofNat (T - 16))), .unset] [(.ref r0), (.int (2 : Int32)), (.int (Int32.ofNat 16)), (.int (Int32.ofNat (T - 16))), (.int (Int32.ofNat 16))])) rfl rfl (hb hby d_m17_24)
  have k12 : Go p.tables e below _ (T11.setTop (mkF m 29 #[.val (.ref r0), .val (.int (Int32.ofNat T)), .val (.int (Int32.ofNat 16)), .val (.int (Int32.ofNat T)), .val (.int (Int32.ofNat (T - 16))), .unset] [(.int ((Int32.ofNat 16) + ((2 : Int32) <<< ((0 : Int32) &&& 31)))), (.int (Int32.ofNat (T - 16))), (.int (Int32.ofNat 16))])) := fun t ht => st11 t (by
    refine XS.ishl X11.here hx rfl (hb hby d_m17_27) rfl ?_
    refine XS.iadd X11.here hx rfl (hb hby d_m17_28) rfl ?_
    exact ht)
  have k13 : Go p.tables e below _ (T11.setTop (mkF m 29 #[.val (.ref r0), .val (.int (Int32.ofNat T)), .val (.int (Int32.ofNat 16)), .val (.int (Int32.ofNat T)), .val (.int (Int32.ofNat (T - 16))), .unset] [(.int (Int32.ofNat 18)), (.int (Int32.ofNat (T - 16))), (.int (Int32.ofNat 16))])) := goT k12 (by rw [(by decide : ((Int32.ofNat 16) + ((2 : Int32) <<< ((0 : Int32) &&& 31))) = (Int32.ofNat 18))]; exact fun _ h => h)
  have rq14 := Jvm.LawKit.callS X11 hx (y := (⟨"jdk/internal/util/ArraysSupport", "newLength", "(III)I"⟩ : MethodName)) hown (mvT hZ (own_w hw 198 rfl)) (mvT hZ (own_w hw 199 rfl)) (mvT hZ (own_w hw 200 rfl)) (mvT hZ (own_w hw 201 rfl)) (by decide) (backOf (W := 0) (rm_nlen l Z a0 hw [] 16 (T - 16) 18 h0 n0 Z0 (by omega : (T - 16) ≤ 18) (by omega : 1 ≤ 18 ∧ 18 ≤ 40 ∧ 16 ≤ 40)) hZ (own_w hw 201 rfl) (own_w hw 200 rfl) (by decide) (by decide)) (g := (mkF m 29 #[.val (.ref r0), .val (.int (Int32.ofNat T)), .val (.int (Int32.ofNat 16)), .val (.int (Int32.ofNat T)), .val (.int (Int32.ofNat (T - 16))), .unset] [(.int (Int32.ofNat 18)), (.int (Int32.ofNat (T - 16))), (.int (Int32.ofNat 16))])) rfl (by rw [hml]; rfl) (argsL := [(.int (Int32.ofNat 16)), (.int (Int32.ofNat (T - 16))), (.int (Int32.ofNat 18))]) (rest := []) (lenOf pd_3 rfl) rfl (by show 2 * 0 + _ ≤ _; exact Nat.le_of_eq rfl) (hb hby d_m17_29) (fun _ _ => ⟨rfl, e11, (by decide : 0 + 0 ≤ _), (by decide : 0 + 0 ≤ _)⟩)
  obtain ⟨_, T14, L14, X14, ⟨rfl, N14q, eq14⟩, st14⟩ := own_rS X11 rq14
  have N14 := Fr.app N0 N14q
  have k15 : Go p.tables e below _ (T14.setTop (mkF m 54 #[.val (.ref r0), .val (.int (Int32.ofNat T)), .val (.int (Int32.ofNat 16)), .val (.int (Int32.ofNat T)), .val (.int (Int32.ofNat (T - 16))), .val (.int (Int32.ofNat (16 + 18)))] [(.ref r0), (.int (Int32.ofNat (16 + 18)))])) := fun t ht => st14 t (by
    refine XS.istore X14.here hx rfl (hb hby d_m17_32) rfl (l' := #[.val (.ref r0), .val (.int (Int32.ofNat T)), .val (.int (Int32.ofNat 16)), .val (.int (Int32.ofNat T)), .val (.int (Int32.ofNat (T - 16))), .val (.int (Int32.ofNat (16 + 18)))]) rfl ?_
    refine XS.iload X14.here hx rfl (hb hby d_m17_34) rfl ?_
    refine X14.ldcInt hx hown (mvT hZ (own_w hw 206 rfl)) (g := (mkF m 36 #[.val (.ref r0), .val (.int (Int32.ofNat T)), .val (.int (Int32.ofNat 16)), .val (.int (Int32.ofNat T)), .val (.int (Int32.ofNat (T - 16))), .val (.int (Int32.ofNat (16 + 18)))] [(.int (Int32.ofNat (16 + 18)))])) rfl (hb hby d_m17_36) _ ?_
    refine XS.icmpYes X14.here hx rfl (pc0 := 38) (pc' := 51) rfl (hb hby d_m17_38) rfl (feq (by decide)).2 (by decide) (by decide) ?_
    refine XS.iload X14.here hx rfl (hb hby d_m17_51) rfl ?_
    refine XS.aloadN X14.here hx rfl (hb hby d_m17_53) rfl rfl ?_
    exact ht)
  obtain ⟨T16, X16, e16, st16⟩ := getF X14 hx hZ hown (host := "") (Or.inl (own_w hw 63 rfl)) Via.refl eq14 Bc (g := (mkF m 54 #[.val (.ref r0), .val (.int (Int32.ofNat T)), .val (.int (Int32.ofNat 16)), .val (.int (Int32.ofNat T)), .val (.int (Int32.ofNat (T - 16))), .val (.int (Int32.ofNat (16 + 18)))] [(.ref r0), (.int (Int32.ofNat (16 + 18)))])) rfl rfl (hb hby d_m17_54)
  have k17 : Go p.tables e below _ (T16.setTop (mkF m 58 #[.val (.ref r0), .val (.int (Int32.ofNat T)), .val (.int (Int32.ofNat 16)), .val (.int (Int32.ofNat T)), .val (.int (Int32.ofNat (T - 16))), .val (.int (Int32.ofNat (16 + 18)))] [(.int ((Int32.ofNat (16 + 18)) >>> ((0 : Int32) &&& 31)))])) := fun t ht => st16 t (by
    refine XS.ishr X16.here hx rfl (hb hby d_m17_57) rfl ?_
    exact ht)
  have k18 : Go p.tables e below _ (T16.setTop (mkF m 58 #[.val (.ref r0), .val (.int (Int32.ofNat T)), .val (.int (Int32.ofNat 16)), .val (.int (Int32.ofNat T)), .val (.int (Int32.ofNat (T - 16))), .val (.int (Int32.ofNat (16 + 18)))] [(.int (Int32.ofNat 34))])) := goT k17 (by rw [(by decide : ((Int32.ofNat (16 + 18)) >>> ((0 : Int32) &&& 31)) = (Int32.ofNat 34))]; exact fun _ h => h)
  obtain ⟨fs, hr, hrun, hended, hW, hsame⟩ := X16.leave (v := some (.int (Int32.ofNat 34))) (fun h => by rw [Bd.returns] at h; cases h)
  refine ⟨_, _, castTop (ef_ncap0 m r0 (Int32.ofNat T)) ((goT k1 (goT k4 (goT k10 (goT k13 (goT k15 k18))))) _ (retI X16 hx Bd.returns (hb hby d_m17_58) hr)), hrun, hended, _, _, rfl, ?_, ⟨_, rfl⟩, hW, hsame.mono (by decide) (by decide)⟩
  show Q_ncap0 Z r0 T tv kv ds h0 n0 _ T16.heap _
  rw [e16]
  exact ⟨rfl, N14, rfl⟩
theorem d_m18_0 : decode jdk_65_method_121_code 0 = .ok (.iload_n 1, 1) := by decide +kernel
theorem d_m18_1 : decode jdk_65_method_121_code 1 = .ok (.aload_n 0, 1) := by decide +kernel
theorem d_m18_2 : decode jdk_65_method_121_code 2 = .ok (.arraylength, 1) := by decide +kernel
theorem d_m18_3 : decode jdk_65_method_121_code 3 = .ok (.if_icmp .ne 11, 3) := by decide +kernel
theorem d_m18_14 : decode jdk_65_method_121_code 14 = .ok (.iload_n 1, 1) := by decide +kernel
theorem d_m18_15 : decode jdk_65_method_121_code 15 = .ok (.newarray .byte, 2) := by decide +kernel
theorem d_m18_17 : decode jdk_65_method_121_code 17 = .ok (.astore_n 2, 1) := by decide +kernel
theorem d_m18_18 : decode jdk_65_method_121_code 18 = .ok (.aload_n 0, 1) := by decide +kernel
theorem d_m18_19 : decode jdk_65_method_121_code 19 = .ok (.iconst 0, 1) := by decide +kernel
theorem d_m18_20 : decode jdk_65_method_121_code 20 = .ok (.aload_n 2, 1) := by decide +kernel
theorem d_m18_21 : decode jdk_65_method_121_code 21 = .ok (.iconst 0, 1) := by decide +kernel
theorem d_m18_22 : decode jdk_65_method_121_code 22 = .ok (.aload_n 0, 1) := by decide +kernel
theorem d_m18_23 : decode jdk_65_method_121_code 23 = .ok (.arraylength, 1) := by decide +kernel
theorem d_m18_24 : decode jdk_65_method_121_code 24 = .ok (.iload_n 1, 1) := by decide +kernel
theorem d_m18_25 : decode jdk_65_method_121_code 25 = .ok (.invokestatic 304, 3) := by decide +kernel
theorem d_m18_28 : decode jdk_65_method_121_code 28 = .ok (.invokestatic 150, 3) := by decide +kernel
theorem d_m18_31 : decode jdk_65_method_121_code 31 = .ok (.aload_n 2, 1) := by decide +kernel
theorem d_m18_32 : decode jdk_65_method_121_code 32 = .ok (.areturn, 1) := by decide +kernel
theorem pn_6 : plainName "java/util/Arrays" = true := by first | (simp [plainName, overriddenIn]; done) | decide +kernel
theorem ef_cpo0 (m : MethodId) (x0 : Addr) (x1 : Int32) : entryFrame m #[(.ref x0), (.int x1)] 3 = mkF m 0 #[.val (.ref x0), .val (.int x1), .unset] [] := by first | (simp [entryFrame, mkF, argsToLocals, Value.category]; done) | rfl
def Q_cpo0 (Z : State) (r0 : Addr) (nn : Nat) (kv : ClassId) (ds : List Int32) (h0 : Heap) (n0 : Nat) (v : Option Value) (h : Heap) (L : List Loc) : Prop := ∃ (xb : Addr) (xk : ClassId), v = some (.ref xb) ∧ Fr n0 L ∧ Keep h0 h [] ∧ h0.size ≤ xb ∧ own_A Z h xb xk .byte (Int32.ofNat 34) (own_B 34 ds)
set_option maxRecDepth 65536 in
set_option maxHeartbeats 40000000 in
theorem rm_cpo0 (l : Launch) (Z : State) (a0 : Array Value) (hw : HW a0 Z) (ws : List Jvm.Cond) (r0 : Addr) (nn : Nat) (kv : ClassId) (ds : List Int32) (h0 : Heap) (n0 : Nat) (Z0 : n0 ≤ h0.size) (V_v : own_A Z h0 r0 kv .byte (Int32.ofNat 16) (own_B 16 ds)) (hnn : nn = 34) (hd : ds.length ≤ 16) :
    own_M l Z h0 (⟨"java/util/Arrays", "copyOf", "([BI)[B"⟩ : MethodName) jdk_65_method_121_code 3 (some (.array .byte)) ws (rR 1 1 34 18) #[(.ref r0), (.int (Int32.ofNat nn))] (Q_cpo0 Z r0 nn kv ds h0 n0) := by
  refine own_body (own := "java/util/Arrays") (plainFor_of_name pn_6) rfl ?_
  intro p e s m below meth c s₁ Bd hZ hh hx hby hml hown X0 e0
  have N0 := Fr.nil n0
  have k1 : Go p.tables e below (s₁.setTop (mkF m 0 #[.val (.ref r0), .val (.int (Int32.ofNat nn)), .unset] [])) (s₁.setTop (mkF m 2 #[.val (.ref r0), .val (.int (Int32.ofNat nn)), .unset] [(.ref r0), (.int (Int32.ofNat nn))])) := by
    intro t ht
    refine XS.iloadN X0.here hx rfl (hb hby d_m18_0) rfl ?_
    refine XS.aloadN X0.here hx rfl (hb hby d_m18_1) rfl rfl ?_
    exact ht
  obtain ⟨cl2, Ar2, q2, S2, M2, H2, G2⟩ := id V_v
  have k3 : Go p.tables e below _ (s₁.setTop (mkF m 15 #[.val (.ref r0), .val (.int (Int32.ofNat nn)), .unset] [(.int (Int32.ofNat nn))])) := goT k1 fun t ht => (by
    refine X0.arraylength hx (by rw [e0]; exact Ar2.1) (State.isArrayOf_alike hZ.alike Ar2.2.1) (g := (mkF m 2 #[.val (.ref r0), .val (.int (Int32.ofNat nn)), .unset] [(.ref r0), (.int (Int32.ofNat nn))])) rfl rfl (hb hby d_m18_2) _ ?_
    rw [len_of S2 M2]
    refine XS.icmpYes X0.here hx rfl (pc0 := 3) (pc' := 14) rfl (hb hby d_m18_3) rfl (feq (by rw [hnn]; decide)).2 (by decide) (by decide) ?_
    refine XS.iloadN X0.here hx rfl (hb hby d_m18_14) rfl ?_
    exact ht)
  obtain ⟨T4, h4, kc4, X4, e4, E4, A4, st4⟩ := newP X0 hx hZ (own_w hw 14 rfl) e0 (g := (mkF m 15 #[.val (.ref r0), .val (.int (Int32.ofNat nn)), .unset] [(.int (Int32.ofNat nn))])) rfl (hb hby d_m18_15) rfl (by rw [hnn]; decide) (cap := 34) (by rw [hnn]; decide) (by decide) (by decide) (by decide)
  obtain ⟨b4, g4⟩ : ∃ z, z = h0.size := ⟨_, rfl⟩
  rw [← g4] at A4 st4
  have g_b4 : n0 ≤ b4 := Nat.le_trans Z0 (Nat.le_of_eq g4.symm)
  have sz_b4 : h0.size ≤ b4 := Nat.le_trans (Keep.refl h0 []).1 (Nat.le_of_eq g4.symm)
  have Kp4 : Keep h0 h4 [] := (Keep.refl h0 []).ext E4
  have Z4 : n0 ≤ h4.size := Nat.le_trans Z0 E4.1
  have V_v_c_4 := V_v.ext E4
  have V_b4 : Arv Z h4 b4 kc4 .byte (Int32.ofNat nn) ((List.replicate nn (0 : Int32)).map Value.int) (.int (0 : Int32)) := (Arv.new A4 (by rw [hnn]; decide)).pad own_pad
  have k5 : Go p.tables e below _ (T4.setTop (mkF m 23 #[.val (.ref r0), .val (.int (Int32.ofNat nn)), .val (.ref b4)] [(.ref r0), (.int (0 : Int32)), (.ref b4), (.int (0 : Int32)), (.ref r0)])) := fun t ht => st4 t (by
    refine XS.astoreN X4.here hx rfl (hb hby d_m18_17) rfl rfl (l' := #[.val (.ref r0), .val (.int (Int32.ofNat nn)), .val (.ref b4)]) rfl ?_
    refine XS.aloadN X4.here hx rfl (hb hby d_m18_18) rfl rfl ?_
    refine XS.iconst X4.here hx rfl (hb hby d_m18_19) ?_
    refine XS.aloadN X4.here hx rfl (hb hby d_m18_20) rfl rfl ?_
    refine XS.iconst X4.here hx rfl (hb hby d_m18_21) ?_
    refine XS.aloadN X4.here hx rfl (hb hby d_m18_22) rfl rfl ?_
    exact ht)
  obtain ⟨cl6, Ar6, q6, S6, M6, H6, G6⟩ := id V_v_c_4
  have k7 : Go p.tables e below _ (T4.setTop (mkF m 25 #[.val (.ref r0), .val (.int (Int32.ofNat nn)), .val (.ref b4)] [(.int (Int32.ofNat nn)), (.int (Int32.ofNat 16)), (.int (0 : Int32)), (.ref b4), (.int (0 : Int32)), (.ref r0)])) := goT k5 fun t ht => (by
    refine X4.arraylength hx (by rw [e4]; exact Ar6.1) (State.isArrayOf_alike hZ.alike Ar6.2.1) (g := (mkF m 23 #[.val (.ref r0), .val (.int (Int32.ofNat nn)), .val (.ref b4)] [(.ref r0), (.int (0 : Int32)), (.ref b4), (.int (0 : Int32)), (.ref r0)])) rfl rfl (hb hby d_m18_23) _ ?_
    rw [len_of S6 M6]
    refine XS.iloadN X4.here hx rfl (hb hby d_m18_24) rfl ?_
    exact ht)
  have rq8 := Jvm.LawKit.callS X4 hx (y := (⟨"java/lang/Math", "min", "(II)I"⟩ : MethodName)) hown (mvT hZ (own_w hw 156 rfl)) (mvT hZ (own_w hw 157 rfl)) (mvT hZ (own_w hw 158 rfl)) (mvT hZ (own_w hw 159 rfl)) (by decide) (backOf (W := 4) (rm_min l Z a0 hw [] (Int32.ofNat 16) (Int32.ofNat nn) h4 n0 Z4 ) hZ (own_w hw 159 rfl) (own_w hw 158 rfl) (by decide) (by decide)) (g := (mkF m 25 #[.val (.ref r0), .val (.int (Int32.ofNat nn)), .val (.ref b4)] [(.int (Int32.ofNat nn)), (.int (Int32.ofNat 16)), (.int (0 : Int32)), (.ref b4), (.int (0 : Int32)), (.ref r0)])) rfl (by rw [hml]; rfl) (argsL := [(.int (Int32.ofNat 16)), (.int (Int32.ofNat nn))]) (rest := [(.int (0 : Int32)), (.ref b4), (.int (0 : Int32)), (.ref r0)]) (lenOf pd_8 rfl) rfl (by show 2 * 0 + _ ≤ _; exact Nat.le_of_eq rfl) (hb hby d_m18_25) (fun _ _ => ⟨rfl, e4, (by decide : 1 + 0 ≤ _), (by decide : 34 + 0 ≤ _)⟩)
  obtain ⟨_, T8, L8, X8, ⟨rfl, N8q, eq8⟩, st8⟩ := own_rS X4 rq8
  have N8 := Fr.app N0 N8q
  have k8 : Go p.tables e below _ (T8.setTop (mkF m 28 #[.val (.ref r0), .val (.int (Int32.ofNat nn)), .val (.ref b4)] [(.int (f_min (Int32.ofNat 16) (Int32.ofNat nn))), (.int (0 : Int32)), (.ref b4), (.int (0 : Int32)), (.ref r0)])) := st8
  have k9 : Go p.tables e below _ (T8.setTop (mkF m 28 #[.val (.ref r0), .val (.int (Int32.ofNat nn)), .val (.ref b4)] [(.int (Int32.ofNat 16)), (.int (0 : Int32)), (.ref b4), (.int (0 : Int32)), (.ref r0)])) := goT k8 (by rw [own_min (by omega) (by omega)]; exact fun _ h => h)
  obtain ⟨T10, h10, L10, X10, e10, N10, K10, V10, st10⟩ := own_acopy X8 hx hZ hown (own_w hw 160 rfl) (own_w hw 114 rfl) (own_w hw 112 rfl) (own_w hw 113 rfl) eq8 (i := 0) (j := 0) (k := 16) V_v_c_4 V_b4 (NEW := (own_B 34 ds)) own_z0 own_z0 (own_int (by decide)) (own_intle (by decide)) (by rw [hnn]; decide) (by rw [own_lenB' hd]; decide) (by rw [hnn, List.length_replicate]; decide) (by rw [hnn]; exact own_grB hd) N8 g_b4 (g := (mkF m 28 #[.val (.ref r0), .val (.int (Int32.ofNat nn)), .val (.ref b4)] [(.int (Int32.ofNat 16)), (.int (0 : Int32)), (.ref b4), (.int (0 : Int32)), (.ref r0)])) rfl (by rw [hml]; rfl) (rest := []) rfl (hb hby d_m18_28) (by decide) (W := 0) (by show 2 * 0 + _ ≤ _; exact Nat.le_of_eq rfl) (by decide)
  have Kp10 : Keep h0 h10 [] := Kp4.trans K10 (allS (Or.inr sz_b4) all0)
  have k11 : Go p.tables e below _ (T10.setTop (mkF m 32 #[.val (.ref r0), .val (.int (Int32.ofNat nn)), .val (.ref b4)] [(.ref b4)])) := fun t ht => st10 t (by
    refine XS.aloadN X10.here hx rfl (hb hby d_m18_31) rfl rfl ?_
    exact ht)
  obtain ⟨fs, hr, hrun, hended, hW, hsame⟩ := X10.leave (v := some (.ref b4)) (fun h => by rw [Bd.returns] at h; cases h)
  refine ⟨_, _, castTop (ef_cpo0 m r0 (Int32.ofNat nn)) ((goT k3 (goT k7 (goT k9 k11))) _ (retA X10 hx Bd.returns (hb hby d_m18_32) hr)), hrun, hended, _, _, rfl, ?_, ⟨_, rfl⟩, hW, hsame.mono (by decide) (by decide)⟩
  show Q_cpo0 Z r0 nn kv ds h0 n0 _ T10.heap _
  rw [e10]
  exact ⟨b4, kc4, rfl, N10, Kp10, sz_b4, (hnn ▸ V10)⟩
theorem ef_ncap1 (m : MethodId) (x0 : Addr) (x1 : Int32) : entryFrame m #[(.ref x0), (.int x1)] 6 = mkF m 0 #[.val (.ref x0), .val (.int x1), .unset, .unset, .unset, .unset] [] := by first | (simp [entryFrame, mkF, argsToLocals, Value.category]; done) | rfl
def Q_ncap1 (Z : State) (r0 : Addr) (T : Nat) (tv : Addr) (kv : ClassId) (ds : List Int32) (h0 : Heap) (n0 : Nat) (v : Option Value) (h : Heap) (L : List Loc) : Prop := v = some (.int (Int32.ofNat 34)) ∧ Fr n0 L ∧ h = h0
set_option maxRecDepth 65536 in
set_option maxHeartbeats 40000000 in
theorem rm_ncap1 (l : Launch) (Z : State) (a0 : Array Value) (hw : HW a0 Z) (ws : List Jvm.Cond) (r0 : Addr) (T : Nat) (tv : Addr) (kv : ClassId) (ds : List Int32) (h0 : Heap) (n0 : Nat) (Z0 : n0 ≤ h0.size) (Bv : f3 Z h0 r0 (.ref tv)) (Bc : f2 Z h0 r0 (.int (1 : Int32))) (V_v : own_A Z h0 tv kv .byte (Int32.ofNat (2 * 16)) (own_U 16 ds)) (hT : 17 ≤ T ∧ T ≤ 24) :
    own_M l Z h0 (⟨"java/lang/AbstractStringBuilder", "newCapacity", "(I)I"⟩ : MethodName) jdk_68_method_10_code 6 (some .int) ws (rR 2 0 0 29) #[(.ref r0), (.int (Int32.ofNat T))] (Q_ncap1 Z r0 T tv kv ds h0 n0) := by
  refine own_body (own := "java/lang/AbstractStringBuilder") (plainFor_of_name pn_4) rfl ?_
  intro p e s m below meth c s₁ Bd hZ hh hx hby hml hown X0 e0
  have N0 := Fr.nil n0
  have k1 : Go p.tables e below (s₁.setTop (mkF m 0 #[.val (.ref r0), .val (.int (Int32.ofNat T)), .unset, .unset, .unset, .unset] [])) (s₁.setTop (mkF m 1 #[.val (.ref r0), .val (.int (Int32.ofNat T)), .unset, .unset, .unset, .unset] [(.ref r0)])) := by
    intro t ht
    refine XS.aloadN X0.here hx rfl (hb hby d_m17_0) rfl rfl ?_
    exact ht
  obtain ⟨T2, X2, e2, st2⟩ := getF X0 hx hZ hown (host := "") (Or.inl (own_w hw 61 rfl)) Via.refl e0 Bv (g := (mkF m 1 #[.val (.ref r0), .val (.int (Int32.ofNat T)), .unset, .unset, .unset, .unset] [(.ref r0)])) rfl rfl (hb hby d_m17_1)
  have k2 : Go p.tables e below _ (T2.setTop (mkF m 4 #[.val (.ref r0), .val (.int (Int32.ofNat T)), .unset, .unset, .unset, .unset] [(.ref tv)])) := st2
  obtain ⟨cl3, Ar3, q3, S3, M3, H3, G3⟩ := id V_v
  have k4 : Go p.tables e below _ (T2.setTop (mkF m 8 #[.val (.ref r0), .val (.int (Int32.ofNat T)), .val (.int (Int32.ofNat (2 * 16))), .unset, .unset, .unset] [(.ref r0), (.int (Int32.ofNat T))])) := goT k2 fun t ht => (by
    refine X2.arraylength hx (by rw [e2]; exact Ar3.1) (State.isArrayOf_alike hZ.alike Ar3.2.1) (g := (mkF m 4 #[.val (.ref r0), .val (.int (Int32.ofNat T)), .unset, .unset, .unset, .unset] [(.ref tv)])) rfl rfl (hb hby d_m17_4) _ ?_
    rw [len_of S3 M3]
    refine XS.istoreN X2.here hx rfl (hb hby d_m17_5) rfl (l' := #[.val (.ref r0), .val (.int (Int32.ofNat T)), .val (.int (Int32.ofNat (2 * 16))), .unset, .unset, .unset]) rfl ?_
    refine XS.iloadN X2.here hx rfl (hb hby d_m17_6) rfl ?_
    refine XS.aloadN X2.here hx rfl (hb hby d_m17_7) rfl rfl ?_
    exact ht)
  obtain ⟨T5, X5, e5, st5⟩ := getF X2 hx hZ hown (host := "") (Or.inl (own_w hw 63 rfl)) Via.refl e2 Bc (g := (mkF m 8 #[.val (.ref r0), .val (.int (Int32.ofNat T)), .val (.int (Int32.ofNat (2 * 16))), .unset, .unset, .unset] [(.ref r0), (.int (Int32.ofNat T))])) rfl rfl (hb hby d_m17_8)
  have k6 : Go p.tables e below _ (T5.setTop (mkF m 12 #[.val (.ref r0), .val (.int (Int32.ofNat T)), .val (.int (Int32.ofNat (2 * 16))), .unset, .unset, .unset] [(.int ((Int32.ofNat T) <<< ((1 : Int32) &&& 31)))])) := fun t ht => st5 t (by
    refine XS.ishl X5.here hx rfl (hb hby d_m17_11) rfl ?_
    exact ht)
  have k7 : Go p.tables e below _ (T5.setTop (mkF m 12 #[.val (.ref r0), .val (.int (Int32.ofNat T)), .val (.int (Int32.ofNat (2 * 16))), .unset, .unset, .unset] [(.int (Int32.ofNat (2 * T)))])) := goT k6 (by rw [own_shl1 (by omega)]; exact fun _ h => h)
  have k8 : Go p.tables e below _ (T5.setTop (mkF m 16 #[.val (.ref r0), .val (.int (Int32.ofNat T)), .val (.int (Int32.ofNat (2 * 16))), .val (.int (Int32.ofNat (2 * T))), .unset, .unset] [(.int ((Int32.ofNat (2 * T)) - (Int32.ofNat (2 * 16))))])) := goT k7 fun t ht => (by
    refine XS.istoreN X5.here hx rfl (hb hby d_m17_12) rfl (l' := #[.val (.ref r0), .val (.int (Int32.ofNat T)), .val (.int (Int32.ofNat (2 * 16))), .val (.int (Int32.ofNat (2 * T))), .unset, .unset]) rfl ?_
    refine XS.iloadN X5.here hx rfl (hb hby d_m17_13) rfl ?_
    refine XS.iloadN X5.here hx rfl (hb hby d_m17_14) rfl ?_
    refine XS.isub X5.here hx rfl (hb hby d_m17_15) rfl ?_
    exact ht)
  have k9 : Go p.tables e below _ (T5.setTop (mkF m 16 #[.val (.ref r0), .val (.int (Int32.ofNat T)), .val (.int (Int32.ofNat (2 * 16))), .val (.int (Int32.ofNat (2 * T))), .unset, .unset] [(.int (Int32.ofNat (2 * T - 2 * 16)))])) := goT k8 (by rw [own_sub (by omega)]; exact fun _ h => h)
  have k10 : Go p.tables e below _ (T5.setTop (mkF m 24 #[.val (.ref r0), .val (.int (Int32.ofNat T)), .val (.int (Int32.ofNat (2 * 16))), .val (.int (Int32.ofNat (2 * T))), .val (.int (Int32.ofNat (2 * T - 2 * 16))), .unset] [(.ref r0), (.int (2 : Int32)), (.int (Int32.ofNat (2 * 16))), (.int (Int32.ofNat (2 * T - 2 * 16))), (.int (Int32.ofNat (2 * 16)))])) := goT k9 fun t ht => (by
    refine XS.istore X5.here hx rfl (hb hby d_m17_16) rfl (l' := #[.val (.ref r0), .val (.int (Int32.ofNat T)), .val (.int (Int32.ofNat (2 * 16))), .val (.int (Int32.ofNat (2 * T))), .val (.int (Int32.ofNat (2 * T - 2 * 16))), .unset]) rfl ?_
    refine XS.iloadN X5.here hx rfl (hb hby d_m17_18) rfl ?_
    refine XS.iload X5.here hx rfl (hb hby d_m17_19) rfl ?_
    refine XS.iloadN X5.here hx rfl (hb hby d_m17_21) rfl ?_
    refine XS.iconst X5.here hx rfl (hb hby d_m17_22) ?_
    refine XS.aloadN X5.here hx rfl (hb hby d_m17_23) rfl rfl ?_
    exact ht)
  obtain ⟨T11, X11, e11, st11⟩ := getF X5 hx hZ hown (host := "") (Or.inl (own_w hw 63 rfl)) Via.refl e5 Bc (g := (mkF m 24 #[.val (.ref r0), .val (.int (Int32.ofNat T)), .val (.int (Int32.ofNat (2 * 16))), .val (.int (Int32.ofNat (2 * T))), .val (.int (Int32.ofNat (2 * T - 2 * 16))), .unset] [(.ref r0), (.int (2 : Int32)), (.int (Int32.ofNat (2 * 16))), (.int (Int32.ofNat (2 * T - 2 * 16))), (.int (Int32.ofNat (2 * 16)))])) rfl rfl (hb hby d_m17_24)
  have k12 : Go p.tables e below _ (T11.setTop (mkF m 29 #[.val (.ref r0), .val (.int (Int32.ofNat T)), .val (.int (Int32.ofNat (2 * 16))), .val (.int (Int32.ofNat (2 * T))), .val (.int (Int32.ofNat (2 * T - 2 * 16))), .unset] [(.int ((Int32.ofNat (2 * 16)) + ((2 : Int32) <<< ((1 : Int32) &&& 31)))), (.int (Int32.ofNat (2 * T - 2 * 16))), (.int (Int32.ofNat (2 * 16)))])) := fun t ht => st11 t (by
    refine XS.ishl X11.here hx rfl (hb hby d_m17_27) rfl ?_
    refine XS.iadd X11.here hx rfl (hb hby d_m17_28) rfl ?_
    exact ht)
  have k13 : Go p.tables e below _ (T11.setTop (mkF m 29 #[.val (.ref r0), .val (.int (Int32.ofNat T)), .val (.int (Int32.ofNat (2 * 16))), .val (.int (Int32.ofNat (2 * T))), .val (.int (Int32.ofNat (2 * T - 2 * 16))), .unset] [(.int (Int32.ofNat 36)), (.int (Int32.ofNat (2 * T - 2 * 16))), (.int (Int32.ofNat (2 * 16)))])) := goT k12 (by rw [(by decide : ((Int32.ofNat (2 * 16)) + ((2 : Int32) <<< ((1 : Int32) &&& 31))) = (Int32.ofNat 36))]; exact fun _ h => h)
  have rq14 := Jvm.LawKit.callS X11 hx (y := (⟨"jdk/internal/util/ArraysSupport", "newLength", "(III)I"⟩ : MethodName)) hown (mvT hZ (own_w hw 198 rfl)) (mvT hZ (own_w hw 199 rfl)) (mvT hZ (own_w hw 200 rfl)) (mvT hZ (own_w hw 201 rfl)) (by decide) (backOf (W := 0) (rm_nlen l Z a0 hw [] (2 * 16) (2 * T - 2 * 16) 36 h0 n0 Z0 (by omega : (2 * T - 2 * 16) ≤ 36) (by omega : 1 ≤ 36 ∧ 36 ≤ 40 ∧ (2 * 16) ≤ 40)) hZ (own_w hw 201 rfl) (own_w hw 200 rfl) (by decide) (by decide)) (g := (mkF m 29 #[.val (.ref r0), .val (.int (Int32.ofNat T)), .val (.int (Int32.ofNat (2 * 16))), .val (.int (Int32.ofNat (2 * T))), .val (.int (Int32.ofNat (2 * T - 2 * 16))), .unset] [(.int (Int32.ofNat 36)), (.int (Int32.ofNat (2 * T - 2 * 16))), (.int (Int32.ofNat (2 * 16)))])) rfl (by rw [hml]; rfl) (argsL := [(.int (Int32.ofNat (2 * 16))), (.int (Int32.ofNat (2 * T - 2 * 16))), (.int (Int32.ofNat 36))]) (rest := []) (lenOf pd_3 rfl) rfl (by show 2 * 0 + _ ≤ _; exact Nat.le_of_eq rfl) (hb hby d_m17_29) (fun _ _ => ⟨rfl, e11, (by decide : 0 + 0 ≤ _), (by decide : 0 + 0 ≤ _)⟩)
  obtain ⟨_, T14, L14, X14, ⟨rfl, N14q, eq14⟩, st14⟩ := own_rS X11 rq14
  have N14 := Fr.app N0 N14q
  have k15 : Go p.tables e below _ (T14.setTop (mkF m 54 #[.val (.ref r0), .val (.int (Int32.ofNat T)), .val (.int (Int32.ofNat (2 * 16))), .val (.int (Int32.ofNat (2 * T))), .val (.int (Int32.ofNat (2 * T - 2 * 16))), .val (.int (Int32.ofNat ((2 * 16) + 36)))] [(.ref r0), (.int (Int32.ofNat ((2 * 16) + 36)))])) := fun t ht => st14 t (by
    refine XS.istore X14.here hx rfl (hb hby d_m17_32) rfl (l' := #[.val (.ref r0), .val (.int (Int32.ofNat T)), .val (.int (Int32.ofNat (2 * 16))), .val (.int (Int32.ofNat (2 * T))), .val (.int (Int32.ofNat (2 * T - 2 * 16))), .val (.int (Int32.ofNat ((2 * 16) + 36)))]) rfl ?_
    refine XS.iload X14.here hx rfl (hb hby d_m17_34) rfl ?_
    refine X14.ldcInt hx hown (mvT hZ (own_w hw 206 rfl)) (g := (mkF m 36 #[.val (.ref r0), .val (.int (Int32.ofNat T)), .val (.int (Int32.ofNat (2 * 16))), .val (.int (Int32.ofNat (2 * T))), .val (.int (Int32.ofNat (2 * T - 2 * 16))), .val (.int (Int32.ofNat ((2 * 16) + 36)))] [(.int (Int32.ofNat ((2 * 16) + 36)))])) rfl (hb hby d_m17_36) _ ?_
    refine XS.icmpYes X14.here hx rfl (pc0 := 38) (pc' := 51) rfl (hb hby d_m17_38) rfl (feq (by decide)).2 (by decide) (by decide) ?_
    refine XS.iload X14.here hx rfl (hb hby d_m17_51) rfl ?_
    refine XS.aloadN X14.here hx rfl (hb hby d_m17_53) rfl rfl ?_
    exact ht)
  obtain ⟨T16, X16, e16, st16⟩ := getF X14 hx hZ hown (host := "") (Or.inl (own_w hw 63 rfl)) Via.refl eq14 Bc (g := (mkF m 54 #[.val (.ref r0), .val (.int (Int32.ofNat T)), .val (.int (Int32.ofNat (2 * 16))), .val (.int (Int32.ofNat (2 * T))), .val (.int (Int32.ofNat (2 * T - 2 * 16))), .val (.int (Int32.ofNat ((2 * 16) + 36)))] [(.ref r0), (.int (Int32.ofNat ((2 * 16) + 36)))])) rfl rfl (hb hby d_m17_54)
  have k17 : Go p.tables e below _ (T16.setTop (mkF m 58 #[.val (.ref r0), .val (.int (Int32.ofNat T)), .val (.int (Int32.ofNat (2 * 16))), .val (.int (Int32.ofNat (2 * T))), .val (.int (Int32.ofNat (2 * T - 2 * 16))), .val (.int (Int32.ofNat ((2 * 16) + 36)))] [(.int ((Int32.ofNat ((2 * 16) + 36)) >>> ((1 : Int32) &&& 31)))])) := fun t ht => st16 t (by
    refine XS.ishr X16.here hx rfl (hb hby d_m17_57) rfl ?_
    exact ht)
  have k18 : Go p.tables e below _ (T16.setTop (mkF m 58 #[.val (.ref r0), .val (.int (Int32.ofNat T)), .val (.int (Int32.ofNat (2 * 16))), .val (.int (Int32.ofNat (2 * T))), .val (.int (Int32.ofNat (2 * T - 2 * 16))), .val (.int (Int32.ofNat ((2 * 16) + 36)))] [(.int (Int32.ofNat 34))])) := goT k17 (by rw [(by decide : ((Int32.ofNat ((2 * 16) + 36)) >>> ((1 : Int32) &&& 31)) = (Int32.ofNat 34))]; exact fun _ h => h)
  obtain ⟨fs, hr, hrun, hended, hW, hsame⟩ := X16.leave (v := some (.int (Int32.ofNat 34))) (fun h => by rw [Bd.returns] at h; cases h)
  refine ⟨_, _, castTop (ef_ncap1 m r0 (Int32.ofNat T)) ((goT k1 (goT k4 (goT k10 (goT k13 (goT k15 k18))))) _ (retI X16 hx Bd.returns (hb hby d_m17_58) hr)), hrun, hended, _, _, rfl, ?_, ⟨_, rfl⟩, hW, hsame.mono (by decide) (by decide)⟩
  show Q_ncap1 Z r0 T tv kv ds h0 n0 _ T16.heap _
  rw [e16]
  exact ⟨rfl, N14, rfl⟩
theorem ef_cpo1 (m : MethodId) (x0 : Addr) (x1 : Int32) : entryFrame m #[(.ref x0), (.int x1)] 3 = mkF m 0 #[.val (.ref x0), .val (.int x1), .unset] [] := by first | (simp [entryFrame, mkF, argsToLocals, Value.category]; done) | rfl
def Q_cpo1 (Z : State) (r0 : Addr) (nn : Nat) (kv : ClassId) (ds : List Int32) (h0 : Heap) (n0 : Nat) (v : Option Value) (h : Heap) (L : List Loc) : Prop := ∃ (xb : Addr) (xk : ClassId), v = some (.ref xb) ∧ Fr n0 L ∧ Keep h0 h [] ∧ h0.size ≤ xb ∧ own_A Z h xb xk .byte (Int32.ofNat (2 * 34)) (own_U 34 ds)
set_option maxRecDepth 65536 in
set_option maxHeartbeats 40000000 in
theorem rm_cpo1 (l : Launch) (Z : State) (a0 : Array Value) (hw : HW a0 Z) (ws : List Jvm.Cond) (r0 : Addr) (nn : Nat) (kv : ClassId) (ds : List Int32) (h0 : Heap) (n0 : Nat) (Z0 : n0 ≤ h0.size) (V_v : own_A Z h0 r0 kv .byte (Int32.ofNat (2 * 16)) (own_U 16 ds)) (hnn : nn = (2 * 34)) (hd : ds.length ≤ 16) :
    own_M l Z h0 (⟨"java/util/Arrays", "copyOf", "([BI)[B"⟩ : MethodName) jdk_65_method_121_code 3 (some (.array .byte)) ws (rR 1 1 68 18) #[(.ref r0), (.int (Int32.ofNat nn))] (Q_cpo1 Z r0 nn kv ds h0 n0) := by
  refine own_body (own := "java/util/Arrays") (plainFor_of_name pn_6) rfl ?_
  intro p e s m below meth c s₁ Bd hZ hh hx hby hml hown X0 e0
  have N0 := Fr.nil n0
  have k1 : Go p.tables e below (s₁.setTop (mkF m 0 #[.val (.ref r0), .val (.int (Int32.ofNat nn)), .unset] [])) (s₁.setTop (mkF m 2 #[.val (.ref r0), .val (.int (Int32.ofNat nn)), .unset] [(.ref r0), (.int (Int32.ofNat nn))])) := by
    intro t ht
    refine XS.iloadN X0.here hx rfl (hb hby d_m18_0) rfl ?_
    refine XS.aloadN X0.here hx rfl (hb hby d_m18_1) rfl rfl ?_
    exact ht
  obtain ⟨cl2, Ar2, q2, S2, M2, H2, G2⟩ := id V_v
  have k3 : Go p.tables e below _ (s₁.setTop (mkF m 15 #[.val (.ref r0), .val (.int (Int32.ofNat nn)), .unset] [(.int (Int32.ofNat nn))])) := goT k1 fun t ht => (by
    refine X0.arraylength hx (by rw [e0]; exact Ar2.1) (State.isArrayOf_alike hZ.alike Ar2.2.1) (g := (mkF m 2 #[.val (.ref r0), .val (.int (Int32.ofNat nn)), .unset] [(.ref r0), (.int (Int32.ofNat nn))])) rfl rfl (hb hby d_m18_2) _ ?_
    rw [len_of S2 M2]
    refine XS.icmpYes X0.here hx rfl (pc0 := 3) (pc' := 14) rfl (hb hby d_m18_3) rfl (feq (by rw [hnn]; decide)).2 (by decide) (by decide) ?_
    refine XS.iloadN X0.here hx rfl (hb hby d_m18_14) rfl ?_
    exact ht)
  obtain ⟨T4, h4, kc4, X4, e4, E4, A4, st4⟩ := newP X0 hx hZ (own_w hw 14 rfl) e0 (g := (mkF m 15 #[.val (.ref r0), .val (.int (Int32.ofNat nn)), .unset] [(.int (Int32.ofNat nn))])) rfl (hb hby d_m18_15) rfl (by rw [hnn]; decide) (cap := 68) (by rw [hnn]; decide) (by decide) (by decide) (by decide)
  obtain ⟨b4, g4⟩ : ∃ z, z = h0.size := ⟨_, rfl⟩
  rw [← g4] at A4 st4
  have g_b4 : n0 ≤ b4 := Nat.le_trans Z0 (Nat.le_of_eq g4.symm)
  have sz_b4 : h0.size ≤ b4 := Nat.le_trans (Keep.refl h0 []).1 (Nat.le_of_eq g4.symm)
  have Kp4 : Keep h0 h4 [] := (Keep.refl h0 []).ext E4
  have Z4 : n0 ≤ h4.size := Nat.le_trans Z0 E4.1
  have V_v_c_4 := V_v.ext E4
  have V_b4 : Arv Z h4 b4 kc4 .byte (Int32.ofNat nn) ((List.replicate nn (0 : Int32)).map Value.int) (.int (0 : Int32)) := (Arv.new A4 (by rw [hnn]; decide)).pad own_pad
  have k5 : Go p.tables e below _ (T4.setTop (mkF m 23 #[.val (.ref r0), .val (.int (Int32.ofNat nn)), .val (.ref b4)] [(.ref r0), (.int (0 : Int32)), (.ref b4), (.int (0 : Int32)), (.ref r0)])) := fun t ht => st4 t (by
    refine XS.astoreN X4.here hx rfl (hb hby d_m18_17) rfl rfl (l' := #[.val (.ref r0), .val (.int (Int32.ofNat nn)), .val (.ref b4)]) rfl ?_
    refine XS.aloadN X4.here hx rfl (hb hby d_m18_18) rfl rfl ?_
    refine XS.iconst X4.here hx rfl (hb hby d_m18_19) ?_
    refine XS.aloadN X4.here hx rfl (hb hby d_m18_20) rfl rfl ?_
    refine XS.iconst X4.here hx rfl (hb hby d_m18_21) ?_
    refine XS.aloadN X4.here hx rfl (hb hby d_m18_22) rfl rfl ?_
    exact ht)
  obtain ⟨cl6, Ar6, q6, S6, M6, H6, G6⟩ := id V_v_c_4
  have k7 : Go p.tables e below _ (T4.setTop (mkF m 25 #[.val (.ref r0), .val (.int (Int32.ofNat nn)), .val (.ref b4)] [(.int (Int32.ofNat nn)), (.int (Int32.ofNat (2 * 16))), (.int (0 : Int32)), (.ref b4), (.int (0 : Int32)), (.ref r0)])) := goT k5 fun t ht => (by
    refine X4.arraylength hx (by rw [e4]; exact Ar6.1) (State.isArrayOf_alike hZ.alike Ar6.2.1) (g := (mkF m 23 #[.val (.ref r0), .val (.int (Int32.ofNat nn)), .val (.ref b4)] [(.ref r0), (.int (0 : Int32)), (.ref b4), (.int (0 : Int32)), (.ref r0)])) rfl rfl (hb hby d_m18_23) _ ?_
    rw [len_of S6 M6]
    refine XS.iloadN X4.here hx rfl (hb hby d_m18_24) rfl ?_
    exact ht)
  have rq8 := Jvm.LawKit.callS X4 hx (y := (⟨"java/lang/Math", "min", "(II)I"⟩ : MethodName)) hown (mvT hZ (own_w hw 156 rfl)) (mvT hZ (own_w hw 157 rfl)) (mvT hZ (own_w hw 158 rfl)) (mvT hZ (own_w hw 159 rfl)) (by decide) (backOf (W := 4) (rm_min l Z a0 hw [] (Int32.ofNat (2 * 16)) (Int32.ofNat nn) h4 n0 Z4 ) hZ (own_w hw 159 rfl) (own_w hw 158 rfl) (by decide) (by decide)) (g := (mkF m 25 #[.val (.ref r0), .val (.int (Int32.ofNat nn)), .val (.ref b4)] [(.int (Int32.ofNat nn)), (.int (Int32.ofNat (2 * 16))), (.int (0 : Int32)), (.ref b4), (.int (0 : Int32)), (.ref r0)])) rfl (by rw [hml]; rfl) (argsL := [(.int (Int32.ofNat (2 * 16))), (.int (Int32.ofNat nn))]) (rest := [(.int (0 : Int32)), (.ref b4), (.int (0 : Int32)), (.ref r0)]) (lenOf pd_8 rfl) rfl (by show 2 * 0 + _ ≤ _; exact Nat.le_of_eq rfl) (hb hby d_m18_25) (fun _ _ => ⟨rfl, e4, (by decide : 1 + 0 ≤ _), (by decide : 68 + 0 ≤ _)⟩)
  obtain ⟨_, T8, L8, X8, ⟨rfl, N8q, eq8⟩, st8⟩ := own_rS X4 rq8
  have N8 := Fr.app N0 N8q
  have k8 : Go p.tables e below _ (T8.setTop (mkF m 28 #[.val (.ref r0), .val (.int (Int32.ofNat nn)), .val (.ref b4)] [(.int (f_min (Int32.ofNat (2 * 16)) (Int32.ofNat nn))), (.int (0 : Int32)), (.ref b4), (.int (0 : Int32)), (.ref r0)])) := st8
  have k9 : Go p.tables e below _ (T8.setTop (mkF m 28 #[.val (.ref r0), .val (.int (Int32.ofNat nn)), .val (.ref b4)] [(.int (Int32.ofNat (2 * 16))), (.int (0 : Int32)), (.ref b4), (.int (0 : Int32)), (.ref r0)])) := goT k8 (by rw [own_min (by omega) (by omega)]; exact fun _ h => h)
  obtain ⟨T10, h10, L10, X10, e10, N10, K10, V10, st10⟩ := own_acopy X8 hx hZ hown (own_w hw 160 rfl) (own_w hw 114 rfl) (own_w hw 112 rfl) (own_w hw 113 rfl) eq8 (i := 0) (j := 0) (k := (2 * 16)) V_v_c_4 V_b4 (NEW := (own_U 34 ds)) own_z0 own_z0 (own_int (by decide)) (own_intle (by decide)) (by rw [hnn]; decide) (by rw [own_lenUU hd]; decide) (by rw [hnn, List.length_replicate]; decide) (by rw [hnn]; exact own_grU hd) N8 g_b4 (g := (mkF m 28 #[.val (.ref r0), .val (.int (Int32.ofNat nn)), .val (.ref b4)] [(.int (Int32.ofNat (2 * 16))), (.int (0 : Int32)), (.ref b4), (.int (0 : Int32)), (.ref r0)])) rfl (by rw [hml]; rfl) (rest := []) rfl (hb hby d_m18_28) (by decide) (W := 0) (by show 2 * 0 + _ ≤ _; exact Nat.le_of_eq rfl) (by decide)
  have Kp10 : Keep h0 h10 [] := Kp4.trans K10 (allS (Or.inr sz_b4) all0)
  have k11 : Go p.tables e below _ (T10.setTop (mkF m 32 #[.val (.ref r0), .val (.int (Int32.ofNat nn)), .val (.ref b4)] [(.ref b4)])) := fun t ht => st10 t (by
    refine XS.aloadN X10.here hx rfl (hb hby d_m18_31) rfl rfl ?_
    exact ht)
  obtain ⟨fs, hr, hrun, hended, hW, hsame⟩ := X10.leave (v := some (.ref b4)) (fun h => by rw [Bd.returns] at h; cases h)
  refine ⟨_, _, castTop (ef_cpo1 m r0 (Int32.ofNat nn)) ((goT k3 (goT k7 (goT k9 k11))) _ (retA X10 hx Bd.returns (hb hby d_m18_32) hr)), hrun, hended, _, _, rfl, ?_, ⟨_, rfl⟩, hW, hsame.mono (by decide) (by decide)⟩
  show Q_cpo1 Z r0 nn kv ds h0 n0 _ T10.heap _
  rw [e10]
  exact ⟨b4, kc4, rfl, N10, Kp10, sz_b4, (hnn ▸ V10)⟩
theorem d_m19_0 : decode jdk_68_method_9_code 0 = .ok (.aload_n 0, 1) := by decide +kernel
theorem d_m19_1 : decode jdk_68_method_9_code 1 = .ok (.getfield 15, 3) := by decide +kernel
theorem d_m19_4 : decode jdk_68_method_9_code 4 = .ok (.arraylength, 1) := by decide +kernel
theorem d_m19_5 : decode jdk_68_method_9_code 5 = .ok (.aload_n 0, 1) := by decide +kernel
theorem d_m19_6 : decode jdk_68_method_9_code 6 = .ok (.getfield 22, 3) := by decide +kernel
theorem d_m19_9 : decode jdk_68_method_9_code 9 = .ok (.ishr, 1) := by decide +kernel
theorem d_m19_10 : decode jdk_68_method_9_code 10 = .ok (.istore_n 2, 1) := by decide +kernel
theorem d_m19_11 : decode jdk_68_method_9_code 11 = .ok (.iload_n 1, 1) := by decide +kernel
theorem d_m19_12 : decode jdk_68_method_9_code 12 = .ok (.iload_n 2, 1) := by decide +kernel
theorem d_m19_13 : decode jdk_68_method_9_code 13 = .ok (.isub, 1) := by decide +kernel
theorem d_m19_14 : decode jdk_68_method_9_code 14 = .ok (.ifCond .le 24, 3) := by decide +kernel
theorem d_m19_38 : decode jdk_68_method_9_code 38 = .ok (.return_, 1) := by decide +kernel
theorem ef_fit0 (m : MethodId) (x0 : Addr) (x1 : Int32) : entryFrame m #[(.ref x0), (.int x1)] 3 = mkF m 0 #[.val (.ref x0), .val (.int x1), .unset] [] := by first | (simp [entryFrame, mkF, argsToLocals, Value.category]; done) | rfl
def Q_fit0 (Z : State) (r0 : Addr) (T : Nat) (tv : Addr) (kv : ClassId) (ds : List Int32) (M : Nat) (h0 : Heap) (n0 : Nat) (v : Option Value) (h : Heap) (L : List Loc) : Prop := v = none ∧ Fr n0 L ∧ h = h0
set_option maxRecDepth 65536 in
set_option maxHeartbeats 40000000 in
theorem rm_fit0 (l : Launch) (Z : State) (a0 : Array Value) (hw : HW a0 Z) (ws : List Jvm.Cond) (r0 : Addr) (T : Nat) (tv : Addr) (kv : ClassId) (ds : List Int32) (M : Nat) (h0 : Heap) (n0 : Nat) (Z0 : n0 ≤ h0.size) (Bv : f3 Z h0 r0 (.ref tv)) (Bc : f2 Z h0 r0 (.int (0 : Int32))) (V_v : own_A Z h0 tv kv .byte (Int32.ofNat M) (own_B M ds)) (hT : T ≤ M ∧ M ≤ 64) :
    own_M l Z h0 (⟨"java/lang/AbstractStringBuilder", "ensureCapacityInternal", "(I)V"⟩ : MethodName) jdk_68_method_9_code 3 none ws (rR 0 0 0 0) #[(.ref r0), (.int (Int32.ofNat T))] (Q_fit0 Z r0 T tv kv ds M h0 n0) := by
  refine own_body (own := "java/lang/AbstractStringBuilder") (plainFor_of_name pn_4) rfl ?_
  intro p e s m below meth c s₁ Bd hZ hh hx hby hml hown X0 e0
  have N0 := Fr.nil n0
  have k1 : Go p.tables e below (s₁.setTop (mkF m 0 #[.val (.ref r0), .val (.int (Int32.ofNat T)), .unset] [])) (s₁.setTop (mkF m 1 #[.val (.ref r0), .val (.int (Int32.ofNat T)), .unset] [(.ref r0)])) := by
    intro t ht
    refine XS.aloadN X0.here hx rfl (hb hby d_m19_0) rfl rfl ?_
    exact ht
  obtain ⟨T2, X2, e2, st2⟩ := getF X0 hx hZ hown (host := "") (Or.inl (own_w hw 61 rfl)) Via.refl e0 Bv (g := (mkF m 1 #[.val (.ref r0), .val (.int (Int32.ofNat T)), .unset] [(.ref r0)])) rfl rfl (hb hby d_m19_1)
  have k2 : Go p.tables e below _ (T2.setTop (mkF m 4 #[.val (.ref r0), .val (.int (Int32.ofNat T)), .unset] [(.ref tv)])) := st2
  obtain ⟨cl3, Ar3, q3, S3, M3, H3, G3⟩ := id V_v
  have k4 : Go p.tables e below _ (T2.setTop (mkF m 6 #[.val (.ref r0), .val (.int (Int32.ofNat T)), .unset] [(.ref r0), (.int (Int32.ofNat M))])) := goT k2 fun t ht => (by
    refine X2.arraylength hx (by rw [e2]; exact Ar3.1) (State.isArrayOf_alike hZ.alike Ar3.2.1) (g := (mkF m 4 #[.val (.ref r0), .val (.int (Int32.ofNat T)), .unset] [(.ref tv)])) rfl rfl (hb hby d_m19_4) _ ?_
    rw [len_of S3 M3]
    refine XS.aloadN X2.here hx rfl (hb hby d_m19_5) rfl rfl ?_
    exact ht)
  obtain ⟨T5, X5, e5, st5⟩ := getF X2 hx hZ hown (host := "") (Or.inl (own_w hw 63 rfl)) Via.refl e2 Bc (g := (mkF m 6 #[.val (.ref r0), .val (.int (Int32.ofNat T)), .unset] [(.ref r0), (.int (Int32.ofNat M))])) rfl rfl (hb hby d_m19_6)
  have k6 : Go p.tables e below _ (T5.setTop (mkF m 10 #[.val (.ref r0), .val (.int (Int32.ofNat T)), .unset] [(.int ((Int32.ofNat M) >>> ((0 : Int32) &&& 31)))])) := fun t ht => st5 t (by
    refine XS.ishr X5.here hx rfl (hb hby d_m19_9) rfl ?_
    exact ht)
  have k7 : Go p.tables e below _ (T5.setTop (mkF m 10 #[.val (.ref r0), .val (.int (Int32.ofNat T)), .unset] [(.int (Int32.ofNat M))])) := goT k6 (by rw [own_shr0]; exact fun _ h => h)
  have k8 : Go p.tables e below _ (T5.setTop (mkF m 38 #[.val (.ref r0), .val (.int (Int32.ofNat T)), .val (.int (Int32.ofNat M))] [])) := goT k7 fun t ht => (by
    refine XS.istoreN X5.here hx rfl (hb hby d_m19_10) rfl (l' := #[.val (.ref r0), .val (.int (Int32.ofNat T)), .val (.int (Int32.ofNat M))]) rfl ?_
    refine XS.iloadN X5.here hx rfl (hb hby d_m19_11) rfl ?_
    refine XS.iloadN X5.here hx rfl (hb hby d_m19_12) rfl ?_
    refine XS.isub X5.here hx rfl (hb hby d_m19_13) rfl ?_
    refine XS.ifYes X5.here hx rfl (pc0 := 14) (pc' := 38) rfl (hb hby d_m19_14) rfl ((if0 _ _).trans (flt (own_subnp hT)).2.2.2) (by decide) (by decide) ?_
    exact ht)
  obtain ⟨fs, hr, hrun, hended, hW, hsame⟩ := X5.leave (v := none) (fun _ => rfl)
  refine ⟨_, _, castTop (ef_fit0 m r0 (Int32.ofNat T)) ((goT k1 (goT k4 k8)) _ (X5.returnOut hx Bd.returns (hb hby d_m19_38) hr)), hrun, hended, _, _, rfl, ?_, ⟨_, rfl⟩, hW, hsame.mono (by decide) (by decide)⟩
  show Q_fit0 Z r0 T tv kv ds M h0 n0 _ T5.heap _
  rw [e5]
  exact ⟨rfl, N0, rfl⟩
theorem pd_9 : parseMethodDescriptor "([BI)[B" = some ⟨[(.array .byte), .int], some (.array .byte)⟩ := by decide +kernel
theorem d_m19_17 : decode jdk_68_method_9_code 17 = .ok (.aload_n 0, 1) := by decide +kernel
theorem d_m19_18 : decode jdk_68_method_9_code 18 = .ok (.aload_n 0, 1) := by decide +kernel
theorem d_m19_19 : decode jdk_68_method_9_code 19 = .ok (.getfield 15, 3) := by decide +kernel
theorem d_m19_22 : decode jdk_68_method_9_code 22 = .ok (.aload_n 0, 1) := by decide +kernel
theorem d_m19_23 : decode jdk_68_method_9_code 23 = .ok (.iload_n 1, 1) := by decide +kernel
theorem d_m19_24 : decode jdk_68_method_9_code 24 = .ok (.invokevirtual 104, 3) := by decide +kernel
theorem d_m19_27 : decode jdk_68_method_9_code 27 = .ok (.aload_n 0, 1) := by decide +kernel
theorem d_m19_28 : decode jdk_68_method_9_code 28 = .ok (.getfield 22, 3) := by decide +kernel
theorem d_m19_31 : decode jdk_68_method_9_code 31 = .ok (.ishl, 1) := by decide +kernel
theorem d_m19_32 : decode jdk_68_method_9_code 32 = .ok (.invokestatic 108, 3) := by decide +kernel
theorem d_m19_35 : decode jdk_68_method_9_code 35 = .ok (.putfield 15, 3) := by decide +kernel
theorem ef_grow0 (m : MethodId) (x0 : Addr) (x1 : Int32) : entryFrame m #[(.ref x0), (.int x1)] 3 = mkF m 0 #[.val (.ref x0), .val (.int x1), .unset] [] := by first | (simp [entryFrame, mkF, argsToLocals, Value.category]; done) | rfl
def Q_grow0 (Z : State) (r0 : Addr) (T : Nat) (tv : Addr) (kv : ClassId) (ds : List Int32) (h0 : Heap) (n0 : Nat) (v : Option Value) (h : Heap) (L : List Loc) : Prop := ∃ (xb : Addr) (xk : ClassId), v = none ∧ Fr n0 L ∧ Keep h0 h [r0] ∧ h0.size ≤ xb ∧ Exa Z h r0 "java/lang/StringBuilder" ∧ f3 Z h r0 (.ref xb) ∧ f2 Z h r0 (.int (0 : Int32)) ∧ f4 Z h r0 (.int (Int32.ofNat ds.length)) ∧ f5 Z h r0 (.int (0 : Int32)) ∧ own_A Z h xb xk .byte (Int32.ofNat 34) (own_B 34 ds)
set_option maxRecDepth 65536 in
set_option maxHeartbeats 40000000 in
theorem rm_grow0 (l : Launch) (Z : State) (a0 : Array Value) (hw : HW a0 Z) (ws : List Jvm.Cond) (r0 : Addr) (T : Nat) (tv : Addr) (kv : ClassId) (ds : List Int32) (h0 : Heap) (n0 : Nat) (Z0 : n0 ≤ h0.size) (E_r0 : Exa Z h0 r0 "java/lang/StringBuilder") (Bv : f3 Z h0 r0 (.ref tv)) (Bc : f2 Z h0 r0 (.int (0 : Int32))) (Bn : f4 Z h0 r0 (.int (Int32.ofNat ds.length))) (Bm : f5 Z h0 r0 (.int (0 : Int32))) (V_v : own_A Z h0 tv kv .byte (Int32.ofNat 16) (own_B 16 ds)) (g_r0 : n0 ≤ r0) (hT : 17 ≤ T ∧ T ≤ 24) (hd : ds.length ≤ 16) (hvr : tv ≠ r0) :
    own_M l Z h0 (⟨"java/lang/AbstractStringBuilder", "ensureCapacityInternal", "(I)V"⟩ : MethodName) jdk_68_method_9_code 3 none ws (rR 3 1 34 48) #[(.ref r0), (.int (Int32.ofNat T))] (Q_grow0 Z r0 T tv kv ds h0 n0) := by
  refine own_body (own := "java/lang/AbstractStringBuilder") (plainFor_of_name pn_4) rfl ?_
  intro p e s m below meth c s₁ Bd hZ hh hx hby hml hown X0 e0
  have N0 := Fr.nil n0
  have k1 : Go p.tables e below (s₁.setTop (mkF m 0 #[.val (.ref r0), .val (.int (Int32.ofNat T)), .unset] [])) (s₁.setTop (mkF m 1 #[.val (.ref r0), .val (.int (Int32.ofNat T)), .unset] [(.ref r0)])) := by
    intro t ht
    refine XS.aloadN X0.here hx rfl (hb hby d_m19_0) rfl rfl ?_
    exact ht
  obtain ⟨T2, X2, e2, st2⟩ := getF X0 hx hZ hown (host := "") (Or.inl (own_w hw 61 rfl)) Via.refl e0 Bv (g := (mkF m 1 #[.val (.ref r0), .val (.int (Int32.ofNat T)), .unset] [(.ref r0)])) rfl rfl (hb hby d_m19_1)
  have k2 : Go p.tables e below _ (T2.setTop (mkF m 4 #[.val (.ref r0), .val (.int (Int32.ofNat T)), .unset] [(.ref tv)])) := st2
  obtain ⟨cl3, Ar3, q3, S3, M3, H3, G3⟩ := id V_v
  have k4 : Go p.tables e below _ (T2.setTop (mkF m 6 #[.val (.ref r0), .val (.int (Int32.ofNat T)), .unset] [(.ref r0), (.int (Int32.ofNat 16))])) := goT k2 fun t ht => (by
    refine X2.arraylength hx (by rw [e2]; exact Ar3.1) (State.isArrayOf_alike hZ.alike Ar3.2.1) (g := (mkF m 4 #[.val (.ref r0), .val (.int (Int32.ofNat T)), .unset] [(.ref tv)])) rfl rfl (hb hby d_m19_4) _ ?_
    rw [len_of S3 M3]
    refine XS.aloadN X2.here hx rfl (hb hby d_m19_5) rfl rfl ?_
    exact ht)
  obtain ⟨T5, X5, e5, st5⟩ := getF X2 hx hZ hown (host := "") (Or.inl (own_w hw 63 rfl)) Via.refl e2 Bc (g := (mkF m 6 #[.val (.ref r0), .val (.int (Int32.ofNat T)), .unset] [(.ref r0), (.int (Int32.ofNat 16))])) rfl rfl (hb hby d_m19_6)
  have k6 : Go p.tables e below _ (T5.setTop (mkF m 10 #[.val (.ref r0), .val (.int (Int32.ofNat T)), .unset] [(.int ((Int32.ofNat 16) >>> ((0 : Int32) &&& 31)))])) := fun t ht => st5 t (by
    refine XS.ishr X5.here hx rfl (hb hby d_m19_9) rfl ?_
    exact ht)
  have k7 : Go p.tables e below _ (T5.setTop (mkF m 10 #[.val (.ref r0), .val (.int (Int32.ofNat T)), .unset] [(.int (Int32.ofNat 16))])) := goT k6 (by rw [own_shr0]; exact fun _ h => h)
  have k8 : Go p.tables e below _ (T5.setTop (mkF m 19 #[.val (.ref r0), .val (.int (Int32.ofNat T)), .val (.int (Int32.ofNat 16))] [(.ref r0), (.ref r0)])) := goT k7 fun t ht => (by
    refine XS.istoreN X5.here hx rfl (hb hby d_m19_10) rfl (l' := #[.val (.ref r0), .val (.int (Int32.ofNat T)), .val (.int (Int32.ofNat 16))]) rfl ?_
    refine XS.iloadN X5.here hx rfl (hb hby d_m19_11) rfl ?_
    refine XS.iloadN X5.here hx rfl (hb hby d_m19_12) rfl ?_
    refine XS.isub X5.here hx rfl (hb hby d_m19_13) rfl ?_
    refine XS.ifNo X5.here hx rfl (hb hby d_m19_14) rfl ((if0 _ _).trans (tlt (own_subp (by omega))).2.2.2) ?_
    refine XS.aloadN X5.here hx rfl (hb hby d_m19_17) rfl rfl ?_
    refine XS.aloadN X5.here hx rfl (hb hby d_m19_18) rfl rfl ?_
    exact ht)
  obtain ⟨T9, X9, e9, st9⟩ := getF X5 hx hZ hown (host := "") (Or.inl (own_w hw 61 rfl)) Via.refl e5 Bv (g := (mkF m 19 #[.val (.ref r0), .val (.int (Int32.ofNat T)), .val (.int (Int32.ofNat 16))] [(.ref r0), (.ref r0)])) rfl rfl (hb hby d_m19_19)
  have k10 : Go p.tables e below _ (T9.setTop (mkF m 24 #[.val (.ref r0), .val (.int (Int32.ofNat T)), .val (.int (Int32.ofNat 16))] [(.int (Int32.ofNat T)), (.ref r0), (.ref tv), (.ref r0)])) := fun t ht => st9 t (by
    refine XS.aloadN X9.here hx rfl (hb hby d_m19_22) rfl rfl ?_
    refine XS.iloadN X9.here hx rfl (hb hby d_m19_23) rfl ?_
    exact ht)
  obtain ⟨cq11, q11, q11'⟩ := E_r0.cell
  have rq11 := X9.privateBack hx (y := (⟨"java/lang/AbstractStringBuilder", "newCapacity", "(I)I"⟩ : MethodName)) hown (mvT hZ (own_w hw 193 rfl)) (mvT hZ (own_w hw 194 rfl)) (own_selp2 (mvT hZ (own_w hw 196 rfl) (args := #[])) (mvT hZ (own_w hw 194 rfl)) (Cond.privateMethod_at (mvP hZ (own_w hw 195 rfl) (args := #[]))) (by decide)) (Cond.privateMethod_at (mvP hZ (own_w hw 195 rfl) (args := #[]))) (mvT hZ (own_w hw 197 rfl)) (by decide) (backOf (W := 2) (rm_ncap0 l Z a0 hw [] r0 T tv kv ds h0 n0 Z0 Bv Bc V_v hT) hZ (own_w hw 197 rfl) (own_w hw 57 rfl) (by decide) (by decide)) (g := (mkF m 24 #[.val (.ref r0), .val (.int (Int32.ofNat T)), .val (.int (Int32.ofNat 16))] [(.int (Int32.ofNat T)), (.ref r0), (.ref tv), (.ref r0)])) rfl (by rw [hml]; rfl) (Steps.refl _) (a := r0) (by rw [e9]; exact q11) q11' (argsL := [(.int (Int32.ofNat T))]) (rest := [(.ref tv), (.ref r0)]) (lenOf pd_0 rfl) rfl (by show 2 * 0 + _ ≤ _; exact Nat.le_of_eq rfl) (hb hby d_m19_24) (fun _ _ => ⟨rfl, e9, (by decide : 0 + 0 ≤ _), (by decide : 0 + 0 ≤ _)⟩)
  obtain ⟨_, T11, L11, X11, ⟨rfl, N11q, eq11⟩, st11⟩ := own_r X9 rq11
  have N11 := Fr.app N0 N11q
  have k12 : Go p.tables e below _ (T11.setTop (mkF m 28 #[.val (.ref r0), .val (.int (Int32.ofNat T)), .val (.int (Int32.ofNat 16))] [(.ref r0), (.int (Int32.ofNat 34)), (.ref tv), (.ref r0)])) := fun t ht => st11 t (by
    refine XS.aloadN X11.here hx rfl (hb hby d_m19_27) rfl rfl ?_
    exact ht)
  obtain ⟨T13, X13, e13, st13⟩ := getF X11 hx hZ hown (host := "") (Or.inl (own_w hw 63 rfl)) Via.refl eq11 Bc (g := (mkF m 28 #[.val (.ref r0), .val (.int (Int32.ofNat T)), .val (.int (Int32.ofNat 16))] [(.ref r0), (.int (Int32.ofNat 34)), (.ref tv), (.ref r0)])) rfl rfl (hb hby d_m19_28)
  have k14 : Go p.tables e below _ (T13.setTop (mkF m 32 #[.val (.ref r0), .val (.int (Int32.ofNat T)), .val (.int (Int32.ofNat 16))] [(.int ((Int32.ofNat 34) <<< ((0 : Int32) &&& 31))), (.ref tv), (.ref r0)])) := fun t ht => st13 t (by
    refine XS.ishl X13.here hx rfl (hb hby d_m19_31) rfl ?_
    exact ht)
  have k15 : Go p.tables e below _ (T13.setTop (mkF m 32 #[.val (.ref r0), .val (.int (Int32.ofNat T)), .val (.int (Int32.ofNat 16))] [(.int (Int32.ofNat 34)), (.ref tv), (.ref r0)])) := goT k14 (by rw [own_shl0]; exact fun _ h => h)
  have rq16 := Jvm.LawKit.callS X13 hx (y := (⟨"java/util/Arrays", "copyOf", "([BI)[B"⟩ : MethodName)) hown (mvT hZ (own_w hw 207 rfl)) (mvT hZ (own_w hw 208 rfl)) (mvT hZ (own_w hw 148 rfl)) (mvT hZ (own_w hw 209 rfl)) (by decide) (backOf (W := 1) (rm_cpo0 l Z a0 hw [] tv 34 kv ds h0 n0 Z0 V_v rfl hd) hZ (own_w hw 209 rfl) (own_w hw 148 rfl) (by decide) (by decide)) (g := (mkF m 32 #[.val (.ref r0), .val (.int (Int32.ofNat T)), .val (.int (Int32.ofNat 16))] [(.int (Int32.ofNat 34)), (.ref tv), (.ref r0)])) rfl (by rw [hml]; rfl) (argsL := [(.ref tv), (.int (Int32.ofNat 34))]) (rest := [(.ref r0)]) (lenOf pd_9 rfl) rfl (by show 2 * 0 + _ ≤ _; exact Nat.le_of_eq rfl) (hb hby d_m19_32) (fun _ _ => ⟨rfl, e13, (by decide : 0 + 1 ≤ _), (by decide : 0 + 34 ≤ _)⟩)
  obtain ⟨_, T16, L16, X16, ⟨xb_16, xk_16, rfl, N16q, K16, Pq16_0, Fq16_0⟩, st16⟩ := own_rS X13 rq16
  have N16 := Fr.app N11 N16q
  have Kp16 : Keep h0 T16.heap [r0] := (Keep.refl h0 [r0]).trans K16 all0
  have ne_r0_xb_16 : r0 ≠ xb_16 := Nat.ne_of_lt (Nat.lt_of_lt_of_le E_r0.lt Pq16_0)
  have sz_xb_16 : h0.size ≤ xb_16 := Nat.le_trans (Keep.refl h0 [r0]).1 Pq16_0
  have E_r0_c_16 := E_r0.keep K16
  have Bv_c_16 := Bv.keep K16 nin0
  have Bc_c_16 := Bc.keep K16 nin0
  have Bn_c_16 := Bn.keep K16 nin0
  have Bm_c_16 := Bm.keep K16 nin0
  have k16 : Go p.tables e below _ (T16.setTop (mkF m 35 #[.val (.ref r0), .val (.int (Int32.ofNat T)), .val (.int (Int32.ofNat 16))] [(.ref xb_16), (.ref r0)])) := st16
  obtain ⟨T17, h17, X17, e17, W17, st17⟩ := putF X16 hx hZ hown (host := "") (Or.inl (own_w hw 61 rfl)) Via.refl rfl Bv_c_16 E_r0_c_16 (Or.inl (own_w hw 62 rfl)) (own_w hw 48 rfl) (ty := (.array .byte)) (by decide) rfl rfl (g := (mkF m 35 #[.val (.ref r0), .val (.int (Int32.ofNat T)), .val (.int (Int32.ofNat 16))] [(.ref xb_16), (.ref r0)])) rfl rfl (hb hby d_m19_35)
  have Kp17 : Keep h0 h17 [r0] := Kp16.wr W17 (Or.inl (by simp))
  have E_r0_c_17 := E_r0_c_16.wr W17
  have Bv_c_17 := Bv_c_16.same W17
  have Bc_c_17 := Bc_c_16.other W17 (Or.inr (slot_ne (Or.inl (own_w hw 64 rfl)) (Or.inl (own_w hw 62 rfl)) (by decide) (t := .byte) (t' := (.array .byte)) (by decide) (by decide)))
  have Bn_c_17 := Bn_c_16.other W17 (Or.inr (slot_ne (Or.inl (own_w hw 89 rfl)) (Or.inl (own_w hw 62 rfl)) (by decide) (t := .int) (t' := (.array .byte)) (by decide) (by decide)))
  have Bm_c_17 := Bm_c_16.other W17 (Or.inr (slot_ne (Or.inl (own_w hw 259 rfl)) (Or.inl (own_w hw 62 rfl)) (by decide) (t := .boolean) (t' := (.array .byte)) (by decide) (by decide)))
  have Fq16_0_c_17 := Fq16_0.other W17 (Ne.symm ne_r0_xb_16)
  have N17 := Fr.snoc X17 N16 g_r0
  have k17 : Go p.tables e below _ (T17.setTop (mkF m 38 #[.val (.ref r0), .val (.int (Int32.ofNat T)), .val (.int (Int32.ofNat 16))] [])) := st17
  obtain ⟨fs, hr, hrun, hended, hW, hsame⟩ := X17.leave (v := none) (fun _ => rfl)
  refine ⟨_, _, castTop (ef_grow0 m r0 (Int32.ofNat T)) ((goT k1 (goT k4 (goT k8 (goT k10 (goT k12 (goT k15 (goT k16 k17))))))) _ (X17.returnOut hx Bd.returns (hb hby d_m19_38) hr)), hrun, hended, _, _, rfl, ?_, ⟨_, rfl⟩, hW, hsame.mono (by decide) (by decide)⟩
  show Q_grow0 Z r0 T tv kv ds h0 n0 _ T17.heap _
  rw [e17]
  exact ⟨xb_16, xk_16, rfl, N17, Kp17, sz_xb_16, E_r0_c_17, Bv_c_17, Bc_c_17, Bn_c_17, Bm_c_17, Fq16_0_c_17⟩
theorem ef_fit1 (m : MethodId) (x0 : Addr) (x1 : Int32) : entryFrame m #[(.ref x0), (.int x1)] 3 = mkF m 0 #[.val (.ref x0), .val (.int x1), .unset] [] := by first | (simp [entryFrame, mkF, argsToLocals, Value.category]; done) | rfl
def Q_fit1 (Z : State) (r0 : Addr) (T : Nat) (tv : Addr) (kv : ClassId) (ds : List Int32) (M : Nat) (h0 : Heap) (n0 : Nat) (v : Option Value) (h : Heap) (L : List Loc) : Prop := v = none ∧ Fr n0 L ∧ h = h0
set_option maxRecDepth 65536 in
set_option maxHeartbeats 40000000 in
theorem rm_fit1 (l : Launch) (Z : State) (a0 : Array Value) (hw : HW a0 Z) (ws : List Jvm.Cond) (r0 : Addr) (T : Nat) (tv : Addr) (kv : ClassId) (ds : List Int32) (M : Nat) (h0 : Heap) (n0 : Nat) (Z0 : n0 ≤ h0.size) (Bv : f3 Z h0 r0 (.ref tv)) (Bc : f2 Z h0 r0 (.int (1 : Int32))) (V_v : own_A Z h0 tv kv .byte (Int32.ofNat (2 * M)) (own_U M ds)) (hT : T ≤ M ∧ M ≤ 64) :
    own_M l Z h0 (⟨"java/lang/AbstractStringBuilder", "ensureCapacityInternal", "(I)V"⟩ : MethodName) jdk_68_method_9_code 3 none ws (rR 0 0 0 0) #[(.ref r0), (.int (Int32.ofNat T))] (Q_fit1 Z r0 T tv kv ds M h0 n0) := by
  refine own_body (own := "java/lang/AbstractStringBuilder") (plainFor_of_name pn_4) rfl ?_
  intro p e s m below meth c s₁ Bd hZ hh hx hby hml hown X0 e0
  have N0 := Fr.nil n0
  have k1 : Go p.tables e below (s₁.setTop (mkF m 0 #[.val (.ref r0), .val (.int (Int32.ofNat T)), .unset] [])) (s₁.setTop (mkF m 1 #[.val (.ref r0), .val (.int (Int32.ofNat T)), .unset] [(.ref r0)])) := by
    intro t ht
    refine XS.aloadN X0.here hx rfl (hb hby d_m19_0) rfl rfl ?_
    exact ht
  obtain ⟨T2, X2, e2, st2⟩ := getF X0 hx hZ hown (host := "") (Or.inl (own_w hw 61 rfl)) Via.refl e0 Bv (g := (mkF m 1 #[.val (.ref r0), .val (.int (Int32.ofNat T)), .unset] [(.ref r0)])) rfl rfl (hb hby d_m19_1)
  have k2 : Go p.tables e below _ (T2.setTop (mkF m 4 #[.val (.ref r0), .val (.int (Int32.ofNat T)), .unset] [(.ref tv)])) := st2
  obtain ⟨cl3, Ar3, q3, S3, M3, H3, G3⟩ := id V_v
  have k4 : Go p.tables e below _ (T2.setTop (mkF m 6 #[.val (.ref r0), .val (.int (Int32.ofNat T)), .unset] [(.ref r0), (.int (Int32.ofNat (2 * M)))])) := goT k2 fun t ht => (by
    refine X2.arraylength hx (by rw [e2]; exact Ar3.1) (State.isArrayOf_alike hZ.alike Ar3.2.1) (g := (mkF m 4 #[.val (.ref r0), .val (.int (Int32.ofNat T)), .unset] [(.ref tv)])) rfl rfl (hb hby d_m19_4) _ ?_
    rw [len_of S3 M3]
    refine XS.aloadN X2.here hx rfl (hb hby d_m19_5) rfl rfl ?_
    exact ht)
  obtain ⟨T5, X5, e5, st5⟩ := getF X2 hx hZ hown (host := "") (Or.inl (own_w hw 63 rfl)) Via.refl e2 Bc (g := (mkF m 6 #[.val (.ref r0), .val (.int (Int32.ofNat T)), .unset] [(.ref r0), (.int (Int32.ofNat (2 * M)))])) rfl rfl (hb hby d_m19_6)
  have k6 : Go p.tables e below _ (T5.setTop (mkF m 10 #[.val (.ref r0), .val (.int (Int32.ofNat T)), .unset] [(.int ((Int32.ofNat (2 * M)) >>> ((1 : Int32) &&& 31)))])) := fun t ht => st5 t (by
    refine XS.ishr X5.here hx rfl (hb hby d_m19_9) rfl ?_
    exact ht)
  have k7 : Go p.tables e below _ (T5.setTop (mkF m 10 #[.val (.ref r0), .val (.int (Int32.ofNat T)), .unset] [(.int (Int32.ofNat M))])) := goT k6 (by rw [own_shr1 hT.2]; exact fun _ h => h)
  have k8 : Go p.tables e below _ (T5.setTop (mkF m 38 #[.val (.ref r0), .val (.int (Int32.ofNat T)), .val (.int (Int32.ofNat M))] [])) := goT k7 fun t ht => (by
    refine XS.istoreN X5.here hx rfl (hb hby d_m19_10) rfl (l' := #[.val (.ref r0), .val (.int (Int32.ofNat T)), .val (.int (Int32.ofNat M))]) rfl ?_
    refine XS.iloadN X5.here hx rfl (hb hby d_m19_11) rfl ?_
    refine XS.iloadN X5.here hx rfl (hb hby d_m19_12) rfl ?_
    refine XS.isub X5.here hx rfl (hb hby d_m19_13) rfl ?_
    refine XS.ifYes X5.here hx rfl (pc0 := 14) (pc' := 38) rfl (hb hby d_m19_14) rfl ((if0 _ _).trans (flt (own_subnp hT)).2.2.2) (by decide) (by decide) ?_
    exact ht)
  obtain ⟨fs, hr, hrun, hended, hW, hsame⟩ := X5.leave (v := none) (fun _ => rfl)
  refine ⟨_, _, castTop (ef_fit1 m r0 (Int32.ofNat T)) ((goT k1 (goT k4 k8)) _ (X5.returnOut hx Bd.returns (hb hby d_m19_38) hr)), hrun, hended, _, _, rfl, ?_, ⟨_, rfl⟩, hW, hsame.mono (by decide) (by decide)⟩
  show Q_fit1 Z r0 T tv kv ds M h0 n0 _ T5.heap _
  rw [e5]
  exact ⟨rfl, N0, rfl⟩
theorem ef_grow1 (m : MethodId) (x0 : Addr) (x1 : Int32) : entryFrame m #[(.ref x0), (.int x1)] 3 = mkF m 0 #[.val (.ref x0), .val (.int x1), .unset] [] := by first | (simp [entryFrame, mkF, argsToLocals, Value.category]; done) | rfl
def Q_grow1 (Z : State) (r0 : Addr) (T : Nat) (tv : Addr) (kv : ClassId) (ds : List Int32) (h0 : Heap) (n0 : Nat) (v : Option Value) (h : Heap) (L : List Loc) : Prop := ∃ (xb : Addr) (xk : ClassId), v = none ∧ Fr n0 L ∧ Keep h0 h [r0] ∧ h0.size ≤ xb ∧ Exa Z h r0 "java/lang/StringBuilder" ∧ f3 Z h r0 (.ref xb) ∧ f2 Z h r0 (.int (1 : Int32)) ∧ f4 Z h r0 (.int (Int32.ofNat ds.length)) ∧ f5 Z h r0 (.int (0 : Int32)) ∧ own_A Z h xb xk .byte (Int32.ofNat (2 * 34)) (own_U 34 ds)
set_option maxRecDepth 65536 in
set_option maxHeartbeats 40000000 in
theorem rm_grow1 (l : Launch) (Z : State) (a0 : Array Value) (hw : HW a0 Z) (ws : List Jvm.Cond) (r0 : Addr) (T : Nat) (tv : Addr) (kv : ClassId) (ds : List Int32) (h0 : Heap) (n0 : Nat) (Z0 : n0 ≤ h0.size) (E_r0 : Exa Z h0 r0 "java/lang/StringBuilder") (Bv : f3 Z h0 r0 (.ref tv)) (Bc : f2 Z h0 r0 (.int (1 : Int32))) (Bn : f4 Z h0 r0 (.int (Int32.ofNat ds.length))) (Bm : f5 Z h0 r0 (.int (0 : Int32))) (V_v : own_A Z h0 tv kv .byte (Int32.ofNat (2 * 16)) (own_U 16 ds)) (g_r0 : n0 ≤ r0) (hT : 17 ≤ T ∧ T ≤ 24) (hd : ds.length ≤ 16) (hvr : tv ≠ r0) :
    own_M l Z h0 (⟨"java/lang/AbstractStringBuilder", "ensureCapacityInternal", "(I)V"⟩ : MethodName) jdk_68_method_9_code 3 none ws (rR 3 1 68 48) #[(.ref r0), (.int (Int32.ofNat T))] (Q_grow1 Z r0 T tv kv ds h0 n0) := by
  refine own_body (own := "java/lang/AbstractStringBuilder") (plainFor_of_name pn_4) rfl ?_
  intro p e s m below meth c s₁ Bd hZ hh hx hby hml hown X0 e0
  have N0 := Fr.nil n0
  have k1 : Go p.tables e below (s₁.setTop (mkF m 0 #[.val (.ref r0), .val (.int (Int32.ofNat T)), .unset] [])) (s₁.setTop (mkF m 1 #[.val (.ref r0), .val (.int (Int32.ofNat T)), .unset] [(.ref r0)])) := by
    intro t ht
    refine XS.aloadN X0.here hx rfl (hb hby d_m19_0) rfl rfl ?_
    exact ht
  obtain ⟨T2, X2, e2, st2⟩ := getF X0 hx hZ hown (host := "") (Or.inl (own_w hw 61 rfl)) Via.refl e0 Bv (g := (mkF m 1 #[.val (.ref r0), .val (.int (Int32.ofNat T)), .unset] [(.ref r0)])) rfl rfl (hb hby d_m19_1)
  have k2 : Go p.tables e below _ (T2.setTop (mkF m 4 #[.val (.ref r0), .val (.int (Int32.ofNat T)), .unset] [(.ref tv)])) := st2
  obtain ⟨cl3, Ar3, q3, S3, M3, H3, G3⟩ := id V_v
  have k4 : Go p.tables e below _ (T2.setTop (mkF m 6 #[.val (.ref r0), .val (.int (Int32.ofNat T)), .unset] [(.ref r0), (.int (Int32.ofNat (2 * 16)))])) := goT k2 fun t ht => (by
    refine X2.arraylength hx (by rw [e2]; exact Ar3.1) (State.isArrayOf_alike hZ.alike Ar3.2.1) (g := (mkF m 4 #[.val (.ref r0), .val (.int (Int32.ofNat T)), .unset] [(.ref tv)])) rfl rfl (hb hby d_m19_4) _ ?_
    rw [len_of S3 M3]
    refine XS.aloadN X2.here hx rfl (hb hby d_m19_5) rfl rfl ?_
    exact ht)
  obtain ⟨T5, X5, e5, st5⟩ := getF X2 hx hZ hown (host := "") (Or.inl (own_w hw 63 rfl)) Via.refl e2 Bc (g := (mkF m 6 #[.val (.ref r0), .val (.int (Int32.ofNat T)), .unset] [(.ref r0), (.int (Int32.ofNat (2 * 16)))])) rfl rfl (hb hby d_m19_6)
  have k6 : Go p.tables e below _ (T5.setTop (mkF m 10 #[.val (.ref r0), .val (.int (Int32.ofNat T)), .unset] [(.int ((Int32.ofNat (2 * 16)) >>> ((1 : Int32) &&& 31)))])) := fun t ht => st5 t (by
    refine XS.ishr X5.here hx rfl (hb hby d_m19_9) rfl ?_
    exact ht)
  have k7 : Go p.tables e below _ (T5.setTop (mkF m 10 #[.val (.ref r0), .val (.int (Int32.ofNat T)), .unset] [(.int (Int32.ofNat 16))])) := goT k6 (by rw [own_shr1 (by decide)]; exact fun _ h => h)
  have k8 : Go p.tables e below _ (T5.setTop (mkF m 19 #[.val (.ref r0), .val (.int (Int32.ofNat T)), .val (.int (Int32.ofNat 16))] [(.ref r0), (.ref r0)])) := goT k7 fun t ht => (by
    refine XS.istoreN X5.here hx rfl (hb hby d_m19_10) rfl (l' := #[.val (.ref r0), .val (.int (Int32.ofNat T)), .val (.int (Int32.ofNat 16))]) rfl ?_
    refine XS.iloadN X5.here hx rfl (hb hby d_m19_11) rfl ?_
    refine XS.iloadN X5.here hx rfl (hb hby d_m19_12) rfl ?_
    refine XS.isub X5.here hx rfl (hb hby d_m19_13) rfl ?_
    refine XS.ifNo X5.here hx rfl (hb hby d_m19_14) rfl ((if0 _ _).trans (tlt (own_subp (by omega))).2.2.2) ?_
    refine XS.aloadN X5.here hx rfl (hb hby d_m19_17) rfl rfl ?_
    refine XS.aloadN X5.here hx rfl (hb hby d_m19_18) rfl rfl ?_
    exact ht)
  obtain ⟨T9, X9, e9, st9⟩ := getF X5 hx hZ hown (host := "") (Or.inl (own_w hw 61 rfl)) Via.refl e5 Bv (g := (mkF m 19 #[.val (.ref r0), .val (.int (Int32.ofNat T)), .val (.int (Int32.ofNat 16))] [(.ref r0), (.ref r0)])) rfl rfl (hb hby d_m19_19)
  have k10 : Go p.tables e below _ (T9.setTop (mkF m 24 #[.val (.ref r0), .val (.int (Int32.ofNat T)), .val (.int (Int32.ofNat 16))] [(.int (Int32.ofNat T)), (.ref r0), (.ref tv), (.ref r0)])) := fun t ht => st9 t (by
    refine XS.aloadN X9.here hx rfl (hb hby d_m19_22) rfl rfl ?_
    refine XS.iloadN X9.here hx rfl (hb hby d_m19_23) rfl ?_
    exact ht)
  obtain ⟨cq11, q11, q11'⟩ := E_r0.cell
  have rq11 := X9.privateBack hx (y := (⟨"java/lang/AbstractStringBuilder", "newCapacity", "(I)I"⟩ : MethodName)) hown (mvT hZ (own_w hw 193 rfl)) (mvT hZ (own_w hw 194 rfl)) (own_selp2 (mvT hZ (own_w hw 196 rfl) (args := #[])) (mvT hZ (own_w hw 194 rfl)) (Cond.privateMethod_at (mvP hZ (own_w hw 195 rfl) (args := #[]))) (by decide)) (Cond.privateMethod_at (mvP hZ (own_w hw 195 rfl) (args := #[]))) (mvT hZ (own_w hw 197 rfl)) (by decide) (backOf (W := 2) (rm_ncap1 l Z a0 hw [] r0 T tv kv ds h0 n0 Z0 Bv Bc V_v hT) hZ (own_w hw 197 rfl) (own_w hw 57 rfl) (by decide) (by decide)) (g := (mkF m 24 #[.val (.ref r0), .val (.int (Int32.ofNat T)), .val (.int (Int32.ofNat 16))] [(.int (Int32.ofNat T)), (.ref r0), (.ref tv), (.ref r0)])) rfl (by rw [hml]; rfl) (Steps.refl _) (a := r0) (by rw [e9]; exact q11) q11' (argsL := [(.int (Int32.ofNat T))]) (rest := [(.ref tv), (.ref r0)]) (lenOf pd_0 rfl) rfl (by show 2 * 0 + _ ≤ _; exact Nat.le_of_eq rfl) (hb hby d_m19_24) (fun _ _ => ⟨rfl, e9, (by decide : 0 + 0 ≤ _), (by decide : 0 + 0 ≤ _)⟩)
  obtain ⟨_, T11, L11, X11, ⟨rfl, N11q, eq11⟩, st11⟩ := own_r X9 rq11
  have N11 := Fr.app N0 N11q
  have k12 : Go p.tables e below _ (T11.setTop (mkF m 28 #[.val (.ref r0), .val (.int (Int32.ofNat T)), .val (.int (Int32.ofNat 16))] [(.ref r0), (.int (Int32.ofNat 34)), (.ref tv), (.ref r0)])) := fun t ht => st11 t (by
    refine XS.aloadN X11.here hx rfl (hb hby d_m19_27) rfl rfl ?_
    exact ht)
  obtain ⟨T13, X13, e13, st13⟩ := getF X11 hx hZ hown (host := "") (Or.inl (own_w hw 63 rfl)) Via.refl eq11 Bc (g := (mkF m 28 #[.val (.ref r0), .val (.int (Int32.ofNat T)), .val (.int (Int32.ofNat 16))] [(.ref r0), (.int (Int32.ofNat 34)), (.ref tv), (.ref r0)])) rfl rfl (hb hby d_m19_28)
  have k14 : Go p.tables e below _ (T13.setTop (mkF m 32 #[.val (.ref r0), .val (.int (Int32.ofNat T)), .val (.int (Int32.ofNat 16))] [(.int ((Int32.ofNat 34) <<< ((1 : Int32) &&& 31))), (.ref tv), (.ref r0)])) := fun t ht => st13 t (by
    refine XS.ishl X13.here hx rfl (hb hby d_m19_31) rfl ?_
    exact ht)
  have k15 : Go p.tables e below _ (T13.setTop (mkF m 32 #[.val (.ref r0), .val (.int (Int32.ofNat T)), .val (.int (Int32.ofNat 16))] [(.int (Int32.ofNat (2 * 34))), (.ref tv), (.ref r0)])) := goT k14 (by rw [own_shl1 (by decide)]; exact fun _ h => h)
  have rq16 := Jvm.LawKit.callS X13 hx (y := (⟨"java/util/Arrays", "copyOf", "([BI)[B"⟩ : MethodName)) hown (mvT hZ (own_w hw 207 rfl)) (mvT hZ (own_w hw 208 rfl)) (mvT hZ (own_w hw 148 rfl)) (mvT hZ (own_w hw 209 rfl)) (by decide) (backOf (W := 1) (rm_cpo1 l Z a0 hw [] tv (2 * 34) kv ds h0 n0 Z0 V_v rfl hd) hZ (own_w hw 209 rfl) (own_w hw 148 rfl) (by decide) (by decide)) (g := (mkF m 32 #[.val (.ref r0), .val (.int (Int32.ofNat T)), .val (.int (Int32.ofNat 16))] [(.int (Int32.ofNat (2 * 34))), (.ref tv), (.ref r0)])) rfl (by rw [hml]; rfl) (argsL := [(.ref tv), (.int (Int32.ofNat (2 * 34)))]) (rest := [(.ref r0)]) (lenOf pd_9 rfl) rfl (by show 2 * 0 + _ ≤ _; exact Nat.le_of_eq rfl) (hb hby d_m19_32) (fun _ _ => ⟨rfl, e13, (by decide : 0 + 1 ≤ _), (by decide : 0 + 68 ≤ _)⟩)
  obtain ⟨_, T16, L16, X16, ⟨xb_16, xk_16, rfl, N16q, K16, Pq16_0, Fq16_0⟩, st16⟩ := own_rS X13 rq16
  have N16 := Fr.app N11 N16q
  have Kp16 : Keep h0 T16.heap [r0] := (Keep.refl h0 [r0]).trans K16 all0
  have ne_r0_xb_16 : r0 ≠ xb_16 := Nat.ne_of_lt (Nat.lt_of_lt_of_le E_r0.lt Pq16_0)
  have sz_xb_16 : h0.size ≤ xb_16 := Nat.le_trans (Keep.refl h0 [r0]).1 Pq16_0
  have E_r0_c_16 := E_r0.keep K16
  have Bv_c_16 := Bv.keep K16 nin0
  have Bc_c_16 := Bc.keep K16 nin0
  have Bn_c_16 := Bn.keep K16 nin0
  have Bm_c_16 := Bm.keep K16 nin0
  have k16 : Go p.tables e below _ (T16.setTop (mkF m 35 #[.val (.ref r0), .val (.int (Int32.ofNat T)), .val (.int (Int32.ofNat 16))] [(.ref xb_16), (.ref r0)])) := st16
  obtain ⟨T17, h17, X17, e17, W17, st17⟩ := putF X16 hx hZ hown (host := "") (Or.inl (own_w hw 61 rfl)) Via.refl rfl Bv_c_16 E_r0_c_16 (Or.inl (own_w hw 62 rfl)) (own_w hw 48 rfl) (ty := (.array .byte)) (by decide) rfl rfl (g := (mkF m 35 #[.val (.ref r0), .val (.int (Int32.ofNat T)), .val (.int (Int32.ofNat 16))] [(.ref xb_16), (.ref r0)])) rfl rfl (hb hby d_m19_35)
  have Kp17 : Keep h0 h17 [r0] := Kp16.wr W17 (Or.inl (by simp))
  have E_r0_c_17 := E_r0_c_16.wr W17
  have Bv_c_17 := Bv_c_16.same W17
  have Bc_c_17 := Bc_c_16.other W17 (Or.inr (slot_ne (Or.inl (own_w hw 64 rfl)) (Or.inl (own_w hw 62 rfl)) (by decide) (t := .byte) (t' := (.array .byte)) (by decide) (by decide)))
  have Bn_c_17 := Bn_c_16.other W17 (Or.inr (slot_ne (Or.inl (own_w hw 89 rfl)) (Or.inl (own_w hw 62 rfl)) (by decide) (t := .int) (t' := (.array .byte)) (by decide) (by decide)))
  have Bm_c_17 := Bm_c_16.other W17 (Or.inr (slot_ne (Or.inl (own_w hw 259 rfl)) (Or.inl (own_w hw 62 rfl)) (by decide) (t := .boolean) (t' := (.array .byte)) (by decide) (by decide)))
  have Fq16_0_c_17 := Fq16_0.other W17 (Ne.symm ne_r0_xb_16)
  have N17 := Fr.snoc X17 N16 g_r0
  have k17 : Go p.tables e below _ (T17.setTop (mkF m 38 #[.val (.ref r0), .val (.int (Int32.ofNat T)), .val (.int (Int32.ofNat 16))] [])) := st17
  obtain ⟨fs, hr, hrun, hended, hW, hsame⟩ := X17.leave (v := none) (fun _ => rfl)
  refine ⟨_, _, castTop (ef_grow1 m r0 (Int32.ofNat T)) ((goT k1 (goT k4 (goT k8 (goT k10 (goT k12 (goT k15 (goT k16 k17))))))) _ (X17.returnOut hx Bd.returns (hb hby d_m19_38) hr)), hrun, hended, _, _, rfl, ?_, ⟨_, rfl⟩, hW, hsame.mono (by decide) (by decide)⟩
  show Q_grow1 Z r0 T tv kv ds h0 n0 _ T17.heap _
  rw [e17]
  exact ⟨xb_16, xk_16, rfl, N17, Kp17, sz_xb_16, E_r0_c_17, Bv_c_17, Bc_c_17, Bn_c_17, Bm_c_17, Fq16_0_c_17⟩
theorem pd_10 : parseMethodDescriptor "()Z" = some ⟨[], some .boolean⟩ := by decide +kernel
theorem pd_11 : parseMethodDescriptor "(I)[B" = some ⟨[.int], some (.array .byte)⟩ := by decide +kernel
theorem d_m20_0 : decode jdk_68_method_11_code 0 = .ok (.aload_n 0, 1) := by decide +kernel
theorem d_m20_1 : decode jdk_68_method_11_code 1 = .ok (.invokevirtual 83, 3) := by decide +kernel
theorem d_m20_4 : decode jdk_68_method_11_code 4 = .ok (.ifCond .ne 4, 3) := by decide +kernel
theorem d_m20_8 : decode jdk_68_method_11_code 8 = .ok (.aload_n 0, 1) := by decide +kernel
theorem d_m20_9 : decode jdk_68_method_11_code 9 = .ok (.getfield 15, 3) := by decide +kernel
theorem d_m20_12 : decode jdk_68_method_11_code 12 = .ok (.arraylength, 1) := by decide +kernel
theorem d_m20_13 : decode jdk_68_method_11_code 13 = .ok (.invokestatic 26, 3) := by decide +kernel
theorem d_m20_16 : decode jdk_68_method_11_code 16 = .ok (.astore_n 1, 1) := by decide +kernel
theorem d_m20_17 : decode jdk_68_method_11_code 17 = .ok (.aload_n 0, 1) := by decide +kernel
theorem d_m20_18 : decode jdk_68_method_11_code 18 = .ok (.getfield 15, 3) := by decide +kernel
theorem d_m20_21 : decode jdk_68_method_11_code 21 = .ok (.iconst 0, 1) := by decide +kernel
theorem d_m20_22 : decode jdk_68_method_11_code 22 = .ok (.aload_n 1, 1) := by decide +kernel
theorem d_m20_23 : decode jdk_68_method_11_code 23 = .ok (.iconst 0, 1) := by decide +kernel
theorem d_m20_24 : decode jdk_68_method_11_code 24 = .ok (.aload_n 0, 1) := by decide +kernel
theorem d_m20_25 : decode jdk_68_method_11_code 25 = .ok (.getfield 79, 3) := by decide +kernel
theorem d_m20_28 : decode jdk_68_method_11_code 28 = .ok (.invokestatic 125, 3) := by decide +kernel
theorem d_m20_31 : decode jdk_68_method_11_code 31 = .ok (.aload_n 0, 1) := by decide +kernel
theorem d_m20_32 : decode jdk_68_method_11_code 32 = .ok (.aload_n 1, 1) := by decide +kernel
theorem d_m20_33 : decode jdk_68_method_11_code 33 = .ok (.putfield 15, 3) := by decide +kernel
theorem d_m20_36 : decode jdk_68_method_11_code 36 = .ok (.aload_n 0, 1) := by decide +kernel
theorem d_m20_37 : decode jdk_68_method_11_code 37 = .ok (.iconst 1, 1) := by decide +kernel
theorem d_m20_38 : decode jdk_68_method_11_code 38 = .ok (.putfield 22, 3) := by decide +kernel
theorem d_m20_41 : decode jdk_68_method_11_code 41 = .ok (.return_, 1) := by decide +kernel
theorem ef_infB (m : MethodId) (x0 : Addr) : entryFrame m #[(.ref x0)] 2 = mkF m 0 #[.val (.ref x0), .unset] [] := by first | (simp [entryFrame, mkF, argsToLocals, Value.category]; done) | rfl
def Q_infB (Z : State) (r0 : Addr) (tv : Addr) (kv : ClassId) (ds : List Int32) (M : Nat) (G1 : Int32) (fm : Value) (h0 : Heap) (n0 : Nat) (v : Option Value) (h : Heap) (L : List Loc) : Prop := ∃ (xb : Addr) (xk : ClassId), v = none ∧ Fr n0 L ∧ Keep h0 h [r0] ∧ h0.size ≤ xb ∧ Exa Z h r0 "java/lang/StringBuilder" ∧ f3 Z h r0 (.ref xb) ∧ f2 Z h r0 (.int (1 : Int32)) ∧ f4 Z h r0 (.int (Int32.ofNat ds.length)) ∧ f5 Z h r0 (.int (0 : Int32)) ∧ own_A Z h xb xk .byte (Int32.ofNat (2 * M)) (own_U M ds)
set_option maxRecDepth 65536 in
set_option maxHeartbeats 40000000 in
theorem rm_infB (l : Launch) (Z : State) (a0 : Array Value) (hw : HW a0 Z) (ws : List Jvm.Cond) (r0 : Addr) (tv : Addr) (kv : ClassId) (ds : List Int32) (M : Nat) (G1 : Int32) (fm : Value) (h0 : Heap) (n0 : Nat) (Z0 : n0 ≤ h0.size) (E_r0 : Exa Z h0 r0 "java/lang/StringBuilder") (Bv : f3 Z h0 r0 (.ref tv)) (Bc : f2 Z h0 r0 (.int (0 : Int32))) (Bn : f4 Z h0 r0 (.int (Int32.ofNat ds.length))) (Bm : f5 Z h0 r0 (.int (0 : Int32))) (S_CS : f12 Z h0 (.int G1)) (S_AD : f8 Z h0 (.int (1 : Int32))) (S_HI : f9 Z h0 (.int (0 : Int32))) (S_LO : f10 Z h0 (.int (8 : Int32))) (S_SI : f11 Z h0 fm) (V_v : own_A Z h0 tv kv .byte (Int32.ofNat M) (own_B M ds)) (P5 : ¬ (G1 = (0 : Int32))) (g_r0 : n0 ≤ r0) (hM : ds.length ≤ M ∧ M ≤ 24) (hvr : tv ≠ r0) (hch : ∀ c ∈ ds, ¬ c < 0 ∧ ¬ (255 : Int32) < c) (rf : fm.isRef = true) :
    own_M l Z h0 (⟨"java/lang/AbstractStringBuilder", "inflate", "()V"⟩ : MethodName) jdk_68_method_11_code 2 none ws (rR 6 1 48 93) #[(.ref r0)] (Q_infB Z r0 tv kv ds M G1 fm h0 n0) := by
  refine own_body (own := "java/lang/AbstractStringBuilder") (plainFor_of_name pn_4) rfl ?_
  intro p e s m below meth c s₁ Bd hZ hh hx hby hml hown X0 e0
  have N0 := Fr.nil n0
  have k1 : Go p.tables e below (s₁.setTop (mkF m 0 #[.val (.ref r0), .unset] [])) (s₁.setTop (mkF m 1 #[.val (.ref r0), .unset] [(.ref r0)])) := by
    intro t ht
    refine XS.aloadN X0.here hx rfl (hb hby d_m20_0) rfl rfl ?_
    exact ht
  obtain ⟨cq2, kq2, q2a, q2b, q2c⟩ := isOf hZ e0 E_r0
  have rq2 := X0.virtualBack hx (y := (⟨"java/lang/AbstractStringBuilder", "isLatin1", "()Z"⟩ : MethodName)) (z := (⟨"java/lang/AbstractStringBuilder", "isLatin1", "()Z"⟩ : MethodName)) hown (mvT hZ (own_w hw 235 rfl)) (mvT hZ (own_w hw 142 rfl)) (notFace_of_selects (args := #[]) (mvT hZ (own_w hw 144 rfl))) (mvT hZ (own_w hw 144 rfl)) (mvT hZ (own_w hw 143 rfl)) (by decide) (backOf (W := 0) (rm_isL0 l Z a0 hw [] r0 G1 h0 n0 Z0 Bc S_CS P5) hZ (own_w hw 145 rfl) (own_w hw 57 rfl) (by decide) (by decide)) q2a q2c (g := (mkF m 1 #[.val (.ref r0), .unset] [(.ref r0)])) rfl (by rw [hml]; rfl) (Steps.refl _) (argsL := []) (rest := []) (lenOf pd_10 rfl) rfl (by show 2 * 0 + _ ≤ _; exact Nat.le_of_eq rfl) (hb hby d_m20_1) (fun _ _ => ⟨rfl, e0, (by decide : 0 + 0 ≤ _), (by decide : 0 + 0 ≤ _)⟩)
  obtain ⟨_, T2, L2, X2, ⟨rfl, N2q, eq2⟩, st2⟩ := own_r X0 rq2
  have N2 := Fr.app N0 N2q
  have k3 : Go p.tables e below _ (T2.setTop (mkF m 9 #[.val (.ref r0), .unset] [(.ref r0)])) := fun t ht => st2 t (by
    refine XS.ifYes X2.here hx rfl (pc0 := 4) (pc' := 8) rfl (hb hby d_m20_4) rfl ((if0 _ _).trans (feq (by decide : ¬ ((1 : Int32) = (0 : Int32)))).2) (by decide) (by decide) ?_
    refine XS.aloadN X2.here hx rfl (hb hby d_m20_8) rfl rfl ?_
    exact ht)
  obtain ⟨T4, X4, e4, st4⟩ := getF X2 hx hZ hown (host := "") (Or.inl (own_w hw 61 rfl)) Via.refl eq2 Bv (g := (mkF m 9 #[.val (.ref r0), .unset] [(.ref r0)])) rfl rfl (hb hby d_m20_9)
  have k4 : Go p.tables e below _ (T4.setTop (mkF m 12 #[.val (.ref r0), .unset] [(.ref tv)])) := st4
  obtain ⟨cl5, Ar5, q5, S5, M5, H5, G5⟩ := id V_v
  have k6 : Go p.tables e below _ (T4.setTop (mkF m 13 #[.val (.ref r0), .unset] [(.int (Int32.ofNat M))])) := goT k4 fun t ht => (by
    refine X4.arraylength hx (by rw [e4]; exact Ar5.1) (State.isArrayOf_alike hZ.alike Ar5.2.1) (g := (mkF m 12 #[.val (.ref r0), .unset] [(.ref tv)])) rfl rfl (hb hby d_m20_12) _ ?_
    rw [len_of S5 M5]
    exact ht)
  have rq7 := Jvm.LawKit.callS X4 hx (y := (⟨"java/lang/StringUTF16", "newBytesFor", "(I)[B"⟩ : MethodName)) hown (mvT hZ (own_w hw 236 rfl)) (mvT hZ (own_w hw 215 rfl)) (mvT hZ (own_w hw 175 rfl)) (mvT hZ (own_w hw 216 rfl)) (by decide) (backOf (W := 0) (rm_nbf l Z a0 hw [] M h0 n0 Z0 (hM.2 : M ≤ 24)) hZ (own_w hw 216 rfl) (own_w hw 175 rfl) (by decide) (by decide)) (g := (mkF m 13 #[.val (.ref r0), .unset] [(.int (Int32.ofNat M))])) rfl (by rw [hml]; rfl) (argsL := [(.int (Int32.ofNat M))]) (rest := []) (lenOf pd_11 rfl) rfl (by show 2 * 0 + _ ≤ _; exact Nat.le_of_eq rfl) (hb hby d_m20_13) (fun _ _ => ⟨rfl, e4, (by decide : 0 + 1 ≤ _), (by decide : 0 + 48 ≤ _)⟩)
  obtain ⟨_, T7, L7, X7, ⟨xb_7, xk_7, rfl, N7q, K7, Pq7_0, Fq7_0⟩, st7⟩ := own_rS X4 rq7
  have N7 := Fr.app N2 N7q
  have Kp7 : Keep h0 T7.heap [r0] := (Keep.refl h0 [r0]).trans K7 all0
  have Z7 : n0 ≤ T7.heap.size := Nat.le_trans Z0 K7.1
  have ne_r0_xb_7 : r0 ≠ xb_7 := Nat.ne_of_lt (Nat.lt_of_lt_of_le E_r0.lt Pq7_0)
  have ne_tv_xb_7 : tv ≠ xb_7 := Nat.ne_of_lt (Nat.lt_of_lt_of_le V_v.lt Pq7_0)
  have g_xb_7 : n0 ≤ xb_7 := Nat.le_trans Z0 Pq7_0
  have sz_xb_7 : h0.size ≤ xb_7 := Nat.le_trans (Keep.refl h0 [r0]).1 Pq7_0
  have E_r0_c_7 := E_r0.keep K7
  have Bv_c_7 := Bv.keep K7 nin0
  have Bc_c_7 := Bc.keep K7 nin0
  have Bn_c_7 := Bn.keep K7 nin0
  have Bm_c_7 := Bm.keep K7 nin0
  have S_AD_c_7 := own_sta_keep0 S_AD K7
  have S_HI_c_7 := own_sta_keep0 S_HI K7
  have S_LO_c_7 := own_sta_keep0 S_LO K7
  have S_SI_c_7 := own_sta_keep0 S_SI K7
  have V_v_c_7 := V_v.keep K7 nin0
  have k8 : Go p.tables e below _ (T7.setTop (mkF m 18 #[.val (.ref r0), .val (.ref xb_7)] [(.ref r0)])) := fun t ht => st7 t (by
    refine XS.astoreN X7.here hx rfl (hb hby d_m20_16) rfl rfl (l' := #[.val (.ref r0), .val (.ref xb_7)]) rfl ?_
    refine XS.aloadN X7.here hx rfl (hb hby d_m20_17) rfl rfl ?_
    exact ht)
  obtain ⟨T9, X9, e9, st9⟩ := getF X7 hx hZ hown (host := "") (Or.inl (own_w hw 61 rfl)) Via.refl rfl Bv_c_7 (g := (mkF m 18 #[.val (.ref r0), .val (.ref xb_7)] [(.ref r0)])) rfl rfl (hb hby d_m20_18)
  have k10 : Go p.tables e below _ (T9.setTop (mkF m 25 #[.val (.ref r0), .val (.ref xb_7)] [(.ref r0), (.int (0 : Int32)), (.ref xb_7), (.int (0 : Int32)), (.ref tv)])) := fun t ht => st9 t (by
    refine XS.iconst X9.here hx rfl (hb hby d_m20_21) ?_
    refine XS.aloadN X9.here hx rfl (hb hby d_m20_22) rfl rfl ?_
    refine XS.iconst X9.here hx rfl (hb hby d_m20_23) ?_
    refine XS.aloadN X9.here hx rfl (hb hby d_m20_24) rfl rfl ?_
    exact ht)
  obtain ⟨T11, X11, e11, st11⟩ := getF X9 hx hZ hown (host := "") (Or.inl (own_w hw 88 rfl)) Via.refl e9 Bn_c_7 (g := (mkF m 25 #[.val (.ref r0), .val (.ref xb_7)] [(.ref r0), (.int (0 : Int32)), (.ref xb_7), (.int (0 : Int32)), (.ref tv)])) rfl rfl (hb hby d_m20_25)
  have k11 : Go p.tables e below _ (T11.setTop (mkF m 28 #[.val (.ref r0), .val (.ref xb_7)] [(.int (Int32.ofNat ds.length)), (.int (0 : Int32)), (.ref xb_7), (.int (0 : Int32)), (.ref tv)])) := st11
  have rq12 := Jvm.LawKit.callS X11 hx (y := (⟨"java/lang/StringLatin1", "inflate", "([BI[BII)V"⟩ : MethodName)) hown (mvT hZ (own_w hw 237 rfl)) (mvT hZ (own_w hw 238 rfl)) (mvT hZ (own_w hw 7 rfl)) (mvT hZ (own_w hw 239 rfl)) (by decide) (backOf (W := 0) (rm_infL l Z a0 hw [] tv xb_7 0 ds.length kv xk_7 (Int32.ofNat M) M (own_B M ds) (List.replicate (2 * M) (0 : Int32)) fm T7.heap n0 Z7 S_AD_c_7 S_HI_c_7 S_LO_c_7 S_SI_c_7 V_v_c_7 Fq7_0 g_xb_7 ne_tv_xb_7 ((own_intle (by omega)) : (ds.length : Int) ≤ (Int32.ofNat M).toInt) (by omega : 0 + ds.length ≤ M ∧ M ≤ 64) (by simp : 2 * M ≤ (List.replicate (2 * M) (0 : Int32)).length) rf) hZ (own_w hw 239 rfl) (own_w hw 7 rfl) (by decide) (by decide)) (g := (mkF m 28 #[.val (.ref r0), .val (.ref xb_7)] [(.int (Int32.ofNat ds.length)), (.int (0 : Int32)), (.ref xb_7), (.int (0 : Int32)), (.ref tv)])) rfl (by rw [hml]; rfl) (argsL := [(.ref tv), (.int (0 : Int32)), (.ref xb_7), (.int (0 : Int32)), (.int (Int32.ofNat ds.length))]) (rest := []) (lenOf pd_6 rfl) rfl (by show 2 * 0 + _ ≤ _; exact Nat.le_of_eq rfl) (hb hby d_m20_28) (fun _ _ => ⟨rfl, e11, (by decide : 1 + 0 ≤ _), (by decide : 48 + 0 ≤ _)⟩)
  obtain ⟨_, T12, L12, X12, ⟨rfl, N12q, K12, Fq12_0⟩, st12⟩ := own_rS X11 rq12
  have N12 := Fr.app N7 N12q
  have Kp12 : Keep h0 T12.heap [r0] := Kp7.trans K12 (allS (Or.inr sz_xb_7) all0)
  have E_r0_c_12 := E_r0_c_7.keep K12
  have Bv_c_12 := Bv_c_7.keep K12 (ninS ne_r0_xb_7 nin0)
  have Bc_c_12 := Bc_c_7.keep K12 (ninS ne_r0_xb_7 nin0)
  have Bn_c_12 := Bn_c_7.keep K12 (ninS ne_r0_xb_7 nin0)
  have Bm_c_12 := Bm_c_7.keep K12 (ninS ne_r0_xb_7 nin0)
  have k12 : Go p.tables e below _ (T12.setTop (mkF m 31 #[.val (.ref r0), .val (.ref xb_7)] [])) := st12
  have Vc13 : own_A Z T12.heap xb_7 xk_7 .byte (Int32.ofNat (2 * M)) (own_U M ds) := by rw [← own_inflB hM.1 hch]; exact Fq12_0
  have k14 : Go p.tables e below _ (T12.setTop (mkF m 33 #[.val (.ref r0), .val (.ref xb_7)] [(.ref xb_7), (.ref r0)])) := goT k12 fun t ht => (by
    refine XS.aloadN X12.here hx rfl (hb hby d_m20_31) rfl rfl ?_
    refine XS.aloadN X12.here hx rfl (hb hby d_m20_32) rfl rfl ?_
    exact ht)
  obtain ⟨T15, h15, X15, e15, W15, st15⟩ := putF X12 hx hZ hown (host := "") (Or.inl (own_w hw 61 rfl)) Via.refl rfl Bv_c_12 E_r0_c_12 (Or.inl (own_w hw 62 rfl)) (own_w hw 48 rfl) (ty := (.array .byte)) (by decide) rfl rfl (g := (mkF m 33 #[.val (.ref r0), .val (.ref xb_7)] [(.ref xb_7), (.ref r0)])) rfl rfl (hb hby d_m20_33)
  have Kp15 : Keep h0 h15 [r0] := Kp12.wr W15 (Or.inl (by simp))
  have E_r0_c_15 := E_r0_c_12.wr W15
  have Bv_c_15 := Bv_c_12.same W15
  have Bc_c_15 := Bc_c_12.other W15 (Or.inr (slot_ne (Or.inl (own_w hw 64 rfl)) (Or.inl (own_w hw 62 rfl)) (by decide) (t := .byte) (t' := (.array .byte)) (by decide) (by decide)))
  have Bn_c_15 := Bn_c_12.other W15 (Or.inr (slot_ne (Or.inl (own_w hw 89 rfl)) (Or.inl (own_w hw 62 rfl)) (by decide) (t := .int) (t' := (.array .byte)) (by decide) (by decide)))
  have Bm_c_15 := Bm_c_12.other W15 (Or.inr (slot_ne (Or.inl (own_w hw 259 rfl)) (Or.inl (own_w hw 62 rfl)) (by decide) (t := .boolean) (t' := (.array .byte)) (by decide) (by decide)))
  have Vc13_c_15 := Vc13.other W15 (Ne.symm ne_r0_xb_7)
  have N15 := Fr.snoc X15 N12 g_r0
  have k16 : Go p.tables e below _ (T15.setTop (mkF m 38 #[.val (.ref r0), .val (.ref xb_7)] [(.int (1 : Int32)), (.ref r0)])) := fun t ht => st15 t (by
    refine XS.aloadN X15.here hx rfl (hb hby d_m20_36) rfl rfl ?_
    refine XS.iconst X15.here hx rfl (hb hby d_m20_37) ?_
    exact ht)
  obtain ⟨T17, h17, X17, e17, W17, st17⟩ := putFN X15 hx hZ hown (own_w hw 63 rfl) Via.refl e15 Bc_c_15 E_r0_c_15 (Or.inl (own_w hw 64 rfl)) (own_w hw 48 rfl) (ty := .byte) (v' := (.int (1 : Int32))) (by decide) rfl (by decide) (g := (mkF m 38 #[.val (.ref r0), .val (.ref xb_7)] [(.int (1 : Int32)), (.ref r0)])) rfl rfl (hb hby d_m20_38)
  have Kp17 : Keep h0 h17 [r0] := Kp15.wr W17 (Or.inl (by simp))
  have E_r0_c_17 := E_r0_c_15.wr W17
  have Bv_c_17 := Bv_c_15.other W17 (Or.inr (slot_ne (Or.inl (own_w hw 62 rfl)) (Or.inl (own_w hw 64 rfl)) (by decide) (t := (.array .byte)) (t' := .byte) (by decide) (by decide)))
  have Bc_c_17 := Bc_c_15.same W17
  have Bn_c_17 := Bn_c_15.other W17 (Or.inr (slot_ne (Or.inl (own_w hw 89 rfl)) (Or.inl (own_w hw 64 rfl)) (by decide) (t := .int) (t' := .byte) (by decide) (by decide)))
  have Bm_c_17 := Bm_c_15.other W17 (Or.inr (slot_ne (Or.inl (own_w hw 259 rfl)) (Or.inl (own_w hw 64 rfl)) (by decide) (t := .boolean) (t' := .byte) (by decide) (by decide)))
  have Vc13_c_17 := Vc13_c_15.other W17 (Ne.symm ne_r0_xb_7)
  have N17 := Fr.snoc X17 N15 g_r0
  have k17 : Go p.tables e below _ (T17.setTop (mkF m 41 #[.val (.ref r0), .val (.ref xb_7)] [])) := st17
  obtain ⟨fs, hr, hrun, hended, hW, hsame⟩ := X17.leave (v := none) (fun _ => rfl)
  refine ⟨_, _, castTop (ef_infB m r0) ((goT k1 (goT k3 (goT k6 (goT k8 (goT k10 (goT k11 (goT k14 (goT k16 k17)))))))) _ (X17.returnOut hx Bd.returns (hb hby d_m20_41) hr)), hrun, hended, _, _, rfl, ?_, ⟨_, rfl⟩, hW, hsame.mono (by decide) (by decide)⟩
  show Q_infB Z r0 tv kv ds M G1 fm h0 n0 _ T17.heap _
  rw [e17]
  exact ⟨xb_7, xk_7, rfl, N17, Kp17, sz_xb_7, E_r0_c_17, Bv_c_17, Bc_c_17, Bn_c_17, Bm_c_17, Vc13_c_17⟩
theorem d_m20_7 : decode jdk_68_method_11_code 7 = .ok (.return_, 1) := by decide +kernel
theorem ef_infN (m : MethodId) (x0 : Addr) : entryFrame m #[(.ref x0)] 2 = mkF m 0 #[.val (.ref x0), .unset] [] := by first | (simp [entryFrame, mkF, argsToLocals, Value.category]; done) | rfl
def Q_infN (Z : State) (r0 : Addr) (G1 : Int32) (h0 : Heap) (n0 : Nat) (v : Option Value) (h : Heap) (L : List Loc) : Prop := v = none ∧ Fr n0 L ∧ h = h0
set_option maxRecDepth 65536 in
set_option maxHeartbeats 40000000 in
theorem rm_infN (l : Launch) (Z : State) (a0 : Array Value) (hw : HW a0 Z) (ws : List Jvm.Cond) (r0 : Addr) (G1 : Int32) (h0 : Heap) (n0 : Nat) (Z0 : n0 ≤ h0.size) (Bc : f2 Z h0 r0 (.int (1 : Int32))) (E_r0 : Exa Z h0 r0 "java/lang/StringBuilder") (S_CS : f12 Z h0 (.int G1)) (P5 : ¬ (G1 = (0 : Int32))) :
    own_M l Z h0 (⟨"java/lang/AbstractStringBuilder", "inflate", "()V"⟩ : MethodName) jdk_68_method_11_code 2 none ws (rR 1 0 0 12) #[(.ref r0)] (Q_infN Z r0 G1 h0 n0) := by
  refine own_body (own := "java/lang/AbstractStringBuilder") (plainFor_of_name pn_4) rfl ?_
  intro p e s m below meth c s₁ Bd hZ hh hx hby hml hown X0 e0
  have N0 := Fr.nil n0
  have k1 : Go p.tables e below (s₁.setTop (mkF m 0 #[.val (.ref r0), .unset] [])) (s₁.setTop (mkF m 1 #[.val (.ref r0), .unset] [(.ref r0)])) := by
    intro t ht
    refine XS.aloadN X0.here hx rfl (hb hby d_m20_0) rfl rfl ?_
    exact ht
  obtain ⟨cq2, kq2, q2a, q2b, q2c⟩ := isOf hZ e0 E_r0
  have rq2 := X0.virtualBack hx (y := (⟨"java/lang/AbstractStringBuilder", "isLatin1", "()Z"⟩ : MethodName)) (z := (⟨"java/lang/AbstractStringBuilder", "isLatin1", "()Z"⟩ : MethodName)) hown (mvT hZ (own_w hw 235 rfl)) (mvT hZ (own_w hw 142 rfl)) (notFace_of_selects (args := #[]) (mvT hZ (own_w hw 144 rfl))) (mvT hZ (own_w hw 144 rfl)) (mvT hZ (own_w hw 143 rfl)) (by decide) (backOf (W := 0) (rm_isL1 l Z a0 hw [] r0 G1 h0 n0 Z0 Bc S_CS P5) hZ (own_w hw 145 rfl) (own_w hw 57 rfl) (by decide) (by decide)) q2a q2c (g := (mkF m 1 #[.val (.ref r0), .unset] [(.ref r0)])) rfl (by rw [hml]; rfl) (Steps.refl _) (argsL := []) (rest := []) (lenOf pd_10 rfl) rfl (by show 2 * 0 + _ ≤ _; exact Nat.le_of_eq rfl) (hb hby d_m20_1) (fun _ _ => ⟨rfl, e0, (by decide : 0 + 0 ≤ _), (by decide : 0 + 0 ≤ _)⟩)
  obtain ⟨_, T2, L2, X2, ⟨rfl, N2q, eq2⟩, st2⟩ := own_r X0 rq2
  have N2 := Fr.app N0 N2q
  have k3 : Go p.tables e below _ (T2.setTop (mkF m 7 #[.val (.ref r0), .unset] [])) := fun t ht => st2 t (by
    refine XS.ifNo X2.here hx rfl (hb hby d_m20_4) rfl ((if0 _ _).trans (teq (by decide : (0 : Int32) = (0 : Int32))).2) ?_
    exact ht)
  obtain ⟨fs, hr, hrun, hended, hW, hsame⟩ := X2.leave (v := none) (fun _ => rfl)
  refine ⟨_, _, castTop (ef_infN m r0) ((goT k1 k3) _ (X2.returnOut hx Bd.returns (hb hby d_m20_7) hr)), hrun, hended, _, _, rfl, ?_, ⟨_, rfl⟩, hW, hsame.mono (by decide) (by decide)⟩
  show Q_infN Z r0 G1 h0 n0 _ T2.heap _
  rw [eq2]
  exact ⟨rfl, N2, rfl⟩
theorem d_m21_0 : decode jdk_68_method_71_code 0 = .ok (.getstatic 18, 3) := by decide +kernel
theorem d_m21_3 : decode jdk_68_method_71_code 3 = .ok (.ifCond .eq 18, 3) := by decide +kernel
theorem d_m21_6 : decode jdk_68_method_71_code 6 = .ok (.aload_n 0, 1) := by decide +kernel
theorem d_m21_7 : decode jdk_68_method_71_code 7 = .ok (.getfield 22, 3) := by decide +kernel
theorem d_m21_10 : decode jdk_68_method_71_code 10 = .ok (.aload_n 1, 1) := by decide +kernel
theorem d_m21_11 : decode jdk_68_method_71_code 11 = .ok (.invokevirtual 40, 3) := by decide +kernel
theorem d_m21_14 : decode jdk_68_method_71_code 14 = .ok (.if_icmp .eq 7, 3) := by decide +kernel
theorem d_m21_21 : decode jdk_68_method_71_code 21 = .ok (.return_, 1) := by decide +kernel
theorem ef_ifn00 (m : MethodId) (x0 : Addr) (x1 : Addr) : entryFrame m #[(.ref x0), (.ref x1)] 2 = mkF m 0 #[.val (.ref x0), .val (.ref x1)] [] := by first | (simp [entryFrame, mkF, argsToLocals, Value.category]; done) | rfl
def Q_ifn00 (Z : State) (r0 : Addr) (r1 : Addr) (G1 : Int32) (h0 : Heap) (n0 : Nat) (v : Option Value) (h : Heap) (L : List Loc) : Prop := v = none ∧ Fr n0 L ∧ h = h0
set_option maxRecDepth 65536 in
set_option maxHeartbeats 40000000 in
theorem rm_ifn00 (l : Launch) (Z : State) (a0 : Array Value) (hw : HW a0 Z) (ws : List Jvm.Cond) (r0 : Addr) (r1 : Addr) (G1 : Int32) (h0 : Heap) (n0 : Nat) (Z0 : n0 ≤ h0.size) (Bc : f2 Z h0 r0 (.int (0 : Int32))) (E_r0 : Exa Z h0 r0 "java/lang/StringBuilder") (E_r1 : Exa Z h0 r1 "java/lang/String") (Fc_r1 : f0 Z h0 r1 (.int (0 : Int32))) (S_CS : f12 Z h0 (.int G1)) (P5 : ¬ (G1 = (0 : Int32))) :
    own_M l Z h0 (⟨"java/lang/AbstractStringBuilder", "inflateIfNeededFor", "(Ljava/lang/String;)V"⟩ : MethodName) jdk_68_method_71_code 2 none ws (rR 1 0 0 13) #[(.ref r0), (.ref r1)] (Q_ifn00 Z r0 r1 G1 h0 n0) := by
  refine own_body (own := "java/lang/AbstractStringBuilder") (plainFor_of_name pn_4) rfl ?_
  intro p e s m below meth c s₁ Bd hZ hh hx hby hml hown X0 e0
  have N0 := Fr.nil n0
  obtain ⟨T1, X1, e1, st1⟩ := getS2 X0 hx hZ hown (host := "") (Or.inl (own_w hw 60 rfl)) Via.refl e0 S_CS (g := (mkF m 0 #[.val (.ref r0), .val (.ref r1)] [])) rfl (hb hby d_m21_0)
  have k2 : Go p.tables e below _ (T1.setTop (mkF m 7 #[.val (.ref r0), .val (.ref r1)] [(.ref r0)])) := fun t ht => st1 t (by
    refine XS.ifNo X1.here hx rfl (hb hby d_m21_3) rfl ((if0 _ _).trans (feq P5).1) ?_
    refine XS.aloadN X1.here hx rfl (hb hby d_m21_6) rfl rfl ?_
    exact ht)
  obtain ⟨T3, X3, e3, st3⟩ := getF X1 hx hZ hown (host := "") (Or.inl (own_w hw 63 rfl)) Via.refl e1 Bc (g := (mkF m 7 #[.val (.ref r0), .val (.ref r1)] [(.ref r0)])) rfl rfl (hb hby d_m21_7)
  have k4 : Go p.tables e below _ (T3.setTop (mkF m 11 #[.val (.ref r0), .val (.ref r1)] [(.ref r1), (.int (0 : Int32))])) := fun t ht => st3 t (by
    refine XS.aloadN X3.here hx rfl (hb hby d_m21_10) rfl rfl ?_
    exact ht)
  obtain ⟨cq5, kq5, q5a, q5b, q5c⟩ := isOf hZ e3 E_r1
  have rq5 := X3.virtualBack hx (y := (⟨"java/lang/String", "coder", "()B"⟩ : MethodName)) (z := (⟨"java/lang/String", "coder", "()B"⟩ : MethodName)) hown (mvT hZ (own_w hw 105 rfl)) (mvT hZ (own_w hw 84 rfl)) (notFace_of_selects (args := #[]) (mvT hZ (own_w hw 86 rfl))) (mvT hZ (own_w hw 86 rfl)) (mvT hZ (own_w hw 85 rfl)) (by decide) (backOf (W := 1) (rm_cod0 l Z a0 hw [] r1 G1 h0 n0 Z0 Fc_r1 S_CS P5) hZ (own_w hw 87 rfl) (own_w hw 2 rfl) (by decide) (by decide)) q5a q5c (g := (mkF m 11 #[.val (.ref r0), .val (.ref r1)] [(.ref r1), (.int (0 : Int32))])) rfl (by rw [hml]; rfl) (Steps.refl _) (argsL := []) (rest := [(.int (0 : Int32))]) (lenOf pd_7 rfl) rfl (by show 2 * 0 + _ ≤ _; exact Nat.le_of_eq rfl) (hb hby d_m21_11) (fun _ _ => ⟨rfl, e3, (by decide : 0 + 0 ≤ _), (by decide : 0 + 0 ≤ _)⟩)
  obtain ⟨_, T5, L5, X5, ⟨rfl, N5q, eq5⟩, st5⟩ := own_r X3 rq5
  have N5 := Fr.app N0 N5q
  have k6 : Go p.tables e below _ (T5.setTop (mkF m 21 #[.val (.ref r0), .val (.ref r1)] [])) := fun t ht => st5 t (by
    refine XS.icmpYes X5.here hx rfl (pc0 := 14) (pc' := 21) rfl (hb hby d_m21_14) rfl (teq (by decide : (0 : Int32) = (0 : Int32))).1 (by decide) (by decide) ?_
    exact ht)
  obtain ⟨fs, hr, hrun, hended, hW, hsame⟩ := X5.leave (v := none) (fun _ => rfl)
  refine ⟨_, _, castTop (ef_ifn00 m r0 r1) ((goT k2 (goT k4 k6)) _ (X5.returnOut hx Bd.returns (hb hby d_m21_21) hr)), hrun, hended, _, _, rfl, ?_, ⟨_, rfl⟩, hW, hsame.mono (by decide) (by decide)⟩
  show Q_ifn00 Z r0 r1 G1 h0 n0 _ T5.heap _
  rw [eq5]
  exact ⟨rfl, N5, rfl⟩
theorem pd_12 : parseMethodDescriptor "()V" = some ⟨[], none⟩ := by decide +kernel
theorem d_m21_17 : decode jdk_68_method_71_code 17 = .ok (.aload_n 0, 1) := by decide +kernel
theorem d_m21_18 : decode jdk_68_method_71_code 18 = .ok (.invokevirtual 195, 3) := by decide +kernel
theorem ef_ifn10 (m : MethodId) (x0 : Addr) (x1 : Addr) : entryFrame m #[(.ref x0), (.ref x1)] 2 = mkF m 0 #[.val (.ref x0), .val (.ref x1)] [] := by first | (simp [entryFrame, mkF, argsToLocals, Value.category]; done) | rfl
def Q_ifn10 (Z : State) (r0 : Addr) (r1 : Addr) (G1 : Int32) (h0 : Heap) (n0 : Nat) (v : Option Value) (h : Heap) (L : List Loc) : Prop := v = none ∧ Fr n0 L ∧ h = h0
set_option maxRecDepth 65536 in
set_option maxHeartbeats 40000000 in
theorem rm_ifn10 (l : Launch) (Z : State) (a0 : Array Value) (hw : HW a0 Z) (ws : List Jvm.Cond) (r0 : Addr) (r1 : Addr) (G1 : Int32) (h0 : Heap) (n0 : Nat) (Z0 : n0 ≤ h0.size) (Bc : f2 Z h0 r0 (.int (1 : Int32))) (E_r0 : Exa Z h0 r0 "java/lang/StringBuilder") (E_r1 : Exa Z h0 r1 "java/lang/String") (Fc_r1 : f0 Z h0 r1 (.int (0 : Int32))) (S_CS : f12 Z h0 (.int G1)) (P5 : ¬ (G1 = (0 : Int32))) :
    own_M l Z h0 (⟨"java/lang/AbstractStringBuilder", "inflateIfNeededFor", "(Ljava/lang/String;)V"⟩ : MethodName) jdk_68_method_71_code 2 none ws (rR 2 0 0 25) #[(.ref r0), (.ref r1)] (Q_ifn10 Z r0 r1 G1 h0 n0) := by
  refine own_body (own := "java/lang/AbstractStringBuilder") (plainFor_of_name pn_4) rfl ?_
  intro p e s m below meth c s₁ Bd hZ hh hx hby hml hown X0 e0
  have N0 := Fr.nil n0
  obtain ⟨T1, X1, e1, st1⟩ := getS2 X0 hx hZ hown (host := "") (Or.inl (own_w hw 60 rfl)) Via.refl e0 S_CS (g := (mkF m 0 #[.val (.ref r0), .val (.ref r1)] [])) rfl (hb hby d_m21_0)
  have k2 : Go p.tables e below _ (T1.setTop (mkF m 7 #[.val (.ref r0), .val (.ref r1)] [(.ref r0)])) := fun t ht => st1 t (by
    refine XS.ifNo X1.here hx rfl (hb hby d_m21_3) rfl ((if0 _ _).trans (feq P5).1) ?_
    refine XS.aloadN X1.here hx rfl (hb hby d_m21_6) rfl rfl ?_
    exact ht)
  obtain ⟨T3, X3, e3, st3⟩ := getF X1 hx hZ hown (host := "") (Or.inl (own_w hw 63 rfl)) Via.refl e1 Bc (g := (mkF m 7 #[.val (.ref r0), .val (.ref r1)] [(.ref r0)])) rfl rfl (hb hby d_m21_7)
  have k4 : Go p.tables e below _ (T3.setTop (mkF m 11 #[.val (.ref r0), .val (.ref r1)] [(.ref r1), (.int (1 : Int32))])) := fun t ht => st3 t (by
    refine XS.aloadN X3.here hx rfl (hb hby d_m21_10) rfl rfl ?_
    exact ht)
  obtain ⟨cq5, kq5, q5a, q5b, q5c⟩ := isOf hZ e3 E_r1
  have rq5 := X3.virtualBack hx (y := (⟨"java/lang/String", "coder", "()B"⟩ : MethodName)) (z := (⟨"java/lang/String", "coder", "()B"⟩ : MethodName)) hown (mvT hZ (own_w hw 105 rfl)) (mvT hZ (own_w hw 84 rfl)) (notFace_of_selects (args := #[]) (mvT hZ (own_w hw 86 rfl))) (mvT hZ (own_w hw 86 rfl)) (mvT hZ (own_w hw 85 rfl)) (by decide) (backOf (W := 1) (rm_cod0 l Z a0 hw [] r1 G1 h0 n0 Z0 Fc_r1 S_CS P5) hZ (own_w hw 87 rfl) (own_w hw 2 rfl) (by decide) (by decide)) q5a q5c (g := (mkF m 11 #[.val (.ref r0), .val (.ref r1)] [(.ref r1), (.int (1 : Int32))])) rfl (by rw [hml]; rfl) (Steps.refl _) (argsL := []) (rest := [(.int (1 : Int32))]) (lenOf pd_7 rfl) rfl (by show 2 * 0 + _ ≤ _; exact Nat.le_of_eq rfl) (hb hby d_m21_11) (fun _ _ => ⟨rfl, e3, (by decide : 0 + 0 ≤ _), (by decide : 0 + 0 ≤ _)⟩)
  obtain ⟨_, T5, L5, X5, ⟨rfl, N5q, eq5⟩, st5⟩ := own_r X3 rq5
  have N5 := Fr.app N0 N5q
  have k6 : Go p.tables e below _ (T5.setTop (mkF m 18 #[.val (.ref r0), .val (.ref r1)] [(.ref r0)])) := fun t ht => st5 t (by
    refine XS.icmpNo X5.here hx rfl (hb hby d_m21_14) rfl (feq (by decide : ¬ ((1 : Int32) = (0 : Int32)))).1 ?_
    refine XS.aloadN X5.here hx rfl (hb hby d_m21_17) rfl rfl ?_
    exact ht)
  obtain ⟨cq7, q7, q7'⟩ := E_r0.cell
  have rq7 := X5.privateBack hx (y := (⟨"java/lang/AbstractStringBuilder", "inflate", "()V"⟩ : MethodName)) hown (mvT hZ (own_w hw 230 rfl)) (mvT hZ (own_w hw 231 rfl)) (own_selp2 (mvT hZ (own_w hw 233 rfl) (args := #[])) (mvT hZ (own_w hw 231 rfl)) (Cond.privateMethod_at (mvP hZ (own_w hw 232 rfl) (args := #[]))) (by decide)) (Cond.privateMethod_at (mvP hZ (own_w hw 232 rfl) (args := #[]))) (mvT hZ (own_w hw 234 rfl)) (by decide) (backOf (W := 0) (rm_infN l Z a0 hw [] r0 G1 h0 n0 Z0 Bc E_r0 S_CS P5) hZ (own_w hw 234 rfl) (own_w hw 57 rfl) (by decide) (by decide)) (g := (mkF m 18 #[.val (.ref r0), .val (.ref r1)] [(.ref r0)])) rfl (by rw [hml]; rfl) (Steps.refl _) (a := r0) (by rw [eq5]; exact q7) q7' (argsL := []) (rest := []) (lenOf pd_12 rfl) rfl (by show 2 * 0 + _ ≤ _; exact Nat.le_of_eq rfl) (hb hby d_m21_18) (fun _ _ => ⟨rfl, eq5, (by decide : 0 + 0 ≤ _), (by decide : 0 + 0 ≤ _)⟩)
  obtain ⟨_, T7, L7, X7, ⟨rfl, N7q, eq7⟩, st7⟩ := own_r X5 rq7
  have N7 := Fr.app N5 N7q
  have k7 : Go p.tables e below _ (T7.setTop (mkF m 21 #[.val (.ref r0), .val (.ref r1)] [])) := st7
  obtain ⟨fs, hr, hrun, hended, hW, hsame⟩ := X7.leave (v := none) (fun _ => rfl)
  refine ⟨_, _, castTop (ef_ifn10 m r0 r1) ((goT k2 (goT k4 (goT k6 k7))) _ (X7.returnOut hx Bd.returns (hb hby d_m21_21) hr)), hrun, hended, _, _, rfl, ?_, ⟨_, rfl⟩, hW, hsame.mono (by decide) (by decide)⟩
  show Q_ifn10 Z r0 r1 G1 h0 n0 _ T7.heap _
  rw [eq7]
  exact ⟨rfl, N7, rfl⟩
theorem ef_ifn01 (m : MethodId) (x0 : Addr) (x1 : Addr) : entryFrame m #[(.ref x0), (.ref x1)] 2 = mkF m 0 #[.val (.ref x0), .val (.ref x1)] [] := by first | (simp [entryFrame, mkF, argsToLocals, Value.category]; done) | rfl
def Q_ifn01 (Z : State) (r0 : Addr) (r1 : Addr) (tv : Addr) (kv : ClassId) (ds : List Int32) (M : Nat) (G1 : Int32) (fm : Value) (h0 : Heap) (n0 : Nat) (v : Option Value) (h : Heap) (L : List Loc) : Prop := ∃ (xb : Addr) (xk : ClassId), v = none ∧ Fr n0 L ∧ Keep h0 h [r0] ∧ h0.size ≤ xb ∧ Exa Z h r0 "java/lang/StringBuilder" ∧ f3 Z h r0 (.ref xb) ∧ f2 Z h r0 (.int (1 : Int32)) ∧ f4 Z h r0 (.int (Int32.ofNat ds.length)) ∧ f5 Z h r0 (.int (0 : Int32)) ∧ own_A Z h xb xk .byte (Int32.ofNat (2 * M)) (own_U M ds)
set_option maxRecDepth 65536 in
set_option maxHeartbeats 40000000 in
theorem rm_ifn01 (l : Launch) (Z : State) (a0 : Array Value) (hw : HW a0 Z) (ws : List Jvm.Cond) (r0 : Addr) (r1 : Addr) (tv : Addr) (kv : ClassId) (ds : List Int32) (M : Nat) (G1 : Int32) (fm : Value) (h0 : Heap) (n0 : Nat) (Z0 : n0 ≤ h0.size) (E_r0 : Exa Z h0 r0 "java/lang/StringBuilder") (Bv : f3 Z h0 r0 (.ref tv)) (Bc : f2 Z h0 r0 (.int (0 : Int32))) (Bn : f4 Z h0 r0 (.int (Int32.ofNat ds.length))) (Bm : f5 Z h0 r0 (.int (0 : Int32))) (E_r1 : Exa Z h0 r1 "java/lang/String") (Fc_r1 : f0 Z h0 r1 (.int (1 : Int32))) (S_CS : f12 Z h0 (.int G1)) (S_AD : f8 Z h0 (.int (1 : Int32))) (S_HI : f9 Z h0 (.int (0 : Int32))) (S_LO : f10 Z h0 (.int (8 : Int32))) (S_SI : f11 Z h0 fm) (V_v : own_A Z h0 tv kv .byte (Int32.ofNat M) (own_B M ds)) (P5 : ¬ (G1 = (0 : Int32))) (g_r0 : n0 ≤ r0) (hM : ds.length ≤ M ∧ M ≤ 24) (hvr : tv ≠ r0) (hch : ∀ c ∈ ds, ¬ c < 0 ∧ ¬ (255 : Int32) < c) (rf : fm.isRef = true) (hn1 : r1 ≠ r0) :
    own_M l Z h0 (⟨"java/lang/AbstractStringBuilder", "inflateIfNeededFor", "(Ljava/lang/String;)V"⟩ : MethodName) jdk_68_method_71_code 2 none ws (rR 7 1 48 106) #[(.ref r0), (.ref r1)] (Q_ifn01 Z r0 r1 tv kv ds M G1 fm h0 n0) := by
  refine own_body (own := "java/lang/AbstractStringBuilder") (plainFor_of_name pn_4) rfl ?_
  intro p e s m below meth c s₁ Bd hZ hh hx hby hml hown X0 e0
  have N0 := Fr.nil n0
  obtain ⟨T1, X1, e1, st1⟩ := getS2 X0 hx hZ hown (host := "") (Or.inl (own_w hw 60 rfl)) Via.refl e0 S_CS (g := (mkF m 0 #[.val (.ref r0), .val (.ref r1)] [])) rfl (hb hby d_m21_0)
  have k2 : Go p.tables e below _ (T1.setTop (mkF m 7 #[.val (.ref r0), .val (.ref r1)] [(.ref r0)])) := fun t ht => st1 t (by
    refine XS.ifNo X1.here hx rfl (hb hby d_m21_3) rfl ((if0 _ _).trans (feq P5).1) ?_
    refine XS.aloadN X1.here hx rfl (hb hby d_m21_6) rfl rfl ?_
    exact ht)
  obtain ⟨T3, X3, e3, st3⟩ := getF X1 hx hZ hown (host := "") (Or.inl (own_w hw 63 rfl)) Via.refl e1 Bc (g := (mkF m 7 #[.val (.ref r0), .val (.ref r1)] [(.ref r0)])) rfl rfl (hb hby d_m21_7)
  have k4 : Go p.tables e below _ (T3.setTop (mkF m 11 #[.val (.ref r0), .val (.ref r1)] [(.ref r1), (.int (0 : Int32))])) := fun t ht => st3 t (by
    refine XS.aloadN X3.here hx rfl (hb hby d_m21_10) rfl rfl ?_
    exact ht)
  obtain ⟨cq5, kq5, q5a, q5b, q5c⟩ := isOf hZ e3 E_r1
  have rq5 := X3.virtualBack hx (y := (⟨"java/lang/String", "coder", "()B"⟩ : MethodName)) (z := (⟨"java/lang/String", "coder", "()B"⟩ : MethodName)) hown (mvT hZ (own_w hw 105 rfl)) (mvT hZ (own_w hw 84 rfl)) (notFace_of_selects (args := #[]) (mvT hZ (own_w hw 86 rfl))) (mvT hZ (own_w hw 86 rfl)) (mvT hZ (own_w hw 85 rfl)) (by decide) (backOf (W := 1) (rm_cod1 l Z a0 hw [] r1 G1 h0 n0 Z0 Fc_r1 S_CS P5) hZ (own_w hw 87 rfl) (own_w hw 2 rfl) (by decide) (by decide)) q5a q5c (g := (mkF m 11 #[.val (.ref r0), .val (.ref r1)] [(.ref r1), (.int (0 : Int32))])) rfl (by rw [hml]; rfl) (Steps.refl _) (argsL := []) (rest := [(.int (0 : Int32))]) (lenOf pd_7 rfl) rfl (by show 2 * 0 + _ ≤ _; exact Nat.le_of_eq rfl) (hb hby d_m21_11) (fun _ _ => ⟨rfl, e3, (by decide : 0 + 0 ≤ _), (by decide : 0 + 0 ≤ _)⟩)
  obtain ⟨_, T5, L5, X5, ⟨rfl, N5q, eq5⟩, st5⟩ := own_r X3 rq5
  have N5 := Fr.app N0 N5q
  have k6 : Go p.tables e below _ (T5.setTop (mkF m 18 #[.val (.ref r0), .val (.ref r1)] [(.ref r0)])) := fun t ht => st5 t (by
    refine XS.icmpNo X5.here hx rfl (hb hby d_m21_14) rfl (feq (by decide : ¬ ((0 : Int32) = (1 : Int32)))).1 ?_
    refine XS.aloadN X5.here hx rfl (hb hby d_m21_17) rfl rfl ?_
    exact ht)
  obtain ⟨cq7, q7, q7'⟩ := E_r0.cell
  have rq7 := X5.privateBack hx (y := (⟨"java/lang/AbstractStringBuilder", "inflate", "()V"⟩ : MethodName)) hown (mvT hZ (own_w hw 230 rfl)) (mvT hZ (own_w hw 231 rfl)) (own_selp2 (mvT hZ (own_w hw 233 rfl) (args := #[])) (mvT hZ (own_w hw 231 rfl)) (Cond.privateMethod_at (mvP hZ (own_w hw 232 rfl) (args := #[]))) (by decide)) (Cond.privateMethod_at (mvP hZ (own_w hw 232 rfl) (args := #[]))) (mvT hZ (own_w hw 234 rfl)) (by decide) (backOf (W := 0) (rm_infB l Z a0 hw [] r0 tv kv ds M G1 fm h0 n0 Z0 E_r0 Bv Bc Bn Bm S_CS S_AD S_HI S_LO S_SI V_v P5 g_r0 hM hvr hch rf) hZ (own_w hw 234 rfl) (own_w hw 57 rfl) (by decide) (by decide)) (g := (mkF m 18 #[.val (.ref r0), .val (.ref r1)] [(.ref r0)])) rfl (by rw [hml]; rfl) (Steps.refl _) (a := r0) (by rw [eq5]; exact q7) q7' (argsL := []) (rest := []) (lenOf pd_12 rfl) rfl (by show 2 * 0 + _ ≤ _; exact Nat.le_of_eq rfl) (hb hby d_m21_18) (fun _ _ => ⟨rfl, eq5, (by decide : 0 + 1 ≤ _), (by decide : 0 + 48 ≤ _)⟩)
  obtain ⟨_, T7, L7, X7, ⟨xb_7, xk_7, rfl, N7q, K7, Pq7_0, Fq7_0, Fq7_1, Fq7_2, Fq7_3, Fq7_4, Fq7_5⟩, st7⟩ := own_r X5 rq7
  have N7 := Fr.app N5 N7q
  have Kp7 : Keep h0 T7.heap [r0] := (Keep.refl h0 [r0]).trans K7 (allS (Or.inl (by simp)) all0)
  have sz_xb_7 : h0.size ≤ xb_7 := Nat.le_trans (Keep.refl h0 [r0]).1 Pq7_0
  have k7 : Go p.tables e below _ (T7.setTop (mkF m 21 #[.val (.ref r0), .val (.ref r1)] [])) := st7
  obtain ⟨fs, hr, hrun, hended, hW, hsame⟩ := X7.leave (v := none) (fun _ => rfl)
  refine ⟨_, _, castTop (ef_ifn01 m r0 r1) ((goT k2 (goT k4 (goT k6 k7))) _ (X7.returnOut hx Bd.returns (hb hby d_m21_21) hr)), hrun, hended, _, _, rfl, ?_, ⟨_, rfl⟩, hW, hsame.mono (by decide) (by decide)⟩
  show Q_ifn01 Z r0 r1 tv kv ds M G1 fm h0 n0 _ T7.heap _
  exact ⟨xb_7, xk_7, rfl, N7, Kp7, sz_xb_7, Fq7_0, Fq7_1, Fq7_2, Fq7_3, Fq7_4, Fq7_5⟩
theorem pd_13 : parseMethodDescriptor "(Ljava/lang/String;)V" = some ⟨[(.object "java/lang/String")], none⟩ := by decide +kernel
theorem pd_14 : parseMethodDescriptor "([BIB)V" = some ⟨[(.array .byte), .int, .byte], none⟩ := by decide +kernel
theorem d_m22_0 : decode jdk_68_method_73_code 0 = .ok (.aload_n 0, 1) := by decide +kernel
theorem d_m22_1 : decode jdk_68_method_73_code 1 = .ok (.aload_n 2, 1) := by decide +kernel
theorem d_m22_2 : decode jdk_68_method_73_code 2 = .ok (.invokevirtual 397, 3) := by decide +kernel
theorem d_m22_5 : decode jdk_68_method_73_code 5 = .ok (.aload_n 2, 1) := by decide +kernel
theorem d_m22_6 : decode jdk_68_method_73_code 6 = .ok (.aload_n 0, 1) := by decide +kernel
theorem d_m22_7 : decode jdk_68_method_73_code 7 = .ok (.getfield 15, 3) := by decide +kernel
theorem d_m22_10 : decode jdk_68_method_73_code 10 = .ok (.iload_n 1, 1) := by decide +kernel
theorem d_m22_11 : decode jdk_68_method_73_code 11 = .ok (.aload_n 0, 1) := by decide +kernel
theorem d_m22_12 : decode jdk_68_method_73_code 12 = .ok (.getfield 22, 3) := by decide +kernel
theorem d_m22_15 : decode jdk_68_method_73_code 15 = .ok (.invokevirtual 399, 3) := by decide +kernel
theorem d_m22_18 : decode jdk_68_method_73_code 18 = .ok (.return_, 1) := by decide +kernel
theorem ef_put00 (m : MethodId) (x0 : Addr) (x1 : Int32) (x2 : Addr) : entryFrame m #[(.ref x0), (.int x1), (.ref x2)] 3 = mkF m 0 #[.val (.ref x0), .val (.int x1), .val (.ref x2)] [] := by first | (simp [entryFrame, mkF, argsToLocals, Value.category]; done) | rfl
def Q_put00 (Z : State) (r0 : Addr) (nd : Nat) (r2 : Addr) (tv : Addr) (kv : ClassId) (ds : List Int32) (M : Nat) (t2 : Addr) (kz2 : ClassId) (cs : List Int32) (G1 : Int32) (h0 : Heap) (n0 : Nat) (v : Option Value) (h : Heap) (L : List Loc) : Prop := v = none ∧ Fr n0 L ∧ Keep h0 h [tv] ∧ Exa Z h r0 "java/lang/StringBuilder" ∧ f3 Z h r0 (.ref tv) ∧ f2 Z h r0 (.int (0 : Int32)) ∧ f4 Z h r0 (.int (Int32.ofNat ds.length)) ∧ f5 Z h r0 (.int (0 : Int32)) ∧ own_A Z h tv kv .byte (Int32.ofNat M) (own_B M (ds ++ cs))
set_option maxRecDepth 65536 in
set_option maxHeartbeats 40000000 in
theorem rm_put00 (l : Launch) (Z : State) (a0 : Array Value) (hw : HW a0 Z) (ws : List Jvm.Cond) (r0 : Addr) (nd : Nat) (r2 : Addr) (tv : Addr) (kv : ClassId) (ds : List Int32) (M : Nat) (t2 : Addr) (kz2 : ClassId) (cs : List Int32) (G1 : Int32) (h0 : Heap) (n0 : Nat) (Z0 : n0 ≤ h0.size) (E_r0 : Exa Z h0 r0 "java/lang/StringBuilder") (Bv : f3 Z h0 r0 (.ref tv)) (Bc : f2 Z h0 r0 (.int (0 : Int32))) (Bn : f4 Z h0 r0 (.int (Int32.ofNat ds.length))) (Bm : f5 Z h0 r0 (.int (0 : Int32))) (E_r2 : Exa Z h0 r2 "java/lang/String") (Fv_r2 : f1 Z h0 r2 (.ref t2)) (Fc_r2 : f0 Z h0 r2 (.int (0 : Int32))) (S_CS : f12 Z h0 (.int G1)) (V_v : own_A Z h0 tv kv .byte (Int32.ofNat M) (own_B M ds)) (V_t2 : own_A Z h0 t2 kz2 .byte (Int32.ofNat cs.length) (own_b cs)) (P5 : ¬ (G1 = (0 : Int32))) (g_tv : n0 ≤ tv) (hM : ds.length + cs.length ≤ M ∧ M ≤ 64) (nvr : tv ≠ r0) (nsr : r2 ≠ r0) (ntr : t2 ≠ r0) (ntv : t2 ≠ tv) (nsv : r2 ≠ tv) (hnd : nd = ds.length) :
    own_M l Z h0 (⟨"java/lang/AbstractStringBuilder", "putStringAt", "(ILjava/lang/String;)V"⟩ : MethodName) jdk_68_method_73_code 3 none ws (rR 2 0 0 33) #[(.ref r0), (.int (Int32.ofNat nd)), (.ref r2)] (Q_put00 Z r0 nd r2 tv kv ds M t2 kz2 cs G1 h0 n0) := by
  refine own_body (own := "java/lang/AbstractStringBuilder") (plainFor_of_name pn_4) rfl ?_
  intro p e s m below meth c s₁ Bd hZ hh hx hby hml hown X0 e0
  have N0 := Fr.nil n0
  have k1 : Go p.tables e below (s₁.setTop (mkF m 0 #[.val (.ref r0), .val (.int (Int32.ofNat nd)), .val (.ref r2)] [])) (s₁.setTop (mkF m 2 #[.val (.ref r0), .val (.int (Int32.ofNat nd)), .val (.ref r2)] [(.ref r2), (.ref r0)])) := by
    intro t ht
    refine XS.aloadN X0.here hx rfl (hb hby d_m22_0) rfl rfl ?_
    refine XS.aloadN X0.here hx rfl (hb hby d_m22_1) rfl rfl ?_
    exact ht
  obtain ⟨cq2, q2, q2'⟩ := E_r0.cell
  have rq2 := X0.privateBack hx (y := (⟨"java/lang/AbstractStringBuilder", "inflateIfNeededFor", "(Ljava/lang/String;)V"⟩ : MethodName)) hown (mvT hZ (own_w hw 100 rfl)) (mvT hZ (own_w hw 101 rfl)) (own_selp2 (mvT hZ (own_w hw 103 rfl) (args := #[])) (mvT hZ (own_w hw 101 rfl)) (Cond.privateMethod_at (mvP hZ (own_w hw 102 rfl) (args := #[]))) (by decide)) (Cond.privateMethod_at (mvP hZ (own_w hw 102 rfl) (args := #[]))) (mvT hZ (own_w hw 104 rfl)) (by decide) (backOf (W := 0) (rm_ifn00 l Z a0 hw [] r0 r2 G1 h0 n0 Z0 Bc E_r0 E_r2 Fc_r2 S_CS P5) hZ (own_w hw 104 rfl) (own_w hw 57 rfl) (by decide) (by decide)) (g := (mkF m 2 #[.val (.ref r0), .val (.int (Int32.ofNat nd)), .val (.ref r2)] [(.ref r2), (.ref r0)])) rfl (by rw [hml]; rfl) (Steps.refl _) (a := r0) (by rw [e0]; exact q2) q2' (argsL := [(.ref r2)]) (rest := []) (lenOf pd_13 rfl) rfl (by show 2 * 0 + _ ≤ _; exact Nat.le_of_eq rfl) (hb hby d_m22_2) (fun _ _ => ⟨rfl, e0, (by decide : 0 + 0 ≤ _), (by decide : 0 + 0 ≤ _)⟩)
  obtain ⟨_, T2, L2, X2, ⟨rfl, N2q, eq2⟩, st2⟩ := own_r X0 rq2
  have N2 := Fr.app N0 N2q
  have k3 : Go p.tables e below _ (T2.setTop (mkF m 7 #[.val (.ref r0), .val (.int (Int32.ofNat nd)), .val (.ref r2)] [(.ref r0), (.ref r2)])) := fun t ht => st2 t (by
    refine XS.aloadN X2.here hx rfl (hb hby d_m22_5) rfl rfl ?_
    refine XS.aloadN X2.here hx rfl (hb hby d_m22_6) rfl rfl ?_
    exact ht)
  obtain ⟨T4, X4, e4, st4⟩ := getF X2 hx hZ hown (host := "") (Or.inl (own_w hw 61 rfl)) Via.refl eq2 Bv (g := (mkF m 7 #[.val (.ref r0), .val (.int (Int32.ofNat nd)), .val (.ref r2)] [(.ref r0), (.ref r2)])) rfl rfl (hb hby d_m22_7)
  have k5 : Go p.tables e below _ (T4.setTop (mkF m 12 #[.val (.ref r0), .val (.int (Int32.ofNat nd)), .val (.ref r2)] [(.ref r0), (.int (Int32.ofNat nd)), (.ref tv), (.ref r2)])) := fun t ht => st4 t (by
    refine XS.iloadN X4.here hx rfl (hb hby d_m22_10) rfl ?_
    refine XS.aloadN X4.here hx rfl (hb hby d_m22_11) rfl rfl ?_
    exact ht)
  obtain ⟨T6, X6, e6, st6⟩ := getF X4 hx hZ hown (host := "") (Or.inl (own_w hw 63 rfl)) Via.refl e4 Bc (g := (mkF m 12 #[.val (.ref r0), .val (.int (Int32.ofNat nd)), .val (.ref r2)] [(.ref r0), (.int (Int32.ofNat nd)), (.ref tv), (.ref r2)])) rfl rfl (hb hby d_m22_12)
  have k6 : Go p.tables e below _ (T6.setTop (mkF m 15 #[.val (.ref r0), .val (.int (Int32.ofNat nd)), .val (.ref r2)] [(.int (0 : Int32)), (.int (Int32.ofNat nd)), (.ref tv), (.ref r2)])) := st6
  obtain ⟨cq7, kq7, q7a, q7b, q7c⟩ := isOf hZ e6 E_r2
  have rq7 := X6.virtualBack hx (y := (⟨"java/lang/String", "getBytes", "([BIB)V"⟩ : MethodName)) (z := (⟨"java/lang/String", "getBytes", "([BIB)V"⟩ : MethodName)) hown (mvT hZ (own_w hw 106 rfl)) (mvT hZ (own_w hw 107 rfl)) (notFace_of_selects (args := #[]) (mvT hZ (own_w hw 109 rfl))) (mvT hZ (own_w hw 109 rfl)) (mvT hZ (own_w hw 108 rfl)) (by decide) (backOf (W := 0) (rm_gb00 l Z a0 hw [] r2 tv nd t2 kz2 cs G1 kv M ds h0 n0 Z0 E_r2 Fv_r2 Fc_r2 S_CS V_t2 V_v P5 g_tv ntv nsv (by omega : ds.length + cs.length ≤ M ∧ M ≤ 64) hnd) hZ (own_w hw 110 rfl) (own_w hw 2 rfl) (by decide) (by decide)) q7a q7c (g := (mkF m 15 #[.val (.ref r0), .val (.int (Int32.ofNat nd)), .val (.ref r2)] [(.int (0 : Int32)), (.int (Int32.ofNat nd)), (.ref tv), (.ref r2)])) rfl (by rw [hml]; rfl) (Steps.refl _) (argsL := [(.ref tv), (.int (Int32.ofNat nd)), (.int (0 : Int32))]) (rest := []) (lenOf pd_14 rfl) rfl (by show 2 * 0 + _ ≤ _; exact Nat.le_of_eq rfl) (hb hby d_m22_15) (fun _ _ => ⟨rfl, e6, (by decide : 0 + 0 ≤ _), (by decide : 0 + 0 ≤ _)⟩)
  obtain ⟨_, T7, L7, X7, ⟨rfl, N7q, K7, Fq7_0⟩, st7⟩ := own_r X6 rq7
  have N7 := Fr.app N2 N7q
  have Kp7 : Keep h0 T7.heap [tv] := (Keep.refl h0 [tv]).trans K7 (allS (Or.inl (by simp)) all0)
  have E_r0_c_7 := E_r0.keep K7
  have Bv_c_7 := Bv.keep K7 (ninS (Ne.symm nvr) nin0)
  have Bc_c_7 := Bc.keep K7 (ninS (Ne.symm nvr) nin0)
  have Bn_c_7 := Bn.keep K7 (ninS (Ne.symm nvr) nin0)
  have Bm_c_7 := Bm.keep K7 (ninS (Ne.symm nvr) nin0)
  have k7 : Go p.tables e below _ (T7.setTop (mkF m 18 #[.val (.ref r0), .val (.int (Int32.ofNat nd)), .val (.ref r2)] [])) := st7
  obtain ⟨fs, hr, hrun, hended, hW, hsame⟩ := X7.leave (v := none) (fun _ => rfl)
  refine ⟨_, _, castTop (ef_put00 m r0 (Int32.ofNat nd) r2) ((goT k1 (goT k3 (goT k5 (goT k6 k7)))) _ (X7.returnOut hx Bd.returns (hb hby d_m22_18) hr)), hrun, hended, _, _, rfl, ?_, ⟨_, rfl⟩, hW, hsame.mono (by decide) (by decide)⟩
  show Q_put00 Z r0 nd r2 tv kv ds M t2 kz2 cs G1 h0 n0 _ T7.heap _
  exact ⟨rfl, N7, Kp7, E_r0_c_7, Bv_c_7, Bc_c_7, Bn_c_7, Bm_c_7, Fq7_0⟩
theorem ef_put01 (m : MethodId) (x0 : Addr) (x1 : Int32) (x2 : Addr) : entryFrame m #[(.ref x0), (.int x1), (.ref x2)] 3 = mkF m 0 #[.val (.ref x0), .val (.int x1), .val (.ref x2)] [] := by first | (simp [entryFrame, mkF, argsToLocals, Value.category]; done) | rfl
def Q_put01 (Z : State) (r0 : Addr) (nd : Nat) (r2 : Addr) (tv : Addr) (kv : ClassId) (ds : List Int32) (M : Nat) (t2 : Addr) (kz2 : ClassId) (cs : List Int32) (G1 : Int32) (fm : Value) (h0 : Heap) (n0 : Nat) (v : Option Value) (h : Heap) (L : List Loc) : Prop := ∃ (xb : Addr) (xk : ClassId), v = none ∧ Fr n0 L ∧ Keep h0 h [r0] ∧ h0.size ≤ xb ∧ Exa Z h r0 "java/lang/StringBuilder" ∧ f3 Z h r0 (.ref xb) ∧ f2 Z h r0 (.int (1 : Int32)) ∧ f4 Z h r0 (.int (Int32.ofNat ds.length)) ∧ f5 Z h r0 (.int (0 : Int32)) ∧ own_A Z h xb xk .byte (Int32.ofNat (2 * M)) (own_U M (ds ++ cs))
set_option maxRecDepth 65536 in
set_option maxHeartbeats 40000000 in
theorem rm_put01 (l : Launch) (Z : State) (a0 : Array Value) (hw : HW a0 Z) (ws : List Jvm.Cond) (r0 : Addr) (nd : Nat) (r2 : Addr) (tv : Addr) (kv : ClassId) (ds : List Int32) (M : Nat) (t2 : Addr) (kz2 : ClassId) (cs : List Int32) (G1 : Int32) (fm : Value) (h0 : Heap) (n0 : Nat) (Z0 : n0 ≤ h0.size) (E_r0 : Exa Z h0 r0 "java/lang/StringBuilder") (Bv : f3 Z h0 r0 (.ref tv)) (Bc : f2 Z h0 r0 (.int (0 : Int32))) (Bn : f4 Z h0 r0 (.int (Int32.ofNat ds.length))) (Bm : f5 Z h0 r0 (.int (0 : Int32))) (E_r2 : Exa Z h0 r2 "java/lang/String") (Fv_r2 : f1 Z h0 r2 (.ref t2)) (Fc_r2 : f0 Z h0 r2 (.int (1 : Int32))) (S_CS : f12 Z h0 (.int G1)) (S_AD : f8 Z h0 (.int (1 : Int32))) (S_HI : f9 Z h0 (.int (0 : Int32))) (S_LO : f10 Z h0 (.int (8 : Int32))) (S_SI : f11 Z h0 fm) (V_v : own_A Z h0 tv kv .byte (Int32.ofNat M) (own_B M ds)) (V_t2 : own_A Z h0 t2 kz2 .byte (Int32.ofNat (2 * cs.length)) (own_u cs)) (P5 : ¬ (G1 = (0 : Int32))) (g_r0 : n0 ≤ r0) (hM : ds.length + cs.length ≤ M ∧ M ≤ 24) (nvr : tv ≠ r0) (nsr : r2 ≠ r0) (ntr : t2 ≠ r0) (ntv : t2 ≠ tv) (nsv : r2 ≠ tv) (hch : ∀ c ∈ ds, ¬ c < 0 ∧ ¬ (255 : Int32) < c) (rf : fm.isRef = true) (hnd : nd = ds.length) :
    own_M l Z h0 (⟨"java/lang/AbstractStringBuilder", "putStringAt", "(ILjava/lang/String;)V"⟩ : MethodName) jdk_68_method_73_code 3 none ws (rR 8 1 48 119) #[(.ref r0), (.int (Int32.ofNat nd)), (.ref r2)] (Q_put01 Z r0 nd r2 tv kv ds M t2 kz2 cs G1 fm h0 n0) := by
  refine own_body (own := "java/lang/AbstractStringBuilder") (plainFor_of_name pn_4) rfl ?_
  intro p e s m below meth c s₁ Bd hZ hh hx hby hml hown X0 e0
  have N0 := Fr.nil n0
  have k1 : Go p.tables e below (s₁.setTop (mkF m 0 #[.val (.ref r0), .val (.int (Int32.ofNat nd)), .val (.ref r2)] [])) (s₁.setTop (mkF m 2 #[.val (.ref r0), .val (.int (Int32.ofNat nd)), .val (.ref r2)] [(.ref r2), (.ref r0)])) := by
    intro t ht
    refine XS.aloadN X0.here hx rfl (hb hby d_m22_0) rfl rfl ?_
    refine XS.aloadN X0.here hx rfl (hb hby d_m22_1) rfl rfl ?_
    exact ht
  obtain ⟨cq2, q2, q2'⟩ := E_r0.cell
  have rq2 := X0.privateBack hx (y := (⟨"java/lang/AbstractStringBuilder", "inflateIfNeededFor", "(Ljava/lang/String;)V"⟩ : MethodName)) hown (mvT hZ (own_w hw 100 rfl)) (mvT hZ (own_w hw 101 rfl)) (own_selp2 (mvT hZ (own_w hw 103 rfl) (args := #[])) (mvT hZ (own_w hw 101 rfl)) (Cond.privateMethod_at (mvP hZ (own_w hw 102 rfl) (args := #[]))) (by decide)) (Cond.privateMethod_at (mvP hZ (own_w hw 102 rfl) (args := #[]))) (mvT hZ (own_w hw 104 rfl)) (by decide) (backOf (W := 0) (rm_ifn01 l Z a0 hw [] r0 r2 tv kv ds M G1 fm h0 n0 Z0 E_r0 Bv Bc Bn Bm E_r2 Fc_r2 S_CS S_AD S_HI S_LO S_SI V_v P5 g_r0 (by omega : ds.length ≤ M ∧ M ≤ 24) nvr hch rf nsr) hZ (own_w hw 104 rfl) (own_w hw 57 rfl) (by decide) (by decide)) (g := (mkF m 2 #[.val (.ref r0), .val (.int (Int32.ofNat nd)), .val (.ref r2)] [(.ref r2), (.ref r0)])) rfl (by rw [hml]; rfl) (Steps.refl _) (a := r0) (by rw [e0]; exact q2) q2' (argsL := [(.ref r2)]) (rest := []) (lenOf pd_13 rfl) rfl (by show 2 * 0 + _ ≤ _; exact Nat.le_of_eq rfl) (hb hby d_m22_2) (fun _ _ => ⟨rfl, e0, (by decide : 0 + 1 ≤ _), (by decide : 0 + 48 ≤ _)⟩)
  obtain ⟨_, T2, L2, X2, ⟨xb_2, xk_2, rfl, N2q, K2, Pq2_0, Fq2_0, Fq2_1, Fq2_2, Fq2_3, Fq2_4, Fq2_5⟩, st2⟩ := own_r X0 rq2
  have N2 := Fr.app N0 N2q
  have Kp2 : Keep h0 T2.heap [r0] := (Keep.refl h0 [r0]).trans K2 (allS (Or.inl (by simp)) all0)
  have Z2 : n0 ≤ T2.heap.size := Nat.le_trans Z0 K2.1
  have ne_r0_xb_2 : r0 ≠ xb_2 := Nat.ne_of_lt (Nat.lt_of_lt_of_le E_r0.lt Pq2_0)
  have ne_r2_xb_2 : r2 ≠ xb_2 := Nat.ne_of_lt (Nat.lt_of_lt_of_le E_r2.lt Pq2_0)
  have ne_t2_xb_2 : t2 ≠ xb_2 := Nat.ne_of_lt (Nat.lt_of_lt_of_le V_t2.lt Pq2_0)
  have g_xb_2 : n0 ≤ xb_2 := Nat.le_trans Z0 Pq2_0
  have sz_xb_2 : h0.size ≤ xb_2 := Nat.le_trans (Keep.refl h0 [r0]).1 Pq2_0
  have E_r2_c_2 := E_r2.keep K2
  have Fv_r2_c_2 := Fv_r2.keep K2 (ninS nsr nin0)
  have Fc_r2_c_2 := Fc_r2.keep K2 (ninS nsr nin0)
  have S_CS_c_2 := own_sta_keep S_CS E_r0 K2
  have V_t2_c_2 := V_t2.keep K2 (ninS ntr nin0)
  have k3 : Go p.tables e below _ (T2.setTop (mkF m 7 #[.val (.ref r0), .val (.int (Int32.ofNat nd)), .val (.ref r2)] [(.ref r0), (.ref r2)])) := fun t ht => st2 t (by
    refine XS.aloadN X2.here hx rfl (hb hby d_m22_5) rfl rfl ?_
    refine XS.aloadN X2.here hx rfl (hb hby d_m22_6) rfl rfl ?_
    exact ht)
  obtain ⟨T4, X4, e4, st4⟩ := getF X2 hx hZ hown (host := "") (Or.inl (own_w hw 61 rfl)) Via.refl rfl Fq2_1 (g := (mkF m 7 #[.val (.ref r0), .val (.int (Int32.ofNat nd)), .val (.ref r2)] [(.ref r0), (.ref r2)])) rfl rfl (hb hby d_m22_7)
  have k5 : Go p.tables e below _ (T4.setTop (mkF m 12 #[.val (.ref r0), .val (.int (Int32.ofNat nd)), .val (.ref r2)] [(.ref r0), (.int (Int32.ofNat nd)), (.ref xb_2), (.ref r2)])) := fun t ht => st4 t (by
    refine XS.iloadN X4.here hx rfl (hb hby d_m22_10) rfl ?_
    refine XS.aloadN X4.here hx rfl (hb hby d_m22_11) rfl rfl ?_
    exact ht)
  obtain ⟨T6, X6, e6, st6⟩ := getF X4 hx hZ hown (host := "") (Or.inl (own_w hw 63 rfl)) Via.refl e4 Fq2_2 (g := (mkF m 12 #[.val (.ref r0), .val (.int (Int32.ofNat nd)), .val (.ref r2)] [(.ref r0), (.int (Int32.ofNat nd)), (.ref xb_2), (.ref r2)])) rfl rfl (hb hby d_m22_12)
  have k6 : Go p.tables e below _ (T6.setTop (mkF m 15 #[.val (.ref r0), .val (.int (Int32.ofNat nd)), .val (.ref r2)] [(.int (1 : Int32)), (.int (Int32.ofNat nd)), (.ref xb_2), (.ref r2)])) := st6
  obtain ⟨cq7, kq7, q7a, q7b, q7c⟩ := isOf hZ e6 E_r2_c_2
  have rq7 := X6.virtualBack hx (y := (⟨"java/lang/String", "getBytes", "([BIB)V"⟩ : MethodName)) (z := (⟨"java/lang/String", "getBytes", "([BIB)V"⟩ : MethodName)) hown (mvT hZ (own_w hw 106 rfl)) (mvT hZ (own_w hw 107 rfl)) (notFace_of_selects (args := #[]) (mvT hZ (own_w hw 109 rfl))) (mvT hZ (own_w hw 109 rfl)) (mvT hZ (own_w hw 108 rfl)) (by decide) (backOf (W := 0) (rm_gb11 l Z a0 hw [] r2 xb_2 nd t2 kz2 cs G1 xk_2 M ds T2.heap n0 Z2 E_r2_c_2 Fv_r2_c_2 Fc_r2_c_2 S_CS_c_2 V_t2_c_2 Fq2_5 P5 g_xb_2 ne_t2_xb_2 ne_r2_xb_2 (by omega : ds.length + cs.length ≤ M ∧ M ≤ 64) hnd) hZ (own_w hw 110 rfl) (own_w hw 2 rfl) (by decide) (by decide)) q7a q7c (g := (mkF m 15 #[.val (.ref r0), .val (.int (Int32.ofNat nd)), .val (.ref r2)] [(.int (1 : Int32)), (.int (Int32.ofNat nd)), (.ref xb_2), (.ref r2)])) rfl (by rw [hml]; rfl) (Steps.refl _) (argsL := [(.ref xb_2), (.int (Int32.ofNat nd)), (.int (1 : Int32))]) (rest := []) (lenOf pd_14 rfl) rfl (by show 2 * 0 + _ ≤ _; exact Nat.le_of_eq rfl) (hb hby d_m22_15) (fun _ _ => ⟨rfl, e6, (by decide : 1 + 0 ≤ _), (by decide : 48 + 0 ≤ _)⟩)
  obtain ⟨_, T7, L7, X7, ⟨rfl, N7q, K7, Fq7_0⟩, st7⟩ := own_r X6 rq7
  have N7 := Fr.app N2 N7q
  have Kp7 : Keep h0 T7.heap [r0] := Kp2.trans K7 (allS (Or.inr sz_xb_2) all0)
  have Fq2_0_c_7 := Fq2_0.keep K7
  have Fq2_1_c_7 := Fq2_1.keep K7 (ninS ne_r0_xb_2 nin0)
  have Fq2_2_c_7 := Fq2_2.keep K7 (ninS ne_r0_xb_2 nin0)
  have Fq2_3_c_7 := Fq2_3.keep K7 (ninS ne_r0_xb_2 nin0)
  have Fq2_4_c_7 := Fq2_4.keep K7 (ninS ne_r0_xb_2 nin0)
  have k7 : Go p.tables e below _ (T7.setTop (mkF m 18 #[.val (.ref r0), .val (.int (Int32.ofNat nd)), .val (.ref r2)] [])) := st7
  obtain ⟨fs, hr, hrun, hended, hW, hsame⟩ := X7.leave (v := none) (fun _ => rfl)
  refine ⟨_, _, castTop (ef_put01 m r0 (Int32.ofNat nd) r2) ((goT k1 (goT k3 (goT k5 (goT k6 k7)))) _ (X7.returnOut hx Bd.returns (hb hby d_m22_18) hr)), hrun, hended, _, _, rfl, ?_, ⟨_, rfl⟩, hW, hsame.mono (by decide) (by decide)⟩
  show Q_put01 Z r0 nd r2 tv kv ds M t2 kz2 cs G1 fm h0 n0 _ T7.heap _
  exact ⟨xb_2, xk_2, rfl, N7, Kp7, sz_xb_2, Fq2_0_c_7, Fq2_1_c_7, Fq2_2_c_7, Fq2_3_c_7, Fq2_4_c_7, Fq7_0⟩
theorem ef_put10 (m : MethodId) (x0 : Addr) (x1 : Int32) (x2 : Addr) : entryFrame m #[(.ref x0), (.int x1), (.ref x2)] 3 = mkF m 0 #[.val (.ref x0), .val (.int x1), .val (.ref x2)] [] := by first | (simp [entryFrame, mkF, argsToLocals, Value.category]; done) | rfl
def Q_put10 (Z : State) (r0 : Addr) (nd : Nat) (r2 : Addr) (tv : Addr) (kv : ClassId) (ds : List Int32) (M : Nat) (t2 : Addr) (kz2 : ClassId) (cs : List Int32) (G1 : Int32) (fm : Value) (h0 : Heap) (n0 : Nat) (v : Option Value) (h : Heap) (L : List Loc) : Prop := v = none ∧ Fr n0 L ∧ Keep h0 h [tv] ∧ Exa Z h r0 "java/lang/StringBuilder" ∧ f3 Z h r0 (.ref tv) ∧ f2 Z h r0 (.int (1 : Int32)) ∧ f4 Z h r0 (.int (Int32.ofNat ds.length)) ∧ f5 Z h r0 (.int (0 : Int32)) ∧ own_A Z h tv kv .byte (Int32.ofNat (2 * M)) (own_U M (ds ++ cs))
set_option maxRecDepth 65536 in
set_option maxHeartbeats 40000000 in
theorem rm_put10 (l : Launch) (Z : State) (a0 : Array Value) (hw : HW a0 Z) (ws : List Jvm.Cond) (r0 : Addr) (nd : Nat) (r2 : Addr) (tv : Addr) (kv : ClassId) (ds : List Int32) (M : Nat) (t2 : Addr) (kz2 : ClassId) (cs : List Int32) (G1 : Int32) (fm : Value) (h0 : Heap) (n0 : Nat) (Z0 : n0 ≤ h0.size) (E_r0 : Exa Z h0 r0 "java/lang/StringBuilder") (Bv : f3 Z h0 r0 (.ref tv)) (Bc : f2 Z h0 r0 (.int (1 : Int32))) (Bn : f4 Z h0 r0 (.int (Int32.ofNat ds.length))) (Bm : f5 Z h0 r0 (.int (0 : Int32))) (E_r2 : Exa Z h0 r2 "java/lang/String") (Fv_r2 : f1 Z h0 r2 (.ref t2)) (Fc_r2 : f0 Z h0 r2 (.int (0 : Int32))) (S_CS : f12 Z h0 (.int G1)) (S_AD : f8 Z h0 (.int (1 : Int32))) (S_HI : f9 Z h0 (.int (0 : Int32))) (S_LO : f10 Z h0 (.int (8 : Int32))) (S_SI : f11 Z h0 fm) (V_v : own_A Z h0 tv kv .byte (Int32.ofNat (2 * M)) (own_U M ds)) (V_t2 : own_A Z h0 t2 kz2 .byte (Int32.ofNat cs.length) (own_b cs)) (P5 : ¬ (G1 = (0 : Int32))) (g_tv : n0 ≤ tv) (hM : ds.length + cs.length ≤ M ∧ M ≤ 64) (nvr : tv ≠ r0) (nsr : r2 ≠ r0) (ntr : t2 ≠ r0) (ntv : t2 ≠ tv) (nsv : r2 ≠ tv) (hcc : ∀ c ∈ cs, ¬ c < 0 ∧ ¬ (255 : Int32) < c) (rf : fm.isRef = true) (hnd : nd = ds.length) :
    own_M l Z h0 (⟨"java/lang/AbstractStringBuilder", "putStringAt", "(ILjava/lang/String;)V"⟩ : MethodName) jdk_68_method_73_code 3 none ws (rR 7 0 0 108) #[(.ref r0), (.int (Int32.ofNat nd)), (.ref r2)] (Q_put10 Z r0 nd r2 tv kv ds M t2 kz2 cs G1 fm h0 n0) := by
  refine own_body (own := "java/lang/AbstractStringBuilder") (plainFor_of_name pn_4) rfl ?_
  intro p e s m below meth c s₁ Bd hZ hh hx hby hml hown X0 e0
  have N0 := Fr.nil n0
  have k1 : Go p.tables e below (s₁.setTop (mkF m 0 #[.val (.ref r0), .val (.int (Int32.ofNat nd)), .val (.ref r2)] [])) (s₁.setTop (mkF m 2 #[.val (.ref r0), .val (.int (Int32.ofNat nd)), .val (.ref r2)] [(.ref r2), (.ref r0)])) := by
    intro t ht
    refine XS.aloadN X0.here hx rfl (hb hby d_m22_0) rfl rfl ?_
    refine XS.aloadN X0.here hx rfl (hb hby d_m22_1) rfl rfl ?_
    exact ht
  obtain ⟨cq2, q2, q2'⟩ := E_r0.cell
  have rq2 := X0.privateBack hx (y := (⟨"java/lang/AbstractStringBuilder", "inflateIfNeededFor", "(Ljava/lang/String;)V"⟩ : MethodName)) hown (mvT hZ (own_w hw 100 rfl)) (mvT hZ (own_w hw 101 rfl)) (own_selp2 (mvT hZ (own_w hw 103 rfl) (args := #[])) (mvT hZ (own_w hw 101 rfl)) (Cond.privateMethod_at (mvP hZ (own_w hw 102 rfl) (args := #[]))) (by decide)) (Cond.privateMethod_at (mvP hZ (own_w hw 102 rfl) (args := #[]))) (mvT hZ (own_w hw 104 rfl)) (by decide) (backOf (W := 0) (rm_ifn10 l Z a0 hw [] r0 r2 G1 h0 n0 Z0 Bc E_r0 E_r2 Fc_r2 S_CS P5) hZ (own_w hw 104 rfl) (own_w hw 57 rfl) (by decide) (by decide)) (g := (mkF m 2 #[.val (.ref r0), .val (.int (Int32.ofNat nd)), .val (.ref r2)] [(.ref r2), (.ref r0)])) rfl (by rw [hml]; rfl) (Steps.refl _) (a := r0) (by rw [e0]; exact q2) q2' (argsL := [(.ref r2)]) (rest := []) (lenOf pd_13 rfl) rfl (by show 2 * 0 + _ ≤ _; exact Nat.le_of_eq rfl) (hb hby d_m22_2) (fun _ _ => ⟨rfl, e0, (by decide : 0 + 0 ≤ _), (by decide : 0 + 0 ≤ _)⟩)
  obtain ⟨_, T2, L2, X2, ⟨rfl, N2q, eq2⟩, st2⟩ := own_r X0 rq2
  have N2 := Fr.app N0 N2q
  have k3 : Go p.tables e below _ (T2.setTop (mkF m 7 #[.val (.ref r0), .val (.int (Int32.ofNat nd)), .val (.ref r2)] [(.ref r0), (.ref r2)])) := fun t ht => st2 t (by
    refine XS.aloadN X2.here hx rfl (hb hby d_m22_5) rfl rfl ?_
    refine XS.aloadN X2.here hx rfl (hb hby d_m22_6) rfl rfl ?_
    exact ht)
  obtain ⟨T4, X4, e4, st4⟩ := getF X2 hx hZ hown (host := "") (Or.inl (own_w hw 61 rfl)) Via.refl eq2 Bv (g := (mkF m 7 #[.val (.ref r0), .val (.int (Int32.ofNat nd)), .val (.ref r2)] [(.ref r0), (.ref r2)])) rfl rfl (hb hby d_m22_7)
  have k5 : Go p.tables e below _ (T4.setTop (mkF m 12 #[.val (.ref r0), .val (.int (Int32.ofNat nd)), .val (.ref r2)] [(.ref r0), (.int (Int32.ofNat nd)), (.ref tv), (.ref r2)])) := fun t ht => st4 t (by
    refine XS.iloadN X4.here hx rfl (hb hby d_m22_10) rfl ?_
    refine XS.aloadN X4.here hx rfl (hb hby d_m22_11) rfl rfl ?_
    exact ht)
  obtain ⟨T6, X6, e6, st6⟩ := getF X4 hx hZ hown (host := "") (Or.inl (own_w hw 63 rfl)) Via.refl e4 Bc (g := (mkF m 12 #[.val (.ref r0), .val (.int (Int32.ofNat nd)), .val (.ref r2)] [(.ref r0), (.int (Int32.ofNat nd)), (.ref tv), (.ref r2)])) rfl rfl (hb hby d_m22_12)
  have k6 : Go p.tables e below _ (T6.setTop (mkF m 15 #[.val (.ref r0), .val (.int (Int32.ofNat nd)), .val (.ref r2)] [(.int (1 : Int32)), (.int (Int32.ofNat nd)), (.ref tv), (.ref r2)])) := st6
  obtain ⟨cq7, kq7, q7a, q7b, q7c⟩ := isOf hZ e6 E_r2
  have rq7 := X6.virtualBack hx (y := (⟨"java/lang/String", "getBytes", "([BIB)V"⟩ : MethodName)) (z := (⟨"java/lang/String", "getBytes", "([BIB)V"⟩ : MethodName)) hown (mvT hZ (own_w hw 106 rfl)) (mvT hZ (own_w hw 107 rfl)) (notFace_of_selects (args := #[]) (mvT hZ (own_w hw 109 rfl))) (mvT hZ (own_w hw 109 rfl)) (mvT hZ (own_w hw 108 rfl)) (by decide) (backOf (W := 0) (rm_gb01 l Z a0 hw [] r2 tv nd t2 kz2 cs G1 kv M ds fm h0 n0 Z0 E_r2 Fv_r2 Fc_r2 S_CS S_AD S_HI S_LO S_SI V_t2 V_v P5 g_tv ntv nsv (by omega : ds.length + cs.length ≤ M ∧ M ≤ 64) hcc rf hnd) hZ (own_w hw 110 rfl) (own_w hw 2 rfl) (by decide) (by decide)) q7a q7c (g := (mkF m 15 #[.val (.ref r0), .val (.int (Int32.ofNat nd)), .val (.ref r2)] [(.int (1 : Int32)), (.int (Int32.ofNat nd)), (.ref tv), (.ref r2)])) rfl (by rw [hml]; rfl) (Steps.refl _) (argsL := [(.ref tv), (.int (Int32.ofNat nd)), (.int (1 : Int32))]) (rest := []) (lenOf pd_14 rfl) rfl (by show 2 * 0 + _ ≤ _; exact Nat.le_of_eq rfl) (hb hby d_m22_15) (fun _ _ => ⟨rfl, e6, (by decide : 0 + 0 ≤ _), (by decide : 0 + 0 ≤ _)⟩)
  obtain ⟨_, T7, L7, X7, ⟨rfl, N7q, K7, Fq7_0⟩, st7⟩ := own_r X6 rq7
  have N7 := Fr.app N2 N7q
  have Kp7 : Keep h0 T7.heap [tv] := (Keep.refl h0 [tv]).trans K7 (allS (Or.inl (by simp)) all0)
  have E_r0_c_7 := E_r0.keep K7
  have Bv_c_7 := Bv.keep K7 (ninS (Ne.symm nvr) nin0)
  have Bc_c_7 := Bc.keep K7 (ninS (Ne.symm nvr) nin0)
  have Bn_c_7 := Bn.keep K7 (ninS (Ne.symm nvr) nin0)
  have Bm_c_7 := Bm.keep K7 (ninS (Ne.symm nvr) nin0)
  have k7 : Go p.tables e below _ (T7.setTop (mkF m 18 #[.val (.ref r0), .val (.int (Int32.ofNat nd)), .val (.ref r2)] [])) := st7
  obtain ⟨fs, hr, hrun, hended, hW, hsame⟩ := X7.leave (v := none) (fun _ => rfl)
  refine ⟨_, _, castTop (ef_put10 m r0 (Int32.ofNat nd) r2) ((goT k1 (goT k3 (goT k5 (goT k6 k7)))) _ (X7.returnOut hx Bd.returns (hb hby d_m22_18) hr)), hrun, hended, _, _, rfl, ?_, ⟨_, rfl⟩, hW, hsame.mono (by decide) (by decide)⟩
  show Q_put10 Z r0 nd r2 tv kv ds M t2 kz2 cs G1 fm h0 n0 _ T7.heap _
  exact ⟨rfl, N7, Kp7, E_r0_c_7, Bv_c_7, Bc_c_7, Bn_c_7, Bm_c_7, Fq7_0⟩
theorem pd_15 : parseMethodDescriptor "()I" = some ⟨[], some .int⟩ := by decide +kernel
theorem pd_16 : parseMethodDescriptor "(I)V" = some ⟨[.int], none⟩ := by decide +kernel
theorem pd_17 : parseMethodDescriptor "(ILjava/lang/String;)V" = some ⟨[.int, (.object "java/lang/String")], none⟩ := by decide +kernel
theorem d_m23_0 : decode jdk_68_method_22_code 0 = .ok (.aload_n 1, 1) := by decide +kernel
theorem d_m23_1 : decode jdk_68_method_22_code 1 = .ok (.ifnonnull 8, 3) := by decide +kernel
theorem d_m23_9 : decode jdk_68_method_22_code 9 = .ok (.aload_n 1, 1) := by decide +kernel
theorem d_m23_10 : decode jdk_68_method_22_code 10 = .ok (.invokevirtual 32, 3) := by decide +kernel
theorem d_m23_13 : decode jdk_68_method_22_code 13 = .ok (.istore_n 2, 1) := by decide +kernel
theorem d_m23_14 : decode jdk_68_method_22_code 14 = .ok (.aload_n 0, 1) := by decide +kernel
theorem d_m23_15 : decode jdk_68_method_22_code 15 = .ok (.aload_n 0, 1) := by decide +kernel
theorem d_m23_16 : decode jdk_68_method_22_code 16 = .ok (.getfield 79, 3) := by decide +kernel
theorem d_m23_19 : decode jdk_68_method_22_code 19 = .ok (.iload_n 2, 1) := by decide +kernel
theorem d_m23_20 : decode jdk_68_method_22_code 20 = .ok (.iadd, 1) := by decide +kernel
theorem d_m23_21 : decode jdk_68_method_22_code 21 = .ok (.invokevirtual 100, 3) := by decide +kernel
theorem d_m23_24 : decode jdk_68_method_22_code 24 = .ok (.aload_n 0, 1) := by decide +kernel
theorem d_m23_25 : decode jdk_68_method_22_code 25 = .ok (.aload_n 0, 1) := by decide +kernel
theorem d_m23_26 : decode jdk_68_method_22_code 26 = .ok (.getfield 79, 3) := by decide +kernel
theorem d_m23_29 : decode jdk_68_method_22_code 29 = .ok (.aload_n 1, 1) := by decide +kernel
theorem d_m23_30 : decode jdk_68_method_22_code 30 = .ok (.invokevirtual 208, 3) := by decide +kernel
theorem d_m23_33 : decode jdk_68_method_22_code 33 = .ok (.aload_n 0, 1) := by decide +kernel
theorem d_m23_34 : decode jdk_68_method_22_code 34 = .ok (.dup, 1) := by decide +kernel
theorem d_m23_35 : decode jdk_68_method_22_code 35 = .ok (.getfield 79, 3) := by decide +kernel
theorem d_m23_38 : decode jdk_68_method_22_code 38 = .ok (.iload_n 2, 1) := by decide +kernel
theorem d_m23_39 : decode jdk_68_method_22_code 39 = .ok (.iadd, 1) := by decide +kernel
theorem d_m23_40 : decode jdk_68_method_22_code 40 = .ok (.putfield 79, 3) := by decide +kernel
theorem d_m23_43 : decode jdk_68_method_22_code 43 = .ok (.aload_n 0, 1) := by decide +kernel
theorem d_m23_44 : decode jdk_68_method_22_code 44 = .ok (.areturn, 1) := by decide +kernel
theorem ef_app000 (m : MethodId) (x0 : Addr) (x1 : Addr) : entryFrame m #[(.ref x0), (.ref x1)] 3 = mkF m 0 #[.val (.ref x0), .val (.ref x1), .unset] [] := by first | (simp [entryFrame, mkF, argsToLocals, Value.category]; done) | rfl
def Q_app000 (Z : State) (r0 : Addr) (r1 : Addr) (tv : Addr) (kv : ClassId) (ds : List Int32) (M : Nat) (t1 : Addr) (kz1 : ClassId) (cs : List Int32) (G1 : Int32) (h0 : Heap) (n0 : Nat) (v : Option Value) (h : Heap) (L : List Loc) : Prop := v = some (.ref r0) ∧ Fr n0 L ∧ Keep h0 h [tv, r0] ∧ Exa Z h r0 "java/lang/StringBuilder" ∧ f3 Z h r0 (.ref tv) ∧ f2 Z h r0 (.int (0 : Int32)) ∧ f4 Z h r0 (.int (Int32.ofNat (ds ++ cs).length)) ∧ f5 Z h r0 (.int (0 : Int32)) ∧ own_A Z h tv kv .byte (Int32.ofNat M) (own_B M (ds ++ cs))
set_option maxRecDepth 65536 in
set_option maxHeartbeats 40000000 in
theorem rm_app000 (l : Launch) (Z : State) (a0 : Array Value) (hw : HW a0 Z) (ws : List Jvm.Cond) (r0 : Addr) (r1 : Addr) (tv : Addr) (kv : ClassId) (ds : List Int32) (M : Nat) (t1 : Addr) (kz1 : ClassId) (cs : List Int32) (G1 : Int32) (h0 : Heap) (n0 : Nat) (Z0 : n0 ≤ h0.size) (E_r0 : Exa Z h0 r0 "java/lang/StringBuilder") (Bv : f3 Z h0 r0 (.ref tv)) (Bc : f2 Z h0 r0 (.int (0 : Int32))) (Bn : f4 Z h0 r0 (.int (Int32.ofNat ds.length))) (Bm : f5 Z h0 r0 (.int (0 : Int32))) (E_r1 : Exa Z h0 r1 "java/lang/String") (Fv_r1 : f1 Z h0 r1 (.ref t1)) (Fc_r1 : f0 Z h0 r1 (.int (0 : Int32))) (S_CS : f12 Z h0 (.int G1)) (V_v : own_A Z h0 tv kv .byte (Int32.ofNat M) (own_B M ds)) (V_t1 : own_A Z h0 t1 kz1 .byte (Int32.ofNat cs.length) (own_b cs)) (P5 : ¬ (G1 = (0 : Int32))) (g_r0 : n0 ≤ r0) (g_tv : n0 ≤ tv) (hM : ds.length + cs.length ≤ M ∧ M ≤ 24) (nvr : tv ≠ r0) (nsr : r1 ≠ r0) (ntr : t1 ≠ r0) (ntv : t1 ≠ tv) (nsv : r1 ≠ tv) :
    own_M l Z h0 (⟨"java/lang/AbstractStringBuilder", "append", "(Ljava/lang/String;)Ljava/lang/AbstractStringBuilder;"⟩ : MethodName) jdk_68_method_22_code 3 (some (.object "java/lang/AbstractStringBuilder")) ws (rR 3 0 0 47) #[(.ref r0), (.ref r1)] (Q_app000 Z r0 r1 tv kv ds M t1 kz1 cs G1 h0 n0) := by
  refine own_body (own := "java/lang/AbstractStringBuilder") (plainFor_of_name pn_4) rfl ?_
  intro p e s m below meth c s₁ Bd hZ hh hx hby hml hown X0 e0
  have N0 := Fr.nil n0
  have k1 : Go p.tables e below (s₁.setTop (mkF m 0 #[.val (.ref r0), .val (.ref r1), .unset] [])) (s₁.setTop (mkF m 10 #[.val (.ref r0), .val (.ref r1), .unset] [(.ref r1)])) := by
    intro t ht
    refine XS.aloadN X0.here hx rfl (hb hby d_m23_0) rfl rfl ?_
    refine XS.ifnonnullYes X0.here hx rfl (pc0 := 1) (pc' := 9) rfl (hb hby d_m23_1) rfl (by decide) (by decide) ?_
    refine XS.aloadN X0.here hx rfl (hb hby d_m23_9) rfl rfl ?_
    exact ht
  obtain ⟨cq2, kq2, q2a, q2b, q2c⟩ := isOf hZ e0 E_r1
  have rq2 := X0.virtualBack hx (y := (⟨"java/lang/String", "length", "()I"⟩ : MethodName)) (z := (⟨"java/lang/String", "length", "()I"⟩ : MethodName)) hown (mvT hZ (own_w hw 78 rfl)) (mvT hZ (own_w hw 79 rfl)) (notFace_of_selects (args := #[]) (mvT hZ (own_w hw 81 rfl))) (mvT hZ (own_w hw 81 rfl)) (mvT hZ (own_w hw 80 rfl)) (by decide) (backOf (W := 0) (rm_len0 l Z a0 hw [] r1 t1 kz1 cs G1 h0 n0 Z0 E_r1 Fv_r1 Fc_r1 S_CS V_t1 P5 (by omega : cs.length ≤ 64)) hZ (own_w hw 82 rfl) (own_w hw 2 rfl) (by decide) (by decide)) q2a q2c (g := (mkF m 10 #[.val (.ref r0), .val (.ref r1), .unset] [(.ref r1)])) rfl (by rw [hml]; rfl) (Steps.refl _) (argsL := []) (rest := []) (lenOf pd_15 rfl) rfl (by show 2 * 0 + _ ≤ _; exact Nat.le_of_eq rfl) (hb hby d_m23_10) (fun _ _ => ⟨rfl, e0, (by decide : 0 + 0 ≤ _), (by decide : 0 + 0 ≤ _)⟩)
  obtain ⟨_, T2, L2, X2, ⟨rfl, N2q, eq2⟩, st2⟩ := own_r X0 rq2
  have N2 := Fr.app N0 N2q
  have k3 : Go p.tables e below _ (T2.setTop (mkF m 16 #[.val (.ref r0), .val (.ref r1), .val (.int (Int32.ofNat cs.length))] [(.ref r0), (.ref r0)])) := fun t ht => st2 t (by
    refine XS.istoreN X2.here hx rfl (hb hby d_m23_13) rfl (l' := #[.val (.ref r0), .val (.ref r1), .val (.int (Int32.ofNat cs.length))]) rfl ?_
    refine XS.aloadN X2.here hx rfl (hb hby d_m23_14) rfl rfl ?_
    refine XS.aloadN X2.here hx rfl (hb hby d_m23_15) rfl rfl ?_
    exact ht)
  obtain ⟨T4, X4, e4, st4⟩ := getF X2 hx hZ hown (host := "") (Or.inl (own_w hw 88 rfl)) Via.refl eq2 Bn (g := (mkF m 16 #[.val (.ref r0), .val (.ref r1), .val (.int (Int32.ofNat cs.length))] [(.ref r0), (.ref r0)])) rfl rfl (hb hby d_m23_16)
  have k5 : Go p.tables e below _ (T4.setTop (mkF m 21 #[.val (.ref r0), .val (.ref r1), .val (.int (Int32.ofNat cs.length))] [(.int ((Int32.ofNat ds.length) + (Int32.ofNat cs.length))), (.ref r0)])) := fun t ht => st4 t (by
    refine XS.iloadN X4.here hx rfl (hb hby d_m23_19) rfl ?_
    refine XS.iadd X4.here hx rfl (hb hby d_m23_20) rfl ?_
    exact ht)
  have k6 : Go p.tables e below _ (T4.setTop (mkF m 21 #[.val (.ref r0), .val (.ref r1), .val (.int (Int32.ofNat cs.length))] [(.int (Int32.ofNat (ds.length + cs.length))), (.ref r0)])) := goT k5 (by rw [← Int32.ofNat_add]; exact fun _ h => h)
  obtain ⟨cq7, q7, q7'⟩ := E_r0.cell
  have rq7 := X4.privateBack hx (y := (⟨"java/lang/AbstractStringBuilder", "ensureCapacityInternal", "(I)V"⟩ : MethodName)) hown (mvT hZ (own_w hw 90 rfl)) (mvT hZ (own_w hw 91 rfl)) (own_selp2 (mvT hZ (own_w hw 93 rfl) (args := #[])) (mvT hZ (own_w hw 91 rfl)) (Cond.privateMethod_at (mvP hZ (own_w hw 92 rfl) (args := #[]))) (by decide)) (Cond.privateMethod_at (mvP hZ (own_w hw 92 rfl) (args := #[]))) (mvT hZ (own_w hw 94 rfl)) (by decide) (backOf (W := 0) (rm_fit0 l Z a0 hw [] r0 (ds.length + cs.length) tv kv ds M h0 n0 Z0 Bv Bc V_v (by omega : (ds.length + cs.length) ≤ M ∧ M ≤ 64)) hZ (own_w hw 94 rfl) (own_w hw 57 rfl) (by decide) (by decide)) (g := (mkF m 21 #[.val (.ref r0), .val (.ref r1), .val (.int (Int32.ofNat cs.length))] [(.int (Int32.ofNat (ds.length + cs.length))), (.ref r0)])) rfl (by rw [hml]; rfl) (Steps.refl _) (a := r0) (by rw [e4]; exact q7) q7' (argsL := [(.int (Int32.ofNat (ds.length + cs.length)))]) (rest := []) (lenOf pd_16 rfl) rfl (by show 2 * 0 + _ ≤ _; exact Nat.le_of_eq rfl) (hb hby d_m23_21) (fun _ _ => ⟨rfl, e4, (by decide : 0 + 0 ≤ _), (by decide : 0 + 0 ≤ _)⟩)
  obtain ⟨_, T7, L7, X7, ⟨rfl, N7q, eq7⟩, st7⟩ := own_r X4 rq7
  have N7 := Fr.app N2 N7q
  have k8 : Go p.tables e below _ (T7.setTop (mkF m 26 #[.val (.ref r0), .val (.ref r1), .val (.int (Int32.ofNat cs.length))] [(.ref r0), (.ref r0)])) := fun t ht => st7 t (by
    refine XS.aloadN X7.here hx rfl (hb hby d_m23_24) rfl rfl ?_
    refine XS.aloadN X7.here hx rfl (hb hby d_m23_25) rfl rfl ?_
    exact ht)
  obtain ⟨T9, X9, e9, st9⟩ := getF X7 hx hZ hown (host := "") (Or.inl (own_w hw 88 rfl)) Via.refl eq7 Bn (g := (mkF m 26 #[.val (.ref r0), .val (.ref r1), .val (.int (Int32.ofNat cs.length))] [(.ref r0), (.ref r0)])) rfl rfl (hb hby d_m23_26)
  have k10 : Go p.tables e below _ (T9.setTop (mkF m 30 #[.val (.ref r0), .val (.ref r1), .val (.int (Int32.ofNat cs.length))] [(.ref r1), (.int (Int32.ofNat ds.length)), (.ref r0)])) := fun t ht => st9 t (by
    refine XS.aloadN X9.here hx rfl (hb hby d_m23_29) rfl rfl ?_
    exact ht)
  obtain ⟨cq11, q11, q11'⟩ := E_r0.cell
  have rq11 := X9.privateBack hx (y := (⟨"java/lang/AbstractStringBuilder", "putStringAt", "(ILjava/lang/String;)V"⟩ : MethodName)) hown (mvT hZ (own_w hw 95 rfl)) (mvT hZ (own_w hw 96 rfl)) (own_selp2 (mvT hZ (own_w hw 98 rfl) (args := #[])) (mvT hZ (own_w hw 96 rfl)) (Cond.privateMethod_at (mvP hZ (own_w hw 97 rfl) (args := #[]))) (by decide)) (Cond.privateMethod_at (mvP hZ (own_w hw 97 rfl) (args := #[]))) (mvT hZ (own_w hw 99 rfl)) (by decide) (backOf (W := 0) (rm_put00 l Z a0 hw [] r0 ds.length r1 tv kv ds M t1 kz1 cs G1 h0 n0 Z0 E_r0 Bv Bc Bn Bm E_r1 Fv_r1 Fc_r1 S_CS V_v V_t1 P5 g_tv (by omega : ds.length + cs.length ≤ M ∧ M ≤ 64) nvr nsr ntr ntv nsv rfl) hZ (own_w hw 99 rfl) (own_w hw 57 rfl) (by decide) (by decide)) (g := (mkF m 30 #[.val (.ref r0), .val (.ref r1), .val (.int (Int32.ofNat cs.length))] [(.ref r1), (.int (Int32.ofNat ds.length)), (.ref r0)])) rfl (by rw [hml]; rfl) (Steps.refl _) (a := r0) (by rw [e9]; exact q11) q11' (argsL := [(.int (Int32.ofNat ds.length)), (.ref r1)]) (rest := []) (lenOf pd_17 rfl) rfl (by show 2 * 0 + _ ≤ _; exact Nat.le_of_eq rfl) (hb hby d_m23_30) (fun _ _ => ⟨rfl, e9, (by decide : 0 + 0 ≤ _), (by decide : 0 + 0 ≤ _)⟩)
  obtain ⟨_, T11, L11, X11, ⟨rfl, N11q, K11, Fq11_0, Fq11_1, Fq11_2, Fq11_3, Fq11_4, Fq11_5⟩, st11⟩ := own_r X9 rq11
  have N11 := Fr.app N7 N11q
  have Kp11 : Keep h0 T11.heap [tv, r0] := (Keep.refl h0 [tv, r0]).trans K11 (allS (Or.inl (by simp)) all0)
  have k12 : Go p.tables e below _ (T11.setTop (mkF m 35 #[.val (.ref r0), .val (.ref r1), .val (.int (Int32.ofNat cs.length))] [(.ref r0), (.ref r0)])) := fun t ht => st11 t (by
    refine XS.aloadN X11.here hx rfl (hb hby d_m23_33) rfl rfl ?_
    refine XS.dup X11.here hx rfl (hb hby d_m23_34) rfl rfl ?_
    exact ht)
  obtain ⟨T13, X13, e13, st13⟩ := getF X11 hx hZ hown (host := "") (Or.inl (own_w hw 88 rfl)) Via.refl rfl Fq11_3 (g := (mkF m 35 #[.val (.ref r0), .val (.ref r1), .val (.int (Int32.ofNat cs.length))] [(.ref r0), (.ref r0)])) rfl rfl (hb hby d_m23_35)
  have k14 : Go p.tables e below _ (T13.setTop (mkF m 40 #[.val (.ref r0), .val (.ref r1), .val (.int (Int32.ofNat cs.length))] [(.int ((Int32.ofNat ds.length) + (Int32.ofNat cs.length))), (.ref r0)])) := fun t ht => st13 t (by
    refine XS.iloadN X13.here hx rfl (hb hby d_m23_38) rfl ?_
    refine XS.iadd X13.here hx rfl (hb hby d_m23_39) rfl ?_
    exact ht)
  have k15 : Go p.tables e below _ (T13.setTop (mkF m 40 #[.val (.ref r0), .val (.ref r1), .val (.int (Int32.ofNat cs.length))] [(.int (Int32.ofNat (ds ++ cs).length)), (.ref r0)])) := goT k14 (by rw [← Int32.ofNat_add, ← List.length_append]; exact fun _ h => h)
  obtain ⟨T16, h16, X16, e16, W16, st16⟩ := putF X13 hx hZ hown (host := "") (Or.inl (own_w hw 88 rfl)) Via.refl e13 Fq11_3 Fq11_0 (Or.inl (own_w hw 89 rfl)) (own_w hw 48 rfl) (ty := .int) (by decide) rfl rfl (g := (mkF m 40 #[.val (.ref r0), .val (.ref r1), .val (.int (Int32.ofNat cs.length))] [(.int (Int32.ofNat (ds ++ cs).length)), (.ref r0)])) rfl rfl (hb hby d_m23_40)
  have Kp16 : Keep h0 h16 [tv, r0] := Kp11.wr W16 (Or.inl (by simp))
  have Fq11_0_c_16 := Fq11_0.wr W16
  have Fq11_1_c_16 := Fq11_1.other W16 (Or.inr (slot_ne (Or.inl (own_w hw 62 rfl)) (Or.inl (own_w hw 89 rfl)) (by decide) (t := (.array .byte)) (t' := .int) (by decide) (by decide)))
  have Fq11_2_c_16 := Fq11_2.other W16 (Or.inr (slot_ne (Or.inl (own_w hw 64 rfl)) (Or.inl (own_w hw 89 rfl)) (by decide) (t := .byte) (t' := .int) (by decide) (by decide)))
  have Fq11_3_c_16 := Fq11_3.same W16
  have Fq11_4_c_16 := Fq11_4.other W16 (Or.inr (slot_ne (Or.inl (own_w hw 259 rfl)) (Or.inl (own_w hw 89 rfl)) (by decide) (t := .boolean) (t' := .int) (by decide) (by decide)))
  have Fq11_5_c_16 := Fq11_5.other W16 nvr
  have N16 := Fr.snoc X16 N11 g_r0
  have k17 : Go p.tables e below _ (T16.setTop (mkF m 44 #[.val (.ref r0), .val (.ref r1), .val (.int (Int32.ofNat cs.length))] [(.ref r0)])) := fun t ht => st16 t (by
    refine XS.aloadN X16.here hx rfl (hb hby d_m23_43) rfl rfl ?_
    exact ht)
  obtain ⟨fs, hr, hrun, hended, hW, hsame⟩ := X16.leave (v := some (.ref r0)) (fun h => by rw [Bd.returns] at h; cases h)
  refine ⟨_, _, castTop (ef_app000 m r0 r1) ((goT k1 (goT k3 (goT k6 (goT k8 (goT k10 (goT k12 (goT k15 k17))))))) _ (retR X16 hx Bd.returns (hb hby d_m23_44) hr)), hrun, hended, _, _, rfl, ?_, ⟨_, rfl⟩, hW, hsame.mono (by decide) (by decide)⟩
  show Q_app000 Z r0 r1 tv kv ds M t1 kz1 cs G1 h0 n0 _ T16.heap _
  rw [e16]
  exact ⟨rfl, N16, Kp16, Fq11_0_c_16, Fq11_1_c_16, Fq11_2_c_16, Fq11_3_c_16, Fq11_4_c_16, Fq11_5_c_16⟩
theorem pd_18 : parseMethodDescriptor "(Ljava/lang/String;)Ljava/lang/AbstractStringBuilder;" = some ⟨[(.object "java/lang/String")], some (.object "java/lang/AbstractStringBuilder")⟩ := by decide +kernel
theorem d_m24_0 : decode jdk_67_method_7_code 0 = .ok (.aload_n 0, 1) := by decide +kernel
theorem d_m24_1 : decode jdk_67_method_7_code 1 = .ok (.aload_n 1, 1) := by decide +kernel
theorem d_m24_2 : decode jdk_67_method_7_code 2 = .ok (.invokespecial 29, 3) := by decide +kernel
theorem d_m24_5 : decode jdk_67_method_7_code 5 = .ok (.pop, 1) := by decide +kernel
theorem d_m24_6 : decode jdk_67_method_7_code 6 = .ok (.aload_n 0, 1) := by decide +kernel
theorem d_m24_7 : decode jdk_67_method_7_code 7 = .ok (.areturn, 1) := by decide +kernel
theorem pn_7 : plainName "java/lang/StringBuilder" = true := by first | (simp [plainName, overriddenIn]; done) | decide +kernel
theorem ef_sba000 (m : MethodId) (x0 : Addr) (x1 : Addr) : entryFrame m #[(.ref x0), (.ref x1)] 2 = mkF m 0 #[.val (.ref x0), .val (.ref x1)] [] := by first | (simp [entryFrame, mkF, argsToLocals, Value.category]; done) | rfl
def Q_sba000 (Z : State) (r0 : Addr) (r1 : Addr) (tv : Addr) (kv : ClassId) (ds : List Int32) (M : Nat) (t1 : Addr) (kz1 : ClassId) (cs : List Int32) (G1 : Int32) (h0 : Heap) (n0 : Nat) (v : Option Value) (h : Heap) (L : List Loc) : Prop := v = some (.ref r0) ∧ Fr n0 L ∧ Keep h0 h [r0, tv] ∧ Exa Z h r0 "java/lang/StringBuilder" ∧ f3 Z h r0 (.ref tv) ∧ f2 Z h r0 (.int (0 : Int32)) ∧ f4 Z h r0 (.int (Int32.ofNat (ds ++ cs).length)) ∧ f5 Z h r0 (.int (0 : Int32)) ∧ own_A Z h tv kv .byte (Int32.ofNat M) (own_B M (ds ++ cs))
set_option maxRecDepth 65536 in
set_option maxHeartbeats 40000000 in
theorem rm_sba000 (l : Launch) (Z : State) (a0 : Array Value) (hw : HW a0 Z) (ws : List Jvm.Cond) (r0 : Addr) (r1 : Addr) (tv : Addr) (kv : ClassId) (ds : List Int32) (M : Nat) (t1 : Addr) (kz1 : ClassId) (cs : List Int32) (G1 : Int32) (h0 : Heap) (n0 : Nat) (Z0 : n0 ≤ h0.size) (E_r0 : Exa Z h0 r0 "java/lang/StringBuilder") (Bv : f3 Z h0 r0 (.ref tv)) (Bc : f2 Z h0 r0 (.int (0 : Int32))) (Bn : f4 Z h0 r0 (.int (Int32.ofNat ds.length))) (Bm : f5 Z h0 r0 (.int (0 : Int32))) (E_r1 : Exa Z h0 r1 "java/lang/String") (Fv_r1 : f1 Z h0 r1 (.ref t1)) (Fc_r1 : f0 Z h0 r1 (.int (0 : Int32))) (S_CS : f12 Z h0 (.int G1)) (V_v : own_A Z h0 tv kv .byte (Int32.ofNat M) (own_B M ds)) (V_t1 : own_A Z h0 t1 kz1 .byte (Int32.ofNat cs.length) (own_b cs)) (P5 : ¬ (G1 = (0 : Int32))) (g_r0 : n0 ≤ r0) (g_tv : n0 ≤ tv) (hM : ds.length + cs.length ≤ M ∧ M ≤ 24) (nvr : tv ≠ r0) (nsr : r1 ≠ r0) (ntr : t1 ≠ r0) (ntv : t1 ≠ tv) (nsv : r1 ≠ tv) :
    own_M l Z h0 (⟨"java/lang/StringBuilder", "append", "(Ljava/lang/String;)Ljava/lang/StringBuilder;"⟩ : MethodName) jdk_67_method_7_code 2 (some (.object "java/lang/StringBuilder")) ws (rR 4 0 0 61) #[(.ref r0), (.ref r1)] (Q_sba000 Z r0 r1 tv kv ds M t1 kz1 cs G1 h0 n0) := by
  refine own_body (own := "java/lang/StringBuilder") (plainFor_of_name pn_7) rfl ?_
  intro p e s m below meth c s₁ Bd hZ hh hx hby hml hown X0 e0
  have N0 := Fr.nil n0
  have k1 : Go p.tables e below (s₁.setTop (mkF m 0 #[.val (.ref r0), .val (.ref r1)] [])) (s₁.setTop (mkF m 2 #[.val (.ref r0), .val (.ref r1)] [(.ref r1), (.ref r0)])) := by
    intro t ht
    refine XS.aloadN X0.here hx rfl (hb hby d_m24_0) rfl rfl ?_
    refine XS.aloadN X0.here hx rfl (hb hby d_m24_1) rfl rfl ?_
    exact ht
  have rq2 := superBack X0 hx hZ (y := (⟨"java/lang/AbstractStringBuilder", "append", "(Ljava/lang/String;)Ljava/lang/AbstractStringBuilder;"⟩ : MethodName)) hown (own_w hw 73 rfl) (own_same (own_w hw 74 rfl) (own_face (notFace_of_selects (own_w hw 93 rfl)) (own_w hw 91 rfl) rfl) (by decide)) (own_w hw 74 rfl) (own_w hw 75 rfl) (by decide) (backOf (W := 0) (rm_app000 l Z a0 hw [] r0 r1 tv kv ds M t1 kz1 cs G1 h0 n0 Z0 E_r0 Bv Bc Bn Bm E_r1 Fv_r1 Fc_r1 S_CS V_v V_t1 P5 g_r0 g_tv hM nvr nsr ntr ntv nsv) hZ (own_w hw 77 rfl) (own_w hw 57 rfl) (by decide) (by decide)) e0 (Ins.self E_r0) (g := (mkF m 2 #[.val (.ref r0), .val (.ref r1)] [(.ref r1), (.ref r0)])) rfl (by rw [hml]; rfl) (own_w hw 77 rfl) (argsL := [(.ref r1)]) (rest := []) (lenOf pd_18 rfl) rfl (by show 2 * 0 + _ ≤ _; exact Nat.le_of_eq rfl) (hb hby d_m24_2) (fun _ _ => ⟨rfl, e0, (by decide : 0 + 0 ≤ _), (by decide : 0 + 0 ≤ _)⟩)
  obtain ⟨_, T2, L2, X2, ⟨rfl, N2q, K2, Fq2_0, Fq2_1, Fq2_2, Fq2_3, Fq2_4, Fq2_5⟩, st2⟩ := own_r X0 rq2
  have N2 := Fr.app N0 N2q
  have Kp2 : Keep h0 T2.heap [r0, tv] := (Keep.refl h0 [r0, tv]).trans K2 (allS (Or.inl (by simp)) (allS (Or.inl (by simp)) all0))
  have k3 : Go p.tables e below _ (T2.setTop (mkF m 7 #[.val (.ref r0), .val (.ref r1)] [(.ref r0)])) := fun t ht => st2 t (by
    refine XS.pop X2.here hx rfl (hb hby d_m24_5) rfl rfl ?_
    refine XS.aloadN X2.here hx rfl (hb hby d_m24_6) rfl rfl ?_
    exact ht)
  obtain ⟨fs, hr, hrun, hended, hW, hsame⟩ := X2.leave (v := some (.ref r0)) (fun h => by rw [Bd.returns] at h; cases h)
  refine ⟨_, _, castTop (ef_sba000 m r0 r1) ((goT k1 k3) _ (retR X2 hx Bd.returns (hb hby d_m24_7) hr)), hrun, hended, _, _, rfl, ?_, ⟨_, rfl⟩, hW, hsame.mono (by decide) (by decide)⟩
  show Q_sba000 Z r0 r1 tv kv ds M t1 kz1 cs G1 h0 n0 _ T2.heap _
  exact ⟨rfl, N2, Kp2, Fq2_0, Fq2_1, Fq2_2, Fq2_3, Fq2_4, Fq2_5⟩
theorem ef_app001 (m : MethodId) (x0 : Addr) (x1 : Addr) : entryFrame m #[(.ref x0), (.ref x1)] 3 = mkF m 0 #[.val (.ref x0), .val (.ref x1), .unset] [] := by first | (simp [entryFrame, mkF, argsToLocals, Value.category]; done) | rfl
def Q_app001 (Z : State) (r0 : Addr) (r1 : Addr) (tv : Addr) (kv : ClassId) (ds : List Int32) (t1 : Addr) (kz1 : ClassId) (cs : List Int32) (G1 : Int32) (h0 : Heap) (n0 : Nat) (v : Option Value) (h : Heap) (L : List Loc) : Prop := ∃ (xb : Addr) (xk : ClassId), v = some (.ref r0) ∧ Fr n0 L ∧ Keep h0 h [r0] ∧ h0.size ≤ xb ∧ Exa Z h r0 "java/lang/StringBuilder" ∧ f3 Z h r0 (.ref xb) ∧ f2 Z h r0 (.int (0 : Int32)) ∧ f4 Z h r0 (.int (Int32.ofNat (ds ++ cs).length)) ∧ f5 Z h r0 (.int (0 : Int32)) ∧ own_A Z h xb xk .byte (Int32.ofNat 34) (own_B 34 (ds ++ cs))
set_option maxRecDepth 65536 in
set_option maxHeartbeats 40000000 in
theorem rm_app001 (l : Launch) (Z : State) (a0 : Array Value) (hw : HW a0 Z) (ws : List Jvm.Cond) (r0 : Addr) (r1 : Addr) (tv : Addr) (kv : ClassId) (ds : List Int32) (t1 : Addr) (kz1 : ClassId) (cs : List Int32) (G1 : Int32) (h0 : Heap) (n0 : Nat) (Z0 : n0 ≤ h0.size) (E_r0 : Exa Z h0 r0 "java/lang/StringBuilder") (Bv : f3 Z h0 r0 (.ref tv)) (Bc : f2 Z h0 r0 (.int (0 : Int32))) (Bn : f4 Z h0 r0 (.int (Int32.ofNat ds.length))) (Bm : f5 Z h0 r0 (.int (0 : Int32))) (E_r1 : Exa Z h0 r1 "java/lang/String") (Fv_r1 : f1 Z h0 r1 (.ref t1)) (Fc_r1 : f0 Z h0 r1 (.int (0 : Int32))) (S_CS : f12 Z h0 (.int G1)) (V_v : own_A Z h0 tv kv .byte (Int32.ofNat 16) (own_B 16 ds)) (V_t1 : own_A Z h0 t1 kz1 .byte (Int32.ofNat cs.length) (own_b cs)) (P5 : ¬ (G1 = (0 : Int32))) (g_r0 : n0 ≤ r0) (hT : 17 ≤ ds.length + cs.length ∧ ds.length + cs.length ≤ 24 ∧ ds.length ≤ 16) (nvr : tv ≠ r0) (nsr : r1 ≠ r0) (ntr : t1 ≠ r0) (ntv : t1 ≠ tv) (nsv : r1 ≠ tv) :
    own_M l Z h0 (⟨"java/lang/AbstractStringBuilder", "append", "(Ljava/lang/String;)Ljava/lang/AbstractStringBuilder;"⟩ : MethodName) jdk_68_method_22_code 3 (some (.object "java/lang/AbstractStringBuilder")) ws (rR 4 1 34 62) #[(.ref r0), (.ref r1)] (Q_app001 Z r0 r1 tv kv ds t1 kz1 cs G1 h0 n0) := by
  refine own_body (own := "java/lang/AbstractStringBuilder") (plainFor_of_name pn_4) rfl ?_
  intro p e s m below meth c s₁ Bd hZ hh hx hby hml hown X0 e0
  have N0 := Fr.nil n0
  have k1 : Go p.tables e below (s₁.setTop (mkF m 0 #[.val (.ref r0), .val (.ref r1), .unset] [])) (s₁.setTop (mkF m 10 #[.val (.ref r0), .val (.ref r1), .unset] [(.ref r1)])) := by
    intro t ht
    refine XS.aloadN X0.here hx rfl (hb hby d_m23_0) rfl rfl ?_
    refine XS.ifnonnullYes X0.here hx rfl (pc0 := 1) (pc' := 9) rfl (hb hby d_m23_1) rfl (by decide) (by decide) ?_
    refine XS.aloadN X0.here hx rfl (hb hby d_m23_9) rfl rfl ?_
    exact ht
  obtain ⟨cq2, kq2, q2a, q2b, q2c⟩ := isOf hZ e0 E_r1
  have rq2 := X0.virtualBack hx (y := (⟨"java/lang/String", "length", "()I"⟩ : MethodName)) (z := (⟨"java/lang/String", "length", "()I"⟩ : MethodName)) hown (mvT hZ (own_w hw 78 rfl)) (mvT hZ (own_w hw 79 rfl)) (notFace_of_selects (args := #[]) (mvT hZ (own_w hw 81 rfl))) (mvT hZ (own_w hw 81 rfl)) (mvT hZ (own_w hw 80 rfl)) (by decide) (backOf (W := 0) (rm_len0 l Z a0 hw [] r1 t1 kz1 cs G1 h0 n0 Z0 E_r1 Fv_r1 Fc_r1 S_CS V_t1 P5 (by omega : cs.length ≤ 64)) hZ (own_w hw 82 rfl) (own_w hw 2 rfl) (by decide) (by decide)) q2a q2c (g := (mkF m 10 #[.val (.ref r0), .val (.ref r1), .unset] [(.ref r1)])) rfl (by rw [hml]; rfl) (Steps.refl _) (argsL := []) (rest := []) (lenOf pd_15 rfl) rfl (by show 2 * 0 + _ ≤ _; exact Nat.le_of_eq rfl) (hb hby d_m23_10) (fun _ _ => ⟨rfl, e0, (by decide : 0 + 0 ≤ _), (by decide : 0 + 0 ≤ _)⟩)
  obtain ⟨_, T2, L2, X2, ⟨rfl, N2q, eq2⟩, st2⟩ := own_r X0 rq2
  have N2 := Fr.app N0 N2q
  have k3 : Go p.tables e below _ (T2.setTop (mkF m 16 #[.val (.ref r0), .val (.ref r1), .val (.int (Int32.ofNat cs.length))] [(.ref r0), (.ref r0)])) := fun t ht => st2 t (by
    refine XS.istoreN X2.here hx rfl (hb hby d_m23_13) rfl (l' := #[.val (.ref r0), .val (.ref r1), .val (.int (Int32.ofNat cs.length))]) rfl ?_
    refine XS.aloadN X2.here hx rfl (hb hby d_m23_14) rfl rfl ?_
    refine XS.aloadN X2.here hx rfl (hb hby d_m23_15) rfl rfl ?_
    exact ht)
  obtain ⟨T4, X4, e4, st4⟩ := getF X2 hx hZ hown (host := "") (Or.inl (own_w hw 88 rfl)) Via.refl eq2 Bn (g := (mkF m 16 #[.val (.ref r0), .val (.ref r1), .val (.int (Int32.ofNat cs.length))] [(.ref r0), (.ref r0)])) rfl rfl (hb hby d_m23_16)
  have k5 : Go p.tables e below _ (T4.setTop (mkF m 21 #[.val (.ref r0), .val (.ref r1), .val (.int (Int32.ofNat cs.length))] [(.int ((Int32.ofNat ds.length) + (Int32.ofNat cs.length))), (.ref r0)])) := fun t ht => st4 t (by
    refine XS.iloadN X4.here hx rfl (hb hby d_m23_19) rfl ?_
    refine XS.iadd X4.here hx rfl (hb hby d_m23_20) rfl ?_
    exact ht)
  have k6 : Go p.tables e below _ (T4.setTop (mkF m 21 #[.val (.ref r0), .val (.ref r1), .val (.int (Int32.ofNat cs.length))] [(.int (Int32.ofNat (ds.length + cs.length))), (.ref r0)])) := goT k5 (by rw [← Int32.ofNat_add]; exact fun _ h => h)
  obtain ⟨cq7, q7, q7'⟩ := E_r0.cell
  have rq7 := X4.privateBack hx (y := (⟨"java/lang/AbstractStringBuilder", "ensureCapacityInternal", "(I)V"⟩ : MethodName)) hown (mvT hZ (own_w hw 90 rfl)) (mvT hZ (own_w hw 91 rfl)) (own_selp2 (mvT hZ (own_w hw 93 rfl) (args := #[])) (mvT hZ (own_w hw 91 rfl)) (Cond.privateMethod_at (mvP hZ (own_w hw 92 rfl) (args := #[]))) (by decide)) (Cond.privateMethod_at (mvP hZ (own_w hw 92 rfl) (args := #[]))) (mvT hZ (own_w hw 94 rfl)) (by decide) (backOf (W := 0) (rm_grow0 l Z a0 hw [] r0 (ds.length + cs.length) tv kv ds h0 n0 Z0 E_r0 Bv Bc Bn Bm V_v g_r0 (by omega : 17 ≤ (ds.length + cs.length) ∧ (ds.length + cs.length) ≤ 24) (by omega : ds.length ≤ 16) nvr) hZ (own_w hw 94 rfl) (own_w hw 57 rfl) (by decide) (by decide)) (g := (mkF m 21 #[.val (.ref r0), .val (.ref r1), .val (.int (Int32.ofNat cs.length))] [(.int (Int32.ofNat (ds.length + cs.length))), (.ref r0)])) rfl (by rw [hml]; rfl) (Steps.refl _) (a := r0) (by rw [e4]; exact q7) q7' (argsL := [(.int (Int32.ofNat (ds.length + cs.length)))]) (rest := []) (lenOf pd_16 rfl) rfl (by show 2 * 0 + _ ≤ _; exact Nat.le_of_eq rfl) (hb hby d_m23_21) (fun _ _ => ⟨rfl, e4, (by decide : 0 + 1 ≤ _), (by decide : 0 + 34 ≤ _)⟩)
  obtain ⟨_, T7, L7, X7, ⟨xb_7, xk_7, rfl, N7q, K7, Pq7_0, Fq7_0, Fq7_1, Fq7_2, Fq7_3, Fq7_4, Fq7_5⟩, st7⟩ := own_r X4 rq7
  have N7 := Fr.app N2 N7q
  have Kp7 : Keep h0 T7.heap [r0] := (Keep.refl h0 [r0]).trans K7 (allS (Or.inl (by simp)) all0)
  have Z7 : n0 ≤ T7.heap.size := Nat.le_trans Z0 K7.1
  have ne_r0_xb_7 : r0 ≠ xb_7 := Nat.ne_of_lt (Nat.lt_of_lt_of_le E_r0.lt Pq7_0)
  have ne_r1_xb_7 : r1 ≠ xb_7 := Nat.ne_of_lt (Nat.lt_of_lt_of_le E_r1.lt Pq7_0)
  have ne_t1_xb_7 : t1 ≠ xb_7 := Nat.ne_of_lt (Nat.lt_of_lt_of_le V_t1.lt Pq7_0)
  have g_xb_7 : n0 ≤ xb_7 := Nat.le_trans Z0 Pq7_0
  have sz_xb_7 : h0.size ≤ xb_7 := Nat.le_trans (Keep.refl h0 [r0]).1 Pq7_0
  have E_r1_c_7 := E_r1.keep K7
  have Fv_r1_c_7 := Fv_r1.keep K7 (ninS nsr nin0)
  have Fc_r1_c_7 := Fc_r1.keep K7 (ninS nsr nin0)
  have S_CS_c_7 := own_sta_keep S_CS E_r0 K7
  have V_t1_c_7 := V_t1.keep K7 (ninS ntr nin0)
  have k8 : Go p.tables e below _ (T7.setTop (mkF m 26 #[.val (.ref r0), .val (.ref r1), .val (.int (Int32.ofNat cs.length))] [(.ref r0), (.ref r0)])) := fun t ht => st7 t (by
    refine XS.aloadN X7.here hx rfl (hb hby d_m23_24) rfl rfl ?_
    refine XS.aloadN X7.here hx rfl (hb hby d_m23_25) rfl rfl ?_
    exact ht)
  obtain ⟨T9, X9, e9, st9⟩ := getF X7 hx hZ hown (host := "") (Or.inl (own_w hw 88 rfl)) Via.refl rfl Fq7_3 (g := (mkF m 26 #[.val (.ref r0), .val (.ref r1), .val (.int (Int32.ofNat cs.length))] [(.ref r0), (.ref r0)])) rfl rfl (hb hby d_m23_26)
  have k10 : Go p.tables e below _ (T9.setTop (mkF m 30 #[.val (.ref r0), .val (.ref r1), .val (.int (Int32.ofNat cs.length))] [(.ref r1), (.int (Int32.ofNat ds.length)), (.ref r0)])) := fun t ht => st9 t (by
    refine XS.aloadN X9.here hx rfl (hb hby d_m23_29) rfl rfl ?_
    exact ht)
  obtain ⟨cq11, q11, q11'⟩ := Fq7_0.cell
  have rq11 := X9.privateBack hx (y := (⟨"java/lang/AbstractStringBuilder", "putStringAt", "(ILjava/lang/String;)V"⟩ : MethodName)) hown (mvT hZ (own_w hw 95 rfl)) (mvT hZ (own_w hw 96 rfl)) (own_selp2 (mvT hZ (own_w hw 98 rfl) (args := #[])) (mvT hZ (own_w hw 96 rfl)) (Cond.privateMethod_at (mvP hZ (own_w hw 97 rfl) (args := #[]))) (by decide)) (Cond.privateMethod_at (mvP hZ (own_w hw 97 rfl) (args := #[]))) (mvT hZ (own_w hw 99 rfl)) (by decide) (backOf (W := 0) (rm_put00 l Z a0 hw [] r0 ds.length r1 xb_7 xk_7 ds 34 t1 kz1 cs G1 T7.heap n0 Z7 Fq7_0 Fq7_1 Fq7_2 Fq7_3 Fq7_4 E_r1_c_7 Fv_r1_c_7 Fc_r1_c_7 S_CS_c_7 Fq7_5 V_t1_c_7 P5 g_xb_7 (by omega : ds.length + cs.length ≤ 34 ∧ 34 ≤ 64) ((Ne.symm ne_r0_xb_7) : xb_7 ≠ r0) nsr ntr ne_t1_xb_7 ne_r1_xb_7 rfl) hZ (own_w hw 99 rfl) (own_w hw 57 rfl) (by decide) (by decide)) (g := (mkF m 30 #[.val (.ref r0), .val (.ref r1), .val (.int (Int32.ofNat cs.length))] [(.ref r1), (.int (Int32.ofNat ds.length)), (.ref r0)])) rfl (by rw [hml]; rfl) (Steps.refl _) (a := r0) (by rw [e9]; exact q11) q11' (argsL := [(.int (Int32.ofNat ds.length)), (.ref r1)]) (rest := []) (lenOf pd_17 rfl) rfl (by show 2 * 0 + _ ≤ _; exact Nat.le_of_eq rfl) (hb hby d_m23_30) (fun _ _ => ⟨rfl, e9, (by decide : 1 + 0 ≤ _), (by decide : 34 + 0 ≤ _)⟩)
  obtain ⟨_, T11, L11, X11, ⟨rfl, N11q, K11, Fq11_0, Fq11_1, Fq11_2, Fq11_3, Fq11_4, Fq11_5⟩, st11⟩ := own_r X9 rq11
  have N11 := Fr.app N7 N11q
  have Kp11 : Keep h0 T11.heap [r0] := Kp7.trans K11 (allS (Or.inr sz_xb_7) all0)
  have k12 : Go p.tables e below _ (T11.setTop (mkF m 35 #[.val (.ref r0), .val (.ref r1), .val (.int (Int32.ofNat cs.length))] [(.ref r0), (.ref r0)])) := fun t ht => st11 t (by
    refine XS.aloadN X11.here hx rfl (hb hby d_m23_33) rfl rfl ?_
    refine XS.dup X11.here hx rfl (hb hby d_m23_34) rfl rfl ?_
    exact ht)
  obtain ⟨T13, X13, e13, st13⟩ := getF X11 hx hZ hown (host := "") (Or.inl (own_w hw 88 rfl)) Via.refl rfl Fq11_3 (g := (mkF m 35 #[.val (.ref r0), .val (.ref r1), .val (.int (Int32.ofNat cs.length))] [(.ref r0), (.ref r0)])) rfl rfl (hb hby d_m23_35)
  have k14 : Go p.tables e below _ (T13.setTop (mkF m 40 #[.val (.ref r0), .val (.ref r1), .val (.int (Int32.ofNat cs.length))] [(.int ((Int32.ofNat ds.length) + (Int32.ofNat cs.length))), (.ref r0)])) := fun t ht => st13 t (by
    refine XS.iloadN X13.here hx rfl (hb hby d_m23_38) rfl ?_
    refine XS.iadd X13.here hx rfl (hb hby d_m23_39) rfl ?_
    exact ht)
  have k15 : Go p.tables e below _ (T13.setTop (mkF m 40 #[.val (.ref r0), .val (.ref r1), .val (.int (Int32.ofNat cs.length))] [(.int (Int32.ofNat (ds ++ cs).length)), (.ref r0)])) := goT k14 (by rw [← Int32.ofNat_add, ← List.length_append]; exact fun _ h => h)
  obtain ⟨T16, h16, X16, e16, W16, st16⟩ := putF X13 hx hZ hown (host := "") (Or.inl (own_w hw 88 rfl)) Via.refl e13 Fq11_3 Fq11_0 (Or.inl (own_w hw 89 rfl)) (own_w hw 48 rfl) (ty := .int) (by decide) rfl rfl (g := (mkF m 40 #[.val (.ref r0), .val (.ref r1), .val (.int (Int32.ofNat cs.length))] [(.int (Int32.ofNat (ds ++ cs).length)), (.ref r0)])) rfl rfl (hb hby d_m23_40)
  have Kp16 : Keep h0 h16 [r0] := Kp11.wr W16 (Or.inl (by simp))
  have Fq11_0_c_16 := Fq11_0.wr W16
  have Fq11_1_c_16 := Fq11_1.other W16 (Or.inr (slot_ne (Or.inl (own_w hw 62 rfl)) (Or.inl (own_w hw 89 rfl)) (by decide) (t := (.array .byte)) (t' := .int) (by decide) (by decide)))
  have Fq11_2_c_16 := Fq11_2.other W16 (Or.inr (slot_ne (Or.inl (own_w hw 64 rfl)) (Or.inl (own_w hw 89 rfl)) (by decide) (t := .byte) (t' := .int) (by decide) (by decide)))
  have Fq11_3_c_16 := Fq11_3.same W16
  have Fq11_4_c_16 := Fq11_4.other W16 (Or.inr (slot_ne (Or.inl (own_w hw 259 rfl)) (Or.inl (own_w hw 89 rfl)) (by decide) (t := .boolean) (t' := .int) (by decide) (by decide)))
  have Fq11_5_c_16 := Fq11_5.other W16 (Ne.symm ne_r0_xb_7)
  have N16 := Fr.snoc X16 N11 g_r0
  have k17 : Go p.tables e below _ (T16.setTop (mkF m 44 #[.val (.ref r0), .val (.ref r1), .val (.int (Int32.ofNat cs.length))] [(.ref r0)])) := fun t ht => st16 t (by
    refine XS.aloadN X16.here hx rfl (hb hby d_m23_43) rfl rfl ?_
    exact ht)
  obtain ⟨fs, hr, hrun, hended, hW, hsame⟩ := X16.leave (v := some (.ref r0)) (fun h => by rw [Bd.returns] at h; cases h)
  refine ⟨_, _, castTop (ef_app001 m r0 r1) ((goT k1 (goT k3 (goT k6 (goT k8 (goT k10 (goT k12 (goT k15 k17))))))) _ (retR X16 hx Bd.returns (hb hby d_m23_44) hr)), hrun, hended, _, _, rfl, ?_, ⟨_, rfl⟩, hW, hsame.mono (by decide) (by decide)⟩
  show Q_app001 Z r0 r1 tv kv ds t1 kz1 cs G1 h0 n0 _ T16.heap _
  rw [e16]
  exact ⟨xb_7, xk_7, rfl, N16, Kp16, sz_xb_7, Fq11_0_c_16, Fq11_1_c_16, Fq11_2_c_16, Fq11_3_c_16, Fq11_4_c_16, Fq11_5_c_16⟩
theorem ef_sba001 (m : MethodId) (x0 : Addr) (x1 : Addr) : entryFrame m #[(.ref x0), (.ref x1)] 2 = mkF m 0 #[.val (.ref x0), .val (.ref x1)] [] := by first | (simp [entryFrame, mkF, argsToLocals, Value.category]; done) | rfl
def Q_sba001 (Z : State) (r0 : Addr) (r1 : Addr) (tv : Addr) (kv : ClassId) (ds : List Int32) (t1 : Addr) (kz1 : ClassId) (cs : List Int32) (G1 : Int32) (h0 : Heap) (n0 : Nat) (v : Option Value) (h : Heap) (L : List Loc) : Prop := ∃ (xb : Addr) (xk : ClassId), v = some (.ref r0) ∧ Fr n0 L ∧ Keep h0 h [r0] ∧ h0.size ≤ xb ∧ Exa Z h r0 "java/lang/StringBuilder" ∧ f3 Z h r0 (.ref xb) ∧ f2 Z h r0 (.int (0 : Int32)) ∧ f4 Z h r0 (.int (Int32.ofNat (ds ++ cs).length)) ∧ f5 Z h r0 (.int (0 : Int32)) ∧ own_A Z h xb xk .byte (Int32.ofNat 34) (own_B 34 (ds ++ cs))
set_option maxRecDepth 65536 in
set_option maxHeartbeats 40000000 in
theorem rm_sba001 (l : Launch) (Z : State) (a0 : Array Value) (hw : HW a0 Z) (ws : List Jvm.Cond) (r0 : Addr) (r1 : Addr) (tv : Addr) (kv : ClassId) (ds : List Int32) (t1 : Addr) (kz1 : ClassId) (cs : List Int32) (G1 : Int32) (h0 : Heap) (n0 : Nat) (Z0 : n0 ≤ h0.size) (E_r0 : Exa Z h0 r0 "java/lang/StringBuilder") (Bv : f3 Z h0 r0 (.ref tv)) (Bc : f2 Z h0 r0 (.int (0 : Int32))) (Bn : f4 Z h0 r0 (.int (Int32.ofNat ds.length))) (Bm : f5 Z h0 r0 (.int (0 : Int32))) (E_r1 : Exa Z h0 r1 "java/lang/String") (Fv_r1 : f1 Z h0 r1 (.ref t1)) (Fc_r1 : f0 Z h0 r1 (.int (0 : Int32))) (S_CS : f12 Z h0 (.int G1)) (V_v : own_A Z h0 tv kv .byte (Int32.ofNat 16) (own_B 16 ds)) (V_t1 : own_A Z h0 t1 kz1 .byte (Int32.ofNat cs.length) (own_b cs)) (P5 : ¬ (G1 = (0 : Int32))) (g_r0 : n0 ≤ r0) (hT : 17 ≤ ds.length + cs.length ∧ ds.length + cs.length ≤ 24 ∧ ds.length ≤ 16) (nvr : tv ≠ r0) (nsr : r1 ≠ r0) (ntr : t1 ≠ r0) (ntv : t1 ≠ tv) (nsv : r1 ≠ tv) :
    own_M l Z h0 (⟨"java/lang/StringBuilder", "append", "(Ljava/lang/String;)Ljava/lang/StringBuilder;"⟩ : MethodName) jdk_67_method_7_code 2 (some (.object "java/lang/StringBuilder")) ws (rR 5 1 34 76) #[(.ref r0), (.ref r1)] (Q_sba001 Z r0 r1 tv kv ds t1 kz1 cs G1 h0 n0) := by
  refine own_body (own := "java/lang/StringBuilder") (plainFor_of_name pn_7) rfl ?_
  intro p e s m below meth c s₁ Bd hZ hh hx hby hml hown X0 e0
  have N0 := Fr.nil n0
  have k1 : Go p.tables e below (s₁.setTop (mkF m 0 #[.val (.ref r0), .val (.ref r1)] [])) (s₁.setTop (mkF m 2 #[.val (.ref r0), .val (.ref r1)] [(.ref r1), (.ref r0)])) := by
    intro t ht
    refine XS.aloadN X0.here hx rfl (hb hby d_m24_0) rfl rfl ?_
    refine XS.aloadN X0.here hx rfl (hb hby d_m24_1) rfl rfl ?_
    exact ht
  have rq2 := superBack X0 hx hZ (y := (⟨"java/lang/AbstractStringBuilder", "append", "(Ljava/lang/String;)Ljava/lang/AbstractStringBuilder;"⟩ : MethodName)) hown (own_w hw 73 rfl) (own_same (own_w hw 74 rfl) (own_face (notFace_of_selects (own_w hw 93 rfl)) (own_w hw 91 rfl) rfl) (by decide)) (own_w hw 74 rfl) (own_w hw 75 rfl) (by decide) (backOf (W := 0) (rm_app001 l Z a0 hw [] r0 r1 tv kv ds t1 kz1 cs G1 h0 n0 Z0 E_r0 Bv Bc Bn Bm E_r1 Fv_r1 Fc_r1 S_CS V_v V_t1 P5 g_r0 hT nvr nsr ntr ntv nsv) hZ (own_w hw 77 rfl) (own_w hw 57 rfl) (by decide) (by decide)) e0 (Ins.self E_r0) (g := (mkF m 2 #[.val (.ref r0), .val (.ref r1)] [(.ref r1), (.ref r0)])) rfl (by rw [hml]; rfl) (own_w hw 77 rfl) (argsL := [(.ref r1)]) (rest := []) (lenOf pd_18 rfl) rfl (by show 2 * 0 + _ ≤ _; exact Nat.le_of_eq rfl) (hb hby d_m24_2) (fun _ _ => ⟨rfl, e0, (by decide : 0 + 1 ≤ _), (by decide : 0 + 34 ≤ _)⟩)
  obtain ⟨_, T2, L2, X2, ⟨xb_2, xk_2, rfl, N2q, K2, Pq2_0, Fq2_0, Fq2_1, Fq2_2, Fq2_3, Fq2_4, Fq2_5⟩, st2⟩ := own_r X0 rq2
  have N2 := Fr.app N0 N2q
  have Kp2 : Keep h0 T2.heap [r0] := (Keep.refl h0 [r0]).trans K2 (allS (Or.inl (by simp)) all0)
  have sz_xb_2 : h0.size ≤ xb_2 := Nat.le_trans (Keep.refl h0 [r0]).1 Pq2_0
  have k3 : Go p.tables e below _ (T2.setTop (mkF m 7 #[.val (.ref r0), .val (.ref r1)] [(.ref r0)])) := fun t ht => st2 t (by
    refine XS.pop X2.here hx rfl (hb hby d_m24_5) rfl rfl ?_
    refine XS.aloadN X2.here hx rfl (hb hby d_m24_6) rfl rfl ?_
    exact ht)
  obtain ⟨fs, hr, hrun, hended, hW, hsame⟩ := X2.leave (v := some (.ref r0)) (fun h => by rw [Bd.returns] at h; cases h)
  refine ⟨_, _, castTop (ef_sba001 m r0 r1) ((goT k1 k3) _ (retR X2 hx Bd.returns (hb hby d_m24_7) hr)), hrun, hended, _, _, rfl, ?_, ⟨_, rfl⟩, hW, hsame.mono (by decide) (by decide)⟩
  show Q_sba001 Z r0 r1 tv kv ds t1 kz1 cs G1 h0 n0 _ T2.heap _
  exact ⟨xb_2, xk_2, rfl, N2, Kp2, sz_xb_2, Fq2_0, Fq2_1, Fq2_2, Fq2_3, Fq2_4, Fq2_5⟩
theorem ef_app010 (m : MethodId) (x0 : Addr) (x1 : Addr) : entryFrame m #[(.ref x0), (.ref x1)] 3 = mkF m 0 #[.val (.ref x0), .val (.ref x1), .unset] [] := by first | (simp [entryFrame, mkF, argsToLocals, Value.category]; done) | rfl
def Q_app010 (Z : State) (r0 : Addr) (r1 : Addr) (tv : Addr) (kv : ClassId) (ds : List Int32) (M : Nat) (t1 : Addr) (kz1 : ClassId) (cs : List Int32) (G1 : Int32) (fm : Value) (h0 : Heap) (n0 : Nat) (v : Option Value) (h : Heap) (L : List Loc) : Prop := ∃ (xb : Addr) (xk : ClassId), v = some (.ref r0) ∧ Fr n0 L ∧ Keep h0 h [r0] ∧ h0.size ≤ xb ∧ Exa Z h r0 "java/lang/StringBuilder" ∧ f3 Z h r0 (.ref xb) ∧ f2 Z h r0 (.int (1 : Int32)) ∧ f4 Z h r0 (.int (Int32.ofNat (ds ++ cs).length)) ∧ f5 Z h r0 (.int (0 : Int32)) ∧ own_A Z h xb xk .byte (Int32.ofNat (2 * M)) (own_U M (ds ++ cs))
set_option maxRecDepth 65536 in
set_option maxHeartbeats 40000000 in
theorem rm_app010 (l : Launch) (Z : State) (a0 : Array Value) (hw : HW a0 Z) (ws : List Jvm.Cond) (r0 : Addr) (r1 : Addr) (tv : Addr) (kv : ClassId) (ds : List Int32) (M : Nat) (t1 : Addr) (kz1 : ClassId) (cs : List Int32) (G1 : Int32) (fm : Value) (h0 : Heap) (n0 : Nat) (Z0 : n0 ≤ h0.size) (E_r0 : Exa Z h0 r0 "java/lang/StringBuilder") (Bv : f3 Z h0 r0 (.ref tv)) (Bc : f2 Z h0 r0 (.int (0 : Int32))) (Bn : f4 Z h0 r0 (.int (Int32.ofNat ds.length))) (Bm : f5 Z h0 r0 (.int (0 : Int32))) (E_r1 : Exa Z h0 r1 "java/lang/String") (Fv_r1 : f1 Z h0 r1 (.ref t1)) (Fc_r1 : f0 Z h0 r1 (.int (1 : Int32))) (S_CS : f12 Z h0 (.int G1)) (S_AD : f8 Z h0 (.int (1 : Int32))) (S_HI : f9 Z h0 (.int (0 : Int32))) (S_LO : f10 Z h0 (.int (8 : Int32))) (S_SI : f11 Z h0 fm) (V_v : own_A Z h0 tv kv .byte (Int32.ofNat M) (own_B M ds)) (V_t1 : own_A Z h0 t1 kz1 .byte (Int32.ofNat (2 * cs.length)) (own_u cs)) (P5 : ¬ (G1 = (0 : Int32))) (g_r0 : n0 ≤ r0) (hM : ds.length + cs.length ≤ M ∧ M ≤ 24) (nvr : tv ≠ r0) (nsr : r1 ≠ r0) (ntr : t1 ≠ r0) (ntv : t1 ≠ tv) (nsv : r1 ≠ tv) (hch : ∀ c ∈ ds, ¬ c < 0 ∧ ¬ (255 : Int32) < c) (rf : fm.isRef = true) :
    own_M l Z h0 (⟨"java/lang/AbstractStringBuilder", "append", "(Ljava/lang/String;)Ljava/lang/AbstractStringBuilder;"⟩ : MethodName) jdk_68_method_22_code 3 (some (.object "java/lang/AbstractStringBuilder")) ws (rR 9 1 48 133) #[(.ref r0), (.ref r1)] (Q_app010 Z r0 r1 tv kv ds M t1 kz1 cs G1 fm h0 n0) := by
  refine own_body (own := "java/lang/AbstractStringBuilder") (plainFor_of_name pn_4) rfl ?_
  intro p e s m below meth c s₁ Bd hZ hh hx hby hml hown X0 e0
  have N0 := Fr.nil n0
  have k1 : Go p.tables e below (s₁.setTop (mkF m 0 #[.val (.ref r0), .val (.ref r1), .unset] [])) (s₁.setTop (mkF m 10 #[.val (.ref r0), .val (.ref r1), .unset] [(.ref r1)])) := by
    intro t ht
    refine XS.aloadN X0.here hx rfl (hb hby d_m23_0) rfl rfl ?_
    refine XS.ifnonnullYes X0.here hx rfl (pc0 := 1) (pc' := 9) rfl (hb hby d_m23_1) rfl (by decide) (by decide) ?_
    refine XS.aloadN X0.here hx rfl (hb hby d_m23_9) rfl rfl ?_
    exact ht
  obtain ⟨cq2, kq2, q2a, q2b, q2c⟩ := isOf hZ e0 E_r1
  have rq2 := X0.virtualBack hx (y := (⟨"java/lang/String", "length", "()I"⟩ : MethodName)) (z := (⟨"java/lang/String", "length", "()I"⟩ : MethodName)) hown (mvT hZ (own_w hw 78 rfl)) (mvT hZ (own_w hw 79 rfl)) (notFace_of_selects (args := #[]) (mvT hZ (own_w hw 81 rfl))) (mvT hZ (own_w hw 81 rfl)) (mvT hZ (own_w hw 80 rfl)) (by decide) (backOf (W := 0) (rm_len1 l Z a0 hw [] r1 t1 kz1 cs G1 h0 n0 Z0 E_r1 Fv_r1 Fc_r1 S_CS V_t1 P5 (by omega : cs.length ≤ 64)) hZ (own_w hw 82 rfl) (own_w hw 2 rfl) (by decide) (by decide)) q2a q2c (g := (mkF m 10 #[.val (.ref r0), .val (.ref r1), .unset] [(.ref r1)])) rfl (by rw [hml]; rfl) (Steps.refl _) (argsL := []) (rest := []) (lenOf pd_15 rfl) rfl (by show 2 * 0 + _ ≤ _; exact Nat.le_of_eq rfl) (hb hby d_m23_10) (fun _ _ => ⟨rfl, e0, (by decide : 0 + 0 ≤ _), (by decide : 0 + 0 ≤ _)⟩)
  obtain ⟨_, T2, L2, X2, ⟨rfl, N2q, eq2⟩, st2⟩ := own_r X0 rq2
  have N2 := Fr.app N0 N2q
  have k3 : Go p.tables e below _ (T2.setTop (mkF m 16 #[.val (.ref r0), .val (.ref r1), .val (.int (Int32.ofNat cs.length))] [(.ref r0), (.ref r0)])) := fun t ht => st2 t (by
    refine XS.istoreN X2.here hx rfl (hb hby d_m23_13) rfl (l' := #[.val (.ref r0), .val (.ref r1), .val (.int (Int32.ofNat cs.length))]) rfl ?_
    refine XS.aloadN X2.here hx rfl (hb hby d_m23_14) rfl rfl ?_
    refine XS.aloadN X2.here hx rfl (hb hby d_m23_15) rfl rfl ?_
    exact ht)
  obtain ⟨T4, X4, e4, st4⟩ := getF X2 hx hZ hown (host := "") (Or.inl (own_w hw 88 rfl)) Via.refl eq2 Bn (g := (mkF m 16 #[.val (.ref r0), .val (.ref r1), .val (.int (Int32.ofNat cs.length))] [(.ref r0), (.ref r0)])) rfl rfl (hb hby d_m23_16)
  have k5 : Go p.tables e below _ (T4.setTop (mkF m 21 #[.val (.ref r0), .val (.ref r1), .val (.int (Int32.ofNat cs.length))] [(.int ((Int32.ofNat ds.length) + (Int32.ofNat cs.length))), (.ref r0)])) := fun t ht => st4 t (by
    refine XS.iloadN X4.here hx rfl (hb hby d_m23_19) rfl ?_
    refine XS.iadd X4.here hx rfl (hb hby d_m23_20) rfl ?_
    exact ht)
  have k6 : Go p.tables e below _ (T4.setTop (mkF m 21 #[.val (.ref r0), .val (.ref r1), .val (.int (Int32.ofNat cs.length))] [(.int (Int32.ofNat (ds.length + cs.length))), (.ref r0)])) := goT k5 (by rw [← Int32.ofNat_add]; exact fun _ h => h)
  obtain ⟨cq7, q7, q7'⟩ := E_r0.cell
  have rq7 := X4.privateBack hx (y := (⟨"java/lang/AbstractStringBuilder", "ensureCapacityInternal", "(I)V"⟩ : MethodName)) hown (mvT hZ (own_w hw 90 rfl)) (mvT hZ (own_w hw 91 rfl)) (own_selp2 (mvT hZ (own_w hw 93 rfl) (args := #[])) (mvT hZ (own_w hw 91 rfl)) (Cond.privateMethod_at (mvP hZ (own_w hw 92 rfl) (args := #[]))) (by decide)) (Cond.privateMethod_at (mvP hZ (own_w hw 92 rfl) (args := #[]))) (mvT hZ (own_w hw 94 rfl)) (by decide) (backOf (W := 0) (rm_fit0 l Z a0 hw [] r0 (ds.length + cs.length) tv kv ds M h0 n0 Z0 Bv Bc V_v (by omega : (ds.length + cs.length) ≤ M ∧ M ≤ 64)) hZ (own_w hw 94 rfl) (own_w hw 57 rfl) (by decide) (by decide)) (g := (mkF m 21 #[.val (.ref r0), .val (.ref r1), .val (.int (Int32.ofNat cs.length))] [(.int (Int32.ofNat (ds.length + cs.length))), (.ref r0)])) rfl (by rw [hml]; rfl) (Steps.refl _) (a := r0) (by rw [e4]; exact q7) q7' (argsL := [(.int (Int32.ofNat (ds.length + cs.length)))]) (rest := []) (lenOf pd_16 rfl) rfl (by show 2 * 0 + _ ≤ _; exact Nat.le_of_eq rfl) (hb hby d_m23_21) (fun _ _ => ⟨rfl, e4, (by decide : 0 + 0 ≤ _), (by decide : 0 + 0 ≤ _)⟩)
  obtain ⟨_, T7, L7, X7, ⟨rfl, N7q, eq7⟩, st7⟩ := own_r X4 rq7
  have N7 := Fr.app N2 N7q
  have k8 : Go p.tables e below _ (T7.setTop (mkF m 26 #[.val (.ref r0), .val (.ref r1), .val (.int (Int32.ofNat cs.length))] [(.ref r0), (.ref r0)])) := fun t ht => st7 t (by
    refine XS.aloadN X7.here hx rfl (hb hby d_m23_24) rfl rfl ?_
    refine XS.aloadN X7.here hx rfl (hb hby d_m23_25) rfl rfl ?_
    exact ht)
  obtain ⟨T9, X9, e9, st9⟩ := getF X7 hx hZ hown (host := "") (Or.inl (own_w hw 88 rfl)) Via.refl eq7 Bn (g := (mkF m 26 #[.val (.ref r0), .val (.ref r1), .val (.int (Int32.ofNat cs.length))] [(.ref r0), (.ref r0)])) rfl rfl (hb hby d_m23_26)
  have k10 : Go p.tables e below _ (T9.setTop (mkF m 30 #[.val (.ref r0), .val (.ref r1), .val (.int (Int32.ofNat cs.length))] [(.ref r1), (.int (Int32.ofNat ds.length)), (.ref r0)])) := fun t ht => st9 t (by
    refine XS.aloadN X9.here hx rfl (hb hby d_m23_29) rfl rfl ?_
    exact ht)
  obtain ⟨cq11, q11, q11'⟩ := E_r0.cell
  have rq11 := X9.privateBack hx (y := (⟨"java/lang/AbstractStringBuilder", "putStringAt", "(ILjava/lang/String;)V"⟩ : MethodName)) hown (mvT hZ (own_w hw 95 rfl)) (mvT hZ (own_w hw 96 rfl)) (own_selp2 (mvT hZ (own_w hw 98 rfl) (args := #[])) (mvT hZ (own_w hw 96 rfl)) (Cond.privateMethod_at (mvP hZ (own_w hw 97 rfl) (args := #[]))) (by decide)) (Cond.privateMethod_at (mvP hZ (own_w hw 97 rfl) (args := #[]))) (mvT hZ (own_w hw 99 rfl)) (by decide) (backOf (W := 0) (rm_put01 l Z a0 hw [] r0 ds.length r1 tv kv ds M t1 kz1 cs G1 fm h0 n0 Z0 E_r0 Bv Bc Bn Bm E_r1 Fv_r1 Fc_r1 S_CS S_AD S_HI S_LO S_SI V_v V_t1 P5 g_r0 (by omega : ds.length + cs.length ≤ M ∧ M ≤ 24) nvr nsr ntr ntv nsv hch rf rfl) hZ (own_w hw 99 rfl) (own_w hw 57 rfl) (by decide) (by decide)) (g := (mkF m 30 #[.val (.ref r0), .val (.ref r1), .val (.int (Int32.ofNat cs.length))] [(.ref r1), (.int (Int32.ofNat ds.length)), (.ref r0)])) rfl (by rw [hml]; rfl) (Steps.refl _) (a := r0) (by rw [e9]; exact q11) q11' (argsL := [(.int (Int32.ofNat ds.length)), (.ref r1)]) (rest := []) (lenOf pd_17 rfl) rfl (by show 2 * 0 + _ ≤ _; exact Nat.le_of_eq rfl) (hb hby d_m23_30) (fun _ _ => ⟨rfl, e9, (by decide : 0 + 1 ≤ _), (by decide : 0 + 48 ≤ _)⟩)
  obtain ⟨_, T11, L11, X11, ⟨xb_11, xk_11, rfl, N11q, K11, Pq11_0, Fq11_0, Fq11_1, Fq11_2, Fq11_3, Fq11_4, Fq11_5⟩, st11⟩ := own_r X9 rq11
  have N11 := Fr.app N7 N11q
  have Kp11 : Keep h0 T11.heap [r0] := (Keep.refl h0 [r0]).trans K11 (allS (Or.inl (by simp)) all0)
  have ne_r0_xb_11 : r0 ≠ xb_11 := Nat.ne_of_lt (Nat.lt_of_lt_of_le E_r0.lt Pq11_0)
  have sz_xb_11 : h0.size ≤ xb_11 := Nat.le_trans (Keep.refl h0 [r0]).1 Pq11_0
  have k12 : Go p.tables e below _ (T11.setTop (mkF m 35 #[.val (.ref r0), .val (.ref r1), .val (.int (Int32.ofNat cs.length))] [(.ref r0), (.ref r0)])) := fun t ht => st11 t (by
    refine XS.aloadN X11.here hx rfl (hb hby d_m23_33) rfl rfl ?_
    refine XS.dup X11.here hx rfl (hb hby d_m23_34) rfl rfl ?_
    exact ht)
  obtain ⟨T13, X13, e13, st13⟩ := getF X11 hx hZ hown (host := "") (Or.inl (own_w hw 88 rfl)) Via.refl rfl Fq11_3 (g := (mkF m 35 #[.val (.ref r0), .val (.ref r1), .val (.int (Int32.ofNat cs.length))] [(.ref r0), (.ref r0)])) rfl rfl (hb hby d_m23_35)
  have k14 : Go p.tables e below _ (T13.setTop (mkF m 40 #[.val (.ref r0), .val (.ref r1), .val (.int (Int32.ofNat cs.length))] [(.int ((Int32.ofNat ds.length) + (Int32.ofNat cs.length))), (.ref r0)])) := fun t ht => st13 t (by
    refine XS.iloadN X13.here hx rfl (hb hby d_m23_38) rfl ?_
    refine XS.iadd X13.here hx rfl (hb hby d_m23_39) rfl ?_
    exact ht)
  have k15 : Go p.tables e below _ (T13.setTop (mkF m 40 #[.val (.ref r0), .val (.ref r1), .val (.int (Int32.ofNat cs.length))] [(.int (Int32.ofNat (ds ++ cs).length)), (.ref r0)])) := goT k14 (by rw [← Int32.ofNat_add, ← List.length_append]; exact fun _ h => h)
  obtain ⟨T16, h16, X16, e16, W16, st16⟩ := putF X13 hx hZ hown (host := "") (Or.inl (own_w hw 88 rfl)) Via.refl e13 Fq11_3 Fq11_0 (Or.inl (own_w hw 89 rfl)) (own_w hw 48 rfl) (ty := .int) (by decide) rfl rfl (g := (mkF m 40 #[.val (.ref r0), .val (.ref r1), .val (.int (Int32.ofNat cs.length))] [(.int (Int32.ofNat (ds ++ cs).length)), (.ref r0)])) rfl rfl (hb hby d_m23_40)
  have Kp16 : Keep h0 h16 [r0] := Kp11.wr W16 (Or.inl (by simp))
  have Fq11_0_c_16 := Fq11_0.wr W16
  have Fq11_1_c_16 := Fq11_1.other W16 (Or.inr (slot_ne (Or.inl (own_w hw 62 rfl)) (Or.inl (own_w hw 89 rfl)) (by decide) (t := (.array .byte)) (t' := .int) (by decide) (by decide)))
  have Fq11_2_c_16 := Fq11_2.other W16 (Or.inr (slot_ne (Or.inl (own_w hw 64 rfl)) (Or.inl (own_w hw 89 rfl)) (by decide) (t := .byte) (t' := .int) (by decide) (by decide)))
  have Fq11_3_c_16 := Fq11_3.same W16
  have Fq11_4_c_16 := Fq11_4.other W16 (Or.inr (slot_ne (Or.inl (own_w hw 259 rfl)) (Or.inl (own_w hw 89 rfl)) (by decide) (t := .boolean) (t' := .int) (by decide) (by decide)))
  have Fq11_5_c_16 := Fq11_5.other W16 (Ne.symm ne_r0_xb_11)
  have N16 := Fr.snoc X16 N11 g_r0
  have k17 : Go p.tables e below _ (T16.setTop (mkF m 44 #[.val (.ref r0), .val (.ref r1), .val (.int (Int32.ofNat cs.length))] [(.ref r0)])) := fun t ht => st16 t (by
    refine XS.aloadN X16.here hx rfl (hb hby d_m23_43) rfl rfl ?_
    exact ht)
  obtain ⟨fs, hr, hrun, hended, hW, hsame⟩ := X16.leave (v := some (.ref r0)) (fun h => by rw [Bd.returns] at h; cases h)
  refine ⟨_, _, castTop (ef_app010 m r0 r1) ((goT k1 (goT k3 (goT k6 (goT k8 (goT k10 (goT k12 (goT k15 k17))))))) _ (retR X16 hx Bd.returns (hb hby d_m23_44) hr)), hrun, hended, _, _, rfl, ?_, ⟨_, rfl⟩, hW, hsame.mono (by decide) (by decide)⟩
  show Q_app010 Z r0 r1 tv kv ds M t1 kz1 cs G1 fm h0 n0 _ T16.heap _
  rw [e16]
  exact ⟨xb_11, xk_11, rfl, N16, Kp16, sz_xb_11, Fq11_0_c_16, Fq11_1_c_16, Fq11_2_c_16, Fq11_3_c_16, Fq11_4_c_16, Fq11_5_c_16⟩
theorem ef_sba010 (m : MethodId) (x0 : Addr) (x1 : Addr) : entryFrame m #[(.ref x0), (.ref x1)] 2 = mkF m 0 #[.val (.ref x0), .val (.ref x1)] [] := by first | (simp [entryFrame, mkF, argsToLocals, Value.category]; done) | rfl
def Q_sba010 (Z : State) (r0 : Addr) (r1 : Addr) (tv : Addr) (kv : ClassId) (ds : List Int32) (M : Nat) (t1 : Addr) (kz1 : ClassId) (cs : List Int32) (G1 : Int32) (fm : Value) (h0 : Heap) (n0 : Nat) (v : Option Value) (h : Heap) (L : List Loc) : Prop := ∃ (xb : Addr) (xk : ClassId), v = some (.ref r0) ∧ Fr n0 L ∧ Keep h0 h [r0] ∧ h0.size ≤ xb ∧ Exa Z h r0 "java/lang/StringBuilder" ∧ f3 Z h r0 (.ref xb) ∧ f2 Z h r0 (.int (1 : Int32)) ∧ f4 Z h r0 (.int (Int32.ofNat (ds ++ cs).length)) ∧ f5 Z h r0 (.int (0 : Int32)) ∧ own_A Z h xb xk .byte (Int32.ofNat (2 * M)) (own_U M (ds ++ cs))
set_option maxRecDepth 65536 in
set_option maxHeartbeats 40000000 in
theorem rm_sba010 (l : Launch) (Z : State) (a0 : Array Value) (hw : HW a0 Z) (ws : List Jvm.Cond) (r0 : Addr) (r1 : Addr) (tv : Addr) (kv : ClassId) (ds : List Int32) (M : Nat) (t1 : Addr) (kz1 : ClassId) (cs : List Int32) (G1 : Int32) (fm : Value) (h0 : Heap) (n0 : Nat) (Z0 : n0 ≤ h0.size) (E_r0 : Exa Z h0 r0 "java/lang/StringBuilder") (Bv : f3 Z h0 r0 (.ref tv)) (Bc : f2 Z h0 r0 (.int (0 : Int32))) (Bn : f4 Z h0 r0 (.int (Int32.ofNat ds.length))) (Bm : f5 Z h0 r0 (.int (0 : Int32))) (E_r1 : Exa Z h0 r1 "java/lang/String") (Fv_r1 : f1 Z h0 r1 (.ref t1)) (Fc_r1 : f0 Z h0 r1 (.int (1 : Int32))) (S_CS : f12 Z h0 (.int G1)) (S_AD : f8 Z h0 (.int (1 : Int32))) (S_HI : f9 Z h0 (.int (0 : Int32))) (S_LO : f10 Z h0 (.int (8 : Int32))) (S_SI : f11 Z h0 fm) (V_v : own_A Z h0 tv kv .byte (Int32.ofNat M) (own_B M ds)) (V_t1 : own_A Z h0 t1 kz1 .byte (Int32.ofNat (2 * cs.length)) (own_u cs)) (P5 : ¬ (G1 = (0 : Int32))) (g_r0 : n0 ≤ r0) (hM : ds.length + cs.length ≤ M ∧ M ≤ 24) (nvr : tv ≠ r0) (nsr : r1 ≠ r0) (ntr : t1 ≠ r0) (ntv : t1 ≠ tv) (nsv : r1 ≠ tv) (hch : ∀ c ∈ ds, ¬ c < 0 ∧ ¬ (255 : Int32) < c) (rf : fm.isRef = true) :
    own_M l Z h0 (⟨"java/lang/StringBuilder", "append", "(Ljava/lang/String;)Ljava/lang/StringBuilder;"⟩ : MethodName) jdk_67_method_7_code 2 (some (.object "java/lang/StringBuilder")) ws (rR 10 1 48 147) #[(.ref r0), (.ref r1)] (Q_sba010 Z r0 r1 tv kv ds M t1 kz1 cs G1 fm h0 n0) := by
  refine own_body (own := "java/lang/StringBuilder") (plainFor_of_name pn_7) rfl ?_
  intro p e s m below meth c s₁ Bd hZ hh hx hby hml hown X0 e0
  have N0 := Fr.nil n0
  have k1 : Go p.tables e below (s₁.setTop (mkF m 0 #[.val (.ref r0), .val (.ref r1)] [])) (s₁.setTop (mkF m 2 #[.val (.ref r0), .val (.ref r1)] [(.ref r1), (.ref r0)])) := by
    intro t ht
    refine XS.aloadN X0.here hx rfl (hb hby d_m24_0) rfl rfl ?_
    refine XS.aloadN X0.here hx rfl (hb hby d_m24_1) rfl rfl ?_
    exact ht
  have rq2 := superBack X0 hx hZ (y := (⟨"java/lang/AbstractStringBuilder", "append", "(Ljava/lang/String;)Ljava/lang/AbstractStringBuilder;"⟩ : MethodName)) hown (own_w hw 73 rfl) (own_same (own_w hw 74 rfl) (own_face (notFace_of_selects (own_w hw 93 rfl)) (own_w hw 91 rfl) rfl) (by decide)) (own_w hw 74 rfl) (own_w hw 75 rfl) (by decide) (backOf (W := 0) (rm_app010 l Z a0 hw [] r0 r1 tv kv ds M t1 kz1 cs G1 fm h0 n0 Z0 E_r0 Bv Bc Bn Bm E_r1 Fv_r1 Fc_r1 S_CS S_AD S_HI S_LO S_SI V_v V_t1 P5 g_r0 hM nvr nsr ntr ntv nsv hch rf) hZ (own_w hw 77 rfl) (own_w hw 57 rfl) (by decide) (by decide)) e0 (Ins.self E_r0) (g := (mkF m 2 #[.val (.ref r0), .val (.ref r1)] [(.ref r1), (.ref r0)])) rfl (by rw [hml]; rfl) (own_w hw 77 rfl) (argsL := [(.ref r1)]) (rest := []) (lenOf pd_18 rfl) rfl (by show 2 * 0 + _ ≤ _; exact Nat.le_of_eq rfl) (hb hby d_m24_2) (fun _ _ => ⟨rfl, e0, (by decide : 0 + 1 ≤ _), (by decide : 0 + 48 ≤ _)⟩)
  obtain ⟨_, T2, L2, X2, ⟨xb_2, xk_2, rfl, N2q, K2, Pq2_0, Fq2_0, Fq2_1, Fq2_2, Fq2_3, Fq2_4, Fq2_5⟩, st2⟩ := own_r X0 rq2
  have N2 := Fr.app N0 N2q
  have Kp2 : Keep h0 T2.heap [r0] := (Keep.refl h0 [r0]).trans K2 (allS (Or.inl (by simp)) all0)
  have sz_xb_2 : h0.size ≤ xb_2 := Nat.le_trans (Keep.refl h0 [r0]).1 Pq2_0
  have k3 : Go p.tables e below _ (T2.setTop (mkF m 7 #[.val (.ref r0), .val (.ref r1)] [(.ref r0)])) := fun t ht => st2 t (by
    refine XS.pop X2.here hx rfl (hb hby d_m24_5) rfl rfl ?_
    refine XS.aloadN X2.here hx rfl (hb hby d_m24_6) rfl rfl ?_
    exact ht)
  obtain ⟨fs, hr, hrun, hended, hW, hsame⟩ := X2.leave (v := some (.ref r0)) (fun h => by rw [Bd.returns] at h; cases h)
  refine ⟨_, _, castTop (ef_sba010 m r0 r1) ((goT k1 k3) _ (retR X2 hx Bd.returns (hb hby d_m24_7) hr)), hrun, hended, _, _, rfl, ?_, ⟨_, rfl⟩, hW, hsame.mono (by decide) (by decide)⟩
  show Q_sba010 Z r0 r1 tv kv ds M t1 kz1 cs G1 fm h0 n0 _ T2.heap _
  exact ⟨xb_2, xk_2, rfl, N2, Kp2, sz_xb_2, Fq2_0, Fq2_1, Fq2_2, Fq2_3, Fq2_4, Fq2_5⟩
theorem ef_app100 (m : MethodId) (x0 : Addr) (x1 : Addr) : entryFrame m #[(.ref x0), (.ref x1)] 3 = mkF m 0 #[.val (.ref x0), .val (.ref x1), .unset] [] := by first | (simp [entryFrame, mkF, argsToLocals, Value.category]; done) | rfl
def Q_app100 (Z : State) (r0 : Addr) (r1 : Addr) (tv : Addr) (kv : ClassId) (ds : List Int32) (M : Nat) (t1 : Addr) (kz1 : ClassId) (cs : List Int32) (G1 : Int32) (fm : Value) (h0 : Heap) (n0 : Nat) (v : Option Value) (h : Heap) (L : List Loc) : Prop := v = some (.ref r0) ∧ Fr n0 L ∧ Keep h0 h [tv, r0] ∧ Exa Z h r0 "java/lang/StringBuilder" ∧ f3 Z h r0 (.ref tv) ∧ f2 Z h r0 (.int (1 : Int32)) ∧ f4 Z h r0 (.int (Int32.ofNat (ds ++ cs).length)) ∧ f5 Z h r0 (.int (0 : Int32)) ∧ own_A Z h tv kv .byte (Int32.ofNat (2 * M)) (own_U M (ds ++ cs))
set_option maxRecDepth 65536 in
set_option maxHeartbeats 40000000 in
theorem rm_app100 (l : Launch) (Z : State) (a0 : Array Value) (hw : HW a0 Z) (ws : List Jvm.Cond) (r0 : Addr) (r1 : Addr) (tv : Addr) (kv : ClassId) (ds : List Int32) (M : Nat) (t1 : Addr) (kz1 : ClassId) (cs : List Int32) (G1 : Int32) (fm : Value) (h0 : Heap) (n0 : Nat) (Z0 : n0 ≤ h0.size) (E_r0 : Exa Z h0 r0 "java/lang/StringBuilder") (Bv : f3 Z h0 r0 (.ref tv)) (Bc : f2 Z h0 r0 (.int (1 : Int32))) (Bn : f4 Z h0 r0 (.int (Int32.ofNat ds.length))) (Bm : f5 Z h0 r0 (.int (0 : Int32))) (E_r1 : Exa Z h0 r1 "java/lang/String") (Fv_r1 : f1 Z h0 r1 (.ref t1)) (Fc_r1 : f0 Z h0 r1 (.int (0 : Int32))) (S_CS : f12 Z h0 (.int G1)) (S_AD : f8 Z h0 (.int (1 : Int32))) (S_HI : f9 Z h0 (.int (0 : Int32))) (S_LO : f10 Z h0 (.int (8 : Int32))) (S_SI : f11 Z h0 fm) (V_v : own_A Z h0 tv kv .byte (Int32.ofNat (2 * M)) (own_U M ds)) (V_t1 : own_A Z h0 t1 kz1 .byte (Int32.ofNat cs.length) (own_b cs)) (P5 : ¬ (G1 = (0 : Int32))) (g_r0 : n0 ≤ r0) (g_tv : n0 ≤ tv) (hM : ds.length + cs.length ≤ M ∧ M ≤ 24) (nvr : tv ≠ r0) (nsr : r1 ≠ r0) (ntr : t1 ≠ r0) (ntv : t1 ≠ tv) (nsv : r1 ≠ tv) (hcc : ∀ c ∈ cs, ¬ c < 0 ∧ ¬ (255 : Int32) < c) (rf : fm.isRef = true) :
    own_M l Z h0 (⟨"java/lang/AbstractStringBuilder", "append", "(Ljava/lang/String;)Ljava/lang/AbstractStringBuilder;"⟩ : MethodName) jdk_68_method_22_code 3 (some (.object "java/lang/AbstractStringBuilder")) ws (rR 8 0 0 122) #[(.ref r0), (.ref r1)] (Q_app100 Z r0 r1 tv kv ds M t1 kz1 cs G1 fm h0 n0) := by
  refine own_body (own := "java/lang/AbstractStringBuilder") (plainFor_of_name pn_4) rfl ?_
  intro p e s m below meth c s₁ Bd hZ hh hx hby hml hown X0 e0
  have N0 := Fr.nil n0
  have k1 : Go p.tables e below (s₁.setTop (mkF m 0 #[.val (.ref r0), .val (.ref r1), .unset] [])) (s₁.setTop (mkF m 10 #[.val (.ref r0), .val (.ref r1), .unset] [(.ref r1)])) := by
    intro t ht
    refine XS.aloadN X0.here hx rfl (hb hby d_m23_0) rfl rfl ?_
    refine XS.ifnonnullYes X0.here hx rfl (pc0 := 1) (pc' := 9) rfl (hb hby d_m23_1) rfl (by decide) (by decide) ?_
    refine XS.aloadN X0.here hx rfl (hb hby d_m23_9) rfl rfl ?_
    exact ht
  obtain ⟨cq2, kq2, q2a, q2b, q2c⟩ := isOf hZ e0 E_r1
  have rq2 := X0.virtualBack hx (y := (⟨"java/lang/String", "length", "()I"⟩ : MethodName)) (z := (⟨"java/lang/String", "length", "()I"⟩ : MethodName)) hown (mvT hZ (own_w hw 78 rfl)) (mvT hZ (own_w hw 79 rfl)) (notFace_of_selects (args := #[]) (mvT hZ (own_w hw 81 rfl))) (mvT hZ (own_w hw 81 rfl)) (mvT hZ (own_w hw 80 rfl)) (by decide) (backOf (W := 0) (rm_len0 l Z a0 hw [] r1 t1 kz1 cs G1 h0 n0 Z0 E_r1 Fv_r1 Fc_r1 S_CS V_t1 P5 (by omega : cs.length ≤ 64)) hZ (own_w hw 82 rfl) (own_w hw 2 rfl) (by decide) (by decide)) q2a q2c (g := (mkF m 10 #[.val (.ref r0), .val (.ref r1), .unset] [(.ref r1)])) rfl (by rw [hml]; rfl) (Steps.refl _) (argsL := []) (rest := []) (lenOf pd_15 rfl) rfl (by show 2 * 0 + _ ≤ _; exact Nat.le_of_eq rfl) (hb hby d_m23_10) (fun _ _ => ⟨rfl, e0, (by decide : 0 + 0 ≤ _), (by decide : 0 + 0 ≤ _)⟩)
  obtain ⟨_, T2, L2, X2, ⟨rfl, N2q, eq2⟩, st2⟩ := own_r X0 rq2
  have N2 := Fr.app N0 N2q
  have k3 : Go p.tables e below _ (T2.setTop (mkF m 16 #[.val (.ref r0), .val (.ref r1), .val (.int (Int32.ofNat cs.length))] [(.ref r0), (.ref r0)])) := fun t ht => st2 t (by
    refine XS.istoreN X2.here hx rfl (hb hby d_m23_13) rfl (l' := #[.val (.ref r0), .val (.ref r1), .val (.int (Int32.ofNat cs.length))]) rfl ?_
    refine XS.aloadN X2.here hx rfl (hb hby d_m23_14) rfl rfl ?_
    refine XS.aloadN X2.here hx rfl (hb hby d_m23_15) rfl rfl ?_
    exact ht)
  obtain ⟨T4, X4, e4, st4⟩ := getF X2 hx hZ hown (host := "") (Or.inl (own_w hw 88 rfl)) Via.refl eq2 Bn (g := (mkF m 16 #[.val (.ref r0), .val (.ref r1), .val (.int (Int32.ofNat cs.length))] [(.ref r0), (.ref r0)])) rfl rfl (hb hby d_m23_16)
  have k5 : Go p.tables e below _ (T4.setTop (mkF m 21 #[.val (.ref r0), .val (.ref r1), .val (.int (Int32.ofNat cs.length))] [(.int ((Int32.ofNat ds.length) + (Int32.ofNat cs.length))), (.ref r0)])) := fun t ht => st4 t (by
    refine XS.iloadN X4.here hx rfl (hb hby d_m23_19) rfl ?_
    refine XS.iadd X4.here hx rfl (hb hby d_m23_20) rfl ?_
    exact ht)
  have k6 : Go p.tables e below _ (T4.setTop (mkF m 21 #[.val (.ref r0), .val (.ref r1), .val (.int (Int32.ofNat cs.length))] [(.int (Int32.ofNat (ds.length + cs.length))), (.ref r0)])) := goT k5 (by rw [← Int32.ofNat_add]; exact fun _ h => h)
  obtain ⟨cq7, q7, q7'⟩ := E_r0.cell
  have rq7 := X4.privateBack hx (y := (⟨"java/lang/AbstractStringBuilder", "ensureCapacityInternal", "(I)V"⟩ : MethodName)) hown (mvT hZ (own_w hw 90 rfl)) (mvT hZ (own_w hw 91 rfl)) (own_selp2 (mvT hZ (own_w hw 93 rfl) (args := #[])) (mvT hZ (own_w hw 91 rfl)) (Cond.privateMethod_at (mvP hZ (own_w hw 92 rfl) (args := #[]))) (by decide)) (Cond.privateMethod_at (mvP hZ (own_w hw 92 rfl) (args := #[]))) (mvT hZ (own_w hw 94 rfl)) (by decide) (backOf (W := 0) (rm_fit1 l Z a0 hw [] r0 (ds.length + cs.length) tv kv ds M h0 n0 Z0 Bv Bc V_v (by omega : (ds.length + cs.length) ≤ M ∧ M ≤ 64)) hZ (own_w hw 94 rfl) (own_w hw 57 rfl) (by decide) (by decide)) (g := (mkF m 21 #[.val (.ref r0), .val (.ref r1), .val (.int (Int32.ofNat cs.length))] [(.int (Int32.ofNat (ds.length + cs.length))), (.ref r0)])) rfl (by rw [hml]; rfl) (Steps.refl _) (a := r0) (by rw [e4]; exact q7) q7' (argsL := [(.int (Int32.ofNat (ds.length + cs.length)))]) (rest := []) (lenOf pd_16 rfl) rfl (by show 2 * 0 + _ ≤ _; exact Nat.le_of_eq rfl) (hb hby d_m23_21) (fun _ _ => ⟨rfl, e4, (by decide : 0 + 0 ≤ _), (by decide : 0 + 0 ≤ _)⟩)
  obtain ⟨_, T7, L7, X7, ⟨rfl, N7q, eq7⟩, st7⟩ := own_r X4 rq7
  have N7 := Fr.app N2 N7q
  have k8 : Go p.tables e below _ (T7.setTop (mkF m 26 #[.val (.ref r0), .val (.ref r1), .val (.int (Int32.ofNat cs.length))] [(.ref r0), (.ref r0)])) := fun t ht => st7 t (by
    refine XS.aloadN X7.here hx rfl (hb hby d_m23_24) rfl rfl ?_
    refine XS.aloadN X7.here hx rfl (hb hby d_m23_25) rfl rfl ?_
    exact ht)
  obtain ⟨T9, X9, e9, st9⟩ := getF X7 hx hZ hown (host := "") (Or.inl (own_w hw 88 rfl)) Via.refl eq7 Bn (g := (mkF m 26 #[.val (.ref r0), .val (.ref r1), .val (.int (Int32.ofNat cs.length))] [(.ref r0), (.ref r0)])) rfl rfl (hb hby d_m23_26)
  have k10 : Go p.tables e below _ (T9.setTop (mkF m 30 #[.val (.ref r0), .val (.ref r1), .val (.int (Int32.ofNat cs.length))] [(.ref r1), (.int (Int32.ofNat ds.length)), (.ref r0)])) := fun t ht => st9 t (by
    refine XS.aloadN X9.here hx rfl (hb hby d_m23_29) rfl rfl ?_
    exact ht)
  obtain ⟨cq11, q11, q11'⟩ := E_r0.cell
  have rq11 := X9.privateBack hx (y := (⟨"java/lang/AbstractStringBuilder", "putStringAt", "(ILjava/lang/String;)V"⟩ : MethodName)) hown (mvT hZ (own_w hw 95 rfl)) (mvT hZ (own_w hw 96 rfl)) (own_selp2 (mvT hZ (own_w hw 98 rfl) (args := #[])) (mvT hZ (own_w hw 96 rfl)) (Cond.privateMethod_at (mvP hZ (own_w hw 97 rfl) (args := #[]))) (by decide)) (Cond.privateMethod_at (mvP hZ (own_w hw 97 rfl) (args := #[]))) (mvT hZ (own_w hw 99 rfl)) (by decide) (backOf (W := 0) (rm_put10 l Z a0 hw [] r0 ds.length r1 tv kv ds M t1 kz1 cs G1 fm h0 n0 Z0 E_r0 Bv Bc Bn Bm E_r1 Fv_r1 Fc_r1 S_CS S_AD S_HI S_LO S_SI V_v V_t1 P5 g_tv (by omega : ds.length + cs.length ≤ M ∧ M ≤ 64) nvr nsr ntr ntv nsv hcc rf rfl) hZ (own_w hw 99 rfl) (own_w hw 57 rfl) (by decide) (by decide)) (g := (mkF m 30 #[.val (.ref r0), .val (.ref r1), .val (.int (Int32.ofNat cs.length))] [(.ref r1), (.int (Int32.ofNat ds.length)), (.ref r0)])) rfl (by rw [hml]; rfl) (Steps.refl _) (a := r0) (by rw [e9]; exact q11) q11' (argsL := [(.int (Int32.ofNat ds.length)), (.ref r1)]) (rest := []) (lenOf pd_17 rfl) rfl (by show 2 * 0 + _ ≤ _; exact Nat.le_of_eq rfl) (hb hby d_m23_30) (fun _ _ => ⟨rfl, e9, (by decide : 0 + 0 ≤ _), (by decide : 0 + 0 ≤ _)⟩)
  obtain ⟨_, T11, L11, X11, ⟨rfl, N11q, K11, Fq11_0, Fq11_1, Fq11_2, Fq11_3, Fq11_4, Fq11_5⟩, st11⟩ := own_r X9 rq11
  have N11 := Fr.app N7 N11q
  have Kp11 : Keep h0 T11.heap [tv, r0] := (Keep.refl h0 [tv, r0]).trans K11 (allS (Or.inl (by simp)) all0)
  have k12 : Go p.tables e below _ (T11.setTop (mkF m 35 #[.val (.ref r0), .val (.ref r1), .val (.int (Int32.ofNat cs.length))] [(.ref r0), (.ref r0)])) := fun t ht => st11 t (by
    refine XS.aloadN X11.here hx rfl (hb hby d_m23_33) rfl rfl ?_
    refine XS.dup X11.here hx rfl (hb hby d_m23_34) rfl rfl ?_
    exact ht)
  obtain ⟨T13, X13, e13, st13⟩ := getF X11 hx hZ hown (host := "") (Or.inl (own_w hw 88 rfl)) Via.refl rfl Fq11_3 (g := (mkF m 35 #[.val (.ref r0), .val (.ref r1), .val (.int (Int32.ofNat cs.length))] [(.ref r0), (.ref r0)])) rfl rfl (hb hby d_m23_35)
  have k14 : Go p.tables e below _ (T13.setTop (mkF m 40 #[.val (.ref r0), .val (.ref r1), .val (.int (Int32.ofNat cs.length))] [(.int ((Int32.ofNat ds.length) + (Int32.ofNat cs.length))), (.ref r0)])) := fun t ht => st13 t (by
    refine XS.iloadN X13.here hx rfl (hb hby d_m23_38) rfl ?_
    refine XS.iadd X13.here hx rfl (hb hby d_m23_39) rfl ?_
    exact ht)
  have k15 : Go p.tables e below _ (T13.setTop (mkF m 40 #[.val (.ref r0), .val (.ref r1), .val (.int (Int32.ofNat cs.length))] [(.int (Int32.ofNat (ds ++ cs).length)), (.ref r0)])) := goT k14 (by rw [← Int32.ofNat_add, ← List.length_append]; exact fun _ h => h)
  obtain ⟨T16, h16, X16, e16, W16, st16⟩ := putF X13 hx hZ hown (host := "") (Or.inl (own_w hw 88 rfl)) Via.refl e13 Fq11_3 Fq11_0 (Or.inl (own_w hw 89 rfl)) (own_w hw 48 rfl) (ty := .int) (by decide) rfl rfl (g := (mkF m 40 #[.val (.ref r0), .val (.ref r1), .val (.int (Int32.ofNat cs.length))] [(.int (Int32.ofNat (ds ++ cs).length)), (.ref r0)])) rfl rfl (hb hby d_m23_40)
  have Kp16 : Keep h0 h16 [tv, r0] := Kp11.wr W16 (Or.inl (by simp))
  have Fq11_0_c_16 := Fq11_0.wr W16
  have Fq11_1_c_16 := Fq11_1.other W16 (Or.inr (slot_ne (Or.inl (own_w hw 62 rfl)) (Or.inl (own_w hw 89 rfl)) (by decide) (t := (.array .byte)) (t' := .int) (by decide) (by decide)))
  have Fq11_2_c_16 := Fq11_2.other W16 (Or.inr (slot_ne (Or.inl (own_w hw 64 rfl)) (Or.inl (own_w hw 89 rfl)) (by decide) (t := .byte) (t' := .int) (by decide) (by decide)))
  have Fq11_3_c_16 := Fq11_3.same W16
  have Fq11_4_c_16 := Fq11_4.other W16 (Or.inr (slot_ne (Or.inl (own_w hw 259 rfl)) (Or.inl (own_w hw 89 rfl)) (by decide) (t := .boolean) (t' := .int) (by decide) (by decide)))
  have Fq11_5_c_16 := Fq11_5.other W16 nvr
  have N16 := Fr.snoc X16 N11 g_r0
  have k17 : Go p.tables e below _ (T16.setTop (mkF m 44 #[.val (.ref r0), .val (.ref r1), .val (.int (Int32.ofNat cs.length))] [(.ref r0)])) := fun t ht => st16 t (by
    refine XS.aloadN X16.here hx rfl (hb hby d_m23_43) rfl rfl ?_
    exact ht)
  obtain ⟨fs, hr, hrun, hended, hW, hsame⟩ := X16.leave (v := some (.ref r0)) (fun h => by rw [Bd.returns] at h; cases h)
  refine ⟨_, _, castTop (ef_app100 m r0 r1) ((goT k1 (goT k3 (goT k6 (goT k8 (goT k10 (goT k12 (goT k15 k17))))))) _ (retR X16 hx Bd.returns (hb hby d_m23_44) hr)), hrun, hended, _, _, rfl, ?_, ⟨_, rfl⟩, hW, hsame.mono (by decide) (by decide)⟩
  show Q_app100 Z r0 r1 tv kv ds M t1 kz1 cs G1 fm h0 n0 _ T16.heap _
  rw [e16]
  exact ⟨rfl, N16, Kp16, Fq11_0_c_16, Fq11_1_c_16, Fq11_2_c_16, Fq11_3_c_16, Fq11_4_c_16, Fq11_5_c_16⟩
theorem ef_sba100 (m : MethodId) (x0 : Addr) (x1 : Addr) : entryFrame m #[(.ref x0), (.ref x1)] 2 = mkF m 0 #[.val (.ref x0), .val (.ref x1)] [] := by first | (simp [entryFrame, mkF, argsToLocals, Value.category]; done) | rfl
def Q_sba100 (Z : State) (r0 : Addr) (r1 : Addr) (tv : Addr) (kv : ClassId) (ds : List Int32) (M : Nat) (t1 : Addr) (kz1 : ClassId) (cs : List Int32) (G1 : Int32) (fm : Value) (h0 : Heap) (n0 : Nat) (v : Option Value) (h : Heap) (L : List Loc) : Prop := v = some (.ref r0) ∧ Fr n0 L ∧ Keep h0 h [r0, tv] ∧ Exa Z h r0 "java/lang/StringBuilder" ∧ f3 Z h r0 (.ref tv) ∧ f2 Z h r0 (.int (1 : Int32)) ∧ f4 Z h r0 (.int (Int32.ofNat (ds ++ cs).length)) ∧ f5 Z h r0 (.int (0 : Int32)) ∧ own_A Z h tv kv .byte (Int32.ofNat (2 * M)) (own_U M (ds ++ cs))
set_option maxRecDepth 65536 in
set_option maxHeartbeats 40000000 in
theorem rm_sba100 (l : Launch) (Z : State) (a0 : Array Value) (hw : HW a0 Z) (ws : List Jvm.Cond) (r0 : Addr) (r1 : Addr) (tv : Addr) (kv : ClassId) (ds : List Int32) (M : Nat) (t1 : Addr) (kz1 : ClassId) (cs : List Int32) (G1 : Int32) (fm : Value) (h0 : Heap) (n0 : Nat) (Z0 : n0 ≤ h0.size) (E_r0 : Exa Z h0 r0 "java/lang/StringBuilder") (Bv : f3 Z h0 r0 (.ref tv)) (Bc : f2 Z h0 r0 (.int (1 : Int32))) (Bn : f4 Z h0 r0 (.int (Int32.ofNat ds.length))) (Bm : f5 Z h0 r0 (.int (0 : Int32))) (E_r1 : Exa Z h0 r1 "java/lang/String") (Fv_r1 : f1 Z h0 r1 (.ref t1)) (Fc_r1 : f0 Z h0 r1 (.int (0 : Int32))) (S_CS : f12 Z h0 (.int G1)) (S_AD : f8 Z h0 (.int (1 : Int32))) (S_HI : f9 Z h0 (.int (0 : Int32))) (S_LO : f10 Z h0 (.int (8 : Int32))) (S_SI : f11 Z h0 fm) (V_v : own_A Z h0 tv kv .byte (Int32.ofNat (2 * M)) (own_U M ds)) (V_t1 : own_A Z h0 t1 kz1 .byte (Int32.ofNat cs.length) (own_b cs)) (P5 : ¬ (G1 = (0 : Int32))) (g_r0 : n0 ≤ r0) (g_tv : n0 ≤ tv) (hM : ds.length + cs.length ≤ M ∧ M ≤ 24) (nvr : tv ≠ r0) (nsr : r1 ≠ r0) (ntr : t1 ≠ r0) (ntv : t1 ≠ tv) (nsv : r1 ≠ tv) (hcc : ∀ c ∈ cs, ¬ c < 0 ∧ ¬ (255 : Int32) < c) (rf : fm.isRef = true) :
    own_M l Z h0 (⟨"java/lang/StringBuilder", "append", "(Ljava/lang/String;)Ljava/lang/StringBuilder;"⟩ : MethodName) jdk_67_method_7_code 2 (some (.object "java/lang/StringBuilder")) ws (rR 9 0 0 136) #[(.ref r0), (.ref r1)] (Q_sba100 Z r0 r1 tv kv ds M t1 kz1 cs G1 fm h0 n0) := by
  refine own_body (own := "java/lang/StringBuilder") (plainFor_of_name pn_7) rfl ?_
  intro p e s m below meth c s₁ Bd hZ hh hx hby hml hown X0 e0
  have N0 := Fr.nil n0
  have k1 : Go p.tables e below (s₁.setTop (mkF m 0 #[.val (.ref r0), .val (.ref r1)] [])) (s₁.setTop (mkF m 2 #[.val (.ref r0), .val (.ref r1)] [(.ref r1), (.ref r0)])) := by
    intro t ht
    refine XS.aloadN X0.here hx rfl (hb hby d_m24_0) rfl rfl ?_
    refine XS.aloadN X0.here hx rfl (hb hby d_m24_1) rfl rfl ?_
    exact ht
  have rq2 := superBack X0 hx hZ (y := (⟨"java/lang/AbstractStringBuilder", "append", "(Ljava/lang/String;)Ljava/lang/AbstractStringBuilder;"⟩ : MethodName)) hown (own_w hw 73 rfl) (own_same (own_w hw 74 rfl) (own_face (notFace_of_selects (own_w hw 93 rfl)) (own_w hw 91 rfl) rfl) (by decide)) (own_w hw 74 rfl) (own_w hw 75 rfl) (by decide) (backOf (W := 0) (rm_app100 l Z a0 hw [] r0 r1 tv kv ds M t1 kz1 cs G1 fm h0 n0 Z0 E_r0 Bv Bc Bn Bm E_r1 Fv_r1 Fc_r1 S_CS S_AD S_HI S_LO S_SI V_v V_t1 P5 g_r0 g_tv hM nvr nsr ntr ntv nsv hcc rf) hZ (own_w hw 77 rfl) (own_w hw 57 rfl) (by decide) (by decide)) e0 (Ins.self E_r0) (g := (mkF m 2 #[.val (.ref r0), .val (.ref r1)] [(.ref r1), (.ref r0)])) rfl (by rw [hml]; rfl) (own_w hw 77 rfl) (argsL := [(.ref r1)]) (rest := []) (lenOf pd_18 rfl) rfl (by show 2 * 0 + _ ≤ _; exact Nat.le_of_eq rfl) (hb hby d_m24_2) (fun _ _ => ⟨rfl, e0, (by decide : 0 + 0 ≤ _), (by decide : 0 + 0 ≤ _)⟩)
  obtain ⟨_, T2, L2, X2, ⟨rfl, N2q, K2, Fq2_0, Fq2_1, Fq2_2, Fq2_3, Fq2_4, Fq2_5⟩, st2⟩ := own_r X0 rq2
  have N2 := Fr.app N0 N2q
  have Kp2 : Keep h0 T2.heap [r0, tv] := (Keep.refl h0 [r0, tv]).trans K2 (allS (Or.inl (by simp)) (allS (Or.inl (by simp)) all0))
  have k3 : Go p.tables e below _ (T2.setTop (mkF m 7 #[.val (.ref r0), .val (.ref r1)] [(.ref r0)])) := fun t ht => st2 t (by
    refine XS.pop X2.here hx rfl (hb hby d_m24_5) rfl rfl ?_
    refine XS.aloadN X2.here hx rfl (hb hby d_m24_6) rfl rfl ?_
    exact ht)
  obtain ⟨fs, hr, hrun, hended, hW, hsame⟩ := X2.leave (v := some (.ref r0)) (fun h => by rw [Bd.returns] at h; cases h)
  refine ⟨_, _, castTop (ef_sba100 m r0 r1) ((goT k1 k3) _ (retR X2 hx Bd.returns (hb hby d_m24_7) hr)), hrun, hended, _, _, rfl, ?_, ⟨_, rfl⟩, hW, hsame.mono (by decide) (by decide)⟩
  show Q_sba100 Z r0 r1 tv kv ds M t1 kz1 cs G1 fm h0 n0 _ T2.heap _
  exact ⟨rfl, N2, Kp2, Fq2_0, Fq2_1, Fq2_2, Fq2_3, Fq2_4, Fq2_5⟩
theorem ef_app101 (m : MethodId) (x0 : Addr) (x1 : Addr) : entryFrame m #[(.ref x0), (.ref x1)] 3 = mkF m 0 #[.val (.ref x0), .val (.ref x1), .unset] [] := by first | (simp [entryFrame, mkF, argsToLocals, Value.category]; done) | rfl
def Q_app101 (Z : State) (r0 : Addr) (r1 : Addr) (tv : Addr) (kv : ClassId) (ds : List Int32) (t1 : Addr) (kz1 : ClassId) (cs : List Int32) (G1 : Int32) (fm : Value) (h0 : Heap) (n0 : Nat) (v : Option Value) (h : Heap) (L : List Loc) : Prop := ∃ (xb : Addr) (xk : ClassId), v = some (.ref r0) ∧ Fr n0 L ∧ Keep h0 h [r0] ∧ h0.size ≤ xb ∧ Exa Z h r0 "java/lang/StringBuilder" ∧ f3 Z h r0 (.ref xb) ∧ f2 Z h r0 (.int (1 : Int32)) ∧ f4 Z h r0 (.int (Int32.ofNat (ds ++ cs).length)) ∧ f5 Z h r0 (.int (0 : Int32)) ∧ own_A Z h xb xk .byte (Int32.ofNat (2 * 34)) (own_U 34 (ds ++ cs))
set_option maxRecDepth 65536 in
set_option maxHeartbeats 40000000 in
theorem rm_app101 (l : Launch) (Z : State) (a0 : Array Value) (hw : HW a0 Z) (ws : List Jvm.Cond) (r0 : Addr) (r1 : Addr) (tv : Addr) (kv : ClassId) (ds : List Int32) (t1 : Addr) (kz1 : ClassId) (cs : List Int32) (G1 : Int32) (fm : Value) (h0 : Heap) (n0 : Nat) (Z0 : n0 ≤ h0.size) (E_r0 : Exa Z h0 r0 "java/lang/StringBuilder") (Bv : f3 Z h0 r0 (.ref tv)) (Bc : f2 Z h0 r0 (.int (1 : Int32))) (Bn : f4 Z h0 r0 (.int (Int32.ofNat ds.length))) (Bm : f5 Z h0 r0 (.int (0 : Int32))) (E_r1 : Exa Z h0 r1 "java/lang/String") (Fv_r1 : f1 Z h0 r1 (.ref t1)) (Fc_r1 : f0 Z h0 r1 (.int (0 : Int32))) (S_CS : f12 Z h0 (.int G1)) (S_AD : f8 Z h0 (.int (1 : Int32))) (S_HI : f9 Z h0 (.int (0 : Int32))) (S_LO : f10 Z h0 (.int (8 : Int32))) (S_SI : f11 Z h0 fm) (V_v : own_A Z h0 tv kv .byte (Int32.ofNat (2 * 16)) (own_U 16 ds)) (V_t1 : own_A Z h0 t1 kz1 .byte (Int32.ofNat cs.length) (own_b cs)) (P5 : ¬ (G1 = (0 : Int32))) (g_r0 : n0 ≤ r0) (hT : 17 ≤ ds.length + cs.length ∧ ds.length + cs.length ≤ 24 ∧ ds.length ≤ 16) (nvr : tv ≠ r0) (nsr : r1 ≠ r0) (ntr : t1 ≠ r0) (ntv : t1 ≠ tv) (nsv : r1 ≠ tv) (hcc : ∀ c ∈ cs, ¬ c < 0 ∧ ¬ (255 : Int32) < c) (rf : fm.isRef = true) :
    own_M l Z h0 (⟨"java/lang/AbstractStringBuilder", "append", "(Ljava/lang/String;)Ljava/lang/AbstractStringBuilder;"⟩ : MethodName) jdk_68_method_22_code 3 (some (.object "java/lang/AbstractStringBuilder")) ws (rR 8 1 68 122) #[(.ref r0), (.ref r1)] (Q_app101 Z r0 r1 tv kv ds t1 kz1 cs G1 fm h0 n0) := by
  refine own_body (own := "java/lang/AbstractStringBuilder") (plainFor_of_name pn_4) rfl ?_
  intro p e s m below meth c s₁ Bd hZ hh hx hby hml hown X0 e0
  have N0 := Fr.nil n0
  have k1 : Go p.tables e below (s₁.setTop (mkF m 0 #[.val (.ref r0), .val (.ref r1), .unset] [])) (s₁.setTop (mkF m 10 #[.val (.ref r0), .val (.ref r1), .unset] [(.ref r1)])) := by
    intro t ht
    refine XS.aloadN X0.here hx rfl (hb hby d_m23_0) rfl rfl ?_
    refine XS.ifnonnullYes X0.here hx rfl (pc0 := 1) (pc' := 9) rfl (hb hby d_m23_1) rfl (by decide) (by decide) ?_
    refine XS.aloadN X0.here hx rfl (hb hby d_m23_9) rfl rfl ?_
    exact ht
  obtain ⟨cq2, kq2, q2a, q2b, q2c⟩ := isOf hZ e0 E_r1
  have rq2 := X0.virtualBack hx (y := (⟨"java/lang/String", "length", "()I"⟩ : MethodName)) (z := (⟨"java/lang/String", "length", "()I"⟩ : MethodName)) hown (mvT hZ (own_w hw 78 rfl)) (mvT hZ (own_w hw 79 rfl)) (notFace_of_selects (args := #[]) (mvT hZ (own_w hw 81 rfl))) (mvT hZ (own_w hw 81 rfl)) (mvT hZ (own_w hw 80 rfl)) (by decide) (backOf (W := 0) (rm_len0 l Z a0 hw [] r1 t1 kz1 cs G1 h0 n0 Z0 E_r1 Fv_r1 Fc_r1 S_CS V_t1 P5 (by omega : cs.length ≤ 64)) hZ (own_w hw 82 rfl) (own_w hw 2 rfl) (by decide) (by decide)) q2a q2c (g := (mkF m 10 #[.val (.ref r0), .val (.ref r1), .unset] [(.ref r1)])) rfl (by rw [hml]; rfl) (Steps.refl _) (argsL := []) (rest := []) (lenOf pd_15 rfl) rfl (by show 2 * 0 + _ ≤ _; exact Nat.le_of_eq rfl) (hb hby d_m23_10) (fun _ _ => ⟨rfl, e0, (by decide : 0 + 0 ≤ _), (by decide : 0 + 0 ≤ _)⟩)
  obtain ⟨_, T2, L2, X2, ⟨rfl, N2q, eq2⟩, st2⟩ := own_r X0 rq2
  have N2 := Fr.app N0 N2q
  have k3 : Go p.tables e below _ (T2.setTop (mkF m 16 #[.val (.ref r0), .val (.ref r1), .val (.int (Int32.ofNat cs.length))] [(.ref r0), (.ref r0)])) := fun t ht => st2 t (by
    refine XS.istoreN X2.here hx rfl (hb hby d_m23_13) rfl (l' := #[.val (.ref r0), .val (.ref r1), .val (.int (Int32.ofNat cs.length))]) rfl ?_
    refine XS.aloadN X2.here hx rfl (hb hby d_m23_14) rfl rfl ?_
    refine XS.aloadN X2.here hx rfl (hb hby d_m23_15) rfl rfl ?_
    exact ht)
  obtain ⟨T4, X4, e4, st4⟩ := getF X2 hx hZ hown (host := "") (Or.inl (own_w hw 88 rfl)) Via.refl eq2 Bn (g := (mkF m 16 #[.val (.ref r0), .val (.ref r1), .val (.int (Int32.ofNat cs.length))] [(.ref r0), (.ref r0)])) rfl rfl (hb hby d_m23_16)
  have k5 : Go p.tables e below _ (T4.setTop (mkF m 21 #[.val (.ref r0), .val (.ref r1), .val (.int (Int32.ofNat cs.length))] [(.int ((Int32.ofNat ds.length) + (Int32.ofNat cs.length))), (.ref r0)])) := fun t ht => st4 t (by
    refine XS.iloadN X4.here hx rfl (hb hby d_m23_19) rfl ?_
    refine XS.iadd X4.here hx rfl (hb hby d_m23_20) rfl ?_
    exact ht)
  have k6 : Go p.tables e below _ (T4.setTop (mkF m 21 #[.val (.ref r0), .val (.ref r1), .val (.int (Int32.ofNat cs.length))] [(.int (Int32.ofNat (ds.length + cs.length))), (.ref r0)])) := goT k5 (by rw [← Int32.ofNat_add]; exact fun _ h => h)
  obtain ⟨cq7, q7, q7'⟩ := E_r0.cell
  have rq7 := X4.privateBack hx (y := (⟨"java/lang/AbstractStringBuilder", "ensureCapacityInternal", "(I)V"⟩ : MethodName)) hown (mvT hZ (own_w hw 90 rfl)) (mvT hZ (own_w hw 91 rfl)) (own_selp2 (mvT hZ (own_w hw 93 rfl) (args := #[])) (mvT hZ (own_w hw 91 rfl)) (Cond.privateMethod_at (mvP hZ (own_w hw 92 rfl) (args := #[]))) (by decide)) (Cond.privateMethod_at (mvP hZ (own_w hw 92 rfl) (args := #[]))) (mvT hZ (own_w hw 94 rfl)) (by decide) (backOf (W := 0) (rm_grow1 l Z a0 hw [] r0 (ds.length + cs.length) tv kv ds h0 n0 Z0 E_r0 Bv Bc Bn Bm V_v g_r0 (by omega : 17 ≤ (ds.length + cs.length) ∧ (ds.length + cs.length) ≤ 24) (by omega : ds.length ≤ 16) nvr) hZ (own_w hw 94 rfl) (own_w hw 57 rfl) (by decide) (by decide)) (g := (mkF m 21 #[.val (.ref r0), .val (.ref r1), .val (.int (Int32.ofNat cs.length))] [(.int (Int32.ofNat (ds.length + cs.length))), (.ref r0)])) rfl (by rw [hml]; rfl) (Steps.refl _) (a := r0) (by rw [e4]; exact q7) q7' (argsL := [(.int (Int32.ofNat (ds.length + cs.length)))]) (rest := []) (lenOf pd_16 rfl) rfl (by show 2 * 0 + _ ≤ _; exact Nat.le_of_eq rfl) (hb hby d_m23_21) (fun _ _ => ⟨rfl, e4, (by decide : 0 + 1 ≤ _), (by decide : 0 + 68 ≤ _)⟩)
  obtain ⟨_, T7, L7, X7, ⟨xb_7, xk_7, rfl, N7q, K7, Pq7_0, Fq7_0, Fq7_1, Fq7_2, Fq7_3, Fq7_4, Fq7_5⟩, st7⟩ := own_r X4 rq7
  have N7 := Fr.app N2 N7q
  have Kp7 : Keep h0 T7.heap [r0] := (Keep.refl h0 [r0]).trans K7 (allS (Or.inl (by simp)) all0)
  have Z7 : n0 ≤ T7.heap.size := Nat.le_trans Z0 K7.1
  have ne_r0_xb_7 : r0 ≠ xb_7 := Nat.ne_of_lt (Nat.lt_of_lt_of_le E_r0.lt Pq7_0)
  have ne_r1_xb_7 : r1 ≠ xb_7 := Nat.ne_of_lt (Nat.lt_of_lt_of_le E_r1.lt Pq7_0)
  have ne_t1_xb_7 : t1 ≠ xb_7 := Nat.ne_of_lt (Nat.lt_of_lt_of_le V_t1.lt Pq7_0)
  have g_xb_7 : n0 ≤ xb_7 := Nat.le_trans Z0 Pq7_0
  have sz_xb_7 : h0.size ≤ xb_7 := Nat.le_trans (Keep.refl h0 [r0]).1 Pq7_0
  have E_r1_c_7 := E_r1.keep K7
  have Fv_r1_c_7 := Fv_r1.keep K7 (ninS nsr nin0)
  have Fc_r1_c_7 := Fc_r1.keep K7 (ninS nsr nin0)
  have S_CS_c_7 := own_sta_keep S_CS E_r0 K7
  have S_AD_c_7 := own_sta_keep S_AD E_r0 K7
  have S_HI_c_7 := own_sta_keep S_HI E_r0 K7
  have S_LO_c_7 := own_sta_keep S_LO E_r0 K7
  have S_SI_c_7 := own_sta_keep S_SI E_r0 K7
  have V_t1_c_7 := V_t1.keep K7 (ninS ntr nin0)
  have k8 : Go p.tables e below _ (T7.setTop (mkF m 26 #[.val (.ref r0), .val (.ref r1), .val (.int (Int32.ofNat cs.length))] [(.ref r0), (.ref r0)])) := fun t ht => st7 t (by
    refine XS.aloadN X7.here hx rfl (hb hby d_m23_24) rfl rfl ?_
    refine XS.aloadN X7.here hx rfl (hb hby d_m23_25) rfl rfl ?_
    exact ht)
  obtain ⟨T9, X9, e9, st9⟩ := getF X7 hx hZ hown (host := "") (Or.inl (own_w hw 88 rfl)) Via.refl rfl Fq7_3 (g := (mkF m 26 #[.val (.ref r0), .val (.ref r1), .val (.int (Int32.ofNat cs.length))] [(.ref r0), (.ref r0)])) rfl rfl (hb hby d_m23_26)
  have k10 : Go p.tables e below _ (T9.setTop (mkF m 30 #[.val (.ref r0), .val (.ref r1), .val (.int (Int32.ofNat cs.length))] [(.ref r1), (.int (Int32.ofNat ds.length)), (.ref r0)])) := fun t ht => st9 t (by
    refine XS.aloadN X9.here hx rfl (hb hby d_m23_29) rfl rfl ?_
    exact ht)
  obtain ⟨cq11, q11, q11'⟩ := Fq7_0.cell
  have rq11 := X9.privateBack hx (y := (⟨"java/lang/AbstractStringBuilder", "putStringAt", "(ILjava/lang/String;)V"⟩ : MethodName)) hown (mvT hZ (own_w hw 95 rfl)) (mvT hZ (own_w hw 96 rfl)) (own_selp2 (mvT hZ (own_w hw 98 rfl) (args := #[])) (mvT hZ (own_w hw 96 rfl)) (Cond.privateMethod_at (mvP hZ (own_w hw 97 rfl) (args := #[]))) (by decide)) (Cond.privateMethod_at (mvP hZ (own_w hw 97 rfl) (args := #[]))) (mvT hZ (own_w hw 99 rfl)) (by decide) (backOf (W := 0) (rm_put10 l Z a0 hw [] r0 ds.length r1 xb_7 xk_7 ds 34 t1 kz1 cs G1 fm T7.heap n0 Z7 Fq7_0 Fq7_1 Fq7_2 Fq7_3 Fq7_4 E_r1_c_7 Fv_r1_c_7 Fc_r1_c_7 S_CS_c_7 S_AD_c_7 S_HI_c_7 S_LO_c_7 S_SI_c_7 Fq7_5 V_t1_c_7 P5 g_xb_7 (by omega : ds.length + cs.length ≤ 34 ∧ 34 ≤ 64) ((Ne.symm ne_r0_xb_7) : xb_7 ≠ r0) nsr ntr ne_t1_xb_7 ne_r1_xb_7 hcc rf rfl) hZ (own_w hw 99 rfl) (own_w hw 57 rfl) (by decide) (by decide)) (g := (mkF m 30 #[.val (.ref r0), .val (.ref r1), .val (.int (Int32.ofNat cs.length))] [(.ref r1), (.int (Int32.ofNat ds.length)), (.ref r0)])) rfl (by rw [hml]; rfl) (Steps.refl _) (a := r0) (by rw [e9]; exact q11) q11' (argsL := [(.int (Int32.ofNat ds.length)), (.ref r1)]) (rest := []) (lenOf pd_17 rfl) rfl (by show 2 * 0 + _ ≤ _; exact Nat.le_of_eq rfl) (hb hby d_m23_30) (fun _ _ => ⟨rfl, e9, (by decide : 1 + 0 ≤ _), (by decide : 68 + 0 ≤ _)⟩)
  obtain ⟨_, T11, L11, X11, ⟨rfl, N11q, K11, Fq11_0, Fq11_1, Fq11_2, Fq11_3, Fq11_4, Fq11_5⟩, st11⟩ := own_r X9 rq11
  have N11 := Fr.app N7 N11q
  have Kp11 : Keep h0 T11.heap [r0] := Kp7.trans K11 (allS (Or.inr sz_xb_7) all0)
  have k12 : Go p.tables e below _ (T11.setTop (mkF m 35 #[.val (.ref r0), .val (.ref r1), .val (.int (Int32.ofNat cs.length))] [(.ref r0), (.ref r0)])) := fun t ht => st11 t (by
    refine XS.aloadN X11.here hx rfl (hb hby d_m23_33) rfl rfl ?_
    refine XS.dup X11.here hx rfl (hb hby d_m23_34) rfl rfl ?_
    exact ht)
  obtain ⟨T13, X13, e13, st13⟩ := getF X11 hx hZ hown (host := "") (Or.inl (own_w hw 88 rfl)) Via.refl rfl Fq11_3 (g := (mkF m 35 #[.val (.ref r0), .val (.ref r1), .val (.int (Int32.ofNat cs.length))] [(.ref r0), (.ref r0)])) rfl rfl (hb hby d_m23_35)
  have k14 : Go p.tables e below _ (T13.setTop (mkF m 40 #[.val (.ref r0), .val (.ref r1), .val (.int (Int32.ofNat cs.length))] [(.int ((Int32.ofNat ds.length) + (Int32.ofNat cs.length))), (.ref r0)])) := fun t ht => st13 t (by
    refine XS.iloadN X13.here hx rfl (hb hby d_m23_38) rfl ?_
    refine XS.iadd X13.here hx rfl (hb hby d_m23_39) rfl ?_
    exact ht)
  have k15 : Go p.tables e below _ (T13.setTop (mkF m 40 #[.val (.ref r0), .val (.ref r1), .val (.int (Int32.ofNat cs.length))] [(.int (Int32.ofNat (ds ++ cs).length)), (.ref r0)])) := goT k14 (by rw [← Int32.ofNat_add, ← List.length_append]; exact fun _ h => h)
  obtain ⟨T16, h16, X16, e16, W16, st16⟩ := putF X13 hx hZ hown (host := "") (Or.inl (own_w hw 88 rfl)) Via.refl e13 Fq11_3 Fq11_0 (Or.inl (own_w hw 89 rfl)) (own_w hw 48 rfl) (ty := .int) (by decide) rfl rfl (g := (mkF m 40 #[.val (.ref r0), .val (.ref r1), .val (.int (Int32.ofNat cs.length))] [(.int (Int32.ofNat (ds ++ cs).length)), (.ref r0)])) rfl rfl (hb hby d_m23_40)
  have Kp16 : Keep h0 h16 [r0] := Kp11.wr W16 (Or.inl (by simp))
  have Fq11_0_c_16 := Fq11_0.wr W16
  have Fq11_1_c_16 := Fq11_1.other W16 (Or.inr (slot_ne (Or.inl (own_w hw 62 rfl)) (Or.inl (own_w hw 89 rfl)) (by decide) (t := (.array .byte)) (t' := .int) (by decide) (by decide)))
  have Fq11_2_c_16 := Fq11_2.other W16 (Or.inr (slot_ne (Or.inl (own_w hw 64 rfl)) (Or.inl (own_w hw 89 rfl)) (by decide) (t := .byte) (t' := .int) (by decide) (by decide)))
  have Fq11_3_c_16 := Fq11_3.same W16
  have Fq11_4_c_16 := Fq11_4.other W16 (Or.inr (slot_ne (Or.inl (own_w hw 259 rfl)) (Or.inl (own_w hw 89 rfl)) (by decide) (t := .boolean) (t' := .int) (by decide) (by decide)))
  have Fq11_5_c_16 := Fq11_5.other W16 (Ne.symm ne_r0_xb_7)
  have N16 := Fr.snoc X16 N11 g_r0
  have k17 : Go p.tables e below _ (T16.setTop (mkF m 44 #[.val (.ref r0), .val (.ref r1), .val (.int (Int32.ofNat cs.length))] [(.ref r0)])) := fun t ht => st16 t (by
    refine XS.aloadN X16.here hx rfl (hb hby d_m23_43) rfl rfl ?_
    exact ht)
  obtain ⟨fs, hr, hrun, hended, hW, hsame⟩ := X16.leave (v := some (.ref r0)) (fun h => by rw [Bd.returns] at h; cases h)
  refine ⟨_, _, castTop (ef_app101 m r0 r1) ((goT k1 (goT k3 (goT k6 (goT k8 (goT k10 (goT k12 (goT k15 k17))))))) _ (retR X16 hx Bd.returns (hb hby d_m23_44) hr)), hrun, hended, _, _, rfl, ?_, ⟨_, rfl⟩, hW, hsame.mono (by decide) (by decide)⟩
  show Q_app101 Z r0 r1 tv kv ds t1 kz1 cs G1 fm h0 n0 _ T16.heap _
  rw [e16]
  exact ⟨xb_7, xk_7, rfl, N16, Kp16, sz_xb_7, Fq11_0_c_16, Fq11_1_c_16, Fq11_2_c_16, Fq11_3_c_16, Fq11_4_c_16, Fq11_5_c_16⟩
theorem ef_sba101 (m : MethodId) (x0 : Addr) (x1 : Addr) : entryFrame m #[(.ref x0), (.ref x1)] 2 = mkF m 0 #[.val (.ref x0), .val (.ref x1)] [] := by first | (simp [entryFrame, mkF, argsToLocals, Value.category]; done) | rfl
def Q_sba101 (Z : State) (r0 : Addr) (r1 : Addr) (tv : Addr) (kv : ClassId) (ds : List Int32) (t1 : Addr) (kz1 : ClassId) (cs : List Int32) (G1 : Int32) (fm : Value) (h0 : Heap) (n0 : Nat) (v : Option Value) (h : Heap) (L : List Loc) : Prop := ∃ (xb : Addr) (xk : ClassId), v = some (.ref r0) ∧ Fr n0 L ∧ Keep h0 h [r0] ∧ h0.size ≤ xb ∧ Exa Z h r0 "java/lang/StringBuilder" ∧ f3 Z h r0 (.ref xb) ∧ f2 Z h r0 (.int (1 : Int32)) ∧ f4 Z h r0 (.int (Int32.ofNat (ds ++ cs).length)) ∧ f5 Z h r0 (.int (0 : Int32)) ∧ own_A Z h xb xk .byte (Int32.ofNat (2 * 34)) (own_U 34 (ds ++ cs))
set_option maxRecDepth 65536 in
set_option maxHeartbeats 40000000 in
theorem rm_sba101 (l : Launch) (Z : State) (a0 : Array Value) (hw : HW a0 Z) (ws : List Jvm.Cond) (r0 : Addr) (r1 : Addr) (tv : Addr) (kv : ClassId) (ds : List Int32) (t1 : Addr) (kz1 : ClassId) (cs : List Int32) (G1 : Int32) (fm : Value) (h0 : Heap) (n0 : Nat) (Z0 : n0 ≤ h0.size) (E_r0 : Exa Z h0 r0 "java/lang/StringBuilder") (Bv : f3 Z h0 r0 (.ref tv)) (Bc : f2 Z h0 r0 (.int (1 : Int32))) (Bn : f4 Z h0 r0 (.int (Int32.ofNat ds.length))) (Bm : f5 Z h0 r0 (.int (0 : Int32))) (E_r1 : Exa Z h0 r1 "java/lang/String") (Fv_r1 : f1 Z h0 r1 (.ref t1)) (Fc_r1 : f0 Z h0 r1 (.int (0 : Int32))) (S_CS : f12 Z h0 (.int G1)) (S_AD : f8 Z h0 (.int (1 : Int32))) (S_HI : f9 Z h0 (.int (0 : Int32))) (S_LO : f10 Z h0 (.int (8 : Int32))) (S_SI : f11 Z h0 fm) (V_v : own_A Z h0 tv kv .byte (Int32.ofNat (2 * 16)) (own_U 16 ds)) (V_t1 : own_A Z h0 t1 kz1 .byte (Int32.ofNat cs.length) (own_b cs)) (P5 : ¬ (G1 = (0 : Int32))) (g_r0 : n0 ≤ r0) (hT : 17 ≤ ds.length + cs.length ∧ ds.length + cs.length ≤ 24 ∧ ds.length ≤ 16) (nvr : tv ≠ r0) (nsr : r1 ≠ r0) (ntr : t1 ≠ r0) (ntv : t1 ≠ tv) (nsv : r1 ≠ tv) (hcc : ∀ c ∈ cs, ¬ c < 0 ∧ ¬ (255 : Int32) < c) (rf : fm.isRef = true) :
    own_M l Z h0 (⟨"java/lang/StringBuilder", "append", "(Ljava/lang/String;)Ljava/lang/StringBuilder;"⟩ : MethodName) jdk_67_method_7_code 2 (some (.object "java/lang/StringBuilder")) ws (rR 9 1 68 136) #[(.ref r0), (.ref r1)] (Q_sba101 Z r0 r1 tv kv ds t1 kz1 cs G1 fm h0 n0) := by
  refine own_body (own := "java/lang/StringBuilder") (plainFor_of_name pn_7) rfl ?_
  intro p e s m below meth c s₁ Bd hZ hh hx hby hml hown X0 e0
  have N0 := Fr.nil n0
  have k1 : Go p.tables e below (s₁.setTop (mkF m 0 #[.val (.ref r0), .val (.ref r1)] [])) (s₁.setTop (mkF m 2 #[.val (.ref r0), .val (.ref r1)] [(.ref r1), (.ref r0)])) := by
    intro t ht
    refine XS.aloadN X0.here hx rfl (hb hby d_m24_0) rfl rfl ?_
    refine XS.aloadN X0.here hx rfl (hb hby d_m24_1) rfl rfl ?_
    exact ht
  have rq2 := superBack X0 hx hZ (y := (⟨"java/lang/AbstractStringBuilder", "append", "(Ljava/lang/String;)Ljava/lang/AbstractStringBuilder;"⟩ : MethodName)) hown (own_w hw 73 rfl) (own_same (own_w hw 74 rfl) (own_face (notFace_of_selects (own_w hw 93 rfl)) (own_w hw 91 rfl) rfl) (by decide)) (own_w hw 74 rfl) (own_w hw 75 rfl) (by decide) (backOf (W := 0) (rm_app101 l Z a0 hw [] r0 r1 tv kv ds t1 kz1 cs G1 fm h0 n0 Z0 E_r0 Bv Bc Bn Bm E_r1 Fv_r1 Fc_r1 S_CS S_AD S_HI S_LO S_SI V_v V_t1 P5 g_r0 hT nvr nsr ntr ntv nsv hcc rf) hZ (own_w hw 77 rfl) (own_w hw 57 rfl) (by decide) (by decide)) e0 (Ins.self E_r0) (g := (mkF m 2 #[.val (.ref r0), .val (.ref r1)] [(.ref r1), (.ref r0)])) rfl (by rw [hml]; rfl) (own_w hw 77 rfl) (argsL := [(.ref r1)]) (rest := []) (lenOf pd_18 rfl) rfl (by show 2 * 0 + _ ≤ _; exact Nat.le_of_eq rfl) (hb hby d_m24_2) (fun _ _ => ⟨rfl, e0, (by decide : 0 + 1 ≤ _), (by decide : 0 + 68 ≤ _)⟩)
  obtain ⟨_, T2, L2, X2, ⟨xb_2, xk_2, rfl, N2q, K2, Pq2_0, Fq2_0, Fq2_1, Fq2_2, Fq2_3, Fq2_4, Fq2_5⟩, st2⟩ := own_r X0 rq2
  have N2 := Fr.app N0 N2q
  have Kp2 : Keep h0 T2.heap [r0] := (Keep.refl h0 [r0]).trans K2 (allS (Or.inl (by simp)) all0)
  have sz_xb_2 : h0.size ≤ xb_2 := Nat.le_trans (Keep.refl h0 [r0]).1 Pq2_0
  have k3 : Go p.tables e below _ (T2.setTop (mkF m 7 #[.val (.ref r0), .val (.ref r1)] [(.ref r0)])) := fun t ht => st2 t (by
    refine XS.pop X2.here hx rfl (hb hby d_m24_5) rfl rfl ?_
    refine XS.aloadN X2.here hx rfl (hb hby d_m24_6) rfl rfl ?_
    exact ht)
  obtain ⟨fs, hr, hrun, hended, hW, hsame⟩ := X2.leave (v := some (.ref r0)) (fun h => by rw [Bd.returns] at h; cases h)
  refine ⟨_, _, castTop (ef_sba101 m r0 r1) ((goT k1 k3) _ (retR X2 hx Bd.returns (hb hby d_m24_7) hr)), hrun, hended, _, _, rfl, ?_, ⟨_, rfl⟩, hW, hsame.mono (by decide) (by decide)⟩
  show Q_sba101 Z r0 r1 tv kv ds t1 kz1 cs G1 fm h0 n0 _ T2.heap _
  exact ⟨xb_2, xk_2, rfl, N2, Kp2, sz_xb_2, Fq2_0, Fq2_1, Fq2_2, Fq2_3, Fq2_4, Fq2_5⟩
def own_ch (c : Int32) : Prop := c.toBitVec.toNat < 65536
abbrev own_lo (cs : List Int32) : Prop := ∀ c ∈ cs, ¬ (255 : Int32) < c
def own_k (cs : List Int32) : Int32 := if own_lo cs then 0 else 1
def own_n (cs : List Int32) : Nat := if own_lo cs then cs.length else 2 * cs.length
def own_s (cs : List Int32) : List Int32 := if own_lo cs then own_b cs else own_u cs
def own_j (cs : List Int32) : Nat := cs.findIdx (fun c => decide ((255 : Int32) < c))
theorem own_bits (c : Int32) (h : own_ch c) (i : Nat) (hi : 16 ≤ i) : c.toBitVec.getLsbD i = false := by
  rw [BitVec.getLsbD, Nat.testBit_lt_two_pow]
  exact Nat.lt_of_lt_of_le h (show 2 ^ 16 ≤ 2 ^ i from Nat.pow_le_pow_right (by decide) hi)
theorem own_nch {c : Int32} (h : own_ch c) : nar .char c = c := by
  apply Int32.toBitVec_inj.mp
  apply BitVec.eq_of_getLsbD_eq
  intro i hi
  show ((c.toBitVec.setWidth 16).setWidth 32).getLsbD i = _
  simp only [BitVec.getLsbD_setWidth]
  by_cases q : i < 16
  · simp [q, hi]
  · rw [own_bits c h i (by omega)]; simp
theorem own_chi (a : Int32) : own_ch (a.toUInt32.toUInt16.toUInt32.toInt32) := by
  show ((a.toBitVec.setWidth 16).setWidth 32).toNat < 65536
  rw [BitVec.toNat_setWidth, BitVec.toNat_setWidth]
  omega
theorem own_cht {c : Int32} (h : own_ch c) : c.toInt = (c.toBitVec.toNat : Int) := by
  unfold own_ch at h
  show c.toBitVec.toInt = _
  rw [BitVec.toInt_eq_toNat_cond, if_pos (by omega)]
theorem own_ch0 {c : Int32} (h : own_ch c) : ¬ c < 0 := by
  have c0 : (0 : Int32).toInt = 0 := rfl
  rw [Int32.lt_iff_toInt_lt, own_cht h, c0]; omega
theorem own_chlo {cs : List Int32} (h : ∀ c ∈ cs, own_ch c) (hl : own_lo cs) : ∀ c ∈ cs, ¬ c < 0 ∧ ¬ (255 : Int32) < c := fun c hc => ⟨own_ch0 (h c hc), hl c hc⟩
theorem own_gcx {c : Int32} (h : own_ch c) : nar .char ((((own_ul c &&& (255 : Int32)) <<< ((0 : Int32) &&& 31)) ||| ((own_uh c &&& (255 : Int32)) <<< ((8 : Int32) &&& 31))).toUInt32.toUInt16.toUInt32.toInt32) = c := by
  apply Int32.toBitVec_inj.mp
  apply BitVec.eq_of_getLsbD_eq
  intro i hi
  have e0 : (((0 : Int32) &&& 31).toBitVec.smod 32).toNat = 0 := rfl
  have e8 : (((8 : Int32) &&& 31).toBitVec.smod 32).toNat = 8 := rfl
  have e255 : ∀ j, (255#32).getLsbD j = decide (j < 8) := by
    intro j
    by_cases q : j < 32
    · exact (by decide : ∀ j : Fin 32, (255#32).getLsbD j.val = decide (j.val < 8)) ⟨j, q⟩
    · rw [BitVec.getLsbD_of_ge _ _ (by omega)]; simp; omega
  show ((((((((((((c.toBitVec.sshiftRight (((0 : Int32) &&& 31).toBitVec.smod 32).toNat).signExtend 8).signExtend 32).signExtend 8).signExtend 32) &&& 255#32) <<< (((0 : Int32) &&& 31).toBitVec.smod 32).toNat) ||| (((((((c.toBitVec.sshiftRight (((8 : Int32) &&& 31).toBitVec.smod 32).toNat).signExtend 8).signExtend 32).signExtend 8).signExtend 32) &&& 255#32) <<< (((8 : Int32) &&& 31).toBitVec.smod 32).toNat)).setWidth 16).setWidth 32).setWidth 16).setWidth 32).getLsbD i = _
  rw [e0, e8]
  simp only [BitVec.getLsbD_setWidth, BitVec.getLsbD_or, BitVec.getLsbD_shiftLeft, BitVec.getLsbD_and, BitVec.getLsbD_signExtend, BitVec.getLsbD_sshiftRight, e255]
  by_cases q : i < 8
  · simp [q, hi, show i < 16 by omega]
  · by_cases q2 : i < 16
    · simp [q, hi, q2, show i - 8 < 8 by omega, show i - 8 < 32 by omega, show 8 + (i - 8) = i by omega]
    · rw [own_bits c h i (by omega)]; simp [q2]
theorem own_getu (cs : List Int32) : ∀ i, i < cs.length → (own_u cs).getD (2 * i) 0 = own_ul (cs.getD i 0) ∧ (own_u cs).getD (2 * i + 1) 0 = own_uh (cs.getD i 0) := by
  induction cs with
  | nil => intro i hi; exact absurd hi (Nat.not_lt_zero _)
  | cons c cs ih =>
    intro i hi
    cases i with
    | zero => exact ⟨rfl, rfl⟩
    | succ i =>
      have := ih i (by simpa using hi)
      exact this
theorem own_gcu {cs : List Int32} (h : ∀ c ∈ cs, own_ch c) {i : Nat} (hi : i < cs.length) : f_getC i (own_u cs) = cs.getD i 0 := by
  obtain ⟨h1, h2⟩ := own_getu cs i hi
  unfold f_getC
  rw [h1, h2]
  exact own_gcx (h _ (own_mem cs hi))
theorem own_jle (cs : List Int32) : own_j cs ≤ cs.length := List.findIdx_le_length
theorem own_jlt {cs : List Int32} {i : Nat} (h : i < own_j cs) : ¬ (255 : Int32) < cs.getD i 0 := by
  have hi : i < cs.length := Nat.lt_of_lt_of_le h (own_jle cs)
  have := List.not_of_lt_findIdx h
  rw [List.getD_eq_getElem?_getD, List.getElem?_eq_getElem hi]
  simpa using this
theorem own_jgt {cs : List Int32} (h : own_j cs < cs.length) : (255 : Int32) < cs.getD (own_j cs) 0 := by
  have := List.findIdx_getElem (xs := cs) (p := fun c => decide ((255 : Int32) < c)) (w := h)
  rw [List.getD_eq_getElem?_getD, List.getElem?_eq_getElem h]
  exact of_decide_eq_true this
theorem own_jlo (cs : List Int32) : own_lo cs ↔ own_j cs = cs.length := by
  unfold own_lo own_j
  rw [List.findIdx_eq_length]
  simp
theorem own_nlt {a b : Nat} (h : ¬ a < b) (ha : a ≤ 200) (hb : b ≤ 200) : ¬ Int32.ofNat a < Int32.ofNat b := by
  rw [Int32.lt_iff_toInt_lt, own_ofNat (by omega), own_ofNat (by omega)]; omega
theorem own_inj {a b : Nat} (ha : a ≤ 200) (hb : b ≤ 200) (h : Int32.ofNat a = Int32.ofNat b) : a = b := by
  have := congrArg Int32.toInt h
  rw [own_ofNat (by omega), own_ofNat (by omega)] at this; omega
theorem own_nk (cs : List Int32) : nar .byte (own_k cs) = own_k cs := by unfold own_k; split <;> rfl
theorem own_setB {M : Nat} {ds : List Int32} {c : Int32} (h : ds.length < M) : (own_B M ds).set ds.length (own_l8 c) = own_B M (ds ++ [c]) := by
  obtain ⟨k, hk⟩ : ∃ k, M - ds.length = k + 1 := ⟨M - ds.length - 1, by omega⟩
  have hk2 : M - (ds ++ [c]).length = k := by rw [List.length_append]; simp only [List.length_cons, List.length_nil]; omega
  unfold own_B
  rw [hk, hk2, own_bapp, List.replicate_succ, List.set_append_right _ _ (by rw [own_lenb]; exact Nat.le_refl _), own_lenb, Nat.sub_self, List.set_cons_zero, List.append_assoc]
  rfl
theorem own_Bfull {cs : List Int32} : own_B cs.length cs = own_b cs := by unfold own_B; rw [Nat.sub_self, List.replicate_zero, List.append_nil]
theorem own_Ufull {cs : List Int32} : own_U cs.length cs = own_u cs := by unfold own_U; rw [Nat.sub_self, List.replicate_zero, List.append_nil]
def own_cmp (cs : List Int32) : Nat → Nat → List Int32 → List Int32
  | 0, _, ls => ls
  | r + 1, i, ls => own_cmp cs r (i + 1) (ls.set (i) (nar .byte ((cs.getD i 0).toInt8.toInt32)))
theorem own_cmpG {cs : List Int32} (r : Nat) : ∀ i, i + r = cs.length → own_cmp cs r i (own_B cs.length (cs.take i)) = own_b cs := by
  induction r with
  | zero => intro i hi; rw [show i = cs.length from by omega, List.take_length]; exact own_Bfull
  | succ r ih =>
    intro i hi
    have hi' : i < cs.length := by omega
    have hl : (cs.take i).length = i := by rw [List.length_take]; omega
    show own_cmp cs r (i + 1) ((own_B cs.length (cs.take i)).set i (own_l8 (cs.getD i 0))) = _
    have := own_setB (M := cs.length) (ds := cs.take i) (c := cs.getD i 0) (by omega)
    rw [hl, ← own_takeS cs hi'] at this
    rw [this]
    exact ih (i + 1) (by omega)
theorem own_cmpE {cs : List Int32} {n : Nat} (hn : n = cs.length) (hl : own_lo cs) : own_cmp cs (own_j cs) 0 (List.replicate n (0 : Int32)) = own_b cs := by
  rw [(own_jlo cs).mp hl, hn]
  have := own_cmpG (cs := cs) cs.length 0 (by omega)
  exact this
def own_tob (cs : List Int32) : Nat → Nat → List Int32 → List Int32
  | 0, _, ls => ls
  | r + 1, i, ls => own_tob cs r (i + 1) ((ls.set (2 * i) (own_ul (cs.getD i 0))).set (2 * i + 1) (own_uh (cs.getD i 0)))
theorem own_tobG {cs : List Int32} (r : Nat) : ∀ i, i + r = cs.length → own_tob cs r i (own_U cs.length (cs.take i)) = own_u cs := by
  induction r with
  | zero => intro i hi; rw [show i = cs.length from by omega, List.take_length]; exact own_Ufull
  | succ r ih =>
    intro i hi
    have hi' : i < cs.length := by omega
    have hl : (cs.take i).length = i := by rw [List.length_take]; omega
    show own_tob cs r (i + 1) (((own_U cs.length (cs.take i)).set (2 * i) (own_ul (cs.getD i 0))).set (2 * i + 1) (own_uh (cs.getD i 0))) = _
    have := own_setU (M := cs.length) (ds := cs.take i) (c := cs.getD i 0) (by omega)
    rw [hl, ← own_takeS cs hi'] at this
    rw [this]
    exact ih (i + 1) (by omega)
theorem own_tobE {cs : List Int32} {n : Nat} (hn : n = cs.length) : own_tob cs n 0 (List.replicate (2 * n) (0 : Int32)) = own_u cs := by
  subst hn
  have := own_tobG (cs := cs) cs.length 0 (by omega)
  exact this
theorem own_cflF : ∀ n : Fin 65, 1 ≤ n.val → nar .byte (((((Int32.ofNat n.val) - (Int32.ofNat (2 * n.val))).toUInt32 >>> ((31 : Int32) &&& 31).toUInt32).toInt32).toInt8.toInt32) = 1 := by decide +kernel
theorem own_cfl {n : Nat} {cs : List Int32} (h : n = cs.length) (hn : 1 ≤ n ∧ n ≤ 24) : nar .byte (((((Int32.ofNat n) - (Int32.ofNat (own_n cs))).toUInt32 >>> ((31 : Int32) &&& 31).toUInt32).toInt32).toInt8.toInt32) = own_k cs := by
  unfold own_n own_k
  by_cases q : own_lo cs
  · rw [if_pos q, if_pos q, ← h, show Int32.ofNat n - Int32.ofNat n = 0 from Int32.sub_self _]; rfl
  · rw [if_neg q, if_neg q, ← h]; exact own_cflF ⟨n, by omega⟩ hn.1
theorem own_slo {cs : List Int32} (q : own_lo cs) : own_s cs = own_b cs := if_pos q
theorem own_shi {cs : List Int32} (q : ¬ own_lo cs) : own_s cs = own_u cs := if_neg q
theorem own_nlo {cs : List Int32} (q : own_lo cs) : own_n cs = cs.length := if_pos q
theorem own_nhi {cs : List Int32} (q : ¬ own_lo cs) : own_n cs = 2 * cs.length := if_neg q
theorem own_klo {cs : List Int32} (q : own_lo cs) : own_k cs = 0 := if_pos q
theorem own_khi {cs : List Int32} (q : ¬ own_lo cs) : own_k cs = 1 := if_neg q
theorem own_lens (cs : List Int32) : (own_s cs).length = own_n cs := by
  unfold own_s own_n
  split
  · exact own_lenb cs
  · exact own_lenu cs
theorem own_nle (cs : List Int32) : own_n cs ≤ 2 * cs.length := by unfold own_n; split <;> omega
theorem own_tkB {M : Nat} {ds : List Int32} : (own_B M ds).take ds.length = own_b ds := by unfold own_B; exact own_take _ _ (own_lenb ds).symm
theorem own_tkU {M : Nat} {ds : List Int32} : (own_U M ds).take (2 * ds.length) = own_u ds := by unfold own_U; exact own_take _ _ (own_lenu ds).symm
theorem own_cpR {n : Nat} {ls : List Int32} : ls.take n = (List.replicate n (0 : Int32)).take 0 ++ (ls.drop 0).take n ++ (List.replicate n (0 : Int32)).drop (0 + n) := by
  rw [List.take_zero, List.nil_append, List.drop_zero, List.drop_replicate, Nat.zero_add, Nat.sub_self, List.replicate_zero, List.append_nil]
theorem own_sub0 {n : Nat} : Int32.ofNat n - (0 : Int32) = Int32.ofNat n := Int32.sub_zero _
theorem own_min' {a b : Nat} (h : b ≤ a) (hb : a ≤ 200) : f_min (Int32.ofNat a) (Int32.ofNat b) = Int32.ofNat b := by
  unfold f_min
  split
  · rfl
  · rename_i h1
    rw [Int32.lt_iff_toInt_lt, own_ofNat (by omega), own_ofNat (by omega)] at h1
    exact congrArg Int32.ofNat (by omega)
def own_c34 : List Int32 := [123, 123, 35, 116, 111, 74, 115, 111, 110, 125, 125]
def own_c40 : List Int32 := [123, 123, 47, 116, 111, 74, 115, 111, 110, 125, 125]
def own_c46 : List Int32 := [123, 123]
def own_c48 : List Int32 := [125, 125]
def own_x (p : Int32) (cs : List Int32) : List Int32 := if p = (0 : Int32) then ((([] ++ own_c46) ++ cs) ++ own_c48) else ((([] ++ own_c34) ++ cs) ++ own_c40)
theorem own_b34 : own_b own_c34 = [123, 123, 35, 116, 111, 74, 115, 111, 110, 125, 125] := by decide +kernel
theorem own_b40 : own_b own_c40 = [123, 123, 47, 116, 111, 74, 115, 111, 110, 125, 125] := by decide +kernel
theorem own_b46 : own_b own_c46 = [123, 123] := by decide +kernel
theorem own_b48 : own_b own_c48 = [125, 125] := by decide +kernel
theorem own_l34 : own_c34.length = 11 := rfl
theorem own_l40 : own_c40.length = 11 := rfl
theorem own_l46 : own_c46.length = 2 := rfl
theorem own_l48 : own_c48.length = 2 := rfl
theorem own_loapp (a b : List Int32) : own_lo (a ++ b) ↔ own_lo a ∧ own_lo b := by
  unfold own_lo
  simp only [List.mem_append]
  exact ⟨fun h => ⟨fun c hc => h c (Or.inl hc), fun c hc => h c (Or.inr hc)⟩, fun h c hc => hc.elim (h.1 c) (h.2 c)⟩
theorem own_xlo (p : Int32) (cs : List Int32) : own_lo (own_x p cs) ↔ own_lo cs := by
  have h1 : own_lo own_c34 := by decide +kernel
  have h2 : own_lo own_c40 := by decide +kernel
  have h3 : own_lo own_c46 := by decide +kernel
  have h4 : own_lo own_c48 := by decide +kernel
  unfold own_x
  split
  · rw [List.nil_append, own_loapp, own_loapp]; exact ⟨fun q => q.1.2, fun q => ⟨⟨h3, q⟩, h4⟩⟩
  · rw [List.nil_append, own_loapp, own_loapp]; exact ⟨fun q => q.1.2, fun q => ⟨⟨h1, q⟩, h2⟩⟩
theorem own_xlen {p : Int32} {cs : List Int32} (h : cs.length ≤ 2) : 1 ≤ (own_x p cs).length ∧ (own_x p cs).length ≤ 24 := by
  unfold own_x
  split <;> simp only [List.length_append, List.length_nil, own_l34, own_l40, own_l46, own_l48] <;> omega
theorem own_xch {p : Int32} {cs : List Int32} (h : ∀ c ∈ cs, own_ch c) : ∀ c ∈ own_x p cs, own_ch c := by
  have h1 : ∀ c ∈ own_c34, own_ch c := by unfold own_ch; decide +kernel
  have h2 : ∀ c ∈ own_c40, own_ch c := by unfold own_ch; decide +kernel
  have h3 : ∀ c ∈ own_c46, own_ch c := by unfold own_ch; decide +kernel
  have h4 : ∀ c ∈ own_c48, own_ch c := by unfold own_ch; decide +kernel
  unfold own_x
  intro c hc
  split at hc <;> simp only [List.nil_append, List.mem_append] at hc <;> rcases hc with (hc | hc) | hc
  · exact h3 c hc
  · exact h c hc
  · exact h4 c hc
  · exact h1 c hc
  · exact h c hc
  · exact h2 c hc
theorem own_acast {Z : State} {h : Heap} {a : Addr} {k : ClassId} {ty : FieldType} {z z' : Int32} {vs vs' : List Value} {d : Value} (e1 : z = z') (e2 : vs = vs') (V : Arv Z h a k ty z vs d) : Arv Z h a k ty z' vs' d := e1 ▸ e2 ▸ V
theorem own_fcast {Z : State} {h : Heap} {a : Addr} {C f d : String} {v v' : Value} (e : v = v') (F : Fld Z h a C f d v) : Fld Z h a C f d v' := e ▸ F
section Casts
variable {Z : State} {h : Heap} {a : Addr} {k : ClassId} {cs ls ds : List Int32} {n : Nat} {p : Int32}
theorem own_newB (V : Arv Z h a k .byte (16 : Int32) ((List.replicate 16 (0 : Int32)).map Value.int) (.int (0 : Int32))) : Arv Z h a k .byte (Int32.ofNat 16) ((own_B 16 ([] : List Int32)).map Value.int) (.int (0 : Int32)) := V
theorem own_sc0 (hn : n = cs.length) (hl : own_lo cs) (e : ls = own_b cs) (V : Arv Z h a k .byte (Int32.ofNat n) (ls.map Value.int) (.int (0 : Int32))) : Arv Z h a k .byte (Int32.ofNat (own_n cs)) ((own_s cs).map Value.int) (.int (0 : Int32)) := by
  rw [own_nlo hl, own_slo hl, ← hn, ← e]; exact V
theorem own_sc1 (hn : n = cs.length) (hl : ¬ own_lo cs) (V : Arv Z h a k .byte (Int32.ofNat (2 * n)) ((own_u cs).map Value.int) (.int (0 : Int32))) : Arv Z h a k .byte (Int32.ofNat (own_n cs)) ((own_s cs).map Value.int) (.int (0 : Int32)) := by
  rw [own_nhi hl, own_shi hl, ← hn]; exact V
theorem own_lo1 (q : ¬ (255 : Int32) < p) : own_lo [p] := fun c hc => by rw [List.mem_singleton.mp hc]; exact q
theorem own_hi1 (q : (255 : Int32) < p) : ¬ own_lo [p] := fun h => h p (List.mem_singleton.mpr rfl) q
theorem own_v0 (q : ¬ (255 : Int32) < p) (V : Arv Z h a k .byte (1 : Int32) [.int (nar .byte (p.toInt8.toInt32))] (.int (0 : Int32))) : Arv Z h a k .byte (Int32.ofNat (own_n [p])) ((own_s [p]).map Value.int) (.int (0 : Int32)) := by
  rw [own_nlo (own_lo1 q), own_slo (own_lo1 q)]; exact V
theorem own_v1 (q : (255 : Int32) < p) (V : Arv Z h a k .byte (2 : Int32) ((((List.replicate 2 (0 : Int32)).set (2 * 0) (own_ul p)).set (2 * 0 + 1) (own_uh p)).map Value.int) (.int (0 : Int32))) : Arv Z h a k .byte (Int32.ofNat (own_n [p])) ((own_s [p]).map Value.int) (.int (0 : Int32)) := by
  rw [own_nhi (own_hi1 q), own_shi (own_hi1 q)]; exact V
theorem own_pV0 (e : own_x p cs = ds) (hl : own_lo cs) (V : Arv Z h a k .byte (Int32.ofNat ds.length) ((own_b ds).map Value.int) (.int (0 : Int32))) : Arv Z h a k .byte (Int32.ofNat (own_n (own_x p cs))) ((own_s (own_x p cs)).map Value.int) (.int (0 : Int32)) := by
  have q := (own_xlo p cs).mpr hl
  rw [own_nlo q, own_slo q, e]; exact V
theorem own_pV1 (e : own_x p cs = ds) (hl : ¬ own_lo cs) (V : Arv Z h a k .byte (Int32.ofNat (2 * ds.length)) ((own_u ds).map Value.int) (.int (0 : Int32))) : Arv Z h a k .byte (Int32.ofNat (own_n (own_x p cs))) ((own_s (own_x p cs)).map Value.int) (.int (0 : Int32)) := by
  have q : ¬ own_lo (own_x p cs) := fun q => hl ((own_xlo p cs).mp q)
  rw [own_nhi q, own_shi q, e]; exact V
theorem own_pK0 (hl : own_lo cs) : Value.int (0 : Int32) = Value.int (own_k (own_x p cs)) := by rw [own_klo ((own_xlo p cs).mpr hl)]
theorem own_pK1 (hl : ¬ own_lo cs) : Value.int (1 : Int32) = Value.int (own_k (own_x p cs)) := by rw [own_khi (fun q => hl ((own_xlo p cs).mp q))]
end Casts
theorem own_neq {n zl : Nat} (h : n < zl ∧ zl ≤ 128 ∧ n ≤ 48) : ¬ Int32.ofNat n = Int32.ofNat zl := fun q => by have := own_inj (by omega) (by omega) q; omega
theorem own_n0 {n m : Nat} (h : n = m ∧ 1 ≤ n ∧ n ≤ 24) : ¬ Int32.ofNat n = (0 : Int32) := fun q => by have := own_inj (a := n) (b := 0) (by omega) (by omega) q; omega
theorem own_jeq {n : Nat} {cs : List Int32} (h : n = cs.length) (q : ¬ own_j cs < n) : n = own_j cs := by have := own_jle cs; omega
theorem own_jl {n : Nat} {cs : List Int32} (h : n = cs.length ∧ 1 ≤ n ∧ n ≤ 24) (q : ¬ Int32.ofNat (own_j cs) = Int32.ofNat n) : own_j cs < n := by
  have := own_jle cs
  rcases Nat.lt_or_ge (own_j cs) n with h1 | h1
  · exact h1
  · exact absurd (congrArg Int32.ofNat (show own_j cs = n by omega)) q
theorem own_jlo1 {n : Nat} {cs : List Int32} (h : n = cs.length ∧ 1 ≤ n ∧ n ≤ 24) (q : Int32.ofNat (own_j cs) = Int32.ofNat n) : own_lo cs := (own_jlo cs).mpr (by have := own_jle cs; have := own_inj (by omega) (by omega) q; omega)
theorem own_jlo0 {n : Nat} {cs : List Int32} (h : n = cs.length ∧ 1 ≤ n ∧ n ≤ 24) (q : ¬ Int32.ofNat (own_j cs) = Int32.ofNat n) : ¬ own_lo cs := fun w => by
  have := own_jl h q
  have := (own_jlo cs).mp w
  omega
theorem own_gt {n : Nat} {cs : List Int32} (h : n = cs.length ∧ 1 ≤ n ∧ n ≤ 24) (hc : ∀ c ∈ cs, own_ch c) (q : ¬ Int32.ofNat (own_j cs) = Int32.ofNat n) : (255 : Int32) < f_getC (own_j cs) (own_u cs) := by
  have hj : own_j cs < cs.length := h.1 ▸ own_jl h q
  rw [own_gcu hc hj]; exact own_jgt hj
theorem own_st6 {a b : Addr} {x1 x3 x4 x5 v : Int32} {s6 : Slot} (h : One s6) : storeLocals #[.val (.ref a), .val (.int x1), .val (.ref b), .val (.int x3), .val (.int x4), .val (.int x5), s6] 6 (.int v) = some #[.val (.ref a), .val (.int x1), .val (.ref b), .val (.int x3), .val (.int x4), .val (.int x5), .val (.int v)] := by
  rcases h with rfl | ⟨w, rfl, hw⟩
  · rfl
  · cases w <;> first | rfl | (simp [Value.category] at hw)
def own_nm (n a b : Int32) : List Int32 := if n = (0 : Int32) then [] else if n = (1 : Int32) then [a] else [a, b]
theorem own_nm0 {n a b : Int32} (h : n = (0 : Int32)) : own_nm n a b = [] := if_pos h
theorem own_nm1 {n a b : Int32} (h0 : ¬ n = (0 : Int32)) (h : n = (1 : Int32)) : own_nm n a b = [a] := by unfold own_nm; rw [if_neg h0, if_pos h]
theorem own_nm2 {n a b : Int32} (h0 : ¬ n = (0 : Int32)) (h : ¬ n = (1 : Int32)) : own_nm n a b = [a, b] := by unfold own_nm; rw [if_neg h0, if_neg h]
theorem own_nml (n a b : Int32) : (own_nm n a b).length ≤ 2 := by
  unfold own_nm
  split
  · decide
  · split
    · show 1 ≤ 2; decide
    · show 2 ≤ 2; decide
theorem own_nmch {n a b : Int32} (ha : own_ch a) (hb : own_ch b) : ∀ c ∈ own_nm n a b, own_ch c := by
  intro c hc
  unfold own_nm at hc
  split at hc
  · cases hc
  · split at hc
    · rw [List.mem_singleton.mp hc]; exact ha
    · rcases List.mem_cons.mp hc with rfl | hc
      · exact ha
      · rw [List.mem_singleton.mp hc]; exact hb
theorem own_lonil : own_lo [] := fun c hc => nomatch hc
theorem own_bool {p : Prop} [Decidable p] : nar .boolean (if p then (0 : Int32) else (1 : Int32)) = (if p then (0 : Int32) else (1 : Int32)) := by split <;> rfl
def own_ev (f : Fin 4 → Int32) : Int ⊕ Fin 4 → Int32
  | .inl i => (Int8.ofInt i).toInt32
  | .inr k => f k
def own_f (a b c d : Int32) : Fin 4 → Int32
  | 0 => a
  | 1 => b
  | 2 => c
  | 3 => d
def own_es (k : Nat) : Nat := if k ≤ 5 then 1 else 2
def own_vl : Int ⊕ Fin 4 → Nat
  | .inl _ => 2
  | .inr _ => 1
def own_iv : Int ⊕ Fin 4 → Instr × Nat
  | .inl i => (.bipush i, 2)
  | .inr k => (.iload_n k, 1)
def own_ii (k : Nat) : Instr × Nat := if k ≤ 5 then (.iconst (k : Int), 1) else (.bipush (k : Int), 2)
def own_at (code : ByteArray) : Nat → Nat → List (Int ⊕ Fin 4) → Bool
  | _, _, [] => true
  | pc, k, x :: xs => decide (decode code pc = .ok (.dup, 1)) && (decide (decode code (pc + 1) = .ok (own_ii k)) && (decide (decode code (pc + 1 + own_es k) = .ok (own_iv x)) && (decide (decode code (pc + 1 + own_es k + own_vl x) = .ok (.castore, 1)) && own_at code (pc + 1 + own_es k + own_vl x + 1) (k + 1) xs)))
def own_pe : Nat → Nat → List (Int ⊕ Fin 4) → Nat
  | pc, _, [] => pc
  | pc, k, x :: xs => own_pe (pc + 1 + own_es k + own_vl x + 1) (k + 1) xs
def own_fl (f : Fin 4 → Int32) : Nat → List (Int ⊕ Fin 4) → List Int32 → List Int32
  | _, [], ls => ls
  | k, x :: xs, ls => own_fl f (k + 1) xs (ls.set k (own_ev f x))
theorem own_flE (f : Fin 4 → Int32) (xs : List (Int ⊕ Fin 4)) : ∀ (k : Nat) (ls : List Int32), k + xs.length = ls.length → own_fl f k xs ls = ls.take k ++ xs.map (own_ev f) := by
  induction xs with
  | nil => intro k ls h; rw [show k = ls.length from h, List.take_length]; exact (List.append_nil ls).symm
  | cons x xs ih =>
    intro k ls h
    have hk : k < ls.length := by rw [← h, List.length_cons]; omega
    have e : (ls.set k (own_ev f x)).take (k + 1) = ls.take k ++ [own_ev f x] := by
      rw [List.take_add_one, List.getElem?_set_self hk, List.take_set_of_le (Nat.le_refl k)]; rfl
    show own_fl f (k + 1) xs (ls.set k (own_ev f x)) = _
    rw [ih (k + 1) _ (by rw [List.length_set, ← h, List.length_cons]; omega), e, List.append_assoc]
    rfl
theorem own_i8F : ∀ k : Fin 128, (Int8.ofInt (k.val : Int)).toInt32 = Int32.ofNat k.val := by decide +kernel
theorem own_i32F : ∀ k : Fin 128, Int32.ofInt (k.val : Int) = Int32.ofNat k.val := by decide +kernel
section Fill
variable {p : Program} {l : Launch} {e : Env} {R : Room} {s : State} {m : MethodId} {args : Array Value} {below : List Frame} {meth : Method} {c : Code} {cells slots : Nat} {Z : State} {a : Addr} {ka : ClassId} {n0 : Nat}
theorem own_fill1 {T : State} {locs : List Loc} {h : Heap} (X : Stand p l e R s m args below meth c T locs cells slots) (hx : p.tables.exec = Jvm.exec) (hZ : Z.Warmed39 s.vm) (eT : T.heap = h) {N k : Nat} {ls : List Int32} (V : Arv Z h a ka .char (Int32.ofNat N) (ls.map Value.int) (.int (0 : Int32))) (hk : k < N) (hN : N ≤ 64) (hl : k < ls.length)
    {pc : Nat} {Ls : Array Slot} {rest : List Value} {x : Int ⊕ Fin 4} {f : Fin 4 → Int32} (hf : ∀ n : Fin 4, Ls[n.val]? = some (.val (.int (f n)))) (hv : nar .char (own_ev f x) = own_ev f x)
    (d1 : decode c.code pc = .ok (.dup, 1)) (d2 : decode c.code (pc + 1) = .ok (own_ii k)) (d3 : decode c.code (pc + 1 + own_es k) = .ok (own_iv x)) (d4 : decode c.code (pc + 1 + own_es k + own_vl x) = .ok (.castore, 1)) (N0 : Fr n0 locs) (ge : n0 ≤ a) :
    ∃ (T' : State) (L' : List Loc), Stand p l e R s m args below meth c T' L' cells slots ∧ Fr n0 L' ∧ Keep h T'.heap [a] ∧ Arv Z T'.heap a ka .char (Int32.ofNat N) ((ls.set k (own_ev f x)).map Value.int) (.int (0 : Int32)) ∧ Go p.tables e below (T.setTop (mkF m pc Ls (.ref a :: rest))) (T'.setTop (mkF m (pc + 1 + own_es k + own_vl x + 1) Ls (.ref a :: rest))) := by
  have hpush : Go p.tables e below (T.setTop (mkF m pc Ls (.ref a :: rest))) (T.setTop (mkF m (pc + 1 + own_es k + own_vl x) Ls (.int (own_ev f x) :: .int (Int32.ofNat k) :: .ref a :: .ref a :: rest))) := by
    intro t ht
    refine XS.dup X.here hx rfl d1 rfl rfl ?_
    have st2 : Steps p.tables e below (T.setTop (mkF m (pc + 1 + own_es k) Ls (.int (Int32.ofNat k) :: .ref a :: .ref a :: rest))) t := by
      cases x with
      | inl i => exact XS.bipush X.here hx rfl d3 ht
      | inr n => exact XS.iloadN X.here hx rfl d3 (hf n) ht
    by_cases q : k ≤ 5
    · have e1 : own_es k = 1 := if_pos q
      have e2 : own_ii k = (.iconst (k : Int), 1) := if_pos q
      rw [e1] at st2
      rw [e2] at d2
      refine XS.iconst X.here hx rfl d2 ?_
      rw [own_i32F ⟨k, by omega⟩]
      exact st2
    · have e1 : own_es k = 2 := if_neg q
      have e2 : own_ii k = (.bipush (k : Int), 2) := if_neg q
      rw [e1] at st2
      rw [e2] at d2
      refine XS.bipush X.here hx rfl d2 ?_
      rw [own_i8F ⟨k, by omega⟩]
      exact st2
  obtain ⟨cl, Ar, q, S, M, H, G⟩ := id V
  have hin : ¬ (Int32.ofNat k < 0 ∨ cl.slots.size ≤ (Int32.ofNat k).toNatClampNeg) := inb_of S ⟨own_nneg (by omega), own_ltk hk (by omega)⟩
  obtain ⟨T', h', X', e', W, st⟩ := stC X hx hZ eT Ar (j := Int32.ofNat k) hin (g := mkF m (pc + 1 + own_es k + own_vl x) Ls (.int (own_ev f x) :: .int (Int32.ofNat k) :: .ref a :: .ref a :: rest)) rfl rfl d4
  subst e'
  refine ⟨T', _, X', Fr.snoc X' N0 ge, Keep.of_wr W, ?_, goT hpush st⟩
  rw [List.map_set, ← hv]
  exact Arv.set Ar q S M H G (fits_nar_char _) W k (own_clamp (by omega)) (by rw [List.length_map]; exact hl)
theorem own_fill (hx : p.tables.exec = Jvm.exec) (hZ : Z.Warmed39 s.vm) {N : Nat} (hN : N ≤ 64) {Ls : Array Slot} {rest : List Value} {f : Fin 4 → Int32} (hf : ∀ n : Fin 4, Ls[n.val]? = some (.val (.int (f n)))) (ge : n0 ≤ a) (xs : List (Int ⊕ Fin 4)) :
    ∀ (k pc : Nat) (ls : List Int32) (h : Heap) (T : State) (locs : List Loc) (_ : Stand p l e R s m args below meth c T locs cells slots) (_ : T.heap = h) (_ : Fr n0 locs) (_ : Arv Z h a ka .char (Int32.ofNat N) (ls.map Value.int) (.int (0 : Int32))) (_ : k + xs.length = N) (_ : ls.length = N) (_ : own_at c.code pc k xs = true) (_ : ∀ v ∈ xs.map (own_ev f), own_ch v),
    ∃ (T' : State) (L' : List Loc), Stand p l e R s m args below meth c T' L' cells slots ∧ Fr n0 L' ∧ Keep h T'.heap [a] ∧ Arv Z T'.heap a ka .char (Int32.ofNat N) ((own_fl f k xs ls).map Value.int) (.int (0 : Int32)) ∧ Go p.tables e below (T.setTop (mkF m pc Ls (.ref a :: rest))) (T'.setTop (mkF m (own_pe pc k xs) Ls (.ref a :: rest))) := by
  induction xs with
  | nil => intro k pc ls h T locs X eT N0 V _ _ _ _; exact ⟨T, locs, X, N0, by rw [eT]; exact Keep.refl _ _, by rw [eT]; exact V, fun _ h => h⟩
  | cons x xs ih =>
    intro k pc ls h T locs X eT N0 V hk hl ha hv
    rw [List.length_cons] at hk
    simp only [own_at, Bool.and_eq_true, decide_eq_true_eq] at ha
    obtain ⟨d1, d2, d3, d4, ha⟩ := ha
    obtain ⟨T1, L1, X1, N1, K1, V1, k1⟩ := own_fill1 X hx hZ eT V (by omega) hN (by omega) (rest := rest) hf (own_nch (hv _ (by rw [List.map_cons]; exact List.mem_cons_self))) d1 d2 d3 d4 N0 ge
    obtain ⟨T2, L2, X2, N2, K2, V2, k2⟩ := ih (k + 1) _ _ T1.heap T1 L1 X1 rfl N1 V1 (by omega) (by rw [List.length_set]; exact hl) ha (fun v hm => hv v (by rw [List.map_cons]; exact List.mem_cons_of_mem _ hm))
    exact ⟨T2, L2, X2, N2, K1.trans K2 (fun x hx => Or.inl hx), V2, goT k1 k2⟩
end Fill
def own_e34 : List (Int ⊕ Fin 4) := [.inl 123, .inl 123, .inl 35, .inl 116, .inl 111, .inl 74, .inl 115, .inl 111, .inl 110, .inl 125, .inl 125]
def own_e40 : List (Int ⊕ Fin 4) := [.inl 123, .inl 123, .inl 47, .inl 116, .inl 111, .inl 74, .inl 115, .inl 111, .inl 110, .inl 125, .inl 125]
def own_e46 : List (Int ⊕ Fin 4) := [.inl 123, .inl 123]
def own_e48 : List (Int ⊕ Fin 4) := [.inl 125, .inl 125]
def own_em : Nat → List (Int ⊕ Fin 4)
  | 0 => []
  | 1 => [.inr 2]
  | _ => [.inr 2, .inr 3]
theorem own_ee34 (f : Fin 4 → Int32) : own_e34.map (own_ev f) = own_c34 := rfl
theorem own_ee40 (f : Fin 4 → Int32) : own_e40.map (own_ev f) = own_c40 := rfl
theorem own_ee46 (f : Fin 4 → Int32) : own_e46.map (own_ev f) = own_c46 := rfl
theorem own_ee48 (f : Fin 4 → Int32) : own_e48.map (own_ev f) = own_c48 := rfl
theorem own_exj (f : Fin 4 → Int32) (ms : List (Int ⊕ Fin 4)) {p : Int32} (h : ¬ p = (0 : Int32)) : (own_e34 ++ ms ++ own_e40).map (own_ev f) = own_x p (ms.map (own_ev f)) := by
  unfold own_x
  rw [if_neg h, List.map_append, List.map_append, own_ee34, own_ee40]; rfl
theorem own_exn (f : Fin 4 → Int32) (ms : List (Int ⊕ Fin 4)) {p : Int32} (h : p = (0 : Int32)) : (own_e46 ++ ms ++ own_e48).map (own_ev f) = own_x p (ms.map (own_ev f)) := by
  unfold own_x
  rw [if_pos h, List.map_append, List.map_append, own_ee46, own_ee48]; rfl
theorem own_fL (a b c d : Int32) : ∀ n : Fin 4, (#[.val (.int a), .val (.int b), .val (.int c), .val (.int d)] : Array Slot)[n.val]? = some (.val (.int (own_f a b c d n)))
  | 0 => rfl
  | 1 => rfl
  | 2 => rfl
  | 3 => rfl
theorem own_fl0 (f : Fin 4 → Int32) (xs : List (Int ⊕ Fin 4)) {n : Nat} (h : xs.length = n) : own_fl f 0 xs (List.replicate n (0 : Int32)) = xs.map (own_ev f) := by
  rw [own_flE f xs 0 _ (by rw [List.length_replicate]; omega)]; rfl
theorem d_m25_0 : decode jdk_65_method_131_code 0 = .ok (.iload_n 1, 1) := by decide +kernel
theorem d_m25_1 : decode jdk_65_method_131_code 1 = .ok (.iload_n 0, 1) := by decide +kernel
theorem d_m25_2 : decode jdk_65_method_131_code 2 = .ok (.if_icmp .ge 35, 3) := by decide +kernel
theorem d_m25_37 : decode jdk_65_method_131_code 37 = .ok (.return_, 1) := by decide +kernel
theorem ef_ckl (m : MethodId) (x1 : Int32) : entryFrame m #[(.int (0 : Int32)), (.int x1)] 2 = mkF m 0 #[.val (.int (0 : Int32)), .val (.int x1)] [] := by first | (simp [entryFrame, mkF, argsToLocals, Value.category]; done) | rfl
def Q_ckl (Z : State) (n : Nat) (h0 : Heap) (n0 : Nat) (v : Option Value) (h : Heap) (L : List Loc) : Prop := v = none ∧ Fr n0 L ∧ h = h0
set_option maxRecDepth 65536 in
set_option maxHeartbeats 40000000 in
theorem rm_ckl (l : Launch) (Z : State) (a0 : Array Value) (hw : HW a0 Z) (ws : List Jvm.Cond) (n : Nat) (h0 : Heap) (n0 : Nat) (Z0 : n0 ≤ h0.size) (hn : n ≤ 48) :
    own_M l Z h0 (⟨"java/util/Arrays", "checkLength", "(II)V"⟩ : MethodName) jdk_65_method_131_code 2 none ws (rR 0 0 0 0) #[(.int (0 : Int32)), (.int (Int32.ofNat n))] (Q_ckl Z n h0 n0) := by
  refine own_body (own := "java/util/Arrays") (plainFor_of_name pn_6) rfl ?_
  intro p e s m below meth c s₁ Bd hZ hh hx hby hml hown X0 e0
  have N0 := Fr.nil n0
  have k1 : Go p.tables e below (s₁.setTop (mkF m 0 #[.val (.int (0 : Int32)), .val (.int (Int32.ofNat n))] [])) (s₁.setTop (mkF m 37 #[.val (.int (0 : Int32)), .val (.int (Int32.ofNat n))] [])) := by
    intro t ht
    refine XS.iloadN X0.here hx rfl (hb hby d_m25_0) rfl ?_
    refine XS.iloadN X0.here hx rfl (hb hby d_m25_1) rfl ?_
    refine XS.icmpYes X0.here hx rfl (pc0 := 2) (pc' := 37) rfl (hb hby d_m25_2) rfl (flt (own_nneg (by omega))).2.1 (by decide) (by decide) ?_
    exact ht
  obtain ⟨fs, hr, hrun, hended, hW, hsame⟩ := X0.leave (v := none) (fun _ => rfl)
  refine ⟨_, _, castTop (ef_ckl m (Int32.ofNat n)) (k1 _ (X0.returnOut hx Bd.returns (hb hby d_m25_37) hr)), hrun, hended, _, _, rfl, ?_, ⟨_, rfl⟩, hW, hsame.mono (by decide) (by decide)⟩
  show Q_ckl Z n h0 n0 _ s₁.heap _
  rw [e0]
  exact ⟨rfl, N0, rfl⟩
theorem pd_19 : parseMethodDescriptor "(II)V" = some ⟨[.int, .int], none⟩ := by decide +kernel
theorem d_m26_0 : decode jdk_65_method_133_code 0 = .ok (.iload_n 1, 1) := by decide +kernel
theorem d_m26_1 : decode jdk_65_method_133_code 1 = .ok (.iload_n 2, 1) := by decide +kernel
theorem d_m26_2 : decode jdk_65_method_133_code 2 = .ok (.invokestatic 343, 3) := by decide +kernel
theorem d_m26_5 : decode jdk_65_method_133_code 5 = .ok (.iload_n 2, 1) := by decide +kernel
theorem d_m26_6 : decode jdk_65_method_133_code 6 = .ok (.iload_n 1, 1) := by decide +kernel
theorem d_m26_7 : decode jdk_65_method_133_code 7 = .ok (.isub, 1) := by decide +kernel
theorem d_m26_8 : decode jdk_65_method_133_code 8 = .ok (.istore_n 3, 1) := by decide +kernel
theorem d_m26_9 : decode jdk_65_method_133_code 9 = .ok (.iload_n 3, 1) := by decide +kernel
theorem d_m26_10 : decode jdk_65_method_133_code 10 = .ok (.newarray .byte, 2) := by decide +kernel
theorem d_m26_12 : decode jdk_65_method_133_code 12 = .ok (.astore 4, 2) := by decide +kernel
theorem d_m26_14 : decode jdk_65_method_133_code 14 = .ok (.aload_n 0, 1) := by decide +kernel
theorem d_m26_15 : decode jdk_65_method_133_code 15 = .ok (.iload_n 1, 1) := by decide +kernel
theorem d_m26_16 : decode jdk_65_method_133_code 16 = .ok (.aload 4, 2) := by decide +kernel
theorem d_m26_18 : decode jdk_65_method_133_code 18 = .ok (.iconst 0, 1) := by decide +kernel
theorem d_m26_19 : decode jdk_65_method_133_code 19 = .ok (.aload_n 0, 1) := by decide +kernel
theorem d_m26_20 : decode jdk_65_method_133_code 20 = .ok (.arraylength, 1) := by decide +kernel
theorem d_m26_21 : decode jdk_65_method_133_code 21 = .ok (.iload_n 1, 1) := by decide +kernel
theorem d_m26_22 : decode jdk_65_method_133_code 22 = .ok (.isub, 1) := by decide +kernel
theorem d_m26_23 : decode jdk_65_method_133_code 23 = .ok (.iload_n 3, 1) := by decide +kernel
theorem d_m26_24 : decode jdk_65_method_133_code 24 = .ok (.invokestatic 304, 3) := by decide +kernel
theorem d_m26_27 : decode jdk_65_method_133_code 27 = .ok (.invokestatic 150, 3) := by decide +kernel
theorem d_m26_30 : decode jdk_65_method_133_code 30 = .ok (.aload 4, 2) := by decide +kernel
theorem d_m26_32 : decode jdk_65_method_133_code 32 = .ok (.areturn, 1) := by decide +kernel
theorem ef_corb (m : MethodId) (x0 : Addr) (x2 : Int32) : entryFrame m #[(.ref x0), (.int (0 : Int32)), (.int x2)] 5 = mkF m 0 #[.val (.ref x0), .val (.int (0 : Int32)), .val (.int x2), .unset, .unset] [] := by first | (simp [entryFrame, mkF, argsToLocals, Value.category]; done) | rfl
def Q_corb (Z : State) (r0 : Addr) (n : Nat) (kA : ClassId) (zl : Nat) (ls : List Int32) (h0 : Heap) (n0 : Nat) (v : Option Value) (h : Heap) (L : List Loc) : Prop := ∃ (xb : Addr) (xk : ClassId), v = some (.ref xb) ∧ Fr n0 L ∧ Keep h0 h [] ∧ h0.size ≤ xb ∧ own_A Z h xb xk .byte (Int32.ofNat n) (ls.take n)
set_option maxRecDepth 65536 in
set_option maxHeartbeats 40000000 in
theorem rm_corb (l : Launch) (Z : State) (a0 : Array Value) (hw : HW a0 Z) (ws : List Jvm.Cond) (r0 : Addr) (n : Nat) (kA : ClassId) (zl : Nat) (ls : List Int32) (h0 : Heap) (n0 : Nat) (Z0 : n0 ≤ h0.size) (V_A : own_A Z h0 r0 kA .byte (Int32.ofNat zl) ls) (hn : n < zl ∧ zl ≤ 128 ∧ n ≤ 48) (hl : ls.length = zl) :
    own_M l Z h0 (⟨"java/util/Arrays", "copyOfRangeByte", "([BII)[B"⟩ : MethodName) jdk_65_method_133_code 5 (some (.array .byte)) ws (rR 1 1 48 18) #[(.ref r0), (.int (0 : Int32)), (.int (Int32.ofNat n))] (Q_corb Z r0 n kA zl ls h0 n0) := by
  refine own_body (own := "java/util/Arrays") (plainFor_of_name pn_6) rfl ?_
  intro p e s m below meth c s₁ Bd hZ hh hx hby hml hown X0 e0
  have N0 := Fr.nil n0
  have k1 : Go p.tables e below (s₁.setTop (mkF m 0 #[.val (.ref r0), .val (.int (0 : Int32)), .val (.int (Int32.ofNat n)), .unset, .unset] [])) (s₁.setTop (mkF m 2 #[.val (.ref r0), .val (.int (0 : Int32)), .val (.int (Int32.ofNat n)), .unset, .unset] [(.int (Int32.ofNat n)), (.int (0 : Int32))])) := by
    intro t ht
    refine XS.iloadN X0.here hx rfl (hb hby d_m26_0) rfl ?_
    refine XS.iloadN X0.here hx rfl (hb hby d_m26_1) rfl ?_
    exact ht
  have rq2 := Jvm.LawKit.callS X0 hx (y := (⟨"java/util/Arrays", "checkLength", "(II)V"⟩ : MethodName)) hown (mvT hZ (own_w hw 153 rfl)) (mvT hZ (own_w hw 154 rfl)) (mvT hZ (own_w hw 148 rfl)) (mvT hZ (own_w hw 155 rfl)) (by decide) (backOf (W := 0) (rm_ckl l Z a0 hw [] n h0 n0 Z0 (by omega : n ≤ 48)) hZ (own_w hw 155 rfl) (own_w hw 148 rfl) (by decide) (by decide)) (g := (mkF m 2 #[.val (.ref r0), .val (.int (0 : Int32)), .val (.int (Int32.ofNat n)), .unset, .unset] [(.int (Int32.ofNat n)), (.int (0 : Int32))])) rfl (by rw [hml]; rfl) (argsL := [(.int (0 : Int32)), (.int (Int32.ofNat n))]) (rest := []) (lenOf pd_19 rfl) rfl (by show 2 * 0 + _ ≤ _; exact Nat.le_of_eq rfl) (hb hby d_m26_2) (fun _ _ => ⟨rfl, e0, (by decide : 0 + 0 ≤ _), (by decide : 0 + 0 ≤ _)⟩)
  obtain ⟨_, T2, L2, X2, ⟨rfl, N2q, eq2⟩, st2⟩ := own_rS X0 rq2
  have N2 := Fr.app N0 N2q
  have k3 : Go p.tables e below _ (T2.setTop (mkF m 8 #[.val (.ref r0), .val (.int (0 : Int32)), .val (.int (Int32.ofNat n)), .unset, .unset] [(.int ((Int32.ofNat n) - (0 : Int32)))])) := fun t ht => st2 t (by
    refine XS.iloadN X2.here hx rfl (hb hby d_m26_5) rfl ?_
    refine XS.iloadN X2.here hx rfl (hb hby d_m26_6) rfl ?_
    refine XS.isub X2.here hx rfl (hb hby d_m26_7) rfl ?_
    exact ht)
  have k4 : Go p.tables e below _ (T2.setTop (mkF m 8 #[.val (.ref r0), .val (.int (0 : Int32)), .val (.int (Int32.ofNat n)), .unset, .unset] [(.int (Int32.ofNat n))])) := goT k3 (by rw [own_sub0]; exact fun _ h => h)
  have k5 : Go p.tables e below _ (T2.setTop (mkF m 10 #[.val (.ref r0), .val (.int (0 : Int32)), .val (.int (Int32.ofNat n)), .val (.int (Int32.ofNat n)), .unset] [(.int (Int32.ofNat n))])) := goT k4 fun t ht => (by
    refine XS.istoreN X2.here hx rfl (hb hby d_m26_8) rfl (l' := #[.val (.ref r0), .val (.int (0 : Int32)), .val (.int (Int32.ofNat n)), .val (.int (Int32.ofNat n)), .unset]) rfl ?_
    refine XS.iloadN X2.here hx rfl (hb hby d_m26_9) rfl ?_
    exact ht)
  obtain ⟨T6, h6, kc6, X6, e6, E6, A6, st6⟩ := newP X2 hx hZ (own_w hw 14 rfl) eq2 (g := (mkF m 10 #[.val (.ref r0), .val (.int (0 : Int32)), .val (.int (Int32.ofNat n)), .val (.int (Int32.ofNat n)), .unset] [(.int (Int32.ofNat n))])) rfl (hb hby d_m26_10) rfl (own_nneg (by omega)) (cap := 48) (own_clampLe (by omega)) (by decide) (by decide) (by decide)
  obtain ⟨b6, g6⟩ : ∃ z, z = h0.size := ⟨_, rfl⟩
  rw [← g6] at A6 st6
  have g_b6 : n0 ≤ b6 := Nat.le_trans Z0 (Nat.le_of_eq g6.symm)
  have sz_b6 : h0.size ≤ b6 := Nat.le_trans (Keep.refl h0 []).1 (Nat.le_of_eq g6.symm)
  have Kp6 : Keep h0 h6 [] := (Keep.refl h0 []).ext E6
  have Z6 : n0 ≤ h6.size := Nat.le_trans Z0 E6.1
  have V_A_c_6 := V_A.ext E6
  have V_b6 : Arv Z h6 b6 kc6 .byte (Int32.ofNat n) ((List.replicate n (0 : Int32)).map Value.int) (.int (0 : Int32)) := (Arv.new A6 (own_nneg (by omega))).pad own_pad
  have k7 : Go p.tables e below _ (T6.setTop (mkF m 20 #[.val (.ref r0), .val (.int (0 : Int32)), .val (.int (Int32.ofNat n)), .val (.int (Int32.ofNat n)), .val (.ref b6)] [(.ref r0), (.int (0 : Int32)), (.ref b6), (.int (0 : Int32)), (.ref r0)])) := fun t ht => st6 t (by
    refine XS.astore X6.here hx rfl (hb hby d_m26_12) rfl rfl (l' := #[.val (.ref r0), .val (.int (0 : Int32)), .val (.int (Int32.ofNat n)), .val (.int (Int32.ofNat n)), .val (.ref b6)]) rfl ?_
    refine XS.aloadN X6.here hx rfl (hb hby d_m26_14) rfl rfl ?_
    refine XS.iloadN X6.here hx rfl (hb hby d_m26_15) rfl ?_
    refine XS.aload X6.here hx rfl (hb hby d_m26_16) rfl rfl ?_
    refine XS.iconst X6.here hx rfl (hb hby d_m26_18) ?_
    refine XS.aloadN X6.here hx rfl (hb hby d_m26_19) rfl rfl ?_
    exact ht)
  obtain ⟨cl8, Ar8, q8, S8, M8, H8, G8⟩ := id V_A_c_6
  have k9 : Go p.tables e below _ (T6.setTop (mkF m 23 #[.val (.ref r0), .val (.int (0 : Int32)), .val (.int (Int32.ofNat n)), .val (.int (Int32.ofNat n)), .val (.ref b6)] [(.int ((Int32.ofNat zl) - (0 : Int32))), (.int (0 : Int32)), (.ref b6), (.int (0 : Int32)), (.ref r0)])) := goT k7 fun t ht => (by
    refine X6.arraylength hx (by rw [e6]; exact Ar8.1) (State.isArrayOf_alike hZ.alike Ar8.2.1) (g := (mkF m 20 #[.val (.ref r0), .val (.int (0 : Int32)), .val (.int (Int32.ofNat n)), .val (.int (Int32.ofNat n)), .val (.ref b6)] [(.ref r0), (.int (0 : Int32)), (.ref b6), (.int (0 : Int32)), (.ref r0)])) rfl rfl (hb hby d_m26_20) _ ?_
    rw [len_of S8 M8]
    refine XS.iloadN X6.here hx rfl (hb hby d_m26_21) rfl ?_
    refine XS.isub X6.here hx rfl (hb hby d_m26_22) rfl ?_
    exact ht)
  have k10 : Go p.tables e below _ (T6.setTop (mkF m 23 #[.val (.ref r0), .val (.int (0 : Int32)), .val (.int (Int32.ofNat n)), .val (.int (Int32.ofNat n)), .val (.ref b6)] [(.int (Int32.ofNat zl)), (.int (0 : Int32)), (.ref b6), (.int (0 : Int32)), (.ref r0)])) := goT k9 (by rw [own_sub0]; exact fun _ h => h)
  have k11 : Go p.tables e below _ (T6.setTop (mkF m 24 #[.val (.ref r0), .val (.int (0 : Int32)), .val (.int (Int32.ofNat n)), .val (.int (Int32.ofNat n)), .val (.ref b6)] [(.int (Int32.ofNat n)), (.int (Int32.ofNat zl)), (.int (0 : Int32)), (.ref b6), (.int (0 : Int32)), (.ref r0)])) := goT k10 fun t ht => (by
    refine XS.iloadN X6.here hx rfl (hb hby d_m26_23) rfl ?_
    exact ht)
  have rq12 := Jvm.LawKit.callS X6 hx (y := (⟨"java/lang/Math", "min", "(II)I"⟩ : MethodName)) hown (mvT hZ (own_w hw 156 rfl)) (mvT hZ (own_w hw 157 rfl)) (mvT hZ (own_w hw 158 rfl)) (mvT hZ (own_w hw 159 rfl)) (by decide) (backOf (W := 4) (rm_min l Z a0 hw [] (Int32.ofNat zl) (Int32.ofNat n) h6 n0 Z6 ) hZ (own_w hw 159 rfl) (own_w hw 158 rfl) (by decide) (by decide)) (g := (mkF m 24 #[.val (.ref r0), .val (.int (0 : Int32)), .val (.int (Int32.ofNat n)), .val (.int (Int32.ofNat n)), .val (.ref b6)] [(.int (Int32.ofNat n)), (.int (Int32.ofNat zl)), (.int (0 : Int32)), (.ref b6), (.int (0 : Int32)), (.ref r0)])) rfl (by rw [hml]; rfl) (argsL := [(.int (Int32.ofNat zl)), (.int (Int32.ofNat n))]) (rest := [(.int (0 : Int32)), (.ref b6), (.int (0 : Int32)), (.ref r0)]) (lenOf pd_8 rfl) rfl (by show 2 * 0 + _ ≤ _; exact Nat.le_of_eq rfl) (hb hby d_m26_24) (fun _ _ => ⟨rfl, e6, (by decide : 1 + 0 ≤ _), (by decide : 48 + 0 ≤ _)⟩)
  obtain ⟨_, T12, L12, X12, ⟨rfl, N12q, eq12⟩, st12⟩ := own_rS X6 rq12
  have N12 := Fr.app N2 N12q
  have k12 : Go p.tables e below _ (T12.setTop (mkF m 27 #[.val (.ref r0), .val (.int (0 : Int32)), .val (.int (Int32.ofNat n)), .val (.int (Int32.ofNat n)), .val (.ref b6)] [(.int (f_min (Int32.ofNat zl) (Int32.ofNat n))), (.int (0 : Int32)), (.ref b6), (.int (0 : Int32)), (.ref r0)])) := st12
  have k13 : Go p.tables e below _ (T12.setTop (mkF m 27 #[.val (.ref r0), .val (.int (0 : Int32)), .val (.int (Int32.ofNat n)), .val (.int (Int32.ofNat n)), .val (.ref b6)] [(.int (Int32.ofNat n)), (.int (0 : Int32)), (.ref b6), (.int (0 : Int32)), (.ref r0)])) := goT k12 (by rw [own_min' (by omega) (by omega)]; exact fun _ h => h)
  obtain ⟨T14, h14, L14, X14, e14, N14, K14, V14, st14⟩ := own_acopy X12 hx hZ hown (own_w hw 160 rfl) (own_w hw 114 rfl) (own_w hw 112 rfl) (own_w hw 113 rfl) eq12 (i := 0) (j := 0) (k := n) V_A_c_6 V_b6 (NEW := (ls.take n)) own_z0 own_z0 (own_int (by omega)) (own_intle (by omega)) (own_intle (by omega)) (by rw [hl]; omega) (by rw [List.length_replicate]; omega) own_cpR N12 g_b6 (g := (mkF m 27 #[.val (.ref r0), .val (.int (0 : Int32)), .val (.int (Int32.ofNat n)), .val (.int (Int32.ofNat n)), .val (.ref b6)] [(.int (Int32.ofNat n)), (.int (0 : Int32)), (.ref b6), (.int (0 : Int32)), (.ref r0)])) rfl (by rw [hml]; rfl) (rest := []) rfl (hb hby d_m26_27) (by decide) (W := 0) (by show 2 * 0 + _ ≤ _; exact Nat.le_of_eq rfl) (by decide)
  have Kp14 : Keep h0 h14 [] := Kp6.trans K14 (allS (Or.inr sz_b6) all0)
  have k15 : Go p.tables e below _ (T14.setTop (mkF m 32 #[.val (.ref r0), .val (.int (0 : Int32)), .val (.int (Int32.ofNat n)), .val (.int (Int32.ofNat n)), .val (.ref b6)] [(.ref b6)])) := fun t ht => st14 t (by
    refine XS.aload X14.here hx rfl (hb hby d_m26_30) rfl rfl ?_
    exact ht)
  obtain ⟨fs, hr, hrun, hended, hW, hsame⟩ := X14.leave (v := some (.ref b6)) (fun h => by rw [Bd.returns] at h; cases h)
  refine ⟨_, _, castTop (ef_corb m r0 (Int32.ofNat n)) ((goT k1 (goT k5 (goT k11 (goT k13 k15)))) _ (retA X14 hx Bd.returns (hb hby d_m26_32) hr)), hrun, hended, _, _, rfl, ?_, ⟨_, rfl⟩, hW, hsame.mono (by decide) (by decide)⟩
  show Q_corb Z r0 n kA zl ls h0 n0 _ T14.heap _
  rw [e14]
  exact ⟨b6, kc6, rfl, N14, Kp14, sz_b6, V14⟩
theorem pd_20 : parseMethodDescriptor "([BII)[B" = some ⟨[(.array .byte), .int, .int], some (.array .byte)⟩ := by decide +kernel
theorem d_m27_0 : decode jdk_65_method_132_code 0 = .ok (.iload_n 1, 1) := by decide +kernel
theorem d_m27_1 : decode jdk_65_method_132_code 1 = .ok (.ifCond .ne 9, 3) := by decide +kernel
theorem d_m27_4 : decode jdk_65_method_132_code 4 = .ok (.iload_n 2, 1) := by decide +kernel
theorem d_m27_5 : decode jdk_65_method_132_code 5 = .ok (.aload_n 0, 1) := by decide +kernel
theorem d_m27_6 : decode jdk_65_method_132_code 6 = .ok (.arraylength, 1) := by decide +kernel
theorem d_m27_7 : decode jdk_65_method_132_code 7 = .ok (.if_icmp .eq 10, 3) := by decide +kernel
theorem d_m27_10 : decode jdk_65_method_132_code 10 = .ok (.aload_n 0, 1) := by decide +kernel
theorem d_m27_11 : decode jdk_65_method_132_code 11 = .ok (.iload_n 1, 1) := by decide +kernel
theorem d_m27_12 : decode jdk_65_method_132_code 12 = .ok (.iload_n 2, 1) := by decide +kernel
theorem d_m27_13 : decode jdk_65_method_132_code 13 = .ok (.invokestatic 339, 3) := by decide +kernel
theorem d_m27_16 : decode jdk_65_method_132_code 16 = .ok (.areturn, 1) := by decide +kernel
theorem ef_cor (m : MethodId) (x0 : Addr) (x2 : Int32) : entryFrame m #[(.ref x0), (.int (0 : Int32)), (.int x2)] 3 = mkF m 0 #[.val (.ref x0), .val (.int (0 : Int32)), .val (.int x2)] [] := by first | (simp [entryFrame, mkF, argsToLocals, Value.category]; done) | rfl
def Q_cor (Z : State) (r0 : Addr) (n : Nat) (kA : ClassId) (zl : Nat) (ls : List Int32) (h0 : Heap) (n0 : Nat) (v : Option Value) (h : Heap) (L : List Loc) : Prop := ∃ (xb : Addr) (xk : ClassId), v = some (.ref xb) ∧ Fr n0 L ∧ Keep h0 h [] ∧ h0.size ≤ xb ∧ own_A Z h xb xk .byte (Int32.ofNat n) (ls.take n)
set_option maxRecDepth 65536 in
set_option maxHeartbeats 40000000 in
theorem rm_cor (l : Launch) (Z : State) (a0 : Array Value) (hw : HW a0 Z) (ws : List Jvm.Cond) (r0 : Addr) (n : Nat) (kA : ClassId) (zl : Nat) (ls : List Int32) (h0 : Heap) (n0 : Nat) (Z0 : n0 ≤ h0.size) (V_A : own_A Z h0 r0 kA .byte (Int32.ofNat zl) ls) (hn : n < zl ∧ zl ≤ 128 ∧ n ≤ 48) (hl : ls.length = zl) :
    own_M l Z h0 (⟨"java/util/Arrays", "copyOfRange", "([BII)[B"⟩ : MethodName) jdk_65_method_132_code 3 (some (.array .byte)) ws (rR 2 1 48 34) #[(.ref r0), (.int (0 : Int32)), (.int (Int32.ofNat n))] (Q_cor Z r0 n kA zl ls h0 n0) := by
  refine own_body (own := "java/util/Arrays") (plainFor_of_name pn_6) rfl ?_
  intro p e s m below meth c s₁ Bd hZ hh hx hby hml hown X0 e0
  have N0 := Fr.nil n0
  have k1 : Go p.tables e below (s₁.setTop (mkF m 0 #[.val (.ref r0), .val (.int (0 : Int32)), .val (.int (Int32.ofNat n))] [])) (s₁.setTop (mkF m 6 #[.val (.ref r0), .val (.int (0 : Int32)), .val (.int (Int32.ofNat n))] [(.ref r0), (.int (Int32.ofNat n))])) := by
    intro t ht
    refine XS.iloadN X0.here hx rfl (hb hby d_m27_0) rfl ?_
    refine XS.ifNo X0.here hx rfl (hb hby d_m27_1) rfl ((if0 _ _).trans (teq (by decide : (0 : Int32) = (0 : Int32))).2) ?_
    refine XS.iloadN X0.here hx rfl (hb hby d_m27_4) rfl ?_
    refine XS.aloadN X0.here hx rfl (hb hby d_m27_5) rfl rfl ?_
    exact ht
  obtain ⟨cl2, Ar2, q2, S2, M2, H2, G2⟩ := id V_A
  have k3 : Go p.tables e below _ (s₁.setTop (mkF m 13 #[.val (.ref r0), .val (.int (0 : Int32)), .val (.int (Int32.ofNat n))] [(.int (Int32.ofNat n)), (.int (0 : Int32)), (.ref r0)])) := goT k1 fun t ht => (by
    refine X0.arraylength hx (by rw [e0]; exact Ar2.1) (State.isArrayOf_alike hZ.alike Ar2.2.1) (g := (mkF m 6 #[.val (.ref r0), .val (.int (0 : Int32)), .val (.int (Int32.ofNat n))] [(.ref r0), (.int (Int32.ofNat n))])) rfl rfl (hb hby d_m27_6) _ ?_
    rw [len_of S2 M2]
    refine XS.icmpNo X0.here hx rfl (hb hby d_m27_7) rfl (feq (own_neq hn)).1 ?_
    refine XS.aloadN X0.here hx rfl (hb hby d_m27_10) rfl rfl ?_
    refine XS.iloadN X0.here hx rfl (hb hby d_m27_11) rfl ?_
    refine XS.iloadN X0.here hx rfl (hb hby d_m27_12) rfl ?_
    exact ht)
  have rq4 := Jvm.LawKit.callS X0 hx (y := (⟨"java/util/Arrays", "copyOfRangeByte", "([BII)[B"⟩ : MethodName)) hown (mvT hZ (own_w hw 150 rfl)) (mvT hZ (own_w hw 151 rfl)) (mvT hZ (own_w hw 148 rfl)) (mvT hZ (own_w hw 152 rfl)) (by decide) (backOf (W := 0) (rm_corb l Z a0 hw [] r0 n kA zl ls h0 n0 Z0 V_A hn hl) hZ (own_w hw 152 rfl) (own_w hw 148 rfl) (by decide) (by decide)) (g := (mkF m 13 #[.val (.ref r0), .val (.int (0 : Int32)), .val (.int (Int32.ofNat n))] [(.int (Int32.ofNat n)), (.int (0 : Int32)), (.ref r0)])) rfl (by rw [hml]; rfl) (argsL := [(.ref r0), (.int (0 : Int32)), (.int (Int32.ofNat n))]) (rest := []) (lenOf pd_20 rfl) rfl (by show 2 * 0 + _ ≤ _; exact Nat.le_of_eq rfl) (hb hby d_m27_13) (fun _ _ => ⟨rfl, e0, (by decide : 0 + 1 ≤ _), (by decide : 0 + 48 ≤ _)⟩)
  obtain ⟨_, T4, L4, X4, ⟨xb_4, xk_4, rfl, N4q, K4, Pq4_0, Fq4_0⟩, st4⟩ := own_rS X0 rq4
  have N4 := Fr.app N0 N4q
  have Kp4 : Keep h0 T4.heap [] := (Keep.refl h0 []).trans K4 all0
  have sz_xb_4 : h0.size ≤ xb_4 := Nat.le_trans (Keep.refl h0 []).1 Pq4_0
  have k4 : Go p.tables e below _ (T4.setTop (mkF m 16 #[.val (.ref r0), .val (.int (0 : Int32)), .val (.int (Int32.ofNat n))] [(.ref xb_4)])) := st4
  obtain ⟨fs, hr, hrun, hended, hW, hsame⟩ := X4.leave (v := some (.ref xb_4)) (fun h => by rw [Bd.returns] at h; cases h)
  refine ⟨_, _, castTop (ef_cor m r0 (Int32.ofNat n)) ((goT k3 k4) _ (retA X4 hx Bd.returns (hb hby d_m27_16) hr)), hrun, hended, _, _, rfl, ?_, ⟨_, rfl⟩, hW, hsame.mono (by decide) (by decide)⟩
  show Q_cor Z r0 n kA zl ls h0 n0 _ T4.heap _
  exact ⟨xb_4, xk_4, rfl, N4, Kp4, sz_xb_4, Fq4_0⟩
theorem d_m28_0 : decode jdk_68_method_2_code 0 = .ok (.aload_n 0, 1) := by decide +kernel
theorem d_m28_1 : decode jdk_68_method_2_code 1 = .ok (.invokespecial 3, 3) := by decide +kernel
theorem d_m28_4 : decode jdk_68_method_2_code 4 = .ok (.getstatic 18, 3) := by decide +kernel
theorem d_m28_7 : decode jdk_68_method_2_code 7 = .ok (.ifCond .eq 18, 3) := by decide +kernel
theorem d_m28_10 : decode jdk_68_method_2_code 10 = .ok (.aload_n 0, 1) := by decide +kernel
theorem d_m28_11 : decode jdk_68_method_2_code 11 = .ok (.iload_n 1, 1) := by decide +kernel
theorem d_m28_12 : decode jdk_68_method_2_code 12 = .ok (.newarray .byte, 2) := by decide +kernel
theorem d_m28_14 : decode jdk_68_method_2_code 14 = .ok (.putfield 15, 3) := by decide +kernel
theorem d_m28_17 : decode jdk_68_method_2_code 17 = .ok (.aload_n 0, 1) := by decide +kernel
theorem d_m28_18 : decode jdk_68_method_2_code 18 = .ok (.iconst 0, 1) := by decide +kernel
theorem d_m28_19 : decode jdk_68_method_2_code 19 = .ok (.putfield 22, 3) := by decide +kernel
theorem d_m28_22 : decode jdk_68_method_2_code 22 = .ok (.goto 16, 3) := by decide +kernel
theorem d_m28_38 : decode jdk_68_method_2_code 38 = .ok (.return_, 1) := by decide +kernel
theorem ef_abI (m : MethodId) (x0 : Addr) : entryFrame m #[(.ref x0), (.int (16 : Int32))] 2 = mkF m 0 #[.val (.ref x0), .val (.int (16 : Int32))] [] := by first | (simp [entryFrame, mkF, argsToLocals, Value.category]; done) | rfl
def Q_abI (Z : State) (r0 : Addr) (G1 : Int32) (h0 : Heap) (n0 : Nat) (v : Option Value) (h : Heap) (L : List Loc) : Prop := ∃ (xb : Addr) (xk : ClassId), v = none ∧ Fr n0 L ∧ Keep h0 h [r0] ∧ h0.size ≤ xb ∧ Exa Z h r0 "java/lang/StringBuilder" ∧ f3 Z h r0 (.ref xb) ∧ f2 Z h r0 (.int (0 : Int32)) ∧ f4 Z h r0 (.int (0 : Int32)) ∧ f5 Z h r0 (.int (0 : Int32)) ∧ own_A Z h xb xk .byte (Int32.ofNat 16) (own_B 16 ([] : List Int32))
set_option maxRecDepth 65536 in
set_option maxHeartbeats 40000000 in
theorem rm_abI (l : Launch) (Z : State) (a0 : Array Value) (hw : HW a0 Z) (ws : List Jvm.Cond) (r0 : Addr) (G1 : Int32) (h0 : Heap) (n0 : Nat) (Z0 : n0 ≤ h0.size) (E_r0 : Exa Z h0 r0 "java/lang/StringBuilder") (Bv : f3 Z h0 r0 .null) (Bc : f2 Z h0 r0 (.int (0 : Int32))) (Bn : f4 Z h0 r0 (.int (0 : Int32))) (Bm : f5 Z h0 r0 (.int (0 : Int32))) (S_CS : f12 Z h0 (.int G1)) (P5 : ¬ (G1 = (0 : Int32))) (g_r0 : n0 ≤ r0) :
    own_M l Z h0 (⟨"java/lang/AbstractStringBuilder", "<init>", "(I)V"⟩ : MethodName) jdk_68_method_2_code 2 none ws (rR 1 1 16 12) #[(.ref r0), (.int (16 : Int32))] (Q_abI Z r0 G1 h0 n0) := by
  refine own_body (own := "java/lang/AbstractStringBuilder") (plainFor_of_name pn_4) rfl ?_
  intro p e s m below meth c s₁ Bd hZ hh hx hby hml hown X0 e0
  have N0 := Fr.nil n0
  have k1 : Go p.tables e below (s₁.setTop (mkF m 0 #[.val (.ref r0), .val (.int (16 : Int32))] [])) (s₁.setTop (mkF m 1 #[.val (.ref r0), .val (.int (16 : Int32))] [(.ref r0)])) := by
    intro t ht
    refine XS.aloadN X0.here hx rfl (hb hby d_m28_0) rfl rfl ?_
    exact ht
  obtain ⟨T2, X2, e2, st2⟩ := initO X0 hx hZ hown (own_w hw 59 rfl) (own_w hw 20 rfl) (own_w hw 21 rfl) e0 (g := (mkF m 1 #[.val (.ref r0), .val (.int (16 : Int32))] [(.ref r0)])) rfl (by rw [hml]; rfl) rfl (hb hby d_m28_1) (by decide) (W := 0) (by show 2 * 0 + _ ≤ _; exact Nat.le_of_eq rfl) (by decide)
  have k2 : Go p.tables e below _ (T2.setTop (mkF m 4 #[.val (.ref r0), .val (.int (16 : Int32))] [])) := st2
  obtain ⟨T3, X3, e3, st3⟩ := getS2 X2 hx hZ hown (host := "") (Or.inl (own_w hw 60 rfl)) Via.refl e2 S_CS (g := (mkF m 4 #[.val (.ref r0), .val (.int (16 : Int32))] [])) rfl (hb hby d_m28_4)
  have k4 : Go p.tables e below _ (T3.setTop (mkF m 12 #[.val (.ref r0), .val (.int (16 : Int32))] [(.int (16 : Int32)), (.ref r0)])) := fun t ht => st3 t (by
    refine XS.ifNo X3.here hx rfl (hb hby d_m28_7) rfl ((if0 _ _).trans (feq P5).1) ?_
    refine XS.aloadN X3.here hx rfl (hb hby d_m28_10) rfl rfl ?_
    refine XS.iloadN X3.here hx rfl (hb hby d_m28_11) rfl ?_
    exact ht)
  obtain ⟨T5, h5, kc5, X5, e5, E5, A5, st5⟩ := newP X3 hx hZ (own_w hw 14 rfl) e3 (g := (mkF m 12 #[.val (.ref r0), .val (.int (16 : Int32))] [(.int (16 : Int32)), (.ref r0)])) rfl (hb hby d_m28_12) rfl (by decide) (cap := 16) (by decide) (by decide) (by decide) (by decide)
  obtain ⟨b5, g5⟩ : ∃ z, z = h0.size := ⟨_, rfl⟩
  rw [← g5] at A5 st5
  have sz_b5 : h0.size ≤ b5 := Nat.le_trans (Keep.refl h0 [r0]).1 (Nat.le_of_eq g5.symm)
  have ne_r0_b5 : r0 ≠ b5 := Nat.ne_of_lt (Nat.lt_of_lt_of_le E_r0.lt (Nat.le_of_eq g5.symm))
  have Kp5 : Keep h0 h5 [r0] := (Keep.refl h0 [r0]).ext E5
  have E_r0_c_5 := E_r0.ext E5
  have Bv_c_5 := Bv.ext E5
  have Bc_c_5 := Bc.ext E5
  have Bn_c_5 := Bn.ext E5
  have Bm_c_5 := Bm.ext E5
  have V_b5 : Arv Z h5 b5 kc5 .byte (16 : Int32) ((List.replicate 16 (0 : Int32)).map Value.int) (.int (0 : Int32)) := (Arv.new A5 (by decide)).pad own_pad
  have k5 : Go p.tables e below _ (T5.setTop (mkF m 14 #[.val (.ref r0), .val (.int (16 : Int32))] [(.ref b5), (.ref r0)])) := st5
  obtain ⟨T6, h6, X6, e6, W6, st6⟩ := putF X5 hx hZ hown (host := "") (Or.inl (own_w hw 61 rfl)) Via.refl e5 Bv_c_5 E_r0_c_5 (Or.inl (own_w hw 62 rfl)) (own_w hw 48 rfl) (ty := (.array .byte)) (by decide) rfl rfl (g := (mkF m 14 #[.val (.ref r0), .val (.int (16 : Int32))] [(.ref b5), (.ref r0)])) rfl rfl (hb hby d_m28_14)
  have Kp6 : Keep h0 h6 [r0] := Kp5.wr W6 (Or.inl (by simp))
  have E_r0_c_6 := E_r0_c_5.wr W6
  have Bv_c_6 := Bv_c_5.same W6
  have Bc_c_6 := Bc_c_5.other W6 (Or.inr (slot_ne (Or.inl (own_w hw 64 rfl)) (Or.inl (own_w hw 62 rfl)) (by decide) (t := .byte) (t' := (.array .byte)) (by decide) (by decide)))
  have Bn_c_6 := Bn_c_5.other W6 (Or.inr (slot_ne (Or.inl (own_w hw 89 rfl)) (Or.inl (own_w hw 62 rfl)) (by decide) (t := .int) (t' := (.array .byte)) (by decide) (by decide)))
  have Bm_c_6 := Bm_c_5.other W6 (Or.inr (slot_ne (Or.inl (own_w hw 259 rfl)) (Or.inl (own_w hw 62 rfl)) (by decide) (t := .boolean) (t' := (.array .byte)) (by decide) (by decide)))
  have V_b5_c_6 := V_b5.other W6 (Ne.symm ne_r0_b5)
  have N6 := Fr.snoc X6 N0 g_r0
  have k7 : Go p.tables e below _ (T6.setTop (mkF m 19 #[.val (.ref r0), .val (.int (16 : Int32))] [(.int (0 : Int32)), (.ref r0)])) := fun t ht => st6 t (by
    refine XS.aloadN X6.here hx rfl (hb hby d_m28_17) rfl rfl ?_
    refine XS.iconst X6.here hx rfl (hb hby d_m28_18) ?_
    exact ht)
  obtain ⟨T8, h8, X8, e8, W8, st8⟩ := putFN X6 hx hZ hown (own_w hw 63 rfl) Via.refl e6 Bc_c_6 E_r0_c_6 (Or.inl (own_w hw 64 rfl)) (own_w hw 48 rfl) (ty := .byte) (v' := (.int (0 : Int32))) (by decide) rfl (by decide) (g := (mkF m 19 #[.val (.ref r0), .val (.int (16 : Int32))] [(.int (0 : Int32)), (.ref r0)])) rfl rfl (hb hby d_m28_19)
  have Kp8 : Keep h0 h8 [r0] := Kp6.wr W8 (Or.inl (by simp))
  have E_r0_c_8 := E_r0_c_6.wr W8
  have Bv_c_8 := Bv_c_6.other W8 (Or.inr (slot_ne (Or.inl (own_w hw 62 rfl)) (Or.inl (own_w hw 64 rfl)) (by decide) (t := (.array .byte)) (t' := .byte) (by decide) (by decide)))
  have Bc_c_8 := Bc_c_6.same W8
  have Bn_c_8 := Bn_c_6.other W8 (Or.inr (slot_ne (Or.inl (own_w hw 89 rfl)) (Or.inl (own_w hw 64 rfl)) (by decide) (t := .int) (t' := .byte) (by decide) (by decide)))
  have Bm_c_8 := Bm_c_6.other W8 (Or.inr (slot_ne (Or.inl (own_w hw 259 rfl)) (Or.inl (own_w hw 64 rfl)) (by decide) (t := .boolean) (t' := .byte) (by decide) (by decide)))
  have V_b5_c_8 := V_b5_c_6.other W8 (Ne.symm ne_r0_b5)
  have N8 := Fr.snoc X8 N6 g_r0
  have k9 : Go p.tables e below _ (T8.setTop (mkF m 38 #[.val (.ref r0), .val (.int (16 : Int32))] [])) := fun t ht => st8 t (by
    refine XS.goto X8.here hx rfl (pc0 := 22) (pc' := 38) rfl (hb hby d_m28_22) (by decide) (by decide) ?_
    exact ht)
  obtain ⟨fs, hr, hrun, hended, hW, hsame⟩ := X8.leave (v := none) (fun _ => rfl)
  refine ⟨_, _, castTop (ef_abI m r0) ((goT k1 (goT k2 (goT k4 (goT k5 (goT k7 k9))))) _ (X8.returnOut hx Bd.returns (hb hby d_m28_38) hr)), hrun, hended, _, _, rfl, ?_, ⟨_, rfl⟩, hW, hsame.mono (by decide) (by decide)⟩
  show Q_abI Z r0 G1 h0 n0 _ T8.heap _
  rw [e8]
  exact ⟨b5, kc5, rfl, N8, Kp8, sz_b5, E_r0_c_8, Bv_c_8, Bc_c_8, Bn_c_8, Bm_c_8, (own_newB V_b5_c_8)⟩
theorem d_m29_0 : decode jdk_67_method_1_code 0 = .ok (.aload_n 0, 1) := by decide +kernel
theorem d_m29_1 : decode jdk_67_method_1_code 1 = .ok (.bipush 16, 2) := by decide +kernel
theorem d_m29_3 : decode jdk_67_method_1_code 3 = .ok (.invokespecial 1, 3) := by decide +kernel
theorem d_m29_6 : decode jdk_67_method_1_code 6 = .ok (.return_, 1) := by decide +kernel
theorem ef_sbI (m : MethodId) (x0 : Addr) : entryFrame m #[(.ref x0)] 1 = mkF m 0 #[.val (.ref x0)] [] := by first | (simp [entryFrame, mkF, argsToLocals, Value.category]; done) | rfl
def Q_sbI (Z : State) (r0 : Addr) (G1 : Int32) (h0 : Heap) (n0 : Nat) (v : Option Value) (h : Heap) (L : List Loc) : Prop := ∃ (xb : Addr) (xk : ClassId), v = none ∧ Fr n0 L ∧ Keep h0 h [r0] ∧ h0.size ≤ xb ∧ Exa Z h r0 "java/lang/StringBuilder" ∧ f3 Z h r0 (.ref xb) ∧ f2 Z h r0 (.int (0 : Int32)) ∧ f4 Z h r0 (.int (0 : Int32)) ∧ f5 Z h r0 (.int (0 : Int32)) ∧ own_A Z h xb xk .byte (Int32.ofNat 16) (own_B 16 ([] : List Int32))
set_option maxRecDepth 65536 in
set_option maxHeartbeats 40000000 in
theorem rm_sbI (l : Launch) (Z : State) (a0 : Array Value) (hw : HW a0 Z) (ws : List Jvm.Cond) (r0 : Addr) (G1 : Int32) (h0 : Heap) (n0 : Nat) (Z0 : n0 ≤ h0.size) (E_r0 : Exa Z h0 r0 "java/lang/StringBuilder") (Bv : f3 Z h0 r0 .null) (Bc : f2 Z h0 r0 (.int (0 : Int32))) (Bn : f4 Z h0 r0 (.int (0 : Int32))) (Bm : f5 Z h0 r0 (.int (0 : Int32))) (S_CS : f12 Z h0 (.int G1)) (P5 : ¬ (G1 = (0 : Int32))) (g_r0 : n0 ≤ r0) :
    own_M l Z h0 (⟨"java/lang/StringBuilder", "<init>", "()V"⟩ : MethodName) jdk_67_method_1_code 1 none ws (rR 2 1 16 25) #[(.ref r0)] (Q_sbI Z r0 G1 h0 n0) := by
  refine own_body (own := "java/lang/StringBuilder") (plainFor_of_name pn_7) rfl ?_
  intro p e s m below meth c s₁ Bd hZ hh hx hby hml hown X0 e0
  have N0 := Fr.nil n0
  have k1 : Go p.tables e below (s₁.setTop (mkF m 0 #[.val (.ref r0)] [])) (s₁.setTop (mkF m 3 #[.val (.ref r0)] [(.int (16 : Int32)), (.ref r0)])) := by
    intro t ht
    refine XS.aloadN X0.here hx rfl (hb hby d_m29_0) rfl rfl ?_
    refine XS.bipush X0.here hx rfl (hb hby d_m29_1) ?_
    exact ht
  have rq2 := X0.specialBack hx (y := (⟨"java/lang/AbstractStringBuilder", "<init>", "(I)V"⟩ : MethodName)) rfl hown (mvT hZ (own_w hw 53 rfl)) (mvT hZ (own_w hw 54 rfl)) (mvT hZ (own_w hw 58 rfl)) (by decide) (backOf (W := 0) (rm_abI l Z a0 hw [] r0 G1 h0 n0 Z0 E_r0 Bv Bc Bn Bm S_CS P5 g_r0) hZ (own_w hw 58 rfl) (own_w hw 57 rfl) (by decide) (by decide)) (g := (mkF m 3 #[.val (.ref r0)] [(.int (16 : Int32)), (.ref r0)])) rfl (by rw [hml]; rfl) (Steps.refl _) (a := r0) (argsL := [(.int (16 : Int32))]) (rest := []) (lenOf pd_16 rfl) rfl (by show 2 * 0 + _ ≤ _; exact Nat.le_of_eq rfl) (hb hby d_m29_3) (fun _ _ => ⟨rfl, e0, (by decide : 0 + 1 ≤ _), (by decide : 0 + 16 ≤ _)⟩)
  obtain ⟨_, T2, L2, X2, ⟨xb_2, xk_2, rfl, N2q, K2, Pq2_0, Fq2_0, Fq2_1, Fq2_2, Fq2_3, Fq2_4, Fq2_5⟩, st2⟩ := own_r X0 rq2
  have N2 := Fr.app N0 N2q
  have Kp2 : Keep h0 T2.heap [r0] := (Keep.refl h0 [r0]).trans K2 (allS (Or.inl (by simp)) all0)
  have sz_xb_2 : h0.size ≤ xb_2 := Nat.le_trans (Keep.refl h0 [r0]).1 Pq2_0
  have k2 : Go p.tables e below _ (T2.setTop (mkF m 6 #[.val (.ref r0)] [])) := st2
  obtain ⟨fs, hr, hrun, hended, hW, hsame⟩ := X2.leave (v := none) (fun _ => rfl)
  refine ⟨_, _, castTop (ef_sbI m r0) ((goT k1 k2) _ (X2.returnOut hx Bd.returns (hb hby d_m29_6) hr)), hrun, hended, _, _, rfl, ?_, ⟨_, rfl⟩, hW, hsame.mono (by decide) (by decide)⟩
  show Q_sbI Z r0 G1 h0 n0 _ T2.heap _
  exact ⟨xb_2, xk_2, rfl, N2, Kp2, sz_xb_2, Fq2_0, Fq2_1, Fq2_2, Fq2_3, Fq2_4, Fq2_5⟩
theorem d_m30_0 : decode jdk_68_method_64_code 0 = .ok (.aload_n 0, 1) := by decide +kernel
theorem d_m30_1 : decode jdk_68_method_64_code 1 = .ok (.getfield 15, 3) := by decide +kernel
theorem d_m30_4 : decode jdk_68_method_64_code 4 = .ok (.areturn, 1) := by decide +kernel
theorem ef_getV (m : MethodId) (x0 : Addr) : entryFrame m #[(.ref x0)] 1 = mkF m 0 #[.val (.ref x0)] [] := by first | (simp [entryFrame, mkF, argsToLocals, Value.category]; done) | rfl
def Q_getV (Z : State) (r0 : Addr) (tv : Addr) (h0 : Heap) (n0 : Nat) (v : Option Value) (h : Heap) (L : List Loc) : Prop := v = some (.ref tv) ∧ Fr n0 L ∧ h = h0
set_option maxRecDepth 65536 in
set_option maxHeartbeats 40000000 in
theorem rm_getV (l : Launch) (Z : State) (a0 : Array Value) (hw : HW a0 Z) (ws : List Jvm.Cond) (r0 : Addr) (tv : Addr) (h0 : Heap) (n0 : Nat) (Z0 : n0 ≤ h0.size) (Bv : f3 Z h0 r0 (.ref tv)) :
    own_M l Z h0 (⟨"java/lang/AbstractStringBuilder", "getValue", "()[B"⟩ : MethodName) jdk_68_method_64_code 1 (some (.array .byte)) ws (rR 0 0 0 0) #[(.ref r0)] (Q_getV Z r0 tv h0 n0) := by
  refine own_body (own := "java/lang/AbstractStringBuilder") (plainFor_of_name pn_4) rfl ?_
  intro p e s m below meth c s₁ Bd hZ hh hx hby hml hown X0 e0
  have N0 := Fr.nil n0
  have k1 : Go p.tables e below (s₁.setTop (mkF m 0 #[.val (.ref r0)] [])) (s₁.setTop (mkF m 1 #[.val (.ref r0)] [(.ref r0)])) := by
    intro t ht
    refine XS.aloadN X0.here hx rfl (hb hby d_m30_0) rfl rfl ?_
    exact ht
  obtain ⟨T2, X2, e2, st2⟩ := getF X0 hx hZ hown (host := "") (Or.inl (own_w hw 61 rfl)) Via.refl e0 Bv (g := (mkF m 1 #[.val (.ref r0)] [(.ref r0)])) rfl rfl (hb hby d_m30_1)
  have k2 : Go p.tables e below _ (T2.setTop (mkF m 4 #[.val (.ref r0)] [(.ref tv)])) := st2
  obtain ⟨fs, hr, hrun, hended, hW, hsame⟩ := X2.leave (v := some (.ref tv)) (fun h => by rw [Bd.returns] at h; cases h)
  refine ⟨_, _, castTop (ef_getV m r0) ((goT k1 k2) _ (retA X2 hx Bd.returns (hb hby d_m30_4) hr)), hrun, hended, _, _, rfl, ?_, ⟨_, rfl⟩, hW, hsame.mono (by decide) (by decide)⟩
  show Q_getV Z r0 tv h0 n0 _ T2.heap _
  rw [e2]
  exact ⟨rfl, N0, rfl⟩
theorem d_m31_0 : decode jdk_68_method_6_code 0 = .ok (.aload_n 0, 1) := by decide +kernel
theorem d_m31_1 : decode jdk_68_method_6_code 1 = .ok (.getfield 79, 3) := by decide +kernel
theorem d_m31_4 : decode jdk_68_method_6_code 4 = .ok (.ireturn, 1) := by decide +kernel
theorem ef_abL (m : MethodId) (x0 : Addr) : entryFrame m #[(.ref x0)] 1 = mkF m 0 #[.val (.ref x0)] [] := by first | (simp [entryFrame, mkF, argsToLocals, Value.category]; done) | rfl
def Q_abL (Z : State) (r0 : Addr) (pn : Int32) (h0 : Heap) (n0 : Nat) (v : Option Value) (h : Heap) (L : List Loc) : Prop := v = some (.int pn) ∧ Fr n0 L ∧ h = h0
set_option maxRecDepth 65536 in
set_option maxHeartbeats 40000000 in
theorem rm_abL (l : Launch) (Z : State) (a0 : Array Value) (hw : HW a0 Z) (ws : List Jvm.Cond) (r0 : Addr) (pn : Int32) (h0 : Heap) (n0 : Nat) (Z0 : n0 ≤ h0.size) (Bn : f4 Z h0 r0 (.int pn)) :
    own_M l Z h0 (⟨"java/lang/AbstractStringBuilder", "length", "()I"⟩ : MethodName) jdk_68_method_6_code 1 (some .int) ws (rR 0 0 0 0) #[(.ref r0)] (Q_abL Z r0 pn h0 n0) := by
  refine own_body (own := "java/lang/AbstractStringBuilder") (plainFor_of_name pn_4) rfl ?_
  intro p e s m below meth c s₁ Bd hZ hh hx hby hml hown X0 e0
  have N0 := Fr.nil n0
  have k1 : Go p.tables e below (s₁.setTop (mkF m 0 #[.val (.ref r0)] [])) (s₁.setTop (mkF m 1 #[.val (.ref r0)] [(.ref r0)])) := by
    intro t ht
    refine XS.aloadN X0.here hx rfl (hb hby d_m31_0) rfl rfl ?_
    exact ht
  obtain ⟨T2, X2, e2, st2⟩ := getF X0 hx hZ hown (host := "") (Or.inl (own_w hw 88 rfl)) Via.refl e0 Bn (g := (mkF m 1 #[.val (.ref r0)] [(.ref r0)])) rfl rfl (hb hby d_m31_1)
  have k2 : Go p.tables e below _ (T2.setTop (mkF m 4 #[.val (.ref r0)] [(.int pn)])) := st2
  obtain ⟨fs, hr, hrun, hended, hW, hsame⟩ := X2.leave (v := some (.int pn)) (fun h => by rw [Bd.returns] at h; cases h)
  refine ⟨_, _, castTop (ef_abL m r0) ((goT k1 k2) _ (retI X2 hx Bd.returns (hb hby d_m31_4) hr)), hrun, hended, _, _, rfl, ?_, ⟨_, rfl⟩, hW, hsame.mono (by decide) (by decide)⟩
  show Q_abL Z r0 pn h0 n0 _ T2.heap _
  rw [e2]
  exact ⟨rfl, N0, rfl⟩
theorem d_m32_0 : decode jdk_67_method_93_code 0 = .ok (.aload_n 0, 1) := by decide +kernel
theorem d_m32_1 : decode jdk_67_method_93_code 1 = .ok (.invokespecial 343, 3) := by decide +kernel
theorem d_m32_4 : decode jdk_67_method_93_code 4 = .ok (.ireturn, 1) := by decide +kernel
theorem ef_sbL (m : MethodId) (x0 : Addr) : entryFrame m #[(.ref x0)] 1 = mkF m 0 #[.val (.ref x0)] [] := by first | (simp [entryFrame, mkF, argsToLocals, Value.category]; done) | rfl
def Q_sbL (Z : State) (r0 : Addr) (pn : Int32) (h0 : Heap) (n0 : Nat) (v : Option Value) (h : Heap) (L : List Loc) : Prop := v = some (.int pn) ∧ Fr n0 L ∧ h = h0
set_option maxRecDepth 65536 in
set_option maxHeartbeats 40000000 in
theorem rm_sbL (l : Launch) (Z : State) (a0 : Array Value) (hw : HW a0 Z) (ws : List Jvm.Cond) (r0 : Addr) (pn : Int32) (h0 : Heap) (n0 : Nat) (Z0 : n0 ≤ h0.size) (E_r0 : Exa Z h0 r0 "java/lang/StringBuilder") (Bn : f4 Z h0 r0 (.int pn)) :
    own_M l Z h0 (⟨"java/lang/StringBuilder", "length", "()I"⟩ : MethodName) jdk_67_method_93_code 1 (some .int) ws (rR 1 0 0 12) #[(.ref r0)] (Q_sbL Z r0 pn h0 n0) := by
  refine own_body (own := "java/lang/StringBuilder") (plainFor_of_name pn_7) rfl ?_
  intro p e s m below meth c s₁ Bd hZ hh hx hby hml hown X0 e0
  have N0 := Fr.nil n0
  have k1 : Go p.tables e below (s₁.setTop (mkF m 0 #[.val (.ref r0)] [])) (s₁.setTop (mkF m 1 #[.val (.ref r0)] [(.ref r0)])) := by
    intro t ht
    refine XS.aloadN X0.here hx rfl (hb hby d_m32_0) rfl rfl ?_
    exact ht
  have rq2 := superBack X0 hx hZ (y := (⟨"java/lang/AbstractStringBuilder", "length", "()I"⟩ : MethodName)) hown (own_w hw 139 rfl) (own_same (own_w hw 135 rfl) (own_face (notFace_of_selects (own_w hw 93 rfl)) (own_w hw 91 rfl) rfl) (by decide)) (own_w hw 135 rfl) (own_w hw 75 rfl) (by decide) (backOf (W := 0) (rm_abL l Z a0 hw [] r0 pn h0 n0 Z0 Bn) hZ (own_w hw 140 rfl) (own_w hw 57 rfl) (by decide) (by decide)) e0 (Ins.self E_r0) (g := (mkF m 1 #[.val (.ref r0)] [(.ref r0)])) rfl (by rw [hml]; rfl) (own_w hw 140 rfl) (argsL := []) (rest := []) (lenOf pd_15 rfl) rfl (by show 2 * 0 + _ ≤ _; exact Nat.le_of_eq rfl) (hb hby d_m32_1) (fun _ _ => ⟨rfl, e0, (by decide : 0 + 0 ≤ _), (by decide : 0 + 0 ≤ _)⟩)
  obtain ⟨_, T2, L2, X2, ⟨rfl, N2q, eq2⟩, st2⟩ := own_r X0 rq2
  have N2 := Fr.app N0 N2q
  have k2 : Go p.tables e below _ (T2.setTop (mkF m 4 #[.val (.ref r0)] [(.int pn)])) := st2
  obtain ⟨fs, hr, hrun, hended, hW, hsame⟩ := X2.leave (v := some (.int pn)) (fun h => by rw [Bd.returns] at h; cases h)
  refine ⟨_, _, castTop (ef_sbL m r0) ((goT k1 k2) _ (retI X2 hx Bd.returns (hb hby d_m32_4) hr)), hrun, hended, _, _, rfl, ?_, ⟨_, rfl⟩, hW, hsame.mono (by decide) (by decide)⟩
  show Q_sbL Z r0 pn h0 n0 _ T2.heap _
  rw [eq2]
  exact ⟨rfl, N2, rfl⟩
theorem pd_21 : parseMethodDescriptor "()[B" = some ⟨[], some (.array .byte)⟩ := by decide +kernel
theorem d_m33_0 : decode jdk_42_method_150_code 0 = .ok (.aload_n 0, 1) := by decide +kernel
theorem d_m33_1 : decode jdk_42_method_150_code 1 = .ok (.invokespecial 1, 3) := by decide +kernel
theorem d_m33_4 : decode jdk_42_method_150_code 4 = .ok (.aload_n 1, 1) := by decide +kernel
theorem d_m33_5 : decode jdk_42_method_150_code 5 = .ok (.invokevirtual 552, 3) := by decide +kernel
theorem d_m33_8 : decode jdk_42_method_150_code 8 = .ok (.astore_n 3, 1) := by decide +kernel
theorem d_m33_9 : decode jdk_42_method_150_code 9 = .ok (.aload_n 1, 1) := by decide +kernel
theorem d_m33_10 : decode jdk_42_method_150_code 10 = .ok (.invokevirtual 549, 3) := by decide +kernel
theorem d_m33_13 : decode jdk_42_method_150_code 13 = .ok (.istore 4, 2) := by decide +kernel
theorem d_m33_15 : decode jdk_42_method_150_code 15 = .ok (.aload_n 1, 1) := by decide +kernel
theorem d_m33_16 : decode jdk_42_method_150_code 16 = .ok (.invokevirtual 1047, 3) := by decide +kernel
theorem d_m33_19 : decode jdk_42_method_150_code 19 = .ok (.ifCond .eq 22, 3) := by decide +kernel
theorem d_m33_22 : decode jdk_42_method_150_code 22 = .ok (.aload_n 0, 1) := by decide +kernel
theorem d_m33_23 : decode jdk_42_method_150_code 23 = .ok (.iconst 0, 1) := by decide +kernel
theorem d_m33_24 : decode jdk_42_method_150_code 24 = .ok (.putfield 15, 3) := by decide +kernel
theorem d_m33_27 : decode jdk_42_method_150_code 27 = .ok (.aload_n 0, 1) := by decide +kernel
theorem d_m33_28 : decode jdk_42_method_150_code 28 = .ok (.aload_n 3, 1) := by decide +kernel
theorem d_m33_29 : decode jdk_42_method_150_code 29 = .ok (.iconst 0, 1) := by decide +kernel
theorem d_m33_30 : decode jdk_42_method_150_code 30 = .ok (.iload 4, 2) := by decide +kernel
theorem d_m33_32 : decode jdk_42_method_150_code 32 = .ok (.invokestatic 54, 3) := by decide +kernel
theorem d_m33_35 : decode jdk_42_method_150_code 35 = .ok (.putfield 9, 3) := by decide +kernel
theorem d_m33_38 : decode jdk_42_method_150_code 38 = .ok (.goto 59, 3) := by decide +kernel
theorem d_m33_97 : decode jdk_42_method_150_code 97 = .ok (.return_, 1) := by decide +kernel
theorem ef_siV0 (m : MethodId) (x0 : Addr) (x1 : Addr) : entryFrame m #[(.ref x0), (.ref x1), .null] 5 = mkF m 0 #[.val (.ref x0), .val (.ref x1), .val .null, .unset, .unset] [] := by first | (simp [entryFrame, mkF, argsToLocals, Value.category]; done) | rfl
def Q_siV0 (Z : State) (r0 : Addr) (r1 : Addr) (tv : Addr) (kv : ClassId) (ds : List Int32) (M : Nat) (G1 : Int32) (h0 : Heap) (n0 : Nat) (v : Option Value) (h : Heap) (L : List Loc) : Prop := ∃ (xb : Addr) (xk : ClassId), v = none ∧ Fr n0 L ∧ Keep h0 h [r0] ∧ h0.size ≤ xb ∧ Exa Z h r0 "java/lang/String" ∧ f1 Z h r0 (.ref xb) ∧ f0 Z h r0 (.int (0 : Int32)) ∧ own_A Z h xb xk .byte (Int32.ofNat ds.length) (own_b ds)
set_option maxRecDepth 65536 in
set_option maxHeartbeats 40000000 in
theorem rm_siV0 (l : Launch) (Z : State) (a0 : Array Value) (hw : HW a0 Z) (ws : List Jvm.Cond) (r0 : Addr) (r1 : Addr) (tv : Addr) (kv : ClassId) (ds : List Int32) (M : Nat) (G1 : Int32) (h0 : Heap) (n0 : Nat) (Z0 : n0 ≤ h0.size) (F_value : f1 Z h0 r0 .null) (F_coder : f0 Z h0 r0 (.int (0 : Int32))) (E_r0 : Exa Z h0 r0 "java/lang/String") (E_r1 : Exa Z h0 r1 "java/lang/StringBuilder") (Bv : f3 Z h0 r1 (.ref tv)) (Bc : f2 Z h0 r1 (.int (0 : Int32))) (Bn : f4 Z h0 r1 (.int (Int32.ofNat ds.length))) (Bm : f5 Z h0 r1 (.int (0 : Int32))) (S_CS : f12 Z h0 (.int G1)) (V_v : own_A Z h0 tv kv .byte (Int32.ofNat M) (own_B M ds)) (P5 : ¬ (G1 = (0 : Int32))) (g_r0 : n0 ≤ r0) (hM : ds.length < M ∧ M ≤ 34 ∧ ds.length ≤ 24) (nrA : r1 ≠ r0) (nrB : tv ≠ r0) :
    own_M l Z h0 (⟨"java/lang/String", "<init>", "(Ljava/lang/AbstractStringBuilder;Ljava/lang/Void;)V"⟩ : MethodName) jdk_42_method_150_code 5 none ws (rR 3 1 48 49) #[(.ref r0), (.ref r1), .null] (Q_siV0 Z r0 r1 tv kv ds M G1 h0 n0) := by
  refine own_body (own := "java/lang/String") (plainFor_of_name pn_2) rfl ?_
  intro p e s m below meth c s₁ Bd hZ hh hx hby hml hown X0 e0
  have hnm := (name_of_methodNamed Bd.named Bd.method).1
  have N0 := Fr.nil n0
  have k1 : Go p.tables e below (s₁.setTop (mkF m 0 #[.val (.ref r0), .val (.ref r1), .val .null, .unset, .unset] [])) (s₁.setTop (mkF m 1 #[.val (.ref r0), .val (.ref r1), .val .null, .unset, .unset] [(.ref r0)])) := by
    intro t ht
    refine XS.aloadN X0.here hx rfl (hb hby d_m33_0) rfl rfl ?_
    exact ht
  obtain ⟨T2, X2, e2, st2⟩ := initO X0 hx hZ hown (own_w hw 19 rfl) (own_w hw 20 rfl) (own_w hw 21 rfl) e0 (g := (mkF m 1 #[.val (.ref r0), .val (.ref r1), .val .null, .unset, .unset] [(.ref r0)])) rfl (by rw [hml]; rfl) rfl (hb hby d_m33_1) (by decide) (W := 0) (by show 2 * 0 + _ ≤ _; exact Nat.le_of_eq rfl) (by decide)
  have k3 : Go p.tables e below _ (T2.setTop (mkF m 5 #[.val (.ref r0), .val (.ref r1), .val .null, .unset, .unset] [(.ref r1)])) := fun t ht => st2 t (by
    refine XS.aloadN X2.here hx rfl (hb hby d_m33_4) rfl rfl ?_
    exact ht)
  obtain ⟨cq4, kq4, q4a, q4b, q4c⟩ := isOf hZ e2 E_r1
  have rq4 := X2.virtualBack hx (y := (⟨"java/lang/AbstractStringBuilder", "getValue", "()[B"⟩ : MethodName)) (z := (⟨"java/lang/AbstractStringBuilder", "getValue", "()[B"⟩ : MethodName)) hown (mvT hZ (own_w hw 128 rfl)) (mvT hZ (own_w hw 129 rfl)) (notFace_of_selects (args := #[]) (mvT hZ (own_w hw 131 rfl))) (mvT hZ (own_w hw 131 rfl)) (mvT hZ (own_w hw 130 rfl)) (by decide) (backOf (W := 0) (rm_getV l Z a0 hw [] r1 tv h0 n0 Z0 Bv) hZ (own_w hw 132 rfl) (own_w hw 57 rfl) (by decide) (by decide)) q4a q4c (g := (mkF m 5 #[.val (.ref r0), .val (.ref r1), .val .null, .unset, .unset] [(.ref r1)])) rfl (by rw [hml]; rfl) (Steps.refl _) (argsL := []) (rest := []) (lenOf pd_21 rfl) rfl (by show 2 * 0 + _ ≤ _; exact Nat.le_of_eq rfl) (hb hby d_m33_5) (fun _ _ => ⟨rfl, e2, (by decide : 0 + 0 ≤ _), (by decide : 0 + 0 ≤ _)⟩)
  obtain ⟨_, T4, L4, X4, ⟨rfl, N4q, eq4⟩, st4⟩ := own_r X2 rq4
  have N4 := Fr.app N0 N4q
  have k5 : Go p.tables e below _ (T4.setTop (mkF m 10 #[.val (.ref r0), .val (.ref r1), .val .null, .val (.ref tv), .unset] [(.ref r1)])) := fun t ht => st4 t (by
    refine XS.astoreN X4.here hx rfl (hb hby d_m33_8) rfl rfl (l' := #[.val (.ref r0), .val (.ref r1), .val .null, .val (.ref tv), .unset]) rfl ?_
    refine XS.aloadN X4.here hx rfl (hb hby d_m33_9) rfl rfl ?_
    exact ht)
  obtain ⟨cq6, kq6, q6a, q6b, q6c⟩ := isOf hZ eq4 E_r1
  have rq6 := X4.virtualBack hx (y := (⟨"java/lang/AbstractStringBuilder", "length", "()I"⟩ : MethodName)) (z := (⟨"java/lang/StringBuilder", "length", "()I"⟩ : MethodName)) hown (mvT hZ (own_w hw 133 rfl)) (mvT hZ (own_w hw 134 rfl)) (own_face (notFace_of_selects (args := #[]) (mvT hZ (own_w hw 93 rfl))) (mvT hZ (own_w hw 91 rfl) (args := #[])) rfl) (mvT hZ (own_w hw 136 rfl)) (mvT hZ (own_w hw 137 rfl)) (by decide) (backOf (W := 0) (rm_sbL l Z a0 hw [] r1 (Int32.ofNat ds.length) h0 n0 Z0 E_r1 Bn) hZ (own_w hw 138 rfl) (own_w hw 49 rfl) (by decide) (by decide)) q6a q6c (g := (mkF m 10 #[.val (.ref r0), .val (.ref r1), .val .null, .val (.ref tv), .unset] [(.ref r1)])) rfl (by rw [hml]; rfl) (Steps.refl _) (argsL := []) (rest := []) (lenOf pd_15 rfl) rfl (by show 2 * 0 + _ ≤ _; exact Nat.le_of_eq rfl) (hb hby d_m33_10) (fun _ _ => ⟨rfl, eq4, (by decide : 0 + 0 ≤ _), (by decide : 0 + 0 ≤ _)⟩)
  obtain ⟨_, T6, L6, X6, ⟨rfl, N6q, eq6⟩, st6⟩ := own_r X4 rq6
  have N6 := Fr.app N4 N6q
  have k7 : Go p.tables e below _ (T6.setTop (mkF m 16 #[.val (.ref r0), .val (.ref r1), .val .null, .val (.ref tv), .val (.int (Int32.ofNat ds.length))] [(.ref r1)])) := fun t ht => st6 t (by
    refine XS.istore X6.here hx rfl (hb hby d_m33_13) rfl (l' := #[.val (.ref r0), .val (.ref r1), .val .null, .val (.ref tv), .val (.int (Int32.ofNat ds.length))]) rfl ?_
    refine XS.aloadN X6.here hx rfl (hb hby d_m33_15) rfl rfl ?_
    exact ht)
  obtain ⟨cq8, kq8, q8a, q8b, q8c⟩ := isOf hZ eq6 E_r1
  have rq8 := X6.virtualBack hx (y := (⟨"java/lang/AbstractStringBuilder", "isLatin1", "()Z"⟩ : MethodName)) (z := (⟨"java/lang/AbstractStringBuilder", "isLatin1", "()Z"⟩ : MethodName)) hown (mvT hZ (own_w hw 141 rfl)) (mvT hZ (own_w hw 142 rfl)) (notFace_of_selects (args := #[]) (mvT hZ (own_w hw 144 rfl))) (mvT hZ (own_w hw 144 rfl)) (mvT hZ (own_w hw 143 rfl)) (by decide) (backOf (W := 0) (rm_isL0 l Z a0 hw [] r1 G1 h0 n0 Z0 Bc S_CS P5) hZ (own_w hw 145 rfl) (own_w hw 57 rfl) (by decide) (by decide)) q8a q8c (g := (mkF m 16 #[.val (.ref r0), .val (.ref r1), .val .null, .val (.ref tv), .val (.int (Int32.ofNat ds.length))] [(.ref r1)])) rfl (by rw [hml]; rfl) (Steps.refl _) (argsL := []) (rest := []) (lenOf pd_10 rfl) rfl (by show 2 * 0 + _ ≤ _; exact Nat.le_of_eq rfl) (hb hby d_m33_16) (fun _ _ => ⟨rfl, eq6, (by decide : 0 + 0 ≤ _), (by decide : 0 + 0 ≤ _)⟩)
  obtain ⟨_, T8, L8, X8, ⟨rfl, N8q, eq8⟩, st8⟩ := own_r X6 rq8
  have N8 := Fr.app N6 N8q
  have k9 : Go p.tables e below _ (T8.setTop (mkF m 24 #[.val (.ref r0), .val (.ref r1), .val .null, .val (.ref tv), .val (.int (Int32.ofNat ds.length))] [(.int (0 : Int32)), (.ref r0)])) := fun t ht => st8 t (by
    refine XS.ifNo X8.here hx rfl (hb hby d_m33_19) rfl ((if0 _ _).trans (feq (by decide : ¬ ((1 : Int32) = (0 : Int32)))).1) ?_
    refine XS.aloadN X8.here hx rfl (hb hby d_m33_22) rfl rfl ?_
    refine XS.iconst X8.here hx rfl (hb hby d_m33_23) ?_
    exact ht)
  obtain ⟨T10, h10, X10, e10, W10, st10⟩ := putFN X8 hx hZ hown (own_w hw 24 rfl) Via.refl eq8 F_coder E_r0 (Or.inr ⟨(own_w hw 25 rfl), rfl, hnm⟩) (own_w hw 10 rfl) (ty := .byte) (v' := (.int (0 : Int32))) (by decide) rfl (by decide) (g := (mkF m 24 #[.val (.ref r0), .val (.ref r1), .val .null, .val (.ref tv), .val (.int (Int32.ofNat ds.length))] [(.int (0 : Int32)), (.ref r0)])) rfl rfl (hb hby d_m33_24)
  have Kp10 : Keep h0 h10 [r0] := (Keep.refl h0 [r0]).wr W10 (Or.inl (by simp))
  have Z10 : n0 ≤ h10.size := Nat.le_trans Z0 (Keep.of_wr W10).1
  have F_value_c_10 := F_value.other W10 (Or.inr (slot_ne (Or.inr (own_w hw 23 rfl)) (Or.inr (own_w hw 25 rfl)) (by decide) (t := (.array .byte)) (t' := .byte) (by decide) (by decide)))
  have F_c_10 := F_coder.same W10
  have E_r0_c_10 := E_r0.wr W10
  have V_v_c_10 := V_v.other W10 nrB
  have N10 := Fr.snoc X10 N8 g_r0
  have k11 : Go p.tables e below _ (T10.setTop (mkF m 32 #[.val (.ref r0), .val (.ref r1), .val .null, .val (.ref tv), .val (.int (Int32.ofNat ds.length))] [(.int (Int32.ofNat ds.length)), (.int (0 : Int32)), (.ref tv), (.ref r0)])) := fun t ht => st10 t (by
    refine XS.aloadN X10.here hx rfl (hb hby d_m33_27) rfl rfl ?_
    refine XS.aloadN X10.here hx rfl (hb hby d_m33_28) rfl rfl ?_
    refine XS.iconst X10.here hx rfl (hb hby d_m33_29) ?_
    refine XS.iload X10.here hx rfl (hb hby d_m33_30) rfl ?_
    exact ht)
  have rq12 := Jvm.LawKit.callS X10 hx (y := (⟨"java/util/Arrays", "copyOfRange", "([BII)[B"⟩ : MethodName)) hown (mvT hZ (own_w hw 146 rfl)) (mvT hZ (own_w hw 147 rfl)) (mvT hZ (own_w hw 148 rfl)) (mvT hZ (own_w hw 149 rfl)) (by decide) (backOf (W := 1) (rm_cor l Z a0 hw [] tv ds.length kv M (own_B M ds) h10 n0 Z10 V_v_c_10 (by omega : ds.length < M ∧ M ≤ 128 ∧ ds.length ≤ 48) (own_lenB' (by omega) : (own_B M ds).length = M)) hZ (own_w hw 149 rfl) (own_w hw 148 rfl) (by decide) (by decide)) (g := (mkF m 32 #[.val (.ref r0), .val (.ref r1), .val .null, .val (.ref tv), .val (.int (Int32.ofNat ds.length))] [(.int (Int32.ofNat ds.length)), (.int (0 : Int32)), (.ref tv), (.ref r0)])) rfl (by rw [hml]; rfl) (argsL := [(.ref tv), (.int (0 : Int32)), (.int (Int32.ofNat ds.length))]) (rest := [(.ref r0)]) (lenOf pd_20 rfl) rfl (by show 2 * 0 + _ ≤ _; exact Nat.le_of_eq rfl) (hb hby d_m33_32) (fun _ _ => ⟨rfl, e10, (by decide : 0 + 1 ≤ _), (by decide : 0 + 48 ≤ _)⟩)
  obtain ⟨_, T12, L12, X12, ⟨xb_12, xk_12, rfl, N12q, K12, Pq12_0, Fq12_0⟩, st12⟩ := own_rS X10 rq12
  have N12 := Fr.app N10 N12q
  have Kp12 : Keep h0 T12.heap [r0] := Kp10.trans K12 all0
  have ne_r0_xb_12 : r0 ≠ xb_12 := Nat.ne_of_lt (Nat.lt_of_lt_of_le F_value_c_10.lt Pq12_0)
  have sz_xb_12 : h0.size ≤ xb_12 := Nat.le_trans Kp10.1 Pq12_0
  have F_value_c_12 := F_value_c_10.keep K12 nin0
  have F_c_12 := F_c_10.keep K12 nin0
  have E_r0_c_12 := E_r0_c_10.keep K12
  have k12 : Go p.tables e below _ (T12.setTop (mkF m 35 #[.val (.ref r0), .val (.ref r1), .val .null, .val (.ref tv), .val (.int (Int32.ofNat ds.length))] [(.ref xb_12), (.ref r0)])) := st12
  have Vc13 : own_A Z T12.heap xb_12 xk_12 .byte (Int32.ofNat ds.length) (own_b ds) := by rw [← own_tkB (M := M)]; exact Fq12_0
  obtain ⟨T14, h14, X14, e14, W14, st14⟩ := putF X12 hx hZ hown (host := "") (Or.inl (own_w hw 22 rfl)) Via.refl rfl F_value_c_12 E_r0_c_12 (Or.inr ⟨(own_w hw 23 rfl), rfl, hnm⟩) (own_w hw 10 rfl) (ty := (.array .byte)) (by decide) rfl rfl (g := (mkF m 35 #[.val (.ref r0), .val (.ref r1), .val .null, .val (.ref tv), .val (.int (Int32.ofNat ds.length))] [(.ref xb_12), (.ref r0)])) rfl rfl (hb hby d_m33_35)
  have Kp14 : Keep h0 h14 [r0] := Kp12.wr W14 (Or.inl (by simp))
  have F_value_c_14 := F_value_c_12.same W14
  have F_c_14 := F_c_12.other W14 (Or.inr (slot_ne (Or.inr (own_w hw 25 rfl)) (Or.inr (own_w hw 23 rfl)) (by decide) (t := .byte) (t' := (.array .byte)) (by decide) (by decide)))
  have E_r0_c_14 := E_r0_c_12.wr W14
  have Vc13_c_14 := Vc13.other W14 (Ne.symm ne_r0_xb_12)
  have N14 := Fr.snoc X14 N12 g_r0
  have k15 : Go p.tables e below _ (T14.setTop (mkF m 97 #[.val (.ref r0), .val (.ref r1), .val .null, .val (.ref tv), .val (.int (Int32.ofNat ds.length))] [])) := fun t ht => st14 t (by
    refine XS.goto X14.here hx rfl (pc0 := 38) (pc' := 97) rfl (hb hby d_m33_38) (by decide) (by decide) ?_
    exact ht)
  obtain ⟨fs, hr, hrun, hended, hW, hsame⟩ := X14.leave (v := none) (fun _ => rfl)
  refine ⟨_, _, castTop (ef_siV0 m r0 r1) ((goT k1 (goT k3 (goT k5 (goT k7 (goT k9 (goT k11 (goT k12 k15))))))) _ (X14.returnOut hx Bd.returns (hb hby d_m33_97) hr)), hrun, hended, _, _, rfl, ?_, ⟨_, rfl⟩, hW, hsame.mono (by decide) (by decide)⟩
  show Q_siV0 Z r0 r1 tv kv ds M G1 h0 n0 _ T14.heap _
  rw [e14]
  exact ⟨xb_12, xk_12, rfl, N14, Kp14, sz_xb_12, E_r0_c_14, F_value_c_14, F_c_14, Vc13_c_14⟩
theorem pd_22 : parseMethodDescriptor "(Ljava/lang/AbstractStringBuilder;Ljava/lang/Void;)V" = some ⟨[(.object "java/lang/AbstractStringBuilder"), (.object "java/lang/Void")], none⟩ := by decide +kernel
theorem d_m34_0 : decode jdk_42_method_53_code 0 = .ok (.aload_n 0, 1) := by decide +kernel
theorem d_m34_1 : decode jdk_42_method_53_code 1 = .ok (.aload_n 1, 1) := by decide +kernel
theorem d_m34_2 : decode jdk_42_method_53_code 2 = .ok (.aconst_null, 1) := by decide +kernel
theorem d_m34_3 : decode jdk_42_method_53_code 3 = .ok (.invokespecial 489, 3) := by decide +kernel
theorem d_m34_6 : decode jdk_42_method_53_code 6 = .ok (.return_, 1) := by decide +kernel
theorem ef_siB0 (m : MethodId) (x0 : Addr) (x1 : Addr) : entryFrame m #[(.ref x0), (.ref x1)] 2 = mkF m 0 #[.val (.ref x0), .val (.ref x1)] [] := by first | (simp [entryFrame, mkF, argsToLocals, Value.category]; done) | rfl
def Q_siB0 (Z : State) (r0 : Addr) (r1 : Addr) (tv : Addr) (kv : ClassId) (ds : List Int32) (M : Nat) (G1 : Int32) (h0 : Heap) (n0 : Nat) (v : Option Value) (h : Heap) (L : List Loc) : Prop := ∃ (xb : Addr) (xk : ClassId), v = none ∧ Fr n0 L ∧ Keep h0 h [r0] ∧ h0.size ≤ xb ∧ Exa Z h r0 "java/lang/String" ∧ f1 Z h r0 (.ref xb) ∧ f0 Z h r0 (.int (0 : Int32)) ∧ own_A Z h xb xk .byte (Int32.ofNat ds.length) (own_b ds)
set_option maxRecDepth 65536 in
set_option maxHeartbeats 40000000 in
theorem rm_siB0 (l : Launch) (Z : State) (a0 : Array Value) (hw : HW a0 Z) (ws : List Jvm.Cond) (r0 : Addr) (r1 : Addr) (tv : Addr) (kv : ClassId) (ds : List Int32) (M : Nat) (G1 : Int32) (h0 : Heap) (n0 : Nat) (Z0 : n0 ≤ h0.size) (F_value : f1 Z h0 r0 .null) (F_coder : f0 Z h0 r0 (.int (0 : Int32))) (E_r0 : Exa Z h0 r0 "java/lang/String") (E_r1 : Exa Z h0 r1 "java/lang/StringBuilder") (Bv : f3 Z h0 r1 (.ref tv)) (Bc : f2 Z h0 r1 (.int (0 : Int32))) (Bn : f4 Z h0 r1 (.int (Int32.ofNat ds.length))) (Bm : f5 Z h0 r1 (.int (0 : Int32))) (S_CS : f12 Z h0 (.int G1)) (V_v : own_A Z h0 tv kv .byte (Int32.ofNat M) (own_B M ds)) (P5 : ¬ (G1 = (0 : Int32))) (g_r0 : n0 ≤ r0) (hM : ds.length < M ∧ M ≤ 34 ∧ ds.length ≤ 24) (nrA : r1 ≠ r0) (nrB : tv ≠ r0) :
    own_M l Z h0 (⟨"java/lang/String", "<init>", "(Ljava/lang/StringBuilder;)V"⟩ : MethodName) jdk_42_method_53_code 2 none ws (rR 4 1 48 65) #[(.ref r0), (.ref r1)] (Q_siB0 Z r0 r1 tv kv ds M G1 h0 n0) := by
  refine own_body (own := "java/lang/String") (plainFor_of_name pn_2) rfl ?_
  intro p e s m below meth c s₁ Bd hZ hh hx hby hml hown X0 e0
  have N0 := Fr.nil n0
  have k1 : Go p.tables e below (s₁.setTop (mkF m 0 #[.val (.ref r0), .val (.ref r1)] [])) (s₁.setTop (mkF m 3 #[.val (.ref r0), .val (.ref r1)] [.null, (.ref r1), (.ref r0)])) := by
    intro t ht
    refine XS.aloadN X0.here hx rfl (hb hby d_m34_0) rfl rfl ?_
    refine XS.aloadN X0.here hx rfl (hb hby d_m34_1) rfl rfl ?_
    refine XS.aconstNull X0.here hx rfl (hb hby d_m34_2) ?_
    exact ht
  have rq2 := X0.specialBack hx (y := (⟨"java/lang/String", "<init>", "(Ljava/lang/AbstractStringBuilder;Ljava/lang/Void;)V"⟩ : MethodName)) rfl hown (mvT hZ (own_w hw 125 rfl)) (mvT hZ (own_w hw 126 rfl)) (mvT hZ (own_w hw 127 rfl)) (by decide) (backOf (W := 0) (rm_siV0 l Z a0 hw [] r0 r1 tv kv ds M G1 h0 n0 Z0 F_value F_coder E_r0 E_r1 Bv Bc Bn Bm S_CS V_v P5 g_r0 hM nrA nrB) hZ (own_w hw 127 rfl) (own_w hw 2 rfl) (by decide) (by decide)) (g := (mkF m 3 #[.val (.ref r0), .val (.ref r1)] [.null, (.ref r1), (.ref r0)])) rfl (by rw [hml]; rfl) (Steps.refl _) (a := r0) (argsL := [(.ref r1), .null]) (rest := []) (lenOf pd_22 rfl) rfl (by show 2 * 0 + _ ≤ _; exact Nat.le_of_eq rfl) (hb hby d_m34_3) (fun _ _ => ⟨rfl, e0, (by decide : 0 + 1 ≤ _), (by decide : 0 + 48 ≤ _)⟩)
  obtain ⟨_, T2, L2, X2, ⟨xb_2, xk_2, rfl, N2q, K2, Pq2_0, Fq2_0, Fq2_1, Fq2_2, Fq2_3⟩, st2⟩ := own_r X0 rq2
  have N2 := Fr.app N0 N2q
  have Kp2 : Keep h0 T2.heap [r0] := (Keep.refl h0 [r0]).trans K2 (allS (Or.inl (by simp)) all0)
  have sz_xb_2 : h0.size ≤ xb_2 := Nat.le_trans (Keep.refl h0 [r0]).1 Pq2_0
  have k2 : Go p.tables e below _ (T2.setTop (mkF m 6 #[.val (.ref r0), .val (.ref r1)] [])) := st2
  obtain ⟨fs, hr, hrun, hended, hW, hsame⟩ := X2.leave (v := none) (fun _ => rfl)
  refine ⟨_, _, castTop (ef_siB0 m r0 r1) ((goT k1 k2) _ (X2.returnOut hx Bd.returns (hb hby d_m34_6) hr)), hrun, hended, _, _, rfl, ?_, ⟨_, rfl⟩, hW, hsame.mono (by decide) (by decide)⟩
  show Q_siB0 Z r0 r1 tv kv ds M G1 h0 n0 _ T2.heap _
  exact ⟨xb_2, xk_2, rfl, N2, Kp2, sz_xb_2, Fq2_0, Fq2_1, Fq2_2, Fq2_3⟩
theorem pd_23 : parseMethodDescriptor "(Ljava/lang/StringBuilder;)V" = some ⟨[(.object "java/lang/StringBuilder")], none⟩ := by decide +kernel
theorem d_m35_0 : decode jdk_67_method_42_code 0 = .ok (.new 18, 3) := by decide +kernel
theorem d_m35_3 : decode jdk_67_method_42_code 3 = .ok (.dup, 1) := by decide +kernel
theorem d_m35_4 : decode jdk_67_method_42_code 4 = .ok (.aload_n 0, 1) := by decide +kernel
theorem d_m35_5 : decode jdk_67_method_42_code 5 = .ok (.invokespecial 137, 3) := by decide +kernel
theorem d_m35_8 : decode jdk_67_method_42_code 8 = .ok (.areturn, 1) := by decide +kernel
theorem ef_sbT0 (m : MethodId) (x0 : Addr) : entryFrame m #[(.ref x0)] 1 = mkF m 0 #[.val (.ref x0)] [] := by first | (simp [entryFrame, mkF, argsToLocals, Value.category]; done) | rfl
def Q_sbT0 (Z : State) (r0 : Addr) (tv : Addr) (kv : ClassId) (ds : List Int32) (M : Nat) (G1 : Int32) (h0 : Heap) (n0 : Nat) (v : Option Value) (h : Heap) (L : List Loc) : Prop := ∃ (xs : Addr) (xb : Addr) (xk : ClassId), v = some (.ref xs) ∧ Fr n0 L ∧ Keep h0 h [] ∧ Exa Z h xs "java/lang/String" ∧ f1 Z h xs (.ref xb) ∧ f0 Z h xs (.int (0 : Int32)) ∧ own_A Z h xb xk .byte (Int32.ofNat ds.length) (own_b ds)
set_option maxRecDepth 65536 in
set_option maxHeartbeats 40000000 in
theorem rm_sbT0 (l : Launch) (Z : State) (a0 : Array Value) (hw : HW a0 Z) (ws : List Jvm.Cond) (r0 : Addr) (tv : Addr) (kv : ClassId) (ds : List Int32) (M : Nat) (G1 : Int32) (h0 : Heap) (n0 : Nat) (Z0 : n0 ≤ h0.size) (E_r0 : Exa Z h0 r0 "java/lang/StringBuilder") (Bv : f3 Z h0 r0 (.ref tv)) (Bc : f2 Z h0 r0 (.int (0 : Int32))) (Bn : f4 Z h0 r0 (.int (Int32.ofNat ds.length))) (Bm : f5 Z h0 r0 (.int (0 : Int32))) (S_CS : f12 Z h0 (.int G1)) (V_v : own_A Z h0 tv kv .byte (Int32.ofNat M) (own_B M ds)) (P5 : ¬ (G1 = (0 : Int32))) (hM : ds.length < M ∧ M ≤ 34 ∧ ds.length ≤ 24) :
    own_M l Z h0 (⟨"java/lang/StringBuilder", "toString", "()Ljava/lang/String;"⟩ : MethodName) jdk_67_method_42_code 1 (some (.object "java/lang/String")) ws (rR 5 2 52 79) #[(.ref r0)] (Q_sbT0 Z r0 tv kv ds M G1 h0 n0) := by
  refine own_body (own := "java/lang/StringBuilder") (plainFor_of_name pn_7) rfl ?_
  intro p e s m below meth c s₁ Bd hZ hh hx hby hml hown X0 e0
  have N0 := Fr.nil n0
  obtain ⟨T1, h1, X1, e1, E1, A1, D1, -, st1⟩ := newO X0 hx hZ hown (own_w hw 121 rfl) (own_w hw 10 rfl) (own_w hw 2 rfl) e0 (g := (mkF m 0 #[.val (.ref r0)] [])) rfl (hb hby d_m35_0) (by decide) (by decide)
  obtain ⟨b1, g1⟩ : ∃ z, z = h0.size := ⟨_, rfl⟩
  rw [← g1] at A1 D1 st1
  have g_b1 : n0 ≤ b1 := Nat.le_trans Z0 (Nat.le_of_eq g1.symm)
  have sz_b1 : h0.size ≤ b1 := Nat.le_trans (Keep.refl h0 []).1 (Nat.le_of_eq g1.symm)
  have ne_r0_b1 : r0 ≠ b1 := Nat.ne_of_lt (Nat.lt_of_lt_of_le E_r0.lt (Nat.le_of_eq g1.symm))
  have ne_tv_b1 : tv ≠ b1 := Nat.ne_of_lt (Nat.lt_of_lt_of_le V_v.lt (Nat.le_of_eq g1.symm))
  have Kp1 : Keep h0 h1 [] := (Keep.refl h0 []).ext E1
  have Z1 : n0 ≤ h1.size := Nat.le_trans Z0 E1.1
  have E_r0_c_1 := E_r0.ext E1
  have Bv_c_1 := Bv.ext E1
  have Bc_c_1 := Bc.ext E1
  have Bn_c_1 := Bn.ext E1
  have Bm_c_1 := Bm.ext E1
  have S_CS_c_1 := S_CS.ext E1
  have V_v_c_1 := V_v.ext E1
  have F_value_b1 : f1 Z h1 b1 .null := D1 (Or.inr (own_w hw 23 rfl)) (ty := (.array .byte)) (by decide)
  have F_coder_b1 : f0 Z h1 b1 (.int (0 : Int32)) := D1 (Or.inr (own_w hw 25 rfl)) (ty := .byte) (by decide)
  have k2 : Go p.tables e below _ (T1.setTop (mkF m 5 #[.val (.ref r0)] [(.ref r0), (.ref b1), (.ref b1)])) := fun t ht => st1 t (by
    refine XS.dup X1.here hx rfl (hb hby d_m35_3) rfl rfl ?_
    refine XS.aloadN X1.here hx rfl (hb hby d_m35_4) rfl rfl ?_
    exact ht)
  have rq3 := X1.specialBack hx (y := (⟨"java/lang/String", "<init>", "(Ljava/lang/StringBuilder;)V"⟩ : MethodName)) rfl hown (mvT hZ (own_w hw 122 rfl)) (mvT hZ (own_w hw 123 rfl)) (mvT hZ (own_w hw 124 rfl)) (by decide) (backOf (W := 1) (rm_siB0 l Z a0 hw [] b1 r0 tv kv ds M G1 h1 n0 Z1 F_value_b1 F_coder_b1 A1 E_r0_c_1 Bv_c_1 Bc_c_1 Bn_c_1 Bm_c_1 S_CS_c_1 V_v_c_1 P5 g_b1 hM ne_r0_b1 ne_tv_b1) hZ (own_w hw 124 rfl) (own_w hw 2 rfl) (by decide) (by decide)) (g := (mkF m 5 #[.val (.ref r0)] [(.ref r0), (.ref b1), (.ref b1)])) rfl (by rw [hml]; rfl) (Steps.refl _) (a := b1) (argsL := [(.ref r0)]) (rest := [(.ref b1)]) (lenOf pd_23 rfl) rfl (by show 2 * 0 + _ ≤ _; exact Nat.le_of_eq rfl) (hb hby d_m35_5) (fun _ _ => ⟨rfl, e1, (by decide : 1 + 1 ≤ _), (by decide : 4 + 48 ≤ _)⟩)
  obtain ⟨_, T3, L3, X3, ⟨xb_3, xk_3, rfl, N3q, K3, Pq3_0, Fq3_0, Fq3_1, Fq3_2, Fq3_3⟩, st3⟩ := own_r X1 rq3
  have N3 := Fr.app N0 N3q
  have Kp3 : Keep h0 T3.heap [] := Kp1.trans K3 (allS (Or.inr sz_b1) all0)
  have k3 : Go p.tables e below _ (T3.setTop (mkF m 8 #[.val (.ref r0)] [(.ref b1)])) := st3
  obtain ⟨fs, hr, hrun, hended, hW, hsame⟩ := X3.leave (v := some (.ref b1)) (fun h => by rw [Bd.returns] at h; cases h)
  refine ⟨_, _, castTop (ef_sbT0 m r0) ((goT k2 k3) _ (retR X3 hx Bd.returns (hb hby d_m35_8) hr)), hrun, hended, _, _, rfl, ?_, ⟨_, rfl⟩, hW, hsame.mono (by decide) (by decide)⟩
  show Q_sbT0 Z r0 tv kv ds M G1 h0 n0 _ T3.heap _
  exact ⟨b1, xb_3, xk_3, rfl, N3, Kp3, Fq3_0, Fq3_1, Fq3_2, Fq3_3⟩
theorem d_m33_41 : decode jdk_42_method_150_code 41 = .ok (.getstatic 38, 3) := by decide +kernel
theorem d_m33_44 : decode jdk_42_method_150_code 44 = .ok (.ifCond .eq 35, 3) := by decide +kernel
theorem d_m33_47 : decode jdk_42_method_150_code 47 = .ok (.aload_n 1, 1) := by decide +kernel
theorem d_m33_48 : decode jdk_42_method_150_code 48 = .ok (.getfield 1048, 3) := by decide +kernel
theorem d_m33_51 : decode jdk_42_method_150_code 51 = .ok (.ifCond .eq 28, 3) := by decide +kernel
theorem d_m33_79 : decode jdk_42_method_150_code 79 = .ok (.aload_n 0, 1) := by decide +kernel
theorem d_m33_80 : decode jdk_42_method_150_code 80 = .ok (.iconst 1, 1) := by decide +kernel
theorem d_m33_81 : decode jdk_42_method_150_code 81 = .ok (.putfield 15, 3) := by decide +kernel
theorem d_m33_84 : decode jdk_42_method_150_code 84 = .ok (.aload_n 0, 1) := by decide +kernel
theorem d_m33_85 : decode jdk_42_method_150_code 85 = .ok (.aload_n 3, 1) := by decide +kernel
theorem d_m33_86 : decode jdk_42_method_150_code 86 = .ok (.iconst 0, 1) := by decide +kernel
theorem d_m33_87 : decode jdk_42_method_150_code 87 = .ok (.iload 4, 2) := by decide +kernel
theorem d_m33_89 : decode jdk_42_method_150_code 89 = .ok (.iconst 1, 1) := by decide +kernel
theorem d_m33_90 : decode jdk_42_method_150_code 90 = .ok (.ishl, 1) := by decide +kernel
theorem d_m33_91 : decode jdk_42_method_150_code 91 = .ok (.invokestatic 54, 3) := by decide +kernel
theorem d_m33_94 : decode jdk_42_method_150_code 94 = .ok (.putfield 9, 3) := by decide +kernel
theorem ef_siV1 (m : MethodId) (x0 : Addr) (x1 : Addr) : entryFrame m #[(.ref x0), (.ref x1), .null] 5 = mkF m 0 #[.val (.ref x0), .val (.ref x1), .val .null, .unset, .unset] [] := by first | (simp [entryFrame, mkF, argsToLocals, Value.category]; done) | rfl
def Q_siV1 (Z : State) (r0 : Addr) (r1 : Addr) (tv : Addr) (kv : ClassId) (ds : List Int32) (M : Nat) (G1 : Int32) (h0 : Heap) (n0 : Nat) (v : Option Value) (h : Heap) (L : List Loc) : Prop := ∃ (xb : Addr) (xk : ClassId), v = none ∧ Fr n0 L ∧ Keep h0 h [r0] ∧ h0.size ≤ xb ∧ Exa Z h r0 "java/lang/String" ∧ f1 Z h r0 (.ref xb) ∧ f0 Z h r0 (.int (1 : Int32)) ∧ own_A Z h xb xk .byte (Int32.ofNat (2 * ds.length)) (own_u ds)
set_option maxRecDepth 65536 in
set_option maxHeartbeats 40000000 in
theorem rm_siV1 (l : Launch) (Z : State) (a0 : Array Value) (hw : HW a0 Z) (ws : List Jvm.Cond) (r0 : Addr) (r1 : Addr) (tv : Addr) (kv : ClassId) (ds : List Int32) (M : Nat) (G1 : Int32) (h0 : Heap) (n0 : Nat) (Z0 : n0 ≤ h0.size) (F_value : f1 Z h0 r0 .null) (F_coder : f0 Z h0 r0 (.int (0 : Int32))) (E_r0 : Exa Z h0 r0 "java/lang/String") (E_r1 : Exa Z h0 r1 "java/lang/StringBuilder") (Bv : f3 Z h0 r1 (.ref tv)) (Bc : f2 Z h0 r1 (.int (1 : Int32))) (Bn : f4 Z h0 r1 (.int (Int32.ofNat ds.length))) (Bm : f5 Z h0 r1 (.int (0 : Int32))) (S_CS : f12 Z h0 (.int G1)) (V_v : own_A Z h0 tv kv .byte (Int32.ofNat (2 * M)) (own_U M ds)) (P5 : ¬ (G1 = (0 : Int32))) (g_r0 : n0 ≤ r0) (hM : ds.length < M ∧ M ≤ 34 ∧ ds.length ≤ 24) (nrA : r1 ≠ r0) (nrB : tv ≠ r0) :
    own_M l Z h0 (⟨"java/lang/String", "<init>", "(Ljava/lang/AbstractStringBuilder;Ljava/lang/Void;)V"⟩ : MethodName) jdk_42_method_150_code 5 none ws (rR 3 1 48 49) #[(.ref r0), (.ref r1), .null] (Q_siV1 Z r0 r1 tv kv ds M G1 h0 n0) := by
  refine own_body (own := "java/lang/String") (plainFor_of_name pn_2) rfl ?_
  intro p e s m below meth c s₁ Bd hZ hh hx hby hml hown X0 e0
  have hnm := (name_of_methodNamed Bd.named Bd.method).1
  have N0 := Fr.nil n0
  have k1 : Go p.tables e below (s₁.setTop (mkF m 0 #[.val (.ref r0), .val (.ref r1), .val .null, .unset, .unset] [])) (s₁.setTop (mkF m 1 #[.val (.ref r0), .val (.ref r1), .val .null, .unset, .unset] [(.ref r0)])) := by
    intro t ht
    refine XS.aloadN X0.here hx rfl (hb hby d_m33_0) rfl rfl ?_
    exact ht
  obtain ⟨T2, X2, e2, st2⟩ := initO X0 hx hZ hown (own_w hw 19 rfl) (own_w hw 20 rfl) (own_w hw 21 rfl) e0 (g := (mkF m 1 #[.val (.ref r0), .val (.ref r1), .val .null, .unset, .unset] [(.ref r0)])) rfl (by rw [hml]; rfl) rfl (hb hby d_m33_1) (by decide) (W := 0) (by show 2 * 0 + _ ≤ _; exact Nat.le_of_eq rfl) (by decide)
  have k3 : Go p.tables e below _ (T2.setTop (mkF m 5 #[.val (.ref r0), .val (.ref r1), .val .null, .unset, .unset] [(.ref r1)])) := fun t ht => st2 t (by
    refine XS.aloadN X2.here hx rfl (hb hby d_m33_4) rfl rfl ?_
    exact ht)
  obtain ⟨cq4, kq4, q4a, q4b, q4c⟩ := isOf hZ e2 E_r1
  have rq4 := X2.virtualBack hx (y := (⟨"java/lang/AbstractStringBuilder", "getValue", "()[B"⟩ : MethodName)) (z := (⟨"java/lang/AbstractStringBuilder", "getValue", "()[B"⟩ : MethodName)) hown (mvT hZ (own_w hw 128 rfl)) (mvT hZ (own_w hw 129 rfl)) (notFace_of_selects (args := #[]) (mvT hZ (own_w hw 131 rfl))) (mvT hZ (own_w hw 131 rfl)) (mvT hZ (own_w hw 130 rfl)) (by decide) (backOf (W := 0) (rm_getV l Z a0 hw [] r1 tv h0 n0 Z0 Bv) hZ (own_w hw 132 rfl) (own_w hw 57 rfl) (by decide) (by decide)) q4a q4c (g := (mkF m 5 #[.val (.ref r0), .val (.ref r1), .val .null, .unset, .unset] [(.ref r1)])) rfl (by rw [hml]; rfl) (Steps.refl _) (argsL := []) (rest := []) (lenOf pd_21 rfl) rfl (by show 2 * 0 + _ ≤ _; exact Nat.le_of_eq rfl) (hb hby d_m33_5) (fun _ _ => ⟨rfl, e2, (by decide : 0 + 0 ≤ _), (by decide : 0 + 0 ≤ _)⟩)
  obtain ⟨_, T4, L4, X4, ⟨rfl, N4q, eq4⟩, st4⟩ := own_r X2 rq4
  have N4 := Fr.app N0 N4q
  have k5 : Go p.tables e below _ (T4.setTop (mkF m 10 #[.val (.ref r0), .val (.ref r1), .val .null, .val (.ref tv), .unset] [(.ref r1)])) := fun t ht => st4 t (by
    refine XS.astoreN X4.here hx rfl (hb hby d_m33_8) rfl rfl (l' := #[.val (.ref r0), .val (.ref r1), .val .null, .val (.ref tv), .unset]) rfl ?_
    refine XS.aloadN X4.here hx rfl (hb hby d_m33_9) rfl rfl ?_
    exact ht)
  obtain ⟨cq6, kq6, q6a, q6b, q6c⟩ := isOf hZ eq4 E_r1
  have rq6 := X4.virtualBack hx (y := (⟨"java/lang/AbstractStringBuilder", "length", "()I"⟩ : MethodName)) (z := (⟨"java/lang/StringBuilder", "length", "()I"⟩ : MethodName)) hown (mvT hZ (own_w hw 133 rfl)) (mvT hZ (own_w hw 134 rfl)) (own_face (notFace_of_selects (args := #[]) (mvT hZ (own_w hw 93 rfl))) (mvT hZ (own_w hw 91 rfl) (args := #[])) rfl) (mvT hZ (own_w hw 136 rfl)) (mvT hZ (own_w hw 137 rfl)) (by decide) (backOf (W := 0) (rm_sbL l Z a0 hw [] r1 (Int32.ofNat ds.length) h0 n0 Z0 E_r1 Bn) hZ (own_w hw 138 rfl) (own_w hw 49 rfl) (by decide) (by decide)) q6a q6c (g := (mkF m 10 #[.val (.ref r0), .val (.ref r1), .val .null, .val (.ref tv), .unset] [(.ref r1)])) rfl (by rw [hml]; rfl) (Steps.refl _) (argsL := []) (rest := []) (lenOf pd_15 rfl) rfl (by show 2 * 0 + _ ≤ _; exact Nat.le_of_eq rfl) (hb hby d_m33_10) (fun _ _ => ⟨rfl, eq4, (by decide : 0 + 0 ≤ _), (by decide : 0 + 0 ≤ _)⟩)
  obtain ⟨_, T6, L6, X6, ⟨rfl, N6q, eq6⟩, st6⟩ := own_r X4 rq6
  have N6 := Fr.app N4 N6q
  have k7 : Go p.tables e below _ (T6.setTop (mkF m 16 #[.val (.ref r0), .val (.ref r1), .val .null, .val (.ref tv), .val (.int (Int32.ofNat ds.length))] [(.ref r1)])) := fun t ht => st6 t (by
    refine XS.istore X6.here hx rfl (hb hby d_m33_13) rfl (l' := #[.val (.ref r0), .val (.ref r1), .val .null, .val (.ref tv), .val (.int (Int32.ofNat ds.length))]) rfl ?_
    refine XS.aloadN X6.here hx rfl (hb hby d_m33_15) rfl rfl ?_
    exact ht)
  obtain ⟨cq8, kq8, q8a, q8b, q8c⟩ := isOf hZ eq6 E_r1
  have rq8 := X6.virtualBack hx (y := (⟨"java/lang/AbstractStringBuilder", "isLatin1", "()Z"⟩ : MethodName)) (z := (⟨"java/lang/AbstractStringBuilder", "isLatin1", "()Z"⟩ : MethodName)) hown (mvT hZ (own_w hw 141 rfl)) (mvT hZ (own_w hw 142 rfl)) (notFace_of_selects (args := #[]) (mvT hZ (own_w hw 144 rfl))) (mvT hZ (own_w hw 144 rfl)) (mvT hZ (own_w hw 143 rfl)) (by decide) (backOf (W := 0) (rm_isL1 l Z a0 hw [] r1 G1 h0 n0 Z0 Bc S_CS P5) hZ (own_w hw 145 rfl) (own_w hw 57 rfl) (by decide) (by decide)) q8a q8c (g := (mkF m 16 #[.val (.ref r0), .val (.ref r1), .val .null, .val (.ref tv), .val (.int (Int32.ofNat ds.length))] [(.ref r1)])) rfl (by rw [hml]; rfl) (Steps.refl _) (argsL := []) (rest := []) (lenOf pd_10 rfl) rfl (by show 2 * 0 + _ ≤ _; exact Nat.le_of_eq rfl) (hb hby d_m33_16) (fun _ _ => ⟨rfl, eq6, (by decide : 0 + 0 ≤ _), (by decide : 0 + 0 ≤ _)⟩)
  obtain ⟨_, T8, L8, X8, ⟨rfl, N8q, eq8⟩, st8⟩ := own_r X6 rq8
  have N8 := Fr.app N6 N8q
  have k9 : Go p.tables e below _ (T8.setTop (mkF m 41 #[.val (.ref r0), .val (.ref r1), .val .null, .val (.ref tv), .val (.int (Int32.ofNat ds.length))] [])) := fun t ht => st8 t (by
    refine XS.ifYes X8.here hx rfl (pc0 := 19) (pc' := 41) rfl (hb hby d_m33_19) rfl ((if0 _ _).trans (teq (by decide : (0 : Int32) = (0 : Int32))).1) (by decide) (by decide) ?_
    exact ht)
  obtain ⟨T10, X10, e10, st10⟩ := getS2 X8 hx hZ hown (host := "") (Or.inl (own_w hw 4 rfl)) Via.refl eq8 S_CS (g := (mkF m 41 #[.val (.ref r0), .val (.ref r1), .val .null, .val (.ref tv), .val (.int (Int32.ofNat ds.length))] [])) rfl (hb hby d_m33_41)
  have k11 : Go p.tables e below _ (T10.setTop (mkF m 48 #[.val (.ref r0), .val (.ref r1), .val .null, .val (.ref tv), .val (.int (Int32.ofNat ds.length))] [(.ref r1)])) := fun t ht => st10 t (by
    refine XS.ifNo X10.here hx rfl (hb hby d_m33_44) rfl ((if0 _ _).trans (feq P5).1) ?_
    refine XS.aloadN X10.here hx rfl (hb hby d_m33_47) rfl rfl ?_
    exact ht)
  obtain ⟨T12, X12, e12, st12⟩ := getF X10 hx hZ hown (host := "") (Or.inl (own_w hw 258 rfl)) Via.refl e10 Bm (g := (mkF m 48 #[.val (.ref r0), .val (.ref r1), .val .null, .val (.ref tv), .val (.int (Int32.ofNat ds.length))] [(.ref r1)])) rfl rfl (hb hby d_m33_48)
  have k13 : Go p.tables e below _ (T12.setTop (mkF m 81 #[.val (.ref r0), .val (.ref r1), .val .null, .val (.ref tv), .val (.int (Int32.ofNat ds.length))] [(.int (1 : Int32)), (.ref r0)])) := fun t ht => st12 t (by
    refine XS.ifYes X12.here hx rfl (pc0 := 51) (pc' := 79) rfl (hb hby d_m33_51) rfl ((if0 _ _).trans (teq (by decide : (0 : Int32) = (0 : Int32))).1) (by decide) (by decide) ?_
    refine XS.aloadN X12.here hx rfl (hb hby d_m33_79) rfl rfl ?_
    refine XS.iconst X12.here hx rfl (hb hby d_m33_80) ?_
    exact ht)
  obtain ⟨T14, h14, X14, e14, W14, st14⟩ := putFN X12 hx hZ hown (own_w hw 24 rfl) Via.refl e12 F_coder E_r0 (Or.inr ⟨(own_w hw 25 rfl), rfl, hnm⟩) (own_w hw 10 rfl) (ty := .byte) (v' := (.int (1 : Int32))) (by decide) rfl (by decide) (g := (mkF m 81 #[.val (.ref r0), .val (.ref r1), .val .null, .val (.ref tv), .val (.int (Int32.ofNat ds.length))] [(.int (1 : Int32)), (.ref r0)])) rfl rfl (hb hby d_m33_81)
  have Kp14 : Keep h0 h14 [r0] := (Keep.refl h0 [r0]).wr W14 (Or.inl (by simp))
  have Z14 : n0 ≤ h14.size := Nat.le_trans Z0 (Keep.of_wr W14).1
  have F_value_c_14 := F_value.other W14 (Or.inr (slot_ne (Or.inr (own_w hw 23 rfl)) (Or.inr (own_w hw 25 rfl)) (by decide) (t := (.array .byte)) (t' := .byte) (by decide) (by decide)))
  have F_c_14 := F_coder.same W14
  have E_r0_c_14 := E_r0.wr W14
  have V_v_c_14 := V_v.other W14 nrB
  have N14 := Fr.snoc X14 N8 g_r0
  have k15 : Go p.tables e below _ (T14.setTop (mkF m 91 #[.val (.ref r0), .val (.ref r1), .val .null, .val (.ref tv), .val (.int (Int32.ofNat ds.length))] [(.int ((Int32.ofNat ds.length) <<< ((1 : Int32) &&& 31))), (.int (0 : Int32)), (.ref tv), (.ref r0)])) := fun t ht => st14 t (by
    refine XS.aloadN X14.here hx rfl (hb hby d_m33_84) rfl rfl ?_
    refine XS.aloadN X14.here hx rfl (hb hby d_m33_85) rfl rfl ?_
    refine XS.iconst X14.here hx rfl (hb hby d_m33_86) ?_
    refine XS.iload X14.here hx rfl (hb hby d_m33_87) rfl ?_
    refine XS.iconst X14.here hx rfl (hb hby d_m33_89) ?_
    refine XS.ishl X14.here hx rfl (hb hby d_m33_90) rfl ?_
    exact ht)
  have k16 : Go p.tables e below _ (T14.setTop (mkF m 91 #[.val (.ref r0), .val (.ref r1), .val .null, .val (.ref tv), .val (.int (Int32.ofNat ds.length))] [(.int (Int32.ofNat (2 * ds.length))), (.int (0 : Int32)), (.ref tv), (.ref r0)])) := goT k15 (by rw [own_shl1 (by omega)]; exact fun _ h => h)
  have rq17 := Jvm.LawKit.callS X14 hx (y := (⟨"java/util/Arrays", "copyOfRange", "([BII)[B"⟩ : MethodName)) hown (mvT hZ (own_w hw 146 rfl)) (mvT hZ (own_w hw 147 rfl)) (mvT hZ (own_w hw 148 rfl)) (mvT hZ (own_w hw 149 rfl)) (by decide) (backOf (W := 1) (rm_cor l Z a0 hw [] tv (2 * ds.length) kv (2 * M) (own_U M ds) h14 n0 Z14 V_v_c_14 (by omega : (2 * ds.length) < (2 * M) ∧ (2 * M) ≤ 128 ∧ (2 * ds.length) ≤ 48) (own_lenUU (by omega) : (own_U M ds).length = (2 * M))) hZ (own_w hw 149 rfl) (own_w hw 148 rfl) (by decide) (by decide)) (g := (mkF m 91 #[.val (.ref r0), .val (.ref r1), .val .null, .val (.ref tv), .val (.int (Int32.ofNat ds.length))] [(.int (Int32.ofNat (2 * ds.length))), (.int (0 : Int32)), (.ref tv), (.ref r0)])) rfl (by rw [hml]; rfl) (argsL := [(.ref tv), (.int (0 : Int32)), (.int (Int32.ofNat (2 * ds.length)))]) (rest := [(.ref r0)]) (lenOf pd_20 rfl) rfl (by show 2 * 0 + _ ≤ _; exact Nat.le_of_eq rfl) (hb hby d_m33_91) (fun _ _ => ⟨rfl, e14, (by decide : 0 + 1 ≤ _), (by decide : 0 + 48 ≤ _)⟩)
  obtain ⟨_, T17, L17, X17, ⟨xb_17, xk_17, rfl, N17q, K17, Pq17_0, Fq17_0⟩, st17⟩ := own_rS X14 rq17
  have N17 := Fr.app N14 N17q
  have Kp17 : Keep h0 T17.heap [r0] := Kp14.trans K17 all0
  have ne_r0_xb_17 : r0 ≠ xb_17 := Nat.ne_of_lt (Nat.lt_of_lt_of_le F_value_c_14.lt Pq17_0)
  have sz_xb_17 : h0.size ≤ xb_17 := Nat.le_trans Kp14.1 Pq17_0
  have F_value_c_17 := F_value_c_14.keep K17 nin0
  have F_c_17 := F_c_14.keep K17 nin0
  have E_r0_c_17 := E_r0_c_14.keep K17
  have k17 : Go p.tables e below _ (T17.setTop (mkF m 94 #[.val (.ref r0), .val (.ref r1), .val .null, .val (.ref tv), .val (.int (Int32.ofNat ds.length))] [(.ref xb_17), (.ref r0)])) := st17
  have Vc18 : own_A Z T17.heap xb_17 xk_17 .byte (Int32.ofNat (2 * ds.length)) (own_u ds) := by rw [← own_tkU (M := M)]; exact Fq17_0
  obtain ⟨T19, h19, X19, e19, W19, st19⟩ := putF X17 hx hZ hown (host := "") (Or.inl (own_w hw 22 rfl)) Via.refl rfl F_value_c_17 E_r0_c_17 (Or.inr ⟨(own_w hw 23 rfl), rfl, hnm⟩) (own_w hw 10 rfl) (ty := (.array .byte)) (by decide) rfl rfl (g := (mkF m 94 #[.val (.ref r0), .val (.ref r1), .val .null, .val (.ref tv), .val (.int (Int32.ofNat ds.length))] [(.ref xb_17), (.ref r0)])) rfl rfl (hb hby d_m33_94)
  have Kp19 : Keep h0 h19 [r0] := Kp17.wr W19 (Or.inl (by simp))
  have F_value_c_19 := F_value_c_17.same W19
  have F_c_19 := F_c_17.other W19 (Or.inr (slot_ne (Or.inr (own_w hw 25 rfl)) (Or.inr (own_w hw 23 rfl)) (by decide) (t := .byte) (t' := (.array .byte)) (by decide) (by decide)))
  have E_r0_c_19 := E_r0_c_17.wr W19
  have Vc18_c_19 := Vc18.other W19 (Ne.symm ne_r0_xb_17)
  have N19 := Fr.snoc X19 N17 g_r0
  have k19 : Go p.tables e below _ (T19.setTop (mkF m 97 #[.val (.ref r0), .val (.ref r1), .val .null, .val (.ref tv), .val (.int (Int32.ofNat ds.length))] [])) := st19
  obtain ⟨fs, hr, hrun, hended, hW, hsame⟩ := X19.leave (v := none) (fun _ => rfl)
  refine ⟨_, _, castTop (ef_siV1 m r0 r1) ((goT k1 (goT k3 (goT k5 (goT k7 (goT k9 (goT k11 (goT k13 (goT k16 (goT k17 k19))))))))) _ (X19.returnOut hx Bd.returns (hb hby d_m33_97) hr)), hrun, hended, _, _, rfl, ?_, ⟨_, rfl⟩, hW, hsame.mono (by decide) (by decide)⟩
  show Q_siV1 Z r0 r1 tv kv ds M G1 h0 n0 _ T19.heap _
  rw [e19]
  exact ⟨xb_17, xk_17, rfl, N19, Kp19, sz_xb_17, E_r0_c_19, F_value_c_19, F_c_19, Vc18_c_19⟩
theorem ef_siB1 (m : MethodId) (x0 : Addr) (x1 : Addr) : entryFrame m #[(.ref x0), (.ref x1)] 2 = mkF m 0 #[.val (.ref x0), .val (.ref x1)] [] := by first | (simp [entryFrame, mkF, argsToLocals, Value.category]; done) | rfl
def Q_siB1 (Z : State) (r0 : Addr) (r1 : Addr) (tv : Addr) (kv : ClassId) (ds : List Int32) (M : Nat) (G1 : Int32) (h0 : Heap) (n0 : Nat) (v : Option Value) (h : Heap) (L : List Loc) : Prop := ∃ (xb : Addr) (xk : ClassId), v = none ∧ Fr n0 L ∧ Keep h0 h [r0] ∧ h0.size ≤ xb ∧ Exa Z h r0 "java/lang/String" ∧ f1 Z h r0 (.ref xb) ∧ f0 Z h r0 (.int (1 : Int32)) ∧ own_A Z h xb xk .byte (Int32.ofNat (2 * ds.length)) (own_u ds)
set_option maxRecDepth 65536 in
set_option maxHeartbeats 40000000 in
theorem rm_siB1 (l : Launch) (Z : State) (a0 : Array Value) (hw : HW a0 Z) (ws : List Jvm.Cond) (r0 : Addr) (r1 : Addr) (tv : Addr) (kv : ClassId) (ds : List Int32) (M : Nat) (G1 : Int32) (h0 : Heap) (n0 : Nat) (Z0 : n0 ≤ h0.size) (F_value : f1 Z h0 r0 .null) (F_coder : f0 Z h0 r0 (.int (0 : Int32))) (E_r0 : Exa Z h0 r0 "java/lang/String") (E_r1 : Exa Z h0 r1 "java/lang/StringBuilder") (Bv : f3 Z h0 r1 (.ref tv)) (Bc : f2 Z h0 r1 (.int (1 : Int32))) (Bn : f4 Z h0 r1 (.int (Int32.ofNat ds.length))) (Bm : f5 Z h0 r1 (.int (0 : Int32))) (S_CS : f12 Z h0 (.int G1)) (V_v : own_A Z h0 tv kv .byte (Int32.ofNat (2 * M)) (own_U M ds)) (P5 : ¬ (G1 = (0 : Int32))) (g_r0 : n0 ≤ r0) (hM : ds.length < M ∧ M ≤ 34 ∧ ds.length ≤ 24) (nrA : r1 ≠ r0) (nrB : tv ≠ r0) :
    own_M l Z h0 (⟨"java/lang/String", "<init>", "(Ljava/lang/StringBuilder;)V"⟩ : MethodName) jdk_42_method_53_code 2 none ws (rR 4 1 48 65) #[(.ref r0), (.ref r1)] (Q_siB1 Z r0 r1 tv kv ds M G1 h0 n0) := by
  refine own_body (own := "java/lang/String") (plainFor_of_name pn_2) rfl ?_
  intro p e s m below meth c s₁ Bd hZ hh hx hby hml hown X0 e0
  have N0 := Fr.nil n0
  have k1 : Go p.tables e below (s₁.setTop (mkF m 0 #[.val (.ref r0), .val (.ref r1)] [])) (s₁.setTop (mkF m 3 #[.val (.ref r0), .val (.ref r1)] [.null, (.ref r1), (.ref r0)])) := by
    intro t ht
    refine XS.aloadN X0.here hx rfl (hb hby d_m34_0) rfl rfl ?_
    refine XS.aloadN X0.here hx rfl (hb hby d_m34_1) rfl rfl ?_
    refine XS.aconstNull X0.here hx rfl (hb hby d_m34_2) ?_
    exact ht
  have rq2 := X0.specialBack hx (y := (⟨"java/lang/String", "<init>", "(Ljava/lang/AbstractStringBuilder;Ljava/lang/Void;)V"⟩ : MethodName)) rfl hown (mvT hZ (own_w hw 125 rfl)) (mvT hZ (own_w hw 126 rfl)) (mvT hZ (own_w hw 127 rfl)) (by decide) (backOf (W := 0) (rm_siV1 l Z a0 hw [] r0 r1 tv kv ds M G1 h0 n0 Z0 F_value F_coder E_r0 E_r1 Bv Bc Bn Bm S_CS V_v P5 g_r0 hM nrA nrB) hZ (own_w hw 127 rfl) (own_w hw 2 rfl) (by decide) (by decide)) (g := (mkF m 3 #[.val (.ref r0), .val (.ref r1)] [.null, (.ref r1), (.ref r0)])) rfl (by rw [hml]; rfl) (Steps.refl _) (a := r0) (argsL := [(.ref r1), .null]) (rest := []) (lenOf pd_22 rfl) rfl (by show 2 * 0 + _ ≤ _; exact Nat.le_of_eq rfl) (hb hby d_m34_3) (fun _ _ => ⟨rfl, e0, (by decide : 0 + 1 ≤ _), (by decide : 0 + 48 ≤ _)⟩)
  obtain ⟨_, T2, L2, X2, ⟨xb_2, xk_2, rfl, N2q, K2, Pq2_0, Fq2_0, Fq2_1, Fq2_2, Fq2_3⟩, st2⟩ := own_r X0 rq2
  have N2 := Fr.app N0 N2q
  have Kp2 : Keep h0 T2.heap [r0] := (Keep.refl h0 [r0]).trans K2 (allS (Or.inl (by simp)) all0)
  have sz_xb_2 : h0.size ≤ xb_2 := Nat.le_trans (Keep.refl h0 [r0]).1 Pq2_0
  have k2 : Go p.tables e below _ (T2.setTop (mkF m 6 #[.val (.ref r0), .val (.ref r1)] [])) := st2
  obtain ⟨fs, hr, hrun, hended, hW, hsame⟩ := X2.leave (v := none) (fun _ => rfl)
  refine ⟨_, _, castTop (ef_siB1 m r0 r1) ((goT k1 k2) _ (X2.returnOut hx Bd.returns (hb hby d_m34_6) hr)), hrun, hended, _, _, rfl, ?_, ⟨_, rfl⟩, hW, hsame.mono (by decide) (by decide)⟩
  show Q_siB1 Z r0 r1 tv kv ds M G1 h0 n0 _ T2.heap _
  exact ⟨xb_2, xk_2, rfl, N2, Kp2, sz_xb_2, Fq2_0, Fq2_1, Fq2_2, Fq2_3⟩
theorem ef_sbT1 (m : MethodId) (x0 : Addr) : entryFrame m #[(.ref x0)] 1 = mkF m 0 #[.val (.ref x0)] [] := by first | (simp [entryFrame, mkF, argsToLocals, Value.category]; done) | rfl
def Q_sbT1 (Z : State) (r0 : Addr) (tv : Addr) (kv : ClassId) (ds : List Int32) (M : Nat) (G1 : Int32) (h0 : Heap) (n0 : Nat) (v : Option Value) (h : Heap) (L : List Loc) : Prop := ∃ (xs : Addr) (xb : Addr) (xk : ClassId), v = some (.ref xs) ∧ Fr n0 L ∧ Keep h0 h [] ∧ Exa Z h xs "java/lang/String" ∧ f1 Z h xs (.ref xb) ∧ f0 Z h xs (.int (1 : Int32)) ∧ own_A Z h xb xk .byte (Int32.ofNat (2 * ds.length)) (own_u ds)
set_option maxRecDepth 65536 in
set_option maxHeartbeats 40000000 in
theorem rm_sbT1 (l : Launch) (Z : State) (a0 : Array Value) (hw : HW a0 Z) (ws : List Jvm.Cond) (r0 : Addr) (tv : Addr) (kv : ClassId) (ds : List Int32) (M : Nat) (G1 : Int32) (h0 : Heap) (n0 : Nat) (Z0 : n0 ≤ h0.size) (E_r0 : Exa Z h0 r0 "java/lang/StringBuilder") (Bv : f3 Z h0 r0 (.ref tv)) (Bc : f2 Z h0 r0 (.int (1 : Int32))) (Bn : f4 Z h0 r0 (.int (Int32.ofNat ds.length))) (Bm : f5 Z h0 r0 (.int (0 : Int32))) (S_CS : f12 Z h0 (.int G1)) (V_v : own_A Z h0 tv kv .byte (Int32.ofNat (2 * M)) (own_U M ds)) (P5 : ¬ (G1 = (0 : Int32))) (hM : ds.length < M ∧ M ≤ 34 ∧ ds.length ≤ 24) :
    own_M l Z h0 (⟨"java/lang/StringBuilder", "toString", "()Ljava/lang/String;"⟩ : MethodName) jdk_67_method_42_code 1 (some (.object "java/lang/String")) ws (rR 5 2 52 79) #[(.ref r0)] (Q_sbT1 Z r0 tv kv ds M G1 h0 n0) := by
  refine own_body (own := "java/lang/StringBuilder") (plainFor_of_name pn_7) rfl ?_
  intro p e s m below meth c s₁ Bd hZ hh hx hby hml hown X0 e0
  have N0 := Fr.nil n0
  obtain ⟨T1, h1, X1, e1, E1, A1, D1, -, st1⟩ := newO X0 hx hZ hown (own_w hw 121 rfl) (own_w hw 10 rfl) (own_w hw 2 rfl) e0 (g := (mkF m 0 #[.val (.ref r0)] [])) rfl (hb hby d_m35_0) (by decide) (by decide)
  obtain ⟨b1, g1⟩ : ∃ z, z = h0.size := ⟨_, rfl⟩
  rw [← g1] at A1 D1 st1
  have g_b1 : n0 ≤ b1 := Nat.le_trans Z0 (Nat.le_of_eq g1.symm)
  have sz_b1 : h0.size ≤ b1 := Nat.le_trans (Keep.refl h0 []).1 (Nat.le_of_eq g1.symm)
  have ne_r0_b1 : r0 ≠ b1 := Nat.ne_of_lt (Nat.lt_of_lt_of_le E_r0.lt (Nat.le_of_eq g1.symm))
  have ne_tv_b1 : tv ≠ b1 := Nat.ne_of_lt (Nat.lt_of_lt_of_le V_v.lt (Nat.le_of_eq g1.symm))
  have Kp1 : Keep h0 h1 [] := (Keep.refl h0 []).ext E1
  have Z1 : n0 ≤ h1.size := Nat.le_trans Z0 E1.1
  have E_r0_c_1 := E_r0.ext E1
  have Bv_c_1 := Bv.ext E1
  have Bc_c_1 := Bc.ext E1
  have Bn_c_1 := Bn.ext E1
  have Bm_c_1 := Bm.ext E1
  have S_CS_c_1 := S_CS.ext E1
  have V_v_c_1 := V_v.ext E1
  have F_value_b1 : f1 Z h1 b1 .null := D1 (Or.inr (own_w hw 23 rfl)) (ty := (.array .byte)) (by decide)
  have F_coder_b1 : f0 Z h1 b1 (.int (0 : Int32)) := D1 (Or.inr (own_w hw 25 rfl)) (ty := .byte) (by decide)
  have k2 : Go p.tables e below _ (T1.setTop (mkF m 5 #[.val (.ref r0)] [(.ref r0), (.ref b1), (.ref b1)])) := fun t ht => st1 t (by
    refine XS.dup X1.here hx rfl (hb hby d_m35_3) rfl rfl ?_
    refine XS.aloadN X1.here hx rfl (hb hby d_m35_4) rfl rfl ?_
    exact ht)
  have rq3 := X1.specialBack hx (y := (⟨"java/lang/String", "<init>", "(Ljava/lang/StringBuilder;)V"⟩ : MethodName)) rfl hown (mvT hZ (own_w hw 122 rfl)) (mvT hZ (own_w hw 123 rfl)) (mvT hZ (own_w hw 124 rfl)) (by decide) (backOf (W := 1) (rm_siB1 l Z a0 hw [] b1 r0 tv kv ds M G1 h1 n0 Z1 F_value_b1 F_coder_b1 A1 E_r0_c_1 Bv_c_1 Bc_c_1 Bn_c_1 Bm_c_1 S_CS_c_1 V_v_c_1 P5 g_b1 hM ne_r0_b1 ne_tv_b1) hZ (own_w hw 124 rfl) (own_w hw 2 rfl) (by decide) (by decide)) (g := (mkF m 5 #[.val (.ref r0)] [(.ref r0), (.ref b1), (.ref b1)])) rfl (by rw [hml]; rfl) (Steps.refl _) (a := b1) (argsL := [(.ref r0)]) (rest := [(.ref b1)]) (lenOf pd_23 rfl) rfl (by show 2 * 0 + _ ≤ _; exact Nat.le_of_eq rfl) (hb hby d_m35_5) (fun _ _ => ⟨rfl, e1, (by decide : 1 + 1 ≤ _), (by decide : 4 + 48 ≤ _)⟩)
  obtain ⟨_, T3, L3, X3, ⟨xb_3, xk_3, rfl, N3q, K3, Pq3_0, Fq3_0, Fq3_1, Fq3_2, Fq3_3⟩, st3⟩ := own_r X1 rq3
  have N3 := Fr.app N0 N3q
  have Kp3 : Keep h0 T3.heap [] := Kp1.trans K3 (allS (Or.inr sz_b1) all0)
  have k3 : Go p.tables e below _ (T3.setTop (mkF m 8 #[.val (.ref r0)] [(.ref b1)])) := st3
  obtain ⟨fs, hr, hrun, hended, hW, hsame⟩ := X3.leave (v := some (.ref b1)) (fun h => by rw [Bd.returns] at h; cases h)
  refine ⟨_, _, castTop (ef_sbT1 m r0) ((goT k2 k3) _ (retR X3 hx Bd.returns (hb hby d_m35_8) hr)), hrun, hended, _, _, rfl, ?_, ⟨_, rfl⟩, hW, hsame.mono (by decide) (by decide)⟩
  show Q_sbT1 Z r0 tv kv ds M G1 h0 n0 _ T3.heap _
  exact ⟨b1, xb_3, xk_3, rfl, N3, Kp3, Fq3_0, Fq3_1, Fq3_2, Fq3_3⟩
theorem own_atoms {Z : State} {a0 : Array Value} (hw : HW a0 Z) : ∀ a ∈ Bundle.stringAtoms, a.before a0 Z = true := fun d hd => by
  simp only [Bundle.stringAtoms, List.mem_cons, List.not_mem_nil, or_false] at hd
  rcases hd with rfl | rfl | rfl | rfl | rfl | rfl | rfl
  · exact (own_w hw 2 rfl)
  · exact (own_w hw 10 rfl)
  · exact (own_w hw 14 rfl)
  · exact (own_w hw 23 rfl)
  · exact (own_w hw 25 rfl)
  · exact (own_w hw 66 rfl)
  · exact (own_w hw 67 rfl)
def own_ELs : List (String × Nat) := [("com/example/fieldveil/fieldveil/Placeholder", 34), ("com/example/fieldveil/fieldveil/Placeholder", 40), ("com/example/fieldveil/fieldveil/Placeholder", 46), ("com/example/fieldveil/fieldveil/Placeholder", 48), ("java/lang/String", 7)]
theorem own_EL {Z : State} {a0 : Array Value} (hw : HW a0 Z) : EW Z a0 own_ELs := (EW.cons (text := "{{#toJson}}") (own_w hw 191 rfl) (by decide) (EW.cons (text := "{{/toJson}}") (own_w hw 192 rfl) (by decide) (EW.cons (text := "{{") (own_w hw 65 rfl) (by decide) (EW.cons (text := "}}") (own_w hw 115 rfl) (by decide) (EW.cons (text := "") (own_w hw 210 rfl) (by decide) EW.nil)))))
theorem d_m36_0 : decode jdk_30_method_1_code 0 = .ok (.aload_n 0, 1) := by decide +kernel
theorem d_m36_1 : decode jdk_30_method_1_code 1 = .ok (.invokespecial 1, 3) := by decide +kernel
theorem d_m36_4 : decode jdk_30_method_1_code 4 = .ok (.return_, 1) := by decide +kernel
theorem pn_8 : plainName "java/lang/Record" = true := by first | (simp [plainName, overriddenIn]; done) | decide +kernel
theorem ef_recordInit (m : MethodId) (x0 : Addr) : entryFrame m #[(.ref x0)] 1 = mkF m 0 #[.val (.ref x0)] [] := by first | (simp [entryFrame, mkF, argsToLocals, Value.category]; done) | rfl
def Q_recordInit (Z : State) (r0 : Addr) (h0 : Heap) (n0 : Nat) (v : Option Value) (h : Heap) (L : List Loc) : Prop := v = none ∧ Fr n0 L ∧ h = h0
set_option maxRecDepth 65536 in
set_option maxHeartbeats 40000000 in
theorem rm_recordInit (l : Launch) (Z : State) (a0 : Array Value) (hw : HW a0 Z) (ws : List Jvm.Cond) (r0 : Addr) (h0 : Heap) (n0 : Nat) (Z0 : n0 ≤ h0.size) :
    own_M l Z h0 (⟨"java/lang/Record", "<init>", "()V"⟩ : MethodName) jdk_30_method_1_code 1 none ws (rR 1 0 0 12) #[(.ref r0)] (Q_recordInit Z r0 h0 n0) := by
  refine own_body (own := "java/lang/Record") (plainFor_of_name pn_8) rfl ?_
  intro p e s m below meth c s₁ Bd hZ hh hx hby hml hown X0 e0
  have N0 := Fr.nil n0
  have k1 : Go p.tables e below (s₁.setTop (mkF m 0 #[.val (.ref r0)] [])) (s₁.setTop (mkF m 1 #[.val (.ref r0)] [(.ref r0)])) := by
    intro t ht
    refine XS.aloadN X0.here hx rfl (hb hby d_m36_0) rfl rfl ?_
    exact ht
  obtain ⟨T2, X2, e2, st2⟩ := initO X0 hx hZ hown (own_w hw 37 rfl) (own_w hw 20 rfl) (own_w hw 21 rfl) e0 (g := (mkF m 1 #[.val (.ref r0)] [(.ref r0)])) rfl (by rw [hml]; rfl) rfl (hb hby d_m36_1) (by decide) (W := 0) (by show 2 * 0 + _ ≤ _; exact Nat.le_of_eq rfl) (by decide)
  have k2 : Go p.tables e below _ (T2.setTop (mkF m 4 #[.val (.ref r0)] [])) := st2
  obtain ⟨fs, hr, hrun, hended, hW, hsame⟩ := X2.leave (v := none) (fun _ => rfl)
  refine ⟨_, _, castTop (ef_recordInit m r0) ((goT k1 k2) _ (X2.returnOut hx Bd.returns (hb hby d_m36_4) hr)), hrun, hended, _, _, rfl, ?_, ⟨_, rfl⟩, hW, hsame.mono (by decide) (by decide)⟩
  show Q_recordInit Z r0 h0 n0 _ T2.heap _
  rw [e2]
  exact ⟨rfl, N0, rfl⟩
theorem d_m37_0 : decode jdk_42_method_149_code 0 = .ok (.aload_n 0, 1) := by decide +kernel
theorem d_m37_1 : decode jdk_42_method_149_code 1 = .ok (.invokespecial 1, 3) := by decide +kernel
theorem d_m37_4 : decode jdk_42_method_149_code 4 = .ok (.iload_n 3, 1) := by decide +kernel
theorem d_m37_5 : decode jdk_42_method_149_code 5 = .ok (.ifCond .ne 22, 3) := by decide +kernel
theorem d_m37_8 : decode jdk_42_method_149_code 8 = .ok (.aload_n 0, 1) := by decide +kernel
theorem d_m37_9 : decode jdk_42_method_149_code 9 = .ok (.ldc 7, 2) := by decide +kernel
theorem d_m37_11 : decode jdk_42_method_149_code 11 = .ok (.getfield 9, 3) := by decide +kernel
theorem d_m37_14 : decode jdk_42_method_149_code 14 = .ok (.putfield 9, 3) := by decide +kernel
theorem d_m37_17 : decode jdk_42_method_149_code 17 = .ok (.aload_n 0, 1) := by decide +kernel
theorem d_m37_18 : decode jdk_42_method_149_code 18 = .ok (.ldc 7, 2) := by decide +kernel
theorem d_m37_20 : decode jdk_42_method_149_code 20 = .ok (.getfield 15, 3) := by decide +kernel
theorem d_m37_23 : decode jdk_42_method_149_code 23 = .ok (.putfield 15, 3) := by decide +kernel
theorem d_m37_26 : decode jdk_42_method_149_code 26 = .ok (.return_, 1) := by decide +kernel
theorem ef_initE2 (m : MethodId) (x0 : Addr) (x1 : Addr) : entryFrame m #[(.ref x0), (.ref x1), (.int (0 : Int32)), (.int (0 : Int32)), .null] 6 = mkF m 0 #[.val (.ref x0), .val (.ref x1), .val (.int (0 : Int32)), .val (.int (0 : Int32)), .val .null, .unset] [] := by first | (simp [entryFrame, mkF, argsToLocals, Value.category]; done) | rfl
def Q_initE2 (Z : State) (r0 : Addr) (r1 : Addr) (h0 : Heap) (n0 : Nat) (v : Option Value) (h : Heap) (L : List Loc) : Prop := ∃ (xb : Addr) (xk : ClassId), v = none ∧ Fr n0 L ∧ Keep h0 h [r0] ∧ Exa Z h r0 "java/lang/String" ∧ f1 Z h r0 (.ref xb) ∧ f0 Z h r0 (.int (nar .byte (0 : Int32))) ∧ Arv Z h xb xk .byte (0 : Int32) [] (.int (0 : Int32))
set_option maxRecDepth 65536 in
set_option maxHeartbeats 40000000 in
theorem rm_initE2 (l : Launch) (Z : State) (a0 : Array Value) (hw : HW a0 Z) (ws : List Jvm.Cond) (r0 : Addr) (r1 : Addr) (h0 : Heap) (n0 : Nat) (Z0 : n0 ≤ h0.size) (F_value : f1 Z h0 r0 .null) (F_coder : f0 Z h0 r0 (.int (0 : Int32))) (E_r0 : Exa Z h0 r0 "java/lang/String") (g_r0 : n0 ≤ r0) :
    MetFree l (⟨"java/lang/String", "<init>", "([CIILjava/lang/Void;)V"⟩ : MethodName) (head1 (Jvm.Cond.code (⟨"java/lang/String", "<init>", "([CIILjava/lang/Void;)V"⟩ : MethodName) jdk_42_method_149_code 6 none :: ws) (rR 1 2 4 12)) (fun a U => a = #[(.ref r0), (.ref r1), (.int (0 : Int32)), (.int (0 : Int32)), .null] ∧ Z.Warmed39 U.vm ∧ U.heap = h0 ∧ CHv Z own_ELs U.vm h0) (fun _ _ _ _ _ => True) (fun _ U o U' => ∃ v L, o = .returned v ∧ Q_initE2 Z r0 r1 h0 n0 v U'.heap L ∧ CHr Z own_ELs U.vm U.heap U'.vm U'.heap ∧ ReturnedEndW U o U' L (rR 1 2 4 12).cells (rR 1 2 4 12).slots) := by
  refine MetFree.of_bodySF (plainFor_of_name pn_2) hisR ?_
  intro p e s m args below meth c s₁ Bd hml0 hP hK
  obtain ⟨rfl, hZ, hh, hCH⟩ := hP
  have hx := Bd.exec
  have hby := Bd.bytes
  have hml : c.maxLocals = 6 := hml0
  have hown : s.vm.findClass "java/lang/String" = some m.cls := findClass_of_methodNamed Bd.named
  have hnm := (name_of_methodNamed Bd.named Bd.method).1
  have X0 : Stand p l e (rR 1 2 4 12) s m #[(.ref r0), (.ref r1), (.int (0 : Int32)), (.int (0 : Int32)), .null] below meth c s₁ [] 0 0 := Stand.of_body Bd
  have e0 : s₁.heap = h0 := by rw [← hh, Bd.state]; rfl
  have N0 := Fr.nil n0
  have pre0 : ∀ t, Steps p.tables e below (s₁.setTop (mkF m 0 #[.val (.ref r0), .val (.ref r1), .val (.int (0 : Int32)), .val (.int (0 : Int32)), .val .null, .unset] [])) t → Steps p.tables e below (s₁.setTop (entryFrame m #[(.ref r0), (.ref r1), (.int (0 : Int32)), (.int (0 : Int32)), .null] 6)) t := fun t k => castTop (ef_initE2 m r0 r1) k
  have CR0 : CHr Z own_ELs s.vm h0 s.vm h0 := CHr.refl hCH
  have k1 : Go p.tables e below (s₁.setTop (mkF m 0 #[.val (.ref r0), .val (.ref r1), .val (.int (0 : Int32)), .val (.int (0 : Int32)), .val .null, .unset] [])) (s₁.setTop (mkF m 1 #[.val (.ref r0), .val (.ref r1), .val (.int (0 : Int32)), .val (.int (0 : Int32)), .val .null, .unset] [(.ref r0)])) := by
    intro t ht
    refine XS.aloadN X0.here hx rfl (hb hby d_m37_0) rfl rfl ?_
    exact ht
  obtain ⟨T2, X2, e2, st2⟩ := initO X0 hx hZ hown (own_w hw 19 rfl) (own_w hw 20 rfl) (own_w hw 21 rfl) e0 (g := (mkF m 1 #[.val (.ref r0), .val (.ref r1), .val (.int (0 : Int32)), .val (.int (0 : Int32)), .val .null, .unset] [(.ref r0)])) rfl (by rw [hml]; rfl) rfl (hb hby d_m37_1) (by decide) (W := 0) (by show 2 * 0 + _ ≤ _; exact Nat.le_of_eq rfl) (by decide)
  have k3 : Go p.tables e below _ (T2.setTop (mkF m 9 #[.val (.ref r0), .val (.ref r1), .val (.int (0 : Int32)), .val (.int (0 : Int32)), .val .null, .unset] [(.ref r0)])) := fun t ht => st2 t (by
    refine XS.iloadN X2.here hx rfl (hb hby d_m37_4) rfl ?_
    refine XS.ifNo X2.here hx rfl (hb hby d_m37_5) rfl ((if0 _ _).trans (teq (by decide : (0 : Int32) = (0 : Int32))).2) ?_
    refine XS.aloadN X2.here hx rfl (hb hby d_m37_8) rfl rfl ?_
    exact ht)
  have hS0 : s.Since s.vm 0 := (State.WarmedH.refl s).since 0
  obtain ⟨c4, T4, h4, kk4, cb4, ck4, X4, e4, E4, hS4, hk4, hZ, hown, Ec4, Cc4, Vc4, Ac4, la4, lb4, hCr4, Lt4, Sf4, st4⟩ := ldcCH (s := s) (vm0 := s.vm) X2 hx hZ hown (own_w hw 210 rfl) (own_atoms hw) e2 hS0 (Nat.zero_le _) (own_EL hw) (by simp [own_ELs]) hCH (vs := []) (z := 0) ⟨by decide, by decide⟩ (by decide) rfl (g := (mkF m 9 #[.val (.ref r0), .val (.ref r1), .val (.int (0 : Int32)), .val (.int (0 : Int32)), .val .null, .unset] [(.ref r0)])) rfl (hb hby d_m37_9) (n := 0) (by decide) (by decide) (by decide) (by decide)
  have Kp4 : Keep h0 h4 [r0] := (Keep.refl h0 [r0]).ext E4
  have CR4 : CHr Z own_ELs s.vm h0 T4.vm h4 := CR0.trans hCr4
  have F_value_c_4 := F_value.ext E4
  have F_c_4 := F_coder.ext E4
  have E_r0_c_4 := E_r0.ext E4
  have ne_r0_c4 : r0 ≠ c4 := Fld.ne F_value_c_4 Vc4 (by intro q; cases q)
  have ne_r0_cb4 : r0 ≠ cb4 := Exa.neArv E_r0_c_4 Ac4 (own_w hw 10 rfl)
  have k4 : Go p.tables e below _ (T4.setTop (mkF m 11 #[.val (.ref r0), .val (.ref r1), .val (.int (0 : Int32)), .val (.int (0 : Int32)), .val .null, .unset] [(.ref c4), (.ref r0)])) := st4
  obtain ⟨T5, X5, e5, st5⟩ := getF X4 hx hZ hown (host := "") (Or.inl (own_w hw 22 rfl)) Via.refl e4 Vc4 (g := (mkF m 11 #[.val (.ref r0), .val (.ref r1), .val (.int (0 : Int32)), .val (.int (0 : Int32)), .val .null, .unset] [(.ref c4), (.ref r0)])) rfl rfl (hb hby d_m37_11)
  have k5 : Go p.tables e below _ (T5.setTop (mkF m 14 #[.val (.ref r0), .val (.ref r1), .val (.int (0 : Int32)), .val (.int (0 : Int32)), .val .null, .unset] [(.ref cb4), (.ref r0)])) := st5
  obtain ⟨T6, h6, X6, e6, W6, st6⟩ := putF X5 hx hZ hown (host := "") (Or.inl (own_w hw 22 rfl)) Via.refl e5 F_value_c_4 E_r0_c_4 (Or.inr ⟨(own_w hw 23 rfl), rfl, hnm⟩) (own_w hw 10 rfl) (ty := (.array .byte)) (by decide) rfl rfl (g := (mkF m 14 #[.val (.ref r0), .val (.ref r1), .val (.int (0 : Int32)), .val (.int (0 : Int32)), .val .null, .unset] [(.ref cb4), (.ref r0)])) rfl rfl (hb hby d_m37_14)
  have Kp6 : Keep h0 h6 [r0] := Kp4.wr W6 (Or.inl (by simp))
  have Sf7 : Safe Z own_ELs T4.vm h4 r0 := own_safe hZ.alike (own_w hw 10 rfl) E_r0_c_4 F_value_c_4
  have Sg6_r0 : Safe Z own_ELs T4.vm h6 r0 := Safe.wr W6 Sf7 CR4.1 Sf7
  have CR6 : CHr Z own_ELs s.vm h0 T4.vm h6 := CR4.trans (CHr.wr W6 Sf7 CR4.1)
  have F_value_c_6 := F_value_c_4.same W6
  have F_c_6 := F_c_4.other W6 (Or.inr (slot_ne (Or.inr (own_w hw 25 rfl)) (Or.inr (own_w hw 23 rfl)) (by decide) (t := .byte) (t' := (.array .byte)) (by decide) (by decide)))
  have E_r0_c_6 := E_r0_c_4.wr W6
  have Cc4_c_6 := Cc4.other W6 (Or.inl (Ne.symm ne_r0_c4))
  have Ac4_c_6 := Ac4.other W6 (Ne.symm ne_r0_cb4)
  have N6 := Fr.snoc X6 N0 g_r0
  have k8 : Go p.tables e below _ (T6.setTop (mkF m 20 #[.val (.ref r0), .val (.ref r1), .val (.int (0 : Int32)), .val (.int (0 : Int32)), .val .null, .unset] [(.ref c4), (.ref r0)])) := fun t ht => st6 t (by
    refine XS.aloadN X6.here hx rfl (hb hby d_m37_17) rfl rfl ?_
    refine ldcAgain X6 hx hZ hown (own_w hw 210 rfl) Lt4 (g := (mkF m 18 #[.val (.ref r0), .val (.ref r1), .val (.int (0 : Int32)), .val (.int (0 : Int32)), .val .null, .unset] [(.ref r0)])) rfl (hb hby d_m37_18) _ ?_
    exact ht)
  obtain ⟨T9, X9, e9, st9⟩ := getF X6 hx hZ hown (host := "") (Or.inl (own_w hw 24 rfl)) Via.refl e6 Cc4_c_6 (g := (mkF m 20 #[.val (.ref r0), .val (.ref r1), .val (.int (0 : Int32)), .val (.int (0 : Int32)), .val .null, .unset] [(.ref c4), (.ref r0)])) rfl rfl (hb hby d_m37_20)
  have k9 : Go p.tables e below _ (T9.setTop (mkF m 23 #[.val (.ref r0), .val (.ref r1), .val (.int (0 : Int32)), .val (.int (0 : Int32)), .val .null, .unset] [(.int (0 : Int32)), (.ref r0)])) := st9
  obtain ⟨T10, h10, X10, e10, W10, st10⟩ := putFN X9 hx hZ hown (own_w hw 24 rfl) Via.refl e9 F_c_6 E_r0_c_6 (Or.inr ⟨(own_w hw 25 rfl), rfl, hnm⟩) (own_w hw 10 rfl) (ty := .byte) (v' := (.int (0 : Int32))) (by decide) rfl (by decide) (g := (mkF m 23 #[.val (.ref r0), .val (.ref r1), .val (.int (0 : Int32)), .val (.int (0 : Int32)), .val .null, .unset] [(.int (0 : Int32)), (.ref r0)])) rfl rfl (hb hby d_m37_23)
  have Kp10 : Keep h0 h10 [r0] := Kp6.wr W10 (Or.inl (by simp))
  have CR10 : CHr Z own_ELs s.vm h0 T4.vm h10 := CR6.trans (CHr.wr W10 Sg6_r0 CR6.1)
  have F_value_c_10 := F_value_c_6.other W10 (Or.inr (slot_ne (Or.inr (own_w hw 23 rfl)) (Or.inr (own_w hw 25 rfl)) (by decide) (t := (.array .byte)) (t' := .byte) (by decide) (by decide)))
  have F_c_10 := F_c_6.same W10
  have E_r0_c_10 := E_r0_c_6.wr W10
  have Ac4_c_10 := Ac4_c_6.other W10 (Ne.symm ne_r0_cb4)
  have N10 := Fr.snoc X10 N6 g_r0
  have k10 : Go p.tables e below _ (T10.setTop (mkF m 26 #[.val (.ref r0), .val (.ref r1), .val (.int (0 : Int32)), .val (.int (0 : Int32)), .val .null, .unset] [])) := st10
  obtain ⟨fs, hr, hrun, hended, hW⟩ := X10.leaveW (s := s) hS4 (by rw [e10]; exact (Nat.le_trans (Nat.le_trans hk4 (Keep.of_wr W6).1) (Keep.of_wr W10).1)) (v := none) (fun _ => rfl)
  refine ⟨_, _, pre0 _ ((goT k1 (goT k3 (goT k4 (goT k5 (goT k8 (goT k9 k10)))))) _ (X10.returnOut hx Bd.returns (hb hby d_m37_26) hr)), hrun, hended, _, _, rfl, ?_, ?_, hW.1, hW.2.1, hW.2.2.1, hW.2.2.2.mono (by decide) (by decide)⟩
  · show Q_initE2 Z r0 r1 h0 n0 _ T10.heap _
    rw [e10]
    exact ⟨cb4, ck4, rfl, N10, Kp10, E_r0_c_10, F_value_c_10, F_c_10, Ac4_c_10⟩
  · have hcc := CR10.trans (CHv.at (s := s) (vm0 := T4.vm) X10 hZ (own_EL hw) CR10.1)
    rw [hh]
    show CHr Z own_ELs s.vm h0 T10.vm T10.heap
    rw [e10]
    exact hcc
theorem pd_24 : parseMethodDescriptor "([CIILjava/lang/Void;)V" = some ⟨[(.array .char), .int, .int, (.object "java/lang/Void")], none⟩ := by decide +kernel
theorem d_m38_0 : decode jdk_42_method_3_code 0 = .ok (.aload_n 0, 1) := by decide +kernel
theorem d_m38_1 : decode jdk_42_method_3_code 1 = .ok (.aload_n 1, 1) := by decide +kernel
theorem d_m38_2 : decode jdk_42_method_3_code 2 = .ok (.iconst 0, 1) := by decide +kernel
theorem d_m38_3 : decode jdk_42_method_3_code 3 = .ok (.aload_n 1, 1) := by decide +kernel
theorem d_m38_4 : decode jdk_42_method_3_code 4 = .ok (.arraylength, 1) := by decide +kernel
theorem d_m38_5 : decode jdk_42_method_3_code 5 = .ok (.aconst_null, 1) := by decide +kernel
theorem d_m38_6 : decode jdk_42_method_3_code 6 = .ok (.invokespecial 27, 3) := by decide +kernel
theorem d_m38_9 : decode jdk_42_method_3_code 9 = .ok (.return_, 1) := by decide +kernel
theorem ef_initE1 (m : MethodId) (x0 : Addr) (x1 : Addr) : entryFrame m #[(.ref x0), (.ref x1)] 2 = mkF m 0 #[.val (.ref x0), .val (.ref x1)] [] := by first | (simp [entryFrame, mkF, argsToLocals, Value.category]; done) | rfl
def Q_initE1 (Z : State) (r0 : Addr) (r1 : Addr) (kA : ClassId) (h0 : Heap) (n0 : Nat) (v : Option Value) (h : Heap) (L : List Loc) : Prop := ∃ (xb : Addr) (xk : ClassId), v = none ∧ Fr n0 L ∧ Keep h0 h [r0] ∧ Exa Z h r0 "java/lang/String" ∧ f1 Z h r0 (.ref xb) ∧ f0 Z h r0 (.int (nar .byte (0 : Int32))) ∧ Arv Z h xb xk .byte (0 : Int32) [] (.int (0 : Int32))
set_option maxRecDepth 65536 in
set_option maxHeartbeats 40000000 in
theorem rm_initE1 (l : Launch) (Z : State) (a0 : Array Value) (hw : HW a0 Z) (ws : List Jvm.Cond) (r0 : Addr) (r1 : Addr) (kA : ClassId) (h0 : Heap) (n0 : Nat) (Z0 : n0 ≤ h0.size) (F_value : f1 Z h0 r0 .null) (F_coder : f0 Z h0 r0 (.int (0 : Int32))) (E_r0 : Exa Z h0 r0 "java/lang/String") (V_A : Arv Z h0 r1 kA .char (0 : Int32) [] (.int (0 : Int32))) (g_r0 : n0 ≤ r0) :
    MetFree l (⟨"java/lang/String", "<init>", "([C)V"⟩ : MethodName) (head1 (Jvm.Cond.code (⟨"java/lang/String", "<init>", "([C)V"⟩ : MethodName) jdk_42_method_3_code 2 none :: ws) (rR 2 2 4 29)) (fun a U => a = #[(.ref r0), (.ref r1)] ∧ Z.Warmed39 U.vm ∧ U.heap = h0 ∧ CHv Z own_ELs U.vm h0) (fun _ _ _ _ _ => True) (fun _ U o U' => ∃ v L, o = .returned v ∧ Q_initE1 Z r0 r1 kA h0 n0 v U'.heap L ∧ CHr Z own_ELs U.vm U.heap U'.vm U'.heap ∧ ReturnedEndW U o U' L (rR 2 2 4 29).cells (rR 2 2 4 29).slots) := by
  refine MetFree.of_bodySF (plainFor_of_name pn_2) hisR ?_
  intro p e s m args below meth c s₁ Bd hml0 hP hK
  obtain ⟨rfl, hZ, hh, hCH⟩ := hP
  have hx := Bd.exec
  have hby := Bd.bytes
  have hml : c.maxLocals = 2 := hml0
  have hown : s.vm.findClass "java/lang/String" = some m.cls := findClass_of_methodNamed Bd.named
  have X0 : Stand p l e (rR 2 2 4 29) s m #[(.ref r0), (.ref r1)] below meth c s₁ [] 0 0 := Stand.of_body Bd
  have e0 : s₁.heap = h0 := by rw [← hh, Bd.state]; rfl
  have N0 := Fr.nil n0
  have pre0 : ∀ t, Steps p.tables e below (s₁.setTop (mkF m 0 #[.val (.ref r0), .val (.ref r1)] [])) t → Steps p.tables e below (s₁.setTop (entryFrame m #[(.ref r0), (.ref r1)] 2)) t := fun t k => castTop (ef_initE1 m r0 r1) k
  have CR0 : CHr Z own_ELs s.vm h0 s.vm h0 := CHr.refl hCH
  have k1 : Go p.tables e below (s₁.setTop (mkF m 0 #[.val (.ref r0), .val (.ref r1)] [])) (s₁.setTop (mkF m 4 #[.val (.ref r0), .val (.ref r1)] [(.ref r1), (.int (0 : Int32)), (.ref r1), (.ref r0)])) := by
    intro t ht
    refine XS.aloadN X0.here hx rfl (hb hby d_m38_0) rfl rfl ?_
    refine XS.aloadN X0.here hx rfl (hb hby d_m38_1) rfl rfl ?_
    refine XS.iconst X0.here hx rfl (hb hby d_m38_2) ?_
    refine XS.aloadN X0.here hx rfl (hb hby d_m38_3) rfl rfl ?_
    exact ht
  obtain ⟨cl2, Ar2, q2, S2, M2, H2, G2⟩ := id V_A
  have k3 : Go p.tables e below _ (s₁.setTop (mkF m 6 #[.val (.ref r0), .val (.ref r1)] [.null, (.int (0 : Int32)), (.int (0 : Int32)), (.ref r1), (.ref r0)])) := goT k1 fun t ht => (by
    refine X0.arraylength hx (by rw [e0]; exact Ar2.1) (State.isArrayOf_alike hZ.alike Ar2.2.1) (g := (mkF m 4 #[.val (.ref r0), .val (.ref r1)] [(.ref r1), (.int (0 : Int32)), (.ref r1), (.ref r0)])) rfl rfl (hb hby d_m38_4) _ ?_
    rw [len_of S2 M2]
    refine XS.aconstNull X0.here hx rfl (hb hby d_m38_5) ?_
    exact ht)
  have hS0 : s.Since s.vm 0 := (State.WarmedH.refl s).since 0
  obtain ⟨_, _, ⟨T4, L4, kq4, n4⟩, -, X4, hSn4, hgr4, ⟨Lc4, hQ4, l4, y4, z4, hCr4⟩, st4⟩ := X0.specialBackS hx (y := (⟨"java/lang/String", "<init>", "([CIILjava/lang/Void;)V"⟩ : MethodName)) rfl hown (mvT hZ (own_w hw 170 rfl)) (mvT hZ (own_w hw 171 rfl)) (mvT hZ (own_w hw 172 rfl)) (by decide) (backOfSH (s := s) (vm0 := s.vm) (W := 0) (rm_initE2 l Z a0 hw [] r0 r1 h0 n0 Z0 F_value F_coder E_r0 g_r0) hZ (own_w hw 172 rfl) (own_w hw 2 rfl) (by decide) (by decide) (own_EL hw) hCH) (g := (mkF m 6 #[.val (.ref r0), .val (.ref r1)] [.null, (.int (0 : Int32)), (.int (0 : Int32)), (.ref r1), (.ref r0)])) rfl (by rw [hml]; rfl) (Steps.refl _) (a := r0) (argsL := [(.ref r1), (.int (0 : Int32)), (.int (0 : Int32)), .null]) (rest := []) (lenOf pd_24 rfl) rfl (by show 2 * 0 + _ ≤ _; exact Nat.le_of_eq rfl) (hb hby d_m38_6) (fun _ _ => ⟨rfl, e0, (by decide : 0 + 2 ≤ _), (by decide : 0 + 4 ≤ _)⟩)
  dsimp only [Pt.U, Pt.locs, Pt.cells, Pt.slots] at X4 l4 y4 z4 st4 hQ4 hSn4 hgr4 hCr4
  subst l4 y4 z4
  obtain ⟨X4, hS4, hZ, hown⟩ := rebS (s := s) (vm0 := s.vm) hS0 (Nat.zero_le _) X4 hSn4 (Nat.zero_le _) hZ hown
  obtain ⟨xb_4, xk_4, rfl, N4q, K4, Fq4_0, Fq4_1, Fq4_2, Fq4_3⟩ := hQ4
  have N4 := Fr.app N0 N4q
  have k4 : Go p.tables e below _ (T4.setTop (mkF m 9 #[.val (.ref r0), .val (.ref r1)] [])) := fun _ ht => st4.trans ht
  have Kp4 : Keep h0 T4.heap [r0] := (Keep.refl h0 [r0]).trans K4 (allS (Or.inl (by simp)) all0)
  have CR4 : CHr Z own_ELs s.vm h0 T4.vm T4.heap := CR0.trans hCr4
  obtain ⟨fs, hr, hrun, hended, hW⟩ := X4.leaveW (s := s) hS4 (Nat.le_refl _) (v := none) (fun _ => rfl)
  refine ⟨_, _, pre0 _ ((goT k3 k4) _ (X4.returnOut hx Bd.returns (hb hby d_m38_9) hr)), hrun, hended, _, _, rfl, ?_, ?_, hW.1, hW.2.1, hW.2.2.1, hW.2.2.2.mono (by decide) (by decide)⟩
  · show Q_initE1 Z r0 r1 kA h0 n0 _ T4.heap _
    exact ⟨xb_4, xk_4, rfl, N4, Kp4, Fq4_0, Fq4_1, Fq4_2, Fq4_3⟩
  · have hcc := CR4.trans (CHv.at (s := s) (vm0 := T4.vm) X4 hZ (own_EL hw) CR4.1)
    rw [hh]
    show CHr Z own_ELs s.vm h0 T4.vm T4.heap
    exact hcc
theorem d_m39_3 : decode jdk_52_method_21_code 3 = .ok (.iload 5, 2) := by decide +kernel
theorem d_m39_5 : decode jdk_52_method_21_code 5 = .ok (.iload 4, 2) := by decide +kernel
theorem d_m39_7 : decode jdk_52_method_21_code 7 = .ok (.if_icmp .ge 37, 3) := by decide +kernel
theorem d_m39_10 : decode jdk_52_method_21_code 10 = .ok (.aload_n 0, 1) := by decide +kernel
theorem d_m39_11 : decode jdk_52_method_21_code 11 = .ok (.iload_n 1, 1) := by decide +kernel
theorem d_m39_12 : decode jdk_52_method_21_code 12 = .ok (.caload, 1) := by decide +kernel
theorem d_m39_13 : decode jdk_52_method_21_code 13 = .ok (.istore 6, 2) := by decide +kernel
theorem d_m39_15 : decode jdk_52_method_21_code 15 = .ok (.iload 6, 2) := by decide +kernel
theorem d_m39_17 : decode jdk_52_method_21_code 17 = .ok (.sipush 255, 3) := by decide +kernel
theorem d_m39_20 : decode jdk_52_method_21_code 20 = .ok (.if_icmp .le 6, 3) := by decide +kernel
theorem d_m39_26 : decode jdk_52_method_21_code 26 = .ok (.aload_n 2, 1) := by decide +kernel
theorem d_m39_27 : decode jdk_52_method_21_code 27 = .ok (.iload_n 3, 1) := by decide +kernel
theorem d_m39_28 : decode jdk_52_method_21_code 28 = .ok (.iload 6, 2) := by decide +kernel
theorem d_m39_30 : decode jdk_52_method_21_code 30 = .ok (.i2b, 1) := by decide +kernel
theorem d_m39_31 : decode jdk_52_method_21_code 31 = .ok (.bastore, 1) := by decide +kernel
theorem d_m39_32 : decode jdk_52_method_21_code 32 = .ok (.iinc 1 1, 3) := by decide +kernel
theorem d_m39_35 : decode jdk_52_method_21_code 35 = .ok (.iinc 3 1, 3) := by decide +kernel
theorem d_m39_38 : decode jdk_52_method_21_code 38 = .ok (.iinc 5 1, 3) := by decide +kernel
theorem d_m39_41 : decode jdk_52_method_21_code 41 = .ok (.goto (-38), 3) := by decide +kernel
set_option maxRecDepth 65536 in
set_option maxHeartbeats 40000000 in
theorem pc_cmp {p : Program} {l : Launch} {e : Env} {s : State} {m : MethodId} {below : List Frame} {meth : Method} {c : Code} {T0 : State} {locs : List Loc} {Z : State} {a0 : Array Value} {h0 : Heap} {n0 : Nat} (r0 r2 : Addr) (ka kb : ClassId) (cs ls : List Int32) (n i : Nat) (x6 : Slot)
    (X0 : Stand p l e (rR 0 0 0 0) s m #[(.ref r0), (.int (0 : Int32)), (.ref r2), (.int (0 : Int32)), (.int (Int32.ofNat n))] below meth c T0 locs 0 0) (hx : p.tables.exec = Jvm.exec) (hZ : Z.Warmed39 s.vm) (hw : HW a0 Z) (hby : c.code = jdk_52_method_21_code) (hml : c.maxLocals = 7) (hown : s.vm.findClass "java/lang/StringUTF16" = some m.cls) (e0 : T0.heap = h0) (N0 : Fr n0 locs) (Z0 : n0 ≤ h0.size) (Va : own_A Z h0 r0 ka .char (Int32.ofNat n) cs) (Vb : own_A Z h0 r2 kb .byte (Int32.ofNat n) ls) (g_r2 : n0 ≤ r2) (hne : r0 ≠ r2) (hi : i < n) (hn : n ≤ 24) (hll : ls.length = n) (hlo : ¬ (255 : Int32) < (cs.getD i 0)) (h6 : One x6) :
    ∃ (T' : State) (L' : List Loc), Stand p l e (rR 0 0 0 0) s m #[(.ref r0), (.int (0 : Int32)), (.ref r2), (.int (0 : Int32)), (.int (Int32.ofNat n))] below meth c T' L' 0 0 ∧ Fr n0 L' ∧ Keep h0 T'.heap [r2] ∧ own_A Z T'.heap r2 kb .byte (Int32.ofNat n) (ls.set (i) (nar .byte ((cs.getD i 0).toInt8.toInt32))) ∧ Go p.tables e below (T0.setTop (mkF m 3 #[.val (.ref r0), .val (.int (Int32.ofNat i)), .val (.ref r2), .val (.int (Int32.ofNat i)), .val (.int (Int32.ofNat n)), .val (.int (Int32.ofNat i)), x6] [])) (T'.setTop (mkF m 3 #[.val (.ref r0), .val (.int (Int32.ofNat (i + 1))), .val (.ref r2), .val (.int (Int32.ofNat (i + 1))), .val (.int (Int32.ofNat n)), .val (.int (Int32.ofNat (i + 1))), .val (.int (cs.getD i 0))] [])) := by
  have k1 : Go p.tables e below (T0.setTop (mkF m 3 #[.val (.ref r0), .val (.int (Int32.ofNat i)), .val (.ref r2), .val (.int (Int32.ofNat i)), .val (.int (Int32.ofNat n)), .val (.int (Int32.ofNat i)), x6] [])) (T0.setTop (mkF m 12 #[.val (.ref r0), .val (.int (Int32.ofNat i)), .val (.ref r2), .val (.int (Int32.ofNat i)), .val (.int (Int32.ofNat n)), .val (.int (Int32.ofNat i)), x6] [(.int (Int32.ofNat i)), (.ref r0)])) := by
    intro t ht
    refine XS.iload X0.here hx rfl (hb hby d_m39_3) rfl ?_
    refine XS.iload X0.here hx rfl (hb hby d_m39_5) rfl ?_
    refine XS.icmpNo X0.here hx rfl (hb hby d_m39_7) rfl (tlt (own_ltk hi (by omega))).2.1 ?_
    refine XS.aloadN X0.here hx rfl (hb hby d_m39_10) rfl rfl ?_
    refine XS.iloadN X0.here hx rfl (hb hby d_m39_11) rfl ?_
    exact ht
  obtain ⟨cl2, Ar2, q2, S2, M2, H2, G2⟩ := id Va
  have hin2 : ¬ ((Int32.ofNat i) < 0 ∨ cl2.slots.size ≤ ((Int32.ofNat i)).toNatClampNeg) := inb_of S2 ⟨own_nneg (by omega), own_ltk hi (by omega)⟩
  have hat2 : cl2.slots[((Int32.ofNat i)).toNatClampNeg]? = some (.int (cs.getD i 0)) := (H2 _ (Nat.lt_of_not_le fun y => hin2 (Or.inr y))).trans (congrArg some (own_getN cs (by omega)))
  have k3 : Go p.tables e below _ (T0.setTop (mkF m 31 #[.val (.ref r0), .val (.int (Int32.ofNat i)), .val (.ref r2), .val (.int (Int32.ofNat i)), .val (.int (Int32.ofNat n)), .val (.int (Int32.ofNat i)), .val (.int (cs.getD i 0))] [(.int ((cs.getD i 0).toInt8.toInt32)), (.int (Int32.ofNat i)), (.ref r2)])) := goT k1 fun t ht => (by
    refine X0.caload hx (j := (Int32.ofNat i)) (v := (.int (cs.getD i 0))) (by rw [e0]; exact Ar2.1) (State.isArrayOf_alike hZ.alike Ar2.2.1) Ar2.2.2 hin2 hat2 (g := (mkF m 12 #[.val (.ref r0), .val (.int (Int32.ofNat i)), .val (.ref r2), .val (.int (Int32.ofNat i)), .val (.int (Int32.ofNat n)), .val (.int (Int32.ofNat i)), x6] [(.int (Int32.ofNat i)), (.ref r0)])) rfl rfl (hb hby d_m39_12) _ ?_
    refine XS.istore X0.here hx rfl (hb hby d_m39_13) rfl (l' := #[.val (.ref r0), .val (.int (Int32.ofNat i)), .val (.ref r2), .val (.int (Int32.ofNat i)), .val (.int (Int32.ofNat n)), .val (.int (Int32.ofNat i)), .val (.int (cs.getD i 0))]) (own_st6 h6) ?_
    refine XS.iload X0.here hx rfl (hb hby d_m39_15) rfl ?_
    refine XS.sipush X0.here hx rfl (hb hby d_m39_17) ?_
    refine XS.icmpYes X0.here hx rfl (pc0 := 20) (pc' := 26) rfl (hb hby d_m39_20) rfl (flt hlo).2.2.2 (by decide) (by decide) ?_
    refine XS.aloadN X0.here hx rfl (hb hby d_m39_26) rfl rfl ?_
    refine XS.iloadN X0.here hx rfl (hb hby d_m39_27) rfl ?_
    refine XS.iload X0.here hx rfl (hb hby d_m39_28) rfl ?_
    refine XS.i2b X0.here hx rfl (hb hby d_m39_30) rfl ?_
    exact ht)
  obtain ⟨cl4, Ar4, q4, S4, M4, H4, G4⟩ := id Vb
  have hin4 : ¬ ((Int32.ofNat i) < 0 ∨ cl4.slots.size ≤ ((Int32.ofNat i)).toNatClampNeg) := inb_of S4 ⟨own_nneg (by omega), own_ltk hi (by omega)⟩
  obtain ⟨T4, h4, X4, e4, W4, st4⟩ := stB X0 hx hZ e0 Ar4 (j := (Int32.ofNat i)) hin4 (g := (mkF m 31 #[.val (.ref r0), .val (.int (Int32.ofNat i)), .val (.ref r2), .val (.int (Int32.ofNat i)), .val (.int (Int32.ofNat n)), .val (.int (Int32.ofNat i)), .val (.int (cs.getD i 0))] [(.int ((cs.getD i 0).toInt8.toInt32)), (.int (Int32.ofNat i)), (.ref r2)])) rfl rfl (hb hby d_m39_31)
  have V4_r2 : Arv Z h4 r2 kb .byte (Int32.ofNat n) ((ls.set (i) (nar .byte ((cs.getD i 0).toInt8.toInt32))).map Value.int) (.int (0 : Int32)) := by rw [List.map_set]; exact Arv.set Ar4 q4 S4 M4 H4 G4 (fits_nar_byte _) W4 (i) (own_clamp (by omega)) (by rw [List.length_map]; omega)
  have Kp4 : Keep h0 h4 [r2] := (Keep.refl h0 [r2]).wr W4 (Or.inl (by simp))
  have N4 := Fr.snoc X4 N0 g_r2
  have k5 : Go p.tables e below _ (T4.setTop (mkF m 35 #[.val (.ref r0), .val (.int ((Int32.ofNat i) + (1 : Int32))), .val (.ref r2), .val (.int (Int32.ofNat i)), .val (.int (Int32.ofNat n)), .val (.int (Int32.ofNat i)), .val (.int (cs.getD i 0))] [])) := fun t ht => st4 t (by
    refine XS.iinc X4.here hx rfl (hb hby d_m39_32) rfl (l' := #[.val (.ref r0), .val (.int ((Int32.ofNat i) + (1 : Int32))), .val (.ref r2), .val (.int (Int32.ofNat i)), .val (.int (Int32.ofNat n)), .val (.int (Int32.ofNat i)), .val (.int (cs.getD i 0))]) rfl ?_
    exact ht)
  have k6 : Go p.tables e below _ (T4.setTop (mkF m 35 #[.val (.ref r0), .val (.int (Int32.ofNat (i + 1))), .val (.ref r2), .val (.int (Int32.ofNat i)), .val (.int (Int32.ofNat n)), .val (.int (Int32.ofNat i)), .val (.int (cs.getD i 0))] [])) := goT k5 (by rw [own_add1]; exact fun _ h => h)
  have k7 : Go p.tables e below _ (T4.setTop (mkF m 38 #[.val (.ref r0), .val (.int (Int32.ofNat (i + 1))), .val (.ref r2), .val (.int ((Int32.ofNat i) + (1 : Int32))), .val (.int (Int32.ofNat n)), .val (.int (Int32.ofNat i)), .val (.int (cs.getD i 0))] [])) := goT k6 fun t ht => (by
    refine XS.iinc X4.here hx rfl (hb hby d_m39_35) rfl (l' := #[.val (.ref r0), .val (.int (Int32.ofNat (i + 1))), .val (.ref r2), .val (.int ((Int32.ofNat i) + (1 : Int32))), .val (.int (Int32.ofNat n)), .val (.int (Int32.ofNat i)), .val (.int (cs.getD i 0))]) rfl ?_
    exact ht)
  have k8 : Go p.tables e below _ (T4.setTop (mkF m 38 #[.val (.ref r0), .val (.int (Int32.ofNat (i + 1))), .val (.ref r2), .val (.int (Int32.ofNat (i + 1))), .val (.int (Int32.ofNat n)), .val (.int (Int32.ofNat i)), .val (.int (cs.getD i 0))] [])) := goT k7 (by rw [own_add1]; exact fun _ h => h)
  have k9 : Go p.tables e below _ (T4.setTop (mkF m 41 #[.val (.ref r0), .val (.int (Int32.ofNat (i + 1))), .val (.ref r2), .val (.int (Int32.ofNat (i + 1))), .val (.int (Int32.ofNat n)), .val (.int ((Int32.ofNat i) + (1 : Int32))), .val (.int (cs.getD i 0))] [])) := goT k8 fun t ht => (by
    refine XS.iinc X4.here hx rfl (hb hby d_m39_38) rfl (l' := #[.val (.ref r0), .val (.int (Int32.ofNat (i + 1))), .val (.ref r2), .val (.int (Int32.ofNat (i + 1))), .val (.int (Int32.ofNat n)), .val (.int ((Int32.ofNat i) + (1 : Int32))), .val (.int (cs.getD i 0))]) rfl ?_
    exact ht)
  have k10 : Go p.tables e below _ (T4.setTop (mkF m 41 #[.val (.ref r0), .val (.int (Int32.ofNat (i + 1))), .val (.ref r2), .val (.int (Int32.ofNat (i + 1))), .val (.int (Int32.ofNat n)), .val (.int (Int32.ofNat (i + 1))), .val (.int (cs.getD i 0))] [])) := goT k9 (by rw [own_add1]; exact fun _ h => h)
  have k11 : Go p.tables e below _ (T4.setTop (mkF m 3 #[.val (.ref r0), .val (.int (Int32.ofNat (i + 1))), .val (.ref r2), .val (.int (Int32.ofNat (i + 1))), .val (.int (Int32.ofNat n)), .val (.int (Int32.ofNat (i + 1))), .val (.int (cs.getD i 0))] [])) := goT k10 fun t ht => (by
    refine XS.goto X4.here hx rfl (pc0 := 41) (pc' := 3) rfl (hb hby d_m39_41) (by decide) (by decide) ?_
    exact ht)
  exact ⟨T4, _, X4, N4, (by rw [e4]; exact Kp4), (by rw [e4]; exact V4_r2), (goT k3 k11)⟩
theorem lp_cmp {p : Program} {l : Launch} {e : Env} {s : State} {m : MethodId} {below : List Frame} {meth : Method} {c : Code} {Z : State} {a0 : Array Value} {n0 : Nat} (r0 r2 : Addr) (ka kb : ClassId) (cs : List Int32) (n j : Nat) (hx : p.tables.exec = Jvm.exec) (hZ : Z.Warmed39 s.vm) (hw : HW a0 Z) (hby : c.code = jdk_52_method_21_code) (hml : c.maxLocals = 7) (hown : s.vm.findClass "java/lang/StringUTF16" = some m.cls) (g_r2 : n0 ≤ r2) (hne : r0 ≠ r2) (hn : n ≤ 24) (hj : j ≤ n) (hlo : ∀ i, i < j → ¬ (255 : Int32) < (cs.getD i 0)) (r : Nat) :
    ∀ (i : Nat) (ls : List Int32) (h0 : Heap) (T0 : State) (locs : List Loc) (x6 : Slot) (_ : Stand p l e (rR 0 0 0 0) s m #[(.ref r0), (.int (0 : Int32)), (.ref r2), (.int (0 : Int32)), (.int (Int32.ofNat n))] below meth c T0 locs 0 0) (_ : T0.heap = h0) (_ : Fr n0 locs) (_ : n0 ≤ h0.size) (_ : own_A Z h0 r0 ka .char (Int32.ofNat n) cs) (_ : own_A Z h0 r2 kb .byte (Int32.ofNat n) ls) (_ : ls.length = n) (_ : One x6) (_ : i + r = j),
    ∃ (T' : State) (L' : List Loc) (y6 : Slot), Stand p l e (rR 0 0 0 0) s m #[(.ref r0), (.int (0 : Int32)), (.ref r2), (.int (0 : Int32)), (.int (Int32.ofNat n))] below meth c T' L' 0 0 ∧ One y6 ∧ Fr n0 L' ∧ Keep h0 T'.heap [r2] ∧ own_A Z T'.heap r2 kb .byte (Int32.ofNat n) (own_cmp cs r i ls) ∧ Go p.tables e below (T0.setTop (mkF m 3 #[.val (.ref r0), .val (.int (Int32.ofNat i)), .val (.ref r2), .val (.int (Int32.ofNat i)), .val (.int (Int32.ofNat n)), .val (.int (Int32.ofNat i)), x6] [])) (T'.setTop (mkF m 3 #[.val (.ref r0), .val (.int (Int32.ofNat j)), .val (.ref r2), .val (.int (Int32.ofNat j)), .val (.int (Int32.ofNat n)), .val (.int (Int32.ofNat j)), y6] [])) := by
  induction r with
  | zero =>
    intro i ls h0 T0 locs x6 X0 e0 N0 Z0 Va Vb hll h6 hir
    obtain rfl : i = j := by omega
    exact ⟨T0, locs, x6, X0, h6, N0, by rw [e0]; exact Keep.refl _ _, by rw [e0]; exact Vb, fun _ h => h⟩
  | succ r ih =>
    intro i ls h0 T0 locs x6 X0 e0 N0 Z0 Va Vb hll h6 hir
    obtain ⟨T1, L1, X1, N1, K1, V1, k1⟩ := pc_cmp r0 r2 ka kb cs ls n i x6 X0 hx hZ hw hby hml hown e0 N0 Z0 Va Vb g_r2 hne (by omega) hn hll (hlo i (by omega)) h6
    obtain ⟨T2, L2, y6, X2, O2, N2, K2, V2, k2⟩ := ih (i + 1) _ T1.heap T1 L1 (.val (.int (cs.getD i 0))) X1 rfl N1 (Nat.le_trans Z0 K1.1) (Va.keep K1 (ninS hne nin0)) V1 (by simpa using hll) (One.val rfl) (by omega)
    exact ⟨T2, L2, y6, X2, O2, N2, K1.trans K2 (fun x hx => Or.inl hx), V2, goT k1 k2⟩
theorem d_m39_0 : decode jdk_52_method_21_code 0 = .ok (.iconst 0, 1) := by decide +kernel
theorem d_m39_1 : decode jdk_52_method_21_code 1 = .ok (.istore 5, 2) := by decide +kernel
theorem d_m39_23 : decode jdk_52_method_21_code 23 = .ok (.iload 5, 2) := by decide +kernel
theorem d_m39_25 : decode jdk_52_method_21_code 25 = .ok (.ireturn, 1) := by decide +kernel
theorem d_m39_44 : decode jdk_52_method_21_code 44 = .ok (.iload 4, 2) := by decide +kernel
theorem d_m39_46 : decode jdk_52_method_21_code 46 = .ok (.ireturn, 1) := by decide +kernel
theorem ef_cmpW (m : MethodId) (x0 : Addr) (x2 : Addr) (x4 : Int32) : entryFrame m #[(.ref x0), (.int (0 : Int32)), (.ref x2), (.int (0 : Int32)), (.int x4)] 7 = mkF m 0 #[.val (.ref x0), .val (.int (0 : Int32)), .val (.ref x2), .val (.int (0 : Int32)), .val (.int x4), .unset, .unset] [] := by first | (simp [entryFrame, mkF, argsToLocals, Value.category]; done) | rfl
def Q_cmpW (Z : State) (r0 : Addr) (r2 : Addr) (n : Nat) (ka : ClassId) (kb : ClassId) (cs : List Int32) (ls : List Int32) (h0 : Heap) (n0 : Nat) (v : Option Value) (h : Heap) (L : List Loc) : Prop := v = some (.int (Int32.ofNat (own_j cs))) ∧ Fr n0 L ∧ Keep h0 h [r2] ∧ own_A Z h r2 kb .byte (Int32.ofNat n) (own_cmp cs (own_j cs) 0 ls)
set_option maxRecDepth 65536 in
set_option maxHeartbeats 40000000 in
theorem rm_cmpW (l : Launch) (Z : State) (a0 : Array Value) (hw : HW a0 Z) (ws : List Jvm.Cond) (r0 : Addr) (r2 : Addr) (n : Nat) (ka : ClassId) (kb : ClassId) (cs : List Int32) (ls : List Int32) (h0 : Heap) (n0 : Nat) (Z0 : n0 ≤ h0.size) (Va : own_A Z h0 r0 ka .char (Int32.ofNat n) cs) (Vb : own_A Z h0 r2 kb .byte (Int32.ofNat n) ls) (g_r2 : n0 ≤ r2) (hne : r0 ≠ r2) (hn : n = cs.length ∧ n ≤ 24) (hll : ls.length = n) :
    own_M l Z h0 (⟨"java/lang/StringUTF16", "compress", "([CI[BII)I"⟩ : MethodName) jdk_52_method_21_code 7 (some .int) ws (rR 0 0 0 0) #[(.ref r0), (.int (0 : Int32)), (.ref r2), (.int (0 : Int32)), (.int (Int32.ofNat n))] (Q_cmpW Z r0 r2 n ka kb cs ls h0 n0) := by
  refine own_body (own := "java/lang/StringUTF16") (plainFor_of_name pn_0) rfl ?_
  intro p e s m below meth c s₁ Bd hZ hh hx hby hml hown X0 e0
  have N0 := Fr.nil n0
  have k1 : Go p.tables e below (s₁.setTop (mkF m 0 #[.val (.ref r0), .val (.int (0 : Int32)), .val (.ref r2), .val (.int (0 : Int32)), .val (.int (Int32.ofNat n)), .unset, .unset] [])) (s₁.setTop (mkF m 3 #[.val (.ref r0), .val (.int (0 : Int32)), .val (.ref r2), .val (.int (0 : Int32)), .val (.int (Int32.ofNat n)), .val (.int (0 : Int32)), .unset] [])) := by
    intro t ht
    refine XS.iconst X0.here hx rfl (hb hby d_m39_0) ?_
    refine XS.istore X0.here hx rfl (hb hby d_m39_1) rfl (l' := #[.val (.ref r0), .val (.int (0 : Int32)), .val (.ref r2), .val (.int (0 : Int32)), .val (.int (Int32.ofNat n)), .val (.int (0 : Int32)), .unset]) rfl ?_
    exact ht
  obtain ⟨T2, L2, y6_2, X2, O2, N2, K2, V2, st2⟩ := lp_cmp r0 r2 ka kb cs n (own_j cs) hx hZ hw hby hml hown g_r2 hne hn.2 (by have := own_jle cs; omega) (fun i hi => own_jlt hi) (own_j cs) 0 ls h0 s₁ _ .unset X0 e0 N0 Z0 Va Vb hll One.u (by omega)
  have Kp2 : Keep h0 T2.heap [r2] := (Keep.refl h0 [r2]).trans K2 (allS (Or.inl (by simp)) all0)
  have Va_c_2 := Va.keep K2 (ninS hne nin0)
  by_cases hc3 : own_j cs < n
  · have k4 : Go p.tables e below _ (T2.setTop (mkF m 12 #[.val (.ref r0), .val (.int (Int32.ofNat (own_j cs))), .val (.ref r2), .val (.int (Int32.ofNat (own_j cs))), .val (.int (Int32.ofNat n)), .val (.int (Int32.ofNat (own_j cs))), y6_2] [(.int (Int32.ofNat (own_j cs))), (.ref r0)])) := goT st2 fun t ht => (by
      refine XS.iload X2.here hx rfl (hb hby d_m39_3) rfl ?_
      refine XS.iload X2.here hx rfl (hb hby d_m39_5) rfl ?_
      refine XS.icmpNo X2.here hx rfl (hb hby d_m39_7) rfl (tlt (own_ltk hc3 (by omega))).2.1 ?_
      refine XS.aloadN X2.here hx rfl (hb hby d_m39_10) rfl rfl ?_
      refine XS.iloadN X2.here hx rfl (hb hby d_m39_11) rfl ?_
      exact ht)
    obtain ⟨cl5, Ar5, q5, S5, M5, H5, G5⟩ := id Va_c_2
    have hin5 : ¬ ((Int32.ofNat (own_j cs)) < 0 ∨ cl5.slots.size ≤ ((Int32.ofNat (own_j cs))).toNatClampNeg) := inb_of S5 ⟨own_nneg (by omega), own_ltk hc3 (by omega)⟩
    have hat5 : cl5.slots[((Int32.ofNat (own_j cs))).toNatClampNeg]? = some (.int (cs.getD (own_j cs) 0)) := (H5 _ (Nat.lt_of_not_le fun y => hin5 (Or.inr y))).trans (congrArg some (own_getN cs (by omega)))
    have k6 : Go p.tables e below _ (T2.setTop (mkF m 25 #[.val (.ref r0), .val (.int (Int32.ofNat (own_j cs))), .val (.ref r2), .val (.int (Int32.ofNat (own_j cs))), .val (.int (Int32.ofNat n)), .val (.int (Int32.ofNat (own_j cs))), .val (.int (cs.getD (own_j cs) 0))] [(.int (Int32.ofNat (own_j cs)))])) := goT k4 fun t ht => (by
      refine X2.caload hx (j := (Int32.ofNat (own_j cs))) (v := (.int (cs.getD (own_j cs) 0))) Ar5.1 (State.isArrayOf_alike hZ.alike Ar5.2.1) Ar5.2.2 hin5 hat5 (g := (mkF m 12 #[.val (.ref r0), .val (.int (Int32.ofNat (own_j cs))), .val (.ref r2), .val (.int (Int32.ofNat (own_j cs))), .val (.int (Int32.ofNat n)), .val (.int (Int32.ofNat (own_j cs))), y6_2] [(.int (Int32.ofNat (own_j cs))), (.ref r0)])) rfl rfl (hb hby d_m39_12) _ ?_
      refine XS.istore X2.here hx rfl (hb hby d_m39_13) rfl (l' := #[.val (.ref r0), .val (.int (Int32.ofNat (own_j cs))), .val (.ref r2), .val (.int (Int32.ofNat (own_j cs))), .val (.int (Int32.ofNat n)), .val (.int (Int32.ofNat (own_j cs))), .val (.int (cs.getD (own_j cs) 0))]) (own_st6 O2) ?_
      refine XS.iload X2.here hx rfl (hb hby d_m39_15) rfl ?_
      refine XS.sipush X2.here hx rfl (hb hby d_m39_17) ?_
      refine XS.icmpNo X2.here hx rfl (hb hby d_m39_20) rfl (tlt (own_jgt (by rw [← hn.1]; exact hc3))).2.2.2 ?_
      refine XS.iload X2.here hx rfl (hb hby d_m39_23) rfl ?_
      exact ht)
    obtain ⟨fs, hr, hrun, hended, hW, hsame⟩ := X2.leave (v := some (.int (Int32.ofNat (own_j cs)))) (fun h => by rw [Bd.returns] at h; cases h)
    refine ⟨_, _, castTop (ef_cmpW m r0 r2 (Int32.ofNat n)) ((goT k1 k6) _ (retI X2 hx Bd.returns (hb hby d_m39_25) hr)), hrun, hended, _, _, rfl, ?_, ⟨_, rfl⟩, hW, hsame.mono (by decide) (by decide)⟩
    show Q_cmpW Z r0 r2 n ka kb cs ls h0 n0 _ T2.heap _
    exact ⟨rfl, N2, Kp2, V2⟩
  · have k7 : Go p.tables e below _ (T2.setTop (mkF m 46 #[.val (.ref r0), .val (.int (Int32.ofNat (own_j cs))), .val (.ref r2), .val (.int (Int32.ofNat (own_j cs))), .val (.int (Int32.ofNat n)), .val (.int (Int32.ofNat (own_j cs))), y6_2] [(.int (Int32.ofNat n))])) := goT st2 fun t ht => (by
      refine XS.iload X2.here hx rfl (hb hby d_m39_3) rfl ?_
      refine XS.iload X2.here hx rfl (hb hby d_m39_5) rfl ?_
      refine XS.icmpYes X2.here hx rfl (pc0 := 7) (pc' := 44) rfl (hb hby d_m39_7) rfl (flt (own_nlt hc3 (by have := own_jle cs; omega) (by omega))).2.1 (by decide) (by decide) ?_
      refine XS.iload X2.here hx rfl (hb hby d_m39_44) rfl ?_
      exact ht)
    obtain ⟨fs, hr, hrun, hended, hW, hsame⟩ := X2.leave (v := some (.int (Int32.ofNat n))) (fun h => by rw [Bd.returns] at h; cases h)
    refine ⟨_, _, castTop (ef_cmpW m r0 r2 (Int32.ofNat n)) ((goT k1 k7) _ (retI X2 hx Bd.returns (hb hby d_m39_46) hr)), hrun, hended, _, _, rfl, ?_, ⟨_, rfl⟩, hW, hsame.mono (by decide) (by decide)⟩
    show Q_cmpW Z r0 r2 n ka kb cs ls h0 n0 _ T2.heap _
    exact ⟨congrArg (fun z => some (Value.int (Int32.ofNat z))) (own_jeq hn.1 hc3), N2, Kp2, V2⟩
theorem d_m40_8 : decode jdk_52_method_14_code 8 = .ok (.iload 4, 2) := by decide +kernel
theorem d_m40_10 : decode jdk_52_method_14_code 10 = .ok (.iload_n 2, 1) := by decide +kernel
theorem d_m40_11 : decode jdk_52_method_14_code 11 = .ok (.if_icmp .ge 21, 3) := by decide +kernel
theorem d_m40_14 : decode jdk_52_method_14_code 14 = .ok (.aload_n 3, 1) := by decide +kernel
theorem d_m40_15 : decode jdk_52_method_14_code 15 = .ok (.iload 4, 2) := by decide +kernel
theorem d_m40_17 : decode jdk_52_method_14_code 17 = .ok (.aload_n 0, 1) := by decide +kernel
theorem d_m40_18 : decode jdk_52_method_14_code 18 = .ok (.iload_n 1, 1) := by decide +kernel
theorem d_m40_19 : decode jdk_52_method_14_code 19 = .ok (.caload, 1) := by decide +kernel
theorem d_m40_20 : decode jdk_52_method_14_code 20 = .ok (.invokestatic 111, 3) := by decide +kernel
theorem d_m40_23 : decode jdk_52_method_14_code 23 = .ok (.iinc 1 1, 3) := by decide +kernel
theorem d_m40_26 : decode jdk_52_method_14_code 26 = .ok (.iinc 4 1, 3) := by decide +kernel
theorem d_m40_29 : decode jdk_52_method_14_code 29 = .ok (.goto (-21), 3) := by decide +kernel
set_option maxRecDepth 65536 in
set_option maxHeartbeats 40000000 in
theorem pc_tob {p : Program} {l : Launch} {e : Env} {s : State} {m : MethodId} {below : List Frame} {meth : Method} {c : Code} {T0 : State} {locs : List Loc} {Z : State} {a0 : Array Value} {h0 : Heap} {n0 : Nat} (r0 r3 : Addr) (ka kb : ClassId) (cs ls : List Int32) (n i : Nat)
    (X0 : Stand p l e (rR 3 1 48 60) s m #[(.ref r0), (.int (0 : Int32)), (.int (Int32.ofNat n))] below meth c T0 locs 1 48) (hx : p.tables.exec = Jvm.exec) (hZ : Z.Warmed39 s.vm) (hw : HW a0 Z) (hby : c.code = jdk_52_method_14_code) (hml : c.maxLocals = 5) (hown : s.vm.findClass "java/lang/StringUTF16" = some m.cls) (e0 : T0.heap = h0) (N0 : Fr n0 locs) (Z0 : n0 ≤ h0.size) (S_AD : f8 Z h0 (.int (1 : Int32))) (S_HI : f9 Z h0 (.int (0 : Int32))) (S_LO : f10 Z h0 (.int (8 : Int32))) (Va : own_A Z h0 r0 ka .char (Int32.ofNat n) cs) (Vb : own_A Z h0 r3 kb .byte (Int32.ofNat (2 * n)) ls) (g_r3 : n0 ≤ r3) (hne : r0 ≠ r3) (hi : i < n) (hn : n ≤ 24) (hll : ls.length = 2 * n) :
    ∃ (T' : State) (L' : List Loc), Stand p l e (rR 3 1 48 60) s m #[(.ref r0), (.int (0 : Int32)), (.int (Int32.ofNat n))] below meth c T' L' 1 48 ∧ Fr n0 L' ∧ Keep h0 T'.heap [r3] ∧ own_A Z T'.heap r3 kb .byte (Int32.ofNat (2 * n)) ((ls.set (2 * i) (own_ul (cs.getD i 0))).set (2 * i + 1) (own_uh (cs.getD i 0))) ∧ Go p.tables e below (T0.setTop (mkF m 8 #[.val (.ref r0), .val (.int (Int32.ofNat i)), .val (.int (Int32.ofNat n)), .val (.ref r3), .val (.int (Int32.ofNat i))] [])) (T'.setTop (mkF m 8 #[.val (.ref r0), .val (.int (Int32.ofNat (i + 1))), .val (.int (Int32.ofNat n)), .val (.ref r3), .val (.int (Int32.ofNat (i + 1)))] [])) := by
  have k1 : Go p.tables e below (T0.setTop (mkF m 8 #[.val (.ref r0), .val (.int (Int32.ofNat i)), .val (.int (Int32.ofNat n)), .val (.ref r3), .val (.int (Int32.ofNat i))] [])) (T0.setTop (mkF m 19 #[.val (.ref r0), .val (.int (Int32.ofNat i)), .val (.int (Int32.ofNat n)), .val (.ref r3), .val (.int (Int32.ofNat i))] [(.int (Int32.ofNat i)), (.ref r0), (.int (Int32.ofNat i)), (.ref r3)])) := by
    intro t ht
    refine XS.iload X0.here hx rfl (hb hby d_m40_8) rfl ?_
    refine XS.iloadN X0.here hx rfl (hb hby d_m40_10) rfl ?_
    refine XS.icmpNo X0.here hx rfl (hb hby d_m40_11) rfl (tlt (own_ltk hi (by omega))).2.1 ?_
    refine XS.aloadN X0.here hx rfl (hb hby d_m40_14) rfl rfl ?_
    refine XS.iload X0.here hx rfl (hb hby d_m40_15) rfl ?_
    refine XS.aloadN X0.here hx rfl (hb hby d_m40_17) rfl rfl ?_
    refine XS.iloadN X0.here hx rfl (hb hby d_m40_18) rfl ?_
    exact ht
  obtain ⟨cl2, Ar2, q2, S2, M2, H2, G2⟩ := id Va
  have hin2 : ¬ ((Int32.ofNat i) < 0 ∨ cl2.slots.size ≤ ((Int32.ofNat i)).toNatClampNeg) := inb_of S2 ⟨own_nneg (by omega), own_ltk hi (by omega)⟩
  have hat2 : cl2.slots[((Int32.ofNat i)).toNatClampNeg]? = some (.int (cs.getD i 0)) := (H2 _ (Nat.lt_of_not_le fun y => hin2 (Or.inr y))).trans (congrArg some (own_getN cs (by omega)))
  have k3 : Go p.tables e below _ (T0.setTop (mkF m 20 #[.val (.ref r0), .val (.int (Int32.ofNat i)), .val (.int (Int32.ofNat n)), .val (.ref r3), .val (.int (Int32.ofNat i))] [(.int (cs.getD i 0)), (.int (Int32.ofNat i)), (.ref r3)])) := goT k1 fun t ht => (by
    refine X0.caload hx (j := (Int32.ofNat i)) (v := (.int (cs.getD i 0))) (by rw [e0]; exact Ar2.1) (State.isArrayOf_alike hZ.alike Ar2.2.1) Ar2.2.2 hin2 hat2 (g := (mkF m 19 #[.val (.ref r0), .val (.int (Int32.ofNat i)), .val (.int (Int32.ofNat n)), .val (.ref r3), .val (.int (Int32.ofNat i))] [(.int (Int32.ofNat i)), (.ref r0), (.int (Int32.ofNat i)), (.ref r3)])) rfl rfl (hb hby d_m40_19) _ ?_
    exact ht)
  have rq4 := Jvm.LawKit.callS X0 hx (y := (⟨"java/lang/StringUTF16", "putChar", "([BII)V"⟩ : MethodName)) hown (mvT hZ (own_w hw 221 rfl)) (mvT hZ (own_w hw 222 rfl)) (mvT hZ (own_w hw 175 rfl)) (mvT hZ (own_w hw 223 rfl)) (by decide) (backOf (W := 0) (rm_putC l Z a0 hw [] r3 i (cs.getD i 0) kb (Int32.ofNat (2 * n)) ls h0 n0 Z0 S_AD S_HI S_LO Vb g_r3 (by rw [own_ofNat (by omega)]; omega : ((2 * i + 1 : Nat) : Int) < (Int32.ofNat (2 * n)).toInt) (by omega : 2 * i + 1 < ls.length) (by omega : i ≤ 64)) hZ (own_w hw 223 rfl) (own_w hw 175 rfl) (by decide) (by decide)) (g := (mkF m 20 #[.val (.ref r0), .val (.int (Int32.ofNat i)), .val (.int (Int32.ofNat n)), .val (.ref r3), .val (.int (Int32.ofNat i))] [(.int (cs.getD i 0)), (.int (Int32.ofNat i)), (.ref r3)])) rfl (by rw [hml]; rfl) (argsL := [(.ref r3), (.int (Int32.ofNat i)), (.int (cs.getD i 0))]) (rest := []) (lenOf pd_4 rfl) rfl (by show 2 * 0 + _ ≤ _; exact Nat.le_of_eq rfl) (hb hby d_m40_20) (fun _ _ => ⟨rfl, e0, (by decide : 1 + 0 ≤ _), (by decide : 48 + 0 ≤ _)⟩)
  obtain ⟨_, T4, L4, X4, ⟨rfl, N4q, K4, Fq4_0⟩, st4⟩ := own_rS X0 rq4
  have N4 := Fr.app N0 N4q
  have Kp4 : Keep h0 T4.heap [r3] := (Keep.refl h0 [r3]).trans K4 (allS (Or.inl (by simp)) all0)
  have k5 : Go p.tables e below _ (T4.setTop (mkF m 26 #[.val (.ref r0), .val (.int ((Int32.ofNat i) + (1 : Int32))), .val (.int (Int32.ofNat n)), .val (.ref r3), .val (.int (Int32.ofNat i))] [])) := fun t ht => st4 t (by
    refine XS.iinc X4.here hx rfl (hb hby d_m40_23) rfl (l' := #[.val (.ref r0), .val (.int ((Int32.ofNat i) + (1 : Int32))), .val (.int (Int32.ofNat n)), .val (.ref r3), .val (.int (Int32.ofNat i))]) rfl ?_
    exact ht)
  have k6 : Go p.tables e below _ (T4.setTop (mkF m 26 #[.val (.ref r0), .val (.int (Int32.ofNat (i + 1))), .val (.int (Int32.ofNat n)), .val (.ref r3), .val (.int (Int32.ofNat i))] [])) := goT k5 (by rw [own_add1]; exact fun _ h => h)
  have k7 : Go p.tables e below _ (T4.setTop (mkF m 29 #[.val (.ref r0), .val (.int (Int32.ofNat (i + 1))), .val (.int (Int32.ofNat n)), .val (.ref r3), .val (.int ((Int32.ofNat i) + (1 : Int32)))] [])) := goT k6 fun t ht => (by
    refine XS.iinc X4.here hx rfl (hb hby d_m40_26) rfl (l' := #[.val (.ref r0), .val (.int (Int32.ofNat (i + 1))), .val (.int (Int32.ofNat n)), .val (.ref r3), .val (.int ((Int32.ofNat i) + (1 : Int32)))]) rfl ?_
    exact ht)
  have k8 : Go p.tables e below _ (T4.setTop (mkF m 29 #[.val (.ref r0), .val (.int (Int32.ofNat (i + 1))), .val (.int (Int32.ofNat n)), .val (.ref r3), .val (.int (Int32.ofNat (i + 1)))] [])) := goT k7 (by rw [own_add1]; exact fun _ h => h)
  have k9 : Go p.tables e below _ (T4.setTop (mkF m 8 #[.val (.ref r0), .val (.int (Int32.ofNat (i + 1))), .val (.int (Int32.ofNat n)), .val (.ref r3), .val (.int (Int32.ofNat (i + 1)))] [])) := goT k8 fun t ht => (by
    refine XS.goto X4.here hx rfl (pc0 := 29) (pc' := 8) rfl (hb hby d_m40_29) (by decide) (by decide) ?_
    exact ht)
  exact ⟨T4, _, X4, N4, Kp4, Fq4_0, (goT k3 k9)⟩
theorem lp_tob {p : Program} {l : Launch} {e : Env} {s : State} {m : MethodId} {below : List Frame} {meth : Method} {c : Code} {Z : State} {a0 : Array Value} {n0 : Nat} (r0 r3 : Addr) (ka kb : ClassId) (cs : List Int32) (n : Nat) (hx : p.tables.exec = Jvm.exec) (hZ : Z.Warmed39 s.vm) (hw : HW a0 Z) (hby : c.code = jdk_52_method_14_code) (hml : c.maxLocals = 5) (hown : s.vm.findClass "java/lang/StringUTF16" = some m.cls) (g_r3 : n0 ≤ r3) (hne : r0 ≠ r3) (hn : n ≤ 24) (r : Nat) :
    ∀ (i : Nat) (ls : List Int32) (h0 : Heap) (T0 : State) (locs : List Loc) (_ : Stand p l e (rR 3 1 48 60) s m #[(.ref r0), (.int (0 : Int32)), (.int (Int32.ofNat n))] below meth c T0 locs 1 48) (_ : T0.heap = h0) (_ : Fr n0 locs) (_ : n0 ≤ h0.size) (_ : f8 Z h0 (.int (1 : Int32))) (_ : f9 Z h0 (.int (0 : Int32))) (_ : f10 Z h0 (.int (8 : Int32))) (_ : own_A Z h0 r0 ka .char (Int32.ofNat n) cs) (_ : Arv Z h0 r3 kb .byte (Int32.ofNat (2 * n)) (ls.map Value.int) (.int (0 : Int32))) (_ : ls.length = 2 * n) (_ : i + r = n),
    ∃ (T' : State) (L' : List Loc), Stand p l e (rR 3 1 48 60) s m #[(.ref r0), (.int (0 : Int32)), (.int (Int32.ofNat n))] below meth c T' L' 1 48 ∧ Fr n0 L' ∧ Keep h0 T'.heap [r3] ∧ Arv Z T'.heap r3 kb .byte (Int32.ofNat (2 * n)) ((own_tob cs r i ls).map Value.int) (.int (0 : Int32)) ∧ Go p.tables e below (T0.setTop (mkF m 8 #[.val (.ref r0), .val (.int (Int32.ofNat i)), .val (.int (Int32.ofNat n)), .val (.ref r3), .val (.int (Int32.ofNat i))] [])) (T'.setTop (mkF m 8 #[.val (.ref r0), .val (.int (Int32.ofNat n)), .val (.int (Int32.ofNat n)), .val (.ref r3), .val (.int (Int32.ofNat n))] [])) := by
  induction r with
  | zero =>
    intro i ls h0 T0 locs X0 e0 N0 Z0 S_AD S_HI S_LO Va Vb hll hir
    obtain rfl : i = n := by omega
    exact ⟨T0, locs, X0, N0, by rw [e0]; exact Keep.refl _ _, by rw [e0]; exact Vb, fun _ h => h⟩
  | succ r ih =>
    intro i ls h0 T0 locs X0 e0 N0 Z0 S_AD S_HI S_LO Va Vb hll hir
    obtain ⟨T1, L1, X1, N1, K1, V1, k1⟩ := pc_tob r0 r3 ka kb cs ls n i X0 hx hZ hw hby hml hown e0 N0 Z0 S_AD S_HI S_LO Va Vb g_r3 hne (by omega) hn hll
    obtain ⟨T2, L2, X2, N2, K2, V2, k2⟩ := ih (i + 1) _ T1.heap T1 L1 X1 rfl N1 (Nat.le_trans Z0 K1.1) (own_sta_keepV S_AD Vb K1) (own_sta_keepV S_HI Vb K1) (own_sta_keepV S_LO Vb K1) (Va.keep K1 (ninS hne nin0)) V1 (by simpa using hll) (by omega)
    exact ⟨T2, L2, X2, N2, K1.trans K2 (fun x hx => Or.inl hx), V2, goT k1 k2⟩
theorem d_m40_0 : decode jdk_52_method_14_code 0 = .ok (.iload_n 2, 1) := by decide +kernel
theorem d_m40_1 : decode jdk_52_method_14_code 1 = .ok (.invokestatic 107, 3) := by decide +kernel
theorem d_m40_4 : decode jdk_52_method_14_code 4 = .ok (.astore_n 3, 1) := by decide +kernel
theorem d_m40_5 : decode jdk_52_method_14_code 5 = .ok (.iconst 0, 1) := by decide +kernel
theorem d_m40_6 : decode jdk_52_method_14_code 6 = .ok (.istore 4, 2) := by decide +kernel
theorem d_m40_32 : decode jdk_52_method_14_code 32 = .ok (.aload_n 3, 1) := by decide +kernel
theorem d_m40_33 : decode jdk_52_method_14_code 33 = .ok (.areturn, 1) := by decide +kernel
theorem ef_tobW (m : MethodId) (x0 : Addr) (x2 : Int32) : entryFrame m #[(.ref x0), (.int (0 : Int32)), (.int x2)] 5 = mkF m 0 #[.val (.ref x0), .val (.int (0 : Int32)), .val (.int x2), .unset, .unset] [] := by first | (simp [entryFrame, mkF, argsToLocals, Value.category]; done) | rfl
def Q_tobW (Z : State) (r0 : Addr) (n : Nat) (ka : ClassId) (cs : List Int32) (h0 : Heap) (n0 : Nat) (v : Option Value) (h : Heap) (L : List Loc) : Prop := ∃ (xb : Addr) (xk : ClassId), v = some (.ref xb) ∧ Fr n0 L ∧ Keep h0 h [] ∧ h0.size ≤ xb ∧ own_A Z h xb xk .byte (Int32.ofNat (2 * n)) (own_u cs)
set_option maxRecDepth 65536 in
set_option maxHeartbeats 40000000 in
theorem rm_tobW (l : Launch) (Z : State) (a0 : Array Value) (hw : HW a0 Z) (ws : List Jvm.Cond) (r0 : Addr) (n : Nat) (ka : ClassId) (cs : List Int32) (h0 : Heap) (n0 : Nat) (Z0 : n0 ≤ h0.size) (S_AD : f8 Z h0 (.int (1 : Int32))) (S_HI : f9 Z h0 (.int (0 : Int32))) (S_LO : f10 Z h0 (.int (8 : Int32))) (Va : own_A Z h0 r0 ka .char (Int32.ofNat n) cs) (hn : n = cs.length ∧ n ≤ 24) :
    own_M l Z h0 (⟨"java/lang/StringUTF16", "toBytes", "([CII)[B"⟩ : MethodName) jdk_52_method_14_code 5 (some (.array .byte)) ws (rR 3 1 48 60) #[(.ref r0), (.int (0 : Int32)), (.int (Int32.ofNat n))] (Q_tobW Z r0 n ka cs h0 n0) := by
  refine own_body (own := "java/lang/StringUTF16") (plainFor_of_name pn_0) rfl ?_
  intro p e s m below meth c s₁ Bd hZ hh hx hby hml hown X0 e0
  have N0 := Fr.nil n0
  have k1 : Go p.tables e below (s₁.setTop (mkF m 0 #[.val (.ref r0), .val (.int (0 : Int32)), .val (.int (Int32.ofNat n)), .unset, .unset] [])) (s₁.setTop (mkF m 1 #[.val (.ref r0), .val (.int (0 : Int32)), .val (.int (Int32.ofNat n)), .unset, .unset] [(.int (Int32.ofNat n))])) := by
    intro t ht
    refine XS.iloadN X0.here hx rfl (hb hby d_m40_0) rfl ?_
    exact ht
  have rq2 := Jvm.LawKit.callS X0 hx (y := (⟨"java/lang/StringUTF16", "newBytesFor", "(I)[B"⟩ : MethodName)) hown (mvT hZ (own_w hw 214 rfl)) (mvT hZ (own_w hw 215 rfl)) (mvT hZ (own_w hw 175 rfl)) (mvT hZ (own_w hw 216 rfl)) (by decide) (backOf (W := 0) (rm_nbf l Z a0 hw [] n h0 n0 Z0 (hn.2 : n ≤ 24)) hZ (own_w hw 216 rfl) (own_w hw 175 rfl) (by decide) (by decide)) (g := (mkF m 1 #[.val (.ref r0), .val (.int (0 : Int32)), .val (.int (Int32.ofNat n)), .unset, .unset] [(.int (Int32.ofNat n))])) rfl (by rw [hml]; rfl) (argsL := [(.int (Int32.ofNat n))]) (rest := []) (lenOf pd_11 rfl) rfl (by show 2 * 0 + _ ≤ _; exact Nat.le_of_eq rfl) (hb hby d_m40_1) (fun _ _ => ⟨rfl, e0, (by decide : 0 + 1 ≤ _), (by decide : 0 + 48 ≤ _)⟩)
  obtain ⟨_, T2, L2, X2, ⟨xb_2, xk_2, rfl, N2q, K2, Pq2_0, Fq2_0⟩, st2⟩ := own_rS X0 rq2
  have N2 := Fr.app N0 N2q
  have Kp2 : Keep h0 T2.heap [] := (Keep.refl h0 []).trans K2 all0
  have Z2 : n0 ≤ T2.heap.size := Nat.le_trans Z0 K2.1
  have ne_r0_xb_2 : r0 ≠ xb_2 := Nat.ne_of_lt (Nat.lt_of_lt_of_le Va.lt Pq2_0)
  have g_xb_2 : n0 ≤ xb_2 := Nat.le_trans Z0 Pq2_0
  have sz_xb_2 : h0.size ≤ xb_2 := Nat.le_trans (Keep.refl h0 []).1 Pq2_0
  have S_AD_c_2 := own_sta_keep0 S_AD K2
  have S_HI_c_2 := own_sta_keep0 S_HI K2
  have S_LO_c_2 := own_sta_keep0 S_LO K2
  have Va_c_2 := Va.keep K2 nin0
  have k3 : Go p.tables e below _ (T2.setTop (mkF m 8 #[.val (.ref r0), .val (.int (0 : Int32)), .val (.int (Int32.ofNat n)), .val (.ref xb_2), .val (.int (0 : Int32))] [])) := fun t ht => st2 t (by
    refine XS.astoreN X2.here hx rfl (hb hby d_m40_4) rfl rfl (l' := #[.val (.ref r0), .val (.int (0 : Int32)), .val (.int (Int32.ofNat n)), .val (.ref xb_2), .unset]) rfl ?_
    refine XS.iconst X2.here hx rfl (hb hby d_m40_5) ?_
    refine XS.istore X2.here hx rfl (hb hby d_m40_6) rfl (l' := #[.val (.ref r0), .val (.int (0 : Int32)), .val (.int (Int32.ofNat n)), .val (.ref xb_2), .val (.int (0 : Int32))]) rfl ?_
    exact ht)
  obtain ⟨T4, L4, X4, N4, K4, V4, st4⟩ := lp_tob r0 xb_2 ka xk_2 cs n hx hZ hw hby hml hown g_xb_2 ne_r0_xb_2 hn.2 n 0 (List.replicate (2 * n) (0 : Int32)) T2.heap T2 _ X2 rfl N2 Z2 S_AD_c_2 S_HI_c_2 S_LO_c_2 Va_c_2 Fq2_0 (by simp) (by omega)
  have Kp4 : Keep h0 T4.heap [] := Kp2.trans K4 (allS (Or.inr sz_xb_2) all0)
  have Vc5 : own_A Z T4.heap xb_2 xk_2 .byte (Int32.ofNat (2 * n)) (own_u cs) := by rw [← own_tobE hn.1]; exact V4
  have k6 : Go p.tables e below _ (T4.setTop (mkF m 33 #[.val (.ref r0), .val (.int (Int32.ofNat n)), .val (.int (Int32.ofNat n)), .val (.ref xb_2), .val (.int (Int32.ofNat n))] [(.ref xb_2)])) := goT st4 fun t ht => (by
    refine XS.iload X4.here hx rfl (hb hby d_m40_8) rfl ?_
    refine XS.iloadN X4.here hx rfl (hb hby d_m40_10) rfl ?_
    refine XS.icmpYes X4.here hx rfl (pc0 := 11) (pc' := 32) rfl (hb hby d_m40_11) rfl (flt (by first | exact own_irr _ | exact fun q => Int64.lt_irrefl q : ¬ ((Int32.ofNat n) < (Int32.ofNat n)))).2.1 (by decide) (by decide) ?_
    refine XS.aloadN X4.here hx rfl (hb hby d_m40_32) rfl rfl ?_
    exact ht)
  obtain ⟨fs, hr, hrun, hended, hW, hsame⟩ := X4.leave (v := some (.ref xb_2)) (fun h => by rw [Bd.returns] at h; cases h)
  refine ⟨_, _, castTop (ef_tobW m r0 (Int32.ofNat n)) ((goT k1 (goT k3 k6)) _ (retA X4 hx Bd.returns (hb hby d_m40_33) hr)), hrun, hended, _, _, rfl, ?_, ⟨_, rfl⟩, hW, hsame.mono (by decide) (by decide)⟩
  show Q_tobW Z r0 n ka cs h0 n0 _ T4.heap _
  exact ⟨xb_2, xk_2, rfl, N4, Kp4, sz_xb_2, Vc5⟩
theorem pd_25 : parseMethodDescriptor "([CI[BII)I" = some ⟨[(.array .char), .int, (.array .byte), .int, .int], some .int⟩ := by decide +kernel
theorem pd_26 : parseMethodDescriptor "([CII)[B" = some ⟨[(.array .char), .int, .int], some (.array .byte)⟩ := by decide +kernel
theorem pd_27 : parseMethodDescriptor "([BI)C" = some ⟨[(.array .byte), .int], some .char⟩ := by decide +kernel
theorem d_m41_0 : decode jdk_52_method_16_code 0 = .ok (.iload_n 2, 1) := by decide +kernel
theorem d_m41_1 : decode jdk_52_method_16_code 1 = .ok (.newarray .byte, 2) := by decide +kernel
theorem d_m41_3 : decode jdk_52_method_16_code 3 = .ok (.astore_n 3, 1) := by decide +kernel
theorem d_m41_4 : decode jdk_52_method_16_code 4 = .ok (.aload_n 0, 1) := by decide +kernel
theorem d_m41_5 : decode jdk_52_method_16_code 5 = .ok (.iload_n 1, 1) := by decide +kernel
theorem d_m41_6 : decode jdk_52_method_16_code 6 = .ok (.aload_n 3, 1) := by decide +kernel
theorem d_m41_7 : decode jdk_52_method_16_code 7 = .ok (.iconst 0, 1) := by decide +kernel
theorem d_m41_8 : decode jdk_52_method_16_code 8 = .ok (.iload_n 2, 1) := by decide +kernel
theorem d_m41_9 : decode jdk_52_method_16_code 9 = .ok (.invokestatic 115, 3) := by decide +kernel
theorem d_m41_12 : decode jdk_52_method_16_code 12 = .ok (.istore 4, 2) := by decide +kernel
theorem d_m41_14 : decode jdk_52_method_16_code 14 = .ok (.iload 4, 2) := by decide +kernel
theorem d_m41_16 : decode jdk_52_method_16_code 16 = .ok (.iload_n 2, 1) := by decide +kernel
theorem d_m41_17 : decode jdk_52_method_16_code 17 = .ok (.if_icmp .eq 40, 3) := by decide +kernel
theorem d_m41_20 : decode jdk_52_method_16_code 20 = .ok (.aload_n 0, 1) := by decide +kernel
theorem d_m41_21 : decode jdk_52_method_16_code 21 = .ok (.iload_n 1, 1) := by decide +kernel
theorem d_m41_22 : decode jdk_52_method_16_code 22 = .ok (.iload_n 2, 1) := by decide +kernel
theorem d_m41_23 : decode jdk_52_method_16_code 23 = .ok (.invokestatic 119, 3) := by decide +kernel
theorem d_m41_26 : decode jdk_52_method_16_code 26 = .ok (.astore 5, 2) := by decide +kernel
theorem d_m41_28 : decode jdk_52_method_16_code 28 = .ok (.aload 5, 2) := by decide +kernel
theorem d_m41_30 : decode jdk_52_method_16_code 30 = .ok (.iload 4, 2) := by decide +kernel
theorem d_m41_32 : decode jdk_52_method_16_code 32 = .ok (.invokestatic 71, 3) := by decide +kernel
theorem d_m41_35 : decode jdk_52_method_16_code 35 = .ok (.sipush 255, 3) := by decide +kernel
theorem d_m41_38 : decode jdk_52_method_16_code 38 = .ok (.if_icmp .gt 16, 3) := by decide +kernel
theorem d_m41_54 : decode jdk_52_method_16_code 54 = .ok (.aload 5, 2) := by decide +kernel
theorem d_m41_56 : decode jdk_52_method_16_code 56 = .ok (.areturn, 1) := by decide +kernel
theorem d_m41_57 : decode jdk_52_method_16_code 57 = .ok (.aload_n 3, 1) := by decide +kernel
theorem d_m41_58 : decode jdk_52_method_16_code 58 = .ok (.areturn, 1) := by decide +kernel
theorem ef_comp (m : MethodId) (x0 : Addr) (x2 : Int32) : entryFrame m #[(.ref x0), (.int (0 : Int32)), (.int x2)] 6 = mkF m 0 #[.val (.ref x0), .val (.int (0 : Int32)), .val (.int x2), .unset, .unset, .unset] [] := by first | (simp [entryFrame, mkF, argsToLocals, Value.category]; done) | rfl
def Q_comp (Z : State) (r0 : Addr) (n : Nat) (ka : ClassId) (cs : List Int32) (h0 : Heap) (n0 : Nat) (v : Option Value) (h : Heap) (L : List Loc) : Prop := ∃ (xb : Addr) (xk : ClassId), v = some (.ref xb) ∧ Fr n0 L ∧ Keep h0 h [] ∧ h0.size ≤ xb ∧ own_A Z h xb xk .byte (Int32.ofNat (own_n cs)) (own_s cs)
set_option maxRecDepth 65536 in
set_option maxHeartbeats 40000000 in
theorem rm_comp (l : Launch) (Z : State) (a0 : Array Value) (hw : HW a0 Z) (ws : List Jvm.Cond) (r0 : Addr) (n : Nat) (ka : ClassId) (cs : List Int32) (h0 : Heap) (n0 : Nat) (Z0 : n0 ≤ h0.size) (S_AD : f8 Z h0 (.int (1 : Int32))) (S_HI : f9 Z h0 (.int (0 : Int32))) (S_LO : f10 Z h0 (.int (8 : Int32))) (Va : own_A Z h0 r0 ka .char (Int32.ofNat n) cs) (hn : n = cs.length ∧ 1 ≤ n ∧ n ≤ 24) (hc : ∀ c ∈ cs, own_ch c) :
    own_M l Z h0 (⟨"java/lang/StringUTF16", "compress", "([CII)[B"⟩ : MethodName) jdk_52_method_16_code 6 (some (.array .byte)) ws (rR 4 2 72 76) #[(.ref r0), (.int (0 : Int32)), (.int (Int32.ofNat n))] (Q_comp Z r0 n ka cs h0 n0) := by
  refine own_body (own := "java/lang/StringUTF16") (plainFor_of_name pn_0) rfl ?_
  intro p e s m below meth c s₁ Bd hZ hh hx hby hml hown X0 e0
  have N0 := Fr.nil n0
  have k1 : Go p.tables e below (s₁.setTop (mkF m 0 #[.val (.ref r0), .val (.int (0 : Int32)), .val (.int (Int32.ofNat n)), .unset, .unset, .unset] [])) (s₁.setTop (mkF m 1 #[.val (.ref r0), .val (.int (0 : Int32)), .val (.int (Int32.ofNat n)), .unset, .unset, .unset] [(.int (Int32.ofNat n))])) := by
    intro t ht
    refine XS.iloadN X0.here hx rfl (hb hby d_m41_0) rfl ?_
    exact ht
  obtain ⟨T2, h2, kc2, X2, e2, E2, A2, st2⟩ := newP X0 hx hZ (own_w hw 14 rfl) e0 (g := (mkF m 1 #[.val (.ref r0), .val (.int (0 : Int32)), .val (.int (Int32.ofNat n)), .unset, .unset, .unset] [(.int (Int32.ofNat n))])) rfl (hb hby d_m41_1) rfl (own_nneg (by omega)) (cap := 24) (own_clampLe (by omega)) (by decide) (by decide) (by decide)
  obtain ⟨b2, g2⟩ : ∃ z, z = h0.size := ⟨_, rfl⟩
  rw [← g2] at A2 st2
  have g_b2 : n0 ≤ b2 := Nat.le_trans Z0 (Nat.le_of_eq g2.symm)
  have sz_b2 : h0.size ≤ b2 := Nat.le_trans (Keep.refl h0 []).1 (Nat.le_of_eq g2.symm)
  have ne_r0_b2 : r0 ≠ b2 := Nat.ne_of_lt (Nat.lt_of_lt_of_le Va.lt (Nat.le_of_eq g2.symm))
  have Kp2 : Keep h0 h2 [] := (Keep.refl h0 []).ext E2
  have Z2 : n0 ≤ h2.size := Nat.le_trans Z0 E2.1
  have S_AD_c_2 := S_AD.ext E2
  have S_HI_c_2 := S_HI.ext E2
  have S_LO_c_2 := S_LO.ext E2
  have Va_c_2 := Va.ext E2
  have V_b2 : Arv Z h2 b2 kc2 .byte (Int32.ofNat n) ((List.replicate n (0 : Int32)).map Value.int) (.int (0 : Int32)) := (Arv.new A2 (own_nneg (by omega))).pad own_pad
  have k3 : Go p.tables e below _ (T2.setTop (mkF m 9 #[.val (.ref r0), .val (.int (0 : Int32)), .val (.int (Int32.ofNat n)), .val (.ref b2), .unset, .unset] [(.int (Int32.ofNat n)), (.int (0 : Int32)), (.ref b2), (.int (0 : Int32)), (.ref r0)])) := fun t ht => st2 t (by
    refine XS.astoreN X2.here hx rfl (hb hby d_m41_3) rfl rfl (l' := #[.val (.ref r0), .val (.int (0 : Int32)), .val (.int (Int32.ofNat n)), .val (.ref b2), .unset, .unset]) rfl ?_
    refine XS.aloadN X2.here hx rfl (hb hby d_m41_4) rfl rfl ?_
    refine XS.iloadN X2.here hx rfl (hb hby d_m41_5) rfl ?_
    refine XS.aloadN X2.here hx rfl (hb hby d_m41_6) rfl rfl ?_
    refine XS.iconst X2.here hx rfl (hb hby d_m41_7) ?_
    refine XS.iloadN X2.here hx rfl (hb hby d_m41_8) rfl ?_
    exact ht)
  have rq4 := Jvm.LawKit.callS X2 hx (y := (⟨"java/lang/StringUTF16", "compress", "([CI[BII)I"⟩ : MethodName)) hown (mvT hZ (own_w hw 177 rfl)) (mvT hZ (own_w hw 178 rfl)) (mvT hZ (own_w hw 175 rfl)) (mvT hZ (own_w hw 179 rfl)) (by decide) (backOf (W := 0) (rm_cmpW l Z a0 hw [] r0 b2 n ka kc2 cs (List.replicate n (0 : Int32)) h2 n0 Z2 Va_c_2 V_b2 g_b2 ne_r0_b2 (⟨hn.1, hn.2.2⟩ : n = cs.length ∧ n ≤ 24) (List.length_replicate : (List.replicate n (0 : Int32)).length = n)) hZ (own_w hw 179 rfl) (own_w hw 175 rfl) (by decide) (by decide)) (g := (mkF m 9 #[.val (.ref r0), .val (.int (0 : Int32)), .val (.int (Int32.ofNat n)), .val (.ref b2), .unset, .unset] [(.int (Int32.ofNat n)), (.int (0 : Int32)), (.ref b2), (.int (0 : Int32)), (.ref r0)])) rfl (by rw [hml]; rfl) (argsL := [(.ref r0), (.int (0 : Int32)), (.ref b2), (.int (0 : Int32)), (.int (Int32.ofNat n))]) (rest := []) (lenOf pd_25 rfl) rfl (by show 2 * 0 + _ ≤ _; exact Nat.le_of_eq rfl) (hb hby d_m41_9) (fun _ _ => ⟨rfl, e2, (by decide : 1 + 0 ≤ _), (by decide : 24 + 0 ≤ _)⟩)
  obtain ⟨_, T4, L4, X4, ⟨rfl, N4q, K4, Fq4_0⟩, st4⟩ := own_rS X2 rq4
  have N4 := Fr.app N0 N4q
  have Kp4 : Keep h0 T4.heap [] := Kp2.trans K4 (allS (Or.inr sz_b2) all0)
  have Z4 : n0 ≤ T4.heap.size := Nat.le_trans Z2 K4.1
  have S_AD_c_4 := own_sta_keepV S_AD_c_2 V_b2 K4
  have S_HI_c_4 := own_sta_keepV S_HI_c_2 V_b2 K4
  have S_LO_c_4 := own_sta_keepV S_LO_c_2 V_b2 K4
  have Va_c_4 := Va_c_2.keep K4 (ninS ne_r0_b2 nin0)
  have k5 : Go p.tables e below _ (T4.setTop (mkF m 17 #[.val (.ref r0), .val (.int (0 : Int32)), .val (.int (Int32.ofNat n)), .val (.ref b2), .val (.int (Int32.ofNat (own_j cs))), .unset] [(.int (Int32.ofNat n)), (.int (Int32.ofNat (own_j cs)))])) := fun t ht => st4 t (by
    refine XS.istore X4.here hx rfl (hb hby d_m41_12) rfl (l' := #[.val (.ref r0), .val (.int (0 : Int32)), .val (.int (Int32.ofNat n)), .val (.ref b2), .val (.int (Int32.ofNat (own_j cs))), .unset]) rfl ?_
    refine XS.iload X4.here hx rfl (hb hby d_m41_14) rfl ?_
    refine XS.iloadN X4.here hx rfl (hb hby d_m41_16) rfl ?_
    exact ht)
  by_cases hc6 : (Int32.ofNat (own_j cs)) = (Int32.ofNat n)
  · have k7 : Go p.tables e below _ (T4.setTop (mkF m 58 #[.val (.ref r0), .val (.int (0 : Int32)), .val (.int (Int32.ofNat n)), .val (.ref b2), .val (.int (Int32.ofNat (own_j cs))), .unset] [(.ref b2)])) := goT k5 fun t ht => (by
      refine XS.icmpYes X4.here hx rfl (pc0 := 17) (pc' := 57) rfl (hb hby d_m41_17) rfl (teq hc6).1 (by decide) (by decide) ?_
      refine XS.aloadN X4.here hx rfl (hb hby d_m41_57) rfl rfl ?_
      exact ht)
    obtain ⟨fs, hr, hrun, hended, hW, hsame⟩ := X4.leave (v := some (.ref b2)) (fun h => by rw [Bd.returns] at h; cases h)
    refine ⟨_, _, castTop (ef_comp m r0 (Int32.ofNat n)) ((goT k1 (goT k3 k7)) _ (retA X4 hx Bd.returns (hb hby d_m41_58) hr)), hrun, hended, _, _, rfl, ?_, ⟨_, rfl⟩, hW, hsame.mono (by decide) (by decide)⟩
    show Q_comp Z r0 n ka cs h0 n0 _ T4.heap _
    exact ⟨b2, kc2, rfl, N4, Kp4, sz_b2, (own_sc0 hn.1 (own_jlo1 hn hc6) (own_cmpE hn.1 (own_jlo1 hn hc6)) Fq4_0)⟩
  · have k8 : Go p.tables e below _ (T4.setTop (mkF m 23 #[.val (.ref r0), .val (.int (0 : Int32)), .val (.int (Int32.ofNat n)), .val (.ref b2), .val (.int (Int32.ofNat (own_j cs))), .unset] [(.int (Int32.ofNat n)), (.int (0 : Int32)), (.ref r0)])) := goT k5 fun t ht => (by
      refine XS.icmpNo X4.here hx rfl (hb hby d_m41_17) rfl (feq hc6).1 ?_
      refine XS.aloadN X4.here hx rfl (hb hby d_m41_20) rfl rfl ?_
      refine XS.iloadN X4.here hx rfl (hb hby d_m41_21) rfl ?_
      refine XS.iloadN X4.here hx rfl (hb hby d_m41_22) rfl ?_
      exact ht)
    have rq9 := Jvm.LawKit.callS X4 hx (y := (⟨"java/lang/StringUTF16", "toBytes", "([CII)[B"⟩ : MethodName)) hown (mvT hZ (own_w hw 211 rfl)) (mvT hZ (own_w hw 212 rfl)) (mvT hZ (own_w hw 175 rfl)) (mvT hZ (own_w hw 213 rfl)) (by decide) (backOf (W := 0) (rm_tobW l Z a0 hw [] r0 n ka cs T4.heap n0 Z4 S_AD_c_4 S_HI_c_4 S_LO_c_4 Va_c_4 (⟨hn.1, hn.2.2⟩ : n = cs.length ∧ n ≤ 24)) hZ (own_w hw 213 rfl) (own_w hw 175 rfl) (by decide) (by decide)) (g := (mkF m 23 #[.val (.ref r0), .val (.int (0 : Int32)), .val (.int (Int32.ofNat n)), .val (.ref b2), .val (.int (Int32.ofNat (own_j cs))), .unset] [(.int (Int32.ofNat n)), (.int (0 : Int32)), (.ref r0)])) rfl (by rw [hml]; rfl) (argsL := [(.ref r0), (.int (0 : Int32)), (.int (Int32.ofNat n))]) (rest := []) (lenOf pd_26 rfl) rfl (by show 2 * 0 + _ ≤ _; exact Nat.le_of_eq rfl) (hb hby d_m41_23) (fun _ _ => ⟨rfl, rfl, (by decide : 1 + 1 ≤ _), (by decide : 24 + 48 ≤ _)⟩)
    obtain ⟨_, T9, L9, X9, ⟨xb_9, xk_9, rfl, N9q, K9, Pq9_0, Fq9_0⟩, st9⟩ := own_rS X4 rq9
    have N9 := Fr.app N4 N9q
    have Kp9 : Keep h0 T9.heap [] := Kp4.trans K9 all0
    have Z9 : n0 ≤ T9.heap.size := Nat.le_trans Z4 K9.1
    have sz_xb_9 : h0.size ≤ xb_9 := Nat.le_trans Kp4.1 Pq9_0
    have S_AD_c_9 := own_sta_keep0 S_AD_c_4 K9
    have S_HI_c_9 := own_sta_keep0 S_HI_c_4 K9
    have S_LO_c_9 := own_sta_keep0 S_LO_c_4 K9
    have k10 : Go p.tables e below _ (T9.setTop (mkF m 32 #[.val (.ref r0), .val (.int (0 : Int32)), .val (.int (Int32.ofNat n)), .val (.ref b2), .val (.int (Int32.ofNat (own_j cs))), .val (.ref xb_9)] [(.int (Int32.ofNat (own_j cs))), (.ref xb_9)])) := fun t ht => st9 t (by
      refine XS.astore X9.here hx rfl (hb hby d_m41_26) rfl rfl (l' := #[.val (.ref r0), .val (.int (0 : Int32)), .val (.int (Int32.ofNat n)), .val (.ref b2), .val (.int (Int32.ofNat (own_j cs))), .val (.ref xb_9)]) rfl ?_
      refine XS.aload X9.here hx rfl (hb hby d_m41_28) rfl rfl ?_
      refine XS.iload X9.here hx rfl (hb hby d_m41_30) rfl ?_
      exact ht)
    have rq11 := Jvm.LawKit.callS X9 hx (y := (⟨"java/lang/StringUTF16", "getChar", "([BI)C"⟩ : MethodName)) hown (mvT hZ (own_w hw 227 rfl)) (mvT hZ (own_w hw 228 rfl)) (mvT hZ (own_w hw 175 rfl)) (mvT hZ (own_w hw 229 rfl)) (by decide) (backOf (W := 0) (rm_getC l Z a0 hw [] xb_9 (own_j cs) xk_9 (Int32.ofNat (2 * n)) (own_u cs) T9.heap n0 Z9 S_AD_c_9 S_HI_c_9 S_LO_c_9 Fq9_0 (by have := own_jl hn hc6; rw [own_ofNat (by omega)]; omega : ((2 * (own_j cs) + 1 : Nat) : Int) < (Int32.ofNat (2 * n)).toInt) (by have := own_jl hn hc6; rw [own_lenu, ← hn.1]; omega : 2 * (own_j cs) + 1 < (own_u cs).length) (by have := own_jl hn hc6; omega : (own_j cs) ≤ 64)) hZ (own_w hw 229 rfl) (own_w hw 175 rfl) (by decide) (by decide)) (g := (mkF m 32 #[.val (.ref r0), .val (.int (0 : Int32)), .val (.int (Int32.ofNat n)), .val (.ref b2), .val (.int (Int32.ofNat (own_j cs))), .val (.ref xb_9)] [(.int (Int32.ofNat (own_j cs))), (.ref xb_9)])) rfl (by rw [hml]; rfl) (argsL := [(.ref xb_9), (.int (Int32.ofNat (own_j cs)))]) (rest := []) (lenOf pd_27 rfl) rfl (by show 2 * 0 + _ ≤ _; exact Nat.le_of_eq rfl) (hb hby d_m41_32) (fun _ _ => ⟨rfl, rfl, (by decide : 2 + 0 ≤ _), (by decide : 72 + 0 ≤ _)⟩)
    obtain ⟨_, T11, L11, X11, ⟨rfl, N11q, eq11⟩, st11⟩ := own_rS X9 rq11
    have N11 := Fr.app N9 N11q
    have k12 : Go p.tables e below _ (T11.setTop (mkF m 56 #[.val (.ref r0), .val (.int (0 : Int32)), .val (.int (Int32.ofNat n)), .val (.ref b2), .val (.int (Int32.ofNat (own_j cs))), .val (.ref xb_9)] [(.ref xb_9)])) := fun t ht => st11 t (by
      refine XS.sipush X11.here hx rfl (hb hby d_m41_35) ?_
      refine XS.icmpYes X11.here hx rfl (pc0 := 38) (pc' := 54) rfl (hb hby d_m41_38) rfl (tlt (own_gt hn hc hc6 : (255 : Int32) < (f_getC (own_j cs) (own_u cs)))).2.2.1 (by decide) (by decide) ?_
      refine XS.aload X11.here hx rfl (hb hby d_m41_54) rfl rfl ?_
      exact ht)
    obtain ⟨fs, hr, hrun, hended, hW, hsame⟩ := X11.leave (v := some (.ref xb_9)) (fun h => by rw [Bd.returns] at h; cases h)
    refine ⟨_, _, castTop (ef_comp m r0 (Int32.ofNat n)) ((goT k1 (goT k3 (goT k8 (goT k10 k12)))) _ (retA X11 hx Bd.returns (hb hby d_m41_56) hr)), hrun, hended, _, _, rfl, ?_, ⟨_, rfl⟩, hW, hsame.mono (by decide) (by decide)⟩
    show Q_comp Z r0 n ka cs h0 n0 _ T11.heap _
    rw [eq11]
    exact ⟨xb_9, xk_9, rfl, N11, Kp9, sz_xb_9, (own_sc1 hn.1 (own_jlo0 hn hc6) Fq9_0)⟩
theorem d_m42_0 : decode jdk_52_method_15_code 0 = .ok (.iload_n 1, 1) := by decide +kernel
theorem d_m42_1 : decode jdk_52_method_15_code 1 = .ok (.aload_n 0, 1) := by decide +kernel
theorem d_m42_2 : decode jdk_52_method_15_code 2 = .ok (.arraylength, 1) := by decide +kernel
theorem d_m42_3 : decode jdk_52_method_15_code 3 = .ok (.isub, 1) := by decide +kernel
theorem d_m42_4 : decode jdk_52_method_15_code 4 = .ok (.bipush 31, 2) := by decide +kernel
theorem d_m42_6 : decode jdk_52_method_15_code 6 = .ok (.iushr, 1) := by decide +kernel
theorem d_m42_7 : decode jdk_52_method_15_code 7 = .ok (.i2b, 1) := by decide +kernel
theorem d_m42_8 : decode jdk_52_method_15_code 8 = .ok (.ireturn, 1) := by decide +kernel
theorem ef_cfl (m : MethodId) (x0 : Addr) (x1 : Int32) : entryFrame m #[(.ref x0), (.int x1)] 2 = mkF m 0 #[.val (.ref x0), .val (.int x1)] [] := by first | (simp [entryFrame, mkF, argsToLocals, Value.category]; done) | rfl
def Q_cfl (Z : State) (r0 : Addr) (n : Nat) (kA : ClassId) (cs : List Int32) (h0 : Heap) (n0 : Nat) (v : Option Value) (h : Heap) (L : List Loc) : Prop := v = some (.int (own_k cs)) ∧ Fr n0 L ∧ h = h0
set_option maxRecDepth 65536 in
set_option maxHeartbeats 40000000 in
theorem rm_cfl (l : Launch) (Z : State) (a0 : Array Value) (hw : HW a0 Z) (ws : List Jvm.Cond) (r0 : Addr) (n : Nat) (kA : ClassId) (cs : List Int32) (h0 : Heap) (n0 : Nat) (Z0 : n0 ≤ h0.size) (V_A : own_A Z h0 r0 kA .byte (Int32.ofNat (own_n cs)) (own_s cs)) (hn : n = cs.length ∧ 1 ≤ n ∧ n ≤ 24) :
    own_M l Z h0 (⟨"java/lang/StringUTF16", "coderFromArrayLen", "([BI)B"⟩ : MethodName) jdk_52_method_15_code 2 (some .byte) ws (rR 0 0 0 0) #[(.ref r0), (.int (Int32.ofNat n))] (Q_cfl Z r0 n kA cs h0 n0) := by
  refine own_body (own := "java/lang/StringUTF16") (plainFor_of_name pn_0) rfl ?_
  intro p e s m below meth c s₁ Bd hZ hh hx hby hml hown X0 e0
  have N0 := Fr.nil n0
  have k1 : Go p.tables e below (s₁.setTop (mkF m 0 #[.val (.ref r0), .val (.int (Int32.ofNat n))] [])) (s₁.setTop (mkF m 2 #[.val (.ref r0), .val (.int (Int32.ofNat n))] [(.ref r0), (.int (Int32.ofNat n))])) := by
    intro t ht
    refine XS.iloadN X0.here hx rfl (hb hby d_m42_0) rfl ?_
    refine XS.aloadN X0.here hx rfl (hb hby d_m42_1) rfl rfl ?_
    exact ht
  obtain ⟨cl2, Ar2, q2, S2, M2, H2, G2⟩ := id V_A
  have k3 : Go p.tables e below _ (s₁.setTop (mkF m 8 #[.val (.ref r0), .val (.int (Int32.ofNat n))] [(.int (((((Int32.ofNat n) - (Int32.ofNat (own_n cs))).toUInt32 >>> ((31 : Int32) &&& 31).toUInt32).toInt32).toInt8.toInt32))])) := goT k1 fun t ht => (by
    refine X0.arraylength hx (by rw [e0]; exact Ar2.1) (State.isArrayOf_alike hZ.alike Ar2.2.1) (g := (mkF m 2 #[.val (.ref r0), .val (.int (Int32.ofNat n))] [(.ref r0), (.int (Int32.ofNat n))])) rfl rfl (hb hby d_m42_2) _ ?_
    rw [len_of S2 M2]
    refine XS.isub X0.here hx rfl (hb hby d_m42_3) rfl ?_
    refine XS.bipush X0.here hx rfl (hb hby d_m42_4) ?_
    refine XS.iushr X0.here hx rfl (hb hby d_m42_6) rfl ?_
    refine XS.i2b X0.here hx rfl (hb hby d_m42_7) rfl ?_
    exact ht)
  obtain ⟨fs, hr, hrun, hended, hW, hsame⟩ := X0.leave (v := some (.int (nar .byte (((((Int32.ofNat n) - (Int32.ofNat (own_n cs))).toUInt32 >>> ((31 : Int32) &&& 31).toUInt32).toInt32).toInt8.toInt32)))) (fun h => by rw [Bd.returns] at h; cases h)
  refine ⟨_, _, castTop (ef_cfl m r0 (Int32.ofNat n)) (k3 _ (retN X0 hx (t := .byte) Bd.returns (by simp) (hb hby d_m42_8) hr)), hrun, hended, _, _, rfl, ?_, ⟨_, rfl⟩, hW, hsame.mono (by decide) (by decide)⟩
  show Q_cfl Z r0 n kA cs h0 n0 _ s₁.heap _
  rw [e0]
  exact ⟨congrArg (fun z => some (Value.int z)) (own_cfl hn.1 hn.2), N0, rfl⟩
theorem pd_28 : parseMethodDescriptor "([BI)B" = some ⟨[(.array .byte), .int], some .byte⟩ := by decide +kernel
theorem d_m37_27 : decode jdk_42_method_149_code 27 = .ok (.getstatic 38, 3) := by decide +kernel
theorem d_m37_30 : decode jdk_42_method_149_code 30 = .ok (.ifCond .eq 28, 3) := by decide +kernel
theorem d_m37_33 : decode jdk_42_method_149_code 33 = .ok (.aload_n 1, 1) := by decide +kernel
theorem d_m37_34 : decode jdk_42_method_149_code 34 = .ok (.iload_n 2, 1) := by decide +kernel
theorem d_m37_35 : decode jdk_42_method_149_code 35 = .ok (.iload_n 3, 1) := by decide +kernel
theorem d_m37_36 : decode jdk_42_method_149_code 36 = .ok (.invokestatic 177, 3) := by decide +kernel
theorem d_m37_39 : decode jdk_42_method_149_code 39 = .ok (.astore 5, 2) := by decide +kernel
theorem d_m37_41 : decode jdk_42_method_149_code 41 = .ok (.aload_n 0, 1) := by decide +kernel
theorem d_m37_42 : decode jdk_42_method_149_code 42 = .ok (.aload 5, 2) := by decide +kernel
theorem d_m37_44 : decode jdk_42_method_149_code 44 = .ok (.iload_n 3, 1) := by decide +kernel
theorem d_m37_45 : decode jdk_42_method_149_code 45 = .ok (.invokestatic 47, 3) := by decide +kernel
theorem d_m37_48 : decode jdk_42_method_149_code 48 = .ok (.putfield 15, 3) := by decide +kernel
theorem d_m37_51 : decode jdk_42_method_149_code 51 = .ok (.aload_n 0, 1) := by decide +kernel
theorem d_m37_52 : decode jdk_42_method_149_code 52 = .ok (.aload 5, 2) := by decide +kernel
theorem d_m37_54 : decode jdk_42_method_149_code 54 = .ok (.putfield 9, 3) := by decide +kernel
theorem d_m37_57 : decode jdk_42_method_149_code 57 = .ok (.return_, 1) := by decide +kernel
theorem ef_iC4 (m : MethodId) (x0 : Addr) (x1 : Addr) (x3 : Int32) : entryFrame m #[(.ref x0), (.ref x1), (.int (0 : Int32)), (.int x3), .null] 6 = mkF m 0 #[.val (.ref x0), .val (.ref x1), .val (.int (0 : Int32)), .val (.int x3), .val .null, .unset] [] := by first | (simp [entryFrame, mkF, argsToLocals, Value.category]; done) | rfl
def Q_iC4 (Z : State) (r0 : Addr) (r1 : Addr) (n : Nat) (ka : ClassId) (cs : List Int32) (G1 : Int32) (h0 : Heap) (n0 : Nat) (v : Option Value) (h : Heap) (L : List Loc) : Prop := ∃ (xb : Addr) (xk : ClassId), v = none ∧ Fr n0 L ∧ Keep h0 h [r0] ∧ Exa Z h r0 "java/lang/String" ∧ f1 Z h r0 (.ref xb) ∧ f0 Z h r0 (.int (own_k cs)) ∧ own_A Z h xb xk .byte (Int32.ofNat (own_n cs)) (own_s cs)
set_option maxRecDepth 65536 in
set_option maxHeartbeats 40000000 in
theorem rm_iC4 (l : Launch) (Z : State) (a0 : Array Value) (hw : HW a0 Z) (ws : List Jvm.Cond) (r0 : Addr) (r1 : Addr) (n : Nat) (ka : ClassId) (cs : List Int32) (G1 : Int32) (h0 : Heap) (n0 : Nat) (Z0 : n0 ≤ h0.size) (F_value : f1 Z h0 r0 .null) (F_coder : f0 Z h0 r0 (.int (0 : Int32))) (E_r0 : Exa Z h0 r0 "java/lang/String") (S_CS : f12 Z h0 (.int G1)) (S_AD : f8 Z h0 (.int (1 : Int32))) (S_HI : f9 Z h0 (.int (0 : Int32))) (S_LO : f10 Z h0 (.int (8 : Int32))) (V_1 : own_A Z h0 r1 ka .char (Int32.ofNat n) cs) (P5 : ¬ (G1 = (0 : Int32))) (g_r0 : n0 ≤ r0) (hn : n = cs.length ∧ 1 ≤ n ∧ n ≤ 24) (hc : ∀ c ∈ cs, own_ch c) (nrA : r1 ≠ r0) :
    own_M l Z h0 (⟨"java/lang/String", "<init>", "([CIILjava/lang/Void;)V"⟩ : MethodName) jdk_42_method_149_code 6 none ws (rR 5 2 72 93) #[(.ref r0), (.ref r1), (.int (0 : Int32)), (.int (Int32.ofNat n)), .null] (Q_iC4 Z r0 r1 n ka cs G1 h0 n0) := by
  refine own_body (own := "java/lang/String") (plainFor_of_name pn_2) rfl ?_
  intro p e s m below meth c s₁ Bd hZ hh hx hby hml hown X0 e0
  have hnm := (name_of_methodNamed Bd.named Bd.method).1
  have N0 := Fr.nil n0
  have k1 : Go p.tables e below (s₁.setTop (mkF m 0 #[.val (.ref r0), .val (.ref r1), .val (.int (0 : Int32)), .val (.int (Int32.ofNat n)), .val .null, .unset] [])) (s₁.setTop (mkF m 1 #[.val (.ref r0), .val (.ref r1), .val (.int (0 : Int32)), .val (.int (Int32.ofNat n)), .val .null, .unset] [(.ref r0)])) := by
    intro t ht
    refine XS.aloadN X0.here hx rfl (hb hby d_m37_0) rfl rfl ?_
    exact ht
  obtain ⟨T2, X2, e2, st2⟩ := initO X0 hx hZ hown (own_w hw 19 rfl) (own_w hw 20 rfl) (own_w hw 21 rfl) e0 (g := (mkF m 1 #[.val (.ref r0), .val (.ref r1), .val (.int (0 : Int32)), .val (.int (Int32.ofNat n)), .val .null, .unset] [(.ref r0)])) rfl (by rw [hml]; rfl) rfl (hb hby d_m37_1) (by decide) (W := 0) (by show 2 * 0 + _ ≤ _; exact Nat.le_of_eq rfl) (by decide)
  have k3 : Go p.tables e below _ (T2.setTop (mkF m 27 #[.val (.ref r0), .val (.ref r1), .val (.int (0 : Int32)), .val (.int (Int32.ofNat n)), .val .null, .unset] [])) := fun t ht => st2 t (by
    refine XS.iloadN X2.here hx rfl (hb hby d_m37_4) rfl ?_
    refine XS.ifYes X2.here hx rfl (pc0 := 5) (pc' := 27) rfl (hb hby d_m37_5) rfl ((if0 _ _).trans (feq (own_n0 hn)).2) (by decide) (by decide) ?_
    exact ht)
  obtain ⟨T4, X4, e4, st4⟩ := getS2 X2 hx hZ hown (host := "") (Or.inl (own_w hw 4 rfl)) Via.refl e2 S_CS (g := (mkF m 27 #[.val (.ref r0), .val (.ref r1), .val (.int (0 : Int32)), .val (.int (Int32.ofNat n)), .val .null, .unset] [])) rfl (hb hby d_m37_27)
  have k5 : Go p.tables e below _ (T4.setTop (mkF m 36 #[.val (.ref r0), .val (.ref r1), .val (.int (0 : Int32)), .val (.int (Int32.ofNat n)), .val .null, .unset] [(.int (Int32.ofNat n)), (.int (0 : Int32)), (.ref r1)])) := fun t ht => st4 t (by
    refine XS.ifNo X4.here hx rfl (hb hby d_m37_30) rfl ((if0 _ _).trans (feq P5).1) ?_
    refine XS.aloadN X4.here hx rfl (hb hby d_m37_33) rfl rfl ?_
    refine XS.iloadN X4.here hx rfl (hb hby d_m37_34) rfl ?_
    refine XS.iloadN X4.here hx rfl (hb hby d_m37_35) rfl ?_
    exact ht)
  have rq6 := Jvm.LawKit.callS X4 hx (y := (⟨"java/lang/StringUTF16", "compress", "([CII)[B"⟩ : MethodName)) hown (mvT hZ (own_w hw 173 rfl)) (mvT hZ (own_w hw 174 rfl)) (mvT hZ (own_w hw 175 rfl)) (mvT hZ (own_w hw 176 rfl)) (by decide) (backOf (W := 0) (rm_comp l Z a0 hw [] r1 n ka cs h0 n0 Z0 S_AD S_HI S_LO V_1 hn hc) hZ (own_w hw 176 rfl) (own_w hw 175 rfl) (by decide) (by decide)) (g := (mkF m 36 #[.val (.ref r0), .val (.ref r1), .val (.int (0 : Int32)), .val (.int (Int32.ofNat n)), .val .null, .unset] [(.int (Int32.ofNat n)), (.int (0 : Int32)), (.ref r1)])) rfl (by rw [hml]; rfl) (argsL := [(.ref r1), (.int (0 : Int32)), (.int (Int32.ofNat n))]) (rest := []) (lenOf pd_26 rfl) rfl (by show 2 * 0 + _ ≤ _; exact Nat.le_of_eq rfl) (hb hby d_m37_36) (fun _ _ => ⟨rfl, e4, (by decide : 0 + 2 ≤ _), (by decide : 0 + 72 ≤ _)⟩)
  obtain ⟨_, T6, L6, X6, ⟨xb_6, xk_6, rfl, N6q, K6, Pq6_0, Fq6_0⟩, st6⟩ := own_rS X4 rq6
  have N6 := Fr.app N0 N6q
  have Kp6 : Keep h0 T6.heap [r0] := (Keep.refl h0 [r0]).trans K6 all0
  have Z6 : n0 ≤ T6.heap.size := Nat.le_trans Z0 K6.1
  have ne_r0_xb_6 : r0 ≠ xb_6 := Nat.ne_of_lt (Nat.lt_of_lt_of_le F_value.lt Pq6_0)
  have F_value_c_6 := F_value.keep K6 nin0
  have F_c_6 := F_coder.keep K6 nin0
  have E_r0_c_6 := E_r0.keep K6
  have k7 : Go p.tables e below _ (T6.setTop (mkF m 45 #[.val (.ref r0), .val (.ref r1), .val (.int (0 : Int32)), .val (.int (Int32.ofNat n)), .val .null, .val (.ref xb_6)] [(.int (Int32.ofNat n)), (.ref xb_6), (.ref r0)])) := fun t ht => st6 t (by
    refine XS.astore X6.here hx rfl (hb hby d_m37_39) rfl rfl (l' := #[.val (.ref r0), .val (.ref r1), .val (.int (0 : Int32)), .val (.int (Int32.ofNat n)), .val .null, .val (.ref xb_6)]) rfl ?_
    refine XS.aloadN X6.here hx rfl (hb hby d_m37_41) rfl rfl ?_
    refine XS.aload X6.here hx rfl (hb hby d_m37_42) rfl rfl ?_
    refine XS.iloadN X6.here hx rfl (hb hby d_m37_44) rfl ?_
    exact ht)
  have rq8 := Jvm.LawKit.callS X6 hx (y := (⟨"java/lang/StringUTF16", "coderFromArrayLen", "([BI)B"⟩ : MethodName)) hown (mvT hZ (own_w hw 180 rfl)) (mvT hZ (own_w hw 181 rfl)) (mvT hZ (own_w hw 175 rfl)) (mvT hZ (own_w hw 182 rfl)) (by decide) (backOf (W := 1) (rm_cfl l Z a0 hw [] xb_6 n xk_6 cs T6.heap n0 Z6 Fq6_0 hn) hZ (own_w hw 182 rfl) (own_w hw 175 rfl) (by decide) (by decide)) (g := (mkF m 45 #[.val (.ref r0), .val (.ref r1), .val (.int (0 : Int32)), .val (.int (Int32.ofNat n)), .val .null, .val (.ref xb_6)] [(.int (Int32.ofNat n)), (.ref xb_6), (.ref r0)])) rfl (by rw [hml]; rfl) (argsL := [(.ref xb_6), (.int (Int32.ofNat n))]) (rest := [(.ref r0)]) (lenOf pd_28 rfl) rfl (by show 2 * 0 + _ ≤ _; exact Nat.le_of_eq rfl) (hb hby d_m37_45) (fun _ _ => ⟨rfl, rfl, (by decide : 2 + 0 ≤ _), (by decide : 72 + 0 ≤ _)⟩)
  obtain ⟨_, T8, L8, X8, ⟨rfl, N8q, eq8⟩, st8⟩ := own_rS X6 rq8
  have N8 := Fr.app N6 N8q
  have k8 : Go p.tables e below _ (T8.setTop (mkF m 48 #[.val (.ref r0), .val (.ref r1), .val (.int (0 : Int32)), .val (.int (Int32.ofNat n)), .val .null, .val (.ref xb_6)] [(.int (own_k cs)), (.ref r0)])) := st8
  obtain ⟨T9, h9, X9, e9, W9, st9⟩ := putFN X8 hx hZ hown (own_w hw 24 rfl) Via.refl eq8 F_c_6 E_r0_c_6 (Or.inr ⟨(own_w hw 25 rfl), rfl, hnm⟩) (own_w hw 10 rfl) (ty := .byte) (v' := (.int (nar .byte (own_k cs)))) (by decide) rfl (fits_nar_byte _) (g := (mkF m 48 #[.val (.ref r0), .val (.ref r1), .val (.int (0 : Int32)), .val (.int (Int32.ofNat n)), .val .null, .val (.ref xb_6)] [(.int (own_k cs)), (.ref r0)])) rfl rfl (hb hby d_m37_48)
  have Kp9 : Keep h0 h9 [r0] := Kp6.wr W9 (Or.inl (by simp))
  have F_value_c_9 := F_value_c_6.other W9 (Or.inr (slot_ne (Or.inr (own_w hw 23 rfl)) (Or.inr (own_w hw 25 rfl)) (by decide) (t := (.array .byte)) (t' := .byte) (by decide) (by decide)))
  have F_c_9 := F_c_6.same W9
  have E_r0_c_9 := E_r0_c_6.wr W9
  have Fq6_0_c_9 := Fq6_0.other W9 (Ne.symm ne_r0_xb_6)
  have N9 := Fr.snoc X9 N8 g_r0
  have k10 : Go p.tables e below _ (T9.setTop (mkF m 54 #[.val (.ref r0), .val (.ref r1), .val (.int (0 : Int32)), .val (.int (Int32.ofNat n)), .val .null, .val (.ref xb_6)] [(.ref xb_6), (.ref r0)])) := fun t ht => st9 t (by
    refine XS.aloadN X9.here hx rfl (hb hby d_m37_51) rfl rfl ?_
    refine XS.aload X9.here hx rfl (hb hby d_m37_52) rfl rfl ?_
    exact ht)
  obtain ⟨T11, h11, X11, e11, W11, st11⟩ := putF X9 hx hZ hown (host := "") (Or.inl (own_w hw 22 rfl)) Via.refl e9 F_value_c_9 E_r0_c_9 (Or.inr ⟨(own_w hw 23 rfl), rfl, hnm⟩) (own_w hw 10 rfl) (ty := (.array .byte)) (by decide) rfl rfl (g := (mkF m 54 #[.val (.ref r0), .val (.ref r1), .val (.int (0 : Int32)), .val (.int (Int32.ofNat n)), .val .null, .val (.ref xb_6)] [(.ref xb_6), (.ref r0)])) rfl rfl (hb hby d_m37_54)
  have Kp11 : Keep h0 h11 [r0] := Kp9.wr W11 (Or.inl (by simp))
  have F_value_c_11 := F_value_c_9.same W11
  have F_c_11 := F_c_9.other W11 (Or.inr (slot_ne (Or.inr (own_w hw 25 rfl)) (Or.inr (own_w hw 23 rfl)) (by decide) (t := .byte) (t' := (.array .byte)) (by decide) (by decide)))
  have E_r0_c_11 := E_r0_c_9.wr W11
  have Fq6_0_c_11 := Fq6_0_c_9.other W11 (Ne.symm ne_r0_xb_6)
  have N11 := Fr.snoc X11 N9 g_r0
  have k11 : Go p.tables e below _ (T11.setTop (mkF m 57 #[.val (.ref r0), .val (.ref r1), .val (.int (0 : Int32)), .val (.int (Int32.ofNat n)), .val .null, .val (.ref xb_6)] [])) := st11
  obtain ⟨fs, hr, hrun, hended, hW, hsame⟩ := X11.leave (v := none) (fun _ => rfl)
  refine ⟨_, _, castTop (ef_iC4 m r0 r1 (Int32.ofNat n)) ((goT k1 (goT k3 (goT k5 (goT k7 (goT k8 (goT k10 k11)))))) _ (X11.returnOut hx Bd.returns (hb hby d_m37_57) hr)), hrun, hended, _, _, rfl, ?_, ⟨_, rfl⟩, hW, hsame.mono (by decide) (by decide)⟩
  show Q_iC4 Z r0 r1 n ka cs G1 h0 n0 _ T11.heap _
  rw [e11]
  exact ⟨xb_6, xk_6, rfl, N11, Kp11, E_r0_c_11, F_value_c_11, (own_fcast (congrArg Value.int (own_nk cs)) F_c_11), Fq6_0_c_11⟩
theorem ef_iC1 (m : MethodId) (x0 : Addr) (x1 : Addr) : entryFrame m #[(.ref x0), (.ref x1)] 2 = mkF m 0 #[.val (.ref x0), .val (.ref x1)] [] := by first | (simp [entryFrame, mkF, argsToLocals, Value.category]; done) | rfl
def Q_iC1 (Z : State) (r0 : Addr) (r1 : Addr) (n : Nat) (ka : ClassId) (cs : List Int32) (G1 : Int32) (h0 : Heap) (n0 : Nat) (v : Option Value) (h : Heap) (L : List Loc) : Prop := ∃ (xb : Addr) (xk : ClassId), v = none ∧ Fr n0 L ∧ Keep h0 h [r0] ∧ Exa Z h r0 "java/lang/String" ∧ f1 Z h r0 (.ref xb) ∧ f0 Z h r0 (.int (own_k cs)) ∧ own_A Z h xb xk .byte (Int32.ofNat (own_n cs)) (own_s cs)
set_option maxRecDepth 65536 in
set_option maxHeartbeats 40000000 in
theorem rm_iC1 (l : Launch) (Z : State) (a0 : Array Value) (hw : HW a0 Z) (ws : List Jvm.Cond) (r0 : Addr) (r1 : Addr) (n : Nat) (ka : ClassId) (cs : List Int32) (G1 : Int32) (h0 : Heap) (n0 : Nat) (Z0 : n0 ≤ h0.size) (F_value : f1 Z h0 r0 .null) (F_coder : f0 Z h0 r0 (.int (0 : Int32))) (E_r0 : Exa Z h0 r0 "java/lang/String") (S_CS : f12 Z h0 (.int G1)) (S_AD : f8 Z h0 (.int (1 : Int32))) (S_HI : f9 Z h0 (.int (0 : Int32))) (S_LO : f10 Z h0 (.int (8 : Int32))) (V_1 : own_A Z h0 r1 ka .char (Int32.ofNat n) cs) (P5 : ¬ (G1 = (0 : Int32))) (g_r0 : n0 ≤ r0) (hn : n = cs.length ∧ 1 ≤ n ∧ n ≤ 24) (hc : ∀ c ∈ cs, own_ch c) (nrA : r1 ≠ r0) :
    own_M l Z h0 (⟨"java/lang/String", "<init>", "([C)V"⟩ : MethodName) jdk_42_method_3_code 2 none ws (rR 6 2 72 110) #[(.ref r0), (.ref r1)] (Q_iC1 Z r0 r1 n ka cs G1 h0 n0) := by
  refine own_body (own := "java/lang/String") (plainFor_of_name pn_2) rfl ?_
  intro p e s m below meth c s₁ Bd hZ hh hx hby hml hown X0 e0
  have N0 := Fr.nil n0
  have k1 : Go p.tables e below (s₁.setTop (mkF m 0 #[.val (.ref r0), .val (.ref r1)] [])) (s₁.setTop (mkF m 4 #[.val (.ref r0), .val (.ref r1)] [(.ref r1), (.int (0 : Int32)), (.ref r1), (.ref r0)])) := by
    intro t ht
    refine XS.aloadN X0.here hx rfl (hb hby d_m38_0) rfl rfl ?_
    refine XS.aloadN X0.here hx rfl (hb hby d_m38_1) rfl rfl ?_
    refine XS.iconst X0.here hx rfl (hb hby d_m38_2) ?_
    refine XS.aloadN X0.here hx rfl (hb hby d_m38_3) rfl rfl ?_
    exact ht
  obtain ⟨cl2, Ar2, q2, S2, M2, H2, G2⟩ := id V_1
  have k3 : Go p.tables e below _ (s₁.setTop (mkF m 6 #[.val (.ref r0), .val (.ref r1)] [.null, (.int (Int32.ofNat n)), (.int (0 : Int32)), (.ref r1), (.ref r0)])) := goT k1 fun t ht => (by
    refine X0.arraylength hx (by rw [e0]; exact Ar2.1) (State.isArrayOf_alike hZ.alike Ar2.2.1) (g := (mkF m 4 #[.val (.ref r0), .val (.ref r1)] [(.ref r1), (.int (0 : Int32)), (.ref r1), (.ref r0)])) rfl rfl (hb hby d_m38_4) _ ?_
    rw [len_of S2 M2]
    refine XS.aconstNull X0.here hx rfl (hb hby d_m38_5) ?_
    exact ht)
  have rq4 := X0.specialBack hx (y := (⟨"java/lang/String", "<init>", "([CIILjava/lang/Void;)V"⟩ : MethodName)) rfl hown (mvT hZ (own_w hw 170 rfl)) (mvT hZ (own_w hw 171 rfl)) (mvT hZ (own_w hw 172 rfl)) (by decide) (backOf (W := 0) (rm_iC4 l Z a0 hw [] r0 r1 n ka cs G1 h0 n0 Z0 F_value F_coder E_r0 S_CS S_AD S_HI S_LO V_1 P5 g_r0 hn hc nrA) hZ (own_w hw 172 rfl) (own_w hw 2 rfl) (by decide) (by decide)) (g := (mkF m 6 #[.val (.ref r0), .val (.ref r1)] [.null, (.int (Int32.ofNat n)), (.int (0 : Int32)), (.ref r1), (.ref r0)])) rfl (by rw [hml]; rfl) (Steps.refl _) (a := r0) (argsL := [(.ref r1), (.int (0 : Int32)), (.int (Int32.ofNat n)), .null]) (rest := []) (lenOf pd_24 rfl) rfl (by show 2 * 0 + _ ≤ _; exact Nat.le_of_eq rfl) (hb hby d_m38_6) (fun _ _ => ⟨rfl, e0, (by decide : 0 + 2 ≤ _), (by decide : 0 + 72 ≤ _)⟩)
  obtain ⟨_, T4, L4, X4, ⟨xb_4, xk_4, rfl, N4q, K4, Fq4_0, Fq4_1, Fq4_2, Fq4_3⟩, st4⟩ := own_r X0 rq4
  have N4 := Fr.app N0 N4q
  have Kp4 : Keep h0 T4.heap [r0] := (Keep.refl h0 [r0]).trans K4 (allS (Or.inl (by simp)) all0)
  have k4 : Go p.tables e below _ (T4.setTop (mkF m 9 #[.val (.ref r0), .val (.ref r1)] [])) := st4
  obtain ⟨fs, hr, hrun, hended, hW, hsame⟩ := X4.leave (v := none) (fun _ => rfl)
  refine ⟨_, _, castTop (ef_iC1 m r0 r1) ((goT k3 k4) _ (X4.returnOut hx Bd.returns (hb hby d_m38_9) hr)), hrun, hended, _, _, rfl, ?_, ⟨_, rfl⟩, hW, hsame.mono (by decide) (by decide)⟩
  show Q_iC1 Z r0 r1 n ka cs G1 h0 n0 _ T4.heap _
  exact ⟨xb_4, xk_4, rfl, N4, Kp4, Fq4_0, Fq4_1, Fq4_2, Fq4_3⟩
theorem d_m43_0 : decode jdk_43_method_3_code 0 = .ok (.iload_n 0, 1) := by decide +kernel
theorem d_m43_1 : decode jdk_43_method_3_code 1 = .ok (.sipush 255, 3) := by decide +kernel
theorem d_m43_4 : decode jdk_43_method_3_code 4 = .ok (.if_icmp .gt 7, 3) := by decide +kernel
theorem d_m43_7 : decode jdk_43_method_3_code 7 = .ok (.iconst 1, 1) := by decide +kernel
theorem d_m43_8 : decode jdk_43_method_3_code 8 = .ok (.goto 4, 3) := by decide +kernel
theorem d_m43_11 : decode jdk_43_method_3_code 11 = .ok (.iconst 0, 1) := by decide +kernel
theorem d_m43_12 : decode jdk_43_method_3_code 12 = .ok (.ireturn, 1) := by decide +kernel
theorem ef_canEnc (m : MethodId) (x0 : Int32) : entryFrame m #[(.int x0)] 1 = mkF m 0 #[.val (.int x0)] [] := by first | (simp [entryFrame, mkF, argsToLocals, Value.category]; done) | rfl
def f_canEnc (p0 : Int32) : Int32 := (if (255 : Int32) < p0 then (0 : Int32) else (1 : Int32))
def Q_canEnc (Z : State) (p0 : Int32) (h0 : Heap) (n0 : Nat) (v : Option Value) (h : Heap) (L : List Loc) : Prop := v = some (.int (f_canEnc p0)) ∧ Fr n0 L ∧ h = h0
set_option maxRecDepth 65536 in
set_option maxHeartbeats 40000000 in
theorem rm_canEnc (l : Launch) (Z : State) (a0 : Array Value) (hw : HW a0 Z) (ws : List Jvm.Cond) (p0 : Int32) (h0 : Heap) (n0 : Nat) (Z0 : n0 ≤ h0.size) :
    own_M l Z h0 (⟨"java/lang/StringLatin1", "canEncode", "(C)Z"⟩ : MethodName) jdk_43_method_3_code 1 (some .boolean) ws (rR 0 0 0 0) #[(.int p0)] (Q_canEnc Z p0 h0 n0) := by
  refine own_body (own := "java/lang/StringLatin1") (plainFor_of_name pn_3) rfl ?_
  intro p e s m below meth c s₁ Bd hZ hh hx hby hml hown X0 e0
  have N0 := Fr.nil n0
  have k1 : Go p.tables e below (s₁.setTop (mkF m 0 #[.val (.int p0)] [])) (s₁.setTop (mkF m 4 #[.val (.int p0)] [(.int (255 : Int32)), (.int p0)])) := by
    intro t ht
    refine XS.iloadN X0.here hx rfl (hb hby d_m43_0) rfl ?_
    refine XS.sipush X0.here hx rfl (hb hby d_m43_1) ?_
    exact ht
  by_cases hc2 : (255 : Int32) < p0
  · have k3 : Go p.tables e below _ (s₁.setTop (mkF m 12 #[.val (.int p0)] [(.int (0 : Int32))])) := goT k1 fun t ht => (by
      refine XS.icmpYes X0.here hx rfl (pc0 := 4) (pc' := 11) rfl (hb hby d_m43_4) rfl (tlt hc2).2.2.1 (by decide) (by decide) ?_
      refine XS.iconst X0.here hx rfl (hb hby d_m43_11) ?_
      exact ht)
    obtain ⟨fs, hr, hrun, hended, hW, hsame⟩ := X0.leave (v := some (.int (0 : Int32))) (fun h => by rw [Bd.returns] at h; cases h)
    refine ⟨_, _, castTop (ef_canEnc m p0) (k3 _ (retN X0 hx (t := .boolean) Bd.returns (by simp) (hb hby d_m43_12) hr)), hrun, hended, _, _, rfl, ?_, ⟨_, rfl⟩, hW, hsame.mono (by decide) (by decide)⟩
    show Q_canEnc Z p0 h0 n0 _ s₁.heap _
    rw [e0]
    exact ⟨by simp only [f_canEnc, if_pos hc2], N0, rfl⟩
  · have k4 : Go p.tables e below _ (s₁.setTop (mkF m 12 #[.val (.int p0)] [(.int (1 : Int32))])) := goT k1 fun t ht => (by
      refine XS.icmpNo X0.here hx rfl (hb hby d_m43_4) rfl (flt hc2).2.2.1 ?_
      refine XS.iconst X0.here hx rfl (hb hby d_m43_7) ?_
      refine XS.goto X0.here hx rfl (pc0 := 8) (pc' := 12) rfl (hb hby d_m43_8) (by decide) (by decide) ?_
      exact ht)
    obtain ⟨fs, hr, hrun, hended, hW, hsame⟩ := X0.leave (v := some (.int (1 : Int32))) (fun h => by rw [Bd.returns] at h; cases h)
    refine ⟨_, _, castTop (ef_canEnc m p0) (k4 _ (retN X0 hx (t := .boolean) Bd.returns (by simp) (hb hby d_m43_12) hr)), hrun, hended, _, _, rfl, ?_, ⟨_, rfl⟩, hW, hsame.mono (by decide) (by decide)⟩
    show Q_canEnc Z p0 h0 n0 _ s₁.heap _
    rw [e0]
    exact ⟨by simp only [f_canEnc, if_neg hc2], N0, rfl⟩
theorem d_m44_0 : decode jdk_43_method_46_code 0 = .ok (.iconst 1, 1) := by decide +kernel
theorem d_m44_1 : decode jdk_43_method_46_code 1 = .ok (.newarray .byte, 2) := by decide +kernel
theorem d_m44_3 : decode jdk_43_method_46_code 3 = .ok (.dup, 1) := by decide +kernel
theorem d_m44_4 : decode jdk_43_method_46_code 4 = .ok (.iconst 0, 1) := by decide +kernel
theorem d_m44_5 : decode jdk_43_method_46_code 5 = .ok (.iload_n 0, 1) := by decide +kernel
theorem d_m44_6 : decode jdk_43_method_46_code 6 = .ok (.i2b, 1) := by decide +kernel
theorem d_m44_7 : decode jdk_43_method_46_code 7 = .ok (.bastore, 1) := by decide +kernel
theorem d_m44_8 : decode jdk_43_method_46_code 8 = .ok (.areturn, 1) := by decide +kernel
theorem ef_tbL (m : MethodId) (x0 : Int32) : entryFrame m #[(.int x0)] 1 = mkF m 0 #[.val (.int x0)] [] := by first | (simp [entryFrame, mkF, argsToLocals, Value.category]; done) | rfl
def Q_tbL (Z : State) (p0 : Int32) (h0 : Heap) (n0 : Nat) (v : Option Value) (h : Heap) (L : List Loc) : Prop := ∃ (xb : Addr) (xk : ClassId), v = some (.ref xb) ∧ Fr n0 L ∧ Keep h0 h [] ∧ h0.size ≤ xb ∧ Arv Z h xb xk .byte (1 : Int32) [(.int (nar .byte (p0.toInt8.toInt32)))] (.int (0 : Int32))
set_option maxRecDepth 65536 in
set_option maxHeartbeats 40000000 in
theorem rm_tbL (l : Launch) (Z : State) (a0 : Array Value) (hw : HW a0 Z) (ws : List Jvm.Cond) (p0 : Int32) (h0 : Heap) (n0 : Nat) (Z0 : n0 ≤ h0.size) :
    own_M l Z h0 (⟨"java/lang/StringLatin1", "toBytes", "(C)[B"⟩ : MethodName) jdk_43_method_46_code 1 (some (.array .byte)) ws (rR 0 1 1 0) #[(.int p0)] (Q_tbL Z p0 h0 n0) := by
  refine own_body (own := "java/lang/StringLatin1") (plainFor_of_name pn_3) rfl ?_
  intro p e s m below meth c s₁ Bd hZ hh hx hby hml hown X0 e0
  have N0 := Fr.nil n0
  have k1 : Go p.tables e below (s₁.setTop (mkF m 0 #[.val (.int p0)] [])) (s₁.setTop (mkF m 1 #[.val (.int p0)] [(.int (1 : Int32))])) := by
    intro t ht
    refine XS.iconst X0.here hx rfl (hb hby d_m44_0) ?_
    exact ht
  obtain ⟨T2, h2, kc2, X2, e2, E2, A2, st2⟩ := newP X0 hx hZ (own_w hw 14 rfl) e0 (g := (mkF m 1 #[.val (.int p0)] [(.int (1 : Int32))])) rfl (hb hby d_m44_1) rfl (by decide) (cap := 1) (by decide) (by decide) (by decide) (by decide)
  obtain ⟨b2, g2⟩ : ∃ z, z = h0.size := ⟨_, rfl⟩
  rw [← g2] at A2 st2
  have g_b2 : n0 ≤ b2 := Nat.le_trans Z0 (Nat.le_of_eq g2.symm)
  have sz_b2 : h0.size ≤ b2 := Nat.le_trans (Keep.refl h0 []).1 (Nat.le_of_eq g2.symm)
  have Kp2 : Keep h0 h2 [] := (Keep.refl h0 []).ext E2
  have V_b2 : Arv Z h2 b2 kc2 .byte (1 : Int32) [(.int (0 : Int32))] (.int (0 : Int32)) := (Arv.new A2 (by decide)).pad (pad_rep [] (.int (0 : Int32)) 1)
  have k3 : Go p.tables e below _ (T2.setTop (mkF m 7 #[.val (.int p0)] [(.int (p0.toInt8.toInt32)), (.int (0 : Int32)), (.ref b2), (.ref b2)])) := fun t ht => st2 t (by
    refine XS.dup X2.here hx rfl (hb hby d_m44_3) rfl rfl ?_
    refine XS.iconst X2.here hx rfl (hb hby d_m44_4) ?_
    refine XS.iloadN X2.here hx rfl (hb hby d_m44_5) rfl ?_
    refine XS.i2b X2.here hx rfl (hb hby d_m44_6) rfl ?_
    exact ht)
  obtain ⟨cl4, Ar4, q4, S4, M4, H4, G4⟩ := id V_b2
  have hin4 : ¬ ((0 : Int32) < 0 ∨ cl4.slots.size ≤ ((0 : Int32)).toNatClampNeg) := inb_of S4 ⟨by decide, by decide⟩
  obtain ⟨T4, h4, X4, e4, W4, st4⟩ := stB X2 hx hZ e2 Ar4 (j := (0 : Int32)) hin4 (g := (mkF m 7 #[.val (.int p0)] [(.int (p0.toInt8.toInt32)), (.int (0 : Int32)), (.ref b2), (.ref b2)])) rfl rfl (hb hby d_m44_7)
  have V4_b2 : Arv Z h4 b2 kc2 .byte (1 : Int32) [(.int (nar .byte (p0.toInt8.toInt32)))] (.int (0 : Int32)) := Arv.set Ar4 q4 S4 M4 H4 G4 (fits_nar_byte _) W4 0 rfl (Nat.le_of_ble_eq_true rfl)
  have Kp4 : Keep h0 h4 [] := Kp2.wr W4 (Or.inr sz_b2)
  have N4 := Fr.snoc X4 N0 g_b2
  have k4 : Go p.tables e below _ (T4.setTop (mkF m 8 #[.val (.int p0)] [(.ref b2)])) := st4
  obtain ⟨fs, hr, hrun, hended, hW, hsame⟩ := X4.leave (v := some (.ref b2)) (fun h => by rw [Bd.returns] at h; cases h)
  refine ⟨_, _, castTop (ef_tbL m p0) ((goT k1 (goT k3 k4)) _ (retA X4 hx Bd.returns (hb hby d_m44_8) hr)), hrun, hended, _, _, rfl, ?_, ⟨_, rfl⟩, hW, hsame.mono (by decide) (by decide)⟩
  show Q_tbL Z p0 h0 n0 _ T4.heap _
  rw [e4]
  exact ⟨b2, kc2, rfl, N4, Kp4, sz_b2, V4_b2⟩
theorem d_m45_0 : decode jdk_52_method_24_code 0 = .ok (.iconst 2, 1) := by decide +kernel
theorem d_m45_1 : decode jdk_52_method_24_code 1 = .ok (.newarray .byte, 2) := by decide +kernel
theorem d_m45_3 : decode jdk_52_method_24_code 3 = .ok (.astore_n 1, 1) := by decide +kernel
theorem d_m45_4 : decode jdk_52_method_24_code 4 = .ok (.aload_n 1, 1) := by decide +kernel
theorem d_m45_5 : decode jdk_52_method_24_code 5 = .ok (.iconst 0, 1) := by decide +kernel
theorem d_m45_6 : decode jdk_52_method_24_code 6 = .ok (.iload_n 0, 1) := by decide +kernel
theorem d_m45_7 : decode jdk_52_method_24_code 7 = .ok (.invokestatic 111, 3) := by decide +kernel
theorem d_m45_10 : decode jdk_52_method_24_code 10 = .ok (.aload_n 1, 1) := by decide +kernel
theorem d_m45_11 : decode jdk_52_method_24_code 11 = .ok (.areturn, 1) := by decide +kernel
theorem ef_tbU (m : MethodId) (x0 : Int32) : entryFrame m #[(.int x0)] 2 = mkF m 0 #[.val (.int x0), .unset] [] := by first | (simp [entryFrame, mkF, argsToLocals, Value.category]; done) | rfl
def Q_tbU (Z : State) (p0 : Int32) (h0 : Heap) (n0 : Nat) (v : Option Value) (h : Heap) (L : List Loc) : Prop := ∃ (xb : Addr) (xk : ClassId), v = some (.ref xb) ∧ Fr n0 L ∧ Keep h0 h [] ∧ h0.size ≤ xb ∧ own_A Z h xb xk .byte (2 : Int32) (((List.replicate 2 (0 : Int32)).set (2 * 0) (own_ul p0)).set (2 * 0 + 1) (own_uh p0))
set_option maxRecDepth 65536 in
set_option maxHeartbeats 40000000 in
theorem rm_tbU (l : Launch) (Z : State) (a0 : Array Value) (hw : HW a0 Z) (ws : List Jvm.Cond) (p0 : Int32) (h0 : Heap) (n0 : Nat) (Z0 : n0 ≤ h0.size) (S_AD : f8 Z h0 (.int (1 : Int32))) (S_HI : f9 Z h0 (.int (0 : Int32))) (S_LO : f10 Z h0 (.int (8 : Int32))) :
    own_M l Z h0 (⟨"java/lang/StringUTF16", "toBytes", "(C)[B"⟩ : MethodName) jdk_52_method_24_code 2 (some (.array .byte)) ws (rR 1 1 2 14) #[(.int p0)] (Q_tbU Z p0 h0 n0) := by
  refine own_body (own := "java/lang/StringUTF16") (plainFor_of_name pn_0) rfl ?_
  intro p e s m below meth c s₁ Bd hZ hh hx hby hml hown X0 e0
  have N0 := Fr.nil n0
  have k1 : Go p.tables e below (s₁.setTop (mkF m 0 #[.val (.int p0), .unset] [])) (s₁.setTop (mkF m 1 #[.val (.int p0), .unset] [(.int (2 : Int32))])) := by
    intro t ht
    refine XS.iconst X0.here hx rfl (hb hby d_m45_0) ?_
    exact ht
  obtain ⟨T2, h2, kc2, X2, e2, E2, A2, st2⟩ := newP X0 hx hZ (own_w hw 14 rfl) e0 (g := (mkF m 1 #[.val (.int p0), .unset] [(.int (2 : Int32))])) rfl (hb hby d_m45_1) rfl (by decide) (cap := 2) (by decide) (by decide) (by decide) (by decide)
  obtain ⟨b2, g2⟩ : ∃ z, z = h0.size := ⟨_, rfl⟩
  rw [← g2] at A2 st2
  have g_b2 : n0 ≤ b2 := Nat.le_trans Z0 (Nat.le_of_eq g2.symm)
  have sz_b2 : h0.size ≤ b2 := Nat.le_trans (Keep.refl h0 []).1 (Nat.le_of_eq g2.symm)
  have Kp2 : Keep h0 h2 [] := (Keep.refl h0 []).ext E2
  have Z2 : n0 ≤ h2.size := Nat.le_trans Z0 E2.1
  have S_AD_c_2 := S_AD.ext E2
  have S_HI_c_2 := S_HI.ext E2
  have S_LO_c_2 := S_LO.ext E2
  have V_b2 : Arv Z h2 b2 kc2 .byte (2 : Int32) ((List.replicate 2 (0 : Int32)).map Value.int) (.int (0 : Int32)) := (Arv.new A2 (by decide)).pad own_pad
  have k3 : Go p.tables e below _ (T2.setTop (mkF m 7 #[.val (.int p0), .val (.ref b2)] [(.int p0), (.int (0 : Int32)), (.ref b2)])) := fun t ht => st2 t (by
    refine XS.astoreN X2.here hx rfl (hb hby d_m45_3) rfl rfl (l' := #[.val (.int p0), .val (.ref b2)]) rfl ?_
    refine XS.aloadN X2.here hx rfl (hb hby d_m45_4) rfl rfl ?_
    refine XS.iconst X2.here hx rfl (hb hby d_m45_5) ?_
    refine XS.iloadN X2.here hx rfl (hb hby d_m45_6) rfl ?_
    exact ht)
  have rq4 := Jvm.LawKit.callS X2 hx (y := (⟨"java/lang/StringUTF16", "putChar", "([BII)V"⟩ : MethodName)) hown (mvT hZ (own_w hw 221 rfl)) (mvT hZ (own_w hw 222 rfl)) (mvT hZ (own_w hw 175 rfl)) (mvT hZ (own_w hw 223 rfl)) (by decide) (backOf (W := 0) (rm_putC l Z a0 hw [] b2 0 p0 kc2 (2 : Int32) (List.replicate 2 (0 : Int32)) h2 n0 Z2 S_AD_c_2 S_HI_c_2 S_LO_c_2 V_b2 g_b2 (by decide : ((2 * 0 + 1 : Nat) : Int) < (2 : Int32).toInt) (by decide : 2 * 0 + 1 < (List.replicate 2 (0 : Int32)).length) (by decide : 0 ≤ 64)) hZ (own_w hw 223 rfl) (own_w hw 175 rfl) (by decide) (by decide)) (g := (mkF m 7 #[.val (.int p0), .val (.ref b2)] [(.int p0), (.int (0 : Int32)), (.ref b2)])) rfl (by rw [hml]; rfl) (argsL := [(.ref b2), (.int (0 : Int32)), (.int p0)]) (rest := []) (lenOf pd_4 rfl) rfl (by show 2 * 0 + _ ≤ _; exact Nat.le_of_eq rfl) (hb hby d_m45_7) (fun _ _ => ⟨rfl, e2, (by decide : 1 + 0 ≤ _), (by decide : 2 + 0 ≤ _)⟩)
  obtain ⟨_, T4, L4, X4, ⟨rfl, N4q, K4, Fq4_0⟩, st4⟩ := own_rS X2 rq4
  have N4 := Fr.app N0 N4q
  have Kp4 : Keep h0 T4.heap [] := Kp2.trans K4 (allS (Or.inr sz_b2) all0)
  have k5 : Go p.tables e below _ (T4.setTop (mkF m 11 #[.val (.int p0), .val (.ref b2)] [(.ref b2)])) := fun t ht => st4 t (by
    refine XS.aloadN X4.here hx rfl (hb hby d_m45_10) rfl rfl ?_
    exact ht)
  obtain ⟨fs, hr, hrun, hended, hW, hsame⟩ := X4.leave (v := some (.ref b2)) (fun h => by rw [Bd.returns] at h; cases h)
  refine ⟨_, _, castTop (ef_tbU m p0) ((goT k1 (goT k3 k5)) _ (retA X4 hx Bd.returns (hb hby d_m45_11) hr)), hrun, hended, _, _, rfl, ?_, ⟨_, rfl⟩, hW, hsame.mono (by decide) (by decide)⟩
  show Q_tbU Z p0 h0 n0 _ T4.heap _
  exact ⟨b2, kc2, rfl, N4, Kp4, sz_b2, Fq4_0⟩
theorem d_m46_0 : decode jdk_42_method_151_code 0 = .ok (.aload_n 0, 1) := by decide +kernel
theorem d_m46_1 : decode jdk_42_method_151_code 1 = .ok (.invokespecial 1, 3) := by decide +kernel
theorem d_m46_4 : decode jdk_42_method_151_code 4 = .ok (.aload_n 0, 1) := by decide +kernel
theorem d_m46_5 : decode jdk_42_method_151_code 5 = .ok (.aload_n 1, 1) := by decide +kernel
theorem d_m46_6 : decode jdk_42_method_151_code 6 = .ok (.putfield 9, 3) := by decide +kernel
theorem d_m46_9 : decode jdk_42_method_151_code 9 = .ok (.aload_n 0, 1) := by decide +kernel
theorem d_m46_10 : decode jdk_42_method_151_code 10 = .ok (.iload_n 2, 1) := by decide +kernel
theorem d_m46_11 : decode jdk_42_method_151_code 11 = .ok (.putfield 15, 3) := by decide +kernel
theorem d_m46_14 : decode jdk_42_method_151_code 14 = .ok (.return_, 1) := by decide +kernel
theorem ef_initBB (m : MethodId) (x0 : Addr) (x1 : Addr) (x2 : Int32) : entryFrame m #[(.ref x0), (.ref x1), (.int x2)] 3 = mkF m 0 #[.val (.ref x0), .val (.ref x1), .val (.int x2)] [] := by first | (simp [entryFrame, mkF, argsToLocals, Value.category]; done) | rfl
def Q_initBB (Z : State) (r0 : Addr) (r1 : Addr) (p2 : Int32) (h0 : Heap) (n0 : Nat) (v : Option Value) (h : Heap) (L : List Loc) : Prop := v = none ∧ Fr n0 L ∧ Keep h0 h [r0] ∧ Exa Z h r0 "java/lang/String" ∧ f1 Z h r0 (.ref r1) ∧ f0 Z h r0 (.int (nar .byte p2))
set_option maxRecDepth 65536 in
set_option maxHeartbeats 40000000 in
theorem rm_initBB (l : Launch) (Z : State) (a0 : Array Value) (hw : HW a0 Z) (ws : List Jvm.Cond) (r0 : Addr) (r1 : Addr) (p2 : Int32) (h0 : Heap) (n0 : Nat) (Z0 : n0 ≤ h0.size) (F_value : f1 Z h0 r0 .null) (F_coder : f0 Z h0 r0 (.int (0 : Int32))) (E_r0 : Exa Z h0 r0 "java/lang/String") (g_r0 : n0 ≤ r0) :
    own_M l Z h0 (⟨"java/lang/String", "<init>", "([BB)V"⟩ : MethodName) jdk_42_method_151_code 3 none ws (rR 1 0 0 12) #[(.ref r0), (.ref r1), (.int p2)] (Q_initBB Z r0 r1 p2 h0 n0) := by
  refine own_body (own := "java/lang/String") (plainFor_of_name pn_2) rfl ?_
  intro p e s m below meth c s₁ Bd hZ hh hx hby hml hown X0 e0
  have hnm := (name_of_methodNamed Bd.named Bd.method).1
  have N0 := Fr.nil n0
  have k1 : Go p.tables e below (s₁.setTop (mkF m 0 #[.val (.ref r0), .val (.ref r1), .val (.int p2)] [])) (s₁.setTop (mkF m 1 #[.val (.ref r0), .val (.ref r1), .val (.int p2)] [(.ref r0)])) := by
    intro t ht
    refine XS.aloadN X0.here hx rfl (hb hby d_m46_0) rfl rfl ?_
    exact ht
  obtain ⟨T2, X2, e2, st2⟩ := initO X0 hx hZ hown (own_w hw 19 rfl) (own_w hw 20 rfl) (own_w hw 21 rfl) e0 (g := (mkF m 1 #[.val (.ref r0), .val (.ref r1), .val (.int p2)] [(.ref r0)])) rfl (by rw [hml]; rfl) rfl (hb hby d_m46_1) (by decide) (W := 0) (by show 2 * 0 + _ ≤ _; exact Nat.le_of_eq rfl) (by decide)
  have k3 : Go p.tables e below _ (T2.setTop (mkF m 6 #[.val (.ref r0), .val (.ref r1), .val (.int p2)] [(.ref r1), (.ref r0)])) := fun t ht => st2 t (by
    refine XS.aloadN X2.here hx rfl (hb hby d_m46_4) rfl rfl ?_
    refine XS.aloadN X2.here hx rfl (hb hby d_m46_5) rfl rfl ?_
    exact ht)
  obtain ⟨T4, h4, X4, e4, W4, st4⟩ := putF X2 hx hZ hown (host := "") (Or.inl (own_w hw 22 rfl)) Via.refl e2 F_value E_r0 (Or.inr ⟨(own_w hw 23 rfl), rfl, hnm⟩) (own_w hw 10 rfl) (ty := (.array .byte)) (by decide) rfl rfl (g := (mkF m 6 #[.val (.ref r0), .val (.ref r1), .val (.int p2)] [(.ref r1), (.ref r0)])) rfl rfl (hb hby d_m46_6)
  have Kp4 : Keep h0 h4 [r0] := (Keep.refl h0 [r0]).wr W4 (Or.inl (by simp))
  have F_value_c_4 := F_value.same W4
  have F_c_4 := F_coder.other W4 (Or.inr (slot_ne (Or.inr (own_w hw 25 rfl)) (Or.inr (own_w hw 23 rfl)) (by decide) (t := .byte) (t' := (.array .byte)) (by decide) (by decide)))
  have E_r0_c_4 := E_r0.wr W4
  have N4 := Fr.snoc X4 N0 g_r0
  have k5 : Go p.tables e below _ (T4.setTop (mkF m 11 #[.val (.ref r0), .val (.ref r1), .val (.int p2)] [(.int p2), (.ref r0)])) := fun t ht => st4 t (by
    refine XS.aloadN X4.here hx rfl (hb hby d_m46_9) rfl rfl ?_
    refine XS.iloadN X4.here hx rfl (hb hby d_m46_10) rfl ?_
    exact ht)
  obtain ⟨T6, h6, X6, e6, W6, st6⟩ := putFN X4 hx hZ hown (own_w hw 24 rfl) Via.refl e4 F_c_4 E_r0_c_4 (Or.inr ⟨(own_w hw 25 rfl), rfl, hnm⟩) (own_w hw 10 rfl) (ty := .byte) (v' := (.int (nar .byte p2))) (by decide) rfl (fits_nar_byte _) (g := (mkF m 11 #[.val (.ref r0), .val (.ref r1), .val (.int p2)] [(.int p2), (.ref r0)])) rfl rfl (hb hby d_m46_11)
  have Kp6 : Keep h0 h6 [r0] := Kp4.wr W6 (Or.inl (by simp))
  have F_value_c_6 := F_value_c_4.other W6 (Or.inr (slot_ne (Or.inr (own_w hw 23 rfl)) (Or.inr (own_w hw 25 rfl)) (by decide) (t := (.array .byte)) (t' := .byte) (by decide) (by decide)))
  have F_c_6 := F_c_4.same W6
  have E_r0_c_6 := E_r0_c_4.wr W6
  have N6 := Fr.snoc X6 N4 g_r0
  have k6 : Go p.tables e below _ (T6.setTop (mkF m 14 #[.val (.ref r0), .val (.ref r1), .val (.int p2)] [])) := st6
  obtain ⟨fs, hr, hrun, hended, hW, hsame⟩ := X6.leave (v := none) (fun _ => rfl)
  refine ⟨_, _, castTop (ef_initBB m r0 r1 p2) ((goT k1 (goT k3 (goT k5 k6))) _ (X6.returnOut hx Bd.returns (hb hby d_m46_14) hr)), hrun, hended, _, _, rfl, ?_, ⟨_, rfl⟩, hW, hsame.mono (by decide) (by decide)⟩
  show Q_initBB Z r0 r1 p2 h0 n0 _ T6.heap _
  rw [e6]
  exact ⟨rfl, N6, Kp6, E_r0_c_6, F_value_c_6, F_c_6⟩
theorem pd_29 : parseMethodDescriptor "(C)Z" = some ⟨[.char], some .boolean⟩ := by decide +kernel
theorem pd_30 : parseMethodDescriptor "(C)[B" = some ⟨[.char], some (.array .byte)⟩ := by decide +kernel
theorem pd_31 : parseMethodDescriptor "([BB)V" = some ⟨[(.array .byte), .byte], none⟩ := by decide +kernel
theorem d_m47_0 : decode jdk_42_method_139_code 0 = .ok (.getstatic 38, 3) := by decide +kernel
theorem d_m47_3 : decode jdk_42_method_139_code 3 = .ok (.ifCond .eq 23, 3) := by decide +kernel
theorem d_m47_6 : decode jdk_42_method_139_code 6 = .ok (.iload_n 0, 1) := by decide +kernel
theorem d_m47_7 : decode jdk_42_method_139_code 7 = .ok (.invokestatic 1015, 3) := by decide +kernel
theorem d_m47_10 : decode jdk_42_method_139_code 10 = .ok (.ifCond .eq 16, 3) := by decide +kernel
theorem d_m47_13 : decode jdk_42_method_139_code 13 = .ok (.new 10, 3) := by decide +kernel
theorem d_m47_16 : decode jdk_42_method_139_code 16 = .ok (.dup, 1) := by decide +kernel
theorem d_m47_17 : decode jdk_42_method_139_code 17 = .ok (.iload_n 0, 1) := by decide +kernel
theorem d_m47_18 : decode jdk_42_method_139_code 18 = .ok (.invokestatic 1018, 3) := by decide +kernel
theorem d_m47_21 : decode jdk_42_method_139_code 21 = .ok (.iconst 0, 1) := by decide +kernel
theorem d_m47_22 : decode jdk_42_method_139_code 22 = .ok (.invokespecial 209, 3) := by decide +kernel
theorem d_m47_25 : decode jdk_42_method_139_code 25 = .ok (.areturn, 1) := by decide +kernel
theorem d_m47_26 : decode jdk_42_method_139_code 26 = .ok (.new 10, 3) := by decide +kernel
theorem d_m47_29 : decode jdk_42_method_139_code 29 = .ok (.dup, 1) := by decide +kernel
theorem d_m47_30 : decode jdk_42_method_139_code 30 = .ok (.iload_n 0, 1) := by decide +kernel
theorem d_m47_31 : decode jdk_42_method_139_code 31 = .ok (.invokestatic 1021, 3) := by decide +kernel
theorem d_m47_34 : decode jdk_42_method_139_code 34 = .ok (.iconst 1, 1) := by decide +kernel
theorem d_m47_35 : decode jdk_42_method_139_code 35 = .ok (.invokespecial 209, 3) := by decide +kernel
theorem d_m47_38 : decode jdk_42_method_139_code 38 = .ok (.areturn, 1) := by decide +kernel
theorem ef_vOf (m : MethodId) (x0 : Int32) : entryFrame m #[(.int x0)] 1 = mkF m 0 #[.val (.int x0)] [] := by first | (simp [entryFrame, mkF, argsToLocals, Value.category]; done) | rfl
def Q_vOf (Z : State) (p0 : Int32) (G1 : Int32) (h0 : Heap) (n0 : Nat) (v : Option Value) (h : Heap) (L : List Loc) : Prop := ∃ (xs : Addr) (xb : Addr) (xk : ClassId), v = some (.ref xs) ∧ Fr n0 L ∧ Keep h0 h [] ∧ Exa Z h xs "java/lang/String" ∧ f1 Z h xs (.ref xb) ∧ f0 Z h xs (.int (own_k [p0])) ∧ own_A Z h xb xk .byte (Int32.ofNat (own_n [p0])) (own_s [p0])
set_option maxRecDepth 65536 in
set_option maxHeartbeats 40000000 in
theorem rm_vOf (l : Launch) (Z : State) (a0 : Array Value) (hw : HW a0 Z) (ws : List Jvm.Cond) (p0 : Int32) (G1 : Int32) (h0 : Heap) (n0 : Nat) (Z0 : n0 ≤ h0.size) (S_CS : f12 Z h0 (.int G1)) (S_AD : f8 Z h0 (.int (1 : Int32))) (S_HI : f9 Z h0 (.int (0 : Int32))) (S_LO : f10 Z h0 (.int (8 : Int32))) (P5 : ¬ (G1 = (0 : Int32))) :
    own_M l Z h0 (⟨"java/lang/String", "valueOf", "(C)Ljava/lang/String;"⟩ : MethodName) jdk_42_method_139_code 1 (some (.object "java/lang/String")) ws (rR 2 2 6 29) #[(.int p0)] (Q_vOf Z p0 G1 h0 n0) := by
  refine own_body (own := "java/lang/String") (plainFor_of_name pn_2) rfl ?_
  intro p e s m below meth c s₁ Bd hZ hh hx hby hml hown X0 e0
  have N0 := Fr.nil n0
  obtain ⟨T1, X1, e1, st1⟩ := getS2 X0 hx hZ hown (host := "") (Or.inl (own_w hw 4 rfl)) Via.refl e0 S_CS (g := (mkF m 0 #[.val (.int p0)] [])) rfl (hb hby d_m47_0)
  have k2 : Go p.tables e below _ (T1.setTop (mkF m 7 #[.val (.int p0)] [(.int p0)])) := fun t ht => st1 t (by
    refine XS.ifNo X1.here hx rfl (hb hby d_m47_3) rfl ((if0 _ _).trans (feq P5).1) ?_
    refine XS.iloadN X1.here hx rfl (hb hby d_m47_6) rfl ?_
    exact ht)
  have rq3 := Jvm.LawKit.callS X1 hx (y := (⟨"java/lang/StringLatin1", "canEncode", "(C)Z"⟩ : MethodName)) hown (mvT hZ (own_w hw 5 rfl)) (mvT hZ (own_w hw 6 rfl)) (mvT hZ (own_w hw 7 rfl)) (mvT hZ (own_w hw 8 rfl)) (by decide) (backOf (W := 0) (rm_canEnc l Z a0 hw [] p0 h0 n0 Z0 ) hZ (own_w hw 8 rfl) (own_w hw 7 rfl) (by decide) (by decide)) (g := (mkF m 7 #[.val (.int p0)] [(.int p0)])) rfl (by rw [hml]; rfl) (argsL := [(.int p0)]) (rest := []) (lenOf pd_29 rfl) rfl (by show 2 * 0 + _ ≤ _; exact Nat.le_of_eq rfl) (hb hby d_m47_7) (fun _ _ => ⟨rfl, e1, (by decide : 0 + 0 ≤ _), (by decide : 0 + 0 ≤ _)⟩)
  obtain ⟨_, T3, L3, X3, ⟨rfl, N3q, eq3⟩, st3⟩ := own_rS X1 rq3
  have N3 := Fr.app N0 N3q
  have k3 : Go p.tables e below _ (T3.setTop (mkF m 10 #[.val (.int p0)] [(.int (f_canEnc p0))])) := st3
  by_cases hc4 : (255 : Int32) < p0
  · have k5 : Go p.tables e below _ (T3.setTop (mkF m 10 #[.val (.int p0)] [(.int (0 : Int32))])) := goT k3 (by simp only [f_canEnc, if_pos hc4]; exact fun _ h => h)
    have k6 : Go p.tables e below _ (T3.setTop (mkF m 26 #[.val (.int p0)] [])) := goT k5 fun t ht => (by
      refine XS.ifYes X3.here hx rfl (pc0 := 10) (pc' := 26) rfl (hb hby d_m47_10) rfl ((if0 _ _).trans (teq (by decide : (0 : Int32) = (0 : Int32))).1) (by decide) (by decide) ?_
      exact ht)
    obtain ⟨T7, h7, X7, e7, E7, A7, D7, -, st7⟩ := newO X3 hx hZ hown (own_w hw 9 rfl) (own_w hw 10 rfl) (own_w hw 2 rfl) eq3 (g := (mkF m 26 #[.val (.int p0)] [])) rfl (hb hby d_m47_26) (by decide) (by decide)
    obtain ⟨b7, g7⟩ : ∃ z, z = h0.size := ⟨_, rfl⟩
    rw [← g7] at A7 D7 st7
    have g_b7 : n0 ≤ b7 := Nat.le_trans Z0 (Nat.le_of_eq g7.symm)
    have sz_b7 : h0.size ≤ b7 := Nat.le_trans (Keep.refl h0 []).1 (Nat.le_of_eq g7.symm)
    have Kp7 : Keep h0 h7 [] := (Keep.refl h0 []).ext E7
    have Z7 : n0 ≤ h7.size := Nat.le_trans Z0 E7.1
    have S_AD_c_7 := S_AD.ext E7
    have S_HI_c_7 := S_HI.ext E7
    have S_LO_c_7 := S_LO.ext E7
    have F_value_b7 : f1 Z h7 b7 .null := D7 (Or.inr (own_w hw 23 rfl)) (ty := (.array .byte)) (by decide)
    have F_coder_b7 : f0 Z h7 b7 (.int (0 : Int32)) := D7 (Or.inr (own_w hw 25 rfl)) (ty := .byte) (by decide)
    have k8 : Go p.tables e below _ (T7.setTop (mkF m 31 #[.val (.int p0)] [(.int p0), (.ref b7), (.ref b7)])) := fun t ht => st7 t (by
      refine XS.dup X7.here hx rfl (hb hby d_m47_29) rfl rfl ?_
      refine XS.iloadN X7.here hx rfl (hb hby d_m47_30) rfl ?_
      exact ht)
    have rq9 := Jvm.LawKit.callS X7 hx (y := (⟨"java/lang/StringUTF16", "toBytes", "(C)[B"⟩ : MethodName)) hown (mvT hZ (own_w hw 260 rfl)) (mvT hZ (own_w hw 261 rfl)) (mvT hZ (own_w hw 175 rfl)) (mvT hZ (own_w hw 262 rfl)) (by decide) (backOf (W := 2) (rm_tbU l Z a0 hw [] p0 h7 n0 Z7 S_AD_c_7 S_HI_c_7 S_LO_c_7) hZ (own_w hw 262 rfl) (own_w hw 175 rfl) (by decide) (by decide)) (g := (mkF m 31 #[.val (.int p0)] [(.int p0), (.ref b7), (.ref b7)])) rfl (by rw [hml]; rfl) (argsL := [(.int p0)]) (rest := [(.ref b7), (.ref b7)]) (lenOf pd_30 rfl) rfl (by show 2 * 0 + _ ≤ _; exact Nat.le_of_eq rfl) (hb hby d_m47_31) (fun _ _ => ⟨rfl, e7, (by decide : 1 + 1 ≤ _), (by decide : 4 + 2 ≤ _)⟩)
    obtain ⟨_, T9, L9, X9, ⟨xb_9, xk_9, rfl, N9q, K9, Pq9_0, Fq9_0⟩, st9⟩ := own_rS X7 rq9
    have N9 := Fr.app N3 N9q
    have Kp9 : Keep h0 T9.heap [] := Kp7.trans K9 all0
    have Z9 : n0 ≤ T9.heap.size := Nat.le_trans Z7 K9.1
    have ne_b7_xb_9 : b7 ≠ xb_9 := Nat.ne_of_lt (Nat.lt_of_lt_of_le A7.lt Pq9_0)
    have A7_c_9 := A7.keep K9
    have F_value_b7_c_9 := F_value_b7.keep K9 nin0
    have F_c_9 := F_coder_b7.keep K9 nin0
    have k10 : Go p.tables e below _ (T9.setTop (mkF m 35 #[.val (.int p0)] [(.int (1 : Int32)), (.ref xb_9), (.ref b7), (.ref b7)])) := fun t ht => st9 t (by
      refine XS.iconst X9.here hx rfl (hb hby d_m47_34) ?_
      exact ht)
    have rq11 := X9.specialBack hx (y := (⟨"java/lang/String", "<init>", "([BB)V"⟩ : MethodName)) rfl hown (mvT hZ (own_w hw 15 rfl)) (mvT hZ (own_w hw 16 rfl)) (mvT hZ (own_w hw 18 rfl)) (by decide) (backOf (W := 1) (rm_initBB l Z a0 hw [] b7 xb_9 (1 : Int32) T9.heap n0 Z9 F_value_b7_c_9 F_c_9 A7_c_9 g_b7) hZ (own_w hw 18 rfl) (own_w hw 2 rfl) (by decide) (by decide)) (g := (mkF m 35 #[.val (.int p0)] [(.int (1 : Int32)), (.ref xb_9), (.ref b7), (.ref b7)])) rfl (by rw [hml]; rfl) (Steps.refl _) (a := b7) (argsL := [(.ref xb_9), (.int (1 : Int32))]) (rest := [(.ref b7)]) (lenOf pd_31 rfl) rfl (by show 2 * 0 + _ ≤ _; exact Nat.le_of_eq rfl) (hb hby d_m47_35) (fun _ _ => ⟨rfl, rfl, (by decide : 2 + 0 ≤ _), (by decide : 6 + 0 ≤ _)⟩)
    obtain ⟨_, T11, L11, X11, ⟨rfl, N11q, K11, Fq11_0, Fq11_1, Fq11_2⟩, st11⟩ := own_r X9 rq11
    have N11 := Fr.app N9 N11q
    have Kp11 : Keep h0 T11.heap [] := Kp9.trans K11 (allS (Or.inr sz_b7) all0)
    have Fq9_0_c_11 := Fq9_0.keep K11 (ninS (Ne.symm ne_b7_xb_9) nin0)
    have k11 : Go p.tables e below _ (T11.setTop (mkF m 38 #[.val (.int p0)] [(.ref b7)])) := st11
    obtain ⟨fs, hr, hrun, hended, hW, hsame⟩ := X11.leave (v := some (.ref b7)) (fun h => by rw [Bd.returns] at h; cases h)
    refine ⟨_, _, castTop (ef_vOf m p0) ((goT k2 (goT k6 (goT k8 (goT k10 k11)))) _ (retR X11 hx Bd.returns (hb hby d_m47_38) hr)), hrun, hended, _, _, rfl, ?_, ⟨_, rfl⟩, hW, hsame.mono (by decide) (by decide)⟩
    show Q_vOf Z p0 G1 h0 n0 _ T11.heap _
    exact ⟨b7, xb_9, xk_9, rfl, N11, Kp11, Fq11_0, Fq11_1, (own_fcast (by rw [own_khi (own_hi1 hc4)]; rfl) Fq11_2), (own_v1 hc4 Fq9_0_c_11)⟩
  · have k12 : Go p.tables e below _ (T3.setTop (mkF m 10 #[.val (.int p0)] [(.int (1 : Int32))])) := goT k3 (by simp only [f_canEnc, if_neg hc4]; exact fun _ h => h)
    have k13 : Go p.tables e below _ (T3.setTop (mkF m 13 #[.val (.int p0)] [])) := goT k12 fun t ht => (by
      refine XS.ifNo X3.here hx rfl (hb hby d_m47_10) rfl ((if0 _ _).trans (feq (by decide : ¬ ((1 : Int32) = (0 : Int32)))).1) ?_
      exact ht)
    obtain ⟨T14, h14, X14, e14, E14, A14, D14, -, st14⟩ := newO X3 hx hZ hown (own_w hw 9 rfl) (own_w hw 10 rfl) (own_w hw 2 rfl) eq3 (g := (mkF m 13 #[.val (.int p0)] [])) rfl (hb hby d_m47_13) (by decide) (by decide)
    obtain ⟨b14, g14⟩ : ∃ z, z = h0.size := ⟨_, rfl⟩
    rw [← g14] at A14 D14 st14
    have g_b14 : n0 ≤ b14 := Nat.le_trans Z0 (Nat.le_of_eq g14.symm)
    have sz_b14 : h0.size ≤ b14 := Nat.le_trans (Keep.refl h0 []).1 (Nat.le_of_eq g14.symm)
    have Kp14 : Keep h0 h14 [] := (Keep.refl h0 []).ext E14
    have Z14 : n0 ≤ h14.size := Nat.le_trans Z0 E14.1
    have F_value_b14 : f1 Z h14 b14 .null := D14 (Or.inr (own_w hw 23 rfl)) (ty := (.array .byte)) (by decide)
    have F_coder_b14 : f0 Z h14 b14 (.int (0 : Int32)) := D14 (Or.inr (own_w hw 25 rfl)) (ty := .byte) (by decide)
    have k15 : Go p.tables e below _ (T14.setTop (mkF m 18 #[.val (.int p0)] [(.int p0), (.ref b14), (.ref b14)])) := fun t ht => st14 t (by
      refine XS.dup X14.here hx rfl (hb hby d_m47_16) rfl rfl ?_
      refine XS.iloadN X14.here hx rfl (hb hby d_m47_17) rfl ?_
      exact ht)
    have rq16 := Jvm.LawKit.callS X14 hx (y := (⟨"java/lang/StringLatin1", "toBytes", "(C)[B"⟩ : MethodName)) hown (mvT hZ (own_w hw 11 rfl)) (mvT hZ (own_w hw 12 rfl)) (mvT hZ (own_w hw 7 rfl)) (mvT hZ (own_w hw 13 rfl)) (by decide) (backOf (W := 2) (rm_tbL l Z a0 hw [] p0 h14 n0 Z14 ) hZ (own_w hw 13 rfl) (own_w hw 7 rfl) (by decide) (by decide)) (g := (mkF m 18 #[.val (.int p0)] [(.int p0), (.ref b14), (.ref b14)])) rfl (by rw [hml]; rfl) (argsL := [(.int p0)]) (rest := [(.ref b14), (.ref b14)]) (lenOf pd_30 rfl) rfl (by show 2 * 0 + _ ≤ _; exact Nat.le_of_eq rfl) (hb hby d_m47_18) (fun _ _ => ⟨rfl, e14, (by decide : 1 + 1 ≤ _), (by decide : 4 + 1 ≤ _)⟩)
    obtain ⟨_, T16, L16, X16, ⟨xb_16, xk_16, rfl, N16q, K16, Pq16_0, Fq16_0⟩, st16⟩ := own_rS X14 rq16
    have N16 := Fr.app N3 N16q
    have Kp16 : Keep h0 T16.heap [] := Kp14.trans K16 all0
    have Z16 : n0 ≤ T16.heap.size := Nat.le_trans Z14 K16.1
    have ne_b14_xb_16 : b14 ≠ xb_16 := Nat.ne_of_lt (Nat.lt_of_lt_of_le A14.lt Pq16_0)
    have A14_c_16 := A14.keep K16
    have F_value_b14_c_16 := F_value_b14.keep K16 nin0
    have F_c_16 := F_coder_b14.keep K16 nin0
    have k17 : Go p.tables e below _ (T16.setTop (mkF m 22 #[.val (.int p0)] [(.int (0 : Int32)), (.ref xb_16), (.ref b14), (.ref b14)])) := fun t ht => st16 t (by
      refine XS.iconst X16.here hx rfl (hb hby d_m47_21) ?_
      exact ht)
    have rq18 := X16.specialBack hx (y := (⟨"java/lang/String", "<init>", "([BB)V"⟩ : MethodName)) rfl hown (mvT hZ (own_w hw 15 rfl)) (mvT hZ (own_w hw 16 rfl)) (mvT hZ (own_w hw 18 rfl)) (by decide) (backOf (W := 1) (rm_initBB l Z a0 hw [] b14 xb_16 (0 : Int32) T16.heap n0 Z16 F_value_b14_c_16 F_c_16 A14_c_16 g_b14) hZ (own_w hw 18 rfl) (own_w hw 2 rfl) (by decide) (by decide)) (g := (mkF m 22 #[.val (.int p0)] [(.int (0 : Int32)), (.ref xb_16), (.ref b14), (.ref b14)])) rfl (by rw [hml]; rfl) (Steps.refl _) (a := b14) (argsL := [(.ref xb_16), (.int (0 : Int32))]) (rest := [(.ref b14)]) (lenOf pd_31 rfl) rfl (by show 2 * 0 + _ ≤ _; exact Nat.le_of_eq rfl) (hb hby d_m47_22) (fun _ _ => ⟨rfl, rfl, (by decide : 2 + 0 ≤ _), (by decide : 5 + 0 ≤ _)⟩)
    obtain ⟨_, T18, L18, X18, ⟨rfl, N18q, K18, Fq18_0, Fq18_1, Fq18_2⟩, st18⟩ := own_r X16 rq18
    have N18 := Fr.app N16 N18q
    have Kp18 : Keep h0 T18.heap [] := Kp16.trans K18 (allS (Or.inr sz_b14) all0)
    have Fq16_0_c_18 := Fq16_0.keep K18 (ninS (Ne.symm ne_b14_xb_16) nin0)
    have k18 : Go p.tables e below _ (T18.setTop (mkF m 25 #[.val (.int p0)] [(.ref b14)])) := st18
    obtain ⟨fs, hr, hrun, hended, hW, hsame⟩ := X18.leave (v := some (.ref b14)) (fun h => by rw [Bd.returns] at h; cases h)
    refine ⟨_, _, castTop (ef_vOf m p0) ((goT k2 (goT k13 (goT k15 (goT k17 k18)))) _ (retR X18 hx Bd.returns (hb hby d_m47_25) hr)), hrun, hended, _, _, rfl, ?_, ⟨_, rfl⟩, hW, hsame.mono (by decide) (by decide)⟩
    show Q_vOf Z p0 G1 h0 n0 _ T18.heap _
    exact ⟨b14, xb_16, xk_16, rfl, N18, Kp18, Fq18_0, Fq18_1, (own_fcast (by rw [own_klo (own_lo1 hc4)]; rfl) Fq18_2), (own_v0 hc4 Fq16_0_c_18)⟩
theorem d_m48_9 : decode jdk_43_method_13_code 9 = .ok (.iload_n 2, 1) := by decide +kernel
theorem d_m48_10 : decode jdk_43_method_13_code 10 = .ok (.aload_n 0, 1) := by decide +kernel
theorem d_m48_11 : decode jdk_43_method_13_code 11 = .ok (.arraylength, 1) := by decide +kernel
theorem d_m48_12 : decode jdk_43_method_13_code 12 = .ok (.if_icmp .ge 20, 3) := by decide +kernel
theorem d_m48_15 : decode jdk_43_method_13_code 15 = .ok (.aload_n 0, 1) := by decide +kernel
theorem d_m48_16 : decode jdk_43_method_13_code 16 = .ok (.iload_n 2, 1) := by decide +kernel
theorem d_m48_17 : decode jdk_43_method_13_code 17 = .ok (.baload, 1) := by decide +kernel
theorem d_m48_18 : decode jdk_43_method_13_code 18 = .ok (.aload_n 1, 1) := by decide +kernel
theorem d_m48_19 : decode jdk_43_method_13_code 19 = .ok (.iload_n 2, 1) := by decide +kernel
theorem d_m48_20 : decode jdk_43_method_13_code 20 = .ok (.baload, 1) := by decide +kernel
theorem d_m48_21 : decode jdk_43_method_13_code 21 = .ok (.if_icmp .eq 5, 3) := by decide +kernel
theorem d_m48_26 : decode jdk_43_method_13_code 26 = .ok (.iinc 2 1, 3) := by decide +kernel
theorem d_m48_29 : decode jdk_43_method_13_code 29 = .ok (.goto (-20), 3) := by decide +kernel
set_option maxRecDepth 65536 in
set_option maxHeartbeats 40000000 in
theorem pc_eqL {p : Program} {l : Launch} {e : Env} {s : State} {m : MethodId} {below : List Frame} {meth : Method} {c : Code} {T0 : State} {locs : List Loc} {Z : State} {a0 : Array Value} {h0 : Heap} {n0 : Nat} (r0 r1 : Addr) (ka kb : ClassId) (ls : List Int32) (zl i : Nat)
    (X0 : Stand p l e (rR 0 0 0 0) s m #[(.ref r0), (.ref r1)] below meth c T0 locs 0 0) (hx : p.tables.exec = Jvm.exec) (hZ : Z.Warmed39 s.vm) (hw : HW a0 Z) (hby : c.code = jdk_43_method_13_code) (hml : c.maxLocals = 3) (hown : s.vm.findClass "java/lang/StringLatin1" = some m.cls) (e0 : T0.heap = h0) (N0 : Fr n0 locs) (Z0 : n0 ≤ h0.size) (Va : own_A Z h0 r0 ka .byte (Int32.ofNat zl) ls) (Vb : own_A Z h0 r1 kb .byte (Int32.ofNat zl) ls) (hi : i < zl) (hz : zl ≤ 64) :
    ∃ (T' : State) (L' : List Loc), Stand p l e (rR 0 0 0 0) s m #[(.ref r0), (.ref r1)] below meth c T' L' 0 0 ∧ Fr n0 L' ∧ T'.heap = h0 ∧ Go p.tables e below (T0.setTop (mkF m 9 #[.val (.ref r0), .val (.ref r1), .val (.int (Int32.ofNat i))] [])) (T'.setTop (mkF m 9 #[.val (.ref r0), .val (.ref r1), .val (.int (Int32.ofNat (i + 1)))] [])) := by
  have k1 : Go p.tables e below (T0.setTop (mkF m 9 #[.val (.ref r0), .val (.ref r1), .val (.int (Int32.ofNat i))] [])) (T0.setTop (mkF m 11 #[.val (.ref r0), .val (.ref r1), .val (.int (Int32.ofNat i))] [(.ref r0), (.int (Int32.ofNat i))])) := by
    intro t ht
    refine XS.iloadN X0.here hx rfl (hb hby d_m48_9) rfl ?_
    refine XS.aloadN X0.here hx rfl (hb hby d_m48_10) rfl rfl ?_
    exact ht
  obtain ⟨cl2, Ar2, q2, S2, M2, H2, G2⟩ := id Va
  have k3 : Go p.tables e below _ (T0.setTop (mkF m 17 #[.val (.ref r0), .val (.ref r1), .val (.int (Int32.ofNat i))] [(.int (Int32.ofNat i)), (.ref r0)])) := goT k1 fun t ht => (by
    refine X0.arraylength hx (by rw [e0]; exact Ar2.1) (State.isArrayOf_alike hZ.alike Ar2.2.1) (g := (mkF m 11 #[.val (.ref r0), .val (.ref r1), .val (.int (Int32.ofNat i))] [(.ref r0), (.int (Int32.ofNat i))])) rfl rfl (hb hby d_m48_11) _ ?_
    rw [len_of S2 M2]
    refine XS.icmpNo X0.here hx rfl (hb hby d_m48_12) rfl (tlt (own_ltk hi (by omega))).2.1 ?_
    refine XS.aloadN X0.here hx rfl (hb hby d_m48_15) rfl rfl ?_
    refine XS.iloadN X0.here hx rfl (hb hby d_m48_16) rfl ?_
    exact ht)
  obtain ⟨cl4, Ar4, q4, S4, M4, H4, G4⟩ := id Va
  have hin4 : ¬ ((Int32.ofNat i) < 0 ∨ cl4.slots.size ≤ ((Int32.ofNat i)).toNatClampNeg) := inb_of S4 ⟨own_nneg (by omega), own_ltk hi (by omega)⟩
  have hat4 : cl4.slots[((Int32.ofNat i)).toNatClampNeg]? = some (.int (ls.getD i 0)) := (H4 _ (Nat.lt_of_not_le fun y => hin4 (Or.inr y))).trans (congrArg some (own_getN ls (by omega)))
  have k5 : Go p.tables e below _ (T0.setTop (mkF m 20 #[.val (.ref r0), .val (.ref r1), .val (.int (Int32.ofNat i))] [(.int (Int32.ofNat i)), (.ref r1), (.int (ls.getD i 0))])) := goT k3 fun t ht => (by
    refine X0.baloadBytes hx (j := (Int32.ofNat i)) (v := (.int (ls.getD i 0))) (by rw [e0]; exact Ar4.1) (State.isArrayOf_alike hZ.alike Ar4.2.1) Ar4.2.2 hin4 hat4 (g := (mkF m 17 #[.val (.ref r0), .val (.ref r1), .val (.int (Int32.ofNat i))] [(.int (Int32.ofNat i)), (.ref r0)])) rfl rfl (hb hby d_m48_17) _ ?_
    refine XS.aloadN X0.here hx rfl (hb hby d_m48_18) rfl rfl ?_
    refine XS.iloadN X0.here hx rfl (hb hby d_m48_19) rfl ?_
    exact ht)
  obtain ⟨cl6, Ar6, q6, S6, M6, H6, G6⟩ := id Vb
  have hin6 : ¬ ((Int32.ofNat i) < 0 ∨ cl6.slots.size ≤ ((Int32.ofNat i)).toNatClampNeg) := inb_of S6 ⟨own_nneg (by omega), own_ltk hi (by omega)⟩
  have hat6 : cl6.slots[((Int32.ofNat i)).toNatClampNeg]? = some (.int (ls.getD i 0)) := (H6 _ (Nat.lt_of_not_le fun y => hin6 (Or.inr y))).trans (congrArg some (own_getN ls (by omega)))
  have k7 : Go p.tables e below _ (T0.setTop (mkF m 29 #[.val (.ref r0), .val (.ref r1), .val (.int ((Int32.ofNat i) + (1 : Int32)))] [])) := goT k5 fun t ht => (by
    refine X0.baloadBytes hx (j := (Int32.ofNat i)) (v := (.int (ls.getD i 0))) (by rw [e0]; exact Ar6.1) (State.isArrayOf_alike hZ.alike Ar6.2.1) Ar6.2.2 hin6 hat6 (g := (mkF m 20 #[.val (.ref r0), .val (.ref r1), .val (.int (Int32.ofNat i))] [(.int (Int32.ofNat i)), (.ref r1), (.int (ls.getD i 0))])) rfl rfl (hb hby d_m48_20) _ ?_
    refine XS.icmpYes X0.here hx rfl (pc0 := 21) (pc' := 26) rfl (hb hby d_m48_21) rfl (teq (rfl : (ls.getD i 0) = (ls.getD i 0))).1 (by decide) (by decide) ?_
    refine XS.iinc X0.here hx rfl (hb hby d_m48_26) rfl (l' := #[.val (.ref r0), .val (.ref r1), .val (.int ((Int32.ofNat i) + (1 : Int32)))]) rfl ?_
    exact ht)
  have k8 : Go p.tables e below _ (T0.setTop (mkF m 29 #[.val (.ref r0), .val (.ref r1), .val (.int (Int32.ofNat (i + 1)))] [])) := goT k7 (by rw [own_add1]; exact fun _ h => h)
  have k9 : Go p.tables e below _ (T0.setTop (mkF m 9 #[.val (.ref r0), .val (.ref r1), .val (.int (Int32.ofNat (i + 1)))] [])) := goT k8 fun t ht => (by
    refine XS.goto X0.here hx rfl (pc0 := 29) (pc' := 9) rfl (hb hby d_m48_29) (by decide) (by decide) ?_
    exact ht)
  exact ⟨T0, _, X0, N0, e0, k9⟩
theorem lp_eqL {p : Program} {l : Launch} {e : Env} {s : State} {m : MethodId} {below : List Frame} {meth : Method} {c : Code} {Z : State} {a0 : Array Value} {n0 : Nat} {h0 : Heap} (r0 r1 : Addr) (ka kb : ClassId) (ls : List Int32) (zl : Nat) (hx : p.tables.exec = Jvm.exec) (hZ : Z.Warmed39 s.vm) (hw : HW a0 Z) (hby : c.code = jdk_43_method_13_code) (hml : c.maxLocals = 3) (hown : s.vm.findClass "java/lang/StringLatin1" = some m.cls) (hz : zl ≤ 64) (Z0 : n0 ≤ h0.size) (Va : own_A Z h0 r0 ka .byte (Int32.ofNat zl) ls) (Vb : own_A Z h0 r1 kb .byte (Int32.ofNat zl) ls) (r : Nat) :
    ∀ (i : Nat) (T0 : State) (locs : List Loc) (_ : Stand p l e (rR 0 0 0 0) s m #[(.ref r0), (.ref r1)] below meth c T0 locs 0 0) (_ : T0.heap = h0) (_ : Fr n0 locs) (_ : i + r = zl), ∃ (T' : State) (L' : List Loc), Stand p l e (rR 0 0 0 0) s m #[(.ref r0), (.ref r1)] below meth c T' L' 0 0 ∧ Fr n0 L' ∧ T'.heap = h0 ∧ Go p.tables e below (T0.setTop (mkF m 9 #[.val (.ref r0), .val (.ref r1), .val (.int (Int32.ofNat i))] [])) (T'.setTop (mkF m 9 #[.val (.ref r0), .val (.ref r1), .val (.int (Int32.ofNat zl))] [])) := by
  induction r with
  | zero =>
    intro i T0 locs X0 e0 N0 hir
    obtain rfl : i = zl := by omega
    exact ⟨T0, locs, X0, N0, e0, fun _ h => h⟩
  | succ r ih =>
    intro i T0 locs X0 e0 N0 hir
    obtain ⟨T1, L1, X1, N1, e1, k1⟩ := pc_eqL r0 r1 ka kb ls zl i X0 hx hZ hw hby hml hown e0 N0 Z0 Va Vb (by omega) hz
    obtain ⟨T2, L2, X2, N2, e2, k2⟩ := ih (i + 1) T1 L1 X1 e1 N1 (by omega)
    exact ⟨T2, L2, X2, N2, e2, goT k1 k2⟩
theorem d_m48_0 : decode jdk_43_method_13_code 0 = .ok (.aload_n 0, 1) := by decide +kernel
theorem d_m48_1 : decode jdk_43_method_13_code 1 = .ok (.arraylength, 1) := by decide +kernel
theorem d_m48_2 : decode jdk_43_method_13_code 2 = .ok (.aload_n 1, 1) := by decide +kernel
theorem d_m48_3 : decode jdk_43_method_13_code 3 = .ok (.arraylength, 1) := by decide +kernel
theorem d_m48_4 : decode jdk_43_method_13_code 4 = .ok (.if_icmp .ne 30, 3) := by decide +kernel
theorem d_m48_7 : decode jdk_43_method_13_code 7 = .ok (.iconst 0, 1) := by decide +kernel
theorem d_m48_8 : decode jdk_43_method_13_code 8 = .ok (.istore_n 2, 1) := by decide +kernel
theorem d_m48_32 : decode jdk_43_method_13_code 32 = .ok (.iconst 1, 1) := by decide +kernel
theorem d_m48_33 : decode jdk_43_method_13_code 33 = .ok (.ireturn, 1) := by decide +kernel
theorem ef_eqW (m : MethodId) (x0 : Addr) (x1 : Addr) : entryFrame m #[(.ref x0), (.ref x1)] 3 = mkF m 0 #[.val (.ref x0), .val (.ref x1), .unset] [] := by first | (simp [entryFrame, mkF, argsToLocals, Value.category]; done) | rfl
def Q_eqW (Z : State) (r0 : Addr) (r1 : Addr) (ka : ClassId) (kb : ClassId) (zl : Nat) (ls : List Int32) (h0 : Heap) (n0 : Nat) (v : Option Value) (h : Heap) (L : List Loc) : Prop := v = some (.int (1 : Int32)) ∧ Fr n0 L ∧ h = h0
set_option maxRecDepth 65536 in
set_option maxHeartbeats 40000000 in
theorem rm_eqW (l : Launch) (Z : State) (a0 : Array Value) (hw : HW a0 Z) (ws : List Jvm.Cond) (r0 : Addr) (r1 : Addr) (ka : ClassId) (kb : ClassId) (zl : Nat) (ls : List Int32) (h0 : Heap) (n0 : Nat) (Z0 : n0 ≤ h0.size) (Va : own_A Z h0 r0 ka .byte (Int32.ofNat zl) ls) (Vb : own_A Z h0 r1 kb .byte (Int32.ofNat zl) ls) (hz : zl ≤ 64) :
    own_M l Z h0 (⟨"java/lang/StringLatin1", "equals", "([B[B)Z"⟩ : MethodName) jdk_43_method_13_code 3 (some .boolean) ws (rR 0 0 0 0) #[(.ref r0), (.ref r1)] (Q_eqW Z r0 r1 ka kb zl ls h0 n0) := by
  refine own_body (own := "java/lang/StringLatin1") (plainFor_of_name pn_3) rfl ?_
  intro p e s m below meth c s₁ Bd hZ hh hx hby hml hown X0 e0
  have N0 := Fr.nil n0
  have k1 : Go p.tables e below (s₁.setTop (mkF m 0 #[.val (.ref r0), .val (.ref r1), .unset] [])) (s₁.setTop (mkF m 1 #[.val (.ref r0), .val (.ref r1), .unset] [(.ref r0)])) := by
    intro t ht
    refine XS.aloadN X0.here hx rfl (hb hby d_m48_0) rfl rfl ?_
    exact ht
  obtain ⟨cl2, Ar2, q2, S2, M2, H2, G2⟩ := id Va
  have k3 : Go p.tables e below _ (s₁.setTop (mkF m 3 #[.val (.ref r0), .val (.ref r1), .unset] [(.ref r1), (.int (Int32.ofNat zl))])) := goT k1 fun t ht => (by
    refine X0.arraylength hx (by rw [e0]; exact Ar2.1) (State.isArrayOf_alike hZ.alike Ar2.2.1) (g := (mkF m 1 #[.val (.ref r0), .val (.ref r1), .unset] [(.ref r0)])) rfl rfl (hb hby d_m48_1) _ ?_
    rw [len_of S2 M2]
    refine XS.aloadN X0.here hx rfl (hb hby d_m48_2) rfl rfl ?_
    exact ht)
  obtain ⟨cl4, Ar4, q4, S4, M4, H4, G4⟩ := id Vb
  have k5 : Go p.tables e below _ (s₁.setTop (mkF m 9 #[.val (.ref r0), .val (.ref r1), .val (.int (0 : Int32))] [])) := goT k3 fun t ht => (by
    refine X0.arraylength hx (by rw [e0]; exact Ar4.1) (State.isArrayOf_alike hZ.alike Ar4.2.1) (g := (mkF m 3 #[.val (.ref r0), .val (.ref r1), .unset] [(.ref r1), (.int (Int32.ofNat zl))])) rfl rfl (hb hby d_m48_3) _ ?_
    rw [len_of S4 M4]
    refine XS.icmpNo X0.here hx rfl (hb hby d_m48_4) rfl (teq (rfl : (Int32.ofNat zl) = (Int32.ofNat zl))).2 ?_
    refine XS.iconst X0.here hx rfl (hb hby d_m48_7) ?_
    refine XS.istoreN X0.here hx rfl (hb hby d_m48_8) rfl (l' := #[.val (.ref r0), .val (.ref r1), .val (.int (0 : Int32))]) rfl ?_
    exact ht)
  obtain ⟨T6, L6, X6, N6, e6, st6⟩ := lp_eqL r0 r1 ka kb ls zl hx hZ hw hby hml hown hz Z0 Va Vb zl 0 s₁ _ X0 e0 N0 (by omega)
  have k7 : Go p.tables e below _ (T6.setTop (mkF m 11 #[.val (.ref r0), .val (.ref r1), .val (.int (Int32.ofNat zl))] [(.ref r0), (.int (Int32.ofNat zl))])) := goT st6 fun t ht => (by
    refine XS.iloadN X6.here hx rfl (hb hby d_m48_9) rfl ?_
    refine XS.aloadN X6.here hx rfl (hb hby d_m48_10) rfl rfl ?_
    exact ht)
  obtain ⟨cl8, Ar8, q8, S8, M8, H8, G8⟩ := id Va
  have k9 : Go p.tables e below _ (T6.setTop (mkF m 33 #[.val (.ref r0), .val (.ref r1), .val (.int (Int32.ofNat zl))] [(.int (1 : Int32))])) := goT k7 fun t ht => (by
    refine X6.arraylength hx (by rw [e6]; exact Ar8.1) (State.isArrayOf_alike hZ.alike Ar8.2.1) (g := (mkF m 11 #[.val (.ref r0), .val (.ref r1), .val (.int (Int32.ofNat zl))] [(.ref r0), (.int (Int32.ofNat zl))])) rfl rfl (hb hby d_m48_11) _ ?_
    rw [len_of S8 M8]
    refine XS.icmpYes X6.here hx rfl (pc0 := 12) (pc' := 32) rfl (hb hby d_m48_12) rfl (flt (by first | exact own_irr _ | exact fun q => Int64.lt_irrefl q : ¬ ((Int32.ofNat zl) < (Int32.ofNat zl)))).2.1 (by decide) (by decide) ?_
    refine XS.iconst X6.here hx rfl (hb hby d_m48_32) ?_
    exact ht)
  obtain ⟨fs, hr, hrun, hended, hW, hsame⟩ := X6.leave (v := some (.int (1 : Int32))) (fun h => by rw [Bd.returns] at h; cases h)
  refine ⟨_, _, castTop (ef_eqW m r0 r1) ((goT k5 k9) _ (retN X6 hx (t := .boolean) Bd.returns (by simp) (hb hby d_m48_33) hr)), hrun, hended, _, _, rfl, ?_, ⟨_, rfl⟩, hW, hsame.mono (by decide) (by decide)⟩
  show Q_eqW Z r0 r1 ka kb zl ls h0 n0 _ T6.heap _
  rw [e6]
  exact ⟨rfl, N6, rfl⟩
theorem pd_32 : parseMethodDescriptor "([B[B)Z" = some ⟨[(.array .byte), (.array .byte)], some .boolean⟩ := by decide +kernel
theorem d_m49_0 : decode jdk_42_method_66_code 0 = .ok (.aload_n 0, 1) := by decide +kernel
theorem d_m49_1 : decode jdk_42_method_66_code 1 = .ok (.aload_n 1, 1) := by decide +kernel
theorem d_m49_2 : decode jdk_42_method_66_code 2 = .ok (.if_acmp .ne 5, 3) := by decide +kernel
theorem d_m49_5 : decode jdk_42_method_66_code 5 = .ok (.iconst 1, 1) := by decide +kernel
theorem d_m49_6 : decode jdk_42_method_66_code 6 = .ok (.ireturn, 1) := by decide +kernel
theorem d_m49_7 : decode jdk_42_method_66_code 7 = .ok (.aload_n 1, 1) := by decide +kernel
theorem d_m49_8 : decode jdk_42_method_66_code 8 = .ok (.instanceof 10, 3) := by decide +kernel
theorem d_m49_11 : decode jdk_42_method_66_code 11 = .ok (.ifCond .eq 43, 3) := by decide +kernel
theorem d_m49_14 : decode jdk_42_method_66_code 14 = .ok (.aload_n 1, 1) := by decide +kernel
theorem d_m49_15 : decode jdk_42_method_66_code 15 = .ok (.checkcast 10, 3) := by decide +kernel
theorem d_m49_18 : decode jdk_42_method_66_code 18 = .ok (.astore_n 2, 1) := by decide +kernel
theorem d_m49_19 : decode jdk_42_method_66_code 19 = .ok (.getstatic 38, 3) := by decide +kernel
theorem d_m49_22 : decode jdk_42_method_66_code 22 = .ok (.ifCond .eq 14, 3) := by decide +kernel
theorem d_m49_25 : decode jdk_42_method_66_code 25 = .ok (.aload_n 0, 1) := by decide +kernel
theorem d_m49_26 : decode jdk_42_method_66_code 26 = .ok (.getfield 15, 3) := by decide +kernel
theorem d_m49_29 : decode jdk_42_method_66_code 29 = .ok (.aload_n 2, 1) := by decide +kernel
theorem d_m49_30 : decode jdk_42_method_66_code 30 = .ok (.getfield 15, 3) := by decide +kernel
theorem d_m49_33 : decode jdk_42_method_66_code 33 = .ok (.if_icmp .ne 21, 3) := by decide +kernel
theorem d_m49_36 : decode jdk_42_method_66_code 36 = .ok (.aload_n 0, 1) := by decide +kernel
theorem d_m49_37 : decode jdk_42_method_66_code 37 = .ok (.getfield 9, 3) := by decide +kernel
theorem d_m49_40 : decode jdk_42_method_66_code 40 = .ok (.aload_n 2, 1) := by decide +kernel
theorem d_m49_41 : decode jdk_42_method_66_code 41 = .ok (.getfield 9, 3) := by decide +kernel
theorem d_m49_44 : decode jdk_42_method_66_code 44 = .ok (.invokestatic 541, 3) := by decide +kernel
theorem d_m49_47 : decode jdk_42_method_66_code 47 = .ok (.ifCond .eq 7, 3) := by decide +kernel
theorem d_m49_50 : decode jdk_42_method_66_code 50 = .ok (.iconst 1, 1) := by decide +kernel
theorem d_m49_51 : decode jdk_42_method_66_code 51 = .ok (.goto 4, 3) := by decide +kernel
theorem d_m49_55 : decode jdk_42_method_66_code 55 = .ok (.ireturn, 1) := by decide +kernel
theorem ef_eqS (m : MethodId) (x0 : Addr) (x1 : Addr) : entryFrame m #[(.ref x0), (.ref x1)] 3 = mkF m 0 #[.val (.ref x0), .val (.ref x1), .unset] [] := by first | (simp [entryFrame, mkF, argsToLocals, Value.category]; done) | rfl
def Q_eqS (Z : State) (r0 : Addr) (r1 : Addr) (t0 : Addr) (kz0 : ClassId) (t1 : Addr) (kz1 : ClassId) (cs : List Int32) (G1 : Int32) (h0 : Heap) (n0 : Nat) (v : Option Value) (h : Heap) (L : List Loc) : Prop := v = some (.int (1 : Int32)) ∧ Fr n0 L ∧ h = h0
set_option maxRecDepth 65536 in
set_option maxHeartbeats 40000000 in
theorem rm_eqS (l : Launch) (Z : State) (a0 : Array Value) (hw : HW a0 Z) (ws : List Jvm.Cond) (r0 : Addr) (r1 : Addr) (t0 : Addr) (kz0 : ClassId) (t1 : Addr) (kz1 : ClassId) (cs : List Int32) (G1 : Int32) (h0 : Heap) (n0 : Nat) (Z0 : n0 ≤ h0.size) (E_r0 : Exa Z h0 r0 "java/lang/String") (Fv_r0 : f1 Z h0 r0 (.ref t0)) (Fc_r0 : f0 Z h0 r0 (.int (own_k cs))) (E_r1 : Exa Z h0 r1 "java/lang/String") (Fv_r1 : f1 Z h0 r1 (.ref t1)) (Fc_r1 : f0 Z h0 r1 (.int (own_k cs))) (S_CS : f12 Z h0 (.int G1)) (V_t0 : own_A Z h0 t0 kz0 .byte (Int32.ofNat (own_n cs)) (own_s cs)) (V_t1 : own_A Z h0 t1 kz1 .byte (Int32.ofNat (own_n cs)) (own_s cs)) (P5 : ¬ (G1 = (0 : Int32))) (hcs : cs.length ≤ 24) :
    own_M l Z h0 (⟨"java/lang/String", "equals", "(Ljava/lang/Object;)Z"⟩ : MethodName) jdk_42_method_66_code 3 (some .boolean) ws (rR 1 0 0 14) #[(.ref r0), (.ref r1)] (Q_eqS Z r0 r1 t0 kz0 t1 kz1 cs G1 h0 n0) := by
  refine own_body (own := "java/lang/String") (plainFor_of_name pn_2) rfl ?_
  intro p e s m below meth c s₁ Bd hZ hh hx hby hml hown X0 e0
  have N0 := Fr.nil n0
  have k1 : Go p.tables e below (s₁.setTop (mkF m 0 #[.val (.ref r0), .val (.ref r1), .unset] [])) (s₁.setTop (mkF m 2 #[.val (.ref r0), .val (.ref r1), .unset] [(.ref r1), (.ref r0)])) := by
    intro t ht
    refine XS.aloadN X0.here hx rfl (hb hby d_m49_0) rfl rfl ?_
    refine XS.aloadN X0.here hx rfl (hb hby d_m49_1) rfl rfl ?_
    exact ht
  by_cases hc2 : r0 = r1
  · have k3 : Go p.tables e below _ (s₁.setTop (mkF m 6 #[.val (.ref r0), .val (.ref r1), .unset] [(.int (1 : Int32))])) := goT k1 fun t ht => (by
      refine Jvm.RoadKit.acmp (g := (mkF m 2 #[.val (.ref r0), .val (.ref r1), .unset] [(.ref r1), (.ref r0)])) X0 hx rfl rfl rfl (pc0 := 2) (pc' := 5) (same := true) rfl (hb hby d_m49_2) rfl (decide_eq_true (congrArg Value.ref hc2)) (by decide) (by decide) ?_
      refine XS.iconst X0.here hx rfl (hb hby d_m49_5) ?_
      exact ht)
    obtain ⟨fs, hr, hrun, hended, hW, hsame⟩ := X0.leave (v := some (.int (1 : Int32))) (fun h => by rw [Bd.returns] at h; cases h)
    refine ⟨_, _, castTop (ef_eqS m r0 r1) (k3 _ (retN X0 hx (t := .boolean) Bd.returns (by simp) (hb hby d_m49_6) hr)), hrun, hended, _, _, rfl, ?_, ⟨_, rfl⟩, hW, hsame.mono (by decide) (by decide)⟩
    show Q_eqS Z r0 r1 t0 kz0 t1 kz1 cs G1 h0 n0 _ s₁.heap _
    rw [e0]
    exact ⟨rfl, N0, rfl⟩
  · have k4 : Go p.tables e below _ (s₁.setTop (mkF m 8 #[.val (.ref r0), .val (.ref r1), .unset] [(.ref r1)])) := goT k1 fun t ht => (by
      refine Jvm.RoadKit.acmp (g := (mkF m 2 #[.val (.ref r0), .val (.ref r1), .unset] [(.ref r1), (.ref r0)])) X0 hx rfl rfl rfl (pc0 := 2) (pc' := 7) (same := false) rfl (hb hby d_m49_2) rfl (decide_eq_false fun q => hc2 (Value.ref.inj q)) (by decide) (by decide) ?_
      refine XS.aloadN X0.here hx rfl (hb hby d_m49_7) rfl rfl ?_
      exact ht)
    obtain ⟨T5, X5, e5, st5⟩ := instY X0 hx hZ hown (own_w hw 9 rfl) e0 (Ins.self E_r1) (g := (mkF m 8 #[.val (.ref r0), .val (.ref r1), .unset] [(.ref r1)])) rfl rfl (hb hby d_m49_8)
    have k6 : Go p.tables e below _ (T5.setTop (mkF m 15 #[.val (.ref r0), .val (.ref r1), .unset] [(.ref r1)])) := fun t ht => st5 t (by
      refine XS.ifNo X5.here hx rfl (hb hby d_m49_11) rfl ((if0 _ _).trans (feq (by decide : ¬ ((1 : Int32) = (0 : Int32)))).1) ?_
      refine XS.aloadN X5.here hx rfl (hb hby d_m49_14) rfl rfl ?_
      exact ht)
    obtain ⟨T7, X7, e7, st7⟩ := castY X5 hx hZ hown (own_w hw 9 rfl) e5 (Ins.self E_r1) (g := (mkF m 15 #[.val (.ref r0), .val (.ref r1), .unset] [(.ref r1)])) rfl rfl (hb hby d_m49_15)
    have k8 : Go p.tables e below _ (T7.setTop (mkF m 19 #[.val (.ref r0), .val (.ref r1), .val (.ref r1)] [])) := fun t ht => st7 t (by
      refine XS.astoreN X7.here hx rfl (hb hby d_m49_18) rfl rfl (l' := #[.val (.ref r0), .val (.ref r1), .val (.ref r1)]) rfl ?_
      exact ht)
    obtain ⟨T9, X9, e9, st9⟩ := getS2 X7 hx hZ hown (host := "") (Or.inl (own_w hw 4 rfl)) Via.refl e7 S_CS (g := (mkF m 19 #[.val (.ref r0), .val (.ref r1), .val (.ref r1)] [])) rfl (hb hby d_m49_19)
    have k10 : Go p.tables e below _ (T9.setTop (mkF m 26 #[.val (.ref r0), .val (.ref r1), .val (.ref r1)] [(.ref r0)])) := fun t ht => st9 t (by
      refine XS.ifNo X9.here hx rfl (hb hby d_m49_22) rfl ((if0 _ _).trans (feq P5).1) ?_
      refine XS.aloadN X9.here hx rfl (hb hby d_m49_25) rfl rfl ?_
      exact ht)
    obtain ⟨T11, X11, e11, st11⟩ := getF X9 hx hZ hown (host := "") (Or.inl (own_w hw 24 rfl)) Via.refl e9 Fc_r0 (g := (mkF m 26 #[.val (.ref r0), .val (.ref r1), .val (.ref r1)] [(.ref r0)])) rfl rfl (hb hby d_m49_26)
    have k12 : Go p.tables e below _ (T11.setTop (mkF m 30 #[.val (.ref r0), .val (.ref r1), .val (.ref r1)] [(.ref r1), (.int (own_k cs))])) := fun t ht => st11 t (by
      refine XS.aloadN X11.here hx rfl (hb hby d_m49_29) rfl rfl ?_
      exact ht)
    obtain ⟨T13, X13, e13, st13⟩ := getF X11 hx hZ hown (host := "") (Or.inl (own_w hw 24 rfl)) Via.refl e11 Fc_r1 (g := (mkF m 30 #[.val (.ref r0), .val (.ref r1), .val (.ref r1)] [(.ref r1), (.int (own_k cs))])) rfl rfl (hb hby d_m49_30)
    have k14 : Go p.tables e below _ (T13.setTop (mkF m 37 #[.val (.ref r0), .val (.ref r1), .val (.ref r1)] [(.ref r0)])) := fun t ht => st13 t (by
      refine XS.icmpNo X13.here hx rfl (hb hby d_m49_33) rfl (teq (rfl : (own_k cs) = (own_k cs))).2 ?_
      refine XS.aloadN X13.here hx rfl (hb hby d_m49_36) rfl rfl ?_
      exact ht)
    obtain ⟨T15, X15, e15, st15⟩ := getF X13 hx hZ hown (host := "") (Or.inl (own_w hw 22 rfl)) Via.refl e13 Fv_r0 (g := (mkF m 37 #[.val (.ref r0), .val (.ref r1), .val (.ref r1)] [(.ref r0)])) rfl rfl (hb hby d_m49_37)
    have k16 : Go p.tables e below _ (T15.setTop (mkF m 41 #[.val (.ref r0), .val (.ref r1), .val (.ref r1)] [(.ref r1), (.ref t0)])) := fun t ht => st15 t (by
      refine XS.aloadN X15.here hx rfl (hb hby d_m49_40) rfl rfl ?_
      exact ht)
    obtain ⟨T17, X17, e17, st17⟩ := getF X15 hx hZ hown (host := "") (Or.inl (own_w hw 22 rfl)) Via.refl e15 Fv_r1 (g := (mkF m 41 #[.val (.ref r0), .val (.ref r1), .val (.ref r1)] [(.ref r1), (.ref t0)])) rfl rfl (hb hby d_m49_41)
    have k17 : Go p.tables e below _ (T17.setTop (mkF m 44 #[.val (.ref r0), .val (.ref r1), .val (.ref r1)] [(.ref t1), (.ref t0)])) := st17
    have rq18 := Jvm.LawKit.callS X17 hx (y := (⟨"java/lang/StringLatin1", "equals", "([B[B)Z"⟩ : MethodName)) hown (mvT hZ (own_w hw 188 rfl)) (mvT hZ (own_w hw 189 rfl)) (mvT hZ (own_w hw 7 rfl)) (mvT hZ (own_w hw 190 rfl)) (by decide) (backOf (W := 0) (rm_eqW l Z a0 hw [] t0 t1 kz0 kz1 (own_n cs) (own_s cs) h0 n0 Z0 V_t0 V_t1 (Nat.le_trans (own_nle cs) (by omega) : (own_n cs) ≤ 64)) hZ (own_w hw 190 rfl) (own_w hw 7 rfl) (by decide) (by decide)) (g := (mkF m 44 #[.val (.ref r0), .val (.ref r1), .val (.ref r1)] [(.ref t1), (.ref t0)])) rfl (by rw [hml]; rfl) (argsL := [(.ref t0), (.ref t1)]) (rest := []) (lenOf pd_32 rfl) rfl (by show 2 * 0 + _ ≤ _; exact Nat.le_of_eq rfl) (hb hby d_m49_44) (fun _ _ => ⟨rfl, e17, (by decide : 0 + 0 ≤ _), (by decide : 0 + 0 ≤ _)⟩)
    obtain ⟨_, T18, L18, X18, ⟨rfl, N18q, eq18⟩, st18⟩ := own_rS X17 rq18
    have N18 := Fr.app N0 N18q
    have k19 : Go p.tables e below _ (T18.setTop (mkF m 55 #[.val (.ref r0), .val (.ref r1), .val (.ref r1)] [(.int (1 : Int32))])) := fun t ht => st18 t (by
      refine XS.ifNo X18.here hx rfl (hb hby d_m49_47) rfl ((if0 _ _).trans (feq (by decide : ¬ ((1 : Int32) = (0 : Int32)))).1) ?_
      refine XS.iconst X18.here hx rfl (hb hby d_m49_50) ?_
      refine XS.goto X18.here hx rfl (pc0 := 51) (pc' := 55) rfl (hb hby d_m49_51) (by decide) (by decide) ?_
      exact ht)
    obtain ⟨fs, hr, hrun, hended, hW, hsame⟩ := X18.leave (v := some (.int (1 : Int32))) (fun h => by rw [Bd.returns] at h; cases h)
    refine ⟨_, _, castTop (ef_eqS m r0 r1) ((goT k4 (goT k6 (goT k8 (goT k10 (goT k12 (goT k14 (goT k16 (goT k17 k19)))))))) _ (retN X18 hx (t := .boolean) Bd.returns (by simp) (hb hby d_m49_55) hr)), hrun, hended, _, _, rfl, ?_, ⟨_, rfl⟩, hW, hsame.mono (by decide) (by decide)⟩
    show Q_eqS Z r0 r1 t0 kz0 t1 kz1 cs G1 h0 n0 _ T18.heap _
    rw [eq18]
    exact ⟨rfl, N18, rfl⟩
theorem d_m50_0 : decode prog_7_method_1_code 0 = .ok (.aload_n 0, 1) := by decide +kernel
theorem d_m50_1 : decode prog_7_method_1_code 1 = .ok (.invokespecial 1, 3) := by decide +kernel
theorem d_m50_4 : decode prog_7_method_1_code 4 = .ok (.aload_n 0, 1) := by decide +kernel
theorem d_m50_5 : decode prog_7_method_1_code 5 = .ok (.aload_n 1, 1) := by decide +kernel
theorem d_m50_6 : decode prog_7_method_1_code 6 = .ok (.putfield 7, 3) := by decide +kernel
theorem d_m50_9 : decode prog_7_method_1_code 9 = .ok (.aload_n 0, 1) := by decide +kernel
theorem d_m50_10 : decode prog_7_method_1_code 10 = .ok (.iload_n 2, 1) := by decide +kernel
theorem d_m50_11 : decode prog_7_method_1_code 11 = .ok (.putfield 13, 3) := by decide +kernel
theorem d_m50_14 : decode prog_7_method_1_code 14 = .ok (.return_, 1) := by decide +kernel
theorem pn_9 : plainName "com/example/fieldveil/fieldveil/Placeholder" = true := by first | (simp [plainName, overriddenIn]; done) | decide +kernel
theorem ef_phI (m : MethodId) (x0 : Addr) (x1 : Addr) (x2 : Int32) : entryFrame m #[(.ref x0), (.ref x1), (.int x2)] 3 = mkF m 0 #[.val (.ref x0), .val (.ref x1), .val (.int x2)] [] := by first | (simp [entryFrame, mkF, argsToLocals, Value.category]; done) | rfl
def Q_phI (Z : State) (r0 : Addr) (r1 : Addr) (p2 : Int32) (h0 : Heap) (n0 : Nat) (v : Option Value) (h : Heap) (L : List Loc) : Prop := v = none ∧ Fr n0 L ∧ Keep h0 h [r0] ∧ Exa Z h r0 "com/example/fieldveil/fieldveil/Placeholder" ∧ f6 Z h r0 (.ref r1) ∧ f7 Z h r0 (.int (nar .boolean p2))
set_option maxRecDepth 65536 in
set_option maxHeartbeats 40000000 in
theorem rm_phI (l : Launch) (Z : State) (a0 : Array Value) (hw : HW a0 Z) (ws : List Jvm.Cond) (r0 : Addr) (r1 : Addr) (p2 : Int32) (h0 : Heap) (n0 : Nat) (Z0 : n0 ≤ h0.size) (F_name : f6 Z h0 r0 .null) (F_json : f7 Z h0 r0 (.int (0 : Int32))) (E_r0 : Exa Z h0 r0 "com/example/fieldveil/fieldveil/Placeholder") (g_r0 : n0 ≤ r0) :
    own_M l Z h0 (⟨"com/example/fieldveil/fieldveil/Placeholder", "<init>", "(Ljava/lang/String;Z)V"⟩ : MethodName) prog_7_method_1_code 3 none ws (rR 2 0 0 24) #[(.ref r0), (.ref r1), (.int p2)] (Q_phI Z r0 r1 p2 h0 n0) := by
  refine own_body (own := "com/example/fieldveil/fieldveil/Placeholder") (plainFor_of_name pn_9) rfl ?_
  intro p e s m below meth c s₁ Bd hZ hh hx hby hml hown X0 e0
  have hnm := (name_of_methodNamed Bd.named Bd.method).1
  have N0 := Fr.nil n0
  have k1 : Go p.tables e below (s₁.setTop (mkF m 0 #[.val (.ref r0), .val (.ref r1), .val (.int p2)] [])) (s₁.setTop (mkF m 1 #[.val (.ref r0), .val (.ref r1), .val (.int p2)] [(.ref r0)])) := by
    intro t ht
    refine XS.aloadN X0.here hx rfl (hb hby d_m50_0) rfl rfl ?_
    exact ht
  have rq2 := X0.specialBack hx (y := (⟨"java/lang/Record", "<init>", "()V"⟩ : MethodName)) rfl hown (mvT hZ (own_w hw 32 rfl)) (mvT hZ (own_w hw 33 rfl)) (mvT hZ (own_w hw 36 rfl)) (by decide) (backOf (W := 0) (rm_recordInit l Z a0 hw [] r0 h0 n0 Z0 ) hZ (own_w hw 36 rfl) (own_w hw 35 rfl) (by decide) (by decide)) (g := (mkF m 1 #[.val (.ref r0), .val (.ref r1), .val (.int p2)] [(.ref r0)])) rfl (by rw [hml]; rfl) (Steps.refl _) (a := r0) (argsL := []) (rest := []) (lenOf pd_12 rfl) rfl (by show 2 * 0 + _ ≤ _; exact Nat.le_of_eq rfl) (hb hby d_m50_1) (fun _ _ => ⟨rfl, e0, (by decide : 0 + 0 ≤ _), (by decide : 0 + 0 ≤ _)⟩)
  obtain ⟨_, T2, L2, X2, ⟨rfl, N2q, eq2⟩, st2⟩ := own_r X0 rq2
  have N2 := Fr.app N0 N2q
  have k3 : Go p.tables e below _ (T2.setTop (mkF m 6 #[.val (.ref r0), .val (.ref r1), .val (.int p2)] [(.ref r1), (.ref r0)])) := fun t ht => st2 t (by
    refine XS.aloadN X2.here hx rfl (hb hby d_m50_4) rfl rfl ?_
    refine XS.aloadN X2.here hx rfl (hb hby d_m50_5) rfl rfl ?_
    exact ht)
  obtain ⟨T4, h4, X4, e4, W4, st4⟩ := putF X2 hx hZ hown (host := "") (Or.inl (own_w hw 38 rfl)) Via.refl eq2 F_name E_r0 (Or.inr ⟨(own_w hw 39 rfl), rfl, hnm⟩) (own_w hw 27 rfl) (ty := (.object "java/lang/String")) (by decide) rfl rfl (g := (mkF m 6 #[.val (.ref r0), .val (.ref r1), .val (.int p2)] [(.ref r1), (.ref r0)])) rfl rfl (hb hby d_m50_6)
  have Kp4 : Keep h0 h4 [r0] := (Keep.refl h0 [r0]).wr W4 (Or.inl (by simp))
  have F_name_c_4 := F_name.same W4
  have F_json_c_4 := F_json.other W4 (Or.inr (slot_ne (Or.inr (own_w hw 41 rfl)) (Or.inr (own_w hw 39 rfl)) (by decide) (t := .boolean) (t' := (.object "java/lang/String")) (by decide) (by decide)))
  have E_r0_c_4 := E_r0.wr W4
  have N4 := Fr.snoc X4 N2 g_r0
  have k5 : Go p.tables e below _ (T4.setTop (mkF m 11 #[.val (.ref r0), .val (.ref r1), .val (.int p2)] [(.int p2), (.ref r0)])) := fun t ht => st4 t (by
    refine XS.aloadN X4.here hx rfl (hb hby d_m50_9) rfl rfl ?_
    refine XS.iloadN X4.here hx rfl (hb hby d_m50_10) rfl ?_
    exact ht)
  obtain ⟨T6, h6, X6, e6, W6, st6⟩ := putFN X4 hx hZ hown (own_w hw 40 rfl) Via.refl e4 F_json_c_4 E_r0_c_4 (Or.inr ⟨(own_w hw 41 rfl), rfl, hnm⟩) (own_w hw 27 rfl) (ty := .boolean) (v' := (.int (nar .boolean p2))) (by decide) rfl (fits_nar_bool _) (g := (mkF m 11 #[.val (.ref r0), .val (.ref r1), .val (.int p2)] [(.int p2), (.ref r0)])) rfl rfl (hb hby d_m50_11)
  have Kp6 : Keep h0 h6 [r0] := Kp4.wr W6 (Or.inl (by simp))
  have F_name_c_6 := F_name_c_4.other W6 (Or.inr (slot_ne (Or.inr (own_w hw 39 rfl)) (Or.inr (own_w hw 41 rfl)) (by decide) (t := (.object "java/lang/String")) (t' := .boolean) (by decide) (by decide)))
  have F_json_c_6 := F_json_c_4.same W6
  have E_r0_c_6 := E_r0_c_4.wr W6
  have N6 := Fr.snoc X6 N4 g_r0
  have k6 : Go p.tables e below _ (T6.setTop (mkF m 14 #[.val (.ref r0), .val (.ref r1), .val (.int p2)] [])) := st6
  obtain ⟨fs, hr, hrun, hended, hW, hsame⟩ := X6.leave (v := none) (fun _ => rfl)
  refine ⟨_, _, castTop (ef_phI m r0 r1 p2) ((goT k1 (goT k3 (goT k5 k6))) _ (X6.returnOut hx Bd.returns (hb hby d_m50_14) hr)), hrun, hended, _, _, rfl, ?_, ⟨_, rfl⟩, hW, hsame.mono (by decide) (by decide)⟩
  show Q_phI Z r0 r1 p2 h0 n0 _ T6.heap _
  rw [e6]
  exact ⟨rfl, N6, Kp6, E_r0_c_6, F_name_c_6, F_json_c_6⟩
theorem pd_33 : parseMethodDescriptor "(Ljava/lang/String;)Ljava/lang/StringBuilder;" = some ⟨[(.object "java/lang/String")], some (.object "java/lang/StringBuilder")⟩ := by decide +kernel
theorem pd_34 : parseMethodDescriptor "()Ljava/lang/String;" = some ⟨[], some (.object "java/lang/String")⟩ := by decide +kernel
theorem d_m51_0 : decode prog_7_method_3_code 0 = .ok (.aload_n 0, 1) := by decide +kernel
theorem d_m51_1 : decode prog_7_method_3_code 1 = .ok (.getfield 13, 3) := by decide +kernel
theorem d_m51_4 : decode prog_7_method_3_code 4 = .ok (.ifCond .eq 33, 3) := by decide +kernel
theorem d_m51_7 : decode prog_7_method_3_code 7 = .ok (.new 31, 3) := by decide +kernel
theorem d_m51_10 : decode prog_7_method_3_code 10 = .ok (.dup, 1) := by decide +kernel
theorem d_m51_11 : decode prog_7_method_3_code 11 = .ok (.invokespecial 33, 3) := by decide +kernel
theorem d_m51_14 : decode prog_7_method_3_code 14 = .ok (.ldc 34, 2) := by decide +kernel
theorem d_m51_16 : decode prog_7_method_3_code 16 = .ok (.invokevirtual 36, 3) := by decide +kernel
theorem d_m51_19 : decode prog_7_method_3_code 19 = .ok (.aload_n 0, 1) := by decide +kernel
theorem d_m51_20 : decode prog_7_method_3_code 20 = .ok (.getfield 7, 3) := by decide +kernel
theorem d_m51_23 : decode prog_7_method_3_code 23 = .ok (.invokevirtual 36, 3) := by decide +kernel
theorem d_m51_26 : decode prog_7_method_3_code 26 = .ok (.ldc 40, 2) := by decide +kernel
theorem d_m51_28 : decode prog_7_method_3_code 28 = .ok (.invokevirtual 36, 3) := by decide +kernel
theorem d_m51_31 : decode prog_7_method_3_code 31 = .ok (.invokevirtual 42, 3) := by decide +kernel
theorem d_m51_34 : decode prog_7_method_3_code 34 = .ok (.goto 30, 3) := by decide +kernel
theorem d_m51_37 : decode prog_7_method_3_code 37 = .ok (.new 31, 3) := by decide +kernel
theorem d_m51_40 : decode prog_7_method_3_code 40 = .ok (.dup, 1) := by decide +kernel
theorem d_m51_41 : decode prog_7_method_3_code 41 = .ok (.invokespecial 33, 3) := by decide +kernel
theorem d_m51_44 : decode prog_7_method_3_code 44 = .ok (.ldc 46, 2) := by decide +kernel
theorem d_m51_46 : decode prog_7_method_3_code 46 = .ok (.invokevirtual 36, 3) := by decide +kernel
theorem d_m51_49 : decode prog_7_method_3_code 49 = .ok (.aload_n 0, 1) := by decide +kernel
theorem d_m51_50 : decode prog_7_method_3_code 50 = .ok (.getfield 7, 3) := by decide +kernel
theorem d_m51_53 : decode prog_7_method_3_code 53 = .ok (.invokevirtual 36, 3) := by decide +kernel
theorem d_m51_56 : decode prog_7_method_3_code 56 = .ok (.ldc 48, 2) := by decide +kernel
theorem d_m51_58 : decode prog_7_method_3_code 58 = .ok (.invokevirtual 36, 3) := by decide +kernel
theorem d_m51_61 : decode prog_7_method_3_code 61 = .ok (.invokevirtual 42, 3) := by decide +kernel
theorem d_m51_64 : decode prog_7_method_3_code 64 = .ok (.areturn, 1) := by decide +kernel
theorem ef_phT (m : MethodId) (x0 : Addr) : entryFrame m #[(.ref x0)] 1 = mkF m 0 #[.val (.ref x0)] [] := by first | (simp [entryFrame, mkF, argsToLocals, Value.category]; done) | rfl
def Q_phT (Z : State) (r0 : Addr) (rn : Addr) (pj : Int32) (tn : Addr) (kn : ClassId) (cs : List Int32) (G1 : Int32) (fm : Value) (h0 : Heap) (n0 : Nat) (v : Option Value) (h : Heap) (L : List Loc) : Prop := ∃ (xs : Addr) (xb : Addr) (xk : ClassId), v = some (.ref xs) ∧ Fr n0 L ∧ Keep h0 h [] ∧ Exa Z h xs "java/lang/String" ∧ f1 Z h xs (.ref xb) ∧ f0 Z h xs (.int (own_k (own_x pj cs))) ∧ own_A Z h xb xk .byte (Int32.ofNat (own_n (own_x pj cs))) (own_s (own_x pj cs))
set_option maxRecDepth 65536 in
set_option maxHeartbeats 40000000 in
theorem rm_phT (l : Launch) (Z : State) (a0 : Array Value) (hw : HW a0 Z) (ws : List Jvm.Cond) (r0 : Addr) (rn : Addr) (pj : Int32) (tn : Addr) (kn : ClassId) (cs : List Int32) (G1 : Int32) (fm : Value) (h0 : Heap) (n0 : Nat) (Z0 : n0 ≤ h0.size) (E_r0 : Exa Z h0 r0 "com/example/fieldveil/fieldveil/Placeholder") (Fn : f6 Z h0 r0 (.ref rn)) (Fj : f7 Z h0 r0 (.int pj)) (E_rn : Exa Z h0 rn "java/lang/String") (Fv_rn : f1 Z h0 rn (.ref tn)) (Fc_rn : f0 Z h0 rn (.int (own_k cs))) (S_CS : f12 Z h0 (.int G1)) (S_AD : f8 Z h0 (.int (1 : Int32))) (S_HI : f9 Z h0 (.int (0 : Int32))) (S_LO : f10 Z h0 (.int (8 : Int32))) (S_SI : f11 Z h0 fm) (V_tn : own_A Z h0 tn kn .byte (Int32.ofNat (own_n cs)) (own_s cs)) (P5 : ¬ (G1 = (0 : Int32))) (rf : fm.isRef = true) (hcl : cs.length ≤ 2) (hcc : ∀ c ∈ cs, own_ch c) :
    MetFree l (⟨"com/example/fieldveil/fieldveil/Placeholder", "toString", "()Ljava/lang/String;"⟩ : MethodName) (head1 (Jvm.Cond.code (⟨"com/example/fieldveil/fieldveil/Placeholder", "toString", "()Ljava/lang/String;"⟩ : MethodName) prog_7_method_3_code 1 (some (.object "java/lang/String")) :: ws) (rR 11 10 284 160)) (fun a U => a = #[(.ref r0)] ∧ Z.Warmed39 U.vm ∧ U.heap = h0 ∧ CHv Z own_ELs U.vm h0) (fun _ _ _ _ _ => True) (fun _ U o U' => ∃ v L, o = .returned v ∧ Q_phT Z r0 rn pj tn kn cs G1 fm h0 n0 v U'.heap L ∧ ReturnedEndW U o U' L (rR 11 10 284 160).cells (rR 11 10 284 160).slots) := by
  refine MetFree.of_bodySF (plainFor_of_name pn_9) hisR ?_
  intro p e s m args below meth c s₁ Bd hml0 hP hK
  obtain ⟨rfl, hZ, hh, hCH⟩ := hP
  have hx := Bd.exec
  have hby := Bd.bytes
  have hml : c.maxLocals = 1 := hml0
  have hown : s.vm.findClass "com/example/fieldveil/fieldveil/Placeholder" = some m.cls := findClass_of_methodNamed Bd.named
  have X0 : Stand p l e (rR 11 10 284 160) s m #[(.ref r0)] below meth c s₁ [] 0 0 := Stand.of_body Bd
  have e0 : s₁.heap = h0 := by rw [← hh, Bd.state]; rfl
  have N0 := Fr.nil n0
  have pre0 : ∀ t, Steps p.tables e below (s₁.setTop (mkF m 0 #[.val (.ref r0)] [])) t → Steps p.tables e below (s₁.setTop (entryFrame m #[(.ref r0)] 1)) t := fun t k => castTop (ef_phT m r0) k
  have CR0 : CHr Z own_ELs s.vm h0 s.vm h0 := CHr.refl hCH
  by_cases hc1 : own_lo cs
  · have Fk2 : f0 Z h0 rn (.int (0 : Int32)) := own_fcast (congrArg Value.int (own_klo hc1)) Fc_rn
    have Va3 : own_A Z h0 tn kn .byte (Int32.ofNat cs.length) (own_b cs) := own_acast (by rw [own_nlo hc1]) (by rw [own_slo hc1]) V_tn
    have k4 : Go p.tables e below (s₁.setTop (mkF m 0 #[.val (.ref r0)] [])) (s₁.setTop (mkF m 1 #[.val (.ref r0)] [(.ref r0)])) := by
      intro t ht
      refine XS.aloadN X0.here hx rfl (hb hby d_m51_0) rfl rfl ?_
      exact ht
    obtain ⟨T5, X5, e5, st5⟩ := getF X0 hx hZ hown (host := "") (Or.inl (own_w hw 40 rfl)) Via.refl e0 Fj (g := (mkF m 1 #[.val (.ref r0)] [(.ref r0)])) rfl rfl (hb hby d_m51_1)
    have k5 : Go p.tables e below _ (T5.setTop (mkF m 4 #[.val (.ref r0)] [(.int pj)])) := st5
    by_cases hc6 : pj = (0 : Int32)
    · have k7 : Go p.tables e below _ (T5.setTop (mkF m 37 #[.val (.ref r0)] [])) := goT k5 fun t ht => (by
        refine XS.ifYes X5.here hx rfl (pc0 := 4) (pc' := 37) rfl (hb hby d_m51_4) rfl ((if0 _ _).trans (teq hc6).1) (by decide) (by decide) ?_
        exact ht)
      obtain ⟨T8, h8, X8, e8, E8, A8, D8, -, st8⟩ := newO X5 hx hZ hown (own_w hw 47 rfl) (own_w hw 48 rfl) (own_w hw 49 rfl) e5 (g := (mkF m 37 #[.val (.ref r0)] [])) rfl (hb hby d_m51_37) (by decide) (by decide)
      obtain ⟨b8, g8⟩ : ∃ z, z = h0.size := ⟨_, rfl⟩
      rw [← g8] at A8 D8 st8
      have g_b8 : n0 ≤ b8 := Nat.le_trans Z0 (Nat.le_of_eq g8.symm)
      have sz_b8 : h0.size ≤ b8 := Nat.le_trans (Keep.refl h0 []).1 (Nat.le_of_eq g8.symm)
      have ne_r0_b8 : r0 ≠ b8 := Nat.ne_of_lt (Nat.lt_of_lt_of_le E_r0.lt (Nat.le_of_eq g8.symm))
      have ne_rn_b8 : rn ≠ b8 := Nat.ne_of_lt (Nat.lt_of_lt_of_le E_rn.lt (Nat.le_of_eq g8.symm))
      have ne_tn_b8 : tn ≠ b8 := Nat.ne_of_lt (Nat.lt_of_lt_of_le Va3.lt (Nat.le_of_eq g8.symm))
      have Kp8 : Keep h0 h8 [] := (Keep.refl h0 []).ext E8
      have Z8 : n0 ≤ h8.size := Nat.le_trans Z0 E8.1
      have Sf8_b8 : Safe Z own_ELs s.vm h8 b8 := Safe.ext E8 CR0.1 (Safe.new (Nat.le_of_eq g8.symm))
      have CR8 : CHr Z own_ELs s.vm h0 s.vm h8 := CR0.trans (CHr.ext E8 CR0.1)
      have E_r0_c_8 := E_r0.ext E8
      have Fn_c_8 := Fn.ext E8
      have E_rn_c_8 := E_rn.ext E8
      have Fv_rn_c_8 := Fv_rn.ext E8
      have Fk2_c_8 := Fk2.ext E8
      have S_CS_c_8 := S_CS.ext E8
      have Va3_c_8 := Va3.ext E8
      have F_value_b8 : f3 Z h8 b8 .null := D8 (Or.inl (own_w hw 62 rfl)) (ty := (.array .byte)) (by decide)
      have F_coder_b8 : f2 Z h8 b8 (.int (0 : Int32)) := D8 (Or.inl (own_w hw 64 rfl)) (ty := .byte) (by decide)
      have F_count_b8 : f4 Z h8 b8 (.int (0 : Int32)) := D8 (Or.inl (own_w hw 89 rfl)) (ty := .int) (by decide)
      have F_maybeLatin1_b8 : f5 Z h8 b8 (.int (0 : Int32)) := D8 (Or.inl (own_w hw 259 rfl)) (ty := .boolean) (by decide)
      have k9 : Go p.tables e below _ (T8.setTop (mkF m 41 #[.val (.ref r0)] [(.ref b8), (.ref b8)])) := fun t ht => st8 t (by
        refine XS.dup X8.here hx rfl (hb hby d_m51_40) rfl rfl ?_
        exact ht)
      have rq10 := X8.specialBack hx (y := (⟨"java/lang/StringBuilder", "<init>", "()V"⟩ : MethodName)) rfl hown (mvT hZ (own_w hw 50 rfl)) (mvT hZ (own_w hw 51 rfl)) (mvT hZ (own_w hw 52 rfl)) (by decide) (backOf (W := 1) (rm_sbI l Z a0 hw [] b8 G1 h8 n0 Z8 A8 F_value_b8 F_coder_b8 F_count_b8 F_maybeLatin1_b8 S_CS_c_8 P5 g_b8) hZ (own_w hw 52 rfl) (own_w hw 49 rfl) (by decide) (by decide)) (g := (mkF m 41 #[.val (.ref r0)] [(.ref b8), (.ref b8)])) rfl (by rw [hml]; rfl) (Steps.refl _) (a := b8) (argsL := []) (rest := [(.ref b8)]) (lenOf pd_12 rfl) rfl (by show 2 * 0 + _ ≤ _; exact Nat.le_of_eq rfl) (hb hby d_m51_41) (fun _ _ => ⟨rfl, e8, (by decide : 1 + 1 ≤ _), (by decide : 4 + 16 ≤ _)⟩)
      obtain ⟨_, T10, L10, X10, ⟨xb_10, xk_10, rfl, N10q, K10, Pq10_0, Fq10_0, Fq10_1, Fq10_2, Fq10_3, Fq10_4, Fq10_5⟩, st10⟩ := own_r X8 rq10
      have N10 := Fr.app N0 N10q
      have Kp10 : Keep h0 T10.heap [] := Kp8.trans K10 (allS (Or.inr sz_b8) all0)
      have Z10 : n0 ≤ T10.heap.size := Nat.le_trans Z8 K10.1
      have ne_r0_xb_10 : r0 ≠ xb_10 := Nat.ne_of_lt (Nat.lt_of_lt_of_le E_r0_c_8.lt Pq10_0)
      have ne_rn_xb_10 : rn ≠ xb_10 := Nat.ne_of_lt (Nat.lt_of_lt_of_le E_rn_c_8.lt Pq10_0)
      have ne_tn_xb_10 : tn ≠ xb_10 := Nat.ne_of_lt (Nat.lt_of_lt_of_le Va3_c_8.lt Pq10_0)
      have ne_b8_xb_10 : b8 ≠ xb_10 := Nat.ne_of_lt (Nat.lt_of_lt_of_le A8.lt Pq10_0)
      have g_xb_10 : n0 ≤ xb_10 := Nat.le_trans Z8 Pq10_0
      have sz_xb_10 : h0.size ≤ xb_10 := Nat.le_trans Kp8.1 Pq10_0
      have Sf10_xb_10 : Safe Z own_ELs s.vm h8 xb_10 := Safe.new Pq10_0
      have Sg10_b8 : Safe Z own_ELs s.vm T10.heap b8 := Safe.keep K10 (allS Sf8_b8 all0) CR8.1 Sf8_b8
      have Sg10_xb_10 : Safe Z own_ELs s.vm T10.heap xb_10 := Safe.keep K10 (allS Sf8_b8 all0) CR8.1 Sf10_xb_10
      have CR10 : CHr Z own_ELs s.vm h0 s.vm T10.heap := CR8.trans (CHr.keep K10 (allS Sf8_b8 all0) CR8.1)
      have Fn_c_10 := Fn_c_8.keep K10 (ninS ne_r0_b8 nin0)
      have E_rn_c_10 := E_rn_c_8.keep K10
      have Fv_rn_c_10 := Fv_rn_c_8.keep K10 (ninS ne_rn_b8 nin0)
      have Fk2_c_10 := Fk2_c_8.keep K10 (ninS ne_rn_b8 nin0)
      have S_CS_c_10 := own_sta_keep S_CS_c_8 A8 K10
      have Va3_c_10 := Va3_c_8.keep K10 (ninS ne_tn_b8 nin0)
      have k10 : Go p.tables e below _ (T10.setTop (mkF m 44 #[.val (.ref r0)] [(.ref b8)])) := st10
      have Fk11 : f4 Z T10.heap b8 (.int (Int32.ofNat ([] : List Int32).length)) := own_fcast rfl Fq10_3
      have hS0 : s.Since s.vm 0 := (State.WarmedH.refl s).since 0
      obtain ⟨c12, T12, h12, kk12, cb12, ck12, X12, e12, E12, hS12, hk12, hZ, hown, Ec12, Cc12, Vc12, Ac12, la12, lb12, hCr12, Lt12, Sf12, st12⟩ := ldcCH (s := s) (vm0 := s.vm) X10 hx hZ hown (own_w hw 65 rfl) (own_atoms hw) rfl hS0 (Nat.zero_le _) (own_EL hw) (by simp [own_ELs]) CR10.1 (vs := [(.int (123 : Int32)), (.int (123 : Int32))]) (z := 2) ⟨by decide, by decide⟩ (by decide) rfl (g := (mkF m 44 #[.val (.ref r0)] [(.ref b8)])) rfl (hb hby d_m51_44) (n := 8) (by decide) (by decide) (by decide) (by decide)
      have Kp12 : Keep h0 h12 [] := Kp10.ext E12
      have Z12 : n0 ≤ h12.size := Nat.le_trans Z10 E12.1
      have Sg12_b8 : Safe Z own_ELs T12.vm h12 b8 := hCr12.safe Fq10_0.lt Sg10_b8
      have Sg12_xb_10 : Safe Z own_ELs T12.vm h12 xb_10 := hCr12.safe Fq10_5.lt Sg10_xb_10
      have CR12 : CHr Z own_ELs s.vm h0 T12.vm h12 := CR10.trans hCr12
      have Fn_c_12 := Fn_c_10.ext E12
      have E_rn_c_12 := E_rn_c_10.ext E12
      have Fv_rn_c_12 := Fv_rn_c_10.ext E12
      have Fk2_c_12 := Fk2_c_10.ext E12
      have S_CS_c_12 := S_CS_c_10.ext E12
      have Va3_c_12 := Va3_c_10.ext E12
      have Fq10_0_c_12 := Fq10_0.ext E12
      have Fq10_1_c_12 := Fq10_1.ext E12
      have Fq10_2_c_12 := Fq10_2.ext E12
      have Fk11_c_12 := Fk11.ext E12
      have Fq10_4_c_12 := Fq10_4.ext E12
      have Fq10_5_c_12 := Fq10_5.ext E12
      have ne_b8_c12 := Sf12 _ Sg12_b8
      have ne_xb_10_c12 := Sf12 _ Sg12_xb_10
      have k12 : Go p.tables e below _ (T12.setTop (mkF m 46 #[.val (.ref r0)] [(.ref c12), (.ref b8)])) := st12
      have Va13 : own_A Z h12 cb12 ck12 .byte (Int32.ofNat own_c46.length) (own_b own_c46) := own_acast rfl (by rw [own_b46]; rfl) Ac12
      obtain ⟨cq14, kq14, q14a, q14b, q14c⟩ := isOf hZ e12 Fq10_0_c_12
      have rq14 := X12.virtualBack hx (y := (⟨"java/lang/StringBuilder", "append", "(Ljava/lang/String;)Ljava/lang/StringBuilder;"⟩ : MethodName)) (z := (⟨"java/lang/StringBuilder", "append", "(Ljava/lang/String;)Ljava/lang/StringBuilder;"⟩ : MethodName)) hown (mvT hZ (own_w hw 68 rfl)) (mvT hZ (own_w hw 69 rfl)) (notFace_of_selects (args := #[]) (mvT hZ (own_w hw 71 rfl))) (mvT hZ (own_w hw 71 rfl)) (mvT hZ (own_w hw 70 rfl)) (by decide) (backOf (W := 0) (rm_sba000 l Z a0 hw [] b8 c12 xb_10 xk_10 ([] : List Int32) 16 cb12 ck12 own_c46 G1 h12 n0 Z12 Fq10_0_c_12 Fq10_1_c_12 Fq10_2_c_12 Fk11_c_12 Fq10_4_c_12 Ec12 Vc12 Cc12 S_CS_c_12 Fq10_5_c_12 Va13 P5 g_b8 g_xb_10 (by simp only [List.length_append, List.length_nil, own_l34, own_l40, own_l46, own_l48]; omega : ([] : List Int32).length + own_c46.length ≤ 16 ∧ 16 ≤ 24) ((Ne.symm ne_b8_xb_10) : xb_10 ≠ b8) ((Ne.symm ne_b8_c12.1) : c12 ≠ b8) ((Ne.symm ne_b8_c12.2) : cb12 ≠ b8) ((Ne.symm ne_xb_10_c12.2) : cb12 ≠ xb_10) ((Ne.symm ne_xb_10_c12.1) : c12 ≠ xb_10)) hZ (own_w hw 72 rfl) (own_w hw 49 rfl) (by decide) (by decide)) q14a q14c (g := (mkF m 46 #[.val (.ref r0)] [(.ref c12), (.ref b8)])) rfl (by rw [hml]; rfl) (Steps.refl _) (argsL := [(.ref c12)]) (rest := []) (lenOf pd_33 rfl) rfl (by show 2 * 0 + _ ≤ _; exact Nat.le_of_eq rfl) (hb hby d_m51_46) (fun _ _ => ⟨rfl, e12, (by decide : 4 + 0 ≤ _), (by decide : 32 + 0 ≤ _)⟩)
      obtain ⟨_, T14, L14, X14, ⟨rfl, N14q, K14, Fq14_0, Fq14_1, Fq14_2, Fq14_3, Fq14_4, Fq14_5⟩, st14⟩ := own_r X12 rq14
      have N14 := Fr.app N10 N14q
      have Kp14 : Keep h0 T14.heap [] := Kp12.trans K14 (allS (Or.inr sz_b8) (allS (Or.inr sz_xb_10) all0))
      have Z14 : n0 ≤ T14.heap.size := Nat.le_trans Z12 K14.1
      have Sg14_b8 : Safe Z own_ELs T12.vm T14.heap b8 := Safe.keep K14 (allS Sg12_b8 (allS Sg12_xb_10 all0)) CR12.1 Sg12_b8
      have Sg14_xb_10 : Safe Z own_ELs T12.vm T14.heap xb_10 := Safe.keep K14 (allS Sg12_b8 (allS Sg12_xb_10 all0)) CR12.1 Sg12_xb_10
      have CR14 : CHr Z own_ELs s.vm h0 T12.vm T14.heap := CR12.trans (CHr.keep K14 (allS Sg12_b8 (allS Sg12_xb_10 all0)) CR12.1)
      have Fn_c_14 := Fn_c_12.keep K14 (ninS ne_r0_b8 (ninS ne_r0_xb_10 nin0))
      have E_rn_c_14 := E_rn_c_12.keep K14
      have Fv_rn_c_14 := Fv_rn_c_12.keep K14 (ninS ne_rn_b8 (ninS ne_rn_xb_10 nin0))
      have Fk2_c_14 := Fk2_c_12.keep K14 (ninS ne_rn_b8 (ninS ne_rn_xb_10 nin0))
      have S_CS_c_14 := own_sta_keepN S_CS_c_12 K14 (allS (own_obE Fq10_0_c_12) (allS (own_obV Fq10_5_c_12) all0))
      have Va3_c_14 := Va3_c_12.keep K14 (ninS ne_tn_b8 (ninS ne_tn_xb_10 nin0))
      have k15 : Go p.tables e below _ (T14.setTop (mkF m 50 #[.val (.ref r0)] [(.ref r0), (.ref b8)])) := fun t ht => st14 t (by
        refine XS.aloadN X14.here hx rfl (hb hby d_m51_49) rfl rfl ?_
        exact ht)
      obtain ⟨T16, X16, e16, st16⟩ := getF X14 hx hZ hown (host := "") (Or.inl (own_w hw 38 rfl)) Via.refl rfl Fn_c_14 (g := (mkF m 50 #[.val (.ref r0)] [(.ref r0), (.ref b8)])) rfl rfl (hb hby d_m51_50)
      have k16 : Go p.tables e below _ (T16.setTop (mkF m 53 #[.val (.ref r0)] [(.ref rn), (.ref b8)])) := st16
      obtain ⟨cq17, kq17, q17a, q17b, q17c⟩ := isOf hZ e16 Fq14_0
      have rq17 := X16.virtualBack hx (y := (⟨"java/lang/StringBuilder", "append", "(Ljava/lang/String;)Ljava/lang/StringBuilder;"⟩ : MethodName)) (z := (⟨"java/lang/StringBuilder", "append", "(Ljava/lang/String;)Ljava/lang/StringBuilder;"⟩ : MethodName)) hown (mvT hZ (own_w hw 68 rfl)) (mvT hZ (own_w hw 69 rfl)) (notFace_of_selects (args := #[]) (mvT hZ (own_w hw 71 rfl))) (mvT hZ (own_w hw 71 rfl)) (mvT hZ (own_w hw 70 rfl)) (by decide) (backOf (W := 0) (rm_sba000 l Z a0 hw [] b8 rn xb_10 xk_10 (([] : List Int32) ++ own_c46) 16 tn kn cs G1 T14.heap n0 Z14 Fq14_0 Fq14_1 Fq14_2 Fq14_3 Fq14_4 E_rn_c_14 Fv_rn_c_14 Fk2_c_14 S_CS_c_14 Fq14_5 Va3_c_14 P5 g_b8 g_xb_10 (by simp only [List.length_append, List.length_nil, own_l34, own_l40, own_l46, own_l48]; omega : (([] : List Int32) ++ own_c46).length + cs.length ≤ 16 ∧ 16 ≤ 24) ((Ne.symm ne_b8_xb_10) : xb_10 ≠ b8) ne_rn_b8 ne_tn_b8 ne_tn_xb_10 ne_rn_xb_10) hZ (own_w hw 72 rfl) (own_w hw 49 rfl) (by decide) (by decide)) q17a q17c (g := (mkF m 53 #[.val (.ref r0)] [(.ref rn), (.ref b8)])) rfl (by rw [hml]; rfl) (Steps.refl _) (argsL := [(.ref rn)]) (rest := []) (lenOf pd_33 rfl) rfl (by show 2 * 0 + _ ≤ _; exact Nat.le_of_eq rfl) (hb hby d_m51_53) (fun _ _ => ⟨rfl, e16, (by decide : 4 + 0 ≤ _), (by decide : 32 + 0 ≤ _)⟩)
      obtain ⟨_, T17, L17, X17, ⟨rfl, N17q, K17, Fq17_0, Fq17_1, Fq17_2, Fq17_3, Fq17_4, Fq17_5⟩, st17⟩ := own_r X16 rq17
      have N17 := Fr.app N14 N17q
      have Kp17 : Keep h0 T17.heap [] := Kp14.trans K17 (allS (Or.inr sz_b8) (allS (Or.inr sz_xb_10) all0))
      have Z17 : n0 ≤ T17.heap.size := Nat.le_trans Z14 K17.1
      have Sg17_b8 : Safe Z own_ELs T12.vm T17.heap b8 := Safe.keep K17 (allS Sg14_b8 (allS Sg14_xb_10 all0)) CR14.1 Sg14_b8
      have Sg17_xb_10 : Safe Z own_ELs T12.vm T17.heap xb_10 := Safe.keep K17 (allS Sg14_b8 (allS Sg14_xb_10 all0)) CR14.1 Sg14_xb_10
      have CR17 : CHr Z own_ELs s.vm h0 T12.vm T17.heap := CR14.trans (CHr.keep K17 (allS Sg14_b8 (allS Sg14_xb_10 all0)) CR14.1)
      have S_CS_c_17 := own_sta_keepN S_CS_c_14 K17 (allS (own_obE Fq14_0) (allS (own_obV Fq14_5) all0))
      have k17 : Go p.tables e below _ (T17.setTop (mkF m 56 #[.val (.ref r0)] [(.ref b8)])) := st17
      obtain ⟨c18, T18, h18, kk18, cb18, ck18, X18, e18, E18, hS18, hk18, hZ, hown, Ec18, Cc18, Vc18, Ac18, la18, lb18, hCr18, Lt18, Sf18, st18⟩ := ldcCH (s := s) X17 hx hZ hown (own_w hw 115 rfl) (own_atoms hw) rfl hS12 (Nat.le_trans (Nat.le_trans hk12 K14.1) K17.1) (own_EL hw) (by simp [own_ELs]) CR17.1 (vs := [(.int (125 : Int32)), (.int (125 : Int32))]) (z := 2) ⟨by decide, by decide⟩ (by decide) rfl (g := (mkF m 56 #[.val (.ref r0)] [(.ref b8)])) rfl (hb hby d_m51_56) (n := 8) (by decide) (by decide) (by decide) (by decide)
      have Kp18 : Keep h0 h18 [] := Kp17.ext E18
      have Z18 : n0 ≤ h18.size := Nat.le_trans Z17 E18.1
      have Sg18_b8 : Safe Z own_ELs T18.vm h18 b8 := hCr18.safe Fq17_0.lt Sg17_b8
      have Sg18_xb_10 : Safe Z own_ELs T18.vm h18 xb_10 := hCr18.safe Fq17_5.lt Sg17_xb_10
      have S_CS_c_18 := S_CS_c_17.ext E18
      have Fq17_0_c_18 := Fq17_0.ext E18
      have Fq17_1_c_18 := Fq17_1.ext E18
      have Fq17_2_c_18 := Fq17_2.ext E18
      have Fq17_3_c_18 := Fq17_3.ext E18
      have Fq17_4_c_18 := Fq17_4.ext E18
      have Fq17_5_c_18 := Fq17_5.ext E18
      have ne_b8_c18 := Sf18 _ Sg18_b8
      have ne_xb_10_c18 := Sf18 _ Sg18_xb_10
      have k18 : Go p.tables e below _ (T18.setTop (mkF m 58 #[.val (.ref r0)] [(.ref c18), (.ref b8)])) := st18
      have Va19 : own_A Z h18 cb18 ck18 .byte (Int32.ofNat own_c48.length) (own_b own_c48) := own_acast rfl (by rw [own_b48]; rfl) Ac18
      obtain ⟨cq20, kq20, q20a, q20b, q20c⟩ := isOf hZ e18 Fq17_0_c_18
      have rq20 := X18.virtualBack hx (y := (⟨"java/lang/StringBuilder", "append", "(Ljava/lang/String;)Ljava/lang/StringBuilder;"⟩ : MethodName)) (z := (⟨"java/lang/StringBuilder", "append", "(Ljava/lang/String;)Ljava/lang/StringBuilder;"⟩ : MethodName)) hown (mvT hZ (own_w hw 68 rfl)) (mvT hZ (own_w hw 69 rfl)) (notFace_of_selects (args := #[]) (mvT hZ (own_w hw 71 rfl))) (mvT hZ (own_w hw 71 rfl)) (mvT hZ (own_w hw 70 rfl)) (by decide) (backOf (W := 0) (rm_sba000 l Z a0 hw [] b8 c18 xb_10 xk_10 ((([] : List Int32) ++ own_c46) ++ cs) 16 cb18 ck18 own_c48 G1 h18 n0 Z18 Fq17_0_c_18 Fq17_1_c_18 Fq17_2_c_18 Fq17_3_c_18 Fq17_4_c_18 Ec18 Vc18 Cc18 S_CS_c_18 Fq17_5_c_18 Va19 P5 g_b8 g_xb_10 (by simp only [List.length_append, List.length_nil, own_l34, own_l40, own_l46, own_l48]; omega : ((([] : List Int32) ++ own_c46) ++ cs).length + own_c48.length ≤ 16 ∧ 16 ≤ 24) ((Ne.symm ne_b8_xb_10) : xb_10 ≠ b8) ((Ne.symm ne_b8_c18.1) : c18 ≠ b8) ((Ne.symm ne_b8_c18.2) : cb18 ≠ b8) ((Ne.symm ne_xb_10_c18.2) : cb18 ≠ xb_10) ((Ne.symm ne_xb_10_c18.1) : c18 ≠ xb_10)) hZ (own_w hw 72 rfl) (own_w hw 49 rfl) (by decide) (by decide)) q20a q20c (g := (mkF m 58 #[.val (.ref r0)] [(.ref c18), (.ref b8)])) rfl (by rw [hml]; rfl) (Steps.refl _) (argsL := [(.ref c18)]) (rest := []) (lenOf pd_33 rfl) rfl (by show 2 * 0 + _ ≤ _; exact Nat.le_of_eq rfl) (hb hby d_m51_58) (fun _ _ => ⟨rfl, e18, (by decide : 6 + 0 ≤ _), (by decide : 44 + 0 ≤ _)⟩)
      obtain ⟨_, T20, L20, X20, ⟨rfl, N20q, K20, Fq20_0, Fq20_1, Fq20_2, Fq20_3, Fq20_4, Fq20_5⟩, st20⟩ := own_r X18 rq20
      have N20 := Fr.app N17 N20q
      have Kp20 : Keep h0 T20.heap [] := Kp18.trans K20 (allS (Or.inr sz_b8) (allS (Or.inr sz_xb_10) all0))
      have Z20 : n0 ≤ T20.heap.size := Nat.le_trans Z18 K20.1
      have S_CS_c_20 := own_sta_keepN S_CS_c_18 K20 (allS (own_obE Fq17_0_c_18) (allS (own_obV Fq17_5_c_18) all0))
      have k20 : Go p.tables e below _ (T20.setTop (mkF m 61 #[.val (.ref r0)] [(.ref b8)])) := st20
      obtain ⟨cq21, kq21, q21a, q21b, q21c⟩ := isOf hZ rfl Fq20_0
      have rq21 := X20.virtualBack hx (y := (⟨"java/lang/StringBuilder", "toString", "()Ljava/lang/String;"⟩ : MethodName)) (z := (⟨"java/lang/StringBuilder", "toString", "()Ljava/lang/String;"⟩ : MethodName)) hown (mvT hZ (own_w hw 116 rfl)) (mvT hZ (own_w hw 117 rfl)) (notFace_of_selects (args := #[]) (mvT hZ (own_w hw 119 rfl))) (mvT hZ (own_w hw 119 rfl)) (mvT hZ (own_w hw 118 rfl)) (by decide) (backOf (W := 0) (rm_sbT0 l Z a0 hw [] b8 xb_10 xk_10 (((([] : List Int32) ++ own_c46) ++ cs) ++ own_c48) 16 G1 T20.heap n0 Z20 Fq20_0 Fq20_1 Fq20_2 Fq20_3 Fq20_4 S_CS_c_20 Fq20_5 P5 (by simp only [List.length_append, List.length_nil, own_l34, own_l40, own_l46, own_l48]; omega : (((([] : List Int32) ++ own_c46) ++ cs) ++ own_c48).length < 16 ∧ 16 ≤ 34 ∧ (((([] : List Int32) ++ own_c46) ++ cs) ++ own_c48).length ≤ 24)) hZ (own_w hw 120 rfl) (own_w hw 49 rfl) (by decide) (by decide)) q21a q21c (g := (mkF m 61 #[.val (.ref r0)] [(.ref b8)])) rfl (by rw [hml]; rfl) (Steps.refl _) (argsL := []) (rest := []) (lenOf pd_34 rfl) rfl (by show 2 * 0 + _ ≤ _; exact Nat.le_of_eq rfl) (hb hby d_m51_61) (fun _ _ => ⟨rfl, rfl, (by decide : 6 + 2 ≤ _), (by decide : 44 + 52 ≤ _)⟩)
      obtain ⟨_, T21, L21, X21, ⟨xs_21, xb_21, xk_21, rfl, N21q, K21, Fq21_0, Fq21_1, Fq21_2, Fq21_3⟩, st21⟩ := own_r X20 rq21
      have N21 := Fr.app N20 N21q
      have Kp21 : Keep h0 T21.heap [] := Kp20.trans K21 all0
      have k21 : Go p.tables e below _ (T21.setTop (mkF m 64 #[.val (.ref r0)] [(.ref xs_21)])) := st21
      obtain ⟨fs, hr, hrun, hended, hW⟩ := X21.leaveW (s := s) hS18 (Nat.le_trans (Nat.le_trans hk18 K20.1) K21.1) (v := some (.ref xs_21)) (fun h => by rw [Bd.returns] at h; cases h)
      refine ⟨_, _, pre0 _ ((goT k4 (goT k7 (goT k9 (goT k10 (goT k12 (goT k15 (goT k16 (goT k17 (goT k18 (goT k20 k21)))))))))) _ (retR X21 hx Bd.returns (hb hby d_m51_64) hr)), hrun, hended, _, _, rfl, ?_, hW.1, hW.2.1, hW.2.2.1, hW.2.2.2.mono (by decide) (by decide)⟩
      show Q_phT Z r0 rn pj tn kn cs G1 fm h0 n0 _ T21.heap _
      exact ⟨xs_21, xb_21, xk_21, rfl, N21, Kp21, Fq21_0, Fq21_1, (own_fcast (own_pK0 hc1) Fq21_2), (own_pV0 (if_pos hc6) hc1 Fq21_3)⟩
    · have k22 : Go p.tables e below _ (T5.setTop (mkF m 7 #[.val (.ref r0)] [])) := goT k5 fun t ht => (by
        refine XS.ifNo X5.here hx rfl (hb hby d_m51_4) rfl ((if0 _ _).trans (feq hc6).1) ?_
        exact ht)
      obtain ⟨T23, h23, X23, e23, E23, A23, D23, -, st23⟩ := newO X5 hx hZ hown (own_w hw 47 rfl) (own_w hw 48 rfl) (own_w hw 49 rfl) e5 (g := (mkF m 7 #[.val (.ref r0)] [])) rfl (hb hby d_m51_7) (by decide) (by decide)
      obtain ⟨b23, g23⟩ : ∃ z, z = h0.size := ⟨_, rfl⟩
      rw [← g23] at A23 D23 st23
      have g_b23 : n0 ≤ b23 := Nat.le_trans Z0 (Nat.le_of_eq g23.symm)
      have sz_b23 : h0.size ≤ b23 := Nat.le_trans (Keep.refl h0 []).1 (Nat.le_of_eq g23.symm)
      have ne_r0_b23 : r0 ≠ b23 := Nat.ne_of_lt (Nat.lt_of_lt_of_le E_r0.lt (Nat.le_of_eq g23.symm))
      have ne_rn_b23 : rn ≠ b23 := Nat.ne_of_lt (Nat.lt_of_lt_of_le E_rn.lt (Nat.le_of_eq g23.symm))
      have ne_tn_b23 : tn ≠ b23 := Nat.ne_of_lt (Nat.lt_of_lt_of_le Va3.lt (Nat.le_of_eq g23.symm))
      have Kp23 : Keep h0 h23 [] := (Keep.refl h0 []).ext E23
      have Z23 : n0 ≤ h23.size := Nat.le_trans Z0 E23.1
      have Sf23_b23 : Safe Z own_ELs s.vm h23 b23 := Safe.ext E23 CR0.1 (Safe.new (Nat.le_of_eq g23.symm))
      have CR23 : CHr Z own_ELs s.vm h0 s.vm h23 := CR0.trans (CHr.ext E23 CR0.1)
      have E_r0_c_23 := E_r0.ext E23
      have Fn_c_23 := Fn.ext E23
      have E_rn_c_23 := E_rn.ext E23
      have Fv_rn_c_23 := Fv_rn.ext E23
      have Fk2_c_23 := Fk2.ext E23
      have S_CS_c_23 := S_CS.ext E23
      have Va3_c_23 := Va3.ext E23
      have F_value_b23 : f3 Z h23 b23 .null := D23 (Or.inl (own_w hw 62 rfl)) (ty := (.array .byte)) (by decide)
      have F_coder_b23 : f2 Z h23 b23 (.int (0 : Int32)) := D23 (Or.inl (own_w hw 64 rfl)) (ty := .byte) (by decide)
      have F_count_b23 : f4 Z h23 b23 (.int (0 : Int32)) := D23 (Or.inl (own_w hw 89 rfl)) (ty := .int) (by decide)
      have F_maybeLatin1_b23 : f5 Z h23 b23 (.int (0 : Int32)) := D23 (Or.inl (own_w hw 259 rfl)) (ty := .boolean) (by decide)
      have k24 : Go p.tables e below _ (T23.setTop (mkF m 11 #[.val (.ref r0)] [(.ref b23), (.ref b23)])) := fun t ht => st23 t (by
        refine XS.dup X23.here hx rfl (hb hby d_m51_10) rfl rfl ?_
        exact ht)
      have rq25 := X23.specialBack hx (y := (⟨"java/lang/StringBuilder", "<init>", "()V"⟩ : MethodName)) rfl hown (mvT hZ (own_w hw 50 rfl)) (mvT hZ (own_w hw 51 rfl)) (mvT hZ (own_w hw 52 rfl)) (by decide) (backOf (W := 1) (rm_sbI l Z a0 hw [] b23 G1 h23 n0 Z23 A23 F_value_b23 F_coder_b23 F_count_b23 F_maybeLatin1_b23 S_CS_c_23 P5 g_b23) hZ (own_w hw 52 rfl) (own_w hw 49 rfl) (by decide) (by decide)) (g := (mkF m 11 #[.val (.ref r0)] [(.ref b23), (.ref b23)])) rfl (by rw [hml]; rfl) (Steps.refl _) (a := b23) (argsL := []) (rest := [(.ref b23)]) (lenOf pd_12 rfl) rfl (by show 2 * 0 + _ ≤ _; exact Nat.le_of_eq rfl) (hb hby d_m51_11) (fun _ _ => ⟨rfl, e23, (by decide : 1 + 1 ≤ _), (by decide : 4 + 16 ≤ _)⟩)
      obtain ⟨_, T25, L25, X25, ⟨xb_25, xk_25, rfl, N25q, K25, Pq25_0, Fq25_0, Fq25_1, Fq25_2, Fq25_3, Fq25_4, Fq25_5⟩, st25⟩ := own_r X23 rq25
      have N25 := Fr.app N0 N25q
      have Kp25 : Keep h0 T25.heap [] := Kp23.trans K25 (allS (Or.inr sz_b23) all0)
      have Z25 : n0 ≤ T25.heap.size := Nat.le_trans Z23 K25.1
      have ne_r0_xb_25 : r0 ≠ xb_25 := Nat.ne_of_lt (Nat.lt_of_lt_of_le E_r0_c_23.lt Pq25_0)
      have ne_rn_xb_25 : rn ≠ xb_25 := Nat.ne_of_lt (Nat.lt_of_lt_of_le E_rn_c_23.lt Pq25_0)
      have ne_tn_xb_25 : tn ≠ xb_25 := Nat.ne_of_lt (Nat.lt_of_lt_of_le Va3_c_23.lt Pq25_0)
      have ne_b23_xb_25 : b23 ≠ xb_25 := Nat.ne_of_lt (Nat.lt_of_lt_of_le A23.lt Pq25_0)
      have g_xb_25 : n0 ≤ xb_25 := Nat.le_trans Z23 Pq25_0
      have sz_xb_25 : h0.size ≤ xb_25 := Nat.le_trans Kp23.1 Pq25_0
      have Sf25_xb_25 : Safe Z own_ELs s.vm h23 xb_25 := Safe.new Pq25_0
      have Sg25_b23 : Safe Z own_ELs s.vm T25.heap b23 := Safe.keep K25 (allS Sf23_b23 all0) CR23.1 Sf23_b23
      have Sg25_xb_25 : Safe Z own_ELs s.vm T25.heap xb_25 := Safe.keep K25 (allS Sf23_b23 all0) CR23.1 Sf25_xb_25
      have CR25 : CHr Z own_ELs s.vm h0 s.vm T25.heap := CR23.trans (CHr.keep K25 (allS Sf23_b23 all0) CR23.1)
      have Fn_c_25 := Fn_c_23.keep K25 (ninS ne_r0_b23 nin0)
      have E_rn_c_25 := E_rn_c_23.keep K25
      have Fv_rn_c_25 := Fv_rn_c_23.keep K25 (ninS ne_rn_b23 nin0)
      have Fk2_c_25 := Fk2_c_23.keep K25 (ninS ne_rn_b23 nin0)
      have S_CS_c_25 := own_sta_keep S_CS_c_23 A23 K25
      have Va3_c_25 := Va3_c_23.keep K25 (ninS ne_tn_b23 nin0)
      have k25 : Go p.tables e below _ (T25.setTop (mkF m 14 #[.val (.ref r0)] [(.ref b23)])) := st25
      have Fk26 : f4 Z T25.heap b23 (.int (Int32.ofNat ([] : List Int32).length)) := own_fcast rfl Fq25_3
      have hS0 : s.Since s.vm 0 := (State.WarmedH.refl s).since 0
      obtain ⟨c27, T27, h27, kk27, cb27, ck27, X27, e27, E27, hS27, hk27, hZ, hown, Ec27, Cc27, Vc27, Ac27, la27, lb27, hCr27, Lt27, Sf27, st27⟩ := ldcCH (s := s) (vm0 := s.vm) X25 hx hZ hown (own_w hw 191 rfl) (own_atoms hw) rfl hS0 (Nat.zero_le _) (own_EL hw) (by simp [own_ELs]) CR25.1 (vs := [(.int (123 : Int32)), (.int (123 : Int32)), (.int (35 : Int32)), (.int (116 : Int32)), (.int (111 : Int32)), (.int (74 : Int32)), (.int (115 : Int32)), (.int (111 : Int32)), (.int (110 : Int32)), (.int (125 : Int32)), (.int (125 : Int32))]) (z := 11) ⟨by decide, by decide⟩ (by decide) rfl (g := (mkF m 14 #[.val (.ref r0)] [(.ref b23)])) rfl (hb hby d_m51_14) (n := 44) (by decide) (by decide) (by decide) (by decide)
      have Kp27 : Keep h0 h27 [] := Kp25.ext E27
      have Z27 : n0 ≤ h27.size := Nat.le_trans Z25 E27.1
      have Sg27_b23 : Safe Z own_ELs T27.vm h27 b23 := hCr27.safe Fq25_0.lt Sg25_b23
      have Sg27_xb_25 : Safe Z own_ELs T27.vm h27 xb_25 := hCr27.safe Fq25_5.lt Sg25_xb_25
      have CR27 : CHr Z own_ELs s.vm h0 T27.vm h27 := CR25.trans hCr27
      have Fn_c_27 := Fn_c_25.ext E27
      have E_rn_c_27 := E_rn_c_25.ext E27
      have Fv_rn_c_27 := Fv_rn_c_25.ext E27
      have Fk2_c_27 := Fk2_c_25.ext E27
      have S_CS_c_27 := S_CS_c_25.ext E27
      have Va3_c_27 := Va3_c_25.ext E27
      have Fq25_0_c_27 := Fq25_0.ext E27
      have Fq25_1_c_27 := Fq25_1.ext E27
      have Fq25_2_c_27 := Fq25_2.ext E27
      have Fk26_c_27 := Fk26.ext E27
      have Fq25_4_c_27 := Fq25_4.ext E27
      have Fq25_5_c_27 := Fq25_5.ext E27
      have ne_b23_c27 := Sf27 _ Sg27_b23
      have ne_xb_25_c27 := Sf27 _ Sg27_xb_25
      have k27 : Go p.tables e below _ (T27.setTop (mkF m 16 #[.val (.ref r0)] [(.ref c27), (.ref b23)])) := st27
      have Va28 : own_A Z h27 cb27 ck27 .byte (Int32.ofNat own_c34.length) (own_b own_c34) := own_acast rfl (by rw [own_b34]; rfl) Ac27
      obtain ⟨cq29, kq29, q29a, q29b, q29c⟩ := isOf hZ e27 Fq25_0_c_27
      have rq29 := X27.virtualBack hx (y := (⟨"java/lang/StringBuilder", "append", "(Ljava/lang/String;)Ljava/lang/StringBuilder;"⟩ : MethodName)) (z := (⟨"java/lang/StringBuilder", "append", "(Ljava/lang/String;)Ljava/lang/StringBuilder;"⟩ : MethodName)) hown (mvT hZ (own_w hw 68 rfl)) (mvT hZ (own_w hw 69 rfl)) (notFace_of_selects (args := #[]) (mvT hZ (own_w hw 71 rfl))) (mvT hZ (own_w hw 71 rfl)) (mvT hZ (own_w hw 70 rfl)) (by decide) (backOf (W := 0) (rm_sba000 l Z a0 hw [] b23 c27 xb_25 xk_25 ([] : List Int32) 16 cb27 ck27 own_c34 G1 h27 n0 Z27 Fq25_0_c_27 Fq25_1_c_27 Fq25_2_c_27 Fk26_c_27 Fq25_4_c_27 Ec27 Vc27 Cc27 S_CS_c_27 Fq25_5_c_27 Va28 P5 g_b23 g_xb_25 (by simp only [List.length_append, List.length_nil, own_l34, own_l40, own_l46, own_l48]; omega : ([] : List Int32).length + own_c34.length ≤ 16 ∧ 16 ≤ 24) ((Ne.symm ne_b23_xb_25) : xb_25 ≠ b23) ((Ne.symm ne_b23_c27.1) : c27 ≠ b23) ((Ne.symm ne_b23_c27.2) : cb27 ≠ b23) ((Ne.symm ne_xb_25_c27.2) : cb27 ≠ xb_25) ((Ne.symm ne_xb_25_c27.1) : c27 ≠ xb_25)) hZ (own_w hw 72 rfl) (own_w hw 49 rfl) (by decide) (by decide)) q29a q29c (g := (mkF m 16 #[.val (.ref r0)] [(.ref c27), (.ref b23)])) rfl (by rw [hml]; rfl) (Steps.refl _) (argsL := [(.ref c27)]) (rest := []) (lenOf pd_33 rfl) rfl (by show 2 * 0 + _ ≤ _; exact Nat.le_of_eq rfl) (hb hby d_m51_16) (fun _ _ => ⟨rfl, e27, (by decide : 4 + 0 ≤ _), (by decide : 68 + 0 ≤ _)⟩)
      obtain ⟨_, T29, L29, X29, ⟨rfl, N29q, K29, Fq29_0, Fq29_1, Fq29_2, Fq29_3, Fq29_4, Fq29_5⟩, st29⟩ := own_r X27 rq29
      have N29 := Fr.app N25 N29q
      have Kp29 : Keep h0 T29.heap [] := Kp27.trans K29 (allS (Or.inr sz_b23) (allS (Or.inr sz_xb_25) all0))
      have Z29 : n0 ≤ T29.heap.size := Nat.le_trans Z27 K29.1
      have Sg29_b23 : Safe Z own_ELs T27.vm T29.heap b23 := Safe.keep K29 (allS Sg27_b23 (allS Sg27_xb_25 all0)) CR27.1 Sg27_b23
      have Sg29_xb_25 : Safe Z own_ELs T27.vm T29.heap xb_25 := Safe.keep K29 (allS Sg27_b23 (allS Sg27_xb_25 all0)) CR27.1 Sg27_xb_25
      have CR29 : CHr Z own_ELs s.vm h0 T27.vm T29.heap := CR27.trans (CHr.keep K29 (allS Sg27_b23 (allS Sg27_xb_25 all0)) CR27.1)
      have Fn_c_29 := Fn_c_27.keep K29 (ninS ne_r0_b23 (ninS ne_r0_xb_25 nin0))
      have E_rn_c_29 := E_rn_c_27.keep K29
      have Fv_rn_c_29 := Fv_rn_c_27.keep K29 (ninS ne_rn_b23 (ninS ne_rn_xb_25 nin0))
      have Fk2_c_29 := Fk2_c_27.keep K29 (ninS ne_rn_b23 (ninS ne_rn_xb_25 nin0))
      have S_CS_c_29 := own_sta_keepN S_CS_c_27 K29 (allS (own_obE Fq25_0_c_27) (allS (own_obV Fq25_5_c_27) all0))
      have Va3_c_29 := Va3_c_27.keep K29 (ninS ne_tn_b23 (ninS ne_tn_xb_25 nin0))
      have k30 : Go p.tables e below _ (T29.setTop (mkF m 20 #[.val (.ref r0)] [(.ref r0), (.ref b23)])) := fun t ht => st29 t (by
        refine XS.aloadN X29.here hx rfl (hb hby d_m51_19) rfl rfl ?_
        exact ht)
      obtain ⟨T31, X31, e31, st31⟩ := getF X29 hx hZ hown (host := "") (Or.inl (own_w hw 38 rfl)) Via.refl rfl Fn_c_29 (g := (mkF m 20 #[.val (.ref r0)] [(.ref r0), (.ref b23)])) rfl rfl (hb hby d_m51_20)
      have k31 : Go p.tables e below _ (T31.setTop (mkF m 23 #[.val (.ref r0)] [(.ref rn), (.ref b23)])) := st31
      obtain ⟨cq32, kq32, q32a, q32b, q32c⟩ := isOf hZ e31 Fq29_0
      have rq32 := X31.virtualBack hx (y := (⟨"java/lang/StringBuilder", "append", "(Ljava/lang/String;)Ljava/lang/StringBuilder;"⟩ : MethodName)) (z := (⟨"java/lang/StringBuilder", "append", "(Ljava/lang/String;)Ljava/lang/StringBuilder;"⟩ : MethodName)) hown (mvT hZ (own_w hw 68 rfl)) (mvT hZ (own_w hw 69 rfl)) (notFace_of_selects (args := #[]) (mvT hZ (own_w hw 71 rfl))) (mvT hZ (own_w hw 71 rfl)) (mvT hZ (own_w hw 70 rfl)) (by decide) (backOf (W := 0) (rm_sba000 l Z a0 hw [] b23 rn xb_25 xk_25 (([] : List Int32) ++ own_c34) 16 tn kn cs G1 T29.heap n0 Z29 Fq29_0 Fq29_1 Fq29_2 Fq29_3 Fq29_4 E_rn_c_29 Fv_rn_c_29 Fk2_c_29 S_CS_c_29 Fq29_5 Va3_c_29 P5 g_b23 g_xb_25 (by simp only [List.length_append, List.length_nil, own_l34, own_l40, own_l46, own_l48]; omega : (([] : List Int32) ++ own_c34).length + cs.length ≤ 16 ∧ 16 ≤ 24) ((Ne.symm ne_b23_xb_25) : xb_25 ≠ b23) ne_rn_b23 ne_tn_b23 ne_tn_xb_25 ne_rn_xb_25) hZ (own_w hw 72 rfl) (own_w hw 49 rfl) (by decide) (by decide)) q32a q32c (g := (mkF m 23 #[.val (.ref r0)] [(.ref rn), (.ref b23)])) rfl (by rw [hml]; rfl) (Steps.refl _) (argsL := [(.ref rn)]) (rest := []) (lenOf pd_33 rfl) rfl (by show 2 * 0 + _ ≤ _; exact Nat.le_of_eq rfl) (hb hby d_m51_23) (fun _ _ => ⟨rfl, e31, (by decide : 4 + 0 ≤ _), (by decide : 68 + 0 ≤ _)⟩)
      obtain ⟨_, T32, L32, X32, ⟨rfl, N32q, K32, Fq32_0, Fq32_1, Fq32_2, Fq32_3, Fq32_4, Fq32_5⟩, st32⟩ := own_r X31 rq32
      have N32 := Fr.app N29 N32q
      have Kp32 : Keep h0 T32.heap [] := Kp29.trans K32 (allS (Or.inr sz_b23) (allS (Or.inr sz_xb_25) all0))
      have Z32 : n0 ≤ T32.heap.size := Nat.le_trans Z29 K32.1
      have Sg32_b23 : Safe Z own_ELs T27.vm T32.heap b23 := Safe.keep K32 (allS Sg29_b23 (allS Sg29_xb_25 all0)) CR29.1 Sg29_b23
      have Sg32_xb_25 : Safe Z own_ELs T27.vm T32.heap xb_25 := Safe.keep K32 (allS Sg29_b23 (allS Sg29_xb_25 all0)) CR29.1 Sg29_xb_25
      have CR32 : CHr Z own_ELs s.vm h0 T27.vm T32.heap := CR29.trans (CHr.keep K32 (allS Sg29_b23 (allS Sg29_xb_25 all0)) CR29.1)
      have S_CS_c_32 := own_sta_keepN S_CS_c_29 K32 (allS (own_obE Fq29_0) (allS (own_obV Fq29_5) all0))
      have k32 : Go p.tables e below _ (T32.setTop (mkF m 26 #[.val (.ref r0)] [(.ref b23)])) := st32
      obtain ⟨c33, T33, h33, kk33, cb33, ck33, X33, e33, E33, hS33, hk33, hZ, hown, Ec33, Cc33, Vc33, Ac33, la33, lb33, hCr33, Lt33, Sf33, st33⟩ := ldcCH (s := s) X32 hx hZ hown (own_w hw 192 rfl) (own_atoms hw) rfl hS27 (Nat.le_trans (Nat.le_trans hk27 K29.1) K32.1) (own_EL hw) (by simp [own_ELs]) CR32.1 (vs := [(.int (123 : Int32)), (.int (123 : Int32)), (.int (47 : Int32)), (.int (116 : Int32)), (.int (111 : Int32)), (.int (74 : Int32)), (.int (115 : Int32)), (.int (111 : Int32)), (.int (110 : Int32)), (.int (125 : Int32)), (.int (125 : Int32))]) (z := 11) ⟨by decide, by decide⟩ (by decide) rfl (g := (mkF m 26 #[.val (.ref r0)] [(.ref b23)])) rfl (hb hby d_m51_26) (n := 44) (by decide) (by decide) (by decide) (by decide)
      have Kp33 : Keep h0 h33 [] := Kp32.ext E33
      have Z33 : n0 ≤ h33.size := Nat.le_trans Z32 E33.1
      have Sg33_b23 : Safe Z own_ELs T33.vm h33 b23 := hCr33.safe Fq32_0.lt Sg32_b23
      have Sg33_xb_25 : Safe Z own_ELs T33.vm h33 xb_25 := hCr33.safe Fq32_5.lt Sg32_xb_25
      have S_CS_c_33 := S_CS_c_32.ext E33
      have Fq32_0_c_33 := Fq32_0.ext E33
      have Fq32_1_c_33 := Fq32_1.ext E33
      have Fq32_2_c_33 := Fq32_2.ext E33
      have Fq32_3_c_33 := Fq32_3.ext E33
      have Fq32_4_c_33 := Fq32_4.ext E33
      have Fq32_5_c_33 := Fq32_5.ext E33
      have ne_b23_c33 := Sf33 _ Sg33_b23
      have ne_xb_25_c33 := Sf33 _ Sg33_xb_25
      have k33 : Go p.tables e below _ (T33.setTop (mkF m 28 #[.val (.ref r0)] [(.ref c33), (.ref b23)])) := st33
      have Va34 : own_A Z h33 cb33 ck33 .byte (Int32.ofNat own_c40.length) (own_b own_c40) := own_acast rfl (by rw [own_b40]; rfl) Ac33
      obtain ⟨cq35, kq35, q35a, q35b, q35c⟩ := isOf hZ e33 Fq32_0_c_33
      have rq35 := X33.virtualBack hx (y := (⟨"java/lang/StringBuilder", "append", "(Ljava/lang/String;)Ljava/lang/StringBuilder;"⟩ : MethodName)) (z := (⟨"java/lang/StringBuilder", "append", "(Ljava/lang/String;)Ljava/lang/StringBuilder;"⟩ : MethodName)) hown (mvT hZ (own_w hw 68 rfl)) (mvT hZ (own_w hw 69 rfl)) (notFace_of_selects (args := #[]) (mvT hZ (own_w hw 71 rfl))) (mvT hZ (own_w hw 71 rfl)) (mvT hZ (own_w hw 70 rfl)) (by decide) (backOf (W := 0) (rm_sba001 l Z a0 hw [] b23 c33 xb_25 xk_25 ((([] : List Int32) ++ own_c34) ++ cs) cb33 ck33 own_c40 G1 h33 n0 Z33 Fq32_0_c_33 Fq32_1_c_33 Fq32_2_c_33 Fq32_3_c_33 Fq32_4_c_33 Ec33 Vc33 Cc33 S_CS_c_33 Fq32_5_c_33 Va34 P5 g_b23 (by simp only [List.length_append, List.length_nil, own_l34, own_l40, own_l46, own_l48]; omega : 17 ≤ ((([] : List Int32) ++ own_c34) ++ cs).length + own_c40.length ∧ ((([] : List Int32) ++ own_c34) ++ cs).length + own_c40.length ≤ 24 ∧ ((([] : List Int32) ++ own_c34) ++ cs).length ≤ 16) ((Ne.symm ne_b23_xb_25) : xb_25 ≠ b23) ((Ne.symm ne_b23_c33.1) : c33 ≠ b23) ((Ne.symm ne_b23_c33.2) : cb33 ≠ b23) ((Ne.symm ne_xb_25_c33.2) : cb33 ≠ xb_25) ((Ne.symm ne_xb_25_c33.1) : c33 ≠ xb_25)) hZ (own_w hw 72 rfl) (own_w hw 49 rfl) (by decide) (by decide)) q35a q35c (g := (mkF m 28 #[.val (.ref r0)] [(.ref c33), (.ref b23)])) rfl (by rw [hml]; rfl) (Steps.refl _) (argsL := [(.ref c33)]) (rest := []) (lenOf pd_33 rfl) rfl (by show 2 * 0 + _ ≤ _; exact Nat.le_of_eq rfl) (hb hby d_m51_28) (fun _ _ => ⟨rfl, e33, (by decide : 6 + 1 ≤ _), (by decide : 116 + 34 ≤ _)⟩)
      obtain ⟨_, T35, L35, X35, ⟨xb_35, xk_35, rfl, N35q, K35, Pq35_0, Fq35_0, Fq35_1, Fq35_2, Fq35_3, Fq35_4, Fq35_5⟩, st35⟩ := own_r X33 rq35
      have N35 := Fr.app N32 N35q
      have Kp35 : Keep h0 T35.heap [] := Kp33.trans K35 (allS (Or.inr sz_b23) all0)
      have Z35 : n0 ≤ T35.heap.size := Nat.le_trans Z33 K35.1
      have S_CS_c_35 := own_sta_keep S_CS_c_33 Fq32_0_c_33 K35
      have k35 : Go p.tables e below _ (T35.setTop (mkF m 31 #[.val (.ref r0)] [(.ref b23)])) := st35
      obtain ⟨cq36, kq36, q36a, q36b, q36c⟩ := isOf hZ rfl Fq35_0
      have rq36 := X35.virtualBack hx (y := (⟨"java/lang/StringBuilder", "toString", "()Ljava/lang/String;"⟩ : MethodName)) (z := (⟨"java/lang/StringBuilder", "toString", "()Ljava/lang/String;"⟩ : MethodName)) hown (mvT hZ (own_w hw 116 rfl)) (mvT hZ (own_w hw 117 rfl)) (notFace_of_selects (args := #[]) (mvT hZ (own_w hw 119 rfl))) (mvT hZ (own_w hw 119 rfl)) (mvT hZ (own_w hw 118 rfl)) (by decide) (backOf (W := 0) (rm_sbT0 l Z a0 hw [] b23 xb_35 xk_35 (((([] : List Int32) ++ own_c34) ++ cs) ++ own_c40) 34 G1 T35.heap n0 Z35 Fq35_0 Fq35_1 Fq35_2 Fq35_3 Fq35_4 S_CS_c_35 Fq35_5 P5 (by simp only [List.length_append, List.length_nil, own_l34, own_l40, own_l46, own_l48]; omega : (((([] : List Int32) ++ own_c34) ++ cs) ++ own_c40).length < 34 ∧ 34 ≤ 34 ∧ (((([] : List Int32) ++ own_c34) ++ cs) ++ own_c40).length ≤ 24)) hZ (own_w hw 120 rfl) (own_w hw 49 rfl) (by decide) (by decide)) q36a q36c (g := (mkF m 31 #[.val (.ref r0)] [(.ref b23)])) rfl (by rw [hml]; rfl) (Steps.refl _) (argsL := []) (rest := []) (lenOf pd_34 rfl) rfl (by show 2 * 0 + _ ≤ _; exact Nat.le_of_eq rfl) (hb hby d_m51_31) (fun _ _ => ⟨rfl, rfl, (by decide : 7 + 2 ≤ _), (by decide : 150 + 52 ≤ _)⟩)
      obtain ⟨_, T36, L36, X36, ⟨xs_36, xb_36, xk_36, rfl, N36q, K36, Fq36_0, Fq36_1, Fq36_2, Fq36_3⟩, st36⟩ := own_r X35 rq36
      have N36 := Fr.app N35 N36q
      have Kp36 : Keep h0 T36.heap [] := Kp35.trans K36 all0
      have k37 : Go p.tables e below _ (T36.setTop (mkF m 64 #[.val (.ref r0)] [(.ref xs_36)])) := fun t ht => st36 t (by
        refine XS.goto X36.here hx rfl (pc0 := 34) (pc' := 64) rfl (hb hby d_m51_34) (by decide) (by decide) ?_
        exact ht)
      obtain ⟨fs, hr, hrun, hended, hW⟩ := X36.leaveW (s := s) hS33 (Nat.le_trans (Nat.le_trans hk33 K35.1) K36.1) (v := some (.ref xs_36)) (fun h => by rw [Bd.returns] at h; cases h)
      refine ⟨_, _, pre0 _ ((goT k4 (goT k22 (goT k24 (goT k25 (goT k27 (goT k30 (goT k31 (goT k32 (goT k33 (goT k35 k37)))))))))) _ (retR X36 hx Bd.returns (hb hby d_m51_64) hr)), hrun, hended, _, _, rfl, ?_, hW.1, hW.2.1, hW.2.2.1, hW.2.2.2.mono (by decide) (by decide)⟩
      show Q_phT Z r0 rn pj tn kn cs G1 fm h0 n0 _ T36.heap _
      exact ⟨xs_36, xb_36, xk_36, rfl, N36, Kp36, Fq36_0, Fq36_1, (own_fcast (own_pK0 hc1) Fq36_2), (own_pV0 (if_neg hc6) hc1 Fq36_3)⟩
  · have Fk38 : f0 Z h0 rn (.int (1 : Int32)) := own_fcast (congrArg Value.int (own_khi hc1)) Fc_rn
    have Va39 : own_A Z h0 tn kn .byte (Int32.ofNat (2 * cs.length)) (own_u cs) := own_acast (by rw [own_nhi hc1]) (by rw [own_shi hc1]) V_tn
    have k40 : Go p.tables e below (s₁.setTop (mkF m 0 #[.val (.ref r0)] [])) (s₁.setTop (mkF m 1 #[.val (.ref r0)] [(.ref r0)])) := by
      intro t ht
      refine XS.aloadN X0.here hx rfl (hb hby d_m51_0) rfl rfl ?_
      exact ht
    obtain ⟨T41, X41, e41, st41⟩ := getF X0 hx hZ hown (host := "") (Or.inl (own_w hw 40 rfl)) Via.refl e0 Fj (g := (mkF m 1 #[.val (.ref r0)] [(.ref r0)])) rfl rfl (hb hby d_m51_1)
    have k41 : Go p.tables e below _ (T41.setTop (mkF m 4 #[.val (.ref r0)] [(.int pj)])) := st41
    by_cases hc42 : pj = (0 : Int32)
    · have k43 : Go p.tables e below _ (T41.setTop (mkF m 37 #[.val (.ref r0)] [])) := goT k41 fun t ht => (by
        refine XS.ifYes X41.here hx rfl (pc0 := 4) (pc' := 37) rfl (hb hby d_m51_4) rfl ((if0 _ _).trans (teq hc42).1) (by decide) (by decide) ?_
        exact ht)
      obtain ⟨T44, h44, X44, e44, E44, A44, D44, -, st44⟩ := newO X41 hx hZ hown (own_w hw 47 rfl) (own_w hw 48 rfl) (own_w hw 49 rfl) e41 (g := (mkF m 37 #[.val (.ref r0)] [])) rfl (hb hby d_m51_37) (by decide) (by decide)
      obtain ⟨b44, g44⟩ : ∃ z, z = h0.size := ⟨_, rfl⟩
      rw [← g44] at A44 D44 st44
      have g_b44 : n0 ≤ b44 := Nat.le_trans Z0 (Nat.le_of_eq g44.symm)
      have sz_b44 : h0.size ≤ b44 := Nat.le_trans (Keep.refl h0 []).1 (Nat.le_of_eq g44.symm)
      have ne_r0_b44 : r0 ≠ b44 := Nat.ne_of_lt (Nat.lt_of_lt_of_le E_r0.lt (Nat.le_of_eq g44.symm))
      have ne_rn_b44 : rn ≠ b44 := Nat.ne_of_lt (Nat.lt_of_lt_of_le E_rn.lt (Nat.le_of_eq g44.symm))
      have ne_tn_b44 : tn ≠ b44 := Nat.ne_of_lt (Nat.lt_of_lt_of_le Va39.lt (Nat.le_of_eq g44.symm))
      have Kp44 : Keep h0 h44 [] := (Keep.refl h0 []).ext E44
      have Z44 : n0 ≤ h44.size := Nat.le_trans Z0 E44.1
      have Sf44_b44 : Safe Z own_ELs s.vm h44 b44 := Safe.ext E44 CR0.1 (Safe.new (Nat.le_of_eq g44.symm))
      have CR44 : CHr Z own_ELs s.vm h0 s.vm h44 := CR0.trans (CHr.ext E44 CR0.1)
      have E_r0_c_44 := E_r0.ext E44
      have Fn_c_44 := Fn.ext E44
      have E_rn_c_44 := E_rn.ext E44
      have Fv_rn_c_44 := Fv_rn.ext E44
      have Fk38_c_44 := Fk38.ext E44
      have S_CS_c_44 := S_CS.ext E44
      have S_AD_c_44 := S_AD.ext E44
      have S_HI_c_44 := S_HI.ext E44
      have S_LO_c_44 := S_LO.ext E44
      have S_SI_c_44 := S_SI.ext E44
      have Va39_c_44 := Va39.ext E44
      have F_value_b44 : f3 Z h44 b44 .null := D44 (Or.inl (own_w hw 62 rfl)) (ty := (.array .byte)) (by decide)
      have F_coder_b44 : f2 Z h44 b44 (.int (0 : Int32)) := D44 (Or.inl (own_w hw 64 rfl)) (ty := .byte) (by decide)
      have F_count_b44 : f4 Z h44 b44 (.int (0 : Int32)) := D44 (Or.inl (own_w hw 89 rfl)) (ty := .int) (by decide)
      have F_maybeLatin1_b44 : f5 Z h44 b44 (.int (0 : Int32)) := D44 (Or.inl (own_w hw 259 rfl)) (ty := .boolean) (by decide)
      have k45 : Go p.tables e below _ (T44.setTop (mkF m 41 #[.val (.ref r0)] [(.ref b44), (.ref b44)])) := fun t ht => st44 t (by
        refine XS.dup X44.here hx rfl (hb hby d_m51_40) rfl rfl ?_
        exact ht)
      have rq46 := X44.specialBack hx (y := (⟨"java/lang/StringBuilder", "<init>", "()V"⟩ : MethodName)) rfl hown (mvT hZ (own_w hw 50 rfl)) (mvT hZ (own_w hw 51 rfl)) (mvT hZ (own_w hw 52 rfl)) (by decide) (backOf (W := 1) (rm_sbI l Z a0 hw [] b44 G1 h44 n0 Z44 A44 F_value_b44 F_coder_b44 F_count_b44 F_maybeLatin1_b44 S_CS_c_44 P5 g_b44) hZ (own_w hw 52 rfl) (own_w hw 49 rfl) (by decide) (by decide)) (g := (mkF m 41 #[.val (.ref r0)] [(.ref b44), (.ref b44)])) rfl (by rw [hml]; rfl) (Steps.refl _) (a := b44) (argsL := []) (rest := [(.ref b44)]) (lenOf pd_12 rfl) rfl (by show 2 * 0 + _ ≤ _; exact Nat.le_of_eq rfl) (hb hby d_m51_41) (fun _ _ => ⟨rfl, e44, (by decide : 1 + 1 ≤ _), (by decide : 4 + 16 ≤ _)⟩)
      obtain ⟨_, T46, L46, X46, ⟨xb_46, xk_46, rfl, N46q, K46, Pq46_0, Fq46_0, Fq46_1, Fq46_2, Fq46_3, Fq46_4, Fq46_5⟩, st46⟩ := own_r X44 rq46
      have N46 := Fr.app N0 N46q
      have Kp46 : Keep h0 T46.heap [] := Kp44.trans K46 (allS (Or.inr sz_b44) all0)
      have Z46 : n0 ≤ T46.heap.size := Nat.le_trans Z44 K46.1
      have ne_r0_xb_46 : r0 ≠ xb_46 := Nat.ne_of_lt (Nat.lt_of_lt_of_le E_r0_c_44.lt Pq46_0)
      have ne_rn_xb_46 : rn ≠ xb_46 := Nat.ne_of_lt (Nat.lt_of_lt_of_le E_rn_c_44.lt Pq46_0)
      have ne_tn_xb_46 : tn ≠ xb_46 := Nat.ne_of_lt (Nat.lt_of_lt_of_le Va39_c_44.lt Pq46_0)
      have ne_b44_xb_46 : b44 ≠ xb_46 := Nat.ne_of_lt (Nat.lt_of_lt_of_le A44.lt Pq46_0)
      have g_xb_46 : n0 ≤ xb_46 := Nat.le_trans Z44 Pq46_0
      have sz_xb_46 : h0.size ≤ xb_46 := Nat.le_trans Kp44.1 Pq46_0
      have Sf46_xb_46 : Safe Z own_ELs s.vm h44 xb_46 := Safe.new Pq46_0
      have Sg46_b44 : Safe Z own_ELs s.vm T46.heap b44 := Safe.keep K46 (allS Sf44_b44 all0) CR44.1 Sf44_b44
      have Sg46_xb_46 : Safe Z own_ELs s.vm T46.heap xb_46 := Safe.keep K46 (allS Sf44_b44 all0) CR44.1 Sf46_xb_46
      have CR46 : CHr Z own_ELs s.vm h0 s.vm T46.heap := CR44.trans (CHr.keep K46 (allS Sf44_b44 all0) CR44.1)
      have Fn_c_46 := Fn_c_44.keep K46 (ninS ne_r0_b44 nin0)
      have E_rn_c_46 := E_rn_c_44.keep K46
      have Fv_rn_c_46 := Fv_rn_c_44.keep K46 (ninS ne_rn_b44 nin0)
      have Fk38_c_46 := Fk38_c_44.keep K46 (ninS ne_rn_b44 nin0)
      have S_CS_c_46 := own_sta_keep S_CS_c_44 A44 K46
      have S_AD_c_46 := own_sta_keep S_AD_c_44 A44 K46
      have S_HI_c_46 := own_sta_keep S_HI_c_44 A44 K46
      have S_LO_c_46 := own_sta_keep S_LO_c_44 A44 K46
      have S_SI_c_46 := own_sta_keep S_SI_c_44 A44 K46
      have Va39_c_46 := Va39_c_44.keep K46 (ninS ne_tn_b44 nin0)
      have k46 : Go p.tables e below _ (T46.setTop (mkF m 44 #[.val (.ref r0)] [(.ref b44)])) := st46
      have Fk47 : f4 Z T46.heap b44 (.int (Int32.ofNat ([] : List Int32).length)) := own_fcast rfl Fq46_3
      have hS0 : s.Since s.vm 0 := (State.WarmedH.refl s).since 0
      obtain ⟨c48, T48, h48, kk48, cb48, ck48, X48, e48, E48, hS48, hk48, hZ, hown, Ec48, Cc48, Vc48, Ac48, la48, lb48, hCr48, Lt48, Sf48, st48⟩ := ldcCH (s := s) (vm0 := s.vm) X46 hx hZ hown (own_w hw 65 rfl) (own_atoms hw) rfl hS0 (Nat.zero_le _) (own_EL hw) (by simp [own_ELs]) CR46.1 (vs := [(.int (123 : Int32)), (.int (123 : Int32))]) (z := 2) ⟨by decide, by decide⟩ (by decide) rfl (g := (mkF m 44 #[.val (.ref r0)] [(.ref b44)])) rfl (hb hby d_m51_44) (n := 8) (by decide) (by decide) (by decide) (by decide)
      have Kp48 : Keep h0 h48 [] := Kp46.ext E48
      have Z48 : n0 ≤ h48.size := Nat.le_trans Z46 E48.1
      have Sg48_b44 : Safe Z own_ELs T48.vm h48 b44 := hCr48.safe Fq46_0.lt Sg46_b44
      have Sg48_xb_46 : Safe Z own_ELs T48.vm h48 xb_46 := hCr48.safe Fq46_5.lt Sg46_xb_46
      have CR48 : CHr Z own_ELs s.vm h0 T48.vm h48 := CR46.trans hCr48
      have Fn_c_48 := Fn_c_46.ext E48
      have E_rn_c_48 := E_rn_c_46.ext E48
      have Fv_rn_c_48 := Fv_rn_c_46.ext E48
      have Fk38_c_48 := Fk38_c_46.ext E48
      have S_CS_c_48 := S_CS_c_46.ext E48
      have S_AD_c_48 := S_AD_c_46.ext E48
      have S_HI_c_48 := S_HI_c_46.ext E48
      have S_LO_c_48 := S_LO_c_46.ext E48
      have S_SI_c_48 := S_SI_c_46.ext E48
      have Va39_c_48 := Va39_c_46.ext E48
      have Fq46_0_c_48 := Fq46_0.ext E48
      have Fq46_1_c_48 := Fq46_1.ext E48
      have Fq46_2_c_48 := Fq46_2.ext E48
      have Fk47_c_48 := Fk47.ext E48
      have Fq46_4_c_48 := Fq46_4.ext E48
      have Fq46_5_c_48 := Fq46_5.ext E48
      have ne_b44_c48 := Sf48 _ Sg48_b44
      have ne_xb_46_c48 := Sf48 _ Sg48_xb_46
      have k48 : Go p.tables e below _ (T48.setTop (mkF m 46 #[.val (.ref r0)] [(.ref c48), (.ref b44)])) := st48
      have Va49 : own_A Z h48 cb48 ck48 .byte (Int32.ofNat own_c46.length) (own_b own_c46) := own_acast rfl (by rw [own_b46]; rfl) Ac48
      obtain ⟨cq50, kq50, q50a, q50b, q50c⟩ := isOf hZ e48 Fq46_0_c_48
      have rq50 := X48.virtualBack hx (y := (⟨"java/lang/StringBuilder", "append", "(Ljava/lang/String;)Ljava/lang/StringBuilder;"⟩ : MethodName)) (z := (⟨"java/lang/StringBuilder", "append", "(Ljava/lang/String;)Ljava/lang/StringBuilder;"⟩ : MethodName)) hown (mvT hZ (own_w hw 68 rfl)) (mvT hZ (own_w hw 69 rfl)) (notFace_of_selects (args := #[]) (mvT hZ (own_w hw 71 rfl))) (mvT hZ (own_w hw 71 rfl)) (mvT hZ (own_w hw 70 rfl)) (by decide) (backOf (W := 0) (rm_sba000 l Z a0 hw [] b44 c48 xb_46 xk_46 ([] : List Int32) 16 cb48 ck48 own_c46 G1 h48 n0 Z48 Fq46_0_c_48 Fq46_1_c_48 Fq46_2_c_48 Fk47_c_48 Fq46_4_c_48 Ec48 Vc48 Cc48 S_CS_c_48 Fq46_5_c_48 Va49 P5 g_b44 g_xb_46 (by simp only [List.length_append, List.length_nil, own_l34, own_l40, own_l46, own_l48]; omega : ([] : List Int32).length + own_c46.length ≤ 16 ∧ 16 ≤ 24) ((Ne.symm ne_b44_xb_46) : xb_46 ≠ b44) ((Ne.symm ne_b44_c48.1) : c48 ≠ b44) ((Ne.symm ne_b44_c48.2) : cb48 ≠ b44) ((Ne.symm ne_xb_46_c48.2) : cb48 ≠ xb_46) ((Ne.symm ne_xb_46_c48.1) : c48 ≠ xb_46)) hZ (own_w hw 72 rfl) (own_w hw 49 rfl) (by decide) (by decide)) q50a q50c (g := (mkF m 46 #[.val (.ref r0)] [(.ref c48), (.ref b44)])) rfl (by rw [hml]; rfl) (Steps.refl _) (argsL := [(.ref c48)]) (rest := []) (lenOf pd_33 rfl) rfl (by show 2 * 0 + _ ≤ _; exact Nat.le_of_eq rfl) (hb hby d_m51_46) (fun _ _ => ⟨rfl, e48, (by decide : 4 + 0 ≤ _), (by decide : 32 + 0 ≤ _)⟩)
      obtain ⟨_, T50, L50, X50, ⟨rfl, N50q, K50, Fq50_0, Fq50_1, Fq50_2, Fq50_3, Fq50_4, Fq50_5⟩, st50⟩ := own_r X48 rq50
      have N50 := Fr.app N46 N50q
      have Kp50 : Keep h0 T50.heap [] := Kp48.trans K50 (allS (Or.inr sz_b44) (allS (Or.inr sz_xb_46) all0))
      have Z50 : n0 ≤ T50.heap.size := Nat.le_trans Z48 K50.1
      have Sg50_b44 : Safe Z own_ELs T48.vm T50.heap b44 := Safe.keep K50 (allS Sg48_b44 (allS Sg48_xb_46 all0)) CR48.1 Sg48_b44
      have CR50 : CHr Z own_ELs s.vm h0 T48.vm T50.heap := CR48.trans (CHr.keep K50 (allS Sg48_b44 (allS Sg48_xb_46 all0)) CR48.1)
      have Fn_c_50 := Fn_c_48.keep K50 (ninS ne_r0_b44 (ninS ne_r0_xb_46 nin0))
      have E_rn_c_50 := E_rn_c_48.keep K50
      have Fv_rn_c_50 := Fv_rn_c_48.keep K50 (ninS ne_rn_b44 (ninS ne_rn_xb_46 nin0))
      have Fk38_c_50 := Fk38_c_48.keep K50 (ninS ne_rn_b44 (ninS ne_rn_xb_46 nin0))
      have S_CS_c_50 := own_sta_keepN S_CS_c_48 K50 (allS (own_obE Fq46_0_c_48) (allS (own_obV Fq46_5_c_48) all0))
      have S_AD_c_50 := own_sta_keepN S_AD_c_48 K50 (allS (own_obE Fq46_0_c_48) (allS (own_obV Fq46_5_c_48) all0))
      have S_HI_c_50 := own_sta_keepN S_HI_c_48 K50 (allS (own_obE Fq46_0_c_48) (allS (own_obV Fq46_5_c_48) all0))
      have S_LO_c_50 := own_sta_keepN S_LO_c_48 K50 (allS (own_obE Fq46_0_c_48) (allS (own_obV Fq46_5_c_48) all0))
      have S_SI_c_50 := own_sta_keepN S_SI_c_48 K50 (allS (own_obE Fq46_0_c_48) (allS (own_obV Fq46_5_c_48) all0))
      have Va39_c_50 := Va39_c_48.keep K50 (ninS ne_tn_b44 (ninS ne_tn_xb_46 nin0))
      have k51 : Go p.tables e below _ (T50.setTop (mkF m 50 #[.val (.ref r0)] [(.ref r0), (.ref b44)])) := fun t ht => st50 t (by
        refine XS.aloadN X50.here hx rfl (hb hby d_m51_49) rfl rfl ?_
        exact ht)
      obtain ⟨T52, X52, e52, st52⟩ := getF X50 hx hZ hown (host := "") (Or.inl (own_w hw 38 rfl)) Via.refl rfl Fn_c_50 (g := (mkF m 50 #[.val (.ref r0)] [(.ref r0), (.ref b44)])) rfl rfl (hb hby d_m51_50)
      have k52 : Go p.tables e below _ (T52.setTop (mkF m 53 #[.val (.ref r0)] [(.ref rn), (.ref b44)])) := st52
      obtain ⟨cq53, kq53, q53a, q53b, q53c⟩ := isOf hZ e52 Fq50_0
      have rq53 := X52.virtualBack hx (y := (⟨"java/lang/StringBuilder", "append", "(Ljava/lang/String;)Ljava/lang/StringBuilder;"⟩ : MethodName)) (z := (⟨"java/lang/StringBuilder", "append", "(Ljava/lang/String;)Ljava/lang/StringBuilder;"⟩ : MethodName)) hown (mvT hZ (own_w hw 68 rfl)) (mvT hZ (own_w hw 69 rfl)) (notFace_of_selects (args := #[]) (mvT hZ (own_w hw 71 rfl))) (mvT hZ (own_w hw 71 rfl)) (mvT hZ (own_w hw 70 rfl)) (by decide) (backOf (W := 0) (rm_sba010 l Z a0 hw [] b44 rn xb_46 xk_46 (([] : List Int32) ++ own_c46) 16 tn kn cs G1 fm T50.heap n0 Z50 Fq50_0 Fq50_1 Fq50_2 Fq50_3 Fq50_4 E_rn_c_50 Fv_rn_c_50 Fk38_c_50 S_CS_c_50 S_AD_c_50 S_HI_c_50 S_LO_c_50 S_SI_c_50 Fq50_5 Va39_c_50 P5 g_b44 (by simp only [List.length_append, List.length_nil, own_l34, own_l40, own_l46, own_l48]; omega : (([] : List Int32) ++ own_c46).length + cs.length ≤ 16 ∧ 16 ≤ 24) ((Ne.symm ne_b44_xb_46) : xb_46 ≠ b44) ne_rn_b44 ne_tn_b44 ne_tn_xb_46 ne_rn_xb_46 (by decide +kernel : ∀ c ∈ (([] : List Int32) ++ own_c46), ¬ c < 0 ∧ ¬ (255 : Int32) < c) rf) hZ (own_w hw 72 rfl) (own_w hw 49 rfl) (by decide) (by decide)) q53a q53c (g := (mkF m 53 #[.val (.ref r0)] [(.ref rn), (.ref b44)])) rfl (by rw [hml]; rfl) (Steps.refl _) (argsL := [(.ref rn)]) (rest := []) (lenOf pd_33 rfl) rfl (by show 2 * 0 + _ ≤ _; exact Nat.le_of_eq rfl) (hb hby d_m51_53) (fun _ _ => ⟨rfl, e52, (by decide : 4 + 1 ≤ _), (by decide : 32 + 48 ≤ _)⟩)
      obtain ⟨_, T53, L53, X53, ⟨xb_53, xk_53, rfl, N53q, K53, Pq53_0, Fq53_0, Fq53_1, Fq53_2, Fq53_3, Fq53_4, Fq53_5⟩, st53⟩ := own_r X52 rq53
      have N53 := Fr.app N50 N53q
      have Kp53 : Keep h0 T53.heap [] := Kp50.trans K53 (allS (Or.inr sz_b44) all0)
      have Z53 : n0 ≤ T53.heap.size := Nat.le_trans Z50 K53.1
      have ne_b44_xb_53 : b44 ≠ xb_53 := Nat.ne_of_lt (Nat.lt_of_lt_of_le Fq50_0.lt Pq53_0)
      have g_xb_53 : n0 ≤ xb_53 := Nat.le_trans Z50 Pq53_0
      have sz_xb_53 : h0.size ≤ xb_53 := Nat.le_trans Kp50.1 Pq53_0
      have Sf53_xb_53 : Safe Z own_ELs T48.vm T50.heap xb_53 := Safe.new Pq53_0
      have Sg53_b44 : Safe Z own_ELs T48.vm T53.heap b44 := Safe.keep K53 (allS Sg50_b44 all0) CR50.1 Sg50_b44
      have Sg53_xb_53 : Safe Z own_ELs T48.vm T53.heap xb_53 := Safe.keep K53 (allS Sg50_b44 all0) CR50.1 Sf53_xb_53
      have CR53 : CHr Z own_ELs s.vm h0 T48.vm T53.heap := CR50.trans (CHr.keep K53 (allS Sg50_b44 all0) CR50.1)
      have S_CS_c_53 := own_sta_keep S_CS_c_50 Fq50_0 K53
      have S_AD_c_53 := own_sta_keep S_AD_c_50 Fq50_0 K53
      have S_HI_c_53 := own_sta_keep S_HI_c_50 Fq50_0 K53
      have S_LO_c_53 := own_sta_keep S_LO_c_50 Fq50_0 K53
      have S_SI_c_53 := own_sta_keep S_SI_c_50 Fq50_0 K53
      have k53 : Go p.tables e below _ (T53.setTop (mkF m 56 #[.val (.ref r0)] [(.ref b44)])) := st53
      obtain ⟨c54, T54, h54, kk54, cb54, ck54, X54, e54, E54, hS54, hk54, hZ, hown, Ec54, Cc54, Vc54, Ac54, la54, lb54, hCr54, Lt54, Sf54, st54⟩ := ldcCH (s := s) X53 hx hZ hown (own_w hw 115 rfl) (own_atoms hw) rfl hS48 (Nat.le_trans (Nat.le_trans hk48 K50.1) K53.1) (own_EL hw) (by simp [own_ELs]) CR53.1 (vs := [(.int (125 : Int32)), (.int (125 : Int32))]) (z := 2) ⟨by decide, by decide⟩ (by decide) rfl (g := (mkF m 56 #[.val (.ref r0)] [(.ref b44)])) rfl (hb hby d_m51_56) (n := 8) (by decide) (by decide) (by decide) (by decide)
      have Kp54 : Keep h0 h54 [] := Kp53.ext E54
      have Z54 : n0 ≤ h54.size := Nat.le_trans Z53 E54.1
      have Sg54_b44 : Safe Z own_ELs T54.vm h54 b44 := hCr54.safe Fq53_0.lt Sg53_b44
      have Sg54_xb_53 : Safe Z own_ELs T54.vm h54 xb_53 := hCr54.safe Fq53_5.lt Sg53_xb_53
      have S_CS_c_54 := S_CS_c_53.ext E54
      have S_AD_c_54 := S_AD_c_53.ext E54
      have S_HI_c_54 := S_HI_c_53.ext E54
      have S_LO_c_54 := S_LO_c_53.ext E54
      have S_SI_c_54 := S_SI_c_53.ext E54
      have Fq53_0_c_54 := Fq53_0.ext E54
      have Fq53_1_c_54 := Fq53_1.ext E54
      have Fq53_2_c_54 := Fq53_2.ext E54
      have Fq53_3_c_54 := Fq53_3.ext E54
      have Fq53_4_c_54 := Fq53_4.ext E54
      have Fq53_5_c_54 := Fq53_5.ext E54
      have ne_b44_c54 := Sf54 _ Sg54_b44
      have ne_xb_53_c54 := Sf54 _ Sg54_xb_53
      have k54 : Go p.tables e below _ (T54.setTop (mkF m 58 #[.val (.ref r0)] [(.ref c54), (.ref b44)])) := st54
      have Va55 : own_A Z h54 cb54 ck54 .byte (Int32.ofNat own_c48.length) (own_b own_c48) := own_acast rfl (by rw [own_b48]; rfl) Ac54
      obtain ⟨cq56, kq56, q56a, q56b, q56c⟩ := isOf hZ e54 Fq53_0_c_54
      have rq56 := X54.virtualBack hx (y := (⟨"java/lang/StringBuilder", "append", "(Ljava/lang/String;)Ljava/lang/StringBuilder;"⟩ : MethodName)) (z := (⟨"java/lang/StringBuilder", "append", "(Ljava/lang/String;)Ljava/lang/StringBuilder;"⟩ : MethodName)) hown (mvT hZ (own_w hw 68 rfl)) (mvT hZ (own_w hw 69 rfl)) (notFace_of_selects (args := #[]) (mvT hZ (own_w hw 71 rfl))) (mvT hZ (own_w hw 71 rfl)) (mvT hZ (own_w hw 70 rfl)) (by decide) (backOf (W := 0) (rm_sba100 l Z a0 hw [] b44 c54 xb_53 xk_53 ((([] : List Int32) ++ own_c46) ++ cs) 16 cb54 ck54 own_c48 G1 fm h54 n0 Z54 Fq53_0_c_54 Fq53_1_c_54 Fq53_2_c_54 Fq53_3_c_54 Fq53_4_c_54 Ec54 Vc54 Cc54 S_CS_c_54 S_AD_c_54 S_HI_c_54 S_LO_c_54 S_SI_c_54 Fq53_5_c_54 Va55 P5 g_b44 g_xb_53 (by simp only [List.length_append, List.length_nil, own_l34, own_l40, own_l46, own_l48]; omega : ((([] : List Int32) ++ own_c46) ++ cs).length + own_c48.length ≤ 16 ∧ 16 ≤ 24) ((Ne.symm ne_b44_xb_53) : xb_53 ≠ b44) ((Ne.symm ne_b44_c54.1) : c54 ≠ b44) ((Ne.symm ne_b44_c54.2) : cb54 ≠ b44) ((Ne.symm ne_xb_53_c54.2) : cb54 ≠ xb_53) ((Ne.symm ne_xb_53_c54.1) : c54 ≠ xb_53) (by decide +kernel : ∀ c ∈ own_c48, ¬ c < 0 ∧ ¬ (255 : Int32) < c) rf) hZ (own_w hw 72 rfl) (own_w hw 49 rfl) (by decide) (by decide)) q56a q56c (g := (mkF m 58 #[.val (.ref r0)] [(.ref c54), (.ref b44)])) rfl (by rw [hml]; rfl) (Steps.refl _) (argsL := [(.ref c54)]) (rest := []) (lenOf pd_33 rfl) rfl (by show 2 * 0 + _ ≤ _; exact Nat.le_of_eq rfl) (hb hby d_m51_58) (fun _ _ => ⟨rfl, e54, (by decide : 7 + 0 ≤ _), (by decide : 92 + 0 ≤ _)⟩)
      obtain ⟨_, T56, L56, X56, ⟨rfl, N56q, K56, Fq56_0, Fq56_1, Fq56_2, Fq56_3, Fq56_4, Fq56_5⟩, st56⟩ := own_r X54 rq56
      have N56 := Fr.app N53 N56q
      have Kp56 : Keep h0 T56.heap [] := Kp54.trans K56 (allS (Or.inr sz_b44) (allS (Or.inr sz_xb_53) all0))
      have Z56 : n0 ≤ T56.heap.size := Nat.le_trans Z54 K56.1
      have S_CS_c_56 := own_sta_keepN S_CS_c_54 K56 (allS (own_obE Fq53_0_c_54) (allS (own_obV Fq53_5_c_54) all0))
      have k56 : Go p.tables e below _ (T56.setTop (mkF m 61 #[.val (.ref r0)] [(.ref b44)])) := st56
      obtain ⟨cq57, kq57, q57a, q57b, q57c⟩ := isOf hZ rfl Fq56_0
      have rq57 := X56.virtualBack hx (y := (⟨"java/lang/StringBuilder", "toString", "()Ljava/lang/String;"⟩ : MethodName)) (z := (⟨"java/lang/StringBuilder", "toString", "()Ljava/lang/String;"⟩ : MethodName)) hown (mvT hZ (own_w hw 116 rfl)) (mvT hZ (own_w hw 117 rfl)) (notFace_of_selects (args := #[]) (mvT hZ (own_w hw 119 rfl))) (mvT hZ (own_w hw 119 rfl)) (mvT hZ (own_w hw 118 rfl)) (by decide) (backOf (W := 0) (rm_sbT1 l Z a0 hw [] b44 xb_53 xk_53 (((([] : List Int32) ++ own_c46) ++ cs) ++ own_c48) 16 G1 T56.heap n0 Z56 Fq56_0 Fq56_1 Fq56_2 Fq56_3 Fq56_4 S_CS_c_56 Fq56_5 P5 (by simp only [List.length_append, List.length_nil, own_l34, own_l40, own_l46, own_l48]; omega : (((([] : List Int32) ++ own_c46) ++ cs) ++ own_c48).length < 16 ∧ 16 ≤ 34 ∧ (((([] : List Int32) ++ own_c46) ++ cs) ++ own_c48).length ≤ 24)) hZ (own_w hw 120 rfl) (own_w hw 49 rfl) (by decide) (by decide)) q57a q57c (g := (mkF m 61 #[.val (.ref r0)] [(.ref b44)])) rfl (by rw [hml]; rfl) (Steps.refl _) (argsL := []) (rest := []) (lenOf pd_34 rfl) rfl (by show 2 * 0 + _ ≤ _; exact Nat.le_of_eq rfl) (hb hby d_m51_61) (fun _ _ => ⟨rfl, rfl, (by decide : 7 + 2 ≤ _), (by decide : 92 + 52 ≤ _)⟩)
      obtain ⟨_, T57, L57, X57, ⟨xs_57, xb_57, xk_57, rfl, N57q, K57, Fq57_0, Fq57_1, Fq57_2, Fq57_3⟩, st57⟩ := own_r X56 rq57
      have N57 := Fr.app N56 N57q
      have Kp57 : Keep h0 T57.heap [] := Kp56.trans K57 all0
      have k57 : Go p.tables e below _ (T57.setTop (mkF m 64 #[.val (.ref r0)] [(.ref xs_57)])) := st57
      obtain ⟨fs, hr, hrun, hended, hW⟩ := X57.leaveW (s := s) hS54 (Nat.le_trans (Nat.le_trans hk54 K56.1) K57.1) (v := some (.ref xs_57)) (fun h => by rw [Bd.returns] at h; cases h)
      refine ⟨_, _, pre0 _ ((goT k40 (goT k43 (goT k45 (goT k46 (goT k48 (goT k51 (goT k52 (goT k53 (goT k54 (goT k56 k57)))))))))) _ (retR X57 hx Bd.returns (hb hby d_m51_64) hr)), hrun, hended, _, _, rfl, ?_, hW.1, hW.2.1, hW.2.2.1, hW.2.2.2.mono (by decide) (by decide)⟩
      show Q_phT Z r0 rn pj tn kn cs G1 fm h0 n0 _ T57.heap _
      exact ⟨xs_57, xb_57, xk_57, rfl, N57, Kp57, Fq57_0, Fq57_1, (own_fcast (own_pK1 hc1) Fq57_2), (own_pV1 (if_pos hc42) hc1 Fq57_3)⟩
    · have k58 : Go p.tables e below _ (T41.setTop (mkF m 7 #[.val (.ref r0)] [])) := goT k41 fun t ht => (by
        refine XS.ifNo X41.here hx rfl (hb hby d_m51_4) rfl ((if0 _ _).trans (feq hc42).1) ?_
        exact ht)
      obtain ⟨T59, h59, X59, e59, E59, A59, D59, -, st59⟩ := newO X41 hx hZ hown (own_w hw 47 rfl) (own_w hw 48 rfl) (own_w hw 49 rfl) e41 (g := (mkF m 7 #[.val (.ref r0)] [])) rfl (hb hby d_m51_7) (by decide) (by decide)
      obtain ⟨b59, g59⟩ : ∃ z, z = h0.size := ⟨_, rfl⟩
      rw [← g59] at A59 D59 st59
      have g_b59 : n0 ≤ b59 := Nat.le_trans Z0 (Nat.le_of_eq g59.symm)
      have sz_b59 : h0.size ≤ b59 := Nat.le_trans (Keep.refl h0 []).1 (Nat.le_of_eq g59.symm)
      have ne_r0_b59 : r0 ≠ b59 := Nat.ne_of_lt (Nat.lt_of_lt_of_le E_r0.lt (Nat.le_of_eq g59.symm))
      have ne_rn_b59 : rn ≠ b59 := Nat.ne_of_lt (Nat.lt_of_lt_of_le E_rn.lt (Nat.le_of_eq g59.symm))
      have ne_tn_b59 : tn ≠ b59 := Nat.ne_of_lt (Nat.lt_of_lt_of_le Va39.lt (Nat.le_of_eq g59.symm))
      have Kp59 : Keep h0 h59 [] := (Keep.refl h0 []).ext E59
      have Z59 : n0 ≤ h59.size := Nat.le_trans Z0 E59.1
      have Sf59_b59 : Safe Z own_ELs s.vm h59 b59 := Safe.ext E59 CR0.1 (Safe.new (Nat.le_of_eq g59.symm))
      have CR59 : CHr Z own_ELs s.vm h0 s.vm h59 := CR0.trans (CHr.ext E59 CR0.1)
      have E_r0_c_59 := E_r0.ext E59
      have Fn_c_59 := Fn.ext E59
      have E_rn_c_59 := E_rn.ext E59
      have Fv_rn_c_59 := Fv_rn.ext E59
      have Fk38_c_59 := Fk38.ext E59
      have S_CS_c_59 := S_CS.ext E59
      have S_AD_c_59 := S_AD.ext E59
      have S_HI_c_59 := S_HI.ext E59
      have S_LO_c_59 := S_LO.ext E59
      have S_SI_c_59 := S_SI.ext E59
      have Va39_c_59 := Va39.ext E59
      have F_value_b59 : f3 Z h59 b59 .null := D59 (Or.inl (own_w hw 62 rfl)) (ty := (.array .byte)) (by decide)
      have F_coder_b59 : f2 Z h59 b59 (.int (0 : Int32)) := D59 (Or.inl (own_w hw 64 rfl)) (ty := .byte) (by decide)
      have F_count_b59 : f4 Z h59 b59 (.int (0 : Int32)) := D59 (Or.inl (own_w hw 89 rfl)) (ty := .int) (by decide)
      have F_maybeLatin1_b59 : f5 Z h59 b59 (.int (0 : Int32)) := D59 (Or.inl (own_w hw 259 rfl)) (ty := .boolean) (by decide)
      have k60 : Go p.tables e below _ (T59.setTop (mkF m 11 #[.val (.ref r0)] [(.ref b59), (.ref b59)])) := fun t ht => st59 t (by
        refine XS.dup X59.here hx rfl (hb hby d_m51_10) rfl rfl ?_
        exact ht)
      have rq61 := X59.specialBack hx (y := (⟨"java/lang/StringBuilder", "<init>", "()V"⟩ : MethodName)) rfl hown (mvT hZ (own_w hw 50 rfl)) (mvT hZ (own_w hw 51 rfl)) (mvT hZ (own_w hw 52 rfl)) (by decide) (backOf (W := 1) (rm_sbI l Z a0 hw [] b59 G1 h59 n0 Z59 A59 F_value_b59 F_coder_b59 F_count_b59 F_maybeLatin1_b59 S_CS_c_59 P5 g_b59) hZ (own_w hw 52 rfl) (own_w hw 49 rfl) (by decide) (by decide)) (g := (mkF m 11 #[.val (.ref r0)] [(.ref b59), (.ref b59)])) rfl (by rw [hml]; rfl) (Steps.refl _) (a := b59) (argsL := []) (rest := [(.ref b59)]) (lenOf pd_12 rfl) rfl (by show 2 * 0 + _ ≤ _; exact Nat.le_of_eq rfl) (hb hby d_m51_11) (fun _ _ => ⟨rfl, e59, (by decide : 1 + 1 ≤ _), (by decide : 4 + 16 ≤ _)⟩)
      obtain ⟨_, T61, L61, X61, ⟨xb_61, xk_61, rfl, N61q, K61, Pq61_0, Fq61_0, Fq61_1, Fq61_2, Fq61_3, Fq61_4, Fq61_5⟩, st61⟩ := own_r X59 rq61
      have N61 := Fr.app N0 N61q
      have Kp61 : Keep h0 T61.heap [] := Kp59.trans K61 (allS (Or.inr sz_b59) all0)
      have Z61 : n0 ≤ T61.heap.size := Nat.le_trans Z59 K61.1
      have ne_r0_xb_61 : r0 ≠ xb_61 := Nat.ne_of_lt (Nat.lt_of_lt_of_le E_r0_c_59.lt Pq61_0)
      have ne_rn_xb_61 : rn ≠ xb_61 := Nat.ne_of_lt (Nat.lt_of_lt_of_le E_rn_c_59.lt Pq61_0)
      have ne_tn_xb_61 : tn ≠ xb_61 := Nat.ne_of_lt (Nat.lt_of_lt_of_le Va39_c_59.lt Pq61_0)
      have ne_b59_xb_61 : b59 ≠ xb_61 := Nat.ne_of_lt (Nat.lt_of_lt_of_le A59.lt Pq61_0)
      have g_xb_61 : n0 ≤ xb_61 := Nat.le_trans Z59 Pq61_0
      have sz_xb_61 : h0.size ≤ xb_61 := Nat.le_trans Kp59.1 Pq61_0
      have Sf61_xb_61 : Safe Z own_ELs s.vm h59 xb_61 := Safe.new Pq61_0
      have Sg61_b59 : Safe Z own_ELs s.vm T61.heap b59 := Safe.keep K61 (allS Sf59_b59 all0) CR59.1 Sf59_b59
      have Sg61_xb_61 : Safe Z own_ELs s.vm T61.heap xb_61 := Safe.keep K61 (allS Sf59_b59 all0) CR59.1 Sf61_xb_61
      have CR61 : CHr Z own_ELs s.vm h0 s.vm T61.heap := CR59.trans (CHr.keep K61 (allS Sf59_b59 all0) CR59.1)
      have Fn_c_61 := Fn_c_59.keep K61 (ninS ne_r0_b59 nin0)
      have E_rn_c_61 := E_rn_c_59.keep K61
      have Fv_rn_c_61 := Fv_rn_c_59.keep K61 (ninS ne_rn_b59 nin0)
      have Fk38_c_61 := Fk38_c_59.keep K61 (ninS ne_rn_b59 nin0)
      have S_CS_c_61 := own_sta_keep S_CS_c_59 A59 K61
      have S_AD_c_61 := own_sta_keep S_AD_c_59 A59 K61
      have S_HI_c_61 := own_sta_keep S_HI_c_59 A59 K61
      have S_LO_c_61 := own_sta_keep S_LO_c_59 A59 K61
      have S_SI_c_61 := own_sta_keep S_SI_c_59 A59 K61
      have Va39_c_61 := Va39_c_59.keep K61 (ninS ne_tn_b59 nin0)
      have k61 : Go p.tables e below _ (T61.setTop (mkF m 14 #[.val (.ref r0)] [(.ref b59)])) := st61
      have Fk62 : f4 Z T61.heap b59 (.int (Int32.ofNat ([] : List Int32).length)) := own_fcast rfl Fq61_3
      have hS0 : s.Since s.vm 0 := (State.WarmedH.refl s).since 0
      obtain ⟨c63, T63, h63, kk63, cb63, ck63, X63, e63, E63, hS63, hk63, hZ, hown, Ec63, Cc63, Vc63, Ac63, la63, lb63, hCr63, Lt63, Sf63, st63⟩ := ldcCH (s := s) (vm0 := s.vm) X61 hx hZ hown (own_w hw 191 rfl) (own_atoms hw) rfl hS0 (Nat.zero_le _) (own_EL hw) (by simp [own_ELs]) CR61.1 (vs := [(.int (123 : Int32)), (.int (123 : Int32)), (.int (35 : Int32)), (.int (116 : Int32)), (.int (111 : Int32)), (.int (74 : Int32)), (.int (115 : Int32)), (.int (111 : Int32)), (.int (110 : Int32)), (.int (125 : Int32)), (.int (125 : Int32))]) (z := 11) ⟨by decide, by decide⟩ (by decide) rfl (g := (mkF m 14 #[.val (.ref r0)] [(.ref b59)])) rfl (hb hby d_m51_14) (n := 44) (by decide) (by decide) (by decide) (by decide)
      have Kp63 : Keep h0 h63 [] := Kp61.ext E63
      have Z63 : n0 ≤ h63.size := Nat.le_trans Z61 E63.1
      have Sg63_b59 : Safe Z own_ELs T63.vm h63 b59 := hCr63.safe Fq61_0.lt Sg61_b59
      have Sg63_xb_61 : Safe Z own_ELs T63.vm h63 xb_61 := hCr63.safe Fq61_5.lt Sg61_xb_61
      have CR63 : CHr Z own_ELs s.vm h0 T63.vm h63 := CR61.trans hCr63
      have Fn_c_63 := Fn_c_61.ext E63
      have E_rn_c_63 := E_rn_c_61.ext E63
      have Fv_rn_c_63 := Fv_rn_c_61.ext E63
      have Fk38_c_63 := Fk38_c_61.ext E63
      have S_CS_c_63 := S_CS_c_61.ext E63
      have S_AD_c_63 := S_AD_c_61.ext E63
      have S_HI_c_63 := S_HI_c_61.ext E63
      have S_LO_c_63 := S_LO_c_61.ext E63
      have S_SI_c_63 := S_SI_c_61.ext E63
      have Va39_c_63 := Va39_c_61.ext E63
      have Fq61_0_c_63 := Fq61_0.ext E63
      have Fq61_1_c_63 := Fq61_1.ext E63
      have Fq61_2_c_63 := Fq61_2.ext E63
      have Fk62_c_63 := Fk62.ext E63
      have Fq61_4_c_63 := Fq61_4.ext E63
      have Fq61_5_c_63 := Fq61_5.ext E63
      have ne_b59_c63 := Sf63 _ Sg63_b59
      have ne_xb_61_c63 := Sf63 _ Sg63_xb_61
      have k63 : Go p.tables e below _ (T63.setTop (mkF m 16 #[.val (.ref r0)] [(.ref c63), (.ref b59)])) := st63
      have Va64 : own_A Z h63 cb63 ck63 .byte (Int32.ofNat own_c34.length) (own_b own_c34) := own_acast rfl (by rw [own_b34]; rfl) Ac63
      obtain ⟨cq65, kq65, q65a, q65b, q65c⟩ := isOf hZ e63 Fq61_0_c_63
      have rq65 := X63.virtualBack hx (y := (⟨"java/lang/StringBuilder", "append", "(Ljava/lang/String;)Ljava/lang/StringBuilder;"⟩ : MethodName)) (z := (⟨"java/lang/StringBuilder", "append", "(Ljava/lang/String;)Ljava/lang/StringBuilder;"⟩ : MethodName)) hown (mvT hZ (own_w hw 68 rfl)) (mvT hZ (own_w hw 69 rfl)) (notFace_of_selects (args := #[]) (mvT hZ (own_w hw 71 rfl))) (mvT hZ (own_w hw 71 rfl)) (mvT hZ (own_w hw 70 rfl)) (by decide) (backOf (W := 0) (rm_sba000 l Z a0 hw [] b59 c63 xb_61 xk_61 ([] : List Int32) 16 cb63 ck63 own_c34 G1 h63 n0 Z63 Fq61_0_c_63 Fq61_1_c_63 Fq61_2_c_63 Fk62_c_63 Fq61_4_c_63 Ec63 Vc63 Cc63 S_CS_c_63 Fq61_5_c_63 Va64 P5 g_b59 g_xb_61 (by simp only [List.length_append, List.length_nil, own_l34, own_l40, own_l46, own_l48]; omega : ([] : List Int32).length + own_c34.length ≤ 16 ∧ 16 ≤ 24) ((Ne.symm ne_b59_xb_61) : xb_61 ≠ b59) ((Ne.symm ne_b59_c63.1) : c63 ≠ b59) ((Ne.symm ne_b59_c63.2) : cb63 ≠ b59) ((Ne.symm ne_xb_61_c63.2) : cb63 ≠ xb_61) ((Ne.symm ne_xb_61_c63.1) : c63 ≠ xb_61)) hZ (own_w hw 72 rfl) (own_w hw 49 rfl) (by decide) (by decide)) q65a q65c (g := (mkF m 16 #[.val (.ref r0)] [(.ref c63), (.ref b59)])) rfl (by rw [hml]; rfl) (Steps.refl _) (argsL := [(.ref c63)]) (rest := []) (lenOf pd_33 rfl) rfl (by show 2 * 0 + _ ≤ _; exact Nat.le_of_eq rfl) (hb hby d_m51_16) (fun _ _ => ⟨rfl, e63, (by decide : 4 + 0 ≤ _), (by decide : 68 + 0 ≤ _)⟩)
      obtain ⟨_, T65, L65, X65, ⟨rfl, N65q, K65, Fq65_0, Fq65_1, Fq65_2, Fq65_3, Fq65_4, Fq65_5⟩, st65⟩ := own_r X63 rq65
      have N65 := Fr.app N61 N65q
      have Kp65 : Keep h0 T65.heap [] := Kp63.trans K65 (allS (Or.inr sz_b59) (allS (Or.inr sz_xb_61) all0))
      have Z65 : n0 ≤ T65.heap.size := Nat.le_trans Z63 K65.1
      have Sg65_b59 : Safe Z own_ELs T63.vm T65.heap b59 := Safe.keep K65 (allS Sg63_b59 (allS Sg63_xb_61 all0)) CR63.1 Sg63_b59
      have CR65 : CHr Z own_ELs s.vm h0 T63.vm T65.heap := CR63.trans (CHr.keep K65 (allS Sg63_b59 (allS Sg63_xb_61 all0)) CR63.1)
      have Fn_c_65 := Fn_c_63.keep K65 (ninS ne_r0_b59 (ninS ne_r0_xb_61 nin0))
      have E_rn_c_65 := E_rn_c_63.keep K65
      have Fv_rn_c_65 := Fv_rn_c_63.keep K65 (ninS ne_rn_b59 (ninS ne_rn_xb_61 nin0))
      have Fk38_c_65 := Fk38_c_63.keep K65 (ninS ne_rn_b59 (ninS ne_rn_xb_61 nin0))
      have S_CS_c_65 := own_sta_keepN S_CS_c_63 K65 (allS (own_obE Fq61_0_c_63) (allS (own_obV Fq61_5_c_63) all0))
      have S_AD_c_65 := own_sta_keepN S_AD_c_63 K65 (allS (own_obE Fq61_0_c_63) (allS (own_obV Fq61_5_c_63) all0))
      have S_HI_c_65 := own_sta_keepN S_HI_c_63 K65 (allS (own_obE Fq61_0_c_63) (allS (own_obV Fq61_5_c_63) all0))
      have S_LO_c_65 := own_sta_keepN S_LO_c_63 K65 (allS (own_obE Fq61_0_c_63) (allS (own_obV Fq61_5_c_63) all0))
      have S_SI_c_65 := own_sta_keepN S_SI_c_63 K65 (allS (own_obE Fq61_0_c_63) (allS (own_obV Fq61_5_c_63) all0))
      have Va39_c_65 := Va39_c_63.keep K65 (ninS ne_tn_b59 (ninS ne_tn_xb_61 nin0))
      have k66 : Go p.tables e below _ (T65.setTop (mkF m 20 #[.val (.ref r0)] [(.ref r0), (.ref b59)])) := fun t ht => st65 t (by
        refine XS.aloadN X65.here hx rfl (hb hby d_m51_19) rfl rfl ?_
        exact ht)
      obtain ⟨T67, X67, e67, st67⟩ := getF X65 hx hZ hown (host := "") (Or.inl (own_w hw 38 rfl)) Via.refl rfl Fn_c_65 (g := (mkF m 20 #[.val (.ref r0)] [(.ref r0), (.ref b59)])) rfl rfl (hb hby d_m51_20)
      have k67 : Go p.tables e below _ (T67.setTop (mkF m 23 #[.val (.ref r0)] [(.ref rn), (.ref b59)])) := st67
      obtain ⟨cq68, kq68, q68a, q68b, q68c⟩ := isOf hZ e67 Fq65_0
      have rq68 := X67.virtualBack hx (y := (⟨"java/lang/StringBuilder", "append", "(Ljava/lang/String;)Ljava/lang/StringBuilder;"⟩ : MethodName)) (z := (⟨"java/lang/StringBuilder", "append", "(Ljava/lang/String;)Ljava/lang/StringBuilder;"⟩ : MethodName)) hown (mvT hZ (own_w hw 68 rfl)) (mvT hZ (own_w hw 69 rfl)) (notFace_of_selects (args := #[]) (mvT hZ (own_w hw 71 rfl))) (mvT hZ (own_w hw 71 rfl)) (mvT hZ (own_w hw 70 rfl)) (by decide) (backOf (W := 0) (rm_sba010 l Z a0 hw [] b59 rn xb_61 xk_61 (([] : List Int32) ++ own_c34) 16 tn kn cs G1 fm T65.heap n0 Z65 Fq65_0 Fq65_1 Fq65_2 Fq65_3 Fq65_4 E_rn_c_65 Fv_rn_c_65 Fk38_c_65 S_CS_c_65 S_AD_c_65 S_HI_c_65 S_LO_c_65 S_SI_c_65 Fq65_5 Va39_c_65 P5 g_b59 (by simp only [List.length_append, List.length_nil, own_l34, own_l40, own_l46, own_l48]; omega : (([] : List Int32) ++ own_c34).length + cs.length ≤ 16 ∧ 16 ≤ 24) ((Ne.symm ne_b59_xb_61) : xb_61 ≠ b59) ne_rn_b59 ne_tn_b59 ne_tn_xb_61 ne_rn_xb_61 (by decide +kernel : ∀ c ∈ (([] : List Int32) ++ own_c34), ¬ c < 0 ∧ ¬ (255 : Int32) < c) rf) hZ (own_w hw 72 rfl) (own_w hw 49 rfl) (by decide) (by decide)) q68a q68c (g := (mkF m 23 #[.val (.ref r0)] [(.ref rn), (.ref b59)])) rfl (by rw [hml]; rfl) (Steps.refl _) (argsL := [(.ref rn)]) (rest := []) (lenOf pd_33 rfl) rfl (by show 2 * 0 + _ ≤ _; exact Nat.le_of_eq rfl) (hb hby d_m51_23) (fun _ _ => ⟨rfl, e67, (by decide : 4 + 1 ≤ _), (by decide : 68 + 48 ≤ _)⟩)
      obtain ⟨_, T68, L68, X68, ⟨xb_68, xk_68, rfl, N68q, K68, Pq68_0, Fq68_0, Fq68_1, Fq68_2, Fq68_3, Fq68_4, Fq68_5⟩, st68⟩ := own_r X67 rq68
      have N68 := Fr.app N65 N68q
      have Kp68 : Keep h0 T68.heap [] := Kp65.trans K68 (allS (Or.inr sz_b59) all0)
      have Z68 : n0 ≤ T68.heap.size := Nat.le_trans Z65 K68.1
      have ne_b59_xb_68 : b59 ≠ xb_68 := Nat.ne_of_lt (Nat.lt_of_lt_of_le Fq65_0.lt Pq68_0)
      have Sf68_xb_68 : Safe Z own_ELs T63.vm T65.heap xb_68 := Safe.new Pq68_0
      have Sg68_b59 : Safe Z own_ELs T63.vm T68.heap b59 := Safe.keep K68 (allS Sg65_b59 all0) CR65.1 Sg65_b59
      have Sg68_xb_68 : Safe Z own_ELs T63.vm T68.heap xb_68 := Safe.keep K68 (allS Sg65_b59 all0) CR65.1 Sf68_xb_68
      have CR68 : CHr Z own_ELs s.vm h0 T63.vm T68.heap := CR65.trans (CHr.keep K68 (allS Sg65_b59 all0) CR65.1)
      have S_CS_c_68 := own_sta_keep S_CS_c_65 Fq65_0 K68
      have S_AD_c_68 := own_sta_keep S_AD_c_65 Fq65_0 K68
      have S_HI_c_68 := own_sta_keep S_HI_c_65 Fq65_0 K68
      have S_LO_c_68 := own_sta_keep S_LO_c_65 Fq65_0 K68
      have S_SI_c_68 := own_sta_keep S_SI_c_65 Fq65_0 K68
      have k68 : Go p.tables e below _ (T68.setTop (mkF m 26 #[.val (.ref r0)] [(.ref b59)])) := st68
      obtain ⟨c69, T69, h69, kk69, cb69, ck69, X69, e69, E69, hS69, hk69, hZ, hown, Ec69, Cc69, Vc69, Ac69, la69, lb69, hCr69, Lt69, Sf69, st69⟩ := ldcCH (s := s) X68 hx hZ hown (own_w hw 192 rfl) (own_atoms hw) rfl hS63 (Nat.le_trans (Nat.le_trans hk63 K65.1) K68.1) (own_EL hw) (by simp [own_ELs]) CR68.1 (vs := [(.int (123 : Int32)), (.int (123 : Int32)), (.int (47 : Int32)), (.int (116 : Int32)), (.int (111 : Int32)), (.int (74 : Int32)), (.int (115 : Int32)), (.int (111 : Int32)), (.int (110 : Int32)), (.int (125 : Int32)), (.int (125 : Int32))]) (z := 11) ⟨by decide, by decide⟩ (by decide) rfl (g := (mkF m 26 #[.val (.ref r0)] [(.ref b59)])) rfl (hb hby d_m51_26) (n := 44) (by decide) (by decide) (by decide) (by decide)
      have Kp69 : Keep h0 h69 [] := Kp68.ext E69
      have Z69 : n0 ≤ h69.size := Nat.le_trans Z68 E69.1
      have Sg69_b59 : Safe Z own_ELs T69.vm h69 b59 := hCr69.safe Fq68_0.lt Sg68_b59
      have Sg69_xb_68 : Safe Z own_ELs T69.vm h69 xb_68 := hCr69.safe Fq68_5.lt Sg68_xb_68
      have S_CS_c_69 := S_CS_c_68.ext E69
      have S_AD_c_69 := S_AD_c_68.ext E69
      have S_HI_c_69 := S_HI_c_68.ext E69
      have S_LO_c_69 := S_LO_c_68.ext E69
      have S_SI_c_69 := S_SI_c_68.ext E69
      have Fq68_0_c_69 := Fq68_0.ext E69
      have Fq68_1_c_69 := Fq68_1.ext E69
      have Fq68_2_c_69 := Fq68_2.ext E69
      have Fq68_3_c_69 := Fq68_3.ext E69
      have Fq68_4_c_69 := Fq68_4.ext E69
      have Fq68_5_c_69 := Fq68_5.ext E69
      have ne_b59_c69 := Sf69 _ Sg69_b59
      have ne_xb_68_c69 := Sf69 _ Sg69_xb_68
      have k69 : Go p.tables e below _ (T69.setTop (mkF m 28 #[.val (.ref r0)] [(.ref c69), (.ref b59)])) := st69
      have Va70 : own_A Z h69 cb69 ck69 .byte (Int32.ofNat own_c40.length) (own_b own_c40) := own_acast rfl (by rw [own_b40]; rfl) Ac69
      obtain ⟨cq71, kq71, q71a, q71b, q71c⟩ := isOf hZ e69 Fq68_0_c_69
      have rq71 := X69.virtualBack hx (y := (⟨"java/lang/StringBuilder", "append", "(Ljava/lang/String;)Ljava/lang/StringBuilder;"⟩ : MethodName)) (z := (⟨"java/lang/StringBuilder", "append", "(Ljava/lang/String;)Ljava/lang/StringBuilder;"⟩ : MethodName)) hown (mvT hZ (own_w hw 68 rfl)) (mvT hZ (own_w hw 69 rfl)) (notFace_of_selects (args := #[]) (mvT hZ (own_w hw 71 rfl))) (mvT hZ (own_w hw 71 rfl)) (mvT hZ (own_w hw 70 rfl)) (by decide) (backOf (W := 0) (rm_sba101 l Z a0 hw [] b59 c69 xb_68 xk_68 ((([] : List Int32) ++ own_c34) ++ cs) cb69 ck69 own_c40 G1 fm h69 n0 Z69 Fq68_0_c_69 Fq68_1_c_69 Fq68_2_c_69 Fq68_3_c_69 Fq68_4_c_69 Ec69 Vc69 Cc69 S_CS_c_69 S_AD_c_69 S_HI_c_69 S_LO_c_69 S_SI_c_69 Fq68_5_c_69 Va70 P5 g_b59 (by simp only [List.length_append, List.length_nil, own_l34, own_l40, own_l46, own_l48]; omega : 17 ≤ ((([] : List Int32) ++ own_c34) ++ cs).length + own_c40.length ∧ ((([] : List Int32) ++ own_c34) ++ cs).length + own_c40.length ≤ 24 ∧ ((([] : List Int32) ++ own_c34) ++ cs).length ≤ 16) ((Ne.symm ne_b59_xb_68) : xb_68 ≠ b59) ((Ne.symm ne_b59_c69.1) : c69 ≠ b59) ((Ne.symm ne_b59_c69.2) : cb69 ≠ b59) ((Ne.symm ne_xb_68_c69.2) : cb69 ≠ xb_68) ((Ne.symm ne_xb_68_c69.1) : c69 ≠ xb_68) (by decide +kernel : ∀ c ∈ own_c40, ¬ c < 0 ∧ ¬ (255 : Int32) < c) rf) hZ (own_w hw 72 rfl) (own_w hw 49 rfl) (by decide) (by decide)) q71a q71c (g := (mkF m 28 #[.val (.ref r0)] [(.ref c69), (.ref b59)])) rfl (by rw [hml]; rfl) (Steps.refl _) (argsL := [(.ref c69)]) (rest := []) (lenOf pd_33 rfl) rfl (by show 2 * 0 + _ ≤ _; exact Nat.le_of_eq rfl) (hb hby d_m51_28) (fun _ _ => ⟨rfl, e69, (by decide : 7 + 1 ≤ _), (by decide : 164 + 68 ≤ _)⟩)
      obtain ⟨_, T71, L71, X71, ⟨xb_71, xk_71, rfl, N71q, K71, Pq71_0, Fq71_0, Fq71_1, Fq71_2, Fq71_3, Fq71_4, Fq71_5⟩, st71⟩ := own_r X69 rq71
      have N71 := Fr.app N68 N71q
      have Kp71 : Keep h0 T71.heap [] := Kp69.trans K71 (allS (Or.inr sz_b59) all0)
      have Z71 : n0 ≤ T71.heap.size := Nat.le_trans Z69 K71.1
      have S_CS_c_71 := own_sta_keep S_CS_c_69 Fq68_0_c_69 K71
      have k71 : Go p.tables e below _ (T71.setTop (mkF m 31 #[.val (.ref r0)] [(.ref b59)])) := st71
      obtain ⟨cq72, kq72, q72a, q72b, q72c⟩ := isOf hZ rfl Fq71_0
      have rq72 := X71.virtualBack hx (y := (⟨"java/lang/StringBuilder", "toString", "()Ljava/lang/String;"⟩ : MethodName)) (z := (⟨"java/lang/StringBuilder", "toString", "()Ljava/lang/String;"⟩ : MethodName)) hown (mvT hZ (own_w hw 116 rfl)) (mvT hZ (own_w hw 117 rfl)) (notFace_of_selects (args := #[]) (mvT hZ (own_w hw 119 rfl))) (mvT hZ (own_w hw 119 rfl)) (mvT hZ (own_w hw 118 rfl)) (by decide) (backOf (W := 0) (rm_sbT1 l Z a0 hw [] b59 xb_71 xk_71 (((([] : List Int32) ++ own_c34) ++ cs) ++ own_c40) 34 G1 T71.heap n0 Z71 Fq71_0 Fq71_1 Fq71_2 Fq71_3 Fq71_4 S_CS_c_71 Fq71_5 P5 (by simp only [List.length_append, List.length_nil, own_l34, own_l40, own_l46, own_l48]; omega : (((([] : List Int32) ++ own_c34) ++ cs) ++ own_c40).length < 34 ∧ 34 ≤ 34 ∧ (((([] : List Int32) ++ own_c34) ++ cs) ++ own_c40).length ≤ 24)) hZ (own_w hw 120 rfl) (own_w hw 49 rfl) (by decide) (by decide)) q72a q72c (g := (mkF m 31 #[.val (.ref r0)] [(.ref b59)])) rfl (by rw [hml]; rfl) (Steps.refl _) (argsL := []) (rest := []) (lenOf pd_34 rfl) rfl (by show 2 * 0 + _ ≤ _; exact Nat.le_of_eq rfl) (hb hby d_m51_31) (fun _ _ => ⟨rfl, rfl, (by decide : 8 + 2 ≤ _), (by decide : 232 + 52 ≤ _)⟩)
      obtain ⟨_, T72, L72, X72, ⟨xs_72, xb_72, xk_72, rfl, N72q, K72, Fq72_0, Fq72_1, Fq72_2, Fq72_3⟩, st72⟩ := own_r X71 rq72
      have N72 := Fr.app N71 N72q
      have Kp72 : Keep h0 T72.heap [] := Kp71.trans K72 all0
      have k73 : Go p.tables e below _ (T72.setTop (mkF m 64 #[.val (.ref r0)] [(.ref xs_72)])) := fun t ht => st72 t (by
        refine XS.goto X72.here hx rfl (pc0 := 34) (pc' := 64) rfl (hb hby d_m51_34) (by decide) (by decide) ?_
        exact ht)
      obtain ⟨fs, hr, hrun, hended, hW⟩ := X72.leaveW (s := s) hS69 (Nat.le_trans (Nat.le_trans hk69 K71.1) K72.1) (v := some (.ref xs_72)) (fun h => by rw [Bd.returns] at h; cases h)
      refine ⟨_, _, pre0 _ ((goT k40 (goT k58 (goT k60 (goT k61 (goT k63 (goT k66 (goT k67 (goT k68 (goT k69 (goT k71 k73)))))))))) _ (retR X72 hx Bd.returns (hb hby d_m51_64) hr)), hrun, hended, _, _, rfl, ?_, hW.1, hW.2.1, hW.2.2.1, hW.2.2.2.mono (by decide) (by decide)⟩
      show Q_phT Z r0 rn pj tn kn cs G1 fm h0 n0 _ T72.heap _
      exact ⟨xs_72, xb_72, xk_72, rfl, N72, Kp72, Fq72_0, Fq72_1, (own_fcast (own_pK1 hc1) Fq72_2), (own_pV1 (if_neg hc42) hc1 Fq72_3)⟩
theorem own_at_14 : own_at method_3_code 16 0 (own_e34 ++ own_em 0 ++ own_e40) = true := by decide +kernel
theorem own_pe_14 : own_pe 16 0 (own_e34 ++ own_em 0 ++ own_e40) = 142 := by decide +kernel
theorem own_at_157 : own_at method_3_code 159 0 (own_e34 ++ own_em 1 ++ own_e40) = true := by decide +kernel
theorem own_pe_157 : own_pe 159 0 (own_e34 ++ own_em 1 ++ own_e40) = 290 := by decide +kernel
theorem own_at_300 : own_at method_3_code 302 0 (own_e34 ++ own_em 2 ++ own_e40) = true := by decide +kernel
theorem own_pe_300 : own_pe 302 0 (own_e34 ++ own_em 2 ++ own_e40) = 438 := by decide +kernel
theorem own_at_451 : own_at method_3_code 453 0 (own_e46 ++ own_em 0 ++ own_e48) = true := by decide +kernel
theorem own_pe_451 : own_pe 453 0 (own_e46 ++ own_em 0 ++ own_e48) = 473 := by decide +kernel
theorem own_at_487 : own_at method_3_code 489 0 (own_e46 ++ own_em 1 ++ own_e48) = true := by decide +kernel
theorem own_pe_487 : own_pe 489 0 (own_e46 ++ own_em 1 ++ own_e48) = 513 := by decide +kernel
theorem own_at_523 : own_at method_3_code 525 0 (own_e46 ++ own_em 2 ++ own_e48) = true := by decide +kernel
theorem own_pe_523 : own_pe 525 0 (own_e46 ++ own_em 2 ++ own_e48) = 553 := by decide +kernel
theorem pd_35 : parseMethodDescriptor "([C)V" = some ⟨[(.array .char)], none⟩ := by decide +kernel
theorem d_m52_0 : decode method_3_code 0 = .ok (.iload_n 0, 1) := by decide +kernel
theorem d_m52_1 : decode method_3_code 1 = .ok (.ifCond .eq 441, 3) := by decide +kernel
theorem d_m52_4 : decode method_3_code 4 = .ok (.iload_n 1, 1) := by decide +kernel
theorem d_m52_5 : decode method_3_code 5 = .ok (.ifCond .ne 141, 3) := by decide +kernel
theorem d_m52_8 : decode method_3_code 8 = .ok (.new 7, 3) := by decide +kernel
theorem d_m52_11 : decode method_3_code 11 = .ok (.dup, 1) := by decide +kernel
theorem d_m52_12 : decode method_3_code 12 = .ok (.bipush 22, 2) := by decide +kernel
theorem d_m52_14 : decode method_3_code 14 = .ok (.newarray .char, 2) := by decide +kernel
theorem d_m52_142 : decode method_3_code 142 = .ok (.invokespecial 9, 3) := by decide +kernel
theorem d_m52_145 : decode method_3_code 145 = .ok (.areturn, 1) := by decide +kernel
theorem d_m52_146 : decode method_3_code 146 = .ok (.iload_n 1, 1) := by decide +kernel
theorem d_m52_147 : decode method_3_code 147 = .ok (.iconst 1, 1) := by decide +kernel
theorem d_m52_148 : decode method_3_code 148 = .ok (.if_icmp .ne 146, 3) := by decide +kernel
theorem d_m52_151 : decode method_3_code 151 = .ok (.new 7, 3) := by decide +kernel
theorem d_m52_154 : decode method_3_code 154 = .ok (.dup, 1) := by decide +kernel
theorem d_m52_155 : decode method_3_code 155 = .ok (.bipush 23, 2) := by decide +kernel
theorem d_m52_157 : decode method_3_code 157 = .ok (.newarray .char, 2) := by decide +kernel
theorem d_m52_290 : decode method_3_code 290 = .ok (.invokespecial 9, 3) := by decide +kernel
theorem d_m52_293 : decode method_3_code 293 = .ok (.areturn, 1) := by decide +kernel
theorem d_m52_294 : decode method_3_code 294 = .ok (.new 7, 3) := by decide +kernel
theorem d_m52_297 : decode method_3_code 297 = .ok (.dup, 1) := by decide +kernel
theorem d_m52_298 : decode method_3_code 298 = .ok (.bipush 24, 2) := by decide +kernel
theorem d_m52_300 : decode method_3_code 300 = .ok (.newarray .char, 2) := by decide +kernel
theorem d_m52_438 : decode method_3_code 438 = .ok (.invokespecial 9, 3) := by decide +kernel
theorem d_m52_441 : decode method_3_code 441 = .ok (.areturn, 1) := by decide +kernel
theorem d_m52_442 : decode method_3_code 442 = .ok (.iload_n 1, 1) := by decide +kernel
theorem d_m52_443 : decode method_3_code 443 = .ok (.ifCond .ne 34, 3) := by decide +kernel
theorem d_m52_446 : decode method_3_code 446 = .ok (.new 7, 3) := by decide +kernel
theorem d_m52_449 : decode method_3_code 449 = .ok (.dup, 1) := by decide +kernel
theorem d_m52_450 : decode method_3_code 450 = .ok (.iconst 4, 1) := by decide +kernel
theorem d_m52_451 : decode method_3_code 451 = .ok (.newarray .char, 2) := by decide +kernel
theorem d_m52_473 : decode method_3_code 473 = .ok (.invokespecial 9, 3) := by decide +kernel
theorem d_m52_476 : decode method_3_code 476 = .ok (.areturn, 1) := by decide +kernel
theorem d_m52_477 : decode method_3_code 477 = .ok (.iload_n 1, 1) := by decide +kernel
theorem d_m52_478 : decode method_3_code 478 = .ok (.iconst 1, 1) := by decide +kernel
theorem d_m52_479 : decode method_3_code 479 = .ok (.if_icmp .ne 38, 3) := by decide +kernel
theorem d_m52_482 : decode method_3_code 482 = .ok (.new 7, 3) := by decide +kernel
theorem d_m52_485 : decode method_3_code 485 = .ok (.dup, 1) := by decide +kernel
theorem d_m52_486 : decode method_3_code 486 = .ok (.iconst 5, 1) := by decide +kernel
theorem d_m52_487 : decode method_3_code 487 = .ok (.newarray .char, 2) := by decide +kernel
theorem d_m52_513 : decode method_3_code 513 = .ok (.invokespecial 9, 3) := by decide +kernel
theorem d_m52_516 : decode method_3_code 516 = .ok (.areturn, 1) := by decide +kernel
theorem d_m52_517 : decode method_3_code 517 = .ok (.new 7, 3) := by decide +kernel
theorem d_m52_520 : decode method_3_code 520 = .ok (.dup, 1) := by decide +kernel
theorem d_m52_521 : decode method_3_code 521 = .ok (.bipush 6, 2) := by decide +kernel
theorem d_m52_523 : decode method_3_code 523 = .ok (.newarray .char, 2) := by decide +kernel
theorem d_m52_553 : decode method_3_code 553 = .ok (.invokespecial 9, 3) := by decide +kernel
theorem d_m52_556 : decode method_3_code 556 = .ok (.areturn, 1) := by decide +kernel
theorem pn_10 : plainName "com/example/fieldveil/fieldveil/PlaceholderToStringPinLaw" = true := by first | (simp [plainName, overriddenIn]; done) | decide +kernel
theorem ef_exp (m : MethodId) (x0 : Int32) (x1 : Int32) (x2 : Int32) (x3 : Int32) : entryFrame m #[(.int x0), (.int x1), (.int x2), (.int x3)] 4 = mkF m 0 #[.val (.int x0), .val (.int x1), .val (.int x2), .val (.int x3)] [] := by first | (simp [entryFrame, mkF, argsToLocals, Value.category]; done) | rfl
def Q_exp (Z : State) (p0 : Int32) (p1 : Int32) (p2 : Int32) (p3 : Int32) (G1 : Int32) (h0 : Heap) (n0 : Nat) (v : Option Value) (h : Heap) (L : List Loc) : Prop := ∃ (xs : Addr) (xb : Addr) (xk : ClassId), v = some (.ref xs) ∧ Fr n0 L ∧ Keep h0 h [] ∧ Exa Z h xs "java/lang/String" ∧ f1 Z h xs (.ref xb) ∧ f0 Z h xs (.int (own_k (own_x p0 (own_nm p1 p2 p3)))) ∧ own_A Z h xb xk .byte (Int32.ofNat (own_n (own_x p0 (own_nm p1 p2 p3)))) (own_s (own_x p0 (own_nm p1 p2 p3)))
set_option maxRecDepth 65536 in
set_option maxHeartbeats 40000000 in
theorem rm_exp (l : Launch) (Z : State) (a0 : Array Value) (hw : HW a0 Z) (ws : List Jvm.Cond) (p0 : Int32) (p1 : Int32) (p2 : Int32) (p3 : Int32) (G1 : Int32) (h0 : Heap) (n0 : Nat) (Z0 : n0 ≤ h0.size) (S_CS : f12 Z h0 (.int G1)) (S_AD : f8 Z h0 (.int (1 : Int32))) (S_HI : f9 Z h0 (.int (0 : Int32))) (S_LO : f10 Z h0 (.int (8 : Int32))) (P5 : ¬ (G1 = (0 : Int32))) (h2 : own_ch p2) (h3 : own_ch p3) :
    own_M l Z h0 (⟨"com/example/fieldveil/fieldveil/PlaceholderToStringPinLaw", "expected", "(ZICC)Ljava/lang/String;"⟩ : MethodName) method_3_code 4 (some (.object "java/lang/String")) ws (rR 7 4 100 124) #[(.int p0), (.int p1), (.int p2), (.int p3)] (Q_exp Z p0 p1 p2 p3 G1 h0 n0) := by
  refine own_body (own := "com/example/fieldveil/fieldveil/PlaceholderToStringPinLaw") (plainFor_of_name pn_10) rfl ?_
  intro p e s m below meth c s₁ Bd hZ hh hx hby hml hown X0 e0
  have N0 := Fr.nil n0
  have k1 : Go p.tables e below (s₁.setTop (mkF m 0 #[.val (.int p0), .val (.int p1), .val (.int p2), .val (.int p3)] [])) (s₁.setTop (mkF m 1 #[.val (.int p0), .val (.int p1), .val (.int p2), .val (.int p3)] [(.int p0)])) := by
    intro t ht
    refine XS.iloadN X0.here hx rfl (hb hby d_m52_0) rfl ?_
    exact ht
  by_cases hc2 : p0 = (0 : Int32)
  · have k3 : Go p.tables e below _ (s₁.setTop (mkF m 443 #[.val (.int p0), .val (.int p1), .val (.int p2), .val (.int p3)] [(.int p1)])) := goT k1 fun t ht => (by
      refine XS.ifYes X0.here hx rfl (pc0 := 1) (pc' := 442) rfl (hb hby d_m52_1) rfl ((if0 _ _).trans (teq hc2).1) (by decide) (by decide) ?_
      refine XS.iloadN X0.here hx rfl (hb hby d_m52_442) rfl ?_
      exact ht)
    by_cases hc4 : p1 = (0 : Int32)
    · have k5 : Go p.tables e below _ (s₁.setTop (mkF m 446 #[.val (.int p0), .val (.int p1), .val (.int p2), .val (.int p3)] [])) := goT k3 fun t ht => (by
        refine XS.ifNo X0.here hx rfl (hb hby d_m52_443) rfl ((if0 _ _).trans (teq hc4).2) ?_
        exact ht)
      obtain ⟨T6, h6, X6, e6, E6, A6, D6, -, st6⟩ := newO X0 hx hZ hown (own_w hw 165 rfl) (own_w hw 10 rfl) (own_w hw 2 rfl) e0 (g := (mkF m 446 #[.val (.int p0), .val (.int p1), .val (.int p2), .val (.int p3)] [])) rfl (hb hby d_m52_446) (by decide) (by decide)
      obtain ⟨b6, g6⟩ : ∃ z, z = h0.size := ⟨_, rfl⟩
      rw [← g6] at A6 D6 st6
      have g_b6 : n0 ≤ b6 := Nat.le_trans Z0 (Nat.le_of_eq g6.symm)
      have sz_b6 : h0.size ≤ b6 := Nat.le_trans (Keep.refl h0 []).1 (Nat.le_of_eq g6.symm)
      have Kp6 : Keep h0 h6 [] := (Keep.refl h0 []).ext E6
      have Z6 : n0 ≤ h6.size := Nat.le_trans Z0 E6.1
      have S_CS_c_6 := S_CS.ext E6
      have S_AD_c_6 := S_AD.ext E6
      have S_HI_c_6 := S_HI.ext E6
      have S_LO_c_6 := S_LO.ext E6
      have F_value_b6 : f1 Z h6 b6 .null := D6 (Or.inr (own_w hw 23 rfl)) (ty := (.array .byte)) (by decide)
      have F_coder_b6 : f0 Z h6 b6 (.int (0 : Int32)) := D6 (Or.inr (own_w hw 25 rfl)) (ty := .byte) (by decide)
      have k7 : Go p.tables e below _ (T6.setTop (mkF m 451 #[.val (.int p0), .val (.int p1), .val (.int p2), .val (.int p3)] [(.int (4 : Int32)), (.ref b6), (.ref b6)])) := fun t ht => st6 t (by
        refine XS.dup X6.here hx rfl (hb hby d_m52_449) rfl rfl ?_
        refine XS.iconst X6.here hx rfl (hb hby d_m52_450) ?_
        exact ht)
      obtain ⟨T8, h8, kc8, X8, e8, E8, A8, st8⟩ := newP X6 hx hZ (own_w hw 166 rfl) e6 (g := (mkF m 451 #[.val (.int p0), .val (.int p1), .val (.int p2), .val (.int p3)] [(.int (4 : Int32)), (.ref b6), (.ref b6)])) rfl (hb hby d_m52_451) rfl (by decide) (cap := 4) (by decide) (by decide) (by decide) (by decide)
      obtain ⟨b8, g8⟩ : ∃ z, z = h6.size := ⟨_, rfl⟩
      rw [← g8] at A8 st8
      have g_b8 : n0 ≤ b8 := Nat.le_trans Z6 (Nat.le_of_eq g8.symm)
      have sz_b8 : h0.size ≤ b8 := Nat.le_trans Kp6.1 (Nat.le_of_eq g8.symm)
      have ne_b6_b8 : b6 ≠ b8 := Nat.ne_of_lt (Nat.lt_of_lt_of_le A6.lt (Nat.le_of_eq g8.symm))
      have Kp8 : Keep h0 h8 [] := Kp6.ext E8
      have Z8 : n0 ≤ h8.size := Nat.le_trans Z6 E8.1
      have S_CS_c_8 := S_CS_c_6.ext E8
      have S_AD_c_8 := S_AD_c_6.ext E8
      have S_HI_c_8 := S_HI_c_6.ext E8
      have S_LO_c_8 := S_LO_c_6.ext E8
      have A6_c_8 := A6.ext E8
      have F_value_b6_c_8 := F_value_b6.ext E8
      have F_c_8 := F_coder_b6.ext E8
      have V_b8 : Arv Z h8 b8 kc8 .char (4 : Int32) ((List.replicate 4 (0 : Int32)).map Value.int) (.int (0 : Int32)) := (Arv.new A8 (by decide)).pad own_pad
      have k8 : Go p.tables e below _ (T8.setTop (mkF m 453 #[.val (.int p0), .val (.int p1), .val (.int p2), .val (.int p3)] [(.ref b8), (.ref b6), (.ref b6)])) := st8
      have eq9 : (own_e46 ++ own_em 0 ++ own_e48).map (own_ev (own_f p0 p1 p2 p3)) = (own_x p0 (own_nm p1 p2 p3)) := (own_exn _ (own_em 0) hc2).trans (congrArg (own_x p0) (own_nm0 hc4).symm)
      obtain ⟨T9, L9, X9, N9, K9, V9, st9⟩ := own_fill hx hZ (N := 4) (by decide) (own_fL p0 p1 p2 p3) (rest := [(.ref b6), (.ref b6)]) g_b8 (own_e46 ++ own_em 0 ++ own_e48) 0 453 (List.replicate 4 (0 : Int32)) h8 T8 _ X8 e8 N0 V_b8 rfl List.length_replicate (by rw [hby]; exact own_at_451) (by rw [eq9]; exact own_xch (own_nmch h2 h3))
      rw [own_pe_451] at st9
      have Kp9 : Keep h0 T9.heap [] := Kp8.trans K9 (allS (Or.inr sz_b8) all0)
      have Z9 : n0 ≤ T9.heap.size := Nat.le_trans Z8 K9.1
      have S_CS_c_9 := own_sta_keepV S_CS_c_8 V_b8 K9
      have S_AD_c_9 := own_sta_keepV S_AD_c_8 V_b8 K9
      have S_HI_c_9 := own_sta_keepV S_HI_c_8 V_b8 K9
      have S_LO_c_9 := own_sta_keepV S_LO_c_8 V_b8 K9
      have A6_c_9 := A6_c_8.keep K9
      have F_value_b6_c_9 := F_value_b6_c_8.keep K9 (ninS ne_b6_b8 nin0)
      have F_c_9 := F_c_8.keep K9 (ninS ne_b6_b8 nin0)
      have Vc10 : own_A Z T9.heap b8 kc8 .char (4 : Int32) (own_x p0 (own_nm p1 p2 p3)) := by rw [← ((own_fl0 (own_f p0 p1 p2 p3) (own_e46 ++ own_em 0 ++ own_e48) rfl).trans eq9)]; exact V9
      have rq11 := X9.specialBack hx (y := (⟨"java/lang/String", "<init>", "([C)V"⟩ : MethodName)) rfl hown (mvT hZ (own_w hw 167 rfl)) (mvT hZ (own_w hw 168 rfl)) (mvT hZ (own_w hw 169 rfl)) (by decide) (backOf (W := 1) (rm_iC1 l Z a0 hw [] b6 b8 4 kc8 (own_x p0 (own_nm p1 p2 p3)) G1 T9.heap n0 Z9 F_value_b6_c_9 F_c_9 A6_c_9 S_CS_c_9 S_AD_c_9 S_HI_c_9 S_LO_c_9 Vc10 P5 g_b6 (by rw [own_nm0 hc4]; unfold own_x; rw [if_pos hc2]; exact ⟨rfl, by decide, by decide⟩ : 4 = (own_x p0 (own_nm p1 p2 p3)).length ∧ 1 ≤ 4 ∧ 4 ≤ 24) (own_xch (own_nmch h2 h3) : ∀ c ∈ (own_x p0 (own_nm p1 p2 p3)), own_ch c) ((Ne.symm ne_b6_b8) : b8 ≠ b6)) hZ (own_w hw 169 rfl) (own_w hw 2 rfl) (by decide) (by decide)) (g := (mkF m 473 #[.val (.int p0), .val (.int p1), .val (.int p2), .val (.int p3)] [(.ref b8), (.ref b6), (.ref b6)])) rfl (by rw [hml]; rfl) (Steps.refl _) (a := b6) (argsL := [(.ref b8)]) (rest := [(.ref b6)]) (lenOf pd_35 rfl) rfl (by show 2 * 0 + _ ≤ _; exact Nat.le_of_eq rfl) (hb hby d_m52_473) (fun _ _ => ⟨rfl, rfl, (by decide : 2 + 2 ≤ _), (by decide : 8 + 72 ≤ _)⟩)
      obtain ⟨_, T11, L11, X11, ⟨xb_11, xk_11, rfl, N11q, K11, Fq11_0, Fq11_1, Fq11_2, Fq11_3⟩, st11⟩ := own_r X9 rq11
      have N11 := Fr.app N9 N11q
      have Kp11 : Keep h0 T11.heap [] := Kp9.trans K11 (allS (Or.inr sz_b6) all0)
      have k11 : Go p.tables e below _ (T11.setTop (mkF m 476 #[.val (.int p0), .val (.int p1), .val (.int p2), .val (.int p3)] [(.ref b6)])) := st11
      obtain ⟨fs, hr, hrun, hended, hW, hsame⟩ := X11.leave (v := some (.ref b6)) (fun h => by rw [Bd.returns] at h; cases h)
      refine ⟨_, _, castTop (ef_exp m p0 p1 p2 p3) ((goT k5 (goT k7 (goT k8 (goT st9 k11)))) _ (retR X11 hx Bd.returns (hb hby d_m52_476) hr)), hrun, hended, _, _, rfl, ?_, ⟨_, rfl⟩, hW, hsame.mono (by decide) (by decide)⟩
      show Q_exp Z p0 p1 p2 p3 G1 h0 n0 _ T11.heap _
      exact ⟨b6, xb_11, xk_11, rfl, N11, Kp11, Fq11_0, Fq11_1, Fq11_2, Fq11_3⟩
    · have k12 : Go p.tables e below _ (s₁.setTop (mkF m 479 #[.val (.int p0), .val (.int p1), .val (.int p2), .val (.int p3)] [(.int (1 : Int32)), (.int p1)])) := goT k3 fun t ht => (by
        refine XS.ifYes X0.here hx rfl (pc0 := 443) (pc' := 477) rfl (hb hby d_m52_443) rfl ((if0 _ _).trans (feq hc4).2) (by decide) (by decide) ?_
        refine XS.iloadN X0.here hx rfl (hb hby d_m52_477) rfl ?_
        refine XS.iconst X0.here hx rfl (hb hby d_m52_478) ?_
        exact ht)
      by_cases hc13 : p1 = (1 : Int32)
      · have k14 : Go p.tables e below _ (s₁.setTop (mkF m 482 #[.val (.int p0), .val (.int p1), .val (.int p2), .val (.int p3)] [])) := goT k12 fun t ht => (by
          refine XS.icmpNo X0.here hx rfl (hb hby d_m52_479) rfl (teq hc13).2 ?_
          exact ht)
        obtain ⟨T15, h15, X15, e15, E15, A15, D15, -, st15⟩ := newO X0 hx hZ hown (own_w hw 165 rfl) (own_w hw 10 rfl) (own_w hw 2 rfl) e0 (g := (mkF m 482 #[.val (.int p0), .val (.int p1), .val (.int p2), .val (.int p3)] [])) rfl (hb hby d_m52_482) (by decide) (by decide)
        obtain ⟨b15, g15⟩ : ∃ z, z = h0.size := ⟨_, rfl⟩
        rw [← g15] at A15 D15 st15
        have g_b15 : n0 ≤ b15 := Nat.le_trans Z0 (Nat.le_of_eq g15.symm)
        have sz_b15 : h0.size ≤ b15 := Nat.le_trans (Keep.refl h0 []).1 (Nat.le_of_eq g15.symm)
        have Kp15 : Keep h0 h15 [] := (Keep.refl h0 []).ext E15
        have Z15 : n0 ≤ h15.size := Nat.le_trans Z0 E15.1
        have S_CS_c_15 := S_CS.ext E15
        have S_AD_c_15 := S_AD.ext E15
        have S_HI_c_15 := S_HI.ext E15
        have S_LO_c_15 := S_LO.ext E15
        have F_value_b15 : f1 Z h15 b15 .null := D15 (Or.inr (own_w hw 23 rfl)) (ty := (.array .byte)) (by decide)
        have F_coder_b15 : f0 Z h15 b15 (.int (0 : Int32)) := D15 (Or.inr (own_w hw 25 rfl)) (ty := .byte) (by decide)
        have k16 : Go p.tables e below _ (T15.setTop (mkF m 487 #[.val (.int p0), .val (.int p1), .val (.int p2), .val (.int p3)] [(.int (5 : Int32)), (.ref b15), (.ref b15)])) := fun t ht => st15 t (by
          refine XS.dup X15.here hx rfl (hb hby d_m52_485) rfl rfl ?_
          refine XS.iconst X15.here hx rfl (hb hby d_m52_486) ?_
          exact ht)
        obtain ⟨T17, h17, kc17, X17, e17, E17, A17, st17⟩ := newP X15 hx hZ (own_w hw 166 rfl) e15 (g := (mkF m 487 #[.val (.int p0), .val (.int p1), .val (.int p2), .val (.int p3)] [(.int (5 : Int32)), (.ref b15), (.ref b15)])) rfl (hb hby d_m52_487) rfl (by decide) (cap := 5) (by decide) (by decide) (by decide) (by decide)
        obtain ⟨b17, g17⟩ : ∃ z, z = h15.size := ⟨_, rfl⟩
        rw [← g17] at A17 st17
        have g_b17 : n0 ≤ b17 := Nat.le_trans Z15 (Nat.le_of_eq g17.symm)
        have sz_b17 : h0.size ≤ b17 := Nat.le_trans Kp15.1 (Nat.le_of_eq g17.symm)
        have ne_b15_b17 : b15 ≠ b17 := Nat.ne_of_lt (Nat.lt_of_lt_of_le A15.lt (Nat.le_of_eq g17.symm))
        have Kp17 : Keep h0 h17 [] := Kp15.ext E17
        have Z17 : n0 ≤ h17.size := Nat.le_trans Z15 E17.1
        have S_CS_c_17 := S_CS_c_15.ext E17
        have S_AD_c_17 := S_AD_c_15.ext E17
        have S_HI_c_17 := S_HI_c_15.ext E17
        have S_LO_c_17 := S_LO_c_15.ext E17
        have A15_c_17 := A15.ext E17
        have F_value_b15_c_17 := F_value_b15.ext E17
        have F_c_17 := F_coder_b15.ext E17
        have V_b17 : Arv Z h17 b17 kc17 .char (5 : Int32) ((List.replicate 5 (0 : Int32)).map Value.int) (.int (0 : Int32)) := (Arv.new A17 (by decide)).pad own_pad
        have k17 : Go p.tables e below _ (T17.setTop (mkF m 489 #[.val (.int p0), .val (.int p1), .val (.int p2), .val (.int p3)] [(.ref b17), (.ref b15), (.ref b15)])) := st17
        have eq18 : (own_e46 ++ own_em 1 ++ own_e48).map (own_ev (own_f p0 p1 p2 p3)) = (own_x p0 (own_nm p1 p2 p3)) := (own_exn _ (own_em 1) hc2).trans (congrArg (own_x p0) (own_nm1 hc4 hc13).symm)
        obtain ⟨T18, L18, X18, N18, K18, V18, st18⟩ := own_fill hx hZ (N := 5) (by decide) (own_fL p0 p1 p2 p3) (rest := [(.ref b15), (.ref b15)]) g_b17 (own_e46 ++ own_em 1 ++ own_e48) 0 489 (List.replicate 5 (0 : Int32)) h17 T17 _ X17 e17 N0 V_b17 rfl List.length_replicate (by rw [hby]; exact own_at_487) (by rw [eq18]; exact own_xch (own_nmch h2 h3))
        rw [own_pe_487] at st18
        have Kp18 : Keep h0 T18.heap [] := Kp17.trans K18 (allS (Or.inr sz_b17) all0)
        have Z18 : n0 ≤ T18.heap.size := Nat.le_trans Z17 K18.1
        have S_CS_c_18 := own_sta_keepV S_CS_c_17 V_b17 K18
        have S_AD_c_18 := own_sta_keepV S_AD_c_17 V_b17 K18
        have S_HI_c_18 := own_sta_keepV S_HI_c_17 V_b17 K18
        have S_LO_c_18 := own_sta_keepV S_LO_c_17 V_b17 K18
        have A15_c_18 := A15_c_17.keep K18
        have F_value_b15_c_18 := F_value_b15_c_17.keep K18 (ninS ne_b15_b17 nin0)
        have F_c_18 := F_c_17.keep K18 (ninS ne_b15_b17 nin0)
        have Vc19 : own_A Z T18.heap b17 kc17 .char (5 : Int32) (own_x p0 (own_nm p1 p2 p3)) := by rw [← ((own_fl0 (own_f p0 p1 p2 p3) (own_e46 ++ own_em 1 ++ own_e48) rfl).trans eq18)]; exact V18
        have rq20 := X18.specialBack hx (y := (⟨"java/lang/String", "<init>", "([C)V"⟩ : MethodName)) rfl hown (mvT hZ (own_w hw 167 rfl)) (mvT hZ (own_w hw 168 rfl)) (mvT hZ (own_w hw 169 rfl)) (by decide) (backOf (W := 1) (rm_iC1 l Z a0 hw [] b15 b17 5 kc17 (own_x p0 (own_nm p1 p2 p3)) G1 T18.heap n0 Z18 F_value_b15_c_18 F_c_18 A15_c_18 S_CS_c_18 S_AD_c_18 S_HI_c_18 S_LO_c_18 Vc19 P5 g_b15 (by rw [own_nm1 hc4 hc13]; unfold own_x; rw [if_pos hc2]; exact ⟨rfl, by decide, by decide⟩ : 5 = (own_x p0 (own_nm p1 p2 p3)).length ∧ 1 ≤ 5 ∧ 5 ≤ 24) (own_xch (own_nmch h2 h3) : ∀ c ∈ (own_x p0 (own_nm p1 p2 p3)), own_ch c) ((Ne.symm ne_b15_b17) : b17 ≠ b15)) hZ (own_w hw 169 rfl) (own_w hw 2 rfl) (by decide) (by decide)) (g := (mkF m 513 #[.val (.int p0), .val (.int p1), .val (.int p2), .val (.int p3)] [(.ref b17), (.ref b15), (.ref b15)])) rfl (by rw [hml]; rfl) (Steps.refl _) (a := b15) (argsL := [(.ref b17)]) (rest := [(.ref b15)]) (lenOf pd_35 rfl) rfl (by show 2 * 0 + _ ≤ _; exact Nat.le_of_eq rfl) (hb hby d_m52_513) (fun _ _ => ⟨rfl, rfl, (by decide : 2 + 2 ≤ _), (by decide : 9 + 72 ≤ _)⟩)
        obtain ⟨_, T20, L20, X20, ⟨xb_20, xk_20, rfl, N20q, K20, Fq20_0, Fq20_1, Fq20_2, Fq20_3⟩, st20⟩ := own_r X18 rq20
        have N20 := Fr.app N18 N20q
        have Kp20 : Keep h0 T20.heap [] := Kp18.trans K20 (allS (Or.inr sz_b15) all0)
        have k20 : Go p.tables e below _ (T20.setTop (mkF m 516 #[.val (.int p0), .val (.int p1), .val (.int p2), .val (.int p3)] [(.ref b15)])) := st20
        obtain ⟨fs, hr, hrun, hended, hW, hsame⟩ := X20.leave (v := some (.ref b15)) (fun h => by rw [Bd.returns] at h; cases h)
        refine ⟨_, _, castTop (ef_exp m p0 p1 p2 p3) ((goT k14 (goT k16 (goT k17 (goT st18 k20)))) _ (retR X20 hx Bd.returns (hb hby d_m52_516) hr)), hrun, hended, _, _, rfl, ?_, ⟨_, rfl⟩, hW, hsame.mono (by decide) (by decide)⟩
        show Q_exp Z p0 p1 p2 p3 G1 h0 n0 _ T20.heap _
        exact ⟨b15, xb_20, xk_20, rfl, N20, Kp20, Fq20_0, Fq20_1, Fq20_2, Fq20_3⟩
      · have k21 : Go p.tables e below _ (s₁.setTop (mkF m 517 #[.val (.int p0), .val (.int p1), .val (.int p2), .val (.int p3)] [])) := goT k12 fun t ht => (by
          refine XS.icmpYes X0.here hx rfl (pc0 := 479) (pc' := 517) rfl (hb hby d_m52_479) rfl (feq hc13).2 (by decide) (by decide) ?_
          exact ht)
        obtain ⟨T22, h22, X22, e22, E22, A22, D22, -, st22⟩ := newO X0 hx hZ hown (own_w hw 165 rfl) (own_w hw 10 rfl) (own_w hw 2 rfl) e0 (g := (mkF m 517 #[.val (.int p0), .val (.int p1), .val (.int p2), .val (.int p3)] [])) rfl (hb hby d_m52_517) (by decide) (by decide)
        obtain ⟨b22, g22⟩ : ∃ z, z = h0.size := ⟨_, rfl⟩
        rw [← g22] at A22 D22 st22
        have g_b22 : n0 ≤ b22 := Nat.le_trans Z0 (Nat.le_of_eq g22.symm)
        have sz_b22 : h0.size ≤ b22 := Nat.le_trans (Keep.refl h0 []).1 (Nat.le_of_eq g22.symm)
        have Kp22 : Keep h0 h22 [] := (Keep.refl h0 []).ext E22
        have Z22 : n0 ≤ h22.size := Nat.le_trans Z0 E22.1
        have S_CS_c_22 := S_CS.ext E22
        have S_AD_c_22 := S_AD.ext E22
        have S_HI_c_22 := S_HI.ext E22
        have S_LO_c_22 := S_LO.ext E22
        have F_value_b22 : f1 Z h22 b22 .null := D22 (Or.inr (own_w hw 23 rfl)) (ty := (.array .byte)) (by decide)
        have F_coder_b22 : f0 Z h22 b22 (.int (0 : Int32)) := D22 (Or.inr (own_w hw 25 rfl)) (ty := .byte) (by decide)
        have k23 : Go p.tables e below _ (T22.setTop (mkF m 523 #[.val (.int p0), .val (.int p1), .val (.int p2), .val (.int p3)] [(.int (6 : Int32)), (.ref b22), (.ref b22)])) := fun t ht => st22 t (by
          refine XS.dup X22.here hx rfl (hb hby d_m52_520) rfl rfl ?_
          refine XS.bipush X22.here hx rfl (hb hby d_m52_521) ?_
          exact ht)
        obtain ⟨T24, h24, kc24, X24, e24, E24, A24, st24⟩ := newP X22 hx hZ (own_w hw 166 rfl) e22 (g := (mkF m 523 #[.val (.int p0), .val (.int p1), .val (.int p2), .val (.int p3)] [(.int (6 : Int32)), (.ref b22), (.ref b22)])) rfl (hb hby d_m52_523) rfl (by decide) (cap := 6) (by decide) (by decide) (by decide) (by decide)
        obtain ⟨b24, g24⟩ : ∃ z, z = h22.size := ⟨_, rfl⟩
        rw [← g24] at A24 st24
        have g_b24 : n0 ≤ b24 := Nat.le_trans Z22 (Nat.le_of_eq g24.symm)
        have sz_b24 : h0.size ≤ b24 := Nat.le_trans Kp22.1 (Nat.le_of_eq g24.symm)
        have ne_b22_b24 : b22 ≠ b24 := Nat.ne_of_lt (Nat.lt_of_lt_of_le A22.lt (Nat.le_of_eq g24.symm))
        have Kp24 : Keep h0 h24 [] := Kp22.ext E24
        have Z24 : n0 ≤ h24.size := Nat.le_trans Z22 E24.1
        have S_CS_c_24 := S_CS_c_22.ext E24
        have S_AD_c_24 := S_AD_c_22.ext E24
        have S_HI_c_24 := S_HI_c_22.ext E24
        have S_LO_c_24 := S_LO_c_22.ext E24
        have A22_c_24 := A22.ext E24
        have F_value_b22_c_24 := F_value_b22.ext E24
        have F_c_24 := F_coder_b22.ext E24
        have V_b24 : Arv Z h24 b24 kc24 .char (6 : Int32) ((List.replicate 6 (0 : Int32)).map Value.int) (.int (0 : Int32)) := (Arv.new A24 (by decide)).pad own_pad
        have k24 : Go p.tables e below _ (T24.setTop (mkF m 525 #[.val (.int p0), .val (.int p1), .val (.int p2), .val (.int p3)] [(.ref b24), (.ref b22), (.ref b22)])) := st24
        have eq25 : (own_e46 ++ own_em 2 ++ own_e48).map (own_ev (own_f p0 p1 p2 p3)) = (own_x p0 (own_nm p1 p2 p3)) := (own_exn _ (own_em 2) hc2).trans (congrArg (own_x p0) (own_nm2 hc4 hc13).symm)
        obtain ⟨T25, L25, X25, N25, K25, V25, st25⟩ := own_fill hx hZ (N := 6) (by decide) (own_fL p0 p1 p2 p3) (rest := [(.ref b22), (.ref b22)]) g_b24 (own_e46 ++ own_em 2 ++ own_e48) 0 525 (List.replicate 6 (0 : Int32)) h24 T24 _ X24 e24 N0 V_b24 rfl List.length_replicate (by rw [hby]; exact own_at_523) (by rw [eq25]; exact own_xch (own_nmch h2 h3))
        rw [own_pe_523] at st25
        have Kp25 : Keep h0 T25.heap [] := Kp24.trans K25 (allS (Or.inr sz_b24) all0)
        have Z25 : n0 ≤ T25.heap.size := Nat.le_trans Z24 K25.1
        have S_CS_c_25 := own_sta_keepV S_CS_c_24 V_b24 K25
        have S_AD_c_25 := own_sta_keepV S_AD_c_24 V_b24 K25
        have S_HI_c_25 := own_sta_keepV S_HI_c_24 V_b24 K25
        have S_LO_c_25 := own_sta_keepV S_LO_c_24 V_b24 K25
        have A22_c_25 := A22_c_24.keep K25
        have F_value_b22_c_25 := F_value_b22_c_24.keep K25 (ninS ne_b22_b24 nin0)
        have F_c_25 := F_c_24.keep K25 (ninS ne_b22_b24 nin0)
        have Vc26 : own_A Z T25.heap b24 kc24 .char (6 : Int32) (own_x p0 (own_nm p1 p2 p3)) := by rw [← ((own_fl0 (own_f p0 p1 p2 p3) (own_e46 ++ own_em 2 ++ own_e48) rfl).trans eq25)]; exact V25
        have rq27 := X25.specialBack hx (y := (⟨"java/lang/String", "<init>", "([C)V"⟩ : MethodName)) rfl hown (mvT hZ (own_w hw 167 rfl)) (mvT hZ (own_w hw 168 rfl)) (mvT hZ (own_w hw 169 rfl)) (by decide) (backOf (W := 1) (rm_iC1 l Z a0 hw [] b22 b24 6 kc24 (own_x p0 (own_nm p1 p2 p3)) G1 T25.heap n0 Z25 F_value_b22_c_25 F_c_25 A22_c_25 S_CS_c_25 S_AD_c_25 S_HI_c_25 S_LO_c_25 Vc26 P5 g_b22 (by rw [own_nm2 hc4 hc13]; unfold own_x; rw [if_pos hc2]; exact ⟨rfl, by decide, by decide⟩ : 6 = (own_x p0 (own_nm p1 p2 p3)).length ∧ 1 ≤ 6 ∧ 6 ≤ 24) (own_xch (own_nmch h2 h3) : ∀ c ∈ (own_x p0 (own_nm p1 p2 p3)), own_ch c) ((Ne.symm ne_b22_b24) : b24 ≠ b22)) hZ (own_w hw 169 rfl) (own_w hw 2 rfl) (by decide) (by decide)) (g := (mkF m 553 #[.val (.int p0), .val (.int p1), .val (.int p2), .val (.int p3)] [(.ref b24), (.ref b22), (.ref b22)])) rfl (by rw [hml]; rfl) (Steps.refl _) (a := b22) (argsL := [(.ref b24)]) (rest := [(.ref b22)]) (lenOf pd_35 rfl) rfl (by show 2 * 0 + _ ≤ _; exact Nat.le_of_eq rfl) (hb hby d_m52_553) (fun _ _ => ⟨rfl, rfl, (by decide : 2 + 2 ≤ _), (by decide : 10 + 72 ≤ _)⟩)
        obtain ⟨_, T27, L27, X27, ⟨xb_27, xk_27, rfl, N27q, K27, Fq27_0, Fq27_1, Fq27_2, Fq27_3⟩, st27⟩ := own_r X25 rq27
        have N27 := Fr.app N25 N27q
        have Kp27 : Keep h0 T27.heap [] := Kp25.trans K27 (allS (Or.inr sz_b22) all0)
        have k27 : Go p.tables e below _ (T27.setTop (mkF m 556 #[.val (.int p0), .val (.int p1), .val (.int p2), .val (.int p3)] [(.ref b22)])) := st27
        obtain ⟨fs, hr, hrun, hended, hW, hsame⟩ := X27.leave (v := some (.ref b22)) (fun h => by rw [Bd.returns] at h; cases h)
        refine ⟨_, _, castTop (ef_exp m p0 p1 p2 p3) ((goT k21 (goT k23 (goT k24 (goT st25 k27)))) _ (retR X27 hx Bd.returns (hb hby d_m52_556) hr)), hrun, hended, _, _, rfl, ?_, ⟨_, rfl⟩, hW, hsame.mono (by decide) (by decide)⟩
        show Q_exp Z p0 p1 p2 p3 G1 h0 n0 _ T27.heap _
        exact ⟨b22, xb_27, xk_27, rfl, N27, Kp27, Fq27_0, Fq27_1, Fq27_2, Fq27_3⟩
  · have k28 : Go p.tables e below _ (s₁.setTop (mkF m 5 #[.val (.int p0), .val (.int p1), .val (.int p2), .val (.int p3)] [(.int p1)])) := goT k1 fun t ht => (by
      refine XS.ifNo X0.here hx rfl (hb hby d_m52_1) rfl ((if0 _ _).trans (feq hc2).1) ?_
      refine XS.iloadN X0.here hx rfl (hb hby d_m52_4) rfl ?_
      exact ht)
    by_cases hc29 : p1 = (0 : Int32)
    · have k30 : Go p.tables e below _ (s₁.setTop (mkF m 8 #[.val (.int p0), .val (.int p1), .val (.int p2), .val (.int p3)] [])) := goT k28 fun t ht => (by
        refine XS.ifNo X0.here hx rfl (hb hby d_m52_5) rfl ((if0 _ _).trans (teq hc29).2) ?_
        exact ht)
      obtain ⟨T31, h31, X31, e31, E31, A31, D31, -, st31⟩ := newO X0 hx hZ hown (own_w hw 165 rfl) (own_w hw 10 rfl) (own_w hw 2 rfl) e0 (g := (mkF m 8 #[.val (.int p0), .val (.int p1), .val (.int p2), .val (.int p3)] [])) rfl (hb hby d_m52_8) (by decide) (by decide)
      obtain ⟨b31, g31⟩ : ∃ z, z = h0.size := ⟨_, rfl⟩
      rw [← g31] at A31 D31 st31
      have g_b31 : n0 ≤ b31 := Nat.le_trans Z0 (Nat.le_of_eq g31.symm)
      have sz_b31 : h0.size ≤ b31 := Nat.le_trans (Keep.refl h0 []).1 (Nat.le_of_eq g31.symm)
      have Kp31 : Keep h0 h31 [] := (Keep.refl h0 []).ext E31
      have Z31 : n0 ≤ h31.size := Nat.le_trans Z0 E31.1
      have S_CS_c_31 := S_CS.ext E31
      have S_AD_c_31 := S_AD.ext E31
      have S_HI_c_31 := S_HI.ext E31
      have S_LO_c_31 := S_LO.ext E31
      have F_value_b31 : f1 Z h31 b31 .null := D31 (Or.inr (own_w hw 23 rfl)) (ty := (.array .byte)) (by decide)
      have F_coder_b31 : f0 Z h31 b31 (.int (0 : Int32)) := D31 (Or.inr (own_w hw 25 rfl)) (ty := .byte) (by decide)
      have k32 : Go p.tables e below _ (T31.setTop (mkF m 14 #[.val (.int p0), .val (.int p1), .val (.int p2), .val (.int p3)] [(.int (22 : Int32)), (.ref b31), (.ref b31)])) := fun t ht => st31 t (by
        refine XS.dup X31.here hx rfl (hb hby d_m52_11) rfl rfl ?_
        refine XS.bipush X31.here hx rfl (hb hby d_m52_12) ?_
        exact ht)
      obtain ⟨T33, h33, kc33, X33, e33, E33, A33, st33⟩ := newP X31 hx hZ (own_w hw 166 rfl) e31 (g := (mkF m 14 #[.val (.int p0), .val (.int p1), .val (.int p2), .val (.int p3)] [(.int (22 : Int32)), (.ref b31), (.ref b31)])) rfl (hb hby d_m52_14) rfl (by decide) (cap := 22) (by decide) (by decide) (by decide) (by decide)
      obtain ⟨b33, g33⟩ : ∃ z, z = h31.size := ⟨_, rfl⟩
      rw [← g33] at A33 st33
      have g_b33 : n0 ≤ b33 := Nat.le_trans Z31 (Nat.le_of_eq g33.symm)
      have sz_b33 : h0.size ≤ b33 := Nat.le_trans Kp31.1 (Nat.le_of_eq g33.symm)
      have ne_b31_b33 : b31 ≠ b33 := Nat.ne_of_lt (Nat.lt_of_lt_of_le A31.lt (Nat.le_of_eq g33.symm))
      have Kp33 : Keep h0 h33 [] := Kp31.ext E33
      have Z33 : n0 ≤ h33.size := Nat.le_trans Z31 E33.1
      have S_CS_c_33 := S_CS_c_31.ext E33
      have S_AD_c_33 := S_AD_c_31.ext E33
      have S_HI_c_33 := S_HI_c_31.ext E33
      have S_LO_c_33 := S_LO_c_31.ext E33
      have A31_c_33 := A31.ext E33
      have F_value_b31_c_33 := F_value_b31.ext E33
      have F_c_33 := F_coder_b31.ext E33
      have V_b33 : Arv Z h33 b33 kc33 .char (22 : Int32) ((List.replicate 22 (0 : Int32)).map Value.int) (.int (0 : Int32)) := (Arv.new A33 (by decide)).pad own_pad
      have k33 : Go p.tables e below _ (T33.setTop (mkF m 16 #[.val (.int p0), .val (.int p1), .val (.int p2), .val (.int p3)] [(.ref b33), (.ref b31), (.ref b31)])) := st33
      have eq34 : (own_e34 ++ own_em 0 ++ own_e40).map (own_ev (own_f p0 p1 p2 p3)) = (own_x p0 (own_nm p1 p2 p3)) := (own_exj _ (own_em 0) hc2).trans (congrArg (own_x p0) (own_nm0 hc29).symm)
      obtain ⟨T34, L34, X34, N34, K34, V34, st34⟩ := own_fill hx hZ (N := 22) (by decide) (own_fL p0 p1 p2 p3) (rest := [(.ref b31), (.ref b31)]) g_b33 (own_e34 ++ own_em 0 ++ own_e40) 0 16 (List.replicate 22 (0 : Int32)) h33 T33 _ X33 e33 N0 V_b33 rfl List.length_replicate (by rw [hby]; exact own_at_14) (by rw [eq34]; exact own_xch (own_nmch h2 h3))
      rw [own_pe_14] at st34
      have Kp34 : Keep h0 T34.heap [] := Kp33.trans K34 (allS (Or.inr sz_b33) all0)
      have Z34 : n0 ≤ T34.heap.size := Nat.le_trans Z33 K34.1
      have S_CS_c_34 := own_sta_keepV S_CS_c_33 V_b33 K34
      have S_AD_c_34 := own_sta_keepV S_AD_c_33 V_b33 K34
      have S_HI_c_34 := own_sta_keepV S_HI_c_33 V_b33 K34
      have S_LO_c_34 := own_sta_keepV S_LO_c_33 V_b33 K34
      have A31_c_34 := A31_c_33.keep K34
      have F_value_b31_c_34 := F_value_b31_c_33.keep K34 (ninS ne_b31_b33 nin0)
      have F_c_34 := F_c_33.keep K34 (ninS ne_b31_b33 nin0)
      have Vc35 : own_A Z T34.heap b33 kc33 .char (22 : Int32) (own_x p0 (own_nm p1 p2 p3)) := by rw [← ((own_fl0 (own_f p0 p1 p2 p3) (own_e34 ++ own_em 0 ++ own_e40) rfl).trans eq34)]; exact V34
      have rq36 := X34.specialBack hx (y := (⟨"java/lang/String", "<init>", "([C)V"⟩ : MethodName)) rfl hown (mvT hZ (own_w hw 167 rfl)) (mvT hZ (own_w hw 168 rfl)) (mvT hZ (own_w hw 169 rfl)) (by decide) (backOf (W := 1) (rm_iC1 l Z a0 hw [] b31 b33 22 kc33 (own_x p0 (own_nm p1 p2 p3)) G1 T34.heap n0 Z34 F_value_b31_c_34 F_c_34 A31_c_34 S_CS_c_34 S_AD_c_34 S_HI_c_34 S_LO_c_34 Vc35 P5 g_b31 (by rw [own_nm0 hc29]; unfold own_x; rw [if_neg hc2]; exact ⟨rfl, by decide, by decide⟩ : 22 = (own_x p0 (own_nm p1 p2 p3)).length ∧ 1 ≤ 22 ∧ 22 ≤ 24) (own_xch (own_nmch h2 h3) : ∀ c ∈ (own_x p0 (own_nm p1 p2 p3)), own_ch c) ((Ne.symm ne_b31_b33) : b33 ≠ b31)) hZ (own_w hw 169 rfl) (own_w hw 2 rfl) (by decide) (by decide)) (g := (mkF m 142 #[.val (.int p0), .val (.int p1), .val (.int p2), .val (.int p3)] [(.ref b33), (.ref b31), (.ref b31)])) rfl (by rw [hml]; rfl) (Steps.refl _) (a := b31) (argsL := [(.ref b33)]) (rest := [(.ref b31)]) (lenOf pd_35 rfl) rfl (by show 2 * 0 + _ ≤ _; exact Nat.le_of_eq rfl) (hb hby d_m52_142) (fun _ _ => ⟨rfl, rfl, (by decide : 2 + 2 ≤ _), (by decide : 26 + 72 ≤ _)⟩)
      obtain ⟨_, T36, L36, X36, ⟨xb_36, xk_36, rfl, N36q, K36, Fq36_0, Fq36_1, Fq36_2, Fq36_3⟩, st36⟩ := own_r X34 rq36
      have N36 := Fr.app N34 N36q
      have Kp36 : Keep h0 T36.heap [] := Kp34.trans K36 (allS (Or.inr sz_b31) all0)
      have k36 : Go p.tables e below _ (T36.setTop (mkF m 145 #[.val (.int p0), .val (.int p1), .val (.int p2), .val (.int p3)] [(.ref b31)])) := st36
      obtain ⟨fs, hr, hrun, hended, hW, hsame⟩ := X36.leave (v := some (.ref b31)) (fun h => by rw [Bd.returns] at h; cases h)
      refine ⟨_, _, castTop (ef_exp m p0 p1 p2 p3) ((goT k30 (goT k32 (goT k33 (goT st34 k36)))) _ (retR X36 hx Bd.returns (hb hby d_m52_145) hr)), hrun, hended, _, _, rfl, ?_, ⟨_, rfl⟩, hW, hsame.mono (by decide) (by decide)⟩
      show Q_exp Z p0 p1 p2 p3 G1 h0 n0 _ T36.heap _
      exact ⟨b31, xb_36, xk_36, rfl, N36, Kp36, Fq36_0, Fq36_1, Fq36_2, Fq36_3⟩
    · have k37 : Go p.tables e below _ (s₁.setTop (mkF m 148 #[.val (.int p0), .val (.int p1), .val (.int p2), .val (.int p3)] [(.int (1 : Int32)), (.int p1)])) := goT k28 fun t ht => (by
        refine XS.ifYes X0.here hx rfl (pc0 := 5) (pc' := 146) rfl (hb hby d_m52_5) rfl ((if0 _ _).trans (feq hc29).2) (by decide) (by decide) ?_
        refine XS.iloadN X0.here hx rfl (hb hby d_m52_146) rfl ?_
        refine XS.iconst X0.here hx rfl (hb hby d_m52_147) ?_
        exact ht)
      by_cases hc38 : p1 = (1 : Int32)
      · have k39 : Go p.tables e below _ (s₁.setTop (mkF m 151 #[.val (.int p0), .val (.int p1), .val (.int p2), .val (.int p3)] [])) := goT k37 fun t ht => (by
          refine XS.icmpNo X0.here hx rfl (hb hby d_m52_148) rfl (teq hc38).2 ?_
          exact ht)
        obtain ⟨T40, h40, X40, e40, E40, A40, D40, -, st40⟩ := newO X0 hx hZ hown (own_w hw 165 rfl) (own_w hw 10 rfl) (own_w hw 2 rfl) e0 (g := (mkF m 151 #[.val (.int p0), .val (.int p1), .val (.int p2), .val (.int p3)] [])) rfl (hb hby d_m52_151) (by decide) (by decide)
        obtain ⟨b40, g40⟩ : ∃ z, z = h0.size := ⟨_, rfl⟩
        rw [← g40] at A40 D40 st40
        have g_b40 : n0 ≤ b40 := Nat.le_trans Z0 (Nat.le_of_eq g40.symm)
        have sz_b40 : h0.size ≤ b40 := Nat.le_trans (Keep.refl h0 []).1 (Nat.le_of_eq g40.symm)
        have Kp40 : Keep h0 h40 [] := (Keep.refl h0 []).ext E40
        have Z40 : n0 ≤ h40.size := Nat.le_trans Z0 E40.1
        have S_CS_c_40 := S_CS.ext E40
        have S_AD_c_40 := S_AD.ext E40
        have S_HI_c_40 := S_HI.ext E40
        have S_LO_c_40 := S_LO.ext E40
        have F_value_b40 : f1 Z h40 b40 .null := D40 (Or.inr (own_w hw 23 rfl)) (ty := (.array .byte)) (by decide)
        have F_coder_b40 : f0 Z h40 b40 (.int (0 : Int32)) := D40 (Or.inr (own_w hw 25 rfl)) (ty := .byte) (by decide)
        have k41 : Go p.tables e below _ (T40.setTop (mkF m 157 #[.val (.int p0), .val (.int p1), .val (.int p2), .val (.int p3)] [(.int (23 : Int32)), (.ref b40), (.ref b40)])) := fun t ht => st40 t (by
          refine XS.dup X40.here hx rfl (hb hby d_m52_154) rfl rfl ?_
          refine XS.bipush X40.here hx rfl (hb hby d_m52_155) ?_
          exact ht)
        obtain ⟨T42, h42, kc42, X42, e42, E42, A42, st42⟩ := newP X40 hx hZ (own_w hw 166 rfl) e40 (g := (mkF m 157 #[.val (.int p0), .val (.int p1), .val (.int p2), .val (.int p3)] [(.int (23 : Int32)), (.ref b40), (.ref b40)])) rfl (hb hby d_m52_157) rfl (by decide) (cap := 23) (by decide) (by decide) (by decide) (by decide)
        obtain ⟨b42, g42⟩ : ∃ z, z = h40.size := ⟨_, rfl⟩
        rw [← g42] at A42 st42
        have g_b42 : n0 ≤ b42 := Nat.le_trans Z40 (Nat.le_of_eq g42.symm)
        have sz_b42 : h0.size ≤ b42 := Nat.le_trans Kp40.1 (Nat.le_of_eq g42.symm)
        have ne_b40_b42 : b40 ≠ b42 := Nat.ne_of_lt (Nat.lt_of_lt_of_le A40.lt (Nat.le_of_eq g42.symm))
        have Kp42 : Keep h0 h42 [] := Kp40.ext E42
        have Z42 : n0 ≤ h42.size := Nat.le_trans Z40 E42.1
        have S_CS_c_42 := S_CS_c_40.ext E42
        have S_AD_c_42 := S_AD_c_40.ext E42
        have S_HI_c_42 := S_HI_c_40.ext E42
        have S_LO_c_42 := S_LO_c_40.ext E42
        have A40_c_42 := A40.ext E42
        have F_value_b40_c_42 := F_value_b40.ext E42
        have F_c_42 := F_coder_b40.ext E42
        have V_b42 : Arv Z h42 b42 kc42 .char (23 : Int32) ((List.replicate 23 (0 : Int32)).map Value.int) (.int (0 : Int32)) := (Arv.new A42 (by decide)).pad own_pad
        have k42 : Go p.tables e below _ (T42.setTop (mkF m 159 #[.val (.int p0), .val (.int p1), .val (.int p2), .val (.int p3)] [(.ref b42), (.ref b40), (.ref b40)])) := st42
        have eq43 : (own_e34 ++ own_em 1 ++ own_e40).map (own_ev (own_f p0 p1 p2 p3)) = (own_x p0 (own_nm p1 p2 p3)) := (own_exj _ (own_em 1) hc2).trans (congrArg (own_x p0) (own_nm1 hc29 hc38).symm)
        obtain ⟨T43, L43, X43, N43, K43, V43, st43⟩ := own_fill hx hZ (N := 23) (by decide) (own_fL p0 p1 p2 p3) (rest := [(.ref b40), (.ref b40)]) g_b42 (own_e34 ++ own_em 1 ++ own_e40) 0 159 (List.replicate 23 (0 : Int32)) h42 T42 _ X42 e42 N0 V_b42 rfl List.length_replicate (by rw [hby]; exact own_at_157) (by rw [eq43]; exact own_xch (own_nmch h2 h3))
        rw [own_pe_157] at st43
        have Kp43 : Keep h0 T43.heap [] := Kp42.trans K43 (allS (Or.inr sz_b42) all0)
        have Z43 : n0 ≤ T43.heap.size := Nat.le_trans Z42 K43.1
        have S_CS_c_43 := own_sta_keepV S_CS_c_42 V_b42 K43
        have S_AD_c_43 := own_sta_keepV S_AD_c_42 V_b42 K43
        have S_HI_c_43 := own_sta_keepV S_HI_c_42 V_b42 K43
        have S_LO_c_43 := own_sta_keepV S_LO_c_42 V_b42 K43
        have A40_c_43 := A40_c_42.keep K43
        have F_value_b40_c_43 := F_value_b40_c_42.keep K43 (ninS ne_b40_b42 nin0)
        have F_c_43 := F_c_42.keep K43 (ninS ne_b40_b42 nin0)
        have Vc44 : own_A Z T43.heap b42 kc42 .char (23 : Int32) (own_x p0 (own_nm p1 p2 p3)) := by rw [← ((own_fl0 (own_f p0 p1 p2 p3) (own_e34 ++ own_em 1 ++ own_e40) rfl).trans eq43)]; exact V43
        have rq45 := X43.specialBack hx (y := (⟨"java/lang/String", "<init>", "([C)V"⟩ : MethodName)) rfl hown (mvT hZ (own_w hw 167 rfl)) (mvT hZ (own_w hw 168 rfl)) (mvT hZ (own_w hw 169 rfl)) (by decide) (backOf (W := 1) (rm_iC1 l Z a0 hw [] b40 b42 23 kc42 (own_x p0 (own_nm p1 p2 p3)) G1 T43.heap n0 Z43 F_value_b40_c_43 F_c_43 A40_c_43 S_CS_c_43 S_AD_c_43 S_HI_c_43 S_LO_c_43 Vc44 P5 g_b40 (by rw [own_nm1 hc29 hc38]; unfold own_x; rw [if_neg hc2]; exact ⟨rfl, by decide, by decide⟩ : 23 = (own_x p0 (own_nm p1 p2 p3)).length ∧ 1 ≤ 23 ∧ 23 ≤ 24) (own_xch (own_nmch h2 h3) : ∀ c ∈ (own_x p0 (own_nm p1 p2 p3)), own_ch c) ((Ne.symm ne_b40_b42) : b42 ≠ b40)) hZ (own_w hw 169 rfl) (own_w hw 2 rfl) (by decide) (by decide)) (g := (mkF m 290 #[.val (.int p0), .val (.int p1), .val (.int p2), .val (.int p3)] [(.ref b42), (.ref b40), (.ref b40)])) rfl (by rw [hml]; rfl) (Steps.refl _) (a := b40) (argsL := [(.ref b42)]) (rest := [(.ref b40)]) (lenOf pd_35 rfl) rfl (by show 2 * 0 + _ ≤ _; exact Nat.le_of_eq rfl) (hb hby d_m52_290) (fun _ _ => ⟨rfl, rfl, (by decide : 2 + 2 ≤ _), (by decide : 27 + 72 ≤ _)⟩)
        obtain ⟨_, T45, L45, X45, ⟨xb_45, xk_45, rfl, N45q, K45, Fq45_0, Fq45_1, Fq45_2, Fq45_3⟩, st45⟩ := own_r X43 rq45
        have N45 := Fr.app N43 N45q
        have Kp45 : Keep h0 T45.heap [] := Kp43.trans K45 (allS (Or.inr sz_b40) all0)
        have k45 : Go p.tables e below _ (T45.setTop (mkF m 293 #[.val (.int p0), .val (.int p1), .val (.int p2), .val (.int p3)] [(.ref b40)])) := st45
        obtain ⟨fs, hr, hrun, hended, hW, hsame⟩ := X45.leave (v := some (.ref b40)) (fun h => by rw [Bd.returns] at h; cases h)
        refine ⟨_, _, castTop (ef_exp m p0 p1 p2 p3) ((goT k39 (goT k41 (goT k42 (goT st43 k45)))) _ (retR X45 hx Bd.returns (hb hby d_m52_293) hr)), hrun, hended, _, _, rfl, ?_, ⟨_, rfl⟩, hW, hsame.mono (by decide) (by decide)⟩
        show Q_exp Z p0 p1 p2 p3 G1 h0 n0 _ T45.heap _
        exact ⟨b40, xb_45, xk_45, rfl, N45, Kp45, Fq45_0, Fq45_1, Fq45_2, Fq45_3⟩
      · have k46 : Go p.tables e below _ (s₁.setTop (mkF m 294 #[.val (.int p0), .val (.int p1), .val (.int p2), .val (.int p3)] [])) := goT k37 fun t ht => (by
          refine XS.icmpYes X0.here hx rfl (pc0 := 148) (pc' := 294) rfl (hb hby d_m52_148) rfl (feq hc38).2 (by decide) (by decide) ?_
          exact ht)
        obtain ⟨T47, h47, X47, e47, E47, A47, D47, -, st47⟩ := newO X0 hx hZ hown (own_w hw 165 rfl) (own_w hw 10 rfl) (own_w hw 2 rfl) e0 (g := (mkF m 294 #[.val (.int p0), .val (.int p1), .val (.int p2), .val (.int p3)] [])) rfl (hb hby d_m52_294) (by decide) (by decide)
        obtain ⟨b47, g47⟩ : ∃ z, z = h0.size := ⟨_, rfl⟩
        rw [← g47] at A47 D47 st47
        have g_b47 : n0 ≤ b47 := Nat.le_trans Z0 (Nat.le_of_eq g47.symm)
        have sz_b47 : h0.size ≤ b47 := Nat.le_trans (Keep.refl h0 []).1 (Nat.le_of_eq g47.symm)
        have Kp47 : Keep h0 h47 [] := (Keep.refl h0 []).ext E47
        have Z47 : n0 ≤ h47.size := Nat.le_trans Z0 E47.1
        have S_CS_c_47 := S_CS.ext E47
        have S_AD_c_47 := S_AD.ext E47
        have S_HI_c_47 := S_HI.ext E47
        have S_LO_c_47 := S_LO.ext E47
        have F_value_b47 : f1 Z h47 b47 .null := D47 (Or.inr (own_w hw 23 rfl)) (ty := (.array .byte)) (by decide)
        have F_coder_b47 : f0 Z h47 b47 (.int (0 : Int32)) := D47 (Or.inr (own_w hw 25 rfl)) (ty := .byte) (by decide)
        have k48 : Go p.tables e below _ (T47.setTop (mkF m 300 #[.val (.int p0), .val (.int p1), .val (.int p2), .val (.int p3)] [(.int (24 : Int32)), (.ref b47), (.ref b47)])) := fun t ht => st47 t (by
          refine XS.dup X47.here hx rfl (hb hby d_m52_297) rfl rfl ?_
          refine XS.bipush X47.here hx rfl (hb hby d_m52_298) ?_
          exact ht)
        obtain ⟨T49, h49, kc49, X49, e49, E49, A49, st49⟩ := newP X47 hx hZ (own_w hw 166 rfl) e47 (g := (mkF m 300 #[.val (.int p0), .val (.int p1), .val (.int p2), .val (.int p3)] [(.int (24 : Int32)), (.ref b47), (.ref b47)])) rfl (hb hby d_m52_300) rfl (by decide) (cap := 24) (by decide) (by decide) (by decide) (by decide)
        obtain ⟨b49, g49⟩ : ∃ z, z = h47.size := ⟨_, rfl⟩
        rw [← g49] at A49 st49
        have g_b49 : n0 ≤ b49 := Nat.le_trans Z47 (Nat.le_of_eq g49.symm)
        have sz_b49 : h0.size ≤ b49 := Nat.le_trans Kp47.1 (Nat.le_of_eq g49.symm)
        have ne_b47_b49 : b47 ≠ b49 := Nat.ne_of_lt (Nat.lt_of_lt_of_le A47.lt (Nat.le_of_eq g49.symm))
        have Kp49 : Keep h0 h49 [] := Kp47.ext E49
        have Z49 : n0 ≤ h49.size := Nat.le_trans Z47 E49.1
        have S_CS_c_49 := S_CS_c_47.ext E49
        have S_AD_c_49 := S_AD_c_47.ext E49
        have S_HI_c_49 := S_HI_c_47.ext E49
        have S_LO_c_49 := S_LO_c_47.ext E49
        have A47_c_49 := A47.ext E49
        have F_value_b47_c_49 := F_value_b47.ext E49
        have F_c_49 := F_coder_b47.ext E49
        have V_b49 : Arv Z h49 b49 kc49 .char (24 : Int32) ((List.replicate 24 (0 : Int32)).map Value.int) (.int (0 : Int32)) := (Arv.new A49 (by decide)).pad own_pad
        have k49 : Go p.tables e below _ (T49.setTop (mkF m 302 #[.val (.int p0), .val (.int p1), .val (.int p2), .val (.int p3)] [(.ref b49), (.ref b47), (.ref b47)])) := st49
        have eq50 : (own_e34 ++ own_em 2 ++ own_e40).map (own_ev (own_f p0 p1 p2 p3)) = (own_x p0 (own_nm p1 p2 p3)) := (own_exj _ (own_em 2) hc2).trans (congrArg (own_x p0) (own_nm2 hc29 hc38).symm)
        obtain ⟨T50, L50, X50, N50, K50, V50, st50⟩ := own_fill hx hZ (N := 24) (by decide) (own_fL p0 p1 p2 p3) (rest := [(.ref b47), (.ref b47)]) g_b49 (own_e34 ++ own_em 2 ++ own_e40) 0 302 (List.replicate 24 (0 : Int32)) h49 T49 _ X49 e49 N0 V_b49 rfl List.length_replicate (by rw [hby]; exact own_at_300) (by rw [eq50]; exact own_xch (own_nmch h2 h3))
        rw [own_pe_300] at st50
        have Kp50 : Keep h0 T50.heap [] := Kp49.trans K50 (allS (Or.inr sz_b49) all0)
        have Z50 : n0 ≤ T50.heap.size := Nat.le_trans Z49 K50.1
        have S_CS_c_50 := own_sta_keepV S_CS_c_49 V_b49 K50
        have S_AD_c_50 := own_sta_keepV S_AD_c_49 V_b49 K50
        have S_HI_c_50 := own_sta_keepV S_HI_c_49 V_b49 K50
        have S_LO_c_50 := own_sta_keepV S_LO_c_49 V_b49 K50
        have A47_c_50 := A47_c_49.keep K50
        have F_value_b47_c_50 := F_value_b47_c_49.keep K50 (ninS ne_b47_b49 nin0)
        have F_c_50 := F_c_49.keep K50 (ninS ne_b47_b49 nin0)
        have Vc51 : own_A Z T50.heap b49 kc49 .char (24 : Int32) (own_x p0 (own_nm p1 p2 p3)) := by rw [← ((own_fl0 (own_f p0 p1 p2 p3) (own_e34 ++ own_em 2 ++ own_e40) rfl).trans eq50)]; exact V50
        have rq52 := X50.specialBack hx (y := (⟨"java/lang/String", "<init>", "([C)V"⟩ : MethodName)) rfl hown (mvT hZ (own_w hw 167 rfl)) (mvT hZ (own_w hw 168 rfl)) (mvT hZ (own_w hw 169 rfl)) (by decide) (backOf (W := 1) (rm_iC1 l Z a0 hw [] b47 b49 24 kc49 (own_x p0 (own_nm p1 p2 p3)) G1 T50.heap n0 Z50 F_value_b47_c_50 F_c_50 A47_c_50 S_CS_c_50 S_AD_c_50 S_HI_c_50 S_LO_c_50 Vc51 P5 g_b47 (by rw [own_nm2 hc29 hc38]; unfold own_x; rw [if_neg hc2]; exact ⟨rfl, by decide, by decide⟩ : 24 = (own_x p0 (own_nm p1 p2 p3)).length ∧ 1 ≤ 24 ∧ 24 ≤ 24) (own_xch (own_nmch h2 h3) : ∀ c ∈ (own_x p0 (own_nm p1 p2 p3)), own_ch c) ((Ne.symm ne_b47_b49) : b49 ≠ b47)) hZ (own_w hw 169 rfl) (own_w hw 2 rfl) (by decide) (by decide)) (g := (mkF m 438 #[.val (.int p0), .val (.int p1), .val (.int p2), .val (.int p3)] [(.ref b49), (.ref b47), (.ref b47)])) rfl (by rw [hml]; rfl) (Steps.refl _) (a := b47) (argsL := [(.ref b49)]) (rest := [(.ref b47)]) (lenOf pd_35 rfl) rfl (by show 2 * 0 + _ ≤ _; exact Nat.le_of_eq rfl) (hb hby d_m52_438) (fun _ _ => ⟨rfl, rfl, (by decide : 2 + 2 ≤ _), (by decide : 28 + 72 ≤ _)⟩)
        obtain ⟨_, T52, L52, X52, ⟨xb_52, xk_52, rfl, N52q, K52, Fq52_0, Fq52_1, Fq52_2, Fq52_3⟩, st52⟩ := own_r X50 rq52
        have N52 := Fr.app N50 N52q
        have Kp52 : Keep h0 T52.heap [] := Kp50.trans K52 (allS (Or.inr sz_b47) all0)
        have k52 : Go p.tables e below _ (T52.setTop (mkF m 441 #[.val (.int p0), .val (.int p1), .val (.int p2), .val (.int p3)] [(.ref b47)])) := st52
        obtain ⟨fs, hr, hrun, hended, hW, hsame⟩ := X52.leave (v := some (.ref b47)) (fun h => by rw [Bd.returns] at h; cases h)
        refine ⟨_, _, castTop (ef_exp m p0 p1 p2 p3) ((goT k46 (goT k48 (goT k49 (goT st50 k52)))) _ (retR X52 hx Bd.returns (hb hby d_m52_441) hr)), hrun, hended, _, _, rfl, ?_, ⟨_, rfl⟩, hW, hsame.mono (by decide) (by decide)⟩
        show Q_exp Z p0 p1 p2 p3 G1 h0 n0 _ T52.heap _
        exact ⟨b47, xb_52, xk_52, rfl, N52, Kp52, Fq52_0, Fq52_1, Fq52_2, Fq52_3⟩
theorem pd_36 : parseMethodDescriptor "(Ljava/lang/String;Z)V" = some ⟨[(.object "java/lang/String"), .boolean], none⟩ := by decide +kernel
theorem pd_37 : parseMethodDescriptor "(ZICC)Ljava/lang/String;" = some ⟨[.boolean, .int, .char, .char], some (.object "java/lang/String")⟩ := by decide +kernel
theorem pd_38 : parseMethodDescriptor "(Ljava/lang/Object;)Z" = some ⟨[(.object "java/lang/Object")], some .boolean⟩ := by decide +kernel
theorem pd_39 : parseMethodDescriptor "(C)Ljava/lang/String;" = some ⟨[.char], some (.object "java/lang/String")⟩ := by decide +kernel
theorem ef_law (m : MethodId) (x0 : Int32) (x1 : Int32) (x2 : Int32) : entryFrame m #[(.int x0), (.int x1), (.int x2)] maxLocals = mkF m 0 #[.val (.int x0), .val (.int x1), .val (.int x2), .unset, .unset, .unset, .unset, .unset, .unset] [] := by first | (simp [entryFrame, mkF, argsToLocals, Value.category, maxLocals]; done) | rfl
def Q_law (Z : State) (p0 : Int32) (p1 : Int32) (p2 : Int32) (G1 : Int32) (fm : Value) (h0 : Heap) (n0 : Nat) (v : Option Value) (h : Heap) (L : List Loc) : Prop := v = some (.int (1 : Int32)) ∧ Fr n0 L
set_option maxRecDepth 65536 in
set_option maxHeartbeats 40000000 in
theorem rm_law (l : Launch) (Z : State) (a0 : Array Value) (hw : HW a0 Z) (ws : List Jvm.Cond) (p0 : Int32) (p1 : Int32) (p2 : Int32) (G1 : Int32) (fm : Value) (h0 : Heap) (n0 : Nat) (Z0 : n0 ≤ h0.size) (S_CS : f12 Z h0 (.int G1)) (S_AD : f8 Z h0 (.int (1 : Int32))) (S_HI : f9 Z h0 (.int (0 : Int32))) (S_LO : f10 Z h0 (.int (8 : Int32))) (S_SI : f11 Z h0 fm) (P5 : ¬ (G1 = (0 : Int32))) (rf : fm.isRef = true) :
    MetFree l x (head1 (Jvm.Cond.code x code maxLocals ret :: ws) room_1) (fun a U => a = #[(.int p0), (.int p1), (.int p2)] ∧ Z.Warmed39 U.vm ∧ U.heap = h0 ∧ CHv Z own_ELs U.vm h0) (fun _ _ _ _ _ => True) (fun _ U o U' => ∃ v L, o = .returned v ∧ Q_law Z p0 p1 p2 G1 fm h0 n0 v U'.heap L ∧ ReturnedEndW U o U' L room_1.cells room_1.slots) := by
  refine MetFree.of_bodySF (plainFor_of_name pn_10) hisR ?_
  intro p e s m args below meth c s₁ Bd hml0 hP hK
  obtain ⟨rfl, hZ, hh, hCH⟩ := hP
  have hx := Bd.exec
  have hby := Bd.bytes
  have hml : c.maxLocals = 9 := hml0
  have hown : s.vm.findClass "com/example/fieldveil/fieldveil/PlaceholderToStringPinLaw" = some m.cls := findClass_of_methodNamed Bd.named
  have X0 : Stand p l e room_1 s m #[(.int p0), (.int p1), (.int p2)] below meth c s₁ [] 0 0 := Stand.of_body Bd
  have e0 : s₁.heap = h0 := by rw [← hh, Bd.state]; rfl
  have N0 := Fr.nil n0
  have pre0 : ∀ t, Steps p.tables e below (s₁.setTop (mkF m 0 #[.val (.int p0), .val (.int p1), .val (.int p2), .unset, .unset, .unset, .unset, .unset, .unset] [])) t → Steps p.tables e below (s₁.setTop (entryFrame m #[(.int p0), (.int p1), (.int p2)] maxLocals)) t := fun t k => castTop (ef_law m p0 p1 p2) k
  have CR0 : CHr Z own_ELs s.vm h0 s.vm h0 := CHr.refl hCH
  have k1 : Go p.tables e below (s₁.setTop (mkF m 0 #[.val (.int p0), .val (.int p1), .val (.int p2), .unset, .unset, .unset, .unset, .unset, .unset] [])) (s₁.setTop (mkF m 3 #[.val (.int p0), .val (.int p1), .val (.int p2), .unset, .unset, .unset, .unset, .unset, .unset] [(.int (p2 &&& (1 : Int32)))])) := by
    intro t ht
    refine XS.iloadN X0.here hx rfl (hb hby at_0) rfl ?_
    refine XS.iconst X0.here hx rfl (hb hby at_1) ?_
    refine XS.iand X0.here hx rfl (hb hby at_2) rfl ?_
    exact ht
  have k2 : Go p.tables e below (s₁.setTop (mkF m 3 #[.val (.int p0), .val (.int p1), .val (.int p2), .unset, .unset, .unset, .unset, .unset, .unset] [(.int (p2 &&& (1 : Int32)))])) (s₁.setTop (mkF m 11 #[.val (.int p0), .val (.int p1), .val (.int p2), .unset, .unset, .unset, .unset, .unset, .unset] [(.int (if (p2 &&& (1 : Int32)) = (0 : Int32) then (0 : Int32) else (1 : Int32)))])) := by
    by_cases hc3 : (p2 &&& (1 : Int32)) = (0 : Int32)
    · have k4 : Go p.tables e below (s₁.setTop (mkF m 3 #[.val (.int p0), .val (.int p1), .val (.int p2), .unset, .unset, .unset, .unset, .unset, .unset] [(.int (p2 &&& (1 : Int32)))])) (s₁.setTop (mkF m 11 #[.val (.int p0), .val (.int p1), .val (.int p2), .unset, .unset, .unset, .unset, .unset, .unset] [(.int (0 : Int32))])) := by
        intro t ht
        refine XS.ifYes X0.here hx rfl (pc0 := 3) (pc' := 10) rfl (hb hby at_3) rfl ((if0 _ _).trans (teq hc3).1) (by decide) (by decide) ?_
        refine XS.iconst X0.here hx rfl (hb hby at_10) ?_
        exact ht
      have kk := k4
      simpa only [if_pos hc3] using kk
    · have k5 : Go p.tables e below (s₁.setTop (mkF m 3 #[.val (.int p0), .val (.int p1), .val (.int p2), .unset, .unset, .unset, .unset, .unset, .unset] [(.int (p2 &&& (1 : Int32)))])) (s₁.setTop (mkF m 11 #[.val (.int p0), .val (.int p1), .val (.int p2), .unset, .unset, .unset, .unset, .unset, .unset] [(.int (1 : Int32))])) := by
        intro t ht
        refine XS.ifNo X0.here hx rfl (hb hby at_3) rfl ((if0 _ _).trans (feq hc3).1) ?_
        refine XS.iconst X0.here hx rfl (hb hby at_6) ?_
        refine XS.goto X0.here hx rfl (pc0 := 7) (pc' := 11) rfl (hb hby at_7) (by decide) (by decide) ?_
        exact ht
      have kk := k5
      simpa only [if_neg hc3] using kk
  have k6 : Go p.tables e below _ (s₁.setTop (mkF m 27 #[.val (.int p0), .val (.int p1), .val (.int p2), .val (.int (if (p2 &&& (1 : Int32)) = (0 : Int32) then (0 : Int32) else (1 : Int32))), .val (.int (((p2.toUInt32 >>> ((1 : Int32) &&& 31).toUInt32).toInt32) - ((((p2.toUInt32 >>> ((1 : Int32) &&& 31).toUInt32).toInt32) / (3 : Int32)) * (3 : Int32)))), .val (.int (p0.toUInt32.toUInt16.toUInt32.toInt32)), .val (.int (p1.toUInt32.toUInt16.toUInt32.toInt32)), .unset, .unset] [])) := goT k2 fun t ht => (by
    refine XS.istoreN X0.here hx rfl (hb hby at_11) rfl (l' := #[.val (.int p0), .val (.int p1), .val (.int p2), .val (.int (if (p2 &&& (1 : Int32)) = (0 : Int32) then (0 : Int32) else (1 : Int32))), .unset, .unset, .unset, .unset, .unset]) rfl ?_
    refine XS.iloadN X0.here hx rfl (hb hby at_12) rfl ?_
    refine XS.iconst X0.here hx rfl (hb hby at_13) ?_
    refine XS.iushr X0.here hx rfl (hb hby at_14) rfl ?_
    refine XS.iconst X0.here hx rfl (hb hby at_15) ?_
    refine XS.irem X0.here hx rfl (hb hby at_16) rfl (by decide : ¬ ((3 : Int32) = 0)) ?_
    refine XS.istore X0.here hx rfl (hb hby at_17) rfl (l' := #[.val (.int p0), .val (.int p1), .val (.int p2), .val (.int (if (p2 &&& (1 : Int32)) = (0 : Int32) then (0 : Int32) else (1 : Int32))), .val (.int (((p2.toUInt32 >>> ((1 : Int32) &&& 31).toUInt32).toInt32) - ((((p2.toUInt32 >>> ((1 : Int32) &&& 31).toUInt32).toInt32) / (3 : Int32)) * (3 : Int32)))), .unset, .unset, .unset, .unset]) rfl ?_
    refine XS.iloadN X0.here hx rfl (hb hby at_19) rfl ?_
    refine XS.i2c X0.here hx rfl (hb hby at_20) rfl ?_
    refine XS.istore X0.here hx rfl (hb hby at_21) rfl (l' := #[.val (.int p0), .val (.int p1), .val (.int p2), .val (.int (if (p2 &&& (1 : Int32)) = (0 : Int32) then (0 : Int32) else (1 : Int32))), .val (.int (((p2.toUInt32 >>> ((1 : Int32) &&& 31).toUInt32).toInt32) - ((((p2.toUInt32 >>> ((1 : Int32) &&& 31).toUInt32).toInt32) / (3 : Int32)) * (3 : Int32)))), .val (.int (p0.toUInt32.toUInt16.toUInt32.toInt32)), .unset, .unset, .unset]) rfl ?_
    refine XS.iloadN X0.here hx rfl (hb hby at_23) rfl ?_
    refine XS.i2c X0.here hx rfl (hb hby at_24) rfl ?_
    refine XS.istore X0.here hx rfl (hb hby at_25) rfl (l' := #[.val (.int p0), .val (.int p1), .val (.int p2), .val (.int (if (p2 &&& (1 : Int32)) = (0 : Int32) then (0 : Int32) else (1 : Int32))), .val (.int (((p2.toUInt32 >>> ((1 : Int32) &&& 31).toUInt32).toInt32) - ((((p2.toUInt32 >>> ((1 : Int32) &&& 31).toUInt32).toInt32) / (3 : Int32)) * (3 : Int32)))), .val (.int (p0.toUInt32.toUInt16.toUInt32.toInt32)), .val (.int (p1.toUInt32.toUInt16.toUInt32.toInt32)), .unset, .unset]) rfl ?_
    exact ht)
  obtain ⟨y7, ey7⟩ : ∃ z : Int32, z = (if (p2 &&& (1 : Int32)) = (0 : Int32) then (0 : Int32) else (1 : Int32)) := ⟨_, rfl⟩
  obtain ⟨y8, ey8⟩ : ∃ z : Int32, z = (((p2.toUInt32 >>> ((1 : Int32) &&& 31).toUInt32).toInt32) - ((((p2.toUInt32 >>> ((1 : Int32) &&& 31).toUInt32).toInt32) / (3 : Int32)) * (3 : Int32))) := ⟨_, rfl⟩
  obtain ⟨y9, ey9⟩ : ∃ z : Int32, z = (p0.toUInt32.toUInt16.toUInt32.toInt32) := ⟨_, rfl⟩
  obtain ⟨y10, ey10⟩ : ∃ z : Int32, z = (p1.toUInt32.toUInt16.toUInt32.toInt32) := ⟨_, rfl⟩
  have k11 : Go p.tables e below _ (s₁.setTop (mkF m 27 #[.val (.int p0), .val (.int p1), .val (.int p2), .val (.int y7), .val (.int y8), .val (.int y9), .val (.int y10), .unset, .unset] [])) := goT k6 (by rw [ey7, ey8, ey9, ey10]; exact fun _ h => h)
  have hb3 : nar .boolean y7 = y7 := by rw [ey7]; exact own_bool
  have hy5 : own_ch y9 := ey9 ▸ own_chi _
  have hy6 : own_ch y10 := ey10 ▸ own_chi _
  have k12 : Go p.tables e below _ (s₁.setTop (mkF m 29 #[.val (.int p0), .val (.int p1), .val (.int p2), .val (.int y7), .val (.int y8), .val (.int y9), .val (.int y10), .unset, .unset] [(.int y8)])) := goT k11 fun t ht => (by
    refine XS.iload X0.here hx rfl (hb hby at_27) rfl ?_
    exact ht)
  by_cases hc13 : y8 = (0 : Int32)
  · have k14 : Go p.tables e below _ (s₁.setTop (mkF m 32 #[.val (.int p0), .val (.int p1), .val (.int p2), .val (.int y7), .val (.int y8), .val (.int y9), .val (.int y10), .unset, .unset] [])) := goT k12 fun t ht => (by
      refine XS.ifNo X0.here hx rfl (hb hby at_29) rfl ((if0 _ _).trans (teq hc13).2) ?_
      exact ht)
    obtain ⟨T15, h15, X15, e15, E15, A15, D15, -, st15⟩ := newO X0 hx hZ hown (own_w hw 165 rfl) (own_w hw 10 rfl) (own_w hw 2 rfl) e0 (g := (mkF m 32 #[.val (.int p0), .val (.int p1), .val (.int p2), .val (.int y7), .val (.int y8), .val (.int y9), .val (.int y10), .unset, .unset] [])) rfl (hb hby at_32) (by decide) (by decide)
    obtain ⟨b15, g15⟩ : ∃ z, z = h0.size := ⟨_, rfl⟩
    rw [← g15] at A15 D15 st15
    have g_b15 : n0 ≤ b15 := Nat.le_trans Z0 (Nat.le_of_eq g15.symm)
    have Z15 : n0 ≤ h15.size := Nat.le_trans Z0 E15.1
    have CR15 : CHr Z own_ELs s.vm h0 s.vm h15 := CR0.trans (CHr.ext E15 CR0.1)
    have S_CS_c_15 := S_CS.ext E15
    have S_AD_c_15 := S_AD.ext E15
    have S_HI_c_15 := S_HI.ext E15
    have S_LO_c_15 := S_LO.ext E15
    have S_SI_c_15 := S_SI.ext E15
    have F_value_b15 : f1 Z h15 b15 .null := D15 (Or.inr (own_w hw 23 rfl)) (ty := (.array .byte)) (by decide)
    have F_coder_b15 : f0 Z h15 b15 (.int (0 : Int32)) := D15 (Or.inr (own_w hw 25 rfl)) (ty := .byte) (by decide)
    have k16 : Go p.tables e below _ (T15.setTop (mkF m 37 #[.val (.int p0), .val (.int p1), .val (.int p2), .val (.int y7), .val (.int y8), .val (.int y9), .val (.int y10), .unset, .unset] [(.int (0 : Int32)), (.ref b15), (.ref b15)])) := fun t ht => st15 t (by
      refine XS.dup X15.here hx rfl (hb hby at_35) rfl rfl ?_
      refine XS.iconst X15.here hx rfl (hb hby at_36) ?_
      exact ht)
    obtain ⟨T17, h17, kc17, X17, e17, E17, A17, st17⟩ := newP X15 hx hZ (own_w hw 166 rfl) e15 (g := (mkF m 37 #[.val (.int p0), .val (.int p1), .val (.int p2), .val (.int y7), .val (.int y8), .val (.int y9), .val (.int y10), .unset, .unset] [(.int (0 : Int32)), (.ref b15), (.ref b15)])) rfl (hb hby at_37) rfl (by decide) (cap := 0) (by decide) (by decide) (by decide) (by decide)
    obtain ⟨b17, g17⟩ : ∃ z, z = h15.size := ⟨_, rfl⟩
    rw [← g17] at A17 st17
    have Z17 : n0 ≤ h17.size := Nat.le_trans Z15 E17.1
    have CR17 : CHr Z own_ELs s.vm h0 s.vm h17 := CR15.trans (CHr.ext E17 CR15.1)
    have S_CS_c_17 := S_CS_c_15.ext E17
    have S_AD_c_17 := S_AD_c_15.ext E17
    have S_HI_c_17 := S_HI_c_15.ext E17
    have S_LO_c_17 := S_LO_c_15.ext E17
    have S_SI_c_17 := S_SI_c_15.ext E17
    have A15_c_17 := A15.ext E17
    have F_value_b15_c_17 := F_value_b15.ext E17
    have F_c_17 := F_coder_b15.ext E17
    have V_b17 : Arv Z h17 b17 kc17 .char (0 : Int32) [] (.int (0 : Int32)) := (Arv.new A17 (by decide)).pad (pad_rep [] (.int (0 : Int32)) 0)
    have k17 : Go p.tables e below _ (T17.setTop (mkF m 39 #[.val (.int p0), .val (.int p1), .val (.int p2), .val (.int y7), .val (.int y8), .val (.int y9), .val (.int y10), .unset, .unset] [(.ref b17), (.ref b15), (.ref b15)])) := st17
    have hS0 : s.Since s.vm 0 := (State.WarmedH.refl s).since 0
    obtain ⟨_, _, ⟨T18, L18, kq18, n18⟩, -, X18, hSn18, hgr18, ⟨Lc18, hQ18, l18, y18, z18, hCr18⟩, st18⟩ := X17.specialBackS hx (y := (⟨"java/lang/String", "<init>", "([C)V"⟩ : MethodName)) rfl hown (mvT hZ (own_w hw 167 rfl)) (mvT hZ (own_w hw 168 rfl)) (mvT hZ (own_w hw 169 rfl)) (by decide) (backOfSH (s := s) (vm0 := s.vm) (W := 1) (rm_initE1 l Z a0 hw [] b15 b17 kc17 h17 n0 Z17 F_value_b15_c_17 F_c_17 A15_c_17 V_b17 g_b15) hZ (own_w hw 169 rfl) (own_w hw 2 rfl) (by decide) (by decide) (own_EL hw) CR17.1) (g := (mkF m 39 #[.val (.int p0), .val (.int p1), .val (.int p2), .val (.int y7), .val (.int y8), .val (.int y9), .val (.int y10), .unset, .unset] [(.ref b17), (.ref b15), (.ref b15)])) rfl (by rw [hml]; rfl) (Steps.refl _) (a := b15) (argsL := [(.ref b17)]) (rest := [(.ref b15)]) (lenOf pd_35 rfl) rfl (by show 2 * 0 + _ ≤ _; exact Nat.le_of_eq rfl) (hb hby at_39) (fun _ _ => ⟨rfl, e17, (by decide : 2 + 2 ≤ _), (by decide : 4 + 4 ≤ _)⟩)
    dsimp only [Pt.U, Pt.locs, Pt.cells, Pt.slots] at X18 l18 y18 z18 st18 hQ18 hSn18 hgr18 hCr18
    subst l18 y18 z18
    obtain ⟨X18, hS18, hZ, hown⟩ := rebS (s := s) (vm0 := s.vm) hS0 (Nat.zero_le _) X18 hSn18 (Nat.zero_le _) hZ hown
    obtain ⟨xb_18, xk_18, rfl, N18q, K18, Fq18_0, Fq18_1, Fq18_2, Fq18_3⟩ := hQ18
    have N18 := Fr.app N0 N18q
    have k18 : Go p.tables e below _ (T18.setTop (mkF m 42 #[.val (.int p0), .val (.int p1), .val (.int p2), .val (.int y7), .val (.int y8), .val (.int y9), .val (.int y10), .unset, .unset] [(.ref b15)])) := fun _ ht => st18.trans ht
    have Z18 : n0 ≤ T18.heap.size := Nat.le_trans Z17 K18.1
    have CR18 : CHr Z own_ELs s.vm h0 T18.vm T18.heap := CR17.trans hCr18
    have S_CS_c_18 := own_sta_keep S_CS_c_17 A15_c_17 K18
    have S_AD_c_18 := own_sta_keep S_AD_c_17 A15_c_17 K18
    have S_HI_c_18 := own_sta_keep S_HI_c_17 A15_c_17 K18
    have S_LO_c_18 := own_sta_keep S_LO_c_17 A15_c_17 K18
    have S_SI_c_18 := own_sta_keep S_SI_c_17 A15_c_17 K18
    have k19 : Go p.tables e below _ (T18.setTop (mkF m 85 #[.val (.int p0), .val (.int p1), .val (.int p2), .val (.int y7), .val (.int y8), .val (.int y9), .val (.int y10), .val (.ref b15), .unset] [])) := goT k18 fun t ht => (by
      refine XS.astore X18.here hx rfl (hb hby at_42) rfl rfl (l' := #[.val (.int p0), .val (.int p1), .val (.int p2), .val (.int y7), .val (.int y8), .val (.int y9), .val (.int y10), .val (.ref b15), .unset]) rfl ?_
      refine XS.goto X18.here hx rfl (pc0 := 44) (pc' := 85) rfl (hb hby at_44) (by decide) (by decide) ?_
      exact ht)
    have Fk20 : f0 Z T18.heap b15 (.int (own_k (own_nm y8 y9 y10))) := own_fcast (by rw [own_nm0 hc13, own_klo own_lonil]; rfl) Fq18_2
    have Va21 : own_A Z T18.heap xb_18 xk_18 .byte (Int32.ofNat (own_n (own_nm y8 y9 y10))) (own_s (own_nm y8 y9 y10)) := own_acast (by rw [own_nm0 hc13, own_nlo own_lonil]; rfl) (by rw [own_nm0 hc13, own_slo own_lonil]; rfl) Fq18_3
    obtain ⟨T22, h22, X22, e22, E22, A22, D22, -, st22⟩ := newO X18 hx hZ hown (own_w hw 26 rfl) (own_w hw 27 rfl) (own_w hw 28 rfl) rfl (g := (mkF m 85 #[.val (.int p0), .val (.int p1), .val (.int p2), .val (.int y7), .val (.int y8), .val (.int y9), .val (.int y10), .val (.ref b15), .unset] [])) rfl (hb hby at_85) (by decide) (by decide)
    obtain ⟨b22, g22⟩ : ∃ z, z = T18.heap.size := ⟨_, rfl⟩
    rw [← g22] at A22 D22 st22
    have g_b22 : n0 ≤ b22 := Nat.le_trans Z18 (Nat.le_of_eq g22.symm)
    have ne_b15_b22 : b15 ≠ b22 := Nat.ne_of_lt (Nat.lt_of_lt_of_le Fq18_0.lt (Nat.le_of_eq g22.symm))
    have ne_xb_18_b22 : xb_18 ≠ b22 := Nat.ne_of_lt (Nat.lt_of_lt_of_le Va21.lt (Nat.le_of_eq g22.symm))
    have Z22 : n0 ≤ h22.size := Nat.le_trans Z18 E22.1
    have Sf22_b22 : Safe Z own_ELs T18.vm h22 b22 := Safe.ext E22 CR18.1 (Safe.new (Nat.le_of_eq g22.symm))
    have CR22 : CHr Z own_ELs s.vm h0 T18.vm h22 := CR18.trans (CHr.ext E22 CR18.1)
    have S_CS_c_22 := S_CS_c_18.ext E22
    have S_AD_c_22 := S_AD_c_18.ext E22
    have S_HI_c_22 := S_HI_c_18.ext E22
    have S_LO_c_22 := S_LO_c_18.ext E22
    have S_SI_c_22 := S_SI_c_18.ext E22
    have Fq18_0_c_22 := Fq18_0.ext E22
    have Fq18_1_c_22 := Fq18_1.ext E22
    have Fk20_c_22 := Fk20.ext E22
    have Va21_c_22 := Va21.ext E22
    have F_name_b22 : f6 Z h22 b22 .null := D22 (Or.inr (own_w hw 39 rfl)) (ty := (.object "java/lang/String")) (by decide)
    have F_json_b22 : f7 Z h22 b22 (.int (0 : Int32)) := D22 (Or.inr (own_w hw 41 rfl)) (ty := .boolean) (by decide)
    have k23 : Go p.tables e below _ (T22.setTop (mkF m 92 #[.val (.int p0), .val (.int p1), .val (.int p2), .val (.int y7), .val (.int y8), .val (.int y9), .val (.int y10), .val (.ref b15), .unset] [(.int y7), (.ref b15), (.ref b22), (.ref b22)])) := fun t ht => st22 t (by
      refine XS.dup X22.here hx rfl (hb hby at_88) rfl rfl ?_
      refine XS.aload X22.here hx rfl (hb hby at_89) rfl rfl ?_
      refine XS.iloadN X22.here hx rfl (hb hby at_91) rfl ?_
      exact ht)
    have rq24 := X22.specialBack hx (y := (⟨"com/example/fieldveil/fieldveil/Placeholder", "<init>", "(Ljava/lang/String;Z)V"⟩ : MethodName)) rfl hown (mvT hZ (own_w hw 29 rfl)) (mvT hZ (own_w hw 30 rfl)) (mvT hZ (own_w hw 31 rfl)) (by decide) (backOf (W := 1) (rm_phI l Z a0 hw [] b22 b15 y7 h22 n0 Z22 F_name_b22 F_json_b22 A22 g_b22) hZ (own_w hw 31 rfl) (own_w hw 28 rfl) (by decide) (by decide)) (g := (mkF m 92 #[.val (.int p0), .val (.int p1), .val (.int p2), .val (.int y7), .val (.int y8), .val (.int y9), .val (.int y10), .val (.ref b15), .unset] [(.int y7), (.ref b15), (.ref b22), (.ref b22)])) rfl (by rw [hml]; rfl) (Steps.refl _) (a := b22) (argsL := [(.ref b15), (.int y7)]) (rest := [(.ref b22)]) (lenOf pd_36 rfl) rfl (by show 2 * 0 + _ ≤ _; exact Nat.le_of_eq rfl) (hb hby at_92) (fun _ _ => ⟨rfl, e22, (by decide : 5 + 0 ≤ _), (by decide : 10 + 0 ≤ _)⟩)
    obtain ⟨_, T24, L24, X24, ⟨rfl, N24q, K24, Fq24_0, Fq24_1, Fq24_2⟩, st24⟩ := own_r X22 rq24
    have N24 := Fr.app N18 N24q
    have Z24 : n0 ≤ T24.heap.size := Nat.le_trans Z22 K24.1
    have CR24 : CHr Z own_ELs s.vm h0 T18.vm T24.heap := CR22.trans (CHr.keep K24 (allS Sf22_b22 all0) CR22.1)
    have S_CS_c_24 := own_sta_keep S_CS_c_22 A22 K24
    have S_AD_c_24 := own_sta_keep S_AD_c_22 A22 K24
    have S_HI_c_24 := own_sta_keep S_HI_c_22 A22 K24
    have S_LO_c_24 := own_sta_keep S_LO_c_22 A22 K24
    have S_SI_c_24 := own_sta_keep S_SI_c_22 A22 K24
    have Fq18_0_c_24 := Fq18_0_c_22.keep K24
    have Fq18_1_c_24 := Fq18_1_c_22.keep K24 (ninS ne_b15_b22 nin0)
    have Fk20_c_24 := Fk20_c_22.keep K24 (ninS ne_b15_b22 nin0)
    have Va21_c_24 := Va21_c_22.keep K24 (ninS ne_xb_18_b22 nin0)
    have k24 : Go p.tables e below _ (T24.setTop (mkF m 95 #[.val (.int p0), .val (.int p1), .val (.int p2), .val (.int y7), .val (.int y8), .val (.int y9), .val (.int y10), .val (.ref b15), .unset] [(.ref b22)])) := st24
    have Fk25 : f7 Z T24.heap b22 (.int y7) := own_fcast (congrArg Value.int hb3) Fq24_2
    obtain ⟨cq26, kq26, q26a, q26b, q26c⟩ := isOf hZ rfl Fq24_0
    obtain ⟨_, _, ⟨T26, L26, kq26, n26⟩, -, X26, hSn26, hgr26, ⟨Lc26, hQ26, l26, y26, z26⟩, st26⟩ := X24.virtualBackS hx (y := (⟨"com/example/fieldveil/fieldveil/Placeholder", "toString", "()Ljava/lang/String;"⟩ : MethodName)) (z := (⟨"com/example/fieldveil/fieldveil/Placeholder", "toString", "()Ljava/lang/String;"⟩ : MethodName)) hown (mvT hZ (own_w hw 42 rfl)) (mvT hZ (own_w hw 43 rfl)) (notFace_of_selects (args := #[]) (mvT hZ (own_w hw 45 rfl))) (mvT hZ (own_w hw 45 rfl)) (mvT hZ (own_w hw 44 rfl)) (by decide) (own_backOfSC (s := s) (vm0 := T18.vm) (W := 0) (rm_phT l Z a0 hw [] b22 b15 y7 xb_18 xk_18 (own_nm y8 y9 y10) G1 fm T24.heap n0 Z24 Fq24_0 Fq24_1 Fk25 Fq18_0_c_24 Fq18_1_c_24 Fk20_c_24 S_CS_c_24 S_AD_c_24 S_HI_c_24 S_LO_c_24 S_SI_c_24 Va21_c_24 P5 rf (own_nml _ _ _ : (own_nm y8 y9 y10).length ≤ 2) (own_nmch hy5 hy6 : ∀ c ∈ (own_nm y8 y9 y10), own_ch c)) hZ (own_w hw 46 rfl) (own_w hw 28 rfl) (by decide) (by decide) (own_EL hw) CR24.1) q26a q26c (g := (mkF m 95 #[.val (.int p0), .val (.int p1), .val (.int p2), .val (.int y7), .val (.int y8), .val (.int y9), .val (.int y10), .val (.ref b15), .unset] [(.ref b22)])) rfl (by rw [hml]; rfl) (Steps.refl _) (argsL := []) (rest := []) (lenOf pd_34 rfl) rfl (by show 2 * 0 + _ ≤ _; exact Nat.le_of_eq rfl) (hb hby at_95) (fun _ _ => ⟨rfl, rfl, (by decide : 5 + 10 ≤ _), (by decide : 10 + 284 ≤ _)⟩)
    dsimp only [Pt.U, Pt.locs, Pt.cells, Pt.slots] at X26 l26 y26 z26 st26 hQ26 hSn26 hgr26
    subst l26 y26 z26
    obtain ⟨X26, hS26, hZ, hown⟩ := rebS (s := s) hS18 (n1 := T24.heap.size) (Nat.le_trans (Nat.le_trans (Nat.le_refl _) E22.1) K24.1) X26 hSn26 hgr26 hZ hown
    obtain ⟨xs_26, xb_26, xk_26, rfl, N26q, K26, Fq26_0, Fq26_1, Fq26_2, Fq26_3⟩ := hQ26
    have N26 := Fr.app N24 N26q
    have k26 : Go p.tables e below _ (T26.setTop (mkF m 98 #[.val (.int p0), .val (.int p1), .val (.int p2), .val (.int y7), .val (.int y8), .val (.int y9), .val (.int y10), .val (.ref b15), .unset] [(.ref xs_26)])) := fun _ ht => st26.trans ht
    have Z26 : n0 ≤ T26.heap.size := Nat.le_trans Z24 K26.1
    have S_CS_c_26 := own_sta_keep0 S_CS_c_24 K26
    have S_AD_c_26 := own_sta_keep0 S_AD_c_24 K26
    have S_HI_c_26 := own_sta_keep0 S_HI_c_24 K26
    have S_LO_c_26 := own_sta_keep0 S_LO_c_24 K26
    have k27 : Go p.tables e below _ (T26.setTop (mkF m 109 #[.val (.int p0), .val (.int p1), .val (.int p2), .val (.int y7), .val (.int y8), .val (.int y9), .val (.int y10), .val (.ref b15), .val (.ref xs_26)] [(.int y10), (.int y9), (.int y8), (.int y7), (.ref xs_26)])) := goT k26 fun t ht => (by
      refine XS.astore X26.here hx rfl (hb hby at_98) rfl rfl (l' := #[.val (.int p0), .val (.int p1), .val (.int p2), .val (.int y7), .val (.int y8), .val (.int y9), .val (.int y10), .val (.ref b15), .val (.ref xs_26)]) rfl ?_
      refine XS.aload X26.here hx rfl (hb hby at_100) rfl rfl ?_
      refine XS.iloadN X26.here hx rfl (hb hby at_102) rfl ?_
      refine XS.iload X26.here hx rfl (hb hby at_103) rfl ?_
      refine XS.iload X26.here hx rfl (hb hby at_105) rfl ?_
      refine XS.iload X26.here hx rfl (hb hby at_107) rfl ?_
      exact ht)
    have rq28 := Jvm.LawKit.callS X26 hx (y := (⟨"com/example/fieldveil/fieldveil/PlaceholderToStringPinLaw", "expected", "(ZICC)Ljava/lang/String;"⟩ : MethodName)) hown (mvT hZ (own_w hw 161 rfl)) (mvT hZ (own_w hw 162 rfl)) (mvT hZ (own_w hw 163 rfl)) (mvT hZ (own_w hw 164 rfl)) (by decide) (backOf (W := 1) (rm_exp l Z a0 hw [] y7 y8 y9 y10 G1 T26.heap n0 Z26 S_CS_c_26 S_AD_c_26 S_HI_c_26 S_LO_c_26 P5 hy5 hy6) hZ (own_w hw 164 rfl) (own_w hw 163 rfl) (by decide) (by decide)) (g := (mkF m 109 #[.val (.int p0), .val (.int p1), .val (.int p2), .val (.int y7), .val (.int y8), .val (.int y9), .val (.int y10), .val (.ref b15), .val (.ref xs_26)] [(.int y10), (.int y9), (.int y8), (.int y7), (.ref xs_26)])) rfl (by rw [hml]; rfl) (argsL := [(.int y7), (.int y8), (.int y9), (.int y10)]) (rest := [(.ref xs_26)]) (lenOf pd_37 rfl) rfl (by show 2 * 0 + _ ≤ _; exact Nat.le_of_eq rfl) (hb hby at_109) (fun _ _ => ⟨rfl, rfl, (by decide : 15 + 4 ≤ _), (by decide : 294 + 100 ≤ _)⟩)
    obtain ⟨_, T28, L28, X28, ⟨xs_28, xb_28, xk_28, rfl, N28q, K28, Fq28_0, Fq28_1, Fq28_2, Fq28_3⟩, st28⟩ := own_rS X26 rq28
    have N28 := Fr.app N26 N28q
    have Z28 : n0 ≤ T28.heap.size := Nat.le_trans Z26 K28.1
    have S_CS_c_28 := own_sta_keep0 S_CS_c_26 K28
    have Fq26_0_c_28 := Fq26_0.keep K28
    have Fq26_1_c_28 := Fq26_1.keep K28 nin0
    have Fq26_2_c_28 := Fq26_2.keep K28 nin0
    have Fq26_3_c_28 := Fq26_3.keep K28 nin0
    have k28 : Go p.tables e below _ (T28.setTop (mkF m 112 #[.val (.int p0), .val (.int p1), .val (.int p2), .val (.int y7), .val (.int y8), .val (.int y9), .val (.int y10), .val (.ref b15), .val (.ref xs_26)] [(.ref xs_28), (.ref xs_26)])) := st28
    obtain ⟨cq29, kq29, q29a, q29b, q29c⟩ := isOf hZ rfl Fq26_0_c_28
    have rq29 := X28.virtualBack hx (y := (⟨"java/lang/String", "equals", "(Ljava/lang/Object;)Z"⟩ : MethodName)) (z := (⟨"java/lang/String", "equals", "(Ljava/lang/Object;)Z"⟩ : MethodName)) hown (mvT hZ (own_w hw 183 rfl)) (mvT hZ (own_w hw 184 rfl)) (notFace_of_selects (args := #[]) (mvT hZ (own_w hw 186 rfl))) (mvT hZ (own_w hw 186 rfl)) (mvT hZ (own_w hw 185 rfl)) (by decide) (backOf (W := 0) (rm_eqS l Z a0 hw [] xs_26 xs_28 xb_26 xk_26 xb_28 xk_28 (own_x y7 (own_nm y8 y9 y10)) G1 T28.heap n0 Z28 Fq26_0_c_28 Fq26_1_c_28 Fq26_2_c_28 Fq28_0 Fq28_1 Fq28_2 S_CS_c_28 Fq26_3_c_28 Fq28_3 P5 ((own_xlen (own_nml _ _ _)).2 : (own_x y7 (own_nm y8 y9 y10)).length ≤ 24)) hZ (own_w hw 187 rfl) (own_w hw 2 rfl) (by decide) (by decide)) q29a q29c (g := (mkF m 112 #[.val (.int p0), .val (.int p1), .val (.int p2), .val (.int y7), .val (.int y8), .val (.int y9), .val (.int y10), .val (.ref b15), .val (.ref xs_26)] [(.ref xs_28), (.ref xs_26)])) rfl (by rw [hml]; rfl) (Steps.refl _) (argsL := [(.ref xs_28)]) (rest := []) (lenOf pd_38 rfl) rfl (by show 2 * 0 + _ ≤ _; exact Nat.le_of_eq rfl) (hb hby at_112) (fun _ _ => ⟨rfl, rfl, (by decide : 19 + 0 ≤ _), (by decide : 394 + 0 ≤ _)⟩)
    obtain ⟨_, T29, L29, X29, ⟨rfl, N29q, eq29⟩, st29⟩ := own_r X28 rq29
    have N29 := Fr.app N28 N29q
    have k29 : Go p.tables e below _ (T29.setTop (mkF m 115 #[.val (.int p0), .val (.int p1), .val (.int p2), .val (.int y7), .val (.int y8), .val (.int y9), .val (.int y10), .val (.ref b15), .val (.ref xs_26)] [(.int (1 : Int32))])) := st29
    obtain ⟨fs, hr, hrun, hended, hW⟩ := X29.leaveW (s := s) hS26 (by rw [eq29]; exact (Nat.le_trans (Nat.le_refl _) K28.1)) (v := some (.int (1 : Int32))) (fun h => by rw [Bd.returns] at h; cases h)
    refine ⟨_, _, pre0 _ ((goT k1 (goT k14 (goT k16 (goT k17 (goT k19 (goT k23 (goT k24 (goT k27 (goT k28 k29))))))))) _ (retN X29 hx (t := .boolean) Bd.returns (by simp) (hb hby at_115) hr)), hrun, hended, _, _, rfl, ?_, hW.1, hW.2.1, hW.2.2.1, hW.2.2.2.mono (by decide) (by decide)⟩
    show Q_law Z p0 p1 p2 G1 fm h0 n0 _ T29.heap _
    rw [eq29]
    exact ⟨rfl, N29⟩
  · have k30 : Go p.tables e below _ (s₁.setTop (mkF m 50 #[.val (.int p0), .val (.int p1), .val (.int p2), .val (.int y7), .val (.int y8), .val (.int y9), .val (.int y10), .unset, .unset] [(.int (1 : Int32)), (.int y8)])) := goT k12 fun t ht => (by
      refine XS.ifYes X0.here hx rfl (pc0 := 29) (pc' := 47) rfl (hb hby at_29) rfl ((if0 _ _).trans (feq hc13).2) (by decide) (by decide) ?_
      refine XS.iload X0.here hx rfl (hb hby at_47) rfl ?_
      refine XS.iconst X0.here hx rfl (hb hby at_49) ?_
      exact ht)
    by_cases hc31 : y8 = (1 : Int32)
    · have k32 : Go p.tables e below _ (s₁.setTop (mkF m 55 #[.val (.int p0), .val (.int p1), .val (.int p2), .val (.int y7), .val (.int y8), .val (.int y9), .val (.int y10), .unset, .unset] [(.int y9)])) := goT k30 fun t ht => (by
        refine XS.icmpNo X0.here hx rfl (hb hby at_50) rfl (teq hc31).2 ?_
        refine XS.iload X0.here hx rfl (hb hby at_53) rfl ?_
        exact ht)
      have rq33 := Jvm.LawKit.callS X0 hx (y := (⟨"java/lang/String", "valueOf", "(C)Ljava/lang/String;"⟩ : MethodName)) hown (mvT hZ (own_w hw 0 rfl)) (mvT hZ (own_w hw 1 rfl)) (mvT hZ (own_w hw 2 rfl)) (mvT hZ (own_w hw 3 rfl)) (by decide) (backOf (W := 0) (rm_vOf l Z a0 hw [] y9 G1 h0 n0 Z0 S_CS S_AD S_HI S_LO P5) hZ (own_w hw 3 rfl) (own_w hw 2 rfl) (by decide) (by decide)) (g := (mkF m 55 #[.val (.int p0), .val (.int p1), .val (.int p2), .val (.int y7), .val (.int y8), .val (.int y9), .val (.int y10), .unset, .unset] [(.int y9)])) rfl (by rw [hml]; rfl) (argsL := [(.int y9)]) (rest := []) (lenOf pd_39 rfl) rfl (by show 2 * 0 + _ ≤ _; exact Nat.le_of_eq rfl) (hb hby at_55) (fun _ _ => ⟨rfl, e0, (by decide : 0 + 2 ≤ _), (by decide : 0 + 6 ≤ _)⟩)
      obtain ⟨_, T33, L33, X33, ⟨xs_33, xb_33, xk_33, rfl, N33q, K33, Fq33_0, Fq33_1, Fq33_2, Fq33_3⟩, st33⟩ := own_rS X0 rq33
      have N33 := Fr.app N0 N33q
      have Z33 : n0 ≤ T33.heap.size := Nat.le_trans Z0 K33.1
      have CR33 : CHr Z own_ELs s.vm h0 s.vm T33.heap := CR0.trans (CHr.keep K33 all0 CR0.1)
      have S_CS_c_33 := own_sta_keep0 S_CS K33
      have S_AD_c_33 := own_sta_keep0 S_AD K33
      have S_HI_c_33 := own_sta_keep0 S_HI K33
      have S_LO_c_33 := own_sta_keep0 S_LO K33
      have S_SI_c_33 := own_sta_keep0 S_SI K33
      have k34 : Go p.tables e below _ (T33.setTop (mkF m 85 #[.val (.int p0), .val (.int p1), .val (.int p2), .val (.int y7), .val (.int y8), .val (.int y9), .val (.int y10), .val (.ref xs_33), .unset] [])) := fun t ht => st33 t (by
        refine XS.astore X33.here hx rfl (hb hby at_58) rfl rfl (l' := #[.val (.int p0), .val (.int p1), .val (.int p2), .val (.int y7), .val (.int y8), .val (.int y9), .val (.int y10), .val (.ref xs_33), .unset]) rfl ?_
        refine XS.goto X33.here hx rfl (pc0 := 60) (pc' := 85) rfl (hb hby at_60) (by decide) (by decide) ?_
        exact ht)
      have Fk35 : f0 Z T33.heap xs_33 (.int (own_k (own_nm y8 y9 y10))) := own_fcast (by rw [own_nm1 hc13 hc31]) Fq33_2
      have Va36 : own_A Z T33.heap xb_33 xk_33 .byte (Int32.ofNat (own_n (own_nm y8 y9 y10))) (own_s (own_nm y8 y9 y10)) := own_acast (by rw [own_nm1 hc13 hc31]) (by rw [own_nm1 hc13 hc31]) Fq33_3
      obtain ⟨T37, h37, X37, e37, E37, A37, D37, -, st37⟩ := newO X33 hx hZ hown (own_w hw 26 rfl) (own_w hw 27 rfl) (own_w hw 28 rfl) rfl (g := (mkF m 85 #[.val (.int p0), .val (.int p1), .val (.int p2), .val (.int y7), .val (.int y8), .val (.int y9), .val (.int y10), .val (.ref xs_33), .unset] [])) rfl (hb hby at_85) (by decide) (by decide)
      obtain ⟨b37, g37⟩ : ∃ z, z = T33.heap.size := ⟨_, rfl⟩
      rw [← g37] at A37 D37 st37
      have g_b37 : n0 ≤ b37 := Nat.le_trans Z33 (Nat.le_of_eq g37.symm)
      have ne_xs_33_b37 : xs_33 ≠ b37 := Nat.ne_of_lt (Nat.lt_of_lt_of_le Fq33_0.lt (Nat.le_of_eq g37.symm))
      have ne_xb_33_b37 : xb_33 ≠ b37 := Nat.ne_of_lt (Nat.lt_of_lt_of_le Va36.lt (Nat.le_of_eq g37.symm))
      have Z37 : n0 ≤ h37.size := Nat.le_trans Z33 E37.1
      have Sf37_b37 : Safe Z own_ELs s.vm h37 b37 := Safe.ext E37 CR33.1 (Safe.new (Nat.le_of_eq g37.symm))
      have CR37 : CHr Z own_ELs s.vm h0 s.vm h37 := CR33.trans (CHr.ext E37 CR33.1)
      have S_CS_c_37 := S_CS_c_33.ext E37
      have S_AD_c_37 := S_AD_c_33.ext E37
      have S_HI_c_37 := S_HI_c_33.ext E37
      have S_LO_c_37 := S_LO_c_33.ext E37
      have S_SI_c_37 := S_SI_c_33.ext E37
      have Fq33_0_c_37 := Fq33_0.ext E37
      have Fq33_1_c_37 := Fq33_1.ext E37
      have Fk35_c_37 := Fk35.ext E37
      have Va36_c_37 := Va36.ext E37
      have F_name_b37 : f6 Z h37 b37 .null := D37 (Or.inr (own_w hw 39 rfl)) (ty := (.object "java/lang/String")) (by decide)
      have F_json_b37 : f7 Z h37 b37 (.int (0 : Int32)) := D37 (Or.inr (own_w hw 41 rfl)) (ty := .boolean) (by decide)
      have k38 : Go p.tables e below _ (T37.setTop (mkF m 92 #[.val (.int p0), .val (.int p1), .val (.int p2), .val (.int y7), .val (.int y8), .val (.int y9), .val (.int y10), .val (.ref xs_33), .unset] [(.int y7), (.ref xs_33), (.ref b37), (.ref b37)])) := fun t ht => st37 t (by
        refine XS.dup X37.here hx rfl (hb hby at_88) rfl rfl ?_
        refine XS.aload X37.here hx rfl (hb hby at_89) rfl rfl ?_
        refine XS.iloadN X37.here hx rfl (hb hby at_91) rfl ?_
        exact ht)
      have rq39 := X37.specialBack hx (y := (⟨"com/example/fieldveil/fieldveil/Placeholder", "<init>", "(Ljava/lang/String;Z)V"⟩ : MethodName)) rfl hown (mvT hZ (own_w hw 29 rfl)) (mvT hZ (own_w hw 30 rfl)) (mvT hZ (own_w hw 31 rfl)) (by decide) (backOf (W := 1) (rm_phI l Z a0 hw [] b37 xs_33 y7 h37 n0 Z37 F_name_b37 F_json_b37 A37 g_b37) hZ (own_w hw 31 rfl) (own_w hw 28 rfl) (by decide) (by decide)) (g := (mkF m 92 #[.val (.int p0), .val (.int p1), .val (.int p2), .val (.int y7), .val (.int y8), .val (.int y9), .val (.int y10), .val (.ref xs_33), .unset] [(.int y7), (.ref xs_33), (.ref b37), (.ref b37)])) rfl (by rw [hml]; rfl) (Steps.refl _) (a := b37) (argsL := [(.ref xs_33), (.int y7)]) (rest := [(.ref b37)]) (lenOf pd_36 rfl) rfl (by show 2 * 0 + _ ≤ _; exact Nat.le_of_eq rfl) (hb hby at_92) (fun _ _ => ⟨rfl, e37, (by decide : 3 + 0 ≤ _), (by decide : 8 + 0 ≤ _)⟩)
      obtain ⟨_, T39, L39, X39, ⟨rfl, N39q, K39, Fq39_0, Fq39_1, Fq39_2⟩, st39⟩ := own_r X37 rq39
      have N39 := Fr.app N33 N39q
      have Z39 : n0 ≤ T39.heap.size := Nat.le_trans Z37 K39.1
      have CR39 : CHr Z own_ELs s.vm h0 s.vm T39.heap := CR37.trans (CHr.keep K39 (allS Sf37_b37 all0) CR37.1)
      have S_CS_c_39 := own_sta_keep S_CS_c_37 A37 K39
      have S_AD_c_39 := own_sta_keep S_AD_c_37 A37 K39
      have S_HI_c_39 := own_sta_keep S_HI_c_37 A37 K39
      have S_LO_c_39 := own_sta_keep S_LO_c_37 A37 K39
      have S_SI_c_39 := own_sta_keep S_SI_c_37 A37 K39
      have Fq33_0_c_39 := Fq33_0_c_37.keep K39
      have Fq33_1_c_39 := Fq33_1_c_37.keep K39 (ninS ne_xs_33_b37 nin0)
      have Fk35_c_39 := Fk35_c_37.keep K39 (ninS ne_xs_33_b37 nin0)
      have Va36_c_39 := Va36_c_37.keep K39 (ninS ne_xb_33_b37 nin0)
      have k39 : Go p.tables e below _ (T39.setTop (mkF m 95 #[.val (.int p0), .val (.int p1), .val (.int p2), .val (.int y7), .val (.int y8), .val (.int y9), .val (.int y10), .val (.ref xs_33), .unset] [(.ref b37)])) := st39
      have Fk40 : f7 Z T39.heap b37 (.int y7) := own_fcast (congrArg Value.int hb3) Fq39_2
      have hS0 : s.Since s.vm 0 := (State.WarmedH.refl s).since 0
      obtain ⟨cq41, kq41, q41a, q41b, q41c⟩ := isOf hZ rfl Fq39_0
      obtain ⟨_, _, ⟨T41, L41, kq41, n41⟩, -, X41, hSn41, hgr41, ⟨Lc41, hQ41, l41, y41, z41⟩, st41⟩ := X39.virtualBackS hx (y := (⟨"com/example/fieldveil/fieldveil/Placeholder", "toString", "()Ljava/lang/String;"⟩ : MethodName)) (z := (⟨"com/example/fieldveil/fieldveil/Placeholder", "toString", "()Ljava/lang/String;"⟩ : MethodName)) hown (mvT hZ (own_w hw 42 rfl)) (mvT hZ (own_w hw 43 rfl)) (notFace_of_selects (args := #[]) (mvT hZ (own_w hw 45 rfl))) (mvT hZ (own_w hw 45 rfl)) (mvT hZ (own_w hw 44 rfl)) (by decide) (own_backOfSC (s := s) (vm0 := s.vm) (W := 0) (rm_phT l Z a0 hw [] b37 xs_33 y7 xb_33 xk_33 (own_nm y8 y9 y10) G1 fm T39.heap n0 Z39 Fq39_0 Fq39_1 Fk40 Fq33_0_c_39 Fq33_1_c_39 Fk35_c_39 S_CS_c_39 S_AD_c_39 S_HI_c_39 S_LO_c_39 S_SI_c_39 Va36_c_39 P5 rf (own_nml _ _ _ : (own_nm y8 y9 y10).length ≤ 2) (own_nmch hy5 hy6 : ∀ c ∈ (own_nm y8 y9 y10), own_ch c)) hZ (own_w hw 46 rfl) (own_w hw 28 rfl) (by decide) (by decide) (own_EL hw) CR39.1) q41a q41c (g := (mkF m 95 #[.val (.int p0), .val (.int p1), .val (.int p2), .val (.int y7), .val (.int y8), .val (.int y9), .val (.int y10), .val (.ref xs_33), .unset] [(.ref b37)])) rfl (by rw [hml]; rfl) (Steps.refl _) (argsL := []) (rest := []) (lenOf pd_34 rfl) rfl (by show 2 * 0 + _ ≤ _; exact Nat.le_of_eq rfl) (hb hby at_95) (fun _ _ => ⟨rfl, rfl, (by decide : 3 + 10 ≤ _), (by decide : 8 + 284 ≤ _)⟩)
      dsimp only [Pt.U, Pt.locs, Pt.cells, Pt.slots] at X41 l41 y41 z41 st41 hQ41 hSn41 hgr41
      subst l41 y41 z41
      obtain ⟨X41, hS41, hZ, hown⟩ := rebS (s := s) (vm0 := s.vm) hS0 (Nat.zero_le _) X41 hSn41 (Nat.zero_le _) hZ hown
      obtain ⟨xs_41, xb_41, xk_41, rfl, N41q, K41, Fq41_0, Fq41_1, Fq41_2, Fq41_3⟩ := hQ41
      have N41 := Fr.app N39 N41q
      have k41 : Go p.tables e below _ (T41.setTop (mkF m 98 #[.val (.int p0), .val (.int p1), .val (.int p2), .val (.int y7), .val (.int y8), .val (.int y9), .val (.int y10), .val (.ref xs_33), .unset] [(.ref xs_41)])) := fun _ ht => st41.trans ht
      have Z41 : n0 ≤ T41.heap.size := Nat.le_trans Z39 K41.1
      have S_CS_c_41 := own_sta_keep0 S_CS_c_39 K41
      have S_AD_c_41 := own_sta_keep0 S_AD_c_39 K41
      have S_HI_c_41 := own_sta_keep0 S_HI_c_39 K41
      have S_LO_c_41 := own_sta_keep0 S_LO_c_39 K41
      have k42 : Go p.tables e below _ (T41.setTop (mkF m 109 #[.val (.int p0), .val (.int p1), .val (.int p2), .val (.int y7), .val (.int y8), .val (.int y9), .val (.int y10), .val (.ref xs_33), .val (.ref xs_41)] [(.int y10), (.int y9), (.int y8), (.int y7), (.ref xs_41)])) := goT k41 fun t ht => (by
        refine XS.astore X41.here hx rfl (hb hby at_98) rfl rfl (l' := #[.val (.int p0), .val (.int p1), .val (.int p2), .val (.int y7), .val (.int y8), .val (.int y9), .val (.int y10), .val (.ref xs_33), .val (.ref xs_41)]) rfl ?_
        refine XS.aload X41.here hx rfl (hb hby at_100) rfl rfl ?_
        refine XS.iloadN X41.here hx rfl (hb hby at_102) rfl ?_
        refine XS.iload X41.here hx rfl (hb hby at_103) rfl ?_
        refine XS.iload X41.here hx rfl (hb hby at_105) rfl ?_
        refine XS.iload X41.here hx rfl (hb hby at_107) rfl ?_
        exact ht)
      have rq43 := Jvm.LawKit.callS X41 hx (y := (⟨"com/example/fieldveil/fieldveil/PlaceholderToStringPinLaw", "expected", "(ZICC)Ljava/lang/String;"⟩ : MethodName)) hown (mvT hZ (own_w hw 161 rfl)) (mvT hZ (own_w hw 162 rfl)) (mvT hZ (own_w hw 163 rfl)) (mvT hZ (own_w hw 164 rfl)) (by decide) (backOf (W := 1) (rm_exp l Z a0 hw [] y7 y8 y9 y10 G1 T41.heap n0 Z41 S_CS_c_41 S_AD_c_41 S_HI_c_41 S_LO_c_41 P5 hy5 hy6) hZ (own_w hw 164 rfl) (own_w hw 163 rfl) (by decide) (by decide)) (g := (mkF m 109 #[.val (.int p0), .val (.int p1), .val (.int p2), .val (.int y7), .val (.int y8), .val (.int y9), .val (.int y10), .val (.ref xs_33), .val (.ref xs_41)] [(.int y10), (.int y9), (.int y8), (.int y7), (.ref xs_41)])) rfl (by rw [hml]; rfl) (argsL := [(.int y7), (.int y8), (.int y9), (.int y10)]) (rest := [(.ref xs_41)]) (lenOf pd_37 rfl) rfl (by show 2 * 0 + _ ≤ _; exact Nat.le_of_eq rfl) (hb hby at_109) (fun _ _ => ⟨rfl, rfl, (by decide : 13 + 4 ≤ _), (by decide : 292 + 100 ≤ _)⟩)
      obtain ⟨_, T43, L43, X43, ⟨xs_43, xb_43, xk_43, rfl, N43q, K43, Fq43_0, Fq43_1, Fq43_2, Fq43_3⟩, st43⟩ := own_rS X41 rq43
      have N43 := Fr.app N41 N43q
      have Z43 : n0 ≤ T43.heap.size := Nat.le_trans Z41 K43.1
      have S_CS_c_43 := own_sta_keep0 S_CS_c_41 K43
      have Fq41_0_c_43 := Fq41_0.keep K43
      have Fq41_1_c_43 := Fq41_1.keep K43 nin0
      have Fq41_2_c_43 := Fq41_2.keep K43 nin0
      have Fq41_3_c_43 := Fq41_3.keep K43 nin0
      have k43 : Go p.tables e below _ (T43.setTop (mkF m 112 #[.val (.int p0), .val (.int p1), .val (.int p2), .val (.int y7), .val (.int y8), .val (.int y9), .val (.int y10), .val (.ref xs_33), .val (.ref xs_41)] [(.ref xs_43), (.ref xs_41)])) := st43
      obtain ⟨cq44, kq44, q44a, q44b, q44c⟩ := isOf hZ rfl Fq41_0_c_43
      have rq44 := X43.virtualBack hx (y := (⟨"java/lang/String", "equals", "(Ljava/lang/Object;)Z"⟩ : MethodName)) (z := (⟨"java/lang/String", "equals", "(Ljava/lang/Object;)Z"⟩ : MethodName)) hown (mvT hZ (own_w hw 183 rfl)) (mvT hZ (own_w hw 184 rfl)) (notFace_of_selects (args := #[]) (mvT hZ (own_w hw 186 rfl))) (mvT hZ (own_w hw 186 rfl)) (mvT hZ (own_w hw 185 rfl)) (by decide) (backOf (W := 0) (rm_eqS l Z a0 hw [] xs_41 xs_43 xb_41 xk_41 xb_43 xk_43 (own_x y7 (own_nm y8 y9 y10)) G1 T43.heap n0 Z43 Fq41_0_c_43 Fq41_1_c_43 Fq41_2_c_43 Fq43_0 Fq43_1 Fq43_2 S_CS_c_43 Fq41_3_c_43 Fq43_3 P5 ((own_xlen (own_nml _ _ _)).2 : (own_x y7 (own_nm y8 y9 y10)).length ≤ 24)) hZ (own_w hw 187 rfl) (own_w hw 2 rfl) (by decide) (by decide)) q44a q44c (g := (mkF m 112 #[.val (.int p0), .val (.int p1), .val (.int p2), .val (.int y7), .val (.int y8), .val (.int y9), .val (.int y10), .val (.ref xs_33), .val (.ref xs_41)] [(.ref xs_43), (.ref xs_41)])) rfl (by rw [hml]; rfl) (Steps.refl _) (argsL := [(.ref xs_43)]) (rest := []) (lenOf pd_38 rfl) rfl (by show 2 * 0 + _ ≤ _; exact Nat.le_of_eq rfl) (hb hby at_112) (fun _ _ => ⟨rfl, rfl, (by decide : 17 + 0 ≤ _), (by decide : 392 + 0 ≤ _)⟩)
      obtain ⟨_, T44, L44, X44, ⟨rfl, N44q, eq44⟩, st44⟩ := own_r X43 rq44
      have N44 := Fr.app N43 N44q
      have k44 : Go p.tables e below _ (T44.setTop (mkF m 115 #[.val (.int p0), .val (.int p1), .val (.int p2), .val (.int y7), .val (.int y8), .val (.int y9), .val (.int y10), .val (.ref xs_33), .val (.ref xs_41)] [(.int (1 : Int32))])) := st44
      obtain ⟨fs, hr, hrun, hended, hW⟩ := X44.leaveW (s := s) hS41 (by rw [eq44]; exact (Nat.le_trans (Nat.le_refl _) K43.1)) (v := some (.int (1 : Int32))) (fun h => by rw [Bd.returns] at h; cases h)
      refine ⟨_, _, pre0 _ ((goT k1 (goT k32 (goT k34 (goT k38 (goT k39 (goT k42 (goT k43 k44))))))) _ (retN X44 hx (t := .boolean) Bd.returns (by simp) (hb hby at_115) hr)), hrun, hended, _, _, rfl, ?_, hW.1, hW.2.1, hW.2.2.1, hW.2.2.2.mono (by decide) (by decide)⟩
      show Q_law Z p0 p1 p2 G1 fm h0 n0 _ T44.heap _
      rw [eq44]
      exact ⟨rfl, N44⟩
    · have k45 : Go p.tables e below _ (s₁.setTop (mkF m 63 #[.val (.int p0), .val (.int p1), .val (.int p2), .val (.int y7), .val (.int y8), .val (.int y9), .val (.int y10), .unset, .unset] [])) := goT k30 fun t ht => (by
        refine XS.icmpYes X0.here hx rfl (pc0 := 50) (pc' := 63) rfl (hb hby at_50) rfl (feq hc31).2 (by decide) (by decide) ?_
        exact ht)
      obtain ⟨T46, h46, X46, e46, E46, A46, D46, -, st46⟩ := newO X0 hx hZ hown (own_w hw 165 rfl) (own_w hw 10 rfl) (own_w hw 2 rfl) e0 (g := (mkF m 63 #[.val (.int p0), .val (.int p1), .val (.int p2), .val (.int y7), .val (.int y8), .val (.int y9), .val (.int y10), .unset, .unset] [])) rfl (hb hby at_63) (by decide) (by decide)
      obtain ⟨b46, g46⟩ : ∃ z, z = h0.size := ⟨_, rfl⟩
      rw [← g46] at A46 D46 st46
      have g_b46 : n0 ≤ b46 := Nat.le_trans Z0 (Nat.le_of_eq g46.symm)
      have Z46 : n0 ≤ h46.size := Nat.le_trans Z0 E46.1
      have Sf46_b46 : Safe Z own_ELs s.vm h46 b46 := Safe.ext E46 CR0.1 (Safe.new (Nat.le_of_eq g46.symm))
      have CR46 : CHr Z own_ELs s.vm h0 s.vm h46 := CR0.trans (CHr.ext E46 CR0.1)
      have S_CS_c_46 := S_CS.ext E46
      have S_AD_c_46 := S_AD.ext E46
      have S_HI_c_46 := S_HI.ext E46
      have S_LO_c_46 := S_LO.ext E46
      have S_SI_c_46 := S_SI.ext E46
      have F_value_b46 : f1 Z h46 b46 .null := D46 (Or.inr (own_w hw 23 rfl)) (ty := (.array .byte)) (by decide)
      have F_coder_b46 : f0 Z h46 b46 (.int (0 : Int32)) := D46 (Or.inr (own_w hw 25 rfl)) (ty := .byte) (by decide)
      have k47 : Go p.tables e below _ (T46.setTop (mkF m 68 #[.val (.int p0), .val (.int p1), .val (.int p2), .val (.int y7), .val (.int y8), .val (.int y9), .val (.int y10), .unset, .unset] [(.int (2 : Int32)), (.ref b46), (.ref b46)])) := fun t ht => st46 t (by
        refine XS.dup X46.here hx rfl (hb hby at_66) rfl rfl ?_
        refine XS.iconst X46.here hx rfl (hb hby at_67) ?_
        exact ht)
      obtain ⟨T48, h48, kc48, X48, e48, E48, A48, st48⟩ := newP X46 hx hZ (own_w hw 166 rfl) e46 (g := (mkF m 68 #[.val (.int p0), .val (.int p1), .val (.int p2), .val (.int y7), .val (.int y8), .val (.int y9), .val (.int y10), .unset, .unset] [(.int (2 : Int32)), (.ref b46), (.ref b46)])) rfl (hb hby at_68) rfl (by decide) (cap := 2) (by decide) (by decide) (by decide) (by decide)
      obtain ⟨b48, g48⟩ : ∃ z, z = h46.size := ⟨_, rfl⟩
      rw [← g48] at A48 st48
      have g_b48 : n0 ≤ b48 := Nat.le_trans Z46 (Nat.le_of_eq g48.symm)
      have ne_b46_b48 : b46 ≠ b48 := Nat.ne_of_lt (Nat.lt_of_lt_of_le A46.lt (Nat.le_of_eq g48.symm))
      have Z48 : n0 ≤ h48.size := Nat.le_trans Z46 E48.1
      have Sf48_b48 : Safe Z own_ELs s.vm h48 b48 := Safe.ext E48 CR46.1 (Safe.new (Nat.le_of_eq g48.symm))
      have Sg48_b46 : Safe Z own_ELs s.vm h48 b46 := Safe.ext E48 CR46.1 Sf46_b46
      have CR48 : CHr Z own_ELs s.vm h0 s.vm h48 := CR46.trans (CHr.ext E48 CR46.1)
      have S_CS_c_48 := S_CS_c_46.ext E48
      have S_AD_c_48 := S_AD_c_46.ext E48
      have S_HI_c_48 := S_HI_c_46.ext E48
      have S_LO_c_48 := S_LO_c_46.ext E48
      have S_SI_c_48 := S_SI_c_46.ext E48
      have A46_c_48 := A46.ext E48
      have F_value_b46_c_48 := F_value_b46.ext E48
      have F_c_48 := F_coder_b46.ext E48
      have V_b48 : Arv Z h48 b48 kc48 .char (2 : Int32) [(.int (0 : Int32)), (.int (0 : Int32))] (.int (0 : Int32)) := (Arv.new A48 (by decide)).pad (pad_rep [] (.int (0 : Int32)) 2)
      have k49 : Go p.tables e below _ (T48.setTop (mkF m 74 #[.val (.int p0), .val (.int p1), .val (.int p2), .val (.int y7), .val (.int y8), .val (.int y9), .val (.int y10), .unset, .unset] [(.int y9), (.int (0 : Int32)), (.ref b48), (.ref b48), (.ref b46), (.ref b46)])) := fun t ht => st48 t (by
        refine XS.dup X48.here hx rfl (hb hby at_70) rfl rfl ?_
        refine XS.iconst X48.here hx rfl (hb hby at_71) ?_
        refine XS.iload X48.here hx rfl (hb hby at_72) rfl ?_
        exact ht)
      obtain ⟨cl50, Ar50, q50, S50, M50, H50, G50⟩ := id V_b48
      have hin50 : ¬ ((0 : Int32) < 0 ∨ cl50.slots.size ≤ ((0 : Int32)).toNatClampNeg) := inb_of S50 ⟨by decide, by decide⟩
      obtain ⟨T50, h50, X50, e50, W50, st50⟩ := stC X48 hx hZ e48 Ar50 (j := (0 : Int32)) hin50 (g := (mkF m 74 #[.val (.int p0), .val (.int p1), .val (.int p2), .val (.int y7), .val (.int y8), .val (.int y9), .val (.int y10), .unset, .unset] [(.int y9), (.int (0 : Int32)), (.ref b48), (.ref b48), (.ref b46), (.ref b46)])) rfl rfl (hb hby at_74)
      have V50_b48 : Arv Z h50 b48 kc48 .char (2 : Int32) [(.int (nar .char y9)), (.int (0 : Int32))] (.int (0 : Int32)) := Arv.set Ar50 q50 S50 M50 H50 G50 (fits_nar_char _) W50 0 rfl (Nat.le_of_ble_eq_true rfl)
      have Z50 : n0 ≤ h50.size := Nat.le_trans Z48 (Keep.of_wr W50).1
      have Sg50_b46 : Safe Z own_ELs s.vm h50 b46 := Safe.wr W50 Sf48_b48 CR48.1 Sg48_b46
      have Sg50_b48 : Safe Z own_ELs s.vm h50 b48 := Safe.wr W50 Sf48_b48 CR48.1 Sf48_b48
      have CR50 : CHr Z own_ELs s.vm h0 s.vm h50 := CR48.trans (CHr.wr W50 Sf48_b48 CR48.1)
      have S_CS_c_50 := S_CS_c_48.wr W50
      have S_AD_c_50 := S_AD_c_48.wr W50
      have S_HI_c_50 := S_HI_c_48.wr W50
      have S_LO_c_50 := S_LO_c_48.wr W50
      have S_SI_c_50 := S_SI_c_48.wr W50
      have A46_c_50 := A46_c_48.wr W50
      have F_value_b46_c_50 := F_value_b46_c_48.other W50 (Or.inl ne_b46_b48)
      have F_c_50 := F_c_48.other W50 (Or.inl ne_b46_b48)
      have N50 := Fr.snoc X50 N0 g_b48
      have k51 : Go p.tables e below _ (T50.setTop (mkF m 79 #[.val (.int p0), .val (.int p1), .val (.int p2), .val (.int y7), .val (.int y8), .val (.int y9), .val (.int y10), .unset, .unset] [(.int y10), (.int (1 : Int32)), (.ref b48), (.ref b48), (.ref b46), (.ref b46)])) := fun t ht => st50 t (by
        refine XS.dup X50.here hx rfl (hb hby at_75) rfl rfl ?_
        refine XS.iconst X50.here hx rfl (hb hby at_76) ?_
        refine XS.iload X50.here hx rfl (hb hby at_77) rfl ?_
        exact ht)
      obtain ⟨cl52, Ar52, q52, S52, M52, H52, G52⟩ := id V50_b48
      have hin52 : ¬ ((1 : Int32) < 0 ∨ cl52.slots.size ≤ ((1 : Int32)).toNatClampNeg) := inb_of S52 ⟨by decide, by decide⟩
      obtain ⟨T52, h52, X52, e52, W52, st52⟩ := stC X50 hx hZ e50 Ar52 (j := (1 : Int32)) hin52 (g := (mkF m 79 #[.val (.int p0), .val (.int p1), .val (.int p2), .val (.int y7), .val (.int y8), .val (.int y9), .val (.int y10), .unset, .unset] [(.int y10), (.int (1 : Int32)), (.ref b48), (.ref b48), (.ref b46), (.ref b46)])) rfl rfl (hb hby at_79)
      have V52_b48 : Arv Z h52 b48 kc48 .char (2 : Int32) [(.int (nar .char y9)), (.int (nar .char y10))] (.int (0 : Int32)) := Arv.set Ar52 q52 S52 M52 H52 G52 (fits_nar_char _) W52 1 rfl (Nat.le_of_ble_eq_true rfl)
      have Z52 : n0 ≤ h52.size := Nat.le_trans Z50 (Keep.of_wr W52).1
      have Sg52_b46 : Safe Z own_ELs s.vm h52 b46 := Safe.wr W52 Sg50_b48 CR50.1 Sg50_b46
      have CR52 : CHr Z own_ELs s.vm h0 s.vm h52 := CR50.trans (CHr.wr W52 Sg50_b48 CR50.1)
      have S_CS_c_52 := S_CS_c_50.wr W52
      have S_AD_c_52 := S_AD_c_50.wr W52
      have S_HI_c_52 := S_HI_c_50.wr W52
      have S_LO_c_52 := S_LO_c_50.wr W52
      have S_SI_c_52 := S_SI_c_50.wr W52
      have A46_c_52 := A46_c_50.wr W52
      have F_value_b46_c_52 := F_value_b46_c_50.other W52 (Or.inl ne_b46_b48)
      have F_c_52 := F_c_50.other W52 (Or.inl ne_b46_b48)
      have N52 := Fr.snoc X52 N50 g_b48
      have k52 : Go p.tables e below _ (T52.setTop (mkF m 80 #[.val (.int p0), .val (.int p1), .val (.int p2), .val (.int y7), .val (.int y8), .val (.int y9), .val (.int y10), .unset, .unset] [(.ref b48), (.ref b46), (.ref b46)])) := st52
      have Va53 : own_A Z h52 b48 kc48 .char (2 : Int32) (own_nm y8 y9 y10) := own_acast rfl (by rw [own_nm2 hc13 hc31, own_nch hy5, own_nch hy6]; rfl) V52_b48
      have rq54 := X52.specialBack hx (y := (⟨"java/lang/String", "<init>", "([C)V"⟩ : MethodName)) rfl hown (mvT hZ (own_w hw 167 rfl)) (mvT hZ (own_w hw 168 rfl)) (mvT hZ (own_w hw 169 rfl)) (by decide) (backOf (W := 1) (rm_iC1 l Z a0 hw [] b46 b48 2 kc48 (own_nm y8 y9 y10) G1 h52 n0 Z52 F_value_b46_c_52 F_c_52 A46_c_52 S_CS_c_52 S_AD_c_52 S_HI_c_52 S_LO_c_52 Va53 P5 g_b46 (by rw [own_nm2 hc13 hc31]; exact ⟨rfl, by decide, by decide⟩ : 2 = (own_nm y8 y9 y10).length ∧ 1 ≤ 2 ∧ 2 ≤ 24) (own_nmch hy5 hy6 : ∀ c ∈ (own_nm y8 y9 y10), own_ch c) ((Ne.symm ne_b46_b48) : b48 ≠ b46)) hZ (own_w hw 169 rfl) (own_w hw 2 rfl) (by decide) (by decide)) (g := (mkF m 80 #[.val (.int p0), .val (.int p1), .val (.int p2), .val (.int y7), .val (.int y8), .val (.int y9), .val (.int y10), .unset, .unset] [(.ref b48), (.ref b46), (.ref b46)])) rfl (by rw [hml]; rfl) (Steps.refl _) (a := b46) (argsL := [(.ref b48)]) (rest := [(.ref b46)]) (lenOf pd_35 rfl) rfl (by show 2 * 0 + _ ≤ _; exact Nat.le_of_eq rfl) (hb hby at_80) (fun _ _ => ⟨rfl, e52, (by decide : 2 + 2 ≤ _), (by decide : 6 + 72 ≤ _)⟩)
      obtain ⟨_, T54, L54, X54, ⟨xb_54, xk_54, rfl, N54q, K54, Fq54_0, Fq54_1, Fq54_2, Fq54_3⟩, st54⟩ := own_r X52 rq54
      have N54 := Fr.app N52 N54q
      have Z54 : n0 ≤ T54.heap.size := Nat.le_trans Z52 K54.1
      have CR54 : CHr Z own_ELs s.vm h0 s.vm T54.heap := CR52.trans (CHr.keep K54 (allS Sg52_b46 all0) CR52.1)
      have S_CS_c_54 := own_sta_keep S_CS_c_52 A46_c_52 K54
      have S_AD_c_54 := own_sta_keep S_AD_c_52 A46_c_52 K54
      have S_HI_c_54 := own_sta_keep S_HI_c_52 A46_c_52 K54
      have S_LO_c_54 := own_sta_keep S_LO_c_52 A46_c_52 K54
      have S_SI_c_54 := own_sta_keep S_SI_c_52 A46_c_52 K54
      have k55 : Go p.tables e below _ (T54.setTop (mkF m 85 #[.val (.int p0), .val (.int p1), .val (.int p2), .val (.int y7), .val (.int y8), .val (.int y9), .val (.int y10), .val (.ref b46), .unset] [])) := fun t ht => st54 t (by
        refine XS.astore X54.here hx rfl (hb hby at_83) rfl rfl (l' := #[.val (.int p0), .val (.int p1), .val (.int p2), .val (.int y7), .val (.int y8), .val (.int y9), .val (.int y10), .val (.ref b46), .unset]) rfl ?_
        exact ht)
      obtain ⟨T56, h56, X56, e56, E56, A56, D56, -, st56⟩ := newO X54 hx hZ hown (own_w hw 26 rfl) (own_w hw 27 rfl) (own_w hw 28 rfl) rfl (g := (mkF m 85 #[.val (.int p0), .val (.int p1), .val (.int p2), .val (.int y7), .val (.int y8), .val (.int y9), .val (.int y10), .val (.ref b46), .unset] [])) rfl (hb hby at_85) (by decide) (by decide)
      obtain ⟨b56, g56⟩ : ∃ z, z = T54.heap.size := ⟨_, rfl⟩
      rw [← g56] at A56 D56 st56
      have g_b56 : n0 ≤ b56 := Nat.le_trans Z54 (Nat.le_of_eq g56.symm)
      have ne_b46_b56 : b46 ≠ b56 := Nat.ne_of_lt (Nat.lt_of_lt_of_le Fq54_0.lt (Nat.le_of_eq g56.symm))
      have ne_xb_54_b56 : xb_54 ≠ b56 := Nat.ne_of_lt (Nat.lt_of_lt_of_le Fq54_3.lt (Nat.le_of_eq g56.symm))
      have Z56 : n0 ≤ h56.size := Nat.le_trans Z54 E56.1
      have Sf56_b56 : Safe Z own_ELs s.vm h56 b56 := Safe.ext E56 CR54.1 (Safe.new (Nat.le_of_eq g56.symm))
      have CR56 : CHr Z own_ELs s.vm h0 s.vm h56 := CR54.trans (CHr.ext E56 CR54.1)
      have S_CS_c_56 := S_CS_c_54.ext E56
      have S_AD_c_56 := S_AD_c_54.ext E56
      have S_HI_c_56 := S_HI_c_54.ext E56
      have S_LO_c_56 := S_LO_c_54.ext E56
      have S_SI_c_56 := S_SI_c_54.ext E56
      have Fq54_0_c_56 := Fq54_0.ext E56
      have Fq54_1_c_56 := Fq54_1.ext E56
      have Fq54_2_c_56 := Fq54_2.ext E56
      have Fq54_3_c_56 := Fq54_3.ext E56
      have F_name_b56 : f6 Z h56 b56 .null := D56 (Or.inr (own_w hw 39 rfl)) (ty := (.object "java/lang/String")) (by decide)
      have F_json_b56 : f7 Z h56 b56 (.int (0 : Int32)) := D56 (Or.inr (own_w hw 41 rfl)) (ty := .boolean) (by decide)
      have k57 : Go p.tables e below _ (T56.setTop (mkF m 92 #[.val (.int p0), .val (.int p1), .val (.int p2), .val (.int y7), .val (.int y8), .val (.int y9), .val (.int y10), .val (.ref b46), .unset] [(.int y7), (.ref b46), (.ref b56), (.ref b56)])) := fun t ht => st56 t (by
        refine XS.dup X56.here hx rfl (hb hby at_88) rfl rfl ?_
        refine XS.aload X56.here hx rfl (hb hby at_89) rfl rfl ?_
        refine XS.iloadN X56.here hx rfl (hb hby at_91) rfl ?_
        exact ht)
      have rq58 := X56.specialBack hx (y := (⟨"com/example/fieldveil/fieldveil/Placeholder", "<init>", "(Ljava/lang/String;Z)V"⟩ : MethodName)) rfl hown (mvT hZ (own_w hw 29 rfl)) (mvT hZ (own_w hw 30 rfl)) (mvT hZ (own_w hw 31 rfl)) (by decide) (backOf (W := 1) (rm_phI l Z a0 hw [] b56 b46 y7 h56 n0 Z56 F_name_b56 F_json_b56 A56 g_b56) hZ (own_w hw 31 rfl) (own_w hw 28 rfl) (by decide) (by decide)) (g := (mkF m 92 #[.val (.int p0), .val (.int p1), .val (.int p2), .val (.int y7), .val (.int y8), .val (.int y9), .val (.int y10), .val (.ref b46), .unset] [(.int y7), (.ref b46), (.ref b56), (.ref b56)])) rfl (by rw [hml]; rfl) (Steps.refl _) (a := b56) (argsL := [(.ref b46), (.int y7)]) (rest := [(.ref b56)]) (lenOf pd_36 rfl) rfl (by show 2 * 0 + _ ≤ _; exact Nat.le_of_eq rfl) (hb hby at_92) (fun _ _ => ⟨rfl, e56, (by decide : 5 + 0 ≤ _), (by decide : 80 + 0 ≤ _)⟩)
      obtain ⟨_, T58, L58, X58, ⟨rfl, N58q, K58, Fq58_0, Fq58_1, Fq58_2⟩, st58⟩ := own_r X56 rq58
      have N58 := Fr.app N54 N58q
      have Z58 : n0 ≤ T58.heap.size := Nat.le_trans Z56 K58.1
      have CR58 : CHr Z own_ELs s.vm h0 s.vm T58.heap := CR56.trans (CHr.keep K58 (allS Sf56_b56 all0) CR56.1)
      have S_CS_c_58 := own_sta_keep S_CS_c_56 A56 K58
      have S_AD_c_58 := own_sta_keep S_AD_c_56 A56 K58
      have S_HI_c_58 := own_sta_keep S_HI_c_56 A56 K58
      have S_LO_c_58 := own_sta_keep S_LO_c_56 A56 K58
      have S_SI_c_58 := own_sta_keep S_SI_c_56 A56 K58
      have Fq54_0_c_58 := Fq54_0_c_56.keep K58
      have Fq54_1_c_58 := Fq54_1_c_56.keep K58 (ninS ne_b46_b56 nin0)
      have Fq54_2_c_58 := Fq54_2_c_56.keep K58 (ninS ne_b46_b56 nin0)
      have Fq54_3_c_58 := Fq54_3_c_56.keep K58 (ninS ne_xb_54_b56 nin0)
      have k58 : Go p.tables e below _ (T58.setTop (mkF m 95 #[.val (.int p0), .val (.int p1), .val (.int p2), .val (.int y7), .val (.int y8), .val (.int y9), .val (.int y10), .val (.ref b46), .unset] [(.ref b56)])) := st58
      have Fk59 : f7 Z T58.heap b56 (.int y7) := own_fcast (congrArg Value.int hb3) Fq58_2
      have hS0 : s.Since s.vm 0 := (State.WarmedH.refl s).since 0
      obtain ⟨cq60, kq60, q60a, q60b, q60c⟩ := isOf hZ rfl Fq58_0
      obtain ⟨_, _, ⟨T60, L60, kq60, n60⟩, -, X60, hSn60, hgr60, ⟨Lc60, hQ60, l60, y60, z60⟩, st60⟩ := X58.virtualBackS hx (y := (⟨"com/example/fieldveil/fieldveil/Placeholder", "toString", "()Ljava/lang/String;"⟩ : MethodName)) (z := (⟨"com/example/fieldveil/fieldveil/Placeholder", "toString", "()Ljava/lang/String;"⟩ : MethodName)) hown (mvT hZ (own_w hw 42 rfl)) (mvT hZ (own_w hw 43 rfl)) (notFace_of_selects (args := #[]) (mvT hZ (own_w hw 45 rfl))) (mvT hZ (own_w hw 45 rfl)) (mvT hZ (own_w hw 44 rfl)) (by decide) (own_backOfSC (s := s) (vm0 := s.vm) (W := 0) (rm_phT l Z a0 hw [] b56 b46 y7 xb_54 xk_54 (own_nm y8 y9 y10) G1 fm T58.heap n0 Z58 Fq58_0 Fq58_1 Fk59 Fq54_0_c_58 Fq54_1_c_58 Fq54_2_c_58 S_CS_c_58 S_AD_c_58 S_HI_c_58 S_LO_c_58 S_SI_c_58 Fq54_3_c_58 P5 rf (own_nml _ _ _ : (own_nm y8 y9 y10).length ≤ 2) (own_nmch hy5 hy6 : ∀ c ∈ (own_nm y8 y9 y10), own_ch c)) hZ (own_w hw 46 rfl) (own_w hw 28 rfl) (by decide) (by decide) (own_EL hw) CR58.1) q60a q60c (g := (mkF m 95 #[.val (.int p0), .val (.int p1), .val (.int p2), .val (.int y7), .val (.int y8), .val (.int y9), .val (.int y10), .val (.ref b46), .unset] [(.ref b56)])) rfl (by rw [hml]; rfl) (Steps.refl _) (argsL := []) (rest := []) (lenOf pd_34 rfl) rfl (by show 2 * 0 + _ ≤ _; exact Nat.le_of_eq rfl) (hb hby at_95) (fun _ _ => ⟨rfl, rfl, (by decide : 5 + 10 ≤ _), (by decide : 80 + 284 ≤ _)⟩)
      dsimp only [Pt.U, Pt.locs, Pt.cells, Pt.slots] at X60 l60 y60 z60 st60 hQ60 hSn60 hgr60
      subst l60 y60 z60
      obtain ⟨X60, hS60, hZ, hown⟩ := rebS (s := s) (vm0 := s.vm) hS0 (Nat.zero_le _) X60 hSn60 (Nat.zero_le _) hZ hown
      obtain ⟨xs_60, xb_60, xk_60, rfl, N60q, K60, Fq60_0, Fq60_1, Fq60_2, Fq60_3⟩ := hQ60
      have N60 := Fr.app N58 N60q
      have k60 : Go p.tables e below _ (T60.setTop (mkF m 98 #[.val (.int p0), .val (.int p1), .val (.int p2), .val (.int y7), .val (.int y8), .val (.int y9), .val (.int y10), .val (.ref b46), .unset] [(.ref xs_60)])) := fun _ ht => st60.trans ht
      have Z60 : n0 ≤ T60.heap.size := Nat.le_trans Z58 K60.1
      have S_CS_c_60 := own_sta_keep0 S_CS_c_58 K60
      have S_AD_c_60 := own_sta_keep0 S_AD_c_58 K60
      have S_HI_c_60 := own_sta_keep0 S_HI_c_58 K60
      have S_LO_c_60 := own_sta_keep0 S_LO_c_58 K60
      have k61 : Go p.tables e below _ (T60.setTop (mkF m 109 #[.val (.int p0), .val (.int p1), .val (.int p2), .val (.int y7), .val (.int y8), .val (.int y9), .val (.int y10), .val (.ref b46), .val (.ref xs_60)] [(.int y10), (.int y9), (.int y8), (.int y7), (.ref xs_60)])) := goT k60 fun t ht => (by
        refine XS.astore X60.here hx rfl (hb hby at_98) rfl rfl (l' := #[.val (.int p0), .val (.int p1), .val (.int p2), .val (.int y7), .val (.int y8), .val (.int y9), .val (.int y10), .val (.ref b46), .val (.ref xs_60)]) rfl ?_
        refine XS.aload X60.here hx rfl (hb hby at_100) rfl rfl ?_
        refine XS.iloadN X60.here hx rfl (hb hby at_102) rfl ?_
        refine XS.iload X60.here hx rfl (hb hby at_103) rfl ?_
        refine XS.iload X60.here hx rfl (hb hby at_105) rfl ?_
        refine XS.iload X60.here hx rfl (hb hby at_107) rfl ?_
        exact ht)
      have rq62 := Jvm.LawKit.callS X60 hx (y := (⟨"com/example/fieldveil/fieldveil/PlaceholderToStringPinLaw", "expected", "(ZICC)Ljava/lang/String;"⟩ : MethodName)) hown (mvT hZ (own_w hw 161 rfl)) (mvT hZ (own_w hw 162 rfl)) (mvT hZ (own_w hw 163 rfl)) (mvT hZ (own_w hw 164 rfl)) (by decide) (backOf (W := 1) (rm_exp l Z a0 hw [] y7 y8 y9 y10 G1 T60.heap n0 Z60 S_CS_c_60 S_AD_c_60 S_HI_c_60 S_LO_c_60 P5 hy5 hy6) hZ (own_w hw 164 rfl) (own_w hw 163 rfl) (by decide) (by decide)) (g := (mkF m 109 #[.val (.int p0), .val (.int p1), .val (.int p2), .val (.int y7), .val (.int y8), .val (.int y9), .val (.int y10), .val (.ref b46), .val (.ref xs_60)] [(.int y10), (.int y9), (.int y8), (.int y7), (.ref xs_60)])) rfl (by rw [hml]; rfl) (argsL := [(.int y7), (.int y8), (.int y9), (.int y10)]) (rest := [(.ref xs_60)]) (lenOf pd_37 rfl) rfl (by show 2 * 0 + _ ≤ _; exact Nat.le_of_eq rfl) (hb hby at_109) (fun _ _ => ⟨rfl, rfl, (by decide : 15 + 4 ≤ _), (by decide : 364 + 100 ≤ _)⟩)
      obtain ⟨_, T62, L62, X62, ⟨xs_62, xb_62, xk_62, rfl, N62q, K62, Fq62_0, Fq62_1, Fq62_2, Fq62_3⟩, st62⟩ := own_rS X60 rq62
      have N62 := Fr.app N60 N62q
      have Z62 : n0 ≤ T62.heap.size := Nat.le_trans Z60 K62.1
      have S_CS_c_62 := own_sta_keep0 S_CS_c_60 K62
      have Fq60_0_c_62 := Fq60_0.keep K62
      have Fq60_1_c_62 := Fq60_1.keep K62 nin0
      have Fq60_2_c_62 := Fq60_2.keep K62 nin0
      have Fq60_3_c_62 := Fq60_3.keep K62 nin0
      have k62 : Go p.tables e below _ (T62.setTop (mkF m 112 #[.val (.int p0), .val (.int p1), .val (.int p2), .val (.int y7), .val (.int y8), .val (.int y9), .val (.int y10), .val (.ref b46), .val (.ref xs_60)] [(.ref xs_62), (.ref xs_60)])) := st62
      obtain ⟨cq63, kq63, q63a, q63b, q63c⟩ := isOf hZ rfl Fq60_0_c_62
      have rq63 := X62.virtualBack hx (y := (⟨"java/lang/String", "equals", "(Ljava/lang/Object;)Z"⟩ : MethodName)) (z := (⟨"java/lang/String", "equals", "(Ljava/lang/Object;)Z"⟩ : MethodName)) hown (mvT hZ (own_w hw 183 rfl)) (mvT hZ (own_w hw 184 rfl)) (notFace_of_selects (args := #[]) (mvT hZ (own_w hw 186 rfl))) (mvT hZ (own_w hw 186 rfl)) (mvT hZ (own_w hw 185 rfl)) (by decide) (backOf (W := 0) (rm_eqS l Z a0 hw [] xs_60 xs_62 xb_60 xk_60 xb_62 xk_62 (own_x y7 (own_nm y8 y9 y10)) G1 T62.heap n0 Z62 Fq60_0_c_62 Fq60_1_c_62 Fq60_2_c_62 Fq62_0 Fq62_1 Fq62_2 S_CS_c_62 Fq60_3_c_62 Fq62_3 P5 ((own_xlen (own_nml _ _ _)).2 : (own_x y7 (own_nm y8 y9 y10)).length ≤ 24)) hZ (own_w hw 187 rfl) (own_w hw 2 rfl) (by decide) (by decide)) q63a q63c (g := (mkF m 112 #[.val (.int p0), .val (.int p1), .val (.int p2), .val (.int y7), .val (.int y8), .val (.int y9), .val (.int y10), .val (.ref b46), .val (.ref xs_60)] [(.ref xs_62), (.ref xs_60)])) rfl (by rw [hml]; rfl) (Steps.refl _) (argsL := [(.ref xs_62)]) (rest := []) (lenOf pd_38 rfl) rfl (by show 2 * 0 + _ ≤ _; exact Nat.le_of_eq rfl) (hb hby at_112) (fun _ _ => ⟨rfl, rfl, (by decide : 19 + 0 ≤ _), (by decide : 464 + 0 ≤ _)⟩)
      obtain ⟨_, T63, L63, X63, ⟨rfl, N63q, eq63⟩, st63⟩ := own_r X62 rq63
      have N63 := Fr.app N62 N63q
      have k63 : Go p.tables e below _ (T63.setTop (mkF m 115 #[.val (.int p0), .val (.int p1), .val (.int p2), .val (.int y7), .val (.int y8), .val (.int y9), .val (.int y10), .val (.ref b46), .val (.ref xs_60)] [(.int (1 : Int32))])) := st63
      obtain ⟨fs, hr, hrun, hended, hW⟩ := X63.leaveW (s := s) hS60 (by rw [eq63]; exact (Nat.le_trans (Nat.le_refl _) K62.1)) (v := some (.int (1 : Int32))) (fun h => by rw [Bd.returns] at h; cases h)
      refine ⟨_, _, pre0 _ ((goT k1 (goT k45 (goT k47 (goT k49 (goT k51 (goT k52 (goT k55 (goT k57 (goT k58 (goT k61 (goT k62 k63))))))))))) _ (retN X63 hx (t := .boolean) Bd.returns (by simp) (hb hby at_115) hr)), hrun, hended, _, _, rfl, ?_, hW.1, hW.2.1, hW.2.2.1, hW.2.2.2.mono (by decide) (by decide)⟩
      show Q_law Z p0 p1 p2 G1 fm h0 n0 _ T63.heap _
      rw [eq63]
      exact ⟨rfl, N63⟩
set_option maxRecDepth 65536 in
set_option maxHeartbeats 40000000 in
theorem comes_1 {Post : Tables → Env → Array Value → State → Outcome → State → Prop} (hpost : ∀ tb e args s v u, (limb_1_1.after args s (.returned v) u = true ∧ limb_1_2.after args s (.returned v) u = true ∧ True) → ReturnedEndW s (.returned v) u (Jvm.fieldLocs frame_1_writes args s ++ Jvm.arrayLocs frame_1_arrays args s ++ Jvm.staticLocs frame_1_statics s) 48 5824 → Post tb e args s (.returned v) u) :
    ArmFor flags0 classFile x code maxLocals ret World_1 tables_1 room_1 Calls_1 rest_1 Pre_1 Post := by
  intro l hfl _ _ p e ha hc hk s m args below hf hA hF happ hP
  obtain ⟨hcalls, hrest, hpre⟩ := hP
  obtain ⟨-, -, -, hnamed, -, -, -, hat⟩ := (Spec.applies_iff hf).mp happ
  obtain ⟨hg, hn⟩ := and_e (Cond.before_iff.mp (show (Jvm.Cond.and given_1 narrow_1).before args s = true from hpre))
  obtain ⟨hcnt, hg⟩ := and_e hg
  obtain ⟨ha0, hg⟩ := and_e hg
  obtain ⟨ha1, hg⟩ := and_e hg
  have ha2 := hg
  obtain ⟨w0, w1, w2, rfl⟩ : ∃ w0 w1 w2 : Value, args = #[w0, w1, w2] := by
    have hs : args.size = 3 := by simpa [Cond.value, given_1] using hcnt
    obtain ⟨L⟩ := args
    match L, hs with
    | [w0, w1, w2], _ => exact ⟨w0, w1, w2, rfl⟩
  have hw := fun d (hd : d ∈ tables_1) => atoms_spec (ws := Jvm.Cond.code x code maxLocals ret :: tables_1) hat d (List.mem_cons_of_mem _ hd)
  have hfit : Fit s := fun {y c} hc i hi => by
    obtain ⟨ha, rfl⟩ := Array.getElem?_eq_some_iff.mp hc
    have q := List.all_eq_true.mp ((Array.all_eq_true_iff_forall_mem.mp hF) _ (Array.getElem_mem ha)) i (List.mem_range.mpr hi)
    simpa [Array.getElem?_eq_getElem hi] using q
  obtain ⟨hsets, hown0⟩ := atoms_of _ (rest_1_c_eq ▸ (show rest_1_c.before _ s = true from hrest))
  have hr0 := Cond.before_iff.mp hown0
  obtain ⟨i0, ei0⟩ := is_v ha0
  obtain rfl : w0 = (.int i0) := Option.some.inj ei0
  obtain ⟨i1, ei1⟩ := is_v ha1
  obtain rfl : w1 = (.int i1) := Option.some.inj ei1
  obtain ⟨i2, ei2⟩ := is_v ha2
  obtain rfl : w2 = (.int i2) := Option.some.inj ei2
  have n3s := not_v (Cond.before_iff.mp (hsets _ (List.mem_of_getElem? (i := 2) rfl)))
  obtain ⟨G1, eG1⟩ := is_v (Cond.before_iff.mp (hsets _ (List.mem_of_getElem? (i := 1) rfl)))
  have S_CS : Sta s s.heap "java/lang/String" "COMPACT_STRINGS" "Z" (.int G1) := Sta.start eG1 (Or.inl (hsets _ (List.mem_of_getElem? (i := 0) rfl)))
  have P5 : ¬ (G1 = (0 : Int32)) := gotF (Cond.eq_ints eG1 (Term.int_eval (0))) n3s
  have hCH0 : CHv s own_ELs s.vm s.heap := CHv.start (own_EL hw) (fun q hq => hcalls.1 q hq) (hsets _ (List.mem_of_getElem? (i := 2) rfl)) (own_w hw 14 rfl) (own_w hw 10 rfl)
  have S_AD : Sta s s.heap "java/lang/StringUTF16" "$assertionsDisabled" "Z" (.int (1 : Int32)) := Sta.start (own_eq_i (Cond.before_iff.mp (hsets _ (List.mem_of_getElem? (i := 12) rfl)))) (Or.inl (hsets _ (List.mem_of_getElem? (i := 11) rfl)))
  have S_HI : Sta s s.heap "java/lang/StringUTF16" "HI_BYTE_SHIFT" "I" (.int (0 : Int32)) := Sta.start (own_eq_i (Cond.before_iff.mp (hsets _ (List.mem_of_getElem? (i := 15) rfl)))) (Or.inl (hsets _ (List.mem_of_getElem? (i := 14) rfl)))
  have S_LO : Sta s s.heap "java/lang/StringUTF16" "LO_BYTE_SHIFT" "I" (.int (8 : Int32)) := Sta.start (own_eq_i (Cond.before_iff.mp (hsets _ (List.mem_of_getElem? (i := 18) rfl)))) (Or.inl (hsets _ (List.mem_of_getElem? (i := 17) rfl)))
  obtain ⟨fm, evf, rf⟩ := isR_v (Cond.before_iff.mp (hsets _ (List.mem_of_getElem? (i := 8) rfl)))
  have S_SI : Sta s s.heap "jdk/internal/util/Preconditions" "SIOOBE_FORMATTER" "Ljava/util/function/BiFunction;" fm := Sta.start evf (Or.inl (hsets _ (List.mem_of_getElem? (i := 7) rfl)))
  obtain ⟨n, o, h1, h2, h3, _, L, rfl, ⟨rfl, N⟩, hq⟩ := rm_law l s _ hw tables_1 i0 i1 i2 G1 fm s.heap s.heap.size (Nat.le_refl _) S_CS S_AD S_HI S_LO S_SI P5 rf p e ha hc hk s m _ below hf ((Spec.applies_iff_loose hf).mp happ).1 ⟨rfl, State.Warmed39.refl s, rfl, hCH0⟩ trivial
  refine ⟨n, _, h1, h2, h3, hpost _ _ _ _ _ _ ⟨Cond.after_iff.mpr rfl, Cond.after_iff.mpr (eq_i res_at (Term.int_eval (1)) rfl), trivial⟩ ⟨hq.1, hq.2.1, hq.2.2.1, (hq.2.2.2.sift fun y hy => Or.inr (N y hy)).mono (by decide) (by decide)⟩⟩
theorem main_1_1 : Claimed_1_1 := comes_1 fun _ _ _ _ _ _ h hF => ⟨h.1, hF⟩
theorem main_1_2 : Claimed_1_2 := comes_1 fun _ _ _ _ _ _ h hF => ⟨h.2.1, hF⟩
end Jvm.Pilot.@@N@@
namespace Jvm.Pilot.@@N@@
open Jvm Jvm.ClassFile Sem Op Lib Jvm.Free Jvm.Stand Jvm.Pilot.@@N@@.Jvm.D
/-! MADE BY PROGRAM (witnessworld.py) out of the Statement's table words and the real class files: 27 classes; the members and pool entries that the words name. The judged class is class 1, her method 1. -/
namespace start1
open Jvm.ClassFile
def u (s : String) : CpInfo := .utf8 (stringToUtf16 s)
/-- a pool by its gaps: so many unusable entries, then the entry; so many at the end -/
def gap : Nat → List CpInfo → List CpInfo
  | 0, r => r
  | n + 1, r => .unusable :: gap n r
def poolList (es : List (Nat × CpInfo)) (last : Nat) : List CpInfo := es.foldr (fun e r => gap e.1 (e.2 :: r)) (gap last [])
def pool (es : List (Nat × CpInfo)) (last : Nat) : Array CpInfo := ⟨poolList es last⟩
def fileOf (pool : Array CpInfo) (this : Nat) (attrs : Array Attribute := #[]) (ms : Array MethodInfo := #[]) (fl : Nat := 33) (sup : Nat := 0) (ifs : Array Nat := #[]) (fds : Array FieldInfo := #[]) : ClassFile where
  minorVersion := 0
  majorVersion := 65
  constantPool := pool
  accessFlags := fl
  thisClass := this
  superClass := sup
  interfaces := ifs
  fields := fds
  methods := ms
  attributes := attrs
def plain (name : String) (sup : Option ClassId) : Class where
  name := name
  kind := .ordinary
  loader := none
  accessFlags := 33
  super := sup
  interfaces := #[]
  cf := none
  fields := #[]
  methods := #[]
  instanceTypes := #[]
  staticTypes := #[]
  resolved := #[]
  callSites := []
  init := .initialized
  statics := none
  mirror := none

def pool0 : Array CpInfo := pool [(5, u "<init>"), (0, u "()V"), (1, .class_ 10), (1, u "java/lang/Object")] 113

def k0c0 : Code := { maxStack := 0, maxLocals := 1, code := object_method_1_code, exceptionTable := #[], attributes := #[] }
def k0m0 : Method := { name := "<init>", desc := "()V", sig := { parameters := [], returnType := none }, accessFlags := 1, code := some k0c0 }
/-- java/lang/Object -/
def k0 : Class := { plain "java/lang/Object" none with
  accessFlags := 33
  interfaces := #[]
  cf := some (fileOf pool0 8 #[] #[{ accessFlags := 1, nameIndex := 5, descriptorIndex := 6, attributes := #[] }] 33 0 #[] #[])
  fields := #[]
  methods := #[k0m0]
  instanceTypes := #[]
  staticTypes := #[]
  resolved := Array.replicate 124 none
  statics := none }

def pool1 : Array CpInfo := pool [(2, .class_ 4), (1, u "java/lang/Object"), (0, u "<init>"), (0, u "()V"), (0, .class_ 8), (0, u "java/lang/String"), (0, .methodref 7 10), (0, .nameAndType 5 11), (0, u "([C)V"), (0, .methodref 7 13), (0, .nameAndType 14 15), (0, u "valueOf"), (0, u "(C)Ljava/lang/String;"), (0, .class_ 17), (0, u "com/example/fieldveil/fieldveil/Placeholder"), (0, .methodref 16 19), (0, .nameAndType 5 20), (0, u "(Ljava/lang/String;Z)V"), (0, .methodref 16 22), (0, .nameAndType 23 24), (0, u "toString"), (0, u "()Ljava/lang/String;"), (0, .methodref 26 27), (0, .class_ 28), (0, .nameAndType 29 30), (0, u "com/example/fieldveil/fieldveil/PlaceholderToStringPinLaw"), (0, u "expected"), (0, u "(ZICC)Ljava/lang/String;"), (0, .methodref 7 32), (0, .nameAndType 33 34), (0, u "equals"), (0, u "(Ljava/lang/Object;)Z"), (2, u "law"), (0, u "(III)Z")] 3

def k1m0 : Method := { name := "<init>", desc := "()V", sig := { parameters := [], returnType := none }, accessFlags := 1, code := none }
def k1c1 : Code := { maxStack := 6, maxLocals := 9, code := code, exceptionTable := #[], attributes := #[] }
def k1m1 : Method := { name := "law", desc := "(III)Z", sig := { parameters := [.int, .int, .int], returnType := some .boolean }, accessFlags := 9, code := some k1c1 }
def k1c2 : Code := { maxStack := 6, maxLocals := 4, code := method_3_code, exceptionTable := #[], attributes := #[] }
def k1m2 : Method := { name := "expected", desc := "(ZICC)Ljava/lang/String;", sig := { parameters := [.boolean, .int, .char, .char], returnType := some (.object "java/lang/String") }, accessFlags := 10, code := some k1c2 }
/-- com/example/fieldveil/fieldveil/PlaceholderToStringPinLaw -/
def k1 : Class := { plain "com/example/fieldveil/fieldveil/PlaceholderToStringPinLaw" (some 0) with
  accessFlags := 49
  interfaces := #[]
  cf := some (fileOf pool1 26 #[] #[{ accessFlags := 1, nameIndex := 5, descriptorIndex := 6, attributes := #[] }, { accessFlags := 9, nameIndex := 37, descriptorIndex := 38, attributes := #[] }, { accessFlags := 10, nameIndex := 29, descriptorIndex := 30, attributes := #[] }] 49 2 #[] #[])
  fields := #[]
  methods := #[k1m0, k1m1, k1m2]
  instanceTypes := #[]
  staticTypes := #[]
  resolved := Array.replicate 42 none
  statics := none }

def pool2 : Array CpInfo := pool [(1, .class_ 2), (0, u "java/io/Serializable"), (0, .class_ 4), (0, u "java/lang/Object")] 2

/-- java/io/Serializable -/
def k2 : Class := { plain "java/io/Serializable" (some 0) with
  accessFlags := 1537
  interfaces := #[]
  cf := some (fileOf pool2 1 #[] #[] 1537 3 #[] #[])
  fields := #[]
  methods := #[]
  instanceTypes := #[]
  staticTypes := #[]
  resolved := Array.replicate 7 none
  statics := none }

def pool3 : Array CpInfo := pool [(1, .class_ 2), (0, u "java/lang/Comparable"), (0, .class_ 4), (0, u "java/lang/Object")] 7

/-- java/lang/Comparable -/
def k3 : Class := { plain "java/lang/Comparable" (some 0) with
  accessFlags := 1537
  interfaces := #[]
  cf := some (fileOf pool3 1 #[] #[] 1537 3 #[] #[])
  fields := #[]
  methods := #[]
  instanceTypes := #[]
  staticTypes := #[]
  resolved := Array.replicate 12 none
  statics := none }

def pool4 : Array CpInfo := pool [(2, .class_ 4), (1, u "java/lang/CharSequence"), (42, .class_ 48), (0, u "java/lang/CharSequence$1CodePointIterator"), (10, .class_ 60), (0, u "java/lang/CharSequence$1CharIterator"), (5, .class_ 67), (0, u "java/lang/Object")] 63

/-- java/lang/CharSequence -/
def k4 : Class := { plain "java/lang/CharSequence" (some 0) with
  accessFlags := 1537
  interfaces := #[]
  cf := some (fileOf pool4 2 #[.nestMembers #[47, 59]] #[] 1537 66 #[] #[])
  fields := #[]
  methods := #[]
  instanceTypes := #[]
  staticTypes := #[]
  resolved := Array.replicate 131 none
  statics := none }

def pool5 : Array CpInfo := pool [(1, .class_ 2), (0, u "java/lang/constant/Constable"), (0, .class_ 4), (0, u "java/lang/Object")] 6

/-- java/lang/constant/Constable -/
def k5 : Class := { plain "java/lang/constant/Constable" (some 0) with
  accessFlags := 1537
  interfaces := #[]
  cf := some (fileOf pool5 1 #[] #[] 1537 3 #[] #[])
  fields := #[]
  methods := #[]
  instanceTypes := #[]
  staticTypes := #[]
  resolved := Array.replicate 11 none
  statics := none }

def pool6 : Array CpInfo := pool [(1, .class_ 2), (0, u "java/lang/constant/ConstantDesc"), (0, .class_ 4), (0, u "java/lang/Object")] 32

/-- java/lang/constant/ConstantDesc -/
def k6 : Class := { plain "java/lang/constant/ConstantDesc" (some 0) with
  accessFlags := 1537
  interfaces := #[]
  cf := some (fileOf pool6 1 #[] #[] 1537 3 #[] #[])
  fields := #[]
  methods := #[]
  instanceTypes := #[]
  staticTypes := #[]
  resolved := Array.replicate 37 none
  statics := none }

def pool7 : Array CpInfo := pool [(1, .methodref 2 3), (0, .class_ 4), (0, .nameAndType 5 6), (0, u "java/lang/Object"), (0, u "<init>"), (0, u "()V"), (0, .string 8), (0, u ""), (0, .fieldref 10 11), (0, .class_ 12), (0, .nameAndType 13 14), (0, u "java/lang/String"), (0, u "value"), (0, u "[B"), (0, .fieldref 10 16), (0, .nameAndType 17 18), (0, u "coder"), (0, u "B"), (2, u "hash"), (0, u "I"), (2, u "hashIsZero"), (0, u "Z"), (0, .methodref 10 28), (0, .nameAndType 5 29), (0, u "([CIILjava/lang/Void;)V"), (6, u "checkBoundsOffCount"), (0, u "(III)I"), (0, .fieldref 10 39), (0, .nameAndType 40 26), (0, u "COMPACT_STRINGS"), (1, .class_ 44), (1, u "java/lang/StringUTF16"), (0, u "compress"), (1, .methodref 42 48), (0, .nameAndType 49 50), (0, u "coderFromArrayLen"), (0, u "([BI)B"), (2, u "toBytes"), (0, .methodref 55 56), (0, .class_ 57), (0, .nameAndType 58 59), (0, u "java/util/Arrays"), (0, u "copyOfRange"), (0, u "([BII)[B"), (46, .methodref 107 108), (0, .class_ 109), (0, .nameAndType 110 111), (0, u "java/lang/StringLatin1"), (0, u "inflate"), (0, u "([BI[BII)V"), (30, u "()Z"), (34, .methodref 42 178), (0, .nameAndType 45 179), (0, u "([CII)[B"), (13, .class_ 195), (1, u "java/lang/System"), (13, .methodref 10 210), (0, .nameAndType 5 211), (0, u "([BB)V"), (0, .methodref 193 213), (0, .nameAndType 214 215), (0, u "arraycopy"), (0, u "(Ljava/lang/Object;ILjava/lang/Object;II)V"), (118, u "()I"), (0, .methodref 10 336), (0, .nameAndType 17 337), (0, u "()B"), (2, u "()[B"), (28, u "(C)Z"), (119, .methodref 10 490), (0, .nameAndType 5 491), (0, u "(Ljava/lang/AbstractStringBuilder;Ljava/lang/Void;)V"), (1, .nameAndType 494 142), (0, u "isLatin1"), (11, .nameAndType 507 334), (0, u "length"), (24, u "getBytes"), (8, .methodref 107 542), (0, .nameAndType 543 544), (0, u "equals"), (0, u "([B[B)Z"), (4, .methodref 550 506), (0, .class_ 551), (0, u "java/lang/AbstractStringBuilder"), (0, .methodref 550 553), (0, .nameAndType 554 340), (0, u "getValue"), (18, u "(Ljava/lang/Object;)Z"), (1, .class_ 576), (0, u "java/lang/CharSequence"), (22, u "CASE_INSENSITIVE_ORDER"), (0, u "Ljava/util/Comparator;"), (181, u "valueOf"), (0, u "(C)Ljava/lang/String;"), (37, u "([BIB)V"), (188, u "([C)V"), (4, .methodref 107 1016), (0, .nameAndType 1017 369), (0, u "canEncode"), (0, .methodref 107 1019), (0, .nameAndType 53 1020), (0, u "(C)[B"), (0, .methodref 42 1019), (25, .methodref 550 493), (0, .fieldref 550 1049), (0, .nameAndType 1050 26), (0, u "maybeLatin1"), (2, .fieldref 1054 1055), (0, .class_ 1056), (0, .nameAndType 1057 1058), (0, u "jdk/internal/util/Preconditions"), (0, u "SIOOBE_FORMATTER"), (0, u "Ljava/util/function/BiFunction;"), (5, u "(IIILjava/util/function/BiFunction;)I"), (0, .methodref 1054 1066), (0, .nameAndType 1067 1064), (0, u "checkFromIndexSize"), (33, u "serialPersistentFields"), (0, u "[Ljava/io/ObjectStreamField;"), (0, .class_ 1104), (0, u "java/lang/String$CaseInsensitiveComparator"), (1, .class_ 1107), (0, u "java/io/Serializable"), (0, .class_ 1109), (0, u "java/lang/Comparable"), (0, .class_ 1111), (0, u "java/lang/constant/Constable"), (0, .class_ 1113), (0, u "java/lang/constant/ConstantDesc"), (2, u "serialVersionUID"), (0, u "J"), (3, u "REPL"), (0, u "C"), (2, u "LATIN1"), (1, u "UTF16"), (105, u "(Ljava/lang/StringBuilder;)V")] 217

def k7m0 : Method := { name := "<init>", desc := "()V", sig := { parameters := [], returnType := none }, accessFlags := 1, code := none }
def k7c1 : Code := { maxStack := 5, maxLocals := 2, code := jdk_42_method_3_code, exceptionTable := #[], attributes := #[] }
def k7m1 : Method := { name := "<init>", desc := "([C)V", sig := { parameters := [(.array .char)], returnType := none }, accessFlags := 1, code := some k7c1 }
def k7c2 : Code := { maxStack := 3, maxLocals := 2, code := jdk_42_method_53_code, exceptionTable := #[], attributes := #[] }
def k7m2 : Method := { name := "<init>", desc := "(Ljava/lang/StringBuilder;)V", sig := { parameters := [(.object "java/lang/StringBuilder")], returnType := none }, accessFlags := 1, code := some k7c2 }
def k7c3 : Code := { maxStack := 2, maxLocals := 1, code := jdk_42_method_54_code, exceptionTable := #[], attributes := #[] }
def k7m3 : Method := { name := "length", desc := "()I", sig := { parameters := [], returnType := some .int }, accessFlags := 1, code := some k7c3 }
def k7c4 : Code := { maxStack := 2, maxLocals := 3, code := jdk_42_method_66_code, exceptionTable := #[], attributes := #[] }
def k7m4 : Method := { name := "equals", desc := "(Ljava/lang/Object;)Z", sig := { parameters := [(.object "java/lang/Object")], returnType := some .boolean }, accessFlags := 1, code := some k7c4 }
def k7c5 : Code := { maxStack := 4, maxLocals := 1, code := jdk_42_method_139_code, exceptionTable := #[], attributes := #[] }
def k7m5 : Method := { name := "valueOf", desc := "(C)Ljava/lang/String;", sig := { parameters := [.char], returnType := some (.object "java/lang/String") }, accessFlags := 9, code := some k7c5 }
def k7c6 : Code := { maxStack := 5, maxLocals := 4, code := jdk_42_method_147_code, exceptionTable := #[], attributes := #[] }
def k7m6 : Method := { name := "getBytes", desc := "([BIB)V", sig := { parameters := [(.array .byte), .int, .byte], returnType := none }, accessFlags := 0, code := some k7c6 }
def k7c7 : Code := { maxStack := 4, maxLocals := 6, code := jdk_42_method_149_code, exceptionTable := #[], attributes := #[] }
def k7m7 : Method := { name := "<init>", desc := "([CIILjava/lang/Void;)V", sig := { parameters := [(.array .char), .int, .int, (.object "java/lang/Void")], returnType := none }, accessFlags := 2, code := some k7c7 }
def k7c8 : Code := { maxStack := 5, maxLocals := 5, code := jdk_42_method_150_code, exceptionTable := #[], attributes := #[] }
def k7m8 : Method := { name := "<init>", desc := "(Ljava/lang/AbstractStringBuilder;Ljava/lang/Void;)V", sig := { parameters := [(.object "java/lang/AbstractStringBuilder"), (.object "java/lang/Void")], returnType := none }, accessFlags := 0, code := some k7c8 }
def k7c9 : Code := { maxStack := 2, maxLocals := 3, code := jdk_42_method_151_code, exceptionTable := #[], attributes := #[] }
def k7m9 : Method := { name := "<init>", desc := "([BB)V", sig := { parameters := [(.array .byte), .byte], returnType := none }, accessFlags := 0, code := some k7c9 }
def k7c10 : Code := { maxStack := 1, maxLocals := 1, code := jdk_42_method_152_code, exceptionTable := #[], attributes := #[] }
def k7m10 : Method := { name := "coder", desc := "()B", sig := { parameters := [], returnType := some .byte }, accessFlags := 0, code := some k7c10 }
def k7c11 : Code := { maxStack := 4, maxLocals := 3, code := jdk_42_method_157_code, exceptionTable := #[], attributes := #[] }
def k7m11 : Method := { name := "checkBoundsOffCount", desc := "(III)I", sig := { parameters := [.int, .int, .int], returnType := some .int }, accessFlags := 8, code := some k7c11 }
/-- java/lang/String -/
def k7 : Class := { plain "java/lang/String" (some 0) with
  accessFlags := 49
  interfaces := #[2, 3, 4, 5, 6]
  cf := some (fileOf pool7 10 #[.nestMembers #[1103]] #[{ accessFlags := 1, nameIndex := 5, descriptorIndex := 6, attributes := #[] }, { accessFlags := 1, nameIndex := 5, descriptorIndex := 1010, attributes := #[] }, { accessFlags := 1, nameIndex := 5, descriptorIndex := 1233, attributes := #[] }, { accessFlags := 1, nameIndex := 507, descriptorIndex := 334, attributes := #[] }, { accessFlags := 1, nameIndex := 543, descriptorIndex := 573, attributes := #[] }, { accessFlags := 9, nameIndex := 782, descriptorIndex := 783, attributes := #[] }, { accessFlags := 0, nameIndex := 532, descriptorIndex := 821, attributes := #[] }, { accessFlags := 2, nameIndex := 5, descriptorIndex := 29, attributes := #[] }, { accessFlags := 0, nameIndex := 5, descriptorIndex := 491, attributes := #[] }, { accessFlags := 0, nameIndex := 5, descriptorIndex := 211, attributes := #[] }, { accessFlags := 0, nameIndex := 17, descriptorIndex := 337, attributes := #[] }, { accessFlags := 8, nameIndex := 36, descriptorIndex := 37, attributes := #[] }] 49 2 #[1106, 1108, 575, 1110, 1112] #[{ accessFlags := 18, nameIndex := 13, descriptorIndex := 14, attributes := #[] }, { accessFlags := 18, nameIndex := 17, descriptorIndex := 18, attributes := #[] }, { accessFlags := 2, nameIndex := 21, descriptorIndex := 22, attributes := #[] }, { accessFlags := 2, nameIndex := 25, descriptorIndex := 26, attributes := #[] }, { accessFlags := 26, nameIndex := 1116, descriptorIndex := 1117, attributes := #[] }, { accessFlags := 24, nameIndex := 40, descriptorIndex := 26, attributes := #[] }, { accessFlags := 26, nameIndex := 1101, descriptorIndex := 1102, attributes := #[] }, { accessFlags := 26, nameIndex := 1121, descriptorIndex := 1122, attributes := #[] }, { accessFlags := 25, nameIndex := 599, descriptorIndex := 600, attributes := #[] }, { accessFlags := 24, nameIndex := 1125, descriptorIndex := 18, attributes := #[] }, { accessFlags := 24, nameIndex := 1127, descriptorIndex := 18, attributes := #[] }])
  fields := #[{ name := "value", type := (.array .byte), accessFlags := 18, slot := 0, constantValue := 0 }, { name := "coder", type := .byte, accessFlags := 18, slot := 1, constantValue := 0 }, { name := "hash", type := .int, accessFlags := 2, slot := 2, constantValue := 0 }, { name := "hashIsZero", type := .boolean, accessFlags := 2, slot := 3, constantValue := 0 }, { name := "serialVersionUID", type := .long, accessFlags := 26, slot := 0, constantValue := 0 }, { name := "COMPACT_STRINGS", type := .boolean, accessFlags := 24, slot := 1, constantValue := 0 }, { name := "serialPersistentFields", type := (.array (.object "java/io/ObjectStreamField")), accessFlags := 26, slot := 2, constantValue := 0 }, { name := "REPL", type := .char, accessFlags := 26, slot := 3, constantValue := 0 }, { name := "CASE_INSENSITIVE_ORDER", type := (.object "java/util/Comparator"), accessFlags := 25, slot := 4, constantValue := 0 }, { name := "LATIN1", type := .byte, accessFlags := 24, slot := 5, constantValue := 0 }, { name := "UTF16", type := .byte, accessFlags := 24, slot := 6, constantValue := 0 }]
  methods := #[k7m0, k7m1, k7m2, k7m3, k7m4, k7m5, k7m6, k7m7, k7m8, k7m9, k7m10, k7m11]
  instanceTypes := #[(.array .byte), .byte, .int, .boolean]
  staticTypes := #[.long, .boolean, (.array (.object "java/io/ObjectStreamField")), .char, (.object "java/util/Comparator"), .byte, .byte]
  resolved := Array.replicate 1451 none
  statics := some 0 }

def pool8 : Array CpInfo := pool [(4, .class_ 6), (1, u "java/lang/Object"), (0, u "<init>"), (0, u "()V"), (5, .class_ 16), (1, u "java/lang/StringLatin1"), (0, u "inflate"), (2, .class_ 22), (1, u "java/lang/StringUTF16"), (3, .nameAndType 17 27), (0, u "([BI[BII)V"), (62, u "canEncode"), (14, u "(C)Z"), (15, u "$assertionsDisabled"), (0, u "Z"), (98, .class_ 223), (1, u "java/lang/StringLatin1$LinesSpliterator"), (16, .methodref 20 26), (40, u "equals"), (0, u "([B[B)Z"), (97, u "toBytes"), (1, u "(C)[B"), (7, .class_ 391), (0, u "java/lang/StringLatin1$CharsSpliterator")] 3

def k8m0 : Method := { name := "<init>", desc := "()V", sig := { parameters := [], returnType := none }, accessFlags := 0, code := none }
def k8c1 : Code := { maxStack := 2, maxLocals := 1, code := jdk_43_method_3_code, exceptionTable := #[], attributes := #[] }
def k8m1 : Method := { name := "canEncode", desc := "(C)Z", sig := { parameters := [.char], returnType := some .boolean }, accessFlags := 9, code := some k8c1 }
def k8c2 : Code := { maxStack := 3, maxLocals := 3, code := jdk_43_method_13_code, exceptionTable := #[], attributes := #[] }
def k8m2 : Method := { name := "equals", desc := "([B[B)Z", sig := { parameters := [(.array .byte), (.array .byte)], returnType := some .boolean }, accessFlags := 9, code := some k8c2 }
def k8c3 : Code := { maxStack := 4, maxLocals := 1, code := jdk_43_method_46_code, exceptionTable := #[], attributes := #[] }
def k8m3 : Method := { name := "toBytes", desc := "(C)[B", sig := { parameters := [.char], returnType := some (.array .byte) }, accessFlags := 9, code := some k8c3 }
def k8c4 : Code := { maxStack := 5, maxLocals := 5, code := jdk_43_method_50_code, exceptionTable := #[], attributes := #[] }
def k8m4 : Method := { name := "inflate", desc := "([BI[BII)V", sig := { parameters := [(.array .byte), .int, (.array .byte), .int, .int], returnType := none }, accessFlags := 9, code := some k8c4 }
/-- java/lang/StringLatin1 -/
def k8 : Class := { plain "java/lang/StringLatin1" (some 0) with
  accessFlags := 48
  interfaces := #[]
  cf := some (fileOf pool8 14 #[.nestMembers #[390, 221]] #[{ accessFlags := 0, nameIndex := 7, descriptorIndex := 8, attributes := #[] }, { accessFlags := 9, nameIndex := 90, descriptorIndex := 105, attributes := #[] }, { accessFlags := 9, nameIndex := 281, descriptorIndex := 282, attributes := #[] }, { accessFlags := 9, nameIndex := 380, descriptorIndex := 382, attributes := #[] }, { accessFlags := 9, nameIndex := 17, descriptorIndex := 27, attributes := #[] }] 48 4 #[] #[{ accessFlags := 4120, nameIndex := 121, descriptorIndex := 122, attributes := #[] }])
  fields := #[{ name := "$assertionsDisabled", type := .boolean, accessFlags := 4120, slot := 0, constantValue := 0 }]
  methods := #[k8m0, k8m1, k8m2, k8m3, k8m4]
  instanceTypes := #[]
  staticTypes := #[.boolean]
  resolved := Array.replicate 395 none
  statics := none }

def pool9 : Array CpInfo := pool [(1, .methodref 2 3), (0, .class_ 4), (0, .nameAndType 5 6), (0, u "java/lang/Object"), (0, u "<init>"), (0, u "()V"), (0, .class_ 8), (0, u "java/lang/Record")] 13

def k9c0 : Code := { maxStack := 1, maxLocals := 1, code := jdk_30_method_1_code, exceptionTable := #[], attributes := #[] }
def k9m0 : Method := { name := "<init>", desc := "()V", sig := { parameters := [], returnType := none }, accessFlags := 4, code := some k9c0 }
/-- java/lang/Record -/
def k9 : Class := { plain "java/lang/Record" (some 0) with
  accessFlags := 1057
  interfaces := #[]
  cf := some (fileOf pool9 7 #[] #[{ accessFlags := 4, nameIndex := 5, descriptorIndex := 6, attributes := #[] }] 1057 2 #[] #[])
  fields := #[]
  methods := #[k9m0]
  instanceTypes := #[]
  staticTypes := #[]
  resolved := Array.replicate 22 none
  statics := none }

def pool10 : Array CpInfo := pool [(1, .methodref 2 3), (0, .class_ 4), (0, .nameAndType 5 6), (0, u "java/lang/Record"), (0, u "<init>"), (0, u "()V"), (0, .fieldref 8 9), (0, .class_ 10), (0, .nameAndType 11 12), (0, u "com/example/fieldveil/fieldveil/Placeholder"), (0, u "name"), (0, u "Ljava/lang/String;"), (0, .fieldref 8 14), (0, .nameAndType 15 16), (0, u "json"), (0, u "Z"), (14, .class_ 32), (0, u "java/lang/StringBuilder"), (0, .methodref 31 3), (0, .string 35), (0, u "{{#toJson}}"), (0, .methodref 31 37), (0, .nameAndType 38 39), (0, u "append"), (0, u "(Ljava/lang/String;)Ljava/lang/StringBuilder;"), (0, .string 41), (0, u "{{/toJson}}"), (0, .methodref 31 43), (0, .nameAndType 44 45), (0, u "toString"), (0, u "()Ljava/lang/String;"), (0, .string 47), (0, u "{{"), (0, .string 49), (0, u "}}"), (7, u "USER"), (1, u "(Ljava/lang/String;Z)V")] 28

def k10c0 : Code := { maxStack := 2, maxLocals := 3, code := prog_7_method_1_code, exceptionTable := #[], attributes := #[] }
def k10m0 : Method := { name := "<init>", desc := "(Ljava/lang/String;Z)V", sig := { parameters := [(.object "java/lang/String"), .boolean], returnType := none }, accessFlags := 0, code := some k10c0 }
def k10c1 : Code := { maxStack := 2, maxLocals := 1, code := prog_7_method_3_code, exceptionTable := #[], attributes := #[] }
def k10m1 : Method := { name := "toString", desc := "()Ljava/lang/String;", sig := { parameters := [], returnType := some (.object "java/lang/String") }, accessFlags := 1, code := some k10c1 }
/-- com/example/fieldveil/fieldveil/Placeholder -/
def k10 : Class := { plain "com/example/fieldveil/fieldveil/Placeholder" (some 9) with
  accessFlags := 48
  interfaces := #[]
  cf := some (fileOf pool10 8 #[] #[{ accessFlags := 0, nameIndex := 5, descriptorIndex := 59, attributes := #[] }, { accessFlags := 1, nameIndex := 44, descriptorIndex := 45, attributes := #[] }] 48 2 #[] #[{ accessFlags := 18, nameIndex := 11, descriptorIndex := 12, attributes := #[] }, { accessFlags := 18, nameIndex := 15, descriptorIndex := 16, attributes := #[] }, { accessFlags := 24, nameIndex := 57, descriptorIndex := 12, attributes := #[] }])
  fields := #[{ name := "name", type := (.object "java/lang/String"), accessFlags := 18, slot := 0, constantValue := 0 }, { name := "json", type := .boolean, accessFlags := 18, slot := 1, constantValue := 0 }, { name := "USER", type := (.object "java/lang/String"), accessFlags := 24, slot := 0, constantValue := 0 }]
  methods := #[k10m0, k10m1]
  instanceTypes := #[(.object "java/lang/String"), .boolean]
  staticTypes := #[(.object "java/lang/String")]
  resolved := Array.replicate 88 none
  statics := none }

def pool11 : Array CpInfo := pool [(1, .class_ 2), (0, u "java/lang/Appendable"), (0, .class_ 4), (0, u "java/lang/Object")] 9

/-- java/lang/Appendable -/
def k11 : Class := { plain "java/lang/Appendable" (some 0) with
  accessFlags := 1537
  interfaces := #[]
  cf := some (fileOf pool11 1 #[] #[] 1537 3 #[] #[])
  fields := #[]
  methods := #[]
  instanceTypes := #[]
  staticTypes := #[]
  resolved := Array.replicate 14 none
  statics := none }

def pool12 : Array CpInfo := pool [(1, .class_ 2), (0, u "java/lang/String"), (0, .methodref 4 5), (0, .class_ 6), (0, .nameAndType 7 8), (0, u "java/lang/Object"), (0, u "<init>"), (0, u "()V"), (1, .class_ 12), (1, u "java/lang/AbstractStringBuilder"), (0, u "EMPTYVALUE"), (0, u "[B"), (0, .fieldref 10 16), (0, .nameAndType 17 14), (0, u "value"), (0, .fieldref 1 19), (0, .nameAndType 20 21), (0, u "COMPACT_STRINGS"), (0, u "Z"), (0, .fieldref 10 23), (0, .nameAndType 24 25), (0, u "coder"), (0, u "B"), (0, .methodref 27 28), (0, .class_ 29), (0, .nameAndType 30 31), (0, u "java/lang/StringUTF16"), (0, u "newBytesFor"), (0, u "(I)[B"), (0, .methodref 1 33), (0, .nameAndType 34 35), (0, u "length"), (0, u "()I"), (3, .integer 2147483647), (0, .methodref 1 41), (0, .nameAndType 24 42), (0, u "()B"), (2, u "append"), (0, u "(Ljava/lang/String;)Ljava/lang/AbstractStringBuilder;"), (1, .class_ 49), (0, u "java/lang/CharSequence"), (19, u "(Ljava/lang/String;)V"), (5, u "maybeLatin1"), (3, .fieldref 10 80), (0, .nameAndType 81 82), (0, u "count"), (0, u "I"), (0, .methodref 10 84), (0, .nameAndType 85 86), (0, u "isLatin1"), (0, u "()Z"), (1, .class_ 90), (1, u "java/lang/StringLatin1"), (9, .methodref 10 101), (0, .nameAndType 102 103), (0, u "ensureCapacityInternal"), (0, u "(I)V"), (0, .methodref 10 105), (0, .nameAndType 106 107), (0, u "newCapacity"), (0, u "(I)I"), (0, .methodref 109 110), (0, .class_ 111), (0, .nameAndType 112 113), (0, u "java/util/Arrays"), (0, u "copyOf"), (0, u "([BI)[B"), (0, .methodref 115 116), (0, .class_ 117), (0, .nameAndType 118 119), (0, u "jdk/internal/util/ArraysSupport"), (0, u "newLength"), (0, u "(III)I"), (5, .methodref 88 126), (0, .nameAndType 127 128), (0, u "inflate"), (0, u "([BI[BII)V"), (66, .methodref 10 196), (0, .nameAndType 127 8), (11, .methodref 10 209), (0, .nameAndType 210 211), (0, u "putStringAt"), (0, u "(ILjava/lang/String;)V"), (5, u "inflateIfNeededFor"), (2, .nameAndType 221 222), (0, u "getBytes"), (0, u "([BIB)V"), (174, .methodref 10 398), (0, .nameAndType 217 69), (0, .methodref 1 220), (3, u "()[B"), (40, .class_ 445), (0, u "java/lang/Appendable"), (106, u "getValue")] 56

def k12m0 : Method := { name := "<init>", desc := "()V", sig := { parameters := [], returnType := none }, accessFlags := 0, code := none }
def k12c1 : Code := { maxStack := 2, maxLocals := 2, code := jdk_68_method_2_code, exceptionTable := #[], attributes := #[] }
def k12m1 : Method := { name := "<init>", desc := "(I)V", sig := { parameters := [.int], returnType := none }, accessFlags := 0, code := some k12c1 }
def k12c2 : Code := { maxStack := 1, maxLocals := 1, code := jdk_68_method_6_code, exceptionTable := #[], attributes := #[] }
def k12m2 : Method := { name := "length", desc := "()I", sig := { parameters := [], returnType := some .int }, accessFlags := 1, code := some k12c2 }
def k12c3 : Code := { maxStack := 4, maxLocals := 3, code := jdk_68_method_9_code, exceptionTable := #[], attributes := #[] }
def k12m3 : Method := { name := "ensureCapacityInternal", desc := "(I)V", sig := { parameters := [.int], returnType := none }, accessFlags := 2, code := some k12c3 }
def k12c4 : Code := { maxStack := 5, maxLocals := 6, code := jdk_68_method_10_code, exceptionTable := #[], attributes := #[] }
def k12m4 : Method := { name := "newCapacity", desc := "(I)I", sig := { parameters := [.int], returnType := some .int }, accessFlags := 2, code := some k12c4 }
def k12c5 : Code := { maxStack := 5, maxLocals := 2, code := jdk_68_method_11_code, exceptionTable := #[], attributes := #[] }
def k12m5 : Method := { name := "inflate", desc := "()V", sig := { parameters := [], returnType := none }, accessFlags := 2, code := some k12c5 }
def k12c6 : Code := { maxStack := 3, maxLocals := 3, code := jdk_68_method_22_code, exceptionTable := #[], attributes := #[] }
def k12m6 : Method := { name := "append", desc := "(Ljava/lang/String;)Ljava/lang/AbstractStringBuilder;", sig := { parameters := [(.object "java/lang/String")], returnType := some (.object "java/lang/AbstractStringBuilder") }, accessFlags := 1, code := some k12c6 }
def k12c7 : Code := { maxStack := 1, maxLocals := 1, code := jdk_68_method_64_code, exceptionTable := #[], attributes := #[] }
def k12m7 : Method := { name := "getValue", desc := "()[B", sig := { parameters := [], returnType := some (.array .byte) }, accessFlags := 16, code := some k12c7 }
def k12c8 : Code := { maxStack := 1, maxLocals := 1, code := jdk_68_method_68_code, exceptionTable := #[], attributes := #[] }
def k12m8 : Method := { name := "isLatin1", desc := "()Z", sig := { parameters := [], returnType := some .boolean }, accessFlags := 16, code := some k12c8 }
def k12c9 : Code := { maxStack := 2, maxLocals := 2, code := jdk_68_method_71_code, exceptionTable := #[], attributes := #[] }
def k12m9 : Method := { name := "inflateIfNeededFor", desc := "(Ljava/lang/String;)V", sig := { parameters := [(.object "java/lang/String")], returnType := none }, accessFlags := 2, code := some k12c9 }
def k12c10 : Code := { maxStack := 4, maxLocals := 3, code := jdk_68_method_73_code, exceptionTable := #[], attributes := #[] }
def k12m10 : Method := { name := "putStringAt", desc := "(ILjava/lang/String;)V", sig := { parameters := [.int, (.object "java/lang/String")], returnType := none }, accessFlags := 2, code := some k12c10 }
/-- java/lang/AbstractStringBuilder -/
def k12 : Class := { plain "java/lang/AbstractStringBuilder" (some 0) with
  accessFlags := 1056
  interfaces := #[11, 4]
  cf := some (fileOf pool12 10 #[] #[{ accessFlags := 0, nameIndex := 7, descriptorIndex := 8, attributes := #[] }, { accessFlags := 0, nameIndex := 7, descriptorIndex := 103, attributes := #[] }, { accessFlags := 1, nameIndex := 34, descriptorIndex := 35, attributes := #[] }, { accessFlags := 2, nameIndex := 102, descriptorIndex := 103, attributes := #[] }, { accessFlags := 2, nameIndex := 106, descriptorIndex := 107, attributes := #[] }, { accessFlags := 2, nameIndex := 127, descriptorIndex := 8, attributes := #[] }, { accessFlags := 1, nameIndex := 45, descriptorIndex := 46, attributes := #[] }, { accessFlags := 16, nameIndex := 552, descriptorIndex := 403, attributes := #[] }, { accessFlags := 16, nameIndex := 85, descriptorIndex := 86, attributes := #[] }, { accessFlags := 2, nameIndex := 217, descriptorIndex := 69, attributes := #[] }, { accessFlags := 2, nameIndex := 210, descriptorIndex := 211, attributes := #[] }] 1056 4 #[444, 48] #[{ accessFlags := 0, nameIndex := 17, descriptorIndex := 14, attributes := #[] }, { accessFlags := 0, nameIndex := 24, descriptorIndex := 25, attributes := #[] }, { accessFlags := 0, nameIndex := 75, descriptorIndex := 21, attributes := #[] }, { accessFlags := 0, nameIndex := 81, descriptorIndex := 82, attributes := #[] }, { accessFlags := 26, nameIndex := 13, descriptorIndex := 14, attributes := #[] }])
  fields := #[{ name := "value", type := (.array .byte), accessFlags := 0, slot := 0, constantValue := 0 }, { name := "coder", type := .byte, accessFlags := 0, slot := 1, constantValue := 0 }, { name := "maybeLatin1", type := .boolean, accessFlags := 0, slot := 2, constantValue := 0 }, { name := "count", type := .int, accessFlags := 0, slot := 3, constantValue := 0 }, { name := "EMPTYVALUE", type := (.array .byte), accessFlags := 26, slot := 0, constantValue := 0 }]
  methods := #[k12m0, k12m1, k12m2, k12m3, k12m4, k12m5, k12m6, k12m7, k12m8, k12m9, k12m10]
  instanceTypes := #[(.array .byte), .byte, .boolean, .int]
  staticTypes := #[(.array .byte)]
  resolved := Array.replicate 609 none
  statics := none }

def pool13 : Array CpInfo := pool [(1, .methodref 2 3), (0, .class_ 4), (0, .nameAndType 5 6), (0, u "java/lang/AbstractStringBuilder"), (0, u "<init>"), (0, u "(I)V"), (11, .class_ 20), (1, u "java/lang/String"), (3, .class_ 26), (1, u "java/lang/StringBuilder"), (0, u "append"), (0, u "(Ljava/lang/String;)Ljava/lang/StringBuilder;"), (0, .methodref 2 30), (0, .nameAndType 27 31), (0, u "(Ljava/lang/String;)Ljava/lang/AbstractStringBuilder;"), (105, .methodref 18 138), (0, .nameAndType 5 139), (0, u "(Ljava/lang/StringBuilder;)V"), (5, u "()V"), (10, u "()I"), (186, .methodref 2 344), (0, .nameAndType 345 156), (0, u "length"), (3, .class_ 350), (0, u "java/lang/Appendable"), (0, .class_ 352), (0, u "java/io/Serializable"), (0, .class_ 354), (0, u "java/lang/Comparable"), (0, .class_ 356), (0, u "java/lang/CharSequence"), (0, u "serialVersionUID"), (0, u "J"), (40, u "toString"), (0, u "()Ljava/lang/String;")] 21

def k13c0 : Code := { maxStack := 2, maxLocals := 1, code := jdk_67_method_1_code, exceptionTable := #[], attributes := #[] }
def k13m0 : Method := { name := "<init>", desc := "()V", sig := { parameters := [], returnType := none }, accessFlags := 1, code := some k13c0 }
def k13c1 : Code := { maxStack := 2, maxLocals := 2, code := jdk_67_method_7_code, exceptionTable := #[], attributes := #[] }
def k13m1 : Method := { name := "append", desc := "(Ljava/lang/String;)Ljava/lang/StringBuilder;", sig := { parameters := [(.object "java/lang/String")], returnType := some (.object "java/lang/StringBuilder") }, accessFlags := 1, code := some k13c1 }
def k13c2 : Code := { maxStack := 3, maxLocals := 1, code := jdk_67_method_42_code, exceptionTable := #[], attributes := #[] }
def k13m2 : Method := { name := "toString", desc := "()Ljava/lang/String;", sig := { parameters := [], returnType := some (.object "java/lang/String") }, accessFlags := 1, code := some k13c2 }
def k13c3 : Code := { maxStack := 1, maxLocals := 1, code := jdk_67_method_93_code, exceptionTable := #[], attributes := #[] }
def k13m3 : Method := { name := "length", desc := "()I", sig := { parameters := [], returnType := some .int }, accessFlags := 4161, code := some k13c3 }
/-- java/lang/StringBuilder -/
def k13 : Class := { plain "java/lang/StringBuilder" (some 12) with
  accessFlags := 49
  interfaces := #[11, 2, 3, 4]
  cf := some (fileOf pool13 24 #[] #[{ accessFlags := 1, nameIndex := 5, descriptorIndex := 145, attributes := #[] }, { accessFlags := 1, nameIndex := 27, descriptorIndex := 28, attributes := #[] }, { accessFlags := 1, nameIndex := 399, descriptorIndex := 400, attributes := #[] }, { accessFlags := 4161, nameIndex := 345, descriptorIndex := 156, attributes := #[] }] 49 2 #[349, 351, 353, 355] #[{ accessFlags := 24, nameIndex := 357, descriptorIndex := 358, attributes := #[] }])
  fields := #[{ name := "serialVersionUID", type := .long, accessFlags := 24, slot := 0, constantValue := 0 }]
  methods := #[k13m0, k13m1, k13m2, k13m3]
  instanceTypes := #[(.array .byte), .byte, .boolean, .int]
  staticTypes := #[.long]
  resolved := Array.replicate 422 none
  statics := none }

def pool14 : Array CpInfo := pool [(2, .class_ 4), (1, u "java/lang/Object"), (0, u "<init>"), (0, u "()V"), (1, .class_ 10), (1, u "java/lang/System"), (0, u "allowSecurityManager"), (0, u "I"), (16, u "cons"), (0, u "Ljava/io/Console;"), (77, .class_ 110), (1, u "java/lang/System$CallersHolder"), (43, u "initialErrStream"), (0, u "Ljava/io/PrintStream;"), (19, u "security"), (0, u "Ljava/lang/SecurityManager;"), (31, .class_ 209), (0, u "java/lang/System$1"), (7, u "props"), (0, u "Ljava/util/Properties;"), (2, u "lineSeparator"), (0, u "Ljava/lang/String;"), (96, .class_ 321), (1, u "java/lang/System$LoggerFinder"), (5, .class_ 328), (0, u "java/lang/System$Logger"), (67, u "err"), (2, u "out"), (91, u "notSupportedJnuEncoding"), (15, u "in"), (17, u "initialIn"), (0, u "Ljava/io/InputStream;"), (35, u "bootLayer"), (0, u "Ljava/lang/ModuleLayer;"), (99, .class_ 664), (0, u "java/lang/System$2"), (9, u "NEVER"), (2, u "MAYBE"), (49, u "arraycopy"), (0, u "(Ljava/lang/Object;ILjava/lang/Object;II)V"), (72, .class_ 802), (0, u "java/lang/System$Logger$Level")] 31

def k14m0 : Method := { name := "<init>", desc := "()V", sig := { parameters := [], returnType := none }, accessFlags := 2, code := none }
def k14m1 : Method := { name := "arraycopy", desc := "(Ljava/lang/Object;ILjava/lang/Object;II)V", sig := { parameters := [(.object "java/lang/Object"), .int, (.object "java/lang/Object"), .int, .int], returnType := none }, accessFlags := 265, code := none }
/-- java/lang/System -/
def k14 : Class := { plain "java/lang/System" (some 0) with
  accessFlags := 49
  interfaces := #[]
  cf := some (fileOf pool14 8 #[.nestMembers #[319, 327, 801, 108, 663, 208]] #[{ accessFlags := 2, nameIndex := 5, descriptorIndex := 6, attributes := #[] }, { accessFlags := 265, nameIndex := 727, descriptorIndex := 728, attributes := #[] }] 49 2 #[] #[{ accessFlags := 25, nameIndex := 507, descriptorIndex := 526, attributes := #[] }, { accessFlags := 25, nameIndex := 399, descriptorIndex := 155, attributes := #[] }, { accessFlags := 25, nameIndex := 396, descriptorIndex := 155, attributes := #[] }, { accessFlags := 10, nameIndex := 525, descriptorIndex := 526, attributes := #[] }, { accessFlags := 26, nameIndex := 674, descriptorIndex := 12, attributes := #[] }, { accessFlags := 26, nameIndex := 677, descriptorIndex := 12, attributes := #[] }, { accessFlags := 10, nameIndex := 11, descriptorIndex := 12, attributes := #[] }, { accessFlags := 74, nameIndex := 175, descriptorIndex := 176, attributes := #[] }, { accessFlags := 10, nameIndex := 491, descriptorIndex := 222, attributes := #[] }, { accessFlags := 74, nameIndex := 29, descriptorIndex := 30, attributes := #[] }, { accessFlags := 74, nameIndex := 154, descriptorIndex := 155, attributes := #[] }, { accessFlags := 10, nameIndex := 217, descriptorIndex := 218, attributes := #[] }, { accessFlags := 10, nameIndex := 221, descriptorIndex := 222, attributes := #[] }, { accessFlags := 8, nameIndex := 562, descriptorIndex := 563, attributes := #[] }])
  fields := #[{ name := "in", type := (.object "java/io/InputStream"), accessFlags := 25, slot := 0, constantValue := 0 }, { name := "out", type := (.object "java/io/PrintStream"), accessFlags := 25, slot := 1, constantValue := 0 }, { name := "err", type := (.object "java/io/PrintStream"), accessFlags := 25, slot := 2, constantValue := 0 }, { name := "initialIn", type := (.object "java/io/InputStream"), accessFlags := 10, slot := 3, constantValue := 0 }, { name := "NEVER", type := .int, accessFlags := 26, slot := 4, constantValue := 0 }, { name := "MAYBE", type := .int, accessFlags := 26, slot := 5, constantValue := 0 }, { name := "allowSecurityManager", type := .int, accessFlags := 10, slot := 6, constantValue := 0 }, { name := "security", type := (.object "java/lang/SecurityManager"), accessFlags := 74, slot := 7, constantValue := 0 }, { name := "notSupportedJnuEncoding", type := (.object "java/lang/String"), accessFlags := 10, slot := 8, constantValue := 0 }, { name := "cons", type := (.object "java/io/Console"), accessFlags := 74, slot := 9, constantValue := 0 }, { name := "initialErrStream", type := (.object "java/io/PrintStream"), accessFlags := 74, slot := 10, constantValue := 0 }, { name := "props", type := (.object "java/util/Properties"), accessFlags := 10, slot := 11, constantValue := 0 }, { name := "lineSeparator", type := (.object "java/lang/String"), accessFlags := 10, slot := 12, constantValue := 0 }, { name := "bootLayer", type := (.object "java/lang/ModuleLayer"), accessFlags := 8, slot := 13, constantValue := 0 }]
  methods := #[k14m0, k14m1]
  instanceTypes := #[]
  staticTypes := #[(.object "java/io/InputStream"), (.object "java/io/PrintStream"), (.object "java/io/PrintStream"), (.object "java/io/InputStream"), .int, .int, .int, (.object "java/lang/SecurityManager"), (.object "java/lang/String"), (.object "java/io/Console"), (.object "java/io/PrintStream"), (.object "java/util/Properties"), (.object "java/lang/String"), (.object "java/lang/ModuleLayer")]
  resolved := Array.replicate 834 none
  statics := none }

def pool15 : Array CpInfo := pool [(2, .class_ 4), (1, u "java/lang/Object"), (0, u "<init>"), (0, u "()V"), (7, .class_ 16), (1, u "java/util/Arrays"), (57, .class_ 76), (1, u "java/util/Arrays$NaturalOrder"), (36, .class_ 115), (1, u "java/util/Arrays$LegacyMergeSort"), (1, u "Z"), (21, u "copyOfRange"), (10, .methodref 151 152), (0, .class_ 153), (0, .nameAndType 154 155), (0, u "java/lang/System"), (0, u "arraycopy"), (0, u "(Ljava/lang/Object;ILjava/lang/Object;II)V"), (146, u "copyOf"), (1, .methodref 305 306), (0, .class_ 307), (0, .nameAndType 308 309), (0, u "java/lang/Math"), (0, u "min"), (0, u "(II)I"), (29, .methodref 14 340), (0, .nameAndType 341 342), (0, u "copyOfRangeByte"), (0, u "([BII)[B"), (0, .methodref 14 344), (0, .nameAndType 345 346), (0, u "checkLength"), (0, u "(II)V"), (28, .class_ 376), (0, u "java/util/Arrays$ArrayList"), (68, u "$assertionsDisabled"), (269, u "MIN_ARRAY_SORT_GRAN"), (0, u "I"), (2, u "INSERTIONSORT_THRESHOLD"), (149, u "([BI)[B"), (105, .class_ 976), (0, u "java/util/Arrays$ArrayItr")] 52

def k15m0 : Method := { name := "<init>", desc := "()V", sig := { parameters := [], returnType := none }, accessFlags := 2, code := none }
def k15c1 : Code := { maxStack := 6, maxLocals := 3, code := jdk_65_method_121_code, exceptionTable := #[], attributes := #[] }
def k15m1 : Method := { name := "copyOf", desc := "([BI)[B", sig := { parameters := [(.array .byte), .int], returnType := some (.array .byte) }, accessFlags := 9, code := some k15c1 }
def k15c2 : Code := { maxStack := 4, maxLocals := 2, code := jdk_65_method_131_code, exceptionTable := #[], attributes := #[] }
def k15m2 : Method := { name := "checkLength", desc := "(II)V", sig := { parameters := [.int, .int], returnType := none }, accessFlags := 10, code := some k15c2 }
def k15c3 : Code := { maxStack := 3, maxLocals := 3, code := jdk_65_method_132_code, exceptionTable := #[], attributes := #[] }
def k15m3 : Method := { name := "copyOfRange", desc := "([BII)[B", sig := { parameters := [(.array .byte), .int, .int], returnType := some (.array .byte) }, accessFlags := 9, code := some k15c3 }
def k15c4 : Code := { maxStack := 6, maxLocals := 5, code := jdk_65_method_133_code, exceptionTable := #[], attributes := #[] }
def k15m4 : Method := { name := "copyOfRangeByte", desc := "([BII)[B", sig := { parameters := [(.array .byte), .int, .int], returnType := some (.array .byte) }, accessFlags := 10, code := some k15c4 }
/-- java/util/Arrays -/
def k15 : Class := { plain "java/util/Arrays" (some 0) with
  accessFlags := 49
  interfaces := #[]
  cf := some (fileOf pool15 14 #[.nestMembers #[975, 375, 113, 74]] #[{ accessFlags := 2, nameIndex := 5, descriptorIndex := 6, attributes := #[] }, { accessFlags := 9, nameIndex := 302, descriptorIndex := 869, attributes := #[] }, { accessFlags := 10, nameIndex := 345, descriptorIndex := 346, attributes := #[] }, { accessFlags := 9, nameIndex := 139, descriptorIndex := 342, attributes := #[] }, { accessFlags := 10, nameIndex := 341, descriptorIndex := 342, attributes := #[] }] 49 2 #[] #[{ accessFlags := 26, nameIndex := 715, descriptorIndex := 716, attributes := #[] }, { accessFlags := 26, nameIndex := 719, descriptorIndex := 716, attributes := #[] }, { accessFlags := 4120, nameIndex := 445, descriptorIndex := 117, attributes := #[] }])
  fields := #[{ name := "MIN_ARRAY_SORT_GRAN", type := .int, accessFlags := 26, slot := 0, constantValue := 0 }, { name := "INSERTIONSORT_THRESHOLD", type := .int, accessFlags := 26, slot := 1, constantValue := 0 }, { name := "$assertionsDisabled", type := .boolean, accessFlags := 4120, slot := 2, constantValue := 0 }]
  methods := #[k15m0, k15m1, k15m2, k15m3, k15m4]
  instanceTypes := #[]
  staticTypes := #[.int, .int, .boolean]
  resolved := Array.replicate 1029 none
  statics := none }

def pool16 : Array CpInfo := pool [(1, .class_ 2), (0, u "java/lang/Math"), (1, .class_ 6), (1, u "java/lang/Object"), (0, u "<init>"), (0, u "()V"), (89, .class_ 100), (1, u "java/lang/Math$RandomNumberGeneratorHolder"), (71, u "negativeZeroFloatBits"), (0, u "J"), (2, u "negativeZeroDoubleBits"), (21, u "max"), (2, u "min"), (43, u "$assertionsDisabled"), (0, u "Z"), (88, u "(II)I"), (2, u "twoToTheDoubleScaleDown"), (0, u "D"), (4, u "twoToTheDoubleScaleUp"), (9, u "E"), (3, u "PI"), (2, u "TAU"), (2, u "DEGREES_TO_RADIANS"), (0, u "RADIANS_TO_DEGREES")] 94

def k16m0 : Method := { name := "<init>", desc := "()V", sig := { parameters := [], returnType := none }, accessFlags := 2, code := none }
def k16c1 : Code := { maxStack := 2, maxLocals := 2, code := jdk_29_method_65_code, exceptionTable := #[], attributes := #[] }
def k16m1 : Method := { name := "max", desc := "(II)I", sig := { parameters := [.int, .int], returnType := some .int }, accessFlags := 9, code := some k16c1 }
def k16c2 : Code := { maxStack := 2, maxLocals := 2, code := jdk_29_method_69_code, exceptionTable := #[], attributes := #[] }
def k16m2 : Method := { name := "min", desc := "(II)I", sig := { parameters := [.int, .int], returnType := some .int }, accessFlags := 9, code := some k16c2 }
/-- java/lang/Math -/
def k16 : Class := { plain "java/lang/Math" (some 0) with
  accessFlags := 49
  interfaces := #[]
  cf := some (fileOf pool16 1 #[.nestMembers #[98]] #[{ accessFlags := 2, nameIndex := 7, descriptorIndex := 8, attributes := #[] }, { accessFlags := 9, nameIndex := 198, descriptorIndex := 335, attributes := #[] }, { accessFlags := 9, nameIndex := 201, descriptorIndex := 335, attributes := #[] }] 49 4 #[] #[{ accessFlags := 25, nameIndex := 354, descriptorIndex := 339, attributes := #[] }, { accessFlags := 25, nameIndex := 358, descriptorIndex := 339, attributes := #[] }, { accessFlags := 25, nameIndex := 361, descriptorIndex := 339, attributes := #[] }, { accessFlags := 26, nameIndex := 364, descriptorIndex := 339, attributes := #[] }, { accessFlags := 26, nameIndex := 365, descriptorIndex := 339, attributes := #[] }, { accessFlags := 26, nameIndex := 172, descriptorIndex := 173, attributes := #[] }, { accessFlags := 26, nameIndex := 176, descriptorIndex := 173, attributes := #[] }, { accessFlags := 8, nameIndex := 344, descriptorIndex := 339, attributes := #[] }, { accessFlags := 8, nameIndex := 338, descriptorIndex := 339, attributes := #[] }, { accessFlags := 4120, nameIndex := 245, descriptorIndex := 246, attributes := #[] }])
  fields := #[{ name := "E", type := .double, accessFlags := 25, slot := 0, constantValue := 0 }, { name := "PI", type := .double, accessFlags := 25, slot := 1, constantValue := 0 }, { name := "TAU", type := .double, accessFlags := 25, slot := 2, constantValue := 0 }, { name := "DEGREES_TO_RADIANS", type := .double, accessFlags := 26, slot := 3, constantValue := 0 }, { name := "RADIANS_TO_DEGREES", type := .double, accessFlags := 26, slot := 4, constantValue := 0 }, { name := "negativeZeroFloatBits", type := .long, accessFlags := 26, slot := 5, constantValue := 0 }, { name := "negativeZeroDoubleBits", type := .long, accessFlags := 26, slot := 6, constantValue := 0 }, { name := "twoToTheDoubleScaleUp", type := .double, accessFlags := 8, slot := 7, constantValue := 0 }, { name := "twoToTheDoubleScaleDown", type := .double, accessFlags := 8, slot := 8, constantValue := 0 }, { name := "$assertionsDisabled", type := .boolean, accessFlags := 4120, slot := 9, constantValue := 0 }]
  methods := #[k16m0, k16m1, k16m2]
  instanceTypes := #[]
  staticTypes := #[.double, .double, .double, .double, .double, .long, .long, .double, .double, .boolean]
  resolved := Array.replicate 460 none
  statics := none }

def pool17 : Array CpInfo := pool [(3, .class_ 4), (0, u "java/lang/String"), (1, .class_ 8), (1, u "java/lang/Object"), (0, u "<init>"), (0, u "()V"), (0, .methodref 12 13), (0, .class_ 14), (0, .nameAndType 15 16), (0, u "java/lang/StringUTF16"), (0, u "newBytesLength"), (0, u "(I)I"), (3, .integer 1073741823), (23, .fieldref 12 45), (0, .nameAndType 46 47), (0, u "$assertionsDisabled"), (0, u "Z"), (0, .methodref 12 49), (0, .nameAndType 50 51), (0, u "length"), (0, u "([B)I"), (7, .fieldref 12 60), (0, .nameAndType 61 62), (0, u "HI_BYTE_SHIFT"), (0, u "I"), (0, .fieldref 12 64), (0, .nameAndType 65 62), (0, u "LO_BYTE_SHIFT"), (5, .methodref 12 72), (0, .nameAndType 73 74), (0, u "getChar"), (0, u "([BI)C"), (24, u "(II[B)V"), (7, .methodref 12 108), (0, .nameAndType 109 110), (0, u "newBytesFor"), (0, u "(I)[B"), (0, .methodref 12 112), (0, .nameAndType 113 114), (0, u "putChar"), (0, u "([BII)V"), (0, .methodref 12 116), (0, .nameAndType 117 118), (0, u "compress"), (0, u "([CI[BII)I"), (0, .methodref 12 120), (0, .nameAndType 121 122), (0, u "toBytes"), (0, u "([CII)[B"), (17, u "inflate"), (0, u "([BI[BII)V"), (31, .methodref 12 174), (0, .nameAndType 175 99), (0, u "checkBoundsOffCount"), (85, u "coderFromArrayLen"), (0, u "([BI)B"), (18, u "(III)I"), (87, .class_ 371), (1, u "java/lang/StringUTF16$LinesSpliterator"), (47, .methodref 3 420), (0, .nameAndType 175 281), (9, u "MAX_LENGTH"), (44, u "(C)[B"), (151, .class_ 628), (0, u "java/lang/StringUTF16$CodePointsSpliterator"), (0, .class_ 630), (0, u "java/lang/StringUTF16$CharsSpliterator")] 4

def k17m0 : Method := { name := "<init>", desc := "()V", sig := { parameters := [], returnType := none }, accessFlags := 0, code := none }
def k17c1 : Code := { maxStack := 1, maxLocals := 1, code := jdk_52_method_2_code, exceptionTable := #[], attributes := #[] }
def k17m1 : Method := { name := "newBytesFor", desc := "(I)[B", sig := { parameters := [.int], returnType := some (.array .byte) }, accessFlags := 9, code := some k17c1 }
def k17c2 : Code := { maxStack := 4, maxLocals := 1, code := jdk_52_method_3_code, exceptionTable := #[], attributes := #[] }
def k17m2 : Method := { name := "newBytesLength", desc := "(I)I", sig := { parameters := [.int], returnType := some .int }, accessFlags := 9, code := some k17c2 }
def k17c3 : Code := { maxStack := 4, maxLocals := 3, code := jdk_52_method_4_code, exceptionTable := #[], attributes := #[] }
def k17m3 : Method := { name := "putChar", desc := "([BII)V", sig := { parameters := [(.array .byte), .int, .int], returnType := none }, accessFlags := 8, code := some k17c3 }
def k17c4 : Code := { maxStack := 3, maxLocals := 2, code := jdk_52_method_5_code, exceptionTable := #[], attributes := #[] }
def k17m4 : Method := { name := "getChar", desc := "([BI)C", sig := { parameters := [(.array .byte), .int], returnType := some .char }, accessFlags := 8, code := some k17c4 }
def k17c5 : Code := { maxStack := 2, maxLocals := 1, code := jdk_52_method_6_code, exceptionTable := #[], attributes := #[] }
def k17m5 : Method := { name := "length", desc := "([B)I", sig := { parameters := [(.array .byte)], returnType := some .int }, accessFlags := 9, code := some k17c5 }
def k17c6 : Code := { maxStack := 4, maxLocals := 5, code := jdk_52_method_14_code, exceptionTable := #[], attributes := #[] }
def k17m6 : Method := { name := "toBytes", desc := "([CII)[B", sig := { parameters := [(.array .char), .int, .int], returnType := some (.array .byte) }, accessFlags := 9, code := some k17c6 }
def k17c7 : Code := { maxStack := 2, maxLocals := 2, code := jdk_52_method_15_code, exceptionTable := #[], attributes := #[] }
def k17m7 : Method := { name := "coderFromArrayLen", desc := "([BI)B", sig := { parameters := [(.array .byte), .int], returnType := some .byte }, accessFlags := 8, code := some k17c7 }
def k17c8 : Code := { maxStack := 5, maxLocals := 6, code := jdk_52_method_16_code, exceptionTable := #[], attributes := #[] }
def k17m8 : Method := { name := "compress", desc := "([CII)[B", sig := { parameters := [(.array .char), .int, .int], returnType := some (.array .byte) }, accessFlags := 9, code := some k17c8 }
def k17c9 : Code := { maxStack := 3, maxLocals := 7, code := jdk_52_method_21_code, exceptionTable := #[], attributes := #[] }
def k17m9 : Method := { name := "compress", desc := "([CI[BII)I", sig := { parameters := [(.array .char), .int, (.array .byte), .int, .int], returnType := some .int }, accessFlags := 9, code := some k17c9 }
def k17c10 : Code := { maxStack := 3, maxLocals := 2, code := jdk_52_method_24_code, exceptionTable := #[], attributes := #[] }
def k17m10 : Method := { name := "toBytes", desc := "(C)[B", sig := { parameters := [.char], returnType := some (.array .byte) }, accessFlags := 9, code := some k17c10 }
def k17c11 : Code := { maxStack := 4, maxLocals := 6, code := jdk_52_method_86_code, exceptionTable := #[], attributes := #[] }
def k17m11 : Method := { name := "inflate", desc := "([BI[BII)V", sig := { parameters := [(.array .byte), .int, (.array .byte), .int, .int], returnType := none }, accessFlags := 9, code := some k17c11 }
def k17c12 : Code := { maxStack := 3, maxLocals := 3, code := jdk_52_method_94_code, exceptionTable := #[], attributes := #[] }
def k17m12 : Method := { name := "checkBoundsOffCount", desc := "(II[B)V", sig := { parameters := [.int, .int, (.array .byte)], returnType := none }, accessFlags := 9, code := some k17c12 }
/-- java/lang/StringUTF16 -/
def k17 : Class := { plain "java/lang/StringUTF16" (some 0) with
  accessFlags := 48
  interfaces := #[]
  cf := some (fileOf pool17 12 #[.nestMembers #[627, 629, 369]] #[{ accessFlags := 0, nameIndex := 9, descriptorIndex := 10, attributes := #[] }, { accessFlags := 9, nameIndex := 109, descriptorIndex := 110, attributes := #[] }, { accessFlags := 9, nameIndex := 15, descriptorIndex := 16, attributes := #[] }, { accessFlags := 8, nameIndex := 113, descriptorIndex := 114, attributes := #[] }, { accessFlags := 8, nameIndex := 73, descriptorIndex := 74, attributes := #[] }, { accessFlags := 9, nameIndex := 50, descriptorIndex := 51, attributes := #[] }, { accessFlags := 9, nameIndex := 121, descriptorIndex := 122, attributes := #[] }, { accessFlags := 8, nameIndex := 261, descriptorIndex := 262, attributes := #[] }, { accessFlags := 9, nameIndex := 117, descriptorIndex := 122, attributes := #[] }, { accessFlags := 9, nameIndex := 117, descriptorIndex := 118, attributes := #[] }, { accessFlags := 9, nameIndex := 121, descriptorIndex := 475, attributes := #[] }, { accessFlags := 9, nameIndex := 140, descriptorIndex := 141, attributes := #[] }, { accessFlags := 9, nameIndex := 175, descriptorIndex := 99, attributes := #[] }] 48 6 #[] #[{ accessFlags := 26, nameIndex := 61, descriptorIndex := 62, attributes := #[] }, { accessFlags := 26, nameIndex := 65, descriptorIndex := 62, attributes := #[] }, { accessFlags := 24, nameIndex := 430, descriptorIndex := 62, attributes := #[] }, { accessFlags := 4120, nameIndex := 46, descriptorIndex := 47, attributes := #[] }])
  fields := #[{ name := "HI_BYTE_SHIFT", type := .int, accessFlags := 26, slot := 0, constantValue := 0 }, { name := "LO_BYTE_SHIFT", type := .int, accessFlags := 26, slot := 1, constantValue := 0 }, { name := "MAX_LENGTH", type := .int, accessFlags := 24, slot := 2, constantValue := 0 }, { name := "$assertionsDisabled", type := .boolean, accessFlags := 4120, slot := 3, constantValue := 0 }]
  methods := #[k17m0, k17m1, k17m2, k17m3, k17m4, k17m5, k17m6, k17m7, k17m8, k17m9, k17m10, k17m11, k17m12]
  instanceTypes := #[]
  staticTypes := #[.int, .int, .int, .boolean]
  resolved := Array.replicate 635 none
  statics := some 1 }

def pool18 : Array CpInfo := pool [(9, u "<init>"), (6, .class_ 18), (1, u "java/lang/Object"), (0, u "()V"), (1, .class_ 23), (1, u "jdk/internal/util/ArraysSupport"), (0, u "LOG2_ARRAY_LONG_INDEX_SCALE"), (0, u "I"), (2, u "U"), (0, u "Ljdk/internal/misc/Unsafe;"), (8, u "BIG_ENDIAN"), (0, u "Z"), (8, u "LOG2_BYTE_BIT_SIZE"), (4, u "LOG2_ARRAY_INT_INDEX_SCALE"), (54, u "JLA"), (0, u "Ljdk/internal/access/JavaLangAccess;"), (11, u "LOG2_ARRAY_BOOLEAN_INDEX_SCALE"), (9, u "LOG2_ARRAY_BYTE_INDEX_SCALE"), (5, u "LOG2_ARRAY_CHAR_INDEX_SCALE"), (5, u "LOG2_ARRAY_SHORT_INDEX_SCALE"), (18, u "LOG2_ARRAY_FLOAT_INDEX_SCALE"), (24, u "LOG2_ARRAY_DOUBLE_INDEX_SCALE"), (6, .methodref 195 196), (0, .class_ 197), (0, .nameAndType 198 199), (0, u "java/lang/Math"), (0, u "max"), (0, u "(II)I"), (0, .integer 2147483639), (76, u "T_BOOLEAN"), (2, u "T_CHAR"), (1, u "T_FLOAT"), (1, u "T_DOUBLE"), (1, u "T_BYTE"), (1, u "T_SHORT"), (1, u "T_INT"), (1, u "T_LONG"), (1, u "SOFT_MAX_ARRAY_LENGTH"), (56, u "newLength"), (0, u "(III)I")] 25

def k18m0 : Method := { name := "<init>", desc := "()V", sig := { parameters := [], returnType := none }, accessFlags := 2, code := none }
def k18c1 : Code := { maxStack := 3, maxLocals := 4, code := jdk_48_method_27_code, exceptionTable := #[], attributes := #[] }
def k18m1 : Method := { name := "newLength", desc := "(III)I", sig := { parameters := [.int, .int, .int], returnType := some .int }, accessFlags := 9, code := some k18c1 }
/-- jdk/internal/util/ArraysSupport -/
def k18 : Class := { plain "jdk/internal/util/ArraysSupport" (some 0) with
  accessFlags := 33
  interfaces := #[]
  cf := some (fileOf pool18 21 #[] #[{ accessFlags := 2, nameIndex := 9, descriptorIndex := 19, attributes := #[] }, { accessFlags := 9, nameIndex := 351, descriptorIndex := 352, attributes := #[] }] 33 16 #[] #[{ accessFlags := 24, nameIndex := 28, descriptorIndex := 29, attributes := #[] }, { accessFlags := 26, nameIndex := 38, descriptorIndex := 39, attributes := #[] }, { accessFlags := 25, nameIndex := 121, descriptorIndex := 25, attributes := #[] }, { accessFlags := 25, nameIndex := 131, descriptorIndex := 25, attributes := #[] }, { accessFlags := 25, nameIndex := 137, descriptorIndex := 25, attributes := #[] }, { accessFlags := 25, nameIndex := 143, descriptorIndex := 25, attributes := #[] }, { accessFlags := 25, nameIndex := 53, descriptorIndex := 25, attributes := #[] }, { accessFlags := 25, nameIndex := 24, descriptorIndex := 25, attributes := #[] }, { accessFlags := 25, nameIndex := 162, descriptorIndex := 25, attributes := #[] }, { accessFlags := 25, nameIndex := 187, descriptorIndex := 25, attributes := #[] }, { accessFlags := 26, nameIndex := 48, descriptorIndex := 25, attributes := #[] }, { accessFlags := 25, nameIndex := 277, descriptorIndex := 25, attributes := #[] }, { accessFlags := 25, nameIndex := 280, descriptorIndex := 25, attributes := #[] }, { accessFlags := 25, nameIndex := 282, descriptorIndex := 25, attributes := #[] }, { accessFlags := 25, nameIndex := 284, descriptorIndex := 25, attributes := #[] }, { accessFlags := 25, nameIndex := 286, descriptorIndex := 25, attributes := #[] }, { accessFlags := 25, nameIndex := 288, descriptorIndex := 25, attributes := #[] }, { accessFlags := 25, nameIndex := 290, descriptorIndex := 25, attributes := #[] }, { accessFlags := 25, nameIndex := 292, descriptorIndex := 25, attributes := #[] }, { accessFlags := 26, nameIndex := 108, descriptorIndex := 109, attributes := #[] }, { accessFlags := 25, nameIndex := 294, descriptorIndex := 25, attributes := #[] }])
  fields := #[{ name := "U", type := (.object "jdk/internal/misc/Unsafe"), accessFlags := 24, slot := 0, constantValue := 0 }, { name := "BIG_ENDIAN", type := .boolean, accessFlags := 26, slot := 1, constantValue := 0 }, { name := "LOG2_ARRAY_BOOLEAN_INDEX_SCALE", type := .int, accessFlags := 25, slot := 2, constantValue := 0 }, { name := "LOG2_ARRAY_BYTE_INDEX_SCALE", type := .int, accessFlags := 25, slot := 3, constantValue := 0 }, { name := "LOG2_ARRAY_CHAR_INDEX_SCALE", type := .int, accessFlags := 25, slot := 4, constantValue := 0 }, { name := "LOG2_ARRAY_SHORT_INDEX_SCALE", type := .int, accessFlags := 25, slot := 5, constantValue := 0 }, { name := "LOG2_ARRAY_INT_INDEX_SCALE", type := .int, accessFlags := 25, slot := 6, constantValue := 0 }, { name := "LOG2_ARRAY_LONG_INDEX_SCALE", type := .int, accessFlags := 25, slot := 7, constantValue := 0 }, { name := "LOG2_ARRAY_FLOAT_INDEX_SCALE", type := .int, accessFlags := 25, slot := 8, constantValue := 0 }, { name := "LOG2_ARRAY_DOUBLE_INDEX_SCALE", type := .int, accessFlags := 25, slot := 9, constantValue := 0 }, { name := "LOG2_BYTE_BIT_SIZE", type := .int, accessFlags := 26, slot := 10, constantValue := 0 }, { name := "T_BOOLEAN", type := .int, accessFlags := 25, slot := 11, constantValue := 0 }, { name := "T_CHAR", type := .int, accessFlags := 25, slot := 12, constantValue := 0 }, { name := "T_FLOAT", type := .int, accessFlags := 25, slot := 13, constantValue := 0 }, { name := "T_DOUBLE", type := .int, accessFlags := 25, slot := 14, constantValue := 0 }, { name := "T_BYTE", type := .int, accessFlags := 25, slot := 15, constantValue := 0 }, { name := "T_SHORT", type := .int, accessFlags := 25, slot := 16, constantValue := 0 }, { name := "T_INT", type := .int, accessFlags := 25, slot := 17, constantValue := 0 }, { name := "T_LONG", type := .int, accessFlags := 25, slot := 18, constantValue := 0 }, { name := "JLA", type := (.object "jdk/internal/access/JavaLangAccess"), accessFlags := 26, slot := 19, constantValue := 0 }, { name := "SOFT_MAX_ARRAY_LENGTH", type := .int, accessFlags := 25, slot := 20, constantValue := 0 }]
  methods := #[k18m0, k18m1]
  instanceTypes := #[]
  staticTypes := #[(.object "jdk/internal/misc/Unsafe"), .boolean, .int, .int, .int, .int, .int, .int, .int, .int, .int, .int, .int, .int, .int, .int, .int, .int, .int, (.object "jdk/internal/access/JavaLangAccess"), .int]
  resolved := Array.replicate 378 none
  statics := none }

def pool19 : Array CpInfo := pool [(2, .class_ 4), (1, u "java/lang/Object"), (0, u "<init>"), (0, u "()V"), (17, .class_ 26), (1, u "jdk/internal/util/Preconditions"), (22, u "checkFromIndexSize"), (5, .class_ 56), (0, u "jdk/internal/util/Preconditions$4"), (57, .class_ 115), (0, u "jdk/internal/util/Preconditions$1"), (7, u "SIOOBE_FORMATTER"), (0, u "Ljava/util/function/BiFunction;"), (0, .class_ 126), (0, u "jdk/internal/util/Preconditions$2"), (3, u "AIOOBE_FORMATTER"), (0, .class_ 132), (0, u "jdk/internal/util/Preconditions$3"), (3, u "IOOBE_FORMATTER"), (46, u "(IIILjava/util/function/BiFunction;)I")] 10

def k19m0 : Method := { name := "<init>", desc := "()V", sig := { parameters := [], returnType := none }, accessFlags := 1, code := none }
def k19c1 : Code := { maxStack := 4, maxLocals := 4, code := jdk_41_method_13_code, exceptionTable := #[], attributes := #[] }
def k19m1 : Method := { name := "checkFromIndexSize", desc := "(IIILjava/util/function/BiFunction;)I", sig := { parameters := [.int, .int, .int, (.object "java/util/function/BiFunction")], returnType := some .int }, accessFlags := 9, code := some k19c1 }
/-- jdk/internal/util/Preconditions -/
def k19 : Class := { plain "jdk/internal/util/Preconditions" (some 0) with
  accessFlags := 33
  interfaces := #[]
  cf := some (fileOf pool19 24 #[.nestMembers #[55, 131, 125, 114]] #[{ accessFlags := 1, nameIndex := 5, descriptorIndex := 6, attributes := #[] }, { accessFlags := 9, nameIndex := 49, descriptorIndex := 183, attributes := #[] }] 33 2 #[] #[{ accessFlags := 25, nameIndex := 123, descriptorIndex := 124, attributes := #[] }, { accessFlags := 25, nameIndex := 130, descriptorIndex := 124, attributes := #[] }, { accessFlags := 25, nameIndex := 136, descriptorIndex := 124, attributes := #[] }])
  fields := #[{ name := "SIOOBE_FORMATTER", type := (.object "java/util/function/BiFunction"), accessFlags := 25, slot := 0, constantValue := 0 }, { name := "AIOOBE_FORMATTER", type := (.object "java/util/function/BiFunction"), accessFlags := 25, slot := 1, constantValue := 0 }, { name := "IOOBE_FORMATTER", type := (.object "java/util/function/BiFunction"), accessFlags := 25, slot := 2, constantValue := 0 }]
  methods := #[k19m0, k19m1]
  instanceTypes := #[]
  staticTypes := #[(.object "java/util/function/BiFunction"), (.object "java/util/function/BiFunction"), (.object "java/util/function/BiFunction")]
  resolved := Array.replicate 194 none
  statics := some 2 }

def pool20 : Array CpInfo := pool [(1, u "java/lang/Cloneable"), (0, .class_ 1), (0, u "java/lang/Object"), (0, .class_ 3)] 3

/-- java/lang/Cloneable -/
def k20 : Class := { plain "java/lang/Cloneable" (some 0) with
  accessFlags := 1537
  interfaces := #[]
  cf := some (fileOf pool20 2 #[] #[] 1537 4 #[] #[])
  fields := #[]
  methods := #[]
  instanceTypes := #[]
  staticTypes := #[]
  resolved := Array.replicate 8 none
  statics := none }

/-- the primitive byte -/
def k21 : Class := { plain "byte" none with kind := .primitive 'B', accessFlags := 0x411 }
/-- [B -/
def k22 : Class := { plain "[B" (some 0) with kind := .array 21 .byte, interfaces := #[20, 2], accessFlags := 1041 }

/-- the primitive char -/
def k23 : Class := { plain "char" none with kind := .primitive 'C', accessFlags := 0x411 }
/-- [C -/
def k24 : Class := { plain "[C" (some 0) with kind := .array 23 .char, interfaces := #[20, 2], accessFlags := 1041 }

/-- the primitive int -/
def k25 : Class := { plain "int" none with kind := .primitive 'I', accessFlags := 0x411 }
/-- [I -/
def k26 : Class := { plain "[I" (some 0) with kind := .array 25 .int, interfaces := #[20, 2], accessFlags := 1041 }

def heap : Heap := #[{ cls := 7, slots := #[.long 0, .int 1, .null, .int 0, .null, .int 0, .int 0], vm := .statics 7 },
  { cls := 17, slots := #[.int 0, .int 8, .int 0, .int 1], vm := .statics 17 },
  { cls := 19, slots := #[.null, .null, .null], vm := .statics 19 }]
def classes : Array Class := #[k0, k1, k2, k3, k4, k5, k6, k7, k8, k9, k10, k11, k12, k13, k14, k15, k16, k17, k18, k19, k20, k21, k22, k23, k24, k25, k26]
def interned : List (Array UInt16 × Addr) := []
def slotsUsed : Nat := 14
def theMethod : MethodId := ⟨1, 1⟩
def args0 : Array Value := #[.int 300, .int 66, .int 5]
def aboutOver (below : List Frame) : State where
  vm := { classes := classes, interned := interned.toArray }
  heap := heap
  slotsUsed := slotsUsed
  threads := #[{ frames := .invoking theMethod args0 :: below }]
def below0 : List Frame := [.native { method := ⟨0, 0⟩, args := #[] }]
def about1 : State := aboutOver below0
def p0 : Program := .bare "" "" ""
def e0 : Env := launch0.env 0 0 0
theorem w_frames : about1.frames = Frame.invoking theMethod args0 :: below0 := rfl
set_option maxRecDepth 65536 in
theorem w_args : argsFit about1.vm theMethod args0 = true := by decide +kernel
set_option maxRecDepth 65536 in
theorem w_heap : heapFits about1 = true := by decide +kernel
set_option maxRecDepth 65536 in
theorem w_runnable : about1.curStatus? = some .runnable := by decide +kernel
set_option maxRecDepth 65536 in
theorem w_alone : about1.alone = true := by decide +kernel
set_option maxRecDepth 65536 in
theorem w_named : about1.methodNamed? x = some theMethod := by decide +kernel
set_option maxRecDepth 65536 in
theorem w_hears : about1.hears theMethod below0 = true := by decide +kernel
set_option maxRecDepth 65536 in
theorem w_ripe : about1.ripe theMethod args0 below0 = true := by decide +kernel
theorem w_running : about1.status = .running := rfl
set_option maxRecDepth 65536 in
theorem w_room : about1.hasRoom e0.platform room_1 = true :=
  launch0.hasRoom_least _ room_1 (by decide +kernel) (by decide +kernel) (by decide +kernel) (by decide +kernel) (by decide +kernel) (by decide +kernel)
theorem allAtoms_all (ts : List Jvm.Cond) (a : Array Jvm.Value) (st : Jvm.State) : (allAtoms ts).before a st = ts.all (fun c => c.before a st) := by
  induction ts with
  | nil => rfl
  | cons c t ih =>
    show (Jvm.Cond.and c (allAtoms t)).before a st = _
    rw [Jvm.Cond.before_and, ih, List.all_cons]
def words1 : List Jvm.Cond := Jvm.Cond.code x code maxLocals ret :: tables_1
/-- a 'code' word, met by the world's own term for the bytes: nothing is compared byte by byte -/
theorem code_word {y : MethodName} {bytes : ByteArray} {mx : Nat} {rt : Option FieldType} {a : Array Value} {s : State} {m : MethodId} {meth : Method} {c : Code} (h1 : s.methodNamed? y = some m) (h2 : s.vm.method? m = some meth) (h3 : meth.code = some c) (h4 : c.code = bytes)
    (h5 : (c.maxLocals == mx && c.exceptionTable.isEmpty && decide (c.maxStack ≤ mostOperands) && decide (meth.sig.returnType = rt) && !meth.locks && decide (parseMethodDescriptor y.desc = some meth.sig)) = true) : (Jvm.Cond.code y bytes mx rt).before a s = true := by
  simp only [Bool.and_eq_true, beq_iff_eq, Bool.not_eq_true', decide_eq_true_eq] at h5
  obtain ⟨⟨⟨⟨⟨g1, g2⟩, g3⟩, g4⟩, g5⟩, g6⟩ := h5
  simp [Cond.before, Cond.holds, Cond.value, h1, h2, h3, h4, g1, g2, g3, g4, g5, g6]
def isCode : Jvm.Cond → Bool
  | .code _ _ _ _ => true
  | _ => false
theorem all_split {L : List Jvm.Cond} {P : Jvm.Cond → Bool} (h1 : L.all (fun c => isCode c || P c) = true) (h2 : ∀ c ∈ L.filter isCode, P c = true) : L.all P = true := by
  refine List.all_eq_true.mpr fun c hc => ?_
  have h := List.all_eq_true.mp h1 c hc
  rcases Bool.eq_false_or_eq_true (isCode c) with hi | hi
  · exact h2 c (List.mem_filter.mpr ⟨hc, hi⟩)
  · simpa [hi] using h
set_option maxRecDepth 65536 in
theorem w_c0 : (Jvm.Cond.code x code maxLocals ret).before args0 about1 = true := code_word (m := ⟨1, 1⟩) (meth := k1m1) (c := k1c1) (by decide +kernel) rfl rfl rfl (by decide +kernel)
set_option maxRecDepth 65536 in
theorem w_c1 : (Jvm.Cond.code ({ cls := "java/lang/String", name := "valueOf", desc := "(C)Ljava/lang/String;" } : Jvm.MethodName) jdk_42_method_139_code (1 : Nat) (Option.some (Jvm.ClassFile.FieldType.object "java/lang/String"))).before args0 about1 = true := code_word (m := ⟨7, 5⟩) (meth := k7m5) (c := k7c5) (by decide +kernel) rfl rfl rfl (by decide +kernel)
set_option maxRecDepth 65536 in
theorem w_c2 : (Jvm.Cond.code ({ cls := "java/lang/StringLatin1", name := "canEncode", desc := "(C)Z" } : Jvm.MethodName) jdk_43_method_3_code (1 : Nat) (Option.some Jvm.ClassFile.FieldType.boolean)).before args0 about1 = true := code_word (m := ⟨8, 1⟩) (meth := k8m1) (c := k8c1) (by decide +kernel) rfl rfl rfl (by decide +kernel)
set_option maxRecDepth 65536 in
theorem w_c3 : (Jvm.Cond.code ({ cls := "java/lang/StringLatin1", name := "toBytes", desc := "(C)[B" } : Jvm.MethodName) jdk_43_method_46_code (1 : Nat) (Option.some (Jvm.ClassFile.FieldType.array Jvm.ClassFile.FieldType.byte))).before args0 about1 = true := code_word (m := ⟨8, 3⟩) (meth := k8m3) (c := k8c3) (by decide +kernel) rfl rfl rfl (by decide +kernel)
set_option maxRecDepth 65536 in
theorem w_c4 : (Jvm.Cond.code ({ cls := "java/lang/String", name := "<init>", desc := "([BB)V" } : Jvm.MethodName) jdk_42_method_151_code (3 : Nat) (Option.none : Option Jvm.ClassFile.FieldType)).before args0 about1 = true := code_word (m := ⟨7, 9⟩) (meth := k7m9) (c := k7c9) (by decide +kernel) rfl rfl rfl (by decide +kernel)
set_option maxRecDepth 65536 in
theorem w_c5 : (Jvm.Cond.code ({ cls := "java/lang/Object", name := "<init>", desc := "()V" } : Jvm.MethodName) object_method_1_code (1 : Nat) (Option.none : Option Jvm.ClassFile.FieldType)).before args0 about1 = true := code_word (m := ⟨0, 0⟩) (meth := k0m0) (c := k0c0) (by decide +kernel) rfl rfl rfl (by decide +kernel)
set_option maxRecDepth 65536 in
theorem w_c6 : (Jvm.Cond.code ({ cls := "com/example/fieldveil/fieldveil/Placeholder", name := "<init>", desc := "(Ljava/lang/String;Z)V" } : Jvm.MethodName) prog_7_method_1_code (3 : Nat) (Option.none : Option Jvm.ClassFile.FieldType)).before args0 about1 = true := code_word (m := ⟨10, 0⟩) (meth := k10m0) (c := k10c0) (by decide +kernel) rfl rfl rfl (by decide +kernel)
set_option maxRecDepth 65536 in
theorem w_c7 : (Jvm.Cond.code ({ cls := "java/lang/Record", name := "<init>", desc := "()V" } : Jvm.MethodName) jdk_30_method_1_code (1 : Nat) (Option.none : Option Jvm.ClassFile.FieldType)).before args0 about1 = true := code_word (m := ⟨9, 0⟩) (meth := k9m0) (c := k9c0) (by decide +kernel) rfl rfl rfl (by decide +kernel)
set_option maxRecDepth 65536 in
theorem w_c8 : (Jvm.Cond.code ({ cls := "com/example/fieldveil/fieldveil/Placeholder", name := "toString", desc := "()Ljava/lang/String;" } : Jvm.MethodName) prog_7_method_3_code (1 : Nat) (Option.some (Jvm.ClassFile.FieldType.object "java/lang/String"))).before args0 about1 = true := code_word (m := ⟨10, 1⟩) (meth := k10m1) (c := k10c1) (by decide +kernel) rfl rfl rfl (by decide +kernel)
set_option maxRecDepth 65536 in
theorem w_c9 : (Jvm.Cond.code ({ cls := "java/lang/StringBuilder", name := "<init>", desc := "()V" } : Jvm.MethodName) jdk_67_method_1_code (1 : Nat) (Option.none : Option Jvm.ClassFile.FieldType)).before args0 about1 = true := code_word (m := ⟨13, 0⟩) (meth := k13m0) (c := k13c0) (by decide +kernel) rfl rfl rfl (by decide +kernel)
set_option maxRecDepth 65536 in
theorem w_c10 : (Jvm.Cond.code ({ cls := "java/lang/AbstractStringBuilder", name := "<init>", desc := "(I)V" } : Jvm.MethodName) jdk_68_method_2_code (2 : Nat) (Option.none : Option Jvm.ClassFile.FieldType)).before args0 about1 = true := code_word (m := ⟨12, 1⟩) (meth := k12m1) (c := k12c1) (by decide +kernel) rfl rfl rfl (by decide +kernel)
set_option maxRecDepth 65536 in
theorem w_c11 : (Jvm.Cond.code ({ cls := "java/lang/StringBuilder", name := "append", desc := "(Ljava/lang/String;)Ljava/lang/StringBuilder;" } : Jvm.MethodName) jdk_67_method_7_code (2 : Nat) (Option.some (Jvm.ClassFile.FieldType.object "java/lang/StringBuilder"))).before args0 about1 = true := code_word (m := ⟨13, 1⟩) (meth := k13m1) (c := k13c1) (by decide +kernel) rfl rfl rfl (by decide +kernel)
set_option maxRecDepth 65536 in
theorem w_c12 : (Jvm.Cond.code ({ cls := "java/lang/AbstractStringBuilder", name := "append", desc := "(Ljava/lang/String;)Ljava/lang/AbstractStringBuilder;" } : Jvm.MethodName) jdk_68_method_22_code (3 : Nat) (Option.some (Jvm.ClassFile.FieldType.object "java/lang/AbstractStringBuilder"))).before args0 about1 = true := code_word (m := ⟨12, 6⟩) (meth := k12m6) (c := k12c6) (by decide +kernel) rfl rfl rfl (by decide +kernel)
set_option maxRecDepth 65536 in
theorem w_c13 : (Jvm.Cond.code ({ cls := "java/lang/String", name := "length", desc := "()I" } : Jvm.MethodName) jdk_42_method_54_code (1 : Nat) (Option.some Jvm.ClassFile.FieldType.int)).before args0 about1 = true := code_word (m := ⟨7, 3⟩) (meth := k7m3) (c := k7c3) (by decide +kernel) rfl rfl rfl (by decide +kernel)
set_option maxRecDepth 65536 in
theorem w_c14 : (Jvm.Cond.code ({ cls := "java/lang/String", name := "coder", desc := "()B" } : Jvm.MethodName) jdk_42_method_152_code (1 : Nat) (Option.some Jvm.ClassFile.FieldType.byte)).before args0 about1 = true := code_word (m := ⟨7, 10⟩) (meth := k7m10) (c := k7c10) (by decide +kernel) rfl rfl rfl (by decide +kernel)
set_option maxRecDepth 65536 in
theorem w_c15 : (Jvm.Cond.code ({ cls := "java/lang/AbstractStringBuilder", name := "ensureCapacityInternal", desc := "(I)V" } : Jvm.MethodName) jdk_68_method_9_code (3 : Nat) (Option.none : Option Jvm.ClassFile.FieldType)).before args0 about1 = true := code_word (m := ⟨12, 3⟩) (meth := k12m3) (c := k12c3) (by decide +kernel) rfl rfl rfl (by decide +kernel)
set_option maxRecDepth 65536 in
theorem w_c16 : (Jvm.Cond.code ({ cls := "java/lang/AbstractStringBuilder", name := "putStringAt", desc := "(ILjava/lang/String;)V" } : Jvm.MethodName) jdk_68_method_73_code (3 : Nat) (Option.none : Option Jvm.ClassFile.FieldType)).before args0 about1 = true := code_word (m := ⟨12, 10⟩) (meth := k12m10) (c := k12c10) (by decide +kernel) rfl rfl rfl (by decide +kernel)
set_option maxRecDepth 65536 in
theorem w_c17 : (Jvm.Cond.code ({ cls := "java/lang/AbstractStringBuilder", name := "inflateIfNeededFor", desc := "(Ljava/lang/String;)V" } : Jvm.MethodName) jdk_68_method_71_code (2 : Nat) (Option.none : Option Jvm.ClassFile.FieldType)).before args0 about1 = true := code_word (m := ⟨12, 9⟩) (meth := k12m9) (c := k12c9) (by decide +kernel) rfl rfl rfl (by decide +kernel)
set_option maxRecDepth 65536 in
theorem w_c18 : (Jvm.Cond.code ({ cls := "java/lang/String", name := "getBytes", desc := "([BIB)V" } : Jvm.MethodName) jdk_42_method_147_code (4 : Nat) (Option.none : Option Jvm.ClassFile.FieldType)).before args0 about1 = true := code_word (m := ⟨7, 6⟩) (meth := k7m6) (c := k7c6) (by decide +kernel) rfl rfl rfl (by decide +kernel)
set_option maxRecDepth 65536 in
theorem w_c19 : (Jvm.Cond.code ({ cls := "java/lang/StringBuilder", name := "toString", desc := "()Ljava/lang/String;" } : Jvm.MethodName) jdk_67_method_42_code (1 : Nat) (Option.some (Jvm.ClassFile.FieldType.object "java/lang/String"))).before args0 about1 = true := code_word (m := ⟨13, 2⟩) (meth := k13m2) (c := k13c2) (by decide +kernel) rfl rfl rfl (by decide +kernel)
set_option maxRecDepth 65536 in
theorem w_c20 : (Jvm.Cond.code ({ cls := "java/lang/String", name := "<init>", desc := "(Ljava/lang/StringBuilder;)V" } : Jvm.MethodName) jdk_42_method_53_code (2 : Nat) (Option.none : Option Jvm.ClassFile.FieldType)).before args0 about1 = true := code_word (m := ⟨7, 2⟩) (meth := k7m2) (c := k7c2) (by decide +kernel) rfl rfl rfl (by decide +kernel)
set_option maxRecDepth 65536 in
theorem w_c21 : (Jvm.Cond.code ({ cls := "java/lang/String", name := "<init>", desc := "(Ljava/lang/AbstractStringBuilder;Ljava/lang/Void;)V" } : Jvm.MethodName) jdk_42_method_150_code (5 : Nat) (Option.none : Option Jvm.ClassFile.FieldType)).before args0 about1 = true := code_word (m := ⟨7, 8⟩) (meth := k7m8) (c := k7c8) (by decide +kernel) rfl rfl rfl (by decide +kernel)
set_option maxRecDepth 65536 in
theorem w_c22 : (Jvm.Cond.code ({ cls := "java/lang/AbstractStringBuilder", name := "getValue", desc := "()[B" } : Jvm.MethodName) jdk_68_method_64_code (1 : Nat) (Option.some (Jvm.ClassFile.FieldType.array Jvm.ClassFile.FieldType.byte))).before args0 about1 = true := code_word (m := ⟨12, 7⟩) (meth := k12m7) (c := k12c7) (by decide +kernel) rfl rfl rfl (by decide +kernel)
set_option maxRecDepth 65536 in
theorem w_c23 : (Jvm.Cond.code ({ cls := "java/lang/StringBuilder", name := "length", desc := "()I" } : Jvm.MethodName) jdk_67_method_93_code (1 : Nat) (Option.some Jvm.ClassFile.FieldType.int)).before args0 about1 = true := code_word (m := ⟨13, 3⟩) (meth := k13m3) (c := k13c3) (by decide +kernel) rfl rfl rfl (by decide +kernel)
set_option maxRecDepth 65536 in
theorem w_c24 : (Jvm.Cond.code ({ cls := "java/lang/AbstractStringBuilder", name := "length", desc := "()I" } : Jvm.MethodName) jdk_68_method_6_code (1 : Nat) (Option.some Jvm.ClassFile.FieldType.int)).before args0 about1 = true := code_word (m := ⟨12, 2⟩) (meth := k12m2) (c := k12c2) (by decide +kernel) rfl rfl rfl (by decide +kernel)
set_option maxRecDepth 65536 in
theorem w_c25 : (Jvm.Cond.code ({ cls := "java/lang/AbstractStringBuilder", name := "isLatin1", desc := "()Z" } : Jvm.MethodName) jdk_68_method_68_code (1 : Nat) (Option.some Jvm.ClassFile.FieldType.boolean)).before args0 about1 = true := code_word (m := ⟨12, 8⟩) (meth := k12m8) (c := k12c8) (by decide +kernel) rfl rfl rfl (by decide +kernel)
set_option maxRecDepth 65536 in
theorem w_c26 : (Jvm.Cond.code ({ cls := "java/util/Arrays", name := "copyOfRange", desc := "([BII)[B" } : Jvm.MethodName) jdk_65_method_132_code (3 : Nat) (Option.some (Jvm.ClassFile.FieldType.array Jvm.ClassFile.FieldType.byte))).before args0 about1 = true := code_word (m := ⟨15, 3⟩) (meth := k15m3) (c := k15c3) (by decide +kernel) rfl rfl rfl (by decide +kernel)
set_option maxRecDepth 65536 in
theorem w_c27 : (Jvm.Cond.code ({ cls := "java/util/Arrays", name := "copyOfRangeByte", desc := "([BII)[B" } : Jvm.MethodName) jdk_65_method_133_code (5 : Nat) (Option.some (Jvm.ClassFile.FieldType.array Jvm.ClassFile.FieldType.byte))).before args0 about1 = true := code_word (m := ⟨15, 4⟩) (meth := k15m4) (c := k15c4) (by decide +kernel) rfl rfl rfl (by decide +kernel)
set_option maxRecDepth 65536 in
theorem w_c28 : (Jvm.Cond.code ({ cls := "java/util/Arrays", name := "checkLength", desc := "(II)V" } : Jvm.MethodName) jdk_65_method_131_code (2 : Nat) (Option.none : Option Jvm.ClassFile.FieldType)).before args0 about1 = true := code_word (m := ⟨15, 2⟩) (meth := k15m2) (c := k15c2) (by decide +kernel) rfl rfl rfl (by decide +kernel)
set_option maxRecDepth 65536 in
theorem w_c29 : (Jvm.Cond.code ({ cls := "java/lang/Math", name := "min", desc := "(II)I" } : Jvm.MethodName) jdk_29_method_69_code (2 : Nat) (Option.some Jvm.ClassFile.FieldType.int)).before args0 about1 = true := code_word (m := ⟨16, 2⟩) (meth := k16m2) (c := k16c2) (by decide +kernel) rfl rfl rfl (by decide +kernel)
set_option maxRecDepth 65536 in
theorem w_c30 : (Jvm.Cond.code ({ cls := "com/example/fieldveil/fieldveil/PlaceholderToStringPinLaw", name := "expected", desc := "(ZICC)Ljava/lang/String;" } : Jvm.MethodName) method_3_code (4 : Nat) (Option.some (Jvm.ClassFile.FieldType.object "java/lang/String"))).before args0 about1 = true := code_word (m := ⟨1, 2⟩) (meth := k1m2) (c := k1c2) (by decide +kernel) rfl rfl rfl (by decide +kernel)
set_option maxRecDepth 65536 in
theorem w_c31 : (Jvm.Cond.code ({ cls := "java/lang/String", name := "<init>", desc := "([C)V" } : Jvm.MethodName) jdk_42_method_3_code (2 : Nat) (Option.none : Option Jvm.ClassFile.FieldType)).before args0 about1 = true := code_word (m := ⟨7, 1⟩) (meth := k7m1) (c := k7c1) (by decide +kernel) rfl rfl rfl (by decide +kernel)
set_option maxRecDepth 65536 in
theorem w_c32 : (Jvm.Cond.code ({ cls := "java/lang/String", name := "<init>", desc := "([CIILjava/lang/Void;)V" } : Jvm.MethodName) jdk_42_method_149_code (6 : Nat) (Option.none : Option Jvm.ClassFile.FieldType)).before args0 about1 = true := code_word (m := ⟨7, 7⟩) (meth := k7m7) (c := k7c7) (by decide +kernel) rfl rfl rfl (by decide +kernel)
set_option maxRecDepth 65536 in
theorem w_c33 : (Jvm.Cond.code ({ cls := "java/lang/StringUTF16", name := "compress", desc := "([CII)[B" } : Jvm.MethodName) jdk_52_method_16_code (6 : Nat) (Option.some (Jvm.ClassFile.FieldType.array Jvm.ClassFile.FieldType.byte))).before args0 about1 = true := code_word (m := ⟨17, 8⟩) (meth := k17m8) (c := k17c8) (by decide +kernel) rfl rfl rfl (by decide +kernel)
set_option maxRecDepth 65536 in
theorem w_c34 : (Jvm.Cond.code ({ cls := "java/lang/StringUTF16", name := "compress", desc := "([CI[BII)I" } : Jvm.MethodName) jdk_52_method_21_code (7 : Nat) (Option.some Jvm.ClassFile.FieldType.int)).before args0 about1 = true := code_word (m := ⟨17, 9⟩) (meth := k17m9) (c := k17c9) (by decide +kernel) rfl rfl rfl (by decide +kernel)
set_option maxRecDepth 65536 in
theorem w_c35 : (Jvm.Cond.code ({ cls := "java/lang/StringUTF16", name := "coderFromArrayLen", desc := "([BI)B" } : Jvm.MethodName) jdk_52_method_15_code (2 : Nat) (Option.some Jvm.ClassFile.FieldType.byte)).before args0 about1 = true := code_word (m := ⟨17, 7⟩) (meth := k17m7) (c := k17c7) (by decide +kernel) rfl rfl rfl (by decide +kernel)
set_option maxRecDepth 65536 in
theorem w_c36 : (Jvm.Cond.code ({ cls := "java/lang/String", name := "equals", desc := "(Ljava/lang/Object;)Z" } : Jvm.MethodName) jdk_42_method_66_code (3 : Nat) (Option.some Jvm.ClassFile.FieldType.boolean)).before args0 about1 = true := code_word (m := ⟨7, 4⟩) (meth := k7m4) (c := k7c4) (by decide +kernel) rfl rfl rfl (by decide +kernel)
set_option maxRecDepth 65536 in
theorem w_c37 : (Jvm.Cond.code ({ cls := "java/lang/StringLatin1", name := "equals", desc := "([B[B)Z" } : Jvm.MethodName) jdk_43_method_13_code (3 : Nat) (Option.some Jvm.ClassFile.FieldType.boolean)).before args0 about1 = true := code_word (m := ⟨8, 2⟩) (meth := k8m2) (c := k8c2) (by decide +kernel) rfl rfl rfl (by decide +kernel)
set_option maxRecDepth 65536 in
theorem w_c38 : (Jvm.Cond.code ({ cls := "java/lang/AbstractStringBuilder", name := "newCapacity", desc := "(I)I" } : Jvm.MethodName) jdk_68_method_10_code (6 : Nat) (Option.some Jvm.ClassFile.FieldType.int)).before args0 about1 = true := code_word (m := ⟨12, 4⟩) (meth := k12m4) (c := k12c4) (by decide +kernel) rfl rfl rfl (by decide +kernel)
set_option maxRecDepth 65536 in
theorem w_c39 : (Jvm.Cond.code ({ cls := "jdk/internal/util/ArraysSupport", name := "newLength", desc := "(III)I" } : Jvm.MethodName) jdk_48_method_27_code (4 : Nat) (Option.some Jvm.ClassFile.FieldType.int)).before args0 about1 = true := code_word (m := ⟨18, 1⟩) (meth := k18m1) (c := k18c1) (by decide +kernel) rfl rfl rfl (by decide +kernel)
set_option maxRecDepth 65536 in
theorem w_c40 : (Jvm.Cond.code ({ cls := "java/lang/Math", name := "max", desc := "(II)I" } : Jvm.MethodName) jdk_29_method_65_code (2 : Nat) (Option.some Jvm.ClassFile.FieldType.int)).before args0 about1 = true := code_word (m := ⟨16, 1⟩) (meth := k16m1) (c := k16c1) (by decide +kernel) rfl rfl rfl (by decide +kernel)
set_option maxRecDepth 65536 in
theorem w_c41 : (Jvm.Cond.code ({ cls := "java/util/Arrays", name := "copyOf", desc := "([BI)[B" } : Jvm.MethodName) jdk_65_method_121_code (3 : Nat) (Option.some (Jvm.ClassFile.FieldType.array Jvm.ClassFile.FieldType.byte))).before args0 about1 = true := code_word (m := ⟨15, 1⟩) (meth := k15m1) (c := k15c1) (by decide +kernel) rfl rfl rfl (by decide +kernel)
set_option maxRecDepth 65536 in
theorem w_c42 : (Jvm.Cond.code ({ cls := "java/lang/StringUTF16", name := "toBytes", desc := "([CII)[B" } : Jvm.MethodName) jdk_52_method_14_code (5 : Nat) (Option.some (Jvm.ClassFile.FieldType.array Jvm.ClassFile.FieldType.byte))).before args0 about1 = true := code_word (m := ⟨17, 6⟩) (meth := k17m6) (c := k17c6) (by decide +kernel) rfl rfl rfl (by decide +kernel)
set_option maxRecDepth 65536 in
theorem w_c43 : (Jvm.Cond.code ({ cls := "java/lang/StringUTF16", name := "newBytesFor", desc := "(I)[B" } : Jvm.MethodName) jdk_52_method_2_code (1 : Nat) (Option.some (Jvm.ClassFile.FieldType.array Jvm.ClassFile.FieldType.byte))).before args0 about1 = true := code_word (m := ⟨17, 1⟩) (meth := k17m1) (c := k17c1) (by decide +kernel) rfl rfl rfl (by decide +kernel)
set_option maxRecDepth 65536 in
theorem w_c44 : (Jvm.Cond.code ({ cls := "java/lang/StringUTF16", name := "newBytesLength", desc := "(I)I" } : Jvm.MethodName) jdk_52_method_3_code (1 : Nat) (Option.some Jvm.ClassFile.FieldType.int)).before args0 about1 = true := code_word (m := ⟨17, 2⟩) (meth := k17m2) (c := k17c2) (by decide +kernel) rfl rfl rfl (by decide +kernel)
set_option maxRecDepth 65536 in
theorem w_c45 : (Jvm.Cond.code ({ cls := "java/lang/StringUTF16", name := "putChar", desc := "([BII)V" } : Jvm.MethodName) jdk_52_method_4_code (3 : Nat) (Option.none : Option Jvm.ClassFile.FieldType)).before args0 about1 = true := code_word (m := ⟨17, 3⟩) (meth := k17m3) (c := k17c3) (by decide +kernel) rfl rfl rfl (by decide +kernel)
set_option maxRecDepth 65536 in
theorem w_c46 : (Jvm.Cond.code ({ cls := "java/lang/StringUTF16", name := "getChar", desc := "([BI)C" } : Jvm.MethodName) jdk_52_method_5_code (2 : Nat) (Option.some Jvm.ClassFile.FieldType.char)).before args0 about1 = true := code_word (m := ⟨17, 4⟩) (meth := k17m4) (c := k17c4) (by decide +kernel) rfl rfl rfl (by decide +kernel)
set_option maxRecDepth 65536 in
theorem w_c47 : (Jvm.Cond.code ({ cls := "java/lang/AbstractStringBuilder", name := "inflate", desc := "()V" } : Jvm.MethodName) jdk_68_method_11_code (2 : Nat) (Option.none : Option Jvm.ClassFile.FieldType)).before args0 about1 = true := code_word (m := ⟨12, 5⟩) (meth := k12m5) (c := k12c5) (by decide +kernel) rfl rfl rfl (by decide +kernel)
set_option maxRecDepth 65536 in
theorem w_c48 : (Jvm.Cond.code ({ cls := "java/lang/StringLatin1", name := "inflate", desc := "([BI[BII)V" } : Jvm.MethodName) jdk_43_method_50_code (5 : Nat) (Option.none : Option Jvm.ClassFile.FieldType)).before args0 about1 = true := code_word (m := ⟨8, 4⟩) (meth := k8m4) (c := k8c4) (by decide +kernel) rfl rfl rfl (by decide +kernel)
set_option maxRecDepth 65536 in
theorem w_c49 : (Jvm.Cond.code ({ cls := "java/lang/StringUTF16", name := "inflate", desc := "([BI[BII)V" } : Jvm.MethodName) jdk_52_method_86_code (6 : Nat) (Option.none : Option Jvm.ClassFile.FieldType)).before args0 about1 = true := code_word (m := ⟨17, 11⟩) (meth := k17m11) (c := k17c11) (by decide +kernel) rfl rfl rfl (by decide +kernel)
set_option maxRecDepth 65536 in
theorem w_c50 : (Jvm.Cond.code ({ cls := "java/lang/StringUTF16", name := "checkBoundsOffCount", desc := "(II[B)V" } : Jvm.MethodName) jdk_52_method_94_code (3 : Nat) (Option.none : Option Jvm.ClassFile.FieldType)).before args0 about1 = true := code_word (m := ⟨17, 12⟩) (meth := k17m12) (c := k17c12) (by decide +kernel) rfl rfl rfl (by decide +kernel)
set_option maxRecDepth 65536 in
theorem w_c51 : (Jvm.Cond.code ({ cls := "java/lang/StringUTF16", name := "length", desc := "([B)I" } : Jvm.MethodName) jdk_52_method_6_code (1 : Nat) (Option.some Jvm.ClassFile.FieldType.int)).before args0 about1 = true := code_word (m := ⟨17, 5⟩) (meth := k17m5) (c := k17c5) (by decide +kernel) rfl rfl rfl (by decide +kernel)
set_option maxRecDepth 65536 in
theorem w_c52 : (Jvm.Cond.code ({ cls := "java/lang/String", name := "checkBoundsOffCount", desc := "(III)I" } : Jvm.MethodName) jdk_42_method_157_code (3 : Nat) (Option.some Jvm.ClassFile.FieldType.int)).before args0 about1 = true := code_word (m := ⟨7, 11⟩) (meth := k7m11) (c := k7c11) (by decide +kernel) rfl rfl rfl (by decide +kernel)
set_option maxRecDepth 65536 in
theorem w_c53 : (Jvm.Cond.code ({ cls := "jdk/internal/util/Preconditions", name := "checkFromIndexSize", desc := "(IIILjava/util/function/BiFunction;)I" } : Jvm.MethodName) jdk_41_method_13_code (4 : Nat) (Option.some Jvm.ClassFile.FieldType.int)).before args0 about1 = true := code_word (m := ⟨19, 1⟩) (meth := k19m1) (c := k19c1) (by decide +kernel) rfl rfl rfl (by decide +kernel)
set_option maxRecDepth 65536 in
theorem w_c54 : (Jvm.Cond.code ({ cls := "java/lang/StringUTF16", name := "toBytes", desc := "(C)[B" } : Jvm.MethodName) jdk_52_method_24_code (2 : Nat) (Option.some (Jvm.ClassFile.FieldType.array Jvm.ClassFile.FieldType.byte))).before args0 about1 = true := code_word (m := ⟨17, 10⟩) (meth := k17m10) (c := k17c10) (by decide +kernel) rfl rfl rfl (by decide +kernel)
def codes1 : List Jvm.Cond := [Jvm.Cond.code x code maxLocals ret, Jvm.Cond.code ({ cls := "java/lang/String", name := "valueOf", desc := "(C)Ljava/lang/String;" } : Jvm.MethodName) jdk_42_method_139_code (1 : Nat) (Option.some (Jvm.ClassFile.FieldType.object "java/lang/String")), Jvm.Cond.code ({ cls := "java/lang/StringLatin1", name := "canEncode", desc := "(C)Z" } : Jvm.MethodName) jdk_43_method_3_code (1 : Nat) (Option.some Jvm.ClassFile.FieldType.boolean), Jvm.Cond.code ({ cls := "java/lang/StringLatin1", name := "toBytes", desc := "(C)[B" } : Jvm.MethodName) jdk_43_method_46_code (1 : Nat) (Option.some (Jvm.ClassFile.FieldType.array Jvm.ClassFile.FieldType.byte)), Jvm.Cond.code ({ cls := "java/lang/String", name := "<init>", desc := "([BB)V" } : Jvm.MethodName) jdk_42_method_151_code (3 : Nat) (Option.none : Option Jvm.ClassFile.FieldType), Jvm.Cond.code ({ cls := "java/lang/Object", name := "<init>", desc := "()V" } : Jvm.MethodName) object_method_1_code (1 : Nat) (Option.none : Option Jvm.ClassFile.FieldType), Jvm.Cond.code ({ cls := "com/example/fieldveil/fieldveil/Placeholder", name := "<init>", desc := "(Ljava/lang/String;Z)V" } : Jvm.MethodName) prog_7_method_1_code (3 : Nat) (Option.none : Option Jvm.ClassFile.FieldType), Jvm.Cond.code ({ cls := "java/lang/Record", name := "<init>", desc := "()V" } : Jvm.MethodName) jdk_30_method_1_code (1 : Nat) (Option.none : Option Jvm.ClassFile.FieldType), Jvm.Cond.code ({ cls := "com/example/fieldveil/fieldveil/Placeholder", name := "toString", desc := "()Ljava/lang/String;" } : Jvm.MethodName) prog_7_method_3_code (1 : Nat) (Option.some (Jvm.ClassFile.FieldType.object "java/lang/String")), Jvm.Cond.code ({ cls := "java/lang/StringBuilder", name := "<init>", desc := "()V" } : Jvm.MethodName) jdk_67_method_1_code (1 : Nat) (Option.none : Option Jvm.ClassFile.FieldType), Jvm.Cond.code ({ cls := "java/lang/AbstractStringBuilder", name := "<init>", desc := "(I)V" } : Jvm.MethodName) jdk_68_method_2_code (2 : Nat) (Option.none : Option Jvm.ClassFile.FieldType), Jvm.Cond.code ({ cls := "java/lang/StringBuilder", name := "append", desc := "(Ljava/lang/String;)Ljava/lang/StringBuilder;" } : Jvm.MethodName) jdk_67_method_7_code (2 : Nat) (Option.some (Jvm.ClassFile.FieldType.object "java/lang/StringBuilder")), Jvm.Cond.code ({ cls := "java/lang/AbstractStringBuilder", name := "append", desc := "(Ljava/lang/String;)Ljava/lang/AbstractStringBuilder;" } : Jvm.MethodName) jdk_68_method_22_code (3 : Nat) (Option.some (Jvm.ClassFile.FieldType.object "java/lang/AbstractStringBuilder")), Jvm.Cond.code ({ cls := "java/lang/String", name := "length", desc := "()I" } : Jvm.MethodName) jdk_42_method_54_code (1 : Nat) (Option.some Jvm.ClassFile.FieldType.int), Jvm.Cond.code ({ cls := "java/lang/String", name := "coder", desc := "()B" } : Jvm.MethodName) jdk_42_method_152_code (1 : Nat) (Option.some Jvm.ClassFile.FieldType.byte), Jvm.Cond.code ({ cls := "java/lang/AbstractStringBuilder", name := "ensureCapacityInternal", desc := "(I)V" } : Jvm.MethodName) jdk_68_method_9_code (3 : Nat) (Option.none : Option Jvm.ClassFile.FieldType), Jvm.Cond.code ({ cls := "java/lang/AbstractStringBuilder", name := "putStringAt", desc := "(ILjava/lang/String;)V" } : Jvm.MethodName) jdk_68_method_73_code (3 : Nat) (Option.none : Option Jvm.ClassFile.FieldType), Jvm.Cond.code ({ cls := "java/lang/AbstractStringBuilder", name := "inflateIfNeededFor", desc := "(Ljava/lang/String;)V" } : Jvm.MethodName) jdk_68_method_71_code (2 : Nat) (Option.none : Option Jvm.ClassFile.FieldType), Jvm.Cond.code ({ cls := "java/lang/String", name := "getBytes", desc := "([BIB)V" } : Jvm.MethodName) jdk_42_method_147_code (4 : Nat) (Option.none : Option Jvm.ClassFile.FieldType), Jvm.Cond.code ({ cls := "java/lang/StringBuilder", name := "toString", desc := "()Ljava/lang/String;" } : Jvm.MethodName) jdk_67_method_42_code (1 : Nat) (Option.some (Jvm.ClassFile.FieldType.object "java/lang/String")), Jvm.Cond.code ({ cls := "java/lang/String", name := "<init>", desc := "(Ljava/lang/StringBuilder;)V" } : Jvm.MethodName) jdk_42_method_53_code (2 : Nat) (Option.none : Option Jvm.ClassFile.FieldType), Jvm.Cond.code ({ cls := "java/lang/String", name := "<init>", desc := "(Ljava/lang/AbstractStringBuilder;Ljava/lang/Void;)V" } : Jvm.MethodName) jdk_42_method_150_code (5 : Nat) (Option.none : Option Jvm.ClassFile.FieldType), Jvm.Cond.code ({ cls := "java/lang/AbstractStringBuilder", name := "getValue", desc := "()[B" } : Jvm.MethodName) jdk_68_method_64_code (1 : Nat) (Option.some (Jvm.ClassFile.FieldType.array Jvm.ClassFile.FieldType.byte)), Jvm.Cond.code ({ cls := "java/lang/StringBuilder", name := "length", desc := "()I" } : Jvm.MethodName) jdk_67_method_93_code (1 : Nat) (Option.some Jvm.ClassFile.FieldType.int), Jvm.Cond.code ({ cls := "java/lang/AbstractStringBuilder", name := "length", desc := "()I" } : Jvm.MethodName) jdk_68_method_6_code (1 : Nat) (Option.some Jvm.ClassFile.FieldType.int), Jvm.Cond.code ({ cls := "java/lang/AbstractStringBuilder", name := "isLatin1", desc := "()Z" } : Jvm.MethodName) jdk_68_method_68_code (1 : Nat) (Option.some Jvm.ClassFile.FieldType.boolean), Jvm.Cond.code ({ cls := "java/util/Arrays", name := "copyOfRange", desc := "([BII)[B" } : Jvm.MethodName) jdk_65_method_132_code (3 : Nat) (Option.some (Jvm.ClassFile.FieldType.array Jvm.ClassFile.FieldType.byte)), Jvm.Cond.code ({ cls := "java/util/Arrays", name := "copyOfRangeByte", desc := "([BII)[B" } : Jvm.MethodName) jdk_65_method_133_code (5 : Nat) (Option.some (Jvm.ClassFile.FieldType.array Jvm.ClassFile.FieldType.byte)), Jvm.Cond.code ({ cls := "java/util/Arrays", name := "checkLength", desc := "(II)V" } : Jvm.MethodName) jdk_65_method_131_code (2 : Nat) (Option.none : Option Jvm.ClassFile.FieldType), Jvm.Cond.code ({ cls := "java/lang/Math", name := "min", desc := "(II)I" } : Jvm.MethodName) jdk_29_method_69_code (2 : Nat) (Option.some Jvm.ClassFile.FieldType.int), Jvm.Cond.code ({ cls := "com/example/fieldveil/fieldveil/PlaceholderToStringPinLaw", name := "expected", desc := "(ZICC)Ljava/lang/String;" } : Jvm.MethodName) method_3_code (4 : Nat) (Option.some (Jvm.ClassFile.FieldType.object "java/lang/String")), Jvm.Cond.code ({ cls := "java/lang/String", name := "<init>", desc := "([C)V" } : Jvm.MethodName) jdk_42_method_3_code (2 : Nat) (Option.none : Option Jvm.ClassFile.FieldType), Jvm.Cond.code ({ cls := "java/lang/String", name := "<init>", desc := "([CIILjava/lang/Void;)V" } : Jvm.MethodName) jdk_42_method_149_code (6 : Nat) (Option.none : Option Jvm.ClassFile.FieldType), Jvm.Cond.code ({ cls := "java/lang/StringUTF16", name := "compress", desc := "([CII)[B" } : Jvm.MethodName) jdk_52_method_16_code (6 : Nat) (Option.some (Jvm.ClassFile.FieldType.array Jvm.ClassFile.FieldType.byte)), Jvm.Cond.code ({ cls := "java/lang/StringUTF16", name := "compress", desc := "([CI[BII)I" } : Jvm.MethodName) jdk_52_method_21_code (7 : Nat) (Option.some Jvm.ClassFile.FieldType.int), Jvm.Cond.code ({ cls := "java/lang/StringUTF16", name := "coderFromArrayLen", desc := "([BI)B" } : Jvm.MethodName) jdk_52_method_15_code (2 : Nat) (Option.some Jvm.ClassFile.FieldType.byte), Jvm.Cond.code ({ cls := "java/lang/String", name := "equals", desc := "(Ljava/lang/Object;)Z" } : Jvm.MethodName) jdk_42_method_66_code (3 : Nat) (Option.some Jvm.ClassFile.FieldType.boolean), Jvm.Cond.code ({ cls := "java/lang/StringLatin1", name := "equals", desc := "([B[B)Z" } : Jvm.MethodName) jdk_43_method_13_code (3 : Nat) (Option.some Jvm.ClassFile.FieldType.boolean), Jvm.Cond.code ({ cls := "java/lang/AbstractStringBuilder", name := "newCapacity", desc := "(I)I" } : Jvm.MethodName) jdk_68_method_10_code (6 : Nat) (Option.some Jvm.ClassFile.FieldType.int), Jvm.Cond.code ({ cls := "jdk/internal/util/ArraysSupport", name := "newLength", desc := "(III)I" } : Jvm.MethodName) jdk_48_method_27_code (4 : Nat) (Option.some Jvm.ClassFile.FieldType.int), Jvm.Cond.code ({ cls := "java/lang/Math", name := "max", desc := "(II)I" } : Jvm.MethodName) jdk_29_method_65_code (2 : Nat) (Option.some Jvm.ClassFile.FieldType.int), Jvm.Cond.code ({ cls := "java/util/Arrays", name := "copyOf", desc := "([BI)[B" } : Jvm.MethodName) jdk_65_method_121_code (3 : Nat) (Option.some (Jvm.ClassFile.FieldType.array Jvm.ClassFile.FieldType.byte)), Jvm.Cond.code ({ cls := "java/lang/StringUTF16", name := "toBytes", desc := "([CII)[B" } : Jvm.MethodName) jdk_52_method_14_code (5 : Nat) (Option.some (Jvm.ClassFile.FieldType.array Jvm.ClassFile.FieldType.byte)), Jvm.Cond.code ({ cls := "java/lang/StringUTF16", name := "newBytesFor", desc := "(I)[B" } : Jvm.MethodName) jdk_52_method_2_code (1 : Nat) (Option.some (Jvm.ClassFile.FieldType.array Jvm.ClassFile.FieldType.byte)), Jvm.Cond.code ({ cls := "java/lang/StringUTF16", name := "newBytesLength", desc := "(I)I" } : Jvm.MethodName) jdk_52_method_3_code (1 : Nat) (Option.some Jvm.ClassFile.FieldType.int), Jvm.Cond.code ({ cls := "java/lang/StringUTF16", name := "putChar", desc := "([BII)V" } : Jvm.MethodName) jdk_52_method_4_code (3 : Nat) (Option.none : Option Jvm.ClassFile.FieldType), Jvm.Cond.code ({ cls := "java/lang/StringUTF16", name := "getChar", desc := "([BI)C" } : Jvm.MethodName) jdk_52_method_5_code (2 : Nat) (Option.some Jvm.ClassFile.FieldType.char), Jvm.Cond.code ({ cls := "java/lang/AbstractStringBuilder", name := "inflate", desc := "()V" } : Jvm.MethodName) jdk_68_method_11_code (2 : Nat) (Option.none : Option Jvm.ClassFile.FieldType), Jvm.Cond.code ({ cls := "java/lang/StringLatin1", name := "inflate", desc := "([BI[BII)V" } : Jvm.MethodName) jdk_43_method_50_code (5 : Nat) (Option.none : Option Jvm.ClassFile.FieldType), Jvm.Cond.code ({ cls := "java/lang/StringUTF16", name := "inflate", desc := "([BI[BII)V" } : Jvm.MethodName) jdk_52_method_86_code (6 : Nat) (Option.none : Option Jvm.ClassFile.FieldType), Jvm.Cond.code ({ cls := "java/lang/StringUTF16", name := "checkBoundsOffCount", desc := "(II[B)V" } : Jvm.MethodName) jdk_52_method_94_code (3 : Nat) (Option.none : Option Jvm.ClassFile.FieldType), Jvm.Cond.code ({ cls := "java/lang/StringUTF16", name := "length", desc := "([B)I" } : Jvm.MethodName) jdk_52_method_6_code (1 : Nat) (Option.some Jvm.ClassFile.FieldType.int), Jvm.Cond.code ({ cls := "java/lang/String", name := "checkBoundsOffCount", desc := "(III)I" } : Jvm.MethodName) jdk_42_method_157_code (3 : Nat) (Option.some Jvm.ClassFile.FieldType.int), Jvm.Cond.code ({ cls := "jdk/internal/util/Preconditions", name := "checkFromIndexSize", desc := "(IIILjava/util/function/BiFunction;)I" } : Jvm.MethodName) jdk_41_method_13_code (4 : Nat) (Option.some Jvm.ClassFile.FieldType.int), Jvm.Cond.code ({ cls := "java/lang/StringUTF16", name := "toBytes", desc := "(C)[B" } : Jvm.MethodName) jdk_52_method_24_code (2 : Nat) (Option.some (Jvm.ClassFile.FieldType.array Jvm.ClassFile.FieldType.byte))]
set_option maxRecDepth 65536 in
theorem codes_eq : words1.filter isCode = codes1 := rfl
theorem w_codes : ∀ c ∈ words1.filter isCode, c.before args0 about1 = true := by
  rw [codes_eq]
  intro c hc
  simp only [codes1, List.mem_cons, List.not_mem_nil, or_false] at hc
  rcases hc with rfl | rfl | rfl | rfl | rfl | rfl | rfl | rfl | rfl | rfl | rfl | rfl | rfl | rfl | rfl | rfl | rfl | rfl | rfl | rfl | rfl | rfl | rfl | rfl | rfl | rfl | rfl | rfl | rfl | rfl | rfl | rfl | rfl | rfl | rfl | rfl | rfl | rfl | rfl | rfl | rfl | rfl | rfl | rfl | rfl | rfl | rfl | rfl | rfl | rfl | rfl | rfl | rfl | rfl | rfl
  · exact w_c0
  · exact w_c1
  · exact w_c2
  · exact w_c3
  · exact w_c4
  · exact w_c5
  · exact w_c6
  · exact w_c7
  · exact w_c8
  · exact w_c9
  · exact w_c10
  · exact w_c11
  · exact w_c12
  · exact w_c13
  · exact w_c14
  · exact w_c15
  · exact w_c16
  · exact w_c17
  · exact w_c18
  · exact w_c19
  · exact w_c20
  · exact w_c21
  · exact w_c22
  · exact w_c23
  · exact w_c24
  · exact w_c25
  · exact w_c26
  · exact w_c27
  · exact w_c28
  · exact w_c29
  · exact w_c30
  · exact w_c31
  · exact w_c32
  · exact w_c33
  · exact w_c34
  · exact w_c35
  · exact w_c36
  · exact w_c37
  · exact w_c38
  · exact w_c39
  · exact w_c40
  · exact w_c41
  · exact w_c42
  · exact w_c43
  · exact w_c44
  · exact w_c45
  · exact w_c46
  · exact w_c47
  · exact w_c48
  · exact w_c49
  · exact w_c50
  · exact w_c51
  · exact w_c52
  · exact w_c53
  · exact w_c54
set_option maxRecDepth 65536 in
theorem w_t1 : (words1.take 24).all (fun c => isCode c || c.before args0 about1) = true := by decide +kernel
set_option maxRecDepth 65536 in
theorem w_t2 : ((words1.drop 24).take 24).all (fun c => isCode c || c.before args0 about1) = true := by decide +kernel
set_option maxRecDepth 65536 in
theorem w_t3 : (((words1.drop 24).drop 24).take 24).all (fun c => isCode c || c.before args0 about1) = true := by decide +kernel
set_option maxRecDepth 65536 in
theorem w_t4 : ((((words1.drop 24).drop 24).drop 24).take 24).all (fun c => isCode c || c.before args0 about1) = true := by decide +kernel
set_option maxRecDepth 65536 in
theorem w_t5 : (((((words1.drop 24).drop 24).drop 24).drop 24).take 24).all (fun c => isCode c || c.before args0 about1) = true := by decide +kernel
set_option maxRecDepth 65536 in
theorem w_t6 : ((((((words1.drop 24).drop 24).drop 24).drop 24).drop 24).take 24).all (fun c => isCode c || c.before args0 about1) = true := by decide +kernel
set_option maxRecDepth 65536 in
theorem w_t7 : (((((((words1.drop 24).drop 24).drop 24).drop 24).drop 24).drop 24).take 24).all (fun c => isCode c || c.before args0 about1) = true := by decide +kernel
set_option maxRecDepth 65536 in
theorem w_t8 : ((((((((words1.drop 24).drop 24).drop 24).drop 24).drop 24).drop 24).drop 24).take 24).all (fun c => isCode c || c.before args0 about1) = true := by decide +kernel
set_option maxRecDepth 65536 in
theorem w_t9 : (((((((((words1.drop 24).drop 24).drop 24).drop 24).drop 24).drop 24).drop 24).drop 24).take 24).all (fun c => isCode c || c.before args0 about1) = true := by decide +kernel
set_option maxRecDepth 65536 in
theorem w_t10 : ((((((((((words1.drop 24).drop 24).drop 24).drop 24).drop 24).drop 24).drop 24).drop 24).drop 24).take 24).all (fun c => isCode c || c.before args0 about1) = true := by decide +kernel
set_option maxRecDepth 65536 in
theorem w_t11 : ((((((((((words1.drop 24).drop 24).drop 24).drop 24).drop 24).drop 24).drop 24).drop 24).drop 24).drop 24).all (fun c => isCode c || c.before args0 about1) = true := by decide +kernel
theorem w_tables : (allAtoms (Jvm.Cond.code x code maxLocals ret :: tables_1)).before args0 about1 = true := by
  rw [allAtoms_all]
  show words1.all (fun c => c.before args0 about1) = true
  refine all_split ?_ w_codes
  rw [← List.take_append_drop 24 words1, List.all_append, w_t1, ← List.take_append_drop 24 (words1.drop 24), List.all_append, w_t2, ← List.take_append_drop 24 ((words1.drop 24).drop 24), List.all_append, w_t3, ← List.take_append_drop 24 (((words1.drop 24).drop 24).drop 24), List.all_append, w_t4, ← List.take_append_drop 24 ((((words1.drop 24).drop 24).drop 24).drop 24), List.all_append, w_t5, ← List.take_append_drop 24 (((((words1.drop 24).drop 24).drop 24).drop 24).drop 24), List.all_append, w_t6, ← List.take_append_drop 24 ((((((words1.drop 24).drop 24).drop 24).drop 24).drop 24).drop 24), List.all_append, w_t7, ← List.take_append_drop 24 (((((((words1.drop 24).drop 24).drop 24).drop 24).drop 24).drop 24).drop 24), List.all_append, w_t8, ← List.take_append_drop 24 ((((((((words1.drop 24).drop 24).drop 24).drop 24).drop 24).drop 24).drop 24).drop 24), List.all_append, w_t9, ← List.take_append_drop 24 (((((((((words1.drop 24).drop 24).drop 24).drop 24).drop 24).drop 24).drop 24).drop 24).drop 24), List.all_append, w_t10, w_t11]
  rfl
set_option maxRecDepth 65536 in
theorem w_rest : rest_1_c.before args0 about1 = true := by decide +kernel
set_option maxRecDepth 65536 in
theorem w_case : (Jvm.Cond.and given_1 narrow_1).before args0 about1 = true := by decide +kernel
set_option maxRecDepth 65536 in
theorem w_consts : constsHeld consts_1 about1 := Jvm.Lit.constsHeldB_iff.mp (by decide +kernel)
theorem w_applies : (headSpec (Jvm.Cond.code x code maxLocals ret :: tables_1) room_1).applies x e0.platform about1 = true :=
  (Spec.applies_iff w_frames).mpr ⟨w_running, w_runnable, w_alone, w_named, w_hears, w_ripe, w_room, w_tables⟩
theorem atStart : AtStart classFile x code maxLocals ret World_1 tables_1 room_1 Calls_1 rest_1 Pre_1 launch0 p0 e0 about1 theMethod args0 below0 :=
  ⟨lists_1, trivial, launch0.admits_env _ _ _, launch0.least_env, fairChoices_fair.cas, fairChoices_fair.clock, w_frames, w_args, w_heap, w_applies, ⟨w_consts, trivial⟩, w_rest, w_case⟩
end start1
theorem witness_1 : WitnessClaimed_1 := ⟨start1.p0, start1.e0, start1.about1, start1.theMethod, start1.args0, start1.below0, start1.atStart⟩
end Jvm.Pilot.@@N@@
