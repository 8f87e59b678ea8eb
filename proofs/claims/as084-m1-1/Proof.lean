import JvmDerived
import JvmDerived.Pilot.@@N@@Statement
import JvmDerived.Pilot.@@N@@Code
set_option linter.unusedVariables false
set_option linter.unusedSimpArgs false
namespace Jvm.RoadKit
open Sem ClassFile Op Lib Jvm.Stand Jvm.Free Jvm.LawKit
section New
variable {p : Program} {l : Launch} {e : Env} {R : Room} {s : State} {m : MethodId} {args : Array Value} {below : List Frame} {meth : Method} {c : Code} {T : State} {locs : List Loc} {cells slots : Nat}
theorem retI (X : Stand p l e R s m args below meth c T locs cells slots) (hx : p.tables.exec = Jvm.exec) {pc : Nat} {Ls : Array Slot} {z : Int32} {rest : List Value} (hret : meth.sig.returnType = some .int) (hd : decode c.code pc = .ok (.ireturn, 1)) {fs : List Frame}
    (hl : ∀ (f : JFrame) (acts : List Action), f.method = m → f.locked = none → f.entered = [] → (doReturn e (T.setTop f) acts (some (.int z))).1 = T.setFrames fs) : Steps p.tables e below (T.setTop (mkF m pc Ls (.int z :: rest))) (T.setFrames fs) := by
  have hm' : T.vm.method? m = some meth := X.method'
  have hn : narrow .int (.int z) = .int z := rfl
  show Steps p.tables e below (T.setTop { method := m, pc := pc, locals := Ls, stack := _ :: rest, locked := none }) _
  jvm_step X.here [X.here.top, hx, hd, hm', hret, hn]
  first | (intro acts; rw [hl _ acts rfl rfl rfl]) | rw [hl _ _ rfl rfl rfl]
  exact Steps.refl _
end New
end Jvm.RoadKit
namespace Jvm.Pilot.@@N@@
open Jvm Jvm.ClassFile Sem Op Lib Jvm.Free Jvm.Stand Jvm.LawKit Jvm.RoadKit Bundle Jvm.Pilot.@@N@@.Jvm.D

theorem own_eqI {args : Array Value} {s : State} {t : Term} {k : Int32} (h : (Jvm.Cond.eq t (Term.int k)).value args s none s [] = some true) : t.eval args s none [] s = some (.int k) := by
  obtain ⟨x, y, hx, hy, k1, k2⟩ := cmp_v (Or.inl h)
  obtain rfl : y = .int k := Option.some.inj (hy.symm.trans rfl)
  obtain ⟨z, rfl⟩ : ∃ z, x = .int z := k2
  have q : z = k := by simpa [Jvm.Cond.value, hx, hy] using h
  rw [hx, q]
theorem own_eqR {args : Array Value} {s : State} {t u : Term} {a : Addr} (h : (Jvm.Cond.eq t u).value args s none s [] = some true) (hu : u.eval args s none [] s = some (.ref a)) : t.eval args s none [] s = some (.ref a) := by
  obtain ⟨x, y, hx, hy, k1, k2⟩ := cmp_v (Or.inl h)
  obtain rfl : y = .ref a := Option.some.inj (hy.symm.trans hu)
  have q : x.isRef = true ∧ (Value.ref a).isRef = true := ⟨k2.2, k2.1⟩
  have r := gotT (eq_R hx hy q.1 q.2) h
  rw [hx, r]
theorem own_len {args : Array Value} {s : State} {t : Term} {a : Addr} {c : Cell} {ty : FieldType} {n : Int32} (ev : t.eval args s none [] s = some (.ref a)) (A : Arr s s.heap a c ty) (h : (Jvm.Cond.eq (Term.length t) (Term.int n)).value args s none s [] = some true) : c.slots.size < 2 ^ 31 ∧ c.slots.size.toInt32 = n := by
  have e := own_eqI h
  have ha : s.arrayAt? a = some c := A.fin (Vm.Alike.refl _)
  simp only [Term.eval, Option.bind_eq_bind, ev, ha, Option.bind_some] at e
  by_cases q : c.slots.size < 2147483648
  · rw [if_pos q] at e
    exact ⟨q, by simpa using e⟩
  · rw [if_neg q] at e; cases e
theorem own_size {c : Cell} {n : Int32} (h : c.slots.size < 2 ^ 31 ∧ c.slots.size.toInt32 = n) : c.slots.size = n.toNatClampNeg ∧ ¬ n < 0 := by
  have q : n.toInt = c.slots.size := by rw [← h.2]; exact Int32.toInt_ofNat_small h.1
  refine ⟨?_, fun hn => ?_⟩
  · show c.slots.size = n.toInt.toNat
    omega
  · rw [Int32.lt_iff_toInt_lt] at hn
    have : (0 : Int32).toInt = 0 := rfl
    omega
theorem own_elem {args : Array Value} {s : State} {t : Term} {a y : Addr} {c : Cell} {ty : FieldType} {k : Int32} {u : Term} (ev : t.eval args s none [] s = some (.ref a)) (A : Arr s s.heap a c ty) (hu : u.eval args s none [] s = some (.ref y)) (h : (Jvm.Cond.eq (Term.elem t (Term.int k)) u).value args s none s [] = some true) : ¬ (k < 0 ∨ c.slots.size ≤ k.toNatClampNeg) ∧ c.slots[k.toNatClampNeg]? = some (.ref y) :=
  elem_in (own_eqR h hu) ev rfl A.1
theorem own_hide {p : Program} {l : Launch} {e : Env} {R : Room} {s : State} {m : MethodId} {args : Array Value} {below : List Frame} {meth : Method} {c : Code} {T : State} {locs : List Loc} {cells slots k : Nat} (X : Stand p l e R s m args below meth c T locs cells slots) (N : Fr k locs) : ∃ Lg, Stand p l e R s m args below meth c T Lg cells slots ∧ Fr k Lg := ⟨_, X, N⟩
def own_ret (V : Value) (n0 : Nat) (h0 : Heap) (v : Option Value) (h : Heap) (L : List Loc) : Prop := v = some V ∧ Fr n0 L ∧ h = h0
abbrev own_M (l : Launch) (y : MethodName) (bytes : ByteArray) (maxL : Nat) (ret : Option FieldType) (rm : Room) (Z : State) (as' : Array Value) (h0 : Heap) (Q : Option Value → Heap → List Loc → Prop) : Prop :=
  MetFree l y (head1 [Jvm.Cond.code y bytes maxL ret] rm) (fun a U => a = as' ∧ Z.Warmed39 U.vm ∧ U.heap = h0) (fun _ _ _ _ _ => True) (fun _ U o U' => ∃ v L, o = .returned v ∧ Q v U'.heap L ∧ FrameEnd U o U' L rm.cells rm.slots)
def own_one (n0 : Nat) (v : Option Value) (h : Heap) (L : List Loc) : Prop := v = some (.int (1 : Int32)) ∧ Fr n0 L
def own_kret (V : Value) (n0 : Nat) (h0 : Heap) (v : Option Value) (h : Heap) (L : List Loc) : Prop := v = some V ∧ Fr n0 L ∧ Keep h0 h []
theorem own_ext {h0 h : Heap} (K : Keep h0 h []) : Ext h0 h := ⟨K.1, fun a c q => K.2.1 a c q nin0⟩
theorem own_nar0 : nar .boolean (0 : Int32) = (0 : Int32) := by decide
theorem own_nar1 : nar .boolean (1 : Int32) = (1 : Int32) := by decide
theorem d1_0 : decode prog_37_method_5_code 0 = .ok (.aload_n 0, 1) := by decide +kernel
theorem d1_1 : decode prog_37_method_5_code 1 = .ok (.getstatic 7, 3) := by decide +kernel
theorem d1_4 : decode prog_37_method_5_code 4 = .ok (.if_acmp .eq 24, 3) := by decide +kernel
theorem d1_28 : decode prog_37_method_5_code 28 = .ok (.iconst 1, 1) := by decide +kernel
theorem d1_29 : decode prog_37_method_5_code 29 = .ok (.goto 4, 3) := by decide +kernel
theorem d1_33 : decode prog_37_method_5_code 33 = .ok (.ireturn, 1) := by decide +kernel
theorem pn_1 : plainName "com/example/loomwire/loomwire/schema/ColumnType" = true := by first | (simp [plainName, overriddenIn]; done) | decide +kernel
theorem ef_1 (m : MethodId) (x0 : Addr) : entryFrame m #[(.ref x0)] 1 = mkF m 0 #[.val (.ref x0)] [] := by first | (simp [entryFrame, mkF, argsToLocals, Value.category]; done) | rfl
set_option maxRecDepth 65536 in
set_option maxHeartbeats 40000000 in
theorem own_y_DECIMAL (l : Launch) (Z : State) (a0 : Array Value) (hw : ∀ d ∈ tables_1, d.before a0 Z = true) (ws : List Jvm.Cond) (a1 : Addr) (w2 : Addr) (h0 : Heap) (n0 : Nat) (Z0 : n0 ≤ h0.size) (S_DECIMAL : Sta Z h0 "com/example/loomwire/loomwire/schema/ColumnType" "DECIMAL" "Lcom/example/loomwire/loomwire/schema/ColumnType;" (.ref w2)) (ha4 : a1 = w2) :
    MetFree l (⟨"com/example/loomwire/loomwire/schema/ColumnType", "mayBeDatabaseText", "()Z"⟩ : MethodName) (head1 (Jvm.Cond.code (⟨"com/example/loomwire/loomwire/schema/ColumnType", "mayBeDatabaseText", "()Z"⟩ : MethodName) prog_37_method_5_code 1 (some .boolean) :: ws) ({ frames := 0, cells := 0, slots := 0, locals := 0 } : Room)) (fun a U => a = #[(.ref a1)] ∧ Z.Warmed39 U.vm ∧ U.heap = h0) (fun _ _ _ _ _ => True) (fun _ U o U' => ∃ v L, o = .returned v ∧ (own_ret (.int (1 : Int32)) n0 h0) v U'.heap L ∧ FrameEnd U o U' L ({ frames := 0, cells := 0, slots := 0, locals := 0 } : Room).cells ({ frames := 0, cells := 0, slots := 0, locals := 0 } : Room).slots) := by
  refine MetFree.of_bodySF (plainFor_of_name pn_1) hisR ?_
  intro p e s m args below meth c s₁ Bd hml0 hP hK
  obtain ⟨rfl, hZ, hh⟩ := hP
  have hx := Bd.exec
  have hby := Bd.bytes
  have hml : c.maxLocals = 1 := hml0
  have hown : s.vm.findClass "com/example/loomwire/loomwire/schema/ColumnType" = some m.cls := findClass_of_methodNamed Bd.named
  have hnm := (name_of_methodNamed Bd.named Bd.method).1
  have X0 : Stand p l e ({ frames := 0, cells := 0, slots := 0, locals := 0 } : Room) s m #[(.ref a1)] below meth c s₁ [] 0 0 := Stand.of_body Bd
  have e0 : s₁.heap = h0 := by rw [← hh, Bd.state]; rfl
  have N0 := Fr.nil n0
  have pre0 : ∀ t, Steps p.tables e below (s₁.setTop (mkF m 0 #[.val (.ref a1)] [])) t → Steps p.tables e below (s₁.setTop (entryFrame m #[(.ref a1)] 1)) t := fun t k => castTop (ef_1 m a1) k
  obtain ⟨T3, X3, e3, st3⟩ := getS2 X0 hx hZ hown (host := "") (Or.inl (hw _ (List.mem_of_getElem? (i := 35) rfl))) Via.refl e0 S_DECIMAL (g := (mkF m 1 #[.val (.ref a1)] [(.ref a1)])) rfl (hb hby d1_1)
  obtain ⟨fs, hr, hrun, hended, hW, hsame⟩ := X3.leave (v := some (.int (1 : Int32))) (fun h => by rw [Bd.returns] at h; cases h)
  refine ⟨_, _, pre0 _ ?_, hrun, hended, _, _, rfl, ?_, ⟨_, rfl⟩, hW, hsame.mono (by decide) (by decide)⟩
  · show Steps p.tables e below (s₁.setTop (mkF m 0 #[.val (.ref a1)] [])) _
    refine XS.aloadN X0.here hx rfl (hb hby d1_0) rfl rfl ?_
    show Steps p.tables e below (s₁.setTop (mkF m 1 #[.val (.ref a1)] [(.ref a1)])) _
    refine st3 _ ?_
    show Steps p.tables e below (T3.setTop (mkF m 4 #[.val (.ref a1)] [(.ref w2), (.ref a1)])) _
    refine Jvm.RoadKit.acmp (g := (mkF m 4 #[.val (.ref a1)] [(.ref w2), (.ref a1)])) X3 hx rfl rfl rfl (pc0 := 4) (pc' := 28) (same := true) rfl (hb hby d1_4) rfl (decide_eq_true (congrArg Value.ref ha4)) (by decide) (by decide) ?_
    show Steps p.tables e below (T3.setTop (mkF m 28 #[.val (.ref a1)] [])) _
    refine XS.iconst X3.here hx rfl (hb hby d1_28) ?_
    show Steps p.tables e below (T3.setTop (mkF m 29 #[.val (.ref a1)] [(.int (1 : Int32))])) _
    refine XS.goto X3.here hx rfl (pc0 := 29) (pc' := 33) rfl (hb hby d1_29) (by decide) (by decide) ?_
    show Steps p.tables e below (T3.setTop (mkF m 33 #[.val (.ref a1)] [(.int (1 : Int32))])) _
    exact retN X3 hx (t := .boolean) Bd.returns (by simp) (hb hby d1_33) hr
  · show (own_ret (.int (1 : Int32)) n0 h0) _ T3.heap _
    rw [e3]
    exact ⟨rfl, N0, rfl⟩
theorem d1_7 : decode prog_37_method_5_code 7 = .ok (.aload_n 0, 1) := by decide +kernel
theorem d1_8 : decode prog_37_method_5_code 8 = .ok (.getstatic 22, 3) := by decide +kernel
theorem d1_11 : decode prog_37_method_5_code 11 = .ok (.if_acmp .eq 17, 3) := by decide +kernel
set_option maxRecDepth 65536 in
set_option maxHeartbeats 40000000 in
theorem own_y_DATE (l : Launch) (Z : State) (a0 : Array Value) (hw : ∀ d ∈ tables_1, d.before a0 Z = true) (ws : List Jvm.Cond) (a1 : Addr) (w2 : Addr) (w4 : Addr) (h0 : Heap) (n0 : Nat) (Z0 : n0 ≤ h0.size) (S_DECIMAL : Sta Z h0 "com/example/loomwire/loomwire/schema/ColumnType" "DECIMAL" "Lcom/example/loomwire/loomwire/schema/ColumnType;" (.ref w2)) (S_DATE : Sta Z h0 "com/example/loomwire/loomwire/schema/ColumnType" "DATE" "Lcom/example/loomwire/loomwire/schema/ColumnType;" (.ref w4)) (ha4 : ¬ (a1 = w2)) (ha11 : a1 = w4) :
    MetFree l (⟨"com/example/loomwire/loomwire/schema/ColumnType", "mayBeDatabaseText", "()Z"⟩ : MethodName) (head1 (Jvm.Cond.code (⟨"com/example/loomwire/loomwire/schema/ColumnType", "mayBeDatabaseText", "()Z"⟩ : MethodName) prog_37_method_5_code 1 (some .boolean) :: ws) ({ frames := 0, cells := 0, slots := 0, locals := 0 } : Room)) (fun a U => a = #[(.ref a1)] ∧ Z.Warmed39 U.vm ∧ U.heap = h0) (fun _ _ _ _ _ => True) (fun _ U o U' => ∃ v L, o = .returned v ∧ (own_ret (.int (1 : Int32)) n0 h0) v U'.heap L ∧ FrameEnd U o U' L ({ frames := 0, cells := 0, slots := 0, locals := 0 } : Room).cells ({ frames := 0, cells := 0, slots := 0, locals := 0 } : Room).slots) := by
  refine MetFree.of_bodySF (plainFor_of_name pn_1) hisR ?_
  intro p e s m args below meth c s₁ Bd hml0 hP hK
  obtain ⟨rfl, hZ, hh⟩ := hP
  have hx := Bd.exec
  have hby := Bd.bytes
  have hml : c.maxLocals = 1 := hml0
  have hown : s.vm.findClass "com/example/loomwire/loomwire/schema/ColumnType" = some m.cls := findClass_of_methodNamed Bd.named
  have hnm := (name_of_methodNamed Bd.named Bd.method).1
  have X0 : Stand p l e ({ frames := 0, cells := 0, slots := 0, locals := 0 } : Room) s m #[(.ref a1)] below meth c s₁ [] 0 0 := Stand.of_body Bd
  have e0 : s₁.heap = h0 := by rw [← hh, Bd.state]; rfl
  have N0 := Fr.nil n0
  have pre0 : ∀ t, Steps p.tables e below (s₁.setTop (mkF m 0 #[.val (.ref a1)] [])) t → Steps p.tables e below (s₁.setTop (entryFrame m #[(.ref a1)] 1)) t := fun t k => castTop (ef_1 m a1) k
  obtain ⟨T3, X3, e3, st3⟩ := getS2 X0 hx hZ hown (host := "") (Or.inl (hw _ (List.mem_of_getElem? (i := 35) rfl))) Via.refl e0 S_DECIMAL (g := (mkF m 1 #[.val (.ref a1)] [(.ref a1)])) rfl (hb hby d1_1)
  obtain ⟨T5, X5, e5, st5⟩ := getS2 X3 hx hZ hown (host := "") (Or.inl (hw _ (List.mem_of_getElem? (i := 36) rfl))) Via.refl e3 S_DATE (g := (mkF m 8 #[.val (.ref a1)] [(.ref a1)])) rfl (hb hby d1_8)
  obtain ⟨fs, hr, hrun, hended, hW, hsame⟩ := X5.leave (v := some (.int (1 : Int32))) (fun h => by rw [Bd.returns] at h; cases h)
  refine ⟨_, _, pre0 _ ?_, hrun, hended, _, _, rfl, ?_, ⟨_, rfl⟩, hW, hsame.mono (by decide) (by decide)⟩
  · show Steps p.tables e below (s₁.setTop (mkF m 0 #[.val (.ref a1)] [])) _
    refine XS.aloadN X0.here hx rfl (hb hby d1_0) rfl rfl ?_
    show Steps p.tables e below (s₁.setTop (mkF m 1 #[.val (.ref a1)] [(.ref a1)])) _
    refine st3 _ ?_
    show Steps p.tables e below (T3.setTop (mkF m 4 #[.val (.ref a1)] [(.ref w2), (.ref a1)])) _
    refine Jvm.RoadKit.acmp (g := (mkF m 4 #[.val (.ref a1)] [(.ref w2), (.ref a1)])) X3 hx rfl rfl rfl (pc0 := 4) (pc' := 7) (same := false) rfl (hb hby d1_4) rfl (decide_eq_false fun q => ha4 (Value.ref.inj q)) (by decide) (by decide) ?_
    show Steps p.tables e below (T3.setTop (mkF m 7 #[.val (.ref a1)] [])) _
    refine XS.aloadN X3.here hx rfl (hb hby d1_7) rfl rfl ?_
    show Steps p.tables e below (T3.setTop (mkF m 8 #[.val (.ref a1)] [(.ref a1)])) _
    refine st5 _ ?_
    show Steps p.tables e below (T5.setTop (mkF m 11 #[.val (.ref a1)] [(.ref w4), (.ref a1)])) _
    refine Jvm.RoadKit.acmp (g := (mkF m 11 #[.val (.ref a1)] [(.ref w4), (.ref a1)])) X5 hx rfl rfl rfl (pc0 := 11) (pc' := 28) (same := true) rfl (hb hby d1_11) rfl (decide_eq_true (congrArg Value.ref ha11)) (by decide) (by decide) ?_
    show Steps p.tables e below (T5.setTop (mkF m 28 #[.val (.ref a1)] [])) _
    refine XS.iconst X5.here hx rfl (hb hby d1_28) ?_
    show Steps p.tables e below (T5.setTop (mkF m 29 #[.val (.ref a1)] [(.int (1 : Int32))])) _
    refine XS.goto X5.here hx rfl (pc0 := 29) (pc' := 33) rfl (hb hby d1_29) (by decide) (by decide) ?_
    show Steps p.tables e below (T5.setTop (mkF m 33 #[.val (.ref a1)] [(.int (1 : Int32))])) _
    exact retN X5 hx (t := .boolean) Bd.returns (by simp) (hb hby d1_33) hr
  · show (own_ret (.int (1 : Int32)) n0 h0) _ T5.heap _
    rw [e5]
    exact ⟨rfl, N0, rfl⟩
theorem d1_14 : decode prog_37_method_5_code 14 = .ok (.aload_n 0, 1) := by decide +kernel
theorem d1_15 : decode prog_37_method_5_code 15 = .ok (.getstatic 25, 3) := by decide +kernel
theorem d1_18 : decode prog_37_method_5_code 18 = .ok (.if_acmp .eq 10, 3) := by decide +kernel
set_option maxRecDepth 65536 in
set_option maxHeartbeats 40000000 in
theorem own_y_TIME (l : Launch) (Z : State) (a0 : Array Value) (hw : ∀ d ∈ tables_1, d.before a0 Z = true) (ws : List Jvm.Cond) (a1 : Addr) (w2 : Addr) (w4 : Addr) (w6 : Addr) (h0 : Heap) (n0 : Nat) (Z0 : n0 ≤ h0.size) (S_DECIMAL : Sta Z h0 "com/example/loomwire/loomwire/schema/ColumnType" "DECIMAL" "Lcom/example/loomwire/loomwire/schema/ColumnType;" (.ref w2)) (S_DATE : Sta Z h0 "com/example/loomwire/loomwire/schema/ColumnType" "DATE" "Lcom/example/loomwire/loomwire/schema/ColumnType;" (.ref w4)) (S_TIME : Sta Z h0 "com/example/loomwire/loomwire/schema/ColumnType" "TIME" "Lcom/example/loomwire/loomwire/schema/ColumnType;" (.ref w6)) (ha4 : ¬ (a1 = w2)) (ha11 : ¬ (a1 = w4)) (ha18 : a1 = w6) :
    MetFree l (⟨"com/example/loomwire/loomwire/schema/ColumnType", "mayBeDatabaseText", "()Z"⟩ : MethodName) (head1 (Jvm.Cond.code (⟨"com/example/loomwire/loomwire/schema/ColumnType", "mayBeDatabaseText", "()Z"⟩ : MethodName) prog_37_method_5_code 1 (some .boolean) :: ws) ({ frames := 0, cells := 0, slots := 0, locals := 0 } : Room)) (fun a U => a = #[(.ref a1)] ∧ Z.Warmed39 U.vm ∧ U.heap = h0) (fun _ _ _ _ _ => True) (fun _ U o U' => ∃ v L, o = .returned v ∧ (own_ret (.int (1 : Int32)) n0 h0) v U'.heap L ∧ FrameEnd U o U' L ({ frames := 0, cells := 0, slots := 0, locals := 0 } : Room).cells ({ frames := 0, cells := 0, slots := 0, locals := 0 } : Room).slots) := by
  refine MetFree.of_bodySF (plainFor_of_name pn_1) hisR ?_
  intro p e s m args below meth c s₁ Bd hml0 hP hK
  obtain ⟨rfl, hZ, hh⟩ := hP
  have hx := Bd.exec
  have hby := Bd.bytes
  have hml : c.maxLocals = 1 := hml0
  have hown : s.vm.findClass "com/example/loomwire/loomwire/schema/ColumnType" = some m.cls := findClass_of_methodNamed Bd.named
  have hnm := (name_of_methodNamed Bd.named Bd.method).1
  have X0 : Stand p l e ({ frames := 0, cells := 0, slots := 0, locals := 0 } : Room) s m #[(.ref a1)] below meth c s₁ [] 0 0 := Stand.of_body Bd
  have e0 : s₁.heap = h0 := by rw [← hh, Bd.state]; rfl
  have N0 := Fr.nil n0
  have pre0 : ∀ t, Steps p.tables e below (s₁.setTop (mkF m 0 #[.val (.ref a1)] [])) t → Steps p.tables e below (s₁.setTop (entryFrame m #[(.ref a1)] 1)) t := fun t k => castTop (ef_1 m a1) k
  obtain ⟨T3, X3, e3, st3⟩ := getS2 X0 hx hZ hown (host := "") (Or.inl (hw _ (List.mem_of_getElem? (i := 35) rfl))) Via.refl e0 S_DECIMAL (g := (mkF m 1 #[.val (.ref a1)] [(.ref a1)])) rfl (hb hby d1_1)
  obtain ⟨T5, X5, e5, st5⟩ := getS2 X3 hx hZ hown (host := "") (Or.inl (hw _ (List.mem_of_getElem? (i := 36) rfl))) Via.refl e3 S_DATE (g := (mkF m 8 #[.val (.ref a1)] [(.ref a1)])) rfl (hb hby d1_8)
  obtain ⟨T7, X7, e7, st7⟩ := getS2 X5 hx hZ hown (host := "") (Or.inl (hw _ (List.mem_of_getElem? (i := 37) rfl))) Via.refl e5 S_TIME (g := (mkF m 15 #[.val (.ref a1)] [(.ref a1)])) rfl (hb hby d1_15)
  obtain ⟨fs, hr, hrun, hended, hW, hsame⟩ := X7.leave (v := some (.int (1 : Int32))) (fun h => by rw [Bd.returns] at h; cases h)
  refine ⟨_, _, pre0 _ ?_, hrun, hended, _, _, rfl, ?_, ⟨_, rfl⟩, hW, hsame.mono (by decide) (by decide)⟩
  · show Steps p.tables e below (s₁.setTop (mkF m 0 #[.val (.ref a1)] [])) _
    refine XS.aloadN X0.here hx rfl (hb hby d1_0) rfl rfl ?_
    show Steps p.tables e below (s₁.setTop (mkF m 1 #[.val (.ref a1)] [(.ref a1)])) _
    refine st3 _ ?_
    show Steps p.tables e below (T3.setTop (mkF m 4 #[.val (.ref a1)] [(.ref w2), (.ref a1)])) _
    refine Jvm.RoadKit.acmp (g := (mkF m 4 #[.val (.ref a1)] [(.ref w2), (.ref a1)])) X3 hx rfl rfl rfl (pc0 := 4) (pc' := 7) (same := false) rfl (hb hby d1_4) rfl (decide_eq_false fun q => ha4 (Value.ref.inj q)) (by decide) (by decide) ?_
    show Steps p.tables e below (T3.setTop (mkF m 7 #[.val (.ref a1)] [])) _
    refine XS.aloadN X3.here hx rfl (hb hby d1_7) rfl rfl ?_
    show Steps p.tables e below (T3.setTop (mkF m 8 #[.val (.ref a1)] [(.ref a1)])) _
    refine st5 _ ?_
    show Steps p.tables e below (T5.setTop (mkF m 11 #[.val (.ref a1)] [(.ref w4), (.ref a1)])) _
    refine Jvm.RoadKit.acmp (g := (mkF m 11 #[.val (.ref a1)] [(.ref w4), (.ref a1)])) X5 hx rfl rfl rfl (pc0 := 11) (pc' := 14) (same := false) rfl (hb hby d1_11) rfl (decide_eq_false fun q => ha11 (Value.ref.inj q)) (by decide) (by decide) ?_
    show Steps p.tables e below (T5.setTop (mkF m 14 #[.val (.ref a1)] [])) _
    refine XS.aloadN X5.here hx rfl (hb hby d1_14) rfl rfl ?_
    show Steps p.tables e below (T5.setTop (mkF m 15 #[.val (.ref a1)] [(.ref a1)])) _
    refine st7 _ ?_
    show Steps p.tables e below (T7.setTop (mkF m 18 #[.val (.ref a1)] [(.ref w6), (.ref a1)])) _
    refine Jvm.RoadKit.acmp (g := (mkF m 18 #[.val (.ref a1)] [(.ref w6), (.ref a1)])) X7 hx rfl rfl rfl (pc0 := 18) (pc' := 28) (same := true) rfl (hb hby d1_18) rfl (decide_eq_true (congrArg Value.ref ha18)) (by decide) (by decide) ?_
    show Steps p.tables e below (T7.setTop (mkF m 28 #[.val (.ref a1)] [])) _
    refine XS.iconst X7.here hx rfl (hb hby d1_28) ?_
    show Steps p.tables e below (T7.setTop (mkF m 29 #[.val (.ref a1)] [(.int (1 : Int32))])) _
    refine XS.goto X7.here hx rfl (pc0 := 29) (pc' := 33) rfl (hb hby d1_29) (by decide) (by decide) ?_
    show Steps p.tables e below (T7.setTop (mkF m 33 #[.val (.ref a1)] [(.int (1 : Int32))])) _
    exact retN X7 hx (t := .boolean) Bd.returns (by simp) (hb hby d1_33) hr
  · show (own_ret (.int (1 : Int32)) n0 h0) _ T7.heap _
    rw [e7]
    exact ⟨rfl, N0, rfl⟩
theorem d1_21 : decode prog_37_method_5_code 21 = .ok (.aload_n 0, 1) := by decide +kernel
theorem d1_22 : decode prog_37_method_5_code 22 = .ok (.getstatic 28, 3) := by decide +kernel
theorem d1_25 : decode prog_37_method_5_code 25 = .ok (.if_acmp .ne 7, 3) := by decide +kernel
set_option maxRecDepth 65536 in
set_option maxHeartbeats 40000000 in
theorem own_y_TIMESTAMP (l : Launch) (Z : State) (a0 : Array Value) (hw : ∀ d ∈ tables_1, d.before a0 Z = true) (ws : List Jvm.Cond) (a1 : Addr) (w2 : Addr) (w4 : Addr) (w6 : Addr) (w8 : Addr) (h0 : Heap) (n0 : Nat) (Z0 : n0 ≤ h0.size) (S_DECIMAL : Sta Z h0 "com/example/loomwire/loomwire/schema/ColumnType" "DECIMAL" "Lcom/example/loomwire/loomwire/schema/ColumnType;" (.ref w2)) (S_DATE : Sta Z h0 "com/example/loomwire/loomwire/schema/ColumnType" "DATE" "Lcom/example/loomwire/loomwire/schema/ColumnType;" (.ref w4)) (S_TIME : Sta Z h0 "com/example/loomwire/loomwire/schema/ColumnType" "TIME" "Lcom/example/loomwire/loomwire/schema/ColumnType;" (.ref w6)) (S_TIMESTAMP : Sta Z h0 "com/example/loomwire/loomwire/schema/ColumnType" "TIMESTAMP" "Lcom/example/loomwire/loomwire/schema/ColumnType;" (.ref w8)) (ha4 : ¬ (a1 = w2)) (ha11 : ¬ (a1 = w4)) (ha18 : ¬ (a1 = w6)) (ha25 : a1 = w8) :
    MetFree l (⟨"com/example/loomwire/loomwire/schema/ColumnType", "mayBeDatabaseText", "()Z"⟩ : MethodName) (head1 (Jvm.Cond.code (⟨"com/example/loomwire/loomwire/schema/ColumnType", "mayBeDatabaseText", "()Z"⟩ : MethodName) prog_37_method_5_code 1 (some .boolean) :: ws) ({ frames := 0, cells := 0, slots := 0, locals := 0 } : Room)) (fun a U => a = #[(.ref a1)] ∧ Z.Warmed39 U.vm ∧ U.heap = h0) (fun _ _ _ _ _ => True) (fun _ U o U' => ∃ v L, o = .returned v ∧ (own_ret (.int (1 : Int32)) n0 h0) v U'.heap L ∧ FrameEnd U o U' L ({ frames := 0, cells := 0, slots := 0, locals := 0 } : Room).cells ({ frames := 0, cells := 0, slots := 0, locals := 0 } : Room).slots) := by
  refine MetFree.of_bodySF (plainFor_of_name pn_1) hisR ?_
  intro p e s m args below meth c s₁ Bd hml0 hP hK
  obtain ⟨rfl, hZ, hh⟩ := hP
  have hx := Bd.exec
  have hby := Bd.bytes
  have hml : c.maxLocals = 1 := hml0
  have hown : s.vm.findClass "com/example/loomwire/loomwire/schema/ColumnType" = some m.cls := findClass_of_methodNamed Bd.named
  have hnm := (name_of_methodNamed Bd.named Bd.method).1
  have X0 : Stand p l e ({ frames := 0, cells := 0, slots := 0, locals := 0 } : Room) s m #[(.ref a1)] below meth c s₁ [] 0 0 := Stand.of_body Bd
  have e0 : s₁.heap = h0 := by rw [← hh, Bd.state]; rfl
  have N0 := Fr.nil n0
  have pre0 : ∀ t, Steps p.tables e below (s₁.setTop (mkF m 0 #[.val (.ref a1)] [])) t → Steps p.tables e below (s₁.setTop (entryFrame m #[(.ref a1)] 1)) t := fun t k => castTop (ef_1 m a1) k
  obtain ⟨T3, X3, e3, st3⟩ := getS2 X0 hx hZ hown (host := "") (Or.inl (hw _ (List.mem_of_getElem? (i := 35) rfl))) Via.refl e0 S_DECIMAL (g := (mkF m 1 #[.val (.ref a1)] [(.ref a1)])) rfl (hb hby d1_1)
  obtain ⟨T5, X5, e5, st5⟩ := getS2 X3 hx hZ hown (host := "") (Or.inl (hw _ (List.mem_of_getElem? (i := 36) rfl))) Via.refl e3 S_DATE (g := (mkF m 8 #[.val (.ref a1)] [(.ref a1)])) rfl (hb hby d1_8)
  obtain ⟨T7, X7, e7, st7⟩ := getS2 X5 hx hZ hown (host := "") (Or.inl (hw _ (List.mem_of_getElem? (i := 37) rfl))) Via.refl e5 S_TIME (g := (mkF m 15 #[.val (.ref a1)] [(.ref a1)])) rfl (hb hby d1_15)
  obtain ⟨T9, X9, e9, st9⟩ := getS2 X7 hx hZ hown (host := "") (Or.inl (hw _ (List.mem_of_getElem? (i := 38) rfl))) Via.refl e7 S_TIMESTAMP (g := (mkF m 22 #[.val (.ref a1)] [(.ref a1)])) rfl (hb hby d1_22)
  obtain ⟨fs, hr, hrun, hended, hW, hsame⟩ := X9.leave (v := some (.int (1 : Int32))) (fun h => by rw [Bd.returns] at h; cases h)
  refine ⟨_, _, pre0 _ ?_, hrun, hended, _, _, rfl, ?_, ⟨_, rfl⟩, hW, hsame.mono (by decide) (by decide)⟩
  · show Steps p.tables e below (s₁.setTop (mkF m 0 #[.val (.ref a1)] [])) _
    refine XS.aloadN X0.here hx rfl (hb hby d1_0) rfl rfl ?_
    show Steps p.tables e below (s₁.setTop (mkF m 1 #[.val (.ref a1)] [(.ref a1)])) _
    refine st3 _ ?_
    show Steps p.tables e below (T3.setTop (mkF m 4 #[.val (.ref a1)] [(.ref w2), (.ref a1)])) _
    refine Jvm.RoadKit.acmp (g := (mkF m 4 #[.val (.ref a1)] [(.ref w2), (.ref a1)])) X3 hx rfl rfl rfl (pc0 := 4) (pc' := 7) (same := false) rfl (hb hby d1_4) rfl (decide_eq_false fun q => ha4 (Value.ref.inj q)) (by decide) (by decide) ?_
    show Steps p.tables e below (T3.setTop (mkF m 7 #[.val (.ref a1)] [])) _
    refine XS.aloadN X3.here hx rfl (hb hby d1_7) rfl rfl ?_
    show Steps p.tables e below (T3.setTop (mkF m 8 #[.val (.ref a1)] [(.ref a1)])) _
    refine st5 _ ?_
    show Steps p.tables e below (T5.setTop (mkF m 11 #[.val (.ref a1)] [(.ref w4), (.ref a1)])) _
    refine Jvm.RoadKit.acmp (g := (mkF m 11 #[.val (.ref a1)] [(.ref w4), (.ref a1)])) X5 hx rfl rfl rfl (pc0 := 11) (pc' := 14) (same := false) rfl (hb hby d1_11) rfl (decide_eq_false fun q => ha11 (Value.ref.inj q)) (by decide) (by decide) ?_
    show Steps p.tables e below (T5.setTop (mkF m 14 #[.val (.ref a1)] [])) _
    refine XS.aloadN X5.here hx rfl (hb hby d1_14) rfl rfl ?_
    show Steps p.tables e below (T5.setTop (mkF m 15 #[.val (.ref a1)] [(.ref a1)])) _
    refine st7 _ ?_
    show Steps p.tables e below (T7.setTop (mkF m 18 #[.val (.ref a1)] [(.ref w6), (.ref a1)])) _
    refine Jvm.RoadKit.acmp (g := (mkF m 18 #[.val (.ref a1)] [(.ref w6), (.ref a1)])) X7 hx rfl rfl rfl (pc0 := 18) (pc' := 21) (same := false) rfl (hb hby d1_18) rfl (decide_eq_false fun q => ha18 (Value.ref.inj q)) (by decide) (by decide) ?_
    show Steps p.tables e below (T7.setTop (mkF m 21 #[.val (.ref a1)] [])) _
    refine XS.aloadN X7.here hx rfl (hb hby d1_21) rfl rfl ?_
    show Steps p.tables e below (T7.setTop (mkF m 22 #[.val (.ref a1)] [(.ref a1)])) _
    refine st9 _ ?_
    show Steps p.tables e below (T9.setTop (mkF m 25 #[.val (.ref a1)] [(.ref w8), (.ref a1)])) _
    refine Jvm.RoadKit.acmp (g := (mkF m 25 #[.val (.ref a1)] [(.ref w8), (.ref a1)])) X9 hx rfl rfl rfl (pc0 := 25) (pc' := 28) (same := true) rfl (hb hby d1_25) rfl (decide_eq_true (congrArg Value.ref ha25)) (by decide) (by decide) ?_
    show Steps p.tables e below (T9.setTop (mkF m 28 #[.val (.ref a1)] [])) _
    refine XS.iconst X9.here hx rfl (hb hby d1_28) ?_
    show Steps p.tables e below (T9.setTop (mkF m 29 #[.val (.ref a1)] [(.int (1 : Int32))])) _
    refine XS.goto X9.here hx rfl (pc0 := 29) (pc' := 33) rfl (hb hby d1_29) (by decide) (by decide) ?_
    show Steps p.tables e below (T9.setTop (mkF m 33 #[.val (.ref a1)] [(.int (1 : Int32))])) _
    exact retN X9 hx (t := .boolean) Bd.returns (by simp) (hb hby d1_33) hr
  · show (own_ret (.int (1 : Int32)) n0 h0) _ T9.heap _
    rw [e9]
    exact ⟨rfl, N0, rfl⟩
theorem d1_32 : decode prog_37_method_5_code 32 = .ok (.iconst 0, 1) := by decide +kernel
set_option maxRecDepth 65536 in
set_option maxHeartbeats 40000000 in
theorem own_n (l : Launch) (Z : State) (a0 : Array Value) (hw : ∀ d ∈ tables_1, d.before a0 Z = true) (ws : List Jvm.Cond) (a1 : Addr) (w2 : Addr) (w4 : Addr) (w6 : Addr) (w8 : Addr) (h0 : Heap) (n0 : Nat) (Z0 : n0 ≤ h0.size) (S_DECIMAL : Sta Z h0 "com/example/loomwire/loomwire/schema/ColumnType" "DECIMAL" "Lcom/example/loomwire/loomwire/schema/ColumnType;" (.ref w2)) (S_DATE : Sta Z h0 "com/example/loomwire/loomwire/schema/ColumnType" "DATE" "Lcom/example/loomwire/loomwire/schema/ColumnType;" (.ref w4)) (S_TIME : Sta Z h0 "com/example/loomwire/loomwire/schema/ColumnType" "TIME" "Lcom/example/loomwire/loomwire/schema/ColumnType;" (.ref w6)) (S_TIMESTAMP : Sta Z h0 "com/example/loomwire/loomwire/schema/ColumnType" "TIMESTAMP" "Lcom/example/loomwire/loomwire/schema/ColumnType;" (.ref w8)) (ha4 : ¬ (a1 = w2)) (ha11 : ¬ (a1 = w4)) (ha18 : ¬ (a1 = w6)) (ha25 : ¬ (a1 = w8)) :
    MetFree l (⟨"com/example/loomwire/loomwire/schema/ColumnType", "mayBeDatabaseText", "()Z"⟩ : MethodName) (head1 (Jvm.Cond.code (⟨"com/example/loomwire/loomwire/schema/ColumnType", "mayBeDatabaseText", "()Z"⟩ : MethodName) prog_37_method_5_code 1 (some .boolean) :: ws) ({ frames := 0, cells := 0, slots := 0, locals := 0 } : Room)) (fun a U => a = #[(.ref a1)] ∧ Z.Warmed39 U.vm ∧ U.heap = h0) (fun _ _ _ _ _ => True) (fun _ U o U' => ∃ v L, o = .returned v ∧ (own_ret (.int (0 : Int32)) n0 h0) v U'.heap L ∧ FrameEnd U o U' L ({ frames := 0, cells := 0, slots := 0, locals := 0 } : Room).cells ({ frames := 0, cells := 0, slots := 0, locals := 0 } : Room).slots) := by
  refine MetFree.of_bodySF (plainFor_of_name pn_1) hisR ?_
  intro p e s m args below meth c s₁ Bd hml0 hP hK
  obtain ⟨rfl, hZ, hh⟩ := hP
  have hx := Bd.exec
  have hby := Bd.bytes
  have hml : c.maxLocals = 1 := hml0
  have hown : s.vm.findClass "com/example/loomwire/loomwire/schema/ColumnType" = some m.cls := findClass_of_methodNamed Bd.named
  have hnm := (name_of_methodNamed Bd.named Bd.method).1
  have X0 : Stand p l e ({ frames := 0, cells := 0, slots := 0, locals := 0 } : Room) s m #[(.ref a1)] below meth c s₁ [] 0 0 := Stand.of_body Bd
  have e0 : s₁.heap = h0 := by rw [← hh, Bd.state]; rfl
  have N0 := Fr.nil n0
  have pre0 : ∀ t, Steps p.tables e below (s₁.setTop (mkF m 0 #[.val (.ref a1)] [])) t → Steps p.tables e below (s₁.setTop (entryFrame m #[(.ref a1)] 1)) t := fun t k => castTop (ef_1 m a1) k
  obtain ⟨T3, X3, e3, st3⟩ := getS2 X0 hx hZ hown (host := "") (Or.inl (hw _ (List.mem_of_getElem? (i := 35) rfl))) Via.refl e0 S_DECIMAL (g := (mkF m 1 #[.val (.ref a1)] [(.ref a1)])) rfl (hb hby d1_1)
  obtain ⟨T5, X5, e5, st5⟩ := getS2 X3 hx hZ hown (host := "") (Or.inl (hw _ (List.mem_of_getElem? (i := 36) rfl))) Via.refl e3 S_DATE (g := (mkF m 8 #[.val (.ref a1)] [(.ref a1)])) rfl (hb hby d1_8)
  obtain ⟨T7, X7, e7, st7⟩ := getS2 X5 hx hZ hown (host := "") (Or.inl (hw _ (List.mem_of_getElem? (i := 37) rfl))) Via.refl e5 S_TIME (g := (mkF m 15 #[.val (.ref a1)] [(.ref a1)])) rfl (hb hby d1_15)
  obtain ⟨T9, X9, e9, st9⟩ := getS2 X7 hx hZ hown (host := "") (Or.inl (hw _ (List.mem_of_getElem? (i := 38) rfl))) Via.refl e7 S_TIMESTAMP (g := (mkF m 22 #[.val (.ref a1)] [(.ref a1)])) rfl (hb hby d1_22)
  obtain ⟨fs, hr, hrun, hended, hW, hsame⟩ := X9.leave (v := some (.int (0 : Int32))) (fun h => by rw [Bd.returns] at h; cases h)
  refine ⟨_, _, pre0 _ ?_, hrun, hended, _, _, rfl, ?_, ⟨_, rfl⟩, hW, hsame.mono (by decide) (by decide)⟩
  · show Steps p.tables e below (s₁.setTop (mkF m 0 #[.val (.ref a1)] [])) _
    refine XS.aloadN X0.here hx rfl (hb hby d1_0) rfl rfl ?_
    show Steps p.tables e below (s₁.setTop (mkF m 1 #[.val (.ref a1)] [(.ref a1)])) _
    refine st3 _ ?_
    show Steps p.tables e below (T3.setTop (mkF m 4 #[.val (.ref a1)] [(.ref w2), (.ref a1)])) _
    refine Jvm.RoadKit.acmp (g := (mkF m 4 #[.val (.ref a1)] [(.ref w2), (.ref a1)])) X3 hx rfl rfl rfl (pc0 := 4) (pc' := 7) (same := false) rfl (hb hby d1_4) rfl (decide_eq_false fun q => ha4 (Value.ref.inj q)) (by decide) (by decide) ?_
    show Steps p.tables e below (T3.setTop (mkF m 7 #[.val (.ref a1)] [])) _
    refine XS.aloadN X3.here hx rfl (hb hby d1_7) rfl rfl ?_
    show Steps p.tables e below (T3.setTop (mkF m 8 #[.val (.ref a1)] [(.ref a1)])) _
    refine st5 _ ?_
    show Steps p.tables e below (T5.setTop (mkF m 11 #[.val (.ref a1)] [(.ref w4), (.ref a1)])) _
    refine Jvm.RoadKit.acmp (g := (mkF m 11 #[.val (.ref a1)] [(.ref w4), (.ref a1)])) X5 hx rfl rfl rfl (pc0 := 11) (pc' := 14) (same := false) rfl (hb hby d1_11) rfl (decide_eq_false fun q => ha11 (Value.ref.inj q)) (by decide) (by decide) ?_
    show Steps p.tables e below (T5.setTop (mkF m 14 #[.val (.ref a1)] [])) _
    refine XS.aloadN X5.here hx rfl (hb hby d1_14) rfl rfl ?_
    show Steps p.tables e below (T5.setTop (mkF m 15 #[.val (.ref a1)] [(.ref a1)])) _
    refine st7 _ ?_
    show Steps p.tables e below (T7.setTop (mkF m 18 #[.val (.ref a1)] [(.ref w6), (.ref a1)])) _
    refine Jvm.RoadKit.acmp (g := (mkF m 18 #[.val (.ref a1)] [(.ref w6), (.ref a1)])) X7 hx rfl rfl rfl (pc0 := 18) (pc' := 21) (same := false) rfl (hb hby d1_18) rfl (decide_eq_false fun q => ha18 (Value.ref.inj q)) (by decide) (by decide) ?_
    show Steps p.tables e below (T7.setTop (mkF m 21 #[.val (.ref a1)] [])) _
    refine XS.aloadN X7.here hx rfl (hb hby d1_21) rfl rfl ?_
    show Steps p.tables e below (T7.setTop (mkF m 22 #[.val (.ref a1)] [(.ref a1)])) _
    refine st9 _ ?_
    show Steps p.tables e below (T9.setTop (mkF m 25 #[.val (.ref a1)] [(.ref w8), (.ref a1)])) _
    refine Jvm.RoadKit.acmp (g := (mkF m 25 #[.val (.ref a1)] [(.ref w8), (.ref a1)])) X9 hx rfl rfl rfl (pc0 := 25) (pc' := 32) (same := false) rfl (hb hby d1_25) rfl (decide_eq_false fun q => ha25 (Value.ref.inj q)) (by decide) (by decide) ?_
    show Steps p.tables e below (T9.setTop (mkF m 32 #[.val (.ref a1)] [])) _
    refine XS.iconst X9.here hx rfl (hb hby d1_32) ?_
    show Steps p.tables e below (T9.setTop (mkF m 33 #[.val (.ref a1)] [(.int (0 : Int32))])) _
    exact retN X9 hx (t := .boolean) Bd.returns (by simp) (hb hby d1_33) hr
  · show (own_ret (.int (0 : Int32)) n0 h0) _ T9.heap _
    rw [e9]
    exact ⟨rfl, N0, rfl⟩
theorem pd_z : parseMethodDescriptor "()Z" = some ⟨[], some .boolean⟩ := by decide +kernel
theorem pn_0 : plainName "com/example/loomwire/loomwire/schema/ColumnTypeMayBeDatabaseTextPinLaw" = true := by first | (simp [plainName, overriddenIn]; done) | decide +kernel
theorem ef_0 (m : MethodId) (x0 : Int32) : entryFrame m #[(.int x0)] maxLocals = mkF m 0 #[.val (.int x0), .unset, .unset, .unset] [] := by first | (simp [entryFrame, mkF, argsToLocals, Value.category, maxLocals]; done) | rfl
set_option maxRecDepth 65536 in
set_option maxHeartbeats 40000000 in
theorem own_law (l : Launch) (Z : State) (a0 : Array Value) (hw : ∀ d ∈ tables_1, d.before a0 Z = true) (ws : List Jvm.Cond) (p1 : Int32) (h0 : Heap) (n0 : Nat) (Z0 : n0 ≤ h0.size) (w_INTEGER : Addr) (S_INTEGER : Sta Z h0 "com/example/loomwire/loomwire/schema/ColumnType" "INTEGER" "Lcom/example/loomwire/loomwire/schema/ColumnType;" (.ref w_INTEGER)) (E_INTEGER : Exa Z h0 w_INTEGER "com/example/loomwire/loomwire/schema/ColumnType") (w_DECIMAL : Addr) (S_DECIMAL : Sta Z h0 "com/example/loomwire/loomwire/schema/ColumnType" "DECIMAL" "Lcom/example/loomwire/loomwire/schema/ColumnType;" (.ref w_DECIMAL)) (E_DECIMAL : Exa Z h0 w_DECIMAL "com/example/loomwire/loomwire/schema/ColumnType") (w_REAL : Addr) (S_REAL : Sta Z h0 "com/example/loomwire/loomwire/schema/ColumnType" "REAL" "Lcom/example/loomwire/loomwire/schema/ColumnType;" (.ref w_REAL)) (E_REAL : Exa Z h0 w_REAL "com/example/loomwire/loomwire/schema/ColumnType") (w_DOUBLE : Addr) (S_DOUBLE : Sta Z h0 "com/example/loomwire/loomwire/schema/ColumnType" "DOUBLE" "Lcom/example/loomwire/loomwire/schema/ColumnType;" (.ref w_DOUBLE)) (E_DOUBLE : Exa Z h0 w_DOUBLE "com/example/loomwire/loomwire/schema/ColumnType") (w_BOOLEAN : Addr) (S_BOOLEAN : Sta Z h0 "com/example/loomwire/loomwire/schema/ColumnType" "BOOLEAN" "Lcom/example/loomwire/loomwire/schema/ColumnType;" (.ref w_BOOLEAN)) (E_BOOLEAN : Exa Z h0 w_BOOLEAN "com/example/loomwire/loomwire/schema/ColumnType") (w_TEXT : Addr) (S_TEXT : Sta Z h0 "com/example/loomwire/loomwire/schema/ColumnType" "TEXT" "Lcom/example/loomwire/loomwire/schema/ColumnType;" (.ref w_TEXT)) (E_TEXT : Exa Z h0 w_TEXT "com/example/loomwire/loomwire/schema/ColumnType") (w_DATE : Addr) (S_DATE : Sta Z h0 "com/example/loomwire/loomwire/schema/ColumnType" "DATE" "Lcom/example/loomwire/loomwire/schema/ColumnType;" (.ref w_DATE)) (E_DATE : Exa Z h0 w_DATE "com/example/loomwire/loomwire/schema/ColumnType") (w_TIME : Addr) (S_TIME : Sta Z h0 "com/example/loomwire/loomwire/schema/ColumnType" "TIME" "Lcom/example/loomwire/loomwire/schema/ColumnType;" (.ref w_TIME)) (E_TIME : Exa Z h0 w_TIME "com/example/loomwire/loomwire/schema/ColumnType") (w_TIMESTAMP : Addr) (S_TIMESTAMP : Sta Z h0 "com/example/loomwire/loomwire/schema/ColumnType" "TIMESTAMP" "Lcom/example/loomwire/loomwire/schema/ColumnType;" (.ref w_TIMESTAMP)) (E_TIMESTAMP : Exa Z h0 w_TIMESTAMP "com/example/loomwire/loomwire/schema/ColumnType") (w_TIMESTAMP_WITH_TIME_ZONE : Addr) (S_TIMESTAMP_WITH_TIME_ZONE : Sta Z h0 "com/example/loomwire/loomwire/schema/ColumnType" "TIMESTAMP_WITH_TIME_ZONE" "Lcom/example/loomwire/loomwire/schema/ColumnType;" (.ref w_TIMESTAMP_WITH_TIME_ZONE)) (E_TIMESTAMP_WITH_TIME_ZONE : Exa Z h0 w_TIMESTAMP_WITH_TIME_ZONE "com/example/loomwire/loomwire/schema/ColumnType") (w_BINARY : Addr) (S_BINARY : Sta Z h0 "com/example/loomwire/loomwire/schema/ColumnType" "BINARY" "Lcom/example/loomwire/loomwire/schema/ColumnType;" (.ref w_BINARY)) (E_BINARY : Exa Z h0 w_BINARY "com/example/loomwire/loomwire/schema/ColumnType") (w_OTHER : Addr) (S_OTHER : Sta Z h0 "com/example/loomwire/loomwire/schema/ColumnType" "OTHER" "Lcom/example/loomwire/loomwire/schema/ColumnType;" (.ref w_OTHER)) (E_OTHER : Exa Z h0 w_OTHER "com/example/loomwire/loomwire/schema/ColumnType") (j : Int32) (hj : (p1 &&& (2147483647 : Int32)) % (12 : Int32) = j) (hlo : ¬ j < 0) (hhi : j < (12 : Int32)) (wj : Addr) (hu : ([(.ref w_INTEGER), (.ref w_DECIMAL), (.ref w_REAL), (.ref w_DOUBLE), (.ref w_BOOLEAN), (.ref w_TEXT), (.ref w_DATE), (.ref w_TIME), (.ref w_TIMESTAMP), (.ref w_TIMESTAMP_WITH_TIME_ZONE), (.ref w_BINARY), (.ref w_OTHER)] : List Value).getD j.toNatClampNeg .null = (.ref wj)) (Ej : Exa Z h0 wj "com/example/loomwire/loomwire/schema/ColumnType") (bj : Int32) (hv : ([(.int (0 : Int32)), (.int (1 : Int32)), (.int (0 : Int32)), (.int (0 : Int32)), (.int (0 : Int32)), (.int (0 : Int32)), (.int (1 : Int32)), (.int (1 : Int32)), (.int (1 : Int32)), (.int (0 : Int32)), (.int (0 : Int32)), (.int (0 : Int32))] : List Value).getD j.toNatClampNeg (.int (0 : Int32)) = (.int bj)) (H1 : ∀ hh : Heap, Keep h0 hh [] → own_M l (⟨"com/example/loomwire/loomwire/schema/ColumnType", "mayBeDatabaseText", "()Z"⟩ : MethodName) prog_37_method_5_code 1 (some .boolean) ({ frames := 0, cells := 0, slots := 0, locals := 0 } : Room) Z #[(.ref wj)] hh (own_ret (.int bj) n0 hh)) :
    MetFree l x (head1 (Jvm.Cond.code x code maxLocals ret :: ws) room_1) (fun a U => a = #[(.int p1)] ∧ Z.Warmed39 U.vm ∧ U.heap = h0) (fun _ _ _ _ _ => True) (fun _ U o U' => ∃ v L, o = .returned v ∧ (own_one n0) v U'.heap L ∧ FrameEnd U o U' L room_1.cells room_1.slots) := by
  refine MetFree.of_bodySF (plainFor_of_name pn_0) hisR ?_
  intro p e s m args below meth c s₁ Bd hml0 hP hK
  obtain ⟨rfl, hZ, hh⟩ := hP
  have hx := Bd.exec
  have hby := Bd.bytes
  have hml : c.maxLocals = 4 := hml0
  have hown : s.vm.findClass "com/example/loomwire/loomwire/schema/ColumnTypeMayBeDatabaseTextPinLaw" = some m.cls := findClass_of_methodNamed Bd.named
  have hnm := (name_of_methodNamed Bd.named Bd.method).1
  have X0 : Stand p l e room_1 s m #[(.int p1)] below meth c s₁ [] 0 0 := Stand.of_body Bd
  have e0 : s₁.heap = h0 := by rw [← hh, Bd.state]; rfl
  have N0 := Fr.nil n0
  have pre0 : ∀ t, Steps p.tables e below (s₁.setTop (mkF m 0 #[.val (.int p1), .unset, .unset, .unset] [])) t → Steps p.tables e below (s₁.setTop (entryFrame m #[(.int p1)] maxLocals)) t := fun t k => castTop (ef_0 m p1) k
  obtain ⟨T2, h2, k2, X2, e2, E2, A2, O2, st2⟩ := newR X0 hx hZ hown (hw _ (List.mem_of_getElem? (i := 0) rfl)) (hw _ (List.mem_of_getElem? (i := 1) rfl)) e0 (g := (mkF m 2 #[.val (.int p1), .unset, .unset, .unset] [(.int (12 : Int32))])) rfl (hb hby at_2) rfl (by decide) (cap := 12) (by decide) (by decide) (by decide) (by decide)
  obtain ⟨b2, g2⟩ : ∃ z, z = h0.size := ⟨_, rfl⟩
  rw [← g2] at A2 st2
  have g_b2 : n0 ≤ b2 := Nat.le_trans Z0 (Nat.le_trans (Keep.refl h0 []).1 (Nat.le_of_eq g2.symm))
  have sz_b2 : h0.size ≤ b2 := Nat.le_trans (Keep.refl h0 []).1 (Nat.le_of_eq g2.symm)
  have K2 : Keep h0 h2 [] := (Keep.refl h0 []).ext E2
  have Vb2 : Arv Z h2 b2 k2 (.object "com/example/loomwire/loomwire/schema/ColumnType") (12 : Int32) [.null, .null, .null, .null, .null, .null, .null, .null, .null, .null, .null, .null] .null := (Arv.new A2 (by decide)).pad (pad_rep [] .null 12)
  obtain ⟨T3, X3, e3, st3⟩ := getS2 X2 hx hZ hown (host := "") (Or.inl (hw _ (List.mem_of_getElem? (i := 2) rfl))) Via.refl e2 (S_INTEGER.ext (own_ext K2)) (g := (mkF m 7 #[.val (.int p1), .unset, .unset, .unset] [(.int (0 : Int32)), (.ref b2), (.ref b2)])) rfl (hb hby at_7)
  obtain ⟨cl4, Ar4, q4, S4, M4, H4, G4⟩ := Vb2
  have hin4 : ¬ ((0 : Int32) < 0 ∨ cl4.slots.size ≤ ((0 : Int32)).toNatClampNeg) := inb_of S4 ⟨by decide, by decide⟩
  obtain ⟨T4, h4, X4, e4, W4, st4⟩ := stR X3 hx hZ e3 Ar4 (j := (0 : Int32)) hin4 rfl (Sto.ofV Ar4 q4 O2 (Ins.self (E_INTEGER.ext (own_ext K2)))) (g := (mkF m 10 #[.val (.int p1), .unset, .unset, .unset] [(.ref w_INTEGER), (.int (0 : Int32)), (.ref b2), (.ref b2)])) rfl rfl (hb hby at_10)
  obtain ⟨Lg4, X4, N4⟩ := own_hide X4 (Fr.snoc X4 N0 g_b2)
  have Vb2_4 : Arv Z h4 b2 k2 (.object "com/example/loomwire/loomwire/schema/ColumnType") (12 : Int32) [(.ref w_INTEGER), .null, .null, .null, .null, .null, .null, .null, .null, .null, .null, .null] .null := Arv.set Ar4 q4 S4 M4 H4 G4 rfl W4 0 rfl (Nat.le_of_ble_eq_true rfl)
  have K4 : Keep h0 h4 [] := K2.wr W4 (Or.inr sz_b2)
  obtain ⟨T5, X5, e5, st5⟩ := getS2 X4 hx hZ hown (host := "") (Or.inl (hw _ (List.mem_of_getElem? (i := 6) rfl))) Via.refl e4 (S_DECIMAL.ext (own_ext K4)) (g := (mkF m 13 #[.val (.int p1), .unset, .unset, .unset] [(.int (1 : Int32)), (.ref b2), (.ref b2)])) rfl (hb hby at_13)
  obtain ⟨cl6, Ar6, q6, S6, M6, H6, G6⟩ := Vb2_4
  have hin6 : ¬ ((1 : Int32) < 0 ∨ cl6.slots.size ≤ ((1 : Int32)).toNatClampNeg) := inb_of S6 ⟨by decide, by decide⟩
  obtain ⟨T6, h6, X6, e6, W6, st6⟩ := stR X5 hx hZ e5 Ar6 (j := (1 : Int32)) hin6 rfl (Sto.ofV Ar6 q6 O2 (Ins.self (E_DECIMAL.ext (own_ext K4)))) (g := (mkF m 16 #[.val (.int p1), .unset, .unset, .unset] [(.ref w_DECIMAL), (.int (1 : Int32)), (.ref b2), (.ref b2)])) rfl rfl (hb hby at_16)
  obtain ⟨Lg6, X6, N6⟩ := own_hide X6 (Fr.snoc X6 N4 g_b2)
  have Vb2_6 : Arv Z h6 b2 k2 (.object "com/example/loomwire/loomwire/schema/ColumnType") (12 : Int32) [(.ref w_INTEGER), (.ref w_DECIMAL), .null, .null, .null, .null, .null, .null, .null, .null, .null, .null] .null := Arv.set Ar6 q6 S6 M6 H6 G6 rfl W6 1 rfl (Nat.le_of_ble_eq_true rfl)
  have K6 : Keep h0 h6 [] := K4.wr W6 (Or.inr sz_b2)
  obtain ⟨T7, X7, e7, st7⟩ := getS2 X6 hx hZ hown (host := "") (Or.inl (hw _ (List.mem_of_getElem? (i := 8) rfl))) Via.refl e6 (S_REAL.ext (own_ext K6)) (g := (mkF m 19 #[.val (.int p1), .unset, .unset, .unset] [(.int (2 : Int32)), (.ref b2), (.ref b2)])) rfl (hb hby at_19)
  obtain ⟨cl8, Ar8, q8, S8, M8, H8, G8⟩ := Vb2_6
  have hin8 : ¬ ((2 : Int32) < 0 ∨ cl8.slots.size ≤ ((2 : Int32)).toNatClampNeg) := inb_of S8 ⟨by decide, by decide⟩
  obtain ⟨T8, h8, X8, e8, W8, st8⟩ := stR X7 hx hZ e7 Ar8 (j := (2 : Int32)) hin8 rfl (Sto.ofV Ar8 q8 O2 (Ins.self (E_REAL.ext (own_ext K6)))) (g := (mkF m 22 #[.val (.int p1), .unset, .unset, .unset] [(.ref w_REAL), (.int (2 : Int32)), (.ref b2), (.ref b2)])) rfl rfl (hb hby at_22)
  obtain ⟨Lg8, X8, N8⟩ := own_hide X8 (Fr.snoc X8 N6 g_b2)
  have Vb2_8 : Arv Z h8 b2 k2 (.object "com/example/loomwire/loomwire/schema/ColumnType") (12 : Int32) [(.ref w_INTEGER), (.ref w_DECIMAL), (.ref w_REAL), .null, .null, .null, .null, .null, .null, .null, .null, .null] .null := Arv.set Ar8 q8 S8 M8 H8 G8 rfl W8 2 rfl (Nat.le_of_ble_eq_true rfl)
  have K8 : Keep h0 h8 [] := K6.wr W8 (Or.inr sz_b2)
  obtain ⟨T9, X9, e9, st9⟩ := getS2 X8 hx hZ hown (host := "") (Or.inl (hw _ (List.mem_of_getElem? (i := 10) rfl))) Via.refl e8 (S_DOUBLE.ext (own_ext K8)) (g := (mkF m 25 #[.val (.int p1), .unset, .unset, .unset] [(.int (3 : Int32)), (.ref b2), (.ref b2)])) rfl (hb hby at_25)
  obtain ⟨cl10, Ar10, q10, S10, M10, H10, G10⟩ := Vb2_8
  have hin10 : ¬ ((3 : Int32) < 0 ∨ cl10.slots.size ≤ ((3 : Int32)).toNatClampNeg) := inb_of S10 ⟨by decide, by decide⟩
  obtain ⟨T10, h10, X10, e10, W10, st10⟩ := stR X9 hx hZ e9 Ar10 (j := (3 : Int32)) hin10 rfl (Sto.ofV Ar10 q10 O2 (Ins.self (E_DOUBLE.ext (own_ext K8)))) (g := (mkF m 28 #[.val (.int p1), .unset, .unset, .unset] [(.ref w_DOUBLE), (.int (3 : Int32)), (.ref b2), (.ref b2)])) rfl rfl (hb hby at_28)
  obtain ⟨Lg10, X10, N10⟩ := own_hide X10 (Fr.snoc X10 N8 g_b2)
  have Vb2_10 : Arv Z h10 b2 k2 (.object "com/example/loomwire/loomwire/schema/ColumnType") (12 : Int32) [(.ref w_INTEGER), (.ref w_DECIMAL), (.ref w_REAL), (.ref w_DOUBLE), .null, .null, .null, .null, .null, .null, .null, .null] .null := Arv.set Ar10 q10 S10 M10 H10 G10 rfl W10 3 rfl (Nat.le_of_ble_eq_true rfl)
  have K10 : Keep h0 h10 [] := K8.wr W10 (Or.inr sz_b2)
  obtain ⟨T11, X11, e11, st11⟩ := getS2 X10 hx hZ hown (host := "") (Or.inl (hw _ (List.mem_of_getElem? (i := 12) rfl))) Via.refl e10 (S_BOOLEAN.ext (own_ext K10)) (g := (mkF m 31 #[.val (.int p1), .unset, .unset, .unset] [(.int (4 : Int32)), (.ref b2), (.ref b2)])) rfl (hb hby at_31)
  obtain ⟨cl12, Ar12, q12, S12, M12, H12, G12⟩ := Vb2_10
  have hin12 : ¬ ((4 : Int32) < 0 ∨ cl12.slots.size ≤ ((4 : Int32)).toNatClampNeg) := inb_of S12 ⟨by decide, by decide⟩
  obtain ⟨T12, h12, X12, e12, W12, st12⟩ := stR X11 hx hZ e11 Ar12 (j := (4 : Int32)) hin12 rfl (Sto.ofV Ar12 q12 O2 (Ins.self (E_BOOLEAN.ext (own_ext K10)))) (g := (mkF m 34 #[.val (.int p1), .unset, .unset, .unset] [(.ref w_BOOLEAN), (.int (4 : Int32)), (.ref b2), (.ref b2)])) rfl rfl (hb hby at_34)
  obtain ⟨Lg12, X12, N12⟩ := own_hide X12 (Fr.snoc X12 N10 g_b2)
  have Vb2_12 : Arv Z h12 b2 k2 (.object "com/example/loomwire/loomwire/schema/ColumnType") (12 : Int32) [(.ref w_INTEGER), (.ref w_DECIMAL), (.ref w_REAL), (.ref w_DOUBLE), (.ref w_BOOLEAN), .null, .null, .null, .null, .null, .null, .null] .null := Arv.set Ar12 q12 S12 M12 H12 G12 rfl W12 4 rfl (Nat.le_of_ble_eq_true rfl)
  have K12 : Keep h0 h12 [] := K10.wr W12 (Or.inr sz_b2)
  obtain ⟨T13, X13, e13, st13⟩ := getS2 X12 hx hZ hown (host := "") (Or.inl (hw _ (List.mem_of_getElem? (i := 14) rfl))) Via.refl e12 (S_TEXT.ext (own_ext K12)) (g := (mkF m 37 #[.val (.int p1), .unset, .unset, .unset] [(.int (5 : Int32)), (.ref b2), (.ref b2)])) rfl (hb hby at_37)
  obtain ⟨cl14, Ar14, q14, S14, M14, H14, G14⟩ := Vb2_12
  have hin14 : ¬ ((5 : Int32) < 0 ∨ cl14.slots.size ≤ ((5 : Int32)).toNatClampNeg) := inb_of S14 ⟨by decide, by decide⟩
  obtain ⟨T14, h14, X14, e14, W14, st14⟩ := stR X13 hx hZ e13 Ar14 (j := (5 : Int32)) hin14 rfl (Sto.ofV Ar14 q14 O2 (Ins.self (E_TEXT.ext (own_ext K12)))) (g := (mkF m 40 #[.val (.int p1), .unset, .unset, .unset] [(.ref w_TEXT), (.int (5 : Int32)), (.ref b2), (.ref b2)])) rfl rfl (hb hby at_40)
  obtain ⟨Lg14, X14, N14⟩ := own_hide X14 (Fr.snoc X14 N12 g_b2)
  have Vb2_14 : Arv Z h14 b2 k2 (.object "com/example/loomwire/loomwire/schema/ColumnType") (12 : Int32) [(.ref w_INTEGER), (.ref w_DECIMAL), (.ref w_REAL), (.ref w_DOUBLE), (.ref w_BOOLEAN), (.ref w_TEXT), .null, .null, .null, .null, .null, .null] .null := Arv.set Ar14 q14 S14 M14 H14 G14 rfl W14 5 rfl (Nat.le_of_ble_eq_true rfl)
  have K14 : Keep h0 h14 [] := K12.wr W14 (Or.inr sz_b2)
  obtain ⟨T15, X15, e15, st15⟩ := getS2 X14 hx hZ hown (host := "") (Or.inl (hw _ (List.mem_of_getElem? (i := 16) rfl))) Via.refl e14 (S_DATE.ext (own_ext K14)) (g := (mkF m 44 #[.val (.int p1), .unset, .unset, .unset] [(.int (6 : Int32)), (.ref b2), (.ref b2)])) rfl (hb hby at_44)
  obtain ⟨cl16, Ar16, q16, S16, M16, H16, G16⟩ := Vb2_14
  have hin16 : ¬ ((6 : Int32) < 0 ∨ cl16.slots.size ≤ ((6 : Int32)).toNatClampNeg) := inb_of S16 ⟨by decide, by decide⟩
  obtain ⟨T16, h16, X16, e16, W16, st16⟩ := stR X15 hx hZ e15 Ar16 (j := (6 : Int32)) hin16 rfl (Sto.ofV Ar16 q16 O2 (Ins.self (E_DATE.ext (own_ext K14)))) (g := (mkF m 47 #[.val (.int p1), .unset, .unset, .unset] [(.ref w_DATE), (.int (6 : Int32)), (.ref b2), (.ref b2)])) rfl rfl (hb hby at_47)
  obtain ⟨Lg16, X16, N16⟩ := own_hide X16 (Fr.snoc X16 N14 g_b2)
  have Vb2_16 : Arv Z h16 b2 k2 (.object "com/example/loomwire/loomwire/schema/ColumnType") (12 : Int32) [(.ref w_INTEGER), (.ref w_DECIMAL), (.ref w_REAL), (.ref w_DOUBLE), (.ref w_BOOLEAN), (.ref w_TEXT), (.ref w_DATE), .null, .null, .null, .null, .null] .null := Arv.set Ar16 q16 S16 M16 H16 G16 rfl W16 6 rfl (Nat.le_of_ble_eq_true rfl)
  have K16 : Keep h0 h16 [] := K14.wr W16 (Or.inr sz_b2)
  obtain ⟨T17, X17, e17, st17⟩ := getS2 X16 hx hZ hown (host := "") (Or.inl (hw _ (List.mem_of_getElem? (i := 18) rfl))) Via.refl e16 (S_TIME.ext (own_ext K16)) (g := (mkF m 51 #[.val (.int p1), .unset, .unset, .unset] [(.int (7 : Int32)), (.ref b2), (.ref b2)])) rfl (hb hby at_51)
  obtain ⟨cl18, Ar18, q18, S18, M18, H18, G18⟩ := Vb2_16
  have hin18 : ¬ ((7 : Int32) < 0 ∨ cl18.slots.size ≤ ((7 : Int32)).toNatClampNeg) := inb_of S18 ⟨by decide, by decide⟩
  obtain ⟨T18, h18, X18, e18, W18, st18⟩ := stR X17 hx hZ e17 Ar18 (j := (7 : Int32)) hin18 rfl (Sto.ofV Ar18 q18 O2 (Ins.self (E_TIME.ext (own_ext K16)))) (g := (mkF m 54 #[.val (.int p1), .unset, .unset, .unset] [(.ref w_TIME), (.int (7 : Int32)), (.ref b2), (.ref b2)])) rfl rfl (hb hby at_54)
  obtain ⟨Lg18, X18, N18⟩ := own_hide X18 (Fr.snoc X18 N16 g_b2)
  have Vb2_18 : Arv Z h18 b2 k2 (.object "com/example/loomwire/loomwire/schema/ColumnType") (12 : Int32) [(.ref w_INTEGER), (.ref w_DECIMAL), (.ref w_REAL), (.ref w_DOUBLE), (.ref w_BOOLEAN), (.ref w_TEXT), (.ref w_DATE), (.ref w_TIME), .null, .null, .null, .null] .null := Arv.set Ar18 q18 S18 M18 H18 G18 rfl W18 7 rfl (Nat.le_of_ble_eq_true rfl)
  have K18 : Keep h0 h18 [] := K16.wr W18 (Or.inr sz_b2)
  obtain ⟨T19, X19, e19, st19⟩ := getS2 X18 hx hZ hown (host := "") (Or.inl (hw _ (List.mem_of_getElem? (i := 20) rfl))) Via.refl e18 (S_TIMESTAMP.ext (own_ext K18)) (g := (mkF m 58 #[.val (.int p1), .unset, .unset, .unset] [(.int (8 : Int32)), (.ref b2), (.ref b2)])) rfl (hb hby at_58)
  obtain ⟨cl20, Ar20, q20, S20, M20, H20, G20⟩ := Vb2_18
  have hin20 : ¬ ((8 : Int32) < 0 ∨ cl20.slots.size ≤ ((8 : Int32)).toNatClampNeg) := inb_of S20 ⟨by decide, by decide⟩
  obtain ⟨T20, h20, X20, e20, W20, st20⟩ := stR X19 hx hZ e19 Ar20 (j := (8 : Int32)) hin20 rfl (Sto.ofV Ar20 q20 O2 (Ins.self (E_TIMESTAMP.ext (own_ext K18)))) (g := (mkF m 61 #[.val (.int p1), .unset, .unset, .unset] [(.ref w_TIMESTAMP), (.int (8 : Int32)), (.ref b2), (.ref b2)])) rfl rfl (hb hby at_61)
  obtain ⟨Lg20, X20, N20⟩ := own_hide X20 (Fr.snoc X20 N18 g_b2)
  have Vb2_20 : Arv Z h20 b2 k2 (.object "com/example/loomwire/loomwire/schema/ColumnType") (12 : Int32) [(.ref w_INTEGER), (.ref w_DECIMAL), (.ref w_REAL), (.ref w_DOUBLE), (.ref w_BOOLEAN), (.ref w_TEXT), (.ref w_DATE), (.ref w_TIME), (.ref w_TIMESTAMP), .null, .null, .null] .null := Arv.set Ar20 q20 S20 M20 H20 G20 rfl W20 8 rfl (Nat.le_of_ble_eq_true rfl)
  have K20 : Keep h0 h20 [] := K18.wr W20 (Or.inr sz_b2)
  obtain ⟨T21, X21, e21, st21⟩ := getS2 X20 hx hZ hown (host := "") (Or.inl (hw _ (List.mem_of_getElem? (i := 22) rfl))) Via.refl e20 (S_TIMESTAMP_WITH_TIME_ZONE.ext (own_ext K20)) (g := (mkF m 65 #[.val (.int p1), .unset, .unset, .unset] [(.int (9 : Int32)), (.ref b2), (.ref b2)])) rfl (hb hby at_65)
  obtain ⟨cl22, Ar22, q22, S22, M22, H22, G22⟩ := Vb2_20
  have hin22 : ¬ ((9 : Int32) < 0 ∨ cl22.slots.size ≤ ((9 : Int32)).toNatClampNeg) := inb_of S22 ⟨by decide, by decide⟩
  obtain ⟨T22, h22, X22, e22, W22, st22⟩ := stR X21 hx hZ e21 Ar22 (j := (9 : Int32)) hin22 rfl (Sto.ofV Ar22 q22 O2 (Ins.self (E_TIMESTAMP_WITH_TIME_ZONE.ext (own_ext K20)))) (g := (mkF m 68 #[.val (.int p1), .unset, .unset, .unset] [(.ref w_TIMESTAMP_WITH_TIME_ZONE), (.int (9 : Int32)), (.ref b2), (.ref b2)])) rfl rfl (hb hby at_68)
  obtain ⟨Lg22, X22, N22⟩ := own_hide X22 (Fr.snoc X22 N20 g_b2)
  have Vb2_22 : Arv Z h22 b2 k2 (.object "com/example/loomwire/loomwire/schema/ColumnType") (12 : Int32) [(.ref w_INTEGER), (.ref w_DECIMAL), (.ref w_REAL), (.ref w_DOUBLE), (.ref w_BOOLEAN), (.ref w_TEXT), (.ref w_DATE), (.ref w_TIME), (.ref w_TIMESTAMP), (.ref w_TIMESTAMP_WITH_TIME_ZONE), .null, .null] .null := Arv.set Ar22 q22 S22 M22 H22 G22 rfl W22 9 rfl (Nat.le_of_ble_eq_true rfl)
  have K22 : Keep h0 h22 [] := K20.wr W22 (Or.inr sz_b2)
  obtain ⟨T23, X23, e23, st23⟩ := getS2 X22 hx hZ hown (host := "") (Or.inl (hw _ (List.mem_of_getElem? (i := 24) rfl))) Via.refl e22 (S_BINARY.ext (own_ext K22)) (g := (mkF m 72 #[.val (.int p1), .unset, .unset, .unset] [(.int (10 : Int32)), (.ref b2), (.ref b2)])) rfl (hb hby at_72)
  obtain ⟨cl24, Ar24, q24, S24, M24, H24, G24⟩ := Vb2_22
  have hin24 : ¬ ((10 : Int32) < 0 ∨ cl24.slots.size ≤ ((10 : Int32)).toNatClampNeg) := inb_of S24 ⟨by decide, by decide⟩
  obtain ⟨T24, h24, X24, e24, W24, st24⟩ := stR X23 hx hZ e23 Ar24 (j := (10 : Int32)) hin24 rfl (Sto.ofV Ar24 q24 O2 (Ins.self (E_BINARY.ext (own_ext K22)))) (g := (mkF m 75 #[.val (.int p1), .unset, .unset, .unset] [(.ref w_BINARY), (.int (10 : Int32)), (.ref b2), (.ref b2)])) rfl rfl (hb hby at_75)
  obtain ⟨Lg24, X24, N24⟩ := own_hide X24 (Fr.snoc X24 N22 g_b2)
  have Vb2_24 : Arv Z h24 b2 k2 (.object "com/example/loomwire/loomwire/schema/ColumnType") (12 : Int32) [(.ref w_INTEGER), (.ref w_DECIMAL), (.ref w_REAL), (.ref w_DOUBLE), (.ref w_BOOLEAN), (.ref w_TEXT), (.ref w_DATE), (.ref w_TIME), (.ref w_TIMESTAMP), (.ref w_TIMESTAMP_WITH_TIME_ZONE), (.ref w_BINARY), .null] .null := Arv.set Ar24 q24 S24 M24 H24 G24 rfl W24 10 rfl (Nat.le_of_ble_eq_true rfl)
  have K24 : Keep h0 h24 [] := K22.wr W24 (Or.inr sz_b2)
  obtain ⟨T25, X25, e25, st25⟩ := getS2 X24 hx hZ hown (host := "") (Or.inl (hw _ (List.mem_of_getElem? (i := 26) rfl))) Via.refl e24 (S_OTHER.ext (own_ext K24)) (g := (mkF m 79 #[.val (.int p1), .unset, .unset, .unset] [(.int (11 : Int32)), (.ref b2), (.ref b2)])) rfl (hb hby at_79)
  obtain ⟨cl26, Ar26, q26, S26, M26, H26, G26⟩ := Vb2_24
  have hin26 : ¬ ((11 : Int32) < 0 ∨ cl26.slots.size ≤ ((11 : Int32)).toNatClampNeg) := inb_of S26 ⟨by decide, by decide⟩
  obtain ⟨T26, h26, X26, e26, W26, st26⟩ := stR X25 hx hZ e25 Ar26 (j := (11 : Int32)) hin26 rfl (Sto.ofV Ar26 q26 O2 (Ins.self (E_OTHER.ext (own_ext K24)))) (g := (mkF m 82 #[.val (.int p1), .unset, .unset, .unset] [(.ref w_OTHER), (.int (11 : Int32)), (.ref b2), (.ref b2)])) rfl rfl (hb hby at_82)
  obtain ⟨Lg26, X26, N26⟩ := own_hide X26 (Fr.snoc X26 N24 g_b2)
  have Vb2_26 : Arv Z h26 b2 k2 (.object "com/example/loomwire/loomwire/schema/ColumnType") (12 : Int32) [(.ref w_INTEGER), (.ref w_DECIMAL), (.ref w_REAL), (.ref w_DOUBLE), (.ref w_BOOLEAN), (.ref w_TEXT), (.ref w_DATE), (.ref w_TIME), (.ref w_TIMESTAMP), (.ref w_TIMESTAMP_WITH_TIME_ZONE), (.ref w_BINARY), (.ref w_OTHER)] .null := Arv.set Ar26 q26 S26 M26 H26 G26 rfl W26 11 rfl (Nat.le_of_ble_eq_true rfl)
  have K26 : Keep h0 h26 [] := K24.wr W26 (Or.inr sz_b2)
  obtain ⟨T27, h27, k27, X27, e27, E27, A27, st27⟩ := newP X26 hx hZ (hw _ (List.mem_of_getElem? (i := 28) rfl)) e26 (g := (mkF m 86 #[.val (.int p1), .val (.ref b2), .unset, .unset] [(.int (12 : Int32))])) rfl (hb hby at_86) rfl (by decide) (cap := 12) (by decide) (by decide) (by decide) (by decide)
  obtain ⟨b27, g27⟩ : ∃ z, z = h26.size := ⟨_, rfl⟩
  rw [← g27] at A27 st27
  have g_b27 : n0 ≤ b27 := Nat.le_trans Z0 (Nat.le_trans K26.1 (Nat.le_of_eq g27.symm))
  have sz_b27 : h0.size ≤ b27 := Nat.le_trans K26.1 (Nat.le_of_eq g27.symm)
  have ne_b2_b27 : b2 ≠ b27 := by rw [g27]; exact Nat.ne_of_lt Vb2_26.lt
  have K27 : Keep h0 h27 [] := K26.ext E27
  have Vb2_27 := Vb2_26.ext E27
  have Vb27 : Arv Z h27 b27 k27 .boolean (12 : Int32) [(.int (0 : Int32)), (.int (0 : Int32)), (.int (0 : Int32)), (.int (0 : Int32)), (.int (0 : Int32)), (.int (0 : Int32)), (.int (0 : Int32)), (.int (0 : Int32)), (.int (0 : Int32)), (.int (0 : Int32)), (.int (0 : Int32)), (.int (0 : Int32))] (.int (0 : Int32)) := (Arv.new A27 (by decide)).pad (pad_rep [] (.int (0 : Int32)) 12)
  obtain ⟨cl28, Ar28, q28, S28, M28, H28, G28⟩ := Vb27
  have hin28 : ¬ ((0 : Int32) < 0 ∨ cl28.slots.size ≤ ((0 : Int32)).toNatClampNeg) := inb_of S28 ⟨by decide, by decide⟩
  obtain ⟨T28, h28, X28, e28, W28, st28⟩ := stZ X27 hx hZ e27 Ar28 (j := (0 : Int32)) hin28 (g := (mkF m 91 #[.val (.int p1), .val (.ref b2), .unset, .unset] [(.int (0 : Int32)), (.int (0 : Int32)), (.ref b27), (.ref b27)])) rfl rfl (hb hby at_91)
  rw [own_nar0] at W28
  obtain ⟨Lg28, X28, N28⟩ := own_hide X28 (Fr.snoc X28 N26 g_b27)
  have Vb27_28 : Arv Z h28 b27 k27 .boolean (12 : Int32) [(.int (0 : Int32)), (.int (0 : Int32)), (.int (0 : Int32)), (.int (0 : Int32)), (.int (0 : Int32)), (.int (0 : Int32)), (.int (0 : Int32)), (.int (0 : Int32)), (.int (0 : Int32)), (.int (0 : Int32)), (.int (0 : Int32)), (.int (0 : Int32))] (.int (0 : Int32)) := Arv.set Ar28 q28 S28 M28 H28 G28 rfl W28 0 rfl (Nat.le_of_ble_eq_true rfl)
  have K28 : Keep h0 h28 [] := K27.wr W28 (Or.inr sz_b27)
  have Vb2_28 := Vb2_27.other W28 ne_b2_b27
  obtain ⟨cl29, Ar29, q29, S29, M29, H29, G29⟩ := Vb27_28
  have hin29 : ¬ ((1 : Int32) < 0 ∨ cl29.slots.size ≤ ((1 : Int32)).toNatClampNeg) := inb_of S29 ⟨by decide, by decide⟩
  obtain ⟨T29, h29, X29, e29, W29, st29⟩ := stZ X28 hx hZ e28 Ar29 (j := (1 : Int32)) hin29 (g := (mkF m 95 #[.val (.int p1), .val (.ref b2), .unset, .unset] [(.int (1 : Int32)), (.int (1 : Int32)), (.ref b27), (.ref b27)])) rfl rfl (hb hby at_95)
  rw [own_nar1] at W29
  obtain ⟨Lg29, X29, N29⟩ := own_hide X29 (Fr.snoc X29 N28 g_b27)
  have Vb27_29 : Arv Z h29 b27 k27 .boolean (12 : Int32) [(.int (0 : Int32)), (.int (1 : Int32)), (.int (0 : Int32)), (.int (0 : Int32)), (.int (0 : Int32)), (.int (0 : Int32)), (.int (0 : Int32)), (.int (0 : Int32)), (.int (0 : Int32)), (.int (0 : Int32)), (.int (0 : Int32)), (.int (0 : Int32))] (.int (0 : Int32)) := Arv.set Ar29 q29 S29 M29 H29 G29 rfl W29 1 rfl (Nat.le_of_ble_eq_true rfl)
  have K29 : Keep h0 h29 [] := K28.wr W29 (Or.inr sz_b27)
  have Vb2_29 := Vb2_28.other W29 ne_b2_b27
  obtain ⟨cl30, Ar30, q30, S30, M30, H30, G30⟩ := Vb27_29
  have hin30 : ¬ ((2 : Int32) < 0 ∨ cl30.slots.size ≤ ((2 : Int32)).toNatClampNeg) := inb_of S30 ⟨by decide, by decide⟩
  obtain ⟨T30, h30, X30, e30, W30, st30⟩ := stZ X29 hx hZ e29 Ar30 (j := (2 : Int32)) hin30 (g := (mkF m 99 #[.val (.int p1), .val (.ref b2), .unset, .unset] [(.int (0 : Int32)), (.int (2 : Int32)), (.ref b27), (.ref b27)])) rfl rfl (hb hby at_99)
  rw [own_nar0] at W30
  obtain ⟨Lg30, X30, N30⟩ := own_hide X30 (Fr.snoc X30 N29 g_b27)
  have Vb27_30 : Arv Z h30 b27 k27 .boolean (12 : Int32) [(.int (0 : Int32)), (.int (1 : Int32)), (.int (0 : Int32)), (.int (0 : Int32)), (.int (0 : Int32)), (.int (0 : Int32)), (.int (0 : Int32)), (.int (0 : Int32)), (.int (0 : Int32)), (.int (0 : Int32)), (.int (0 : Int32)), (.int (0 : Int32))] (.int (0 : Int32)) := Arv.set Ar30 q30 S30 M30 H30 G30 rfl W30 2 rfl (Nat.le_of_ble_eq_true rfl)
  have K30 : Keep h0 h30 [] := K29.wr W30 (Or.inr sz_b27)
  have Vb2_30 := Vb2_29.other W30 ne_b2_b27
  obtain ⟨cl31, Ar31, q31, S31, M31, H31, G31⟩ := Vb27_30
  have hin31 : ¬ ((3 : Int32) < 0 ∨ cl31.slots.size ≤ ((3 : Int32)).toNatClampNeg) := inb_of S31 ⟨by decide, by decide⟩
  obtain ⟨T31, h31, X31, e31, W31, st31⟩ := stZ X30 hx hZ e30 Ar31 (j := (3 : Int32)) hin31 (g := (mkF m 103 #[.val (.int p1), .val (.ref b2), .unset, .unset] [(.int (0 : Int32)), (.int (3 : Int32)), (.ref b27), (.ref b27)])) rfl rfl (hb hby at_103)
  rw [own_nar0] at W31
  obtain ⟨Lg31, X31, N31⟩ := own_hide X31 (Fr.snoc X31 N30 g_b27)
  have Vb27_31 : Arv Z h31 b27 k27 .boolean (12 : Int32) [(.int (0 : Int32)), (.int (1 : Int32)), (.int (0 : Int32)), (.int (0 : Int32)), (.int (0 : Int32)), (.int (0 : Int32)), (.int (0 : Int32)), (.int (0 : Int32)), (.int (0 : Int32)), (.int (0 : Int32)), (.int (0 : Int32)), (.int (0 : Int32))] (.int (0 : Int32)) := Arv.set Ar31 q31 S31 M31 H31 G31 rfl W31 3 rfl (Nat.le_of_ble_eq_true rfl)
  have K31 : Keep h0 h31 [] := K30.wr W31 (Or.inr sz_b27)
  have Vb2_31 := Vb2_30.other W31 ne_b2_b27
  obtain ⟨cl32, Ar32, q32, S32, M32, H32, G32⟩ := Vb27_31
  have hin32 : ¬ ((4 : Int32) < 0 ∨ cl32.slots.size ≤ ((4 : Int32)).toNatClampNeg) := inb_of S32 ⟨by decide, by decide⟩
  obtain ⟨T32, h32, X32, e32, W32, st32⟩ := stZ X31 hx hZ e31 Ar32 (j := (4 : Int32)) hin32 (g := (mkF m 107 #[.val (.int p1), .val (.ref b2), .unset, .unset] [(.int (0 : Int32)), (.int (4 : Int32)), (.ref b27), (.ref b27)])) rfl rfl (hb hby at_107)
  rw [own_nar0] at W32
  obtain ⟨Lg32, X32, N32⟩ := own_hide X32 (Fr.snoc X32 N31 g_b27)
  have Vb27_32 : Arv Z h32 b27 k27 .boolean (12 : Int32) [(.int (0 : Int32)), (.int (1 : Int32)), (.int (0 : Int32)), (.int (0 : Int32)), (.int (0 : Int32)), (.int (0 : Int32)), (.int (0 : Int32)), (.int (0 : Int32)), (.int (0 : Int32)), (.int (0 : Int32)), (.int (0 : Int32)), (.int (0 : Int32))] (.int (0 : Int32)) := Arv.set Ar32 q32 S32 M32 H32 G32 rfl W32 4 rfl (Nat.le_of_ble_eq_true rfl)
  have K32 : Keep h0 h32 [] := K31.wr W32 (Or.inr sz_b27)
  have Vb2_32 := Vb2_31.other W32 ne_b2_b27
  obtain ⟨cl33, Ar33, q33, S33, M33, H33, G33⟩ := Vb27_32
  have hin33 : ¬ ((5 : Int32) < 0 ∨ cl33.slots.size ≤ ((5 : Int32)).toNatClampNeg) := inb_of S33 ⟨by decide, by decide⟩
  obtain ⟨T33, h33, X33, e33, W33, st33⟩ := stZ X32 hx hZ e32 Ar33 (j := (5 : Int32)) hin33 (g := (mkF m 111 #[.val (.int p1), .val (.ref b2), .unset, .unset] [(.int (0 : Int32)), (.int (5 : Int32)), (.ref b27), (.ref b27)])) rfl rfl (hb hby at_111)
  rw [own_nar0] at W33
  obtain ⟨Lg33, X33, N33⟩ := own_hide X33 (Fr.snoc X33 N32 g_b27)
  have Vb27_33 : Arv Z h33 b27 k27 .boolean (12 : Int32) [(.int (0 : Int32)), (.int (1 : Int32)), (.int (0 : Int32)), (.int (0 : Int32)), (.int (0 : Int32)), (.int (0 : Int32)), (.int (0 : Int32)), (.int (0 : Int32)), (.int (0 : Int32)), (.int (0 : Int32)), (.int (0 : Int32)), (.int (0 : Int32))] (.int (0 : Int32)) := Arv.set Ar33 q33 S33 M33 H33 G33 rfl W33 5 rfl (Nat.le_of_ble_eq_true rfl)
  have K33 : Keep h0 h33 [] := K32.wr W33 (Or.inr sz_b27)
  have Vb2_33 := Vb2_32.other W33 ne_b2_b27
  obtain ⟨cl34, Ar34, q34, S34, M34, H34, G34⟩ := Vb27_33
  have hin34 : ¬ ((6 : Int32) < 0 ∨ cl34.slots.size ≤ ((6 : Int32)).toNatClampNeg) := inb_of S34 ⟨by decide, by decide⟩
  obtain ⟨T34, h34, X34, e34, W34, st34⟩ := stZ X33 hx hZ e33 Ar34 (j := (6 : Int32)) hin34 (g := (mkF m 116 #[.val (.int p1), .val (.ref b2), .unset, .unset] [(.int (1 : Int32)), (.int (6 : Int32)), (.ref b27), (.ref b27)])) rfl rfl (hb hby at_116)
  rw [own_nar1] at W34
  obtain ⟨Lg34, X34, N34⟩ := own_hide X34 (Fr.snoc X34 N33 g_b27)
  have Vb27_34 : Arv Z h34 b27 k27 .boolean (12 : Int32) [(.int (0 : Int32)), (.int (1 : Int32)), (.int (0 : Int32)), (.int (0 : Int32)), (.int (0 : Int32)), (.int (0 : Int32)), (.int (1 : Int32)), (.int (0 : Int32)), (.int (0 : Int32)), (.int (0 : Int32)), (.int (0 : Int32)), (.int (0 : Int32))] (.int (0 : Int32)) := Arv.set Ar34 q34 S34 M34 H34 G34 rfl W34 6 rfl (Nat.le_of_ble_eq_true rfl)
  have K34 : Keep h0 h34 [] := K33.wr W34 (Or.inr sz_b27)
  have Vb2_34 := Vb2_33.other W34 ne_b2_b27
  obtain ⟨cl35, Ar35, q35, S35, M35, H35, G35⟩ := Vb27_34
  have hin35 : ¬ ((7 : Int32) < 0 ∨ cl35.slots.size ≤ ((7 : Int32)).toNatClampNeg) := inb_of S35 ⟨by decide, by decide⟩
  obtain ⟨T35, h35, X35, e35, W35, st35⟩ := stZ X34 hx hZ e34 Ar35 (j := (7 : Int32)) hin35 (g := (mkF m 121 #[.val (.int p1), .val (.ref b2), .unset, .unset] [(.int (1 : Int32)), (.int (7 : Int32)), (.ref b27), (.ref b27)])) rfl rfl (hb hby at_121)
  rw [own_nar1] at W35
  obtain ⟨Lg35, X35, N35⟩ := own_hide X35 (Fr.snoc X35 N34 g_b27)
  have Vb27_35 : Arv Z h35 b27 k27 .boolean (12 : Int32) [(.int (0 : Int32)), (.int (1 : Int32)), (.int (0 : Int32)), (.int (0 : Int32)), (.int (0 : Int32)), (.int (0 : Int32)), (.int (1 : Int32)), (.int (1 : Int32)), (.int (0 : Int32)), (.int (0 : Int32)), (.int (0 : Int32)), (.int (0 : Int32))] (.int (0 : Int32)) := Arv.set Ar35 q35 S35 M35 H35 G35 rfl W35 7 rfl (Nat.le_of_ble_eq_true rfl)
  have K35 : Keep h0 h35 [] := K34.wr W35 (Or.inr sz_b27)
  have Vb2_35 := Vb2_34.other W35 ne_b2_b27
  obtain ⟨cl36, Ar36, q36, S36, M36, H36, G36⟩ := Vb27_35
  have hin36 : ¬ ((8 : Int32) < 0 ∨ cl36.slots.size ≤ ((8 : Int32)).toNatClampNeg) := inb_of S36 ⟨by decide, by decide⟩
  obtain ⟨T36, h36, X36, e36, W36, st36⟩ := stZ X35 hx hZ e35 Ar36 (j := (8 : Int32)) hin36 (g := (mkF m 126 #[.val (.int p1), .val (.ref b2), .unset, .unset] [(.int (1 : Int32)), (.int (8 : Int32)), (.ref b27), (.ref b27)])) rfl rfl (hb hby at_126)
  rw [own_nar1] at W36
  obtain ⟨Lg36, X36, N36⟩ := own_hide X36 (Fr.snoc X36 N35 g_b27)
  have Vb27_36 : Arv Z h36 b27 k27 .boolean (12 : Int32) [(.int (0 : Int32)), (.int (1 : Int32)), (.int (0 : Int32)), (.int (0 : Int32)), (.int (0 : Int32)), (.int (0 : Int32)), (.int (1 : Int32)), (.int (1 : Int32)), (.int (1 : Int32)), (.int (0 : Int32)), (.int (0 : Int32)), (.int (0 : Int32))] (.int (0 : Int32)) := Arv.set Ar36 q36 S36 M36 H36 G36 rfl W36 8 rfl (Nat.le_of_ble_eq_true rfl)
  have K36 : Keep h0 h36 [] := K35.wr W36 (Or.inr sz_b27)
  have Vb2_36 := Vb2_35.other W36 ne_b2_b27
  obtain ⟨cl37, Ar37, q37, S37, M37, H37, G37⟩ := Vb27_36
  have hin37 : ¬ ((9 : Int32) < 0 ∨ cl37.slots.size ≤ ((9 : Int32)).toNatClampNeg) := inb_of S37 ⟨by decide, by decide⟩
  obtain ⟨T37, h37, X37, e37, W37, st37⟩ := stZ X36 hx hZ e36 Ar37 (j := (9 : Int32)) hin37 (g := (mkF m 131 #[.val (.int p1), .val (.ref b2), .unset, .unset] [(.int (0 : Int32)), (.int (9 : Int32)), (.ref b27), (.ref b27)])) rfl rfl (hb hby at_131)
  rw [own_nar0] at W37
  obtain ⟨Lg37, X37, N37⟩ := own_hide X37 (Fr.snoc X37 N36 g_b27)
  have Vb27_37 : Arv Z h37 b27 k27 .boolean (12 : Int32) [(.int (0 : Int32)), (.int (1 : Int32)), (.int (0 : Int32)), (.int (0 : Int32)), (.int (0 : Int32)), (.int (0 : Int32)), (.int (1 : Int32)), (.int (1 : Int32)), (.int (1 : Int32)), (.int (0 : Int32)), (.int (0 : Int32)), (.int (0 : Int32))] (.int (0 : Int32)) := Arv.set Ar37 q37 S37 M37 H37 G37 rfl W37 9 rfl (Nat.le_of_ble_eq_true rfl)
  have K37 : Keep h0 h37 [] := K36.wr W37 (Or.inr sz_b27)
  have Vb2_37 := Vb2_36.other W37 ne_b2_b27
  obtain ⟨cl38, Ar38, q38, S38, M38, H38, G38⟩ := Vb27_37
  have hin38 : ¬ ((10 : Int32) < 0 ∨ cl38.slots.size ≤ ((10 : Int32)).toNatClampNeg) := inb_of S38 ⟨by decide, by decide⟩
  obtain ⟨T38, h38, X38, e38, W38, st38⟩ := stZ X37 hx hZ e37 Ar38 (j := (10 : Int32)) hin38 (g := (mkF m 136 #[.val (.int p1), .val (.ref b2), .unset, .unset] [(.int (0 : Int32)), (.int (10 : Int32)), (.ref b27), (.ref b27)])) rfl rfl (hb hby at_136)
  rw [own_nar0] at W38
  obtain ⟨Lg38, X38, N38⟩ := own_hide X38 (Fr.snoc X38 N37 g_b27)
  have Vb27_38 : Arv Z h38 b27 k27 .boolean (12 : Int32) [(.int (0 : Int32)), (.int (1 : Int32)), (.int (0 : Int32)), (.int (0 : Int32)), (.int (0 : Int32)), (.int (0 : Int32)), (.int (1 : Int32)), (.int (1 : Int32)), (.int (1 : Int32)), (.int (0 : Int32)), (.int (0 : Int32)), (.int (0 : Int32))] (.int (0 : Int32)) := Arv.set Ar38 q38 S38 M38 H38 G38 rfl W38 10 rfl (Nat.le_of_ble_eq_true rfl)
  have K38 : Keep h0 h38 [] := K37.wr W38 (Or.inr sz_b27)
  have Vb2_38 := Vb2_37.other W38 ne_b2_b27
  obtain ⟨cl39, Ar39, q39, S39, M39, H39, G39⟩ := Vb27_38
  have hin39 : ¬ ((11 : Int32) < 0 ∨ cl39.slots.size ≤ ((11 : Int32)).toNatClampNeg) := inb_of S39 ⟨by decide, by decide⟩
  obtain ⟨T39, h39, X39, e39, W39, st39⟩ := stZ X38 hx hZ e38 Ar39 (j := (11 : Int32)) hin39 (g := (mkF m 141 #[.val (.int p1), .val (.ref b2), .unset, .unset] [(.int (0 : Int32)), (.int (11 : Int32)), (.ref b27), (.ref b27)])) rfl rfl (hb hby at_141)
  rw [own_nar0] at W39
  obtain ⟨Lg39, X39, N39⟩ := own_hide X39 (Fr.snoc X39 N38 g_b27)
  have Vb27_39 : Arv Z h39 b27 k27 .boolean (12 : Int32) [(.int (0 : Int32)), (.int (1 : Int32)), (.int (0 : Int32)), (.int (0 : Int32)), (.int (0 : Int32)), (.int (0 : Int32)), (.int (1 : Int32)), (.int (1 : Int32)), (.int (1 : Int32)), (.int (0 : Int32)), (.int (0 : Int32)), (.int (0 : Int32))] (.int (0 : Int32)) := Arv.set Ar39 q39 S39 M39 H39 G39 rfl W39 11 rfl (Nat.le_of_ble_eq_true rfl)
  have K39 : Keep h0 h39 [] := K38.wr W39 (Or.inr sz_b27)
  have Vb2_39 := Vb2_38.other W39 ne_b2_b27
  have Vb2_c40 := Vb2_39
  obtain ⟨cl40, Ar40, q40, S40, M40, H40, G40⟩ := Vb2_c40
  have hin40 : ¬ (j < 0 ∨ cl40.slots.size ≤ (j).toNatClampNeg) := inb_of S40 ⟨hlo, hhi⟩
  obtain ⟨cq41, kq41, q41a, q41b, q41c⟩ := isOf hZ e39 (Ej.ext (own_ext K39))
  obtain ⟨_, _, ⟨T41, L41, k41, n41⟩, -, X41, ⟨Lc41, hQ41, l41, y41, z41⟩, st41⟩ := X39.virtualBack hx (y := (⟨"com/example/loomwire/loomwire/schema/ColumnType", "mayBeDatabaseText", "()Z"⟩ : MethodName)) (z := (⟨"com/example/loomwire/loomwire/schema/ColumnType", "mayBeDatabaseText", "()Z"⟩ : MethodName)) hown (mvT hZ (hw _ (List.mem_of_getElem? (i := 30) rfl))) (mvT hZ (hw _ (List.mem_of_getElem? (i := 31) rfl))) (notFace_of_selects (args := #[]) (mvT hZ (hw _ (List.mem_of_getElem? (i := 33) rfl)))) (mvT hZ (hw _ (List.mem_of_getElem? (i := 33) rfl))) (mvT hZ (hw _ (List.mem_of_getElem? (i := 32) rfl))) (by decide) (backOf (W := 0) (H1 h39 K39) hZ (hw _ (List.mem_of_getElem? (i := 34) rfl)) (hw _ (List.mem_of_getElem? (i := 3) rfl)) (by decide) (by decide)) q41a q41c (g := (mkF m 154 #[.val (.int p1), .val (.ref b2), .val (.ref b27), .val (.int j)] [(.ref wj)])) rfl (by rw [hml]; rfl) (Steps.refl _) (argsL := []) (rest := []) (lenOf pd_z rfl) rfl (by show 2 * 0 + _ ≤ _; exact Nat.le_of_eq rfl) (hb hby at_154) (fun _ _ => ⟨rfl, e39, (by decide : 2 + 0 ≤ _), (by decide : 24 + 0 ≤ _)⟩)
  dsimp only [Pt.U, Pt.locs, Pt.cells, Pt.slots] at X41 l41 y41 z41 st41 hQ41
  subst l41 y41 z41
  obtain ⟨rfl, N41q, e41⟩ := hQ41
  have N41 := Fr.app N39 N41q
  have Vb27_c42 := Vb27_39
  obtain ⟨cl42, Ar42, q42, S42, M42, H42, G42⟩ := Vb27_c42
  have hin42 : ¬ (j < 0 ∨ cl42.slots.size ≤ (j).toNatClampNeg) := inb_of S42 ⟨hlo, hhi⟩
  obtain ⟨fs, hr, hrun, hended, hW, hsame⟩ := X41.leave (v := some (.int (1 : Int32))) (fun h => by rw [Bd.returns] at h; cases h)
  refine ⟨_, _, pre0 _ ?_, hrun, hended, _, _, rfl, ?_, ⟨_, rfl⟩, hW, hsame.mono (by decide) (by decide)⟩
  · show Steps p.tables e below (s₁.setTop (mkF m 0 #[.val (.int p1), .unset, .unset, .unset] [])) _
    refine XS.bipush X0.here hx rfl (hb hby at_0) ?_
    show Steps p.tables e below (s₁.setTop (mkF m 2 #[.val (.int p1), .unset, .unset, .unset] [(.int (12 : Int32))])) _
    refine st2 _ ?_
    show Steps p.tables e below (T2.setTop (mkF m 5 #[.val (.int p1), .unset, .unset, .unset] [(.ref b2)])) _
    refine XS.dup X2.here hx rfl (hb hby at_5) rfl rfl ?_
    show Steps p.tables e below (T2.setTop (mkF m 6 #[.val (.int p1), .unset, .unset, .unset] [(.ref b2), (.ref b2)])) _
    refine XS.iconst X2.here hx rfl (hb hby at_6) ?_
    show Steps p.tables e below (T2.setTop (mkF m 7 #[.val (.int p1), .unset, .unset, .unset] [(.int (0 : Int32)), (.ref b2), (.ref b2)])) _
    refine st3 _ ?_
    show Steps p.tables e below (T3.setTop (mkF m 10 #[.val (.int p1), .unset, .unset, .unset] [(.ref w_INTEGER), (.int (0 : Int32)), (.ref b2), (.ref b2)])) _
    refine st4 _ ?_
    show Steps p.tables e below (T4.setTop (mkF m 11 #[.val (.int p1), .unset, .unset, .unset] [(.ref b2)])) _
    refine XS.dup X4.here hx rfl (hb hby at_11) rfl rfl ?_
    show Steps p.tables e below (T4.setTop (mkF m 12 #[.val (.int p1), .unset, .unset, .unset] [(.ref b2), (.ref b2)])) _
    refine XS.iconst X4.here hx rfl (hb hby at_12) ?_
    show Steps p.tables e below (T4.setTop (mkF m 13 #[.val (.int p1), .unset, .unset, .unset] [(.int (1 : Int32)), (.ref b2), (.ref b2)])) _
    refine st5 _ ?_
    show Steps p.tables e below (T5.setTop (mkF m 16 #[.val (.int p1), .unset, .unset, .unset] [(.ref w_DECIMAL), (.int (1 : Int32)), (.ref b2), (.ref b2)])) _
    refine st6 _ ?_
    show Steps p.tables e below (T6.setTop (mkF m 17 #[.val (.int p1), .unset, .unset, .unset] [(.ref b2)])) _
    refine XS.dup X6.here hx rfl (hb hby at_17) rfl rfl ?_
    show Steps p.tables e below (T6.setTop (mkF m 18 #[.val (.int p1), .unset, .unset, .unset] [(.ref b2), (.ref b2)])) _
    refine XS.iconst X6.here hx rfl (hb hby at_18) ?_
    show Steps p.tables e below (T6.setTop (mkF m 19 #[.val (.int p1), .unset, .unset, .unset] [(.int (2 : Int32)), (.ref b2), (.ref b2)])) _
    refine st7 _ ?_
    show Steps p.tables e below (T7.setTop (mkF m 22 #[.val (.int p1), .unset, .unset, .unset] [(.ref w_REAL), (.int (2 : Int32)), (.ref b2), (.ref b2)])) _
    refine st8 _ ?_
    show Steps p.tables e below (T8.setTop (mkF m 23 #[.val (.int p1), .unset, .unset, .unset] [(.ref b2)])) _
    refine XS.dup X8.here hx rfl (hb hby at_23) rfl rfl ?_
    show Steps p.tables e below (T8.setTop (mkF m 24 #[.val (.int p1), .unset, .unset, .unset] [(.ref b2), (.ref b2)])) _
    refine XS.iconst X8.here hx rfl (hb hby at_24) ?_
    show Steps p.tables e below (T8.setTop (mkF m 25 #[.val (.int p1), .unset, .unset, .unset] [(.int (3 : Int32)), (.ref b2), (.ref b2)])) _
    refine st9 _ ?_
    show Steps p.tables e below (T9.setTop (mkF m 28 #[.val (.int p1), .unset, .unset, .unset] [(.ref w_DOUBLE), (.int (3 : Int32)), (.ref b2), (.ref b2)])) _
    refine st10 _ ?_
    show Steps p.tables e below (T10.setTop (mkF m 29 #[.val (.int p1), .unset, .unset, .unset] [(.ref b2)])) _
    refine XS.dup X10.here hx rfl (hb hby at_29) rfl rfl ?_
    show Steps p.tables e below (T10.setTop (mkF m 30 #[.val (.int p1), .unset, .unset, .unset] [(.ref b2), (.ref b2)])) _
    refine XS.iconst X10.here hx rfl (hb hby at_30) ?_
    show Steps p.tables e below (T10.setTop (mkF m 31 #[.val (.int p1), .unset, .unset, .unset] [(.int (4 : Int32)), (.ref b2), (.ref b2)])) _
    refine st11 _ ?_
    show Steps p.tables e below (T11.setTop (mkF m 34 #[.val (.int p1), .unset, .unset, .unset] [(.ref w_BOOLEAN), (.int (4 : Int32)), (.ref b2), (.ref b2)])) _
    refine st12 _ ?_
    show Steps p.tables e below (T12.setTop (mkF m 35 #[.val (.int p1), .unset, .unset, .unset] [(.ref b2)])) _
    refine XS.dup X12.here hx rfl (hb hby at_35) rfl rfl ?_
    show Steps p.tables e below (T12.setTop (mkF m 36 #[.val (.int p1), .unset, .unset, .unset] [(.ref b2), (.ref b2)])) _
    refine XS.iconst X12.here hx rfl (hb hby at_36) ?_
    show Steps p.tables e below (T12.setTop (mkF m 37 #[.val (.int p1), .unset, .unset, .unset] [(.int (5 : Int32)), (.ref b2), (.ref b2)])) _
    refine st13 _ ?_
    show Steps p.tables e below (T13.setTop (mkF m 40 #[.val (.int p1), .unset, .unset, .unset] [(.ref w_TEXT), (.int (5 : Int32)), (.ref b2), (.ref b2)])) _
    refine st14 _ ?_
    show Steps p.tables e below (T14.setTop (mkF m 41 #[.val (.int p1), .unset, .unset, .unset] [(.ref b2)])) _
    refine XS.dup X14.here hx rfl (hb hby at_41) rfl rfl ?_
    show Steps p.tables e below (T14.setTop (mkF m 42 #[.val (.int p1), .unset, .unset, .unset] [(.ref b2), (.ref b2)])) _
    refine XS.bipush X14.here hx rfl (hb hby at_42) ?_
    show Steps p.tables e below (T14.setTop (mkF m 44 #[.val (.int p1), .unset, .unset, .unset] [(.int (6 : Int32)), (.ref b2), (.ref b2)])) _
    refine st15 _ ?_
    show Steps p.tables e below (T15.setTop (mkF m 47 #[.val (.int p1), .unset, .unset, .unset] [(.ref w_DATE), (.int (6 : Int32)), (.ref b2), (.ref b2)])) _
    refine st16 _ ?_
    show Steps p.tables e below (T16.setTop (mkF m 48 #[.val (.int p1), .unset, .unset, .unset] [(.ref b2)])) _
    refine XS.dup X16.here hx rfl (hb hby at_48) rfl rfl ?_
    show Steps p.tables e below (T16.setTop (mkF m 49 #[.val (.int p1), .unset, .unset, .unset] [(.ref b2), (.ref b2)])) _
    refine XS.bipush X16.here hx rfl (hb hby at_49) ?_
    show Steps p.tables e below (T16.setTop (mkF m 51 #[.val (.int p1), .unset, .unset, .unset] [(.int (7 : Int32)), (.ref b2), (.ref b2)])) _
    refine st17 _ ?_
    show Steps p.tables e below (T17.setTop (mkF m 54 #[.val (.int p1), .unset, .unset, .unset] [(.ref w_TIME), (.int (7 : Int32)), (.ref b2), (.ref b2)])) _
    refine st18 _ ?_
    show Steps p.tables e below (T18.setTop (mkF m 55 #[.val (.int p1), .unset, .unset, .unset] [(.ref b2)])) _
    refine XS.dup X18.here hx rfl (hb hby at_55) rfl rfl ?_
    show Steps p.tables e below (T18.setTop (mkF m 56 #[.val (.int p1), .unset, .unset, .unset] [(.ref b2), (.ref b2)])) _
    refine XS.bipush X18.here hx rfl (hb hby at_56) ?_
    show Steps p.tables e below (T18.setTop (mkF m 58 #[.val (.int p1), .unset, .unset, .unset] [(.int (8 : Int32)), (.ref b2), (.ref b2)])) _
    refine st19 _ ?_
    show Steps p.tables e below (T19.setTop (mkF m 61 #[.val (.int p1), .unset, .unset, .unset] [(.ref w_TIMESTAMP), (.int (8 : Int32)), (.ref b2), (.ref b2)])) _
    refine st20 _ ?_
    show Steps p.tables e below (T20.setTop (mkF m 62 #[.val (.int p1), .unset, .unset, .unset] [(.ref b2)])) _
    refine XS.dup X20.here hx rfl (hb hby at_62) rfl rfl ?_
    show Steps p.tables e below (T20.setTop (mkF m 63 #[.val (.int p1), .unset, .unset, .unset] [(.ref b2), (.ref b2)])) _
    refine XS.bipush X20.here hx rfl (hb hby at_63) ?_
    show Steps p.tables e below (T20.setTop (mkF m 65 #[.val (.int p1), .unset, .unset, .unset] [(.int (9 : Int32)), (.ref b2), (.ref b2)])) _
    refine st21 _ ?_
    show Steps p.tables e below (T21.setTop (mkF m 68 #[.val (.int p1), .unset, .unset, .unset] [(.ref w_TIMESTAMP_WITH_TIME_ZONE), (.int (9 : Int32)), (.ref b2), (.ref b2)])) _
    refine st22 _ ?_
    show Steps p.tables e below (T22.setTop (mkF m 69 #[.val (.int p1), .unset, .unset, .unset] [(.ref b2)])) _
    refine XS.dup X22.here hx rfl (hb hby at_69) rfl rfl ?_
    show Steps p.tables e below (T22.setTop (mkF m 70 #[.val (.int p1), .unset, .unset, .unset] [(.ref b2), (.ref b2)])) _
    refine XS.bipush X22.here hx rfl (hb hby at_70) ?_
    show Steps p.tables e below (T22.setTop (mkF m 72 #[.val (.int p1), .unset, .unset, .unset] [(.int (10 : Int32)), (.ref b2), (.ref b2)])) _
    refine st23 _ ?_
    show Steps p.tables e below (T23.setTop (mkF m 75 #[.val (.int p1), .unset, .unset, .unset] [(.ref w_BINARY), (.int (10 : Int32)), (.ref b2), (.ref b2)])) _
    refine st24 _ ?_
    show Steps p.tables e below (T24.setTop (mkF m 76 #[.val (.int p1), .unset, .unset, .unset] [(.ref b2)])) _
    refine XS.dup X24.here hx rfl (hb hby at_76) rfl rfl ?_
    show Steps p.tables e below (T24.setTop (mkF m 77 #[.val (.int p1), .unset, .unset, .unset] [(.ref b2), (.ref b2)])) _
    refine XS.bipush X24.here hx rfl (hb hby at_77) ?_
    show Steps p.tables e below (T24.setTop (mkF m 79 #[.val (.int p1), .unset, .unset, .unset] [(.int (11 : Int32)), (.ref b2), (.ref b2)])) _
    refine st25 _ ?_
    show Steps p.tables e below (T25.setTop (mkF m 82 #[.val (.int p1), .unset, .unset, .unset] [(.ref w_OTHER), (.int (11 : Int32)), (.ref b2), (.ref b2)])) _
    refine st26 _ ?_
    show Steps p.tables e below (T26.setTop (mkF m 83 #[.val (.int p1), .unset, .unset, .unset] [(.ref b2)])) _
    refine XS.astoreN X26.here hx rfl (hb hby at_83) rfl rfl (l' := #[.val (.int p1), .val (.ref b2), .unset, .unset]) rfl ?_
    show Steps p.tables e below (T26.setTop (mkF m 84 #[.val (.int p1), .val (.ref b2), .unset, .unset] [])) _
    refine XS.bipush X26.here hx rfl (hb hby at_84) ?_
    show Steps p.tables e below (T26.setTop (mkF m 86 #[.val (.int p1), .val (.ref b2), .unset, .unset] [(.int (12 : Int32))])) _
    refine st27 _ ?_
    show Steps p.tables e below (T27.setTop (mkF m 88 #[.val (.int p1), .val (.ref b2), .unset, .unset] [(.ref b27)])) _
    refine XS.dup X27.here hx rfl (hb hby at_88) rfl rfl ?_
    show Steps p.tables e below (T27.setTop (mkF m 89 #[.val (.int p1), .val (.ref b2), .unset, .unset] [(.ref b27), (.ref b27)])) _
    refine XS.iconst X27.here hx rfl (hb hby at_89) ?_
    show Steps p.tables e below (T27.setTop (mkF m 90 #[.val (.int p1), .val (.ref b2), .unset, .unset] [(.int (0 : Int32)), (.ref b27), (.ref b27)])) _
    refine XS.iconst X27.here hx rfl (hb hby at_90) ?_
    show Steps p.tables e below (T27.setTop (mkF m 91 #[.val (.int p1), .val (.ref b2), .unset, .unset] [(.int (0 : Int32)), (.int (0 : Int32)), (.ref b27), (.ref b27)])) _
    refine st28 _ ?_
    show Steps p.tables e below (T28.setTop (mkF m 92 #[.val (.int p1), .val (.ref b2), .unset, .unset] [(.ref b27)])) _
    refine XS.dup X28.here hx rfl (hb hby at_92) rfl rfl ?_
    show Steps p.tables e below (T28.setTop (mkF m 93 #[.val (.int p1), .val (.ref b2), .unset, .unset] [(.ref b27), (.ref b27)])) _
    refine XS.iconst X28.here hx rfl (hb hby at_93) ?_
    show Steps p.tables e below (T28.setTop (mkF m 94 #[.val (.int p1), .val (.ref b2), .unset, .unset] [(.int (1 : Int32)), (.ref b27), (.ref b27)])) _
    refine XS.iconst X28.here hx rfl (hb hby at_94) ?_
    show Steps p.tables e below (T28.setTop (mkF m 95 #[.val (.int p1), .val (.ref b2), .unset, .unset] [(.int (1 : Int32)), (.int (1 : Int32)), (.ref b27), (.ref b27)])) _
    refine st29 _ ?_
    show Steps p.tables e below (T29.setTop (mkF m 96 #[.val (.int p1), .val (.ref b2), .unset, .unset] [(.ref b27)])) _
    refine XS.dup X29.here hx rfl (hb hby at_96) rfl rfl ?_
    show Steps p.tables e below (T29.setTop (mkF m 97 #[.val (.int p1), .val (.ref b2), .unset, .unset] [(.ref b27), (.ref b27)])) _
    refine XS.iconst X29.here hx rfl (hb hby at_97) ?_
    show Steps p.tables e below (T29.setTop (mkF m 98 #[.val (.int p1), .val (.ref b2), .unset, .unset] [(.int (2 : Int32)), (.ref b27), (.ref b27)])) _
    refine XS.iconst X29.here hx rfl (hb hby at_98) ?_
    show Steps p.tables e below (T29.setTop (mkF m 99 #[.val (.int p1), .val (.ref b2), .unset, .unset] [(.int (0 : Int32)), (.int (2 : Int32)), (.ref b27), (.ref b27)])) _
    refine st30 _ ?_
    show Steps p.tables e below (T30.setTop (mkF m 100 #[.val (.int p1), .val (.ref b2), .unset, .unset] [(.ref b27)])) _
    refine XS.dup X30.here hx rfl (hb hby at_100) rfl rfl ?_
    show Steps p.tables e below (T30.setTop (mkF m 101 #[.val (.int p1), .val (.ref b2), .unset, .unset] [(.ref b27), (.ref b27)])) _
    refine XS.iconst X30.here hx rfl (hb hby at_101) ?_
    show Steps p.tables e below (T30.setTop (mkF m 102 #[.val (.int p1), .val (.ref b2), .unset, .unset] [(.int (3 : Int32)), (.ref b27), (.ref b27)])) _
    refine XS.iconst X30.here hx rfl (hb hby at_102) ?_
    show Steps p.tables e below (T30.setTop (mkF m 103 #[.val (.int p1), .val (.ref b2), .unset, .unset] [(.int (0 : Int32)), (.int (3 : Int32)), (.ref b27), (.ref b27)])) _
    refine st31 _ ?_
    show Steps p.tables e below (T31.setTop (mkF m 104 #[.val (.int p1), .val (.ref b2), .unset, .unset] [(.ref b27)])) _
    refine XS.dup X31.here hx rfl (hb hby at_104) rfl rfl ?_
    show Steps p.tables e below (T31.setTop (mkF m 105 #[.val (.int p1), .val (.ref b2), .unset, .unset] [(.ref b27), (.ref b27)])) _
    refine XS.iconst X31.here hx rfl (hb hby at_105) ?_
    show Steps p.tables e below (T31.setTop (mkF m 106 #[.val (.int p1), .val (.ref b2), .unset, .unset] [(.int (4 : Int32)), (.ref b27), (.ref b27)])) _
    refine XS.iconst X31.here hx rfl (hb hby at_106) ?_
    show Steps p.tables e below (T31.setTop (mkF m 107 #[.val (.int p1), .val (.ref b2), .unset, .unset] [(.int (0 : Int32)), (.int (4 : Int32)), (.ref b27), (.ref b27)])) _
    refine st32 _ ?_
    show Steps p.tables e below (T32.setTop (mkF m 108 #[.val (.int p1), .val (.ref b2), .unset, .unset] [(.ref b27)])) _
    refine XS.dup X32.here hx rfl (hb hby at_108) rfl rfl ?_
    show Steps p.tables e below (T32.setTop (mkF m 109 #[.val (.int p1), .val (.ref b2), .unset, .unset] [(.ref b27), (.ref b27)])) _
    refine XS.iconst X32.here hx rfl (hb hby at_109) ?_
    show Steps p.tables e below (T32.setTop (mkF m 110 #[.val (.int p1), .val (.ref b2), .unset, .unset] [(.int (5 : Int32)), (.ref b27), (.ref b27)])) _
    refine XS.iconst X32.here hx rfl (hb hby at_110) ?_
    show Steps p.tables e below (T32.setTop (mkF m 111 #[.val (.int p1), .val (.ref b2), .unset, .unset] [(.int (0 : Int32)), (.int (5 : Int32)), (.ref b27), (.ref b27)])) _
    refine st33 _ ?_
    show Steps p.tables e below (T33.setTop (mkF m 112 #[.val (.int p1), .val (.ref b2), .unset, .unset] [(.ref b27)])) _
    refine XS.dup X33.here hx rfl (hb hby at_112) rfl rfl ?_
    show Steps p.tables e below (T33.setTop (mkF m 113 #[.val (.int p1), .val (.ref b2), .unset, .unset] [(.ref b27), (.ref b27)])) _
    refine XS.bipush X33.here hx rfl (hb hby at_113) ?_
    show Steps p.tables e below (T33.setTop (mkF m 115 #[.val (.int p1), .val (.ref b2), .unset, .unset] [(.int (6 : Int32)), (.ref b27), (.ref b27)])) _
    refine XS.iconst X33.here hx rfl (hb hby at_115) ?_
    show Steps p.tables e below (T33.setTop (mkF m 116 #[.val (.int p1), .val (.ref b2), .unset, .unset] [(.int (1 : Int32)), (.int (6 : Int32)), (.ref b27), (.ref b27)])) _
    refine st34 _ ?_
    show Steps p.tables e below (T34.setTop (mkF m 117 #[.val (.int p1), .val (.ref b2), .unset, .unset] [(.ref b27)])) _
    refine XS.dup X34.here hx rfl (hb hby at_117) rfl rfl ?_
    show Steps p.tables e below (T34.setTop (mkF m 118 #[.val (.int p1), .val (.ref b2), .unset, .unset] [(.ref b27), (.ref b27)])) _
    refine XS.bipush X34.here hx rfl (hb hby at_118) ?_
    show Steps p.tables e below (T34.setTop (mkF m 120 #[.val (.int p1), .val (.ref b2), .unset, .unset] [(.int (7 : Int32)), (.ref b27), (.ref b27)])) _
    refine XS.iconst X34.here hx rfl (hb hby at_120) ?_
    show Steps p.tables e below (T34.setTop (mkF m 121 #[.val (.int p1), .val (.ref b2), .unset, .unset] [(.int (1 : Int32)), (.int (7 : Int32)), (.ref b27), (.ref b27)])) _
    refine st35 _ ?_
    show Steps p.tables e below (T35.setTop (mkF m 122 #[.val (.int p1), .val (.ref b2), .unset, .unset] [(.ref b27)])) _
    refine XS.dup X35.here hx rfl (hb hby at_122) rfl rfl ?_
    show Steps p.tables e below (T35.setTop (mkF m 123 #[.val (.int p1), .val (.ref b2), .unset, .unset] [(.ref b27), (.ref b27)])) _
    refine XS.bipush X35.here hx rfl (hb hby at_123) ?_
    show Steps p.tables e below (T35.setTop (mkF m 125 #[.val (.int p1), .val (.ref b2), .unset, .unset] [(.int (8 : Int32)), (.ref b27), (.ref b27)])) _
    refine XS.iconst X35.here hx rfl (hb hby at_125) ?_
    show Steps p.tables e below (T35.setTop (mkF m 126 #[.val (.int p1), .val (.ref b2), .unset, .unset] [(.int (1 : Int32)), (.int (8 : Int32)), (.ref b27), (.ref b27)])) _
    refine st36 _ ?_
    show Steps p.tables e below (T36.setTop (mkF m 127 #[.val (.int p1), .val (.ref b2), .unset, .unset] [(.ref b27)])) _
    refine XS.dup X36.here hx rfl (hb hby at_127) rfl rfl ?_
    show Steps p.tables e below (T36.setTop (mkF m 128 #[.val (.int p1), .val (.ref b2), .unset, .unset] [(.ref b27), (.ref b27)])) _
    refine XS.bipush X36.here hx rfl (hb hby at_128) ?_
    show Steps p.tables e below (T36.setTop (mkF m 130 #[.val (.int p1), .val (.ref b2), .unset, .unset] [(.int (9 : Int32)), (.ref b27), (.ref b27)])) _
    refine XS.iconst X36.here hx rfl (hb hby at_130) ?_
    show Steps p.tables e below (T36.setTop (mkF m 131 #[.val (.int p1), .val (.ref b2), .unset, .unset] [(.int (0 : Int32)), (.int (9 : Int32)), (.ref b27), (.ref b27)])) _
    refine st37 _ ?_
    show Steps p.tables e below (T37.setTop (mkF m 132 #[.val (.int p1), .val (.ref b2), .unset, .unset] [(.ref b27)])) _
    refine XS.dup X37.here hx rfl (hb hby at_132) rfl rfl ?_
    show Steps p.tables e below (T37.setTop (mkF m 133 #[.val (.int p1), .val (.ref b2), .unset, .unset] [(.ref b27), (.ref b27)])) _
    refine XS.bipush X37.here hx rfl (hb hby at_133) ?_
    show Steps p.tables e below (T37.setTop (mkF m 135 #[.val (.int p1), .val (.ref b2), .unset, .unset] [(.int (10 : Int32)), (.ref b27), (.ref b27)])) _
    refine XS.iconst X37.here hx rfl (hb hby at_135) ?_
    show Steps p.tables e below (T37.setTop (mkF m 136 #[.val (.int p1), .val (.ref b2), .unset, .unset] [(.int (0 : Int32)), (.int (10 : Int32)), (.ref b27), (.ref b27)])) _
    refine st38 _ ?_
    show Steps p.tables e below (T38.setTop (mkF m 137 #[.val (.int p1), .val (.ref b2), .unset, .unset] [(.ref b27)])) _
    refine XS.dup X38.here hx rfl (hb hby at_137) rfl rfl ?_
    show Steps p.tables e below (T38.setTop (mkF m 138 #[.val (.int p1), .val (.ref b2), .unset, .unset] [(.ref b27), (.ref b27)])) _
    refine XS.bipush X38.here hx rfl (hb hby at_138) ?_
    show Steps p.tables e below (T38.setTop (mkF m 140 #[.val (.int p1), .val (.ref b2), .unset, .unset] [(.int (11 : Int32)), (.ref b27), (.ref b27)])) _
    refine XS.iconst X38.here hx rfl (hb hby at_140) ?_
    show Steps p.tables e below (T38.setTop (mkF m 141 #[.val (.int p1), .val (.ref b2), .unset, .unset] [(.int (0 : Int32)), (.int (11 : Int32)), (.ref b27), (.ref b27)])) _
    refine st39 _ ?_
    show Steps p.tables e below (T39.setTop (mkF m 142 #[.val (.int p1), .val (.ref b2), .unset, .unset] [(.ref b27)])) _
    refine XS.astoreN X39.here hx rfl (hb hby at_142) rfl rfl (l' := #[.val (.int p1), .val (.ref b2), .val (.ref b27), .unset]) rfl ?_
    show Steps p.tables e below (T39.setTop (mkF m 143 #[.val (.int p1), .val (.ref b2), .val (.ref b27), .unset] [])) _
    refine XS.iloadN X39.here hx rfl (hb hby at_143) rfl ?_
    show Steps p.tables e below (T39.setTop (mkF m 144 #[.val (.int p1), .val (.ref b2), .val (.ref b27), .unset] [(.int p1)])) _
    refine X39.ldcInt hx hown (mvT hZ (hw _ (List.mem_of_getElem? (i := 29) rfl))) (g := (mkF m 144 #[.val (.int p1), .val (.ref b2), .val (.ref b27), .unset] [(.int p1)])) rfl (hb hby at_144) _ ?_
    show Steps p.tables e below (T39.setTop (mkF m 146 #[.val (.int p1), .val (.ref b2), .val (.ref b27), .unset] [(.int (2147483647 : Int32)), (.int p1)])) _
    refine XS.iand X39.here hx rfl (hb hby at_146) rfl ?_
    show Steps p.tables e below (T39.setTop (mkF m 147 #[.val (.int p1), .val (.ref b2), .val (.ref b27), .unset] [(.int (p1 &&& (2147483647 : Int32)))])) _
    refine XS.bipush X39.here hx rfl (hb hby at_147) ?_
    show Steps p.tables e below (T39.setTop (mkF m 149 #[.val (.int p1), .val (.ref b2), .val (.ref b27), .unset] [(.int (12 : Int32)), (.int (p1 &&& (2147483647 : Int32)))])) _
    refine iremM X39 hx rfl (hb hby at_149) rfl (by decide) ?_
    rw [hj]
    show Steps p.tables e below (T39.setTop (mkF m 150 #[.val (.int p1), .val (.ref b2), .val (.ref b27), .unset] [(.int j)])) _
    refine XS.istoreN X39.here hx rfl (hb hby at_150) rfl (l' := #[.val (.int p1), .val (.ref b2), .val (.ref b27), .val (.int j)]) rfl ?_
    show Steps p.tables e below (T39.setTop (mkF m 151 #[.val (.int p1), .val (.ref b2), .val (.ref b27), .val (.int j)] [])) _
    refine XS.aloadN X39.here hx rfl (hb hby at_151) rfl rfl ?_
    show Steps p.tables e below (T39.setTop (mkF m 152 #[.val (.int p1), .val (.ref b2), .val (.ref b27), .val (.int j)] [(.ref b2)])) _
    refine XS.iloadN X39.here hx rfl (hb hby at_152) rfl ?_
    show Steps p.tables e below (T39.setTop (mkF m 153 #[.val (.int p1), .val (.ref b2), .val (.ref b27), .val (.int j)] [(.int j), (.ref b2)])) _
    refine X39.aaload hx (j := j) (v := (.ref wj)) (by rw [e39]; exact Ar40.1) (State.isArrayOf_alike hZ.alike Ar40.2.1) rfl Ar40.2.2 hin40 (Has.at H40 hin40 hu) (g := (mkF m 153 #[.val (.int p1), .val (.ref b2), .val (.ref b27), .val (.int j)] [(.int j), (.ref b2)])) rfl rfl (hb hby at_153) _ ?_
    show Steps p.tables e below (T39.setTop (mkF m 154 #[.val (.int p1), .val (.ref b2), .val (.ref b27), .val (.int j)] [(.ref wj)])) _
    refine st41.trans ?_
    show Steps p.tables e below (T41.setTop (mkF m 157 #[.val (.int p1), .val (.ref b2), .val (.ref b27), .val (.int j)] [(.int bj)])) _
    refine XS.aloadN X41.here hx rfl (hb hby at_157) rfl rfl ?_
    show Steps p.tables e below (T41.setTop (mkF m 158 #[.val (.int p1), .val (.ref b2), .val (.ref b27), .val (.int j)] [(.ref b27), (.int bj)])) _
    refine XS.iloadN X41.here hx rfl (hb hby at_158) rfl ?_
    show Steps p.tables e below (T41.setTop (mkF m 159 #[.val (.int p1), .val (.ref b2), .val (.ref b27), .val (.int j)] [(.int j), (.ref b27), (.int bj)])) _
    refine X41.baloadBooleans hx (j := j) (v := (.int bj)) (by rw [e41]; exact Ar42.1) (State.isArrayOf_alike hZ.alike Ar42.2.1) Ar42.2.2 hin42 (Has.at H42 hin42 hv) (g := (mkF m 159 #[.val (.int p1), .val (.ref b2), .val (.ref b27), .val (.int j)] [(.int j), (.ref b27), (.int bj)])) rfl rfl (hb hby at_159) _ ?_
    show Steps p.tables e below (T41.setTop (mkF m 160 #[.val (.int p1), .val (.ref b2), .val (.ref b27), .val (.int j)] [(.int bj), (.int bj)])) _
    refine XS.icmpNo X41.here hx rfl (hb hby at_160) rfl (teq (rfl : bj = bj)).2 ?_
    show Steps p.tables e below (T41.setTop (mkF m 163 #[.val (.int p1), .val (.ref b2), .val (.ref b27), .val (.int j)] [])) _
    refine XS.iconst X41.here hx rfl (hb hby at_163) ?_
    show Steps p.tables e below (T41.setTop (mkF m 164 #[.val (.int p1), .val (.ref b2), .val (.ref b27), .val (.int j)] [(.int (1 : Int32))])) _
    refine XS.goto X41.here hx rfl (pc0 := 164) (pc' := 168) rfl (hb hby at_164) (by decide) (by decide) ?_
    show Steps p.tables e below (T41.setTop (mkF m 168 #[.val (.int p1), .val (.ref b2), .val (.ref b27), .val (.int j)] [(.int (1 : Int32))])) _
    exact retN X41 hx (t := .boolean) Bd.returns (by simp) (hb hby at_168) hr
  · show (own_one n0) _ T41.heap _
    exact ⟨rfl, N41⟩
theorem own_mod (p1 : Int32) : ¬ ((p1 &&& (2147483647 : Int32)) % (12 : Int32)) < 0 ∧ (p1 &&& (2147483647 : Int32)) % (12 : Int32) < (12 : Int32) := by
  have hnn : 0 ≤ (p1 &&& (2147483647 : Int32)).toInt := by
    have e : (p1 &&& (2147483647 : Int32)).toBitVec = p1.toBitVec &&& 2147483647#32 := rfl
    show 0 ≤ (p1 &&& (2147483647 : Int32)).toBitVec.toInt
    rw [e, BitVec.toInt_eq_toNat_cond, BitVec.toNat_and]
    have q : p1.toBitVec.toNat &&& (2147483647#32).toNat ≤ 2147483647 := Nat.and_le_right
    rw [if_pos (by omega)]
    omega
  have hm : ((p1 &&& (2147483647 : Int32)) % (12 : Int32)).toInt = (p1 &&& (2147483647 : Int32)).toInt.tmod 12 := Int32.toInt_mod _ _
  have e0 : (0 : Int32).toInt = 0 := rfl
  have eK : (12 : Int32).toInt = 12 := rfl
  rw [Int32.lt_iff_toInt_lt, Int32.lt_iff_toInt_lt, hm, e0, eK, Int.tmod_eq_emod_of_nonneg hnn]
  omega
theorem own_cases {j : Int32} (h0 : ¬ j < 0) (h1 : j < (12 : Int32)) : j = (0 : Int32) ∨ j = (1 : Int32) ∨ j = (2 : Int32) ∨ j = (3 : Int32) ∨ j = (4 : Int32) ∨ j = (5 : Int32) ∨ j = (6 : Int32) ∨ j = (7 : Int32) ∨ j = (8 : Int32) ∨ j = (9 : Int32) ∨ j = (10 : Int32) ∨ j = (11 : Int32) := by
  rw [Int32.lt_iff_toInt_lt] at h0 h1
  simp only [← Int32.toInt_inj]
  have e0 : (0 : Int32).toInt = 0 := rfl
  have e1 : (1 : Int32).toInt = 1 := rfl
  have e2 : (2 : Int32).toInt = 2 := rfl
  have e3 : (3 : Int32).toInt = 3 := rfl
  have e4 : (4 : Int32).toInt = 4 := rfl
  have e5 : (5 : Int32).toInt = 5 := rfl
  have e6 : (6 : Int32).toInt = 6 := rfl
  have e7 : (7 : Int32).toInt = 7 := rfl
  have e8 : (8 : Int32).toInt = 8 := rfl
  have e9 : (9 : Int32).toInt = 9 := rfl
  have e10 : (10 : Int32).toInt = 10 := rfl
  have e11 : (11 : Int32).toInt = 11 := rfl
  have e12 : (12 : Int32).toInt = 12 := rfl
  simp only [e0, e1, e2, e3, e4, e5, e6, e7, e8, e9, e10, e11, e12] at *
  omega
set_option maxRecDepth 65536 in
set_option maxHeartbeats 40000000 in
theorem comes_1 {Post : Tables → Env → Array Value → State → Outcome → State → Prop} (hpost : ∀ tb e args s v u, (limb_1_1.after args s (.returned v) u = true ∧ limb_1_2.after args s (.returned v) u = true ∧ True) → FrameEnd s (.returned v) u (Jvm.fieldLocs frame_1_writes args s ++ Jvm.arrayLocs frame_1_arrays args s ++ Jvm.staticLocs frame_1_statics s) 16 128 → Post tb e args s (.returned v) u) :
    ArmFor flags0 classFile x code maxLocals ret World_1 tables_1 room_1 Calls_1 rest_1 Pre_1 Post := by
  intro l hfl _ _ p e ha hc hk s m args below hf hA hF happ hP
  obtain ⟨hcalls, hrest, hpre⟩ := hP
  obtain ⟨-, -, -, hnamed, -, -, -, hat⟩ := (Spec.applies_iff hf).mp happ
  obtain ⟨hg, hn⟩ := and_e (Cond.before_iff.mp (show (Jvm.Cond.and given_1 narrow_1).before args s = true from hpre))
  obtain ⟨g1, g2⟩ := and_e hg
  obtain ⟨w0, rfl⟩ : ∃ w0 : Value, args = #[w0] := by
    have hs : args.size = 1 := by simpa [Cond.value, given_1] using g1
    obtain ⟨L⟩ := args
    match L, hs with
    | [w0], _ => exact ⟨w0, rfl⟩
  have hw := fun d (hd : d ∈ tables_1) => atoms_spec (ws := Jvm.Cond.code x code maxLocals ret :: tables_1) hat d (List.mem_cons_of_mem _ hd)
  obtain ⟨i0, ei0⟩ := is_v g2
  obtain rfl : w0 = (.int i0) := Option.some.inj ei0
  obtain ⟨m0, hn⟩ := and_e hn
  obtain ⟨m1, hn⟩ := and_e hn
  obtain ⟨m2, hn⟩ := and_e hn
  obtain ⟨m3, hn⟩ := and_e hn
  obtain ⟨m4, hn⟩ := and_e hn
  obtain ⟨m5, hn⟩ := and_e hn
  obtain ⟨m6, hn⟩ := and_e hn
  obtain ⟨m7, hn⟩ := and_e hn
  obtain ⟨m8, hn⟩ := and_e hn
  obtain ⟨m9, hn⟩ := and_e hn
  obtain ⟨m10, hn⟩ := and_e hn
  obtain ⟨m11, hn⟩ := and_e hn
  obtain ⟨m12, hn⟩ := and_e hn
  obtain ⟨m13, hn⟩ := and_e hn
  obtain ⟨m14, hn⟩ := and_e hn
  obtain ⟨m15, hn⟩ := and_e hn
  obtain ⟨m16, hn⟩ := and_e hn
  obtain ⟨m17, hn⟩ := and_e hn
  obtain ⟨m18, hn⟩ := and_e hn
  obtain ⟨m19, hn⟩ := and_e hn
  obtain ⟨m20, hn⟩ := and_e hn
  obtain ⟨m21, hn⟩ := and_e hn
  obtain ⟨m22, hn⟩ := and_e hn
  have m23 := hn
  obtain ⟨w_INTEGER, ev_INTEGER⟩ := exa_v m0
  have E_INTEGER : Exa s s.heap w_INTEGER "com/example/loomwire/loomwire/schema/ColumnType" := Exa.start ev_INTEGER m0
  have S_INTEGER : Sta s s.heap "com/example/loomwire/loomwire/schema/ColumnType" "INTEGER" "Lcom/example/loomwire/loomwire/schema/ColumnType;" (.ref w_INTEGER) := Sta.start ev_INTEGER (Or.inr ⟨(hw _ (List.mem_of_getElem? (i := 3) rfl)), (hw _ (List.mem_of_getElem? (i := 4) rfl))⟩)
  obtain ⟨w_DECIMAL, ev_DECIMAL⟩ := exa_v m1
  have E_DECIMAL : Exa s s.heap w_DECIMAL "com/example/loomwire/loomwire/schema/ColumnType" := Exa.start ev_DECIMAL m1
  have S_DECIMAL : Sta s s.heap "com/example/loomwire/loomwire/schema/ColumnType" "DECIMAL" "Lcom/example/loomwire/loomwire/schema/ColumnType;" (.ref w_DECIMAL) := Sta.start ev_DECIMAL (Or.inr ⟨(hw _ (List.mem_of_getElem? (i := 3) rfl)), (hw _ (List.mem_of_getElem? (i := 7) rfl))⟩)
  obtain ⟨w_REAL, ev_REAL⟩ := exa_v m2
  have E_REAL : Exa s s.heap w_REAL "com/example/loomwire/loomwire/schema/ColumnType" := Exa.start ev_REAL m2
  have S_REAL : Sta s s.heap "com/example/loomwire/loomwire/schema/ColumnType" "REAL" "Lcom/example/loomwire/loomwire/schema/ColumnType;" (.ref w_REAL) := Sta.start ev_REAL (Or.inr ⟨(hw _ (List.mem_of_getElem? (i := 3) rfl)), (hw _ (List.mem_of_getElem? (i := 9) rfl))⟩)
  obtain ⟨w_DOUBLE, ev_DOUBLE⟩ := exa_v m3
  have E_DOUBLE : Exa s s.heap w_DOUBLE "com/example/loomwire/loomwire/schema/ColumnType" := Exa.start ev_DOUBLE m3
  have S_DOUBLE : Sta s s.heap "com/example/loomwire/loomwire/schema/ColumnType" "DOUBLE" "Lcom/example/loomwire/loomwire/schema/ColumnType;" (.ref w_DOUBLE) := Sta.start ev_DOUBLE (Or.inr ⟨(hw _ (List.mem_of_getElem? (i := 3) rfl)), (hw _ (List.mem_of_getElem? (i := 11) rfl))⟩)
  obtain ⟨w_BOOLEAN, ev_BOOLEAN⟩ := exa_v m4
  have E_BOOLEAN : Exa s s.heap w_BOOLEAN "com/example/loomwire/loomwire/schema/ColumnType" := Exa.start ev_BOOLEAN m4
  have S_BOOLEAN : Sta s s.heap "com/example/loomwire/loomwire/schema/ColumnType" "BOOLEAN" "Lcom/example/loomwire/loomwire/schema/ColumnType;" (.ref w_BOOLEAN) := Sta.start ev_BOOLEAN (Or.inr ⟨(hw _ (List.mem_of_getElem? (i := 3) rfl)), (hw _ (List.mem_of_getElem? (i := 13) rfl))⟩)
  obtain ⟨w_TEXT, ev_TEXT⟩ := exa_v m5
  have E_TEXT : Exa s s.heap w_TEXT "com/example/loomwire/loomwire/schema/ColumnType" := Exa.start ev_TEXT m5
  have S_TEXT : Sta s s.heap "com/example/loomwire/loomwire/schema/ColumnType" "TEXT" "Lcom/example/loomwire/loomwire/schema/ColumnType;" (.ref w_TEXT) := Sta.start ev_TEXT (Or.inr ⟨(hw _ (List.mem_of_getElem? (i := 3) rfl)), (hw _ (List.mem_of_getElem? (i := 15) rfl))⟩)
  obtain ⟨w_DATE, ev_DATE⟩ := exa_v m6
  have E_DATE : Exa s s.heap w_DATE "com/example/loomwire/loomwire/schema/ColumnType" := Exa.start ev_DATE m6
  have S_DATE : Sta s s.heap "com/example/loomwire/loomwire/schema/ColumnType" "DATE" "Lcom/example/loomwire/loomwire/schema/ColumnType;" (.ref w_DATE) := Sta.start ev_DATE (Or.inr ⟨(hw _ (List.mem_of_getElem? (i := 3) rfl)), (hw _ (List.mem_of_getElem? (i := 17) rfl))⟩)
  obtain ⟨w_TIME, ev_TIME⟩ := exa_v m7
  have E_TIME : Exa s s.heap w_TIME "com/example/loomwire/loomwire/schema/ColumnType" := Exa.start ev_TIME m7
  have S_TIME : Sta s s.heap "com/example/loomwire/loomwire/schema/ColumnType" "TIME" "Lcom/example/loomwire/loomwire/schema/ColumnType;" (.ref w_TIME) := Sta.start ev_TIME (Or.inr ⟨(hw _ (List.mem_of_getElem? (i := 3) rfl)), (hw _ (List.mem_of_getElem? (i := 19) rfl))⟩)
  obtain ⟨w_TIMESTAMP, ev_TIMESTAMP⟩ := exa_v m8
  have E_TIMESTAMP : Exa s s.heap w_TIMESTAMP "com/example/loomwire/loomwire/schema/ColumnType" := Exa.start ev_TIMESTAMP m8
  have S_TIMESTAMP : Sta s s.heap "com/example/loomwire/loomwire/schema/ColumnType" "TIMESTAMP" "Lcom/example/loomwire/loomwire/schema/ColumnType;" (.ref w_TIMESTAMP) := Sta.start ev_TIMESTAMP (Or.inr ⟨(hw _ (List.mem_of_getElem? (i := 3) rfl)), (hw _ (List.mem_of_getElem? (i := 21) rfl))⟩)
  obtain ⟨w_TIMESTAMP_WITH_TIME_ZONE, ev_TIMESTAMP_WITH_TIME_ZONE⟩ := exa_v m9
  have E_TIMESTAMP_WITH_TIME_ZONE : Exa s s.heap w_TIMESTAMP_WITH_TIME_ZONE "com/example/loomwire/loomwire/schema/ColumnType" := Exa.start ev_TIMESTAMP_WITH_TIME_ZONE m9
  have S_TIMESTAMP_WITH_TIME_ZONE : Sta s s.heap "com/example/loomwire/loomwire/schema/ColumnType" "TIMESTAMP_WITH_TIME_ZONE" "Lcom/example/loomwire/loomwire/schema/ColumnType;" (.ref w_TIMESTAMP_WITH_TIME_ZONE) := Sta.start ev_TIMESTAMP_WITH_TIME_ZONE (Or.inr ⟨(hw _ (List.mem_of_getElem? (i := 3) rfl)), (hw _ (List.mem_of_getElem? (i := 23) rfl))⟩)
  obtain ⟨w_BINARY, ev_BINARY⟩ := exa_v m10
  have E_BINARY : Exa s s.heap w_BINARY "com/example/loomwire/loomwire/schema/ColumnType" := Exa.start ev_BINARY m10
  have S_BINARY : Sta s s.heap "com/example/loomwire/loomwire/schema/ColumnType" "BINARY" "Lcom/example/loomwire/loomwire/schema/ColumnType;" (.ref w_BINARY) := Sta.start ev_BINARY (Or.inr ⟨(hw _ (List.mem_of_getElem? (i := 3) rfl)), (hw _ (List.mem_of_getElem? (i := 25) rfl))⟩)
  obtain ⟨w_OTHER, ev_OTHER⟩ := exa_v m11
  have E_OTHER : Exa s s.heap w_OTHER "com/example/loomwire/loomwire/schema/ColumnType" := Exa.start ev_OTHER m11
  have S_OTHER : Sta s s.heap "com/example/loomwire/loomwire/schema/ColumnType" "OTHER" "Lcom/example/loomwire/loomwire/schema/ColumnType;" (.ref w_OTHER) := Sta.start ev_OTHER (Or.inr ⟨(hw _ (List.mem_of_getElem? (i := 3) rfl)), (hw _ (List.mem_of_getElem? (i := 27) rfl))⟩)
  have F_INTEGER_ordinal : Fld s s.heap w_INTEGER "java/lang/Enum" "ordinal" "I" (.int (0 : Int32)) := Fld.start ((fld_at ev_INTEGER).symm.trans (own_eqI m12))
  have F_DECIMAL_ordinal : Fld s s.heap w_DECIMAL "java/lang/Enum" "ordinal" "I" (.int (1 : Int32)) := Fld.start ((fld_at ev_DECIMAL).symm.trans (own_eqI m13))
  have F_DATE_ordinal : Fld s s.heap w_DATE "java/lang/Enum" "ordinal" "I" (.int (6 : Int32)) := Fld.start ((fld_at ev_DATE).symm.trans (own_eqI m14))
  have F_TIME_ordinal : Fld s s.heap w_TIME "java/lang/Enum" "ordinal" "I" (.int (7 : Int32)) := Fld.start ((fld_at ev_TIME).symm.trans (own_eqI m15))
  have F_TIMESTAMP_ordinal : Fld s s.heap w_TIMESTAMP "java/lang/Enum" "ordinal" "I" (.int (8 : Int32)) := Fld.start ((fld_at ev_TIMESTAMP).symm.trans (own_eqI m16))
  have F_DOUBLE_ordinal : Fld s s.heap w_DOUBLE "java/lang/Enum" "ordinal" "I" (.int (3 : Int32)) := Fld.start ((fld_at ev_DOUBLE).symm.trans (own_eqI m17))
  have F_REAL_ordinal : Fld s s.heap w_REAL "java/lang/Enum" "ordinal" "I" (.int (2 : Int32)) := Fld.start ((fld_at ev_REAL).symm.trans (own_eqI m18))
  have F_OTHER_ordinal : Fld s s.heap w_OTHER "java/lang/Enum" "ordinal" "I" (.int (11 : Int32)) := Fld.start ((fld_at ev_OTHER).symm.trans (own_eqI m19))
  have F_BOOLEAN_ordinal : Fld s s.heap w_BOOLEAN "java/lang/Enum" "ordinal" "I" (.int (4 : Int32)) := Fld.start ((fld_at ev_BOOLEAN).symm.trans (own_eqI m20))
  have F_BINARY_ordinal : Fld s s.heap w_BINARY "java/lang/Enum" "ordinal" "I" (.int (10 : Int32)) := Fld.start ((fld_at ev_BINARY).symm.trans (own_eqI m21))
  have F_TIMESTAMP_WITH_TIME_ZONE_ordinal : Fld s s.heap w_TIMESTAMP_WITH_TIME_ZONE "java/lang/Enum" "ordinal" "I" (.int (9 : Int32)) := Fld.start ((fld_at ev_TIMESTAMP_WITH_TIME_ZONE).symm.trans (own_eqI m22))
  have F_TEXT_ordinal : Fld s s.heap w_TEXT "java/lang/Enum" "ordinal" "I" (.int (5 : Int32)) := Fld.start ((fld_at ev_TEXT).symm.trans (own_eqI m23))
  have hlaw : ∀ (j : Int32), (i0 &&& (2147483647 : Int32)) % (12 : Int32) = j → ¬ j < 0 → j < (12 : Int32) → ∃ (wj : Addr) (bj : Int32), ([(.ref w_INTEGER), (.ref w_DECIMAL), (.ref w_REAL), (.ref w_DOUBLE), (.ref w_BOOLEAN), (.ref w_TEXT), (.ref w_DATE), (.ref w_TIME), (.ref w_TIMESTAMP), (.ref w_TIMESTAMP_WITH_TIME_ZONE), (.ref w_BINARY), (.ref w_OTHER)] : List Value).getD j.toNatClampNeg .null = (.ref wj) ∧ Exa s s.heap wj "com/example/loomwire/loomwire/schema/ColumnType" ∧ ([(.int (0 : Int32)), (.int (1 : Int32)), (.int (0 : Int32)), (.int (0 : Int32)), (.int (0 : Int32)), (.int (0 : Int32)), (.int (1 : Int32)), (.int (1 : Int32)), (.int (1 : Int32)), (.int (0 : Int32)), (.int (0 : Int32)), (.int (0 : Int32))] : List Value).getD j.toNatClampNeg (.int (0 : Int32)) = (.int bj) ∧ (∀ hh : Heap, Keep s.heap hh [] → own_M l (⟨"com/example/loomwire/loomwire/schema/ColumnType", "mayBeDatabaseText", "()Z"⟩ : MethodName) prog_37_method_5_code 1 (some .boolean) ({ frames := 0, cells := 0, slots := 0, locals := 0 } : Room) s #[(.ref wj)] hh (own_ret (.int bj) s.heap.size hh)) := by
    intro j hj hlo hhi
    rcases own_cases hlo hhi with rfl | rfl | rfl | rfl | rfl | rfl | rfl | rfl | rfl | rfl | rfl | rfl
    · exact ⟨w_INTEGER, (0 : Int32), rfl, E_INTEGER, rfl, fun hh K => own_n l s _ hw [] w_INTEGER w_DECIMAL w_DATE w_TIME w_TIMESTAMP hh s.heap.size (Nat.le_trans (Nat.le_refl _) K.1) (S_DECIMAL.ext (own_ext K)) (S_DATE.ext (own_ext K)) (S_TIME.ext (own_ext K)) (S_TIMESTAMP.ext (own_ext K)) (Fld.ne F_INTEGER_ordinal F_DECIMAL_ordinal (by decide)) (Fld.ne F_INTEGER_ordinal F_DATE_ordinal (by decide)) (Fld.ne F_INTEGER_ordinal F_TIME_ordinal (by decide)) (Fld.ne F_INTEGER_ordinal F_TIMESTAMP_ordinal (by decide))⟩
    · exact ⟨w_DECIMAL, (1 : Int32), rfl, E_DECIMAL, rfl, fun hh K => own_y_DECIMAL l s _ hw [] w_DECIMAL w_DECIMAL hh s.heap.size (Nat.le_trans (Nat.le_refl _) K.1) (S_DECIMAL.ext (own_ext K))  rfl⟩
    · exact ⟨w_REAL, (0 : Int32), rfl, E_REAL, rfl, fun hh K => own_n l s _ hw [] w_REAL w_DECIMAL w_DATE w_TIME w_TIMESTAMP hh s.heap.size (Nat.le_trans (Nat.le_refl _) K.1) (S_DECIMAL.ext (own_ext K)) (S_DATE.ext (own_ext K)) (S_TIME.ext (own_ext K)) (S_TIMESTAMP.ext (own_ext K)) (Fld.ne F_REAL_ordinal F_DECIMAL_ordinal (by decide)) (Fld.ne F_REAL_ordinal F_DATE_ordinal (by decide)) (Fld.ne F_REAL_ordinal F_TIME_ordinal (by decide)) (Fld.ne F_REAL_ordinal F_TIMESTAMP_ordinal (by decide))⟩
    · exact ⟨w_DOUBLE, (0 : Int32), rfl, E_DOUBLE, rfl, fun hh K => own_n l s _ hw [] w_DOUBLE w_DECIMAL w_DATE w_TIME w_TIMESTAMP hh s.heap.size (Nat.le_trans (Nat.le_refl _) K.1) (S_DECIMAL.ext (own_ext K)) (S_DATE.ext (own_ext K)) (S_TIME.ext (own_ext K)) (S_TIMESTAMP.ext (own_ext K)) (Fld.ne F_DOUBLE_ordinal F_DECIMAL_ordinal (by decide)) (Fld.ne F_DOUBLE_ordinal F_DATE_ordinal (by decide)) (Fld.ne F_DOUBLE_ordinal F_TIME_ordinal (by decide)) (Fld.ne F_DOUBLE_ordinal F_TIMESTAMP_ordinal (by decide))⟩
    · exact ⟨w_BOOLEAN, (0 : Int32), rfl, E_BOOLEAN, rfl, fun hh K => own_n l s _ hw [] w_BOOLEAN w_DECIMAL w_DATE w_TIME w_TIMESTAMP hh s.heap.size (Nat.le_trans (Nat.le_refl _) K.1) (S_DECIMAL.ext (own_ext K)) (S_DATE.ext (own_ext K)) (S_TIME.ext (own_ext K)) (S_TIMESTAMP.ext (own_ext K)) (Fld.ne F_BOOLEAN_ordinal F_DECIMAL_ordinal (by decide)) (Fld.ne F_BOOLEAN_ordinal F_DATE_ordinal (by decide)) (Fld.ne F_BOOLEAN_ordinal F_TIME_ordinal (by decide)) (Fld.ne F_BOOLEAN_ordinal F_TIMESTAMP_ordinal (by decide))⟩
    · exact ⟨w_TEXT, (0 : Int32), rfl, E_TEXT, rfl, fun hh K => own_n l s _ hw [] w_TEXT w_DECIMAL w_DATE w_TIME w_TIMESTAMP hh s.heap.size (Nat.le_trans (Nat.le_refl _) K.1) (S_DECIMAL.ext (own_ext K)) (S_DATE.ext (own_ext K)) (S_TIME.ext (own_ext K)) (S_TIMESTAMP.ext (own_ext K)) (Fld.ne F_TEXT_ordinal F_DECIMAL_ordinal (by decide)) (Fld.ne F_TEXT_ordinal F_DATE_ordinal (by decide)) (Fld.ne F_TEXT_ordinal F_TIME_ordinal (by decide)) (Fld.ne F_TEXT_ordinal F_TIMESTAMP_ordinal (by decide))⟩
    · exact ⟨w_DATE, (1 : Int32), rfl, E_DATE, rfl, fun hh K => own_y_DATE l s _ hw [] w_DATE w_DECIMAL w_DATE hh s.heap.size (Nat.le_trans (Nat.le_refl _) K.1) (S_DECIMAL.ext (own_ext K)) (S_DATE.ext (own_ext K)) (Fld.ne F_DATE_ordinal F_DECIMAL_ordinal (by decide)) rfl⟩
    · exact ⟨w_TIME, (1 : Int32), rfl, E_TIME, rfl, fun hh K => own_y_TIME l s _ hw [] w_TIME w_DECIMAL w_DATE w_TIME hh s.heap.size (Nat.le_trans (Nat.le_refl _) K.1) (S_DECIMAL.ext (own_ext K)) (S_DATE.ext (own_ext K)) (S_TIME.ext (own_ext K)) (Fld.ne F_TIME_ordinal F_DECIMAL_ordinal (by decide)) (Fld.ne F_TIME_ordinal F_DATE_ordinal (by decide)) rfl⟩
    · exact ⟨w_TIMESTAMP, (1 : Int32), rfl, E_TIMESTAMP, rfl, fun hh K => own_y_TIMESTAMP l s _ hw [] w_TIMESTAMP w_DECIMAL w_DATE w_TIME w_TIMESTAMP hh s.heap.size (Nat.le_trans (Nat.le_refl _) K.1) (S_DECIMAL.ext (own_ext K)) (S_DATE.ext (own_ext K)) (S_TIME.ext (own_ext K)) (S_TIMESTAMP.ext (own_ext K)) (Fld.ne F_TIMESTAMP_ordinal F_DECIMAL_ordinal (by decide)) (Fld.ne F_TIMESTAMP_ordinal F_DATE_ordinal (by decide)) (Fld.ne F_TIMESTAMP_ordinal F_TIME_ordinal (by decide)) rfl⟩
    · exact ⟨w_TIMESTAMP_WITH_TIME_ZONE, (0 : Int32), rfl, E_TIMESTAMP_WITH_TIME_ZONE, rfl, fun hh K => own_n l s _ hw [] w_TIMESTAMP_WITH_TIME_ZONE w_DECIMAL w_DATE w_TIME w_TIMESTAMP hh s.heap.size (Nat.le_trans (Nat.le_refl _) K.1) (S_DECIMAL.ext (own_ext K)) (S_DATE.ext (own_ext K)) (S_TIME.ext (own_ext K)) (S_TIMESTAMP.ext (own_ext K)) (Fld.ne F_TIMESTAMP_WITH_TIME_ZONE_ordinal F_DECIMAL_ordinal (by decide)) (Fld.ne F_TIMESTAMP_WITH_TIME_ZONE_ordinal F_DATE_ordinal (by decide)) (Fld.ne F_TIMESTAMP_WITH_TIME_ZONE_ordinal F_TIME_ordinal (by decide)) (Fld.ne F_TIMESTAMP_WITH_TIME_ZONE_ordinal F_TIMESTAMP_ordinal (by decide))⟩
    · exact ⟨w_BINARY, (0 : Int32), rfl, E_BINARY, rfl, fun hh K => own_n l s _ hw [] w_BINARY w_DECIMAL w_DATE w_TIME w_TIMESTAMP hh s.heap.size (Nat.le_trans (Nat.le_refl _) K.1) (S_DECIMAL.ext (own_ext K)) (S_DATE.ext (own_ext K)) (S_TIME.ext (own_ext K)) (S_TIMESTAMP.ext (own_ext K)) (Fld.ne F_BINARY_ordinal F_DECIMAL_ordinal (by decide)) (Fld.ne F_BINARY_ordinal F_DATE_ordinal (by decide)) (Fld.ne F_BINARY_ordinal F_TIME_ordinal (by decide)) (Fld.ne F_BINARY_ordinal F_TIMESTAMP_ordinal (by decide))⟩
    · exact ⟨w_OTHER, (0 : Int32), rfl, E_OTHER, rfl, fun hh K => own_n l s _ hw [] w_OTHER w_DECIMAL w_DATE w_TIME w_TIMESTAMP hh s.heap.size (Nat.le_trans (Nat.le_refl _) K.1) (S_DECIMAL.ext (own_ext K)) (S_DATE.ext (own_ext K)) (S_TIME.ext (own_ext K)) (S_TIMESTAMP.ext (own_ext K)) (Fld.ne F_OTHER_ordinal F_DECIMAL_ordinal (by decide)) (Fld.ne F_OTHER_ordinal F_DATE_ordinal (by decide)) (Fld.ne F_OTHER_ordinal F_TIME_ordinal (by decide)) (Fld.ne F_OTHER_ordinal F_TIMESTAMP_ordinal (by decide))⟩
  obtain ⟨wj, bj, q1, q2, q3, q4⟩ := hlaw _ rfl (own_mod i0).1 (own_mod i0).2
  obtain ⟨n, o, h1, h2, h3, _, L, rfl, ⟨rfl, N⟩, hq⟩ := own_law l s _ hw tables_1 i0 s.heap s.heap.size (Nat.le_refl _) w_INTEGER S_INTEGER E_INTEGER w_DECIMAL S_DECIMAL E_DECIMAL w_REAL S_REAL E_REAL w_DOUBLE S_DOUBLE E_DOUBLE w_BOOLEAN S_BOOLEAN E_BOOLEAN w_TEXT S_TEXT E_TEXT w_DATE S_DATE E_DATE w_TIME S_TIME E_TIME w_TIMESTAMP S_TIMESTAMP E_TIMESTAMP w_TIMESTAMP_WITH_TIME_ZONE S_TIMESTAMP_WITH_TIME_ZONE E_TIMESTAMP_WITH_TIME_ZONE w_BINARY S_BINARY E_BINARY w_OTHER S_OTHER E_OTHER _ rfl (own_mod i0).1 (own_mod i0).2 wj q1 q2 bj q3 q4 p e ha hc hk s m _ below hf ((Spec.applies_iff_loose hf).mp happ).1 ⟨rfl, State.Warmed39.refl s, rfl⟩ trivial
  refine ⟨n, _, h1, h2, h3, hpost _ _ _ _ _ _ ⟨Cond.after_iff.mpr rfl, Cond.after_iff.mpr (eq_i res_at (Term.int_eval (1)) rfl), trivial⟩ ⟨hq.1, hq.2.1, (hq.2.2.sift fun y hy => Or.inr (N y hy)).mono (by decide) (by decide)⟩⟩
theorem main_1_1 : Claimed_1_1 := comes_1 fun _ _ _ _ _ _ h hF => ⟨h.1, hF⟩
theorem main_1_2 : Claimed_1_2 := comes_1 fun _ _ _ _ _ _ h hF => ⟨h.2.1, hF⟩
end Jvm.Pilot.@@N@@
namespace Jvm.Pilot.@@N@@
open Jvm Jvm.ClassFile Sem Op Lib Jvm.Free Jvm.Stand Jvm.Pilot.@@N@@.Jvm.D
/-! MADE BY PROGRAM (witnessworld.py) out of the Statement's table words and the real class files: 15 classes; the members and pool entries that the words name. The judged class is class 1, her method 1. -/
namespace start1
open Jvm.ClassFile
def u (s : String) : CpInfo := .utf8 (stringToUtf16 s)
/-- a pool by its gaps: so many unusable entries, then the entry; so many at the end -/
def gap : Nat → List CpInfo → List CpInfo
  | 0, r => r
  | n + 1, r => .unusable :: gap n r
def poolList (es : List (Nat × CpInfo)) (last : Nat) : List CpInfo := es.foldr (fun e r => gap e.1 (e.2 :: r)) (gap last [])
def pool (es : List (Nat × CpInfo)) (last : Nat) : Array CpInfo := ⟨poolList es last⟩
def fileOf (pool : Array CpInfo) (this : Nat) (attrs : Array Attribute := #[]) (ms : Array MethodInfo := #[]) (fl : Nat := 33) (sup : Nat := 0) (ifs : Array Nat := #[]) (fds : Array FieldInfo := #[]) : ClassFile where
  minorVersion := 0
  majorVersion := 65
  constantPool := pool
  accessFlags := fl
  thisClass := this
  superClass := sup
  interfaces := ifs
  fields := fds
  methods := ms
  attributes := attrs
def plain (name : String) (sup : Option ClassId) : Class where
  name := name
  kind := .ordinary
  loader := none
  accessFlags := 33
  super := sup
  interfaces := #[]
  cf := none
  fields := #[]
  methods := #[]
  instanceTypes := #[]
  staticTypes := #[]
  resolved := #[]
  callSites := []
  init := .initialized
  statics := none
  mirror := none

def pool0 : Array CpInfo := pool [(5, u "<init>"), (0, u "()V"), (1, .class_ 10), (1, u "java/lang/Object")] 113

def k0m0 : Method := { name := "<init>", desc := "()V", sig := { parameters := [], returnType := none }, accessFlags := 1, code := none }
/-- java/lang/Object -/
def k0 : Class := { plain "java/lang/Object" none with
  accessFlags := 33
  interfaces := #[]
  cf := some (fileOf pool0 8 #[] #[{ accessFlags := 1, nameIndex := 5, descriptorIndex := 6, attributes := #[] }] 33 0 #[] #[])
  fields := #[]
  methods := #[k0m0]
  instanceTypes := #[]
  staticTypes := #[]
  resolved := Array.replicate 124 none
  statics := none }

def pool1 : Array CpInfo := pool [(2, .class_ 4), (1, u "java/lang/Object"), (0, u "<init>"), (0, u "()V"), (0, .class_ 8), (0, u "com/example/loomwire/loomwire/schema/ColumnType"), (0, .fieldref 7 10), (0, .nameAndType 11 12), (0, u "INTEGER"), (0, u "Lcom/example/loomwire/loomwire/schema/ColumnType;"), (0, .fieldref 7 14), (0, .nameAndType 15 12), (0, u "DECIMAL"), (0, .fieldref 7 17), (0, .nameAndType 18 12), (0, u "REAL"), (0, .fieldref 7 20), (0, .nameAndType 21 12), (0, u "DOUBLE"), (0, .fieldref 7 23), (0, .nameAndType 24 12), (0, u "BOOLEAN"), (0, .fieldref 7 26), (0, .nameAndType 27 12), (0, u "TEXT"), (0, .fieldref 7 29), (0, .nameAndType 30 12), (0, u "DATE"), (0, .fieldref 7 32), (0, .nameAndType 33 12), (0, u "TIME"), (0, .fieldref 7 35), (0, .nameAndType 36 12), (0, u "TIMESTAMP"), (0, .fieldref 7 38), (0, .nameAndType 39 12), (0, u "TIMESTAMP_WITH_TIME_ZONE"), (0, .fieldref 7 41), (0, .nameAndType 42 12), (0, u "BINARY"), (0, .fieldref 7 44), (0, .nameAndType 45 12), (0, u "OTHER"), (0, .integer 2147483647), (0, .methodref 7 48), (0, .nameAndType 49 50), (0, u "mayBeDatabaseText"), (0, u "()Z"), (0, .class_ 52), (0, u "com/example/loomwire/loomwire/schema/ColumnTypeMayBeDatabaseTextPinLaw"), (2, u "law"), (0, u "(I)Z")] 7

def k1m0 : Method := { name := "<init>", desc := "()V", sig := { parameters := [], returnType := none }, accessFlags := 1, code := none }
def k1c1 : Code := { maxStack := 4, maxLocals := 4, code := code, exceptionTable := #[], attributes := #[] }
def k1m1 : Method := { name := "law", desc := "(I)Z", sig := { parameters := [.int], returnType := some .boolean }, accessFlags := 9, code := some k1c1 }
/-- com/example/loomwire/loomwire/schema/ColumnTypeMayBeDatabaseTextPinLaw -/
def k1 : Class := { plain "com/example/loomwire/loomwire/schema/ColumnTypeMayBeDatabaseTextPinLaw" (some 0) with
  accessFlags := 49
  interfaces := #[]
  cf := some (fileOf pool1 51 #[] #[{ accessFlags := 1, nameIndex := 5, descriptorIndex := 6, attributes := #[] }, { accessFlags := 9, nameIndex := 55, descriptorIndex := 56, attributes := #[] }] 49 2 #[] #[])
  fields := #[]
  methods := #[k1m0, k1m1]
  instanceTypes := #[]
  staticTypes := #[]
  resolved := Array.replicate 64 none
  statics := none }

def pool2 : Array CpInfo := pool [(1, .class_ 2), (0, u "java/lang/constant/Constable"), (0, .class_ 4), (0, u "java/lang/Object")] 6

/-- java/lang/constant/Constable -/
def k2 : Class := { plain "java/lang/constant/Constable" (some 0) with
  accessFlags := 1537
  interfaces := #[]
  cf := some (fileOf pool2 1 #[] #[] 1537 3 #[] #[])
  fields := #[]
  methods := #[]
  instanceTypes := #[]
  staticTypes := #[]
  resolved := Array.replicate 11 none
  statics := none }

def pool3 : Array CpInfo := pool [(1, .class_ 2), (0, u "java/lang/Comparable"), (0, .class_ 4), (0, u "java/lang/Object")] 7

/-- java/lang/Comparable -/
def k3 : Class := { plain "java/lang/Comparable" (some 0) with
  accessFlags := 1537
  interfaces := #[]
  cf := some (fileOf pool3 1 #[] #[] 1537 3 #[] #[])
  fields := #[]
  methods := #[]
  instanceTypes := #[]
  staticTypes := #[]
  resolved := Array.replicate 12 none
  statics := none }

def pool4 : Array CpInfo := pool [(1, .class_ 2), (0, u "java/io/Serializable"), (0, .class_ 4), (0, u "java/lang/Object")] 2

/-- java/io/Serializable -/
def k4 : Class := { plain "java/io/Serializable" (some 0) with
  accessFlags := 1537
  interfaces := #[]
  cf := some (fileOf pool4 1 #[] #[] 1537 3 #[] #[])
  fields := #[]
  methods := #[]
  instanceTypes := #[]
  staticTypes := #[]
  resolved := Array.replicate 7 none
  statics := none }

def pool5 : Array CpInfo := pool [(2, .class_ 4), (1, u "java/lang/Enum"), (0, u "name"), (0, u "Ljava/lang/String;"), (2, u "ordinal"), (0, u "I"), (1, .class_ 14), (1, u "java/lang/Object"), (4, u "hash"), (86, .class_ 108), (1, u "java/lang/Enum$EnumDesc"), (2, .class_ 112), (0, u "java/lang/constant/Constable"), (0, .class_ 114), (0, u "java/lang/Comparable"), (0, .class_ 116), (0, u "java/io/Serializable")] 87

/-- java/lang/Enum -/
def k5 : Class := { plain "java/lang/Enum" (some 0) with
  accessFlags := 1057
  interfaces := #[2, 3, 4]
  cf := some (fileOf pool5 2 #[.nestMembers #[106]] #[] 1057 12 #[111, 113, 115] #[{ accessFlags := 18, nameIndex := 5, descriptorIndex := 6, attributes := #[] }, { accessFlags := 18, nameIndex := 9, descriptorIndex := 10, attributes := #[] }, { accessFlags := 2, nameIndex := 19, descriptorIndex := 10, attributes := #[] }])
  fields := #[{ name := "name", type := (.object "java/lang/String"), accessFlags := 18, slot := 0, constantValue := 0 }, { name := "ordinal", type := .int, accessFlags := 18, slot := 1, constantValue := 0 }, { name := "hash", type := .int, accessFlags := 2, slot := 2, constantValue := 0 }]
  methods := #[]
  instanceTypes := #[(.object "java/lang/String"), .int, .int]
  staticTypes := #[]
  resolved := Array.replicate 204 none
  statics := none }

def pool6 : Array CpInfo := pool [(1, .class_ 2), (0, u "com/example/loomwire/loomwire/schema/ColumnType"), (2, u "INTEGER"), (0, u "Lcom/example/loomwire/loomwire/schema/ColumnType;"), (0, .fieldref 1 8), (0, .nameAndType 9 6), (0, u "DECIMAL"), (2, u "REAL"), (2, u "DOUBLE"), (2, u "BOOLEAN"), (2, u "TEXT"), (0, .fieldref 1 23), (0, .nameAndType 24 6), (0, u "DATE"), (0, .fieldref 1 26), (0, .nameAndType 27 6), (0, u "TIME"), (0, .fieldref 1 29), (0, .nameAndType 30 6), (0, u "TIMESTAMP"), (2, u "TIMESTAMP_WITH_TIME_ZONE"), (2, u "BINARY"), (2, u "OTHER"), (2, u "$VALUES"), (0, u "[Lcom/example/loomwire/loomwire/schema/ColumnType;"), (6, .class_ 52), (1, u "java/lang/Enum"), (81, u "mayBeDatabaseText"), (0, u "()Z"), (44, u "INFINITIES"), (0, u "Ljava/util/Set;"), (145, u "MAX_DECIMAL_EXPONENT"), (0, u "I"), (1, u "HALF_A_CHARACTER"), (0, u "Ljava/lang/String;")] 35

def k6c0 : Code := { maxStack := 2, maxLocals := 1, code := prog_37_method_5_code, exceptionTable := #[], attributes := #[] }
def k6m0 : Method := { name := "mayBeDatabaseText", desc := "()Z", sig := { parameters := [], returnType := some .boolean }, accessFlags := 1, code := some k6c0 }
/-- com/example/loomwire/loomwire/schema/ColumnType -/
def k6 : Class := { plain "com/example/loomwire/loomwire/schema/ColumnType" (some 5) with
  accessFlags := 16433
  interfaces := #[]
  cf := some (fileOf pool6 1 #[] #[{ accessFlags := 1, nameIndex := 134, descriptorIndex := 135, attributes := #[] }] 16433 50 #[] #[{ accessFlags := 16409, nameIndex := 5, descriptorIndex := 6, attributes := #[] }, { accessFlags := 16409, nameIndex := 9, descriptorIndex := 6, attributes := #[] }, { accessFlags := 16409, nameIndex := 12, descriptorIndex := 6, attributes := #[] }, { accessFlags := 16409, nameIndex := 15, descriptorIndex := 6, attributes := #[] }, { accessFlags := 16409, nameIndex := 18, descriptorIndex := 6, attributes := #[] }, { accessFlags := 16409, nameIndex := 21, descriptorIndex := 6, attributes := #[] }, { accessFlags := 16409, nameIndex := 24, descriptorIndex := 6, attributes := #[] }, { accessFlags := 16409, nameIndex := 27, descriptorIndex := 6, attributes := #[] }, { accessFlags := 16409, nameIndex := 30, descriptorIndex := 6, attributes := #[] }, { accessFlags := 16409, nameIndex := 33, descriptorIndex := 6, attributes := #[] }, { accessFlags := 16409, nameIndex := 36, descriptorIndex := 6, attributes := #[] }, { accessFlags := 16409, nameIndex := 39, descriptorIndex := 6, attributes := #[] }, { accessFlags := 25, nameIndex := 327, descriptorIndex := 328, attributes := #[] }, { accessFlags := 25, nameIndex := 330, descriptorIndex := 331, attributes := #[] }, { accessFlags := 26, nameIndex := 180, descriptorIndex := 181, attributes := #[] }, { accessFlags := 4122, nameIndex := 42, descriptorIndex := 43, attributes := #[] }])
  fields := #[{ name := "INTEGER", type := (.object "com/example/loomwire/loomwire/schema/ColumnType"), accessFlags := 16409, slot := 0, constantValue := 0 }, { name := "DECIMAL", type := (.object "com/example/loomwire/loomwire/schema/ColumnType"), accessFlags := 16409, slot := 1, constantValue := 0 }, { name := "REAL", type := (.object "com/example/loomwire/loomwire/schema/ColumnType"), accessFlags := 16409, slot := 2, constantValue := 0 }, { name := "DOUBLE", type := (.object "com/example/loomwire/loomwire/schema/ColumnType"), accessFlags := 16409, slot := 3, constantValue := 0 }, { name := "BOOLEAN", type := (.object "com/example/loomwire/loomwire/schema/ColumnType"), accessFlags := 16409, slot := 4, constantValue := 0 }, { name := "TEXT", type := (.object "com/example/loomwire/loomwire/schema/ColumnType"), accessFlags := 16409, slot := 5, constantValue := 0 }, { name := "DATE", type := (.object "com/example/loomwire/loomwire/schema/ColumnType"), accessFlags := 16409, slot := 6, constantValue := 0 }, { name := "TIME", type := (.object "com/example/loomwire/loomwire/schema/ColumnType"), accessFlags := 16409, slot := 7, constantValue := 0 }, { name := "TIMESTAMP", type := (.object "com/example/loomwire/loomwire/schema/ColumnType"), accessFlags := 16409, slot := 8, constantValue := 0 }, { name := "TIMESTAMP_WITH_TIME_ZONE", type := (.object "com/example/loomwire/loomwire/schema/ColumnType"), accessFlags := 16409, slot := 9, constantValue := 0 }, { name := "BINARY", type := (.object "com/example/loomwire/loomwire/schema/ColumnType"), accessFlags := 16409, slot := 10, constantValue := 0 }, { name := "OTHER", type := (.object "com/example/loomwire/loomwire/schema/ColumnType"), accessFlags := 16409, slot := 11, constantValue := 0 }, { name := "MAX_DECIMAL_EXPONENT", type := .int, accessFlags := 25, slot := 12, constantValue := 0 }, { name := "HALF_A_CHARACTER", type := (.object "java/lang/String"), accessFlags := 25, slot := 13, constantValue := 0 }, { name := "INFINITIES", type := (.object "java/util/Set"), accessFlags := 26, slot := 14, constantValue := 0 }, { name := "$VALUES", type := (.array (.object "com/example/loomwire/loomwire/schema/ColumnType")), accessFlags := 4122, slot := 15, constantValue := 0 }]
  methods := #[k6m0]
  instanceTypes := #[(.object "java/lang/String"), .int, .int]
  staticTypes := #[(.object "com/example/loomwire/loomwire/schema/ColumnType"), (.object "com/example/loomwire/loomwire/schema/ColumnType"), (.object "com/example/loomwire/loomwire/schema/ColumnType"), (.object "com/example/loomwire/loomwire/schema/ColumnType"), (.object "com/example/loomwire/loomwire/schema/ColumnType"), (.object "com/example/loomwire/loomwire/schema/ColumnType"), (.object "com/example/loomwire/loomwire/schema/ColumnType"), (.object "com/example/loomwire/loomwire/schema/ColumnType"), (.object "com/example/loomwire/loomwire/schema/ColumnType"), (.object "com/example/loomwire/loomwire/schema/ColumnType"), (.object "com/example/loomwire/loomwire/schema/ColumnType"), (.object "com/example/loomwire/loomwire/schema/ColumnType"), .int, (.object "java/lang/String"), (.object "java/util/Set"), (.array (.object "com/example/loomwire/loomwire/schema/ColumnType"))]
  resolved := Array.replicate 367 none
  statics := some 0 }

def pool7 : Array CpInfo := pool [(1, u "java/lang/Cloneable"), (0, .class_ 1), (0, u "java/lang/Object"), (0, .class_ 3)] 3

/-- java/lang/Cloneable -/
def k7 : Class := { plain "java/lang/Cloneable" (some 0) with
  accessFlags := 1537
  interfaces := #[]
  cf := some (fileOf pool7 2 #[] #[] 1537 4 #[] #[])
  fields := #[]
  methods := #[]
  instanceTypes := #[]
  staticTypes := #[]
  resolved := Array.replicate 8 none
  statics := none }

/-- the primitive boolean -/
def k8 : Class := { plain "boolean" none with kind := .primitive 'Z', accessFlags := 0x411 }
/-- [Z -/
def k9 : Class := { plain "[Z" (some 0) with kind := .array 8 .boolean, interfaces := #[7, 4], accessFlags := 1041 }

/-- the primitive byte -/
def k10 : Class := { plain "byte" none with kind := .primitive 'B', accessFlags := 0x411 }
/-- [B -/
def k11 : Class := { plain "[B" (some 0) with kind := .array 10 .byte, interfaces := #[7, 4], accessFlags := 1041 }

/-- the primitive int -/
def k12 : Class := { plain "int" none with kind := .primitive 'I', accessFlags := 0x411 }
/-- [I -/
def k13 : Class := { plain "[I" (some 0) with kind := .array 12 .int, interfaces := #[7, 4], accessFlags := 1041 }

/-- [Lcom/example/loomwire/loomwire/schema/ColumnType; -/
def k14 : Class := { plain "[Lcom/example/loomwire/loomwire/schema/ColumnType;" (some 0) with kind := .array 6 (.object "com/example/loomwire/loomwire/schema/ColumnType"), interfaces := #[7, 4], accessFlags := 1041 }

def heap : Heap := #[{ cls := 6, slots := #[.ref 1, .ref 2, .ref 3, .ref 4, .ref 5, .ref 6, .ref 7, .ref 8, .ref 9, .ref 10, .ref 11, .ref 12, .int 0, .null, .null, .null], vm := .statics 6 },
  { cls := 6, slots := #[.null, .int 0, .int 0], vm := .none },
  { cls := 6, slots := #[.null, .int 1, .int 0], vm := .none },
  { cls := 6, slots := #[.null, .int 2, .int 0], vm := .none },
  { cls := 6, slots := #[.null, .int 3, .int 0], vm := .none },
  { cls := 6, slots := #[.null, .int 4, .int 0], vm := .none },
  { cls := 6, slots := #[.null, .int 5, .int 0], vm := .none },
  { cls := 6, slots := #[.null, .int 6, .int 0], vm := .none },
  { cls := 6, slots := #[.null, .int 7, .int 0], vm := .none },
  { cls := 6, slots := #[.null, .int 8, .int 0], vm := .none },
  { cls := 6, slots := #[.null, .int 9, .int 0], vm := .none },
  { cls := 6, slots := #[.null, .int 10, .int 0], vm := .none },
  { cls := 6, slots := #[.null, .int 11, .int 0], vm := .none }]
def classes : Array Class := #[k0, k1, k2, k3, k4, k5, k6, k7, k8, k9, k10, k11, k12, k13, k14]
def interned : List (Array UInt16 × Addr) := []
def slotsUsed : Nat := 52
def theMethod : MethodId := ⟨1, 1⟩
def args0 : Array Value := #[.int 5]
def aboutOver (below : List Frame) : State where
  vm := { classes := classes, interned := interned.toArray }
  heap := heap
  slotsUsed := slotsUsed
  threads := #[{ frames := .invoking theMethod args0 :: below }]
def below0 : List Frame := [.native { method := ⟨0, 0⟩, args := #[] }]
def about1 : State := aboutOver below0
def p0 : Program := .bare "" "" ""
def e0 : Env := launch0.env 0 0 0
theorem w_frames : about1.frames = Frame.invoking theMethod args0 :: below0 := rfl
set_option maxRecDepth 65536 in
theorem w_args : argsFit about1.vm theMethod args0 = true := by decide +kernel
set_option maxRecDepth 65536 in
theorem w_heap : heapFits about1 = true := by decide +kernel
set_option maxRecDepth 65536 in
theorem w_runnable : about1.curStatus? = some .runnable := by decide +kernel
set_option maxRecDepth 65536 in
theorem w_alone : about1.alone = true := by decide +kernel
set_option maxRecDepth 65536 in
theorem w_named : about1.methodNamed? x = some theMethod := by decide +kernel
set_option maxRecDepth 65536 in
theorem w_hears : about1.hears theMethod below0 = true := by decide +kernel
set_option maxRecDepth 65536 in
theorem w_ripe : about1.ripe theMethod args0 below0 = true := by decide +kernel
theorem w_running : about1.status = .running := rfl
set_option maxRecDepth 65536 in
theorem w_room : about1.hasRoom e0.platform room_1 = true :=
  launch0.hasRoom_least _ room_1 (by decide +kernel) (by decide +kernel) (by decide +kernel) (by decide +kernel) (by decide +kernel) (by decide +kernel)
theorem allAtoms_all (ts : List Jvm.Cond) (a : Array Jvm.Value) (st : Jvm.State) : (allAtoms ts).before a st = ts.all (fun c => c.before a st) := by
  induction ts with
  | nil => rfl
  | cons c t ih =>
    show (Jvm.Cond.and c (allAtoms t)).before a st = _
    rw [Jvm.Cond.before_and, ih, List.all_cons]
def words1 : List Jvm.Cond := Jvm.Cond.code x code maxLocals ret :: tables_1
/-- a 'code' word, met by the world's own term for the bytes: nothing is compared byte by byte -/
theorem code_word {y : MethodName} {bytes : ByteArray} {mx : Nat} {rt : Option FieldType} {a : Array Value} {s : State} {m : MethodId} {meth : Method} {c : Code} (h1 : s.methodNamed? y = some m) (h2 : s.vm.method? m = some meth) (h3 : meth.code = some c) (h4 : c.code = bytes)
    (h5 : (c.maxLocals == mx && c.exceptionTable.isEmpty && decide (c.maxStack ≤ mostOperands) && decide (meth.sig.returnType = rt) && !meth.locks && decide (parseMethodDescriptor y.desc = some meth.sig)) = true) : (Jvm.Cond.code y bytes mx rt).before a s = true := by
  simp only [Bool.and_eq_true, beq_iff_eq, Bool.not_eq_true', decide_eq_true_eq] at h5
  obtain ⟨⟨⟨⟨⟨g1, g2⟩, g3⟩, g4⟩, g5⟩, g6⟩ := h5
  simp [Cond.before, Cond.holds, Cond.value, h1, h2, h3, h4, g1, g2, g3, g4, g5, g6]
def isCode : Jvm.Cond → Bool
  | .code _ _ _ _ => true
  | _ => false
theorem all_split {L : List Jvm.Cond} {P : Jvm.Cond → Bool} (h1 : L.all (fun c => isCode c || P c) = true) (h2 : ∀ c ∈ L.filter isCode, P c = true) : L.all P = true := by
  refine List.all_eq_true.mpr fun c hc => ?_
  have h := List.all_eq_true.mp h1 c hc
  rcases Bool.eq_false_or_eq_true (isCode c) with hi | hi
  · exact h2 c (List.mem_filter.mpr ⟨hc, hi⟩)
  · simpa [hi] using h
set_option maxRecDepth 65536 in
theorem w_c0 : (Jvm.Cond.code x code maxLocals ret).before args0 about1 = true := code_word (m := ⟨1, 1⟩) (meth := k1m1) (c := k1c1) (by decide +kernel) rfl rfl rfl (by decide +kernel)
set_option maxRecDepth 65536 in
theorem w_c1 : (Jvm.Cond.code ({ cls := "com/example/loomwire/loomwire/schema/ColumnType", name := "mayBeDatabaseText", desc := "()Z" } : Jvm.MethodName) prog_37_method_5_code (1 : Nat) (Option.some Jvm.ClassFile.FieldType.boolean)).before args0 about1 = true := code_word (m := ⟨6, 0⟩) (meth := k6m0) (c := k6c0) (by decide +kernel) rfl rfl rfl (by decide +kernel)
def codes1 : List Jvm.Cond := [Jvm.Cond.code x code maxLocals ret, Jvm.Cond.code ({ cls := "com/example/loomwire/loomwire/schema/ColumnType", name := "mayBeDatabaseText", desc := "()Z" } : Jvm.MethodName) prog_37_method_5_code (1 : Nat) (Option.some Jvm.ClassFile.FieldType.boolean)]
set_option maxRecDepth 65536 in
theorem codes_eq : words1.filter isCode = codes1 := rfl
theorem w_codes : ∀ c ∈ words1.filter isCode, c.before args0 about1 = true := by
  rw [codes_eq]
  intro c hc
  simp only [codes1, List.mem_cons, List.not_mem_nil, or_false] at hc
  rcases hc with rfl | rfl
  · exact w_c0
  · exact w_c1
set_option maxRecDepth 65536 in
theorem w_t1 : (words1.take 24).all (fun c => isCode c || c.before args0 about1) = true := by decide +kernel
set_option maxRecDepth 65536 in
theorem w_t2 : (words1.drop 24).all (fun c => isCode c || c.before args0 about1) = true := by decide +kernel
theorem w_tables : (allAtoms (Jvm.Cond.code x code maxLocals ret :: tables_1)).before args0 about1 = true := by
  rw [allAtoms_all]
  show words1.all (fun c => c.before args0 about1) = true
  refine all_split ?_ w_codes
  rw [← List.take_append_drop 24 words1, List.all_append, w_t1, w_t2]
  rfl
set_option maxRecDepth 65536 in
theorem w_case : (Jvm.Cond.and given_1 narrow_1).before args0 about1 = true := by decide +kernel
theorem w_applies : (headSpec (Jvm.Cond.code x code maxLocals ret :: tables_1) room_1).applies x e0.platform about1 = true :=
  (Spec.applies_iff w_frames).mpr ⟨w_running, w_runnable, w_alone, w_named, w_hears, w_ripe, w_room, w_tables⟩
theorem atStart : AtStart classFile x code maxLocals ret World_1 tables_1 room_1 Calls_1 rest_1 Pre_1 launch0 p0 e0 about1 theMethod args0 below0 :=
  ⟨lists_1, trivial, launch0.admits_env _ _ _, launch0.least_env, fairChoices_fair.cas, fairChoices_fair.clock, w_frames, w_args, w_heap, w_applies, trivial, trivial, w_case⟩
end start1
theorem witness_1 : WitnessClaimed_1 := ⟨start1.p0, start1.e0, start1.about1, start1.theMethod, start1.args0, start1.below0, start1.atStart⟩
end Jvm.Pilot.@@N@@
