import JvmDerived
import JvmDerived.Pilot.@@N@@Statement
import JvmDerived.Pilot.@@N@@Code
set_option linter.unusedVariables false
set_option linter.unusedSimpArgs false
namespace Jvm.RoadKit
open Sem ClassFile Op Lib Jvm.Stand Jvm.Free Jvm.LawKit
section New
variable {p : Program} {l : Launch} {e : Env} {R : Room} {s : State} {m : MethodId} {args : Array Value} {below : List Frame} {meth : Method} {c : Code} {T : State} {locs : List Loc} {cells slots : Nat}
theorem retI (X : Stand p l e R s m args below meth c T locs cells slots) (hx : p.tables.exec = Jvm.exec) {pc : Nat} {Ls : Array Slot} {z : Int32} {rest : List Value} (hret : meth.sig.returnType = some .int) (hd : decode c.code pc = .ok (.ireturn, 1)) {fs : List Frame}
    (hl : ∀ (f : JFrame) (acts : List Action), f.method = m → f.locked = none → f.entered = [] → (doReturn e (T.setTop f) acts (some (.int z))).1 = T.setFrames fs) : Steps p.tables e below (T.setTop (mkF m pc Ls (.int z :: rest))) (T.setFrames fs) := by
  have hm' : T.vm.method? m = some meth := X.method'
  have hn : narrow .int (.int z) = .int z := rfl
  show Steps p.tables e below (T.setTop { method := m, pc := pc, locals := Ls, stack := _ :: rest, locked := none }) _
  jvm_step X.here [X.here.top, hx, hd, hm', hret, hn]
  first | (intro acts; rw [hl _ acts rfl rfl rfl]) | rw [hl _ _ rfl rfl rfl]
  exact Steps.refl _
end New
end Jvm.RoadKit
namespace Jvm.Pilot.@@N@@
open Jvm Jvm.ClassFile Sem Op Lib Jvm.Free Jvm.Stand Jvm.LawKit Jvm.RoadKit Bundle Jvm.Pilot.@@N@@.Jvm.D

theorem own_eqI {args : Array Value} {s : State} {t : Term} {k : Int32} (h : (Jvm.Cond.eq t (Term.int k)).value args s none s [] = some true) : t.eval args s none [] s = some (.int k) := by
  obtain ⟨x, y, hx, hy, k1, k2⟩ := cmp_v (Or.inl h)
  obtain rfl : y = .int k := Option.some.inj (hy.symm.trans rfl)
  obtain ⟨z, rfl⟩ : ∃ z, x = .int z := k2
  have q : z = k := by simpa [Jvm.Cond.value, hx, hy] using h
  rw [hx, q]
theorem own_eqR {args : Array Value} {s : State} {t u : Term} {a : Addr} (h : (Jvm.Cond.eq t u).value args s none s [] = some true) (hu : u.eval args s none [] s = some (.ref a)) : t.eval args s none [] s = some (.ref a) := by
  obtain ⟨x, y, hx, hy, k1, k2⟩ := cmp_v (Or.inl h)
  obtain rfl : y = .ref a := Option.some.inj (hy.symm.trans hu)
  have q : x.isRef = true ∧ (Value.ref a).isRef = true := ⟨k2.2, k2.1⟩
  have r := gotT (eq_R hx hy q.1 q.2) h
  rw [hx, r]
theorem own_len {args : Array Value} {s : State} {t : Term} {a : Addr} {c : Cell} {ty : FieldType} {n : Int32} (ev : t.eval args s none [] s = some (.ref a)) (A : Arr s s.heap a c ty) (h : (Jvm.Cond.eq (Term.length t) (Term.int n)).value args s none s [] = some true) : c.slots.size < 2 ^ 31 ∧ c.slots.size.toInt32 = n := by
  have e := own_eqI h
  have ha : s.arrayAt? a = some c := A.fin (Vm.Alike.refl _)
  simp only [Term.eval, Option.bind_eq_bind, ev, ha, Option.bind_some] at e
  by_cases q : c.slots.size < 2147483648
  · rw [if_pos q] at e
    exact ⟨q, by simpa using e⟩
  · rw [if_neg q] at e; cases e
theorem own_size {c : Cell} {n : Int32} (h : c.slots.size < 2 ^ 31 ∧ c.slots.size.toInt32 = n) : c.slots.size = n.toNatClampNeg ∧ ¬ n < 0 := by
  have q : n.toInt = c.slots.size := by rw [← h.2]; exact Int32.toInt_ofNat_small h.1
  refine ⟨?_, fun hn => ?_⟩
  · show c.slots.size = n.toInt.toNat
    omega
  · rw [Int32.lt_iff_toInt_lt] at hn
    have : (0 : Int32).toInt = 0 := rfl
    omega
theorem own_elem {args : Array Value} {s : State} {t : Term} {a y : Addr} {c : Cell} {ty : FieldType} {k : Int32} {u : Term} (ev : t.eval args s none [] s = some (.ref a)) (A : Arr s s.heap a c ty) (hu : u.eval args s none [] s = some (.ref y)) (h : (Jvm.Cond.eq (Term.elem t (Term.int k)) u).value args s none s [] = some true) : ¬ (k < 0 ∨ c.slots.size ≤ k.toNatClampNeg) ∧ c.slots[k.toNatClampNeg]? = some (.ref y) :=
  elem_in (own_eqR h hu) ev rfl A.1
def own_ret (V : Value) (n0 : Nat) (h0 : Heap) (v : Option Value) (h : Heap) (L : List Loc) : Prop := v = some V ∧ Fr n0 L ∧ h = h0
abbrev own_M (l : Launch) (y : MethodName) (bytes : ByteArray) (maxL : Nat) (ret : Option FieldType) (rm : Room) (Z : State) (as' : Array Value) (h0 : Heap) (Q : Option Value → Heap → List Loc → Prop) : Prop :=
  MetFree l y (head1 [Jvm.Cond.code y bytes maxL ret] rm) (fun a U => a = as' ∧ Z.Warmed39 U.vm ∧ U.heap = h0) (fun _ _ _ _ _ => True) (fun _ U o U' => ∃ v L, o = .returned v ∧ Q v U'.heap L ∧ FrameEnd U o U' L rm.cells rm.slots)
def own_one (n0 : Nat) (v : Option Value) (h : Heap) (L : List Loc) : Prop := v = some (.int (1 : Int32)) ∧ Fr n0 L
def own_kret (V : Value) (n0 : Nat) (h0 : Heap) (v : Option Value) (h : Heap) (L : List Loc) : Prop := v = some V ∧ Fr n0 L ∧ Keep h0 h []
theorem own_ext {h0 h : Heap} (K : Keep h0 h []) : Ext h0 h := ⟨K.1, fun a c q => K.2.1 a c q nin0⟩
theorem d1_0 : decode prog_118_method_4_code 0 = .ok (.iload_n 0, 1) := by decide +kernel
theorem d1_1 : decode prog_118_method_4_code 1 = .ok (.iconst 1, 1) := by decide +kernel
theorem d1_2 : decode prog_118_method_4_code 2 = .ok (.if_icmp .lt 21, 3) := by decide +kernel
theorem d1_23 : decode prog_118_method_4_code 23 = .ok (.aconst_null, 1) := by decide +kernel
theorem d1_24 : decode prog_118_method_4_code 24 = .ok (.areturn, 1) := by decide +kernel
theorem pn_1 : plainName "com/example/wireloom/wireloom/cql/ResultKind" = true := by first | (simp [plainName, overriddenIn]; done) | decide +kernel
theorem ef_1 (m : MethodId) (x0 : Int32) : entryFrame m #[(.int x0)] 1 = mkF m 0 #[.val (.int x0)] [] := by first | (simp [entryFrame, mkF, argsToLocals, Value.category]; done) | rfl
set_option maxRecDepth 65536 in
set_option maxHeartbeats 40000000 in
theorem own_fc_lo (l : Launch) (Z : State) (a0 : Array Value) (hw : ∀ d ∈ tables_1, d.before a0 Z = true) (ws : List Jvm.Cond) (p1 : Int32) (h0 : Heap) (n0 : Nat) (Z0 : n0 ≤ h0.size) (hc2 : p1 < (1 : Int32)) :
    MetFree l (⟨"com/example/wireloom/wireloom/cql/ResultKind", "forCode", "(I)Lcom/example/wireloom/wireloom/cql/ResultKind;"⟩ : MethodName) (head1 (Jvm.Cond.code (⟨"com/example/wireloom/wireloom/cql/ResultKind", "forCode", "(I)Lcom/example/wireloom/wireloom/cql/ResultKind;"⟩ : MethodName) prog_118_method_4_code 1 (some (.object "com/example/wireloom/wireloom/cql/ResultKind")) :: ws) ({ frames := 0, cells := 0, slots := 0, locals := 0 } : Room)) (fun a U => a = #[(.int p1)] ∧ Z.Warmed39 U.vm ∧ U.heap = h0) (fun _ _ _ _ _ => True) (fun _ U o U' => ∃ v L, o = .returned v ∧ (own_ret .null n0 h0) v U'.heap L ∧ FrameEnd U o U' L ({ frames := 0, cells := 0, slots := 0, locals := 0 } : Room).cells ({ frames := 0, cells := 0, slots := 0, locals := 0 } : Room).slots) := by
  refine MetFree.of_bodySF (plainFor_of_name pn_1) hisR ?_
  intro p e s m args below meth c s₁ Bd hml0 hP hK
  obtain ⟨rfl, hZ, hh⟩ := hP
  have hx := Bd.exec
  have hby := Bd.bytes
  have hml : c.maxLocals = 1 := hml0
  have hown : s.vm.findClass "com/example/wireloom/wireloom/cql/ResultKind" = some m.cls := findClass_of_methodNamed Bd.named
  have hnm := (name_of_methodNamed Bd.named Bd.method).1
  have X0 : Stand p l e ({ frames := 0, cells := 0, slots := 0, locals := 0 } : Room) s m #[(.int p1)] below meth c s₁ [] 0 0 := Stand.of_body Bd
  have e0 : s₁.heap = h0 := by rw [← hh, Bd.state]; rfl
  have N0 := Fr.nil n0
  have pre0 : ∀ t, Steps p.tables e below (s₁.setTop (mkF m 0 #[.val (.int p1)] [])) t → Steps p.tables e below (s₁.setTop (entryFrame m #[(.int p1)] 1)) t := fun t k => castTop (ef_1 m p1) k
  obtain ⟨fs, hr, hrun, hended, hW, hsame⟩ := X0.leave (v := some .null) (fun h => by rw [Bd.returns] at h; cases h)
  refine ⟨_, _, pre0 _ ?_, hrun, hended, _, _, rfl, ?_, ⟨_, rfl⟩, hW, hsame.mono (by decide) (by decide)⟩
  · show Steps p.tables e below (s₁.setTop (mkF m 0 #[.val (.int p1)] [])) _
    refine XS.iloadN X0.here hx rfl (hb hby d1_0) rfl ?_
    show Steps p.tables e below (s₁.setTop (mkF m 1 #[.val (.int p1)] [(.int p1)])) _
    refine XS.iconst X0.here hx rfl (hb hby d1_1) ?_
    show Steps p.tables e below (s₁.setTop (mkF m 2 #[.val (.int p1)] [(.int (1 : Int32)), (.int p1)])) _
    refine XS.icmpYes X0.here hx rfl (pc0 := 2) (pc' := 23) rfl (hb hby d1_2) rfl (tlt hc2).1 (by decide) (by decide) ?_
    show Steps p.tables e below (s₁.setTop (mkF m 23 #[.val (.int p1)] [])) _
    refine XS.aconstNull X0.here hx rfl (hb hby d1_23) ?_
    show Steps p.tables e below (s₁.setTop (mkF m 24 #[.val (.int p1)] [.null])) _
    jvm_step X0.here [X0.here.top, hx, (hb hby d1_24), X0.method', Bd.returns, Value.isRef, FieldType.isReference]
    first | (intro acts; rw [hr _ acts rfl rfl rfl]) | rw [hr _ _ rfl rfl rfl]
    exact Steps.refl _
  · show (own_ret .null n0 h0) _ s₁.heap _
    rw [e0]
    exact ⟨rfl, N0, rfl⟩
theorem d1_5 : decode prog_118_method_4_code 5 = .ok (.iload_n 0, 1) := by decide +kernel
theorem d1_6 : decode prog_118_method_4_code 6 = .ok (.getstatic 38, 3) := by decide +kernel
theorem d1_9 : decode prog_118_method_4_code 9 = .ok (.arraylength, 1) := by decide +kernel
theorem d1_10 : decode prog_118_method_4_code 10 = .ok (.if_icmp .gt 13, 3) := by decide +kernel
set_option maxRecDepth 65536 in
set_option maxHeartbeats 40000000 in
theorem own_fc_hi (l : Launch) (Z : State) (a0 : Array Value) (hw : ∀ d ∈ tables_1, d.before a0 Z = true) (ws : List Jvm.Cond) (p1 : Int32) (w2 : Addr) (cl_w2 : Cell) (z_w2 : Int32) (h0 : Heap) (n0 : Nat) (Z0 : n0 ≤ h0.size) (S_BY_ORDINAL : Sta Z h0 "com/example/wireloom/wireloom/cql/ResultKind" "BY_ORDINAL" "[Lcom/example/wireloom/wireloom/cql/ResultKind;" (.ref w2)) (Ar_w2 : Arr Z h0 w2 cl_w2 (.object "com/example/wireloom/wireloom/cql/ResultKind")) (S_w2 : cl_w2.slots.size = z_w2.toNatClampNeg) (N_w2 : ¬ z_w2 < 0) (hc2 : ¬ (p1 < (1 : Int32))) (hc10 : z_w2 < p1) :
    MetFree l (⟨"com/example/wireloom/wireloom/cql/ResultKind", "forCode", "(I)Lcom/example/wireloom/wireloom/cql/ResultKind;"⟩ : MethodName) (head1 (Jvm.Cond.code (⟨"com/example/wireloom/wireloom/cql/ResultKind", "forCode", "(I)Lcom/example/wireloom/wireloom/cql/ResultKind;"⟩ : MethodName) prog_118_method_4_code 1 (some (.object "com/example/wireloom/wireloom/cql/ResultKind")) :: ws) ({ frames := 0, cells := 0, slots := 0, locals := 0 } : Room)) (fun a U => a = #[(.int p1)] ∧ Z.Warmed39 U.vm ∧ U.heap = h0) (fun _ _ _ _ _ => True) (fun _ U o U' => ∃ v L, o = .returned v ∧ (own_ret .null n0 h0) v U'.heap L ∧ FrameEnd U o U' L ({ frames := 0, cells := 0, slots := 0, locals := 0 } : Room).cells ({ frames := 0, cells := 0, slots := 0, locals := 0 } : Room).slots) := by
  refine MetFree.of_bodySF (plainFor_of_name pn_1) hisR ?_
  intro p e s m args below meth c s₁ Bd hml0 hP hK
  obtain ⟨rfl, hZ, hh⟩ := hP
  have hx := Bd.exec
  have hby := Bd.bytes
  have hml : c.maxLocals = 1 := hml0
  have hown : s.vm.findClass "com/example/wireloom/wireloom/cql/ResultKind" = some m.cls := findClass_of_methodNamed Bd.named
  have hnm := (name_of_methodNamed Bd.named Bd.method).1
  have X0 : Stand p l e ({ frames := 0, cells := 0, slots := 0, locals := 0 } : Room) s m #[(.int p1)] below meth c s₁ [] 0 0 := Stand.of_body Bd
  have e0 : s₁.heap = h0 := by rw [← hh, Bd.state]; rfl
  have N0 := Fr.nil n0
  have pre0 : ∀ t, Steps p.tables e below (s₁.setTop (mkF m 0 #[.val (.int p1)] [])) t → Steps p.tables e below (s₁.setTop (entryFrame m #[(.int p1)] 1)) t := fun t k => castTop (ef_1 m p1) k
  obtain ⟨T3, X3, e3, st3⟩ := getS2 X0 hx hZ hown (host := "") (Or.inl (hw _ (List.mem_of_getElem? (i := 8) rfl))) Via.refl e0 S_BY_ORDINAL (g := (mkF m 6 #[.val (.int p1)] [(.int p1)])) rfl (hb hby d1_6)
  obtain ⟨fs, hr, hrun, hended, hW, hsame⟩ := X3.leave (v := some .null) (fun h => by rw [Bd.returns] at h; cases h)
  refine ⟨_, _, pre0 _ ?_, hrun, hended, _, _, rfl, ?_, ⟨_, rfl⟩, hW, hsame.mono (by decide) (by decide)⟩
  · show Steps p.tables e below (s₁.setTop (mkF m 0 #[.val (.int p1)] [])) _
    refine XS.iloadN X0.here hx rfl (hb hby d1_0) rfl ?_
    show Steps p.tables e below (s₁.setTop (mkF m 1 #[.val (.int p1)] [(.int p1)])) _
    refine XS.iconst X0.here hx rfl (hb hby d1_1) ?_
    show Steps p.tables e below (s₁.setTop (mkF m 2 #[.val (.int p1)] [(.int (1 : Int32)), (.int p1)])) _
    refine XS.icmpNo X0.here hx rfl (hb hby d1_2) rfl (flt hc2).1 ?_
    show Steps p.tables e below (s₁.setTop (mkF m 5 #[.val (.int p1)] [])) _
    refine XS.iloadN X0.here hx rfl (hb hby d1_5) rfl ?_
    show Steps p.tables e below (s₁.setTop (mkF m 6 #[.val (.int p1)] [(.int p1)])) _
    refine st3 _ ?_
    show Steps p.tables e below (T3.setTop (mkF m 9 #[.val (.int p1)] [(.ref w2), (.int p1)])) _
    refine X3.arraylength hx (by rw [e3]; exact Ar_w2.1) (State.isArrayOf_alike hZ.alike Ar_w2.2.1) (g := (mkF m 9 #[.val (.int p1)] [(.ref w2), (.int p1)])) rfl rfl (hb hby d1_9) _ ?_
    rw [len_of S_w2 N_w2]
    show Steps p.tables e below (T3.setTop (mkF m 10 #[.val (.int p1)] [(.int z_w2), (.int p1)])) _
    refine XS.icmpYes X3.here hx rfl (pc0 := 10) (pc' := 23) rfl (hb hby d1_10) rfl (tlt hc10).2.2.1 (by decide) (by decide) ?_
    show Steps p.tables e below (T3.setTop (mkF m 23 #[.val (.int p1)] [])) _
    refine XS.aconstNull X3.here hx rfl (hb hby d1_23) ?_
    show Steps p.tables e below (T3.setTop (mkF m 24 #[.val (.int p1)] [.null])) _
    jvm_step X3.here [X3.here.top, hx, (hb hby d1_24), X3.method', Bd.returns, Value.isRef, FieldType.isReference]
    first | (intro acts; rw [hr _ acts rfl rfl rfl]) | rw [hr _ _ rfl rfl rfl]
    exact Steps.refl _
  · show (own_ret .null n0 h0) _ T3.heap _
    rw [e3]
    exact ⟨rfl, N0, rfl⟩
theorem d1_13 : decode prog_118_method_4_code 13 = .ok (.getstatic 38, 3) := by decide +kernel
theorem d1_16 : decode prog_118_method_4_code 16 = .ok (.iload_n 0, 1) := by decide +kernel
theorem d1_17 : decode prog_118_method_4_code 17 = .ok (.iconst 1, 1) := by decide +kernel
theorem d1_18 : decode prog_118_method_4_code 18 = .ok (.isub, 1) := by decide +kernel
theorem d1_19 : decode prog_118_method_4_code 19 = .ok (.aaload, 1) := by decide +kernel
theorem d1_20 : decode prog_118_method_4_code 20 = .ok (.goto 4, 3) := by decide +kernel
set_option maxRecDepth 65536 in
set_option maxHeartbeats 40000000 in
theorem own_fc_in (l : Launch) (Z : State) (a0 : Array Value) (hw : ∀ d ∈ tables_1, d.before a0 Z = true) (ws : List Jvm.Cond) (p1 : Int32) (w2 : Addr) (cl_w2 : Cell) (z_w2 : Int32) (w5 : Addr) (h0 : Heap) (n0 : Nat) (Z0 : n0 ≤ h0.size) (S_BY_ORDINAL : Sta Z h0 "com/example/wireloom/wireloom/cql/ResultKind" "BY_ORDINAL" "[Lcom/example/wireloom/wireloom/cql/ResultKind;" (.ref w2)) (Ar_w2 : Arr Z h0 w2 cl_w2 (.object "com/example/wireloom/wireloom/cql/ResultKind")) (S_w2 : cl_w2.slots.size = z_w2.toNatClampNeg) (N_w2 : ¬ z_w2 < 0) (hin19 : ¬ ((p1 - (1 : Int32)) < 0 ∨ cl_w2.slots.size ≤ ((p1 - (1 : Int32))).toNatClampNeg)) (hat19 : cl_w2.slots[((p1 - (1 : Int32))).toNatClampNeg]? = some (.ref w5)) (hc2 : ¬ (p1 < (1 : Int32))) (hc10 : ¬ (z_w2 < p1)) :
    MetFree l (⟨"com/example/wireloom/wireloom/cql/ResultKind", "forCode", "(I)Lcom/example/wireloom/wireloom/cql/ResultKind;"⟩ : MethodName) (head1 (Jvm.Cond.code (⟨"com/example/wireloom/wireloom/cql/ResultKind", "forCode", "(I)Lcom/example/wireloom/wireloom/cql/ResultKind;"⟩ : MethodName) prog_118_method_4_code 1 (some (.object "com/example/wireloom/wireloom/cql/ResultKind")) :: ws) ({ frames := 0, cells := 0, slots := 0, locals := 0 } : Room)) (fun a U => a = #[(.int p1)] ∧ Z.Warmed39 U.vm ∧ U.heap = h0) (fun _ _ _ _ _ => True) (fun _ U o U' => ∃ v L, o = .returned v ∧ (own_ret (.ref w5) n0 h0) v U'.heap L ∧ FrameEnd U o U' L ({ frames := 0, cells := 0, slots := 0, locals := 0 } : Room).cells ({ frames := 0, cells := 0, slots := 0, locals := 0 } : Room).slots) := by
  refine MetFree.of_bodySF (plainFor_of_name pn_1) hisR ?_
  intro p e s m args below meth c s₁ Bd hml0 hP hK
  obtain ⟨rfl, hZ, hh⟩ := hP
  have hx := Bd.exec
  have hby := Bd.bytes
  have hml : c.maxLocals = 1 := hml0
  have hown : s.vm.findClass "com/example/wireloom/wireloom/cql/ResultKind" = some m.cls := findClass_of_methodNamed Bd.named
  have hnm := (name_of_methodNamed Bd.named Bd.method).1
  have X0 : Stand p l e ({ frames := 0, cells := 0, slots := 0, locals := 0 } : Room) s m #[(.int p1)] below meth c s₁ [] 0 0 := Stand.of_body Bd
  have e0 : s₁.heap = h0 := by rw [← hh, Bd.state]; rfl
  have N0 := Fr.nil n0
  have pre0 : ∀ t, Steps p.tables e below (s₁.setTop (mkF m 0 #[.val (.int p1)] [])) t → Steps p.tables e below (s₁.setTop (entryFrame m #[(.int p1)] 1)) t := fun t k => castTop (ef_1 m p1) k
  obtain ⟨T3, X3, e3, st3⟩ := getS2 X0 hx hZ hown (host := "") (Or.inl (hw _ (List.mem_of_getElem? (i := 8) rfl))) Via.refl e0 S_BY_ORDINAL (g := (mkF m 6 #[.val (.int p1)] [(.int p1)])) rfl (hb hby d1_6)
  obtain ⟨T4, X4, e4, st4⟩ := getS2 X3 hx hZ hown (host := "") (Or.inl (hw _ (List.mem_of_getElem? (i := 8) rfl))) Via.refl e3 S_BY_ORDINAL (g := (mkF m 13 #[.val (.int p1)] [])) rfl (hb hby d1_13)
  obtain ⟨fs, hr, hrun, hended, hW, hsame⟩ := X4.leave (v := some (.ref w5)) (fun h => by rw [Bd.returns] at h; cases h)
  refine ⟨_, _, pre0 _ ?_, hrun, hended, _, _, rfl, ?_, ⟨_, rfl⟩, hW, hsame.mono (by decide) (by decide)⟩
  · show Steps p.tables e below (s₁.setTop (mkF m 0 #[.val (.int p1)] [])) _
    refine XS.iloadN X0.here hx rfl (hb hby d1_0) rfl ?_
    show Steps p.tables e below (s₁.setTop (mkF m 1 #[.val (.int p1)] [(.int p1)])) _
    refine XS.iconst X0.here hx rfl (hb hby d1_1) ?_
    show Steps p.tables e below (s₁.setTop (mkF m 2 #[.val (.int p1)] [(.int (1 : Int32)), (.int p1)])) _
    refine XS.icmpNo X0.here hx rfl (hb hby d1_2) rfl (flt hc2).1 ?_
    show Steps p.tables e below (s₁.setTop (mkF m 5 #[.val (.int p1)] [])) _
    refine XS.iloadN X0.here hx rfl (hb hby d1_5) rfl ?_
    show Steps p.tables e below (s₁.setTop (mkF m 6 #[.val (.int p1)] [(.int p1)])) _
    refine st3 _ ?_
    show Steps p.tables e below (T3.setTop (mkF m 9 #[.val (.int p1)] [(.ref w2), (.int p1)])) _
    refine X3.arraylength hx (by rw [e3]; exact Ar_w2.1) (State.isArrayOf_alike hZ.alike Ar_w2.2.1) (g := (mkF m 9 #[.val (.int p1)] [(.ref w2), (.int p1)])) rfl rfl (hb hby d1_9) _ ?_
    rw [len_of S_w2 N_w2]
    show Steps p.tables e below (T3.setTop (mkF m 10 #[.val (.int p1)] [(.int z_w2), (.int p1)])) _
    refine XS.icmpNo X3.here hx rfl (hb hby d1_10) rfl (flt hc10).2.2.1 ?_
    show Steps p.tables e below (T3.setTop (mkF m 13 #[.val (.int p1)] [])) _
    refine st4 _ ?_
    show Steps p.tables e below (T4.setTop (mkF m 16 #[.val (.int p1)] [(.ref w2)])) _
    refine XS.iloadN X4.here hx rfl (hb hby d1_16) rfl ?_
    show Steps p.tables e below (T4.setTop (mkF m 17 #[.val (.int p1)] [(.int p1), (.ref w2)])) _
    refine XS.iconst X4.here hx rfl (hb hby d1_17) ?_
    show Steps p.tables e below (T4.setTop (mkF m 18 #[.val (.int p1)] [(.int (1 : Int32)), (.int p1), (.ref w2)])) _
    refine XS.isub X4.here hx rfl (hb hby d1_18) rfl ?_
    show Steps p.tables e below (T4.setTop (mkF m 19 #[.val (.int p1)] [(.int (p1 - (1 : Int32))), (.ref w2)])) _
    refine X4.aaload hx (j := (p1 - (1 : Int32))) (v := (.ref w5)) (by rw [e4]; exact Ar_w2.1) (State.isArrayOf_alike hZ.alike Ar_w2.2.1) rfl Ar_w2.2.2 hin19 hat19 (g := (mkF m 19 #[.val (.int p1)] [(.int (p1 - (1 : Int32))), (.ref w2)])) rfl rfl (hb hby d1_19) _ ?_
    show Steps p.tables e below (T4.setTop (mkF m 20 #[.val (.int p1)] [(.ref w5)])) _
    refine XS.goto X4.here hx rfl (pc0 := 20) (pc' := 24) rfl (hb hby d1_20) (by decide) (by decide) ?_
    show Steps p.tables e below (T4.setTop (mkF m 24 #[.val (.int p1)] [(.ref w5)])) _
    jvm_step X4.here [X4.here.top, hx, (hb hby d1_24), X4.method', Bd.returns, Value.isRef, FieldType.isReference]
    first | (intro acts; rw [hr _ acts rfl rfl rfl]) | rw [hr _ _ rfl rfl rfl]
    exact Steps.refl _
  · show (own_ret (.ref w5) n0 h0) _ T4.heap _
    rw [e4]
    exact ⟨rfl, N0, rfl⟩
theorem d2_0 : decode method_3_code 0 = .ok (.iload_n 0, 1) := by decide +kernel
theorem d2_1 : decode method_3_code 1 = .ok (.iconst 1, 1) := by decide +kernel
theorem d2_2 : decode method_3_code 2 = .ok (.if_icmp .ne 7, 3) := by decide +kernel
theorem d2_5 : decode method_3_code 5 = .ok (.getstatic 22, 3) := by decide +kernel
theorem d2_8 : decode method_3_code 8 = .ok (.areturn, 1) := by decide +kernel
theorem pn_2 : plainName "com/example/wireloom/wireloom/cql/ResultKindForCodePinLaw" = true := by first | (simp [plainName, overriddenIn]; done) | decide +kernel
theorem ef_2 (m : MethodId) (x0 : Int32) : entryFrame m #[(.int x0)] 1 = mkF m 0 #[.val (.int x0)] [] := by first | (simp [entryFrame, mkF, argsToLocals, Value.category]; done) | rfl
set_option maxRecDepth 65536 in
set_option maxHeartbeats 40000000 in
theorem own_rf_1 (l : Launch) (Z : State) (a0 : Array Value) (hw : ∀ d ∈ tables_1, d.before a0 Z = true) (ws : List Jvm.Cond) (p1 : Int32) (w2 : Addr) (h0 : Heap) (n0 : Nat) (Z0 : n0 ≤ h0.size) (S_VOID : Sta Z h0 "com/example/wireloom/wireloom/cql/ResultKind" "VOID" "Lcom/example/wireloom/wireloom/cql/ResultKind;" (.ref w2)) (hc2 : p1 = (1 : Int32)) :
    MetFree l (⟨"com/example/wireloom/wireloom/cql/ResultKindForCodePinLaw", "reference", "(I)Lcom/example/wireloom/wireloom/cql/ResultKind;"⟩ : MethodName) (head1 (Jvm.Cond.code (⟨"com/example/wireloom/wireloom/cql/ResultKindForCodePinLaw", "reference", "(I)Lcom/example/wireloom/wireloom/cql/ResultKind;"⟩ : MethodName) method_3_code 1 (some (.object "com/example/wireloom/wireloom/cql/ResultKind")) :: ws) ({ frames := 0, cells := 0, slots := 0, locals := 0 } : Room)) (fun a U => a = #[(.int p1)] ∧ Z.Warmed39 U.vm ∧ U.heap = h0) (fun _ _ _ _ _ => True) (fun _ U o U' => ∃ v L, o = .returned v ∧ (own_ret (.ref w2) n0 h0) v U'.heap L ∧ FrameEnd U o U' L ({ frames := 0, cells := 0, slots := 0, locals := 0 } : Room).cells ({ frames := 0, cells := 0, slots := 0, locals := 0 } : Room).slots) := by
  refine MetFree.of_bodySF (plainFor_of_name pn_2) hisR ?_
  intro p e s m args below meth c s₁ Bd hml0 hP hK
  obtain ⟨rfl, hZ, hh⟩ := hP
  have hx := Bd.exec
  have hby := Bd.bytes
  have hml : c.maxLocals = 1 := hml0
  have hown : s.vm.findClass "com/example/wireloom/wireloom/cql/ResultKindForCodePinLaw" = some m.cls := findClass_of_methodNamed Bd.named
  have hnm := (name_of_methodNamed Bd.named Bd.method).1
  have X0 : Stand p l e ({ frames := 0, cells := 0, slots := 0, locals := 0 } : Room) s m #[(.int p1)] below meth c s₁ [] 0 0 := Stand.of_body Bd
  have e0 : s₁.heap = h0 := by rw [← hh, Bd.state]; rfl
  have N0 := Fr.nil n0
  have pre0 : ∀ t, Steps p.tables e below (s₁.setTop (mkF m 0 #[.val (.int p1)] [])) t → Steps p.tables e below (s₁.setTop (entryFrame m #[(.int p1)] 1)) t := fun t k => castTop (ef_2 m p1) k
  obtain ⟨T3, X3, e3, st3⟩ := getS2 X0 hx hZ hown (host := "") (Or.inl (hw _ (List.mem_of_getElem? (i := 31) rfl))) Via.refl e0 S_VOID (g := (mkF m 5 #[.val (.int p1)] [])) rfl (hb hby d2_5)
  obtain ⟨fs, hr, hrun, hended, hW, hsame⟩ := X3.leave (v := some (.ref w2)) (fun h => by rw [Bd.returns] at h; cases h)
  refine ⟨_, _, pre0 _ ?_, hrun, hended, _, _, rfl, ?_, ⟨_, rfl⟩, hW, hsame.mono (by decide) (by decide)⟩
  · show Steps p.tables e below (s₁.setTop (mkF m 0 #[.val (.int p1)] [])) _
    refine XS.iloadN X0.here hx rfl (hb hby d2_0) rfl ?_
    show Steps p.tables e below (s₁.setTop (mkF m 1 #[.val (.int p1)] [(.int p1)])) _
    refine XS.iconst X0.here hx rfl (hb hby d2_1) ?_
    show Steps p.tables e below (s₁.setTop (mkF m 2 #[.val (.int p1)] [(.int (1 : Int32)), (.int p1)])) _
    refine XS.icmpNo X0.here hx rfl (hb hby d2_2) rfl (teq hc2).2 ?_
    show Steps p.tables e below (s₁.setTop (mkF m 5 #[.val (.int p1)] [])) _
    refine st3 _ ?_
    show Steps p.tables e below (T3.setTop (mkF m 8 #[.val (.int p1)] [(.ref w2)])) _
    jvm_step X3.here [X3.here.top, hx, (hb hby d2_8), X3.method', Bd.returns, Value.isRef, FieldType.isReference]
    first | (intro acts; rw [hr _ acts rfl rfl rfl]) | rw [hr _ _ rfl rfl rfl]
    exact Steps.refl _
  · show (own_ret (.ref w2) n0 h0) _ T3.heap _
    rw [e3]
    exact ⟨rfl, N0, rfl⟩
theorem d2_9 : decode method_3_code 9 = .ok (.iload_n 0, 1) := by decide +kernel
theorem d2_10 : decode method_3_code 10 = .ok (.iconst 2, 1) := by decide +kernel
theorem d2_11 : decode method_3_code 11 = .ok (.if_icmp .ne 7, 3) := by decide +kernel
theorem d2_14 : decode method_3_code 14 = .ok (.getstatic 26, 3) := by decide +kernel
theorem d2_17 : decode method_3_code 17 = .ok (.areturn, 1) := by decide +kernel
set_option maxRecDepth 65536 in
set_option maxHeartbeats 40000000 in
theorem own_rf_2 (l : Launch) (Z : State) (a0 : Array Value) (hw : ∀ d ∈ tables_1, d.before a0 Z = true) (ws : List Jvm.Cond) (p1 : Int32) (w2 : Addr) (h0 : Heap) (n0 : Nat) (Z0 : n0 ≤ h0.size) (S_ROWS : Sta Z h0 "com/example/wireloom/wireloom/cql/ResultKind" "ROWS" "Lcom/example/wireloom/wireloom/cql/ResultKind;" (.ref w2)) (hc2 : ¬ (p1 = (1 : Int32))) (hc11 : p1 = (2 : Int32)) :
    MetFree l (⟨"com/example/wireloom/wireloom/cql/ResultKindForCodePinLaw", "reference", "(I)Lcom/example/wireloom/wireloom/cql/ResultKind;"⟩ : MethodName) (head1 (Jvm.Cond.code (⟨"com/example/wireloom/wireloom/cql/ResultKindForCodePinLaw", "reference", "(I)Lcom/example/wireloom/wireloom/cql/ResultKind;"⟩ : MethodName) method_3_code 1 (some (.object "com/example/wireloom/wireloom/cql/ResultKind")) :: ws) ({ frames := 0, cells := 0, slots := 0, locals := 0 } : Room)) (fun a U => a = #[(.int p1)] ∧ Z.Warmed39 U.vm ∧ U.heap = h0) (fun _ _ _ _ _ => True) (fun _ U o U' => ∃ v L, o = .returned v ∧ (own_ret (.ref w2) n0 h0) v U'.heap L ∧ FrameEnd U o U' L ({ frames := 0, cells := 0, slots := 0, locals := 0 } : Room).cells ({ frames := 0, cells := 0, slots := 0, locals := 0 } : Room).slots) := by
  refine MetFree.of_bodySF (plainFor_of_name pn_2) hisR ?_
  intro p e s m args below meth c s₁ Bd hml0 hP hK
  obtain ⟨rfl, hZ, hh⟩ := hP
  have hx := Bd.exec
  have hby := Bd.bytes
  have hml : c.maxLocals = 1 := hml0
  have hown : s.vm.findClass "com/example/wireloom/wireloom/cql/ResultKindForCodePinLaw" = some m.cls := findClass_of_methodNamed Bd.named
  have hnm := (name_of_methodNamed Bd.named Bd.method).1
  have X0 : Stand p l e ({ frames := 0, cells := 0, slots := 0, locals := 0 } : Room) s m #[(.int p1)] below meth c s₁ [] 0 0 := Stand.of_body Bd
  have e0 : s₁.heap = h0 := by rw [← hh, Bd.state]; rfl
  have N0 := Fr.nil n0
  have pre0 : ∀ t, Steps p.tables e below (s₁.setTop (mkF m 0 #[.val (.int p1)] [])) t → Steps p.tables e below (s₁.setTop (entryFrame m #[(.int p1)] 1)) t := fun t k => castTop (ef_2 m p1) k
  obtain ⟨T3, X3, e3, st3⟩ := getS2 X0 hx hZ hown (host := "") (Or.inl (hw _ (List.mem_of_getElem? (i := 33) rfl))) Via.refl e0 S_ROWS (g := (mkF m 14 #[.val (.int p1)] [])) rfl (hb hby d2_14)
  obtain ⟨fs, hr, hrun, hended, hW, hsame⟩ := X3.leave (v := some (.ref w2)) (fun h => by rw [Bd.returns] at h; cases h)
  refine ⟨_, _, pre0 _ ?_, hrun, hended, _, _, rfl, ?_, ⟨_, rfl⟩, hW, hsame.mono (by decide) (by decide)⟩
  · show Steps p.tables e below (s₁.setTop (mkF m 0 #[.val (.int p1)] [])) _
    refine XS.iloadN X0.here hx rfl (hb hby d2_0) rfl ?_
    show Steps p.tables e below (s₁.setTop (mkF m 1 #[.val (.int p1)] [(.int p1)])) _
    refine XS.iconst X0.here hx rfl (hb hby d2_1) ?_
    show Steps p.tables e below (s₁.setTop (mkF m 2 #[.val (.int p1)] [(.int (1 : Int32)), (.int p1)])) _
    refine XS.icmpYes X0.here hx rfl (pc0 := 2) (pc' := 9) rfl (hb hby d2_2) rfl (feq hc2).2 (by decide) (by decide) ?_
    show Steps p.tables e below (s₁.setTop (mkF m 9 #[.val (.int p1)] [])) _
    refine XS.iloadN X0.here hx rfl (hb hby d2_9) rfl ?_
    show Steps p.tables e below (s₁.setTop (mkF m 10 #[.val (.int p1)] [(.int p1)])) _
    refine XS.iconst X0.here hx rfl (hb hby d2_10) ?_
    show Steps p.tables e below (s₁.setTop (mkF m 11 #[.val (.int p1)] [(.int (2 : Int32)), (.int p1)])) _
    refine XS.icmpNo X0.here hx rfl (hb hby d2_11) rfl (teq hc11).2 ?_
    show Steps p.tables e below (s₁.setTop (mkF m 14 #[.val (.int p1)] [])) _
    refine st3 _ ?_
    show Steps p.tables e below (T3.setTop (mkF m 17 #[.val (.int p1)] [(.ref w2)])) _
    jvm_step X3.here [X3.here.top, hx, (hb hby d2_17), X3.method', Bd.returns, Value.isRef, FieldType.isReference]
    first | (intro acts; rw [hr _ acts rfl rfl rfl]) | rw [hr _ _ rfl rfl rfl]
    exact Steps.refl _
  · show (own_ret (.ref w2) n0 h0) _ T3.heap _
    rw [e3]
    exact ⟨rfl, N0, rfl⟩
theorem d2_18 : decode method_3_code 18 = .ok (.iload_n 0, 1) := by decide +kernel
theorem d2_19 : decode method_3_code 19 = .ok (.iconst 3, 1) := by decide +kernel
theorem d2_20 : decode method_3_code 20 = .ok (.if_icmp .ne 7, 3) := by decide +kernel
theorem d2_23 : decode method_3_code 23 = .ok (.getstatic 29, 3) := by decide +kernel
theorem d2_26 : decode method_3_code 26 = .ok (.areturn, 1) := by decide +kernel
set_option maxRecDepth 65536 in
set_option maxHeartbeats 40000000 in
theorem own_rf_3 (l : Launch) (Z : State) (a0 : Array Value) (hw : ∀ d ∈ tables_1, d.before a0 Z = true) (ws : List Jvm.Cond) (p1 : Int32) (w2 : Addr) (h0 : Heap) (n0 : Nat) (Z0 : n0 ≤ h0.size) (S_SET_KEYSPACE : Sta Z h0 "com/example/wireloom/wireloom/cql/ResultKind" "SET_KEYSPACE" "Lcom/example/wireloom/wireloom/cql/ResultKind;" (.ref w2)) (hc2 : ¬ (p1 = (1 : Int32))) (hc11 : ¬ (p1 = (2 : Int32))) (hc20 : p1 = (3 : Int32)) :
    MetFree l (⟨"com/example/wireloom/wireloom/cql/ResultKindForCodePinLaw", "reference", "(I)Lcom/example/wireloom/wireloom/cql/ResultKind;"⟩ : MethodName) (head1 (Jvm.Cond.code (⟨"com/example/wireloom/wireloom/cql/ResultKindForCodePinLaw", "reference", "(I)Lcom/example/wireloom/wireloom/cql/ResultKind;"⟩ : MethodName) method_3_code 1 (some (.object "com/example/wireloom/wireloom/cql/ResultKind")) :: ws) ({ frames := 0, cells := 0, slots := 0, locals := 0 } : Room)) (fun a U => a = #[(.int p1)] ∧ Z.Warmed39 U.vm ∧ U.heap = h0) (fun _ _ _ _ _ => True) (fun _ U o U' => ∃ v L, o = .returned v ∧ (own_ret (.ref w2) n0 h0) v U'.heap L ∧ FrameEnd U o U' L ({ frames := 0, cells := 0, slots := 0, locals := 0 } : Room).cells ({ frames := 0, cells := 0, slots := 0, locals := 0 } : Room).slots) := by
  refine MetFree.of_bodySF (plainFor_of_name pn_2) hisR ?_
  intro p e s m args below meth c s₁ Bd hml0 hP hK
  obtain ⟨rfl, hZ, hh⟩ := hP
  have hx := Bd.exec
  have hby := Bd.bytes
  have hml : c.maxLocals = 1 := hml0
  have hown : s.vm.findClass "com/example/wireloom/wireloom/cql/ResultKindForCodePinLaw" = some m.cls := findClass_of_methodNamed Bd.named
  have hnm := (name_of_methodNamed Bd.named Bd.method).1
  have X0 : Stand p l e ({ frames := 0, cells := 0, slots := 0, locals := 0 } : Room) s m #[(.int p1)] below meth c s₁ [] 0 0 := Stand.of_body Bd
  have e0 : s₁.heap = h0 := by rw [← hh, Bd.state]; rfl
  have N0 := Fr.nil n0
  have pre0 : ∀ t, Steps p.tables e below (s₁.setTop (mkF m 0 #[.val (.int p1)] [])) t → Steps p.tables e below (s₁.setTop (entryFrame m #[(.int p1)] 1)) t := fun t k => castTop (ef_2 m p1) k
  obtain ⟨T3, X3, e3, st3⟩ := getS2 X0 hx hZ hown (host := "") (Or.inl (hw _ (List.mem_of_getElem? (i := 27) rfl))) Via.refl e0 S_SET_KEYSPACE (g := (mkF m 23 #[.val (.int p1)] [])) rfl (hb hby d2_23)
  obtain ⟨fs, hr, hrun, hended, hW, hsame⟩ := X3.leave (v := some (.ref w2)) (fun h => by rw [Bd.returns] at h; cases h)
  refine ⟨_, _, pre0 _ ?_, hrun, hended, _, _, rfl, ?_, ⟨_, rfl⟩, hW, hsame.mono (by decide) (by decide)⟩
  · show Steps p.tables e below (s₁.setTop (mkF m 0 #[.val (.int p1)] [])) _
    refine XS.iloadN X0.here hx rfl (hb hby d2_0) rfl ?_
    show Steps p.tables e below (s₁.setTop (mkF m 1 #[.val (.int p1)] [(.int p1)])) _
    refine XS.iconst X0.here hx rfl (hb hby d2_1) ?_
    show Steps p.tables e below (s₁.setTop (mkF m 2 #[.val (.int p1)] [(.int (1 : Int32)), (.int p1)])) _
    refine XS.icmpYes X0.here hx rfl (pc0 := 2) (pc' := 9) rfl (hb hby d2_2) rfl (feq hc2).2 (by decide) (by decide) ?_
    show Steps p.tables e below (s₁.setTop (mkF m 9 #[.val (.int p1)] [])) _
    refine XS.iloadN X0.here hx rfl (hb hby d2_9) rfl ?_
    show Steps p.tables e below (s₁.setTop (mkF m 10 #[.val (.int p1)] [(.int p1)])) _
    refine XS.iconst X0.here hx rfl (hb hby d2_10) ?_
    show Steps p.tables e below (s₁.setTop (mkF m 11 #[.val (.int p1)] [(.int (2 : Int32)), (.int p1)])) _
    refine XS.icmpYes X0.here hx rfl (pc0 := 11) (pc' := 18) rfl (hb hby d2_11) rfl (feq hc11).2 (by decide) (by decide) ?_
    show Steps p.tables e below (s₁.setTop (mkF m 18 #[.val (.int p1)] [])) _
    refine XS.iloadN X0.here hx rfl (hb hby d2_18) rfl ?_
    show Steps p.tables e below (s₁.setTop (mkF m 19 #[.val (.int p1)] [(.int p1)])) _
    refine XS.iconst X0.here hx rfl (hb hby d2_19) ?_
    show Steps p.tables e below (s₁.setTop (mkF m 20 #[.val (.int p1)] [(.int (3 : Int32)), (.int p1)])) _
    refine XS.icmpNo X0.here hx rfl (hb hby d2_20) rfl (teq hc20).2 ?_
    show Steps p.tables e below (s₁.setTop (mkF m 23 #[.val (.int p1)] [])) _
    refine st3 _ ?_
    show Steps p.tables e below (T3.setTop (mkF m 26 #[.val (.int p1)] [(.ref w2)])) _
    jvm_step X3.here [X3.here.top, hx, (hb hby d2_26), X3.method', Bd.returns, Value.isRef, FieldType.isReference]
    first | (intro acts; rw [hr _ acts rfl rfl rfl]) | rw [hr _ _ rfl rfl rfl]
    exact Steps.refl _
  · show (own_ret (.ref w2) n0 h0) _ T3.heap _
    rw [e3]
    exact ⟨rfl, N0, rfl⟩
theorem d2_27 : decode method_3_code 27 = .ok (.iload_n 0, 1) := by decide +kernel
theorem d2_28 : decode method_3_code 28 = .ok (.iconst 4, 1) := by decide +kernel
theorem d2_29 : decode method_3_code 29 = .ok (.if_icmp .ne 7, 3) := by decide +kernel
theorem d2_32 : decode method_3_code 32 = .ok (.getstatic 32, 3) := by decide +kernel
theorem d2_35 : decode method_3_code 35 = .ok (.areturn, 1) := by decide +kernel
set_option maxRecDepth 65536 in
set_option maxHeartbeats 40000000 in
theorem own_rf_4 (l : Launch) (Z : State) (a0 : Array Value) (hw : ∀ d ∈ tables_1, d.before a0 Z = true) (ws : List Jvm.Cond) (p1 : Int32) (w2 : Addr) (h0 : Heap) (n0 : Nat) (Z0 : n0 ≤ h0.size) (S_PREPARED : Sta Z h0 "com/example/wireloom/wireloom/cql/ResultKind" "PREPARED" "Lcom/example/wireloom/wireloom/cql/ResultKind;" (.ref w2)) (hc2 : ¬ (p1 = (1 : Int32))) (hc11 : ¬ (p1 = (2 : Int32))) (hc20 : ¬ (p1 = (3 : Int32))) (hc29 : p1 = (4 : Int32)) :
    MetFree l (⟨"com/example/wireloom/wireloom/cql/ResultKindForCodePinLaw", "reference", "(I)Lcom/example/wireloom/wireloom/cql/ResultKind;"⟩ : MethodName) (head1 (Jvm.Cond.code (⟨"com/example/wireloom/wireloom/cql/ResultKindForCodePinLaw", "reference", "(I)Lcom/example/wireloom/wireloom/cql/ResultKind;"⟩ : MethodName) method_3_code 1 (some (.object "com/example/wireloom/wireloom/cql/ResultKind")) :: ws) ({ frames := 0, cells := 0, slots := 0, locals := 0 } : Room)) (fun a U => a = #[(.int p1)] ∧ Z.Warmed39 U.vm ∧ U.heap = h0) (fun _ _ _ _ _ => True) (fun _ U o U' => ∃ v L, o = .returned v ∧ (own_ret (.ref w2) n0 h0) v U'.heap L ∧ FrameEnd U o U' L ({ frames := 0, cells := 0, slots := 0, locals := 0 } : Room).cells ({ frames := 0, cells := 0, slots := 0, locals := 0 } : Room).slots) := by
  refine MetFree.of_bodySF (plainFor_of_name pn_2) hisR ?_
  intro p e s m args below meth c s₁ Bd hml0 hP hK
  obtain ⟨rfl, hZ, hh⟩ := hP
  have hx := Bd.exec
  have hby := Bd.bytes
  have hml : c.maxLocals = 1 := hml0
  have hown : s.vm.findClass "com/example/wireloom/wireloom/cql/ResultKindForCodePinLaw" = some m.cls := findClass_of_methodNamed Bd.named
  have hnm := (name_of_methodNamed Bd.named Bd.method).1
  have X0 : Stand p l e ({ frames := 0, cells := 0, slots := 0, locals := 0 } : Room) s m #[(.int p1)] below meth c s₁ [] 0 0 := Stand.of_body Bd
  have e0 : s₁.heap = h0 := by rw [← hh, Bd.state]; rfl
  have N0 := Fr.nil n0
  have pre0 : ∀ t, Steps p.tables e below (s₁.setTop (mkF m 0 #[.val (.int p1)] [])) t → Steps p.tables e below (s₁.setTop (entryFrame m #[(.int p1)] 1)) t := fun t k => castTop (ef_2 m p1) k
  obtain ⟨T3, X3, e3, st3⟩ := getS2 X0 hx hZ hown (host := "") (Or.inl (hw _ (List.mem_of_getElem? (i := 29) rfl))) Via.refl e0 S_PREPARED (g := (mkF m 32 #[.val (.int p1)] [])) rfl (hb hby d2_32)
  obtain ⟨fs, hr, hrun, hended, hW, hsame⟩ := X3.leave (v := some (.ref w2)) (fun h => by rw [Bd.returns] at h; cases h)
  refine ⟨_, _, pre0 _ ?_, hrun, hended, _, _, rfl, ?_, ⟨_, rfl⟩, hW, hsame.mono (by decide) (by decide)⟩
  · show Steps p.tables e below (s₁.setTop (mkF m 0 #[.val (.int p1)] [])) _
    refine XS.iloadN X0.here hx rfl (hb hby d2_0) rfl ?_
    show Steps p.tables e below (s₁.setTop (mkF m 1 #[.val (.int p1)] [(.int p1)])) _
    refine XS.iconst X0.here hx rfl (hb hby d2_1) ?_
    show Steps p.tables e below (s₁.setTop (mkF m 2 #[.val (.int p1)] [(.int (1 : Int32)), (.int p1)])) _
    refine XS.icmpYes X0.here hx rfl (pc0 := 2) (pc' := 9) rfl (hb hby d2_2) rfl (feq hc2).2 (by decide) (by decide) ?_
    show Steps p.tables e below (s₁.setTop (mkF m 9 #[.val (.int p1)] [])) _
    refine XS.iloadN X0.here hx rfl (hb hby d2_9) rfl ?_
    show Steps p.tables e below (s₁.setTop (mkF m 10 #[.val (.int p1)] [(.int p1)])) _
    refine XS.iconst X0.here hx rfl (hb hby d2_10) ?_
    show Steps p.tables e below (s₁.setTop (mkF m 11 #[.val (.int p1)] [(.int (2 : Int32)), (.int p1)])) _
    refine XS.icmpYes X0.here hx rfl (pc0 := 11) (pc' := 18) rfl (hb hby d2_11) rfl (feq hc11).2 (by decide) (by decide) ?_
    show Steps p.tables e below (s₁.setTop (mkF m 18 #[.val (.int p1)] [])) _
    refine XS.iloadN X0.here hx rfl (hb hby d2_18) rfl ?_
    show Steps p.tables e below (s₁.setTop (mkF m 19 #[.val (.int p1)] [(.int p1)])) _
    refine XS.iconst X0.here hx rfl (hb hby d2_19) ?_
    show Steps p.tables e below (s₁.setTop (mkF m 20 #[.val (.int p1)] [(.int (3 : Int32)), (.int p1)])) _
    refine XS.icmpYes X0.here hx rfl (pc0 := 20) (pc' := 27) rfl (hb hby d2_20) rfl (feq hc20).2 (by decide) (by decide) ?_
    show Steps p.tables e below (s₁.setTop (mkF m 27 #[.val (.int p1)] [])) _
    refine XS.iloadN X0.here hx rfl (hb hby d2_27) rfl ?_
    show Steps p.tables e below (s₁.setTop (mkF m 28 #[.val (.int p1)] [(.int p1)])) _
    refine XS.iconst X0.here hx rfl (hb hby d2_28) ?_
    show Steps p.tables e below (s₁.setTop (mkF m 29 #[.val (.int p1)] [(.int (4 : Int32)), (.int p1)])) _
    refine XS.icmpNo X0.here hx rfl (hb hby d2_29) rfl (teq hc29).2 ?_
    show Steps p.tables e below (s₁.setTop (mkF m 32 #[.val (.int p1)] [])) _
    refine st3 _ ?_
    show Steps p.tables e below (T3.setTop (mkF m 35 #[.val (.int p1)] [(.ref w2)])) _
    jvm_step X3.here [X3.here.top, hx, (hb hby d2_35), X3.method', Bd.returns, Value.isRef, FieldType.isReference]
    first | (intro acts; rw [hr _ acts rfl rfl rfl]) | rw [hr _ _ rfl rfl rfl]
    exact Steps.refl _
  · show (own_ret (.ref w2) n0 h0) _ T3.heap _
    rw [e3]
    exact ⟨rfl, N0, rfl⟩
theorem d2_36 : decode method_3_code 36 = .ok (.iload_n 0, 1) := by decide +kernel
theorem d2_37 : decode method_3_code 37 = .ok (.iconst 5, 1) := by decide +kernel
theorem d2_38 : decode method_3_code 38 = .ok (.if_icmp .ne 7, 3) := by decide +kernel
theorem d2_41 : decode method_3_code 41 = .ok (.getstatic 35, 3) := by decide +kernel
theorem d2_44 : decode method_3_code 44 = .ok (.areturn, 1) := by decide +kernel
set_option maxRecDepth 65536 in
set_option maxHeartbeats 40000000 in
theorem own_rf_5 (l : Launch) (Z : State) (a0 : Array Value) (hw : ∀ d ∈ tables_1, d.before a0 Z = true) (ws : List Jvm.Cond) (p1 : Int32) (w2 : Addr) (h0 : Heap) (n0 : Nat) (Z0 : n0 ≤ h0.size) (S_SCHEMA_CHANGE : Sta Z h0 "com/example/wireloom/wireloom/cql/ResultKind" "SCHEMA_CHANGE" "Lcom/example/wireloom/wireloom/cql/ResultKind;" (.ref w2)) (hc2 : ¬ (p1 = (1 : Int32))) (hc11 : ¬ (p1 = (2 : Int32))) (hc20 : ¬ (p1 = (3 : Int32))) (hc29 : ¬ (p1 = (4 : Int32))) (hc38 : p1 = (5 : Int32)) :
    MetFree l (⟨"com/example/wireloom/wireloom/cql/ResultKindForCodePinLaw", "reference", "(I)Lcom/example/wireloom/wireloom/cql/ResultKind;"⟩ : MethodName) (head1 (Jvm.Cond.code (⟨"com/example/wireloom/wireloom/cql/ResultKindForCodePinLaw", "reference", "(I)Lcom/example/wireloom/wireloom/cql/ResultKind;"⟩ : MethodName) method_3_code 1 (some (.object "com/example/wireloom/wireloom/cql/ResultKind")) :: ws) ({ frames := 0, cells := 0, slots := 0, locals := 0 } : Room)) (fun a U => a = #[(.int p1)] ∧ Z.Warmed39 U.vm ∧ U.heap = h0) (fun _ _ _ _ _ => True) (fun _ U o U' => ∃ v L, o = .returned v ∧ (own_ret (.ref w2) n0 h0) v U'.heap L ∧ FrameEnd U o U' L ({ frames := 0, cells := 0, slots := 0, locals := 0 } : Room).cells ({ frames := 0, cells := 0, slots := 0, locals := 0 } : Room).slots) := by
  refine MetFree.of_bodySF (plainFor_of_name pn_2) hisR ?_
  intro p e s m args below meth c s₁ Bd hml0 hP hK
  obtain ⟨rfl, hZ, hh⟩ := hP
  have hx := Bd.exec
  have hby := Bd.bytes
  have hml : c.maxLocals = 1 := hml0
  have hown : s.vm.findClass "com/example/wireloom/wireloom/cql/ResultKindForCodePinLaw" = some m.cls := findClass_of_methodNamed Bd.named
  have hnm := (name_of_methodNamed Bd.named Bd.method).1
  have X0 : Stand p l e ({ frames := 0, cells := 0, slots := 0, locals := 0 } : Room) s m #[(.int p1)] below meth c s₁ [] 0 0 := Stand.of_body Bd
  have e0 : s₁.heap = h0 := by rw [← hh, Bd.state]; rfl
  have N0 := Fr.nil n0
  have pre0 : ∀ t, Steps p.tables e below (s₁.setTop (mkF m 0 #[.val (.int p1)] [])) t → Steps p.tables e below (s₁.setTop (entryFrame m #[(.int p1)] 1)) t := fun t k => castTop (ef_2 m p1) k
  obtain ⟨T3, X3, e3, st3⟩ := getS2 X0 hx hZ hown (host := "") (Or.inl (hw _ (List.mem_of_getElem? (i := 11) rfl))) Via.refl e0 S_SCHEMA_CHANGE (g := (mkF m 41 #[.val (.int p1)] [])) rfl (hb hby d2_41)
  obtain ⟨fs, hr, hrun, hended, hW, hsame⟩ := X3.leave (v := some (.ref w2)) (fun h => by rw [Bd.returns] at h; cases h)
  refine ⟨_, _, pre0 _ ?_, hrun, hended, _, _, rfl, ?_, ⟨_, rfl⟩, hW, hsame.mono (by decide) (by decide)⟩
  · show Steps p.tables e below (s₁.setTop (mkF m 0 #[.val (.int p1)] [])) _
    refine XS.iloadN X0.here hx rfl (hb hby d2_0) rfl ?_
    show Steps p.tables e below (s₁.setTop (mkF m 1 #[.val (.int p1)] [(.int p1)])) _
    refine XS.iconst X0.here hx rfl (hb hby d2_1) ?_
    show Steps p.tables e below (s₁.setTop (mkF m 2 #[.val (.int p1)] [(.int (1 : Int32)), (.int p1)])) _
    refine XS.icmpYes X0.here hx rfl (pc0 := 2) (pc' := 9) rfl (hb hby d2_2) rfl (feq hc2).2 (by decide) (by decide) ?_
    show Steps p.tables e below (s₁.setTop (mkF m 9 #[.val (.int p1)] [])) _
    refine XS.iloadN X0.here hx rfl (hb hby d2_9) rfl ?_
    show Steps p.tables e below (s₁.setTop (mkF m 10 #[.val (.int p1)] [(.int p1)])) _
    refine XS.iconst X0.here hx rfl (hb hby d2_10) ?_
    show Steps p.tables e below (s₁.setTop (mkF m 11 #[.val (.int p1)] [(.int (2 : Int32)), (.int p1)])) _
    refine XS.icmpYes X0.here hx rfl (pc0 := 11) (pc' := 18) rfl (hb hby d2_11) rfl (feq hc11).2 (by decide) (by decide) ?_
    show Steps p.tables e below (s₁.setTop (mkF m 18 #[.val (.int p1)] [])) _
    refine XS.iloadN X0.here hx rfl (hb hby d2_18) rfl ?_
    show Steps p.tables e below (s₁.setTop (mkF m 19 #[.val (.int p1)] [(.int p1)])) _
    refine XS.iconst X0.here hx rfl (hb hby d2_19) ?_
    show Steps p.tables e below (s₁.setTop (mkF m 20 #[.val (.int p1)] [(.int (3 : Int32)), (.int p1)])) _
    refine XS.icmpYes X0.here hx rfl (pc0 := 20) (pc' := 27) rfl (hb hby d2_20) rfl (feq hc20).2 (by decide) (by decide) ?_
    show Steps p.tables e below (s₁.setTop (mkF m 27 #[.val (.int p1)] [])) _
    refine XS.iloadN X0.here hx rfl (hb hby d2_27) rfl ?_
    show Steps p.tables e below (s₁.setTop (mkF m 28 #[.val (.int p1)] [(.int p1)])) _
    refine XS.iconst X0.here hx rfl (hb hby d2_28) ?_
    show Steps p.tables e below (s₁.setTop (mkF m 29 #[.val (.int p1)] [(.int (4 : Int32)), (.int p1)])) _
    refine XS.icmpYes X0.here hx rfl (pc0 := 29) (pc' := 36) rfl (hb hby d2_29) rfl (feq hc29).2 (by decide) (by decide) ?_
    show Steps p.tables e below (s₁.setTop (mkF m 36 #[.val (.int p1)] [])) _
    refine XS.iloadN X0.here hx rfl (hb hby d2_36) rfl ?_
    show Steps p.tables e below (s₁.setTop (mkF m 37 #[.val (.int p1)] [(.int p1)])) _
    refine XS.iconst X0.here hx rfl (hb hby d2_37) ?_
    show Steps p.tables e below (s₁.setTop (mkF m 38 #[.val (.int p1)] [(.int (5 : Int32)), (.int p1)])) _
    refine XS.icmpNo X0.here hx rfl (hb hby d2_38) rfl (teq hc38).2 ?_
    show Steps p.tables e below (s₁.setTop (mkF m 41 #[.val (.int p1)] [])) _
    refine st3 _ ?_
    show Steps p.tables e below (T3.setTop (mkF m 44 #[.val (.int p1)] [(.ref w2)])) _
    jvm_step X3.here [X3.here.top, hx, (hb hby d2_44), X3.method', Bd.returns, Value.isRef, FieldType.isReference]
    first | (intro acts; rw [hr _ acts rfl rfl rfl]) | rw [hr _ _ rfl rfl rfl]
    exact Steps.refl _
  · show (own_ret (.ref w2) n0 h0) _ T3.heap _
    rw [e3]
    exact ⟨rfl, N0, rfl⟩
theorem d2_45 : decode method_3_code 45 = .ok (.aconst_null, 1) := by decide +kernel
theorem d2_46 : decode method_3_code 46 = .ok (.areturn, 1) := by decide +kernel
set_option maxRecDepth 65536 in
set_option maxHeartbeats 40000000 in
theorem own_rf_no (l : Launch) (Z : State) (a0 : Array Value) (hw : ∀ d ∈ tables_1, d.before a0 Z = true) (ws : List Jvm.Cond) (p1 : Int32) (h0 : Heap) (n0 : Nat) (Z0 : n0 ≤ h0.size) (hc2 : ¬ (p1 = (1 : Int32))) (hc11 : ¬ (p1 = (2 : Int32))) (hc20 : ¬ (p1 = (3 : Int32))) (hc29 : ¬ (p1 = (4 : Int32))) (hc38 : ¬ (p1 = (5 : Int32))) :
    MetFree l (⟨"com/example/wireloom/wireloom/cql/ResultKindForCodePinLaw", "reference", "(I)Lcom/example/wireloom/wireloom/cql/ResultKind;"⟩ : MethodName) (head1 (Jvm.Cond.code (⟨"com/example/wireloom/wireloom/cql/ResultKindForCodePinLaw", "reference", "(I)Lcom/example/wireloom/wireloom/cql/ResultKind;"⟩ : MethodName) method_3_code 1 (some (.object "com/example/wireloom/wireloom/cql/ResultKind")) :: ws) ({ frames := 0, cells := 0, slots := 0, locals := 0 } : Room)) (fun a U => a = #[(.int p1)] ∧ Z.Warmed39 U.vm ∧ U.heap = h0) (fun _ _ _ _ _ => True) (fun _ U o U' => ∃ v L, o = .returned v ∧ (own_ret .null n0 h0) v U'.heap L ∧ FrameEnd U o U' L ({ frames := 0, cells := 0, slots := 0, locals := 0 } : Room).cells ({ frames := 0, cells := 0, slots := 0, locals := 0 } : Room).slots) := by
  refine MetFree.of_bodySF (plainFor_of_name pn_2) hisR ?_
  intro p e s m args below meth c s₁ Bd hml0 hP hK
  obtain ⟨rfl, hZ, hh⟩ := hP
  have hx := Bd.exec
  have hby := Bd.bytes
  have hml : c.maxLocals = 1 := hml0
  have hown : s.vm.findClass "com/example/wireloom/wireloom/cql/ResultKindForCodePinLaw" = some m.cls := findClass_of_methodNamed Bd.named
  have hnm := (name_of_methodNamed Bd.named Bd.method).1
  have X0 : Stand p l e ({ frames := 0, cells := 0, slots := 0, locals := 0 } : Room) s m #[(.int p1)] below meth c s₁ [] 0 0 := Stand.of_body Bd
  have e0 : s₁.heap = h0 := by rw [← hh, Bd.state]; rfl
  have N0 := Fr.nil n0
  have pre0 : ∀ t, Steps p.tables e below (s₁.setTop (mkF m 0 #[.val (.int p1)] [])) t → Steps p.tables e below (s₁.setTop (entryFrame m #[(.int p1)] 1)) t := fun t k => castTop (ef_2 m p1) k
  obtain ⟨fs, hr, hrun, hended, hW, hsame⟩ := X0.leave (v := some .null) (fun h => by rw [Bd.returns] at h; cases h)
  refine ⟨_, _, pre0 _ ?_, hrun, hended, _, _, rfl, ?_, ⟨_, rfl⟩, hW, hsame.mono (by decide) (by decide)⟩
  · show Steps p.tables e below (s₁.setTop (mkF m 0 #[.val (.int p1)] [])) _
    refine XS.iloadN X0.here hx rfl (hb hby d2_0) rfl ?_
    show Steps p.tables e below (s₁.setTop (mkF m 1 #[.val (.int p1)] [(.int p1)])) _
    refine XS.iconst X0.here hx rfl (hb hby d2_1) ?_
    show Steps p.tables e below (s₁.setTop (mkF m 2 #[.val (.int p1)] [(.int (1 : Int32)), (.int p1)])) _
    refine XS.icmpYes X0.here hx rfl (pc0 := 2) (pc' := 9) rfl (hb hby d2_2) rfl (feq hc2).2 (by decide) (by decide) ?_
    show Steps p.tables e below (s₁.setTop (mkF m 9 #[.val (.int p1)] [])) _
    refine XS.iloadN X0.here hx rfl (hb hby d2_9) rfl ?_
    show Steps p.tables e below (s₁.setTop (mkF m 10 #[.val (.int p1)] [(.int p1)])) _
    refine XS.iconst X0.here hx rfl (hb hby d2_10) ?_
    show Steps p.tables e below (s₁.setTop (mkF m 11 #[.val (.int p1)] [(.int (2 : Int32)), (.int p1)])) _
    refine XS.icmpYes X0.here hx rfl (pc0 := 11) (pc' := 18) rfl (hb hby d2_11) rfl (feq hc11).2 (by decide) (by decide) ?_
    show Steps p.tables e below (s₁.setTop (mkF m 18 #[.val (.int p1)] [])) _
    refine XS.iloadN X0.here hx rfl (hb hby d2_18) rfl ?_
    show Steps p.tables e below (s₁.setTop (mkF m 19 #[.val (.int p1)] [(.int p1)])) _
    refine XS.iconst X0.here hx rfl (hb hby d2_19) ?_
    show Steps p.tables e below (s₁.setTop (mkF m 20 #[.val (.int p1)] [(.int (3 : Int32)), (.int p1)])) _
    refine XS.icmpYes X0.here hx rfl (pc0 := 20) (pc' := 27) rfl (hb hby d2_20) rfl (feq hc20).2 (by decide) (by decide) ?_
    show Steps p.tables e below (s₁.setTop (mkF m 27 #[.val (.int p1)] [])) _
    refine XS.iloadN X0.here hx rfl (hb hby d2_27) rfl ?_
    show Steps p.tables e below (s₁.setTop (mkF m 28 #[.val (.int p1)] [(.int p1)])) _
    refine XS.iconst X0.here hx rfl (hb hby d2_28) ?_
    show Steps p.tables e below (s₁.setTop (mkF m 29 #[.val (.int p1)] [(.int (4 : Int32)), (.int p1)])) _
    refine XS.icmpYes X0.here hx rfl (pc0 := 29) (pc' := 36) rfl (hb hby d2_29) rfl (feq hc29).2 (by decide) (by decide) ?_
    show Steps p.tables e below (s₁.setTop (mkF m 36 #[.val (.int p1)] [])) _
    refine XS.iloadN X0.here hx rfl (hb hby d2_36) rfl ?_
    show Steps p.tables e below (s₁.setTop (mkF m 37 #[.val (.int p1)] [(.int p1)])) _
    refine XS.iconst X0.here hx rfl (hb hby d2_37) ?_
    show Steps p.tables e below (s₁.setTop (mkF m 38 #[.val (.int p1)] [(.int (5 : Int32)), (.int p1)])) _
    refine XS.icmpYes X0.here hx rfl (pc0 := 38) (pc' := 45) rfl (hb hby d2_38) rfl (feq hc38).2 (by decide) (by decide) ?_
    show Steps p.tables e below (s₁.setTop (mkF m 45 #[.val (.int p1)] [])) _
    refine XS.aconstNull X0.here hx rfl (hb hby d2_45) ?_
    show Steps p.tables e below (s₁.setTop (mkF m 46 #[.val (.int p1)] [.null])) _
    jvm_step X0.here [X0.here.top, hx, (hb hby d2_46), X0.method', Bd.returns, Value.isRef, FieldType.isReference]
    first | (intro acts; rw [hr _ acts rfl rfl rfl]) | rw [hr _ _ rfl rfl rfl]
    exact Steps.refl _
  · show (own_ret .null n0 h0) _ s₁.heap _
    rw [e0]
    exact ⟨rfl, N0, rfl⟩
theorem d4_0 : decode jdk_37_method_2_code 0 = .ok (.aload_n 0, 1) := by decide +kernel
theorem d4_1 : decode jdk_37_method_2_code 1 = .ok (.getfield 7, 3) := by decide +kernel
theorem d4_4 : decode jdk_37_method_2_code 4 = .ok (.ireturn, 1) := by decide +kernel
theorem pn_4 : plainName "java/lang/Enum" = true := by first | (simp [plainName, overriddenIn]; done) | decide +kernel
theorem ef_4 (m : MethodId) (x0 : Addr) : entryFrame m #[(.ref x0)] 1 = mkF m 0 #[.val (.ref x0)] [] := by first | (simp [entryFrame, mkF, argsToLocals, Value.category]; done) | rfl
set_option maxRecDepth 65536 in
set_option maxHeartbeats 40000000 in
theorem own_ord (l : Launch) (Z : State) (a0 : Array Value) (hw : ∀ d ∈ tables_1, d.before a0 Z = true) (ws : List Jvm.Cond) (a1 : Addr) (w2 : Int32) (h0 : Heap) (n0 : Nat) (Z0 : n0 ≤ h0.size) (F_ordinal_a1 : Fld Z h0 a1 "java/lang/Enum" "ordinal" "I" (.int w2)) :
    MetFree l (⟨"java/lang/Enum", "ordinal", "()I"⟩ : MethodName) (head1 (Jvm.Cond.code (⟨"java/lang/Enum", "ordinal", "()I"⟩ : MethodName) jdk_37_method_2_code 1 (some .int) :: ws) ({ frames := 0, cells := 0, slots := 0, locals := 0 } : Room)) (fun a U => a = #[(.ref a1)] ∧ Z.Warmed39 U.vm ∧ U.heap = h0) (fun _ _ _ _ _ => True) (fun _ U o U' => ∃ v L, o = .returned v ∧ (own_ret (.int w2) n0 h0) v U'.heap L ∧ FrameEnd U o U' L ({ frames := 0, cells := 0, slots := 0, locals := 0 } : Room).cells ({ frames := 0, cells := 0, slots := 0, locals := 0 } : Room).slots) := by
  refine MetFree.of_bodySF (plainFor_of_name pn_4) hisR ?_
  intro p e s m args below meth c s₁ Bd hml0 hP hK
  obtain ⟨rfl, hZ, hh⟩ := hP
  have hx := Bd.exec
  have hby := Bd.bytes
  have hml : c.maxLocals = 1 := hml0
  have hown : s.vm.findClass "java/lang/Enum" = some m.cls := findClass_of_methodNamed Bd.named
  have hnm := (name_of_methodNamed Bd.named Bd.method).1
  have X0 : Stand p l e ({ frames := 0, cells := 0, slots := 0, locals := 0 } : Room) s m #[(.ref a1)] below meth c s₁ [] 0 0 := Stand.of_body Bd
  have e0 : s₁.heap = h0 := by rw [← hh, Bd.state]; rfl
  have N0 := Fr.nil n0
  have pre0 : ∀ t, Steps p.tables e below (s₁.setTop (mkF m 0 #[.val (.ref a1)] [])) t → Steps p.tables e below (s₁.setTop (entryFrame m #[(.ref a1)] 1)) t := fun t k => castTop (ef_4 m a1) k
  obtain ⟨T3, X3, e3, st3⟩ := getF X0 hx hZ hown (host := "") (Or.inl (hw _ (List.mem_of_getElem? (i := 24) rfl))) Via.refl e0 F_ordinal_a1 (g := (mkF m 1 #[.val (.ref a1)] [(.ref a1)])) rfl rfl (hb hby d4_1)
  obtain ⟨fs, hr, hrun, hended, hW, hsame⟩ := X3.leave (v := some (.int w2)) (fun h => by rw [Bd.returns] at h; cases h)
  refine ⟨_, _, pre0 _ ?_, hrun, hended, _, _, rfl, ?_, ⟨_, rfl⟩, hW, hsame.mono (by decide) (by decide)⟩
  · show Steps p.tables e below (s₁.setTop (mkF m 0 #[.val (.ref a1)] [])) _
    refine XS.aloadN X0.here hx rfl (hb hby d4_0) rfl rfl ?_
    show Steps p.tables e below (s₁.setTop (mkF m 1 #[.val (.ref a1)] [(.ref a1)])) _
    refine st3 _ ?_
    show Steps p.tables e below (T3.setTop (mkF m 4 #[.val (.ref a1)] [(.int w2)])) _
    exact retI X3 hx Bd.returns (hb hby d4_4) hr
  · show (own_ret (.int w2) n0 h0) _ T3.heap _
    rw [e3]
    exact ⟨rfl, N0, rfl⟩
theorem d3_0 : decode prog_118_method_5_code 0 = .ok (.aload_n 0, 1) := by decide +kernel
theorem d3_1 : decode prog_118_method_5_code 1 = .ok (.invokevirtual 41, 3) := by decide +kernel
theorem d3_4 : decode prog_118_method_5_code 4 = .ok (.iconst 1, 1) := by decide +kernel
theorem d3_5 : decode prog_118_method_5_code 5 = .ok (.iadd, 1) := by decide +kernel
theorem d3_6 : decode prog_118_method_5_code 6 = .ok (.ireturn, 1) := by decide +kernel
theorem pn_3 : plainName "com/example/wireloom/wireloom/cql/ResultKind" = true := by first | (simp [plainName, overriddenIn]; done) | decide +kernel
theorem pd_0x : parseMethodDescriptor "()I" = some ⟨[], some .int⟩ := by decide +kernel
theorem ef_3 (m : MethodId) (x0 : Addr) : entryFrame m #[(.ref x0)] 1 = mkF m 0 #[.val (.ref x0)] [] := by first | (simp [entryFrame, mkF, argsToLocals, Value.category]; done) | rfl
set_option maxRecDepth 65536 in
set_option maxHeartbeats 40000000 in
theorem own_code (l : Launch) (Z : State) (a0 : Array Value) (hw : ∀ d ∈ tables_1, d.before a0 Z = true) (ws : List Jvm.Cond) (a1 : Addr) (k : Int32) (h0 : Heap) (n0 : Nat) (Z0 : n0 ≤ h0.size) (E_a1 : Exa Z h0 a1 "com/example/wireloom/wireloom/cql/ResultKind") (F_a1 : Fld Z h0 a1 "java/lang/Enum" "ordinal" "I" (.int k)) :
    MetFree l (⟨"com/example/wireloom/wireloom/cql/ResultKind", "code", "()I"⟩ : MethodName) (head1 (Jvm.Cond.code (⟨"com/example/wireloom/wireloom/cql/ResultKind", "code", "()I"⟩ : MethodName) prog_118_method_5_code 1 (some .int) :: ws) ({ frames := 1, cells := 0, slots := 0, locals := 12 } : Room)) (fun a U => a = #[(.ref a1)] ∧ Z.Warmed39 U.vm ∧ U.heap = h0) (fun _ _ _ _ _ => True) (fun _ U o U' => ∃ v L, o = .returned v ∧ (own_ret (.int (k + 1)) n0 h0) v U'.heap L ∧ FrameEnd U o U' L ({ frames := 1, cells := 0, slots := 0, locals := 12 } : Room).cells ({ frames := 1, cells := 0, slots := 0, locals := 12 } : Room).slots) := by
  refine MetFree.of_bodySF (plainFor_of_name pn_3) hisR ?_
  intro p e s m args below meth c s₁ Bd hml0 hP hK
  obtain ⟨rfl, hZ, hh⟩ := hP
  have hx := Bd.exec
  have hby := Bd.bytes
  have hml : c.maxLocals = 1 := hml0
  have hown : s.vm.findClass "com/example/wireloom/wireloom/cql/ResultKind" = some m.cls := findClass_of_methodNamed Bd.named
  have hnm := (name_of_methodNamed Bd.named Bd.method).1
  have X0 : Stand p l e ({ frames := 1, cells := 0, slots := 0, locals := 12 } : Room) s m #[(.ref a1)] below meth c s₁ [] 0 0 := Stand.of_body Bd
  have e0 : s₁.heap = h0 := by rw [← hh, Bd.state]; rfl
  have N0 := Fr.nil n0
  have pre0 : ∀ t, Steps p.tables e below (s₁.setTop (mkF m 0 #[.val (.ref a1)] [])) t → Steps p.tables e below (s₁.setTop (entryFrame m #[(.ref a1)] 1)) t := fun t k => castTop (ef_3 m a1) k
  obtain ⟨cq2, kq2, q2a, q2b, q2c⟩ := isOf hZ e0 E_a1
  obtain ⟨_, _, ⟨T2, L2, k2, n2⟩, -, X2, ⟨Lc2, hQ2, l2, y2, z2⟩, st2⟩ := X0.virtualBackUp hx (x := (⟨"com/example/wireloom/wireloom/cql/ResultKind", "ordinal", "()I"⟩ : MethodName)) (y := (⟨"java/lang/Enum", "ordinal", "()I"⟩ : MethodName)) (owner := "java/lang/Enum") hown (mvT hZ (hw _ (List.mem_of_getElem? (i := 17) rfl))) (mvT hZ (hw _ (List.mem_of_getElem? (i := 18) rfl))) (mvT hZ (hw _ (List.mem_of_getElem? (i := 19) rfl))) (by decide) (mvT hZ (hw _ (List.mem_of_getElem? (i := 21) rfl))) (mvT hZ (hw _ (List.mem_of_getElem? (i := 20) rfl))) (backOf (W := 0) (own_ord l Z a0 hw [] a1 k h0 n0 Z0 F_a1) hZ (hw _ (List.mem_of_getElem? (i := 23) rfl)) (hw _ (List.mem_of_getElem? (i := 22) rfl)) (by decide) (by decide)) q2a q2c (g := (mkF m 1 #[.val (.ref a1)] [(.ref a1)])) rfl (by rw [hml]; rfl) (Steps.refl _) (argsL := []) (rest := []) (lenOf pd_0x rfl) rfl (by show 2 * 0 + _ ≤ _; exact Nat.le_of_eq rfl) (hb hby d3_1) (fun _ _ => ⟨rfl, e0, (by decide : 0 + 0 ≤ _), (by decide : 0 + 0 ≤ _)⟩)
  dsimp only [Pt.U, Pt.locs, Pt.cells, Pt.slots] at X2 l2 y2 z2 st2 hQ2
  subst l2 y2 z2
  obtain ⟨rfl, N2q, e2q⟩ := hQ2
  have N2 := Fr.app N0 N2q
  obtain ⟨fs, hr, hrun, hended, hW, hsame⟩ := X2.leave (v := some (.int (k + (1 : Int32)))) (fun h => by rw [Bd.returns] at h; cases h)
  refine ⟨_, _, pre0 _ ?_, hrun, hended, _, _, rfl, ?_, ⟨_, rfl⟩, hW, hsame.mono (by decide) (by decide)⟩
  · show Steps p.tables e below (s₁.setTop (mkF m 0 #[.val (.ref a1)] [])) _
    refine XS.aloadN X0.here hx rfl (hb hby d3_0) rfl rfl ?_
    show Steps p.tables e below (s₁.setTop (mkF m 1 #[.val (.ref a1)] [(.ref a1)])) _
    refine st2.trans ?_
    show Steps p.tables e below (T2.setTop (mkF m 4 #[.val (.ref a1)] [(.int k)])) _
    refine XS.iconst X2.here hx rfl (hb hby d3_4) ?_
    show Steps p.tables e below (T2.setTop (mkF m 5 #[.val (.ref a1)] [(.int (1 : Int32)), (.int k)])) _
    refine XS.iadd X2.here hx rfl (hb hby d3_5) rfl ?_
    show Steps p.tables e below (T2.setTop (mkF m 6 #[.val (.ref a1)] [(.int (k + (1 : Int32)))])) _
    exact retI X2 hx Bd.returns (hb hby d3_6) hr
  · show (own_ret (.int (k + 1)) n0 h0) _ T2.heap _
    exact ⟨rfl, N2, e2q⟩
theorem pn_0 : plainName "com/example/wireloom/wireloom/cql/ResultKindForCodePinLaw" = true := by first | (simp [plainName, overriddenIn]; done) | decide +kernel
theorem pd_1x : parseMethodDescriptor "(I)Lcom/example/wireloom/wireloom/cql/ResultKind;" = some ⟨[.int], some (.object "com/example/wireloom/wireloom/cql/ResultKind")⟩ := by decide +kernel
theorem ef_0 (m : MethodId) (x0 : Int32) (x1 : Int32) : entryFrame m #[(.int x0), (.int x1)] maxLocals = mkF m 0 #[.val (.int x0), .val (.int x1), .unset, .unset, .unset] [] := by first | (simp [entryFrame, mkF, argsToLocals, Value.category, maxLocals]; done) | rfl
set_option maxRecDepth 65536 in
set_option maxHeartbeats 40000000 in
theorem own_law_t (l : Launch) (Z : State) (a0 : Array Value) (hw : ∀ d ∈ tables_1, d.before a0 Z = true) (ws : List Jvm.Cond) (p1 : Int32) (p2 : Int32) (ak : Addr) (k : Int32) (h0 : Heap) (n0 : Nat) (Z0 : n0 ≤ h0.size) (hc3 : (p2 &&& (1 : Int32)) = (0 : Int32)) (H1 : own_M l (⟨"com/example/wireloom/wireloom/cql/ResultKind", "forCode", "(I)Lcom/example/wireloom/wireloom/cql/ResultKind;"⟩ : MethodName) prog_118_method_4_code 1 (some (.object "com/example/wireloom/wireloom/cql/ResultKind")) ({ frames := 0, cells := 0, slots := 0, locals := 0 } : Room) Z #[.int ((p1 &&& (7 : Int32)) - (1 : Int32))] h0 (own_ret (.ref ak) n0 h0)) (H2 : own_M l (⟨"com/example/wireloom/wireloom/cql/ResultKindForCodePinLaw", "reference", "(I)Lcom/example/wireloom/wireloom/cql/ResultKind;"⟩ : MethodName) method_3_code 1 (some (.object "com/example/wireloom/wireloom/cql/ResultKind")) ({ frames := 0, cells := 0, slots := 0, locals := 0 } : Room) Z #[.int ((p1 &&& (7 : Int32)) - (1 : Int32))] h0 (own_ret (.ref ak) n0 h0)) (Ek : Exa Z h0 ak "com/example/wireloom/wireloom/cql/ResultKind") (Fk : Fld Z h0 ak "java/lang/Enum" "ordinal" "I" (.int k)) (hk : k + 1 = ((p1 &&& (7 : Int32)) - (1 : Int32))) :
    MetFree l x (head1 (Jvm.Cond.code x code maxLocals ret :: ws) room_1) (fun a U => a = #[(.int p1), (.int p2)] ∧ Z.Warmed39 U.vm ∧ U.heap = h0) (fun _ _ _ _ _ => True) (fun _ U o U' => ∃ v L, o = .returned v ∧ (own_one n0) v U'.heap L ∧ FrameEnd U o U' L room_1.cells room_1.slots) := by
  refine MetFree.of_bodySF (plainFor_of_name pn_0) hisR ?_
  intro p e s m args below meth c s₁ Bd hml0 hP hK
  obtain ⟨rfl, hZ, hh⟩ := hP
  have hx := Bd.exec
  have hby := Bd.bytes
  have hml : c.maxLocals = 5 := hml0
  have hown : s.vm.findClass "com/example/wireloom/wireloom/cql/ResultKindForCodePinLaw" = some m.cls := findClass_of_methodNamed Bd.named
  have hnm := (name_of_methodNamed Bd.named Bd.method).1
  have X0 : Stand p l e room_1 s m #[(.int p1), (.int p2)] below meth c s₁ [] 0 0 := Stand.of_body Bd
  have e0 : s₁.heap = h0 := by rw [← hh, Bd.state]; rfl
  have N0 := Fr.nil n0
  have pre0 : ∀ t, Steps p.tables e below (s₁.setTop (mkF m 0 #[.val (.int p1), .val (.int p2), .unset, .unset, .unset] [])) t → Steps p.tables e below (s₁.setTop (entryFrame m #[(.int p1), (.int p2)] maxLocals)) t := fun t k => castTop (ef_0 m p1 p2) k
  obtain ⟨_, _, ⟨T3, L3, k3, n3⟩, -, X3, ⟨Lc3, hQ3, l3, y3, z3⟩, st3⟩ := Jvm.LawKit.callS X0 hx (y := (⟨"com/example/wireloom/wireloom/cql/ResultKind", "forCode", "(I)Lcom/example/wireloom/wireloom/cql/ResultKind;"⟩ : MethodName)) hown (mvT hZ (hw _ (List.mem_of_getElem? (i := 0) rfl))) (mvT hZ (hw _ (List.mem_of_getElem? (i := 1) rfl))) (mvT hZ (hw _ (List.mem_of_getElem? (i := 2) rfl))) (mvT hZ (hw _ (List.mem_of_getElem? (i := 3) rfl))) (by decide) (backOf (W := 0) H1 hZ (hw _ (List.mem_of_getElem? (i := 3) rfl)) (hw _ (List.mem_of_getElem? (i := 2) rfl)) (by decide) (by decide)) (g := (mkF m 18 #[.val (.int p1), .val (.int p2), .val (.int ((p1 &&& (7 : Int32)) - (1 : Int32))), .unset, .unset] [(.int ((p1 &&& (7 : Int32)) - (1 : Int32)))])) rfl (by rw [hml]; rfl) (argsL := [(.int ((p1 &&& (7 : Int32)) - (1 : Int32)))]) (rest := []) (lenOf pd_1x rfl) rfl (by show 2 * 0 + _ ≤ _; exact Nat.le_of_eq rfl) (hb hby at_18) (fun _ _ => ⟨rfl, e0, (by decide : 0 + 0 ≤ _), (by decide : 0 + 0 ≤ _)⟩)
  dsimp only [Pt.U, Pt.locs, Pt.cells, Pt.slots] at X3 l3 y3 z3 st3 hQ3
  subst l3 y3 z3
  obtain ⟨rfl, N3q, e3q⟩ := hQ3
  have N3 := Fr.app N0 N3q
  obtain ⟨_, _, ⟨T4, L4, k4, n4⟩, -, X4, ⟨Lc4, hQ4, l4, y4, z4⟩, st4⟩ := Jvm.LawKit.callS X3 hx (y := (⟨"com/example/wireloom/wireloom/cql/ResultKindForCodePinLaw", "reference", "(I)Lcom/example/wireloom/wireloom/cql/ResultKind;"⟩ : MethodName)) hown (mvT hZ (hw _ (List.mem_of_getElem? (i := 4) rfl))) (mvT hZ (hw _ (List.mem_of_getElem? (i := 5) rfl))) (mvT hZ (hw _ (List.mem_of_getElem? (i := 6) rfl))) (mvT hZ (hw _ (List.mem_of_getElem? (i := 7) rfl))) (by decide) (backOf (W := 0) H2 hZ (hw _ (List.mem_of_getElem? (i := 7) rfl)) (hw _ (List.mem_of_getElem? (i := 6) rfl)) (by decide) (by decide)) (g := (mkF m 23 #[.val (.int p1), .val (.int p2), .val (.int ((p1 &&& (7 : Int32)) - (1 : Int32))), .val (.ref ak), .unset] [(.int ((p1 &&& (7 : Int32)) - (1 : Int32)))])) rfl (by rw [hml]; rfl) (argsL := [(.int ((p1 &&& (7 : Int32)) - (1 : Int32)))]) (rest := []) (lenOf pd_1x rfl) rfl (by show 2 * 0 + _ ≤ _; exact Nat.le_of_eq rfl) (hb hby at_23) (fun _ _ => ⟨rfl, e3q, (by decide : 0 + 0 ≤ _), (by decide : 0 + 0 ≤ _)⟩)
  dsimp only [Pt.U, Pt.locs, Pt.cells, Pt.slots] at X4 l4 y4 z4 st4 hQ4
  subst l4 y4 z4
  obtain ⟨rfl, N4q, e4q⟩ := hQ4
  have N4 := Fr.app N3 N4q
  obtain ⟨cq5, kq5, q5a, q5b, q5c⟩ := isOf hZ e4q Ek
  obtain ⟨_, _, ⟨T5, L5, k5, n5⟩, -, X5, ⟨Lc5, hQ5, l5, y5, z5⟩, st5⟩ := X4.virtualBack hx (y := (⟨"com/example/wireloom/wireloom/cql/ResultKind", "code", "()I"⟩ : MethodName)) (z := (⟨"com/example/wireloom/wireloom/cql/ResultKind", "code", "()I"⟩ : MethodName)) hown (mvT hZ (hw _ (List.mem_of_getElem? (i := 12) rfl))) (mvT hZ (hw _ (List.mem_of_getElem? (i := 13) rfl))) (notFace_of_selects (args := #[]) (mvT hZ (hw _ (List.mem_of_getElem? (i := 15) rfl)))) (mvT hZ (hw _ (List.mem_of_getElem? (i := 15) rfl))) (mvT hZ (hw _ (List.mem_of_getElem? (i := 14) rfl))) (by decide) (backOf (W := 0) (own_code l Z a0 hw [] ak k h0 n0 Z0 Ek Fk) hZ (hw _ (List.mem_of_getElem? (i := 16) rfl)) (hw _ (List.mem_of_getElem? (i := 2) rfl)) (by decide) (by decide)) q5a q5c (g := (mkF m 41 #[.val (.int p1), .val (.int p2), .val (.int ((p1 &&& (7 : Int32)) - (1 : Int32))), .val (.ref ak), .val (.ref ak)] [(.ref ak)])) rfl (by rw [hml]; rfl) (Steps.refl _) (argsL := []) (rest := []) (lenOf pd_0x rfl) rfl (by show 2 * 0 + _ ≤ _; exact Nat.le_of_eq rfl) (hb hby at_41) (fun _ _ => ⟨rfl, e4q, (by decide : 0 + 0 ≤ _), (by decide : 0 + 0 ≤ _)⟩)
  dsimp only [Pt.U, Pt.locs, Pt.cells, Pt.slots] at X5 l5 y5 z5 st5 hQ5
  subst l5 y5 z5
  obtain ⟨rfl, N5q, e5q⟩ := hQ5
  have N5 := Fr.app N4 N5q
  obtain ⟨fs, hr, hrun, hended, hW, hsame⟩ := X5.leave (v := some (.int (1 : Int32))) (fun h => by rw [Bd.returns] at h; cases h)
  refine ⟨_, _, pre0 _ ?_, hrun, hended, _, _, rfl, ?_, ⟨_, rfl⟩, hW, hsame.mono (by decide) (by decide)⟩
  · show Steps p.tables e below (s₁.setTop (mkF m 0 #[.val (.int p1), .val (.int p2), .unset, .unset, .unset] [])) _
    refine XS.iloadN X0.here hx rfl (hb hby at_0) rfl ?_
    show Steps p.tables e below (s₁.setTop (mkF m 1 #[.val (.int p1), .val (.int p2), .unset, .unset, .unset] [(.int p2)])) _
    refine XS.iconst X0.here hx rfl (hb hby at_1) ?_
    show Steps p.tables e below (s₁.setTop (mkF m 2 #[.val (.int p1), .val (.int p2), .unset, .unset, .unset] [(.int (1 : Int32)), (.int p2)])) _
    refine XS.iand X0.here hx rfl (hb hby at_2) rfl ?_
    show Steps p.tables e below (s₁.setTop (mkF m 3 #[.val (.int p1), .val (.int p2), .unset, .unset, .unset] [(.int (p2 &&& (1 : Int32)))])) _
    refine XS.ifYes X0.here hx rfl (pc0 := 3) (pc' := 10) rfl (hb hby at_3) rfl ((if0 _ _).trans (teq hc3).1) (by decide) (by decide) ?_
    show Steps p.tables e below (s₁.setTop (mkF m 10 #[.val (.int p1), .val (.int p2), .unset, .unset, .unset] [])) _
    refine XS.iloadN X0.here hx rfl (hb hby at_10) rfl ?_
    show Steps p.tables e below (s₁.setTop (mkF m 11 #[.val (.int p1), .val (.int p2), .unset, .unset, .unset] [(.int p1)])) _
    refine XS.bipush X0.here hx rfl (hb hby at_11) ?_
    show Steps p.tables e below (s₁.setTop (mkF m 13 #[.val (.int p1), .val (.int p2), .unset, .unset, .unset] [(.int (7 : Int32)), (.int p1)])) _
    refine XS.iand X0.here hx rfl (hb hby at_13) rfl ?_
    show Steps p.tables e below (s₁.setTop (mkF m 14 #[.val (.int p1), .val (.int p2), .unset, .unset, .unset] [(.int (p1 &&& (7 : Int32)))])) _
    refine XS.iconst X0.here hx rfl (hb hby at_14) ?_
    show Steps p.tables e below (s₁.setTop (mkF m 15 #[.val (.int p1), .val (.int p2), .unset, .unset, .unset] [(.int (1 : Int32)), (.int (p1 &&& (7 : Int32)))])) _
    refine XS.isub X0.here hx rfl (hb hby at_15) rfl ?_
    show Steps p.tables e below (s₁.setTop (mkF m 16 #[.val (.int p1), .val (.int p2), .unset, .unset, .unset] [(.int ((p1 &&& (7 : Int32)) - (1 : Int32)))])) _
    refine XS.istoreN X0.here hx rfl (hb hby at_16) rfl (l' := #[.val (.int p1), .val (.int p2), .val (.int ((p1 &&& (7 : Int32)) - (1 : Int32))), .unset, .unset]) rfl ?_
    show Steps p.tables e below (s₁.setTop (mkF m 17 #[.val (.int p1), .val (.int p2), .val (.int ((p1 &&& (7 : Int32)) - (1 : Int32))), .unset, .unset] [])) _
    refine XS.iloadN X0.here hx rfl (hb hby at_17) rfl ?_
    show Steps p.tables e below (s₁.setTop (mkF m 18 #[.val (.int p1), .val (.int p2), .val (.int ((p1 &&& (7 : Int32)) - (1 : Int32))), .unset, .unset] [(.int ((p1 &&& (7 : Int32)) - (1 : Int32)))])) _
    refine st3 _ ?_
    show Steps p.tables e below (T3.setTop (mkF m 21 #[.val (.int p1), .val (.int p2), .val (.int ((p1 &&& (7 : Int32)) - (1 : Int32))), .unset, .unset] [(.ref ak)])) _
    refine XS.astoreN X3.here hx rfl (hb hby at_21) rfl rfl (l' := #[.val (.int p1), .val (.int p2), .val (.int ((p1 &&& (7 : Int32)) - (1 : Int32))), .val (.ref ak), .unset]) rfl ?_
    show Steps p.tables e below (T3.setTop (mkF m 22 #[.val (.int p1), .val (.int p2), .val (.int ((p1 &&& (7 : Int32)) - (1 : Int32))), .val (.ref ak), .unset] [])) _
    refine XS.iloadN X3.here hx rfl (hb hby at_22) rfl ?_
    show Steps p.tables e below (T3.setTop (mkF m 23 #[.val (.int p1), .val (.int p2), .val (.int ((p1 &&& (7 : Int32)) - (1 : Int32))), .val (.ref ak), .unset] [(.int ((p1 &&& (7 : Int32)) - (1 : Int32)))])) _
    refine st4 _ ?_
    show Steps p.tables e below (T4.setTop (mkF m 26 #[.val (.int p1), .val (.int p2), .val (.int ((p1 &&& (7 : Int32)) - (1 : Int32))), .val (.ref ak), .unset] [(.ref ak)])) _
    refine XS.astore X4.here hx rfl (hb hby at_26) rfl rfl (l' := #[.val (.int p1), .val (.int p2), .val (.int ((p1 &&& (7 : Int32)) - (1 : Int32))), .val (.ref ak), .val (.ref ak)]) rfl ?_
    show Steps p.tables e below (T4.setTop (mkF m 28 #[.val (.int p1), .val (.int p2), .val (.int ((p1 &&& (7 : Int32)) - (1 : Int32))), .val (.ref ak), .val (.ref ak)] [])) _
    refine XS.aloadN X4.here hx rfl (hb hby at_28) rfl rfl ?_
    show Steps p.tables e below (T4.setTop (mkF m 29 #[.val (.int p1), .val (.int p2), .val (.int ((p1 &&& (7 : Int32)) - (1 : Int32))), .val (.ref ak), .val (.ref ak)] [(.ref ak)])) _
    refine XS.aload X4.here hx rfl (hb hby at_29) rfl rfl ?_
    show Steps p.tables e below (T4.setTop (mkF m 31 #[.val (.int p1), .val (.int p2), .val (.int ((p1 &&& (7 : Int32)) - (1 : Int32))), .val (.ref ak), .val (.ref ak)] [(.ref ak), (.ref ak)])) _
    refine Jvm.RoadKit.acmp (g := (mkF m 31 #[.val (.int p1), .val (.int p2), .val (.int ((p1 &&& (7 : Int32)) - (1 : Int32))), .val (.ref ak), .val (.ref ak)] [(.ref ak), (.ref ak)])) X4 hx rfl rfl rfl (pc0 := 31) (pc' := 36) (same := true) rfl (hb hby at_31) rfl (decide_eq_true rfl) (by decide) (by decide) ?_
    show Steps p.tables e below (T4.setTop (mkF m 36 #[.val (.int p1), .val (.int p2), .val (.int ((p1 &&& (7 : Int32)) - (1 : Int32))), .val (.ref ak), .val (.ref ak)] [])) _
    refine XS.aloadN X4.here hx rfl (hb hby at_36) rfl rfl ?_
    show Steps p.tables e below (T4.setTop (mkF m 37 #[.val (.int p1), .val (.int p2), .val (.int ((p1 &&& (7 : Int32)) - (1 : Int32))), .val (.ref ak), .val (.ref ak)] [(.ref ak)])) _
    refine XS.ifnullNo X4.here hx rfl (hb hby at_37) rfl ?_
    show Steps p.tables e below (T4.setTop (mkF m 40 #[.val (.int p1), .val (.int p2), .val (.int ((p1 &&& (7 : Int32)) - (1 : Int32))), .val (.ref ak), .val (.ref ak)] [])) _
    refine XS.aloadN X4.here hx rfl (hb hby at_40) rfl rfl ?_
    show Steps p.tables e below (T4.setTop (mkF m 41 #[.val (.int p1), .val (.int p2), .val (.int ((p1 &&& (7 : Int32)) - (1 : Int32))), .val (.ref ak), .val (.ref ak)] [(.ref ak)])) _
    refine st5.trans ?_
    show Steps p.tables e below (T5.setTop (mkF m 44 #[.val (.int p1), .val (.int p2), .val (.int ((p1 &&& (7 : Int32)) - (1 : Int32))), .val (.ref ak), .val (.ref ak)] [(.int (k + 1))])) _
    refine XS.iloadN X5.here hx rfl (hb hby at_44) rfl ?_
    show Steps p.tables e below (T5.setTop (mkF m 45 #[.val (.int p1), .val (.int p2), .val (.int ((p1 &&& (7 : Int32)) - (1 : Int32))), .val (.ref ak), .val (.ref ak)] [(.int ((p1 &&& (7 : Int32)) - (1 : Int32))), (.int (k + 1))])) _
    refine XS.icmpYes X5.here hx rfl (pc0 := 45) (pc' := 50) rfl (hb hby at_45) rfl (teq hk).1 (by decide) (by decide) ?_
    show Steps p.tables e below (T5.setTop (mkF m 50 #[.val (.int p1), .val (.int p2), .val (.int ((p1 &&& (7 : Int32)) - (1 : Int32))), .val (.ref ak), .val (.ref ak)] [])) _
    refine XS.iconst X5.here hx rfl (hb hby at_50) ?_
    show Steps p.tables e below (T5.setTop (mkF m 51 #[.val (.int p1), .val (.int p2), .val (.int ((p1 &&& (7 : Int32)) - (1 : Int32))), .val (.ref ak), .val (.ref ak)] [(.int (1 : Int32))])) _
    exact retN X5 hx (t := .boolean) Bd.returns (by simp) (hb hby at_51) hr
  · show (own_one n0) _ T5.heap _
    exact ⟨rfl, N5⟩
set_option maxRecDepth 65536 in
set_option maxHeartbeats 40000000 in
theorem own_law_f (l : Launch) (Z : State) (a0 : Array Value) (hw : ∀ d ∈ tables_1, d.before a0 Z = true) (ws : List Jvm.Cond) (p1 : Int32) (p2 : Int32) (ak : Addr) (k : Int32) (h0 : Heap) (n0 : Nat) (Z0 : n0 ≤ h0.size) (hc3 : ¬ ((p2 &&& (1 : Int32)) = (0 : Int32))) (H1 : own_M l (⟨"com/example/wireloom/wireloom/cql/ResultKind", "forCode", "(I)Lcom/example/wireloom/wireloom/cql/ResultKind;"⟩ : MethodName) prog_118_method_4_code 1 (some (.object "com/example/wireloom/wireloom/cql/ResultKind")) ({ frames := 0, cells := 0, slots := 0, locals := 0 } : Room) Z #[.int p1] h0 (own_ret (.ref ak) n0 h0)) (H2 : own_M l (⟨"com/example/wireloom/wireloom/cql/ResultKindForCodePinLaw", "reference", "(I)Lcom/example/wireloom/wireloom/cql/ResultKind;"⟩ : MethodName) method_3_code 1 (some (.object "com/example/wireloom/wireloom/cql/ResultKind")) ({ frames := 0, cells := 0, slots := 0, locals := 0 } : Room) Z #[.int p1] h0 (own_ret (.ref ak) n0 h0)) (Ek : Exa Z h0 ak "com/example/wireloom/wireloom/cql/ResultKind") (Fk : Fld Z h0 ak "java/lang/Enum" "ordinal" "I" (.int k)) (hk : k + 1 = p1) :
    MetFree l x (head1 (Jvm.Cond.code x code maxLocals ret :: ws) room_1) (fun a U => a = #[(.int p1), (.int p2)] ∧ Z.Warmed39 U.vm ∧ U.heap = h0) (fun _ _ _ _ _ => True) (fun _ U o U' => ∃ v L, o = .returned v ∧ (own_one n0) v U'.heap L ∧ FrameEnd U o U' L room_1.cells room_1.slots) := by
  refine MetFree.of_bodySF (plainFor_of_name pn_0) hisR ?_
  intro p e s m args below meth c s₁ Bd hml0 hP hK
  obtain ⟨rfl, hZ, hh⟩ := hP
  have hx := Bd.exec
  have hby := Bd.bytes
  have hml : c.maxLocals = 5 := hml0
  have hown : s.vm.findClass "com/example/wireloom/wireloom/cql/ResultKindForCodePinLaw" = some m.cls := findClass_of_methodNamed Bd.named
  have hnm := (name_of_methodNamed Bd.named Bd.method).1
  have X0 : Stand p l e room_1 s m #[(.int p1), (.int p2)] below meth c s₁ [] 0 0 := Stand.of_body Bd
  have e0 : s₁.heap = h0 := by rw [← hh, Bd.state]; rfl
  have N0 := Fr.nil n0
  have pre0 : ∀ t, Steps p.tables e below (s₁.setTop (mkF m 0 #[.val (.int p1), .val (.int p2), .unset, .unset, .unset] [])) t → Steps p.tables e below (s₁.setTop (entryFrame m #[(.int p1), (.int p2)] maxLocals)) t := fun t k => castTop (ef_0 m p1 p2) k
  obtain ⟨_, _, ⟨T3, L3, k3, n3⟩, -, X3, ⟨Lc3, hQ3, l3, y3, z3⟩, st3⟩ := Jvm.LawKit.callS X0 hx (y := (⟨"com/example/wireloom/wireloom/cql/ResultKind", "forCode", "(I)Lcom/example/wireloom/wireloom/cql/ResultKind;"⟩ : MethodName)) hown (mvT hZ (hw _ (List.mem_of_getElem? (i := 0) rfl))) (mvT hZ (hw _ (List.mem_of_getElem? (i := 1) rfl))) (mvT hZ (hw _ (List.mem_of_getElem? (i := 2) rfl))) (mvT hZ (hw _ (List.mem_of_getElem? (i := 3) rfl))) (by decide) (backOf (W := 0) H1 hZ (hw _ (List.mem_of_getElem? (i := 3) rfl)) (hw _ (List.mem_of_getElem? (i := 2) rfl)) (by decide) (by decide)) (g := (mkF m 18 #[.val (.int p1), .val (.int p2), .val (.int p1), .unset, .unset] [(.int p1)])) rfl (by rw [hml]; rfl) (argsL := [(.int p1)]) (rest := []) (lenOf pd_1x rfl) rfl (by show 2 * 0 + _ ≤ _; exact Nat.le_of_eq rfl) (hb hby at_18) (fun _ _ => ⟨rfl, e0, (by decide : 0 + 0 ≤ _), (by decide : 0 + 0 ≤ _)⟩)
  dsimp only [Pt.U, Pt.locs, Pt.cells, Pt.slots] at X3 l3 y3 z3 st3 hQ3
  subst l3 y3 z3
  obtain ⟨rfl, N3q, e3q⟩ := hQ3
  have N3 := Fr.app N0 N3q
  obtain ⟨_, _, ⟨T4, L4, k4, n4⟩, -, X4, ⟨Lc4, hQ4, l4, y4, z4⟩, st4⟩ := Jvm.LawKit.callS X3 hx (y := (⟨"com/example/wireloom/wireloom/cql/ResultKindForCodePinLaw", "reference", "(I)Lcom/example/wireloom/wireloom/cql/ResultKind;"⟩ : MethodName)) hown (mvT hZ (hw _ (List.mem_of_getElem? (i := 4) rfl))) (mvT hZ (hw _ (List.mem_of_getElem? (i := 5) rfl))) (mvT hZ (hw _ (List.mem_of_getElem? (i := 6) rfl))) (mvT hZ (hw _ (List.mem_of_getElem? (i := 7) rfl))) (by decide) (backOf (W := 0) H2 hZ (hw _ (List.mem_of_getElem? (i := 7) rfl)) (hw _ (List.mem_of_getElem? (i := 6) rfl)) (by decide) (by decide)) (g := (mkF m 23 #[.val (.int p1), .val (.int p2), .val (.int p1), .val (.ref ak), .unset] [(.int p1)])) rfl (by rw [hml]; rfl) (argsL := [(.int p1)]) (rest := []) (lenOf pd_1x rfl) rfl (by show 2 * 0 + _ ≤ _; exact Nat.le_of_eq rfl) (hb hby at_23) (fun _ _ => ⟨rfl, e3q, (by decide : 0 + 0 ≤ _), (by decide : 0 + 0 ≤ _)⟩)
  dsimp only [Pt.U, Pt.locs, Pt.cells, Pt.slots] at X4 l4 y4 z4 st4 hQ4
  subst l4 y4 z4
  obtain ⟨rfl, N4q, e4q⟩ := hQ4
  have N4 := Fr.app N3 N4q
  obtain ⟨cq5, kq5, q5a, q5b, q5c⟩ := isOf hZ e4q Ek
  obtain ⟨_, _, ⟨T5, L5, k5, n5⟩, -, X5, ⟨Lc5, hQ5, l5, y5, z5⟩, st5⟩ := X4.virtualBack hx (y := (⟨"com/example/wireloom/wireloom/cql/ResultKind", "code", "()I"⟩ : MethodName)) (z := (⟨"com/example/wireloom/wireloom/cql/ResultKind", "code", "()I"⟩ : MethodName)) hown (mvT hZ (hw _ (List.mem_of_getElem? (i := 12) rfl))) (mvT hZ (hw _ (List.mem_of_getElem? (i := 13) rfl))) (notFace_of_selects (args := #[]) (mvT hZ (hw _ (List.mem_of_getElem? (i := 15) rfl)))) (mvT hZ (hw _ (List.mem_of_getElem? (i := 15) rfl))) (mvT hZ (hw _ (List.mem_of_getElem? (i := 14) rfl))) (by decide) (backOf (W := 0) (own_code l Z a0 hw [] ak k h0 n0 Z0 Ek Fk) hZ (hw _ (List.mem_of_getElem? (i := 16) rfl)) (hw _ (List.mem_of_getElem? (i := 2) rfl)) (by decide) (by decide)) q5a q5c (g := (mkF m 41 #[.val (.int p1), .val (.int p2), .val (.int p1), .val (.ref ak), .val (.ref ak)] [(.ref ak)])) rfl (by rw [hml]; rfl) (Steps.refl _) (argsL := []) (rest := []) (lenOf pd_0x rfl) rfl (by show 2 * 0 + _ ≤ _; exact Nat.le_of_eq rfl) (hb hby at_41) (fun _ _ => ⟨rfl, e4q, (by decide : 0 + 0 ≤ _), (by decide : 0 + 0 ≤ _)⟩)
  dsimp only [Pt.U, Pt.locs, Pt.cells, Pt.slots] at X5 l5 y5 z5 st5 hQ5
  subst l5 y5 z5
  obtain ⟨rfl, N5q, e5q⟩ := hQ5
  have N5 := Fr.app N4 N5q
  obtain ⟨fs, hr, hrun, hended, hW, hsame⟩ := X5.leave (v := some (.int (1 : Int32))) (fun h => by rw [Bd.returns] at h; cases h)
  refine ⟨_, _, pre0 _ ?_, hrun, hended, _, _, rfl, ?_, ⟨_, rfl⟩, hW, hsame.mono (by decide) (by decide)⟩
  · show Steps p.tables e below (s₁.setTop (mkF m 0 #[.val (.int p1), .val (.int p2), .unset, .unset, .unset] [])) _
    refine XS.iloadN X0.here hx rfl (hb hby at_0) rfl ?_
    show Steps p.tables e below (s₁.setTop (mkF m 1 #[.val (.int p1), .val (.int p2), .unset, .unset, .unset] [(.int p2)])) _
    refine XS.iconst X0.here hx rfl (hb hby at_1) ?_
    show Steps p.tables e below (s₁.setTop (mkF m 2 #[.val (.int p1), .val (.int p2), .unset, .unset, .unset] [(.int (1 : Int32)), (.int p2)])) _
    refine XS.iand X0.here hx rfl (hb hby at_2) rfl ?_
    show Steps p.tables e below (s₁.setTop (mkF m 3 #[.val (.int p1), .val (.int p2), .unset, .unset, .unset] [(.int (p2 &&& (1 : Int32)))])) _
    refine XS.ifNo X0.here hx rfl (hb hby at_3) rfl ((if0 _ _).trans (feq hc3).1) ?_
    show Steps p.tables e below (s₁.setTop (mkF m 6 #[.val (.int p1), .val (.int p2), .unset, .unset, .unset] [])) _
    refine XS.iloadN X0.here hx rfl (hb hby at_6) rfl ?_
    show Steps p.tables e below (s₁.setTop (mkF m 7 #[.val (.int p1), .val (.int p2), .unset, .unset, .unset] [(.int p1)])) _
    refine XS.goto X0.here hx rfl (pc0 := 7) (pc' := 16) rfl (hb hby at_7) (by decide) (by decide) ?_
    show Steps p.tables e below (s₁.setTop (mkF m 16 #[.val (.int p1), .val (.int p2), .unset, .unset, .unset] [(.int p1)])) _
    refine XS.istoreN X0.here hx rfl (hb hby at_16) rfl (l' := #[.val (.int p1), .val (.int p2), .val (.int p1), .unset, .unset]) rfl ?_
    show Steps p.tables e below (s₁.setTop (mkF m 17 #[.val (.int p1), .val (.int p2), .val (.int p1), .unset, .unset] [])) _
    refine XS.iloadN X0.here hx rfl (hb hby at_17) rfl ?_
    show Steps p.tables e below (s₁.setTop (mkF m 18 #[.val (.int p1), .val (.int p2), .val (.int p1), .unset, .unset] [(.int p1)])) _
    refine st3 _ ?_
    show Steps p.tables e below (T3.setTop (mkF m 21 #[.val (.int p1), .val (.int p2), .val (.int p1), .unset, .unset] [(.ref ak)])) _
    refine XS.astoreN X3.here hx rfl (hb hby at_21) rfl rfl (l' := #[.val (.int p1), .val (.int p2), .val (.int p1), .val (.ref ak), .unset]) rfl ?_
    show Steps p.tables e below (T3.setTop (mkF m 22 #[.val (.int p1), .val (.int p2), .val (.int p1), .val (.ref ak), .unset] [])) _
    refine XS.iloadN X3.here hx rfl (hb hby at_22) rfl ?_
    show Steps p.tables e below (T3.setTop (mkF m 23 #[.val (.int p1), .val (.int p2), .val (.int p1), .val (.ref ak), .unset] [(.int p1)])) _
    refine st4 _ ?_
    show Steps p.tables e below (T4.setTop (mkF m 26 #[.val (.int p1), .val (.int p2), .val (.int p1), .val (.ref ak), .unset] [(.ref ak)])) _
    refine XS.astore X4.here hx rfl (hb hby at_26) rfl rfl (l' := #[.val (.int p1), .val (.int p2), .val (.int p1), .val (.ref ak), .val (.ref ak)]) rfl ?_
    show Steps p.tables e below (T4.setTop (mkF m 28 #[.val (.int p1), .val (.int p2), .val (.int p1), .val (.ref ak), .val (.ref ak)] [])) _
    refine XS.aloadN X4.here hx rfl (hb hby at_28) rfl rfl ?_
    show Steps p.tables e below (T4.setTop (mkF m 29 #[.val (.int p1), .val (.int p2), .val (.int p1), .val (.ref ak), .val (.ref ak)] [(.ref ak)])) _
    refine XS.aload X4.here hx rfl (hb hby at_29) rfl rfl ?_
    show Steps p.tables e below (T4.setTop (mkF m 31 #[.val (.int p1), .val (.int p2), .val (.int p1), .val (.ref ak), .val (.ref ak)] [(.ref ak), (.ref ak)])) _
    refine Jvm.RoadKit.acmp (g := (mkF m 31 #[.val (.int p1), .val (.int p2), .val (.int p1), .val (.ref ak), .val (.ref ak)] [(.ref ak), (.ref ak)])) X4 hx rfl rfl rfl (pc0 := 31) (pc' := 36) (same := true) rfl (hb hby at_31) rfl (decide_eq_true rfl) (by decide) (by decide) ?_
    show Steps p.tables e below (T4.setTop (mkF m 36 #[.val (.int p1), .val (.int p2), .val (.int p1), .val (.ref ak), .val (.ref ak)] [])) _
    refine XS.aloadN X4.here hx rfl (hb hby at_36) rfl rfl ?_
    show Steps p.tables e below (T4.setTop (mkF m 37 #[.val (.int p1), .val (.int p2), .val (.int p1), .val (.ref ak), .val (.ref ak)] [(.ref ak)])) _
    refine XS.ifnullNo X4.here hx rfl (hb hby at_37) rfl ?_
    show Steps p.tables e below (T4.setTop (mkF m 40 #[.val (.int p1), .val (.int p2), .val (.int p1), .val (.ref ak), .val (.ref ak)] [])) _
    refine XS.aloadN X4.here hx rfl (hb hby at_40) rfl rfl ?_
    show Steps p.tables e below (T4.setTop (mkF m 41 #[.val (.int p1), .val (.int p2), .val (.int p1), .val (.ref ak), .val (.ref ak)] [(.ref ak)])) _
    refine st5.trans ?_
    show Steps p.tables e below (T5.setTop (mkF m 44 #[.val (.int p1), .val (.int p2), .val (.int p1), .val (.ref ak), .val (.ref ak)] [(.int (k + 1))])) _
    refine XS.iloadN X5.here hx rfl (hb hby at_44) rfl ?_
    show Steps p.tables e below (T5.setTop (mkF m 45 #[.val (.int p1), .val (.int p2), .val (.int p1), .val (.ref ak), .val (.ref ak)] [(.int p1), (.int (k + 1))])) _
    refine XS.icmpYes X5.here hx rfl (pc0 := 45) (pc' := 50) rfl (hb hby at_45) rfl (teq hk).1 (by decide) (by decide) ?_
    show Steps p.tables e below (T5.setTop (mkF m 50 #[.val (.int p1), .val (.int p2), .val (.int p1), .val (.ref ak), .val (.ref ak)] [])) _
    refine XS.iconst X5.here hx rfl (hb hby at_50) ?_
    show Steps p.tables e below (T5.setTop (mkF m 51 #[.val (.int p1), .val (.int p2), .val (.int p1), .val (.ref ak), .val (.ref ak)] [(.int (1 : Int32))])) _
    exact retN X5 hx (t := .boolean) Bd.returns (by simp) (hb hby at_51) hr
  · show (own_one n0) _ T5.heap _
    exact ⟨rfl, N5⟩
set_option maxRecDepth 65536 in
set_option maxHeartbeats 40000000 in
theorem own_law_tn (l : Launch) (Z : State) (a0 : Array Value) (hw : ∀ d ∈ tables_1, d.before a0 Z = true) (ws : List Jvm.Cond) (p1 : Int32) (p2 : Int32) (h0 : Heap) (n0 : Nat) (Z0 : n0 ≤ h0.size) (hc3 : (p2 &&& (1 : Int32)) = (0 : Int32)) (H1 : own_M l (⟨"com/example/wireloom/wireloom/cql/ResultKind", "forCode", "(I)Lcom/example/wireloom/wireloom/cql/ResultKind;"⟩ : MethodName) prog_118_method_4_code 1 (some (.object "com/example/wireloom/wireloom/cql/ResultKind")) ({ frames := 0, cells := 0, slots := 0, locals := 0 } : Room) Z #[.int ((p1 &&& (7 : Int32)) - (1 : Int32))] h0 (own_ret .null n0 h0)) (H2 : own_M l (⟨"com/example/wireloom/wireloom/cql/ResultKindForCodePinLaw", "reference", "(I)Lcom/example/wireloom/wireloom/cql/ResultKind;"⟩ : MethodName) method_3_code 1 (some (.object "com/example/wireloom/wireloom/cql/ResultKind")) ({ frames := 0, cells := 0, slots := 0, locals := 0 } : Room) Z #[.int ((p1 &&& (7 : Int32)) - (1 : Int32))] h0 (own_ret .null n0 h0)) :
    MetFree l x (head1 (Jvm.Cond.code x code maxLocals ret :: ws) room_1) (fun a U => a = #[(.int p1), (.int p2)] ∧ Z.Warmed39 U.vm ∧ U.heap = h0) (fun _ _ _ _ _ => True) (fun _ U o U' => ∃ v L, o = .returned v ∧ (own_one n0) v U'.heap L ∧ FrameEnd U o U' L room_1.cells room_1.slots) := by
  refine MetFree.of_bodySF (plainFor_of_name pn_0) hisR ?_
  intro p e s m args below meth c s₁ Bd hml0 hP hK
  obtain ⟨rfl, hZ, hh⟩ := hP
  have hx := Bd.exec
  have hby := Bd.bytes
  have hml : c.maxLocals = 5 := hml0
  have hown : s.vm.findClass "com/example/wireloom/wireloom/cql/ResultKindForCodePinLaw" = some m.cls := findClass_of_methodNamed Bd.named
  have hnm := (name_of_methodNamed Bd.named Bd.method).1
  have X0 : Stand p l e room_1 s m #[(.int p1), (.int p2)] below meth c s₁ [] 0 0 := Stand.of_body Bd
  have e0 : s₁.heap = h0 := by rw [← hh, Bd.state]; rfl
  have N0 := Fr.nil n0
  have pre0 : ∀ t, Steps p.tables e below (s₁.setTop (mkF m 0 #[.val (.int p1), .val (.int p2), .unset, .unset, .unset] [])) t → Steps p.tables e below (s₁.setTop (entryFrame m #[(.int p1), (.int p2)] maxLocals)) t := fun t k => castTop (ef_0 m p1 p2) k
  obtain ⟨_, _, ⟨T3, L3, k3, n3⟩, -, X3, ⟨Lc3, hQ3, l3, y3, z3⟩, st3⟩ := Jvm.LawKit.callS X0 hx (y := (⟨"com/example/wireloom/wireloom/cql/ResultKind", "forCode", "(I)Lcom/example/wireloom/wireloom/cql/ResultKind;"⟩ : MethodName)) hown (mvT hZ (hw _ (List.mem_of_getElem? (i := 0) rfl))) (mvT hZ (hw _ (List.mem_of_getElem? (i := 1) rfl))) (mvT hZ (hw _ (List.mem_of_getElem? (i := 2) rfl))) (mvT hZ (hw _ (List.mem_of_getElem? (i := 3) rfl))) (by decide) (backOf (W := 0) H1 hZ (hw _ (List.mem_of_getElem? (i := 3) rfl)) (hw _ (List.mem_of_getElem? (i := 2) rfl)) (by decide) (by decide)) (g := (mkF m 18 #[.val (.int p1), .val (.int p2), .val (.int ((p1 &&& (7 : Int32)) - (1 : Int32))), .unset, .unset] [(.int ((p1 &&& (7 : Int32)) - (1 : Int32)))])) rfl (by rw [hml]; rfl) (argsL := [(.int ((p1 &&& (7 : Int32)) - (1 : Int32)))]) (rest := []) (lenOf pd_1x rfl) rfl (by show 2 * 0 + _ ≤ _; exact Nat.le_of_eq rfl) (hb hby at_18) (fun _ _ => ⟨rfl, e0, (by decide : 0 + 0 ≤ _), (by decide : 0 + 0 ≤ _)⟩)
  dsimp only [Pt.U, Pt.locs, Pt.cells, Pt.slots] at X3 l3 y3 z3 st3 hQ3
  subst l3 y3 z3
  obtain ⟨rfl, N3q, e3q⟩ := hQ3
  have N3 := Fr.app N0 N3q
  obtain ⟨_, _, ⟨T4, L4, k4, n4⟩, -, X4, ⟨Lc4, hQ4, l4, y4, z4⟩, st4⟩ := Jvm.LawKit.callS X3 hx (y := (⟨"com/example/wireloom/wireloom/cql/ResultKindForCodePinLaw", "reference", "(I)Lcom/example/wireloom/wireloom/cql/ResultKind;"⟩ : MethodName)) hown (mvT hZ (hw _ (List.mem_of_getElem? (i := 4) rfl))) (mvT hZ (hw _ (List.mem_of_getElem? (i := 5) rfl))) (mvT hZ (hw _ (List.mem_of_getElem? (i := 6) rfl))) (mvT hZ (hw _ (List.mem_of_getElem? (i := 7) rfl))) (by decide) (backOf (W := 0) H2 hZ (hw _ (List.mem_of_getElem? (i := 7) rfl)) (hw _ (List.mem_of_getElem? (i := 6) rfl)) (by decide) (by decide)) (g := (mkF m 23 #[.val (.int p1), .val (.int p2), .val (.int ((p1 &&& (7 : Int32)) - (1 : Int32))), .val .null, .unset] [(.int ((p1 &&& (7 : Int32)) - (1 : Int32)))])) rfl (by rw [hml]; rfl) (argsL := [(.int ((p1 &&& (7 : Int32)) - (1 : Int32)))]) (rest := []) (lenOf pd_1x rfl) rfl (by show 2 * 0 + _ ≤ _; exact Nat.le_of_eq rfl) (hb hby at_23) (fun _ _ => ⟨rfl, e3q, (by decide : 0 + 0 ≤ _), (by decide : 0 + 0 ≤ _)⟩)
  dsimp only [Pt.U, Pt.locs, Pt.cells, Pt.slots] at X4 l4 y4 z4 st4 hQ4
  subst l4 y4 z4
  obtain ⟨rfl, N4q, e4q⟩ := hQ4
  have N4 := Fr.app N3 N4q
  obtain ⟨fs, hr, hrun, hended, hW, hsame⟩ := X4.leave (v := some (.int (1 : Int32))) (fun h => by rw [Bd.returns] at h; cases h)
  refine ⟨_, _, pre0 _ ?_, hrun, hended, _, _, rfl, ?_, ⟨_, rfl⟩, hW, hsame.mono (by decide) (by decide)⟩
  · show Steps p.tables e below (s₁.setTop (mkF m 0 #[.val (.int p1), .val (.int p2), .unset, .unset, .unset] [])) _
    refine XS.iloadN X0.here hx rfl (hb hby at_0) rfl ?_
    show Steps p.tables e below (s₁.setTop (mkF m 1 #[.val (.int p1), .val (.int p2), .unset, .unset, .unset] [(.int p2)])) _
    refine XS.iconst X0.here hx rfl (hb hby at_1) ?_
    show Steps p.tables e below (s₁.setTop (mkF m 2 #[.val (.int p1), .val (.int p2), .unset, .unset, .unset] [(.int (1 : Int32)), (.int p2)])) _
    refine XS.iand X0.here hx rfl (hb hby at_2) rfl ?_
    show Steps p.tables e below (s₁.setTop (mkF m 3 #[.val (.int p1), .val (.int p2), .unset, .unset, .unset] [(.int (p2 &&& (1 : Int32)))])) _
    refine XS.ifYes X0.here hx rfl (pc0 := 3) (pc' := 10) rfl (hb hby at_3) rfl ((if0 _ _).trans (teq hc3).1) (by decide) (by decide) ?_
    show Steps p.tables e below (s₁.setTop (mkF m 10 #[.val (.int p1), .val (.int p2), .unset, .unset, .unset] [])) _
    refine XS.iloadN X0.here hx rfl (hb hby at_10) rfl ?_
    show Steps p.tables e below (s₁.setTop (mkF m 11 #[.val (.int p1), .val (.int p2), .unset, .unset, .unset] [(.int p1)])) _
    refine XS.bipush X0.here hx rfl (hb hby at_11) ?_
    show Steps p.tables e below (s₁.setTop (mkF m 13 #[.val (.int p1), .val (.int p2), .unset, .unset, .unset] [(.int (7 : Int32)), (.int p1)])) _
    refine XS.iand X0.here hx rfl (hb hby at_13) rfl ?_
    show Steps p.tables e below (s₁.setTop (mkF m 14 #[.val (.int p1), .val (.int p2), .unset, .unset, .unset] [(.int (p1 &&& (7 : Int32)))])) _
    refine XS.iconst X0.here hx rfl (hb hby at_14) ?_
    show Steps p.tables e below (s₁.setTop (mkF m 15 #[.val (.int p1), .val (.int p2), .unset, .unset, .unset] [(.int (1 : Int32)), (.int (p1 &&& (7 : Int32)))])) _
    refine XS.isub X0.here hx rfl (hb hby at_15) rfl ?_
    show Steps p.tables e below (s₁.setTop (mkF m 16 #[.val (.int p1), .val (.int p2), .unset, .unset, .unset] [(.int ((p1 &&& (7 : Int32)) - (1 : Int32)))])) _
    refine XS.istoreN X0.here hx rfl (hb hby at_16) rfl (l' := #[.val (.int p1), .val (.int p2), .val (.int ((p1 &&& (7 : Int32)) - (1 : Int32))), .unset, .unset]) rfl ?_
    show Steps p.tables e below (s₁.setTop (mkF m 17 #[.val (.int p1), .val (.int p2), .val (.int ((p1 &&& (7 : Int32)) - (1 : Int32))), .unset, .unset] [])) _
    refine XS.iloadN X0.here hx rfl (hb hby at_17) rfl ?_
    show Steps p.tables e below (s₁.setTop (mkF m 18 #[.val (.int p1), .val (.int p2), .val (.int ((p1 &&& (7 : Int32)) - (1 : Int32))), .unset, .unset] [(.int ((p1 &&& (7 : Int32)) - (1 : Int32)))])) _
    refine st3 _ ?_
    show Steps p.tables e below (T3.setTop (mkF m 21 #[.val (.int p1), .val (.int p2), .val (.int ((p1 &&& (7 : Int32)) - (1 : Int32))), .unset, .unset] [.null])) _
    refine XS.astoreN X3.here hx rfl (hb hby at_21) rfl rfl (l' := #[.val (.int p1), .val (.int p2), .val (.int ((p1 &&& (7 : Int32)) - (1 : Int32))), .val .null, .unset]) rfl ?_
    show Steps p.tables e below (T3.setTop (mkF m 22 #[.val (.int p1), .val (.int p2), .val (.int ((p1 &&& (7 : Int32)) - (1 : Int32))), .val .null, .unset] [])) _
    refine XS.iloadN X3.here hx rfl (hb hby at_22) rfl ?_
    show Steps p.tables e below (T3.setTop (mkF m 23 #[.val (.int p1), .val (.int p2), .val (.int ((p1 &&& (7 : Int32)) - (1 : Int32))), .val .null, .unset] [(.int ((p1 &&& (7 : Int32)) - (1 : Int32)))])) _
    refine st4 _ ?_
    show Steps p.tables e below (T4.setTop (mkF m 26 #[.val (.int p1), .val (.int p2), .val (.int ((p1 &&& (7 : Int32)) - (1 : Int32))), .val .null, .unset] [.null])) _
    refine XS.astore X4.here hx rfl (hb hby at_26) rfl rfl (l' := #[.val (.int p1), .val (.int p2), .val (.int ((p1 &&& (7 : Int32)) - (1 : Int32))), .val .null, .val .null]) rfl ?_
    show Steps p.tables e below (T4.setTop (mkF m 28 #[.val (.int p1), .val (.int p2), .val (.int ((p1 &&& (7 : Int32)) - (1 : Int32))), .val .null, .val .null] [])) _
    refine XS.aloadN X4.here hx rfl (hb hby at_28) rfl rfl ?_
    show Steps p.tables e below (T4.setTop (mkF m 29 #[.val (.int p1), .val (.int p2), .val (.int ((p1 &&& (7 : Int32)) - (1 : Int32))), .val .null, .val .null] [.null])) _
    refine XS.aload X4.here hx rfl (hb hby at_29) rfl rfl ?_
    show Steps p.tables e below (T4.setTop (mkF m 31 #[.val (.int p1), .val (.int p2), .val (.int ((p1 &&& (7 : Int32)) - (1 : Int32))), .val .null, .val .null] [.null, .null])) _
    refine Jvm.RoadKit.acmp (g := (mkF m 31 #[.val (.int p1), .val (.int p2), .val (.int ((p1 &&& (7 : Int32)) - (1 : Int32))), .val .null, .val .null] [.null, .null])) X4 hx rfl rfl rfl (pc0 := 31) (pc' := 36) (same := true) rfl (hb hby at_31) rfl rfl (by decide) (by decide) ?_
    show Steps p.tables e below (T4.setTop (mkF m 36 #[.val (.int p1), .val (.int p2), .val (.int ((p1 &&& (7 : Int32)) - (1 : Int32))), .val .null, .val .null] [])) _
    refine XS.aloadN X4.here hx rfl (hb hby at_36) rfl rfl ?_
    show Steps p.tables e below (T4.setTop (mkF m 37 #[.val (.int p1), .val (.int p2), .val (.int ((p1 &&& (7 : Int32)) - (1 : Int32))), .val .null, .val .null] [.null])) _
    refine XS.ifnullYes X4.here hx rfl (pc0 := 37) (pc' := 50) rfl (hb hby at_37) rfl (by decide) (by decide) ?_
    show Steps p.tables e below (T4.setTop (mkF m 50 #[.val (.int p1), .val (.int p2), .val (.int ((p1 &&& (7 : Int32)) - (1 : Int32))), .val .null, .val .null] [])) _
    refine XS.iconst X4.here hx rfl (hb hby at_50) ?_
    show Steps p.tables e below (T4.setTop (mkF m 51 #[.val (.int p1), .val (.int p2), .val (.int ((p1 &&& (7 : Int32)) - (1 : Int32))), .val .null, .val .null] [(.int (1 : Int32))])) _
    exact retN X4 hx (t := .boolean) Bd.returns (by simp) (hb hby at_51) hr
  · show (own_one n0) _ T4.heap _
    exact ⟨rfl, N4⟩
set_option maxRecDepth 65536 in
set_option maxHeartbeats 40000000 in
theorem own_law_fn (l : Launch) (Z : State) (a0 : Array Value) (hw : ∀ d ∈ tables_1, d.before a0 Z = true) (ws : List Jvm.Cond) (p1 : Int32) (p2 : Int32) (h0 : Heap) (n0 : Nat) (Z0 : n0 ≤ h0.size) (hc3 : ¬ ((p2 &&& (1 : Int32)) = (0 : Int32))) (H1 : own_M l (⟨"com/example/wireloom/wireloom/cql/ResultKind", "forCode", "(I)Lcom/example/wireloom/wireloom/cql/ResultKind;"⟩ : MethodName) prog_118_method_4_code 1 (some (.object "com/example/wireloom/wireloom/cql/ResultKind")) ({ frames := 0, cells := 0, slots := 0, locals := 0 } : Room) Z #[.int p1] h0 (own_ret .null n0 h0)) (H2 : own_M l (⟨"com/example/wireloom/wireloom/cql/ResultKindForCodePinLaw", "reference", "(I)Lcom/example/wireloom/wireloom/cql/ResultKind;"⟩ : MethodName) method_3_code 1 (some (.object "com/example/wireloom/wireloom/cql/ResultKind")) ({ frames := 0, cells := 0, slots := 0, locals := 0 } : Room) Z #[.int p1] h0 (own_ret .null n0 h0)) :
    MetFree l x (head1 (Jvm.Cond.code x code maxLocals ret :: ws) room_1) (fun a U => a = #[(.int p1), (.int p2)] ∧ Z.Warmed39 U.vm ∧ U.heap = h0) (fun _ _ _ _ _ => True) (fun _ U o U' => ∃ v L, o = .returned v ∧ (own_one n0) v U'.heap L ∧ FrameEnd U o U' L room_1.cells room_1.slots) := by
  refine MetFree.of_bodySF (plainFor_of_name pn_0) hisR ?_
  intro p e s m args below meth c s₁ Bd hml0 hP hK
  obtain ⟨rfl, hZ, hh⟩ := hP
  have hx := Bd.exec
  have hby := Bd.bytes
  have hml : c.maxLocals = 5 := hml0
  have hown : s.vm.findClass "com/example/wireloom/wireloom/cql/ResultKindForCodePinLaw" = some m.cls := findClass_of_methodNamed Bd.named
  have hnm := (name_of_methodNamed Bd.named Bd.method).1
  have X0 : Stand p l e room_1 s m #[(.int p1), (.int p2)] below meth c s₁ [] 0 0 := Stand.of_body Bd
  have e0 : s₁.heap = h0 := by rw [← hh, Bd.state]; rfl
  have N0 := Fr.nil n0
  have pre0 : ∀ t, Steps p.tables e below (s₁.setTop (mkF m 0 #[.val (.int p1), .val (.int p2), .unset, .unset, .unset] [])) t → Steps p.tables e below (s₁.setTop (entryFrame m #[(.int p1), (.int p2)] maxLocals)) t := fun t k => castTop (ef_0 m p1 p2) k
  obtain ⟨_, _, ⟨T3, L3, k3, n3⟩, -, X3, ⟨Lc3, hQ3, l3, y3, z3⟩, st3⟩ := Jvm.LawKit.callS X0 hx (y := (⟨"com/example/wireloom/wireloom/cql/ResultKind", "forCode", "(I)Lcom/example/wireloom/wireloom/cql/ResultKind;"⟩ : MethodName)) hown (mvT hZ (hw _ (List.mem_of_getElem? (i := 0) rfl))) (mvT hZ (hw _ (List.mem_of_getElem? (i := 1) rfl))) (mvT hZ (hw _ (List.mem_of_getElem? (i := 2) rfl))) (mvT hZ (hw _ (List.mem_of_getElem? (i := 3) rfl))) (by decide) (backOf (W := 0) H1 hZ (hw _ (List.mem_of_getElem? (i := 3) rfl)) (hw _ (List.mem_of_getElem? (i := 2) rfl)) (by decide) (by decide)) (g := (mkF m 18 #[.val (.int p1), .val (.int p2), .val (.int p1), .unset, .unset] [(.int p1)])) rfl (by rw [hml]; rfl) (argsL := [(.int p1)]) (rest := []) (lenOf pd_1x rfl) rfl (by show 2 * 0 + _ ≤ _; exact Nat.le_of_eq rfl) (hb hby at_18) (fun _ _ => ⟨rfl, e0, (by decide : 0 + 0 ≤ _), (by decide : 0 + 0 ≤ _)⟩)
  dsimp only [Pt.U, Pt.locs, Pt.cells, Pt.slots] at X3 l3 y3 z3 st3 hQ3
  subst l3 y3 z3
  obtain ⟨rfl, N3q, e3q⟩ := hQ3
  have N3 := Fr.app N0 N3q
  obtain ⟨_, _, ⟨T4, L4, k4, n4⟩, -, X4, ⟨Lc4, hQ4, l4, y4, z4⟩, st4⟩ := Jvm.LawKit.callS X3 hx (y := (⟨"com/example/wireloom/wireloom/cql/ResultKindForCodePinLaw", "reference", "(I)Lcom/example/wireloom/wireloom/cql/ResultKind;"⟩ : MethodName)) hown (mvT hZ (hw _ (List.mem_of_getElem? (i := 4) rfl))) (mvT hZ (hw _ (List.mem_of_getElem? (i := 5) rfl))) (mvT hZ (hw _ (List.mem_of_getElem? (i := 6) rfl))) (mvT hZ (hw _ (List.mem_of_getElem? (i := 7) rfl))) (by decide) (backOf (W := 0) H2 hZ (hw _ (List.mem_of_getElem? (i := 7) rfl)) (hw _ (List.mem_of_getElem? (i := 6) rfl)) (by decide) (by decide)) (g := (mkF m 23 #[.val (.int p1), .val (.int p2), .val (.int p1), .val .null, .unset] [(.int p1)])) rfl (by rw [hml]; rfl) (argsL := [(.int p1)]) (rest := []) (lenOf pd_1x rfl) rfl (by show 2 * 0 + _ ≤ _; exact Nat.le_of_eq rfl) (hb hby at_23) (fun _ _ => ⟨rfl, e3q, (by decide : 0 + 0 ≤ _), (by decide : 0 + 0 ≤ _)⟩)
  dsimp only [Pt.U, Pt.locs, Pt.cells, Pt.slots] at X4 l4 y4 z4 st4 hQ4
  subst l4 y4 z4
  obtain ⟨rfl, N4q, e4q⟩ := hQ4
  have N4 := Fr.app N3 N4q
  obtain ⟨fs, hr, hrun, hended, hW, hsame⟩ := X4.leave (v := some (.int (1 : Int32))) (fun h => by rw [Bd.returns] at h; cases h)
  refine ⟨_, _, pre0 _ ?_, hrun, hended, _, _, rfl, ?_, ⟨_, rfl⟩, hW, hsame.mono (by decide) (by decide)⟩
  · show Steps p.tables e below (s₁.setTop (mkF m 0 #[.val (.int p1), .val (.int p2), .unset, .unset, .unset] [])) _
    refine XS.iloadN X0.here hx rfl (hb hby at_0) rfl ?_
    show Steps p.tables e below (s₁.setTop (mkF m 1 #[.val (.int p1), .val (.int p2), .unset, .unset, .unset] [(.int p2)])) _
    refine XS.iconst X0.here hx rfl (hb hby at_1) ?_
    show Steps p.tables e below (s₁.setTop (mkF m 2 #[.val (.int p1), .val (.int p2), .unset, .unset, .unset] [(.int (1 : Int32)), (.int p2)])) _
    refine XS.iand X0.here hx rfl (hb hby at_2) rfl ?_
    show Steps p.tables e below (s₁.setTop (mkF m 3 #[.val (.int p1), .val (.int p2), .unset, .unset, .unset] [(.int (p2 &&& (1 : Int32)))])) _
    refine XS.ifNo X0.here hx rfl (hb hby at_3) rfl ((if0 _ _).trans (feq hc3).1) ?_
    show Steps p.tables e below (s₁.setTop (mkF m 6 #[.val (.int p1), .val (.int p2), .unset, .unset, .unset] [])) _
    refine XS.iloadN X0.here hx rfl (hb hby at_6) rfl ?_
    show Steps p.tables e below (s₁.setTop (mkF m 7 #[.val (.int p1), .val (.int p2), .unset, .unset, .unset] [(.int p1)])) _
    refine XS.goto X0.here hx rfl (pc0 := 7) (pc' := 16) rfl (hb hby at_7) (by decide) (by decide) ?_
    show Steps p.tables e below (s₁.setTop (mkF m 16 #[.val (.int p1), .val (.int p2), .unset, .unset, .unset] [(.int p1)])) _
    refine XS.istoreN X0.here hx rfl (hb hby at_16) rfl (l' := #[.val (.int p1), .val (.int p2), .val (.int p1), .unset, .unset]) rfl ?_
    show Steps p.tables e below (s₁.setTop (mkF m 17 #[.val (.int p1), .val (.int p2), .val (.int p1), .unset, .unset] [])) _
    refine XS.iloadN X0.here hx rfl (hb hby at_17) rfl ?_
    show Steps p.tables e below (s₁.setTop (mkF m 18 #[.val (.int p1), .val (.int p2), .val (.int p1), .unset, .unset] [(.int p1)])) _
    refine st3 _ ?_
    show Steps p.tables e below (T3.setTop (mkF m 21 #[.val (.int p1), .val (.int p2), .val (.int p1), .unset, .unset] [.null])) _
    refine XS.astoreN X3.here hx rfl (hb hby at_21) rfl rfl (l' := #[.val (.int p1), .val (.int p2), .val (.int p1), .val .null, .unset]) rfl ?_
    show Steps p.tables e below (T3.setTop (mkF m 22 #[.val (.int p1), .val (.int p2), .val (.int p1), .val .null, .unset] [])) _
    refine XS.iloadN X3.here hx rfl (hb hby at_22) rfl ?_
    show Steps p.tables e below (T3.setTop (mkF m 23 #[.val (.int p1), .val (.int p2), .val (.int p1), .val .null, .unset] [(.int p1)])) _
    refine st4 _ ?_
    show Steps p.tables e below (T4.setTop (mkF m 26 #[.val (.int p1), .val (.int p2), .val (.int p1), .val .null, .unset] [.null])) _
    refine XS.astore X4.here hx rfl (hb hby at_26) rfl rfl (l' := #[.val (.int p1), .val (.int p2), .val (.int p1), .val .null, .val .null]) rfl ?_
    show Steps p.tables e below (T4.setTop (mkF m 28 #[.val (.int p1), .val (.int p2), .val (.int p1), .val .null, .val .null] [])) _
    refine XS.aloadN X4.here hx rfl (hb hby at_28) rfl rfl ?_
    show Steps p.tables e below (T4.setTop (mkF m 29 #[.val (.int p1), .val (.int p2), .val (.int p1), .val .null, .val .null] [.null])) _
    refine XS.aload X4.here hx rfl (hb hby at_29) rfl rfl ?_
    show Steps p.tables e below (T4.setTop (mkF m 31 #[.val (.int p1), .val (.int p2), .val (.int p1), .val .null, .val .null] [.null, .null])) _
    refine Jvm.RoadKit.acmp (g := (mkF m 31 #[.val (.int p1), .val (.int p2), .val (.int p1), .val .null, .val .null] [.null, .null])) X4 hx rfl rfl rfl (pc0 := 31) (pc' := 36) (same := true) rfl (hb hby at_31) rfl rfl (by decide) (by decide) ?_
    show Steps p.tables e below (T4.setTop (mkF m 36 #[.val (.int p1), .val (.int p2), .val (.int p1), .val .null, .val .null] [])) _
    refine XS.aloadN X4.here hx rfl (hb hby at_36) rfl rfl ?_
    show Steps p.tables e below (T4.setTop (mkF m 37 #[.val (.int p1), .val (.int p2), .val (.int p1), .val .null, .val .null] [.null])) _
    refine XS.ifnullYes X4.here hx rfl (pc0 := 37) (pc' := 50) rfl (hb hby at_37) rfl (by decide) (by decide) ?_
    show Steps p.tables e below (T4.setTop (mkF m 50 #[.val (.int p1), .val (.int p2), .val (.int p1), .val .null, .val .null] [])) _
    refine XS.iconst X4.here hx rfl (hb hby at_50) ?_
    show Steps p.tables e below (T4.setTop (mkF m 51 #[.val (.int p1), .val (.int p2), .val (.int p1), .val .null, .val .null] [(.int (1 : Int32))])) _
    exact retN X4 hx (t := .boolean) Bd.returns (by simp) (hb hby at_51) hr
  · show (own_one n0) _ T4.heap _
    exact ⟨rfl, N4⟩
theorem own_hi {c : Int32} (h0 : ¬ c < 1) (h1 : ¬ c = 1) (h2 : ¬ c = 2) (h3 : ¬ c = 3) (h4 : ¬ c = 4) (h5 : ¬ c = 5) : (5 : Int32) < c := by
  rw [Int32.lt_iff_toInt_lt] at h0 ⊢
  rw [← Int32.toInt_inj] at h1 h2 h3 h4 h5
  have e1 : (1 : Int32).toInt = 1 := rfl
  have e2 : (2 : Int32).toInt = 2 := rfl
  have e3 : (3 : Int32).toInt = 3 := rfl
  have e4 : (4 : Int32).toInt = 4 := rfl
  have e5 : (5 : Int32).toInt = 5 := rfl
  omega
theorem own_lo {c : Int32} (h0 : c < 1) : (¬ c = 1) ∧ (¬ c = 2) ∧ (¬ c = 3) ∧ (¬ c = 4) ∧ ¬ c = 5 := by
  refine ⟨?_, ?_, ?_, ?_, ?_⟩ <;> (rintro rfl; revert h0; decide)
theorem own_pick (l : Launch) (a0 : Array Value) (Z : State) (h0 : Heap) (w2 : Addr) (cl : Cell) (SB : Sta Z h0 "com/example/wireloom/wireloom/cql/ResultKind" "BY_ORDINAL" "[Lcom/example/wireloom/wireloom/cql/ResultKind;" (.ref w2)) (A : Arr Z h0 w2 cl (.object "com/example/wireloom/wireloom/cql/ResultKind")) (S : cl.slots.size = (5 : Int32).toNatClampNeg) (w_VOID : Addr) (S_VOID : Sta Z h0 "com/example/wireloom/wireloom/cql/ResultKind" "VOID" "Lcom/example/wireloom/wireloom/cql/ResultKind;" (.ref w_VOID)) (E_VOID : Exa Z h0 w_VOID "com/example/wireloom/wireloom/cql/ResultKind") (F_VOID : Fld Z h0 w_VOID "java/lang/Enum" "ordinal" "I" (.int (0 : Int32))) (P_VOID : ¬ ((0 : Int32) < 0 ∨ cl.slots.size ≤ (0 : Int32).toNatClampNeg) ∧ cl.slots[(0 : Int32).toNatClampNeg]? = some (.ref w_VOID)) (w_ROWS : Addr) (S_ROWS : Sta Z h0 "com/example/wireloom/wireloom/cql/ResultKind" "ROWS" "Lcom/example/wireloom/wireloom/cql/ResultKind;" (.ref w_ROWS)) (E_ROWS : Exa Z h0 w_ROWS "com/example/wireloom/wireloom/cql/ResultKind") (F_ROWS : Fld Z h0 w_ROWS "java/lang/Enum" "ordinal" "I" (.int (1 : Int32))) (P_ROWS : ¬ ((1 : Int32) < 0 ∨ cl.slots.size ≤ (1 : Int32).toNatClampNeg) ∧ cl.slots[(1 : Int32).toNatClampNeg]? = some (.ref w_ROWS)) (w_SET_KEYSPACE : Addr) (S_SET_KEYSPACE : Sta Z h0 "com/example/wireloom/wireloom/cql/ResultKind" "SET_KEYSPACE" "Lcom/example/wireloom/wireloom/cql/ResultKind;" (.ref w_SET_KEYSPACE)) (E_SET_KEYSPACE : Exa Z h0 w_SET_KEYSPACE "com/example/wireloom/wireloom/cql/ResultKind") (F_SET_KEYSPACE : Fld Z h0 w_SET_KEYSPACE "java/lang/Enum" "ordinal" "I" (.int (2 : Int32))) (P_SET_KEYSPACE : ¬ ((2 : Int32) < 0 ∨ cl.slots.size ≤ (2 : Int32).toNatClampNeg) ∧ cl.slots[(2 : Int32).toNatClampNeg]? = some (.ref w_SET_KEYSPACE)) (w_PREPARED : Addr) (S_PREPARED : Sta Z h0 "com/example/wireloom/wireloom/cql/ResultKind" "PREPARED" "Lcom/example/wireloom/wireloom/cql/ResultKind;" (.ref w_PREPARED)) (E_PREPARED : Exa Z h0 w_PREPARED "com/example/wireloom/wireloom/cql/ResultKind") (F_PREPARED : Fld Z h0 w_PREPARED "java/lang/Enum" "ordinal" "I" (.int (3 : Int32))) (P_PREPARED : ¬ ((3 : Int32) < 0 ∨ cl.slots.size ≤ (3 : Int32).toNatClampNeg) ∧ cl.slots[(3 : Int32).toNatClampNeg]? = some (.ref w_PREPARED)) (w_SCHEMA_CHANGE : Addr) (S_SCHEMA_CHANGE : Sta Z h0 "com/example/wireloom/wireloom/cql/ResultKind" "SCHEMA_CHANGE" "Lcom/example/wireloom/wireloom/cql/ResultKind;" (.ref w_SCHEMA_CHANGE)) (E_SCHEMA_CHANGE : Exa Z h0 w_SCHEMA_CHANGE "com/example/wireloom/wireloom/cql/ResultKind") (F_SCHEMA_CHANGE : Fld Z h0 w_SCHEMA_CHANGE "java/lang/Enum" "ordinal" "I" (.int (4 : Int32))) (P_SCHEMA_CHANGE : ¬ ((4 : Int32) < 0 ∨ cl.slots.size ≤ (4 : Int32).toNatClampNeg) ∧ cl.slots[(4 : Int32).toNatClampNeg]? = some (.ref w_SCHEMA_CHANGE)) (hw : ∀ d ∈ tables_1, d.before a0 Z = true) (n0 : Nat) (Z0 : n0 ≤ h0.size) (c : Int32) :
    (∃ (ak : Addr) (k : Int32), (own_M l (⟨"com/example/wireloom/wireloom/cql/ResultKind", "forCode", "(I)Lcom/example/wireloom/wireloom/cql/ResultKind;"⟩ : MethodName) prog_118_method_4_code 1 (some (.object "com/example/wireloom/wireloom/cql/ResultKind")) ({ frames := 0, cells := 0, slots := 0, locals := 0 } : Room) Z #[.int c] h0 (own_ret (.ref ak) n0 h0)) ∧ (own_M l (⟨"com/example/wireloom/wireloom/cql/ResultKindForCodePinLaw", "reference", "(I)Lcom/example/wireloom/wireloom/cql/ResultKind;"⟩ : MethodName) method_3_code 1 (some (.object "com/example/wireloom/wireloom/cql/ResultKind")) ({ frames := 0, cells := 0, slots := 0, locals := 0 } : Room) Z #[.int c] h0 (own_ret (.ref ak) n0 h0)) ∧ Exa Z h0 ak "com/example/wireloom/wireloom/cql/ResultKind" ∧ Fld Z h0 ak "java/lang/Enum" "ordinal" "I" (.int k) ∧ k + 1 = c) ∨ ((own_M l (⟨"com/example/wireloom/wireloom/cql/ResultKind", "forCode", "(I)Lcom/example/wireloom/wireloom/cql/ResultKind;"⟩ : MethodName) prog_118_method_4_code 1 (some (.object "com/example/wireloom/wireloom/cql/ResultKind")) ({ frames := 0, cells := 0, slots := 0, locals := 0 } : Room) Z #[.int c] h0 (own_ret .null n0 h0)) ∧ (own_M l (⟨"com/example/wireloom/wireloom/cql/ResultKindForCodePinLaw", "reference", "(I)Lcom/example/wireloom/wireloom/cql/ResultKind;"⟩ : MethodName) method_3_code 1 (some (.object "com/example/wireloom/wireloom/cql/ResultKind")) ({ frames := 0, cells := 0, slots := 0, locals := 0 } : Room) Z #[.int c] h0 (own_ret .null n0 h0))) := by
  by_cases h1 : c = (1 : Int32)
  · subst h1
    exact Or.inl ⟨w_VOID, (0 : Int32), own_fc_in l Z a0 hw [] (1 : Int32) w2 cl (5 : Int32) w_VOID h0 n0 Z0 SB A S (by decide) P_VOID.1 P_VOID.2 (by decide) (by decide), own_rf_1 l Z a0 hw [] (1 : Int32) w_VOID h0 n0 Z0 S_VOID  (by decide), E_VOID, F_VOID, by decide⟩
  by_cases h2 : c = (2 : Int32)
  · subst h2
    exact Or.inl ⟨w_ROWS, (1 : Int32), own_fc_in l Z a0 hw [] (2 : Int32) w2 cl (5 : Int32) w_ROWS h0 n0 Z0 SB A S (by decide) P_ROWS.1 P_ROWS.2 (by decide) (by decide), own_rf_2 l Z a0 hw [] (2 : Int32) w_ROWS h0 n0 Z0 S_ROWS (by decide) (by decide), E_ROWS, F_ROWS, by decide⟩
  by_cases h3 : c = (3 : Int32)
  · subst h3
    exact Or.inl ⟨w_SET_KEYSPACE, (2 : Int32), own_fc_in l Z a0 hw [] (3 : Int32) w2 cl (5 : Int32) w_SET_KEYSPACE h0 n0 Z0 SB A S (by decide) P_SET_KEYSPACE.1 P_SET_KEYSPACE.2 (by decide) (by decide), own_rf_3 l Z a0 hw [] (3 : Int32) w_SET_KEYSPACE h0 n0 Z0 S_SET_KEYSPACE (by decide) (by decide) (by decide), E_SET_KEYSPACE, F_SET_KEYSPACE, by decide⟩
  by_cases h4 : c = (4 : Int32)
  · subst h4
    exact Or.inl ⟨w_PREPARED, (3 : Int32), own_fc_in l Z a0 hw [] (4 : Int32) w2 cl (5 : Int32) w_PREPARED h0 n0 Z0 SB A S (by decide) P_PREPARED.1 P_PREPARED.2 (by decide) (by decide), own_rf_4 l Z a0 hw [] (4 : Int32) w_PREPARED h0 n0 Z0 S_PREPARED (by decide) (by decide) (by decide) (by decide), E_PREPARED, F_PREPARED, by decide⟩
  by_cases h5 : c = (5 : Int32)
  · subst h5
    exact Or.inl ⟨w_SCHEMA_CHANGE, (4 : Int32), own_fc_in l Z a0 hw [] (5 : Int32) w2 cl (5 : Int32) w_SCHEMA_CHANGE h0 n0 Z0 SB A S (by decide) P_SCHEMA_CHANGE.1 P_SCHEMA_CHANGE.2 (by decide) (by decide), own_rf_5 l Z a0 hw [] (5 : Int32) w_SCHEMA_CHANGE h0 n0 Z0 S_SCHEMA_CHANGE (by decide) (by decide) (by decide) (by decide) (by decide), E_SCHEMA_CHANGE, F_SCHEMA_CHANGE, by decide⟩
  have hr := own_rf_no l Z a0 hw [] c h0 n0 Z0 h1 h2 h3 h4 h5
  by_cases hlo : c < (1 : Int32)
  · exact Or.inr ⟨own_fc_lo l Z a0 hw [] c h0 n0 Z0 hlo, hr⟩
  · exact Or.inr ⟨own_fc_hi l Z a0 hw [] c w2 cl (5 : Int32) h0 n0 Z0 SB A S (by decide) hlo (own_hi hlo h1 h2 h3 h4 h5), hr⟩
set_option maxRecDepth 65536 in
theorem own_law (l : Launch) (a0 : Array Value) (Z : State) (h0 : Heap) (w2 : Addr) (cl : Cell) (SB : Sta Z h0 "com/example/wireloom/wireloom/cql/ResultKind" "BY_ORDINAL" "[Lcom/example/wireloom/wireloom/cql/ResultKind;" (.ref w2)) (A : Arr Z h0 w2 cl (.object "com/example/wireloom/wireloom/cql/ResultKind")) (S : cl.slots.size = (5 : Int32).toNatClampNeg) (w_VOID : Addr) (S_VOID : Sta Z h0 "com/example/wireloom/wireloom/cql/ResultKind" "VOID" "Lcom/example/wireloom/wireloom/cql/ResultKind;" (.ref w_VOID)) (E_VOID : Exa Z h0 w_VOID "com/example/wireloom/wireloom/cql/ResultKind") (F_VOID : Fld Z h0 w_VOID "java/lang/Enum" "ordinal" "I" (.int (0 : Int32))) (P_VOID : ¬ ((0 : Int32) < 0 ∨ cl.slots.size ≤ (0 : Int32).toNatClampNeg) ∧ cl.slots[(0 : Int32).toNatClampNeg]? = some (.ref w_VOID)) (w_ROWS : Addr) (S_ROWS : Sta Z h0 "com/example/wireloom/wireloom/cql/ResultKind" "ROWS" "Lcom/example/wireloom/wireloom/cql/ResultKind;" (.ref w_ROWS)) (E_ROWS : Exa Z h0 w_ROWS "com/example/wireloom/wireloom/cql/ResultKind") (F_ROWS : Fld Z h0 w_ROWS "java/lang/Enum" "ordinal" "I" (.int (1 : Int32))) (P_ROWS : ¬ ((1 : Int32) < 0 ∨ cl.slots.size ≤ (1 : Int32).toNatClampNeg) ∧ cl.slots[(1 : Int32).toNatClampNeg]? = some (.ref w_ROWS)) (w_SET_KEYSPACE : Addr) (S_SET_KEYSPACE : Sta Z h0 "com/example/wireloom/wireloom/cql/ResultKind" "SET_KEYSPACE" "Lcom/example/wireloom/wireloom/cql/ResultKind;" (.ref w_SET_KEYSPACE)) (E_SET_KEYSPACE : Exa Z h0 w_SET_KEYSPACE "com/example/wireloom/wireloom/cql/ResultKind") (F_SET_KEYSPACE : Fld Z h0 w_SET_KEYSPACE "java/lang/Enum" "ordinal" "I" (.int (2 : Int32))) (P_SET_KEYSPACE : ¬ ((2 : Int32) < 0 ∨ cl.slots.size ≤ (2 : Int32).toNatClampNeg) ∧ cl.slots[(2 : Int32).toNatClampNeg]? = some (.ref w_SET_KEYSPACE)) (w_PREPARED : Addr) (S_PREPARED : Sta Z h0 "com/example/wireloom/wireloom/cql/ResultKind" "PREPARED" "Lcom/example/wireloom/wireloom/cql/ResultKind;" (.ref w_PREPARED)) (E_PREPARED : Exa Z h0 w_PREPARED "com/example/wireloom/wireloom/cql/ResultKind") (F_PREPARED : Fld Z h0 w_PREPARED "java/lang/Enum" "ordinal" "I" (.int (3 : Int32))) (P_PREPARED : ¬ ((3 : Int32) < 0 ∨ cl.slots.size ≤ (3 : Int32).toNatClampNeg) ∧ cl.slots[(3 : Int32).toNatClampNeg]? = some (.ref w_PREPARED)) (w_SCHEMA_CHANGE : Addr) (S_SCHEMA_CHANGE : Sta Z h0 "com/example/wireloom/wireloom/cql/ResultKind" "SCHEMA_CHANGE" "Lcom/example/wireloom/wireloom/cql/ResultKind;" (.ref w_SCHEMA_CHANGE)) (E_SCHEMA_CHANGE : Exa Z h0 w_SCHEMA_CHANGE "com/example/wireloom/wireloom/cql/ResultKind") (F_SCHEMA_CHANGE : Fld Z h0 w_SCHEMA_CHANGE "java/lang/Enum" "ordinal" "I" (.int (4 : Int32))) (P_SCHEMA_CHANGE : ¬ ((4 : Int32) < 0 ∨ cl.slots.size ≤ (4 : Int32).toNatClampNeg) ∧ cl.slots[(4 : Int32).toNatClampNeg]? = some (.ref w_SCHEMA_CHANGE)) (hw : ∀ d ∈ tables_1, d.before a0 Z = true) (ws : List Jvm.Cond) (n0 : Nat) (Z0 : n0 ≤ h0.size) (p1 p2 : Int32) :
    MetFree l x (head1 (Jvm.Cond.code x code maxLocals ret :: ws) room_1) (fun a U => a = #[(.int p1), (.int p2)] ∧ Z.Warmed39 U.vm ∧ U.heap = h0) (fun _ _ _ _ _ => True) (fun _ U o U' => ∃ v L, o = .returned v ∧ own_one n0 v U'.heap L ∧ FrameEnd U o U' L room_1.cells room_1.slots) := by
  by_cases hm : (p2 &&& (1 : Int32)) = (0 : Int32)
  · rcases own_pick l a0 Z h0 w2 cl SB A S w_VOID S_VOID E_VOID F_VOID P_VOID w_ROWS S_ROWS E_ROWS F_ROWS P_ROWS w_SET_KEYSPACE S_SET_KEYSPACE E_SET_KEYSPACE F_SET_KEYSPACE P_SET_KEYSPACE w_PREPARED S_PREPARED E_PREPARED F_PREPARED P_PREPARED w_SCHEMA_CHANGE S_SCHEMA_CHANGE E_SCHEMA_CHANGE F_SCHEMA_CHANGE P_SCHEMA_CHANGE hw n0 Z0 ((p1 &&& (7 : Int32)) - (1 : Int32)) with ⟨ak, k, q1, q2, q3, q4, q5⟩ | ⟨q1, q2⟩
    · exact own_law_t l Z a0 hw ws p1 p2 ak k h0 n0 Z0 hm q1 q2 q3 q4 q5
    · exact own_law_tn l Z a0 hw ws p1 p2 h0 n0 Z0 hm q1 q2
  · rcases own_pick l a0 Z h0 w2 cl SB A S w_VOID S_VOID E_VOID F_VOID P_VOID w_ROWS S_ROWS E_ROWS F_ROWS P_ROWS w_SET_KEYSPACE S_SET_KEYSPACE E_SET_KEYSPACE F_SET_KEYSPACE P_SET_KEYSPACE w_PREPARED S_PREPARED E_PREPARED F_PREPARED P_PREPARED w_SCHEMA_CHANGE S_SCHEMA_CHANGE E_SCHEMA_CHANGE F_SCHEMA_CHANGE P_SCHEMA_CHANGE hw n0 Z0 p1 with ⟨ak, k, q1, q2, q3, q4, q5⟩ | ⟨q1, q2⟩
    · exact own_law_f l Z a0 hw ws p1 p2 ak k h0 n0 Z0 hm q1 q2 q3 q4 q5
    · exact own_law_fn l Z a0 hw ws p1 p2 h0 n0 Z0 hm q1 q2
set_option maxRecDepth 65536 in
set_option maxHeartbeats 40000000 in
theorem comes_1 {Post : Tables → Env → Array Value → State → Outcome → State → Prop} (hpost : ∀ tb e args s v u, (limb_1_1.after args s (.returned v) u = true ∧ limb_1_2.after args s (.returned v) u = true ∧ True) → FrameEnd s (.returned v) u (Jvm.fieldLocs frame_1_writes args s ++ Jvm.arrayLocs frame_1_arrays args s ++ Jvm.staticLocs frame_1_statics s) 0 0 → Post tb e args s (.returned v) u) :
    ArmFor flags0 classFile x code maxLocals ret World_1 tables_1 room_1 Calls_1 rest_1 Pre_1 Post := by
  intro l hfl _ _ p e ha hc hk s m args below hf hA hF happ hP
  obtain ⟨hcalls, hrest, hpre⟩ := hP
  obtain ⟨-, -, -, hnamed, -, -, -, hat⟩ := (Spec.applies_iff hf).mp happ
  obtain ⟨hg, hn⟩ := and_e (Cond.before_iff.mp (show (Jvm.Cond.and given_1 narrow_1).before args s = true from hpre))
  obtain ⟨g6, g7⟩ := and_e hg
  obtain ⟨g8, g9⟩ := and_e g7
  obtain ⟨w0, w1, rfl⟩ : ∃ w0 w1 : Value, args = #[w0, w1] := by
    have hs : args.size = 2 := by simpa [Cond.value, given_1] using g6
    obtain ⟨L⟩ := args
    match L, hs with
    | [w0, w1], _ => exact ⟨w0, w1, rfl⟩
  have hw := fun d (hd : d ∈ tables_1) => atoms_spec (ws := Jvm.Cond.code x code maxLocals ret :: tables_1) hat d (List.mem_cons_of_mem _ hd)
  have hfit : Fit s := fun {y c} hc i hi => by
    obtain ⟨ha, rfl⟩ := Array.getElem?_eq_some_iff.mp hc
    have q := List.all_eq_true.mp ((Array.all_eq_true_iff_forall_mem.mp hF) _ (Array.getElem_mem ha)) i (List.mem_range.mpr hi)
    simpa [Array.getElem?_eq_getElem hi] using q
  obtain ⟨i0, ei0⟩ := is_v g8
  obtain rfl : w0 = (.int i0) := Option.some.inj ei0
  obtain ⟨i1, ei1⟩ := is_v g9
  obtain rfl : w1 = (.int i1) := Option.some.inj ei1
  obtain ⟨m1, hn⟩ := and_e hn
  obtain ⟨m2, hn⟩ := and_e hn
  obtain ⟨w2, ev2⟩ := arr_v m1
  obtain ⟨cl, A⟩ := Arr.start ev2 m1
  have SB : Sta s s.heap "com/example/wireloom/wireloom/cql/ResultKind" "BY_ORDINAL" "[Lcom/example/wireloom/wireloom/cql/ResultKind;" (.ref w2) := Sta.start ev2 (Or.inr ⟨(hw _ (List.mem_of_getElem? (i := 2) rfl)), (hw _ (List.mem_of_getElem? (i := 9) rfl))⟩)
  have S := (own_size (own_len ev2 A m2)).1
  obtain ⟨mE_SCHEMA_CHANGE, hn⟩ := and_e hn
  obtain ⟨mP_SCHEMA_CHANGE, hn⟩ := and_e hn
  obtain ⟨mF_SCHEMA_CHANGE, hn⟩ := and_e hn
  obtain ⟨w_SCHEMA_CHANGE, ev_SCHEMA_CHANGE⟩ := exa_v mE_SCHEMA_CHANGE
  have E_SCHEMA_CHANGE : Exa s s.heap w_SCHEMA_CHANGE "com/example/wireloom/wireloom/cql/ResultKind" := Exa.start ev_SCHEMA_CHANGE mE_SCHEMA_CHANGE
  have S_SCHEMA_CHANGE : Sta s s.heap "com/example/wireloom/wireloom/cql/ResultKind" "SCHEMA_CHANGE" "Lcom/example/wireloom/wireloom/cql/ResultKind;" (.ref w_SCHEMA_CHANGE) := Sta.start ev_SCHEMA_CHANGE (Or.inr ⟨(hw _ (List.mem_of_getElem? (i := 2) rfl)), (hw _ (List.mem_of_getElem? (i := 10) rfl))⟩)
  have F_SCHEMA_CHANGE : Fld s s.heap w_SCHEMA_CHANGE "java/lang/Enum" "ordinal" "I" (.int (4 : Int32)) := Fld.start ((fld_at ev_SCHEMA_CHANGE).symm.trans (own_eqI mF_SCHEMA_CHANGE))
  have P_SCHEMA_CHANGE := own_elem ev2 A ev_SCHEMA_CHANGE mP_SCHEMA_CHANGE
  obtain ⟨mE_SET_KEYSPACE, hn⟩ := and_e hn
  obtain ⟨mP_SET_KEYSPACE, hn⟩ := and_e hn
  obtain ⟨mF_SET_KEYSPACE, hn⟩ := and_e hn
  obtain ⟨w_SET_KEYSPACE, ev_SET_KEYSPACE⟩ := exa_v mE_SET_KEYSPACE
  have E_SET_KEYSPACE : Exa s s.heap w_SET_KEYSPACE "com/example/wireloom/wireloom/cql/ResultKind" := Exa.start ev_SET_KEYSPACE mE_SET_KEYSPACE
  have S_SET_KEYSPACE : Sta s s.heap "com/example/wireloom/wireloom/cql/ResultKind" "SET_KEYSPACE" "Lcom/example/wireloom/wireloom/cql/ResultKind;" (.ref w_SET_KEYSPACE) := Sta.start ev_SET_KEYSPACE (Or.inr ⟨(hw _ (List.mem_of_getElem? (i := 2) rfl)), (hw _ (List.mem_of_getElem? (i := 26) rfl))⟩)
  have F_SET_KEYSPACE : Fld s s.heap w_SET_KEYSPACE "java/lang/Enum" "ordinal" "I" (.int (2 : Int32)) := Fld.start ((fld_at ev_SET_KEYSPACE).symm.trans (own_eqI mF_SET_KEYSPACE))
  have P_SET_KEYSPACE := own_elem ev2 A ev_SET_KEYSPACE mP_SET_KEYSPACE
  obtain ⟨mE_PREPARED, hn⟩ := and_e hn
  obtain ⟨mP_PREPARED, hn⟩ := and_e hn
  obtain ⟨mF_PREPARED, hn⟩ := and_e hn
  obtain ⟨w_PREPARED, ev_PREPARED⟩ := exa_v mE_PREPARED
  have E_PREPARED : Exa s s.heap w_PREPARED "com/example/wireloom/wireloom/cql/ResultKind" := Exa.start ev_PREPARED mE_PREPARED
  have S_PREPARED : Sta s s.heap "com/example/wireloom/wireloom/cql/ResultKind" "PREPARED" "Lcom/example/wireloom/wireloom/cql/ResultKind;" (.ref w_PREPARED) := Sta.start ev_PREPARED (Or.inr ⟨(hw _ (List.mem_of_getElem? (i := 2) rfl)), (hw _ (List.mem_of_getElem? (i := 28) rfl))⟩)
  have F_PREPARED : Fld s s.heap w_PREPARED "java/lang/Enum" "ordinal" "I" (.int (3 : Int32)) := Fld.start ((fld_at ev_PREPARED).symm.trans (own_eqI mF_PREPARED))
  have P_PREPARED := own_elem ev2 A ev_PREPARED mP_PREPARED
  obtain ⟨mE_VOID, hn⟩ := and_e hn
  obtain ⟨mP_VOID, hn⟩ := and_e hn
  obtain ⟨mF_VOID, hn⟩ := and_e hn
  obtain ⟨w_VOID, ev_VOID⟩ := exa_v mE_VOID
  have E_VOID : Exa s s.heap w_VOID "com/example/wireloom/wireloom/cql/ResultKind" := Exa.start ev_VOID mE_VOID
  have S_VOID : Sta s s.heap "com/example/wireloom/wireloom/cql/ResultKind" "VOID" "Lcom/example/wireloom/wireloom/cql/ResultKind;" (.ref w_VOID) := Sta.start ev_VOID (Or.inr ⟨(hw _ (List.mem_of_getElem? (i := 2) rfl)), (hw _ (List.mem_of_getElem? (i := 30) rfl))⟩)
  have F_VOID : Fld s s.heap w_VOID "java/lang/Enum" "ordinal" "I" (.int (0 : Int32)) := Fld.start ((fld_at ev_VOID).symm.trans (own_eqI mF_VOID))
  have P_VOID := own_elem ev2 A ev_VOID mP_VOID
  obtain ⟨mE_ROWS, hn⟩ := and_e hn
  obtain ⟨mP_ROWS, hn⟩ := and_e hn
  have mF_ROWS := hn
  obtain ⟨w_ROWS, ev_ROWS⟩ := exa_v mE_ROWS
  have E_ROWS : Exa s s.heap w_ROWS "com/example/wireloom/wireloom/cql/ResultKind" := Exa.start ev_ROWS mE_ROWS
  have S_ROWS : Sta s s.heap "com/example/wireloom/wireloom/cql/ResultKind" "ROWS" "Lcom/example/wireloom/wireloom/cql/ResultKind;" (.ref w_ROWS) := Sta.start ev_ROWS (Or.inr ⟨(hw _ (List.mem_of_getElem? (i := 2) rfl)), (hw _ (List.mem_of_getElem? (i := 32) rfl))⟩)
  have F_ROWS : Fld s s.heap w_ROWS "java/lang/Enum" "ordinal" "I" (.int (1 : Int32)) := Fld.start ((fld_at ev_ROWS).symm.trans (own_eqI mF_ROWS))
  have P_ROWS := own_elem ev2 A ev_ROWS mP_ROWS
  obtain ⟨n, o, h1, h2, h3, _, L, rfl, ⟨rfl, N⟩, hq⟩ := own_law l _ s s.heap w2 cl SB A S w_VOID S_VOID E_VOID F_VOID P_VOID w_ROWS S_ROWS E_ROWS F_ROWS P_ROWS w_SET_KEYSPACE S_SET_KEYSPACE E_SET_KEYSPACE F_SET_KEYSPACE P_SET_KEYSPACE w_PREPARED S_PREPARED E_PREPARED F_PREPARED P_PREPARED w_SCHEMA_CHANGE S_SCHEMA_CHANGE E_SCHEMA_CHANGE F_SCHEMA_CHANGE P_SCHEMA_CHANGE hw tables_1 s.heap.size (Nat.le_refl _) i0 i1 p e ha hc hk s m _ below hf ((Spec.applies_iff_loose hf).mp happ).1 ⟨rfl, State.Warmed39.refl s, rfl⟩ trivial
  refine ⟨n, _, h1, h2, h3, hpost _ _ _ _ _ _ ⟨Cond.after_iff.mpr rfl, Cond.after_iff.mpr (eq_i res_at (Term.int_eval (1)) rfl), trivial⟩ ⟨hq.1, hq.2.1, (hq.2.2.sift fun y hy => Or.inr (N y hy)).mono (by decide) (by decide)⟩⟩
theorem main_1_1 : Claimed_1_1 := comes_1 fun _ _ _ _ _ _ h hF => ⟨h.1, hF⟩
theorem main_1_2 : Claimed_1_2 := comes_1 fun _ _ _ _ _ _ h hF => ⟨h.2.1, hF⟩
end Jvm.Pilot.@@N@@
namespace Jvm.Pilot.@@N@@
open Jvm Jvm.ClassFile Sem Op Lib Jvm.Free Jvm.Stand Jvm.Pilot.@@N@@.Jvm.D
/-! MADE BY PROGRAM (witnessworld.py) out of the Statement's table words and the real class files: 13 classes; the members and pool entries that the words name. The judged class is class 1, her method 1. -/
namespace start1
open Jvm.ClassFile
def u (s : String) : CpInfo := .utf8 (stringToUtf16 s)
/-- a pool by its gaps: so many unusable entries, then the entry; so many at the end -/
def gap : Nat → List CpInfo → List CpInfo
  | 0, r => r
  | n + 1, r => .unusable :: gap n r
def poolList (es : List (Nat × CpInfo)) (last : Nat) : List CpInfo := es.foldr (fun e r => gap e.1 (e.2 :: r)) (gap last [])
def pool (es : List (Nat × CpInfo)) (last : Nat) : Array CpInfo := ⟨poolList es last⟩
def fileOf (pool : Array CpInfo) (this : Nat) (attrs : Array Attribute := #[]) (ms : Array MethodInfo := #[]) (fl : Nat := 33) (sup : Nat := 0) (ifs : Array Nat := #[]) (fds : Array FieldInfo := #[]) : ClassFile where
  minorVersion := 0
  majorVersion := 65
  constantPool := pool
  accessFlags := fl
  thisClass := this
  superClass := sup
  interfaces := ifs
  fields := fds
  methods := ms
  attributes := attrs
def plain (name : String) (sup : Option ClassId) : Class where
  name := name
  kind := .ordinary
  loader := none
  accessFlags := 33
  super := sup
  interfaces := #[]
  cf := none
  fields := #[]
  methods := #[]
  instanceTypes := #[]
  staticTypes := #[]
  resolved := #[]
  callSites := []
  init := .initialized
  statics := none
  mirror := none

def pool0 : Array CpInfo := pool [(5, u "<init>"), (0, u "()V"), (1, .class_ 10), (1, u "java/lang/Object")] 113

def k0m0 : Method := { name := "<init>", desc := "()V", sig := { parameters := [], returnType := none }, accessFlags := 1, code := none }
/-- java/lang/Object -/
def k0 : Class := { plain "java/lang/Object" none with
  accessFlags := 33
  interfaces := #[]
  cf := some (fileOf pool0 8 #[] #[{ accessFlags := 1, nameIndex := 5, descriptorIndex := 6, attributes := #[] }] 33 0 #[] #[])
  fields := #[]
  methods := #[k0m0]
  instanceTypes := #[]
  staticTypes := #[]
  resolved := Array.replicate 124 none
  statics := none }

def pool1 : Array CpInfo := pool [(2, .class_ 4), (1, u "java/lang/Object"), (0, u "<init>"), (0, u "()V"), (0, .methodref 8 9), (0, .class_ 10), (0, .nameAndType 11 12), (0, u "com/example/wireloom/wireloom/cql/ResultKind"), (0, u "forCode"), (0, u "(I)Lcom/example/wireloom/wireloom/cql/ResultKind;"), (0, .methodref 14 15), (0, .class_ 16), (0, .nameAndType 17 12), (0, u "com/example/wireloom/wireloom/cql/ResultKindForCodePinLaw"), (0, u "reference"), (0, .methodref 8 19), (0, .nameAndType 20 21), (0, u "code"), (0, u "()I"), (0, .fieldref 8 23), (0, .nameAndType 24 25), (0, u "VOID"), (0, u "Lcom/example/wireloom/wireloom/cql/ResultKind;"), (0, .fieldref 8 27), (0, .nameAndType 28 25), (0, u "ROWS"), (0, .fieldref 8 30), (0, .nameAndType 31 25), (0, u "SET_KEYSPACE"), (0, .fieldref 8 33), (0, .nameAndType 34 25), (0, u "PREPARED"), (0, .fieldref 8 36), (0, .nameAndType 37 25), (0, u "SCHEMA_CHANGE"), (2, u "law"), (0, u "(II)Z")] 3

def k1m0 : Method := { name := "<init>", desc := "()V", sig := { parameters := [], returnType := none }, accessFlags := 1, code := none }
def k1c1 : Code := { maxStack := 2, maxLocals := 5, code := code, exceptionTable := #[], attributes := #[] }
def k1m1 : Method := { name := "law", desc := "(II)Z", sig := { parameters := [.int, .int], returnType := some .boolean }, accessFlags := 9, code := some k1c1 }
def k1c2 : Code := { maxStack := 2, maxLocals := 1, code := method_3_code, exceptionTable := #[], attributes := #[] }
def k1m2 : Method := { name := "reference", desc := "(I)Lcom/example/wireloom/wireloom/cql/ResultKind;", sig := { parameters := [.int], returnType := some (.object "com/example/wireloom/wireloom/cql/ResultKind") }, accessFlags := 10, code := some k1c2 }
/-- com/example/wireloom/wireloom/cql/ResultKindForCodePinLaw -/
def k1 : Class := { plain "com/example/wireloom/wireloom/cql/ResultKindForCodePinLaw" (some 0) with
  accessFlags := 49
  interfaces := #[]
  cf := some (fileOf pool1 14 #[] #[{ accessFlags := 1, nameIndex := 5, descriptorIndex := 6, attributes := #[] }, { accessFlags := 9, nameIndex := 40, descriptorIndex := 41, attributes := #[] }, { accessFlags := 10, nameIndex := 17, descriptorIndex := 12, attributes := #[] }] 49 2 #[] #[])
  fields := #[]
  methods := #[k1m0, k1m1, k1m2]
  instanceTypes := #[]
  staticTypes := #[]
  resolved := Array.replicate 45 none
  statics := none }

def pool2 : Array CpInfo := pool [(1, .class_ 2), (0, u "java/lang/constant/Constable"), (0, .class_ 4), (0, u "java/lang/Object")] 6

/-- java/lang/constant/Constable -/
def k2 : Class := { plain "java/lang/constant/Constable" (some 0) with
  accessFlags := 1537
  interfaces := #[]
  cf := some (fileOf pool2 1 #[] #[] 1537 3 #[] #[])
  fields := #[]
  methods := #[]
  instanceTypes := #[]
  staticTypes := #[]
  resolved := Array.replicate 11 none
  statics := none }

def pool3 : Array CpInfo := pool [(1, .class_ 2), (0, u "java/lang/Comparable"), (0, .class_ 4), (0, u "java/lang/Object")] 7

/-- java/lang/Comparable -/
def k3 : Class := { plain "java/lang/Comparable" (some 0) with
  accessFlags := 1537
  interfaces := #[]
  cf := some (fileOf pool3 1 #[] #[] 1537 3 #[] #[])
  fields := #[]
  methods := #[]
  instanceTypes := #[]
  staticTypes := #[]
  resolved := Array.replicate 12 none
  statics := none }

def pool4 : Array CpInfo := pool [(1, .class_ 2), (0, u "java/io/Serializable"), (0, .class_ 4), (0, u "java/lang/Object")] 2

/-- java/io/Serializable -/
def k4 : Class := { plain "java/io/Serializable" (some 0) with
  accessFlags := 1537
  interfaces := #[]
  cf := some (fileOf pool4 1 #[] #[] 1537 3 #[] #[])
  fields := #[]
  methods := #[]
  instanceTypes := #[]
  staticTypes := #[]
  resolved := Array.replicate 7 none
  statics := none }

def pool5 : Array CpInfo := pool [(2, .class_ 4), (1, u "java/lang/Enum"), (0, u "name"), (0, u "Ljava/lang/String;"), (0, .fieldref 2 8), (0, .nameAndType 9 10), (0, u "ordinal"), (0, u "I"), (1, .class_ 14), (1, u "java/lang/Object"), (4, u "hash"), (86, .class_ 108), (1, u "java/lang/Enum$EnumDesc"), (2, .class_ 112), (0, u "java/lang/constant/Constable"), (0, .class_ 114), (0, u "java/lang/Comparable"), (0, .class_ 116), (0, u "java/io/Serializable"), (9, u "()I")] 77

def k5c0 : Code := { maxStack := 1, maxLocals := 1, code := jdk_37_method_2_code, exceptionTable := #[], attributes := #[] }
def k5m0 : Method := { name := "ordinal", desc := "()I", sig := { parameters := [], returnType := some .int }, accessFlags := 17, code := some k5c0 }
/-- java/lang/Enum -/
def k5 : Class := { plain "java/lang/Enum" (some 0) with
  accessFlags := 1057
  interfaces := #[2, 3, 4]
  cf := some (fileOf pool5 2 #[.nestMembers #[106]] #[{ accessFlags := 17, nameIndex := 9, descriptorIndex := 126, attributes := #[] }] 1057 12 #[111, 113, 115] #[{ accessFlags := 18, nameIndex := 5, descriptorIndex := 6, attributes := #[] }, { accessFlags := 18, nameIndex := 9, descriptorIndex := 10, attributes := #[] }, { accessFlags := 2, nameIndex := 19, descriptorIndex := 10, attributes := #[] }])
  fields := #[{ name := "name", type := (.object "java/lang/String"), accessFlags := 18, slot := 0, constantValue := 0 }, { name := "ordinal", type := .int, accessFlags := 18, slot := 1, constantValue := 0 }, { name := "hash", type := .int, accessFlags := 2, slot := 2, constantValue := 0 }]
  methods := #[k5m0]
  instanceTypes := #[(.object "java/lang/String"), .int, .int]
  staticTypes := #[]
  resolved := Array.replicate 204 none
  statics := none }

def pool6 : Array CpInfo := pool [(1, .class_ 2), (0, u "com/example/wireloom/wireloom/cql/ResultKind"), (2, u "VOID"), (0, u "Lcom/example/wireloom/wireloom/cql/ResultKind;"), (2, u "ROWS"), (2, u "SET_KEYSPACE"), (2, u "PREPARED"), (2, u "SCHEMA_CHANGE"), (2, u "$VALUES"), (0, u "[Lcom/example/wireloom/wireloom/cql/ResultKind;"), (6, .class_ 31), (1, u "java/lang/Enum"), (6, .fieldref 1 39), (0, .nameAndType 40 22), (0, u "BY_ORDINAL"), (0, .methodref 1 42), (0, .nameAndType 43 44), (0, u "ordinal"), (0, u "()I"), (19, u "forCode"), (0, u "(I)Lcom/example/wireloom/wireloom/cql/ResultKind;"), (1, u "code")] 4

def k6c0 : Code := { maxStack := 3, maxLocals := 1, code := prog_118_method_4_code, exceptionTable := #[], attributes := #[] }
def k6m0 : Method := { name := "forCode", desc := "(I)Lcom/example/wireloom/wireloom/cql/ResultKind;", sig := { parameters := [.int], returnType := some (.object "com/example/wireloom/wireloom/cql/ResultKind") }, accessFlags := 8, code := some k6c0 }
def k6c1 : Code := { maxStack := 2, maxLocals := 1, code := prog_118_method_5_code, exceptionTable := #[], attributes := #[] }
def k6m1 : Method := { name := "code", desc := "()I", sig := { parameters := [], returnType := some .int }, accessFlags := 1, code := some k6c1 }
/-- com/example/wireloom/wireloom/cql/ResultKind -/
def k6 : Class := { plain "com/example/wireloom/wireloom/cql/ResultKind" (some 5) with
  accessFlags := 16433
  interfaces := #[]
  cf := some (fileOf pool6 1 #[] #[{ accessFlags := 8, nameIndex := 64, descriptorIndex := 65, attributes := #[] }, { accessFlags := 1, nameIndex := 67, descriptorIndex := 44, attributes := #[] }] 16433 29 #[] #[{ accessFlags := 16409, nameIndex := 5, descriptorIndex := 6, attributes := #[] }, { accessFlags := 16409, nameIndex := 9, descriptorIndex := 6, attributes := #[] }, { accessFlags := 16409, nameIndex := 12, descriptorIndex := 6, attributes := #[] }, { accessFlags := 16409, nameIndex := 15, descriptorIndex := 6, attributes := #[] }, { accessFlags := 16409, nameIndex := 18, descriptorIndex := 6, attributes := #[] }, { accessFlags := 26, nameIndex := 40, descriptorIndex := 22, attributes := #[] }, { accessFlags := 4122, nameIndex := 21, descriptorIndex := 22, attributes := #[] }])
  fields := #[{ name := "VOID", type := (.object "com/example/wireloom/wireloom/cql/ResultKind"), accessFlags := 16409, slot := 0, constantValue := 0 }, { name := "ROWS", type := (.object "com/example/wireloom/wireloom/cql/ResultKind"), accessFlags := 16409, slot := 1, constantValue := 0 }, { name := "SET_KEYSPACE", type := (.object "com/example/wireloom/wireloom/cql/ResultKind"), accessFlags := 16409, slot := 2, constantValue := 0 }, { name := "PREPARED", type := (.object "com/example/wireloom/wireloom/cql/ResultKind"), accessFlags := 16409, slot := 3, constantValue := 0 }, { name := "SCHEMA_CHANGE", type := (.object "com/example/wireloom/wireloom/cql/ResultKind"), accessFlags := 16409, slot := 4, constantValue := 0 }, { name := "BY_ORDINAL", type := (.array (.object "com/example/wireloom/wireloom/cql/ResultKind")), accessFlags := 26, slot := 5, constantValue := 0 }, { name := "$VALUES", type := (.array (.object "com/example/wireloom/wireloom/cql/ResultKind")), accessFlags := 4122, slot := 6, constantValue := 0 }]
  methods := #[k6m0, k6m1]
  instanceTypes := #[(.object "java/lang/String"), .int, .int]
  staticTypes := #[(.object "com/example/wireloom/wireloom/cql/ResultKind"), (.object "com/example/wireloom/wireloom/cql/ResultKind"), (.object "com/example/wireloom/wireloom/cql/ResultKind"), (.object "com/example/wireloom/wireloom/cql/ResultKind"), (.object "com/example/wireloom/wireloom/cql/ResultKind"), (.array (.object "com/example/wireloom/wireloom/cql/ResultKind")), (.array (.object "com/example/wireloom/wireloom/cql/ResultKind"))]
  resolved := Array.replicate 72 none
  statics := some 0 }

def pool7 : Array CpInfo := pool [(1, u "java/lang/Cloneable"), (0, .class_ 1), (0, u "java/lang/Object"), (0, .class_ 3)] 3

/-- java/lang/Cloneable -/
def k7 : Class := { plain "java/lang/Cloneable" (some 0) with
  accessFlags := 1537
  interfaces := #[]
  cf := some (fileOf pool7 2 #[] #[] 1537 4 #[] #[])
  fields := #[]
  methods := #[]
  instanceTypes := #[]
  staticTypes := #[]
  resolved := Array.replicate 8 none
  statics := none }

/-- the primitive byte -/
def k8 : Class := { plain "byte" none with kind := .primitive 'B', accessFlags := 0x411 }
/-- [B -/
def k9 : Class := { plain "[B" (some 0) with kind := .array 8 .byte, interfaces := #[7, 4], accessFlags := 1041 }

/-- the primitive int -/
def k10 : Class := { plain "int" none with kind := .primitive 'I', accessFlags := 0x411 }
/-- [I -/
def k11 : Class := { plain "[I" (some 0) with kind := .array 10 .int, interfaces := #[7, 4], accessFlags := 1041 }

/-- [Lcom/example/wireloom/wireloom/cql/ResultKind; -/
def k12 : Class := { plain "[Lcom/example/wireloom/wireloom/cql/ResultKind;" (some 0) with kind := .array 6 (.object "com/example/wireloom/wireloom/cql/ResultKind"), interfaces := #[7, 4], accessFlags := 1041 }

def heap : Heap := #[{ cls := 6, slots := #[.ref 2, .ref 3, .ref 4, .ref 5, .ref 6, .ref 1, .null], vm := .statics 6 },
  { cls := 12, slots := #[.ref 2, .ref 3, .ref 4, .ref 5, .ref 6], vm := .none },
  { cls := 6, slots := #[.null, .int 0, .int 0], vm := .none },
  { cls := 6, slots := #[.null, .int 1, .int 0], vm := .none },
  { cls := 6, slots := #[.null, .int 2, .int 0], vm := .none },
  { cls := 6, slots := #[.null, .int 3, .int 0], vm := .none },
  { cls := 6, slots := #[.null, .int 4, .int 0], vm := .none }]
def classes : Array Class := #[k0, k1, k2, k3, k4, k5, k6, k7, k8, k9, k10, k11, k12]
def interned : List (Array UInt16 × Addr) := []
def slotsUsed : Nat := 27
def theMethod : MethodId := ⟨1, 1⟩
def args0 : Array Value := #[.int 5, .int 0]
def aboutOver (below : List Frame) : State where
  vm := { classes := classes, interned := interned.toArray }
  heap := heap
  slotsUsed := slotsUsed
  threads := #[{ frames := .invoking theMethod args0 :: below }]
def below0 : List Frame := [.native { method := ⟨0, 0⟩, args := #[] }]
def about1 : State := aboutOver below0
def p0 : Program := .bare "" "" ""
def e0 : Env := launch0.env 0 0 0
theorem w_frames : about1.frames = Frame.invoking theMethod args0 :: below0 := rfl
set_option maxRecDepth 65536 in
theorem w_args : argsFit about1.vm theMethod args0 = true := by decide +kernel
set_option maxRecDepth 65536 in
theorem w_heap : heapFits about1 = true := by decide +kernel
set_option maxRecDepth 65536 in
theorem w_runnable : about1.curStatus? = some .runnable := by decide +kernel
set_option maxRecDepth 65536 in
theorem w_alone : about1.alone = true := by decide +kernel
set_option maxRecDepth 65536 in
theorem w_named : about1.methodNamed? x = some theMethod := by decide +kernel
set_option maxRecDepth 65536 in
theorem w_hears : about1.hears theMethod below0 = true := by decide +kernel
set_option maxRecDepth 65536 in
theorem w_ripe : about1.ripe theMethod args0 below0 = true := by decide +kernel
theorem w_running : about1.status = .running := rfl
set_option maxRecDepth 65536 in
theorem w_room : about1.hasRoom e0.platform room_1 = true :=
  launch0.hasRoom_least _ room_1 (by decide +kernel) (by decide +kernel) (by decide +kernel) (by decide +kernel) (by decide +kernel) (by decide +kernel)
theorem allAtoms_all (ts : List Jvm.Cond) (a : Array Jvm.Value) (st : Jvm.State) : (allAtoms ts).before a st = ts.all (fun c => c.before a st) := by
  induction ts with
  | nil => rfl
  | cons c t ih =>
    show (Jvm.Cond.and c (allAtoms t)).before a st = _
    rw [Jvm.Cond.before_and, ih, List.all_cons]
def words1 : List Jvm.Cond := Jvm.Cond.code x code maxLocals ret :: tables_1
/-- a 'code' word, met by the world's own term for the bytes: nothing is compared byte by byte -/
theorem code_word {y : MethodName} {bytes : ByteArray} {mx : Nat} {rt : Option FieldType} {a : Array Value} {s : State} {m : MethodId} {meth : Method} {c : Code} (h1 : s.methodNamed? y = some m) (h2 : s.vm.method? m = some meth) (h3 : meth.code = some c) (h4 : c.code = bytes)
    (h5 : (c.maxLocals == mx && c.exceptionTable.isEmpty && decide (c.maxStack ≤ mostOperands) && decide (meth.sig.returnType = rt) && !meth.locks && decide (parseMethodDescriptor y.desc = some meth.sig)) = true) : (Jvm.Cond.code y bytes mx rt).before a s = true := by
  simp only [Bool.and_eq_true, beq_iff_eq, Bool.not_eq_true', decide_eq_true_eq] at h5
  obtain ⟨⟨⟨⟨⟨g1, g2⟩, g3⟩, g4⟩, g5⟩, g6⟩ := h5
  simp [Cond.before, Cond.holds, Cond.value, h1, h2, h3, h4, g1, g2, g3, g4, g5, g6]
def isCode : Jvm.Cond → Bool
  | .code _ _ _ _ => true
  | _ => false
theorem all_split {L : List Jvm.Cond} {P : Jvm.Cond → Bool} (h1 : L.all (fun c => isCode c || P c) = true) (h2 : ∀ c ∈ L.filter isCode, P c = true) : L.all P = true := by
  refine List.all_eq_true.mpr fun c hc => ?_
  have h := List.all_eq_true.mp h1 c hc
  rcases Bool.eq_false_or_eq_true (isCode c) with hi | hi
  · exact h2 c (List.mem_filter.mpr ⟨hc, hi⟩)
  · simpa [hi] using h
set_option maxRecDepth 65536 in
theorem w_c0 : (Jvm.Cond.code x code maxLocals ret).before args0 about1 = true := code_word (m := ⟨1, 1⟩) (meth := k1m1) (c := k1c1) (by decide +kernel) rfl rfl rfl (by decide +kernel)
set_option maxRecDepth 65536 in
theorem w_c1 : (Jvm.Cond.code ({ cls := "com/example/wireloom/wireloom/cql/ResultKind", name := "forCode", desc := "(I)Lcom/example/wireloom/wireloom/cql/ResultKind;" } : Jvm.MethodName) prog_118_method_4_code (1 : Nat) (Option.some (Jvm.ClassFile.FieldType.object "com/example/wireloom/wireloom/cql/ResultKind"))).before args0 about1 = true := code_word (m := ⟨6, 0⟩) (meth := k6m0) (c := k6c0) (by decide +kernel) rfl rfl rfl (by decide +kernel)
set_option maxRecDepth 65536 in
theorem w_c2 : (Jvm.Cond.code ({ cls := "com/example/wireloom/wireloom/cql/ResultKindForCodePinLaw", name := "reference", desc := "(I)Lcom/example/wireloom/wireloom/cql/ResultKind;" } : Jvm.MethodName) method_3_code (1 : Nat) (Option.some (Jvm.ClassFile.FieldType.object "com/example/wireloom/wireloom/cql/ResultKind"))).before args0 about1 = true := code_word (m := ⟨1, 2⟩) (meth := k1m2) (c := k1c2) (by decide +kernel) rfl rfl rfl (by decide +kernel)
set_option maxRecDepth 65536 in
theorem w_c3 : (Jvm.Cond.code ({ cls := "com/example/wireloom/wireloom/cql/ResultKind", name := "code", desc := "()I" } : Jvm.MethodName) prog_118_method_5_code (1 : Nat) (Option.some Jvm.ClassFile.FieldType.int)).before args0 about1 = true := code_word (m := ⟨6, 1⟩) (meth := k6m1) (c := k6c1) (by decide +kernel) rfl rfl rfl (by decide +kernel)
set_option maxRecDepth 65536 in
theorem w_c4 : (Jvm.Cond.code ({ cls := "java/lang/Enum", name := "ordinal", desc := "()I" } : Jvm.MethodName) jdk_37_method_2_code (1 : Nat) (Option.some Jvm.ClassFile.FieldType.int)).before args0 about1 = true := code_word (m := ⟨5, 0⟩) (meth := k5m0) (c := k5c0) (by decide +kernel) rfl rfl rfl (by decide +kernel)
def codes1 : List Jvm.Cond := [Jvm.Cond.code x code maxLocals ret, Jvm.Cond.code ({ cls := "com/example/wireloom/wireloom/cql/ResultKind", name := "forCode", desc := "(I)Lcom/example/wireloom/wireloom/cql/ResultKind;" } : Jvm.MethodName) prog_118_method_4_code (1 : Nat) (Option.some (Jvm.ClassFile.FieldType.object "com/example/wireloom/wireloom/cql/ResultKind")), Jvm.Cond.code ({ cls := "com/example/wireloom/wireloom/cql/ResultKindForCodePinLaw", name := "reference", desc := "(I)Lcom/example/wireloom/wireloom/cql/ResultKind;" } : Jvm.MethodName) method_3_code (1 : Nat) (Option.some (Jvm.ClassFile.FieldType.object "com/example/wireloom/wireloom/cql/ResultKind")), Jvm.Cond.code ({ cls := "com/example/wireloom/wireloom/cql/ResultKind", name := "code", desc := "()I" } : Jvm.MethodName) prog_118_method_5_code (1 : Nat) (Option.some Jvm.ClassFile.FieldType.int), Jvm.Cond.code ({ cls := "java/lang/Enum", name := "ordinal", desc := "()I" } : Jvm.MethodName) jdk_37_method_2_code (1 : Nat) (Option.some Jvm.ClassFile.FieldType.int)]
set_option maxRecDepth 65536 in
theorem codes_eq : words1.filter isCode = codes1 := rfl
theorem w_codes : ∀ c ∈ words1.filter isCode, c.before args0 about1 = true := by
  rw [codes_eq]
  intro c hc
  simp only [codes1, List.mem_cons, List.not_mem_nil, or_false] at hc
  rcases hc with rfl | rfl | rfl | rfl | rfl
  · exact w_c0
  · exact w_c1
  · exact w_c2
  · exact w_c3
  · exact w_c4
set_option maxRecDepth 65536 in
theorem w_t1 : (words1.take 24).all (fun c => isCode c || c.before args0 about1) = true := by decide +kernel
set_option maxRecDepth 65536 in
theorem w_t2 : (words1.drop 24).all (fun c => isCode c || c.before args0 about1) = true := by decide +kernel
theorem w_tables : (allAtoms (Jvm.Cond.code x code maxLocals ret :: tables_1)).before args0 about1 = true := by
  rw [allAtoms_all]
  show words1.all (fun c => c.before args0 about1) = true
  refine all_split ?_ w_codes
  rw [← List.take_append_drop 24 words1, List.all_append, w_t1, w_t2]
  rfl
set_option maxRecDepth 65536 in
theorem w_case : (Jvm.Cond.and given_1 narrow_1).before args0 about1 = true := by decide +kernel
theorem w_applies : (headSpec (Jvm.Cond.code x code maxLocals ret :: tables_1) room_1).applies x e0.platform about1 = true :=
  (Spec.applies_iff w_frames).mpr ⟨w_running, w_runnable, w_alone, w_named, w_hears, w_ripe, w_room, w_tables⟩
theorem atStart : AtStart classFile x code maxLocals ret World_1 tables_1 room_1 Calls_1 rest_1 Pre_1 launch0 p0 e0 about1 theMethod args0 below0 :=
  ⟨lists_1, trivial, launch0.admits_env _ _ _, launch0.least_env, fairChoices_fair.cas, fairChoices_fair.clock, w_frames, w_args, w_heap, w_applies, trivial, trivial, w_case⟩
end start1
theorem witness_1 : WitnessClaimed_1 := ⟨start1.p0, start1.e0, start1.about1, start1.theMethod, start1.args0, start1.below0, start1.atStart⟩
end Jvm.Pilot.@@N@@
