import JvmDerived
import JvmDerived.Pilot.@@N@@Statement
import JvmDerived.Pilot.@@N@@Code
set_option linter.unusedVariables false
set_option linter.unusedSimpArgs false
namespace Jvm.RoadKit
open Sem ClassFile Op Lib Jvm.Stand Jvm.Free Jvm.LawKit
section New
variable {p : Program} {l : Launch} {e : Env} {R : Room} {s : State} {m : MethodId} {args : Array Value} {below : List Frame} {meth : Method} {c : Code} {T : State} {locs : List Loc} {cells slots : Nat}
theorem retI (X : Stand p l e R s m args below meth c T locs cells slots) (hx : p.tables.exec = Jvm.exec) {pc : Nat} {Ls : Array Slot} {z : Int32} {rest : List Value} (hret : meth.sig.returnType = some .int) (hd : decode c.code pc = .ok (.ireturn, 1)) {fs : List Frame}
    (hl : ∀ (f : JFrame) (acts : List Action), f.method = m → f.locked = none → f.entered = [] → (doReturn e (T.setTop f) acts (some (.int z))).1 = T.setFrames fs) : Steps p.tables e below (T.setTop (mkF m pc Ls (.int z :: rest))) (T.setFrames fs) := by
  have hm' : T.vm.method? m = some meth := X.method'
  have hn : narrow .int (.int z) = .int z := rfl
  show Steps p.tables e below (T.setTop { method := m, pc := pc, locals := Ls, stack := _ :: rest, locked := none }) _
  jvm_step X.here [X.here.top, hx, hd, hm', hret, hn]
  first | (intro acts; rw [hl _ acts rfl rfl rfl]) | rw [hl _ _ rfl rfl rfl]
  exact Steps.refl _
end New
end Jvm.RoadKit
namespace Jvm.Pilot.@@N@@
open Jvm Jvm.ClassFile Sem Op Lib Jvm.Free Jvm.Stand Jvm.LawKit Jvm.RoadKit Bundle Jvm.Pilot.@@N@@.Jvm.D

theorem own_eqI {args : Array Value} {s : State} {t : Term} {k : Int32} (h : (Jvm.Cond.eq t (Term.int k)).value args s none s [] = some true) : t.eval args s none [] s = some (.int k) := by
  obtain ⟨x, y, hx, hy, k1, k2⟩ := cmp_v (Or.inl h)
  obtain rfl : y = .int k := Option.some.inj (hy.symm.trans rfl)
  obtain ⟨z, rfl⟩ : ∃ z, x = .int z := k2
  have q : z = k := by simpa [Jvm.Cond.value, hx, hy] using h
  rw [hx, q]
theorem own_eqR {args : Array Value} {s : State} {t u : Term} {a : Addr} (h : (Jvm.Cond.eq t u).value args s none s [] = some true) (hu : u.eval args s none [] s = some (.ref a)) : t.eval args s none [] s = some (.ref a) := by
  obtain ⟨x, y, hx, hy, k1, k2⟩ := cmp_v (Or.inl h)
  obtain rfl : y = .ref a := Option.some.inj (hy.symm.trans hu)
  have q : x.isRef = true ∧ (Value.ref a).isRef = true := ⟨k2.2, k2.1⟩
  have r := gotT (eq_R hx hy q.1 q.2) h
  rw [hx, r]
theorem own_len {args : Array Value} {s : State} {t : Term} {a : Addr} {c : Cell} {ty : FieldType} {n : Int32} (ev : t.eval args s none [] s = some (.ref a)) (A : Arr s s.heap a c ty) (h : (Jvm.Cond.eq (Term.length t) (Term.int n)).value args s none s [] = some true) : c.slots.size < 2 ^ 31 ∧ c.slots.size.toInt32 = n := by
  have e := own_eqI h
  have ha : s.arrayAt? a = some c := A.fin (Vm.Alike.refl _)
  simp only [Term.eval, Option.bind_eq_bind, ev, ha, Option.bind_some] at e
  by_cases q : c.slots.size < 2147483648
  · rw [if_pos q] at e
    exact ⟨q, by simpa using e⟩
  · rw [if_neg q] at e; cases e
theorem own_size {c : Cell} {n : Int32} (h : c.slots.size < 2 ^ 31 ∧ c.slots.size.toInt32 = n) : c.slots.size = n.toNatClampNeg ∧ ¬ n < 0 := by
  have q : n.toInt = c.slots.size := by rw [← h.2]; exact Int32.toInt_ofNat_small h.1
  refine ⟨?_, fun hn => ?_⟩
  · show c.slots.size = n.toInt.toNat
    omega
  · rw [Int32.lt_iff_toInt_lt] at hn
    have : (0 : Int32).toInt = 0 := rfl
    omega
theorem own_elem {args : Array Value} {s : State} {t : Term} {a y : Addr} {c : Cell} {ty : FieldType} {k : Int32} {u : Term} (ev : t.eval args s none [] s = some (.ref a)) (A : Arr s s.heap a c ty) (hu : u.eval args s none [] s = some (.ref y)) (h : (Jvm.Cond.eq (Term.elem t (Term.int k)) u).value args s none s [] = some true) : ¬ (k < 0 ∨ c.slots.size ≤ k.toNatClampNeg) ∧ c.slots[k.toNatClampNeg]? = some (.ref y) :=
  elem_in (own_eqR h hu) ev rfl A.1
def own_ret (V : Value) (n0 : Nat) (h0 : Heap) (v : Option Value) (h : Heap) (L : List Loc) : Prop := v = some V ∧ Fr n0 L ∧ h = h0
abbrev own_M (l : Launch) (y : MethodName) (bytes : ByteArray) (maxL : Nat) (ret : Option FieldType) (rm : Room) (Z : State) (as' : Array Value) (h0 : Heap) (Q : Option Value → Heap → List Loc → Prop) : Prop :=
  MetFree l y (head1 [Jvm.Cond.code y bytes maxL ret] rm) (fun a U => a = as' ∧ Z.Warmed39 U.vm ∧ U.heap = h0) (fun _ _ _ _ _ => True) (fun _ U o U' => ∃ v L, o = .returned v ∧ Q v U'.heap L ∧ FrameEnd U o U' L rm.cells rm.slots)
def own_one (n0 : Nat) (v : Option Value) (h : Heap) (L : List Loc) : Prop := v = some (.int (1 : Int32)) ∧ Fr n0 L
def own_kret (V : Value) (n0 : Nat) (h0 : Heap) (v : Option Value) (h : Heap) (L : List Loc) : Prop := v = some V ∧ Fr n0 L ∧ Keep h0 h []
theorem own_ext {h0 h : Heap} (K : Keep h0 h []) : Ext h0 h := ⟨K.1, fun a c q => K.2.1 a c q nin0⟩
theorem d1_0 : decode prog_59_method_7_code 0 = .ok (.aload_n 0, 1) := by decide +kernel
theorem d1_1 : decode prog_59_method_7_code 1 = .ok (.getfield 75, 3) := by decide +kernel
theorem d1_4 : decode prog_59_method_7_code 4 = .ok (.ifCond .eq 21, 3) := by decide +kernel
theorem d1_7 : decode prog_59_method_7_code 7 = .ok (.iload_n 1, 1) := by decide +kernel
theorem d1_8 : decode prog_59_method_7_code 8 = .ok (.aload_n 0, 1) := by decide +kernel
theorem d1_9 : decode prog_59_method_7_code 9 = .ok (.getfield 93, 3) := by decide +kernel
theorem d1_12 : decode prog_59_method_7_code 12 = .ok (.arraylength, 1) := by decide +kernel
theorem d1_13 : decode prog_59_method_7_code 13 = .ok (.if_icmp .lt 7, 3) := by decide +kernel
theorem d1_16 : decode prog_59_method_7_code 16 = .ok (.iconst 1, 1) := by decide +kernel
theorem d1_17 : decode prog_59_method_7_code 17 = .ok (.goto 4, 3) := by decide +kernel
theorem d1_21 : decode prog_59_method_7_code 21 = .ok (.istore_n 2, 1) := by decide +kernel
theorem d1_22 : decode prog_59_method_7_code 22 = .ok (.goto 18, 3) := by decide +kernel
theorem d1_40 : decode prog_59_method_7_code 40 = .ok (.iload_n 2, 1) := by decide +kernel
theorem d1_41 : decode prog_59_method_7_code 41 = .ok (.ireturn, 1) := by decide +kernel
theorem pn_1 : plainName "com/example/rolecall/rolecall/model/StatementKind" = true := by first | (simp [plainName, overriddenIn]; done) | decide +kernel
theorem ef_1 (m : MethodId) (x0 : Addr) (x1 : Int32) : entryFrame m #[(.ref x0), (.int x1)] 3 = mkF m 0 #[.val (.ref x0), .val (.int x1), .unset] [] := by first | (simp [entryFrame, mkF, argsToLocals, Value.category]; done) | rfl
set_option maxRecDepth 65536 in
set_option maxHeartbeats 40000000 in
theorem own_acc_ff (l : Launch) (Z : State) (a0 : Array Value) (hw : ∀ d ∈ tables_1, d.before a0 Z = true) (ws : List Jvm.Cond) (a1 : Addr) (p2 : Int32) (w3 : Int32) (w5 : Addr) (cl_w5 : Cell) (z_w5 : Int32) (h0 : Heap) (n0 : Nat) (Z0 : n0 ≤ h0.size) (F_lastSlotRepeats_a1 : Fld Z h0 a1 "com/example/rolecall/rolecall/model/StatementKind" "lastSlotRepeats" "Z" (.int w3)) (F_slots_a1 : Fld Z h0 a1 "com/example/rolecall/rolecall/model/StatementKind" "slots" "[Ljava/lang/String;" (.ref w5)) (Ar_w5 : Arr Z h0 w5 cl_w5 (.object "java/lang/String")) (S_w5 : cl_w5.slots.size = z_w5.toNatClampNeg) (N_w5 : ¬ z_w5 < 0) (hc4 : ¬ (w3 = (0 : Int32))) (hc13 : ¬ (p2 < z_w5)) :
    MetFree l (⟨"com/example/rolecall/rolecall/model/StatementKind", "acceptsArgumentCount", "(I)Z"⟩ : MethodName) (head1 (Jvm.Cond.code (⟨"com/example/rolecall/rolecall/model/StatementKind", "acceptsArgumentCount", "(I)Z"⟩ : MethodName) prog_59_method_7_code 3 (some .boolean) :: ws) ({ frames := 0, cells := 0, slots := 0, locals := 0 } : Room)) (fun a U => a = #[(.ref a1), (.int p2)] ∧ Z.Warmed39 U.vm ∧ U.heap = h0) (fun _ _ _ _ _ => True) (fun _ U o U' => ∃ v L, o = .returned v ∧ (own_ret (.int (1 : Int32)) n0 h0) v U'.heap L ∧ FrameEnd U o U' L ({ frames := 0, cells := 0, slots := 0, locals := 0 } : Room).cells ({ frames := 0, cells := 0, slots := 0, locals := 0 } : Room).slots) := by
  refine MetFree.of_bodySF (plainFor_of_name pn_1) hisR ?_
  intro p e s m args below meth c s₁ Bd hml0 hP hK
  obtain ⟨rfl, hZ, hh⟩ := hP
  have hx := Bd.exec
  have hby := Bd.bytes
  have hml : c.maxLocals = 3 := hml0
  have hown : s.vm.findClass "com/example/rolecall/rolecall/model/StatementKind" = some m.cls := findClass_of_methodNamed Bd.named
  have hnm := (name_of_methodNamed Bd.named Bd.method).1
  have X0 : Stand p l e ({ frames := 0, cells := 0, slots := 0, locals := 0 } : Room) s m #[(.ref a1), (.int p2)] below meth c s₁ [] 0 0 := Stand.of_body Bd
  have e0 : s₁.heap = h0 := by rw [← hh, Bd.state]; rfl
  have N0 := Fr.nil n0
  have pre0 : ∀ t, Steps p.tables e below (s₁.setTop (mkF m 0 #[.val (.ref a1), .val (.int p2), .unset] [])) t → Steps p.tables e below (s₁.setTop (entryFrame m #[(.ref a1), (.int p2)] 3)) t := fun t k => castTop (ef_1 m a1 p2) k
  obtain ⟨T4, X4, e4, st4⟩ := getF X0 hx hZ hown (host := "") (Or.inl (hw _ (List.mem_of_getElem? (i := 32) rfl))) Via.refl e0 F_lastSlotRepeats_a1 (g := (mkF m 1 #[.val (.ref a1), .val (.int p2), .unset] [(.ref a1)])) rfl rfl (hb hby d1_1)
  obtain ⟨T6, X6, e6, st6⟩ := getF X4 hx hZ hown (host := "") (Or.inl (hw _ (List.mem_of_getElem? (i := 34) rfl))) Via.refl e4 F_slots_a1 (g := (mkF m 9 #[.val (.ref a1), .val (.int p2), .unset] [(.ref a1), (.int p2)])) rfl rfl (hb hby d1_9)
  obtain ⟨fs, hr, hrun, hended, hW, hsame⟩ := X6.leave (v := some (.int (1 : Int32))) (fun h => by rw [Bd.returns] at h; cases h)
  refine ⟨_, _, pre0 _ ?_, hrun, hended, _, _, rfl, ?_, ⟨_, rfl⟩, hW, hsame.mono (by decide) (by decide)⟩
  · show Steps p.tables e below (s₁.setTop (mkF m 0 #[.val (.ref a1), .val (.int p2), .unset] [])) _
    refine XS.aloadN X0.here hx rfl (hb hby d1_0) rfl rfl ?_
    show Steps p.tables e below (s₁.setTop (mkF m 1 #[.val (.ref a1), .val (.int p2), .unset] [(.ref a1)])) _
    refine st4 _ ?_
    show Steps p.tables e below (T4.setTop (mkF m 4 #[.val (.ref a1), .val (.int p2), .unset] [(.int w3)])) _
    refine XS.ifNo X4.here hx rfl (hb hby d1_4) rfl ((if0 _ _).trans (feq hc4).1) ?_
    show Steps p.tables e below (T4.setTop (mkF m 7 #[.val (.ref a1), .val (.int p2), .unset] [])) _
    refine XS.iloadN X4.here hx rfl (hb hby d1_7) rfl ?_
    show Steps p.tables e below (T4.setTop (mkF m 8 #[.val (.ref a1), .val (.int p2), .unset] [(.int p2)])) _
    refine XS.aloadN X4.here hx rfl (hb hby d1_8) rfl rfl ?_
    show Steps p.tables e below (T4.setTop (mkF m 9 #[.val (.ref a1), .val (.int p2), .unset] [(.ref a1), (.int p2)])) _
    refine st6 _ ?_
    show Steps p.tables e below (T6.setTop (mkF m 12 #[.val (.ref a1), .val (.int p2), .unset] [(.ref w5), (.int p2)])) _
    refine X6.arraylength hx (by rw [e6]; exact Ar_w5.1) (State.isArrayOf_alike hZ.alike Ar_w5.2.1) (g := (mkF m 12 #[.val (.ref a1), .val (.int p2), .unset] [(.ref w5), (.int p2)])) rfl rfl (hb hby d1_12) _ ?_
    rw [len_of S_w5 N_w5]
    show Steps p.tables e below (T6.setTop (mkF m 13 #[.val (.ref a1), .val (.int p2), .unset] [(.int z_w5), (.int p2)])) _
    refine XS.icmpNo X6.here hx rfl (hb hby d1_13) rfl (flt hc13).1 ?_
    show Steps p.tables e below (T6.setTop (mkF m 16 #[.val (.ref a1), .val (.int p2), .unset] [])) _
    refine XS.iconst X6.here hx rfl (hb hby d1_16) ?_
    show Steps p.tables e below (T6.setTop (mkF m 17 #[.val (.ref a1), .val (.int p2), .unset] [(.int (1 : Int32))])) _
    refine XS.goto X6.here hx rfl (pc0 := 17) (pc' := 21) rfl (hb hby d1_17) (by decide) (by decide) ?_
    show Steps p.tables e below (T6.setTop (mkF m 21 #[.val (.ref a1), .val (.int p2), .unset] [(.int (1 : Int32))])) _
    refine XS.istoreN X6.here hx rfl (hb hby d1_21) rfl (l' := #[.val (.ref a1), .val (.int p2), .val (.int (1 : Int32))]) rfl ?_
    show Steps p.tables e below (T6.setTop (mkF m 22 #[.val (.ref a1), .val (.int p2), .val (.int (1 : Int32))] [])) _
    refine XS.goto X6.here hx rfl (pc0 := 22) (pc' := 40) rfl (hb hby d1_22) (by decide) (by decide) ?_
    show Steps p.tables e below (T6.setTop (mkF m 40 #[.val (.ref a1), .val (.int p2), .val (.int (1 : Int32))] [])) _
    refine XS.iloadN X6.here hx rfl (hb hby d1_40) rfl ?_
    show Steps p.tables e below (T6.setTop (mkF m 41 #[.val (.ref a1), .val (.int p2), .val (.int (1 : Int32))] [(.int (1 : Int32))])) _
    exact retN X6 hx (t := .boolean) Bd.returns (by simp) (hb hby d1_41) hr
  · show (own_ret (.int (1 : Int32)) n0 h0) _ T6.heap _
    rw [e6]
    exact ⟨rfl, N0, rfl⟩
theorem d1_20 : decode prog_59_method_7_code 20 = .ok (.iconst 0, 1) := by decide +kernel
set_option maxRecDepth 65536 in
set_option maxHeartbeats 40000000 in
theorem own_acc_ft (l : Launch) (Z : State) (a0 : Array Value) (hw : ∀ d ∈ tables_1, d.before a0 Z = true) (ws : List Jvm.Cond) (a1 : Addr) (p2 : Int32) (w3 : Int32) (w5 : Addr) (cl_w5 : Cell) (z_w5 : Int32) (h0 : Heap) (n0 : Nat) (Z0 : n0 ≤ h0.size) (F_lastSlotRepeats_a1 : Fld Z h0 a1 "com/example/rolecall/rolecall/model/StatementKind" "lastSlotRepeats" "Z" (.int w3)) (F_slots_a1 : Fld Z h0 a1 "com/example/rolecall/rolecall/model/StatementKind" "slots" "[Ljava/lang/String;" (.ref w5)) (Ar_w5 : Arr Z h0 w5 cl_w5 (.object "java/lang/String")) (S_w5 : cl_w5.slots.size = z_w5.toNatClampNeg) (N_w5 : ¬ z_w5 < 0) (hc4 : ¬ (w3 = (0 : Int32))) (hc13 : p2 < z_w5) :
    MetFree l (⟨"com/example/rolecall/rolecall/model/StatementKind", "acceptsArgumentCount", "(I)Z"⟩ : MethodName) (head1 (Jvm.Cond.code (⟨"com/example/rolecall/rolecall/model/StatementKind", "acceptsArgumentCount", "(I)Z"⟩ : MethodName) prog_59_method_7_code 3 (some .boolean) :: ws) ({ frames := 0, cells := 0, slots := 0, locals := 0 } : Room)) (fun a U => a = #[(.ref a1), (.int p2)] ∧ Z.Warmed39 U.vm ∧ U.heap = h0) (fun _ _ _ _ _ => True) (fun _ U o U' => ∃ v L, o = .returned v ∧ (own_ret (.int (0 : Int32)) n0 h0) v U'.heap L ∧ FrameEnd U o U' L ({ frames := 0, cells := 0, slots := 0, locals := 0 } : Room).cells ({ frames := 0, cells := 0, slots := 0, locals := 0 } : Room).slots) := by
  refine MetFree.of_bodySF (plainFor_of_name pn_1) hisR ?_
  intro p e s m args below meth c s₁ Bd hml0 hP hK
  obtain ⟨rfl, hZ, hh⟩ := hP
  have hx := Bd.exec
  have hby := Bd.bytes
  have hml : c.maxLocals = 3 := hml0
  have hown : s.vm.findClass "com/example/rolecall/rolecall/model/StatementKind" = some m.cls := findClass_of_methodNamed Bd.named
  have hnm := (name_of_methodNamed Bd.named Bd.method).1
  have X0 : Stand p l e ({ frames := 0, cells := 0, slots := 0, locals := 0 } : Room) s m #[(.ref a1), (.int p2)] below meth c s₁ [] 0 0 := Stand.of_body Bd
  have e0 : s₁.heap = h0 := by rw [← hh, Bd.state]; rfl
  have N0 := Fr.nil n0
  have pre0 : ∀ t, Steps p.tables e below (s₁.setTop (mkF m 0 #[.val (.ref a1), .val (.int p2), .unset] [])) t → Steps p.tables e below (s₁.setTop (entryFrame m #[(.ref a1), (.int p2)] 3)) t := fun t k => castTop (ef_1 m a1 p2) k
  obtain ⟨T4, X4, e4, st4⟩ := getF X0 hx hZ hown (host := "") (Or.inl (hw _ (List.mem_of_getElem? (i := 32) rfl))) Via.refl e0 F_lastSlotRepeats_a1 (g := (mkF m 1 #[.val (.ref a1), .val (.int p2), .unset] [(.ref a1)])) rfl rfl (hb hby d1_1)
  obtain ⟨T6, X6, e6, st6⟩ := getF X4 hx hZ hown (host := "") (Or.inl (hw _ (List.mem_of_getElem? (i := 34) rfl))) Via.refl e4 F_slots_a1 (g := (mkF m 9 #[.val (.ref a1), .val (.int p2), .unset] [(.ref a1), (.int p2)])) rfl rfl (hb hby d1_9)
  obtain ⟨fs, hr, hrun, hended, hW, hsame⟩ := X6.leave (v := some (.int (0 : Int32))) (fun h => by rw [Bd.returns] at h; cases h)
  refine ⟨_, _, pre0 _ ?_, hrun, hended, _, _, rfl, ?_, ⟨_, rfl⟩, hW, hsame.mono (by decide) (by decide)⟩
  · show Steps p.tables e below (s₁.setTop (mkF m 0 #[.val (.ref a1), .val (.int p2), .unset] [])) _
    refine XS.aloadN X0.here hx rfl (hb hby d1_0) rfl rfl ?_
    show Steps p.tables e below (s₁.setTop (mkF m 1 #[.val (.ref a1), .val (.int p2), .unset] [(.ref a1)])) _
    refine st4 _ ?_
    show Steps p.tables e below (T4.setTop (mkF m 4 #[.val (.ref a1), .val (.int p2), .unset] [(.int w3)])) _
    refine XS.ifNo X4.here hx rfl (hb hby d1_4) rfl ((if0 _ _).trans (feq hc4).1) ?_
    show Steps p.tables e below (T4.setTop (mkF m 7 #[.val (.ref a1), .val (.int p2), .unset] [])) _
    refine XS.iloadN X4.here hx rfl (hb hby d1_7) rfl ?_
    show Steps p.tables e below (T4.setTop (mkF m 8 #[.val (.ref a1), .val (.int p2), .unset] [(.int p2)])) _
    refine XS.aloadN X4.here hx rfl (hb hby d1_8) rfl rfl ?_
    show Steps p.tables e below (T4.setTop (mkF m 9 #[.val (.ref a1), .val (.int p2), .unset] [(.ref a1), (.int p2)])) _
    refine st6 _ ?_
    show Steps p.tables e below (T6.setTop (mkF m 12 #[.val (.ref a1), .val (.int p2), .unset] [(.ref w5), (.int p2)])) _
    refine X6.arraylength hx (by rw [e6]; exact Ar_w5.1) (State.isArrayOf_alike hZ.alike Ar_w5.2.1) (g := (mkF m 12 #[.val (.ref a1), .val (.int p2), .unset] [(.ref w5), (.int p2)])) rfl rfl (hb hby d1_12) _ ?_
    rw [len_of S_w5 N_w5]
    show Steps p.tables e below (T6.setTop (mkF m 13 #[.val (.ref a1), .val (.int p2), .unset] [(.int z_w5), (.int p2)])) _
    refine XS.icmpYes X6.here hx rfl (pc0 := 13) (pc' := 20) rfl (hb hby d1_13) rfl (tlt hc13).1 (by decide) (by decide) ?_
    show Steps p.tables e below (T6.setTop (mkF m 20 #[.val (.ref a1), .val (.int p2), .unset] [])) _
    refine XS.iconst X6.here hx rfl (hb hby d1_20) ?_
    show Steps p.tables e below (T6.setTop (mkF m 21 #[.val (.ref a1), .val (.int p2), .unset] [(.int (0 : Int32))])) _
    refine XS.istoreN X6.here hx rfl (hb hby d1_21) rfl (l' := #[.val (.ref a1), .val (.int p2), .val (.int (0 : Int32))]) rfl ?_
    show Steps p.tables e below (T6.setTop (mkF m 22 #[.val (.ref a1), .val (.int p2), .val (.int (0 : Int32))] [])) _
    refine XS.goto X6.here hx rfl (pc0 := 22) (pc' := 40) rfl (hb hby d1_22) (by decide) (by decide) ?_
    show Steps p.tables e below (T6.setTop (mkF m 40 #[.val (.ref a1), .val (.int p2), .val (.int (0 : Int32))] [])) _
    refine XS.iloadN X6.here hx rfl (hb hby d1_40) rfl ?_
    show Steps p.tables e below (T6.setTop (mkF m 41 #[.val (.ref a1), .val (.int p2), .val (.int (0 : Int32))] [(.int (0 : Int32))])) _
    exact retN X6 hx (t := .boolean) Bd.returns (by simp) (hb hby d1_41) hr
  · show (own_ret (.int (0 : Int32)) n0 h0) _ T6.heap _
    rw [e6]
    exact ⟨rfl, N0, rfl⟩
theorem d1_25 : decode prog_59_method_7_code 25 = .ok (.iload_n 1, 1) := by decide +kernel
theorem d1_26 : decode prog_59_method_7_code 26 = .ok (.aload_n 0, 1) := by decide +kernel
theorem d1_27 : decode prog_59_method_7_code 27 = .ok (.getfield 93, 3) := by decide +kernel
theorem d1_30 : decode prog_59_method_7_code 30 = .ok (.arraylength, 1) := by decide +kernel
theorem d1_31 : decode prog_59_method_7_code 31 = .ok (.if_icmp .ne 7, 3) := by decide +kernel
theorem d1_34 : decode prog_59_method_7_code 34 = .ok (.iconst 1, 1) := by decide +kernel
theorem d1_35 : decode prog_59_method_7_code 35 = .ok (.goto 4, 3) := by decide +kernel
theorem d1_39 : decode prog_59_method_7_code 39 = .ok (.istore_n 2, 1) := by decide +kernel
set_option maxRecDepth 65536 in
set_option maxHeartbeats 40000000 in
theorem own_acc_tf (l : Launch) (Z : State) (a0 : Array Value) (hw : ∀ d ∈ tables_1, d.before a0 Z = true) (ws : List Jvm.Cond) (a1 : Addr) (p2 : Int32) (w3 : Int32) (w5 : Addr) (cl_w5 : Cell) (z_w5 : Int32) (h0 : Heap) (n0 : Nat) (Z0 : n0 ≤ h0.size) (F_lastSlotRepeats_a1 : Fld Z h0 a1 "com/example/rolecall/rolecall/model/StatementKind" "lastSlotRepeats" "Z" (.int w3)) (F_slots_a1 : Fld Z h0 a1 "com/example/rolecall/rolecall/model/StatementKind" "slots" "[Ljava/lang/String;" (.ref w5)) (Ar_w5 : Arr Z h0 w5 cl_w5 (.object "java/lang/String")) (S_w5 : cl_w5.slots.size = z_w5.toNatClampNeg) (N_w5 : ¬ z_w5 < 0) (hc4 : w3 = (0 : Int32)) (hc31 : p2 = z_w5) :
    MetFree l (⟨"com/example/rolecall/rolecall/model/StatementKind", "acceptsArgumentCount", "(I)Z"⟩ : MethodName) (head1 (Jvm.Cond.code (⟨"com/example/rolecall/rolecall/model/StatementKind", "acceptsArgumentCount", "(I)Z"⟩ : MethodName) prog_59_method_7_code 3 (some .boolean) :: ws) ({ frames := 0, cells := 0, slots := 0, locals := 0 } : Room)) (fun a U => a = #[(.ref a1), (.int p2)] ∧ Z.Warmed39 U.vm ∧ U.heap = h0) (fun _ _ _ _ _ => True) (fun _ U o U' => ∃ v L, o = .returned v ∧ (own_ret (.int (1 : Int32)) n0 h0) v U'.heap L ∧ FrameEnd U o U' L ({ frames := 0, cells := 0, slots := 0, locals := 0 } : Room).cells ({ frames := 0, cells := 0, slots := 0, locals := 0 } : Room).slots) := by
  refine MetFree.of_bodySF (plainFor_of_name pn_1) hisR ?_
  intro p e s m args below meth c s₁ Bd hml0 hP hK
  obtain ⟨rfl, hZ, hh⟩ := hP
  have hx := Bd.exec
  have hby := Bd.bytes
  have hml : c.maxLocals = 3 := hml0
  have hown : s.vm.findClass "com/example/rolecall/rolecall/model/StatementKind" = some m.cls := findClass_of_methodNamed Bd.named
  have hnm := (name_of_methodNamed Bd.named Bd.method).1
  have X0 : Stand p l e ({ frames := 0, cells := 0, slots := 0, locals := 0 } : Room) s m #[(.ref a1), (.int p2)] below meth c s₁ [] 0 0 := Stand.of_body Bd
  have e0 : s₁.heap = h0 := by rw [← hh, Bd.state]; rfl
  have N0 := Fr.nil n0
  have pre0 : ∀ t, Steps p.tables e below (s₁.setTop (mkF m 0 #[.val (.ref a1), .val (.int p2), .unset] [])) t → Steps p.tables e below (s₁.setTop (entryFrame m #[(.ref a1), (.int p2)] 3)) t := fun t k => castTop (ef_1 m a1 p2) k
  obtain ⟨T4, X4, e4, st4⟩ := getF X0 hx hZ hown (host := "") (Or.inl (hw _ (List.mem_of_getElem? (i := 32) rfl))) Via.refl e0 F_lastSlotRepeats_a1 (g := (mkF m 1 #[.val (.ref a1), .val (.int p2), .unset] [(.ref a1)])) rfl rfl (hb hby d1_1)
  obtain ⟨T6, X6, e6, st6⟩ := getF X4 hx hZ hown (host := "") (Or.inl (hw _ (List.mem_of_getElem? (i := 34) rfl))) Via.refl e4 F_slots_a1 (g := (mkF m 27 #[.val (.ref a1), .val (.int p2), .unset] [(.ref a1), (.int p2)])) rfl rfl (hb hby d1_27)
  obtain ⟨fs, hr, hrun, hended, hW, hsame⟩ := X6.leave (v := some (.int (1 : Int32))) (fun h => by rw [Bd.returns] at h; cases h)
  refine ⟨_, _, pre0 _ ?_, hrun, hended, _, _, rfl, ?_, ⟨_, rfl⟩, hW, hsame.mono (by decide) (by decide)⟩
  · show Steps p.tables e below (s₁.setTop (mkF m 0 #[.val (.ref a1), .val (.int p2), .unset] [])) _
    refine XS.aloadN X0.here hx rfl (hb hby d1_0) rfl rfl ?_
    show Steps p.tables e below (s₁.setTop (mkF m 1 #[.val (.ref a1), .val (.int p2), .unset] [(.ref a1)])) _
    refine st4 _ ?_
    show Steps p.tables e below (T4.setTop (mkF m 4 #[.val (.ref a1), .val (.int p2), .unset] [(.int w3)])) _
    refine XS.ifYes X4.here hx rfl (pc0 := 4) (pc' := 25) rfl (hb hby d1_4) rfl ((if0 _ _).trans (teq hc4).1) (by decide) (by decide) ?_
    show Steps p.tables e below (T4.setTop (mkF m 25 #[.val (.ref a1), .val (.int p2), .unset] [])) _
    refine XS.iloadN X4.here hx rfl (hb hby d1_25) rfl ?_
    show Steps p.tables e below (T4.setTop (mkF m 26 #[.val (.ref a1), .val (.int p2), .unset] [(.int p2)])) _
    refine XS.aloadN X4.here hx rfl (hb hby d1_26) rfl rfl ?_
    show Steps p.tables e below (T4.setTop (mkF m 27 #[.val (.ref a1), .val (.int p2), .unset] [(.ref a1), (.int p2)])) _
    refine st6 _ ?_
    show Steps p.tables e below (T6.setTop (mkF m 30 #[.val (.ref a1), .val (.int p2), .unset] [(.ref w5), (.int p2)])) _
    refine X6.arraylength hx (by rw [e6]; exact Ar_w5.1) (State.isArrayOf_alike hZ.alike Ar_w5.2.1) (g := (mkF m 30 #[.val (.ref a1), .val (.int p2), .unset] [(.ref w5), (.int p2)])) rfl rfl (hb hby d1_30) _ ?_
    rw [len_of S_w5 N_w5]
    show Steps p.tables e below (T6.setTop (mkF m 31 #[.val (.ref a1), .val (.int p2), .unset] [(.int z_w5), (.int p2)])) _
    refine XS.icmpNo X6.here hx rfl (hb hby d1_31) rfl (teq hc31).2 ?_
    show Steps p.tables e below (T6.setTop (mkF m 34 #[.val (.ref a1), .val (.int p2), .unset] [])) _
    refine XS.iconst X6.here hx rfl (hb hby d1_34) ?_
    show Steps p.tables e below (T6.setTop (mkF m 35 #[.val (.ref a1), .val (.int p2), .unset] [(.int (1 : Int32))])) _
    refine XS.goto X6.here hx rfl (pc0 := 35) (pc' := 39) rfl (hb hby d1_35) (by decide) (by decide) ?_
    show Steps p.tables e below (T6.setTop (mkF m 39 #[.val (.ref a1), .val (.int p2), .unset] [(.int (1 : Int32))])) _
    refine XS.istoreN X6.here hx rfl (hb hby d1_39) rfl (l' := #[.val (.ref a1), .val (.int p2), .val (.int (1 : Int32))]) rfl ?_
    show Steps p.tables e below (T6.setTop (mkF m 40 #[.val (.ref a1), .val (.int p2), .val (.int (1 : Int32))] [])) _
    refine XS.iloadN X6.here hx rfl (hb hby d1_40) rfl ?_
    show Steps p.tables e below (T6.setTop (mkF m 41 #[.val (.ref a1), .val (.int p2), .val (.int (1 : Int32))] [(.int (1 : Int32))])) _
    exact retN X6 hx (t := .boolean) Bd.returns (by simp) (hb hby d1_41) hr
  · show (own_ret (.int (1 : Int32)) n0 h0) _ T6.heap _
    rw [e6]
    exact ⟨rfl, N0, rfl⟩
theorem d1_38 : decode prog_59_method_7_code 38 = .ok (.iconst 0, 1) := by decide +kernel
set_option maxRecDepth 65536 in
set_option maxHeartbeats 40000000 in
theorem own_acc_tt (l : Launch) (Z : State) (a0 : Array Value) (hw : ∀ d ∈ tables_1, d.before a0 Z = true) (ws : List Jvm.Cond) (a1 : Addr) (p2 : Int32) (w3 : Int32) (w5 : Addr) (cl_w5 : Cell) (z_w5 : Int32) (h0 : Heap) (n0 : Nat) (Z0 : n0 ≤ h0.size) (F_lastSlotRepeats_a1 : Fld Z h0 a1 "com/example/rolecall/rolecall/model/StatementKind" "lastSlotRepeats" "Z" (.int w3)) (F_slots_a1 : Fld Z h0 a1 "com/example/rolecall/rolecall/model/StatementKind" "slots" "[Ljava/lang/String;" (.ref w5)) (Ar_w5 : Arr Z h0 w5 cl_w5 (.object "java/lang/String")) (S_w5 : cl_w5.slots.size = z_w5.toNatClampNeg) (N_w5 : ¬ z_w5 < 0) (hc4 : w3 = (0 : Int32)) (hc31 : ¬ (p2 = z_w5)) :
    MetFree l (⟨"com/example/rolecall/rolecall/model/StatementKind", "acceptsArgumentCount", "(I)Z"⟩ : MethodName) (head1 (Jvm.Cond.code (⟨"com/example/rolecall/rolecall/model/StatementKind", "acceptsArgumentCount", "(I)Z"⟩ : MethodName) prog_59_method_7_code 3 (some .boolean) :: ws) ({ frames := 0, cells := 0, slots := 0, locals := 0 } : Room)) (fun a U => a = #[(.ref a1), (.int p2)] ∧ Z.Warmed39 U.vm ∧ U.heap = h0) (fun _ _ _ _ _ => True) (fun _ U o U' => ∃ v L, o = .returned v ∧ (own_ret (.int (0 : Int32)) n0 h0) v U'.heap L ∧ FrameEnd U o U' L ({ frames := 0, cells := 0, slots := 0, locals := 0 } : Room).cells ({ frames := 0, cells := 0, slots := 0, locals := 0 } : Room).slots) := by
  refine MetFree.of_bodySF (plainFor_of_name pn_1) hisR ?_
  intro p e s m args below meth c s₁ Bd hml0 hP hK
  obtain ⟨rfl, hZ, hh⟩ := hP
  have hx := Bd.exec
  have hby := Bd.bytes
  have hml : c.maxLocals = 3 := hml0
  have hown : s.vm.findClass "com/example/rolecall/rolecall/model/StatementKind" = some m.cls := findClass_of_methodNamed Bd.named
  have hnm := (name_of_methodNamed Bd.named Bd.method).1
  have X0 : Stand p l e ({ frames := 0, cells := 0, slots := 0, locals := 0 } : Room) s m #[(.ref a1), (.int p2)] below meth c s₁ [] 0 0 := Stand.of_body Bd
  have e0 : s₁.heap = h0 := by rw [← hh, Bd.state]; rfl
  have N0 := Fr.nil n0
  have pre0 : ∀ t, Steps p.tables e below (s₁.setTop (mkF m 0 #[.val (.ref a1), .val (.int p2), .unset] [])) t → Steps p.tables e below (s₁.setTop (entryFrame m #[(.ref a1), (.int p2)] 3)) t := fun t k => castTop (ef_1 m a1 p2) k
  obtain ⟨T4, X4, e4, st4⟩ := getF X0 hx hZ hown (host := "") (Or.inl (hw _ (List.mem_of_getElem? (i := 32) rfl))) Via.refl e0 F_lastSlotRepeats_a1 (g := (mkF m 1 #[.val (.ref a1), .val (.int p2), .unset] [(.ref a1)])) rfl rfl (hb hby d1_1)
  obtain ⟨T6, X6, e6, st6⟩ := getF X4 hx hZ hown (host := "") (Or.inl (hw _ (List.mem_of_getElem? (i := 34) rfl))) Via.refl e4 F_slots_a1 (g := (mkF m 27 #[.val (.ref a1), .val (.int p2), .unset] [(.ref a1), (.int p2)])) rfl rfl (hb hby d1_27)
  obtain ⟨fs, hr, hrun, hended, hW, hsame⟩ := X6.leave (v := some (.int (0 : Int32))) (fun h => by rw [Bd.returns] at h; cases h)
  refine ⟨_, _, pre0 _ ?_, hrun, hended, _, _, rfl, ?_, ⟨_, rfl⟩, hW, hsame.mono (by decide) (by decide)⟩
  · show Steps p.tables e below (s₁.setTop (mkF m 0 #[.val (.ref a1), .val (.int p2), .unset] [])) _
    refine XS.aloadN X0.here hx rfl (hb hby d1_0) rfl rfl ?_
    show Steps p.tables e below (s₁.setTop (mkF m 1 #[.val (.ref a1), .val (.int p2), .unset] [(.ref a1)])) _
    refine st4 _ ?_
    show Steps p.tables e below (T4.setTop (mkF m 4 #[.val (.ref a1), .val (.int p2), .unset] [(.int w3)])) _
    refine XS.ifYes X4.here hx rfl (pc0 := 4) (pc' := 25) rfl (hb hby d1_4) rfl ((if0 _ _).trans (teq hc4).1) (by decide) (by decide) ?_
    show Steps p.tables e below (T4.setTop (mkF m 25 #[.val (.ref a1), .val (.int p2), .unset] [])) _
    refine XS.iloadN X4.here hx rfl (hb hby d1_25) rfl ?_
    show Steps p.tables e below (T4.setTop (mkF m 26 #[.val (.ref a1), .val (.int p2), .unset] [(.int p2)])) _
    refine XS.aloadN X4.here hx rfl (hb hby d1_26) rfl rfl ?_
    show Steps p.tables e below (T4.setTop (mkF m 27 #[.val (.ref a1), .val (.int p2), .unset] [(.ref a1), (.int p2)])) _
    refine st6 _ ?_
    show Steps p.tables e below (T6.setTop (mkF m 30 #[.val (.ref a1), .val (.int p2), .unset] [(.ref w5), (.int p2)])) _
    refine X6.arraylength hx (by rw [e6]; exact Ar_w5.1) (State.isArrayOf_alike hZ.alike Ar_w5.2.1) (g := (mkF m 30 #[.val (.ref a1), .val (.int p2), .unset] [(.ref w5), (.int p2)])) rfl rfl (hb hby d1_30) _ ?_
    rw [len_of S_w5 N_w5]
    show Steps p.tables e below (T6.setTop (mkF m 31 #[.val (.ref a1), .val (.int p2), .unset] [(.int z_w5), (.int p2)])) _
    refine XS.icmpYes X6.here hx rfl (pc0 := 31) (pc' := 38) rfl (hb hby d1_31) rfl (feq hc31).2 (by decide) (by decide) ?_
    show Steps p.tables e below (T6.setTop (mkF m 38 #[.val (.ref a1), .val (.int p2), .unset] [])) _
    refine XS.iconst X6.here hx rfl (hb hby d1_38) ?_
    show Steps p.tables e below (T6.setTop (mkF m 39 #[.val (.ref a1), .val (.int p2), .unset] [(.int (0 : Int32))])) _
    refine XS.istoreN X6.here hx rfl (hb hby d1_39) rfl (l' := #[.val (.ref a1), .val (.int p2), .val (.int (0 : Int32))]) rfl ?_
    show Steps p.tables e below (T6.setTop (mkF m 40 #[.val (.ref a1), .val (.int p2), .val (.int (0 : Int32))] [])) _
    refine XS.iloadN X6.here hx rfl (hb hby d1_40) rfl ?_
    show Steps p.tables e below (T6.setTop (mkF m 41 #[.val (.ref a1), .val (.int p2), .val (.int (0 : Int32))] [(.int (0 : Int32))])) _
    exact retN X6 hx (t := .boolean) Bd.returns (by simp) (hb hby d1_41) hr
  · show (own_ret (.int (0 : Int32)) n0 h0) _ T6.heap _
    rw [e6]
    exact ⟨rfl, N0, rfl⟩
theorem d2_0 : decode method_2_code 0 = .ok (.iload_n 0, 1) := by decide +kernel
theorem d2_1 : decode method_2_code 1 = .ok (.iconst 1, 1) := by decide +kernel
theorem d2_2 : decode method_2_code 2 = .ok (.if_icmp .ne 14, 3) := by decide +kernel
theorem d2_5 : decode method_2_code 5 = .ok (.iload_n 1, 1) := by decide +kernel
theorem d2_6 : decode method_2_code 6 = .ok (.iconst 3, 1) := by decide +kernel
theorem d2_7 : decode method_2_code 7 = .ok (.if_icmp .ne 7, 3) := by decide +kernel
theorem d2_10 : decode method_2_code 10 = .ok (.iconst 1, 1) := by decide +kernel
theorem d2_11 : decode method_2_code 11 = .ok (.goto 4, 3) := by decide +kernel
theorem d2_15 : decode method_2_code 15 = .ok (.ireturn, 1) := by decide +kernel
theorem pn_2 : plainName "com/example/rolecall/rolecall/model/StatementKindAcceptsArgumentCountPinLaw" = true := by first | (simp [plainName, overriddenIn]; done) | decide +kernel
theorem ef_2 (m : MethodId) (x0 : Int32) (x1 : Int32) : entryFrame m #[(.int x0), (.int x1)] 2 = mkF m 0 #[.val (.int x0), .val (.int x1)] [] := by first | (simp [entryFrame, mkF, argsToLocals, Value.category]; done) | rfl
set_option maxRecDepth 65536 in
set_option maxHeartbeats 40000000 in
theorem own_exp_ff (l : Launch) (Z : State) (a0 : Array Value) (hw : ∀ d ∈ tables_1, d.before a0 Z = true) (ws : List Jvm.Cond) (p1 : Int32) (p2 : Int32) (h0 : Heap) (n0 : Nat) (Z0 : n0 ≤ h0.size) (hc2 : p1 = (1 : Int32)) (hc7 : p2 = (3 : Int32)) :
    MetFree l (⟨"com/example/rolecall/rolecall/model/StatementKindAcceptsArgumentCountPinLaw", "expected", "(II)Z"⟩ : MethodName) (head1 (Jvm.Cond.code (⟨"com/example/rolecall/rolecall/model/StatementKindAcceptsArgumentCountPinLaw", "expected", "(II)Z"⟩ : MethodName) method_2_code 2 (some .boolean) :: ws) ({ frames := 0, cells := 0, slots := 0, locals := 0 } : Room)) (fun a U => a = #[(.int p1), (.int p2)] ∧ Z.Warmed39 U.vm ∧ U.heap = h0) (fun _ _ _ _ _ => True) (fun _ U o U' => ∃ v L, o = .returned v ∧ (own_ret (.int (1 : Int32)) n0 h0) v U'.heap L ∧ FrameEnd U o U' L ({ frames := 0, cells := 0, slots := 0, locals := 0 } : Room).cells ({ frames := 0, cells := 0, slots := 0, locals := 0 } : Room).slots) := by
  refine MetFree.of_bodySF (plainFor_of_name pn_2) hisR ?_
  intro p e s m args below meth c s₁ Bd hml0 hP hK
  obtain ⟨rfl, hZ, hh⟩ := hP
  have hx := Bd.exec
  have hby := Bd.bytes
  have hml : c.maxLocals = 2 := hml0
  have hown : s.vm.findClass "com/example/rolecall/rolecall/model/StatementKindAcceptsArgumentCountPinLaw" = some m.cls := findClass_of_methodNamed Bd.named
  have hnm := (name_of_methodNamed Bd.named Bd.method).1
  have X0 : Stand p l e ({ frames := 0, cells := 0, slots := 0, locals := 0 } : Room) s m #[(.int p1), (.int p2)] below meth c s₁ [] 0 0 := Stand.of_body Bd
  have e0 : s₁.heap = h0 := by rw [← hh, Bd.state]; rfl
  have N0 := Fr.nil n0
  have pre0 : ∀ t, Steps p.tables e below (s₁.setTop (mkF m 0 #[.val (.int p1), .val (.int p2)] [])) t → Steps p.tables e below (s₁.setTop (entryFrame m #[(.int p1), (.int p2)] 2)) t := fun t k => castTop (ef_2 m p1 p2) k
  obtain ⟨fs, hr, hrun, hended, hW, hsame⟩ := X0.leave (v := some (.int (1 : Int32))) (fun h => by rw [Bd.returns] at h; cases h)
  refine ⟨_, _, pre0 _ ?_, hrun, hended, _, _, rfl, ?_, ⟨_, rfl⟩, hW, hsame.mono (by decide) (by decide)⟩
  · show Steps p.tables e below (s₁.setTop (mkF m 0 #[.val (.int p1), .val (.int p2)] [])) _
    refine XS.iloadN X0.here hx rfl (hb hby d2_0) rfl ?_
    show Steps p.tables e below (s₁.setTop (mkF m 1 #[.val (.int p1), .val (.int p2)] [(.int p1)])) _
    refine XS.iconst X0.here hx rfl (hb hby d2_1) ?_
    show Steps p.tables e below (s₁.setTop (mkF m 2 #[.val (.int p1), .val (.int p2)] [(.int (1 : Int32)), (.int p1)])) _
    refine XS.icmpNo X0.here hx rfl (hb hby d2_2) rfl (teq hc2).2 ?_
    show Steps p.tables e below (s₁.setTop (mkF m 5 #[.val (.int p1), .val (.int p2)] [])) _
    refine XS.iloadN X0.here hx rfl (hb hby d2_5) rfl ?_
    show Steps p.tables e below (s₁.setTop (mkF m 6 #[.val (.int p1), .val (.int p2)] [(.int p2)])) _
    refine XS.iconst X0.here hx rfl (hb hby d2_6) ?_
    show Steps p.tables e below (s₁.setTop (mkF m 7 #[.val (.int p1), .val (.int p2)] [(.int (3 : Int32)), (.int p2)])) _
    refine XS.icmpNo X0.here hx rfl (hb hby d2_7) rfl (teq hc7).2 ?_
    show Steps p.tables e below (s₁.setTop (mkF m 10 #[.val (.int p1), .val (.int p2)] [])) _
    refine XS.iconst X0.here hx rfl (hb hby d2_10) ?_
    show Steps p.tables e below (s₁.setTop (mkF m 11 #[.val (.int p1), .val (.int p2)] [(.int (1 : Int32))])) _
    refine XS.goto X0.here hx rfl (pc0 := 11) (pc' := 15) rfl (hb hby d2_11) (by decide) (by decide) ?_
    show Steps p.tables e below (s₁.setTop (mkF m 15 #[.val (.int p1), .val (.int p2)] [(.int (1 : Int32))])) _
    exact retN X0 hx (t := .boolean) Bd.returns (by simp) (hb hby d2_15) hr
  · show (own_ret (.int (1 : Int32)) n0 h0) _ s₁.heap _
    rw [e0]
    exact ⟨rfl, N0, rfl⟩
theorem d2_14 : decode method_2_code 14 = .ok (.iconst 0, 1) := by decide +kernel
set_option maxRecDepth 65536 in
set_option maxHeartbeats 40000000 in
theorem own_exp_ft (l : Launch) (Z : State) (a0 : Array Value) (hw : ∀ d ∈ tables_1, d.before a0 Z = true) (ws : List Jvm.Cond) (p1 : Int32) (p2 : Int32) (h0 : Heap) (n0 : Nat) (Z0 : n0 ≤ h0.size) (hc2 : p1 = (1 : Int32)) (hc7 : ¬ (p2 = (3 : Int32))) :
    MetFree l (⟨"com/example/rolecall/rolecall/model/StatementKindAcceptsArgumentCountPinLaw", "expected", "(II)Z"⟩ : MethodName) (head1 (Jvm.Cond.code (⟨"com/example/rolecall/rolecall/model/StatementKindAcceptsArgumentCountPinLaw", "expected", "(II)Z"⟩ : MethodName) method_2_code 2 (some .boolean) :: ws) ({ frames := 0, cells := 0, slots := 0, locals := 0 } : Room)) (fun a U => a = #[(.int p1), (.int p2)] ∧ Z.Warmed39 U.vm ∧ U.heap = h0) (fun _ _ _ _ _ => True) (fun _ U o U' => ∃ v L, o = .returned v ∧ (own_ret (.int (0 : Int32)) n0 h0) v U'.heap L ∧ FrameEnd U o U' L ({ frames := 0, cells := 0, slots := 0, locals := 0 } : Room).cells ({ frames := 0, cells := 0, slots := 0, locals := 0 } : Room).slots) := by
  refine MetFree.of_bodySF (plainFor_of_name pn_2) hisR ?_
  intro p e s m args below meth c s₁ Bd hml0 hP hK
  obtain ⟨rfl, hZ, hh⟩ := hP
  have hx := Bd.exec
  have hby := Bd.bytes
  have hml : c.maxLocals = 2 := hml0
  have hown : s.vm.findClass "com/example/rolecall/rolecall/model/StatementKindAcceptsArgumentCountPinLaw" = some m.cls := findClass_of_methodNamed Bd.named
  have hnm := (name_of_methodNamed Bd.named Bd.method).1
  have X0 : Stand p l e ({ frames := 0, cells := 0, slots := 0, locals := 0 } : Room) s m #[(.int p1), (.int p2)] below meth c s₁ [] 0 0 := Stand.of_body Bd
  have e0 : s₁.heap = h0 := by rw [← hh, Bd.state]; rfl
  have N0 := Fr.nil n0
  have pre0 : ∀ t, Steps p.tables e below (s₁.setTop (mkF m 0 #[.val (.int p1), .val (.int p2)] [])) t → Steps p.tables e below (s₁.setTop (entryFrame m #[(.int p1), (.int p2)] 2)) t := fun t k => castTop (ef_2 m p1 p2) k
  obtain ⟨fs, hr, hrun, hended, hW, hsame⟩ := X0.leave (v := some (.int (0 : Int32))) (fun h => by rw [Bd.returns] at h; cases h)
  refine ⟨_, _, pre0 _ ?_, hrun, hended, _, _, rfl, ?_, ⟨_, rfl⟩, hW, hsame.mono (by decide) (by decide)⟩
  · show Steps p.tables e below (s₁.setTop (mkF m 0 #[.val (.int p1), .val (.int p2)] [])) _
    refine XS.iloadN X0.here hx rfl (hb hby d2_0) rfl ?_
    show Steps p.tables e below (s₁.setTop (mkF m 1 #[.val (.int p1), .val (.int p2)] [(.int p1)])) _
    refine XS.iconst X0.here hx rfl (hb hby d2_1) ?_
    show Steps p.tables e below (s₁.setTop (mkF m 2 #[.val (.int p1), .val (.int p2)] [(.int (1 : Int32)), (.int p1)])) _
    refine XS.icmpNo X0.here hx rfl (hb hby d2_2) rfl (teq hc2).2 ?_
    show Steps p.tables e below (s₁.setTop (mkF m 5 #[.val (.int p1), .val (.int p2)] [])) _
    refine XS.iloadN X0.here hx rfl (hb hby d2_5) rfl ?_
    show Steps p.tables e below (s₁.setTop (mkF m 6 #[.val (.int p1), .val (.int p2)] [(.int p2)])) _
    refine XS.iconst X0.here hx rfl (hb hby d2_6) ?_
    show Steps p.tables e below (s₁.setTop (mkF m 7 #[.val (.int p1), .val (.int p2)] [(.int (3 : Int32)), (.int p2)])) _
    refine XS.icmpYes X0.here hx rfl (pc0 := 7) (pc' := 14) rfl (hb hby d2_7) rfl (feq hc7).2 (by decide) (by decide) ?_
    show Steps p.tables e below (s₁.setTop (mkF m 14 #[.val (.int p1), .val (.int p2)] [])) _
    refine XS.iconst X0.here hx rfl (hb hby d2_14) ?_
    show Steps p.tables e below (s₁.setTop (mkF m 15 #[.val (.int p1), .val (.int p2)] [(.int (0 : Int32))])) _
    exact retN X0 hx (t := .boolean) Bd.returns (by simp) (hb hby d2_15) hr
  · show (own_ret (.int (0 : Int32)) n0 h0) _ s₁.heap _
    rw [e0]
    exact ⟨rfl, N0, rfl⟩
theorem d2_16 : decode method_2_code 16 = .ok (.iload_n 0, 1) := by decide +kernel
theorem d2_17 : decode method_2_code 17 = .ok (.bipush 6, 2) := by decide +kernel
theorem d2_19 : decode method_2_code 19 = .ok (.if_icmp .eq 9, 3) := by decide +kernel
theorem d2_28 : decode method_2_code 28 = .ok (.iload_n 1, 1) := by decide +kernel
theorem d2_29 : decode method_2_code 29 = .ok (.iconst 1, 1) := by decide +kernel
theorem d2_30 : decode method_2_code 30 = .ok (.if_icmp .lt 7, 3) := by decide +kernel
theorem d2_33 : decode method_2_code 33 = .ok (.iconst 1, 1) := by decide +kernel
theorem d2_34 : decode method_2_code 34 = .ok (.goto 4, 3) := by decide +kernel
theorem d2_38 : decode method_2_code 38 = .ok (.ireturn, 1) := by decide +kernel
set_option maxRecDepth 65536 in
set_option maxHeartbeats 40000000 in
theorem own_exp_ttf (l : Launch) (Z : State) (a0 : Array Value) (hw : ∀ d ∈ tables_1, d.before a0 Z = true) (ws : List Jvm.Cond) (p1 : Int32) (p2 : Int32) (h0 : Heap) (n0 : Nat) (Z0 : n0 ≤ h0.size) (hc2 : ¬ (p1 = (1 : Int32))) (hc19 : p1 = (6 : Int32)) (hc30 : ¬ (p2 < (1 : Int32))) :
    MetFree l (⟨"com/example/rolecall/rolecall/model/StatementKindAcceptsArgumentCountPinLaw", "expected", "(II)Z"⟩ : MethodName) (head1 (Jvm.Cond.code (⟨"com/example/rolecall/rolecall/model/StatementKindAcceptsArgumentCountPinLaw", "expected", "(II)Z"⟩ : MethodName) method_2_code 2 (some .boolean) :: ws) ({ frames := 0, cells := 0, slots := 0, locals := 0 } : Room)) (fun a U => a = #[(.int p1), (.int p2)] ∧ Z.Warmed39 U.vm ∧ U.heap = h0) (fun _ _ _ _ _ => True) (fun _ U o U' => ∃ v L, o = .returned v ∧ (own_ret (.int (1 : Int32)) n0 h0) v U'.heap L ∧ FrameEnd U o U' L ({ frames := 0, cells := 0, slots := 0, locals := 0 } : Room).cells ({ frames := 0, cells := 0, slots := 0, locals := 0 } : Room).slots) := by
  refine MetFree.of_bodySF (plainFor_of_name pn_2) hisR ?_
  intro p e s m args below meth c s₁ Bd hml0 hP hK
  obtain ⟨rfl, hZ, hh⟩ := hP
  have hx := Bd.exec
  have hby := Bd.bytes
  have hml : c.maxLocals = 2 := hml0
  have hown : s.vm.findClass "com/example/rolecall/rolecall/model/StatementKindAcceptsArgumentCountPinLaw" = some m.cls := findClass_of_methodNamed Bd.named
  have hnm := (name_of_methodNamed Bd.named Bd.method).1
  have X0 : Stand p l e ({ frames := 0, cells := 0, slots := 0, locals := 0 } : Room) s m #[(.int p1), (.int p2)] below meth c s₁ [] 0 0 := Stand.of_body Bd
  have e0 : s₁.heap = h0 := by rw [← hh, Bd.state]; rfl
  have N0 := Fr.nil n0
  have pre0 : ∀ t, Steps p.tables e below (s₁.setTop (mkF m 0 #[.val (.int p1), .val (.int p2)] [])) t → Steps p.tables e below (s₁.setTop (entryFrame m #[(.int p1), (.int p2)] 2)) t := fun t k => castTop (ef_2 m p1 p2) k
  obtain ⟨fs, hr, hrun, hended, hW, hsame⟩ := X0.leave (v := some (.int (1 : Int32))) (fun h => by rw [Bd.returns] at h; cases h)
  refine ⟨_, _, pre0 _ ?_, hrun, hended, _, _, rfl, ?_, ⟨_, rfl⟩, hW, hsame.mono (by decide) (by decide)⟩
  · show Steps p.tables e below (s₁.setTop (mkF m 0 #[.val (.int p1), .val (.int p2)] [])) _
    refine XS.iloadN X0.here hx rfl (hb hby d2_0) rfl ?_
    show Steps p.tables e below (s₁.setTop (mkF m 1 #[.val (.int p1), .val (.int p2)] [(.int p1)])) _
    refine XS.iconst X0.here hx rfl (hb hby d2_1) ?_
    show Steps p.tables e below (s₁.setTop (mkF m 2 #[.val (.int p1), .val (.int p2)] [(.int (1 : Int32)), (.int p1)])) _
    refine XS.icmpYes X0.here hx rfl (pc0 := 2) (pc' := 16) rfl (hb hby d2_2) rfl (feq hc2).2 (by decide) (by decide) ?_
    show Steps p.tables e below (s₁.setTop (mkF m 16 #[.val (.int p1), .val (.int p2)] [])) _
    refine XS.iloadN X0.here hx rfl (hb hby d2_16) rfl ?_
    show Steps p.tables e below (s₁.setTop (mkF m 17 #[.val (.int p1), .val (.int p2)] [(.int p1)])) _
    refine XS.bipush X0.here hx rfl (hb hby d2_17) ?_
    show Steps p.tables e below (s₁.setTop (mkF m 19 #[.val (.int p1), .val (.int p2)] [(.int (6 : Int32)), (.int p1)])) _
    refine XS.icmpYes X0.here hx rfl (pc0 := 19) (pc' := 28) rfl (hb hby d2_19) rfl (teq hc19).1 (by decide) (by decide) ?_
    show Steps p.tables e below (s₁.setTop (mkF m 28 #[.val (.int p1), .val (.int p2)] [])) _
    refine XS.iloadN X0.here hx rfl (hb hby d2_28) rfl ?_
    show Steps p.tables e below (s₁.setTop (mkF m 29 #[.val (.int p1), .val (.int p2)] [(.int p2)])) _
    refine XS.iconst X0.here hx rfl (hb hby d2_29) ?_
    show Steps p.tables e below (s₁.setTop (mkF m 30 #[.val (.int p1), .val (.int p2)] [(.int (1 : Int32)), (.int p2)])) _
    refine XS.icmpNo X0.here hx rfl (hb hby d2_30) rfl (flt hc30).1 ?_
    show Steps p.tables e below (s₁.setTop (mkF m 33 #[.val (.int p1), .val (.int p2)] [])) _
    refine XS.iconst X0.here hx rfl (hb hby d2_33) ?_
    show Steps p.tables e below (s₁.setTop (mkF m 34 #[.val (.int p1), .val (.int p2)] [(.int (1 : Int32))])) _
    refine XS.goto X0.here hx rfl (pc0 := 34) (pc' := 38) rfl (hb hby d2_34) (by decide) (by decide) ?_
    show Steps p.tables e below (s₁.setTop (mkF m 38 #[.val (.int p1), .val (.int p2)] [(.int (1 : Int32))])) _
    exact retN X0 hx (t := .boolean) Bd.returns (by simp) (hb hby d2_38) hr
  · show (own_ret (.int (1 : Int32)) n0 h0) _ s₁.heap _
    rw [e0]
    exact ⟨rfl, N0, rfl⟩
theorem d2_37 : decode method_2_code 37 = .ok (.iconst 0, 1) := by decide +kernel
set_option maxRecDepth 65536 in
set_option maxHeartbeats 40000000 in
theorem own_exp_ttt (l : Launch) (Z : State) (a0 : Array Value) (hw : ∀ d ∈ tables_1, d.before a0 Z = true) (ws : List Jvm.Cond) (p1 : Int32) (p2 : Int32) (h0 : Heap) (n0 : Nat) (Z0 : n0 ≤ h0.size) (hc2 : ¬ (p1 = (1 : Int32))) (hc19 : p1 = (6 : Int32)) (hc30 : p2 < (1 : Int32)) :
    MetFree l (⟨"com/example/rolecall/rolecall/model/StatementKindAcceptsArgumentCountPinLaw", "expected", "(II)Z"⟩ : MethodName) (head1 (Jvm.Cond.code (⟨"com/example/rolecall/rolecall/model/StatementKindAcceptsArgumentCountPinLaw", "expected", "(II)Z"⟩ : MethodName) method_2_code 2 (some .boolean) :: ws) ({ frames := 0, cells := 0, slots := 0, locals := 0 } : Room)) (fun a U => a = #[(.int p1), (.int p2)] ∧ Z.Warmed39 U.vm ∧ U.heap = h0) (fun _ _ _ _ _ => True) (fun _ U o U' => ∃ v L, o = .returned v ∧ (own_ret (.int (0 : Int32)) n0 h0) v U'.heap L ∧ FrameEnd U o U' L ({ frames := 0, cells := 0, slots := 0, locals := 0 } : Room).cells ({ frames := 0, cells := 0, slots := 0, locals := 0 } : Room).slots) := by
  refine MetFree.of_bodySF (plainFor_of_name pn_2) hisR ?_
  intro p e s m args below meth c s₁ Bd hml0 hP hK
  obtain ⟨rfl, hZ, hh⟩ := hP
  have hx := Bd.exec
  have hby := Bd.bytes
  have hml : c.maxLocals = 2 := hml0
  have hown : s.vm.findClass "com/example/rolecall/rolecall/model/StatementKindAcceptsArgumentCountPinLaw" = some m.cls := findClass_of_methodNamed Bd.named
  have hnm := (name_of_methodNamed Bd.named Bd.method).1
  have X0 : Stand p l e ({ frames := 0, cells := 0, slots := 0, locals := 0 } : Room) s m #[(.int p1), (.int p2)] below meth c s₁ [] 0 0 := Stand.of_body Bd
  have e0 : s₁.heap = h0 := by rw [← hh, Bd.state]; rfl
  have N0 := Fr.nil n0
  have pre0 : ∀ t, Steps p.tables e below (s₁.setTop (mkF m 0 #[.val (.int p1), .val (.int p2)] [])) t → Steps p.tables e below (s₁.setTop (entryFrame m #[(.int p1), (.int p2)] 2)) t := fun t k => castTop (ef_2 m p1 p2) k
  obtain ⟨fs, hr, hrun, hended, hW, hsame⟩ := X0.leave (v := some (.int (0 : Int32))) (fun h => by rw [Bd.returns] at h; cases h)
  refine ⟨_, _, pre0 _ ?_, hrun, hended, _, _, rfl, ?_, ⟨_, rfl⟩, hW, hsame.mono (by decide) (by decide)⟩
  · show Steps p.tables e below (s₁.setTop (mkF m 0 #[.val (.int p1), .val (.int p2)] [])) _
    refine XS.iloadN X0.here hx rfl (hb hby d2_0) rfl ?_
    show Steps p.tables e below (s₁.setTop (mkF m 1 #[.val (.int p1), .val (.int p2)] [(.int p1)])) _
    refine XS.iconst X0.here hx rfl (hb hby d2_1) ?_
    show Steps p.tables e below (s₁.setTop (mkF m 2 #[.val (.int p1), .val (.int p2)] [(.int (1 : Int32)), (.int p1)])) _
    refine XS.icmpYes X0.here hx rfl (pc0 := 2) (pc' := 16) rfl (hb hby d2_2) rfl (feq hc2).2 (by decide) (by decide) ?_
    show Steps p.tables e below (s₁.setTop (mkF m 16 #[.val (.int p1), .val (.int p2)] [])) _
    refine XS.iloadN X0.here hx rfl (hb hby d2_16) rfl ?_
    show Steps p.tables e below (s₁.setTop (mkF m 17 #[.val (.int p1), .val (.int p2)] [(.int p1)])) _
    refine XS.bipush X0.here hx rfl (hb hby d2_17) ?_
    show Steps p.tables e below (s₁.setTop (mkF m 19 #[.val (.int p1), .val (.int p2)] [(.int (6 : Int32)), (.int p1)])) _
    refine XS.icmpYes X0.here hx rfl (pc0 := 19) (pc' := 28) rfl (hb hby d2_19) rfl (teq hc19).1 (by decide) (by decide) ?_
    show Steps p.tables e below (s₁.setTop (mkF m 28 #[.val (.int p1), .val (.int p2)] [])) _
    refine XS.iloadN X0.here hx rfl (hb hby d2_28) rfl ?_
    show Steps p.tables e below (s₁.setTop (mkF m 29 #[.val (.int p1), .val (.int p2)] [(.int p2)])) _
    refine XS.iconst X0.here hx rfl (hb hby d2_29) ?_
    show Steps p.tables e below (s₁.setTop (mkF m 30 #[.val (.int p1), .val (.int p2)] [(.int (1 : Int32)), (.int p2)])) _
    refine XS.icmpYes X0.here hx rfl (pc0 := 30) (pc' := 37) rfl (hb hby d2_30) rfl (tlt hc30).1 (by decide) (by decide) ?_
    show Steps p.tables e below (s₁.setTop (mkF m 37 #[.val (.int p1), .val (.int p2)] [])) _
    refine XS.iconst X0.here hx rfl (hb hby d2_37) ?_
    show Steps p.tables e below (s₁.setTop (mkF m 38 #[.val (.int p1), .val (.int p2)] [(.int (0 : Int32))])) _
    exact retN X0 hx (t := .boolean) Bd.returns (by simp) (hb hby d2_38) hr
  · show (own_ret (.int (0 : Int32)) n0 h0) _ s₁.heap _
    rw [e0]
    exact ⟨rfl, N0, rfl⟩
theorem d2_22 : decode method_2_code 22 = .ok (.iload_n 0, 1) := by decide +kernel
theorem d2_23 : decode method_2_code 23 = .ok (.bipush 7, 2) := by decide +kernel
theorem d2_25 : decode method_2_code 25 = .ok (.if_icmp .ne 14, 3) := by decide +kernel
set_option maxRecDepth 65536 in
set_option maxHeartbeats 40000000 in
theorem own_exp_tfff (l : Launch) (Z : State) (a0 : Array Value) (hw : ∀ d ∈ tables_1, d.before a0 Z = true) (ws : List Jvm.Cond) (p1 : Int32) (p2 : Int32) (h0 : Heap) (n0 : Nat) (Z0 : n0 ≤ h0.size) (hc2 : ¬ (p1 = (1 : Int32))) (hc19 : ¬ (p1 = (6 : Int32))) (hc25 : p1 = (7 : Int32)) (hc30 : ¬ (p2 < (1 : Int32))) :
    MetFree l (⟨"com/example/rolecall/rolecall/model/StatementKindAcceptsArgumentCountPinLaw", "expected", "(II)Z"⟩ : MethodName) (head1 (Jvm.Cond.code (⟨"com/example/rolecall/rolecall/model/StatementKindAcceptsArgumentCountPinLaw", "expected", "(II)Z"⟩ : MethodName) method_2_code 2 (some .boolean) :: ws) ({ frames := 0, cells := 0, slots := 0, locals := 0 } : Room)) (fun a U => a = #[(.int p1), (.int p2)] ∧ Z.Warmed39 U.vm ∧ U.heap = h0) (fun _ _ _ _ _ => True) (fun _ U o U' => ∃ v L, o = .returned v ∧ (own_ret (.int (1 : Int32)) n0 h0) v U'.heap L ∧ FrameEnd U o U' L ({ frames := 0, cells := 0, slots := 0, locals := 0 } : Room).cells ({ frames := 0, cells := 0, slots := 0, locals := 0 } : Room).slots) := by
  refine MetFree.of_bodySF (plainFor_of_name pn_2) hisR ?_
  intro p e s m args below meth c s₁ Bd hml0 hP hK
  obtain ⟨rfl, hZ, hh⟩ := hP
  have hx := Bd.exec
  have hby := Bd.bytes
  have hml : c.maxLocals = 2 := hml0
  have hown : s.vm.findClass "com/example/rolecall/rolecall/model/StatementKindAcceptsArgumentCountPinLaw" = some m.cls := findClass_of_methodNamed Bd.named
  have hnm := (name_of_methodNamed Bd.named Bd.method).1
  have X0 : Stand p l e ({ frames := 0, cells := 0, slots := 0, locals := 0 } : Room) s m #[(.int p1), (.int p2)] below meth c s₁ [] 0 0 := Stand.of_body Bd
  have e0 : s₁.heap = h0 := by rw [← hh, Bd.state]; rfl
  have N0 := Fr.nil n0
  have pre0 : ∀ t, Steps p.tables e below (s₁.setTop (mkF m 0 #[.val (.int p1), .val (.int p2)] [])) t → Steps p.tables e below (s₁.setTop (entryFrame m #[(.int p1), (.int p2)] 2)) t := fun t k => castTop (ef_2 m p1 p2) k
  obtain ⟨fs, hr, hrun, hended, hW, hsame⟩ := X0.leave (v := some (.int (1 : Int32))) (fun h => by rw [Bd.returns] at h; cases h)
  refine ⟨_, _, pre0 _ ?_, hrun, hended, _, _, rfl, ?_, ⟨_, rfl⟩, hW, hsame.mono (by decide) (by decide)⟩
  · show Steps p.tables e below (s₁.setTop (mkF m 0 #[.val (.int p1), .val (.int p2)] [])) _
    refine XS.iloadN X0.here hx rfl (hb hby d2_0) rfl ?_
    show Steps p.tables e below (s₁.setTop (mkF m 1 #[.val (.int p1), .val (.int p2)] [(.int p1)])) _
    refine XS.iconst X0.here hx rfl (hb hby d2_1) ?_
    show Steps p.tables e below (s₁.setTop (mkF m 2 #[.val (.int p1), .val (.int p2)] [(.int (1 : Int32)), (.int p1)])) _
    refine XS.icmpYes X0.here hx rfl (pc0 := 2) (pc' := 16) rfl (hb hby d2_2) rfl (feq hc2).2 (by decide) (by decide) ?_
    show Steps p.tables e below (s₁.setTop (mkF m 16 #[.val (.int p1), .val (.int p2)] [])) _
    refine XS.iloadN X0.here hx rfl (hb hby d2_16) rfl ?_
    show Steps p.tables e below (s₁.setTop (mkF m 17 #[.val (.int p1), .val (.int p2)] [(.int p1)])) _
    refine XS.bipush X0.here hx rfl (hb hby d2_17) ?_
    show Steps p.tables e below (s₁.setTop (mkF m 19 #[.val (.int p1), .val (.int p2)] [(.int (6 : Int32)), (.int p1)])) _
    refine XS.icmpNo X0.here hx rfl (hb hby d2_19) rfl (feq hc19).1 ?_
    show Steps p.tables e below (s₁.setTop (mkF m 22 #[.val (.int p1), .val (.int p2)] [])) _
    refine XS.iloadN X0.here hx rfl (hb hby d2_22) rfl ?_
    show Steps p.tables e below (s₁.setTop (mkF m 23 #[.val (.int p1), .val (.int p2)] [(.int p1)])) _
    refine XS.bipush X0.here hx rfl (hb hby d2_23) ?_
    show Steps p.tables e below (s₁.setTop (mkF m 25 #[.val (.int p1), .val (.int p2)] [(.int (7 : Int32)), (.int p1)])) _
    refine XS.icmpNo X0.here hx rfl (hb hby d2_25) rfl (teq hc25).2 ?_
    show Steps p.tables e below (s₁.setTop (mkF m 28 #[.val (.int p1), .val (.int p2)] [])) _
    refine XS.iloadN X0.here hx rfl (hb hby d2_28) rfl ?_
    show Steps p.tables e below (s₁.setTop (mkF m 29 #[.val (.int p1), .val (.int p2)] [(.int p2)])) _
    refine XS.iconst X0.here hx rfl (hb hby d2_29) ?_
    show Steps p.tables e below (s₁.setTop (mkF m 30 #[.val (.int p1), .val (.int p2)] [(.int (1 : Int32)), (.int p2)])) _
    refine XS.icmpNo X0.here hx rfl (hb hby d2_30) rfl (flt hc30).1 ?_
    show Steps p.tables e below (s₁.setTop (mkF m 33 #[.val (.int p1), .val (.int p2)] [])) _
    refine XS.iconst X0.here hx rfl (hb hby d2_33) ?_
    show Steps p.tables e below (s₁.setTop (mkF m 34 #[.val (.int p1), .val (.int p2)] [(.int (1 : Int32))])) _
    refine XS.goto X0.here hx rfl (pc0 := 34) (pc' := 38) rfl (hb hby d2_34) (by decide) (by decide) ?_
    show Steps p.tables e below (s₁.setTop (mkF m 38 #[.val (.int p1), .val (.int p2)] [(.int (1 : Int32))])) _
    exact retN X0 hx (t := .boolean) Bd.returns (by simp) (hb hby d2_38) hr
  · show (own_ret (.int (1 : Int32)) n0 h0) _ s₁.heap _
    rw [e0]
    exact ⟨rfl, N0, rfl⟩
set_option maxRecDepth 65536 in
set_option maxHeartbeats 40000000 in
theorem own_exp_tfft (l : Launch) (Z : State) (a0 : Array Value) (hw : ∀ d ∈ tables_1, d.before a0 Z = true) (ws : List Jvm.Cond) (p1 : Int32) (p2 : Int32) (h0 : Heap) (n0 : Nat) (Z0 : n0 ≤ h0.size) (hc2 : ¬ (p1 = (1 : Int32))) (hc19 : ¬ (p1 = (6 : Int32))) (hc25 : p1 = (7 : Int32)) (hc30 : p2 < (1 : Int32)) :
    MetFree l (⟨"com/example/rolecall/rolecall/model/StatementKindAcceptsArgumentCountPinLaw", "expected", "(II)Z"⟩ : MethodName) (head1 (Jvm.Cond.code (⟨"com/example/rolecall/rolecall/model/StatementKindAcceptsArgumentCountPinLaw", "expected", "(II)Z"⟩ : MethodName) method_2_code 2 (some .boolean) :: ws) ({ frames := 0, cells := 0, slots := 0, locals := 0 } : Room)) (fun a U => a = #[(.int p1), (.int p2)] ∧ Z.Warmed39 U.vm ∧ U.heap = h0) (fun _ _ _ _ _ => True) (fun _ U o U' => ∃ v L, o = .returned v ∧ (own_ret (.int (0 : Int32)) n0 h0) v U'.heap L ∧ FrameEnd U o U' L ({ frames := 0, cells := 0, slots := 0, locals := 0 } : Room).cells ({ frames := 0, cells := 0, slots := 0, locals := 0 } : Room).slots) := by
  refine MetFree.of_bodySF (plainFor_of_name pn_2) hisR ?_
  intro p e s m args below meth c s₁ Bd hml0 hP hK
  obtain ⟨rfl, hZ, hh⟩ := hP
  have hx := Bd.exec
  have hby := Bd.bytes
  have hml : c.maxLocals = 2 := hml0
  have hown : s.vm.findClass "com/example/rolecall/rolecall/model/StatementKindAcceptsArgumentCountPinLaw" = some m.cls := findClass_of_methodNamed Bd.named
  have hnm := (name_of_methodNamed Bd.named Bd.method).1
  have X0 : Stand p l e ({ frames := 0, cells := 0, slots := 0, locals := 0 } : Room) s m #[(.int p1), (.int p2)] below meth c s₁ [] 0 0 := Stand.of_body Bd
  have e0 : s₁.heap = h0 := by rw [← hh, Bd.state]; rfl
  have N0 := Fr.nil n0
  have pre0 : ∀ t, Steps p.tables e below (s₁.setTop (mkF m 0 #[.val (.int p1), .val (.int p2)] [])) t → Steps p.tables e below (s₁.setTop (entryFrame m #[(.int p1), (.int p2)] 2)) t := fun t k => castTop (ef_2 m p1 p2) k
  obtain ⟨fs, hr, hrun, hended, hW, hsame⟩ := X0.leave (v := some (.int (0 : Int32))) (fun h => by rw [Bd.returns] at h; cases h)
  refine ⟨_, _, pre0 _ ?_, hrun, hended, _, _, rfl, ?_, ⟨_, rfl⟩, hW, hsame.mono (by decide) (by decide)⟩
  · show Steps p.tables e below (s₁.setTop (mkF m 0 #[.val (.int p1), .val (.int p2)] [])) _
    refine XS.iloadN X0.here hx rfl (hb hby d2_0) rfl ?_
    show Steps p.tables e below (s₁.setTop (mkF m 1 #[.val (.int p1), .val (.int p2)] [(.int p1)])) _
    refine XS.iconst X0.here hx rfl (hb hby d2_1) ?_
    show Steps p.tables e below (s₁.setTop (mkF m 2 #[.val (.int p1), .val (.int p2)] [(.int (1 : Int32)), (.int p1)])) _
    refine XS.icmpYes X0.here hx rfl (pc0 := 2) (pc' := 16) rfl (hb hby d2_2) rfl (feq hc2).2 (by decide) (by decide) ?_
    show Steps p.tables e below (s₁.setTop (mkF m 16 #[.val (.int p1), .val (.int p2)] [])) _
    refine XS.iloadN X0.here hx rfl (hb hby d2_16) rfl ?_
    show Steps p.tables e below (s₁.setTop (mkF m 17 #[.val (.int p1), .val (.int p2)] [(.int p1)])) _
    refine XS.bipush X0.here hx rfl (hb hby d2_17) ?_
    show Steps p.tables e below (s₁.setTop (mkF m 19 #[.val (.int p1), .val (.int p2)] [(.int (6 : Int32)), (.int p1)])) _
    refine XS.icmpNo X0.here hx rfl (hb hby d2_19) rfl (feq hc19).1 ?_
    show Steps p.tables e below (s₁.setTop (mkF m 22 #[.val (.int p1), .val (.int p2)] [])) _
    refine XS.iloadN X0.here hx rfl (hb hby d2_22) rfl ?_
    show Steps p.tables e below (s₁.setTop (mkF m 23 #[.val (.int p1), .val (.int p2)] [(.int p1)])) _
    refine XS.bipush X0.here hx rfl (hb hby d2_23) ?_
    show Steps p.tables e below (s₁.setTop (mkF m 25 #[.val (.int p1), .val (.int p2)] [(.int (7 : Int32)), (.int p1)])) _
    refine XS.icmpNo X0.here hx rfl (hb hby d2_25) rfl (teq hc25).2 ?_
    show Steps p.tables e below (s₁.setTop (mkF m 28 #[.val (.int p1), .val (.int p2)] [])) _
    refine XS.iloadN X0.here hx rfl (hb hby d2_28) rfl ?_
    show Steps p.tables e below (s₁.setTop (mkF m 29 #[.val (.int p1), .val (.int p2)] [(.int p2)])) _
    refine XS.iconst X0.here hx rfl (hb hby d2_29) ?_
    show Steps p.tables e below (s₁.setTop (mkF m 30 #[.val (.int p1), .val (.int p2)] [(.int (1 : Int32)), (.int p2)])) _
    refine XS.icmpYes X0.here hx rfl (pc0 := 30) (pc' := 37) rfl (hb hby d2_30) rfl (tlt hc30).1 (by decide) (by decide) ?_
    show Steps p.tables e below (s₁.setTop (mkF m 37 #[.val (.int p1), .val (.int p2)] [])) _
    refine XS.iconst X0.here hx rfl (hb hby d2_37) ?_
    show Steps p.tables e below (s₁.setTop (mkF m 38 #[.val (.int p1), .val (.int p2)] [(.int (0 : Int32))])) _
    exact retN X0 hx (t := .boolean) Bd.returns (by simp) (hb hby d2_38) hr
  · show (own_ret (.int (0 : Int32)) n0 h0) _ s₁.heap _
    rw [e0]
    exact ⟨rfl, N0, rfl⟩
theorem d2_39 : decode method_2_code 39 = .ok (.iload_n 0, 1) := by decide +kernel
theorem d2_40 : decode method_2_code 40 = .ok (.bipush 8, 2) := by decide +kernel
theorem d2_42 : decode method_2_code 42 = .ok (.if_icmp .lt 14, 3) := by decide +kernel
theorem d2_45 : decode method_2_code 45 = .ok (.iload_n 1, 1) := by decide +kernel
theorem d2_46 : decode method_2_code 46 = .ok (.iconst 1, 1) := by decide +kernel
theorem d2_47 : decode method_2_code 47 = .ok (.if_icmp .ne 7, 3) := by decide +kernel
theorem d2_50 : decode method_2_code 50 = .ok (.iconst 1, 1) := by decide +kernel
theorem d2_51 : decode method_2_code 51 = .ok (.goto 4, 3) := by decide +kernel
theorem d2_55 : decode method_2_code 55 = .ok (.ireturn, 1) := by decide +kernel
set_option maxRecDepth 65536 in
set_option maxHeartbeats 40000000 in
theorem own_exp_tftff (l : Launch) (Z : State) (a0 : Array Value) (hw : ∀ d ∈ tables_1, d.before a0 Z = true) (ws : List Jvm.Cond) (p1 : Int32) (p2 : Int32) (h0 : Heap) (n0 : Nat) (Z0 : n0 ≤ h0.size) (hc2 : ¬ (p1 = (1 : Int32))) (hc19 : ¬ (p1 = (6 : Int32))) (hc25 : ¬ (p1 = (7 : Int32))) (hc42 : ¬ (p1 < (8 : Int32))) (hc47 : p2 = (1 : Int32)) :
    MetFree l (⟨"com/example/rolecall/rolecall/model/StatementKindAcceptsArgumentCountPinLaw", "expected", "(II)Z"⟩ : MethodName) (head1 (Jvm.Cond.code (⟨"com/example/rolecall/rolecall/model/StatementKindAcceptsArgumentCountPinLaw", "expected", "(II)Z"⟩ : MethodName) method_2_code 2 (some .boolean) :: ws) ({ frames := 0, cells := 0, slots := 0, locals := 0 } : Room)) (fun a U => a = #[(.int p1), (.int p2)] ∧ Z.Warmed39 U.vm ∧ U.heap = h0) (fun _ _ _ _ _ => True) (fun _ U o U' => ∃ v L, o = .returned v ∧ (own_ret (.int (1 : Int32)) n0 h0) v U'.heap L ∧ FrameEnd U o U' L ({ frames := 0, cells := 0, slots := 0, locals := 0 } : Room).cells ({ frames := 0, cells := 0, slots := 0, locals := 0 } : Room).slots) := by
  refine MetFree.of_bodySF (plainFor_of_name pn_2) hisR ?_
  intro p e s m args below meth c s₁ Bd hml0 hP hK
  obtain ⟨rfl, hZ, hh⟩ := hP
  have hx := Bd.exec
  have hby := Bd.bytes
  have hml : c.maxLocals = 2 := hml0
  have hown : s.vm.findClass "com/example/rolecall/rolecall/model/StatementKindAcceptsArgumentCountPinLaw" = some m.cls := findClass_of_methodNamed Bd.named
  have hnm := (name_of_methodNamed Bd.named Bd.method).1
  have X0 : Stand p l e ({ frames := 0, cells := 0, slots := 0, locals := 0 } : Room) s m #[(.int p1), (.int p2)] below meth c s₁ [] 0 0 := Stand.of_body Bd
  have e0 : s₁.heap = h0 := by rw [← hh, Bd.state]; rfl
  have N0 := Fr.nil n0
  have pre0 : ∀ t, Steps p.tables e below (s₁.setTop (mkF m 0 #[.val (.int p1), .val (.int p2)] [])) t → Steps p.tables e below (s₁.setTop (entryFrame m #[(.int p1), (.int p2)] 2)) t := fun t k => castTop (ef_2 m p1 p2) k
  obtain ⟨fs, hr, hrun, hended, hW, hsame⟩ := X0.leave (v := some (.int (1 : Int32))) (fun h => by rw [Bd.returns] at h; cases h)
  refine ⟨_, _, pre0 _ ?_, hrun, hended, _, _, rfl, ?_, ⟨_, rfl⟩, hW, hsame.mono (by decide) (by decide)⟩
  · show Steps p.tables e below (s₁.setTop (mkF m 0 #[.val (.int p1), .val (.int p2)] [])) _
    refine XS.iloadN X0.here hx rfl (hb hby d2_0) rfl ?_
    show Steps p.tables e below (s₁.setTop (mkF m 1 #[.val (.int p1), .val (.int p2)] [(.int p1)])) _
    refine XS.iconst X0.here hx rfl (hb hby d2_1) ?_
    show Steps p.tables e below (s₁.setTop (mkF m 2 #[.val (.int p1), .val (.int p2)] [(.int (1 : Int32)), (.int p1)])) _
    refine XS.icmpYes X0.here hx rfl (pc0 := 2) (pc' := 16) rfl (hb hby d2_2) rfl (feq hc2).2 (by decide) (by decide) ?_
    show Steps p.tables e below (s₁.setTop (mkF m 16 #[.val (.int p1), .val (.int p2)] [])) _
    refine XS.iloadN X0.here hx rfl (hb hby d2_16) rfl ?_
    show Steps p.tables e below (s₁.setTop (mkF m 17 #[.val (.int p1), .val (.int p2)] [(.int p1)])) _
    refine XS.bipush X0.here hx rfl (hb hby d2_17) ?_
    show Steps p.tables e below (s₁.setTop (mkF m 19 #[.val (.int p1), .val (.int p2)] [(.int (6 : Int32)), (.int p1)])) _
    refine XS.icmpNo X0.here hx rfl (hb hby d2_19) rfl (feq hc19).1 ?_
    show Steps p.tables e below (s₁.setTop (mkF m 22 #[.val (.int p1), .val (.int p2)] [])) _
    refine XS.iloadN X0.here hx rfl (hb hby d2_22) rfl ?_
    show Steps p.tables e below (s₁.setTop (mkF m 23 #[.val (.int p1), .val (.int p2)] [(.int p1)])) _
    refine XS.bipush X0.here hx rfl (hb hby d2_23) ?_
    show Steps p.tables e below (s₁.setTop (mkF m 25 #[.val (.int p1), .val (.int p2)] [(.int (7 : Int32)), (.int p1)])) _
    refine XS.icmpYes X0.here hx rfl (pc0 := 25) (pc' := 39) rfl (hb hby d2_25) rfl (feq hc25).2 (by decide) (by decide) ?_
    show Steps p.tables e below (s₁.setTop (mkF m 39 #[.val (.int p1), .val (.int p2)] [])) _
    refine XS.iloadN X0.here hx rfl (hb hby d2_39) rfl ?_
    show Steps p.tables e below (s₁.setTop (mkF m 40 #[.val (.int p1), .val (.int p2)] [(.int p1)])) _
    refine XS.bipush X0.here hx rfl (hb hby d2_40) ?_
    show Steps p.tables e below (s₁.setTop (mkF m 42 #[.val (.int p1), .val (.int p2)] [(.int (8 : Int32)), (.int p1)])) _
    refine XS.icmpNo X0.here hx rfl (hb hby d2_42) rfl (flt hc42).1 ?_
    show Steps p.tables e below (s₁.setTop (mkF m 45 #[.val (.int p1), .val (.int p2)] [])) _
    refine XS.iloadN X0.here hx rfl (hb hby d2_45) rfl ?_
    show Steps p.tables e below (s₁.setTop (mkF m 46 #[.val (.int p1), .val (.int p2)] [(.int p2)])) _
    refine XS.iconst X0.here hx rfl (hb hby d2_46) ?_
    show Steps p.tables e below (s₁.setTop (mkF m 47 #[.val (.int p1), .val (.int p2)] [(.int (1 : Int32)), (.int p2)])) _
    refine XS.icmpNo X0.here hx rfl (hb hby d2_47) rfl (teq hc47).2 ?_
    show Steps p.tables e below (s₁.setTop (mkF m 50 #[.val (.int p1), .val (.int p2)] [])) _
    refine XS.iconst X0.here hx rfl (hb hby d2_50) ?_
    show Steps p.tables e below (s₁.setTop (mkF m 51 #[.val (.int p1), .val (.int p2)] [(.int (1 : Int32))])) _
    refine XS.goto X0.here hx rfl (pc0 := 51) (pc' := 55) rfl (hb hby d2_51) (by decide) (by decide) ?_
    show Steps p.tables e below (s₁.setTop (mkF m 55 #[.val (.int p1), .val (.int p2)] [(.int (1 : Int32))])) _
    exact retN X0 hx (t := .boolean) Bd.returns (by simp) (hb hby d2_55) hr
  · show (own_ret (.int (1 : Int32)) n0 h0) _ s₁.heap _
    rw [e0]
    exact ⟨rfl, N0, rfl⟩
theorem d2_54 : decode method_2_code 54 = .ok (.iconst 0, 1) := by decide +kernel
set_option maxRecDepth 65536 in
set_option maxHeartbeats 40000000 in
theorem own_exp_tftft (l : Launch) (Z : State) (a0 : Array Value) (hw : ∀ d ∈ tables_1, d.before a0 Z = true) (ws : List Jvm.Cond) (p1 : Int32) (p2 : Int32) (h0 : Heap) (n0 : Nat) (Z0 : n0 ≤ h0.size) (hc2 : ¬ (p1 = (1 : Int32))) (hc19 : ¬ (p1 = (6 : Int32))) (hc25 : ¬ (p1 = (7 : Int32))) (hc42 : ¬ (p1 < (8 : Int32))) (hc47 : ¬ (p2 = (1 : Int32))) :
    MetFree l (⟨"com/example/rolecall/rolecall/model/StatementKindAcceptsArgumentCountPinLaw", "expected", "(II)Z"⟩ : MethodName) (head1 (Jvm.Cond.code (⟨"com/example/rolecall/rolecall/model/StatementKindAcceptsArgumentCountPinLaw", "expected", "(II)Z"⟩ : MethodName) method_2_code 2 (some .boolean) :: ws) ({ frames := 0, cells := 0, slots := 0, locals := 0 } : Room)) (fun a U => a = #[(.int p1), (.int p2)] ∧ Z.Warmed39 U.vm ∧ U.heap = h0) (fun _ _ _ _ _ => True) (fun _ U o U' => ∃ v L, o = .returned v ∧ (own_ret (.int (0 : Int32)) n0 h0) v U'.heap L ∧ FrameEnd U o U' L ({ frames := 0, cells := 0, slots := 0, locals := 0 } : Room).cells ({ frames := 0, cells := 0, slots := 0, locals := 0 } : Room).slots) := by
  refine MetFree.of_bodySF (plainFor_of_name pn_2) hisR ?_
  intro p e s m args below meth c s₁ Bd hml0 hP hK
  obtain ⟨rfl, hZ, hh⟩ := hP
  have hx := Bd.exec
  have hby := Bd.bytes
  have hml : c.maxLocals = 2 := hml0
  have hown : s.vm.findClass "com/example/rolecall/rolecall/model/StatementKindAcceptsArgumentCountPinLaw" = some m.cls := findClass_of_methodNamed Bd.named
  have hnm := (name_of_methodNamed Bd.named Bd.method).1
  have X0 : Stand p l e ({ frames := 0, cells := 0, slots := 0, locals := 0 } : Room) s m #[(.int p1), (.int p2)] below meth c s₁ [] 0 0 := Stand.of_body Bd
  have e0 : s₁.heap = h0 := by rw [← hh, Bd.state]; rfl
  have N0 := Fr.nil n0
  have pre0 : ∀ t, Steps p.tables e below (s₁.setTop (mkF m 0 #[.val (.int p1), .val (.int p2)] [])) t → Steps p.tables e below (s₁.setTop (entryFrame m #[(.int p1), (.int p2)] 2)) t := fun t k => castTop (ef_2 m p1 p2) k
  obtain ⟨fs, hr, hrun, hended, hW, hsame⟩ := X0.leave (v := some (.int (0 : Int32))) (fun h => by rw [Bd.returns] at h; cases h)
  refine ⟨_, _, pre0 _ ?_, hrun, hended, _, _, rfl, ?_, ⟨_, rfl⟩, hW, hsame.mono (by decide) (by decide)⟩
  · show Steps p.tables e below (s₁.setTop (mkF m 0 #[.val (.int p1), .val (.int p2)] [])) _
    refine XS.iloadN X0.here hx rfl (hb hby d2_0) rfl ?_
    show Steps p.tables e below (s₁.setTop (mkF m 1 #[.val (.int p1), .val (.int p2)] [(.int p1)])) _
    refine XS.iconst X0.here hx rfl (hb hby d2_1) ?_
    show Steps p.tables e below (s₁.setTop (mkF m 2 #[.val (.int p1), .val (.int p2)] [(.int (1 : Int32)), (.int p1)])) _
    refine XS.icmpYes X0.here hx rfl (pc0 := 2) (pc' := 16) rfl (hb hby d2_2) rfl (feq hc2).2 (by decide) (by decide) ?_
    show Steps p.tables e below (s₁.setTop (mkF m 16 #[.val (.int p1), .val (.int p2)] [])) _
    refine XS.iloadN X0.here hx rfl (hb hby d2_16) rfl ?_
    show Steps p.tables e below (s₁.setTop (mkF m 17 #[.val (.int p1), .val (.int p2)] [(.int p1)])) _
    refine XS.bipush X0.here hx rfl (hb hby d2_17) ?_
    show Steps p.tables e below (s₁.setTop (mkF m 19 #[.val (.int p1), .val (.int p2)] [(.int (6 : Int32)), (.int p1)])) _
    refine XS.icmpNo X0.here hx rfl (hb hby d2_19) rfl (feq hc19).1 ?_
    show Steps p.tables e below (s₁.setTop (mkF m 22 #[.val (.int p1), .val (.int p2)] [])) _
    refine XS.iloadN X0.here hx rfl (hb hby d2_22) rfl ?_
    show Steps p.tables e below (s₁.setTop (mkF m 23 #[.val (.int p1), .val (.int p2)] [(.int p1)])) _
    refine XS.bipush X0.here hx rfl (hb hby d2_23) ?_
    show Steps p.tables e below (s₁.setTop (mkF m 25 #[.val (.int p1), .val (.int p2)] [(.int (7 : Int32)), (.int p1)])) _
    refine XS.icmpYes X0.here hx rfl (pc0 := 25) (pc' := 39) rfl (hb hby d2_25) rfl (feq hc25).2 (by decide) (by decide) ?_
    show Steps p.tables e below (s₁.setTop (mkF m 39 #[.val (.int p1), .val (.int p2)] [])) _
    refine XS.iloadN X0.here hx rfl (hb hby d2_39) rfl ?_
    show Steps p.tables e below (s₁.setTop (mkF m 40 #[.val (.int p1), .val (.int p2)] [(.int p1)])) _
    refine XS.bipush X0.here hx rfl (hb hby d2_40) ?_
    show Steps p.tables e below (s₁.setTop (mkF m 42 #[.val (.int p1), .val (.int p2)] [(.int (8 : Int32)), (.int p1)])) _
    refine XS.icmpNo X0.here hx rfl (hb hby d2_42) rfl (flt hc42).1 ?_
    show Steps p.tables e below (s₁.setTop (mkF m 45 #[.val (.int p1), .val (.int p2)] [])) _
    refine XS.iloadN X0.here hx rfl (hb hby d2_45) rfl ?_
    show Steps p.tables e below (s₁.setTop (mkF m 46 #[.val (.int p1), .val (.int p2)] [(.int p2)])) _
    refine XS.iconst X0.here hx rfl (hb hby d2_46) ?_
    show Steps p.tables e below (s₁.setTop (mkF m 47 #[.val (.int p1), .val (.int p2)] [(.int (1 : Int32)), (.int p2)])) _
    refine XS.icmpYes X0.here hx rfl (pc0 := 47) (pc' := 54) rfl (hb hby d2_47) rfl (feq hc47).2 (by decide) (by decide) ?_
    show Steps p.tables e below (s₁.setTop (mkF m 54 #[.val (.int p1), .val (.int p2)] [])) _
    refine XS.iconst X0.here hx rfl (hb hby d2_54) ?_
    show Steps p.tables e below (s₁.setTop (mkF m 55 #[.val (.int p1), .val (.int p2)] [(.int (0 : Int32))])) _
    exact retN X0 hx (t := .boolean) Bd.returns (by simp) (hb hby d2_55) hr
  · show (own_ret (.int (0 : Int32)) n0 h0) _ s₁.heap _
    rw [e0]
    exact ⟨rfl, N0, rfl⟩
theorem d2_56 : decode method_2_code 56 = .ok (.iload_n 1, 1) := by decide +kernel
theorem d2_57 : decode method_2_code 57 = .ok (.iconst 2, 1) := by decide +kernel
theorem d2_58 : decode method_2_code 58 = .ok (.if_icmp .ne 7, 3) := by decide +kernel
theorem d2_61 : decode method_2_code 61 = .ok (.iconst 1, 1) := by decide +kernel
theorem d2_62 : decode method_2_code 62 = .ok (.goto 4, 3) := by decide +kernel
theorem d2_66 : decode method_2_code 66 = .ok (.ireturn, 1) := by decide +kernel
set_option maxRecDepth 65536 in
set_option maxHeartbeats 40000000 in
theorem own_exp_tfttf (l : Launch) (Z : State) (a0 : Array Value) (hw : ∀ d ∈ tables_1, d.before a0 Z = true) (ws : List Jvm.Cond) (p1 : Int32) (p2 : Int32) (h0 : Heap) (n0 : Nat) (Z0 : n0 ≤ h0.size) (hc2 : ¬ (p1 = (1 : Int32))) (hc19 : ¬ (p1 = (6 : Int32))) (hc25 : ¬ (p1 = (7 : Int32))) (hc42 : p1 < (8 : Int32)) (hc58 : p2 = (2 : Int32)) :
    MetFree l (⟨"com/example/rolecall/rolecall/model/StatementKindAcceptsArgumentCountPinLaw", "expected", "(II)Z"⟩ : MethodName) (head1 (Jvm.Cond.code (⟨"com/example/rolecall/rolecall/model/StatementKindAcceptsArgumentCountPinLaw", "expected", "(II)Z"⟩ : MethodName) method_2_code 2 (some .boolean) :: ws) ({ frames := 0, cells := 0, slots := 0, locals := 0 } : Room)) (fun a U => a = #[(.int p1), (.int p2)] ∧ Z.Warmed39 U.vm ∧ U.heap = h0) (fun _ _ _ _ _ => True) (fun _ U o U' => ∃ v L, o = .returned v ∧ (own_ret (.int (1 : Int32)) n0 h0) v U'.heap L ∧ FrameEnd U o U' L ({ frames := 0, cells := 0, slots := 0, locals := 0 } : Room).cells ({ frames := 0, cells := 0, slots := 0, locals := 0 } : Room).slots) := by
  refine MetFree.of_bodySF (plainFor_of_name pn_2) hisR ?_
  intro p e s m args below meth c s₁ Bd hml0 hP hK
  obtain ⟨rfl, hZ, hh⟩ := hP
  have hx := Bd.exec
  have hby := Bd.bytes
  have hml : c.maxLocals = 2 := hml0
  have hown : s.vm.findClass "com/example/rolecall/rolecall/model/StatementKindAcceptsArgumentCountPinLaw" = some m.cls := findClass_of_methodNamed Bd.named
  have hnm := (name_of_methodNamed Bd.named Bd.method).1
  have X0 : Stand p l e ({ frames := 0, cells := 0, slots := 0, locals := 0 } : Room) s m #[(.int p1), (.int p2)] below meth c s₁ [] 0 0 := Stand.of_body Bd
  have e0 : s₁.heap = h0 := by rw [← hh, Bd.state]; rfl
  have N0 := Fr.nil n0
  have pre0 : ∀ t, Steps p.tables e below (s₁.setTop (mkF m 0 #[.val (.int p1), .val (.int p2)] [])) t → Steps p.tables e below (s₁.setTop (entryFrame m #[(.int p1), (.int p2)] 2)) t := fun t k => castTop (ef_2 m p1 p2) k
  obtain ⟨fs, hr, hrun, hended, hW, hsame⟩ := X0.leave (v := some (.int (1 : Int32))) (fun h => by rw [Bd.returns] at h; cases h)
  refine ⟨_, _, pre0 _ ?_, hrun, hended, _, _, rfl, ?_, ⟨_, rfl⟩, hW, hsame.mono (by decide) (by decide)⟩
  · show Steps p.tables e below (s₁.setTop (mkF m 0 #[.val (.int p1), .val (.int p2)] [])) _
    refine XS.iloadN X0.here hx rfl (hb hby d2_0) rfl ?_
    show Steps p.tables e below (s₁.setTop (mkF m 1 #[.val (.int p1), .val (.int p2)] [(.int p1)])) _
    refine XS.iconst X0.here hx rfl (hb hby d2_1) ?_
    show Steps p.tables e below (s₁.setTop (mkF m 2 #[.val (.int p1), .val (.int p2)] [(.int (1 : Int32)), (.int p1)])) _
    refine XS.icmpYes X0.here hx rfl (pc0 := 2) (pc' := 16) rfl (hb hby d2_2) rfl (feq hc2).2 (by decide) (by decide) ?_
    show Steps p.tables e below (s₁.setTop (mkF m 16 #[.val (.int p1), .val (.int p2)] [])) _
    refine XS.iloadN X0.here hx rfl (hb hby d2_16) rfl ?_
    show Steps p.tables e below (s₁.setTop (mkF m 17 #[.val (.int p1), .val (.int p2)] [(.int p1)])) _
    refine XS.bipush X0.here hx rfl (hb hby d2_17) ?_
    show Steps p.tables e below (s₁.setTop (mkF m 19 #[.val (.int p1), .val (.int p2)] [(.int (6 : Int32)), (.int p1)])) _
    refine XS.icmpNo X0.here hx rfl (hb hby d2_19) rfl (feq hc19).1 ?_
    show Steps p.tables e below (s₁.setTop (mkF m 22 #[.val (.int p1), .val (.int p2)] [])) _
    refine XS.iloadN X0.here hx rfl (hb hby d2_22) rfl ?_
    show Steps p.tables e below (s₁.setTop (mkF m 23 #[.val (.int p1), .val (.int p2)] [(.int p1)])) _
    refine XS.bipush X0.here hx rfl (hb hby d2_23) ?_
    show Steps p.tables e below (s₁.setTop (mkF m 25 #[.val (.int p1), .val (.int p2)] [(.int (7 : Int32)), (.int p1)])) _
    refine XS.icmpYes X0.here hx rfl (pc0 := 25) (pc' := 39) rfl (hb hby d2_25) rfl (feq hc25).2 (by decide) (by decide) ?_
    show Steps p.tables e below (s₁.setTop (mkF m 39 #[.val (.int p1), .val (.int p2)] [])) _
    refine XS.iloadN X0.here hx rfl (hb hby d2_39) rfl ?_
    show Steps p.tables e below (s₁.setTop (mkF m 40 #[.val (.int p1), .val (.int p2)] [(.int p1)])) _
    refine XS.bipush X0.here hx rfl (hb hby d2_40) ?_
    show Steps p.tables e below (s₁.setTop (mkF m 42 #[.val (.int p1), .val (.int p2)] [(.int (8 : Int32)), (.int p1)])) _
    refine XS.icmpYes X0.here hx rfl (pc0 := 42) (pc' := 56) rfl (hb hby d2_42) rfl (tlt hc42).1 (by decide) (by decide) ?_
    show Steps p.tables e below (s₁.setTop (mkF m 56 #[.val (.int p1), .val (.int p2)] [])) _
    refine XS.iloadN X0.here hx rfl (hb hby d2_56) rfl ?_
    show Steps p.tables e below (s₁.setTop (mkF m 57 #[.val (.int p1), .val (.int p2)] [(.int p2)])) _
    refine XS.iconst X0.here hx rfl (hb hby d2_57) ?_
    show Steps p.tables e below (s₁.setTop (mkF m 58 #[.val (.int p1), .val (.int p2)] [(.int (2 : Int32)), (.int p2)])) _
    refine XS.icmpNo X0.here hx rfl (hb hby d2_58) rfl (teq hc58).2 ?_
    show Steps p.tables e below (s₁.setTop (mkF m 61 #[.val (.int p1), .val (.int p2)] [])) _
    refine XS.iconst X0.here hx rfl (hb hby d2_61) ?_
    show Steps p.tables e below (s₁.setTop (mkF m 62 #[.val (.int p1), .val (.int p2)] [(.int (1 : Int32))])) _
    refine XS.goto X0.here hx rfl (pc0 := 62) (pc' := 66) rfl (hb hby d2_62) (by decide) (by decide) ?_
    show Steps p.tables e below (s₁.setTop (mkF m 66 #[.val (.int p1), .val (.int p2)] [(.int (1 : Int32))])) _
    exact retN X0 hx (t := .boolean) Bd.returns (by simp) (hb hby d2_66) hr
  · show (own_ret (.int (1 : Int32)) n0 h0) _ s₁.heap _
    rw [e0]
    exact ⟨rfl, N0, rfl⟩
theorem d2_65 : decode method_2_code 65 = .ok (.iconst 0, 1) := by decide +kernel
set_option maxRecDepth 65536 in
set_option maxHeartbeats 40000000 in
theorem own_exp_tfttt (l : Launch) (Z : State) (a0 : Array Value) (hw : ∀ d ∈ tables_1, d.before a0 Z = true) (ws : List Jvm.Cond) (p1 : Int32) (p2 : Int32) (h0 : Heap) (n0 : Nat) (Z0 : n0 ≤ h0.size) (hc2 : ¬ (p1 = (1 : Int32))) (hc19 : ¬ (p1 = (6 : Int32))) (hc25 : ¬ (p1 = (7 : Int32))) (hc42 : p1 < (8 : Int32)) (hc58 : ¬ (p2 = (2 : Int32))) :
    MetFree l (⟨"com/example/rolecall/rolecall/model/StatementKindAcceptsArgumentCountPinLaw", "expected", "(II)Z"⟩ : MethodName) (head1 (Jvm.Cond.code (⟨"com/example/rolecall/rolecall/model/StatementKindAcceptsArgumentCountPinLaw", "expected", "(II)Z"⟩ : MethodName) method_2_code 2 (some .boolean) :: ws) ({ frames := 0, cells := 0, slots := 0, locals := 0 } : Room)) (fun a U => a = #[(.int p1), (.int p2)] ∧ Z.Warmed39 U.vm ∧ U.heap = h0) (fun _ _ _ _ _ => True) (fun _ U o U' => ∃ v L, o = .returned v ∧ (own_ret (.int (0 : Int32)) n0 h0) v U'.heap L ∧ FrameEnd U o U' L ({ frames := 0, cells := 0, slots := 0, locals := 0 } : Room).cells ({ frames := 0, cells := 0, slots := 0, locals := 0 } : Room).slots) := by
  refine MetFree.of_bodySF (plainFor_of_name pn_2) hisR ?_
  intro p e s m args below meth c s₁ Bd hml0 hP hK
  obtain ⟨rfl, hZ, hh⟩ := hP
  have hx := Bd.exec
  have hby := Bd.bytes
  have hml : c.maxLocals = 2 := hml0
  have hown : s.vm.findClass "com/example/rolecall/rolecall/model/StatementKindAcceptsArgumentCountPinLaw" = some m.cls := findClass_of_methodNamed Bd.named
  have hnm := (name_of_methodNamed Bd.named Bd.method).1
  have X0 : Stand p l e ({ frames := 0, cells := 0, slots := 0, locals := 0 } : Room) s m #[(.int p1), (.int p2)] below meth c s₁ [] 0 0 := Stand.of_body Bd
  have e0 : s₁.heap = h0 := by rw [← hh, Bd.state]; rfl
  have N0 := Fr.nil n0
  have pre0 : ∀ t, Steps p.tables e below (s₁.setTop (mkF m 0 #[.val (.int p1), .val (.int p2)] [])) t → Steps p.tables e below (s₁.setTop (entryFrame m #[(.int p1), (.int p2)] 2)) t := fun t k => castTop (ef_2 m p1 p2) k
  obtain ⟨fs, hr, hrun, hended, hW, hsame⟩ := X0.leave (v := some (.int (0 : Int32))) (fun h => by rw [Bd.returns] at h; cases h)
  refine ⟨_, _, pre0 _ ?_, hrun, hended, _, _, rfl, ?_, ⟨_, rfl⟩, hW, hsame.mono (by decide) (by decide)⟩
  · show Steps p.tables e below (s₁.setTop (mkF m 0 #[.val (.int p1), .val (.int p2)] [])) _
    refine XS.iloadN X0.here hx rfl (hb hby d2_0) rfl ?_
    show Steps p.tables e below (s₁.setTop (mkF m 1 #[.val (.int p1), .val (.int p2)] [(.int p1)])) _
    refine XS.iconst X0.here hx rfl (hb hby d2_1) ?_
    show Steps p.tables e below (s₁.setTop (mkF m 2 #[.val (.int p1), .val (.int p2)] [(.int (1 : Int32)), (.int p1)])) _
    refine XS.icmpYes X0.here hx rfl (pc0 := 2) (pc' := 16) rfl (hb hby d2_2) rfl (feq hc2).2 (by decide) (by decide) ?_
    show Steps p.tables e below (s₁.setTop (mkF m 16 #[.val (.int p1), .val (.int p2)] [])) _
    refine XS.iloadN X0.here hx rfl (hb hby d2_16) rfl ?_
    show Steps p.tables e below (s₁.setTop (mkF m 17 #[.val (.int p1), .val (.int p2)] [(.int p1)])) _
    refine XS.bipush X0.here hx rfl (hb hby d2_17) ?_
    show Steps p.tables e below (s₁.setTop (mkF m 19 #[.val (.int p1), .val (.int p2)] [(.int (6 : Int32)), (.int p1)])) _
    refine XS.icmpNo X0.here hx rfl (hb hby d2_19) rfl (feq hc19).1 ?_
    show Steps p.tables e below (s₁.setTop (mkF m 22 #[.val (.int p1), .val (.int p2)] [])) _
    refine XS.iloadN X0.here hx rfl (hb hby d2_22) rfl ?_
    show Steps p.tables e below (s₁.setTop (mkF m 23 #[.val (.int p1), .val (.int p2)] [(.int p1)])) _
    refine XS.bipush X0.here hx rfl (hb hby d2_23) ?_
    show Steps p.tables e below (s₁.setTop (mkF m 25 #[.val (.int p1), .val (.int p2)] [(.int (7 : Int32)), (.int p1)])) _
    refine XS.icmpYes X0.here hx rfl (pc0 := 25) (pc' := 39) rfl (hb hby d2_25) rfl (feq hc25).2 (by decide) (by decide) ?_
    show Steps p.tables e below (s₁.setTop (mkF m 39 #[.val (.int p1), .val (.int p2)] [])) _
    refine XS.iloadN X0.here hx rfl (hb hby d2_39) rfl ?_
    show Steps p.tables e below (s₁.setTop (mkF m 40 #[.val (.int p1), .val (.int p2)] [(.int p1)])) _
    refine XS.bipush X0.here hx rfl (hb hby d2_40) ?_
    show Steps p.tables e below (s₁.setTop (mkF m 42 #[.val (.int p1), .val (.int p2)] [(.int (8 : Int32)), (.int p1)])) _
    refine XS.icmpYes X0.here hx rfl (pc0 := 42) (pc' := 56) rfl (hb hby d2_42) rfl (tlt hc42).1 (by decide) (by decide) ?_
    show Steps p.tables e below (s₁.setTop (mkF m 56 #[.val (.int p1), .val (.int p2)] [])) _
    refine XS.iloadN X0.here hx rfl (hb hby d2_56) rfl ?_
    show Steps p.tables e below (s₁.setTop (mkF m 57 #[.val (.int p1), .val (.int p2)] [(.int p2)])) _
    refine XS.iconst X0.here hx rfl (hb hby d2_57) ?_
    show Steps p.tables e below (s₁.setTop (mkF m 58 #[.val (.int p1), .val (.int p2)] [(.int (2 : Int32)), (.int p2)])) _
    refine XS.icmpYes X0.here hx rfl (pc0 := 58) (pc' := 65) rfl (hb hby d2_58) rfl (feq hc58).2 (by decide) (by decide) ?_
    show Steps p.tables e below (s₁.setTop (mkF m 65 #[.val (.int p1), .val (.int p2)] [])) _
    refine XS.iconst X0.here hx rfl (hb hby d2_65) ?_
    show Steps p.tables e below (s₁.setTop (mkF m 66 #[.val (.int p1), .val (.int p2)] [(.int (0 : Int32))])) _
    exact retN X0 hx (t := .boolean) Bd.returns (by simp) (hb hby d2_66) hr
  · show (own_ret (.int (0 : Int32)) n0 h0) _ s₁.heap _
    rw [e0]
    exact ⟨rfl, N0, rfl⟩
theorem pd_iz : parseMethodDescriptor "(I)Z" = some ⟨[.int], some .boolean⟩ := by decide +kernel
theorem pd_iiz : parseMethodDescriptor "(II)Z" = some ⟨[.int, .int], some .boolean⟩ := by decide +kernel
theorem pn_0 : plainName "com/example/rolecall/rolecall/model/StatementKindAcceptsArgumentCountPinLaw" = true := by first | (simp [plainName, overriddenIn]; done) | decide +kernel
theorem ef_0 (m : MethodId) (x0 : Int32) (x1 : Int32) (x2 : Int32) : entryFrame m #[(.int x0), (.int x1), (.int x2)] maxLocals = mkF m 0 #[.val (.int x0), .val (.int x1), .val (.int x2), .unset, .unset, .unset, .unset, .unset, .unset] [] := by first | (simp [entryFrame, mkF, argsToLocals, Value.category, maxLocals]; done) | rfl
set_option maxRecDepth 65536 in
set_option maxHeartbeats 40000000 in
theorem own_law (l : Launch) (Z : State) (a0 : Array Value) (hw : ∀ d ∈ tables_1, d.before a0 Z = true) (ws : List Jvm.Cond) (p1 p2 p3 : Int32) (h0 : Heap) (n0 : Nat) (Z0 : n0 ≤ h0.size) (w_ASSIGN : Addr) (S_ASSIGN : Sta Z h0 "com/example/rolecall/rolecall/model/StatementKind" "ASSIGN" "Lcom/example/rolecall/rolecall/model/StatementKind;" (.ref w_ASSIGN)) (E_ASSIGN : Exa Z h0 w_ASSIGN "com/example/rolecall/rolecall/model/StatementKind") (w_GRANT : Addr) (S_GRANT : Sta Z h0 "com/example/rolecall/rolecall/model/StatementKind" "GRANT" "Lcom/example/rolecall/rolecall/model/StatementKind;" (.ref w_GRANT)) (E_GRANT : Exa Z h0 w_GRANT "com/example/rolecall/rolecall/model/StatementKind") (w_INHERIT : Addr) (S_INHERIT : Sta Z h0 "com/example/rolecall/rolecall/model/StatementKind" "INHERIT" "Lcom/example/rolecall/rolecall/model/StatementKind;" (.ref w_INHERIT)) (E_INHERIT : Exa Z h0 w_INHERIT "com/example/rolecall/rolecall/model/StatementKind") (w_SSD : Addr) (S_SSD : Sta Z h0 "com/example/rolecall/rolecall/model/StatementKind" "SSD" "Lcom/example/rolecall/rolecall/model/StatementKind;" (.ref w_SSD)) (E_SSD : Exa Z h0 w_SSD "com/example/rolecall/rolecall/model/StatementKind") (w_DSD : Addr) (S_DSD : Sta Z h0 "com/example/rolecall/rolecall/model/StatementKind" "DSD" "Lcom/example/rolecall/rolecall/model/StatementKind;" (.ref w_DSD)) (E_DSD : Exa Z h0 w_DSD "com/example/rolecall/rolecall/model/StatementKind") (w_FLOW : Addr) (S_FLOW : Sta Z h0 "com/example/rolecall/rolecall/model/StatementKind" "FLOW" "Lcom/example/rolecall/rolecall/model/StatementKind;" (.ref w_FLOW)) (E_FLOW : Exa Z h0 w_FLOW "com/example/rolecall/rolecall/model/StatementKind") (w_READS : Addr) (S_READS : Sta Z h0 "com/example/rolecall/rolecall/model/StatementKind" "READS" "Lcom/example/rolecall/rolecall/model/StatementKind;" (.ref w_READS)) (E_READS : Exa Z h0 w_READS "com/example/rolecall/rolecall/model/StatementKind") (w_WRITES : Addr) (S_WRITES : Sta Z h0 "com/example/rolecall/rolecall/model/StatementKind" "WRITES" "Lcom/example/rolecall/rolecall/model/StatementKind;" (.ref w_WRITES)) (E_WRITES : Exa Z h0 w_WRITES "com/example/rolecall/rolecall/model/StatementKind") (w_USER : Addr) (S_USER : Sta Z h0 "com/example/rolecall/rolecall/model/StatementKind" "USER" "Lcom/example/rolecall/rolecall/model/StatementKind;" (.ref w_USER)) (E_USER : Exa Z h0 w_USER "com/example/rolecall/rolecall/model/StatementKind") (w_ROLE : Addr) (S_ROLE : Sta Z h0 "com/example/rolecall/rolecall/model/StatementKind" "ROLE" "Lcom/example/rolecall/rolecall/model/StatementKind;" (.ref w_ROLE)) (E_ROLE : Exa Z h0 w_ROLE "com/example/rolecall/rolecall/model/StatementKind") (w_EXEMPT : Addr) (S_EXEMPT : Sta Z h0 "com/example/rolecall/rolecall/model/StatementKind" "EXEMPT" "Lcom/example/rolecall/rolecall/model/StatementKind;" (.ref w_EXEMPT)) (E_EXEMPT : Exa Z h0 w_EXEMPT "com/example/rolecall/rolecall/model/StatementKind") (j : Int32) (hj : (p1 &&& (2147483647 : Int32)) % (11 : Int32) = j) (hlo : ¬ j < 0) (hhi : j < (11 : Int32)) (wj : Addr) (hu : ([(.ref w_ASSIGN), (.ref w_GRANT), (.ref w_INHERIT), (.ref w_SSD), (.ref w_DSD), (.ref w_FLOW), (.ref w_READS), (.ref w_WRITES), (.ref w_USER), (.ref w_ROLE), (.ref w_EXEMPT)] : List Value).getD j.toNatClampNeg .null = (.ref wj)) (Ej : Exa Z h0 wj "com/example/rolecall/rolecall/model/StatementKind") (r1 r2 : Int32) (HA1 : ∀ hh : Heap, Keep h0 hh [] → own_M l (⟨"com/example/rolecall/rolecall/model/StatementKind", "acceptsArgumentCount", "(I)Z"⟩ : MethodName) prog_59_method_7_code 3 (some .boolean) ({ frames := 0, cells := 0, slots := 0, locals := 0 } : Room) Z #[(.ref wj), (.int p2)] hh (own_ret (.int r1) n0 hh)) (HE1 : ∀ hh : Heap, Keep h0 hh [] → own_M l (⟨"com/example/rolecall/rolecall/model/StatementKindAcceptsArgumentCountPinLaw", "expected", "(II)Z"⟩ : MethodName) method_2_code 2 (some .boolean) ({ frames := 0, cells := 0, slots := 0, locals := 0 } : Room) Z #[(.int j), (.int p2)] hh (own_ret (.int r1) n0 hh)) (HA2 : ∀ hh : Heap, Keep h0 hh [] → own_M l (⟨"com/example/rolecall/rolecall/model/StatementKind", "acceptsArgumentCount", "(I)Z"⟩ : MethodName) prog_59_method_7_code 3 (some .boolean) ({ frames := 0, cells := 0, slots := 0, locals := 0 } : Room) Z #[(.ref wj), (.int ((p3 &&& (7 : Int32)) - (2 : Int32)))] hh (own_ret (.int r2) n0 hh)) (HE2 : ∀ hh : Heap, Keep h0 hh [] → own_M l (⟨"com/example/rolecall/rolecall/model/StatementKindAcceptsArgumentCountPinLaw", "expected", "(II)Z"⟩ : MethodName) method_2_code 2 (some .boolean) ({ frames := 0, cells := 0, slots := 0, locals := 0 } : Room) Z #[(.int j), (.int ((p3 &&& (7 : Int32)) - (2 : Int32)))] hh (own_ret (.int r2) n0 hh)) :
    MetFree l x (head1 (Jvm.Cond.code x code maxLocals ret :: ws) room_1) (fun a U => a = #[(.int p1), (.int p2), (.int p3)] ∧ Z.Warmed39 U.vm ∧ U.heap = h0) (fun _ _ _ _ _ => True) (fun _ U o U' => ∃ v L, o = .returned v ∧ (own_one n0) v U'.heap L ∧ FrameEnd U o U' L room_1.cells room_1.slots) := by
  refine MetFree.of_bodySF (plainFor_of_name pn_0) hisR ?_
  intro p e s m args below meth c s₁ Bd hml0 hP hK
  obtain ⟨rfl, hZ, hh⟩ := hP
  have hx := Bd.exec
  have hby := Bd.bytes
  have hml : c.maxLocals = 9 := hml0
  have hown : s.vm.findClass "com/example/rolecall/rolecall/model/StatementKindAcceptsArgumentCountPinLaw" = some m.cls := findClass_of_methodNamed Bd.named
  have hnm := (name_of_methodNamed Bd.named Bd.method).1
  have X0 : Stand p l e room_1 s m #[(.int p1), (.int p2), (.int p3)] below meth c s₁ [] 0 0 := Stand.of_body Bd
  have e0 : s₁.heap = h0 := by rw [← hh, Bd.state]; rfl
  have N0 := Fr.nil n0
  have pre0 : ∀ t, Steps p.tables e below (s₁.setTop (mkF m 0 #[.val (.int p1), .val (.int p2), .val (.int p3), .unset, .unset, .unset, .unset, .unset, .unset] [])) t → Steps p.tables e below (s₁.setTop (entryFrame m #[(.int p1), (.int p2), (.int p3)] maxLocals)) t := fun t k => castTop (ef_0 m p1 p2 p3) k
  obtain ⟨T2, h2, k2, X2, e2, E2, A2, O2, st2⟩ := newR X0 hx hZ hown (hw _ (List.mem_of_getElem? (i := 0) rfl)) (hw _ (List.mem_of_getElem? (i := 1) rfl)) e0 (g := (mkF m 2 #[.val (.int p1), .val (.int p2), .val (.int p3), .unset, .unset, .unset, .unset, .unset, .unset] [(.int (11 : Int32))])) rfl (hb hby at_2) rfl (by decide) (cap := 11) (by decide) (by decide) (by decide) (by decide)
  obtain ⟨b2, g2⟩ : ∃ z, z = h0.size := ⟨_, rfl⟩
  rw [← g2] at A2 st2
  have g_b2 : n0 ≤ b2 := Nat.le_trans Z0 (Nat.le_trans (Keep.refl h0 []).1 (Nat.le_of_eq g2.symm))
  have sz_b2 : h0.size ≤ b2 := Nat.le_trans (Keep.refl h0 []).1 (Nat.le_of_eq g2.symm)
  have K2 : Keep h0 h2 [] := (Keep.refl h0 []).ext E2
  have Vb2 : Arv Z h2 b2 k2 (.object "com/example/rolecall/rolecall/model/StatementKind") (11 : Int32) [.null, .null, .null, .null, .null, .null, .null, .null, .null, .null, .null] .null := (Arv.new A2 (by decide)).pad (pad_rep [] .null 11)
  obtain ⟨T3, X3, e3, st3⟩ := getS2 X2 hx hZ hown (host := "") (Or.inl (hw _ (List.mem_of_getElem? (i := 2) rfl))) Via.refl e2 (S_ASSIGN.ext (own_ext K2)) (g := (mkF m 7 #[.val (.int p1), .val (.int p2), .val (.int p3), .unset, .unset, .unset, .unset, .unset, .unset] [(.int (0 : Int32)), (.ref b2), (.ref b2)])) rfl (hb hby at_7)
  obtain ⟨cl4, Ar4, q4, S4, M4, H4, G4⟩ := Vb2
  have hin4 : ¬ ((0 : Int32) < 0 ∨ cl4.slots.size ≤ ((0 : Int32)).toNatClampNeg) := inb_of S4 ⟨by decide, by decide⟩
  obtain ⟨T4, h4, X4, e4, W4, st4⟩ := stR X3 hx hZ e3 Ar4 (j := (0 : Int32)) hin4 rfl (Sto.ofV Ar4 q4 O2 (Ins.self (E_ASSIGN.ext (own_ext K2)))) (g := (mkF m 10 #[.val (.int p1), .val (.int p2), .val (.int p3), .unset, .unset, .unset, .unset, .unset, .unset] [(.ref w_ASSIGN), (.int (0 : Int32)), (.ref b2), (.ref b2)])) rfl rfl (hb hby at_10)
  have N4 := Fr.snoc X4 N0 g_b2
  have Vb2_4 : Arv Z h4 b2 k2 (.object "com/example/rolecall/rolecall/model/StatementKind") (11 : Int32) [(.ref w_ASSIGN), .null, .null, .null, .null, .null, .null, .null, .null, .null, .null] .null := Arv.set Ar4 q4 S4 M4 H4 G4 rfl W4 0 rfl (Nat.le_of_ble_eq_true rfl)
  have K4 : Keep h0 h4 [] := K2.wr W4 (Or.inr sz_b2)
  obtain ⟨T5, X5, e5, st5⟩ := getS2 X4 hx hZ hown (host := "") (Or.inl (hw _ (List.mem_of_getElem? (i := 6) rfl))) Via.refl e4 (S_GRANT.ext (own_ext K4)) (g := (mkF m 13 #[.val (.int p1), .val (.int p2), .val (.int p3), .unset, .unset, .unset, .unset, .unset, .unset] [(.int (1 : Int32)), (.ref b2), (.ref b2)])) rfl (hb hby at_13)
  obtain ⟨cl6, Ar6, q6, S6, M6, H6, G6⟩ := Vb2_4
  have hin6 : ¬ ((1 : Int32) < 0 ∨ cl6.slots.size ≤ ((1 : Int32)).toNatClampNeg) := inb_of S6 ⟨by decide, by decide⟩
  obtain ⟨T6, h6, X6, e6, W6, st6⟩ := stR X5 hx hZ e5 Ar6 (j := (1 : Int32)) hin6 rfl (Sto.ofV Ar6 q6 O2 (Ins.self (E_GRANT.ext (own_ext K4)))) (g := (mkF m 16 #[.val (.int p1), .val (.int p2), .val (.int p3), .unset, .unset, .unset, .unset, .unset, .unset] [(.ref w_GRANT), (.int (1 : Int32)), (.ref b2), (.ref b2)])) rfl rfl (hb hby at_16)
  have N6 := Fr.snoc X6 N4 g_b2
  have Vb2_6 : Arv Z h6 b2 k2 (.object "com/example/rolecall/rolecall/model/StatementKind") (11 : Int32) [(.ref w_ASSIGN), (.ref w_GRANT), .null, .null, .null, .null, .null, .null, .null, .null, .null] .null := Arv.set Ar6 q6 S6 M6 H6 G6 rfl W6 1 rfl (Nat.le_of_ble_eq_true rfl)
  have K6 : Keep h0 h6 [] := K4.wr W6 (Or.inr sz_b2)
  obtain ⟨T7, X7, e7, st7⟩ := getS2 X6 hx hZ hown (host := "") (Or.inl (hw _ (List.mem_of_getElem? (i := 8) rfl))) Via.refl e6 (S_INHERIT.ext (own_ext K6)) (g := (mkF m 19 #[.val (.int p1), .val (.int p2), .val (.int p3), .unset, .unset, .unset, .unset, .unset, .unset] [(.int (2 : Int32)), (.ref b2), (.ref b2)])) rfl (hb hby at_19)
  obtain ⟨cl8, Ar8, q8, S8, M8, H8, G8⟩ := Vb2_6
  have hin8 : ¬ ((2 : Int32) < 0 ∨ cl8.slots.size ≤ ((2 : Int32)).toNatClampNeg) := inb_of S8 ⟨by decide, by decide⟩
  obtain ⟨T8, h8, X8, e8, W8, st8⟩ := stR X7 hx hZ e7 Ar8 (j := (2 : Int32)) hin8 rfl (Sto.ofV Ar8 q8 O2 (Ins.self (E_INHERIT.ext (own_ext K6)))) (g := (mkF m 22 #[.val (.int p1), .val (.int p2), .val (.int p3), .unset, .unset, .unset, .unset, .unset, .unset] [(.ref w_INHERIT), (.int (2 : Int32)), (.ref b2), (.ref b2)])) rfl rfl (hb hby at_22)
  have N8 := Fr.snoc X8 N6 g_b2
  have Vb2_8 : Arv Z h8 b2 k2 (.object "com/example/rolecall/rolecall/model/StatementKind") (11 : Int32) [(.ref w_ASSIGN), (.ref w_GRANT), (.ref w_INHERIT), .null, .null, .null, .null, .null, .null, .null, .null] .null := Arv.set Ar8 q8 S8 M8 H8 G8 rfl W8 2 rfl (Nat.le_of_ble_eq_true rfl)
  have K8 : Keep h0 h8 [] := K6.wr W8 (Or.inr sz_b2)
  obtain ⟨T9, X9, e9, st9⟩ := getS2 X8 hx hZ hown (host := "") (Or.inl (hw _ (List.mem_of_getElem? (i := 10) rfl))) Via.refl e8 (S_SSD.ext (own_ext K8)) (g := (mkF m 25 #[.val (.int p1), .val (.int p2), .val (.int p3), .unset, .unset, .unset, .unset, .unset, .unset] [(.int (3 : Int32)), (.ref b2), (.ref b2)])) rfl (hb hby at_25)
  obtain ⟨cl10, Ar10, q10, S10, M10, H10, G10⟩ := Vb2_8
  have hin10 : ¬ ((3 : Int32) < 0 ∨ cl10.slots.size ≤ ((3 : Int32)).toNatClampNeg) := inb_of S10 ⟨by decide, by decide⟩
  obtain ⟨T10, h10, X10, e10, W10, st10⟩ := stR X9 hx hZ e9 Ar10 (j := (3 : Int32)) hin10 rfl (Sto.ofV Ar10 q10 O2 (Ins.self (E_SSD.ext (own_ext K8)))) (g := (mkF m 28 #[.val (.int p1), .val (.int p2), .val (.int p3), .unset, .unset, .unset, .unset, .unset, .unset] [(.ref w_SSD), (.int (3 : Int32)), (.ref b2), (.ref b2)])) rfl rfl (hb hby at_28)
  have N10 := Fr.snoc X10 N8 g_b2
  have Vb2_10 : Arv Z h10 b2 k2 (.object "com/example/rolecall/rolecall/model/StatementKind") (11 : Int32) [(.ref w_ASSIGN), (.ref w_GRANT), (.ref w_INHERIT), (.ref w_SSD), .null, .null, .null, .null, .null, .null, .null] .null := Arv.set Ar10 q10 S10 M10 H10 G10 rfl W10 3 rfl (Nat.le_of_ble_eq_true rfl)
  have K10 : Keep h0 h10 [] := K8.wr W10 (Or.inr sz_b2)
  obtain ⟨T11, X11, e11, st11⟩ := getS2 X10 hx hZ hown (host := "") (Or.inl (hw _ (List.mem_of_getElem? (i := 12) rfl))) Via.refl e10 (S_DSD.ext (own_ext K10)) (g := (mkF m 31 #[.val (.int p1), .val (.int p2), .val (.int p3), .unset, .unset, .unset, .unset, .unset, .unset] [(.int (4 : Int32)), (.ref b2), (.ref b2)])) rfl (hb hby at_31)
  obtain ⟨cl12, Ar12, q12, S12, M12, H12, G12⟩ := Vb2_10
  have hin12 : ¬ ((4 : Int32) < 0 ∨ cl12.slots.size ≤ ((4 : Int32)).toNatClampNeg) := inb_of S12 ⟨by decide, by decide⟩
  obtain ⟨T12, h12, X12, e12, W12, st12⟩ := stR X11 hx hZ e11 Ar12 (j := (4 : Int32)) hin12 rfl (Sto.ofV Ar12 q12 O2 (Ins.self (E_DSD.ext (own_ext K10)))) (g := (mkF m 34 #[.val (.int p1), .val (.int p2), .val (.int p3), .unset, .unset, .unset, .unset, .unset, .unset] [(.ref w_DSD), (.int (4 : Int32)), (.ref b2), (.ref b2)])) rfl rfl (hb hby at_34)
  have N12 := Fr.snoc X12 N10 g_b2
  have Vb2_12 : Arv Z h12 b2 k2 (.object "com/example/rolecall/rolecall/model/StatementKind") (11 : Int32) [(.ref w_ASSIGN), (.ref w_GRANT), (.ref w_INHERIT), (.ref w_SSD), (.ref w_DSD), .null, .null, .null, .null, .null, .null] .null := Arv.set Ar12 q12 S12 M12 H12 G12 rfl W12 4 rfl (Nat.le_of_ble_eq_true rfl)
  have K12 : Keep h0 h12 [] := K10.wr W12 (Or.inr sz_b2)
  obtain ⟨T13, X13, e13, st13⟩ := getS2 X12 hx hZ hown (host := "") (Or.inl (hw _ (List.mem_of_getElem? (i := 14) rfl))) Via.refl e12 (S_FLOW.ext (own_ext K12)) (g := (mkF m 37 #[.val (.int p1), .val (.int p2), .val (.int p3), .unset, .unset, .unset, .unset, .unset, .unset] [(.int (5 : Int32)), (.ref b2), (.ref b2)])) rfl (hb hby at_37)
  obtain ⟨cl14, Ar14, q14, S14, M14, H14, G14⟩ := Vb2_12
  have hin14 : ¬ ((5 : Int32) < 0 ∨ cl14.slots.size ≤ ((5 : Int32)).toNatClampNeg) := inb_of S14 ⟨by decide, by decide⟩
  obtain ⟨T14, h14, X14, e14, W14, st14⟩ := stR X13 hx hZ e13 Ar14 (j := (5 : Int32)) hin14 rfl (Sto.ofV Ar14 q14 O2 (Ins.self (E_FLOW.ext (own_ext K12)))) (g := (mkF m 40 #[.val (.int p1), .val (.int p2), .val (.int p3), .unset, .unset, .unset, .unset, .unset, .unset] [(.ref w_FLOW), (.int (5 : Int32)), (.ref b2), (.ref b2)])) rfl rfl (hb hby at_40)
  have N14 := Fr.snoc X14 N12 g_b2
  have Vb2_14 : Arv Z h14 b2 k2 (.object "com/example/rolecall/rolecall/model/StatementKind") (11 : Int32) [(.ref w_ASSIGN), (.ref w_GRANT), (.ref w_INHERIT), (.ref w_SSD), (.ref w_DSD), (.ref w_FLOW), .null, .null, .null, .null, .null] .null := Arv.set Ar14 q14 S14 M14 H14 G14 rfl W14 5 rfl (Nat.le_of_ble_eq_true rfl)
  have K14 : Keep h0 h14 [] := K12.wr W14 (Or.inr sz_b2)
  obtain ⟨T15, X15, e15, st15⟩ := getS2 X14 hx hZ hown (host := "") (Or.inl (hw _ (List.mem_of_getElem? (i := 16) rfl))) Via.refl e14 (S_READS.ext (own_ext K14)) (g := (mkF m 44 #[.val (.int p1), .val (.int p2), .val (.int p3), .unset, .unset, .unset, .unset, .unset, .unset] [(.int (6 : Int32)), (.ref b2), (.ref b2)])) rfl (hb hby at_44)
  obtain ⟨cl16, Ar16, q16, S16, M16, H16, G16⟩ := Vb2_14
  have hin16 : ¬ ((6 : Int32) < 0 ∨ cl16.slots.size ≤ ((6 : Int32)).toNatClampNeg) := inb_of S16 ⟨by decide, by decide⟩
  obtain ⟨T16, h16, X16, e16, W16, st16⟩ := stR X15 hx hZ e15 Ar16 (j := (6 : Int32)) hin16 rfl (Sto.ofV Ar16 q16 O2 (Ins.self (E_READS.ext (own_ext K14)))) (g := (mkF m 47 #[.val (.int p1), .val (.int p2), .val (.int p3), .unset, .unset, .unset, .unset, .unset, .unset] [(.ref w_READS), (.int (6 : Int32)), (.ref b2), (.ref b2)])) rfl rfl (hb hby at_47)
  have N16 := Fr.snoc X16 N14 g_b2
  have Vb2_16 : Arv Z h16 b2 k2 (.object "com/example/rolecall/rolecall/model/StatementKind") (11 : Int32) [(.ref w_ASSIGN), (.ref w_GRANT), (.ref w_INHERIT), (.ref w_SSD), (.ref w_DSD), (.ref w_FLOW), (.ref w_READS), .null, .null, .null, .null] .null := Arv.set Ar16 q16 S16 M16 H16 G16 rfl W16 6 rfl (Nat.le_of_ble_eq_true rfl)
  have K16 : Keep h0 h16 [] := K14.wr W16 (Or.inr sz_b2)
  obtain ⟨T17, X17, e17, st17⟩ := getS2 X16 hx hZ hown (host := "") (Or.inl (hw _ (List.mem_of_getElem? (i := 18) rfl))) Via.refl e16 (S_WRITES.ext (own_ext K16)) (g := (mkF m 51 #[.val (.int p1), .val (.int p2), .val (.int p3), .unset, .unset, .unset, .unset, .unset, .unset] [(.int (7 : Int32)), (.ref b2), (.ref b2)])) rfl (hb hby at_51)
  obtain ⟨cl18, Ar18, q18, S18, M18, H18, G18⟩ := Vb2_16
  have hin18 : ¬ ((7 : Int32) < 0 ∨ cl18.slots.size ≤ ((7 : Int32)).toNatClampNeg) := inb_of S18 ⟨by decide, by decide⟩
  obtain ⟨T18, h18, X18, e18, W18, st18⟩ := stR X17 hx hZ e17 Ar18 (j := (7 : Int32)) hin18 rfl (Sto.ofV Ar18 q18 O2 (Ins.self (E_WRITES.ext (own_ext K16)))) (g := (mkF m 54 #[.val (.int p1), .val (.int p2), .val (.int p3), .unset, .unset, .unset, .unset, .unset, .unset] [(.ref w_WRITES), (.int (7 : Int32)), (.ref b2), (.ref b2)])) rfl rfl (hb hby at_54)
  have N18 := Fr.snoc X18 N16 g_b2
  have Vb2_18 : Arv Z h18 b2 k2 (.object "com/example/rolecall/rolecall/model/StatementKind") (11 : Int32) [(.ref w_ASSIGN), (.ref w_GRANT), (.ref w_INHERIT), (.ref w_SSD), (.ref w_DSD), (.ref w_FLOW), (.ref w_READS), (.ref w_WRITES), .null, .null, .null] .null := Arv.set Ar18 q18 S18 M18 H18 G18 rfl W18 7 rfl (Nat.le_of_ble_eq_true rfl)
  have K18 : Keep h0 h18 [] := K16.wr W18 (Or.inr sz_b2)
  obtain ⟨T19, X19, e19, st19⟩ := getS2 X18 hx hZ hown (host := "") (Or.inl (hw _ (List.mem_of_getElem? (i := 20) rfl))) Via.refl e18 (S_USER.ext (own_ext K18)) (g := (mkF m 58 #[.val (.int p1), .val (.int p2), .val (.int p3), .unset, .unset, .unset, .unset, .unset, .unset] [(.int (8 : Int32)), (.ref b2), (.ref b2)])) rfl (hb hby at_58)
  obtain ⟨cl20, Ar20, q20, S20, M20, H20, G20⟩ := Vb2_18
  have hin20 : ¬ ((8 : Int32) < 0 ∨ cl20.slots.size ≤ ((8 : Int32)).toNatClampNeg) := inb_of S20 ⟨by decide, by decide⟩
  obtain ⟨T20, h20, X20, e20, W20, st20⟩ := stR X19 hx hZ e19 Ar20 (j := (8 : Int32)) hin20 rfl (Sto.ofV Ar20 q20 O2 (Ins.self (E_USER.ext (own_ext K18)))) (g := (mkF m 61 #[.val (.int p1), .val (.int p2), .val (.int p3), .unset, .unset, .unset, .unset, .unset, .unset] [(.ref w_USER), (.int (8 : Int32)), (.ref b2), (.ref b2)])) rfl rfl (hb hby at_61)
  have N20 := Fr.snoc X20 N18 g_b2
  have Vb2_20 : Arv Z h20 b2 k2 (.object "com/example/rolecall/rolecall/model/StatementKind") (11 : Int32) [(.ref w_ASSIGN), (.ref w_GRANT), (.ref w_INHERIT), (.ref w_SSD), (.ref w_DSD), (.ref w_FLOW), (.ref w_READS), (.ref w_WRITES), (.ref w_USER), .null, .null] .null := Arv.set Ar20 q20 S20 M20 H20 G20 rfl W20 8 rfl (Nat.le_of_ble_eq_true rfl)
  have K20 : Keep h0 h20 [] := K18.wr W20 (Or.inr sz_b2)
  obtain ⟨T21, X21, e21, st21⟩ := getS2 X20 hx hZ hown (host := "") (Or.inl (hw _ (List.mem_of_getElem? (i := 22) rfl))) Via.refl e20 (S_ROLE.ext (own_ext K20)) (g := (mkF m 65 #[.val (.int p1), .val (.int p2), .val (.int p3), .unset, .unset, .unset, .unset, .unset, .unset] [(.int (9 : Int32)), (.ref b2), (.ref b2)])) rfl (hb hby at_65)
  obtain ⟨cl22, Ar22, q22, S22, M22, H22, G22⟩ := Vb2_20
  have hin22 : ¬ ((9 : Int32) < 0 ∨ cl22.slots.size ≤ ((9 : Int32)).toNatClampNeg) := inb_of S22 ⟨by decide, by decide⟩
  obtain ⟨T22, h22, X22, e22, W22, st22⟩ := stR X21 hx hZ e21 Ar22 (j := (9 : Int32)) hin22 rfl (Sto.ofV Ar22 q22 O2 (Ins.self (E_ROLE.ext (own_ext K20)))) (g := (mkF m 68 #[.val (.int p1), .val (.int p2), .val (.int p3), .unset, .unset, .unset, .unset, .unset, .unset] [(.ref w_ROLE), (.int (9 : Int32)), (.ref b2), (.ref b2)])) rfl rfl (hb hby at_68)
  have N22 := Fr.snoc X22 N20 g_b2
  have Vb2_22 : Arv Z h22 b2 k2 (.object "com/example/rolecall/rolecall/model/StatementKind") (11 : Int32) [(.ref w_ASSIGN), (.ref w_GRANT), (.ref w_INHERIT), (.ref w_SSD), (.ref w_DSD), (.ref w_FLOW), (.ref w_READS), (.ref w_WRITES), (.ref w_USER), (.ref w_ROLE), .null] .null := Arv.set Ar22 q22 S22 M22 H22 G22 rfl W22 9 rfl (Nat.le_of_ble_eq_true rfl)
  have K22 : Keep h0 h22 [] := K20.wr W22 (Or.inr sz_b2)
  obtain ⟨T23, X23, e23, st23⟩ := getS2 X22 hx hZ hown (host := "") (Or.inl (hw _ (List.mem_of_getElem? (i := 24) rfl))) Via.refl e22 (S_EXEMPT.ext (own_ext K22)) (g := (mkF m 72 #[.val (.int p1), .val (.int p2), .val (.int p3), .unset, .unset, .unset, .unset, .unset, .unset] [(.int (10 : Int32)), (.ref b2), (.ref b2)])) rfl (hb hby at_72)
  obtain ⟨cl24, Ar24, q24, S24, M24, H24, G24⟩ := Vb2_22
  have hin24 : ¬ ((10 : Int32) < 0 ∨ cl24.slots.size ≤ ((10 : Int32)).toNatClampNeg) := inb_of S24 ⟨by decide, by decide⟩
  obtain ⟨T24, h24, X24, e24, W24, st24⟩ := stR X23 hx hZ e23 Ar24 (j := (10 : Int32)) hin24 rfl (Sto.ofV Ar24 q24 O2 (Ins.self (E_EXEMPT.ext (own_ext K22)))) (g := (mkF m 75 #[.val (.int p1), .val (.int p2), .val (.int p3), .unset, .unset, .unset, .unset, .unset, .unset] [(.ref w_EXEMPT), (.int (10 : Int32)), (.ref b2), (.ref b2)])) rfl rfl (hb hby at_75)
  have N24 := Fr.snoc X24 N22 g_b2
  have Vb2_24 : Arv Z h24 b2 k2 (.object "com/example/rolecall/rolecall/model/StatementKind") (11 : Int32) [(.ref w_ASSIGN), (.ref w_GRANT), (.ref w_INHERIT), (.ref w_SSD), (.ref w_DSD), (.ref w_FLOW), (.ref w_READS), (.ref w_WRITES), (.ref w_USER), (.ref w_ROLE), (.ref w_EXEMPT)] .null := Arv.set Ar24 q24 S24 M24 H24 G24 rfl W24 10 rfl (Nat.le_of_ble_eq_true rfl)
  have K24 : Keep h0 h24 [] := K22.wr W24 (Or.inr sz_b2)
  have Vb2_c25 := Vb2_24
  obtain ⟨cl25, Ar25, q25, S25, M25, H25, G25⟩ := Vb2_c25
  have hin25 : ¬ (j < 0 ∨ cl25.slots.size ≤ (j).toNatClampNeg) := inb_of S25 ⟨hlo, hhi⟩
  obtain ⟨cq26, kq26, q26a, q26b, q26c⟩ := isOf hZ e24 (Ej.ext (own_ext K24))
  obtain ⟨_, _, ⟨T26, L26, k26, n26⟩, -, X26, ⟨Lc26, hQ26, l26, y26, z26⟩, st26⟩ := X24.virtualBack hx (y := (⟨"com/example/rolecall/rolecall/model/StatementKind", "acceptsArgumentCount", "(I)Z"⟩ : MethodName)) (z := (⟨"com/example/rolecall/rolecall/model/StatementKind", "acceptsArgumentCount", "(I)Z"⟩ : MethodName)) hown (mvT hZ (hw _ (List.mem_of_getElem? (i := 27) rfl))) (mvT hZ (hw _ (List.mem_of_getElem? (i := 28) rfl))) (notFace_of_selects (args := #[]) (mvT hZ (hw _ (List.mem_of_getElem? (i := 30) rfl)))) (mvT hZ (hw _ (List.mem_of_getElem? (i := 30) rfl))) (mvT hZ (hw _ (List.mem_of_getElem? (i := 29) rfl))) (by decide) (backOf (W := 0) (HA1 h24 K24) hZ (hw _ (List.mem_of_getElem? (i := 31) rfl)) (hw _ (List.mem_of_getElem? (i := 3) rfl)) (by decide) (by decide)) q26a q26c (g := (mkF m 103 #[.val (.int p1), .val (.int p2), .val (.int p3), .val (.ref b2), .val (.int j), .val (.ref wj), .val (.int ((p3 &&& (7 : Int32)) - (2 : Int32))), .unset, .unset] [(.int p2), (.ref wj)])) rfl (by rw [hml]; rfl) (Steps.refl _) (argsL := [(.int p2)]) (rest := []) (lenOf pd_iz rfl) rfl (by show 2 * 0 + _ ≤ _; exact Nat.le_of_eq rfl) (hb hby at_103) (fun _ _ => ⟨rfl, e24, (by decide : 1 + 0 ≤ _), (by decide : 11 + 0 ≤ _)⟩)
  dsimp only [Pt.U, Pt.locs, Pt.cells, Pt.slots] at X26 l26 y26 z26 st26 hQ26
  subst l26 y26 z26
  obtain ⟨rfl, N26q, e26⟩ := hQ26
  have N26 := Fr.app N24 N26q
  obtain ⟨_, _, ⟨T27, L27, k27, n27⟩, -, X27, ⟨Lc27, hQ27, l27, y27, z27⟩, st27⟩ := Jvm.LawKit.callS X26 hx (y := (⟨"com/example/rolecall/rolecall/model/StatementKindAcceptsArgumentCountPinLaw", "expected", "(II)Z"⟩ : MethodName)) hown (mvT hZ (hw _ (List.mem_of_getElem? (i := 36) rfl))) (mvT hZ (hw _ (List.mem_of_getElem? (i := 37) rfl))) (mvT hZ (hw _ (List.mem_of_getElem? (i := 38) rfl))) (mvT hZ (hw _ (List.mem_of_getElem? (i := 39) rfl))) (by decide) (backOf (W := 1) (HE1 h24 K24) hZ (hw _ (List.mem_of_getElem? (i := 39) rfl)) (hw _ (List.mem_of_getElem? (i := 38) rfl)) (by decide) (by decide)) (g := (mkF m 109 #[.val (.int p1), .val (.int p2), .val (.int p3), .val (.ref b2), .val (.int j), .val (.ref wj), .val (.int ((p3 &&& (7 : Int32)) - (2 : Int32))), .unset, .unset] [(.int p2), (.int j), (.int r1)])) rfl (by rw [hml]; rfl) (argsL := [(.int j), (.int p2)]) (rest := [(.int r1)]) (lenOf pd_iiz rfl) rfl (by show 2 * 0 + _ ≤ _; exact Nat.le_of_eq rfl) (hb hby at_109) (fun _ _ => ⟨rfl, e26, (by decide : 1 + 0 ≤ _), (by decide : 11 + 0 ≤ _)⟩)
  dsimp only [Pt.U, Pt.locs, Pt.cells, Pt.slots] at X27 l27 y27 z27 st27 hQ27
  subst l27 y27 z27
  obtain ⟨rfl, N27q, e27⟩ := hQ27
  have N27 := Fr.app N26 N27q
  obtain ⟨cq28, kq28, q28a, q28b, q28c⟩ := isOf hZ e27 (Ej.ext (own_ext K24))
  obtain ⟨_, _, ⟨T28, L28, k28, n28⟩, -, X28, ⟨Lc28, hQ28, l28, y28, z28⟩, st28⟩ := X27.virtualBack hx (y := (⟨"com/example/rolecall/rolecall/model/StatementKind", "acceptsArgumentCount", "(I)Z"⟩ : MethodName)) (z := (⟨"com/example/rolecall/rolecall/model/StatementKind", "acceptsArgumentCount", "(I)Z"⟩ : MethodName)) hown (mvT hZ (hw _ (List.mem_of_getElem? (i := 27) rfl))) (mvT hZ (hw _ (List.mem_of_getElem? (i := 28) rfl))) (notFace_of_selects (args := #[]) (mvT hZ (hw _ (List.mem_of_getElem? (i := 30) rfl)))) (mvT hZ (hw _ (List.mem_of_getElem? (i := 30) rfl))) (mvT hZ (hw _ (List.mem_of_getElem? (i := 29) rfl))) (by decide) (backOf (W := 0) (HA2 h24 K24) hZ (hw _ (List.mem_of_getElem? (i := 31) rfl)) (hw _ (List.mem_of_getElem? (i := 3) rfl)) (by decide) (by decide)) q28a q28c (g := (mkF m 126 #[.val (.int p1), .val (.int p2), .val (.int p3), .val (.ref b2), .val (.int j), .val (.ref wj), .val (.int ((p3 &&& (7 : Int32)) - (2 : Int32))), .val (.int (1 : Int32)), .unset] [(.int ((p3 &&& (7 : Int32)) - (2 : Int32))), (.ref wj)])) rfl (by rw [hml]; rfl) (Steps.refl _) (argsL := [(.int ((p3 &&& (7 : Int32)) - (2 : Int32)))]) (rest := []) (lenOf pd_iz rfl) rfl (by show 2 * 0 + _ ≤ _; exact Nat.le_of_eq rfl) (hb hby at_126) (fun _ _ => ⟨rfl, e27, (by decide : 1 + 0 ≤ _), (by decide : 11 + 0 ≤ _)⟩)
  dsimp only [Pt.U, Pt.locs, Pt.cells, Pt.slots] at X28 l28 y28 z28 st28 hQ28
  subst l28 y28 z28
  obtain ⟨rfl, N28q, e28⟩ := hQ28
  have N28 := Fr.app N27 N28q
  obtain ⟨_, _, ⟨T29, L29, k29, n29⟩, -, X29, ⟨Lc29, hQ29, l29, y29, z29⟩, st29⟩ := Jvm.LawKit.callS X28 hx (y := (⟨"com/example/rolecall/rolecall/model/StatementKindAcceptsArgumentCountPinLaw", "expected", "(II)Z"⟩ : MethodName)) hown (mvT hZ (hw _ (List.mem_of_getElem? (i := 36) rfl))) (mvT hZ (hw _ (List.mem_of_getElem? (i := 37) rfl))) (mvT hZ (hw _ (List.mem_of_getElem? (i := 38) rfl))) (mvT hZ (hw _ (List.mem_of_getElem? (i := 39) rfl))) (by decide) (backOf (W := 1) (HE2 h24 K24) hZ (hw _ (List.mem_of_getElem? (i := 39) rfl)) (hw _ (List.mem_of_getElem? (i := 38) rfl)) (by decide) (by decide)) (g := (mkF m 133 #[.val (.int p1), .val (.int p2), .val (.int p3), .val (.ref b2), .val (.int j), .val (.ref wj), .val (.int ((p3 &&& (7 : Int32)) - (2 : Int32))), .val (.int (1 : Int32)), .unset] [(.int ((p3 &&& (7 : Int32)) - (2 : Int32))), (.int j), (.int r2)])) rfl (by rw [hml]; rfl) (argsL := [(.int j), (.int ((p3 &&& (7 : Int32)) - (2 : Int32)))]) (rest := [(.int r2)]) (lenOf pd_iiz rfl) rfl (by show 2 * 0 + _ ≤ _; exact Nat.le_of_eq rfl) (hb hby at_133) (fun _ _ => ⟨rfl, e28, (by decide : 1 + 0 ≤ _), (by decide : 11 + 0 ≤ _)⟩)
  dsimp only [Pt.U, Pt.locs, Pt.cells, Pt.slots] at X29 l29 y29 z29 st29 hQ29
  subst l29 y29 z29
  obtain ⟨rfl, N29q, e29⟩ := hQ29
  have N29 := Fr.app N28 N29q
  obtain ⟨fs, hr, hrun, hended, hW, hsame⟩ := X29.leave (v := some (.int (1 : Int32))) (fun h => by rw [Bd.returns] at h; cases h)
  refine ⟨_, _, pre0 _ ?_, hrun, hended, _, _, rfl, ?_, ⟨_, rfl⟩, hW, hsame.mono (by decide) (by decide)⟩
  · show Steps p.tables e below (s₁.setTop (mkF m 0 #[.val (.int p1), .val (.int p2), .val (.int p3), .unset, .unset, .unset, .unset, .unset, .unset] [])) _
    refine XS.bipush X0.here hx rfl (hb hby at_0) ?_
    show Steps p.tables e below (s₁.setTop (mkF m 2 #[.val (.int p1), .val (.int p2), .val (.int p3), .unset, .unset, .unset, .unset, .unset, .unset] [(.int (11 : Int32))])) _
    refine st2 _ ?_
    show Steps p.tables e below (T2.setTop (mkF m 5 #[.val (.int p1), .val (.int p2), .val (.int p3), .unset, .unset, .unset, .unset, .unset, .unset] [(.ref b2)])) _
    refine XS.dup X2.here hx rfl (hb hby at_5) rfl rfl ?_
    show Steps p.tables e below (T2.setTop (mkF m 6 #[.val (.int p1), .val (.int p2), .val (.int p3), .unset, .unset, .unset, .unset, .unset, .unset] [(.ref b2), (.ref b2)])) _
    refine XS.iconst X2.here hx rfl (hb hby at_6) ?_
    show Steps p.tables e below (T2.setTop (mkF m 7 #[.val (.int p1), .val (.int p2), .val (.int p3), .unset, .unset, .unset, .unset, .unset, .unset] [(.int (0 : Int32)), (.ref b2), (.ref b2)])) _
    refine st3 _ ?_
    show Steps p.tables e below (T3.setTop (mkF m 10 #[.val (.int p1), .val (.int p2), .val (.int p3), .unset, .unset, .unset, .unset, .unset, .unset] [(.ref w_ASSIGN), (.int (0 : Int32)), (.ref b2), (.ref b2)])) _
    refine st4 _ ?_
    show Steps p.tables e below (T4.setTop (mkF m 11 #[.val (.int p1), .val (.int p2), .val (.int p3), .unset, .unset, .unset, .unset, .unset, .unset] [(.ref b2)])) _
    refine XS.dup X4.here hx rfl (hb hby at_11) rfl rfl ?_
    show Steps p.tables e below (T4.setTop (mkF m 12 #[.val (.int p1), .val (.int p2), .val (.int p3), .unset, .unset, .unset, .unset, .unset, .unset] [(.ref b2), (.ref b2)])) _
    refine XS.iconst X4.here hx rfl (hb hby at_12) ?_
    show Steps p.tables e below (T4.setTop (mkF m 13 #[.val (.int p1), .val (.int p2), .val (.int p3), .unset, .unset, .unset, .unset, .unset, .unset] [(.int (1 : Int32)), (.ref b2), (.ref b2)])) _
    refine st5 _ ?_
    show Steps p.tables e below (T5.setTop (mkF m 16 #[.val (.int p1), .val (.int p2), .val (.int p3), .unset, .unset, .unset, .unset, .unset, .unset] [(.ref w_GRANT), (.int (1 : Int32)), (.ref b2), (.ref b2)])) _
    refine st6 _ ?_
    show Steps p.tables e below (T6.setTop (mkF m 17 #[.val (.int p1), .val (.int p2), .val (.int p3), .unset, .unset, .unset, .unset, .unset, .unset] [(.ref b2)])) _
    refine XS.dup X6.here hx rfl (hb hby at_17) rfl rfl ?_
    show Steps p.tables e below (T6.setTop (mkF m 18 #[.val (.int p1), .val (.int p2), .val (.int p3), .unset, .unset, .unset, .unset, .unset, .unset] [(.ref b2), (.ref b2)])) _
    refine XS.iconst X6.here hx rfl (hb hby at_18) ?_
    show Steps p.tables e below (T6.setTop (mkF m 19 #[.val (.int p1), .val (.int p2), .val (.int p3), .unset, .unset, .unset, .unset, .unset, .unset] [(.int (2 : Int32)), (.ref b2), (.ref b2)])) _
    refine st7 _ ?_
    show Steps p.tables e below (T7.setTop (mkF m 22 #[.val (.int p1), .val (.int p2), .val (.int p3), .unset, .unset, .unset, .unset, .unset, .unset] [(.ref w_INHERIT), (.int (2 : Int32)), (.ref b2), (.ref b2)])) _
    refine st8 _ ?_
    show Steps p.tables e below (T8.setTop (mkF m 23 #[.val (.int p1), .val (.int p2), .val (.int p3), .unset, .unset, .unset, .unset, .unset, .unset] [(.ref b2)])) _
    refine XS.dup X8.here hx rfl (hb hby at_23) rfl rfl ?_
    show Steps p.tables e below (T8.setTop (mkF m 24 #[.val (.int p1), .val (.int p2), .val (.int p3), .unset, .unset, .unset, .unset, .unset, .unset] [(.ref b2), (.ref b2)])) _
    refine XS.iconst X8.here hx rfl (hb hby at_24) ?_
    show Steps p.tables e below (T8.setTop (mkF m 25 #[.val (.int p1), .val (.int p2), .val (.int p3), .unset, .unset, .unset, .unset, .unset, .unset] [(.int (3 : Int32)), (.ref b2), (.ref b2)])) _
    refine st9 _ ?_
    show Steps p.tables e below (T9.setTop (mkF m 28 #[.val (.int p1), .val (.int p2), .val (.int p3), .unset, .unset, .unset, .unset, .unset, .unset] [(.ref w_SSD), (.int (3 : Int32)), (.ref b2), (.ref b2)])) _
    refine st10 _ ?_
    show Steps p.tables e below (T10.setTop (mkF m 29 #[.val (.int p1), .val (.int p2), .val (.int p3), .unset, .unset, .unset, .unset, .unset, .unset] [(.ref b2)])) _
    refine XS.dup X10.here hx rfl (hb hby at_29) rfl rfl ?_
    show Steps p.tables e below (T10.setTop (mkF m 30 #[.val (.int p1), .val (.int p2), .val (.int p3), .unset, .unset, .unset, .unset, .unset, .unset] [(.ref b2), (.ref b2)])) _
    refine XS.iconst X10.here hx rfl (hb hby at_30) ?_
    show Steps p.tables e below (T10.setTop (mkF m 31 #[.val (.int p1), .val (.int p2), .val (.int p3), .unset, .unset, .unset, .unset, .unset, .unset] [(.int (4 : Int32)), (.ref b2), (.ref b2)])) _
    refine st11 _ ?_
    show Steps p.tables e below (T11.setTop (mkF m 34 #[.val (.int p1), .val (.int p2), .val (.int p3), .unset, .unset, .unset, .unset, .unset, .unset] [(.ref w_DSD), (.int (4 : Int32)), (.ref b2), (.ref b2)])) _
    refine st12 _ ?_
    show Steps p.tables e below (T12.setTop (mkF m 35 #[.val (.int p1), .val (.int p2), .val (.int p3), .unset, .unset, .unset, .unset, .unset, .unset] [(.ref b2)])) _
    refine XS.dup X12.here hx rfl (hb hby at_35) rfl rfl ?_
    show Steps p.tables e below (T12.setTop (mkF m 36 #[.val (.int p1), .val (.int p2), .val (.int p3), .unset, .unset, .unset, .unset, .unset, .unset] [(.ref b2), (.ref b2)])) _
    refine XS.iconst X12.here hx rfl (hb hby at_36) ?_
    show Steps p.tables e below (T12.setTop (mkF m 37 #[.val (.int p1), .val (.int p2), .val (.int p3), .unset, .unset, .unset, .unset, .unset, .unset] [(.int (5 : Int32)), (.ref b2), (.ref b2)])) _
    refine st13 _ ?_
    show Steps p.tables e below (T13.setTop (mkF m 40 #[.val (.int p1), .val (.int p2), .val (.int p3), .unset, .unset, .unset, .unset, .unset, .unset] [(.ref w_FLOW), (.int (5 : Int32)), (.ref b2), (.ref b2)])) _
    refine st14 _ ?_
    show Steps p.tables e below (T14.setTop (mkF m 41 #[.val (.int p1), .val (.int p2), .val (.int p3), .unset, .unset, .unset, .unset, .unset, .unset] [(.ref b2)])) _
    refine XS.dup X14.here hx rfl (hb hby at_41) rfl rfl ?_
    show Steps p.tables e below (T14.setTop (mkF m 42 #[.val (.int p1), .val (.int p2), .val (.int p3), .unset, .unset, .unset, .unset, .unset, .unset] [(.ref b2), (.ref b2)])) _
    refine XS.bipush X14.here hx rfl (hb hby at_42) ?_
    show Steps p.tables e below (T14.setTop (mkF m 44 #[.val (.int p1), .val (.int p2), .val (.int p3), .unset, .unset, .unset, .unset, .unset, .unset] [(.int (6 : Int32)), (.ref b2), (.ref b2)])) _
    refine st15 _ ?_
    show Steps p.tables e below (T15.setTop (mkF m 47 #[.val (.int p1), .val (.int p2), .val (.int p3), .unset, .unset, .unset, .unset, .unset, .unset] [(.ref w_READS), (.int (6 : Int32)), (.ref b2), (.ref b2)])) _
    refine st16 _ ?_
    show Steps p.tables e below (T16.setTop (mkF m 48 #[.val (.int p1), .val (.int p2), .val (.int p3), .unset, .unset, .unset, .unset, .unset, .unset] [(.ref b2)])) _
    refine XS.dup X16.here hx rfl (hb hby at_48) rfl rfl ?_
    show Steps p.tables e below (T16.setTop (mkF m 49 #[.val (.int p1), .val (.int p2), .val (.int p3), .unset, .unset, .unset, .unset, .unset, .unset] [(.ref b2), (.ref b2)])) _
    refine XS.bipush X16.here hx rfl (hb hby at_49) ?_
    show Steps p.tables e below (T16.setTop (mkF m 51 #[.val (.int p1), .val (.int p2), .val (.int p3), .unset, .unset, .unset, .unset, .unset, .unset] [(.int (7 : Int32)), (.ref b2), (.ref b2)])) _
    refine st17 _ ?_
    show Steps p.tables e below (T17.setTop (mkF m 54 #[.val (.int p1), .val (.int p2), .val (.int p3), .unset, .unset, .unset, .unset, .unset, .unset] [(.ref w_WRITES), (.int (7 : Int32)), (.ref b2), (.ref b2)])) _
    refine st18 _ ?_
    show Steps p.tables e below (T18.setTop (mkF m 55 #[.val (.int p1), .val (.int p2), .val (.int p3), .unset, .unset, .unset, .unset, .unset, .unset] [(.ref b2)])) _
    refine XS.dup X18.here hx rfl (hb hby at_55) rfl rfl ?_
    show Steps p.tables e below (T18.setTop (mkF m 56 #[.val (.int p1), .val (.int p2), .val (.int p3), .unset, .unset, .unset, .unset, .unset, .unset] [(.ref b2), (.ref b2)])) _
    refine XS.bipush X18.here hx rfl (hb hby at_56) ?_
    show Steps p.tables e below (T18.setTop (mkF m 58 #[.val (.int p1), .val (.int p2), .val (.int p3), .unset, .unset, .unset, .unset, .unset, .unset] [(.int (8 : Int32)), (.ref b2), (.ref b2)])) _
    refine st19 _ ?_
    show Steps p.tables e below (T19.setTop (mkF m 61 #[.val (.int p1), .val (.int p2), .val (.int p3), .unset, .unset, .unset, .unset, .unset, .unset] [(.ref w_USER), (.int (8 : Int32)), (.ref b2), (.ref b2)])) _
    refine st20 _ ?_
    show Steps p.tables e below (T20.setTop (mkF m 62 #[.val (.int p1), .val (.int p2), .val (.int p3), .unset, .unset, .unset, .unset, .unset, .unset] [(.ref b2)])) _
    refine XS.dup X20.here hx rfl (hb hby at_62) rfl rfl ?_
    show Steps p.tables e below (T20.setTop (mkF m 63 #[.val (.int p1), .val (.int p2), .val (.int p3), .unset, .unset, .unset, .unset, .unset, .unset] [(.ref b2), (.ref b2)])) _
    refine XS.bipush X20.here hx rfl (hb hby at_63) ?_
    show Steps p.tables e below (T20.setTop (mkF m 65 #[.val (.int p1), .val (.int p2), .val (.int p3), .unset, .unset, .unset, .unset, .unset, .unset] [(.int (9 : Int32)), (.ref b2), (.ref b2)])) _
    refine st21 _ ?_
    show Steps p.tables e below (T21.setTop (mkF m 68 #[.val (.int p1), .val (.int p2), .val (.int p3), .unset, .unset, .unset, .unset, .unset, .unset] [(.ref w_ROLE), (.int (9 : Int32)), (.ref b2), (.ref b2)])) _
    refine st22 _ ?_
    show Steps p.tables e below (T22.setTop (mkF m 69 #[.val (.int p1), .val (.int p2), .val (.int p3), .unset, .unset, .unset, .unset, .unset, .unset] [(.ref b2)])) _
    refine XS.dup X22.here hx rfl (hb hby at_69) rfl rfl ?_
    show Steps p.tables e below (T22.setTop (mkF m 70 #[.val (.int p1), .val (.int p2), .val (.int p3), .unset, .unset, .unset, .unset, .unset, .unset] [(.ref b2), (.ref b2)])) _
    refine XS.bipush X22.here hx rfl (hb hby at_70) ?_
    show Steps p.tables e below (T22.setTop (mkF m 72 #[.val (.int p1), .val (.int p2), .val (.int p3), .unset, .unset, .unset, .unset, .unset, .unset] [(.int (10 : Int32)), (.ref b2), (.ref b2)])) _
    refine st23 _ ?_
    show Steps p.tables e below (T23.setTop (mkF m 75 #[.val (.int p1), .val (.int p2), .val (.int p3), .unset, .unset, .unset, .unset, .unset, .unset] [(.ref w_EXEMPT), (.int (10 : Int32)), (.ref b2), (.ref b2)])) _
    refine st24 _ ?_
    show Steps p.tables e below (T24.setTop (mkF m 76 #[.val (.int p1), .val (.int p2), .val (.int p3), .unset, .unset, .unset, .unset, .unset, .unset] [(.ref b2)])) _
    refine XS.astoreN X24.here hx rfl (hb hby at_76) rfl rfl (l' := #[.val (.int p1), .val (.int p2), .val (.int p3), .val (.ref b2), .unset, .unset, .unset, .unset, .unset]) rfl ?_
    show Steps p.tables e below (T24.setTop (mkF m 77 #[.val (.int p1), .val (.int p2), .val (.int p3), .val (.ref b2), .unset, .unset, .unset, .unset, .unset] [])) _
    refine XS.iloadN X24.here hx rfl (hb hby at_77) rfl ?_
    show Steps p.tables e below (T24.setTop (mkF m 78 #[.val (.int p1), .val (.int p2), .val (.int p3), .val (.ref b2), .unset, .unset, .unset, .unset, .unset] [(.int p1)])) _
    refine X24.ldcInt hx hown (mvT hZ (hw _ (List.mem_of_getElem? (i := 26) rfl))) (g := (mkF m 78 #[.val (.int p1), .val (.int p2), .val (.int p3), .val (.ref b2), .unset, .unset, .unset, .unset, .unset] [(.int p1)])) rfl (hb hby at_78) _ ?_
    show Steps p.tables e below (T24.setTop (mkF m 80 #[.val (.int p1), .val (.int p2), .val (.int p3), .val (.ref b2), .unset, .unset, .unset, .unset, .unset] [(.int (2147483647 : Int32)), (.int p1)])) _
    refine XS.iand X24.here hx rfl (hb hby at_80) rfl ?_
    show Steps p.tables e below (T24.setTop (mkF m 81 #[.val (.int p1), .val (.int p2), .val (.int p3), .val (.ref b2), .unset, .unset, .unset, .unset, .unset] [(.int (p1 &&& (2147483647 : Int32)))])) _
    refine XS.bipush X24.here hx rfl (hb hby at_81) ?_
    show Steps p.tables e below (T24.setTop (mkF m 83 #[.val (.int p1), .val (.int p2), .val (.int p3), .val (.ref b2), .unset, .unset, .unset, .unset, .unset] [(.int (11 : Int32)), (.int (p1 &&& (2147483647 : Int32)))])) _
    refine iremM X24 hx rfl (hb hby at_83) rfl (by decide) ?_
    rw [hj]
    show Steps p.tables e below (T24.setTop (mkF m 84 #[.val (.int p1), .val (.int p2), .val (.int p3), .val (.ref b2), .unset, .unset, .unset, .unset, .unset] [(.int j)])) _
    refine XS.istore X24.here hx rfl (hb hby at_84) rfl (l' := #[.val (.int p1), .val (.int p2), .val (.int p3), .val (.ref b2), .val (.int j), .unset, .unset, .unset, .unset]) rfl ?_
    show Steps p.tables e below (T24.setTop (mkF m 86 #[.val (.int p1), .val (.int p2), .val (.int p3), .val (.ref b2), .val (.int j), .unset, .unset, .unset, .unset] [])) _
    refine XS.aloadN X24.here hx rfl (hb hby at_86) rfl rfl ?_
    show Steps p.tables e below (T24.setTop (mkF m 87 #[.val (.int p1), .val (.int p2), .val (.int p3), .val (.ref b2), .val (.int j), .unset, .unset, .unset, .unset] [(.ref b2)])) _
    refine XS.iload X24.here hx rfl (hb hby at_87) rfl ?_
    show Steps p.tables e below (T24.setTop (mkF m 89 #[.val (.int p1), .val (.int p2), .val (.int p3), .val (.ref b2), .val (.int j), .unset, .unset, .unset, .unset] [(.int j), (.ref b2)])) _
    refine X24.aaload hx (j := j) (v := (.ref wj)) (by rw [e24]; exact Ar25.1) (State.isArrayOf_alike hZ.alike Ar25.2.1) rfl Ar25.2.2 hin25 (Has.at H25 hin25 hu) (g := (mkF m 89 #[.val (.int p1), .val (.int p2), .val (.int p3), .val (.ref b2), .val (.int j), .unset, .unset, .unset, .unset] [(.int j), (.ref b2)])) rfl rfl (hb hby at_89) _ ?_
    show Steps p.tables e below (T24.setTop (mkF m 90 #[.val (.int p1), .val (.int p2), .val (.int p3), .val (.ref b2), .val (.int j), .unset, .unset, .unset, .unset] [(.ref wj)])) _
    refine XS.astore X24.here hx rfl (hb hby at_90) rfl rfl (l' := #[.val (.int p1), .val (.int p2), .val (.int p3), .val (.ref b2), .val (.int j), .val (.ref wj), .unset, .unset, .unset]) rfl ?_
    show Steps p.tables e below (T24.setTop (mkF m 92 #[.val (.int p1), .val (.int p2), .val (.int p3), .val (.ref b2), .val (.int j), .val (.ref wj), .unset, .unset, .unset] [])) _
    refine XS.iloadN X24.here hx rfl (hb hby at_92) rfl ?_
    show Steps p.tables e below (T24.setTop (mkF m 93 #[.val (.int p1), .val (.int p2), .val (.int p3), .val (.ref b2), .val (.int j), .val (.ref wj), .unset, .unset, .unset] [(.int p3)])) _
    refine XS.bipush X24.here hx rfl (hb hby at_93) ?_
    show Steps p.tables e below (T24.setTop (mkF m 95 #[.val (.int p1), .val (.int p2), .val (.int p3), .val (.ref b2), .val (.int j), .val (.ref wj), .unset, .unset, .unset] [(.int (7 : Int32)), (.int p3)])) _
    refine XS.iand X24.here hx rfl (hb hby at_95) rfl ?_
    show Steps p.tables e below (T24.setTop (mkF m 96 #[.val (.int p1), .val (.int p2), .val (.int p3), .val (.ref b2), .val (.int j), .val (.ref wj), .unset, .unset, .unset] [(.int (p3 &&& (7 : Int32)))])) _
    refine XS.iconst X24.here hx rfl (hb hby at_96) ?_
    show Steps p.tables e below (T24.setTop (mkF m 97 #[.val (.int p1), .val (.int p2), .val (.int p3), .val (.ref b2), .val (.int j), .val (.ref wj), .unset, .unset, .unset] [(.int (2 : Int32)), (.int (p3 &&& (7 : Int32)))])) _
    refine XS.isub X24.here hx rfl (hb hby at_97) rfl ?_
    show Steps p.tables e below (T24.setTop (mkF m 98 #[.val (.int p1), .val (.int p2), .val (.int p3), .val (.ref b2), .val (.int j), .val (.ref wj), .unset, .unset, .unset] [(.int ((p3 &&& (7 : Int32)) - (2 : Int32)))])) _
    refine XS.istore X24.here hx rfl (hb hby at_98) rfl (l' := #[.val (.int p1), .val (.int p2), .val (.int p3), .val (.ref b2), .val (.int j), .val (.ref wj), .val (.int ((p3 &&& (7 : Int32)) - (2 : Int32))), .unset, .unset]) rfl ?_
    show Steps p.tables e below (T24.setTop (mkF m 100 #[.val (.int p1), .val (.int p2), .val (.int p3), .val (.ref b2), .val (.int j), .val (.ref wj), .val (.int ((p3 &&& (7 : Int32)) - (2 : Int32))), .unset, .unset] [])) _
    refine XS.aload X24.here hx rfl (hb hby at_100) rfl rfl ?_
    show Steps p.tables e below (T24.setTop (mkF m 102 #[.val (.int p1), .val (.int p2), .val (.int p3), .val (.ref b2), .val (.int j), .val (.ref wj), .val (.int ((p3 &&& (7 : Int32)) - (2 : Int32))), .unset, .unset] [(.ref wj)])) _
    refine XS.iloadN X24.here hx rfl (hb hby at_102) rfl ?_
    show Steps p.tables e below (T24.setTop (mkF m 103 #[.val (.int p1), .val (.int p2), .val (.int p3), .val (.ref b2), .val (.int j), .val (.ref wj), .val (.int ((p3 &&& (7 : Int32)) - (2 : Int32))), .unset, .unset] [(.int p2), (.ref wj)])) _
    refine st26.trans ?_
    show Steps p.tables e below (T26.setTop (mkF m 106 #[.val (.int p1), .val (.int p2), .val (.int p3), .val (.ref b2), .val (.int j), .val (.ref wj), .val (.int ((p3 &&& (7 : Int32)) - (2 : Int32))), .unset, .unset] [(.int r1)])) _
    refine XS.iload X26.here hx rfl (hb hby at_106) rfl ?_
    show Steps p.tables e below (T26.setTop (mkF m 108 #[.val (.int p1), .val (.int p2), .val (.int p3), .val (.ref b2), .val (.int j), .val (.ref wj), .val (.int ((p3 &&& (7 : Int32)) - (2 : Int32))), .unset, .unset] [(.int j), (.int r1)])) _
    refine XS.iloadN X26.here hx rfl (hb hby at_108) rfl ?_
    show Steps p.tables e below (T26.setTop (mkF m 109 #[.val (.int p1), .val (.int p2), .val (.int p3), .val (.ref b2), .val (.int j), .val (.ref wj), .val (.int ((p3 &&& (7 : Int32)) - (2 : Int32))), .unset, .unset] [(.int p2), (.int j), (.int r1)])) _
    refine st27 _ ?_
    show Steps p.tables e below (T27.setTop (mkF m 112 #[.val (.int p1), .val (.int p2), .val (.int p3), .val (.ref b2), .val (.int j), .val (.ref wj), .val (.int ((p3 &&& (7 : Int32)) - (2 : Int32))), .unset, .unset] [(.int r1), (.int r1)])) _
    refine XS.icmpNo X27.here hx rfl (hb hby at_112) rfl (teq (rfl : r1 = r1)).2 ?_
    show Steps p.tables e below (T27.setTop (mkF m 115 #[.val (.int p1), .val (.int p2), .val (.int p3), .val (.ref b2), .val (.int j), .val (.ref wj), .val (.int ((p3 &&& (7 : Int32)) - (2 : Int32))), .unset, .unset] [])) _
    refine XS.iconst X27.here hx rfl (hb hby at_115) ?_
    show Steps p.tables e below (T27.setTop (mkF m 116 #[.val (.int p1), .val (.int p2), .val (.int p3), .val (.ref b2), .val (.int j), .val (.ref wj), .val (.int ((p3 &&& (7 : Int32)) - (2 : Int32))), .unset, .unset] [(.int (1 : Int32))])) _
    refine XS.goto X27.here hx rfl (pc0 := 116) (pc' := 120) rfl (hb hby at_116) (by decide) (by decide) ?_
    show Steps p.tables e below (T27.setTop (mkF m 120 #[.val (.int p1), .val (.int p2), .val (.int p3), .val (.ref b2), .val (.int j), .val (.ref wj), .val (.int ((p3 &&& (7 : Int32)) - (2 : Int32))), .unset, .unset] [(.int (1 : Int32))])) _
    refine XS.istore X27.here hx rfl (hb hby at_120) rfl (l' := #[.val (.int p1), .val (.int p2), .val (.int p3), .val (.ref b2), .val (.int j), .val (.ref wj), .val (.int ((p3 &&& (7 : Int32)) - (2 : Int32))), .val (.int (1 : Int32)), .unset]) rfl ?_
    show Steps p.tables e below (T27.setTop (mkF m 122 #[.val (.int p1), .val (.int p2), .val (.int p3), .val (.ref b2), .val (.int j), .val (.ref wj), .val (.int ((p3 &&& (7 : Int32)) - (2 : Int32))), .val (.int (1 : Int32)), .unset] [])) _
    refine XS.aload X27.here hx rfl (hb hby at_122) rfl rfl ?_
    show Steps p.tables e below (T27.setTop (mkF m 124 #[.val (.int p1), .val (.int p2), .val (.int p3), .val (.ref b2), .val (.int j), .val (.ref wj), .val (.int ((p3 &&& (7 : Int32)) - (2 : Int32))), .val (.int (1 : Int32)), .unset] [(.ref wj)])) _
    refine XS.iload X27.here hx rfl (hb hby at_124) rfl ?_
    show Steps p.tables e below (T27.setTop (mkF m 126 #[.val (.int p1), .val (.int p2), .val (.int p3), .val (.ref b2), .val (.int j), .val (.ref wj), .val (.int ((p3 &&& (7 : Int32)) - (2 : Int32))), .val (.int (1 : Int32)), .unset] [(.int ((p3 &&& (7 : Int32)) - (2 : Int32))), (.ref wj)])) _
    refine st28.trans ?_
    show Steps p.tables e below (T28.setTop (mkF m 129 #[.val (.int p1), .val (.int p2), .val (.int p3), .val (.ref b2), .val (.int j), .val (.ref wj), .val (.int ((p3 &&& (7 : Int32)) - (2 : Int32))), .val (.int (1 : Int32)), .unset] [(.int r2)])) _
    refine XS.iload X28.here hx rfl (hb hby at_129) rfl ?_
    show Steps p.tables e below (T28.setTop (mkF m 131 #[.val (.int p1), .val (.int p2), .val (.int p3), .val (.ref b2), .val (.int j), .val (.ref wj), .val (.int ((p3 &&& (7 : Int32)) - (2 : Int32))), .val (.int (1 : Int32)), .unset] [(.int j), (.int r2)])) _
    refine XS.iload X28.here hx rfl (hb hby at_131) rfl ?_
    show Steps p.tables e below (T28.setTop (mkF m 133 #[.val (.int p1), .val (.int p2), .val (.int p3), .val (.ref b2), .val (.int j), .val (.ref wj), .val (.int ((p3 &&& (7 : Int32)) - (2 : Int32))), .val (.int (1 : Int32)), .unset] [(.int ((p3 &&& (7 : Int32)) - (2 : Int32))), (.int j), (.int r2)])) _
    refine st29 _ ?_
    show Steps p.tables e below (T29.setTop (mkF m 136 #[.val (.int p1), .val (.int p2), .val (.int p3), .val (.ref b2), .val (.int j), .val (.ref wj), .val (.int ((p3 &&& (7 : Int32)) - (2 : Int32))), .val (.int (1 : Int32)), .unset] [(.int r2), (.int r2)])) _
    refine XS.icmpNo X29.here hx rfl (hb hby at_136) rfl (teq (rfl : r2 = r2)).2 ?_
    show Steps p.tables e below (T29.setTop (mkF m 139 #[.val (.int p1), .val (.int p2), .val (.int p3), .val (.ref b2), .val (.int j), .val (.ref wj), .val (.int ((p3 &&& (7 : Int32)) - (2 : Int32))), .val (.int (1 : Int32)), .unset] [])) _
    refine XS.iconst X29.here hx rfl (hb hby at_139) ?_
    show Steps p.tables e below (T29.setTop (mkF m 140 #[.val (.int p1), .val (.int p2), .val (.int p3), .val (.ref b2), .val (.int j), .val (.ref wj), .val (.int ((p3 &&& (7 : Int32)) - (2 : Int32))), .val (.int (1 : Int32)), .unset] [(.int (1 : Int32))])) _
    refine XS.goto X29.here hx rfl (pc0 := 140) (pc' := 144) rfl (hb hby at_140) (by decide) (by decide) ?_
    show Steps p.tables e below (T29.setTop (mkF m 144 #[.val (.int p1), .val (.int p2), .val (.int p3), .val (.ref b2), .val (.int j), .val (.ref wj), .val (.int ((p3 &&& (7 : Int32)) - (2 : Int32))), .val (.int (1 : Int32)), .unset] [(.int (1 : Int32))])) _
    refine XS.istore X29.here hx rfl (hb hby at_144) rfl (l' := #[.val (.int p1), .val (.int p2), .val (.int p3), .val (.ref b2), .val (.int j), .val (.ref wj), .val (.int ((p3 &&& (7 : Int32)) - (2 : Int32))), .val (.int (1 : Int32)), .val (.int (1 : Int32))]) rfl ?_
    show Steps p.tables e below (T29.setTop (mkF m 146 #[.val (.int p1), .val (.int p2), .val (.int p3), .val (.ref b2), .val (.int j), .val (.ref wj), .val (.int ((p3 &&& (7 : Int32)) - (2 : Int32))), .val (.int (1 : Int32)), .val (.int (1 : Int32))] [])) _
    refine XS.iload X29.here hx rfl (hb hby at_146) rfl ?_
    show Steps p.tables e below (T29.setTop (mkF m 148 #[.val (.int p1), .val (.int p2), .val (.int p3), .val (.ref b2), .val (.int j), .val (.ref wj), .val (.int ((p3 &&& (7 : Int32)) - (2 : Int32))), .val (.int (1 : Int32)), .val (.int (1 : Int32))] [(.int (1 : Int32))])) _
    refine XS.ifNo X29.here hx rfl (hb hby at_148) rfl ((if0 _ _).trans (feq (by decide : ¬ (1 : Int32) = 0)).1) ?_
    show Steps p.tables e below (T29.setTop (mkF m 151 #[.val (.int p1), .val (.int p2), .val (.int p3), .val (.ref b2), .val (.int j), .val (.ref wj), .val (.int ((p3 &&& (7 : Int32)) - (2 : Int32))), .val (.int (1 : Int32)), .val (.int (1 : Int32))] [])) _
    refine XS.iload X29.here hx rfl (hb hby at_151) rfl ?_
    show Steps p.tables e below (T29.setTop (mkF m 153 #[.val (.int p1), .val (.int p2), .val (.int p3), .val (.ref b2), .val (.int j), .val (.ref wj), .val (.int ((p3 &&& (7 : Int32)) - (2 : Int32))), .val (.int (1 : Int32)), .val (.int (1 : Int32))] [(.int (1 : Int32))])) _
    refine XS.ifNo X29.here hx rfl (hb hby at_153) rfl ((if0 _ _).trans (feq (by decide : ¬ (1 : Int32) = 0)).1) ?_
    show Steps p.tables e below (T29.setTop (mkF m 156 #[.val (.int p1), .val (.int p2), .val (.int p3), .val (.ref b2), .val (.int j), .val (.ref wj), .val (.int ((p3 &&& (7 : Int32)) - (2 : Int32))), .val (.int (1 : Int32)), .val (.int (1 : Int32))] [])) _
    refine XS.iconst X29.here hx rfl (hb hby at_156) ?_
    show Steps p.tables e below (T29.setTop (mkF m 157 #[.val (.int p1), .val (.int p2), .val (.int p3), .val (.ref b2), .val (.int j), .val (.ref wj), .val (.int ((p3 &&& (7 : Int32)) - (2 : Int32))), .val (.int (1 : Int32)), .val (.int (1 : Int32))] [(.int (1 : Int32))])) _
    refine XS.goto X29.here hx rfl (pc0 := 157) (pc' := 161) rfl (hb hby at_157) (by decide) (by decide) ?_
    show Steps p.tables e below (T29.setTop (mkF m 161 #[.val (.int p1), .val (.int p2), .val (.int p3), .val (.ref b2), .val (.int j), .val (.ref wj), .val (.int ((p3 &&& (7 : Int32)) - (2 : Int32))), .val (.int (1 : Int32)), .val (.int (1 : Int32))] [(.int (1 : Int32))])) _
    exact retN X29 hx (t := .boolean) Bd.returns (by simp) (hb hby at_161) hr
  · show (own_one n0) _ T29.heap _
    exact ⟨rfl, N29⟩
theorem own_mod (p1 : Int32) : ¬ ((p1 &&& (2147483647 : Int32)) % (11 : Int32)) < 0 ∧ (p1 &&& (2147483647 : Int32)) % (11 : Int32) < (11 : Int32) := by
  have hnn : 0 ≤ (p1 &&& (2147483647 : Int32)).toInt := by
    have e : (p1 &&& (2147483647 : Int32)).toBitVec = p1.toBitVec &&& 2147483647#32 := rfl
    show 0 ≤ (p1 &&& (2147483647 : Int32)).toBitVec.toInt
    rw [e, BitVec.toInt_eq_toNat_cond, BitVec.toNat_and]
    have q : p1.toBitVec.toNat &&& (2147483647#32).toNat ≤ 2147483647 := Nat.and_le_right
    rw [if_pos (by omega)]
    omega
  have hm : ((p1 &&& (2147483647 : Int32)) % (11 : Int32)).toInt = (p1 &&& (2147483647 : Int32)).toInt.tmod 11 := Int32.toInt_mod _ _
  have e0 : (0 : Int32).toInt = 0 := rfl
  have eK : (11 : Int32).toInt = 11 := rfl
  rw [Int32.lt_iff_toInt_lt, Int32.lt_iff_toInt_lt, hm, e0, eK, Int.tmod_eq_emod_of_nonneg hnn]
  omega
theorem own_cases {j : Int32} (h0 : ¬ j < 0) (h1 : j < (11 : Int32)) : j = (0 : Int32) ∨ j = (1 : Int32) ∨ j = (2 : Int32) ∨ j = (3 : Int32) ∨ j = (4 : Int32) ∨ j = (5 : Int32) ∨ j = (6 : Int32) ∨ j = (7 : Int32) ∨ j = (8 : Int32) ∨ j = (9 : Int32) ∨ j = (10 : Int32) := by
  rw [Int32.lt_iff_toInt_lt] at h0 h1
  simp only [← Int32.toInt_inj]
  have e0 : (0 : Int32).toInt = 0 := rfl
  have e1 : (1 : Int32).toInt = 1 := rfl
  have e2 : (2 : Int32).toInt = 2 := rfl
  have e3 : (3 : Int32).toInt = 3 := rfl
  have e4 : (4 : Int32).toInt = 4 := rfl
  have e5 : (5 : Int32).toInt = 5 := rfl
  have e6 : (6 : Int32).toInt = 6 := rfl
  have e7 : (7 : Int32).toInt = 7 := rfl
  have e8 : (8 : Int32).toInt = 8 := rfl
  have e9 : (9 : Int32).toInt = 9 := rfl
  have e10 : (10 : Int32).toInt = 10 := rfl
  have e11 : (11 : Int32).toInt = 11 := rfl
  simp only [e0, e1, e2, e3, e4, e5, e6, e7, e8, e9, e10, e11] at *
  omega
theorem own_kind_0 (l : Launch) (Z : State) (a0 : Array Value) (hw : ∀ d ∈ tables_1, d.before a0 Z = true) (h0 : Heap) (n0 : Nat) (Z0 : n0 ≤ h0.size) (wj ws : Addr) (cl : Cell) (c : Int32) (Fr_ : Fld Z h0 wj "com/example/rolecall/rolecall/model/StatementKind" "lastSlotRepeats" "Z" (.int (0 : Int32))) (Fs : Fld Z h0 wj "com/example/rolecall/rolecall/model/StatementKind" "slots" "[Ljava/lang/String;" (.ref ws)) (A : Arr Z h0 ws cl (.object "java/lang/String")) (S : cl.slots.size = (2 : Int32).toNatClampNeg ∧ ¬ (2 : Int32) < 0) : ∃ b : Int32, (∀ hh : Heap, Keep h0 hh [] → own_M l (⟨"com/example/rolecall/rolecall/model/StatementKind", "acceptsArgumentCount", "(I)Z"⟩ : MethodName) prog_59_method_7_code 3 (some .boolean) ({ frames := 0, cells := 0, slots := 0, locals := 0 } : Room) Z #[(.ref wj), (.int c)] hh (own_ret (.int b) n0 hh)) ∧ (∀ hh : Heap, Keep h0 hh [] → own_M l (⟨"com/example/rolecall/rolecall/model/StatementKindAcceptsArgumentCountPinLaw", "expected", "(II)Z"⟩ : MethodName) method_2_code 2 (some .boolean) ({ frames := 0, cells := 0, slots := 0, locals := 0 } : Room) Z #[(.int (0 : Int32)), (.int c)] hh (own_ret (.int b) n0 hh)) := by
  by_cases h : c = (2 : Int32)
  · exact ⟨1, fun hh K => own_acc_tf l Z a0 hw [] wj c (0 : Int32) ws cl (2 : Int32) hh n0 (Nat.le_trans Z0 K.1) (Fr_.ext (own_ext K)) (Fs.ext (own_ext K)) (A.ext (own_ext K)) S.1 S.2 rfl h, fun hh K => own_exp_tfttf l Z a0 hw [] (0 : Int32) c hh n0 (Nat.le_trans Z0 K.1) (by decide) (by decide) (by decide) (by decide) h⟩
  · exact ⟨0, fun hh K => own_acc_tt l Z a0 hw [] wj c (0 : Int32) ws cl (2 : Int32) hh n0 (Nat.le_trans Z0 K.1) (Fr_.ext (own_ext K)) (Fs.ext (own_ext K)) (A.ext (own_ext K)) S.1 S.2 rfl h, fun hh K => own_exp_tfttt l Z a0 hw [] (0 : Int32) c hh n0 (Nat.le_trans Z0 K.1) (by decide) (by decide) (by decide) (by decide) h⟩
theorem own_kind_1 (l : Launch) (Z : State) (a0 : Array Value) (hw : ∀ d ∈ tables_1, d.before a0 Z = true) (h0 : Heap) (n0 : Nat) (Z0 : n0 ≤ h0.size) (wj ws : Addr) (cl : Cell) (c : Int32) (Fr_ : Fld Z h0 wj "com/example/rolecall/rolecall/model/StatementKind" "lastSlotRepeats" "Z" (.int (0 : Int32))) (Fs : Fld Z h0 wj "com/example/rolecall/rolecall/model/StatementKind" "slots" "[Ljava/lang/String;" (.ref ws)) (A : Arr Z h0 ws cl (.object "java/lang/String")) (S : cl.slots.size = (3 : Int32).toNatClampNeg ∧ ¬ (3 : Int32) < 0) : ∃ b : Int32, (∀ hh : Heap, Keep h0 hh [] → own_M l (⟨"com/example/rolecall/rolecall/model/StatementKind", "acceptsArgumentCount", "(I)Z"⟩ : MethodName) prog_59_method_7_code 3 (some .boolean) ({ frames := 0, cells := 0, slots := 0, locals := 0 } : Room) Z #[(.ref wj), (.int c)] hh (own_ret (.int b) n0 hh)) ∧ (∀ hh : Heap, Keep h0 hh [] → own_M l (⟨"com/example/rolecall/rolecall/model/StatementKindAcceptsArgumentCountPinLaw", "expected", "(II)Z"⟩ : MethodName) method_2_code 2 (some .boolean) ({ frames := 0, cells := 0, slots := 0, locals := 0 } : Room) Z #[(.int (1 : Int32)), (.int c)] hh (own_ret (.int b) n0 hh)) := by
  by_cases h : c = (3 : Int32)
  · exact ⟨1, fun hh K => own_acc_tf l Z a0 hw [] wj c (0 : Int32) ws cl (3 : Int32) hh n0 (Nat.le_trans Z0 K.1) (Fr_.ext (own_ext K)) (Fs.ext (own_ext K)) (A.ext (own_ext K)) S.1 S.2 rfl h, fun hh K => own_exp_ff l Z a0 hw [] (1 : Int32) c hh n0 (Nat.le_trans Z0 K.1) rfl h⟩
  · exact ⟨0, fun hh K => own_acc_tt l Z a0 hw [] wj c (0 : Int32) ws cl (3 : Int32) hh n0 (Nat.le_trans Z0 K.1) (Fr_.ext (own_ext K)) (Fs.ext (own_ext K)) (A.ext (own_ext K)) S.1 S.2 rfl h, fun hh K => own_exp_ft l Z a0 hw [] (1 : Int32) c hh n0 (Nat.le_trans Z0 K.1) rfl h⟩
theorem own_kind_2 (l : Launch) (Z : State) (a0 : Array Value) (hw : ∀ d ∈ tables_1, d.before a0 Z = true) (h0 : Heap) (n0 : Nat) (Z0 : n0 ≤ h0.size) (wj ws : Addr) (cl : Cell) (c : Int32) (Fr_ : Fld Z h0 wj "com/example/rolecall/rolecall/model/StatementKind" "lastSlotRepeats" "Z" (.int (0 : Int32))) (Fs : Fld Z h0 wj "com/example/rolecall/rolecall/model/StatementKind" "slots" "[Ljava/lang/String;" (.ref ws)) (A : Arr Z h0 ws cl (.object "java/lang/String")) (S : cl.slots.size = (2 : Int32).toNatClampNeg ∧ ¬ (2 : Int32) < 0) : ∃ b : Int32, (∀ hh : Heap, Keep h0 hh [] → own_M l (⟨"com/example/rolecall/rolecall/model/StatementKind", "acceptsArgumentCount", "(I)Z"⟩ : MethodName) prog_59_method_7_code 3 (some .boolean) ({ frames := 0, cells := 0, slots := 0, locals := 0 } : Room) Z #[(.ref wj), (.int c)] hh (own_ret (.int b) n0 hh)) ∧ (∀ hh : Heap, Keep h0 hh [] → own_M l (⟨"com/example/rolecall/rolecall/model/StatementKindAcceptsArgumentCountPinLaw", "expected", "(II)Z"⟩ : MethodName) method_2_code 2 (some .boolean) ({ frames := 0, cells := 0, slots := 0, locals := 0 } : Room) Z #[(.int (2 : Int32)), (.int c)] hh (own_ret (.int b) n0 hh)) := by
  by_cases h : c = (2 : Int32)
  · exact ⟨1, fun hh K => own_acc_tf l Z a0 hw [] wj c (0 : Int32) ws cl (2 : Int32) hh n0 (Nat.le_trans Z0 K.1) (Fr_.ext (own_ext K)) (Fs.ext (own_ext K)) (A.ext (own_ext K)) S.1 S.2 rfl h, fun hh K => own_exp_tfttf l Z a0 hw [] (2 : Int32) c hh n0 (Nat.le_trans Z0 K.1) (by decide) (by decide) (by decide) (by decide) h⟩
  · exact ⟨0, fun hh K => own_acc_tt l Z a0 hw [] wj c (0 : Int32) ws cl (2 : Int32) hh n0 (Nat.le_trans Z0 K.1) (Fr_.ext (own_ext K)) (Fs.ext (own_ext K)) (A.ext (own_ext K)) S.1 S.2 rfl h, fun hh K => own_exp_tfttt l Z a0 hw [] (2 : Int32) c hh n0 (Nat.le_trans Z0 K.1) (by decide) (by decide) (by decide) (by decide) h⟩
theorem own_kind_3 (l : Launch) (Z : State) (a0 : Array Value) (hw : ∀ d ∈ tables_1, d.before a0 Z = true) (h0 : Heap) (n0 : Nat) (Z0 : n0 ≤ h0.size) (wj ws : Addr) (cl : Cell) (c : Int32) (Fr_ : Fld Z h0 wj "com/example/rolecall/rolecall/model/StatementKind" "lastSlotRepeats" "Z" (.int (0 : Int32))) (Fs : Fld Z h0 wj "com/example/rolecall/rolecall/model/StatementKind" "slots" "[Ljava/lang/String;" (.ref ws)) (A : Arr Z h0 ws cl (.object "java/lang/String")) (S : cl.slots.size = (2 : Int32).toNatClampNeg ∧ ¬ (2 : Int32) < 0) : ∃ b : Int32, (∀ hh : Heap, Keep h0 hh [] → own_M l (⟨"com/example/rolecall/rolecall/model/StatementKind", "acceptsArgumentCount", "(I)Z"⟩ : MethodName) prog_59_method_7_code 3 (some .boolean) ({ frames := 0, cells := 0, slots := 0, locals := 0 } : Room) Z #[(.ref wj), (.int c)] hh (own_ret (.int b) n0 hh)) ∧ (∀ hh : Heap, Keep h0 hh [] → own_M l (⟨"com/example/rolecall/rolecall/model/StatementKindAcceptsArgumentCountPinLaw", "expected", "(II)Z"⟩ : MethodName) method_2_code 2 (some .boolean) ({ frames := 0, cells := 0, slots := 0, locals := 0 } : Room) Z #[(.int (3 : Int32)), (.int c)] hh (own_ret (.int b) n0 hh)) := by
  by_cases h : c = (2 : Int32)
  · exact ⟨1, fun hh K => own_acc_tf l Z a0 hw [] wj c (0 : Int32) ws cl (2 : Int32) hh n0 (Nat.le_trans Z0 K.1) (Fr_.ext (own_ext K)) (Fs.ext (own_ext K)) (A.ext (own_ext K)) S.1 S.2 rfl h, fun hh K => own_exp_tfttf l Z a0 hw [] (3 : Int32) c hh n0 (Nat.le_trans Z0 K.1) (by decide) (by decide) (by decide) (by decide) h⟩
  · exact ⟨0, fun hh K => own_acc_tt l Z a0 hw [] wj c (0 : Int32) ws cl (2 : Int32) hh n0 (Nat.le_trans Z0 K.1) (Fr_.ext (own_ext K)) (Fs.ext (own_ext K)) (A.ext (own_ext K)) S.1 S.2 rfl h, fun hh K => own_exp_tfttt l Z a0 hw [] (3 : Int32) c hh n0 (Nat.le_trans Z0 K.1) (by decide) (by decide) (by decide) (by decide) h⟩
theorem own_kind_4 (l : Launch) (Z : State) (a0 : Array Value) (hw : ∀ d ∈ tables_1, d.before a0 Z = true) (h0 : Heap) (n0 : Nat) (Z0 : n0 ≤ h0.size) (wj ws : Addr) (cl : Cell) (c : Int32) (Fr_ : Fld Z h0 wj "com/example/rolecall/rolecall/model/StatementKind" "lastSlotRepeats" "Z" (.int (0 : Int32))) (Fs : Fld Z h0 wj "com/example/rolecall/rolecall/model/StatementKind" "slots" "[Ljava/lang/String;" (.ref ws)) (A : Arr Z h0 ws cl (.object "java/lang/String")) (S : cl.slots.size = (2 : Int32).toNatClampNeg ∧ ¬ (2 : Int32) < 0) : ∃ b : Int32, (∀ hh : Heap, Keep h0 hh [] → own_M l (⟨"com/example/rolecall/rolecall/model/StatementKind", "acceptsArgumentCount", "(I)Z"⟩ : MethodName) prog_59_method_7_code 3 (some .boolean) ({ frames := 0, cells := 0, slots := 0, locals := 0 } : Room) Z #[(.ref wj), (.int c)] hh (own_ret (.int b) n0 hh)) ∧ (∀ hh : Heap, Keep h0 hh [] → own_M l (⟨"com/example/rolecall/rolecall/model/StatementKindAcceptsArgumentCountPinLaw", "expected", "(II)Z"⟩ : MethodName) method_2_code 2 (some .boolean) ({ frames := 0, cells := 0, slots := 0, locals := 0 } : Room) Z #[(.int (4 : Int32)), (.int c)] hh (own_ret (.int b) n0 hh)) := by
  by_cases h : c = (2 : Int32)
  · exact ⟨1, fun hh K => own_acc_tf l Z a0 hw [] wj c (0 : Int32) ws cl (2 : Int32) hh n0 (Nat.le_trans Z0 K.1) (Fr_.ext (own_ext K)) (Fs.ext (own_ext K)) (A.ext (own_ext K)) S.1 S.2 rfl h, fun hh K => own_exp_tfttf l Z a0 hw [] (4 : Int32) c hh n0 (Nat.le_trans Z0 K.1) (by decide) (by decide) (by decide) (by decide) h⟩
  · exact ⟨0, fun hh K => own_acc_tt l Z a0 hw [] wj c (0 : Int32) ws cl (2 : Int32) hh n0 (Nat.le_trans Z0 K.1) (Fr_.ext (own_ext K)) (Fs.ext (own_ext K)) (A.ext (own_ext K)) S.1 S.2 rfl h, fun hh K => own_exp_tfttt l Z a0 hw [] (4 : Int32) c hh n0 (Nat.le_trans Z0 K.1) (by decide) (by decide) (by decide) (by decide) h⟩
theorem own_kind_5 (l : Launch) (Z : State) (a0 : Array Value) (hw : ∀ d ∈ tables_1, d.before a0 Z = true) (h0 : Heap) (n0 : Nat) (Z0 : n0 ≤ h0.size) (wj ws : Addr) (cl : Cell) (c : Int32) (Fr_ : Fld Z h0 wj "com/example/rolecall/rolecall/model/StatementKind" "lastSlotRepeats" "Z" (.int (0 : Int32))) (Fs : Fld Z h0 wj "com/example/rolecall/rolecall/model/StatementKind" "slots" "[Ljava/lang/String;" (.ref ws)) (A : Arr Z h0 ws cl (.object "java/lang/String")) (S : cl.slots.size = (2 : Int32).toNatClampNeg ∧ ¬ (2 : Int32) < 0) : ∃ b : Int32, (∀ hh : Heap, Keep h0 hh [] → own_M l (⟨"com/example/rolecall/rolecall/model/StatementKind", "acceptsArgumentCount", "(I)Z"⟩ : MethodName) prog_59_method_7_code 3 (some .boolean) ({ frames := 0, cells := 0, slots := 0, locals := 0 } : Room) Z #[(.ref wj), (.int c)] hh (own_ret (.int b) n0 hh)) ∧ (∀ hh : Heap, Keep h0 hh [] → own_M l (⟨"com/example/rolecall/rolecall/model/StatementKindAcceptsArgumentCountPinLaw", "expected", "(II)Z"⟩ : MethodName) method_2_code 2 (some .boolean) ({ frames := 0, cells := 0, slots := 0, locals := 0 } : Room) Z #[(.int (5 : Int32)), (.int c)] hh (own_ret (.int b) n0 hh)) := by
  by_cases h : c = (2 : Int32)
  · exact ⟨1, fun hh K => own_acc_tf l Z a0 hw [] wj c (0 : Int32) ws cl (2 : Int32) hh n0 (Nat.le_trans Z0 K.1) (Fr_.ext (own_ext K)) (Fs.ext (own_ext K)) (A.ext (own_ext K)) S.1 S.2 rfl h, fun hh K => own_exp_tfttf l Z a0 hw [] (5 : Int32) c hh n0 (Nat.le_trans Z0 K.1) (by decide) (by decide) (by decide) (by decide) h⟩
  · exact ⟨0, fun hh K => own_acc_tt l Z a0 hw [] wj c (0 : Int32) ws cl (2 : Int32) hh n0 (Nat.le_trans Z0 K.1) (Fr_.ext (own_ext K)) (Fs.ext (own_ext K)) (A.ext (own_ext K)) S.1 S.2 rfl h, fun hh K => own_exp_tfttt l Z a0 hw [] (5 : Int32) c hh n0 (Nat.le_trans Z0 K.1) (by decide) (by decide) (by decide) (by decide) h⟩
theorem own_kind_6 (l : Launch) (Z : State) (a0 : Array Value) (hw : ∀ d ∈ tables_1, d.before a0 Z = true) (h0 : Heap) (n0 : Nat) (Z0 : n0 ≤ h0.size) (wj ws : Addr) (cl : Cell) (c : Int32) (Fr_ : Fld Z h0 wj "com/example/rolecall/rolecall/model/StatementKind" "lastSlotRepeats" "Z" (.int (1 : Int32))) (Fs : Fld Z h0 wj "com/example/rolecall/rolecall/model/StatementKind" "slots" "[Ljava/lang/String;" (.ref ws)) (A : Arr Z h0 ws cl (.object "java/lang/String")) (S : cl.slots.size = (1 : Int32).toNatClampNeg ∧ ¬ (1 : Int32) < 0) : ∃ b : Int32, (∀ hh : Heap, Keep h0 hh [] → own_M l (⟨"com/example/rolecall/rolecall/model/StatementKind", "acceptsArgumentCount", "(I)Z"⟩ : MethodName) prog_59_method_7_code 3 (some .boolean) ({ frames := 0, cells := 0, slots := 0, locals := 0 } : Room) Z #[(.ref wj), (.int c)] hh (own_ret (.int b) n0 hh)) ∧ (∀ hh : Heap, Keep h0 hh [] → own_M l (⟨"com/example/rolecall/rolecall/model/StatementKindAcceptsArgumentCountPinLaw", "expected", "(II)Z"⟩ : MethodName) method_2_code 2 (some .boolean) ({ frames := 0, cells := 0, slots := 0, locals := 0 } : Room) Z #[(.int (6 : Int32)), (.int c)] hh (own_ret (.int b) n0 hh)) := by
  by_cases h : c < (1 : Int32)
  · exact ⟨0, fun hh K => own_acc_ft l Z a0 hw [] wj c (1 : Int32) ws cl (1 : Int32) hh n0 (Nat.le_trans Z0 K.1) (Fr_.ext (own_ext K)) (Fs.ext (own_ext K)) (A.ext (own_ext K)) S.1 S.2 (by decide) h, fun hh K => own_exp_ttt l Z a0 hw [] (6 : Int32) c hh n0 (Nat.le_trans Z0 K.1) (by decide) rfl h⟩
  · exact ⟨1, fun hh K => own_acc_ff l Z a0 hw [] wj c (1 : Int32) ws cl (1 : Int32) hh n0 (Nat.le_trans Z0 K.1) (Fr_.ext (own_ext K)) (Fs.ext (own_ext K)) (A.ext (own_ext K)) S.1 S.2 (by decide) h, fun hh K => own_exp_ttf l Z a0 hw [] (6 : Int32) c hh n0 (Nat.le_trans Z0 K.1) (by decide) rfl h⟩
theorem own_kind_7 (l : Launch) (Z : State) (a0 : Array Value) (hw : ∀ d ∈ tables_1, d.before a0 Z = true) (h0 : Heap) (n0 : Nat) (Z0 : n0 ≤ h0.size) (wj ws : Addr) (cl : Cell) (c : Int32) (Fr_ : Fld Z h0 wj "com/example/rolecall/rolecall/model/StatementKind" "lastSlotRepeats" "Z" (.int (1 : Int32))) (Fs : Fld Z h0 wj "com/example/rolecall/rolecall/model/StatementKind" "slots" "[Ljava/lang/String;" (.ref ws)) (A : Arr Z h0 ws cl (.object "java/lang/String")) (S : cl.slots.size = (1 : Int32).toNatClampNeg ∧ ¬ (1 : Int32) < 0) : ∃ b : Int32, (∀ hh : Heap, Keep h0 hh [] → own_M l (⟨"com/example/rolecall/rolecall/model/StatementKind", "acceptsArgumentCount", "(I)Z"⟩ : MethodName) prog_59_method_7_code 3 (some .boolean) ({ frames := 0, cells := 0, slots := 0, locals := 0 } : Room) Z #[(.ref wj), (.int c)] hh (own_ret (.int b) n0 hh)) ∧ (∀ hh : Heap, Keep h0 hh [] → own_M l (⟨"com/example/rolecall/rolecall/model/StatementKindAcceptsArgumentCountPinLaw", "expected", "(II)Z"⟩ : MethodName) method_2_code 2 (some .boolean) ({ frames := 0, cells := 0, slots := 0, locals := 0 } : Room) Z #[(.int (7 : Int32)), (.int c)] hh (own_ret (.int b) n0 hh)) := by
  by_cases h : c < (1 : Int32)
  · exact ⟨0, fun hh K => own_acc_ft l Z a0 hw [] wj c (1 : Int32) ws cl (1 : Int32) hh n0 (Nat.le_trans Z0 K.1) (Fr_.ext (own_ext K)) (Fs.ext (own_ext K)) (A.ext (own_ext K)) S.1 S.2 (by decide) h, fun hh K => own_exp_tfft l Z a0 hw [] (7 : Int32) c hh n0 (Nat.le_trans Z0 K.1) (by decide) (by decide) rfl h⟩
  · exact ⟨1, fun hh K => own_acc_ff l Z a0 hw [] wj c (1 : Int32) ws cl (1 : Int32) hh n0 (Nat.le_trans Z0 K.1) (Fr_.ext (own_ext K)) (Fs.ext (own_ext K)) (A.ext (own_ext K)) S.1 S.2 (by decide) h, fun hh K => own_exp_tfff l Z a0 hw [] (7 : Int32) c hh n0 (Nat.le_trans Z0 K.1) (by decide) (by decide) rfl h⟩
theorem own_kind_8 (l : Launch) (Z : State) (a0 : Array Value) (hw : ∀ d ∈ tables_1, d.before a0 Z = true) (h0 : Heap) (n0 : Nat) (Z0 : n0 ≤ h0.size) (wj ws : Addr) (cl : Cell) (c : Int32) (Fr_ : Fld Z h0 wj "com/example/rolecall/rolecall/model/StatementKind" "lastSlotRepeats" "Z" (.int (0 : Int32))) (Fs : Fld Z h0 wj "com/example/rolecall/rolecall/model/StatementKind" "slots" "[Ljava/lang/String;" (.ref ws)) (A : Arr Z h0 ws cl (.object "java/lang/String")) (S : cl.slots.size = (1 : Int32).toNatClampNeg ∧ ¬ (1 : Int32) < 0) : ∃ b : Int32, (∀ hh : Heap, Keep h0 hh [] → own_M l (⟨"com/example/rolecall/rolecall/model/StatementKind", "acceptsArgumentCount", "(I)Z"⟩ : MethodName) prog_59_method_7_code 3 (some .boolean) ({ frames := 0, cells := 0, slots := 0, locals := 0 } : Room) Z #[(.ref wj), (.int c)] hh (own_ret (.int b) n0 hh)) ∧ (∀ hh : Heap, Keep h0 hh [] → own_M l (⟨"com/example/rolecall/rolecall/model/StatementKindAcceptsArgumentCountPinLaw", "expected", "(II)Z"⟩ : MethodName) method_2_code 2 (some .boolean) ({ frames := 0, cells := 0, slots := 0, locals := 0 } : Room) Z #[(.int (8 : Int32)), (.int c)] hh (own_ret (.int b) n0 hh)) := by
  by_cases h : c = (1 : Int32)
  · exact ⟨1, fun hh K => own_acc_tf l Z a0 hw [] wj c (0 : Int32) ws cl (1 : Int32) hh n0 (Nat.le_trans Z0 K.1) (Fr_.ext (own_ext K)) (Fs.ext (own_ext K)) (A.ext (own_ext K)) S.1 S.2 rfl h, fun hh K => own_exp_tftff l Z a0 hw [] (8 : Int32) c hh n0 (Nat.le_trans Z0 K.1) (by decide) (by decide) (by decide) (by decide) h⟩
  · exact ⟨0, fun hh K => own_acc_tt l Z a0 hw [] wj c (0 : Int32) ws cl (1 : Int32) hh n0 (Nat.le_trans Z0 K.1) (Fr_.ext (own_ext K)) (Fs.ext (own_ext K)) (A.ext (own_ext K)) S.1 S.2 rfl h, fun hh K => own_exp_tftft l Z a0 hw [] (8 : Int32) c hh n0 (Nat.le_trans Z0 K.1) (by decide) (by decide) (by decide) (by decide) h⟩
theorem own_kind_9 (l : Launch) (Z : State) (a0 : Array Value) (hw : ∀ d ∈ tables_1, d.before a0 Z = true) (h0 : Heap) (n0 : Nat) (Z0 : n0 ≤ h0.size) (wj ws : Addr) (cl : Cell) (c : Int32) (Fr_ : Fld Z h0 wj "com/example/rolecall/rolecall/model/StatementKind" "lastSlotRepeats" "Z" (.int (0 : Int32))) (Fs : Fld Z h0 wj "com/example/rolecall/rolecall/model/StatementKind" "slots" "[Ljava/lang/String;" (.ref ws)) (A : Arr Z h0 ws cl (.object "java/lang/String")) (S : cl.slots.size = (1 : Int32).toNatClampNeg ∧ ¬ (1 : Int32) < 0) : ∃ b : Int32, (∀ hh : Heap, Keep h0 hh [] → own_M l (⟨"com/example/rolecall/rolecall/model/StatementKind", "acceptsArgumentCount", "(I)Z"⟩ : MethodName) prog_59_method_7_code 3 (some .boolean) ({ frames := 0, cells := 0, slots := 0, locals := 0 } : Room) Z #[(.ref wj), (.int c)] hh (own_ret (.int b) n0 hh)) ∧ (∀ hh : Heap, Keep h0 hh [] → own_M l (⟨"com/example/rolecall/rolecall/model/StatementKindAcceptsArgumentCountPinLaw", "expected", "(II)Z"⟩ : MethodName) method_2_code 2 (some .boolean) ({ frames := 0, cells := 0, slots := 0, locals := 0 } : Room) Z #[(.int (9 : Int32)), (.int c)] hh (own_ret (.int b) n0 hh)) := by
  by_cases h : c = (1 : Int32)
  · exact ⟨1, fun hh K => own_acc_tf l Z a0 hw [] wj c (0 : Int32) ws cl (1 : Int32) hh n0 (Nat.le_trans Z0 K.1) (Fr_.ext (own_ext K)) (Fs.ext (own_ext K)) (A.ext (own_ext K)) S.1 S.2 rfl h, fun hh K => own_exp_tftff l Z a0 hw [] (9 : Int32) c hh n0 (Nat.le_trans Z0 K.1) (by decide) (by decide) (by decide) (by decide) h⟩
  · exact ⟨0, fun hh K => own_acc_tt l Z a0 hw [] wj c (0 : Int32) ws cl (1 : Int32) hh n0 (Nat.le_trans Z0 K.1) (Fr_.ext (own_ext K)) (Fs.ext (own_ext K)) (A.ext (own_ext K)) S.1 S.2 rfl h, fun hh K => own_exp_tftft l Z a0 hw [] (9 : Int32) c hh n0 (Nat.le_trans Z0 K.1) (by decide) (by decide) (by decide) (by decide) h⟩
theorem own_kind_10 (l : Launch) (Z : State) (a0 : Array Value) (hw : ∀ d ∈ tables_1, d.before a0 Z = true) (h0 : Heap) (n0 : Nat) (Z0 : n0 ≤ h0.size) (wj ws : Addr) (cl : Cell) (c : Int32) (Fr_ : Fld Z h0 wj "com/example/rolecall/rolecall/model/StatementKind" "lastSlotRepeats" "Z" (.int (0 : Int32))) (Fs : Fld Z h0 wj "com/example/rolecall/rolecall/model/StatementKind" "slots" "[Ljava/lang/String;" (.ref ws)) (A : Arr Z h0 ws cl (.object "java/lang/String")) (S : cl.slots.size = (1 : Int32).toNatClampNeg ∧ ¬ (1 : Int32) < 0) : ∃ b : Int32, (∀ hh : Heap, Keep h0 hh [] → own_M l (⟨"com/example/rolecall/rolecall/model/StatementKind", "acceptsArgumentCount", "(I)Z"⟩ : MethodName) prog_59_method_7_code 3 (some .boolean) ({ frames := 0, cells := 0, slots := 0, locals := 0 } : Room) Z #[(.ref wj), (.int c)] hh (own_ret (.int b) n0 hh)) ∧ (∀ hh : Heap, Keep h0 hh [] → own_M l (⟨"com/example/rolecall/rolecall/model/StatementKindAcceptsArgumentCountPinLaw", "expected", "(II)Z"⟩ : MethodName) method_2_code 2 (some .boolean) ({ frames := 0, cells := 0, slots := 0, locals := 0 } : Room) Z #[(.int (10 : Int32)), (.int c)] hh (own_ret (.int b) n0 hh)) := by
  by_cases h : c = (1 : Int32)
  · exact ⟨1, fun hh K => own_acc_tf l Z a0 hw [] wj c (0 : Int32) ws cl (1 : Int32) hh n0 (Nat.le_trans Z0 K.1) (Fr_.ext (own_ext K)) (Fs.ext (own_ext K)) (A.ext (own_ext K)) S.1 S.2 rfl h, fun hh K => own_exp_tftff l Z a0 hw [] (10 : Int32) c hh n0 (Nat.le_trans Z0 K.1) (by decide) (by decide) (by decide) (by decide) h⟩
  · exact ⟨0, fun hh K => own_acc_tt l Z a0 hw [] wj c (0 : Int32) ws cl (1 : Int32) hh n0 (Nat.le_trans Z0 K.1) (Fr_.ext (own_ext K)) (Fs.ext (own_ext K)) (A.ext (own_ext K)) S.1 S.2 rfl h, fun hh K => own_exp_tftft l Z a0 hw [] (10 : Int32) c hh n0 (Nat.le_trans Z0 K.1) (by decide) (by decide) (by decide) (by decide) h⟩
set_option maxRecDepth 65536 in
set_option maxHeartbeats 40000000 in
theorem comes_1 {Post : Tables → Env → Array Value → State → Outcome → State → Prop} (hpost : ∀ tb e args s v u, (limb_1_1.after args s (.returned v) u = true ∧ limb_1_2.after args s (.returned v) u = true ∧ True) → FrameEnd s (.returned v) u (Jvm.fieldLocs frame_1_writes args s ++ Jvm.arrayLocs frame_1_arrays args s ++ Jvm.staticLocs frame_1_statics s) 16 128 → Post tb e args s (.returned v) u) :
    ArmFor flags0 classFile x code maxLocals ret World_1 tables_1 room_1 Calls_1 rest_1 Pre_1 Post := by
  intro l hfl _ _ p e ha hc hk s m args below hf hA hF happ hP
  obtain ⟨hcalls, hrest, hpre⟩ := hP
  obtain ⟨-, -, -, hnamed, -, -, -, hat⟩ := (Spec.applies_iff hf).mp happ
  obtain ⟨hg, hn⟩ := and_e (Cond.before_iff.mp (show (Jvm.Cond.and given_1 narrow_1).before args s = true from hpre))
  obtain ⟨g1, g2⟩ := and_e hg
  obtain ⟨g3, g4⟩ := and_e g2
  obtain ⟨g5, g6⟩ := and_e g4
  obtain ⟨w0, w1, w2, rfl⟩ : ∃ w0 w1 w2 : Value, args = #[w0, w1, w2] := by
    have hs : args.size = 3 := by simpa [Cond.value, given_1] using g1
    obtain ⟨L⟩ := args
    match L, hs with
    | [w0, w1, w2], _ => exact ⟨w0, w1, w2, rfl⟩
  have hw := fun d (hd : d ∈ tables_1) => atoms_spec (ws := Jvm.Cond.code x code maxLocals ret :: tables_1) hat d (List.mem_cons_of_mem _ hd)
  obtain ⟨i0, ei0⟩ := is_v g3
  obtain rfl : w0 = (.int i0) := Option.some.inj ei0
  obtain ⟨i1, ei1⟩ := is_v g5
  obtain rfl : w1 = (.int i1) := Option.some.inj ei1
  obtain ⟨i2, ei2⟩ := is_v g6
  obtain rfl : w2 = (.int i2) := Option.some.inj ei2
  obtain ⟨m0, hn⟩ := and_e hn
  obtain ⟨m1, hn⟩ := and_e hn
  obtain ⟨m2, hn⟩ := and_e hn
  obtain ⟨m3, hn⟩ := and_e hn
  obtain ⟨m4, hn⟩ := and_e hn
  obtain ⟨m5, hn⟩ := and_e hn
  obtain ⟨m6, hn⟩ := and_e hn
  obtain ⟨m7, hn⟩ := and_e hn
  obtain ⟨m8, hn⟩ := and_e hn
  obtain ⟨m9, hn⟩ := and_e hn
  obtain ⟨m10, hn⟩ := and_e hn
  obtain ⟨m11, hn⟩ := and_e hn
  obtain ⟨m12, hn⟩ := and_e hn
  obtain ⟨m13, hn⟩ := and_e hn
  obtain ⟨m14, hn⟩ := and_e hn
  obtain ⟨m15, hn⟩ := and_e hn
  obtain ⟨m16, hn⟩ := and_e hn
  obtain ⟨m17, hn⟩ := and_e hn
  obtain ⟨m18, hn⟩ := and_e hn
  obtain ⟨m19, hn⟩ := and_e hn
  obtain ⟨m20, hn⟩ := and_e hn
  obtain ⟨m21, hn⟩ := and_e hn
  obtain ⟨m22, hn⟩ := and_e hn
  obtain ⟨m23, hn⟩ := and_e hn
  obtain ⟨m24, hn⟩ := and_e hn
  obtain ⟨m25, hn⟩ := and_e hn
  obtain ⟨m26, hn⟩ := and_e hn
  obtain ⟨m27, hn⟩ := and_e hn
  obtain ⟨m28, hn⟩ := and_e hn
  obtain ⟨m29, hn⟩ := and_e hn
  obtain ⟨m30, hn⟩ := and_e hn
  obtain ⟨m31, hn⟩ := and_e hn
  obtain ⟨m32, hn⟩ := and_e hn
  obtain ⟨m33, hn⟩ := and_e hn
  obtain ⟨m34, hn⟩ := and_e hn
  obtain ⟨m35, hn⟩ := and_e hn
  obtain ⟨m36, hn⟩ := and_e hn
  obtain ⟨m37, hn⟩ := and_e hn
  obtain ⟨m38, hn⟩ := and_e hn
  obtain ⟨m39, hn⟩ := and_e hn
  obtain ⟨m40, hn⟩ := and_e hn
  obtain ⟨m41, hn⟩ := and_e hn
  obtain ⟨m42, hn⟩ := and_e hn
  have m43 := hn
  obtain ⟨w_ASSIGN, ev_ASSIGN⟩ := exa_v m0
  have E_ASSIGN : Exa s s.heap w_ASSIGN "com/example/rolecall/rolecall/model/StatementKind" := Exa.start ev_ASSIGN m0
  have S_ASSIGN : Sta s s.heap "com/example/rolecall/rolecall/model/StatementKind" "ASSIGN" "Lcom/example/rolecall/rolecall/model/StatementKind;" (.ref w_ASSIGN) := Sta.start ev_ASSIGN (Or.inr ⟨(hw _ (List.mem_of_getElem? (i := 3) rfl)), (hw _ (List.mem_of_getElem? (i := 4) rfl))⟩)
  obtain ⟨w_GRANT, ev_GRANT⟩ := exa_v m1
  have E_GRANT : Exa s s.heap w_GRANT "com/example/rolecall/rolecall/model/StatementKind" := Exa.start ev_GRANT m1
  have S_GRANT : Sta s s.heap "com/example/rolecall/rolecall/model/StatementKind" "GRANT" "Lcom/example/rolecall/rolecall/model/StatementKind;" (.ref w_GRANT) := Sta.start ev_GRANT (Or.inr ⟨(hw _ (List.mem_of_getElem? (i := 3) rfl)), (hw _ (List.mem_of_getElem? (i := 7) rfl))⟩)
  obtain ⟨w_INHERIT, ev_INHERIT⟩ := exa_v m2
  have E_INHERIT : Exa s s.heap w_INHERIT "com/example/rolecall/rolecall/model/StatementKind" := Exa.start ev_INHERIT m2
  have S_INHERIT : Sta s s.heap "com/example/rolecall/rolecall/model/StatementKind" "INHERIT" "Lcom/example/rolecall/rolecall/model/StatementKind;" (.ref w_INHERIT) := Sta.start ev_INHERIT (Or.inr ⟨(hw _ (List.mem_of_getElem? (i := 3) rfl)), (hw _ (List.mem_of_getElem? (i := 9) rfl))⟩)
  obtain ⟨w_SSD, ev_SSD⟩ := exa_v m3
  have E_SSD : Exa s s.heap w_SSD "com/example/rolecall/rolecall/model/StatementKind" := Exa.start ev_SSD m3
  have S_SSD : Sta s s.heap "com/example/rolecall/rolecall/model/StatementKind" "SSD" "Lcom/example/rolecall/rolecall/model/StatementKind;" (.ref w_SSD) := Sta.start ev_SSD (Or.inr ⟨(hw _ (List.mem_of_getElem? (i := 3) rfl)), (hw _ (List.mem_of_getElem? (i := 11) rfl))⟩)
  obtain ⟨w_DSD, ev_DSD⟩ := exa_v m4
  have E_DSD : Exa s s.heap w_DSD "com/example/rolecall/rolecall/model/StatementKind" := Exa.start ev_DSD m4
  have S_DSD : Sta s s.heap "com/example/rolecall/rolecall/model/StatementKind" "DSD" "Lcom/example/rolecall/rolecall/model/StatementKind;" (.ref w_DSD) := Sta.start ev_DSD (Or.inr ⟨(hw _ (List.mem_of_getElem? (i := 3) rfl)), (hw _ (List.mem_of_getElem? (i := 13) rfl))⟩)
  obtain ⟨w_FLOW, ev_FLOW⟩ := exa_v m5
  have E_FLOW : Exa s s.heap w_FLOW "com/example/rolecall/rolecall/model/StatementKind" := Exa.start ev_FLOW m5
  have S_FLOW : Sta s s.heap "com/example/rolecall/rolecall/model/StatementKind" "FLOW" "Lcom/example/rolecall/rolecall/model/StatementKind;" (.ref w_FLOW) := Sta.start ev_FLOW (Or.inr ⟨(hw _ (List.mem_of_getElem? (i := 3) rfl)), (hw _ (List.mem_of_getElem? (i := 15) rfl))⟩)
  obtain ⟨w_READS, ev_READS⟩ := exa_v m6
  have E_READS : Exa s s.heap w_READS "com/example/rolecall/rolecall/model/StatementKind" := Exa.start ev_READS m6
  have S_READS : Sta s s.heap "com/example/rolecall/rolecall/model/StatementKind" "READS" "Lcom/example/rolecall/rolecall/model/StatementKind;" (.ref w_READS) := Sta.start ev_READS (Or.inr ⟨(hw _ (List.mem_of_getElem? (i := 3) rfl)), (hw _ (List.mem_of_getElem? (i := 17) rfl))⟩)
  obtain ⟨w_WRITES, ev_WRITES⟩ := exa_v m7
  have E_WRITES : Exa s s.heap w_WRITES "com/example/rolecall/rolecall/model/StatementKind" := Exa.start ev_WRITES m7
  have S_WRITES : Sta s s.heap "com/example/rolecall/rolecall/model/StatementKind" "WRITES" "Lcom/example/rolecall/rolecall/model/StatementKind;" (.ref w_WRITES) := Sta.start ev_WRITES (Or.inr ⟨(hw _ (List.mem_of_getElem? (i := 3) rfl)), (hw _ (List.mem_of_getElem? (i := 19) rfl))⟩)
  obtain ⟨w_USER, ev_USER⟩ := exa_v m8
  have E_USER : Exa s s.heap w_USER "com/example/rolecall/rolecall/model/StatementKind" := Exa.start ev_USER m8
  have S_USER : Sta s s.heap "com/example/rolecall/rolecall/model/StatementKind" "USER" "Lcom/example/rolecall/rolecall/model/StatementKind;" (.ref w_USER) := Sta.start ev_USER (Or.inr ⟨(hw _ (List.mem_of_getElem? (i := 3) rfl)), (hw _ (List.mem_of_getElem? (i := 21) rfl))⟩)
  obtain ⟨w_ROLE, ev_ROLE⟩ := exa_v m9
  have E_ROLE : Exa s s.heap w_ROLE "com/example/rolecall/rolecall/model/StatementKind" := Exa.start ev_ROLE m9
  have S_ROLE : Sta s s.heap "com/example/rolecall/rolecall/model/StatementKind" "ROLE" "Lcom/example/rolecall/rolecall/model/StatementKind;" (.ref w_ROLE) := Sta.start ev_ROLE (Or.inr ⟨(hw _ (List.mem_of_getElem? (i := 3) rfl)), (hw _ (List.mem_of_getElem? (i := 23) rfl))⟩)
  obtain ⟨w_EXEMPT, ev_EXEMPT⟩ := exa_v m10
  have E_EXEMPT : Exa s s.heap w_EXEMPT "com/example/rolecall/rolecall/model/StatementKind" := Exa.start ev_EXEMPT m10
  have S_EXEMPT : Sta s s.heap "com/example/rolecall/rolecall/model/StatementKind" "EXEMPT" "Lcom/example/rolecall/rolecall/model/StatementKind;" (.ref w_EXEMPT) := Sta.start ev_EXEMPT (Or.inr ⟨(hw _ (List.mem_of_getElem? (i := 3) rfl)), (hw _ (List.mem_of_getElem? (i := 25) rfl))⟩)
  obtain ⟨w_ASSIGN_slots, ev_ASSIGN_slots⟩ := arr_v m12
  obtain ⟨c_ASSIGN_slots, A_ASSIGN_slots⟩ := Arr.start ev_ASSIGN_slots m12
  have F_ASSIGN_slots : Fld s s.heap w_ASSIGN "com/example/rolecall/rolecall/model/StatementKind" "slots" "[Ljava/lang/String;" (.ref w_ASSIGN_slots) := Fld.start ((fld_at ev_ASSIGN).symm.trans ev_ASSIGN_slots)
  obtain ⟨w_GRANT_slots, ev_GRANT_slots⟩ := arr_v m15
  obtain ⟨c_GRANT_slots, A_GRANT_slots⟩ := Arr.start ev_GRANT_slots m15
  have F_GRANT_slots : Fld s s.heap w_GRANT "com/example/rolecall/rolecall/model/StatementKind" "slots" "[Ljava/lang/String;" (.ref w_GRANT_slots) := Fld.start ((fld_at ev_GRANT).symm.trans ev_GRANT_slots)
  obtain ⟨w_EXEMPT_slots, ev_EXEMPT_slots⟩ := arr_v m18
  obtain ⟨c_EXEMPT_slots, A_EXEMPT_slots⟩ := Arr.start ev_EXEMPT_slots m18
  have F_EXEMPT_slots : Fld s s.heap w_EXEMPT "com/example/rolecall/rolecall/model/StatementKind" "slots" "[Ljava/lang/String;" (.ref w_EXEMPT_slots) := Fld.start ((fld_at ev_EXEMPT).symm.trans ev_EXEMPT_slots)
  obtain ⟨w_USER_slots, ev_USER_slots⟩ := arr_v m21
  obtain ⟨c_USER_slots, A_USER_slots⟩ := Arr.start ev_USER_slots m21
  have F_USER_slots : Fld s s.heap w_USER "com/example/rolecall/rolecall/model/StatementKind" "slots" "[Ljava/lang/String;" (.ref w_USER_slots) := Fld.start ((fld_at ev_USER).symm.trans ev_USER_slots)
  obtain ⟨w_FLOW_slots, ev_FLOW_slots⟩ := arr_v m24
  obtain ⟨c_FLOW_slots, A_FLOW_slots⟩ := Arr.start ev_FLOW_slots m24
  have F_FLOW_slots : Fld s s.heap w_FLOW "com/example/rolecall/rolecall/model/StatementKind" "slots" "[Ljava/lang/String;" (.ref w_FLOW_slots) := Fld.start ((fld_at ev_FLOW).symm.trans ev_FLOW_slots)
  obtain ⟨w_SSD_slots, ev_SSD_slots⟩ := arr_v m27
  obtain ⟨c_SSD_slots, A_SSD_slots⟩ := Arr.start ev_SSD_slots m27
  have F_SSD_slots : Fld s s.heap w_SSD "com/example/rolecall/rolecall/model/StatementKind" "slots" "[Ljava/lang/String;" (.ref w_SSD_slots) := Fld.start ((fld_at ev_SSD).symm.trans ev_SSD_slots)
  obtain ⟨w_INHERIT_slots, ev_INHERIT_slots⟩ := arr_v m30
  obtain ⟨c_INHERIT_slots, A_INHERIT_slots⟩ := Arr.start ev_INHERIT_slots m30
  have F_INHERIT_slots : Fld s s.heap w_INHERIT "com/example/rolecall/rolecall/model/StatementKind" "slots" "[Ljava/lang/String;" (.ref w_INHERIT_slots) := Fld.start ((fld_at ev_INHERIT).symm.trans ev_INHERIT_slots)
  obtain ⟨w_READS_slots, ev_READS_slots⟩ := arr_v m33
  obtain ⟨c_READS_slots, A_READS_slots⟩ := Arr.start ev_READS_slots m33
  have F_READS_slots : Fld s s.heap w_READS "com/example/rolecall/rolecall/model/StatementKind" "slots" "[Ljava/lang/String;" (.ref w_READS_slots) := Fld.start ((fld_at ev_READS).symm.trans ev_READS_slots)
  obtain ⟨w_WRITES_slots, ev_WRITES_slots⟩ := arr_v m36
  obtain ⟨c_WRITES_slots, A_WRITES_slots⟩ := Arr.start ev_WRITES_slots m36
  have F_WRITES_slots : Fld s s.heap w_WRITES "com/example/rolecall/rolecall/model/StatementKind" "slots" "[Ljava/lang/String;" (.ref w_WRITES_slots) := Fld.start ((fld_at ev_WRITES).symm.trans ev_WRITES_slots)
  obtain ⟨w_ROLE_slots, ev_ROLE_slots⟩ := arr_v m39
  obtain ⟨c_ROLE_slots, A_ROLE_slots⟩ := Arr.start ev_ROLE_slots m39
  have F_ROLE_slots : Fld s s.heap w_ROLE "com/example/rolecall/rolecall/model/StatementKind" "slots" "[Ljava/lang/String;" (.ref w_ROLE_slots) := Fld.start ((fld_at ev_ROLE).symm.trans ev_ROLE_slots)
  obtain ⟨w_DSD_slots, ev_DSD_slots⟩ := arr_v m42
  obtain ⟨c_DSD_slots, A_DSD_slots⟩ := Arr.start ev_DSD_slots m42
  have F_DSD_slots : Fld s s.heap w_DSD "com/example/rolecall/rolecall/model/StatementKind" "slots" "[Ljava/lang/String;" (.ref w_DSD_slots) := Fld.start ((fld_at ev_DSD).symm.trans ev_DSD_slots)
  have F_ASSIGN_lastSlotRepeats : Fld s s.heap w_ASSIGN "com/example/rolecall/rolecall/model/StatementKind" "lastSlotRepeats" "Z" (.int (0 : Int32)) := Fld.start ((fld_at ev_ASSIGN).symm.trans (own_eqI m11))
  have Z_ASSIGN_slots := own_size (own_len ev_ASSIGN_slots A_ASSIGN_slots m13)
  have F_GRANT_lastSlotRepeats : Fld s s.heap w_GRANT "com/example/rolecall/rolecall/model/StatementKind" "lastSlotRepeats" "Z" (.int (0 : Int32)) := Fld.start ((fld_at ev_GRANT).symm.trans (own_eqI m14))
  have Z_GRANT_slots := own_size (own_len ev_GRANT_slots A_GRANT_slots m16)
  have F_EXEMPT_lastSlotRepeats : Fld s s.heap w_EXEMPT "com/example/rolecall/rolecall/model/StatementKind" "lastSlotRepeats" "Z" (.int (0 : Int32)) := Fld.start ((fld_at ev_EXEMPT).symm.trans (own_eqI m17))
  have Z_EXEMPT_slots := own_size (own_len ev_EXEMPT_slots A_EXEMPT_slots m19)
  have F_USER_lastSlotRepeats : Fld s s.heap w_USER "com/example/rolecall/rolecall/model/StatementKind" "lastSlotRepeats" "Z" (.int (0 : Int32)) := Fld.start ((fld_at ev_USER).symm.trans (own_eqI m20))
  have Z_USER_slots := own_size (own_len ev_USER_slots A_USER_slots m22)
  have F_FLOW_lastSlotRepeats : Fld s s.heap w_FLOW "com/example/rolecall/rolecall/model/StatementKind" "lastSlotRepeats" "Z" (.int (0 : Int32)) := Fld.start ((fld_at ev_FLOW).symm.trans (own_eqI m23))
  have Z_FLOW_slots := own_size (own_len ev_FLOW_slots A_FLOW_slots m25)
  have F_SSD_lastSlotRepeats : Fld s s.heap w_SSD "com/example/rolecall/rolecall/model/StatementKind" "lastSlotRepeats" "Z" (.int (0 : Int32)) := Fld.start ((fld_at ev_SSD).symm.trans (own_eqI m26))
  have Z_SSD_slots := own_size (own_len ev_SSD_slots A_SSD_slots m28)
  have F_INHERIT_lastSlotRepeats : Fld s s.heap w_INHERIT "com/example/rolecall/rolecall/model/StatementKind" "lastSlotRepeats" "Z" (.int (0 : Int32)) := Fld.start ((fld_at ev_INHERIT).symm.trans (own_eqI m29))
  have Z_INHERIT_slots := own_size (own_len ev_INHERIT_slots A_INHERIT_slots m31)
  have F_READS_lastSlotRepeats : Fld s s.heap w_READS "com/example/rolecall/rolecall/model/StatementKind" "lastSlotRepeats" "Z" (.int (1 : Int32)) := Fld.start ((fld_at ev_READS).symm.trans (own_eqI m32))
  have Z_READS_slots := own_size (own_len ev_READS_slots A_READS_slots m34)
  have F_WRITES_lastSlotRepeats : Fld s s.heap w_WRITES "com/example/rolecall/rolecall/model/StatementKind" "lastSlotRepeats" "Z" (.int (1 : Int32)) := Fld.start ((fld_at ev_WRITES).symm.trans (own_eqI m35))
  have Z_WRITES_slots := own_size (own_len ev_WRITES_slots A_WRITES_slots m37)
  have F_ROLE_lastSlotRepeats : Fld s s.heap w_ROLE "com/example/rolecall/rolecall/model/StatementKind" "lastSlotRepeats" "Z" (.int (0 : Int32)) := Fld.start ((fld_at ev_ROLE).symm.trans (own_eqI m38))
  have Z_ROLE_slots := own_size (own_len ev_ROLE_slots A_ROLE_slots m40)
  have F_DSD_lastSlotRepeats : Fld s s.heap w_DSD "com/example/rolecall/rolecall/model/StatementKind" "lastSlotRepeats" "Z" (.int (0 : Int32)) := Fld.start ((fld_at ev_DSD).symm.trans (own_eqI m41))
  have Z_DSD_slots := own_size (own_len ev_DSD_slots A_DSD_slots m43)
  have hlaw : ∀ (j : Int32), ¬ j < 0 → j < (11 : Int32) → ∃ (wj : Addr), ([(.ref w_ASSIGN), (.ref w_GRANT), (.ref w_INHERIT), (.ref w_SSD), (.ref w_DSD), (.ref w_FLOW), (.ref w_READS), (.ref w_WRITES), (.ref w_USER), (.ref w_ROLE), (.ref w_EXEMPT)] : List Value).getD j.toNatClampNeg .null = (.ref wj) ∧ Exa s s.heap wj "com/example/rolecall/rolecall/model/StatementKind" ∧ ∀ c : Int32, ∃ b : Int32, (∀ hh : Heap, Keep s.heap hh [] → own_M l (⟨"com/example/rolecall/rolecall/model/StatementKind", "acceptsArgumentCount", "(I)Z"⟩ : MethodName) prog_59_method_7_code 3 (some .boolean) ({ frames := 0, cells := 0, slots := 0, locals := 0 } : Room) s #[(.ref wj), (.int c)] hh (own_ret (.int b) s.heap.size hh)) ∧ (∀ hh : Heap, Keep s.heap hh [] → own_M l (⟨"com/example/rolecall/rolecall/model/StatementKindAcceptsArgumentCountPinLaw", "expected", "(II)Z"⟩ : MethodName) method_2_code 2 (some .boolean) ({ frames := 0, cells := 0, slots := 0, locals := 0 } : Room) s #[(.int j), (.int c)] hh (own_ret (.int b) s.heap.size hh)) := by
    intro j hlo hhi
    rcases own_cases hlo hhi with rfl | rfl | rfl | rfl | rfl | rfl | rfl | rfl | rfl | rfl | rfl
    · exact ⟨w_ASSIGN, rfl, E_ASSIGN, fun c => own_kind_0 l s _ hw s.heap s.heap.size (Nat.le_refl _) w_ASSIGN w_ASSIGN_slots c_ASSIGN_slots c F_ASSIGN_lastSlotRepeats F_ASSIGN_slots A_ASSIGN_slots Z_ASSIGN_slots⟩
    · exact ⟨w_GRANT, rfl, E_GRANT, fun c => own_kind_1 l s _ hw s.heap s.heap.size (Nat.le_refl _) w_GRANT w_GRANT_slots c_GRANT_slots c F_GRANT_lastSlotRepeats F_GRANT_slots A_GRANT_slots Z_GRANT_slots⟩
    · exact ⟨w_INHERIT, rfl, E_INHERIT, fun c => own_kind_2 l s _ hw s.heap s.heap.size (Nat.le_refl _) w_INHERIT w_INHERIT_slots c_INHERIT_slots c F_INHERIT_lastSlotRepeats F_INHERIT_slots A_INHERIT_slots Z_INHERIT_slots⟩
    · exact ⟨w_SSD, rfl, E_SSD, fun c => own_kind_3 l s _ hw s.heap s.heap.size (Nat.le_refl _) w_SSD w_SSD_slots c_SSD_slots c F_SSD_lastSlotRepeats F_SSD_slots A_SSD_slots Z_SSD_slots⟩
    · exact ⟨w_DSD, rfl, E_DSD, fun c => own_kind_4 l s _ hw s.heap s.heap.size (Nat.le_refl _) w_DSD w_DSD_slots c_DSD_slots c F_DSD_lastSlotRepeats F_DSD_slots A_DSD_slots Z_DSD_slots⟩
    · exact ⟨w_FLOW, rfl, E_FLOW, fun c => own_kind_5 l s _ hw s.heap s.heap.size (Nat.le_refl _) w_FLOW w_FLOW_slots c_FLOW_slots c F_FLOW_lastSlotRepeats F_FLOW_slots A_FLOW_slots Z_FLOW_slots⟩
    · exact ⟨w_READS, rfl, E_READS, fun c => own_kind_6 l s _ hw s.heap s.heap.size (Nat.le_refl _) w_READS w_READS_slots c_READS_slots c F_READS_lastSlotRepeats F_READS_slots A_READS_slots Z_READS_slots⟩
    · exact ⟨w_WRITES, rfl, E_WRITES, fun c => own_kind_7 l s _ hw s.heap s.heap.size (Nat.le_refl _) w_WRITES w_WRITES_slots c_WRITES_slots c F_WRITES_lastSlotRepeats F_WRITES_slots A_WRITES_slots Z_WRITES_slots⟩
    · exact ⟨w_USER, rfl, E_USER, fun c => own_kind_8 l s _ hw s.heap s.heap.size (Nat.le_refl _) w_USER w_USER_slots c_USER_slots c F_USER_lastSlotRepeats F_USER_slots A_USER_slots Z_USER_slots⟩
    · exact ⟨w_ROLE, rfl, E_ROLE, fun c => own_kind_9 l s _ hw s.heap s.heap.size (Nat.le_refl _) w_ROLE w_ROLE_slots c_ROLE_slots c F_ROLE_lastSlotRepeats F_ROLE_slots A_ROLE_slots Z_ROLE_slots⟩
    · exact ⟨w_EXEMPT, rfl, E_EXEMPT, fun c => own_kind_10 l s _ hw s.heap s.heap.size (Nat.le_refl _) w_EXEMPT w_EXEMPT_slots c_EXEMPT_slots c F_EXEMPT_lastSlotRepeats F_EXEMPT_slots A_EXEMPT_slots Z_EXEMPT_slots⟩
  obtain ⟨wj, q1, q2, q3⟩ := hlaw _ (own_mod i0).1 (own_mod i0).2
  obtain ⟨b1, r1, r2⟩ := q3 i1
  obtain ⟨b2, r3, r4⟩ := q3 ((i2 &&& (7 : Int32)) - (2 : Int32))
  obtain ⟨n, o, h1, h2, h3, _, L, rfl, ⟨rfl, N⟩, hq⟩ := own_law l s _ hw tables_1 i0 i1 i2 s.heap s.heap.size (Nat.le_refl _) w_ASSIGN S_ASSIGN E_ASSIGN w_GRANT S_GRANT E_GRANT w_INHERIT S_INHERIT E_INHERIT w_SSD S_SSD E_SSD w_DSD S_DSD E_DSD w_FLOW S_FLOW E_FLOW w_READS S_READS E_READS w_WRITES S_WRITES E_WRITES w_USER S_USER E_USER w_ROLE S_ROLE E_ROLE w_EXEMPT S_EXEMPT E_EXEMPT _ rfl (own_mod i0).1 (own_mod i0).2 wj q1 q2 b1 b2 r1 r2 r3 r4 p e ha hc hk s m _ below hf ((Spec.applies_iff_loose hf).mp happ).1 ⟨rfl, State.Warmed39.refl s, rfl⟩ trivial
  refine ⟨n, _, h1, h2, h3, hpost _ _ _ _ _ _ ⟨Cond.after_iff.mpr rfl, Cond.after_iff.mpr (eq_i res_at (Term.int_eval (1)) rfl), trivial⟩ ⟨hq.1, hq.2.1, (hq.2.2.sift fun y hy => Or.inr (N y hy)).mono (by decide) (by decide)⟩⟩
theorem main_1_1 : Claimed_1_1 := comes_1 fun _ _ _ _ _ _ h hF => ⟨h.1, hF⟩
theorem main_1_2 : Claimed_1_2 := comes_1 fun _ _ _ _ _ _ h hF => ⟨h.2.1, hF⟩
end Jvm.Pilot.@@N@@
namespace Jvm.Pilot.@@N@@
open Jvm Jvm.ClassFile Sem Op Lib Jvm.Free Jvm.Stand Jvm.Pilot.@@N@@.Jvm.D
/-! MADE BY PROGRAM (witnessworld.py) out of the Statement's table words and the real class files: 17 classes; the members and pool entries that the words name. The judged class is class 1, her method 2. -/
namespace start1
open Jvm.ClassFile
def u (s : String) : CpInfo := .utf8 (stringToUtf16 s)
/-- a pool by its gaps: so many unusable entries, then the entry; so many at the end -/
def gap : Nat → List CpInfo → List CpInfo
  | 0, r => r
  | n + 1, r => .unusable :: gap n r
def poolList (es : List (Nat × CpInfo)) (last : Nat) : List CpInfo := es.foldr (fun e r => gap e.1 (e.2 :: r)) (gap last [])
def pool (es : List (Nat × CpInfo)) (last : Nat) : Array CpInfo := ⟨poolList es last⟩
def fileOf (pool : Array CpInfo) (this : Nat) (attrs : Array Attribute := #[]) (ms : Array MethodInfo := #[]) (fl : Nat := 33) (sup : Nat := 0) (ifs : Array Nat := #[]) (fds : Array FieldInfo := #[]) : ClassFile where
  minorVersion := 0
  majorVersion := 65
  constantPool := pool
  accessFlags := fl
  thisClass := this
  superClass := sup
  interfaces := ifs
  fields := fds
  methods := ms
  attributes := attrs
def plain (name : String) (sup : Option ClassId) : Class where
  name := name
  kind := .ordinary
  loader := none
  accessFlags := 33
  super := sup
  interfaces := #[]
  cf := none
  fields := #[]
  methods := #[]
  instanceTypes := #[]
  staticTypes := #[]
  resolved := #[]
  callSites := []
  init := .initialized
  statics := none
  mirror := none

def pool0 : Array CpInfo := pool [(5, u "<init>"), (0, u "()V"), (1, .class_ 10), (1, u "java/lang/Object")] 113

def k0m0 : Method := { name := "<init>", desc := "()V", sig := { parameters := [], returnType := none }, accessFlags := 1, code := none }
/-- java/lang/Object -/
def k0 : Class := { plain "java/lang/Object" none with
  accessFlags := 33
  interfaces := #[]
  cf := some (fileOf pool0 8 #[] #[{ accessFlags := 1, nameIndex := 5, descriptorIndex := 6, attributes := #[] }] 33 0 #[] #[])
  fields := #[]
  methods := #[k0m0]
  instanceTypes := #[]
  staticTypes := #[]
  resolved := Array.replicate 124 none
  statics := none }

def pool1 : Array CpInfo := pool [(2, .class_ 4), (1, u "java/lang/Object"), (0, u "<init>"), (0, u "()V"), (0, .class_ 8), (0, u "com/example/rolecall/rolecall/model/StatementKind"), (0, .fieldref 7 10), (0, .nameAndType 11 12), (0, u "ASSIGN"), (0, u "Lcom/example/rolecall/rolecall/model/StatementKind;"), (0, .fieldref 7 14), (0, .nameAndType 15 12), (0, u "GRANT"), (0, .fieldref 7 17), (0, .nameAndType 18 12), (0, u "INHERIT"), (0, .fieldref 7 20), (0, .nameAndType 21 12), (0, u "SSD"), (0, .fieldref 7 23), (0, .nameAndType 24 12), (0, u "DSD"), (0, .fieldref 7 26), (0, .nameAndType 27 12), (0, u "FLOW"), (0, .fieldref 7 29), (0, .nameAndType 30 12), (0, u "READS"), (0, .fieldref 7 32), (0, .nameAndType 33 12), (0, u "WRITES"), (0, .fieldref 7 35), (0, .nameAndType 36 12), (0, u "USER"), (0, .fieldref 7 38), (0, .nameAndType 39 12), (0, u "ROLE"), (0, .fieldref 7 41), (0, .nameAndType 42 12), (0, u "EXEMPT"), (0, .integer 2147483647), (0, .methodref 7 45), (0, .nameAndType 46 47), (0, u "acceptsArgumentCount"), (0, u "(I)Z"), (0, .methodref 49 50), (0, .class_ 51), (0, .nameAndType 52 53), (0, u "com/example/rolecall/rolecall/model/StatementKindAcceptsArgumentCountPinLaw"), (0, u "expected"), (0, u "(II)Z"), (3, u "law"), (0, u "(III)Z")] 4

def k1m0 : Method := { name := "<init>", desc := "()V", sig := { parameters := [], returnType := none }, accessFlags := 1, code := none }
def k1c1 : Code := { maxStack := 2, maxLocals := 2, code := method_2_code, exceptionTable := #[], attributes := #[] }
def k1m1 : Method := { name := "expected", desc := "(II)Z", sig := { parameters := [.int, .int], returnType := some .boolean }, accessFlags := 10, code := some k1c1 }
def k1c2 : Code := { maxStack := 4, maxLocals := 9, code := code, exceptionTable := #[], attributes := #[] }
def k1m2 : Method := { name := "law", desc := "(III)Z", sig := { parameters := [.int, .int, .int], returnType := some .boolean }, accessFlags := 9, code := some k1c2 }
/-- com/example/rolecall/rolecall/model/StatementKindAcceptsArgumentCountPinLaw -/
def k1 : Class := { plain "com/example/rolecall/rolecall/model/StatementKindAcceptsArgumentCountPinLaw" (some 0) with
  accessFlags := 49
  interfaces := #[]
  cf := some (fileOf pool1 49 #[] #[{ accessFlags := 1, nameIndex := 5, descriptorIndex := 6, attributes := #[] }, { accessFlags := 10, nameIndex := 52, descriptorIndex := 53, attributes := #[] }, { accessFlags := 9, nameIndex := 57, descriptorIndex := 58, attributes := #[] }] 49 2 #[] #[])
  fields := #[]
  methods := #[k1m0, k1m1, k1m2]
  instanceTypes := #[]
  staticTypes := #[]
  resolved := Array.replicate 63 none
  statics := none }

def pool2 : Array CpInfo := pool [(1, .class_ 2), (0, u "java/lang/constant/Constable"), (0, .class_ 4), (0, u "java/lang/Object")] 6

/-- java/lang/constant/Constable -/
def k2 : Class := { plain "java/lang/constant/Constable" (some 0) with
  accessFlags := 1537
  interfaces := #[]
  cf := some (fileOf pool2 1 #[] #[] 1537 3 #[] #[])
  fields := #[]
  methods := #[]
  instanceTypes := #[]
  staticTypes := #[]
  resolved := Array.replicate 11 none
  statics := none }

def pool3 : Array CpInfo := pool [(1, .class_ 2), (0, u "java/lang/Comparable"), (0, .class_ 4), (0, u "java/lang/Object")] 7

/-- java/lang/Comparable -/
def k3 : Class := { plain "java/lang/Comparable" (some 0) with
  accessFlags := 1537
  interfaces := #[]
  cf := some (fileOf pool3 1 #[] #[] 1537 3 #[] #[])
  fields := #[]
  methods := #[]
  instanceTypes := #[]
  staticTypes := #[]
  resolved := Array.replicate 12 none
  statics := none }

def pool4 : Array CpInfo := pool [(1, .class_ 2), (0, u "java/io/Serializable"), (0, .class_ 4), (0, u "java/lang/Object")] 2

/-- java/io/Serializable -/
def k4 : Class := { plain "java/io/Serializable" (some 0) with
  accessFlags := 1537
  interfaces := #[]
  cf := some (fileOf pool4 1 #[] #[] 1537 3 #[] #[])
  fields := #[]
  methods := #[]
  instanceTypes := #[]
  staticTypes := #[]
  resolved := Array.replicate 7 none
  statics := none }

def pool5 : Array CpInfo := pool [(2, .class_ 4), (1, u "java/lang/Enum"), (0, u "name"), (0, u "Ljava/lang/String;"), (2, u "ordinal"), (0, u "I"), (1, .class_ 14), (1, u "java/lang/Object"), (4, u "hash"), (86, .class_ 108), (1, u "java/lang/Enum$EnumDesc"), (2, .class_ 112), (0, u "java/lang/constant/Constable"), (0, .class_ 114), (0, u "java/lang/Comparable"), (0, .class_ 116), (0, u "java/io/Serializable")] 87

/-- java/lang/Enum -/
def k5 : Class := { plain "java/lang/Enum" (some 0) with
  accessFlags := 1057
  interfaces := #[2, 3, 4]
  cf := some (fileOf pool5 2 #[.nestMembers #[106]] #[] 1057 12 #[111, 113, 115] #[{ accessFlags := 18, nameIndex := 5, descriptorIndex := 6, attributes := #[] }, { accessFlags := 18, nameIndex := 9, descriptorIndex := 10, attributes := #[] }, { accessFlags := 2, nameIndex := 19, descriptorIndex := 10, attributes := #[] }])
  fields := #[{ name := "name", type := (.object "java/lang/String"), accessFlags := 18, slot := 0, constantValue := 0 }, { name := "ordinal", type := .int, accessFlags := 18, slot := 1, constantValue := 0 }, { name := "hash", type := .int, accessFlags := 2, slot := 2, constantValue := 0 }]
  methods := #[]
  instanceTypes := #[(.object "java/lang/String"), .int, .int]
  staticTypes := #[]
  resolved := Array.replicate 204 none
  statics := none }

def pool6 : Array CpInfo := pool [(1, .class_ 2), (0, u "com/example/rolecall/rolecall/model/StatementKind"), (2, u "ASSIGN"), (0, u "Lcom/example/rolecall/rolecall/model/StatementKind;"), (2, u "GRANT"), (2, u "INHERIT"), (2, u "SSD"), (2, u "DSD"), (2, u "FLOW"), (2, u "READS"), (2, u "WRITES"), (2, u "USER"), (2, u "ROLE"), (2, u "EXEMPT"), (2, u "$VALUES"), (0, u "[Lcom/example/rolecall/rolecall/model/StatementKind;"), (6, .class_ 49), (1, u "java/lang/Enum"), (8, u "keyword"), (0, u "Ljava/lang/String;"), (6, u "usage"), (8, .fieldref 1 76), (0, .nameAndType 77 78), (0, u "lastSlotRepeats"), (0, u "Z"), (14, .fieldref 1 94), (0, .nameAndType 95 96), (0, u "slots"), (0, u "[Ljava/lang/String;"), (2, u "BY_KEYWORD"), (0, u "Ljava/util/Map;"), (76, u "REPEATED"), (13, u "acceptsArgumentCount"), (0, u "(I)Z")] 22

def k6c0 : Code := { maxStack := 2, maxLocals := 3, code := prog_59_method_7_code, exceptionTable := #[], attributes := #[] }
def k6m0 : Method := { name := "acceptsArgumentCount", desc := "(I)Z", sig := { parameters := [.int], returnType := some .boolean }, accessFlags := 0, code := some k6c0 }
/-- com/example/rolecall/rolecall/model/StatementKind -/
def k6 : Class := { plain "com/example/rolecall/rolecall/model/StatementKind" (some 5) with
  accessFlags := 16433
  interfaces := #[]
  cf := some (fileOf pool6 1 #[] #[{ accessFlags := 0, nameIndex := 191, descriptorIndex := 192, attributes := #[] }] 16433 47 #[] #[{ accessFlags := 16409, nameIndex := 5, descriptorIndex := 6, attributes := #[] }, { accessFlags := 16409, nameIndex := 9, descriptorIndex := 6, attributes := #[] }, { accessFlags := 16409, nameIndex := 12, descriptorIndex := 6, attributes := #[] }, { accessFlags := 16409, nameIndex := 15, descriptorIndex := 6, attributes := #[] }, { accessFlags := 16409, nameIndex := 18, descriptorIndex := 6, attributes := #[] }, { accessFlags := 16409, nameIndex := 21, descriptorIndex := 6, attributes := #[] }, { accessFlags := 16409, nameIndex := 24, descriptorIndex := 6, attributes := #[] }, { accessFlags := 16409, nameIndex := 27, descriptorIndex := 6, attributes := #[] }, { accessFlags := 16409, nameIndex := 30, descriptorIndex := 6, attributes := #[] }, { accessFlags := 16409, nameIndex := 33, descriptorIndex := 6, attributes := #[] }, { accessFlags := 16409, nameIndex := 36, descriptorIndex := 6, attributes := #[] }, { accessFlags := 26, nameIndex := 177, descriptorIndex := 59, attributes := #[] }, { accessFlags := 26, nameIndex := 99, descriptorIndex := 100, attributes := #[] }, { accessFlags := 18, nameIndex := 58, descriptorIndex := 59, attributes := #[] }, { accessFlags := 18, nameIndex := 66, descriptorIndex := 59, attributes := #[] }, { accessFlags := 18, nameIndex := 95, descriptorIndex := 96, attributes := #[] }, { accessFlags := 18, nameIndex := 77, descriptorIndex := 78, attributes := #[] }, { accessFlags := 4122, nameIndex := 39, descriptorIndex := 40, attributes := #[] }])
  fields := #[{ name := "ASSIGN", type := (.object "com/example/rolecall/rolecall/model/StatementKind"), accessFlags := 16409, slot := 0, constantValue := 0 }, { name := "GRANT", type := (.object "com/example/rolecall/rolecall/model/StatementKind"), accessFlags := 16409, slot := 1, constantValue := 0 }, { name := "INHERIT", type := (.object "com/example/rolecall/rolecall/model/StatementKind"), accessFlags := 16409, slot := 2, constantValue := 0 }, { name := "SSD", type := (.object "com/example/rolecall/rolecall/model/StatementKind"), accessFlags := 16409, slot := 3, constantValue := 0 }, { name := "DSD", type := (.object "com/example/rolecall/rolecall/model/StatementKind"), accessFlags := 16409, slot := 4, constantValue := 0 }, { name := "FLOW", type := (.object "com/example/rolecall/rolecall/model/StatementKind"), accessFlags := 16409, slot := 5, constantValue := 0 }, { name := "READS", type := (.object "com/example/rolecall/rolecall/model/StatementKind"), accessFlags := 16409, slot := 6, constantValue := 0 }, { name := "WRITES", type := (.object "com/example/rolecall/rolecall/model/StatementKind"), accessFlags := 16409, slot := 7, constantValue := 0 }, { name := "USER", type := (.object "com/example/rolecall/rolecall/model/StatementKind"), accessFlags := 16409, slot := 8, constantValue := 0 }, { name := "ROLE", type := (.object "com/example/rolecall/rolecall/model/StatementKind"), accessFlags := 16409, slot := 9, constantValue := 0 }, { name := "EXEMPT", type := (.object "com/example/rolecall/rolecall/model/StatementKind"), accessFlags := 16409, slot := 10, constantValue := 0 }, { name := "REPEATED", type := (.object "java/lang/String"), accessFlags := 26, slot := 11, constantValue := 0 }, { name := "BY_KEYWORD", type := (.object "java/util/Map"), accessFlags := 26, slot := 12, constantValue := 0 }, { name := "keyword", type := (.object "java/lang/String"), accessFlags := 18, slot := 3, constantValue := 0 }, { name := "usage", type := (.object "java/lang/String"), accessFlags := 18, slot := 4, constantValue := 0 }, { name := "slots", type := (.array (.object "java/lang/String")), accessFlags := 18, slot := 5, constantValue := 0 }, { name := "lastSlotRepeats", type := .boolean, accessFlags := 18, slot := 6, constantValue := 0 }, { name := "$VALUES", type := (.array (.object "com/example/rolecall/rolecall/model/StatementKind")), accessFlags := 4122, slot := 13, constantValue := 0 }]
  methods := #[k6m0]
  instanceTypes := #[(.object "java/lang/String"), .int, .int, (.object "java/lang/String"), (.object "java/lang/String"), (.array (.object "java/lang/String")), .boolean]
  staticTypes := #[(.object "com/example/rolecall/rolecall/model/StatementKind"), (.object "com/example/rolecall/rolecall/model/StatementKind"), (.object "com/example/rolecall/rolecall/model/StatementKind"), (.object "com/example/rolecall/rolecall/model/StatementKind"), (.object "com/example/rolecall/rolecall/model/StatementKind"), (.object "com/example/rolecall/rolecall/model/StatementKind"), (.object "com/example/rolecall/rolecall/model/StatementKind"), (.object "com/example/rolecall/rolecall/model/StatementKind"), (.object "com/example/rolecall/rolecall/model/StatementKind"), (.object "com/example/rolecall/rolecall/model/StatementKind"), (.object "com/example/rolecall/rolecall/model/StatementKind"), (.object "java/lang/String"), (.object "java/util/Map"), (.array (.object "com/example/rolecall/rolecall/model/StatementKind"))]
  resolved := Array.replicate 215 none
  statics := some 0 }

def pool7 : Array CpInfo := pool [(2, .class_ 4), (1, u "java/lang/CharSequence"), (42, .class_ 48), (0, u "java/lang/CharSequence$1CodePointIterator"), (10, .class_ 60), (0, u "java/lang/CharSequence$1CharIterator"), (5, .class_ 67), (0, u "java/lang/Object")] 63

/-- java/lang/CharSequence -/
def k7 : Class := { plain "java/lang/CharSequence" (some 0) with
  accessFlags := 1537
  interfaces := #[]
  cf := some (fileOf pool7 2 #[.nestMembers #[47, 59]] #[] 1537 66 #[] #[])
  fields := #[]
  methods := #[]
  instanceTypes := #[]
  staticTypes := #[]
  resolved := Array.replicate 131 none
  statics := none }

def pool8 : Array CpInfo := pool [(1, .class_ 2), (0, u "java/lang/constant/ConstantDesc"), (0, .class_ 4), (0, u "java/lang/Object")] 32

/-- java/lang/constant/ConstantDesc -/
def k8 : Class := { plain "java/lang/constant/ConstantDesc" (some 0) with
  accessFlags := 1537
  interfaces := #[]
  cf := some (fileOf pool8 1 #[] #[] 1537 3 #[] #[])
  fields := #[]
  methods := #[]
  instanceTypes := #[]
  staticTypes := #[]
  resolved := Array.replicate 37 none
  statics := none }

def pool9 : Array CpInfo := pool [(2, .class_ 4), (1, u "java/lang/Object"), (0, u "<init>"), (0, u "()V"), (3, .class_ 12), (1, u "java/lang/String"), (0, u "value"), (0, u "[B"), (2, u "coder"), (0, u "B"), (2, u "hash"), (0, u "I"), (2, u "hashIsZero"), (0, u "Z"), (13, u "COMPACT_STRINGS"), (534, .class_ 576), (0, u "java/lang/CharSequence"), (22, u "CASE_INSENSITIVE_ORDER"), (0, u "Ljava/util/Comparator;"), (500, u "serialPersistentFields"), (0, u "[Ljava/io/ObjectStreamField;"), (0, .class_ 1104), (0, u "java/lang/String$CaseInsensitiveComparator"), (1, .class_ 1107), (0, u "java/io/Serializable"), (0, .class_ 1109), (0, u "java/lang/Comparable"), (0, .class_ 1111), (0, u "java/lang/constant/Constable"), (0, .class_ 1113), (0, u "java/lang/constant/ConstantDesc"), (2, u "serialVersionUID"), (0, u "J"), (3, u "REPL"), (0, u "C"), (2, u "LATIN1"), (1, u "UTF16")] 323

def k9m0 : Method := { name := "<init>", desc := "()V", sig := { parameters := [], returnType := none }, accessFlags := 1, code := none }
/-- java/lang/String -/
def k9 : Class := { plain "java/lang/String" (some 0) with
  accessFlags := 49
  interfaces := #[4, 3, 7, 2, 8]
  cf := some (fileOf pool9 10 #[.nestMembers #[1103]] #[{ accessFlags := 1, nameIndex := 5, descriptorIndex := 6, attributes := #[] }] 49 2 #[1106, 1108, 575, 1110, 1112] #[{ accessFlags := 18, nameIndex := 13, descriptorIndex := 14, attributes := #[] }, { accessFlags := 18, nameIndex := 17, descriptorIndex := 18, attributes := #[] }, { accessFlags := 2, nameIndex := 21, descriptorIndex := 22, attributes := #[] }, { accessFlags := 2, nameIndex := 25, descriptorIndex := 26, attributes := #[] }, { accessFlags := 26, nameIndex := 1116, descriptorIndex := 1117, attributes := #[] }, { accessFlags := 24, nameIndex := 40, descriptorIndex := 26, attributes := #[] }, { accessFlags := 26, nameIndex := 1101, descriptorIndex := 1102, attributes := #[] }, { accessFlags := 26, nameIndex := 1121, descriptorIndex := 1122, attributes := #[] }, { accessFlags := 25, nameIndex := 599, descriptorIndex := 600, attributes := #[] }, { accessFlags := 24, nameIndex := 1125, descriptorIndex := 18, attributes := #[] }, { accessFlags := 24, nameIndex := 1127, descriptorIndex := 18, attributes := #[] }])
  fields := #[{ name := "value", type := (.array .byte), accessFlags := 18, slot := 0, constantValue := 0 }, { name := "coder", type := .byte, accessFlags := 18, slot := 1, constantValue := 0 }, { name := "hash", type := .int, accessFlags := 2, slot := 2, constantValue := 0 }, { name := "hashIsZero", type := .boolean, accessFlags := 2, slot := 3, constantValue := 0 }, { name := "serialVersionUID", type := .long, accessFlags := 26, slot := 0, constantValue := 0 }, { name := "COMPACT_STRINGS", type := .boolean, accessFlags := 24, slot := 1, constantValue := 0 }, { name := "serialPersistentFields", type := (.array (.object "java/io/ObjectStreamField")), accessFlags := 26, slot := 2, constantValue := 0 }, { name := "REPL", type := .char, accessFlags := 26, slot := 3, constantValue := 0 }, { name := "CASE_INSENSITIVE_ORDER", type := (.object "java/util/Comparator"), accessFlags := 25, slot := 4, constantValue := 0 }, { name := "LATIN1", type := .byte, accessFlags := 24, slot := 5, constantValue := 0 }, { name := "UTF16", type := .byte, accessFlags := 24, slot := 6, constantValue := 0 }]
  methods := #[k9m0]
  instanceTypes := #[(.array .byte), .byte, .int, .boolean]
  staticTypes := #[.long, .boolean, (.array (.object "java/io/ObjectStreamField")), .char, (.object "java/util/Comparator"), .byte, .byte]
  resolved := Array.replicate 1451 none
  statics := none }

def pool10 : Array CpInfo := pool [(1, u "java/lang/Cloneable"), (0, .class_ 1), (0, u "java/lang/Object"), (0, .class_ 3)] 3

/-- java/lang/Cloneable -/
def k10 : Class := { plain "java/lang/Cloneable" (some 0) with
  accessFlags := 1537
  interfaces := #[]
  cf := some (fileOf pool10 2 #[] #[] 1537 4 #[] #[])
  fields := #[]
  methods := #[]
  instanceTypes := #[]
  staticTypes := #[]
  resolved := Array.replicate 8 none
  statics := none }

/-- the primitive byte -/
def k11 : Class := { plain "byte" none with kind := .primitive 'B', accessFlags := 0x411 }
/-- [B -/
def k12 : Class := { plain "[B" (some 0) with kind := .array 11 .byte, interfaces := #[10, 4], accessFlags := 1041 }

/-- the primitive int -/
def k13 : Class := { plain "int" none with kind := .primitive 'I', accessFlags := 0x411 }
/-- [I -/
def k14 : Class := { plain "[I" (some 0) with kind := .array 13 .int, interfaces := #[10, 4], accessFlags := 1041 }

/-- [Lcom/example/rolecall/rolecall/model/StatementKind; -/
def k15 : Class := { plain "[Lcom/example/rolecall/rolecall/model/StatementKind;" (some 0) with kind := .array 6 (.object "com/example/rolecall/rolecall/model/StatementKind"), interfaces := #[10, 4], accessFlags := 1041 }

/-- [Ljava/lang/String; -/
def k16 : Class := { plain "[Ljava/lang/String;" (some 0) with kind := .array 9 (.object "java/lang/String"), interfaces := #[10, 4], accessFlags := 1041 }

def heap : Heap := #[{ cls := 6, slots := #[.ref 12, .ref 13, .ref 14, .ref 15, .ref 16, .ref 17, .ref 18, .ref 19, .ref 20, .ref 21, .ref 22, .null, .null, .null], vm := .statics 6 },
  { cls := 16, slots := #[.null, .null], vm := .none },
  { cls := 16, slots := #[.null, .null, .null], vm := .none },
  { cls := 16, slots := #[.null, .null], vm := .none },
  { cls := 16, slots := #[.null, .null], vm := .none },
  { cls := 16, slots := #[.null, .null], vm := .none },
  { cls := 16, slots := #[.null, .null], vm := .none },
  { cls := 16, slots := #[.null], vm := .none },
  { cls := 16, slots := #[.null], vm := .none },
  { cls := 16, slots := #[.null], vm := .none },
  { cls := 16, slots := #[.null], vm := .none },
  { cls := 16, slots := #[.null], vm := .none },
  { cls := 6, slots := #[.null, .int 0, .int 0, .null, .null, .ref 1, .int 0], vm := .none },
  { cls := 6, slots := #[.null, .int 1, .int 0, .null, .null, .ref 2, .int 0], vm := .none },
  { cls := 6, slots := #[.null, .int 2, .int 0, .null, .null, .ref 3, .int 0], vm := .none },
  { cls := 6, slots := #[.null, .int 3, .int 0, .null, .null, .ref 4, .int 0], vm := .none },
  { cls := 6, slots := #[.null, .int 4, .int 0, .null, .null, .ref 5, .int 0], vm := .none },
  { cls := 6, slots := #[.null, .int 5, .int 0, .null, .null, .ref 6, .int 0], vm := .none },
  { cls := 6, slots := #[.null, .int 6, .int 0, .null, .null, .ref 7, .int 1], vm := .none },
  { cls := 6, slots := #[.null, .int 7, .int 0, .null, .null, .ref 8, .int 1], vm := .none },
  { cls := 6, slots := #[.null, .int 8, .int 0, .null, .null, .ref 9, .int 0], vm := .none },
  { cls := 6, slots := #[.null, .int 9, .int 0, .null, .null, .ref 10, .int 0], vm := .none },
  { cls := 6, slots := #[.null, .int 10, .int 0, .null, .null, .ref 11, .int 0], vm := .none }]
def classes : Array Class := #[k0, k1, k2, k3, k4, k5, k6, k7, k8, k9, k10, k11, k12, k13, k14, k15, k16]
def interned : List (Array UInt16 × Addr) := []
def slotsUsed : Nat := 109
def theMethod : MethodId := ⟨1, 2⟩
def args0 : Array Value := #[.int 5, .int 2, .int 3]
def aboutOver (below : List Frame) : State where
  vm := { classes := classes, interned := interned.toArray }
  heap := heap
  slotsUsed := slotsUsed
  threads := #[{ frames := .invoking theMethod args0 :: below }]
def below0 : List Frame := [.native { method := ⟨0, 0⟩, args := #[] }]
def about1 : State := aboutOver below0
def p0 : Program := .bare "" "" ""
def e0 : Env := launch0.env 0 0 0
theorem w_frames : about1.frames = Frame.invoking theMethod args0 :: below0 := rfl
set_option maxRecDepth 65536 in
theorem w_args : argsFit about1.vm theMethod args0 = true := by decide +kernel
set_option maxRecDepth 65536 in
theorem w_heap : heapFits about1 = true := by decide +kernel
set_option maxRecDepth 65536 in
theorem w_runnable : about1.curStatus? = some .runnable := by decide +kernel
set_option maxRecDepth 65536 in
theorem w_alone : about1.alone = true := by decide +kernel
set_option maxRecDepth 65536 in
theorem w_named : about1.methodNamed? x = some theMethod := by decide +kernel
set_option maxRecDepth 65536 in
theorem w_hears : about1.hears theMethod below0 = true := by decide +kernel
set_option maxRecDepth 65536 in
theorem w_ripe : about1.ripe theMethod args0 below0 = true := by decide +kernel
theorem w_running : about1.status = .running := rfl
set_option maxRecDepth 65536 in
theorem w_room : about1.hasRoom e0.platform room_1 = true :=
  launch0.hasRoom_least _ room_1 (by decide +kernel) (by decide +kernel) (by decide +kernel) (by decide +kernel) (by decide +kernel) (by decide +kernel)
theorem allAtoms_all (ts : List Jvm.Cond) (a : Array Jvm.Value) (st : Jvm.State) : (allAtoms ts).before a st = ts.all (fun c => c.before a st) := by
  induction ts with
  | nil => rfl
  | cons c t ih =>
    show (Jvm.Cond.and c (allAtoms t)).before a st = _
    rw [Jvm.Cond.before_and, ih, List.all_cons]
def words1 : List Jvm.Cond := Jvm.Cond.code x code maxLocals ret :: tables_1
/-- a 'code' word, met by the world's own term for the bytes: nothing is compared byte by byte -/
theorem code_word {y : MethodName} {bytes : ByteArray} {mx : Nat} {rt : Option FieldType} {a : Array Value} {s : State} {m : MethodId} {meth : Method} {c : Code} (h1 : s.methodNamed? y = some m) (h2 : s.vm.method? m = some meth) (h3 : meth.code = some c) (h4 : c.code = bytes)
    (h5 : (c.maxLocals == mx && c.exceptionTable.isEmpty && decide (c.maxStack ≤ mostOperands) && decide (meth.sig.returnType = rt) && !meth.locks && decide (parseMethodDescriptor y.desc = some meth.sig)) = true) : (Jvm.Cond.code y bytes mx rt).before a s = true := by
  simp only [Bool.and_eq_true, beq_iff_eq, Bool.not_eq_true', decide_eq_true_eq] at h5
  obtain ⟨⟨⟨⟨⟨g1, g2⟩, g3⟩, g4⟩, g5⟩, g6⟩ := h5
  simp [Cond.before, Cond.holds, Cond.value, h1, h2, h3, h4, g1, g2, g3, g4, g5, g6]
def isCode : Jvm.Cond → Bool
  | .code _ _ _ _ => true
  | _ => false
theorem all_split {L : List Jvm.Cond} {P : Jvm.Cond → Bool} (h1 : L.all (fun c => isCode c || P c) = true) (h2 : ∀ c ∈ L.filter isCode, P c = true) : L.all P = true := by
  refine List.all_eq_true.mpr fun c hc => ?_
  have h := List.all_eq_true.mp h1 c hc
  rcases Bool.eq_false_or_eq_true (isCode c) with hi | hi
  · exact h2 c (List.mem_filter.mpr ⟨hc, hi⟩)
  · simpa [hi] using h
set_option maxRecDepth 65536 in
theorem w_c0 : (Jvm.Cond.code x code maxLocals ret).before args0 about1 = true := code_word (m := ⟨1, 2⟩) (meth := k1m2) (c := k1c2) (by decide +kernel) rfl rfl rfl (by decide +kernel)
set_option maxRecDepth 65536 in
theorem w_c1 : (Jvm.Cond.code ({ cls := "com/example/rolecall/rolecall/model/StatementKind", name := "acceptsArgumentCount", desc := "(I)Z" } : Jvm.MethodName) prog_59_method_7_code (3 : Nat) (Option.some Jvm.ClassFile.FieldType.boolean)).before args0 about1 = true := code_word (m := ⟨6, 0⟩) (meth := k6m0) (c := k6c0) (by decide +kernel) rfl rfl rfl (by decide +kernel)
set_option maxRecDepth 65536 in
theorem w_c2 : (Jvm.Cond.code ({ cls := "com/example/rolecall/rolecall/model/StatementKindAcceptsArgumentCountPinLaw", name := "expected", desc := "(II)Z" } : Jvm.MethodName) method_2_code (2 : Nat) (Option.some Jvm.ClassFile.FieldType.boolean)).before args0 about1 = true := code_word (m := ⟨1, 1⟩) (meth := k1m1) (c := k1c1) (by decide +kernel) rfl rfl rfl (by decide +kernel)
def codes1 : List Jvm.Cond := [Jvm.Cond.code x code maxLocals ret, Jvm.Cond.code ({ cls := "com/example/rolecall/rolecall/model/StatementKind", name := "acceptsArgumentCount", desc := "(I)Z" } : Jvm.MethodName) prog_59_method_7_code (3 : Nat) (Option.some Jvm.ClassFile.FieldType.boolean), Jvm.Cond.code ({ cls := "com/example/rolecall/rolecall/model/StatementKindAcceptsArgumentCountPinLaw", name := "expected", desc := "(II)Z" } : Jvm.MethodName) method_2_code (2 : Nat) (Option.some Jvm.ClassFile.FieldType.boolean)]
set_option maxRecDepth 65536 in
theorem codes_eq : words1.filter isCode = codes1 := rfl
theorem w_codes : ∀ c ∈ words1.filter isCode, c.before args0 about1 = true := by
  rw [codes_eq]
  intro c hc
  simp only [codes1, List.mem_cons, List.not_mem_nil, or_false] at hc
  rcases hc with rfl | rfl | rfl
  · exact w_c0
  · exact w_c1
  · exact w_c2
set_option maxRecDepth 65536 in
theorem w_t1 : (words1.take 24).all (fun c => isCode c || c.before args0 about1) = true := by decide +kernel
set_option maxRecDepth 65536 in
theorem w_t2 : (words1.drop 24).all (fun c => isCode c || c.before args0 about1) = true := by decide +kernel
theorem w_tables : (allAtoms (Jvm.Cond.code x code maxLocals ret :: tables_1)).before args0 about1 = true := by
  rw [allAtoms_all]
  show words1.all (fun c => c.before args0 about1) = true
  refine all_split ?_ w_codes
  rw [← List.take_append_drop 24 words1, List.all_append, w_t1, w_t2]
  rfl
set_option maxRecDepth 65536 in
theorem w_case : (Jvm.Cond.and given_1 narrow_1).before args0 about1 = true := by decide +kernel
theorem w_applies : (headSpec (Jvm.Cond.code x code maxLocals ret :: tables_1) room_1).applies x e0.platform about1 = true :=
  (Spec.applies_iff w_frames).mpr ⟨w_running, w_runnable, w_alone, w_named, w_hears, w_ripe, w_room, w_tables⟩
theorem atStart : AtStart classFile x code maxLocals ret World_1 tables_1 room_1 Calls_1 rest_1 Pre_1 launch0 p0 e0 about1 theMethod args0 below0 :=
  ⟨lists_1, trivial, launch0.admits_env _ _ _, launch0.least_env, fairChoices_fair.cas, fairChoices_fair.clock, w_frames, w_args, w_heap, w_applies, trivial, trivial, w_case⟩
end start1
theorem witness_1 : WitnessClaimed_1 := ⟨start1.p0, start1.e0, start1.about1, start1.theMethod, start1.args0, start1.below0, start1.atStart⟩
end Jvm.Pilot.@@N@@
