import JvmDerived
import JvmDerived.Pilot.@@N@@Statement
import JvmDerived.Pilot.@@N@@Code
set_option linter.unusedVariables false
set_option linter.unusedSimpArgs false
namespace Jvm.RoadKit
open Sem ClassFile Op Lib Jvm.Stand Jvm.Free Jvm.LawKit
section New
variable {p : Program} {l : Launch} {e : Env} {R : Room} {s : State} {m : MethodId} {args : Array Value} {below : List Frame} {meth : Method} {c : Code} {T : State} {locs : List Loc} {cells slots : Nat}
theorem retI (X : Stand p l e R s m args below meth c T locs cells slots) (hx : p.tables.exec = Jvm.exec) {pc : Nat} {Ls : Array Slot} {z : Int32} {rest : List Value} (hret : meth.sig.returnType = some .int) (hd : decode c.code pc = .ok (.ireturn, 1)) {fs : List Frame}
    (hl : ∀ (f : JFrame) (acts : List Action), f.method = m → f.locked = none → f.entered = [] → (doReturn e (T.setTop f) acts (some (.int z))).1 = T.setFrames fs) : Steps p.tables e below (T.setTop (mkF m pc Ls (.int z :: rest))) (T.setFrames fs) := by
  have hm' : T.vm.method? m = some meth := X.method'
  have hn : narrow .int (.int z) = .int z := rfl
  show Steps p.tables e below (T.setTop { method := m, pc := pc, locals := Ls, stack := _ :: rest, locked := none }) _
  jvm_step X.here [X.here.top, hx, hd, hm', hret, hn]
  first | (intro acts; rw [hl _ acts rfl rfl rfl]) | rw [hl _ _ rfl rfl rfl]
  exact Steps.refl _
end New
section Own
variable {Z : State} {h0 h h' : Heap} {ws ws' : List (Addr × Nat)} {a : Addr} {sl : Nat} {v : Value} {C n d : String}
/-- own: what a call leaves as it was, by places: every cell is kept in class, kind and size; a place that isn't listed keeps its value -/
def KSx (h h' : Heap) (ws : List (Addr × Nat)) : Prop := h.size ≤ h'.size ∧ ∀ (x : Addr) (c : Cell), h[x]? = some c → ∃ c' : Cell, h'[x]? = some c' ∧ c'.cls = c.cls ∧ c'.vm = c.vm ∧ c'.slots.size = c.slots.size ∧ (∀ j, (∀ p ∈ ws, x ≠ p.1 ∨ j ≠ p.2) → c'.slots[j]? = c.slots[j]?) ∧ ((c.vm.isStatics = true ∨ ∀ p ∈ ws, x ≠ p.1) → c' = c)
theorem ks0 {P : Addr × Nat → Prop} : ∀ p ∈ ([] : List (Addr × Nat)), P p := fun _ q => nomatch q
theorem ksS {P : Addr × Nat → Prop} {y : Addr × Nat} {L : List (Addr × Nat)} (q : P y) (r : ∀ p ∈ L, P p) : ∀ p ∈ y :: L, P p := fun x z => (List.mem_cons.mp z).elim (fun u => u ▸ q) (r x)
theorem KSx.refl (h : Heap) (ws : List (Addr × Nat)) : KSx h h ws := ⟨Nat.le_refl _, fun _ c q => ⟨c, q, rfl, rfl, rfl, fun _ _ => rfl, fun _ => rfl⟩⟩
theorem KSx.ext (K : KSx h0 h ws) (E : Ext h h') : KSx h0 h' ws := ⟨Nat.le_trans K.1 E.1, fun x c q => by obtain ⟨c', q', r⟩ := K.2 x c q; exact ⟨c', E.2 x c' q', r⟩⟩
theorem KSx.trans (K : KSx h0 h ws) (K' : KSx h h' ws') (q : ∀ p ∈ ws', p ∈ ws ∨ h0.size ≤ p.1) : KSx h0 h' ws := by
  refine ⟨Nat.le_trans K.1 K'.1, fun x c hc => ?_⟩
  obtain ⟨c1, a1, a2, a3, a4, a5, a6⟩ := K.2 x c hc
  obtain ⟨c2, b1, b2, b3, b4, b5, b6⟩ := K'.2 x c1 a1
  have hx : x < h0.size := (Array.getElem?_eq_some_iff.mp hc).1
  refine ⟨c2, b1, b2.trans a2, b3.trans a3, b4.trans a4, fun j hj => ?_, fun hs => ?_⟩
  · refine (b5 j fun p hp => ?_).trans (a5 j hj)
    rcases q p hp with w | g
    · exact hj p w
    · exact Or.inl fun e => by subst e; exact absurd hx (Nat.not_lt.mpr g)
  · have e1 : c1 = c := a6 hs
    refine (b6 ?_).trans e1
    rcases hs with w | w
    · exact Or.inl (by rw [e1]; exact w)
    · refine Or.inr fun p hp => ?_
      rcases q p hp with y | g
      · exact w p y
      · exact fun e => by subst e; exact absurd hx (Nat.not_lt.mpr g)
theorem KSx.of_wr (W : Wr h h' a sl v) : KSx h h' [(a, sl)] := by
  refine ⟨Nat.le_of_eq W.size.symm, fun x c hc => ?_⟩
  obtain ⟨c', e1, e2, e3, e4, e5, e6, e7⟩ := wr_at W hc
  refine ⟨c', e1, e2, e3, e4, fun j hj => ?_, fun hs => ?_⟩
  · rcases hj (a, sl) (List.mem_singleton.mpr rfl) with y | y
    · rw [e5 y]
    · exact e6 j y
  · rcases hs with y | y
    · by_cases z : x = a
      · rw [(e7 z).2.2] at y; cases y
      · exact e5 z
    · exact e5 (y (a, sl) (List.mem_singleton.mpr rfl))
theorem KSx.wr (K : KSx h0 h ws) (W : Wr h h' a sl v) (q : (a, sl) ∈ ws ∨ h0.size ≤ a) : KSx h0 h' ws := K.trans (KSx.of_wr W) fun p hp => by cases List.mem_singleton.mp hp; exact q
theorem Fld.ks (F : Fld Z h a C n d v) (K : KSx h h' ws) (q : ∀ p ∈ ws, a ≠ p.1 ∨ slotOf Z C n d ≠ p.2) : Fld Z h' a C n d v := by
  obtain ⟨cell, cf, k, i, f, h1, h2, h3, h4, h5, h6, h7⟩ := F
  obtain ⟨c', e1, e2, e3, -, e5, -⟩ := K.2 _ _ h1
  refine ⟨c', cf, k, i, f, e1, h2, h3, by rw [e3]; exact h4, by rw [e3]; exact h5, by rw [e2]; exact h6, ?_⟩
  refine (e5 _ fun p hp => ?_).trans h7
  simpa [slotOf, h2] using q p hp
theorem Exa.ks (F : Exa Z h a C) (K : KSx h h' ws) : Exa Z h' a C := by
  obtain ⟨cell, k, h1, h2, h3, h4, h5⟩ := F
  obtain ⟨c', e1, e2, e3, e4, -⟩ := K.2 _ _ h1
  exact ⟨c', k, e1, by rw [e2]; exact h2, by rw [e2]; exact h3, by rw [e3]; exact h4, by rw [e4]; exact h5⟩
theorem Sta.ks (F : Sta Z h C n d v) (K : KSx h h' ws) : Sta Z h' C n d v := by
  obtain ⟨cf, i, k, f, st, cell, h1, h2, h3, h4, h5, h6, h7⟩ := F
  obtain ⟨c', e1, -, -, -, -, e6⟩ := K.2 _ _ h5
  exact ⟨cf, i, k, f, st, cell, h1, h2, h3, h4, (e6 (Or.inl h6)) ▸ e1, h6, h7⟩
theorem Arr.ks {c : Cell} {ty : FieldType} (F : Arr Z h a c ty) (K : KSx h h' ws) (q : ∀ p ∈ ws, a ≠ p.1) : Arr Z h' a c ty := by
  obtain ⟨c', e1, -, -, -, -, e6⟩ := K.2 _ _ F.1
  exact ⟨(e6 (Or.inr q)) ▸ e1, F.2⟩
theorem Arv.ks {k : ClassId} {ty : FieldType} {z : Int32} {vs : List Value} {dv : Value} (F : Arv Z h a k ty z vs dv) (K : KSx h h' ws) (q : ∀ p ∈ ws, a ≠ p.1) : Arv Z h' a k ty z vs dv := by obtain ⟨c, A, r⟩ := F; exact ⟨c, A.ks K q, r⟩
theorem own_fi {args : Array Value} {s : State} {t : Term} {k : Int32} (ht : t.eval args s none [] s = some (.ref a)) (hq : (Cond.eq (.field t C n d) (.int k)).value args s none s [] = some true) : Fld s s.heap a C n d (.int k) := by
  have e2 : (Term.int k).eval args s none [] s = some (.int k) := Term.int_eval k
  obtain ⟨x, y, e1, e3, -, k2⟩ := cmp_v (Or.inl hq)
  cases e2.symm.trans e3
  obtain ⟨z, rfl⟩ := k2
  have q : z = k := by simpa [Cond.value, e1, e2] using hq
  subst q
  exact Fld.start (by rw [← fld_at ht]; exact e1)
theorem own_fr {args : Array Value} {s : State} {t u : Term} {b : Addr} (ht : t.eval args s none [] s = some (.ref a)) (hu : u.eval args s none [] s = some (.ref b)) (hq : (Cond.eq (.field t C n d) u).value args s none s [] = some true) : Fld s s.heap a C n d (.ref b) := by
  obtain ⟨x, y, e1, e3, k1, k2⟩ := cmp_v (Or.inl hq)
  cases hu.symm.trans e3
  have hr : x.isRef = true := k2.2
  have q : x = .ref b := gotT (eq_R e1 hu hr rfl) hq
  subst q
  exact Fld.start (by rw [← fld_at ht]; exact e1)
theorem own_len {args : Array Value} {s : State} {t : Term} {k : Int32} {cl : Cell} {ty : FieldType} (ht : t.eval args s none [] s = some (.ref a)) (A : Arr s s.heap a cl ty) (hq : (Cond.eq (.length t) (.int k)).value args s none s [] = some true) : cl.slots.size < 2 ^ 31 ∧ cl.slots.size.toInt32 = k := by
  have e2 : (Term.int k).eval args s none [] s = some (.int k) := Term.int_eval k
  have ha : s.arrayAt? a = some cl := A.fin (Vm.Alike.refl _)
  obtain ⟨x, y, e1, e3, -, k2⟩ := cmp_v (Or.inl hq)
  cases e2.symm.trans e3
  obtain ⟨z, rfl⟩ := k2
  have q : z = k := by simpa [Cond.value, e1, e2] using hq
  subst q
  by_cases hl : cl.slots.size < 2 ^ 31
  · rw [len_f ht ha hl] at e1
    cases e1; exact ⟨hl, rfl⟩
  · simp [Term.eval, ht, ha, hl] at e1
theorem own_el {args : Array Value} {s : State} {t u : Term} {k : Int32} {b : Addr} {cl : Cell} {ty : FieldType} (ht : t.eval args s none [] s = some (.ref a)) (hu : u.eval args s none [] s = some (.ref b)) (A : Arr s s.heap a cl ty) (hq : (Cond.eq (.elem t (.int k)) u).value args s none s [] = some true) : cl.slots[k.toNatClampNeg]? = some (.ref b) := by
  obtain ⟨x, y, e1, e3, k1, k2⟩ := cmp_v (Or.inl hq)
  cases hu.symm.trans e3
  have q : x = .ref b := gotT (eq_R e1 hu k2.2 rfl) hq
  subst q
  exact (elem_in e1 ht (Term.int_eval k) A.1).2
theorem own_sel {s : State} {a0 args : Array Value} {y : MethodName} {k : Nat} (hZ : Z.Warmed39 s.vm) (wi : (Cond.instantiable y.cls k).before a0 Z = true) (wp : (Cond.privateMethod y).before a0 Z = true) (wm : (Cond.instanceMethod y).before a0 Z = true) (hy : y.cls ≠ "java/lang/invoke/MethodHandle" ∧ y.cls ≠ "java/lang/invoke/VarHandle") : (Cond.selects y.cls y y).before args s = true := by
  obtain ⟨c, kc, h1, h2, -, h4, -⟩ := Cond.instantiable_spec (mvT (args := args) hZ wi)
  exact selects_self_of_private h1 h2 (Bool.or_eq_false_iff.mp h4).1 (Cond.privateMethod_at (mvP hZ wp (args := args))) (mvT hZ wm) hy
end Own
end Jvm.RoadKit
namespace Jvm.Pilot.@@N@@
open Jvm Jvm.ClassFile Sem Op Lib Jvm.Free Jvm.Stand Jvm.LawKit Jvm.RoadKit Bundle Jvm.Pilot.@@N@@.Jvm.D
abbrev OMet (l : Launch) (Z : State) (y : MethodName) (bytes : ByteArray) (ml : Nat) (rt : Option FieldType) (ws : List Jvm.Cond) (rm : Room) (h0 : Heap) (as : Array Value) (Q : Option Value → Heap → List Loc → Prop) : Prop :=
  MetFree l y (head1 (Jvm.Cond.code y bytes ml rt :: ws) rm) (fun a U => a = as ∧ Z.Warmed39 U.vm ∧ U.heap = h0) (fun _ _ _ _ _ => True) (fun _ U o U' => ∃ v L, o = .returned v ∧ Q v U'.heap L ∧ FrameEnd U o U' L rm.cells rm.slots)
abbrev OMetS (l : Launch) (Z : State) (y : MethodName) (bytes : ByteArray) (ml : Nat) (rt : Option FieldType) (ws : List Jvm.Cond) (rm : Room) (h0 : Heap) (as : Array Value) (Q : Option Value → Heap → List Loc → Prop) : Prop :=
  MetFree l y (head1 (Jvm.Cond.code y bytes ml rt :: ws) rm) (fun a U => a = as ∧ Z.Warmed39 U.vm ∧ U.heap = h0) (fun _ _ _ _ _ => True) (fun _ U o U' => ∃ v L, o = .returned v ∧ Q v U'.heap L ∧ ReturnedEndW U o U' L rm.cells rm.slots)
def OQp (r : Option Value) (h0 : Heap) (n0 : Nat) (v : Option Value) (h : Heap) (L : List Loc) : Prop := v = r ∧ Fr n0 L ∧ h = h0
def OQl (r : Option Value) (n0 : Nat) (v : Option Value) (h : Heap) (L : List Loc) : Prop := v = r ∧ Fr n0 L
theorem own_rng {k n : Int32} {N : Nat} (h : 0 ≤ k.toInt ∧ k.toInt < N) : ∃ i : Fin N, k = Int32.ofInt i.1 := by
  refine ⟨⟨k.toInt.toNat, by omega⟩, ?_⟩
  show k = Int32.ofInt ((k.toInt.toNat : Nat) : Int)
  rw [Int.toNat_of_nonneg h.1]; exact (Int32.ofInt_toInt k).symm
theorem own_mod (x : Int32) (y : Int32) (hy : 0 < y.toInt) : 0 ≤ ((x &&& (2147483647 : Int32)) % y).toInt ∧ ((x &&& (2147483647 : Int32)) % y).toInt < y.toInt := by
  have h1 := c_mask x 2147483647 31 (by decide) (by decide)
  have h2 := (c_iremV (x &&& (2147483647 : Int32)) y).1 (by rw [h1]; exact Int.emod_nonneg _ (by decide)) hy
  exact ⟨h2.1, h2.2.1⟩
theorem own_b1 (x : Int32) : (x &&& (1 : Int32)) = (0 : Int32) ∨ (x &&& (1 : Int32)) = (1 : Int32) := by
  have h := c_mask x 1 1 (by decide) (by decide)
  have q : (x &&& (1 : Int32)).toInt = 0 ∨ (x &&& (1 : Int32)).toInt = 1 := by rw [h]; omega
  rcases q with q | q <;> simp [← Int32.toInt_inj, q]
theorem d1_0 : decode method_3_code 0 = .ok (.iload_n 0, 1) := by decide +kernel
theorem d1_1 : decode method_3_code 1 = .ok (.ifCond .ne 7, 3) := by decide +kernel
theorem d1_4 : decode method_3_code 4 = .ok (.getstatic 20, 3) := by decide +kernel
theorem d1_7 : decode method_3_code 7 = .ok (.areturn, 1) := by decide +kernel
theorem pn_com_example_resense_resense_engine_MeasureIsCountPinLaw : plainName "com/example/resense/resense/engine/MeasureIsCountPinLaw" = true := by first | (simp [plainName, overriddenIn]; done) | decide +kernel
theorem ef_1_v (m : MethodId) (x0 : Int32) : entryFrame m #[(.int x0)] 1 = mkF m 0 #[.val (.int x0)] [] := by first | (simp [entryFrame, mkF, argsToLocals, Value.category]; done) | rfl
set_option maxRecDepth 65536 in
set_option maxHeartbeats 40000000 in
theorem r1_1 (l : Launch) (Z : State) (a0 : Array Value) (hw : ∀ d ∈ tables_1, d.before a0 Z = true) (p2 : Int32) (w3 : Addr) (h0 : Heap) (n0 : Nat) (Z0 : n0 ≤ h0.size) (H0 : p2 = (0 : Int32)) (H1 : Sta Z h0 "com/example/resense/resense/engine/Measure" "NUM_Q" "Lcom/example/resense/resense/engine/Measure;" (.ref w3)) :
    OMet l Z (⟨"com/example/resense/resense/engine/MeasureIsCountPinLaw", "pick", "(I)Lcom/example/resense/resense/engine/Measure;"⟩ : MethodName) method_3_code 1 (some (.object "com/example/resense/resense/engine/Measure")) [] ({ frames := 0, cells := 0, slots := 0, locals := 0 } : Room) h0 #[(.int p2)] (OQp (some (.ref w3)) h0 n0) := by
  refine MetFree.of_bodySF (plainFor_of_name pn_com_example_resense_resense_engine_MeasureIsCountPinLaw) hisR ?_
  intro p e s m args below meth c s₁ Bd hml0 hP hK
  obtain ⟨rfl, hZ, hh⟩ := hP
  have hx := Bd.exec
  have hby := Bd.bytes
  have hml : c.maxLocals = 1 := hml0
  have hown : s.vm.findClass "com/example/resense/resense/engine/MeasureIsCountPinLaw" = some m.cls := findClass_of_methodNamed Bd.named
  have hnm := (name_of_methodNamed Bd.named Bd.method).1
  have X0 : Stand p l e ({ frames := 0, cells := 0, slots := 0, locals := 0 } : Room) s m #[(.int p2)] below meth c s₁ [] 0 0 := Stand.of_body Bd
  have e0 : s₁.heap = h0 := by rw [← hh, Bd.state]; rfl
  have N0 := Fr.nil n0
  have pre0 : ∀ t, Steps p.tables e below (s₁.setTop (mkF m 0 #[.val (.int p2)] [])) t → Steps p.tables e below (s₁.setTop (entryFrame m #[(.int p2)] 1)) t := fun t k => castTop (ef_1_v m p2) k
  obtain ⟨T4, X4, e4, st4⟩ := getS2 X0 hx hZ hown (host := "") (Or.inl (hw _ (List.mem_of_getElem? (i := 5) rfl))) Via.refl e0 H1 (g := (mkF m 4 #[.val (.int p2)] [])) rfl (hb hby d1_4)
  obtain ⟨fs, hr, hrun, hended, hW, hsame⟩ := X4.leave (v := some (.ref w3)) (fun h => by rw [Bd.returns] at h; cases h)
  refine ⟨_, _, pre0 _ ?_, hrun, hended, _, _, rfl, ?_, ⟨_, rfl⟩, hW, hsame.mono (by decide) (by decide)⟩
  · show Steps p.tables e below (s₁.setTop (mkF m 0 #[.val (.int p2)] [])) _
    refine XS.iloadN X0.here hx rfl (hb hby d1_0) rfl ?_
    show Steps p.tables e below (s₁.setTop (mkF m 1 #[.val (.int p2)] [(.int p2)])) _
    refine XS.ifNo X0.here hx rfl (hb hby d1_1) rfl ((if0 _ _).trans (teq H0).2) ?_
    show Steps p.tables e below (s₁.setTop (mkF m 4 #[.val (.int p2)] [])) _
    refine st4 _ ?_
    show Steps p.tables e below (T4.setTop (mkF m 7 #[.val (.int p2)] [(.ref w3)])) _
    jvm_step X4.here [X4.here.top, hx, (hb hby d1_7), X4.method', Bd.returns, Value.isRef, FieldType.isReference]
    first | (intro acts; rw [hr _ acts rfl rfl rfl]) | rw [hr _ _ rfl rfl rfl]
    exact Steps.refl _
  · show OQp (some (.ref w3)) h0 n0 _ T4.heap _
    rw [e4]
    exact ⟨rfl, N0, rfl⟩
theorem pd_0 : parseMethodDescriptor "(I)Lcom/example/resense/resense/engine/Measure;" = some ⟨[.int], some (.object "com/example/resense/resense/engine/Measure")⟩ := by decide +kernel
theorem d2_0 : decode prog_10_method_5_code 0 = .ok (.aload_n 0, 1) := by decide +kernel
theorem d2_1 : decode prog_10_method_5_code 1 = .ok (.getfield 60, 3) := by decide +kernel
theorem d2_4 : decode prog_10_method_5_code 4 = .ok (.getstatic 68, 3) := by decide +kernel
theorem d2_7 : decode prog_10_method_5_code 7 = .ok (.if_acmp .ne 7, 3) := by decide +kernel
theorem d2_10 : decode prog_10_method_5_code 10 = .ok (.iconst 1, 1) := by decide +kernel
theorem d2_11 : decode prog_10_method_5_code 11 = .ok (.goto 4, 3) := by decide +kernel
theorem d2_15 : decode prog_10_method_5_code 15 = .ok (.ireturn, 1) := by decide +kernel
theorem pn_com_example_resense_resense_engine_Measure : plainName "com/example/resense/resense/engine/Measure" = true := by first | (simp [plainName, overriddenIn]; done) | decide +kernel
theorem ef_2_v (m : MethodId) (x0 : Addr) : entryFrame m #[(.ref x0)] 1 = mkF m 0 #[.val (.ref x0)] [] := by first | (simp [entryFrame, mkF, argsToLocals, Value.category]; done) | rfl
set_option maxRecDepth 65536 in
set_option maxHeartbeats 40000000 in
theorem r2_1 (l : Launch) (Z : State) (a0 : Array Value) (hw : ∀ d ∈ tables_1, d.before a0 Z = true) (a7 : Addr) (w8 : Addr) (w10 : Addr) (h0 : Heap) (n0 : Nat) (Z0 : n0 ≤ h0.size) (H0 : Fld Z h0 a7 "com/example/resense/resense/engine/Measure" "combination" "Lcom/example/resense/resense/engine/Measure$Combination;" (.ref w8)) (H1 : Sta Z h0 "com/example/resense/resense/engine/Measure$Combination" "SUM" "Lcom/example/resense/resense/engine/Measure$Combination;" (.ref w10)) (H2 : w8 = w10) :
    OMet l Z (⟨"com/example/resense/resense/engine/Measure", "isCount", "()Z"⟩ : MethodName) prog_10_method_5_code 1 (some .boolean) [] ({ frames := 0, cells := 0, slots := 0, locals := 0 } : Room) h0 #[(.ref a7)] (OQp (some (.int (1 : Int32))) h0 n0) := by
  refine MetFree.of_bodySF (plainFor_of_name pn_com_example_resense_resense_engine_Measure) hisR ?_
  intro p e s m args below meth c s₁ Bd hml0 hP hK
  obtain ⟨rfl, hZ, hh⟩ := hP
  have hx := Bd.exec
  have hby := Bd.bytes
  have hml : c.maxLocals = 1 := hml0
  have hown : s.vm.findClass "com/example/resense/resense/engine/Measure" = some m.cls := findClass_of_methodNamed Bd.named
  have hnm := (name_of_methodNamed Bd.named Bd.method).1
  have X0 : Stand p l e ({ frames := 0, cells := 0, slots := 0, locals := 0 } : Room) s m #[(.ref a7)] below meth c s₁ [] 0 0 := Stand.of_body Bd
  have e0 : s₁.heap = h0 := by rw [← hh, Bd.state]; rfl
  have N0 := Fr.nil n0
  have pre0 : ∀ t, Steps p.tables e below (s₁.setTop (mkF m 0 #[.val (.ref a7)] [])) t → Steps p.tables e below (s₁.setTop (entryFrame m #[(.ref a7)] 1)) t := fun t k => castTop (ef_2_v m a7) k
  obtain ⟨T9, X9, e9, st9⟩ := getF X0 hx hZ hown (host := "") (Or.inl (hw _ (List.mem_of_getElem? (i := 13) rfl))) Via.refl e0 H0 (g := (mkF m 1 #[.val (.ref a7)] [(.ref a7)])) rfl rfl (hb hby d2_1)
  obtain ⟨T11, X11, e11, st11⟩ := getS2 X9 hx hZ hown (host := "") (Or.inl (hw _ (List.mem_of_getElem? (i := 17) rfl))) Via.refl e9 H1 (g := (mkF m 4 #[.val (.ref a7)] [(.ref w8)])) rfl (hb hby d2_4)
  obtain ⟨fs, hr, hrun, hended, hW, hsame⟩ := X11.leave (v := some (.int (1 : Int32))) (fun h => by rw [Bd.returns] at h; cases h)
  refine ⟨_, _, pre0 _ ?_, hrun, hended, _, _, rfl, ?_, ⟨_, rfl⟩, hW, hsame.mono (by decide) (by decide)⟩
  · show Steps p.tables e below (s₁.setTop (mkF m 0 #[.val (.ref a7)] [])) _
    refine XS.aloadN X0.here hx rfl (hb hby d2_0) rfl rfl ?_
    show Steps p.tables e below (s₁.setTop (mkF m 1 #[.val (.ref a7)] [(.ref a7)])) _
    refine st9 _ ?_
    show Steps p.tables e below (T9.setTop (mkF m 4 #[.val (.ref a7)] [(.ref w8)])) _
    refine st11 _ ?_
    show Steps p.tables e below (T11.setTop (mkF m 7 #[.val (.ref a7)] [(.ref w10), (.ref w8)])) _
    refine Jvm.RoadKit.acmp (g := (mkF m 7 #[.val (.ref a7)] [(.ref w10), (.ref w8)])) X11 hx rfl rfl rfl (pc0 := 7) (pc' := 10) (same := true) rfl (hb hby d2_7) rfl (decide_eq_true (congrArg Value.ref H2)) (by decide) (by decide) ?_
    show Steps p.tables e below (T11.setTop (mkF m 10 #[.val (.ref a7)] [])) _
    refine XS.iconst X11.here hx rfl (hb hby d2_10) ?_
    show Steps p.tables e below (T11.setTop (mkF m 11 #[.val (.ref a7)] [(.int (1 : Int32))])) _
    refine XS.goto X11.here hx rfl (pc0 := 11) (pc' := 15) rfl (hb hby d2_11) (by decide) (by decide) ?_
    show Steps p.tables e below (T11.setTop (mkF m 15 #[.val (.ref a7)] [(.int (1 : Int32))])) _
    exact retN X11 hx (t := .boolean) Bd.returns (by simp) (hb hby d2_15) hr
  · show OQp (some (.int (1 : Int32))) h0 n0 _ T11.heap _
    rw [e11]
    exact ⟨rfl, N0, rfl⟩
theorem pd_1 : parseMethodDescriptor "()Z" = some ⟨[], some .boolean⟩ := by decide +kernel
theorem ef_0_v (m : MethodId) (x0 : Int32) : entryFrame m #[(.int x0)] maxLocals = mkF m 0 #[.val (.int x0), .unset, .unset, .unset] [] := by first | (simp [entryFrame, mkF, argsToLocals, Value.category, maxLocals]; done) | rfl
set_option maxRecDepth 65536 in
set_option maxHeartbeats 40000000 in
theorem r0_1 (l : Launch) (Z : State) (a0 : Array Value) (hw : ∀ d ∈ tables_1, d.before a0 Z = true) (p1 : Int32) (w6 : Addr) (w13 : Addr) (w14 : Addr) (h0 : Heap) (n0 : Nat) (Z0 : n0 ≤ h0.size) (H0 : ((p1 &&& (2147483647 : Int32)) % (11 : Int32)) = (0 : Int32)) (H1 : Sta Z h0 "com/example/resense/resense/engine/Measure" "NUM_Q" "Lcom/example/resense/resense/engine/Measure;" (.ref w6)) (H2 : ¬ ((3 : Int32) < ((p1 &&& (2147483647 : Int32)) % (11 : Int32)))) (H3 : Fld Z h0 w6 "com/example/resense/resense/engine/Measure" "combination" "Lcom/example/resense/resense/engine/Measure$Combination;" (.ref w13)) (H4 : Sta Z h0 "com/example/resense/resense/engine/Measure$Combination" "SUM" "Lcom/example/resense/resense/engine/Measure$Combination;" (.ref w14)) (H5 : w13 = w14) (H6 : Exa Z h0 w6 "com/example/resense/resense/engine/Measure") :
    OMet l Z x code maxLocals ret tables_1 room_1 h0 #[(.int p1)] (OQl (some (.int (1 : Int32))) n0) := by
  refine MetFree.of_bodySF (plainFor_of_name pn_com_example_resense_resense_engine_MeasureIsCountPinLaw) hisR ?_
  intro p e s m args below meth c s₁ Bd hml0 hP hK
  obtain ⟨rfl, hZ, hh⟩ := hP
  have hx := Bd.exec
  have hby := Bd.bytes
  have hml : c.maxLocals = 4 := hml0
  have hown : s.vm.findClass "com/example/resense/resense/engine/MeasureIsCountPinLaw" = some m.cls := findClass_of_methodNamed Bd.named
  have hnm := (name_of_methodNamed Bd.named Bd.method).1
  have X0 : Stand p l e room_1 s m #[(.int p1)] below meth c s₁ [] 0 0 := Stand.of_body Bd
  have e0 : s₁.heap = h0 := by rw [← hh, Bd.state]; rfl
  have N0 := Fr.nil n0
  have pre0 : ∀ t, Steps p.tables e below (s₁.setTop (mkF m 0 #[.val (.int p1), .unset, .unset, .unset] [])) t → Steps p.tables e below (s₁.setTop (entryFrame m #[(.int p1)] maxLocals)) t := fun t k => castTop (ef_0_v m p1) k
  obtain ⟨_, _, ⟨T5, L5, k5, n5⟩, -, X5, ⟨Lc5, hQ5, l5, y5, z5⟩, st5⟩ := Jvm.LawKit.callS X0 hx (y := (⟨"com/example/resense/resense/engine/MeasureIsCountPinLaw", "pick", "(I)Lcom/example/resense/resense/engine/Measure;"⟩ : MethodName)) hown (mvT hZ (hw _ (List.mem_of_getElem? (i := 1) rfl))) (mvT hZ (hw _ (List.mem_of_getElem? (i := 2) rfl))) (mvT hZ (hw _ (List.mem_of_getElem? (i := 3) rfl))) (mvT hZ (hw _ (List.mem_of_getElem? (i := 4) rfl))) (by decide) (backOf (W := 0) (r1_1 l Z a0 hw ((p1 &&& (2147483647 : Int32)) % (11 : Int32)) w6 h0 n0 Z0 H0 H1) hZ (hw _ (List.mem_of_getElem? (i := 4) rfl)) (hw _ (List.mem_of_getElem? (i := 3) rfl)) (by decide) (by decide)) (g := (mkF m 9 #[.val (.int p1), .val (.int ((p1 &&& (2147483647 : Int32)) % (11 : Int32))), .unset, .unset] [(.int ((p1 &&& (2147483647 : Int32)) % (11 : Int32)))])) rfl (by rw [hml]; rfl) (argsL := [(.int ((p1 &&& (2147483647 : Int32)) % (11 : Int32)))]) (rest := []) (lenOf pd_0 rfl) rfl (by show 2 * 0 + _ ≤ _; exact Nat.le_of_eq rfl) (hb hby at_9) (fun _ _ => ⟨rfl, e0, (by decide : 0 + 0 ≤ _), (by decide : 0 + 0 ≤ _)⟩)
  dsimp only [Pt.U, Pt.locs, Pt.cells, Pt.slots] at X5 l5 y5 z5 st5 hQ5
  subst l5 y5 z5
  obtain ⟨rfl, N5q, e5⟩ := hQ5
  have N5 := Fr.app N0 N5q
  obtain ⟨cq12, kq12, q12a, q12b, q12c⟩ := isOf hZ e5 H6
  obtain ⟨_, _, ⟨T12, L12, k12, n12⟩, -, X12, ⟨Lc12, hQ12, l12, y12, z12⟩, st12⟩ := X5.virtualBack hx (y := (⟨"com/example/resense/resense/engine/Measure", "isCount", "()Z"⟩ : MethodName)) (z := (⟨"com/example/resense/resense/engine/Measure", "isCount", "()Z"⟩ : MethodName)) hown (mvT hZ (hw _ (List.mem_of_getElem? (i := 8) rfl))) (mvT hZ (hw _ (List.mem_of_getElem? (i := 9) rfl))) (notFace_of_selects (args := #[]) (mvT hZ (hw _ (List.mem_of_getElem? (i := 11) rfl)))) (mvT hZ (hw _ (List.mem_of_getElem? (i := 11) rfl))) (mvT hZ (hw _ (List.mem_of_getElem? (i := 10) rfl))) (by decide) (backOf (W := 0) (r2_1 l Z a0 hw w6 w13 w14 h0 n0 Z0 H3 H4 H5) hZ (hw _ (List.mem_of_getElem? (i := 12) rfl)) (hw _ (List.mem_of_getElem? (i := 6) rfl)) (by decide) (by decide)) q12a q12c (g := (mkF m 31 #[.val (.int p1), .val (.int ((p1 &&& (2147483647 : Int32)) % (11 : Int32))), .val (.ref w6), .val (.int (1 : Int32))] [(.ref w6)])) rfl (by rw [hml]; rfl) (Steps.refl _) (argsL := []) (rest := []) (lenOf pd_1 rfl) rfl (by show 2 * 0 + _ ≤ _; exact Nat.le_of_eq rfl) (hb hby at_31) (fun _ _ => ⟨rfl, e5, (by decide : 0 + 0 ≤ _), (by decide : 0 + 0 ≤ _)⟩)
  dsimp only [Pt.U, Pt.locs, Pt.cells, Pt.slots] at X12 l12 y12 z12 st12 hQ12
  subst l12 y12 z12
  obtain ⟨rfl, N12q, e12⟩ := hQ12
  have N12 := Fr.app N5 N12q
  obtain ⟨fs, hr, hrun, hended, hW, hsame⟩ := X12.leave (v := some (.int (1 : Int32))) (fun h => by rw [Bd.returns] at h; cases h)
  refine ⟨_, _, pre0 _ ?_, hrun, hended, _, _, rfl, ?_, ⟨_, rfl⟩, hW, hsame.mono (by decide) (by decide)⟩
  · show Steps p.tables e below (s₁.setTop (mkF m 0 #[.val (.int p1), .unset, .unset, .unset] [])) _
    refine XS.iloadN X0.here hx rfl (hb hby at_0) rfl ?_
    show Steps p.tables e below (s₁.setTop (mkF m 1 #[.val (.int p1), .unset, .unset, .unset] [(.int p1)])) _
    refine X0.ldcInt hx hown (mvT hZ (hw _ (List.mem_of_getElem? (i := 0) rfl))) (g := (mkF m 1 #[.val (.int p1), .unset, .unset, .unset] [(.int p1)])) rfl (hb hby at_1) _ ?_
    show Steps p.tables e below (s₁.setTop (mkF m 3 #[.val (.int p1), .unset, .unset, .unset] [(.int (2147483647 : Int32)), (.int p1)])) _
    refine XS.iand X0.here hx rfl (hb hby at_3) rfl ?_
    show Steps p.tables e below (s₁.setTop (mkF m 4 #[.val (.int p1), .unset, .unset, .unset] [(.int (p1 &&& (2147483647 : Int32)))])) _
    refine XS.bipush X0.here hx rfl (hb hby at_4) ?_
    show Steps p.tables e below (s₁.setTop (mkF m 6 #[.val (.int p1), .unset, .unset, .unset] [(.int (11 : Int32)), (.int (p1 &&& (2147483647 : Int32)))])) _
    refine iremM X0 hx rfl (hb hby at_6) rfl (by decide) ?_
    show Steps p.tables e below (s₁.setTop (mkF m 7 #[.val (.int p1), .unset, .unset, .unset] [(.int ((p1 &&& (2147483647 : Int32)) % (11 : Int32)))])) _
    refine XS.istoreN X0.here hx rfl (hb hby at_7) rfl (l' := #[.val (.int p1), .val (.int ((p1 &&& (2147483647 : Int32)) % (11 : Int32))), .unset, .unset]) rfl ?_
    show Steps p.tables e below (s₁.setTop (mkF m 8 #[.val (.int p1), .val (.int ((p1 &&& (2147483647 : Int32)) % (11 : Int32))), .unset, .unset] [])) _
    refine XS.iloadN X0.here hx rfl (hb hby at_8) rfl ?_
    show Steps p.tables e below (s₁.setTop (mkF m 9 #[.val (.int p1), .val (.int ((p1 &&& (2147483647 : Int32)) % (11 : Int32))), .unset, .unset] [(.int ((p1 &&& (2147483647 : Int32)) % (11 : Int32)))])) _
    refine st5 _ ?_
    show Steps p.tables e below (T5.setTop (mkF m 12 #[.val (.int p1), .val (.int ((p1 &&& (2147483647 : Int32)) % (11 : Int32))), .unset, .unset] [(.ref w6)])) _
    refine XS.astoreN X5.here hx rfl (hb hby at_12) rfl rfl (l' := #[.val (.int p1), .val (.int ((p1 &&& (2147483647 : Int32)) % (11 : Int32))), .val (.ref w6), .unset]) rfl ?_
    show Steps p.tables e below (T5.setTop (mkF m 13 #[.val (.int p1), .val (.int ((p1 &&& (2147483647 : Int32)) % (11 : Int32))), .val (.ref w6), .unset] [])) _
    refine XS.iloadN X5.here hx rfl (hb hby at_13) rfl ?_
    show Steps p.tables e below (T5.setTop (mkF m 14 #[.val (.int p1), .val (.int ((p1 &&& (2147483647 : Int32)) % (11 : Int32))), .val (.ref w6), .unset] [(.int ((p1 &&& (2147483647 : Int32)) % (11 : Int32)))])) _
    refine XS.iconst X5.here hx rfl (hb hby at_14) ?_
    show Steps p.tables e below (T5.setTop (mkF m 15 #[.val (.int p1), .val (.int ((p1 &&& (2147483647 : Int32)) % (11 : Int32))), .val (.ref w6), .unset] [(.int (3 : Int32)), (.int ((p1 &&& (2147483647 : Int32)) % (11 : Int32)))])) _
    refine XS.icmpYes X5.here hx rfl (pc0 := 15) (pc' := 24) rfl (hb hby at_15) rfl (flt H2).2.2.2 (by decide) (by decide) ?_
    show Steps p.tables e below (T5.setTop (mkF m 24 #[.val (.int p1), .val (.int ((p1 &&& (2147483647 : Int32)) % (11 : Int32))), .val (.ref w6), .unset] [])) _
    refine XS.iconst X5.here hx rfl (hb hby at_24) ?_
    show Steps p.tables e below (T5.setTop (mkF m 25 #[.val (.int p1), .val (.int ((p1 &&& (2147483647 : Int32)) % (11 : Int32))), .val (.ref w6), .unset] [(.int (1 : Int32))])) _
    refine XS.goto X5.here hx rfl (pc0 := 25) (pc' := 29) rfl (hb hby at_25) (by decide) (by decide) ?_
    show Steps p.tables e below (T5.setTop (mkF m 29 #[.val (.int p1), .val (.int ((p1 &&& (2147483647 : Int32)) % (11 : Int32))), .val (.ref w6), .unset] [(.int (1 : Int32))])) _
    refine XS.istoreN X5.here hx rfl (hb hby at_29) rfl (l' := #[.val (.int p1), .val (.int ((p1 &&& (2147483647 : Int32)) % (11 : Int32))), .val (.ref w6), .val (.int (1 : Int32))]) rfl ?_
    show Steps p.tables e below (T5.setTop (mkF m 30 #[.val (.int p1), .val (.int ((p1 &&& (2147483647 : Int32)) % (11 : Int32))), .val (.ref w6), .val (.int (1 : Int32))] [])) _
    refine XS.aloadN X5.here hx rfl (hb hby at_30) rfl rfl ?_
    show Steps p.tables e below (T5.setTop (mkF m 31 #[.val (.int p1), .val (.int ((p1 &&& (2147483647 : Int32)) % (11 : Int32))), .val (.ref w6), .val (.int (1 : Int32))] [(.ref w6)])) _
    refine st12.trans ?_
    show Steps p.tables e below (T12.setTop (mkF m 34 #[.val (.int p1), .val (.int ((p1 &&& (2147483647 : Int32)) % (11 : Int32))), .val (.ref w6), .val (.int (1 : Int32))] [(.int (1 : Int32))])) _
    refine XS.iloadN X12.here hx rfl (hb hby at_34) rfl ?_
    show Steps p.tables e below (T12.setTop (mkF m 35 #[.val (.int p1), .val (.int ((p1 &&& (2147483647 : Int32)) % (11 : Int32))), .val (.ref w6), .val (.int (1 : Int32))] [(.int (1 : Int32)), (.int (1 : Int32))])) _
    refine XS.icmpNo X12.here hx rfl (hb hby at_35) rfl (teq (rfl : (1 : Int32) = (1 : Int32))).2 ?_
    show Steps p.tables e below (T12.setTop (mkF m 38 #[.val (.int p1), .val (.int ((p1 &&& (2147483647 : Int32)) % (11 : Int32))), .val (.ref w6), .val (.int (1 : Int32))] [])) _
    refine XS.iconst X12.here hx rfl (hb hby at_38) ?_
    show Steps p.tables e below (T12.setTop (mkF m 39 #[.val (.int p1), .val (.int ((p1 &&& (2147483647 : Int32)) % (11 : Int32))), .val (.ref w6), .val (.int (1 : Int32))] [(.int (1 : Int32))])) _
    refine XS.goto X12.here hx rfl (pc0 := 39) (pc' := 43) rfl (hb hby at_39) (by decide) (by decide) ?_
    show Steps p.tables e below (T12.setTop (mkF m 43 #[.val (.int p1), .val (.int ((p1 &&& (2147483647 : Int32)) % (11 : Int32))), .val (.ref w6), .val (.int (1 : Int32))] [(.int (1 : Int32))])) _
    exact retN X12 hx (t := .boolean) Bd.returns (by simp) (hb hby at_43) hr
  · show OQl (some (.int (1 : Int32))) n0 _ T12.heap _
    exact ⟨rfl, N12⟩
theorem d1_8 : decode method_3_code 8 = .ok (.iload_n 0, 1) := by decide +kernel
theorem d1_9 : decode method_3_code 9 = .ok (.iconst 1, 1) := by decide +kernel
theorem d1_10 : decode method_3_code 10 = .ok (.if_icmp .ne 7, 3) := by decide +kernel
theorem d1_13 : decode method_3_code 13 = .ok (.getstatic 24, 3) := by decide +kernel
theorem d1_16 : decode method_3_code 16 = .ok (.areturn, 1) := by decide +kernel
set_option maxRecDepth 65536 in
set_option maxHeartbeats 40000000 in
theorem r1_2 (l : Launch) (Z : State) (a0 : Array Value) (hw : ∀ d ∈ tables_1, d.before a0 Z = true) (p16 : Int32) (w17 : Addr) (h0 : Heap) (n0 : Nat) (Z0 : n0 ≤ h0.size) (H0 : ¬ (p16 = (0 : Int32))) (H1 : p16 = (1 : Int32)) (H2 : Sta Z h0 "com/example/resense/resense/engine/Measure" "NUM_RET" "Lcom/example/resense/resense/engine/Measure;" (.ref w17)) :
    OMet l Z (⟨"com/example/resense/resense/engine/MeasureIsCountPinLaw", "pick", "(I)Lcom/example/resense/resense/engine/Measure;"⟩ : MethodName) method_3_code 1 (some (.object "com/example/resense/resense/engine/Measure")) [] ({ frames := 0, cells := 0, slots := 0, locals := 0 } : Room) h0 #[(.int p16)] (OQp (some (.ref w17)) h0 n0) := by
  refine MetFree.of_bodySF (plainFor_of_name pn_com_example_resense_resense_engine_MeasureIsCountPinLaw) hisR ?_
  intro p e s m args below meth c s₁ Bd hml0 hP hK
  obtain ⟨rfl, hZ, hh⟩ := hP
  have hx := Bd.exec
  have hby := Bd.bytes
  have hml : c.maxLocals = 1 := hml0
  have hown : s.vm.findClass "com/example/resense/resense/engine/MeasureIsCountPinLaw" = some m.cls := findClass_of_methodNamed Bd.named
  have hnm := (name_of_methodNamed Bd.named Bd.method).1
  have X0 : Stand p l e ({ frames := 0, cells := 0, slots := 0, locals := 0 } : Room) s m #[(.int p16)] below meth c s₁ [] 0 0 := Stand.of_body Bd
  have e0 : s₁.heap = h0 := by rw [← hh, Bd.state]; rfl
  have N0 := Fr.nil n0
  have pre0 : ∀ t, Steps p.tables e below (s₁.setTop (mkF m 0 #[.val (.int p16)] [])) t → Steps p.tables e below (s₁.setTop (entryFrame m #[(.int p16)] 1)) t := fun t k => castTop (ef_1_v m p16) k
  obtain ⟨T18, X18, e18, st18⟩ := getS2 X0 hx hZ hown (host := "") (Or.inl (hw _ (List.mem_of_getElem? (i := 29) rfl))) Via.refl e0 H2 (g := (mkF m 13 #[.val (.int p16)] [])) rfl (hb hby d1_13)
  obtain ⟨fs, hr, hrun, hended, hW, hsame⟩ := X18.leave (v := some (.ref w17)) (fun h => by rw [Bd.returns] at h; cases h)
  refine ⟨_, _, pre0 _ ?_, hrun, hended, _, _, rfl, ?_, ⟨_, rfl⟩, hW, hsame.mono (by decide) (by decide)⟩
  · show Steps p.tables e below (s₁.setTop (mkF m 0 #[.val (.int p16)] [])) _
    refine XS.iloadN X0.here hx rfl (hb hby d1_0) rfl ?_
    show Steps p.tables e below (s₁.setTop (mkF m 1 #[.val (.int p16)] [(.int p16)])) _
    refine XS.ifYes X0.here hx rfl (pc0 := 1) (pc' := 8) rfl (hb hby d1_1) rfl ((if0 _ _).trans (feq H0).2) (by decide) (by decide) ?_
    show Steps p.tables e below (s₁.setTop (mkF m 8 #[.val (.int p16)] [])) _
    refine XS.iloadN X0.here hx rfl (hb hby d1_8) rfl ?_
    show Steps p.tables e below (s₁.setTop (mkF m 9 #[.val (.int p16)] [(.int p16)])) _
    refine XS.iconst X0.here hx rfl (hb hby d1_9) ?_
    show Steps p.tables e below (s₁.setTop (mkF m 10 #[.val (.int p16)] [(.int (1 : Int32)), (.int p16)])) _
    refine XS.icmpNo X0.here hx rfl (hb hby d1_10) rfl (teq H1).2 ?_
    show Steps p.tables e below (s₁.setTop (mkF m 13 #[.val (.int p16)] [])) _
    refine st18 _ ?_
    show Steps p.tables e below (T18.setTop (mkF m 16 #[.val (.int p16)] [(.ref w17)])) _
    jvm_step X18.here [X18.here.top, hx, (hb hby d1_16), X18.method', Bd.returns, Value.isRef, FieldType.isReference]
    first | (intro acts; rw [hr _ acts rfl rfl rfl]) | rw [hr _ _ rfl rfl rfl]
    exact Steps.refl _
  · show OQp (some (.ref w17)) h0 n0 _ T18.heap _
    rw [e18]
    exact ⟨rfl, N0, rfl⟩
set_option maxRecDepth 65536 in
set_option maxHeartbeats 40000000 in
theorem r0_2 (l : Launch) (Z : State) (a0 : Array Value) (hw : ∀ d ∈ tables_1, d.before a0 Z = true) (p15 : Int32) (w20 : Addr) (w27 : Addr) (w28 : Addr) (h0 : Heap) (n0 : Nat) (Z0 : n0 ≤ h0.size) (H0 : ¬ (((p15 &&& (2147483647 : Int32)) % (11 : Int32)) = (0 : Int32))) (H1 : ((p15 &&& (2147483647 : Int32)) % (11 : Int32)) = (1 : Int32)) (H2 : Sta Z h0 "com/example/resense/resense/engine/Measure" "NUM_RET" "Lcom/example/resense/resense/engine/Measure;" (.ref w20)) (H3 : ¬ ((3 : Int32) < ((p15 &&& (2147483647 : Int32)) % (11 : Int32)))) (H4 : Fld Z h0 w20 "com/example/resense/resense/engine/Measure" "combination" "Lcom/example/resense/resense/engine/Measure$Combination;" (.ref w27)) (H5 : Sta Z h0 "com/example/resense/resense/engine/Measure$Combination" "SUM" "Lcom/example/resense/resense/engine/Measure$Combination;" (.ref w28)) (H6 : w27 = w28) (H7 : Exa Z h0 w20 "com/example/resense/resense/engine/Measure") :
    OMet l Z x code maxLocals ret tables_1 room_1 h0 #[(.int p15)] (OQl (some (.int (1 : Int32))) n0) := by
  refine MetFree.of_bodySF (plainFor_of_name pn_com_example_resense_resense_engine_MeasureIsCountPinLaw) hisR ?_
  intro p e s m args below meth c s₁ Bd hml0 hP hK
  obtain ⟨rfl, hZ, hh⟩ := hP
  have hx := Bd.exec
  have hby := Bd.bytes
  have hml : c.maxLocals = 4 := hml0
  have hown : s.vm.findClass "com/example/resense/resense/engine/MeasureIsCountPinLaw" = some m.cls := findClass_of_methodNamed Bd.named
  have hnm := (name_of_methodNamed Bd.named Bd.method).1
  have X0 : Stand p l e room_1 s m #[(.int p15)] below meth c s₁ [] 0 0 := Stand.of_body Bd
  have e0 : s₁.heap = h0 := by rw [← hh, Bd.state]; rfl
  have N0 := Fr.nil n0
  have pre0 : ∀ t, Steps p.tables e below (s₁.setTop (mkF m 0 #[.val (.int p15), .unset, .unset, .unset] [])) t → Steps p.tables e below (s₁.setTop (entryFrame m #[(.int p15)] maxLocals)) t := fun t k => castTop (ef_0_v m p15) k
  obtain ⟨_, _, ⟨T19, L19, k19, n19⟩, -, X19, ⟨Lc19, hQ19, l19, y19, z19⟩, st19⟩ := Jvm.LawKit.callS X0 hx (y := (⟨"com/example/resense/resense/engine/MeasureIsCountPinLaw", "pick", "(I)Lcom/example/resense/resense/engine/Measure;"⟩ : MethodName)) hown (mvT hZ (hw _ (List.mem_of_getElem? (i := 1) rfl))) (mvT hZ (hw _ (List.mem_of_getElem? (i := 2) rfl))) (mvT hZ (hw _ (List.mem_of_getElem? (i := 3) rfl))) (mvT hZ (hw _ (List.mem_of_getElem? (i := 4) rfl))) (by decide) (backOf (W := 0) (r1_2 l Z a0 hw ((p15 &&& (2147483647 : Int32)) % (11 : Int32)) w20 h0 n0 Z0 H0 H1 H2) hZ (hw _ (List.mem_of_getElem? (i := 4) rfl)) (hw _ (List.mem_of_getElem? (i := 3) rfl)) (by decide) (by decide)) (g := (mkF m 9 #[.val (.int p15), .val (.int ((p15 &&& (2147483647 : Int32)) % (11 : Int32))), .unset, .unset] [(.int ((p15 &&& (2147483647 : Int32)) % (11 : Int32)))])) rfl (by rw [hml]; rfl) (argsL := [(.int ((p15 &&& (2147483647 : Int32)) % (11 : Int32)))]) (rest := []) (lenOf pd_0 rfl) rfl (by show 2 * 0 + _ ≤ _; exact Nat.le_of_eq rfl) (hb hby at_9) (fun _ _ => ⟨rfl, e0, (by decide : 0 + 0 ≤ _), (by decide : 0 + 0 ≤ _)⟩)
  dsimp only [Pt.U, Pt.locs, Pt.cells, Pt.slots] at X19 l19 y19 z19 st19 hQ19
  subst l19 y19 z19
  obtain ⟨rfl, N19q, e19⟩ := hQ19
  have N19 := Fr.app N0 N19q
  obtain ⟨cq26, kq26, q26a, q26b, q26c⟩ := isOf hZ e19 H7
  obtain ⟨_, _, ⟨T26, L26, k26, n26⟩, -, X26, ⟨Lc26, hQ26, l26, y26, z26⟩, st26⟩ := X19.virtualBack hx (y := (⟨"com/example/resense/resense/engine/Measure", "isCount", "()Z"⟩ : MethodName)) (z := (⟨"com/example/resense/resense/engine/Measure", "isCount", "()Z"⟩ : MethodName)) hown (mvT hZ (hw _ (List.mem_of_getElem? (i := 8) rfl))) (mvT hZ (hw _ (List.mem_of_getElem? (i := 9) rfl))) (notFace_of_selects (args := #[]) (mvT hZ (hw _ (List.mem_of_getElem? (i := 11) rfl)))) (mvT hZ (hw _ (List.mem_of_getElem? (i := 11) rfl))) (mvT hZ (hw _ (List.mem_of_getElem? (i := 10) rfl))) (by decide) (backOf (W := 0) (r2_1 l Z a0 hw w20 w27 w28 h0 n0 Z0 H4 H5 H6) hZ (hw _ (List.mem_of_getElem? (i := 12) rfl)) (hw _ (List.mem_of_getElem? (i := 6) rfl)) (by decide) (by decide)) q26a q26c (g := (mkF m 31 #[.val (.int p15), .val (.int ((p15 &&& (2147483647 : Int32)) % (11 : Int32))), .val (.ref w20), .val (.int (1 : Int32))] [(.ref w20)])) rfl (by rw [hml]; rfl) (Steps.refl _) (argsL := []) (rest := []) (lenOf pd_1 rfl) rfl (by show 2 * 0 + _ ≤ _; exact Nat.le_of_eq rfl) (hb hby at_31) (fun _ _ => ⟨rfl, e19, (by decide : 0 + 0 ≤ _), (by decide : 0 + 0 ≤ _)⟩)
  dsimp only [Pt.U, Pt.locs, Pt.cells, Pt.slots] at X26 l26 y26 z26 st26 hQ26
  subst l26 y26 z26
  obtain ⟨rfl, N26q, e26⟩ := hQ26
  have N26 := Fr.app N19 N26q
  obtain ⟨fs, hr, hrun, hended, hW, hsame⟩ := X26.leave (v := some (.int (1 : Int32))) (fun h => by rw [Bd.returns] at h; cases h)
  refine ⟨_, _, pre0 _ ?_, hrun, hended, _, _, rfl, ?_, ⟨_, rfl⟩, hW, hsame.mono (by decide) (by decide)⟩
  · show Steps p.tables e below (s₁.setTop (mkF m 0 #[.val (.int p15), .unset, .unset, .unset] [])) _
    refine XS.iloadN X0.here hx rfl (hb hby at_0) rfl ?_
    show Steps p.tables e below (s₁.setTop (mkF m 1 #[.val (.int p15), .unset, .unset, .unset] [(.int p15)])) _
    refine X0.ldcInt hx hown (mvT hZ (hw _ (List.mem_of_getElem? (i := 0) rfl))) (g := (mkF m 1 #[.val (.int p15), .unset, .unset, .unset] [(.int p15)])) rfl (hb hby at_1) _ ?_
    show Steps p.tables e below (s₁.setTop (mkF m 3 #[.val (.int p15), .unset, .unset, .unset] [(.int (2147483647 : Int32)), (.int p15)])) _
    refine XS.iand X0.here hx rfl (hb hby at_3) rfl ?_
    show Steps p.tables e below (s₁.setTop (mkF m 4 #[.val (.int p15), .unset, .unset, .unset] [(.int (p15 &&& (2147483647 : Int32)))])) _
    refine XS.bipush X0.here hx rfl (hb hby at_4) ?_
    show Steps p.tables e below (s₁.setTop (mkF m 6 #[.val (.int p15), .unset, .unset, .unset] [(.int (11 : Int32)), (.int (p15 &&& (2147483647 : Int32)))])) _
    refine iremM X0 hx rfl (hb hby at_6) rfl (by decide) ?_
    show Steps p.tables e below (s₁.setTop (mkF m 7 #[.val (.int p15), .unset, .unset, .unset] [(.int ((p15 &&& (2147483647 : Int32)) % (11 : Int32)))])) _
    refine XS.istoreN X0.here hx rfl (hb hby at_7) rfl (l' := #[.val (.int p15), .val (.int ((p15 &&& (2147483647 : Int32)) % (11 : Int32))), .unset, .unset]) rfl ?_
    show Steps p.tables e below (s₁.setTop (mkF m 8 #[.val (.int p15), .val (.int ((p15 &&& (2147483647 : Int32)) % (11 : Int32))), .unset, .unset] [])) _
    refine XS.iloadN X0.here hx rfl (hb hby at_8) rfl ?_
    show Steps p.tables e below (s₁.setTop (mkF m 9 #[.val (.int p15), .val (.int ((p15 &&& (2147483647 : Int32)) % (11 : Int32))), .unset, .unset] [(.int ((p15 &&& (2147483647 : Int32)) % (11 : Int32)))])) _
    refine st19 _ ?_
    show Steps p.tables e below (T19.setTop (mkF m 12 #[.val (.int p15), .val (.int ((p15 &&& (2147483647 : Int32)) % (11 : Int32))), .unset, .unset] [(.ref w20)])) _
    refine XS.astoreN X19.here hx rfl (hb hby at_12) rfl rfl (l' := #[.val (.int p15), .val (.int ((p15 &&& (2147483647 : Int32)) % (11 : Int32))), .val (.ref w20), .unset]) rfl ?_
    show Steps p.tables e below (T19.setTop (mkF m 13 #[.val (.int p15), .val (.int ((p15 &&& (2147483647 : Int32)) % (11 : Int32))), .val (.ref w20), .unset] [])) _
    refine XS.iloadN X19.here hx rfl (hb hby at_13) rfl ?_
    show Steps p.tables e below (T19.setTop (mkF m 14 #[.val (.int p15), .val (.int ((p15 &&& (2147483647 : Int32)) % (11 : Int32))), .val (.ref w20), .unset] [(.int ((p15 &&& (2147483647 : Int32)) % (11 : Int32)))])) _
    refine XS.iconst X19.here hx rfl (hb hby at_14) ?_
    show Steps p.tables e below (T19.setTop (mkF m 15 #[.val (.int p15), .val (.int ((p15 &&& (2147483647 : Int32)) % (11 : Int32))), .val (.ref w20), .unset] [(.int (3 : Int32)), (.int ((p15 &&& (2147483647 : Int32)) % (11 : Int32)))])) _
    refine XS.icmpYes X19.here hx rfl (pc0 := 15) (pc' := 24) rfl (hb hby at_15) rfl (flt H3).2.2.2 (by decide) (by decide) ?_
    show Steps p.tables e below (T19.setTop (mkF m 24 #[.val (.int p15), .val (.int ((p15 &&& (2147483647 : Int32)) % (11 : Int32))), .val (.ref w20), .unset] [])) _
    refine XS.iconst X19.here hx rfl (hb hby at_24) ?_
    show Steps p.tables e below (T19.setTop (mkF m 25 #[.val (.int p15), .val (.int ((p15 &&& (2147483647 : Int32)) % (11 : Int32))), .val (.ref w20), .unset] [(.int (1 : Int32))])) _
    refine XS.goto X19.here hx rfl (pc0 := 25) (pc' := 29) rfl (hb hby at_25) (by decide) (by decide) ?_
    show Steps p.tables e below (T19.setTop (mkF m 29 #[.val (.int p15), .val (.int ((p15 &&& (2147483647 : Int32)) % (11 : Int32))), .val (.ref w20), .unset] [(.int (1 : Int32))])) _
    refine XS.istoreN X19.here hx rfl (hb hby at_29) rfl (l' := #[.val (.int p15), .val (.int ((p15 &&& (2147483647 : Int32)) % (11 : Int32))), .val (.ref w20), .val (.int (1 : Int32))]) rfl ?_
    show Steps p.tables e below (T19.setTop (mkF m 30 #[.val (.int p15), .val (.int ((p15 &&& (2147483647 : Int32)) % (11 : Int32))), .val (.ref w20), .val (.int (1 : Int32))] [])) _
    refine XS.aloadN X19.here hx rfl (hb hby at_30) rfl rfl ?_
    show Steps p.tables e below (T19.setTop (mkF m 31 #[.val (.int p15), .val (.int ((p15 &&& (2147483647 : Int32)) % (11 : Int32))), .val (.ref w20), .val (.int (1 : Int32))] [(.ref w20)])) _
    refine st26.trans ?_
    show Steps p.tables e below (T26.setTop (mkF m 34 #[.val (.int p15), .val (.int ((p15 &&& (2147483647 : Int32)) % (11 : Int32))), .val (.ref w20), .val (.int (1 : Int32))] [(.int (1 : Int32))])) _
    refine XS.iloadN X26.here hx rfl (hb hby at_34) rfl ?_
    show Steps p.tables e below (T26.setTop (mkF m 35 #[.val (.int p15), .val (.int ((p15 &&& (2147483647 : Int32)) % (11 : Int32))), .val (.ref w20), .val (.int (1 : Int32))] [(.int (1 : Int32)), (.int (1 : Int32))])) _
    refine XS.icmpNo X26.here hx rfl (hb hby at_35) rfl (teq (rfl : (1 : Int32) = (1 : Int32))).2 ?_
    show Steps p.tables e below (T26.setTop (mkF m 38 #[.val (.int p15), .val (.int ((p15 &&& (2147483647 : Int32)) % (11 : Int32))), .val (.ref w20), .val (.int (1 : Int32))] [])) _
    refine XS.iconst X26.here hx rfl (hb hby at_38) ?_
    show Steps p.tables e below (T26.setTop (mkF m 39 #[.val (.int p15), .val (.int ((p15 &&& (2147483647 : Int32)) % (11 : Int32))), .val (.ref w20), .val (.int (1 : Int32))] [(.int (1 : Int32))])) _
    refine XS.goto X26.here hx rfl (pc0 := 39) (pc' := 43) rfl (hb hby at_39) (by decide) (by decide) ?_
    show Steps p.tables e below (T26.setTop (mkF m 43 #[.val (.int p15), .val (.int ((p15 &&& (2147483647 : Int32)) % (11 : Int32))), .val (.ref w20), .val (.int (1 : Int32))] [(.int (1 : Int32))])) _
    exact retN X26 hx (t := .boolean) Bd.returns (by simp) (hb hby at_43) hr
  · show OQl (some (.int (1 : Int32))) n0 _ T26.heap _
    exact ⟨rfl, N26⟩
theorem d1_17 : decode method_3_code 17 = .ok (.iload_n 0, 1) := by decide +kernel
theorem d1_18 : decode method_3_code 18 = .ok (.iconst 2, 1) := by decide +kernel
theorem d1_19 : decode method_3_code 19 = .ok (.if_icmp .ne 7, 3) := by decide +kernel
theorem d1_22 : decode method_3_code 22 = .ok (.getstatic 27, 3) := by decide +kernel
theorem d1_25 : decode method_3_code 25 = .ok (.areturn, 1) := by decide +kernel
set_option maxRecDepth 65536 in
set_option maxHeartbeats 40000000 in
theorem r1_3 (l : Launch) (Z : State) (a0 : Array Value) (hw : ∀ d ∈ tables_1, d.before a0 Z = true) (p30 : Int32) (w31 : Addr) (h0 : Heap) (n0 : Nat) (Z0 : n0 ≤ h0.size) (H0 : ¬ (p30 = (0 : Int32))) (H1 : ¬ (p30 = (1 : Int32))) (H2 : p30 = (2 : Int32)) (H3 : Sta Z h0 "com/example/resense/resense/engine/Measure" "NUM_REL" "Lcom/example/resense/resense/engine/Measure;" (.ref w31)) :
    OMet l Z (⟨"com/example/resense/resense/engine/MeasureIsCountPinLaw", "pick", "(I)Lcom/example/resense/resense/engine/Measure;"⟩ : MethodName) method_3_code 1 (some (.object "com/example/resense/resense/engine/Measure")) [] ({ frames := 0, cells := 0, slots := 0, locals := 0 } : Room) h0 #[(.int p30)] (OQp (some (.ref w31)) h0 n0) := by
  refine MetFree.of_bodySF (plainFor_of_name pn_com_example_resense_resense_engine_MeasureIsCountPinLaw) hisR ?_
  intro p e s m args below meth c s₁ Bd hml0 hP hK
  obtain ⟨rfl, hZ, hh⟩ := hP
  have hx := Bd.exec
  have hby := Bd.bytes
  have hml : c.maxLocals = 1 := hml0
  have hown : s.vm.findClass "com/example/resense/resense/engine/MeasureIsCountPinLaw" = some m.cls := findClass_of_methodNamed Bd.named
  have hnm := (name_of_methodNamed Bd.named Bd.method).1
  have X0 : Stand p l e ({ frames := 0, cells := 0, slots := 0, locals := 0 } : Room) s m #[(.int p30)] below meth c s₁ [] 0 0 := Stand.of_body Bd
  have e0 : s₁.heap = h0 := by rw [← hh, Bd.state]; rfl
  have N0 := Fr.nil n0
  have pre0 : ∀ t, Steps p.tables e below (s₁.setTop (mkF m 0 #[.val (.int p30)] [])) t → Steps p.tables e below (s₁.setTop (entryFrame m #[(.int p30)] 1)) t := fun t k => castTop (ef_1_v m p30) k
  obtain ⟨T32, X32, e32, st32⟩ := getS2 X0 hx hZ hown (host := "") (Or.inl (hw _ (List.mem_of_getElem? (i := 25) rfl))) Via.refl e0 H3 (g := (mkF m 22 #[.val (.int p30)] [])) rfl (hb hby d1_22)
  obtain ⟨fs, hr, hrun, hended, hW, hsame⟩ := X32.leave (v := some (.ref w31)) (fun h => by rw [Bd.returns] at h; cases h)
  refine ⟨_, _, pre0 _ ?_, hrun, hended, _, _, rfl, ?_, ⟨_, rfl⟩, hW, hsame.mono (by decide) (by decide)⟩
  · show Steps p.tables e below (s₁.setTop (mkF m 0 #[.val (.int p30)] [])) _
    refine XS.iloadN X0.here hx rfl (hb hby d1_0) rfl ?_
    show Steps p.tables e below (s₁.setTop (mkF m 1 #[.val (.int p30)] [(.int p30)])) _
    refine XS.ifYes X0.here hx rfl (pc0 := 1) (pc' := 8) rfl (hb hby d1_1) rfl ((if0 _ _).trans (feq H0).2) (by decide) (by decide) ?_
    show Steps p.tables e below (s₁.setTop (mkF m 8 #[.val (.int p30)] [])) _
    refine XS.iloadN X0.here hx rfl (hb hby d1_8) rfl ?_
    show Steps p.tables e below (s₁.setTop (mkF m 9 #[.val (.int p30)] [(.int p30)])) _
    refine XS.iconst X0.here hx rfl (hb hby d1_9) ?_
    show Steps p.tables e below (s₁.setTop (mkF m 10 #[.val (.int p30)] [(.int (1 : Int32)), (.int p30)])) _
    refine XS.icmpYes X0.here hx rfl (pc0 := 10) (pc' := 17) rfl (hb hby d1_10) rfl (feq H1).2 (by decide) (by decide) ?_
    show Steps p.tables e below (s₁.setTop (mkF m 17 #[.val (.int p30)] [])) _
    refine XS.iloadN X0.here hx rfl (hb hby d1_17) rfl ?_
    show Steps p.tables e below (s₁.setTop (mkF m 18 #[.val (.int p30)] [(.int p30)])) _
    refine XS.iconst X0.here hx rfl (hb hby d1_18) ?_
    show Steps p.tables e below (s₁.setTop (mkF m 19 #[.val (.int p30)] [(.int (2 : Int32)), (.int p30)])) _
    refine XS.icmpNo X0.here hx rfl (hb hby d1_19) rfl (teq H2).2 ?_
    show Steps p.tables e below (s₁.setTop (mkF m 22 #[.val (.int p30)] [])) _
    refine st32 _ ?_
    show Steps p.tables e below (T32.setTop (mkF m 25 #[.val (.int p30)] [(.ref w31)])) _
    jvm_step X32.here [X32.here.top, hx, (hb hby d1_25), X32.method', Bd.returns, Value.isRef, FieldType.isReference]
    first | (intro acts; rw [hr _ acts rfl rfl rfl]) | rw [hr _ _ rfl rfl rfl]
    exact Steps.refl _
  · show OQp (some (.ref w31)) h0 n0 _ T32.heap _
    rw [e32]
    exact ⟨rfl, N0, rfl⟩
set_option maxRecDepth 65536 in
set_option maxHeartbeats 40000000 in
theorem r0_3 (l : Launch) (Z : State) (a0 : Array Value) (hw : ∀ d ∈ tables_1, d.before a0 Z = true) (p29 : Int32) (w34 : Addr) (w41 : Addr) (w42 : Addr) (h0 : Heap) (n0 : Nat) (Z0 : n0 ≤ h0.size) (H0 : ¬ (((p29 &&& (2147483647 : Int32)) % (11 : Int32)) = (0 : Int32))) (H1 : ¬ (((p29 &&& (2147483647 : Int32)) % (11 : Int32)) = (1 : Int32))) (H2 : ((p29 &&& (2147483647 : Int32)) % (11 : Int32)) = (2 : Int32)) (H3 : Sta Z h0 "com/example/resense/resense/engine/Measure" "NUM_REL" "Lcom/example/resense/resense/engine/Measure;" (.ref w34)) (H4 : ¬ ((3 : Int32) < ((p29 &&& (2147483647 : Int32)) % (11 : Int32)))) (H5 : Fld Z h0 w34 "com/example/resense/resense/engine/Measure" "combination" "Lcom/example/resense/resense/engine/Measure$Combination;" (.ref w41)) (H6 : Sta Z h0 "com/example/resense/resense/engine/Measure$Combination" "SUM" "Lcom/example/resense/resense/engine/Measure$Combination;" (.ref w42)) (H7 : w41 = w42) (H8 : Exa Z h0 w34 "com/example/resense/resense/engine/Measure") :
    OMet l Z x code maxLocals ret tables_1 room_1 h0 #[(.int p29)] (OQl (some (.int (1 : Int32))) n0) := by
  refine MetFree.of_bodySF (plainFor_of_name pn_com_example_resense_resense_engine_MeasureIsCountPinLaw) hisR ?_
  intro p e s m args below meth c s₁ Bd hml0 hP hK
  obtain ⟨rfl, hZ, hh⟩ := hP
  have hx := Bd.exec
  have hby := Bd.bytes
  have hml : c.maxLocals = 4 := hml0
  have hown : s.vm.findClass "com/example/resense/resense/engine/MeasureIsCountPinLaw" = some m.cls := findClass_of_methodNamed Bd.named
  have hnm := (name_of_methodNamed Bd.named Bd.method).1
  have X0 : Stand p l e room_1 s m #[(.int p29)] below meth c s₁ [] 0 0 := Stand.of_body Bd
  have e0 : s₁.heap = h0 := by rw [← hh, Bd.state]; rfl
  have N0 := Fr.nil n0
  have pre0 : ∀ t, Steps p.tables e below (s₁.setTop (mkF m 0 #[.val (.int p29), .unset, .unset, .unset] [])) t → Steps p.tables e below (s₁.setTop (entryFrame m #[(.int p29)] maxLocals)) t := fun t k => castTop (ef_0_v m p29) k
  obtain ⟨_, _, ⟨T33, L33, k33, n33⟩, -, X33, ⟨Lc33, hQ33, l33, y33, z33⟩, st33⟩ := Jvm.LawKit.callS X0 hx (y := (⟨"com/example/resense/resense/engine/MeasureIsCountPinLaw", "pick", "(I)Lcom/example/resense/resense/engine/Measure;"⟩ : MethodName)) hown (mvT hZ (hw _ (List.mem_of_getElem? (i := 1) rfl))) (mvT hZ (hw _ (List.mem_of_getElem? (i := 2) rfl))) (mvT hZ (hw _ (List.mem_of_getElem? (i := 3) rfl))) (mvT hZ (hw _ (List.mem_of_getElem? (i := 4) rfl))) (by decide) (backOf (W := 0) (r1_3 l Z a0 hw ((p29 &&& (2147483647 : Int32)) % (11 : Int32)) w34 h0 n0 Z0 H0 H1 H2 H3) hZ (hw _ (List.mem_of_getElem? (i := 4) rfl)) (hw _ (List.mem_of_getElem? (i := 3) rfl)) (by decide) (by decide)) (g := (mkF m 9 #[.val (.int p29), .val (.int ((p29 &&& (2147483647 : Int32)) % (11 : Int32))), .unset, .unset] [(.int ((p29 &&& (2147483647 : Int32)) % (11 : Int32)))])) rfl (by rw [hml]; rfl) (argsL := [(.int ((p29 &&& (2147483647 : Int32)) % (11 : Int32)))]) (rest := []) (lenOf pd_0 rfl) rfl (by show 2 * 0 + _ ≤ _; exact Nat.le_of_eq rfl) (hb hby at_9) (fun _ _ => ⟨rfl, e0, (by decide : 0 + 0 ≤ _), (by decide : 0 + 0 ≤ _)⟩)
  dsimp only [Pt.U, Pt.locs, Pt.cells, Pt.slots] at X33 l33 y33 z33 st33 hQ33
  subst l33 y33 z33
  obtain ⟨rfl, N33q, e33⟩ := hQ33
  have N33 := Fr.app N0 N33q
  obtain ⟨cq40, kq40, q40a, q40b, q40c⟩ := isOf hZ e33 H8
  obtain ⟨_, _, ⟨T40, L40, k40, n40⟩, -, X40, ⟨Lc40, hQ40, l40, y40, z40⟩, st40⟩ := X33.virtualBack hx (y := (⟨"com/example/resense/resense/engine/Measure", "isCount", "()Z"⟩ : MethodName)) (z := (⟨"com/example/resense/resense/engine/Measure", "isCount", "()Z"⟩ : MethodName)) hown (mvT hZ (hw _ (List.mem_of_getElem? (i := 8) rfl))) (mvT hZ (hw _ (List.mem_of_getElem? (i := 9) rfl))) (notFace_of_selects (args := #[]) (mvT hZ (hw _ (List.mem_of_getElem? (i := 11) rfl)))) (mvT hZ (hw _ (List.mem_of_getElem? (i := 11) rfl))) (mvT hZ (hw _ (List.mem_of_getElem? (i := 10) rfl))) (by decide) (backOf (W := 0) (r2_1 l Z a0 hw w34 w41 w42 h0 n0 Z0 H5 H6 H7) hZ (hw _ (List.mem_of_getElem? (i := 12) rfl)) (hw _ (List.mem_of_getElem? (i := 6) rfl)) (by decide) (by decide)) q40a q40c (g := (mkF m 31 #[.val (.int p29), .val (.int ((p29 &&& (2147483647 : Int32)) % (11 : Int32))), .val (.ref w34), .val (.int (1 : Int32))] [(.ref w34)])) rfl (by rw [hml]; rfl) (Steps.refl _) (argsL := []) (rest := []) (lenOf pd_1 rfl) rfl (by show 2 * 0 + _ ≤ _; exact Nat.le_of_eq rfl) (hb hby at_31) (fun _ _ => ⟨rfl, e33, (by decide : 0 + 0 ≤ _), (by decide : 0 + 0 ≤ _)⟩)
  dsimp only [Pt.U, Pt.locs, Pt.cells, Pt.slots] at X40 l40 y40 z40 st40 hQ40
  subst l40 y40 z40
  obtain ⟨rfl, N40q, e40⟩ := hQ40
  have N40 := Fr.app N33 N40q
  obtain ⟨fs, hr, hrun, hended, hW, hsame⟩ := X40.leave (v := some (.int (1 : Int32))) (fun h => by rw [Bd.returns] at h; cases h)
  refine ⟨_, _, pre0 _ ?_, hrun, hended, _, _, rfl, ?_, ⟨_, rfl⟩, hW, hsame.mono (by decide) (by decide)⟩
  · show Steps p.tables e below (s₁.setTop (mkF m 0 #[.val (.int p29), .unset, .unset, .unset] [])) _
    refine XS.iloadN X0.here hx rfl (hb hby at_0) rfl ?_
    show Steps p.tables e below (s₁.setTop (mkF m 1 #[.val (.int p29), .unset, .unset, .unset] [(.int p29)])) _
    refine X0.ldcInt hx hown (mvT hZ (hw _ (List.mem_of_getElem? (i := 0) rfl))) (g := (mkF m 1 #[.val (.int p29), .unset, .unset, .unset] [(.int p29)])) rfl (hb hby at_1) _ ?_
    show Steps p.tables e below (s₁.setTop (mkF m 3 #[.val (.int p29), .unset, .unset, .unset] [(.int (2147483647 : Int32)), (.int p29)])) _
    refine XS.iand X0.here hx rfl (hb hby at_3) rfl ?_
    show Steps p.tables e below (s₁.setTop (mkF m 4 #[.val (.int p29), .unset, .unset, .unset] [(.int (p29 &&& (2147483647 : Int32)))])) _
    refine XS.bipush X0.here hx rfl (hb hby at_4) ?_
    show Steps p.tables e below (s₁.setTop (mkF m 6 #[.val (.int p29), .unset, .unset, .unset] [(.int (11 : Int32)), (.int (p29 &&& (2147483647 : Int32)))])) _
    refine iremM X0 hx rfl (hb hby at_6) rfl (by decide) ?_
    show Steps p.tables e below (s₁.setTop (mkF m 7 #[.val (.int p29), .unset, .unset, .unset] [(.int ((p29 &&& (2147483647 : Int32)) % (11 : Int32)))])) _
    refine XS.istoreN X0.here hx rfl (hb hby at_7) rfl (l' := #[.val (.int p29), .val (.int ((p29 &&& (2147483647 : Int32)) % (11 : Int32))), .unset, .unset]) rfl ?_
    show Steps p.tables e below (s₁.setTop (mkF m 8 #[.val (.int p29), .val (.int ((p29 &&& (2147483647 : Int32)) % (11 : Int32))), .unset, .unset] [])) _
    refine XS.iloadN X0.here hx rfl (hb hby at_8) rfl ?_
    show Steps p.tables e below (s₁.setTop (mkF m 9 #[.val (.int p29), .val (.int ((p29 &&& (2147483647 : Int32)) % (11 : Int32))), .unset, .unset] [(.int ((p29 &&& (2147483647 : Int32)) % (11 : Int32)))])) _
    refine st33 _ ?_
    show Steps p.tables e below (T33.setTop (mkF m 12 #[.val (.int p29), .val (.int ((p29 &&& (2147483647 : Int32)) % (11 : Int32))), .unset, .unset] [(.ref w34)])) _
    refine XS.astoreN X33.here hx rfl (hb hby at_12) rfl rfl (l' := #[.val (.int p29), .val (.int ((p29 &&& (2147483647 : Int32)) % (11 : Int32))), .val (.ref w34), .unset]) rfl ?_
    show Steps p.tables e below (T33.setTop (mkF m 13 #[.val (.int p29), .val (.int ((p29 &&& (2147483647 : Int32)) % (11 : Int32))), .val (.ref w34), .unset] [])) _
    refine XS.iloadN X33.here hx rfl (hb hby at_13) rfl ?_
    show Steps p.tables e below (T33.setTop (mkF m 14 #[.val (.int p29), .val (.int ((p29 &&& (2147483647 : Int32)) % (11 : Int32))), .val (.ref w34), .unset] [(.int ((p29 &&& (2147483647 : Int32)) % (11 : Int32)))])) _
    refine XS.iconst X33.here hx rfl (hb hby at_14) ?_
    show Steps p.tables e below (T33.setTop (mkF m 15 #[.val (.int p29), .val (.int ((p29 &&& (2147483647 : Int32)) % (11 : Int32))), .val (.ref w34), .unset] [(.int (3 : Int32)), (.int ((p29 &&& (2147483647 : Int32)) % (11 : Int32)))])) _
    refine XS.icmpYes X33.here hx rfl (pc0 := 15) (pc' := 24) rfl (hb hby at_15) rfl (flt H4).2.2.2 (by decide) (by decide) ?_
    show Steps p.tables e below (T33.setTop (mkF m 24 #[.val (.int p29), .val (.int ((p29 &&& (2147483647 : Int32)) % (11 : Int32))), .val (.ref w34), .unset] [])) _
    refine XS.iconst X33.here hx rfl (hb hby at_24) ?_
    show Steps p.tables e below (T33.setTop (mkF m 25 #[.val (.int p29), .val (.int ((p29 &&& (2147483647 : Int32)) % (11 : Int32))), .val (.ref w34), .unset] [(.int (1 : Int32))])) _
    refine XS.goto X33.here hx rfl (pc0 := 25) (pc' := 29) rfl (hb hby at_25) (by decide) (by decide) ?_
    show Steps p.tables e below (T33.setTop (mkF m 29 #[.val (.int p29), .val (.int ((p29 &&& (2147483647 : Int32)) % (11 : Int32))), .val (.ref w34), .unset] [(.int (1 : Int32))])) _
    refine XS.istoreN X33.here hx rfl (hb hby at_29) rfl (l' := #[.val (.int p29), .val (.int ((p29 &&& (2147483647 : Int32)) % (11 : Int32))), .val (.ref w34), .val (.int (1 : Int32))]) rfl ?_
    show Steps p.tables e below (T33.setTop (mkF m 30 #[.val (.int p29), .val (.int ((p29 &&& (2147483647 : Int32)) % (11 : Int32))), .val (.ref w34), .val (.int (1 : Int32))] [])) _
    refine XS.aloadN X33.here hx rfl (hb hby at_30) rfl rfl ?_
    show Steps p.tables e below (T33.setTop (mkF m 31 #[.val (.int p29), .val (.int ((p29 &&& (2147483647 : Int32)) % (11 : Int32))), .val (.ref w34), .val (.int (1 : Int32))] [(.ref w34)])) _
    refine st40.trans ?_
    show Steps p.tables e below (T40.setTop (mkF m 34 #[.val (.int p29), .val (.int ((p29 &&& (2147483647 : Int32)) % (11 : Int32))), .val (.ref w34), .val (.int (1 : Int32))] [(.int (1 : Int32))])) _
    refine XS.iloadN X40.here hx rfl (hb hby at_34) rfl ?_
    show Steps p.tables e below (T40.setTop (mkF m 35 #[.val (.int p29), .val (.int ((p29 &&& (2147483647 : Int32)) % (11 : Int32))), .val (.ref w34), .val (.int (1 : Int32))] [(.int (1 : Int32)), (.int (1 : Int32))])) _
    refine XS.icmpNo X40.here hx rfl (hb hby at_35) rfl (teq (rfl : (1 : Int32) = (1 : Int32))).2 ?_
    show Steps p.tables e below (T40.setTop (mkF m 38 #[.val (.int p29), .val (.int ((p29 &&& (2147483647 : Int32)) % (11 : Int32))), .val (.ref w34), .val (.int (1 : Int32))] [])) _
    refine XS.iconst X40.here hx rfl (hb hby at_38) ?_
    show Steps p.tables e below (T40.setTop (mkF m 39 #[.val (.int p29), .val (.int ((p29 &&& (2147483647 : Int32)) % (11 : Int32))), .val (.ref w34), .val (.int (1 : Int32))] [(.int (1 : Int32))])) _
    refine XS.goto X40.here hx rfl (pc0 := 39) (pc' := 43) rfl (hb hby at_39) (by decide) (by decide) ?_
    show Steps p.tables e below (T40.setTop (mkF m 43 #[.val (.int p29), .val (.int ((p29 &&& (2147483647 : Int32)) % (11 : Int32))), .val (.ref w34), .val (.int (1 : Int32))] [(.int (1 : Int32))])) _
    exact retN X40 hx (t := .boolean) Bd.returns (by simp) (hb hby at_43) hr
  · show OQl (some (.int (1 : Int32))) n0 _ T40.heap _
    exact ⟨rfl, N40⟩
theorem d1_26 : decode method_3_code 26 = .ok (.iload_n 0, 1) := by decide +kernel
theorem d1_27 : decode method_3_code 27 = .ok (.iconst 3, 1) := by decide +kernel
theorem d1_28 : decode method_3_code 28 = .ok (.if_icmp .ne 7, 3) := by decide +kernel
theorem d1_31 : decode method_3_code 31 = .ok (.getstatic 30, 3) := by decide +kernel
theorem d1_34 : decode method_3_code 34 = .ok (.areturn, 1) := by decide +kernel
set_option maxRecDepth 65536 in
set_option maxHeartbeats 40000000 in
theorem r1_4 (l : Launch) (Z : State) (a0 : Array Value) (hw : ∀ d ∈ tables_1, d.before a0 Z = true) (p44 : Int32) (w45 : Addr) (h0 : Heap) (n0 : Nat) (Z0 : n0 ≤ h0.size) (H0 : ¬ (p44 = (0 : Int32))) (H1 : ¬ (p44 = (1 : Int32))) (H2 : ¬ (p44 = (2 : Int32))) (H3 : p44 = (3 : Int32)) (H4 : Sta Z h0 "com/example/resense/resense/engine/Measure" "NUM_REL_RET" "Lcom/example/resense/resense/engine/Measure;" (.ref w45)) :
    OMet l Z (⟨"com/example/resense/resense/engine/MeasureIsCountPinLaw", "pick", "(I)Lcom/example/resense/resense/engine/Measure;"⟩ : MethodName) method_3_code 1 (some (.object "com/example/resense/resense/engine/Measure")) [] ({ frames := 0, cells := 0, slots := 0, locals := 0 } : Room) h0 #[(.int p44)] (OQp (some (.ref w45)) h0 n0) := by
  refine MetFree.of_bodySF (plainFor_of_name pn_com_example_resense_resense_engine_MeasureIsCountPinLaw) hisR ?_
  intro p e s m args below meth c s₁ Bd hml0 hP hK
  obtain ⟨rfl, hZ, hh⟩ := hP
  have hx := Bd.exec
  have hby := Bd.bytes
  have hml : c.maxLocals = 1 := hml0
  have hown : s.vm.findClass "com/example/resense/resense/engine/MeasureIsCountPinLaw" = some m.cls := findClass_of_methodNamed Bd.named
  have hnm := (name_of_methodNamed Bd.named Bd.method).1
  have X0 : Stand p l e ({ frames := 0, cells := 0, slots := 0, locals := 0 } : Room) s m #[(.int p44)] below meth c s₁ [] 0 0 := Stand.of_body Bd
  have e0 : s₁.heap = h0 := by rw [← hh, Bd.state]; rfl
  have N0 := Fr.nil n0
  have pre0 : ∀ t, Steps p.tables e below (s₁.setTop (mkF m 0 #[.val (.int p44)] [])) t → Steps p.tables e below (s₁.setTop (entryFrame m #[(.int p44)] 1)) t := fun t k => castTop (ef_1_v m p44) k
  obtain ⟨T46, X46, e46, st46⟩ := getS2 X0 hx hZ hown (host := "") (Or.inl (hw _ (List.mem_of_getElem? (i := 18) rfl))) Via.refl e0 H4 (g := (mkF m 31 #[.val (.int p44)] [])) rfl (hb hby d1_31)
  obtain ⟨fs, hr, hrun, hended, hW, hsame⟩ := X46.leave (v := some (.ref w45)) (fun h => by rw [Bd.returns] at h; cases h)
  refine ⟨_, _, pre0 _ ?_, hrun, hended, _, _, rfl, ?_, ⟨_, rfl⟩, hW, hsame.mono (by decide) (by decide)⟩
  · show Steps p.tables e below (s₁.setTop (mkF m 0 #[.val (.int p44)] [])) _
    refine XS.iloadN X0.here hx rfl (hb hby d1_0) rfl ?_
    show Steps p.tables e below (s₁.setTop (mkF m 1 #[.val (.int p44)] [(.int p44)])) _
    refine XS.ifYes X0.here hx rfl (pc0 := 1) (pc' := 8) rfl (hb hby d1_1) rfl ((if0 _ _).trans (feq H0).2) (by decide) (by decide) ?_
    show Steps p.tables e below (s₁.setTop (mkF m 8 #[.val (.int p44)] [])) _
    refine XS.iloadN X0.here hx rfl (hb hby d1_8) rfl ?_
    show Steps p.tables e below (s₁.setTop (mkF m 9 #[.val (.int p44)] [(.int p44)])) _
    refine XS.iconst X0.here hx rfl (hb hby d1_9) ?_
    show Steps p.tables e below (s₁.setTop (mkF m 10 #[.val (.int p44)] [(.int (1 : Int32)), (.int p44)])) _
    refine XS.icmpYes X0.here hx rfl (pc0 := 10) (pc' := 17) rfl (hb hby d1_10) rfl (feq H1).2 (by decide) (by decide) ?_
    show Steps p.tables e below (s₁.setTop (mkF m 17 #[.val (.int p44)] [])) _
    refine XS.iloadN X0.here hx rfl (hb hby d1_17) rfl ?_
    show Steps p.tables e below (s₁.setTop (mkF m 18 #[.val (.int p44)] [(.int p44)])) _
    refine XS.iconst X0.here hx rfl (hb hby d1_18) ?_
    show Steps p.tables e below (s₁.setTop (mkF m 19 #[.val (.int p44)] [(.int (2 : Int32)), (.int p44)])) _
    refine XS.icmpYes X0.here hx rfl (pc0 := 19) (pc' := 26) rfl (hb hby d1_19) rfl (feq H2).2 (by decide) (by decide) ?_
    show Steps p.tables e below (s₁.setTop (mkF m 26 #[.val (.int p44)] [])) _
    refine XS.iloadN X0.here hx rfl (hb hby d1_26) rfl ?_
    show Steps p.tables e below (s₁.setTop (mkF m 27 #[.val (.int p44)] [(.int p44)])) _
    refine XS.iconst X0.here hx rfl (hb hby d1_27) ?_
    show Steps p.tables e below (s₁.setTop (mkF m 28 #[.val (.int p44)] [(.int (3 : Int32)), (.int p44)])) _
    refine XS.icmpNo X0.here hx rfl (hb hby d1_28) rfl (teq H3).2 ?_
    show Steps p.tables e below (s₁.setTop (mkF m 31 #[.val (.int p44)] [])) _
    refine st46 _ ?_
    show Steps p.tables e below (T46.setTop (mkF m 34 #[.val (.int p44)] [(.ref w45)])) _
    jvm_step X46.here [X46.here.top, hx, (hb hby d1_34), X46.method', Bd.returns, Value.isRef, FieldType.isReference]
    first | (intro acts; rw [hr _ acts rfl rfl rfl]) | rw [hr _ _ rfl rfl rfl]
    exact Steps.refl _
  · show OQp (some (.ref w45)) h0 n0 _ T46.heap _
    rw [e46]
    exact ⟨rfl, N0, rfl⟩
set_option maxRecDepth 65536 in
set_option maxHeartbeats 40000000 in
theorem r0_4 (l : Launch) (Z : State) (a0 : Array Value) (hw : ∀ d ∈ tables_1, d.before a0 Z = true) (p43 : Int32) (w48 : Addr) (w55 : Addr) (w56 : Addr) (h0 : Heap) (n0 : Nat) (Z0 : n0 ≤ h0.size) (H0 : ¬ (((p43 &&& (2147483647 : Int32)) % (11 : Int32)) = (0 : Int32))) (H1 : ¬ (((p43 &&& (2147483647 : Int32)) % (11 : Int32)) = (1 : Int32))) (H2 : ¬ (((p43 &&& (2147483647 : Int32)) % (11 : Int32)) = (2 : Int32))) (H3 : ((p43 &&& (2147483647 : Int32)) % (11 : Int32)) = (3 : Int32)) (H4 : Sta Z h0 "com/example/resense/resense/engine/Measure" "NUM_REL_RET" "Lcom/example/resense/resense/engine/Measure;" (.ref w48)) (H5 : ¬ ((3 : Int32) < ((p43 &&& (2147483647 : Int32)) % (11 : Int32)))) (H6 : Fld Z h0 w48 "com/example/resense/resense/engine/Measure" "combination" "Lcom/example/resense/resense/engine/Measure$Combination;" (.ref w55)) (H7 : Sta Z h0 "com/example/resense/resense/engine/Measure$Combination" "SUM" "Lcom/example/resense/resense/engine/Measure$Combination;" (.ref w56)) (H8 : w55 = w56) (H9 : Exa Z h0 w48 "com/example/resense/resense/engine/Measure") :
    OMet l Z x code maxLocals ret tables_1 room_1 h0 #[(.int p43)] (OQl (some (.int (1 : Int32))) n0) := by
  refine MetFree.of_bodySF (plainFor_of_name pn_com_example_resense_resense_engine_MeasureIsCountPinLaw) hisR ?_
  intro p e s m args below meth c s₁ Bd hml0 hP hK
  obtain ⟨rfl, hZ, hh⟩ := hP
  have hx := Bd.exec
  have hby := Bd.bytes
  have hml : c.maxLocals = 4 := hml0
  have hown : s.vm.findClass "com/example/resense/resense/engine/MeasureIsCountPinLaw" = some m.cls := findClass_of_methodNamed Bd.named
  have hnm := (name_of_methodNamed Bd.named Bd.method).1
  have X0 : Stand p l e room_1 s m #[(.int p43)] below meth c s₁ [] 0 0 := Stand.of_body Bd
  have e0 : s₁.heap = h0 := by rw [← hh, Bd.state]; rfl
  have N0 := Fr.nil n0
  have pre0 : ∀ t, Steps p.tables e below (s₁.setTop (mkF m 0 #[.val (.int p43), .unset, .unset, .unset] [])) t → Steps p.tables e below (s₁.setTop (entryFrame m #[(.int p43)] maxLocals)) t := fun t k => castTop (ef_0_v m p43) k
  obtain ⟨_, _, ⟨T47, L47, k47, n47⟩, -, X47, ⟨Lc47, hQ47, l47, y47, z47⟩, st47⟩ := Jvm.LawKit.callS X0 hx (y := (⟨"com/example/resense/resense/engine/MeasureIsCountPinLaw", "pick", "(I)Lcom/example/resense/resense/engine/Measure;"⟩ : MethodName)) hown (mvT hZ (hw _ (List.mem_of_getElem? (i := 1) rfl))) (mvT hZ (hw _ (List.mem_of_getElem? (i := 2) rfl))) (mvT hZ (hw _ (List.mem_of_getElem? (i := 3) rfl))) (mvT hZ (hw _ (List.mem_of_getElem? (i := 4) rfl))) (by decide) (backOf (W := 0) (r1_4 l Z a0 hw ((p43 &&& (2147483647 : Int32)) % (11 : Int32)) w48 h0 n0 Z0 H0 H1 H2 H3 H4) hZ (hw _ (List.mem_of_getElem? (i := 4) rfl)) (hw _ (List.mem_of_getElem? (i := 3) rfl)) (by decide) (by decide)) (g := (mkF m 9 #[.val (.int p43), .val (.int ((p43 &&& (2147483647 : Int32)) % (11 : Int32))), .unset, .unset] [(.int ((p43 &&& (2147483647 : Int32)) % (11 : Int32)))])) rfl (by rw [hml]; rfl) (argsL := [(.int ((p43 &&& (2147483647 : Int32)) % (11 : Int32)))]) (rest := []) (lenOf pd_0 rfl) rfl (by show 2 * 0 + _ ≤ _; exact Nat.le_of_eq rfl) (hb hby at_9) (fun _ _ => ⟨rfl, e0, (by decide : 0 + 0 ≤ _), (by decide : 0 + 0 ≤ _)⟩)
  dsimp only [Pt.U, Pt.locs, Pt.cells, Pt.slots] at X47 l47 y47 z47 st47 hQ47
  subst l47 y47 z47
  obtain ⟨rfl, N47q, e47⟩ := hQ47
  have N47 := Fr.app N0 N47q
  obtain ⟨cq54, kq54, q54a, q54b, q54c⟩ := isOf hZ e47 H9
  obtain ⟨_, _, ⟨T54, L54, k54, n54⟩, -, X54, ⟨Lc54, hQ54, l54, y54, z54⟩, st54⟩ := X47.virtualBack hx (y := (⟨"com/example/resense/resense/engine/Measure", "isCount", "()Z"⟩ : MethodName)) (z := (⟨"com/example/resense/resense/engine/Measure", "isCount", "()Z"⟩ : MethodName)) hown (mvT hZ (hw _ (List.mem_of_getElem? (i := 8) rfl))) (mvT hZ (hw _ (List.mem_of_getElem? (i := 9) rfl))) (notFace_of_selects (args := #[]) (mvT hZ (hw _ (List.mem_of_getElem? (i := 11) rfl)))) (mvT hZ (hw _ (List.mem_of_getElem? (i := 11) rfl))) (mvT hZ (hw _ (List.mem_of_getElem? (i := 10) rfl))) (by decide) (backOf (W := 0) (r2_1 l Z a0 hw w48 w55 w56 h0 n0 Z0 H6 H7 H8) hZ (hw _ (List.mem_of_getElem? (i := 12) rfl)) (hw _ (List.mem_of_getElem? (i := 6) rfl)) (by decide) (by decide)) q54a q54c (g := (mkF m 31 #[.val (.int p43), .val (.int ((p43 &&& (2147483647 : Int32)) % (11 : Int32))), .val (.ref w48), .val (.int (1 : Int32))] [(.ref w48)])) rfl (by rw [hml]; rfl) (Steps.refl _) (argsL := []) (rest := []) (lenOf pd_1 rfl) rfl (by show 2 * 0 + _ ≤ _; exact Nat.le_of_eq rfl) (hb hby at_31) (fun _ _ => ⟨rfl, e47, (by decide : 0 + 0 ≤ _), (by decide : 0 + 0 ≤ _)⟩)
  dsimp only [Pt.U, Pt.locs, Pt.cells, Pt.slots] at X54 l54 y54 z54 st54 hQ54
  subst l54 y54 z54
  obtain ⟨rfl, N54q, e54⟩ := hQ54
  have N54 := Fr.app N47 N54q
  obtain ⟨fs, hr, hrun, hended, hW, hsame⟩ := X54.leave (v := some (.int (1 : Int32))) (fun h => by rw [Bd.returns] at h; cases h)
  refine ⟨_, _, pre0 _ ?_, hrun, hended, _, _, rfl, ?_, ⟨_, rfl⟩, hW, hsame.mono (by decide) (by decide)⟩
  · show Steps p.tables e below (s₁.setTop (mkF m 0 #[.val (.int p43), .unset, .unset, .unset] [])) _
    refine XS.iloadN X0.here hx rfl (hb hby at_0) rfl ?_
    show Steps p.tables e below (s₁.setTop (mkF m 1 #[.val (.int p43), .unset, .unset, .unset] [(.int p43)])) _
    refine X0.ldcInt hx hown (mvT hZ (hw _ (List.mem_of_getElem? (i := 0) rfl))) (g := (mkF m 1 #[.val (.int p43), .unset, .unset, .unset] [(.int p43)])) rfl (hb hby at_1) _ ?_
    show Steps p.tables e below (s₁.setTop (mkF m 3 #[.val (.int p43), .unset, .unset, .unset] [(.int (2147483647 : Int32)), (.int p43)])) _
    refine XS.iand X0.here hx rfl (hb hby at_3) rfl ?_
    show Steps p.tables e below (s₁.setTop (mkF m 4 #[.val (.int p43), .unset, .unset, .unset] [(.int (p43 &&& (2147483647 : Int32)))])) _
    refine XS.bipush X0.here hx rfl (hb hby at_4) ?_
    show Steps p.tables e below (s₁.setTop (mkF m 6 #[.val (.int p43), .unset, .unset, .unset] [(.int (11 : Int32)), (.int (p43 &&& (2147483647 : Int32)))])) _
    refine iremM X0 hx rfl (hb hby at_6) rfl (by decide) ?_
    show Steps p.tables e below (s₁.setTop (mkF m 7 #[.val (.int p43), .unset, .unset, .unset] [(.int ((p43 &&& (2147483647 : Int32)) % (11 : Int32)))])) _
    refine XS.istoreN X0.here hx rfl (hb hby at_7) rfl (l' := #[.val (.int p43), .val (.int ((p43 &&& (2147483647 : Int32)) % (11 : Int32))), .unset, .unset]) rfl ?_
    show Steps p.tables e below (s₁.setTop (mkF m 8 #[.val (.int p43), .val (.int ((p43 &&& (2147483647 : Int32)) % (11 : Int32))), .unset, .unset] [])) _
    refine XS.iloadN X0.here hx rfl (hb hby at_8) rfl ?_
    show Steps p.tables e below (s₁.setTop (mkF m 9 #[.val (.int p43), .val (.int ((p43 &&& (2147483647 : Int32)) % (11 : Int32))), .unset, .unset] [(.int ((p43 &&& (2147483647 : Int32)) % (11 : Int32)))])) _
    refine st47 _ ?_
    show Steps p.tables e below (T47.setTop (mkF m 12 #[.val (.int p43), .val (.int ((p43 &&& (2147483647 : Int32)) % (11 : Int32))), .unset, .unset] [(.ref w48)])) _
    refine XS.astoreN X47.here hx rfl (hb hby at_12) rfl rfl (l' := #[.val (.int p43), .val (.int ((p43 &&& (2147483647 : Int32)) % (11 : Int32))), .val (.ref w48), .unset]) rfl ?_
    show Steps p.tables e below (T47.setTop (mkF m 13 #[.val (.int p43), .val (.int ((p43 &&& (2147483647 : Int32)) % (11 : Int32))), .val (.ref w48), .unset] [])) _
    refine XS.iloadN X47.here hx rfl (hb hby at_13) rfl ?_
    show Steps p.tables e below (T47.setTop (mkF m 14 #[.val (.int p43), .val (.int ((p43 &&& (2147483647 : Int32)) % (11 : Int32))), .val (.ref w48), .unset] [(.int ((p43 &&& (2147483647 : Int32)) % (11 : Int32)))])) _
    refine XS.iconst X47.here hx rfl (hb hby at_14) ?_
    show Steps p.tables e below (T47.setTop (mkF m 15 #[.val (.int p43), .val (.int ((p43 &&& (2147483647 : Int32)) % (11 : Int32))), .val (.ref w48), .unset] [(.int (3 : Int32)), (.int ((p43 &&& (2147483647 : Int32)) % (11 : Int32)))])) _
    refine XS.icmpYes X47.here hx rfl (pc0 := 15) (pc' := 24) rfl (hb hby at_15) rfl (flt H5).2.2.2 (by decide) (by decide) ?_
    show Steps p.tables e below (T47.setTop (mkF m 24 #[.val (.int p43), .val (.int ((p43 &&& (2147483647 : Int32)) % (11 : Int32))), .val (.ref w48), .unset] [])) _
    refine XS.iconst X47.here hx rfl (hb hby at_24) ?_
    show Steps p.tables e below (T47.setTop (mkF m 25 #[.val (.int p43), .val (.int ((p43 &&& (2147483647 : Int32)) % (11 : Int32))), .val (.ref w48), .unset] [(.int (1 : Int32))])) _
    refine XS.goto X47.here hx rfl (pc0 := 25) (pc' := 29) rfl (hb hby at_25) (by decide) (by decide) ?_
    show Steps p.tables e below (T47.setTop (mkF m 29 #[.val (.int p43), .val (.int ((p43 &&& (2147483647 : Int32)) % (11 : Int32))), .val (.ref w48), .unset] [(.int (1 : Int32))])) _
    refine XS.istoreN X47.here hx rfl (hb hby at_29) rfl (l' := #[.val (.int p43), .val (.int ((p43 &&& (2147483647 : Int32)) % (11 : Int32))), .val (.ref w48), .val (.int (1 : Int32))]) rfl ?_
    show Steps p.tables e below (T47.setTop (mkF m 30 #[.val (.int p43), .val (.int ((p43 &&& (2147483647 : Int32)) % (11 : Int32))), .val (.ref w48), .val (.int (1 : Int32))] [])) _
    refine XS.aloadN X47.here hx rfl (hb hby at_30) rfl rfl ?_
    show Steps p.tables e below (T47.setTop (mkF m 31 #[.val (.int p43), .val (.int ((p43 &&& (2147483647 : Int32)) % (11 : Int32))), .val (.ref w48), .val (.int (1 : Int32))] [(.ref w48)])) _
    refine st54.trans ?_
    show Steps p.tables e below (T54.setTop (mkF m 34 #[.val (.int p43), .val (.int ((p43 &&& (2147483647 : Int32)) % (11 : Int32))), .val (.ref w48), .val (.int (1 : Int32))] [(.int (1 : Int32))])) _
    refine XS.iloadN X54.here hx rfl (hb hby at_34) rfl ?_
    show Steps p.tables e below (T54.setTop (mkF m 35 #[.val (.int p43), .val (.int ((p43 &&& (2147483647 : Int32)) % (11 : Int32))), .val (.ref w48), .val (.int (1 : Int32))] [(.int (1 : Int32)), (.int (1 : Int32))])) _
    refine XS.icmpNo X54.here hx rfl (hb hby at_35) rfl (teq (rfl : (1 : Int32) = (1 : Int32))).2 ?_
    show Steps p.tables e below (T54.setTop (mkF m 38 #[.val (.int p43), .val (.int ((p43 &&& (2147483647 : Int32)) % (11 : Int32))), .val (.ref w48), .val (.int (1 : Int32))] [])) _
    refine XS.iconst X54.here hx rfl (hb hby at_38) ?_
    show Steps p.tables e below (T54.setTop (mkF m 39 #[.val (.int p43), .val (.int ((p43 &&& (2147483647 : Int32)) % (11 : Int32))), .val (.ref w48), .val (.int (1 : Int32))] [(.int (1 : Int32))])) _
    refine XS.goto X54.here hx rfl (pc0 := 39) (pc' := 43) rfl (hb hby at_39) (by decide) (by decide) ?_
    show Steps p.tables e below (T54.setTop (mkF m 43 #[.val (.int p43), .val (.int ((p43 &&& (2147483647 : Int32)) % (11 : Int32))), .val (.ref w48), .val (.int (1 : Int32))] [(.int (1 : Int32))])) _
    exact retN X54 hx (t := .boolean) Bd.returns (by simp) (hb hby at_43) hr
  · show OQl (some (.int (1 : Int32))) n0 _ T54.heap _
    exact ⟨rfl, N54⟩
theorem d1_35 : decode method_3_code 35 = .ok (.iload_n 0, 1) := by decide +kernel
theorem d1_36 : decode method_3_code 36 = .ok (.iconst 4, 1) := by decide +kernel
theorem d1_37 : decode method_3_code 37 = .ok (.if_icmp .ne 7, 3) := by decide +kernel
theorem d1_40 : decode method_3_code 40 = .ok (.getstatic 33, 3) := by decide +kernel
theorem d1_43 : decode method_3_code 43 = .ok (.areturn, 1) := by decide +kernel
set_option maxRecDepth 65536 in
set_option maxHeartbeats 40000000 in
theorem r1_5 (l : Launch) (Z : State) (a0 : Array Value) (hw : ∀ d ∈ tables_1, d.before a0 Z = true) (p58 : Int32) (w59 : Addr) (h0 : Heap) (n0 : Nat) (Z0 : n0 ≤ h0.size) (H0 : ¬ (p58 = (0 : Int32))) (H1 : ¬ (p58 = (1 : Int32))) (H2 : ¬ (p58 = (2 : Int32))) (H3 : ¬ (p58 = (3 : Int32))) (H4 : p58 = (4 : Int32)) (H5 : Sta Z h0 "com/example/resense/resense/engine/Measure" "MAP" "Lcom/example/resense/resense/engine/Measure;" (.ref w59)) :
    OMet l Z (⟨"com/example/resense/resense/engine/MeasureIsCountPinLaw", "pick", "(I)Lcom/example/resense/resense/engine/Measure;"⟩ : MethodName) method_3_code 1 (some (.object "com/example/resense/resense/engine/Measure")) [] ({ frames := 0, cells := 0, slots := 0, locals := 0 } : Room) h0 #[(.int p58)] (OQp (some (.ref w59)) h0 n0) := by
  refine MetFree.of_bodySF (plainFor_of_name pn_com_example_resense_resense_engine_MeasureIsCountPinLaw) hisR ?_
  intro p e s m args below meth c s₁ Bd hml0 hP hK
  obtain ⟨rfl, hZ, hh⟩ := hP
  have hx := Bd.exec
  have hby := Bd.bytes
  have hml : c.maxLocals = 1 := hml0
  have hown : s.vm.findClass "com/example/resense/resense/engine/MeasureIsCountPinLaw" = some m.cls := findClass_of_methodNamed Bd.named
  have hnm := (name_of_methodNamed Bd.named Bd.method).1
  have X0 : Stand p l e ({ frames := 0, cells := 0, slots := 0, locals := 0 } : Room) s m #[(.int p58)] below meth c s₁ [] 0 0 := Stand.of_body Bd
  have e0 : s₁.heap = h0 := by rw [← hh, Bd.state]; rfl
  have N0 := Fr.nil n0
  have pre0 : ∀ t, Steps p.tables e below (s₁.setTop (mkF m 0 #[.val (.int p58)] [])) t → Steps p.tables e below (s₁.setTop (entryFrame m #[(.int p58)] 1)) t := fun t k => castTop (ef_1_v m p58) k
  obtain ⟨T60, X60, e60, st60⟩ := getS2 X0 hx hZ hown (host := "") (Or.inl (hw _ (List.mem_of_getElem? (i := 38) rfl))) Via.refl e0 H5 (g := (mkF m 40 #[.val (.int p58)] [])) rfl (hb hby d1_40)
  obtain ⟨fs, hr, hrun, hended, hW, hsame⟩ := X60.leave (v := some (.ref w59)) (fun h => by rw [Bd.returns] at h; cases h)
  refine ⟨_, _, pre0 _ ?_, hrun, hended, _, _, rfl, ?_, ⟨_, rfl⟩, hW, hsame.mono (by decide) (by decide)⟩
  · show Steps p.tables e below (s₁.setTop (mkF m 0 #[.val (.int p58)] [])) _
    refine XS.iloadN X0.here hx rfl (hb hby d1_0) rfl ?_
    show Steps p.tables e below (s₁.setTop (mkF m 1 #[.val (.int p58)] [(.int p58)])) _
    refine XS.ifYes X0.here hx rfl (pc0 := 1) (pc' := 8) rfl (hb hby d1_1) rfl ((if0 _ _).trans (feq H0).2) (by decide) (by decide) ?_
    show Steps p.tables e below (s₁.setTop (mkF m 8 #[.val (.int p58)] [])) _
    refine XS.iloadN X0.here hx rfl (hb hby d1_8) rfl ?_
    show Steps p.tables e below (s₁.setTop (mkF m 9 #[.val (.int p58)] [(.int p58)])) _
    refine XS.iconst X0.here hx rfl (hb hby d1_9) ?_
    show Steps p.tables e below (s₁.setTop (mkF m 10 #[.val (.int p58)] [(.int (1 : Int32)), (.int p58)])) _
    refine XS.icmpYes X0.here hx rfl (pc0 := 10) (pc' := 17) rfl (hb hby d1_10) rfl (feq H1).2 (by decide) (by decide) ?_
    show Steps p.tables e below (s₁.setTop (mkF m 17 #[.val (.int p58)] [])) _
    refine XS.iloadN X0.here hx rfl (hb hby d1_17) rfl ?_
    show Steps p.tables e below (s₁.setTop (mkF m 18 #[.val (.int p58)] [(.int p58)])) _
    refine XS.iconst X0.here hx rfl (hb hby d1_18) ?_
    show Steps p.tables e below (s₁.setTop (mkF m 19 #[.val (.int p58)] [(.int (2 : Int32)), (.int p58)])) _
    refine XS.icmpYes X0.here hx rfl (pc0 := 19) (pc' := 26) rfl (hb hby d1_19) rfl (feq H2).2 (by decide) (by decide) ?_
    show Steps p.tables e below (s₁.setTop (mkF m 26 #[.val (.int p58)] [])) _
    refine XS.iloadN X0.here hx rfl (hb hby d1_26) rfl ?_
    show Steps p.tables e below (s₁.setTop (mkF m 27 #[.val (.int p58)] [(.int p58)])) _
    refine XS.iconst X0.here hx rfl (hb hby d1_27) ?_
    show Steps p.tables e below (s₁.setTop (mkF m 28 #[.val (.int p58)] [(.int (3 : Int32)), (.int p58)])) _
    refine XS.icmpYes X0.here hx rfl (pc0 := 28) (pc' := 35) rfl (hb hby d1_28) rfl (feq H3).2 (by decide) (by decide) ?_
    show Steps p.tables e below (s₁.setTop (mkF m 35 #[.val (.int p58)] [])) _
    refine XS.iloadN X0.here hx rfl (hb hby d1_35) rfl ?_
    show Steps p.tables e below (s₁.setTop (mkF m 36 #[.val (.int p58)] [(.int p58)])) _
    refine XS.iconst X0.here hx rfl (hb hby d1_36) ?_
    show Steps p.tables e below (s₁.setTop (mkF m 37 #[.val (.int p58)] [(.int (4 : Int32)), (.int p58)])) _
    refine XS.icmpNo X0.here hx rfl (hb hby d1_37) rfl (teq H4).2 ?_
    show Steps p.tables e below (s₁.setTop (mkF m 40 #[.val (.int p58)] [])) _
    refine st60 _ ?_
    show Steps p.tables e below (T60.setTop (mkF m 43 #[.val (.int p58)] [(.ref w59)])) _
    jvm_step X60.here [X60.here.top, hx, (hb hby d1_43), X60.method', Bd.returns, Value.isRef, FieldType.isReference]
    first | (intro acts; rw [hr _ acts rfl rfl rfl]) | rw [hr _ _ rfl rfl rfl]
    exact Steps.refl _
  · show OQp (some (.ref w59)) h0 n0 _ T60.heap _
    rw [e60]
    exact ⟨rfl, N0, rfl⟩
theorem d2_14 : decode prog_10_method_5_code 14 = .ok (.iconst 0, 1) := by decide +kernel
set_option maxRecDepth 65536 in
set_option maxHeartbeats 40000000 in
theorem r2_2 (l : Launch) (Z : State) (a0 : Array Value) (hw : ∀ d ∈ tables_1, d.before a0 Z = true) (a63 : Addr) (w64 : Addr) (w66 : Addr) (h0 : Heap) (n0 : Nat) (Z0 : n0 ≤ h0.size) (H0 : Fld Z h0 a63 "com/example/resense/resense/engine/Measure" "combination" "Lcom/example/resense/resense/engine/Measure$Combination;" (.ref w64)) (H1 : Sta Z h0 "com/example/resense/resense/engine/Measure$Combination" "SUM" "Lcom/example/resense/resense/engine/Measure$Combination;" (.ref w66)) (H2 : w64 ≠ w66) :
    OMet l Z (⟨"com/example/resense/resense/engine/Measure", "isCount", "()Z"⟩ : MethodName) prog_10_method_5_code 1 (some .boolean) [] ({ frames := 0, cells := 0, slots := 0, locals := 0 } : Room) h0 #[(.ref a63)] (OQp (some (.int (0 : Int32))) h0 n0) := by
  refine MetFree.of_bodySF (plainFor_of_name pn_com_example_resense_resense_engine_Measure) hisR ?_
  intro p e s m args below meth c s₁ Bd hml0 hP hK
  obtain ⟨rfl, hZ, hh⟩ := hP
  have hx := Bd.exec
  have hby := Bd.bytes
  have hml : c.maxLocals = 1 := hml0
  have hown : s.vm.findClass "com/example/resense/resense/engine/Measure" = some m.cls := findClass_of_methodNamed Bd.named
  have hnm := (name_of_methodNamed Bd.named Bd.method).1
  have X0 : Stand p l e ({ frames := 0, cells := 0, slots := 0, locals := 0 } : Room) s m #[(.ref a63)] below meth c s₁ [] 0 0 := Stand.of_body Bd
  have e0 : s₁.heap = h0 := by rw [← hh, Bd.state]; rfl
  have N0 := Fr.nil n0
  have pre0 : ∀ t, Steps p.tables e below (s₁.setTop (mkF m 0 #[.val (.ref a63)] [])) t → Steps p.tables e below (s₁.setTop (entryFrame m #[(.ref a63)] 1)) t := fun t k => castTop (ef_2_v m a63) k
  obtain ⟨T65, X65, e65, st65⟩ := getF X0 hx hZ hown (host := "") (Or.inl (hw _ (List.mem_of_getElem? (i := 13) rfl))) Via.refl e0 H0 (g := (mkF m 1 #[.val (.ref a63)] [(.ref a63)])) rfl rfl (hb hby d2_1)
  obtain ⟨T67, X67, e67, st67⟩ := getS2 X65 hx hZ hown (host := "") (Or.inl (hw _ (List.mem_of_getElem? (i := 17) rfl))) Via.refl e65 H1 (g := (mkF m 4 #[.val (.ref a63)] [(.ref w64)])) rfl (hb hby d2_4)
  obtain ⟨fs, hr, hrun, hended, hW, hsame⟩ := X67.leave (v := some (.int (0 : Int32))) (fun h => by rw [Bd.returns] at h; cases h)
  refine ⟨_, _, pre0 _ ?_, hrun, hended, _, _, rfl, ?_, ⟨_, rfl⟩, hW, hsame.mono (by decide) (by decide)⟩
  · show Steps p.tables e below (s₁.setTop (mkF m 0 #[.val (.ref a63)] [])) _
    refine XS.aloadN X0.here hx rfl (hb hby d2_0) rfl rfl ?_
    show Steps p.tables e below (s₁.setTop (mkF m 1 #[.val (.ref a63)] [(.ref a63)])) _
    refine st65 _ ?_
    show Steps p.tables e below (T65.setTop (mkF m 4 #[.val (.ref a63)] [(.ref w64)])) _
    refine st67 _ ?_
    show Steps p.tables e below (T67.setTop (mkF m 7 #[.val (.ref a63)] [(.ref w66), (.ref w64)])) _
    refine Jvm.RoadKit.acmp (g := (mkF m 7 #[.val (.ref a63)] [(.ref w66), (.ref w64)])) X67 hx rfl rfl rfl (pc0 := 7) (pc' := 14) (same := false) rfl (hb hby d2_7) rfl (decide_eq_false fun q => H2 (Value.ref.inj q)) (by decide) (by decide) ?_
    show Steps p.tables e below (T67.setTop (mkF m 14 #[.val (.ref a63)] [])) _
    refine XS.iconst X67.here hx rfl (hb hby d2_14) ?_
    show Steps p.tables e below (T67.setTop (mkF m 15 #[.val (.ref a63)] [(.int (0 : Int32))])) _
    exact retN X67 hx (t := .boolean) Bd.returns (by simp) (hb hby d2_15) hr
  · show OQp (some (.int (0 : Int32))) h0 n0 _ T67.heap _
    rw [e67]
    exact ⟨rfl, N0, rfl⟩
set_option maxRecDepth 65536 in
set_option maxHeartbeats 40000000 in
theorem r0_5 (l : Launch) (Z : State) (a0 : Array Value) (hw : ∀ d ∈ tables_1, d.before a0 Z = true) (p57 : Int32) (w62 : Addr) (w69 : Addr) (w70 : Addr) (h0 : Heap) (n0 : Nat) (Z0 : n0 ≤ h0.size) (H0 : ¬ (((p57 &&& (2147483647 : Int32)) % (11 : Int32)) = (0 : Int32))) (H1 : ¬ (((p57 &&& (2147483647 : Int32)) % (11 : Int32)) = (1 : Int32))) (H2 : ¬ (((p57 &&& (2147483647 : Int32)) % (11 : Int32)) = (2 : Int32))) (H3 : ¬ (((p57 &&& (2147483647 : Int32)) % (11 : Int32)) = (3 : Int32))) (H4 : ((p57 &&& (2147483647 : Int32)) % (11 : Int32)) = (4 : Int32)) (H5 : Sta Z h0 "com/example/resense/resense/engine/Measure" "MAP" "Lcom/example/resense/resense/engine/Measure;" (.ref w62)) (H6 : (3 : Int32) < ((p57 &&& (2147483647 : Int32)) % (11 : Int32))) (H7 : ¬ (((p57 &&& (2147483647 : Int32)) % (11 : Int32)) = (10 : Int32))) (H8 : Fld Z h0 w62 "com/example/resense/resense/engine/Measure" "combination" "Lcom/example/resense/resense/engine/Measure$Combination;" (.ref w69)) (H9 : Sta Z h0 "com/example/resense/resense/engine/Measure$Combination" "SUM" "Lcom/example/resense/resense/engine/Measure$Combination;" (.ref w70)) (H10 : w69 ≠ w70) (H11 : Exa Z h0 w62 "com/example/resense/resense/engine/Measure") :
    OMet l Z x code maxLocals ret tables_1 room_1 h0 #[(.int p57)] (OQl (some (.int (1 : Int32))) n0) := by
  refine MetFree.of_bodySF (plainFor_of_name pn_com_example_resense_resense_engine_MeasureIsCountPinLaw) hisR ?_
  intro p e s m args below meth c s₁ Bd hml0 hP hK
  obtain ⟨rfl, hZ, hh⟩ := hP
  have hx := Bd.exec
  have hby := Bd.bytes
  have hml : c.maxLocals = 4 := hml0
  have hown : s.vm.findClass "com/example/resense/resense/engine/MeasureIsCountPinLaw" = some m.cls := findClass_of_methodNamed Bd.named
  have hnm := (name_of_methodNamed Bd.named Bd.method).1
  have X0 : Stand p l e room_1 s m #[(.int p57)] below meth c s₁ [] 0 0 := Stand.of_body Bd
  have e0 : s₁.heap = h0 := by rw [← hh, Bd.state]; rfl
  have N0 := Fr.nil n0
  have pre0 : ∀ t, Steps p.tables e below (s₁.setTop (mkF m 0 #[.val (.int p57), .unset, .unset, .unset] [])) t → Steps p.tables e below (s₁.setTop (entryFrame m #[(.int p57)] maxLocals)) t := fun t k => castTop (ef_0_v m p57) k
  obtain ⟨_, _, ⟨T61, L61, k61, n61⟩, -, X61, ⟨Lc61, hQ61, l61, y61, z61⟩, st61⟩ := Jvm.LawKit.callS X0 hx (y := (⟨"com/example/resense/resense/engine/MeasureIsCountPinLaw", "pick", "(I)Lcom/example/resense/resense/engine/Measure;"⟩ : MethodName)) hown (mvT hZ (hw _ (List.mem_of_getElem? (i := 1) rfl))) (mvT hZ (hw _ (List.mem_of_getElem? (i := 2) rfl))) (mvT hZ (hw _ (List.mem_of_getElem? (i := 3) rfl))) (mvT hZ (hw _ (List.mem_of_getElem? (i := 4) rfl))) (by decide) (backOf (W := 0) (r1_5 l Z a0 hw ((p57 &&& (2147483647 : Int32)) % (11 : Int32)) w62 h0 n0 Z0 H0 H1 H2 H3 H4 H5) hZ (hw _ (List.mem_of_getElem? (i := 4) rfl)) (hw _ (List.mem_of_getElem? (i := 3) rfl)) (by decide) (by decide)) (g := (mkF m 9 #[.val (.int p57), .val (.int ((p57 &&& (2147483647 : Int32)) % (11 : Int32))), .unset, .unset] [(.int ((p57 &&& (2147483647 : Int32)) % (11 : Int32)))])) rfl (by rw [hml]; rfl) (argsL := [(.int ((p57 &&& (2147483647 : Int32)) % (11 : Int32)))]) (rest := []) (lenOf pd_0 rfl) rfl (by show 2 * 0 + _ ≤ _; exact Nat.le_of_eq rfl) (hb hby at_9) (fun _ _ => ⟨rfl, e0, (by decide : 0 + 0 ≤ _), (by decide : 0 + 0 ≤ _)⟩)
  dsimp only [Pt.U, Pt.locs, Pt.cells, Pt.slots] at X61 l61 y61 z61 st61 hQ61
  subst l61 y61 z61
  obtain ⟨rfl, N61q, e61⟩ := hQ61
  have N61 := Fr.app N0 N61q
  obtain ⟨cq68, kq68, q68a, q68b, q68c⟩ := isOf hZ e61 H11
  obtain ⟨_, _, ⟨T68, L68, k68, n68⟩, -, X68, ⟨Lc68, hQ68, l68, y68, z68⟩, st68⟩ := X61.virtualBack hx (y := (⟨"com/example/resense/resense/engine/Measure", "isCount", "()Z"⟩ : MethodName)) (z := (⟨"com/example/resense/resense/engine/Measure", "isCount", "()Z"⟩ : MethodName)) hown (mvT hZ (hw _ (List.mem_of_getElem? (i := 8) rfl))) (mvT hZ (hw _ (List.mem_of_getElem? (i := 9) rfl))) (notFace_of_selects (args := #[]) (mvT hZ (hw _ (List.mem_of_getElem? (i := 11) rfl)))) (mvT hZ (hw _ (List.mem_of_getElem? (i := 11) rfl))) (mvT hZ (hw _ (List.mem_of_getElem? (i := 10) rfl))) (by decide) (backOf (W := 0) (r2_2 l Z a0 hw w62 w69 w70 h0 n0 Z0 H8 H9 H10) hZ (hw _ (List.mem_of_getElem? (i := 12) rfl)) (hw _ (List.mem_of_getElem? (i := 6) rfl)) (by decide) (by decide)) q68a q68c (g := (mkF m 31 #[.val (.int p57), .val (.int ((p57 &&& (2147483647 : Int32)) % (11 : Int32))), .val (.ref w62), .val (.int (0 : Int32))] [(.ref w62)])) rfl (by rw [hml]; rfl) (Steps.refl _) (argsL := []) (rest := []) (lenOf pd_1 rfl) rfl (by show 2 * 0 + _ ≤ _; exact Nat.le_of_eq rfl) (hb hby at_31) (fun _ _ => ⟨rfl, e61, (by decide : 0 + 0 ≤ _), (by decide : 0 + 0 ≤ _)⟩)
  dsimp only [Pt.U, Pt.locs, Pt.cells, Pt.slots] at X68 l68 y68 z68 st68 hQ68
  subst l68 y68 z68
  obtain ⟨rfl, N68q, e68⟩ := hQ68
  have N68 := Fr.app N61 N68q
  obtain ⟨fs, hr, hrun, hended, hW, hsame⟩ := X68.leave (v := some (.int (1 : Int32))) (fun h => by rw [Bd.returns] at h; cases h)
  refine ⟨_, _, pre0 _ ?_, hrun, hended, _, _, rfl, ?_, ⟨_, rfl⟩, hW, hsame.mono (by decide) (by decide)⟩
  · show Steps p.tables e below (s₁.setTop (mkF m 0 #[.val (.int p57), .unset, .unset, .unset] [])) _
    refine XS.iloadN X0.here hx rfl (hb hby at_0) rfl ?_
    show Steps p.tables e below (s₁.setTop (mkF m 1 #[.val (.int p57), .unset, .unset, .unset] [(.int p57)])) _
    refine X0.ldcInt hx hown (mvT hZ (hw _ (List.mem_of_getElem? (i := 0) rfl))) (g := (mkF m 1 #[.val (.int p57), .unset, .unset, .unset] [(.int p57)])) rfl (hb hby at_1) _ ?_
    show Steps p.tables e below (s₁.setTop (mkF m 3 #[.val (.int p57), .unset, .unset, .unset] [(.int (2147483647 : Int32)), (.int p57)])) _
    refine XS.iand X0.here hx rfl (hb hby at_3) rfl ?_
    show Steps p.tables e below (s₁.setTop (mkF m 4 #[.val (.int p57), .unset, .unset, .unset] [(.int (p57 &&& (2147483647 : Int32)))])) _
    refine XS.bipush X0.here hx rfl (hb hby at_4) ?_
    show Steps p.tables e below (s₁.setTop (mkF m 6 #[.val (.int p57), .unset, .unset, .unset] [(.int (11 : Int32)), (.int (p57 &&& (2147483647 : Int32)))])) _
    refine iremM X0 hx rfl (hb hby at_6) rfl (by decide) ?_
    show Steps p.tables e below (s₁.setTop (mkF m 7 #[.val (.int p57), .unset, .unset, .unset] [(.int ((p57 &&& (2147483647 : Int32)) % (11 : Int32)))])) _
    refine XS.istoreN X0.here hx rfl (hb hby at_7) rfl (l' := #[.val (.int p57), .val (.int ((p57 &&& (2147483647 : Int32)) % (11 : Int32))), .unset, .unset]) rfl ?_
    show Steps p.tables e below (s₁.setTop (mkF m 8 #[.val (.int p57), .val (.int ((p57 &&& (2147483647 : Int32)) % (11 : Int32))), .unset, .unset] [])) _
    refine XS.iloadN X0.here hx rfl (hb hby at_8) rfl ?_
    show Steps p.tables e below (s₁.setTop (mkF m 9 #[.val (.int p57), .val (.int ((p57 &&& (2147483647 : Int32)) % (11 : Int32))), .unset, .unset] [(.int ((p57 &&& (2147483647 : Int32)) % (11 : Int32)))])) _
    refine st61 _ ?_
    show Steps p.tables e below (T61.setTop (mkF m 12 #[.val (.int p57), .val (.int ((p57 &&& (2147483647 : Int32)) % (11 : Int32))), .unset, .unset] [(.ref w62)])) _
    refine XS.astoreN X61.here hx rfl (hb hby at_12) rfl rfl (l' := #[.val (.int p57), .val (.int ((p57 &&& (2147483647 : Int32)) % (11 : Int32))), .val (.ref w62), .unset]) rfl ?_
    show Steps p.tables e below (T61.setTop (mkF m 13 #[.val (.int p57), .val (.int ((p57 &&& (2147483647 : Int32)) % (11 : Int32))), .val (.ref w62), .unset] [])) _
    refine XS.iloadN X61.here hx rfl (hb hby at_13) rfl ?_
    show Steps p.tables e below (T61.setTop (mkF m 14 #[.val (.int p57), .val (.int ((p57 &&& (2147483647 : Int32)) % (11 : Int32))), .val (.ref w62), .unset] [(.int ((p57 &&& (2147483647 : Int32)) % (11 : Int32)))])) _
    refine XS.iconst X61.here hx rfl (hb hby at_14) ?_
    show Steps p.tables e below (T61.setTop (mkF m 15 #[.val (.int p57), .val (.int ((p57 &&& (2147483647 : Int32)) % (11 : Int32))), .val (.ref w62), .unset] [(.int (3 : Int32)), (.int ((p57 &&& (2147483647 : Int32)) % (11 : Int32)))])) _
    refine XS.icmpNo X61.here hx rfl (hb hby at_15) rfl (tlt H6).2.2.2 ?_
    show Steps p.tables e below (T61.setTop (mkF m 18 #[.val (.int p57), .val (.int ((p57 &&& (2147483647 : Int32)) % (11 : Int32))), .val (.ref w62), .unset] [])) _
    refine XS.iloadN X61.here hx rfl (hb hby at_18) rfl ?_
    show Steps p.tables e below (T61.setTop (mkF m 19 #[.val (.int p57), .val (.int ((p57 &&& (2147483647 : Int32)) % (11 : Int32))), .val (.ref w62), .unset] [(.int ((p57 &&& (2147483647 : Int32)) % (11 : Int32)))])) _
    refine XS.bipush X61.here hx rfl (hb hby at_19) ?_
    show Steps p.tables e below (T61.setTop (mkF m 21 #[.val (.int p57), .val (.int ((p57 &&& (2147483647 : Int32)) % (11 : Int32))), .val (.ref w62), .unset] [(.int (10 : Int32)), (.int ((p57 &&& (2147483647 : Int32)) % (11 : Int32)))])) _
    refine XS.icmpYes X61.here hx rfl (pc0 := 21) (pc' := 28) rfl (hb hby at_21) rfl (feq H7).2 (by decide) (by decide) ?_
    show Steps p.tables e below (T61.setTop (mkF m 28 #[.val (.int p57), .val (.int ((p57 &&& (2147483647 : Int32)) % (11 : Int32))), .val (.ref w62), .unset] [])) _
    refine XS.iconst X61.here hx rfl (hb hby at_28) ?_
    show Steps p.tables e below (T61.setTop (mkF m 29 #[.val (.int p57), .val (.int ((p57 &&& (2147483647 : Int32)) % (11 : Int32))), .val (.ref w62), .unset] [(.int (0 : Int32))])) _
    refine XS.istoreN X61.here hx rfl (hb hby at_29) rfl (l' := #[.val (.int p57), .val (.int ((p57 &&& (2147483647 : Int32)) % (11 : Int32))), .val (.ref w62), .val (.int (0 : Int32))]) rfl ?_
    show Steps p.tables e below (T61.setTop (mkF m 30 #[.val (.int p57), .val (.int ((p57 &&& (2147483647 : Int32)) % (11 : Int32))), .val (.ref w62), .val (.int (0 : Int32))] [])) _
    refine XS.aloadN X61.here hx rfl (hb hby at_30) rfl rfl ?_
    show Steps p.tables e below (T61.setTop (mkF m 31 #[.val (.int p57), .val (.int ((p57 &&& (2147483647 : Int32)) % (11 : Int32))), .val (.ref w62), .val (.int (0 : Int32))] [(.ref w62)])) _
    refine st68.trans ?_
    show Steps p.tables e below (T68.setTop (mkF m 34 #[.val (.int p57), .val (.int ((p57 &&& (2147483647 : Int32)) % (11 : Int32))), .val (.ref w62), .val (.int (0 : Int32))] [(.int (0 : Int32))])) _
    refine XS.iloadN X68.here hx rfl (hb hby at_34) rfl ?_
    show Steps p.tables e below (T68.setTop (mkF m 35 #[.val (.int p57), .val (.int ((p57 &&& (2147483647 : Int32)) % (11 : Int32))), .val (.ref w62), .val (.int (0 : Int32))] [(.int (0 : Int32)), (.int (0 : Int32))])) _
    refine XS.icmpNo X68.here hx rfl (hb hby at_35) rfl (teq (rfl : (0 : Int32) = (0 : Int32))).2 ?_
    show Steps p.tables e below (T68.setTop (mkF m 38 #[.val (.int p57), .val (.int ((p57 &&& (2147483647 : Int32)) % (11 : Int32))), .val (.ref w62), .val (.int (0 : Int32))] [])) _
    refine XS.iconst X68.here hx rfl (hb hby at_38) ?_
    show Steps p.tables e below (T68.setTop (mkF m 39 #[.val (.int p57), .val (.int ((p57 &&& (2147483647 : Int32)) % (11 : Int32))), .val (.ref w62), .val (.int (0 : Int32))] [(.int (1 : Int32))])) _
    refine XS.goto X68.here hx rfl (pc0 := 39) (pc' := 43) rfl (hb hby at_39) (by decide) (by decide) ?_
    show Steps p.tables e below (T68.setTop (mkF m 43 #[.val (.int p57), .val (.int ((p57 &&& (2147483647 : Int32)) % (11 : Int32))), .val (.ref w62), .val (.int (0 : Int32))] [(.int (1 : Int32))])) _
    exact retN X68 hx (t := .boolean) Bd.returns (by simp) (hb hby at_43) hr
  · show OQl (some (.int (1 : Int32))) n0 _ T68.heap _
    exact ⟨rfl, N68⟩
theorem d1_44 : decode method_3_code 44 = .ok (.iload_n 0, 1) := by decide +kernel
theorem d1_45 : decode method_3_code 45 = .ok (.iconst 5, 1) := by decide +kernel
theorem d1_46 : decode method_3_code 46 = .ok (.if_icmp .ne 7, 3) := by decide +kernel
theorem d1_49 : decode method_3_code 49 = .ok (.getstatic 36, 3) := by decide +kernel
theorem d1_52 : decode method_3_code 52 = .ok (.areturn, 1) := by decide +kernel
set_option maxRecDepth 65536 in
set_option maxHeartbeats 40000000 in
theorem r1_6 (l : Launch) (Z : State) (a0 : Array Value) (hw : ∀ d ∈ tables_1, d.before a0 Z = true) (p72 : Int32) (w73 : Addr) (h0 : Heap) (n0 : Nat) (Z0 : n0 ≤ h0.size) (H0 : ¬ (p72 = (0 : Int32))) (H1 : ¬ (p72 = (1 : Int32))) (H2 : ¬ (p72 = (2 : Int32))) (H3 : ¬ (p72 = (3 : Int32))) (H4 : ¬ (p72 = (4 : Int32))) (H5 : p72 = (5 : Int32)) (H6 : Sta Z h0 "com/example/resense/resense/engine/Measure" "GM_MAP" "Lcom/example/resense/resense/engine/Measure;" (.ref w73)) :
    OMet l Z (⟨"com/example/resense/resense/engine/MeasureIsCountPinLaw", "pick", "(I)Lcom/example/resense/resense/engine/Measure;"⟩ : MethodName) method_3_code 1 (some (.object "com/example/resense/resense/engine/Measure")) [] ({ frames := 0, cells := 0, slots := 0, locals := 0 } : Room) h0 #[(.int p72)] (OQp (some (.ref w73)) h0 n0) := by
  refine MetFree.of_bodySF (plainFor_of_name pn_com_example_resense_resense_engine_MeasureIsCountPinLaw) hisR ?_
  intro p e s m args below meth c s₁ Bd hml0 hP hK
  obtain ⟨rfl, hZ, hh⟩ := hP
  have hx := Bd.exec
  have hby := Bd.bytes
  have hml : c.maxLocals = 1 := hml0
  have hown : s.vm.findClass "com/example/resense/resense/engine/MeasureIsCountPinLaw" = some m.cls := findClass_of_methodNamed Bd.named
  have hnm := (name_of_methodNamed Bd.named Bd.method).1
  have X0 : Stand p l e ({ frames := 0, cells := 0, slots := 0, locals := 0 } : Room) s m #[(.int p72)] below meth c s₁ [] 0 0 := Stand.of_body Bd
  have e0 : s₁.heap = h0 := by rw [← hh, Bd.state]; rfl
  have N0 := Fr.nil n0
  have pre0 : ∀ t, Steps p.tables e below (s₁.setTop (mkF m 0 #[.val (.int p72)] [])) t → Steps p.tables e below (s₁.setTop (entryFrame m #[(.int p72)] 1)) t := fun t k => castTop (ef_1_v m p72) k
  obtain ⟨T74, X74, e74, st74⟩ := getS2 X0 hx hZ hown (host := "") (Or.inl (hw _ (List.mem_of_getElem? (i := 33) rfl))) Via.refl e0 H6 (g := (mkF m 49 #[.val (.int p72)] [])) rfl (hb hby d1_49)
  obtain ⟨fs, hr, hrun, hended, hW, hsame⟩ := X74.leave (v := some (.ref w73)) (fun h => by rw [Bd.returns] at h; cases h)
  refine ⟨_, _, pre0 _ ?_, hrun, hended, _, _, rfl, ?_, ⟨_, rfl⟩, hW, hsame.mono (by decide) (by decide)⟩
  · show Steps p.tables e below (s₁.setTop (mkF m 0 #[.val (.int p72)] [])) _
    refine XS.iloadN X0.here hx rfl (hb hby d1_0) rfl ?_
    show Steps p.tables e below (s₁.setTop (mkF m 1 #[.val (.int p72)] [(.int p72)])) _
    refine XS.ifYes X0.here hx rfl (pc0 := 1) (pc' := 8) rfl (hb hby d1_1) rfl ((if0 _ _).trans (feq H0).2) (by decide) (by decide) ?_
    show Steps p.tables e below (s₁.setTop (mkF m 8 #[.val (.int p72)] [])) _
    refine XS.iloadN X0.here hx rfl (hb hby d1_8) rfl ?_
    show Steps p.tables e below (s₁.setTop (mkF m 9 #[.val (.int p72)] [(.int p72)])) _
    refine XS.iconst X0.here hx rfl (hb hby d1_9) ?_
    show Steps p.tables e below (s₁.setTop (mkF m 10 #[.val (.int p72)] [(.int (1 : Int32)), (.int p72)])) _
    refine XS.icmpYes X0.here hx rfl (pc0 := 10) (pc' := 17) rfl (hb hby d1_10) rfl (feq H1).2 (by decide) (by decide) ?_
    show Steps p.tables e below (s₁.setTop (mkF m 17 #[.val (.int p72)] [])) _
    refine XS.iloadN X0.here hx rfl (hb hby d1_17) rfl ?_
    show Steps p.tables e below (s₁.setTop (mkF m 18 #[.val (.int p72)] [(.int p72)])) _
    refine XS.iconst X0.here hx rfl (hb hby d1_18) ?_
    show Steps p.tables e below (s₁.setTop (mkF m 19 #[.val (.int p72)] [(.int (2 : Int32)), (.int p72)])) _
    refine XS.icmpYes X0.here hx rfl (pc0 := 19) (pc' := 26) rfl (hb hby d1_19) rfl (feq H2).2 (by decide) (by decide) ?_
    show Steps p.tables e below (s₁.setTop (mkF m 26 #[.val (.int p72)] [])) _
    refine XS.iloadN X0.here hx rfl (hb hby d1_26) rfl ?_
    show Steps p.tables e below (s₁.setTop (mkF m 27 #[.val (.int p72)] [(.int p72)])) _
    refine XS.iconst X0.here hx rfl (hb hby d1_27) ?_
    show Steps p.tables e below (s₁.setTop (mkF m 28 #[.val (.int p72)] [(.int (3 : Int32)), (.int p72)])) _
    refine XS.icmpYes X0.here hx rfl (pc0 := 28) (pc' := 35) rfl (hb hby d1_28) rfl (feq H3).2 (by decide) (by decide) ?_
    show Steps p.tables e below (s₁.setTop (mkF m 35 #[.val (.int p72)] [])) _
    refine XS.iloadN X0.here hx rfl (hb hby d1_35) rfl ?_
    show Steps p.tables e below (s₁.setTop (mkF m 36 #[.val (.int p72)] [(.int p72)])) _
    refine XS.iconst X0.here hx rfl (hb hby d1_36) ?_
    show Steps p.tables e below (s₁.setTop (mkF m 37 #[.val (.int p72)] [(.int (4 : Int32)), (.int p72)])) _
    refine XS.icmpYes X0.here hx rfl (pc0 := 37) (pc' := 44) rfl (hb hby d1_37) rfl (feq H4).2 (by decide) (by decide) ?_
    show Steps p.tables e below (s₁.setTop (mkF m 44 #[.val (.int p72)] [])) _
    refine XS.iloadN X0.here hx rfl (hb hby d1_44) rfl ?_
    show Steps p.tables e below (s₁.setTop (mkF m 45 #[.val (.int p72)] [(.int p72)])) _
    refine XS.iconst X0.here hx rfl (hb hby d1_45) ?_
    show Steps p.tables e below (s₁.setTop (mkF m 46 #[.val (.int p72)] [(.int (5 : Int32)), (.int p72)])) _
    refine XS.icmpNo X0.here hx rfl (hb hby d1_46) rfl (teq H5).2 ?_
    show Steps p.tables e below (s₁.setTop (mkF m 49 #[.val (.int p72)] [])) _
    refine st74 _ ?_
    show Steps p.tables e below (T74.setTop (mkF m 52 #[.val (.int p72)] [(.ref w73)])) _
    jvm_step X74.here [X74.here.top, hx, (hb hby d1_52), X74.method', Bd.returns, Value.isRef, FieldType.isReference]
    first | (intro acts; rw [hr _ acts rfl rfl rfl]) | rw [hr _ _ rfl rfl rfl]
    exact Steps.refl _
  · show OQp (some (.ref w73)) h0 n0 _ T74.heap _
    rw [e74]
    exact ⟨rfl, N0, rfl⟩
set_option maxRecDepth 65536 in
set_option maxHeartbeats 40000000 in
theorem r0_6 (l : Launch) (Z : State) (a0 : Array Value) (hw : ∀ d ∈ tables_1, d.before a0 Z = true) (p71 : Int32) (w76 : Addr) (w83 : Addr) (w84 : Addr) (h0 : Heap) (n0 : Nat) (Z0 : n0 ≤ h0.size) (H0 : ¬ (((p71 &&& (2147483647 : Int32)) % (11 : Int32)) = (0 : Int32))) (H1 : ¬ (((p71 &&& (2147483647 : Int32)) % (11 : Int32)) = (1 : Int32))) (H2 : ¬ (((p71 &&& (2147483647 : Int32)) % (11 : Int32)) = (2 : Int32))) (H3 : ¬ (((p71 &&& (2147483647 : Int32)) % (11 : Int32)) = (3 : Int32))) (H4 : ¬ (((p71 &&& (2147483647 : Int32)) % (11 : Int32)) = (4 : Int32))) (H5 : ((p71 &&& (2147483647 : Int32)) % (11 : Int32)) = (5 : Int32)) (H6 : Sta Z h0 "com/example/resense/resense/engine/Measure" "GM_MAP" "Lcom/example/resense/resense/engine/Measure;" (.ref w76)) (H7 : (3 : Int32) < ((p71 &&& (2147483647 : Int32)) % (11 : Int32))) (H8 : ¬ (((p71 &&& (2147483647 : Int32)) % (11 : Int32)) = (10 : Int32))) (H9 : Fld Z h0 w76 "com/example/resense/resense/engine/Measure" "combination" "Lcom/example/resense/resense/engine/Measure$Combination;" (.ref w83)) (H10 : Sta Z h0 "com/example/resense/resense/engine/Measure$Combination" "SUM" "Lcom/example/resense/resense/engine/Measure$Combination;" (.ref w84)) (H11 : w83 ≠ w84) (H12 : Exa Z h0 w76 "com/example/resense/resense/engine/Measure") :
    OMet l Z x code maxLocals ret tables_1 room_1 h0 #[(.int p71)] (OQl (some (.int (1 : Int32))) n0) := by
  refine MetFree.of_bodySF (plainFor_of_name pn_com_example_resense_resense_engine_MeasureIsCountPinLaw) hisR ?_
  intro p e s m args below meth c s₁ Bd hml0 hP hK
  obtain ⟨rfl, hZ, hh⟩ := hP
  have hx := Bd.exec
  have hby := Bd.bytes
  have hml : c.maxLocals = 4 := hml0
  have hown : s.vm.findClass "com/example/resense/resense/engine/MeasureIsCountPinLaw" = some m.cls := findClass_of_methodNamed Bd.named
  have hnm := (name_of_methodNamed Bd.named Bd.method).1
  have X0 : Stand p l e room_1 s m #[(.int p71)] below meth c s₁ [] 0 0 := Stand.of_body Bd
  have e0 : s₁.heap = h0 := by rw [← hh, Bd.state]; rfl
  have N0 := Fr.nil n0
  have pre0 : ∀ t, Steps p.tables e below (s₁.setTop (mkF m 0 #[.val (.int p71), .unset, .unset, .unset] [])) t → Steps p.tables e below (s₁.setTop (entryFrame m #[(.int p71)] maxLocals)) t := fun t k => castTop (ef_0_v m p71) k
  obtain ⟨_, _, ⟨T75, L75, k75, n75⟩, -, X75, ⟨Lc75, hQ75, l75, y75, z75⟩, st75⟩ := Jvm.LawKit.callS X0 hx (y := (⟨"com/example/resense/resense/engine/MeasureIsCountPinLaw", "pick", "(I)Lcom/example/resense/resense/engine/Measure;"⟩ : MethodName)) hown (mvT hZ (hw _ (List.mem_of_getElem? (i := 1) rfl))) (mvT hZ (hw _ (List.mem_of_getElem? (i := 2) rfl))) (mvT hZ (hw _ (List.mem_of_getElem? (i := 3) rfl))) (mvT hZ (hw _ (List.mem_of_getElem? (i := 4) rfl))) (by decide) (backOf (W := 0) (r1_6 l Z a0 hw ((p71 &&& (2147483647 : Int32)) % (11 : Int32)) w76 h0 n0 Z0 H0 H1 H2 H3 H4 H5 H6) hZ (hw _ (List.mem_of_getElem? (i := 4) rfl)) (hw _ (List.mem_of_getElem? (i := 3) rfl)) (by decide) (by decide)) (g := (mkF m 9 #[.val (.int p71), .val (.int ((p71 &&& (2147483647 : Int32)) % (11 : Int32))), .unset, .unset] [(.int ((p71 &&& (2147483647 : Int32)) % (11 : Int32)))])) rfl (by rw [hml]; rfl) (argsL := [(.int ((p71 &&& (2147483647 : Int32)) % (11 : Int32)))]) (rest := []) (lenOf pd_0 rfl) rfl (by show 2 * 0 + _ ≤ _; exact Nat.le_of_eq rfl) (hb hby at_9) (fun _ _ => ⟨rfl, e0, (by decide : 0 + 0 ≤ _), (by decide : 0 + 0 ≤ _)⟩)
  dsimp only [Pt.U, Pt.locs, Pt.cells, Pt.slots] at X75 l75 y75 z75 st75 hQ75
  subst l75 y75 z75
  obtain ⟨rfl, N75q, e75⟩ := hQ75
  have N75 := Fr.app N0 N75q
  obtain ⟨cq82, kq82, q82a, q82b, q82c⟩ := isOf hZ e75 H12
  obtain ⟨_, _, ⟨T82, L82, k82, n82⟩, -, X82, ⟨Lc82, hQ82, l82, y82, z82⟩, st82⟩ := X75.virtualBack hx (y := (⟨"com/example/resense/resense/engine/Measure", "isCount", "()Z"⟩ : MethodName)) (z := (⟨"com/example/resense/resense/engine/Measure", "isCount", "()Z"⟩ : MethodName)) hown (mvT hZ (hw _ (List.mem_of_getElem? (i := 8) rfl))) (mvT hZ (hw _ (List.mem_of_getElem? (i := 9) rfl))) (notFace_of_selects (args := #[]) (mvT hZ (hw _ (List.mem_of_getElem? (i := 11) rfl)))) (mvT hZ (hw _ (List.mem_of_getElem? (i := 11) rfl))) (mvT hZ (hw _ (List.mem_of_getElem? (i := 10) rfl))) (by decide) (backOf (W := 0) (r2_2 l Z a0 hw w76 w83 w84 h0 n0 Z0 H9 H10 H11) hZ (hw _ (List.mem_of_getElem? (i := 12) rfl)) (hw _ (List.mem_of_getElem? (i := 6) rfl)) (by decide) (by decide)) q82a q82c (g := (mkF m 31 #[.val (.int p71), .val (.int ((p71 &&& (2147483647 : Int32)) % (11 : Int32))), .val (.ref w76), .val (.int (0 : Int32))] [(.ref w76)])) rfl (by rw [hml]; rfl) (Steps.refl _) (argsL := []) (rest := []) (lenOf pd_1 rfl) rfl (by show 2 * 0 + _ ≤ _; exact Nat.le_of_eq rfl) (hb hby at_31) (fun _ _ => ⟨rfl, e75, (by decide : 0 + 0 ≤ _), (by decide : 0 + 0 ≤ _)⟩)
  dsimp only [Pt.U, Pt.locs, Pt.cells, Pt.slots] at X82 l82 y82 z82 st82 hQ82
  subst l82 y82 z82
  obtain ⟨rfl, N82q, e82⟩ := hQ82
  have N82 := Fr.app N75 N82q
  obtain ⟨fs, hr, hrun, hended, hW, hsame⟩ := X82.leave (v := some (.int (1 : Int32))) (fun h => by rw [Bd.returns] at h; cases h)
  refine ⟨_, _, pre0 _ ?_, hrun, hended, _, _, rfl, ?_, ⟨_, rfl⟩, hW, hsame.mono (by decide) (by decide)⟩
  · show Steps p.tables e below (s₁.setTop (mkF m 0 #[.val (.int p71), .unset, .unset, .unset] [])) _
    refine XS.iloadN X0.here hx rfl (hb hby at_0) rfl ?_
    show Steps p.tables e below (s₁.setTop (mkF m 1 #[.val (.int p71), .unset, .unset, .unset] [(.int p71)])) _
    refine X0.ldcInt hx hown (mvT hZ (hw _ (List.mem_of_getElem? (i := 0) rfl))) (g := (mkF m 1 #[.val (.int p71), .unset, .unset, .unset] [(.int p71)])) rfl (hb hby at_1) _ ?_
    show Steps p.tables e below (s₁.setTop (mkF m 3 #[.val (.int p71), .unset, .unset, .unset] [(.int (2147483647 : Int32)), (.int p71)])) _
    refine XS.iand X0.here hx rfl (hb hby at_3) rfl ?_
    show Steps p.tables e below (s₁.setTop (mkF m 4 #[.val (.int p71), .unset, .unset, .unset] [(.int (p71 &&& (2147483647 : Int32)))])) _
    refine XS.bipush X0.here hx rfl (hb hby at_4) ?_
    show Steps p.tables e below (s₁.setTop (mkF m 6 #[.val (.int p71), .unset, .unset, .unset] [(.int (11 : Int32)), (.int (p71 &&& (2147483647 : Int32)))])) _
    refine iremM X0 hx rfl (hb hby at_6) rfl (by decide) ?_
    show Steps p.tables e below (s₁.setTop (mkF m 7 #[.val (.int p71), .unset, .unset, .unset] [(.int ((p71 &&& (2147483647 : Int32)) % (11 : Int32)))])) _
    refine XS.istoreN X0.here hx rfl (hb hby at_7) rfl (l' := #[.val (.int p71), .val (.int ((p71 &&& (2147483647 : Int32)) % (11 : Int32))), .unset, .unset]) rfl ?_
    show Steps p.tables e below (s₁.setTop (mkF m 8 #[.val (.int p71), .val (.int ((p71 &&& (2147483647 : Int32)) % (11 : Int32))), .unset, .unset] [])) _
    refine XS.iloadN X0.here hx rfl (hb hby at_8) rfl ?_
    show Steps p.tables e below (s₁.setTop (mkF m 9 #[.val (.int p71), .val (.int ((p71 &&& (2147483647 : Int32)) % (11 : Int32))), .unset, .unset] [(.int ((p71 &&& (2147483647 : Int32)) % (11 : Int32)))])) _
    refine st75 _ ?_
    show Steps p.tables e below (T75.setTop (mkF m 12 #[.val (.int p71), .val (.int ((p71 &&& (2147483647 : Int32)) % (11 : Int32))), .unset, .unset] [(.ref w76)])) _
    refine XS.astoreN X75.here hx rfl (hb hby at_12) rfl rfl (l' := #[.val (.int p71), .val (.int ((p71 &&& (2147483647 : Int32)) % (11 : Int32))), .val (.ref w76), .unset]) rfl ?_
    show Steps p.tables e below (T75.setTop (mkF m 13 #[.val (.int p71), .val (.int ((p71 &&& (2147483647 : Int32)) % (11 : Int32))), .val (.ref w76), .unset] [])) _
    refine XS.iloadN X75.here hx rfl (hb hby at_13) rfl ?_
    show Steps p.tables e below (T75.setTop (mkF m 14 #[.val (.int p71), .val (.int ((p71 &&& (2147483647 : Int32)) % (11 : Int32))), .val (.ref w76), .unset] [(.int ((p71 &&& (2147483647 : Int32)) % (11 : Int32)))])) _
    refine XS.iconst X75.here hx rfl (hb hby at_14) ?_
    show Steps p.tables e below (T75.setTop (mkF m 15 #[.val (.int p71), .val (.int ((p71 &&& (2147483647 : Int32)) % (11 : Int32))), .val (.ref w76), .unset] [(.int (3 : Int32)), (.int ((p71 &&& (2147483647 : Int32)) % (11 : Int32)))])) _
    refine XS.icmpNo X75.here hx rfl (hb hby at_15) rfl (tlt H7).2.2.2 ?_
    show Steps p.tables e below (T75.setTop (mkF m 18 #[.val (.int p71), .val (.int ((p71 &&& (2147483647 : Int32)) % (11 : Int32))), .val (.ref w76), .unset] [])) _
    refine XS.iloadN X75.here hx rfl (hb hby at_18) rfl ?_
    show Steps p.tables e below (T75.setTop (mkF m 19 #[.val (.int p71), .val (.int ((p71 &&& (2147483647 : Int32)) % (11 : Int32))), .val (.ref w76), .unset] [(.int ((p71 &&& (2147483647 : Int32)) % (11 : Int32)))])) _
    refine XS.bipush X75.here hx rfl (hb hby at_19) ?_
    show Steps p.tables e below (T75.setTop (mkF m 21 #[.val (.int p71), .val (.int ((p71 &&& (2147483647 : Int32)) % (11 : Int32))), .val (.ref w76), .unset] [(.int (10 : Int32)), (.int ((p71 &&& (2147483647 : Int32)) % (11 : Int32)))])) _
    refine XS.icmpYes X75.here hx rfl (pc0 := 21) (pc' := 28) rfl (hb hby at_21) rfl (feq H8).2 (by decide) (by decide) ?_
    show Steps p.tables e below (T75.setTop (mkF m 28 #[.val (.int p71), .val (.int ((p71 &&& (2147483647 : Int32)) % (11 : Int32))), .val (.ref w76), .unset] [])) _
    refine XS.iconst X75.here hx rfl (hb hby at_28) ?_
    show Steps p.tables e below (T75.setTop (mkF m 29 #[.val (.int p71), .val (.int ((p71 &&& (2147483647 : Int32)) % (11 : Int32))), .val (.ref w76), .unset] [(.int (0 : Int32))])) _
    refine XS.istoreN X75.here hx rfl (hb hby at_29) rfl (l' := #[.val (.int p71), .val (.int ((p71 &&& (2147483647 : Int32)) % (11 : Int32))), .val (.ref w76), .val (.int (0 : Int32))]) rfl ?_
    show Steps p.tables e below (T75.setTop (mkF m 30 #[.val (.int p71), .val (.int ((p71 &&& (2147483647 : Int32)) % (11 : Int32))), .val (.ref w76), .val (.int (0 : Int32))] [])) _
    refine XS.aloadN X75.here hx rfl (hb hby at_30) rfl rfl ?_
    show Steps p.tables e below (T75.setTop (mkF m 31 #[.val (.int p71), .val (.int ((p71 &&& (2147483647 : Int32)) % (11 : Int32))), .val (.ref w76), .val (.int (0 : Int32))] [(.ref w76)])) _
    refine st82.trans ?_
    show Steps p.tables e below (T82.setTop (mkF m 34 #[.val (.int p71), .val (.int ((p71 &&& (2147483647 : Int32)) % (11 : Int32))), .val (.ref w76), .val (.int (0 : Int32))] [(.int (0 : Int32))])) _
    refine XS.iloadN X82.here hx rfl (hb hby at_34) rfl ?_
    show Steps p.tables e below (T82.setTop (mkF m 35 #[.val (.int p71), .val (.int ((p71 &&& (2147483647 : Int32)) % (11 : Int32))), .val (.ref w76), .val (.int (0 : Int32))] [(.int (0 : Int32)), (.int (0 : Int32))])) _
    refine XS.icmpNo X82.here hx rfl (hb hby at_35) rfl (teq (rfl : (0 : Int32) = (0 : Int32))).2 ?_
    show Steps p.tables e below (T82.setTop (mkF m 38 #[.val (.int p71), .val (.int ((p71 &&& (2147483647 : Int32)) % (11 : Int32))), .val (.ref w76), .val (.int (0 : Int32))] [])) _
    refine XS.iconst X82.here hx rfl (hb hby at_38) ?_
    show Steps p.tables e below (T82.setTop (mkF m 39 #[.val (.int p71), .val (.int ((p71 &&& (2147483647 : Int32)) % (11 : Int32))), .val (.ref w76), .val (.int (0 : Int32))] [(.int (1 : Int32))])) _
    refine XS.goto X82.here hx rfl (pc0 := 39) (pc' := 43) rfl (hb hby at_39) (by decide) (by decide) ?_
    show Steps p.tables e below (T82.setTop (mkF m 43 #[.val (.int p71), .val (.int ((p71 &&& (2147483647 : Int32)) % (11 : Int32))), .val (.ref w76), .val (.int (0 : Int32))] [(.int (1 : Int32))])) _
    exact retN X82 hx (t := .boolean) Bd.returns (by simp) (hb hby at_43) hr
  · show OQl (some (.int (1 : Int32))) n0 _ T82.heap _
    exact ⟨rfl, N82⟩
theorem d1_53 : decode method_3_code 53 = .ok (.iload_n 0, 1) := by decide +kernel
theorem d1_54 : decode method_3_code 54 = .ok (.bipush 6, 2) := by decide +kernel
theorem d1_56 : decode method_3_code 56 = .ok (.if_icmp .ne 7, 3) := by decide +kernel
theorem d1_59 : decode method_3_code 59 = .ok (.getstatic 39, 3) := by decide +kernel
theorem d1_62 : decode method_3_code 62 = .ok (.areturn, 1) := by decide +kernel
set_option maxRecDepth 65536 in
set_option maxHeartbeats 40000000 in
theorem r1_7 (l : Launch) (Z : State) (a0 : Array Value) (hw : ∀ d ∈ tables_1, d.before a0 Z = true) (p86 : Int32) (w87 : Addr) (h0 : Heap) (n0 : Nat) (Z0 : n0 ≤ h0.size) (H0 : ¬ (p86 = (0 : Int32))) (H1 : ¬ (p86 = (1 : Int32))) (H2 : ¬ (p86 = (2 : Int32))) (H3 : ¬ (p86 = (3 : Int32))) (H4 : ¬ (p86 = (4 : Int32))) (H5 : ¬ (p86 = (5 : Int32))) (H6 : p86 = (6 : Int32)) (H7 : Sta Z h0 "com/example/resense/resense/engine/Measure" "R_PREC" "Lcom/example/resense/resense/engine/Measure;" (.ref w87)) :
    OMet l Z (⟨"com/example/resense/resense/engine/MeasureIsCountPinLaw", "pick", "(I)Lcom/example/resense/resense/engine/Measure;"⟩ : MethodName) method_3_code 1 (some (.object "com/example/resense/resense/engine/Measure")) [] ({ frames := 0, cells := 0, slots := 0, locals := 0 } : Room) h0 #[(.int p86)] (OQp (some (.ref w87)) h0 n0) := by
  refine MetFree.of_bodySF (plainFor_of_name pn_com_example_resense_resense_engine_MeasureIsCountPinLaw) hisR ?_
  intro p e s m args below meth c s₁ Bd hml0 hP hK
  obtain ⟨rfl, hZ, hh⟩ := hP
  have hx := Bd.exec
  have hby := Bd.bytes
  have hml : c.maxLocals = 1 := hml0
  have hown : s.vm.findClass "com/example/resense/resense/engine/MeasureIsCountPinLaw" = some m.cls := findClass_of_methodNamed Bd.named
  have hnm := (name_of_methodNamed Bd.named Bd.method).1
  have X0 : Stand p l e ({ frames := 0, cells := 0, slots := 0, locals := 0 } : Room) s m #[(.int p86)] below meth c s₁ [] 0 0 := Stand.of_body Bd
  have e0 : s₁.heap = h0 := by rw [← hh, Bd.state]; rfl
  have N0 := Fr.nil n0
  have pre0 : ∀ t, Steps p.tables e below (s₁.setTop (mkF m 0 #[.val (.int p86)] [])) t → Steps p.tables e below (s₁.setTop (entryFrame m #[(.int p86)] 1)) t := fun t k => castTop (ef_1_v m p86) k
  obtain ⟨T88, X88, e88, st88⟩ := getS2 X0 hx hZ hown (host := "") (Or.inl (hw _ (List.mem_of_getElem? (i := 36) rfl))) Via.refl e0 H7 (g := (mkF m 59 #[.val (.int p86)] [])) rfl (hb hby d1_59)
  obtain ⟨fs, hr, hrun, hended, hW, hsame⟩ := X88.leave (v := some (.ref w87)) (fun h => by rw [Bd.returns] at h; cases h)
  refine ⟨_, _, pre0 _ ?_, hrun, hended, _, _, rfl, ?_, ⟨_, rfl⟩, hW, hsame.mono (by decide) (by decide)⟩
  · show Steps p.tables e below (s₁.setTop (mkF m 0 #[.val (.int p86)] [])) _
    refine XS.iloadN X0.here hx rfl (hb hby d1_0) rfl ?_
    show Steps p.tables e below (s₁.setTop (mkF m 1 #[.val (.int p86)] [(.int p86)])) _
    refine XS.ifYes X0.here hx rfl (pc0 := 1) (pc' := 8) rfl (hb hby d1_1) rfl ((if0 _ _).trans (feq H0).2) (by decide) (by decide) ?_
    show Steps p.tables e below (s₁.setTop (mkF m 8 #[.val (.int p86)] [])) _
    refine XS.iloadN X0.here hx rfl (hb hby d1_8) rfl ?_
    show Steps p.tables e below (s₁.setTop (mkF m 9 #[.val (.int p86)] [(.int p86)])) _
    refine XS.iconst X0.here hx rfl (hb hby d1_9) ?_
    show Steps p.tables e below (s₁.setTop (mkF m 10 #[.val (.int p86)] [(.int (1 : Int32)), (.int p86)])) _
    refine XS.icmpYes X0.here hx rfl (pc0 := 10) (pc' := 17) rfl (hb hby d1_10) rfl (feq H1).2 (by decide) (by decide) ?_
    show Steps p.tables e below (s₁.setTop (mkF m 17 #[.val (.int p86)] [])) _
    refine XS.iloadN X0.here hx rfl (hb hby d1_17) rfl ?_
    show Steps p.tables e below (s₁.setTop (mkF m 18 #[.val (.int p86)] [(.int p86)])) _
    refine XS.iconst X0.here hx rfl (hb hby d1_18) ?_
    show Steps p.tables e below (s₁.setTop (mkF m 19 #[.val (.int p86)] [(.int (2 : Int32)), (.int p86)])) _
    refine XS.icmpYes X0.here hx rfl (pc0 := 19) (pc' := 26) rfl (hb hby d1_19) rfl (feq H2).2 (by decide) (by decide) ?_
    show Steps p.tables e below (s₁.setTop (mkF m 26 #[.val (.int p86)] [])) _
    refine XS.iloadN X0.here hx rfl (hb hby d1_26) rfl ?_
    show Steps p.tables e below (s₁.setTop (mkF m 27 #[.val (.int p86)] [(.int p86)])) _
    refine XS.iconst X0.here hx rfl (hb hby d1_27) ?_
    show Steps p.tables e below (s₁.setTop (mkF m 28 #[.val (.int p86)] [(.int (3 : Int32)), (.int p86)])) _
    refine XS.icmpYes X0.here hx rfl (pc0 := 28) (pc' := 35) rfl (hb hby d1_28) rfl (feq H3).2 (by decide) (by decide) ?_
    show Steps p.tables e below (s₁.setTop (mkF m 35 #[.val (.int p86)] [])) _
    refine XS.iloadN X0.here hx rfl (hb hby d1_35) rfl ?_
    show Steps p.tables e below (s₁.setTop (mkF m 36 #[.val (.int p86)] [(.int p86)])) _
    refine XS.iconst X0.here hx rfl (hb hby d1_36) ?_
    show Steps p.tables e below (s₁.setTop (mkF m 37 #[.val (.int p86)] [(.int (4 : Int32)), (.int p86)])) _
    refine XS.icmpYes X0.here hx rfl (pc0 := 37) (pc' := 44) rfl (hb hby d1_37) rfl (feq H4).2 (by decide) (by decide) ?_
    show Steps p.tables e below (s₁.setTop (mkF m 44 #[.val (.int p86)] [])) _
    refine XS.iloadN X0.here hx rfl (hb hby d1_44) rfl ?_
    show Steps p.tables e below (s₁.setTop (mkF m 45 #[.val (.int p86)] [(.int p86)])) _
    refine XS.iconst X0.here hx rfl (hb hby d1_45) ?_
    show Steps p.tables e below (s₁.setTop (mkF m 46 #[.val (.int p86)] [(.int (5 : Int32)), (.int p86)])) _
    refine XS.icmpYes X0.here hx rfl (pc0 := 46) (pc' := 53) rfl (hb hby d1_46) rfl (feq H5).2 (by decide) (by decide) ?_
    show Steps p.tables e below (s₁.setTop (mkF m 53 #[.val (.int p86)] [])) _
    refine XS.iloadN X0.here hx rfl (hb hby d1_53) rfl ?_
    show Steps p.tables e below (s₁.setTop (mkF m 54 #[.val (.int p86)] [(.int p86)])) _
    refine XS.bipush X0.here hx rfl (hb hby d1_54) ?_
    show Steps p.tables e below (s₁.setTop (mkF m 56 #[.val (.int p86)] [(.int (6 : Int32)), (.int p86)])) _
    refine XS.icmpNo X0.here hx rfl (hb hby d1_56) rfl (teq H6).2 ?_
    show Steps p.tables e below (s₁.setTop (mkF m 59 #[.val (.int p86)] [])) _
    refine st88 _ ?_
    show Steps p.tables e below (T88.setTop (mkF m 62 #[.val (.int p86)] [(.ref w87)])) _
    jvm_step X88.here [X88.here.top, hx, (hb hby d1_62), X88.method', Bd.returns, Value.isRef, FieldType.isReference]
    first | (intro acts; rw [hr _ acts rfl rfl rfl]) | rw [hr _ _ rfl rfl rfl]
    exact Steps.refl _
  · show OQp (some (.ref w87)) h0 n0 _ T88.heap _
    rw [e88]
    exact ⟨rfl, N0, rfl⟩
set_option maxRecDepth 65536 in
set_option maxHeartbeats 40000000 in
theorem r0_7 (l : Launch) (Z : State) (a0 : Array Value) (hw : ∀ d ∈ tables_1, d.before a0 Z = true) (p85 : Int32) (w90 : Addr) (w97 : Addr) (w98 : Addr) (h0 : Heap) (n0 : Nat) (Z0 : n0 ≤ h0.size) (H0 : ¬ (((p85 &&& (2147483647 : Int32)) % (11 : Int32)) = (0 : Int32))) (H1 : ¬ (((p85 &&& (2147483647 : Int32)) % (11 : Int32)) = (1 : Int32))) (H2 : ¬ (((p85 &&& (2147483647 : Int32)) % (11 : Int32)) = (2 : Int32))) (H3 : ¬ (((p85 &&& (2147483647 : Int32)) % (11 : Int32)) = (3 : Int32))) (H4 : ¬ (((p85 &&& (2147483647 : Int32)) % (11 : Int32)) = (4 : Int32))) (H5 : ¬ (((p85 &&& (2147483647 : Int32)) % (11 : Int32)) = (5 : Int32))) (H6 : ((p85 &&& (2147483647 : Int32)) % (11 : Int32)) = (6 : Int32)) (H7 : Sta Z h0 "com/example/resense/resense/engine/Measure" "R_PREC" "Lcom/example/resense/resense/engine/Measure;" (.ref w90)) (H8 : (3 : Int32) < ((p85 &&& (2147483647 : Int32)) % (11 : Int32))) (H9 : ¬ (((p85 &&& (2147483647 : Int32)) % (11 : Int32)) = (10 : Int32))) (H10 : Fld Z h0 w90 "com/example/resense/resense/engine/Measure" "combination" "Lcom/example/resense/resense/engine/Measure$Combination;" (.ref w97)) (H11 : Sta Z h0 "com/example/resense/resense/engine/Measure$Combination" "SUM" "Lcom/example/resense/resense/engine/Measure$Combination;" (.ref w98)) (H12 : w97 ≠ w98) (H13 : Exa Z h0 w90 "com/example/resense/resense/engine/Measure") :
    OMet l Z x code maxLocals ret tables_1 room_1 h0 #[(.int p85)] (OQl (some (.int (1 : Int32))) n0) := by
  refine MetFree.of_bodySF (plainFor_of_name pn_com_example_resense_resense_engine_MeasureIsCountPinLaw) hisR ?_
  intro p e s m args below meth c s₁ Bd hml0 hP hK
  obtain ⟨rfl, hZ, hh⟩ := hP
  have hx := Bd.exec
  have hby := Bd.bytes
  have hml : c.maxLocals = 4 := hml0
  have hown : s.vm.findClass "com/example/resense/resense/engine/MeasureIsCountPinLaw" = some m.cls := findClass_of_methodNamed Bd.named
  have hnm := (name_of_methodNamed Bd.named Bd.method).1
  have X0 : Stand p l e room_1 s m #[(.int p85)] below meth c s₁ [] 0 0 := Stand.of_body Bd
  have e0 : s₁.heap = h0 := by rw [← hh, Bd.state]; rfl
  have N0 := Fr.nil n0
  have pre0 : ∀ t, Steps p.tables e below (s₁.setTop (mkF m 0 #[.val (.int p85), .unset, .unset, .unset] [])) t → Steps p.tables e below (s₁.setTop (entryFrame m #[(.int p85)] maxLocals)) t := fun t k => castTop (ef_0_v m p85) k
  obtain ⟨_, _, ⟨T89, L89, k89, n89⟩, -, X89, ⟨Lc89, hQ89, l89, y89, z89⟩, st89⟩ := Jvm.LawKit.callS X0 hx (y := (⟨"com/example/resense/resense/engine/MeasureIsCountPinLaw", "pick", "(I)Lcom/example/resense/resense/engine/Measure;"⟩ : MethodName)) hown (mvT hZ (hw _ (List.mem_of_getElem? (i := 1) rfl))) (mvT hZ (hw _ (List.mem_of_getElem? (i := 2) rfl))) (mvT hZ (hw _ (List.mem_of_getElem? (i := 3) rfl))) (mvT hZ (hw _ (List.mem_of_getElem? (i := 4) rfl))) (by decide) (backOf (W := 0) (r1_7 l Z a0 hw ((p85 &&& (2147483647 : Int32)) % (11 : Int32)) w90 h0 n0 Z0 H0 H1 H2 H3 H4 H5 H6 H7) hZ (hw _ (List.mem_of_getElem? (i := 4) rfl)) (hw _ (List.mem_of_getElem? (i := 3) rfl)) (by decide) (by decide)) (g := (mkF m 9 #[.val (.int p85), .val (.int ((p85 &&& (2147483647 : Int32)) % (11 : Int32))), .unset, .unset] [(.int ((p85 &&& (2147483647 : Int32)) % (11 : Int32)))])) rfl (by rw [hml]; rfl) (argsL := [(.int ((p85 &&& (2147483647 : Int32)) % (11 : Int32)))]) (rest := []) (lenOf pd_0 rfl) rfl (by show 2 * 0 + _ ≤ _; exact Nat.le_of_eq rfl) (hb hby at_9) (fun _ _ => ⟨rfl, e0, (by decide : 0 + 0 ≤ _), (by decide : 0 + 0 ≤ _)⟩)
  dsimp only [Pt.U, Pt.locs, Pt.cells, Pt.slots] at X89 l89 y89 z89 st89 hQ89
  subst l89 y89 z89
  obtain ⟨rfl, N89q, e89⟩ := hQ89
  have N89 := Fr.app N0 N89q
  obtain ⟨cq96, kq96, q96a, q96b, q96c⟩ := isOf hZ e89 H13
  obtain ⟨_, _, ⟨T96, L96, k96, n96⟩, -, X96, ⟨Lc96, hQ96, l96, y96, z96⟩, st96⟩ := X89.virtualBack hx (y := (⟨"com/example/resense/resense/engine/Measure", "isCount", "()Z"⟩ : MethodName)) (z := (⟨"com/example/resense/resense/engine/Measure", "isCount", "()Z"⟩ : MethodName)) hown (mvT hZ (hw _ (List.mem_of_getElem? (i := 8) rfl))) (mvT hZ (hw _ (List.mem_of_getElem? (i := 9) rfl))) (notFace_of_selects (args := #[]) (mvT hZ (hw _ (List.mem_of_getElem? (i := 11) rfl)))) (mvT hZ (hw _ (List.mem_of_getElem? (i := 11) rfl))) (mvT hZ (hw _ (List.mem_of_getElem? (i := 10) rfl))) (by decide) (backOf (W := 0) (r2_2 l Z a0 hw w90 w97 w98 h0 n0 Z0 H10 H11 H12) hZ (hw _ (List.mem_of_getElem? (i := 12) rfl)) (hw _ (List.mem_of_getElem? (i := 6) rfl)) (by decide) (by decide)) q96a q96c (g := (mkF m 31 #[.val (.int p85), .val (.int ((p85 &&& (2147483647 : Int32)) % (11 : Int32))), .val (.ref w90), .val (.int (0 : Int32))] [(.ref w90)])) rfl (by rw [hml]; rfl) (Steps.refl _) (argsL := []) (rest := []) (lenOf pd_1 rfl) rfl (by show 2 * 0 + _ ≤ _; exact Nat.le_of_eq rfl) (hb hby at_31) (fun _ _ => ⟨rfl, e89, (by decide : 0 + 0 ≤ _), (by decide : 0 + 0 ≤ _)⟩)
  dsimp only [Pt.U, Pt.locs, Pt.cells, Pt.slots] at X96 l96 y96 z96 st96 hQ96
  subst l96 y96 z96
  obtain ⟨rfl, N96q, e96⟩ := hQ96
  have N96 := Fr.app N89 N96q
  obtain ⟨fs, hr, hrun, hended, hW, hsame⟩ := X96.leave (v := some (.int (1 : Int32))) (fun h => by rw [Bd.returns] at h; cases h)
  refine ⟨_, _, pre0 _ ?_, hrun, hended, _, _, rfl, ?_, ⟨_, rfl⟩, hW, hsame.mono (by decide) (by decide)⟩
  · show Steps p.tables e below (s₁.setTop (mkF m 0 #[.val (.int p85), .unset, .unset, .unset] [])) _
    refine XS.iloadN X0.here hx rfl (hb hby at_0) rfl ?_
    show Steps p.tables e below (s₁.setTop (mkF m 1 #[.val (.int p85), .unset, .unset, .unset] [(.int p85)])) _
    refine X0.ldcInt hx hown (mvT hZ (hw _ (List.mem_of_getElem? (i := 0) rfl))) (g := (mkF m 1 #[.val (.int p85), .unset, .unset, .unset] [(.int p85)])) rfl (hb hby at_1) _ ?_
    show Steps p.tables e below (s₁.setTop (mkF m 3 #[.val (.int p85), .unset, .unset, .unset] [(.int (2147483647 : Int32)), (.int p85)])) _
    refine XS.iand X0.here hx rfl (hb hby at_3) rfl ?_
    show Steps p.tables e below (s₁.setTop (mkF m 4 #[.val (.int p85), .unset, .unset, .unset] [(.int (p85 &&& (2147483647 : Int32)))])) _
    refine XS.bipush X0.here hx rfl (hb hby at_4) ?_
    show Steps p.tables e below (s₁.setTop (mkF m 6 #[.val (.int p85), .unset, .unset, .unset] [(.int (11 : Int32)), (.int (p85 &&& (2147483647 : Int32)))])) _
    refine iremM X0 hx rfl (hb hby at_6) rfl (by decide) ?_
    show Steps p.tables e below (s₁.setTop (mkF m 7 #[.val (.int p85), .unset, .unset, .unset] [(.int ((p85 &&& (2147483647 : Int32)) % (11 : Int32)))])) _
    refine XS.istoreN X0.here hx rfl (hb hby at_7) rfl (l' := #[.val (.int p85), .val (.int ((p85 &&& (2147483647 : Int32)) % (11 : Int32))), .unset, .unset]) rfl ?_
    show Steps p.tables e below (s₁.setTop (mkF m 8 #[.val (.int p85), .val (.int ((p85 &&& (2147483647 : Int32)) % (11 : Int32))), .unset, .unset] [])) _
    refine XS.iloadN X0.here hx rfl (hb hby at_8) rfl ?_
    show Steps p.tables e below (s₁.setTop (mkF m 9 #[.val (.int p85), .val (.int ((p85 &&& (2147483647 : Int32)) % (11 : Int32))), .unset, .unset] [(.int ((p85 &&& (2147483647 : Int32)) % (11 : Int32)))])) _
    refine st89 _ ?_
    show Steps p.tables e below (T89.setTop (mkF m 12 #[.val (.int p85), .val (.int ((p85 &&& (2147483647 : Int32)) % (11 : Int32))), .unset, .unset] [(.ref w90)])) _
    refine XS.astoreN X89.here hx rfl (hb hby at_12) rfl rfl (l' := #[.val (.int p85), .val (.int ((p85 &&& (2147483647 : Int32)) % (11 : Int32))), .val (.ref w90), .unset]) rfl ?_
    show Steps p.tables e below (T89.setTop (mkF m 13 #[.val (.int p85), .val (.int ((p85 &&& (2147483647 : Int32)) % (11 : Int32))), .val (.ref w90), .unset] [])) _
    refine XS.iloadN X89.here hx rfl (hb hby at_13) rfl ?_
    show Steps p.tables e below (T89.setTop (mkF m 14 #[.val (.int p85), .val (.int ((p85 &&& (2147483647 : Int32)) % (11 : Int32))), .val (.ref w90), .unset] [(.int ((p85 &&& (2147483647 : Int32)) % (11 : Int32)))])) _
    refine XS.iconst X89.here hx rfl (hb hby at_14) ?_
    show Steps p.tables e below (T89.setTop (mkF m 15 #[.val (.int p85), .val (.int ((p85 &&& (2147483647 : Int32)) % (11 : Int32))), .val (.ref w90), .unset] [(.int (3 : Int32)), (.int ((p85 &&& (2147483647 : Int32)) % (11 : Int32)))])) _
    refine XS.icmpNo X89.here hx rfl (hb hby at_15) rfl (tlt H8).2.2.2 ?_
    show Steps p.tables e below (T89.setTop (mkF m 18 #[.val (.int p85), .val (.int ((p85 &&& (2147483647 : Int32)) % (11 : Int32))), .val (.ref w90), .unset] [])) _
    refine XS.iloadN X89.here hx rfl (hb hby at_18) rfl ?_
    show Steps p.tables e below (T89.setTop (mkF m 19 #[.val (.int p85), .val (.int ((p85 &&& (2147483647 : Int32)) % (11 : Int32))), .val (.ref w90), .unset] [(.int ((p85 &&& (2147483647 : Int32)) % (11 : Int32)))])) _
    refine XS.bipush X89.here hx rfl (hb hby at_19) ?_
    show Steps p.tables e below (T89.setTop (mkF m 21 #[.val (.int p85), .val (.int ((p85 &&& (2147483647 : Int32)) % (11 : Int32))), .val (.ref w90), .unset] [(.int (10 : Int32)), (.int ((p85 &&& (2147483647 : Int32)) % (11 : Int32)))])) _
    refine XS.icmpYes X89.here hx rfl (pc0 := 21) (pc' := 28) rfl (hb hby at_21) rfl (feq H9).2 (by decide) (by decide) ?_
    show Steps p.tables e below (T89.setTop (mkF m 28 #[.val (.int p85), .val (.int ((p85 &&& (2147483647 : Int32)) % (11 : Int32))), .val (.ref w90), .unset] [])) _
    refine XS.iconst X89.here hx rfl (hb hby at_28) ?_
    show Steps p.tables e below (T89.setTop (mkF m 29 #[.val (.int p85), .val (.int ((p85 &&& (2147483647 : Int32)) % (11 : Int32))), .val (.ref w90), .unset] [(.int (0 : Int32))])) _
    refine XS.istoreN X89.here hx rfl (hb hby at_29) rfl (l' := #[.val (.int p85), .val (.int ((p85 &&& (2147483647 : Int32)) % (11 : Int32))), .val (.ref w90), .val (.int (0 : Int32))]) rfl ?_
    show Steps p.tables e below (T89.setTop (mkF m 30 #[.val (.int p85), .val (.int ((p85 &&& (2147483647 : Int32)) % (11 : Int32))), .val (.ref w90), .val (.int (0 : Int32))] [])) _
    refine XS.aloadN X89.here hx rfl (hb hby at_30) rfl rfl ?_
    show Steps p.tables e below (T89.setTop (mkF m 31 #[.val (.int p85), .val (.int ((p85 &&& (2147483647 : Int32)) % (11 : Int32))), .val (.ref w90), .val (.int (0 : Int32))] [(.ref w90)])) _
    refine st96.trans ?_
    show Steps p.tables e below (T96.setTop (mkF m 34 #[.val (.int p85), .val (.int ((p85 &&& (2147483647 : Int32)) % (11 : Int32))), .val (.ref w90), .val (.int (0 : Int32))] [(.int (0 : Int32))])) _
    refine XS.iloadN X96.here hx rfl (hb hby at_34) rfl ?_
    show Steps p.tables e below (T96.setTop (mkF m 35 #[.val (.int p85), .val (.int ((p85 &&& (2147483647 : Int32)) % (11 : Int32))), .val (.ref w90), .val (.int (0 : Int32))] [(.int (0 : Int32)), (.int (0 : Int32))])) _
    refine XS.icmpNo X96.here hx rfl (hb hby at_35) rfl (teq (rfl : (0 : Int32) = (0 : Int32))).2 ?_
    show Steps p.tables e below (T96.setTop (mkF m 38 #[.val (.int p85), .val (.int ((p85 &&& (2147483647 : Int32)) % (11 : Int32))), .val (.ref w90), .val (.int (0 : Int32))] [])) _
    refine XS.iconst X96.here hx rfl (hb hby at_38) ?_
    show Steps p.tables e below (T96.setTop (mkF m 39 #[.val (.int p85), .val (.int ((p85 &&& (2147483647 : Int32)) % (11 : Int32))), .val (.ref w90), .val (.int (0 : Int32))] [(.int (1 : Int32))])) _
    refine XS.goto X96.here hx rfl (pc0 := 39) (pc' := 43) rfl (hb hby at_39) (by decide) (by decide) ?_
    show Steps p.tables e below (T96.setTop (mkF m 43 #[.val (.int p85), .val (.int ((p85 &&& (2147483647 : Int32)) % (11 : Int32))), .val (.ref w90), .val (.int (0 : Int32))] [(.int (1 : Int32))])) _
    exact retN X96 hx (t := .boolean) Bd.returns (by simp) (hb hby at_43) hr
  · show OQl (some (.int (1 : Int32))) n0 _ T96.heap _
    exact ⟨rfl, N96⟩
theorem d1_63 : decode method_3_code 63 = .ok (.iload_n 0, 1) := by decide +kernel
theorem d1_64 : decode method_3_code 64 = .ok (.bipush 7, 2) := by decide +kernel
theorem d1_66 : decode method_3_code 66 = .ok (.if_icmp .ne 7, 3) := by decide +kernel
theorem d1_69 : decode method_3_code 69 = .ok (.getstatic 42, 3) := by decide +kernel
theorem d1_72 : decode method_3_code 72 = .ok (.areturn, 1) := by decide +kernel
set_option maxRecDepth 65536 in
set_option maxHeartbeats 40000000 in
theorem r1_8 (l : Launch) (Z : State) (a0 : Array Value) (hw : ∀ d ∈ tables_1, d.before a0 Z = true) (p100 : Int32) (w101 : Addr) (h0 : Heap) (n0 : Nat) (Z0 : n0 ≤ h0.size) (H0 : ¬ (p100 = (0 : Int32))) (H1 : ¬ (p100 = (1 : Int32))) (H2 : ¬ (p100 = (2 : Int32))) (H3 : ¬ (p100 = (3 : Int32))) (H4 : ¬ (p100 = (4 : Int32))) (H5 : ¬ (p100 = (5 : Int32))) (H6 : ¬ (p100 = (6 : Int32))) (H7 : p100 = (7 : Int32)) (H8 : Sta Z h0 "com/example/resense/resense/engine/Measure" "P_10" "Lcom/example/resense/resense/engine/Measure;" (.ref w101)) :
    OMet l Z (⟨"com/example/resense/resense/engine/MeasureIsCountPinLaw", "pick", "(I)Lcom/example/resense/resense/engine/Measure;"⟩ : MethodName) method_3_code 1 (some (.object "com/example/resense/resense/engine/Measure")) [] ({ frames := 0, cells := 0, slots := 0, locals := 0 } : Room) h0 #[(.int p100)] (OQp (some (.ref w101)) h0 n0) := by
  refine MetFree.of_bodySF (plainFor_of_name pn_com_example_resense_resense_engine_MeasureIsCountPinLaw) hisR ?_
  intro p e s m args below meth c s₁ Bd hml0 hP hK
  obtain ⟨rfl, hZ, hh⟩ := hP
  have hx := Bd.exec
  have hby := Bd.bytes
  have hml : c.maxLocals = 1 := hml0
  have hown : s.vm.findClass "com/example/resense/resense/engine/MeasureIsCountPinLaw" = some m.cls := findClass_of_methodNamed Bd.named
  have hnm := (name_of_methodNamed Bd.named Bd.method).1
  have X0 : Stand p l e ({ frames := 0, cells := 0, slots := 0, locals := 0 } : Room) s m #[(.int p100)] below meth c s₁ [] 0 0 := Stand.of_body Bd
  have e0 : s₁.heap = h0 := by rw [← hh, Bd.state]; rfl
  have N0 := Fr.nil n0
  have pre0 : ∀ t, Steps p.tables e below (s₁.setTop (mkF m 0 #[.val (.int p100)] [])) t → Steps p.tables e below (s₁.setTop (entryFrame m #[(.int p100)] 1)) t := fun t k => castTop (ef_1_v m p100) k
  obtain ⟨T102, X102, e102, st102⟩ := getS2 X0 hx hZ hown (host := "") (Or.inl (hw _ (List.mem_of_getElem? (i := 20) rfl))) Via.refl e0 H8 (g := (mkF m 69 #[.val (.int p100)] [])) rfl (hb hby d1_69)
  obtain ⟨fs, hr, hrun, hended, hW, hsame⟩ := X102.leave (v := some (.ref w101)) (fun h => by rw [Bd.returns] at h; cases h)
  refine ⟨_, _, pre0 _ ?_, hrun, hended, _, _, rfl, ?_, ⟨_, rfl⟩, hW, hsame.mono (by decide) (by decide)⟩
  · show Steps p.tables e below (s₁.setTop (mkF m 0 #[.val (.int p100)] [])) _
    refine XS.iloadN X0.here hx rfl (hb hby d1_0) rfl ?_
    show Steps p.tables e below (s₁.setTop (mkF m 1 #[.val (.int p100)] [(.int p100)])) _
    refine XS.ifYes X0.here hx rfl (pc0 := 1) (pc' := 8) rfl (hb hby d1_1) rfl ((if0 _ _).trans (feq H0).2) (by decide) (by decide) ?_
    show Steps p.tables e below (s₁.setTop (mkF m 8 #[.val (.int p100)] [])) _
    refine XS.iloadN X0.here hx rfl (hb hby d1_8) rfl ?_
    show Steps p.tables e below (s₁.setTop (mkF m 9 #[.val (.int p100)] [(.int p100)])) _
    refine XS.iconst X0.here hx rfl (hb hby d1_9) ?_
    show Steps p.tables e below (s₁.setTop (mkF m 10 #[.val (.int p100)] [(.int (1 : Int32)), (.int p100)])) _
    refine XS.icmpYes X0.here hx rfl (pc0 := 10) (pc' := 17) rfl (hb hby d1_10) rfl (feq H1).2 (by decide) (by decide) ?_
    show Steps p.tables e below (s₁.setTop (mkF m 17 #[.val (.int p100)] [])) _
    refine XS.iloadN X0.here hx rfl (hb hby d1_17) rfl ?_
    show Steps p.tables e below (s₁.setTop (mkF m 18 #[.val (.int p100)] [(.int p100)])) _
    refine XS.iconst X0.here hx rfl (hb hby d1_18) ?_
    show Steps p.tables e below (s₁.setTop (mkF m 19 #[.val (.int p100)] [(.int (2 : Int32)), (.int p100)])) _
    refine XS.icmpYes X0.here hx rfl (pc0 := 19) (pc' := 26) rfl (hb hby d1_19) rfl (feq H2).2 (by decide) (by decide) ?_
    show Steps p.tables e below (s₁.setTop (mkF m 26 #[.val (.int p100)] [])) _
    refine XS.iloadN X0.here hx rfl (hb hby d1_26) rfl ?_
    show Steps p.tables e below (s₁.setTop (mkF m 27 #[.val (.int p100)] [(.int p100)])) _
    refine XS.iconst X0.here hx rfl (hb hby d1_27) ?_
    show Steps p.tables e below (s₁.setTop (mkF m 28 #[.val (.int p100)] [(.int (3 : Int32)), (.int p100)])) _
    refine XS.icmpYes X0.here hx rfl (pc0 := 28) (pc' := 35) rfl (hb hby d1_28) rfl (feq H3).2 (by decide) (by decide) ?_
    show Steps p.tables e below (s₁.setTop (mkF m 35 #[.val (.int p100)] [])) _
    refine XS.iloadN X0.here hx rfl (hb hby d1_35) rfl ?_
    show Steps p.tables e below (s₁.setTop (mkF m 36 #[.val (.int p100)] [(.int p100)])) _
    refine XS.iconst X0.here hx rfl (hb hby d1_36) ?_
    show Steps p.tables e below (s₁.setTop (mkF m 37 #[.val (.int p100)] [(.int (4 : Int32)), (.int p100)])) _
    refine XS.icmpYes X0.here hx rfl (pc0 := 37) (pc' := 44) rfl (hb hby d1_37) rfl (feq H4).2 (by decide) (by decide) ?_
    show Steps p.tables e below (s₁.setTop (mkF m 44 #[.val (.int p100)] [])) _
    refine XS.iloadN X0.here hx rfl (hb hby d1_44) rfl ?_
    show Steps p.tables e below (s₁.setTop (mkF m 45 #[.val (.int p100)] [(.int p100)])) _
    refine XS.iconst X0.here hx rfl (hb hby d1_45) ?_
    show Steps p.tables e below (s₁.setTop (mkF m 46 #[.val (.int p100)] [(.int (5 : Int32)), (.int p100)])) _
    refine XS.icmpYes X0.here hx rfl (pc0 := 46) (pc' := 53) rfl (hb hby d1_46) rfl (feq H5).2 (by decide) (by decide) ?_
    show Steps p.tables e below (s₁.setTop (mkF m 53 #[.val (.int p100)] [])) _
    refine XS.iloadN X0.here hx rfl (hb hby d1_53) rfl ?_
    show Steps p.tables e below (s₁.setTop (mkF m 54 #[.val (.int p100)] [(.int p100)])) _
    refine XS.bipush X0.here hx rfl (hb hby d1_54) ?_
    show Steps p.tables e below (s₁.setTop (mkF m 56 #[.val (.int p100)] [(.int (6 : Int32)), (.int p100)])) _
    refine XS.icmpYes X0.here hx rfl (pc0 := 56) (pc' := 63) rfl (hb hby d1_56) rfl (feq H6).2 (by decide) (by decide) ?_
    show Steps p.tables e below (s₁.setTop (mkF m 63 #[.val (.int p100)] [])) _
    refine XS.iloadN X0.here hx rfl (hb hby d1_63) rfl ?_
    show Steps p.tables e below (s₁.setTop (mkF m 64 #[.val (.int p100)] [(.int p100)])) _
    refine XS.bipush X0.here hx rfl (hb hby d1_64) ?_
    show Steps p.tables e below (s₁.setTop (mkF m 66 #[.val (.int p100)] [(.int (7 : Int32)), (.int p100)])) _
    refine XS.icmpNo X0.here hx rfl (hb hby d1_66) rfl (teq H7).2 ?_
    show Steps p.tables e below (s₁.setTop (mkF m 69 #[.val (.int p100)] [])) _
    refine st102 _ ?_
    show Steps p.tables e below (T102.setTop (mkF m 72 #[.val (.int p100)] [(.ref w101)])) _
    jvm_step X102.here [X102.here.top, hx, (hb hby d1_72), X102.method', Bd.returns, Value.isRef, FieldType.isReference]
    first | (intro acts; rw [hr _ acts rfl rfl rfl]) | rw [hr _ _ rfl rfl rfl]
    exact Steps.refl _
  · show OQp (some (.ref w101)) h0 n0 _ T102.heap _
    rw [e102]
    exact ⟨rfl, N0, rfl⟩
set_option maxRecDepth 65536 in
set_option maxHeartbeats 40000000 in
theorem r0_8 (l : Launch) (Z : State) (a0 : Array Value) (hw : ∀ d ∈ tables_1, d.before a0 Z = true) (p99 : Int32) (w104 : Addr) (w111 : Addr) (w112 : Addr) (h0 : Heap) (n0 : Nat) (Z0 : n0 ≤ h0.size) (H0 : ¬ (((p99 &&& (2147483647 : Int32)) % (11 : Int32)) = (0 : Int32))) (H1 : ¬ (((p99 &&& (2147483647 : Int32)) % (11 : Int32)) = (1 : Int32))) (H2 : ¬ (((p99 &&& (2147483647 : Int32)) % (11 : Int32)) = (2 : Int32))) (H3 : ¬ (((p99 &&& (2147483647 : Int32)) % (11 : Int32)) = (3 : Int32))) (H4 : ¬ (((p99 &&& (2147483647 : Int32)) % (11 : Int32)) = (4 : Int32))) (H5 : ¬ (((p99 &&& (2147483647 : Int32)) % (11 : Int32)) = (5 : Int32))) (H6 : ¬ (((p99 &&& (2147483647 : Int32)) % (11 : Int32)) = (6 : Int32))) (H7 : ((p99 &&& (2147483647 : Int32)) % (11 : Int32)) = (7 : Int32)) (H8 : Sta Z h0 "com/example/resense/resense/engine/Measure" "P_10" "Lcom/example/resense/resense/engine/Measure;" (.ref w104)) (H9 : (3 : Int32) < ((p99 &&& (2147483647 : Int32)) % (11 : Int32))) (H10 : ¬ (((p99 &&& (2147483647 : Int32)) % (11 : Int32)) = (10 : Int32))) (H11 : Fld Z h0 w104 "com/example/resense/resense/engine/Measure" "combination" "Lcom/example/resense/resense/engine/Measure$Combination;" (.ref w111)) (H12 : Sta Z h0 "com/example/resense/resense/engine/Measure$Combination" "SUM" "Lcom/example/resense/resense/engine/Measure$Combination;" (.ref w112)) (H13 : w111 ≠ w112) (H14 : Exa Z h0 w104 "com/example/resense/resense/engine/Measure") :
    OMet l Z x code maxLocals ret tables_1 room_1 h0 #[(.int p99)] (OQl (some (.int (1 : Int32))) n0) := by
  refine MetFree.of_bodySF (plainFor_of_name pn_com_example_resense_resense_engine_MeasureIsCountPinLaw) hisR ?_
  intro p e s m args below meth c s₁ Bd hml0 hP hK
  obtain ⟨rfl, hZ, hh⟩ := hP
  have hx := Bd.exec
  have hby := Bd.bytes
  have hml : c.maxLocals = 4 := hml0
  have hown : s.vm.findClass "com/example/resense/resense/engine/MeasureIsCountPinLaw" = some m.cls := findClass_of_methodNamed Bd.named
  have hnm := (name_of_methodNamed Bd.named Bd.method).1
  have X0 : Stand p l e room_1 s m #[(.int p99)] below meth c s₁ [] 0 0 := Stand.of_body Bd
  have e0 : s₁.heap = h0 := by rw [← hh, Bd.state]; rfl
  have N0 := Fr.nil n0
  have pre0 : ∀ t, Steps p.tables e below (s₁.setTop (mkF m 0 #[.val (.int p99), .unset, .unset, .unset] [])) t → Steps p.tables e below (s₁.setTop (entryFrame m #[(.int p99)] maxLocals)) t := fun t k => castTop (ef_0_v m p99) k
  obtain ⟨_, _, ⟨T103, L103, k103, n103⟩, -, X103, ⟨Lc103, hQ103, l103, y103, z103⟩, st103⟩ := Jvm.LawKit.callS X0 hx (y := (⟨"com/example/resense/resense/engine/MeasureIsCountPinLaw", "pick", "(I)Lcom/example/resense/resense/engine/Measure;"⟩ : MethodName)) hown (mvT hZ (hw _ (List.mem_of_getElem? (i := 1) rfl))) (mvT hZ (hw _ (List.mem_of_getElem? (i := 2) rfl))) (mvT hZ (hw _ (List.mem_of_getElem? (i := 3) rfl))) (mvT hZ (hw _ (List.mem_of_getElem? (i := 4) rfl))) (by decide) (backOf (W := 0) (r1_8 l Z a0 hw ((p99 &&& (2147483647 : Int32)) % (11 : Int32)) w104 h0 n0 Z0 H0 H1 H2 H3 H4 H5 H6 H7 H8) hZ (hw _ (List.mem_of_getElem? (i := 4) rfl)) (hw _ (List.mem_of_getElem? (i := 3) rfl)) (by decide) (by decide)) (g := (mkF m 9 #[.val (.int p99), .val (.int ((p99 &&& (2147483647 : Int32)) % (11 : Int32))), .unset, .unset] [(.int ((p99 &&& (2147483647 : Int32)) % (11 : Int32)))])) rfl (by rw [hml]; rfl) (argsL := [(.int ((p99 &&& (2147483647 : Int32)) % (11 : Int32)))]) (rest := []) (lenOf pd_0 rfl) rfl (by show 2 * 0 + _ ≤ _; exact Nat.le_of_eq rfl) (hb hby at_9) (fun _ _ => ⟨rfl, e0, (by decide : 0 + 0 ≤ _), (by decide : 0 + 0 ≤ _)⟩)
  dsimp only [Pt.U, Pt.locs, Pt.cells, Pt.slots] at X103 l103 y103 z103 st103 hQ103
  subst l103 y103 z103
  obtain ⟨rfl, N103q, e103⟩ := hQ103
  have N103 := Fr.app N0 N103q
  obtain ⟨cq110, kq110, q110a, q110b, q110c⟩ := isOf hZ e103 H14
  obtain ⟨_, _, ⟨T110, L110, k110, n110⟩, -, X110, ⟨Lc110, hQ110, l110, y110, z110⟩, st110⟩ := X103.virtualBack hx (y := (⟨"com/example/resense/resense/engine/Measure", "isCount", "()Z"⟩ : MethodName)) (z := (⟨"com/example/resense/resense/engine/Measure", "isCount", "()Z"⟩ : MethodName)) hown (mvT hZ (hw _ (List.mem_of_getElem? (i := 8) rfl))) (mvT hZ (hw _ (List.mem_of_getElem? (i := 9) rfl))) (notFace_of_selects (args := #[]) (mvT hZ (hw _ (List.mem_of_getElem? (i := 11) rfl)))) (mvT hZ (hw _ (List.mem_of_getElem? (i := 11) rfl))) (mvT hZ (hw _ (List.mem_of_getElem? (i := 10) rfl))) (by decide) (backOf (W := 0) (r2_2 l Z a0 hw w104 w111 w112 h0 n0 Z0 H11 H12 H13) hZ (hw _ (List.mem_of_getElem? (i := 12) rfl)) (hw _ (List.mem_of_getElem? (i := 6) rfl)) (by decide) (by decide)) q110a q110c (g := (mkF m 31 #[.val (.int p99), .val (.int ((p99 &&& (2147483647 : Int32)) % (11 : Int32))), .val (.ref w104), .val (.int (0 : Int32))] [(.ref w104)])) rfl (by rw [hml]; rfl) (Steps.refl _) (argsL := []) (rest := []) (lenOf pd_1 rfl) rfl (by show 2 * 0 + _ ≤ _; exact Nat.le_of_eq rfl) (hb hby at_31) (fun _ _ => ⟨rfl, e103, (by decide : 0 + 0 ≤ _), (by decide : 0 + 0 ≤ _)⟩)
  dsimp only [Pt.U, Pt.locs, Pt.cells, Pt.slots] at X110 l110 y110 z110 st110 hQ110
  subst l110 y110 z110
  obtain ⟨rfl, N110q, e110⟩ := hQ110
  have N110 := Fr.app N103 N110q
  obtain ⟨fs, hr, hrun, hended, hW, hsame⟩ := X110.leave (v := some (.int (1 : Int32))) (fun h => by rw [Bd.returns] at h; cases h)
  refine ⟨_, _, pre0 _ ?_, hrun, hended, _, _, rfl, ?_, ⟨_, rfl⟩, hW, hsame.mono (by decide) (by decide)⟩
  · show Steps p.tables e below (s₁.setTop (mkF m 0 #[.val (.int p99), .unset, .unset, .unset] [])) _
    refine XS.iloadN X0.here hx rfl (hb hby at_0) rfl ?_
    show Steps p.tables e below (s₁.setTop (mkF m 1 #[.val (.int p99), .unset, .unset, .unset] [(.int p99)])) _
    refine X0.ldcInt hx hown (mvT hZ (hw _ (List.mem_of_getElem? (i := 0) rfl))) (g := (mkF m 1 #[.val (.int p99), .unset, .unset, .unset] [(.int p99)])) rfl (hb hby at_1) _ ?_
    show Steps p.tables e below (s₁.setTop (mkF m 3 #[.val (.int p99), .unset, .unset, .unset] [(.int (2147483647 : Int32)), (.int p99)])) _
    refine XS.iand X0.here hx rfl (hb hby at_3) rfl ?_
    show Steps p.tables e below (s₁.setTop (mkF m 4 #[.val (.int p99), .unset, .unset, .unset] [(.int (p99 &&& (2147483647 : Int32)))])) _
    refine XS.bipush X0.here hx rfl (hb hby at_4) ?_
    show Steps p.tables e below (s₁.setTop (mkF m 6 #[.val (.int p99), .unset, .unset, .unset] [(.int (11 : Int32)), (.int (p99 &&& (2147483647 : Int32)))])) _
    refine iremM X0 hx rfl (hb hby at_6) rfl (by decide) ?_
    show Steps p.tables e below (s₁.setTop (mkF m 7 #[.val (.int p99), .unset, .unset, .unset] [(.int ((p99 &&& (2147483647 : Int32)) % (11 : Int32)))])) _
    refine XS.istoreN X0.here hx rfl (hb hby at_7) rfl (l' := #[.val (.int p99), .val (.int ((p99 &&& (2147483647 : Int32)) % (11 : Int32))), .unset, .unset]) rfl ?_
    show Steps p.tables e below (s₁.setTop (mkF m 8 #[.val (.int p99), .val (.int ((p99 &&& (2147483647 : Int32)) % (11 : Int32))), .unset, .unset] [])) _
    refine XS.iloadN X0.here hx rfl (hb hby at_8) rfl ?_
    show Steps p.tables e below (s₁.setTop (mkF m 9 #[.val (.int p99), .val (.int ((p99 &&& (2147483647 : Int32)) % (11 : Int32))), .unset, .unset] [(.int ((p99 &&& (2147483647 : Int32)) % (11 : Int32)))])) _
    refine st103 _ ?_
    show Steps p.tables e below (T103.setTop (mkF m 12 #[.val (.int p99), .val (.int ((p99 &&& (2147483647 : Int32)) % (11 : Int32))), .unset, .unset] [(.ref w104)])) _
    refine XS.astoreN X103.here hx rfl (hb hby at_12) rfl rfl (l' := #[.val (.int p99), .val (.int ((p99 &&& (2147483647 : Int32)) % (11 : Int32))), .val (.ref w104), .unset]) rfl ?_
    show Steps p.tables e below (T103.setTop (mkF m 13 #[.val (.int p99), .val (.int ((p99 &&& (2147483647 : Int32)) % (11 : Int32))), .val (.ref w104), .unset] [])) _
    refine XS.iloadN X103.here hx rfl (hb hby at_13) rfl ?_
    show Steps p.tables e below (T103.setTop (mkF m 14 #[.val (.int p99), .val (.int ((p99 &&& (2147483647 : Int32)) % (11 : Int32))), .val (.ref w104), .unset] [(.int ((p99 &&& (2147483647 : Int32)) % (11 : Int32)))])) _
    refine XS.iconst X103.here hx rfl (hb hby at_14) ?_
    show Steps p.tables e below (T103.setTop (mkF m 15 #[.val (.int p99), .val (.int ((p99 &&& (2147483647 : Int32)) % (11 : Int32))), .val (.ref w104), .unset] [(.int (3 : Int32)), (.int ((p99 &&& (2147483647 : Int32)) % (11 : Int32)))])) _
    refine XS.icmpNo X103.here hx rfl (hb hby at_15) rfl (tlt H9).2.2.2 ?_
    show Steps p.tables e below (T103.setTop (mkF m 18 #[.val (.int p99), .val (.int ((p99 &&& (2147483647 : Int32)) % (11 : Int32))), .val (.ref w104), .unset] [])) _
    refine XS.iloadN X103.here hx rfl (hb hby at_18) rfl ?_
    show Steps p.tables e below (T103.setTop (mkF m 19 #[.val (.int p99), .val (.int ((p99 &&& (2147483647 : Int32)) % (11 : Int32))), .val (.ref w104), .unset] [(.int ((p99 &&& (2147483647 : Int32)) % (11 : Int32)))])) _
    refine XS.bipush X103.here hx rfl (hb hby at_19) ?_
    show Steps p.tables e below (T103.setTop (mkF m 21 #[.val (.int p99), .val (.int ((p99 &&& (2147483647 : Int32)) % (11 : Int32))), .val (.ref w104), .unset] [(.int (10 : Int32)), (.int ((p99 &&& (2147483647 : Int32)) % (11 : Int32)))])) _
    refine XS.icmpYes X103.here hx rfl (pc0 := 21) (pc' := 28) rfl (hb hby at_21) rfl (feq H10).2 (by decide) (by decide) ?_
    show Steps p.tables e below (T103.setTop (mkF m 28 #[.val (.int p99), .val (.int ((p99 &&& (2147483647 : Int32)) % (11 : Int32))), .val (.ref w104), .unset] [])) _
    refine XS.iconst X103.here hx rfl (hb hby at_28) ?_
    show Steps p.tables e below (T103.setTop (mkF m 29 #[.val (.int p99), .val (.int ((p99 &&& (2147483647 : Int32)) % (11 : Int32))), .val (.ref w104), .unset] [(.int (0 : Int32))])) _
    refine XS.istoreN X103.here hx rfl (hb hby at_29) rfl (l' := #[.val (.int p99), .val (.int ((p99 &&& (2147483647 : Int32)) % (11 : Int32))), .val (.ref w104), .val (.int (0 : Int32))]) rfl ?_
    show Steps p.tables e below (T103.setTop (mkF m 30 #[.val (.int p99), .val (.int ((p99 &&& (2147483647 : Int32)) % (11 : Int32))), .val (.ref w104), .val (.int (0 : Int32))] [])) _
    refine XS.aloadN X103.here hx rfl (hb hby at_30) rfl rfl ?_
    show Steps p.tables e below (T103.setTop (mkF m 31 #[.val (.int p99), .val (.int ((p99 &&& (2147483647 : Int32)) % (11 : Int32))), .val (.ref w104), .val (.int (0 : Int32))] [(.ref w104)])) _
    refine st110.trans ?_
    show Steps p.tables e below (T110.setTop (mkF m 34 #[.val (.int p99), .val (.int ((p99 &&& (2147483647 : Int32)) % (11 : Int32))), .val (.ref w104), .val (.int (0 : Int32))] [(.int (0 : Int32))])) _
    refine XS.iloadN X110.here hx rfl (hb hby at_34) rfl ?_
    show Steps p.tables e below (T110.setTop (mkF m 35 #[.val (.int p99), .val (.int ((p99 &&& (2147483647 : Int32)) % (11 : Int32))), .val (.ref w104), .val (.int (0 : Int32))] [(.int (0 : Int32)), (.int (0 : Int32))])) _
    refine XS.icmpNo X110.here hx rfl (hb hby at_35) rfl (teq (rfl : (0 : Int32) = (0 : Int32))).2 ?_
    show Steps p.tables e below (T110.setTop (mkF m 38 #[.val (.int p99), .val (.int ((p99 &&& (2147483647 : Int32)) % (11 : Int32))), .val (.ref w104), .val (.int (0 : Int32))] [])) _
    refine XS.iconst X110.here hx rfl (hb hby at_38) ?_
    show Steps p.tables e below (T110.setTop (mkF m 39 #[.val (.int p99), .val (.int ((p99 &&& (2147483647 : Int32)) % (11 : Int32))), .val (.ref w104), .val (.int (0 : Int32))] [(.int (1 : Int32))])) _
    refine XS.goto X110.here hx rfl (pc0 := 39) (pc' := 43) rfl (hb hby at_39) (by decide) (by decide) ?_
    show Steps p.tables e below (T110.setTop (mkF m 43 #[.val (.int p99), .val (.int ((p99 &&& (2147483647 : Int32)) % (11 : Int32))), .val (.ref w104), .val (.int (0 : Int32))] [(.int (1 : Int32))])) _
    exact retN X110 hx (t := .boolean) Bd.returns (by simp) (hb hby at_43) hr
  · show OQl (some (.int (1 : Int32))) n0 _ T110.heap _
    exact ⟨rfl, N110⟩
theorem d1_73 : decode method_3_code 73 = .ok (.iload_n 0, 1) := by decide +kernel
theorem d1_74 : decode method_3_code 74 = .ok (.bipush 8, 2) := by decide +kernel
theorem d1_76 : decode method_3_code 76 = .ok (.if_icmp .ne 7, 3) := by decide +kernel
theorem d1_79 : decode method_3_code 79 = .ok (.getstatic 45, 3) := by decide +kernel
theorem d1_82 : decode method_3_code 82 = .ok (.areturn, 1) := by decide +kernel
set_option maxRecDepth 65536 in
set_option maxHeartbeats 40000000 in
theorem r1_9 (l : Launch) (Z : State) (a0 : Array Value) (hw : ∀ d ∈ tables_1, d.before a0 Z = true) (p114 : Int32) (w115 : Addr) (h0 : Heap) (n0 : Nat) (Z0 : n0 ≤ h0.size) (H0 : ¬ (p114 = (0 : Int32))) (H1 : ¬ (p114 = (1 : Int32))) (H2 : ¬ (p114 = (2 : Int32))) (H3 : ¬ (p114 = (3 : Int32))) (H4 : ¬ (p114 = (4 : Int32))) (H5 : ¬ (p114 = (5 : Int32))) (H6 : ¬ (p114 = (6 : Int32))) (H7 : ¬ (p114 = (7 : Int32))) (H8 : p114 = (8 : Int32)) (H9 : Sta Z h0 "com/example/resense/resense/engine/Measure" "RECALL_100" "Lcom/example/resense/resense/engine/Measure;" (.ref w115)) :
    OMet l Z (⟨"com/example/resense/resense/engine/MeasureIsCountPinLaw", "pick", "(I)Lcom/example/resense/resense/engine/Measure;"⟩ : MethodName) method_3_code 1 (some (.object "com/example/resense/resense/engine/Measure")) [] ({ frames := 0, cells := 0, slots := 0, locals := 0 } : Room) h0 #[(.int p114)] (OQp (some (.ref w115)) h0 n0) := by
  refine MetFree.of_bodySF (plainFor_of_name pn_com_example_resense_resense_engine_MeasureIsCountPinLaw) hisR ?_
  intro p e s m args below meth c s₁ Bd hml0 hP hK
  obtain ⟨rfl, hZ, hh⟩ := hP
  have hx := Bd.exec
  have hby := Bd.bytes
  have hml : c.maxLocals = 1 := hml0
  have hown : s.vm.findClass "com/example/resense/resense/engine/MeasureIsCountPinLaw" = some m.cls := findClass_of_methodNamed Bd.named
  have hnm := (name_of_methodNamed Bd.named Bd.method).1
  have X0 : Stand p l e ({ frames := 0, cells := 0, slots := 0, locals := 0 } : Room) s m #[(.int p114)] below meth c s₁ [] 0 0 := Stand.of_body Bd
  have e0 : s₁.heap = h0 := by rw [← hh, Bd.state]; rfl
  have N0 := Fr.nil n0
  have pre0 : ∀ t, Steps p.tables e below (s₁.setTop (mkF m 0 #[.val (.int p114)] [])) t → Steps p.tables e below (s₁.setTop (entryFrame m #[(.int p114)] 1)) t := fun t k => castTop (ef_1_v m p114) k
  obtain ⟨T116, X116, e116, st116⟩ := getS2 X0 hx hZ hown (host := "") (Or.inl (hw _ (List.mem_of_getElem? (i := 23) rfl))) Via.refl e0 H9 (g := (mkF m 79 #[.val (.int p114)] [])) rfl (hb hby d1_79)
  obtain ⟨fs, hr, hrun, hended, hW, hsame⟩ := X116.leave (v := some (.ref w115)) (fun h => by rw [Bd.returns] at h; cases h)
  refine ⟨_, _, pre0 _ ?_, hrun, hended, _, _, rfl, ?_, ⟨_, rfl⟩, hW, hsame.mono (by decide) (by decide)⟩
  · show Steps p.tables e below (s₁.setTop (mkF m 0 #[.val (.int p114)] [])) _
    refine XS.iloadN X0.here hx rfl (hb hby d1_0) rfl ?_
    show Steps p.tables e below (s₁.setTop (mkF m 1 #[.val (.int p114)] [(.int p114)])) _
    refine XS.ifYes X0.here hx rfl (pc0 := 1) (pc' := 8) rfl (hb hby d1_1) rfl ((if0 _ _).trans (feq H0).2) (by decide) (by decide) ?_
    show Steps p.tables e below (s₁.setTop (mkF m 8 #[.val (.int p114)] [])) _
    refine XS.iloadN X0.here hx rfl (hb hby d1_8) rfl ?_
    show Steps p.tables e below (s₁.setTop (mkF m 9 #[.val (.int p114)] [(.int p114)])) _
    refine XS.iconst X0.here hx rfl (hb hby d1_9) ?_
    show Steps p.tables e below (s₁.setTop (mkF m 10 #[.val (.int p114)] [(.int (1 : Int32)), (.int p114)])) _
    refine XS.icmpYes X0.here hx rfl (pc0 := 10) (pc' := 17) rfl (hb hby d1_10) rfl (feq H1).2 (by decide) (by decide) ?_
    show Steps p.tables e below (s₁.setTop (mkF m 17 #[.val (.int p114)] [])) _
    refine XS.iloadN X0.here hx rfl (hb hby d1_17) rfl ?_
    show Steps p.tables e below (s₁.setTop (mkF m 18 #[.val (.int p114)] [(.int p114)])) _
    refine XS.iconst X0.here hx rfl (hb hby d1_18) ?_
    show Steps p.tables e below (s₁.setTop (mkF m 19 #[.val (.int p114)] [(.int (2 : Int32)), (.int p114)])) _
    refine XS.icmpYes X0.here hx rfl (pc0 := 19) (pc' := 26) rfl (hb hby d1_19) rfl (feq H2).2 (by decide) (by decide) ?_
    show Steps p.tables e below (s₁.setTop (mkF m 26 #[.val (.int p114)] [])) _
    refine XS.iloadN X0.here hx rfl (hb hby d1_26) rfl ?_
    show Steps p.tables e below (s₁.setTop (mkF m 27 #[.val (.int p114)] [(.int p114)])) _
    refine XS.iconst X0.here hx rfl (hb hby d1_27) ?_
    show Steps p.tables e below (s₁.setTop (mkF m 28 #[.val (.int p114)] [(.int (3 : Int32)), (.int p114)])) _
    refine XS.icmpYes X0.here hx rfl (pc0 := 28) (pc' := 35) rfl (hb hby d1_28) rfl (feq H3).2 (by decide) (by decide) ?_
    show Steps p.tables e below (s₁.setTop (mkF m 35 #[.val (.int p114)] [])) _
    refine XS.iloadN X0.here hx rfl (hb hby d1_35) rfl ?_
    show Steps p.tables e below (s₁.setTop (mkF m 36 #[.val (.int p114)] [(.int p114)])) _
    refine XS.iconst X0.here hx rfl (hb hby d1_36) ?_
    show Steps p.tables e below (s₁.setTop (mkF m 37 #[.val (.int p114)] [(.int (4 : Int32)), (.int p114)])) _
    refine XS.icmpYes X0.here hx rfl (pc0 := 37) (pc' := 44) rfl (hb hby d1_37) rfl (feq H4).2 (by decide) (by decide) ?_
    show Steps p.tables e below (s₁.setTop (mkF m 44 #[.val (.int p114)] [])) _
    refine XS.iloadN X0.here hx rfl (hb hby d1_44) rfl ?_
    show Steps p.tables e below (s₁.setTop (mkF m 45 #[.val (.int p114)] [(.int p114)])) _
    refine XS.iconst X0.here hx rfl (hb hby d1_45) ?_
    show Steps p.tables e below (s₁.setTop (mkF m 46 #[.val (.int p114)] [(.int (5 : Int32)), (.int p114)])) _
    refine XS.icmpYes X0.here hx rfl (pc0 := 46) (pc' := 53) rfl (hb hby d1_46) rfl (feq H5).2 (by decide) (by decide) ?_
    show Steps p.tables e below (s₁.setTop (mkF m 53 #[.val (.int p114)] [])) _
    refine XS.iloadN X0.here hx rfl (hb hby d1_53) rfl ?_
    show Steps p.tables e below (s₁.setTop (mkF m 54 #[.val (.int p114)] [(.int p114)])) _
    refine XS.bipush X0.here hx rfl (hb hby d1_54) ?_
    show Steps p.tables e below (s₁.setTop (mkF m 56 #[.val (.int p114)] [(.int (6 : Int32)), (.int p114)])) _
    refine XS.icmpYes X0.here hx rfl (pc0 := 56) (pc' := 63) rfl (hb hby d1_56) rfl (feq H6).2 (by decide) (by decide) ?_
    show Steps p.tables e below (s₁.setTop (mkF m 63 #[.val (.int p114)] [])) _
    refine XS.iloadN X0.here hx rfl (hb hby d1_63) rfl ?_
    show Steps p.tables e below (s₁.setTop (mkF m 64 #[.val (.int p114)] [(.int p114)])) _
    refine XS.bipush X0.here hx rfl (hb hby d1_64) ?_
    show Steps p.tables e below (s₁.setTop (mkF m 66 #[.val (.int p114)] [(.int (7 : Int32)), (.int p114)])) _
    refine XS.icmpYes X0.here hx rfl (pc0 := 66) (pc' := 73) rfl (hb hby d1_66) rfl (feq H7).2 (by decide) (by decide) ?_
    show Steps p.tables e below (s₁.setTop (mkF m 73 #[.val (.int p114)] [])) _
    refine XS.iloadN X0.here hx rfl (hb hby d1_73) rfl ?_
    show Steps p.tables e below (s₁.setTop (mkF m 74 #[.val (.int p114)] [(.int p114)])) _
    refine XS.bipush X0.here hx rfl (hb hby d1_74) ?_
    show Steps p.tables e below (s₁.setTop (mkF m 76 #[.val (.int p114)] [(.int (8 : Int32)), (.int p114)])) _
    refine XS.icmpNo X0.here hx rfl (hb hby d1_76) rfl (teq H8).2 ?_
    show Steps p.tables e below (s₁.setTop (mkF m 79 #[.val (.int p114)] [])) _
    refine st116 _ ?_
    show Steps p.tables e below (T116.setTop (mkF m 82 #[.val (.int p114)] [(.ref w115)])) _
    jvm_step X116.here [X116.here.top, hx, (hb hby d1_82), X116.method', Bd.returns, Value.isRef, FieldType.isReference]
    first | (intro acts; rw [hr _ acts rfl rfl rfl]) | rw [hr _ _ rfl rfl rfl]
    exact Steps.refl _
  · show OQp (some (.ref w115)) h0 n0 _ T116.heap _
    rw [e116]
    exact ⟨rfl, N0, rfl⟩
set_option maxRecDepth 65536 in
set_option maxHeartbeats 40000000 in
theorem r0_9 (l : Launch) (Z : State) (a0 : Array Value) (hw : ∀ d ∈ tables_1, d.before a0 Z = true) (p113 : Int32) (w118 : Addr) (w125 : Addr) (w126 : Addr) (h0 : Heap) (n0 : Nat) (Z0 : n0 ≤ h0.size) (H0 : ¬ (((p113 &&& (2147483647 : Int32)) % (11 : Int32)) = (0 : Int32))) (H1 : ¬ (((p113 &&& (2147483647 : Int32)) % (11 : Int32)) = (1 : Int32))) (H2 : ¬ (((p113 &&& (2147483647 : Int32)) % (11 : Int32)) = (2 : Int32))) (H3 : ¬ (((p113 &&& (2147483647 : Int32)) % (11 : Int32)) = (3 : Int32))) (H4 : ¬ (((p113 &&& (2147483647 : Int32)) % (11 : Int32)) = (4 : Int32))) (H5 : ¬ (((p113 &&& (2147483647 : Int32)) % (11 : Int32)) = (5 : Int32))) (H6 : ¬ (((p113 &&& (2147483647 : Int32)) % (11 : Int32)) = (6 : Int32))) (H7 : ¬ (((p113 &&& (2147483647 : Int32)) % (11 : Int32)) = (7 : Int32))) (H8 : ((p113 &&& (2147483647 : Int32)) % (11 : Int32)) = (8 : Int32)) (H9 : Sta Z h0 "com/example/resense/resense/engine/Measure" "RECALL_100" "Lcom/example/resense/resense/engine/Measure;" (.ref w118)) (H10 : (3 : Int32) < ((p113 &&& (2147483647 : Int32)) % (11 : Int32))) (H11 : ¬ (((p113 &&& (2147483647 : Int32)) % (11 : Int32)) = (10 : Int32))) (H12 : Fld Z h0 w118 "com/example/resense/resense/engine/Measure" "combination" "Lcom/example/resense/resense/engine/Measure$Combination;" (.ref w125)) (H13 : Sta Z h0 "com/example/resense/resense/engine/Measure$Combination" "SUM" "Lcom/example/resense/resense/engine/Measure$Combination;" (.ref w126)) (H14 : w125 ≠ w126) (H15 : Exa Z h0 w118 "com/example/resense/resense/engine/Measure") :
    OMet l Z x code maxLocals ret tables_1 room_1 h0 #[(.int p113)] (OQl (some (.int (1 : Int32))) n0) := by
  refine MetFree.of_bodySF (plainFor_of_name pn_com_example_resense_resense_engine_MeasureIsCountPinLaw) hisR ?_
  intro p e s m args below meth c s₁ Bd hml0 hP hK
  obtain ⟨rfl, hZ, hh⟩ := hP
  have hx := Bd.exec
  have hby := Bd.bytes
  have hml : c.maxLocals = 4 := hml0
  have hown : s.vm.findClass "com/example/resense/resense/engine/MeasureIsCountPinLaw" = some m.cls := findClass_of_methodNamed Bd.named
  have hnm := (name_of_methodNamed Bd.named Bd.method).1
  have X0 : Stand p l e room_1 s m #[(.int p113)] below meth c s₁ [] 0 0 := Stand.of_body Bd
  have e0 : s₁.heap = h0 := by rw [← hh, Bd.state]; rfl
  have N0 := Fr.nil n0
  have pre0 : ∀ t, Steps p.tables e below (s₁.setTop (mkF m 0 #[.val (.int p113), .unset, .unset, .unset] [])) t → Steps p.tables e below (s₁.setTop (entryFrame m #[(.int p113)] maxLocals)) t := fun t k => castTop (ef_0_v m p113) k
  obtain ⟨_, _, ⟨T117, L117, k117, n117⟩, -, X117, ⟨Lc117, hQ117, l117, y117, z117⟩, st117⟩ := Jvm.LawKit.callS X0 hx (y := (⟨"com/example/resense/resense/engine/MeasureIsCountPinLaw", "pick", "(I)Lcom/example/resense/resense/engine/Measure;"⟩ : MethodName)) hown (mvT hZ (hw _ (List.mem_of_getElem? (i := 1) rfl))) (mvT hZ (hw _ (List.mem_of_getElem? (i := 2) rfl))) (mvT hZ (hw _ (List.mem_of_getElem? (i := 3) rfl))) (mvT hZ (hw _ (List.mem_of_getElem? (i := 4) rfl))) (by decide) (backOf (W := 0) (r1_9 l Z a0 hw ((p113 &&& (2147483647 : Int32)) % (11 : Int32)) w118 h0 n0 Z0 H0 H1 H2 H3 H4 H5 H6 H7 H8 H9) hZ (hw _ (List.mem_of_getElem? (i := 4) rfl)) (hw _ (List.mem_of_getElem? (i := 3) rfl)) (by decide) (by decide)) (g := (mkF m 9 #[.val (.int p113), .val (.int ((p113 &&& (2147483647 : Int32)) % (11 : Int32))), .unset, .unset] [(.int ((p113 &&& (2147483647 : Int32)) % (11 : Int32)))])) rfl (by rw [hml]; rfl) (argsL := [(.int ((p113 &&& (2147483647 : Int32)) % (11 : Int32)))]) (rest := []) (lenOf pd_0 rfl) rfl (by show 2 * 0 + _ ≤ _; exact Nat.le_of_eq rfl) (hb hby at_9) (fun _ _ => ⟨rfl, e0, (by decide : 0 + 0 ≤ _), (by decide : 0 + 0 ≤ _)⟩)
  dsimp only [Pt.U, Pt.locs, Pt.cells, Pt.slots] at X117 l117 y117 z117 st117 hQ117
  subst l117 y117 z117
  obtain ⟨rfl, N117q, e117⟩ := hQ117
  have N117 := Fr.app N0 N117q
  obtain ⟨cq124, kq124, q124a, q124b, q124c⟩ := isOf hZ e117 H15
  obtain ⟨_, _, ⟨T124, L124, k124, n124⟩, -, X124, ⟨Lc124, hQ124, l124, y124, z124⟩, st124⟩ := X117.virtualBack hx (y := (⟨"com/example/resense/resense/engine/Measure", "isCount", "()Z"⟩ : MethodName)) (z := (⟨"com/example/resense/resense/engine/Measure", "isCount", "()Z"⟩ : MethodName)) hown (mvT hZ (hw _ (List.mem_of_getElem? (i := 8) rfl))) (mvT hZ (hw _ (List.mem_of_getElem? (i := 9) rfl))) (notFace_of_selects (args := #[]) (mvT hZ (hw _ (List.mem_of_getElem? (i := 11) rfl)))) (mvT hZ (hw _ (List.mem_of_getElem? (i := 11) rfl))) (mvT hZ (hw _ (List.mem_of_getElem? (i := 10) rfl))) (by decide) (backOf (W := 0) (r2_2 l Z a0 hw w118 w125 w126 h0 n0 Z0 H12 H13 H14) hZ (hw _ (List.mem_of_getElem? (i := 12) rfl)) (hw _ (List.mem_of_getElem? (i := 6) rfl)) (by decide) (by decide)) q124a q124c (g := (mkF m 31 #[.val (.int p113), .val (.int ((p113 &&& (2147483647 : Int32)) % (11 : Int32))), .val (.ref w118), .val (.int (0 : Int32))] [(.ref w118)])) rfl (by rw [hml]; rfl) (Steps.refl _) (argsL := []) (rest := []) (lenOf pd_1 rfl) rfl (by show 2 * 0 + _ ≤ _; exact Nat.le_of_eq rfl) (hb hby at_31) (fun _ _ => ⟨rfl, e117, (by decide : 0 + 0 ≤ _), (by decide : 0 + 0 ≤ _)⟩)
  dsimp only [Pt.U, Pt.locs, Pt.cells, Pt.slots] at X124 l124 y124 z124 st124 hQ124
  subst l124 y124 z124
  obtain ⟨rfl, N124q, e124⟩ := hQ124
  have N124 := Fr.app N117 N124q
  obtain ⟨fs, hr, hrun, hended, hW, hsame⟩ := X124.leave (v := some (.int (1 : Int32))) (fun h => by rw [Bd.returns] at h; cases h)
  refine ⟨_, _, pre0 _ ?_, hrun, hended, _, _, rfl, ?_, ⟨_, rfl⟩, hW, hsame.mono (by decide) (by decide)⟩
  · show Steps p.tables e below (s₁.setTop (mkF m 0 #[.val (.int p113), .unset, .unset, .unset] [])) _
    refine XS.iloadN X0.here hx rfl (hb hby at_0) rfl ?_
    show Steps p.tables e below (s₁.setTop (mkF m 1 #[.val (.int p113), .unset, .unset, .unset] [(.int p113)])) _
    refine X0.ldcInt hx hown (mvT hZ (hw _ (List.mem_of_getElem? (i := 0) rfl))) (g := (mkF m 1 #[.val (.int p113), .unset, .unset, .unset] [(.int p113)])) rfl (hb hby at_1) _ ?_
    show Steps p.tables e below (s₁.setTop (mkF m 3 #[.val (.int p113), .unset, .unset, .unset] [(.int (2147483647 : Int32)), (.int p113)])) _
    refine XS.iand X0.here hx rfl (hb hby at_3) rfl ?_
    show Steps p.tables e below (s₁.setTop (mkF m 4 #[.val (.int p113), .unset, .unset, .unset] [(.int (p113 &&& (2147483647 : Int32)))])) _
    refine XS.bipush X0.here hx rfl (hb hby at_4) ?_
    show Steps p.tables e below (s₁.setTop (mkF m 6 #[.val (.int p113), .unset, .unset, .unset] [(.int (11 : Int32)), (.int (p113 &&& (2147483647 : Int32)))])) _
    refine iremM X0 hx rfl (hb hby at_6) rfl (by decide) ?_
    show Steps p.tables e below (s₁.setTop (mkF m 7 #[.val (.int p113), .unset, .unset, .unset] [(.int ((p113 &&& (2147483647 : Int32)) % (11 : Int32)))])) _
    refine XS.istoreN X0.here hx rfl (hb hby at_7) rfl (l' := #[.val (.int p113), .val (.int ((p113 &&& (2147483647 : Int32)) % (11 : Int32))), .unset, .unset]) rfl ?_
    show Steps p.tables e below (s₁.setTop (mkF m 8 #[.val (.int p113), .val (.int ((p113 &&& (2147483647 : Int32)) % (11 : Int32))), .unset, .unset] [])) _
    refine XS.iloadN X0.here hx rfl (hb hby at_8) rfl ?_
    show Steps p.tables e below (s₁.setTop (mkF m 9 #[.val (.int p113), .val (.int ((p113 &&& (2147483647 : Int32)) % (11 : Int32))), .unset, .unset] [(.int ((p113 &&& (2147483647 : Int32)) % (11 : Int32)))])) _
    refine st117 _ ?_
    show Steps p.tables e below (T117.setTop (mkF m 12 #[.val (.int p113), .val (.int ((p113 &&& (2147483647 : Int32)) % (11 : Int32))), .unset, .unset] [(.ref w118)])) _
    refine XS.astoreN X117.here hx rfl (hb hby at_12) rfl rfl (l' := #[.val (.int p113), .val (.int ((p113 &&& (2147483647 : Int32)) % (11 : Int32))), .val (.ref w118), .unset]) rfl ?_
    show Steps p.tables e below (T117.setTop (mkF m 13 #[.val (.int p113), .val (.int ((p113 &&& (2147483647 : Int32)) % (11 : Int32))), .val (.ref w118), .unset] [])) _
    refine XS.iloadN X117.here hx rfl (hb hby at_13) rfl ?_
    show Steps p.tables e below (T117.setTop (mkF m 14 #[.val (.int p113), .val (.int ((p113 &&& (2147483647 : Int32)) % (11 : Int32))), .val (.ref w118), .unset] [(.int ((p113 &&& (2147483647 : Int32)) % (11 : Int32)))])) _
    refine XS.iconst X117.here hx rfl (hb hby at_14) ?_
    show Steps p.tables e below (T117.setTop (mkF m 15 #[.val (.int p113), .val (.int ((p113 &&& (2147483647 : Int32)) % (11 : Int32))), .val (.ref w118), .unset] [(.int (3 : Int32)), (.int ((p113 &&& (2147483647 : Int32)) % (11 : Int32)))])) _
    refine XS.icmpNo X117.here hx rfl (hb hby at_15) rfl (tlt H10).2.2.2 ?_
    show Steps p.tables e below (T117.setTop (mkF m 18 #[.val (.int p113), .val (.int ((p113 &&& (2147483647 : Int32)) % (11 : Int32))), .val (.ref w118), .unset] [])) _
    refine XS.iloadN X117.here hx rfl (hb hby at_18) rfl ?_
    show Steps p.tables e below (T117.setTop (mkF m 19 #[.val (.int p113), .val (.int ((p113 &&& (2147483647 : Int32)) % (11 : Int32))), .val (.ref w118), .unset] [(.int ((p113 &&& (2147483647 : Int32)) % (11 : Int32)))])) _
    refine XS.bipush X117.here hx rfl (hb hby at_19) ?_
    show Steps p.tables e below (T117.setTop (mkF m 21 #[.val (.int p113), .val (.int ((p113 &&& (2147483647 : Int32)) % (11 : Int32))), .val (.ref w118), .unset] [(.int (10 : Int32)), (.int ((p113 &&& (2147483647 : Int32)) % (11 : Int32)))])) _
    refine XS.icmpYes X117.here hx rfl (pc0 := 21) (pc' := 28) rfl (hb hby at_21) rfl (feq H11).2 (by decide) (by decide) ?_
    show Steps p.tables e below (T117.setTop (mkF m 28 #[.val (.int p113), .val (.int ((p113 &&& (2147483647 : Int32)) % (11 : Int32))), .val (.ref w118), .unset] [])) _
    refine XS.iconst X117.here hx rfl (hb hby at_28) ?_
    show Steps p.tables e below (T117.setTop (mkF m 29 #[.val (.int p113), .val (.int ((p113 &&& (2147483647 : Int32)) % (11 : Int32))), .val (.ref w118), .unset] [(.int (0 : Int32))])) _
    refine XS.istoreN X117.here hx rfl (hb hby at_29) rfl (l' := #[.val (.int p113), .val (.int ((p113 &&& (2147483647 : Int32)) % (11 : Int32))), .val (.ref w118), .val (.int (0 : Int32))]) rfl ?_
    show Steps p.tables e below (T117.setTop (mkF m 30 #[.val (.int p113), .val (.int ((p113 &&& (2147483647 : Int32)) % (11 : Int32))), .val (.ref w118), .val (.int (0 : Int32))] [])) _
    refine XS.aloadN X117.here hx rfl (hb hby at_30) rfl rfl ?_
    show Steps p.tables e below (T117.setTop (mkF m 31 #[.val (.int p113), .val (.int ((p113 &&& (2147483647 : Int32)) % (11 : Int32))), .val (.ref w118), .val (.int (0 : Int32))] [(.ref w118)])) _
    refine st124.trans ?_
    show Steps p.tables e below (T124.setTop (mkF m 34 #[.val (.int p113), .val (.int ((p113 &&& (2147483647 : Int32)) % (11 : Int32))), .val (.ref w118), .val (.int (0 : Int32))] [(.int (0 : Int32))])) _
    refine XS.iloadN X124.here hx rfl (hb hby at_34) rfl ?_
    show Steps p.tables e below (T124.setTop (mkF m 35 #[.val (.int p113), .val (.int ((p113 &&& (2147483647 : Int32)) % (11 : Int32))), .val (.ref w118), .val (.int (0 : Int32))] [(.int (0 : Int32)), (.int (0 : Int32))])) _
    refine XS.icmpNo X124.here hx rfl (hb hby at_35) rfl (teq (rfl : (0 : Int32) = (0 : Int32))).2 ?_
    show Steps p.tables e below (T124.setTop (mkF m 38 #[.val (.int p113), .val (.int ((p113 &&& (2147483647 : Int32)) % (11 : Int32))), .val (.ref w118), .val (.int (0 : Int32))] [])) _
    refine XS.iconst X124.here hx rfl (hb hby at_38) ?_
    show Steps p.tables e below (T124.setTop (mkF m 39 #[.val (.int p113), .val (.int ((p113 &&& (2147483647 : Int32)) % (11 : Int32))), .val (.ref w118), .val (.int (0 : Int32))] [(.int (1 : Int32))])) _
    refine XS.goto X124.here hx rfl (pc0 := 39) (pc' := 43) rfl (hb hby at_39) (by decide) (by decide) ?_
    show Steps p.tables e below (T124.setTop (mkF m 43 #[.val (.int p113), .val (.int ((p113 &&& (2147483647 : Int32)) % (11 : Int32))), .val (.ref w118), .val (.int (0 : Int32))] [(.int (1 : Int32))])) _
    exact retN X124 hx (t := .boolean) Bd.returns (by simp) (hb hby at_43) hr
  · show OQl (some (.int (1 : Int32))) n0 _ T124.heap _
    exact ⟨rfl, N124⟩
theorem d1_83 : decode method_3_code 83 = .ok (.iload_n 0, 1) := by decide +kernel
theorem d1_84 : decode method_3_code 84 = .ok (.bipush 9, 2) := by decide +kernel
theorem d1_86 : decode method_3_code 86 = .ok (.if_icmp .ne 7, 3) := by decide +kernel
theorem d1_89 : decode method_3_code 89 = .ok (.getstatic 48, 3) := by decide +kernel
theorem d1_92 : decode method_3_code 92 = .ok (.areturn, 1) := by decide +kernel
set_option maxRecDepth 65536 in
set_option maxHeartbeats 40000000 in
theorem r1_10 (l : Launch) (Z : State) (a0 : Array Value) (hw : ∀ d ∈ tables_1, d.before a0 Z = true) (p128 : Int32) (w129 : Addr) (h0 : Heap) (n0 : Nat) (Z0 : n0 ≤ h0.size) (H0 : ¬ (p128 = (0 : Int32))) (H1 : ¬ (p128 = (1 : Int32))) (H2 : ¬ (p128 = (2 : Int32))) (H3 : ¬ (p128 = (3 : Int32))) (H4 : ¬ (p128 = (4 : Int32))) (H5 : ¬ (p128 = (5 : Int32))) (H6 : ¬ (p128 = (6 : Int32))) (H7 : ¬ (p128 = (7 : Int32))) (H8 : ¬ (p128 = (8 : Int32))) (H9 : p128 = (9 : Int32)) (H10 : Sta Z h0 "com/example/resense/resense/engine/Measure" "RECALL_1000" "Lcom/example/resense/resense/engine/Measure;" (.ref w129)) :
    OMet l Z (⟨"com/example/resense/resense/engine/MeasureIsCountPinLaw", "pick", "(I)Lcom/example/resense/resense/engine/Measure;"⟩ : MethodName) method_3_code 1 (some (.object "com/example/resense/resense/engine/Measure")) [] ({ frames := 0, cells := 0, slots := 0, locals := 0 } : Room) h0 #[(.int p128)] (OQp (some (.ref w129)) h0 n0) := by
  refine MetFree.of_bodySF (plainFor_of_name pn_com_example_resense_resense_engine_MeasureIsCountPinLaw) hisR ?_
  intro p e s m args below meth c s₁ Bd hml0 hP hK
  obtain ⟨rfl, hZ, hh⟩ := hP
  have hx := Bd.exec
  have hby := Bd.bytes
  have hml : c.maxLocals = 1 := hml0
  have hown : s.vm.findClass "com/example/resense/resense/engine/MeasureIsCountPinLaw" = some m.cls := findClass_of_methodNamed Bd.named
  have hnm := (name_of_methodNamed Bd.named Bd.method).1
  have X0 : Stand p l e ({ frames := 0, cells := 0, slots := 0, locals := 0 } : Room) s m #[(.int p128)] below meth c s₁ [] 0 0 := Stand.of_body Bd
  have e0 : s₁.heap = h0 := by rw [← hh, Bd.state]; rfl
  have N0 := Fr.nil n0
  have pre0 : ∀ t, Steps p.tables e below (s₁.setTop (mkF m 0 #[.val (.int p128)] [])) t → Steps p.tables e below (s₁.setTop (entryFrame m #[(.int p128)] 1)) t := fun t k => castTop (ef_1_v m p128) k
  obtain ⟨T130, X130, e130, st130⟩ := getS2 X0 hx hZ hown (host := "") (Or.inl (hw _ (List.mem_of_getElem? (i := 31) rfl))) Via.refl e0 H10 (g := (mkF m 89 #[.val (.int p128)] [])) rfl (hb hby d1_89)
  obtain ⟨fs, hr, hrun, hended, hW, hsame⟩ := X130.leave (v := some (.ref w129)) (fun h => by rw [Bd.returns] at h; cases h)
  refine ⟨_, _, pre0 _ ?_, hrun, hended, _, _, rfl, ?_, ⟨_, rfl⟩, hW, hsame.mono (by decide) (by decide)⟩
  · show Steps p.tables e below (s₁.setTop (mkF m 0 #[.val (.int p128)] [])) _
    refine XS.iloadN X0.here hx rfl (hb hby d1_0) rfl ?_
    show Steps p.tables e below (s₁.setTop (mkF m 1 #[.val (.int p128)] [(.int p128)])) _
    refine XS.ifYes X0.here hx rfl (pc0 := 1) (pc' := 8) rfl (hb hby d1_1) rfl ((if0 _ _).trans (feq H0).2) (by decide) (by decide) ?_
    show Steps p.tables e below (s₁.setTop (mkF m 8 #[.val (.int p128)] [])) _
    refine XS.iloadN X0.here hx rfl (hb hby d1_8) rfl ?_
    show Steps p.tables e below (s₁.setTop (mkF m 9 #[.val (.int p128)] [(.int p128)])) _
    refine XS.iconst X0.here hx rfl (hb hby d1_9) ?_
    show Steps p.tables e below (s₁.setTop (mkF m 10 #[.val (.int p128)] [(.int (1 : Int32)), (.int p128)])) _
    refine XS.icmpYes X0.here hx rfl (pc0 := 10) (pc' := 17) rfl (hb hby d1_10) rfl (feq H1).2 (by decide) (by decide) ?_
    show Steps p.tables e below (s₁.setTop (mkF m 17 #[.val (.int p128)] [])) _
    refine XS.iloadN X0.here hx rfl (hb hby d1_17) rfl ?_
    show Steps p.tables e below (s₁.setTop (mkF m 18 #[.val (.int p128)] [(.int p128)])) _
    refine XS.iconst X0.here hx rfl (hb hby d1_18) ?_
    show Steps p.tables e below (s₁.setTop (mkF m 19 #[.val (.int p128)] [(.int (2 : Int32)), (.int p128)])) _
    refine XS.icmpYes X0.here hx rfl (pc0 := 19) (pc' := 26) rfl (hb hby d1_19) rfl (feq H2).2 (by decide) (by decide) ?_
    show Steps p.tables e below (s₁.setTop (mkF m 26 #[.val (.int p128)] [])) _
    refine XS.iloadN X0.here hx rfl (hb hby d1_26) rfl ?_
    show Steps p.tables e below (s₁.setTop (mkF m 27 #[.val (.int p128)] [(.int p128)])) _
    refine XS.iconst X0.here hx rfl (hb hby d1_27) ?_
    show Steps p.tables e below (s₁.setTop (mkF m 28 #[.val (.int p128)] [(.int (3 : Int32)), (.int p128)])) _
    refine XS.icmpYes X0.here hx rfl (pc0 := 28) (pc' := 35) rfl (hb hby d1_28) rfl (feq H3).2 (by decide) (by decide) ?_
    show Steps p.tables e below (s₁.setTop (mkF m 35 #[.val (.int p128)] [])) _
    refine XS.iloadN X0.here hx rfl (hb hby d1_35) rfl ?_
    show Steps p.tables e below (s₁.setTop (mkF m 36 #[.val (.int p128)] [(.int p128)])) _
    refine XS.iconst X0.here hx rfl (hb hby d1_36) ?_
    show Steps p.tables e below (s₁.setTop (mkF m 37 #[.val (.int p128)] [(.int (4 : Int32)), (.int p128)])) _
    refine XS.icmpYes X0.here hx rfl (pc0 := 37) (pc' := 44) rfl (hb hby d1_37) rfl (feq H4).2 (by decide) (by decide) ?_
    show Steps p.tables e below (s₁.setTop (mkF m 44 #[.val (.int p128)] [])) _
    refine XS.iloadN X0.here hx rfl (hb hby d1_44) rfl ?_
    show Steps p.tables e below (s₁.setTop (mkF m 45 #[.val (.int p128)] [(.int p128)])) _
    refine XS.iconst X0.here hx rfl (hb hby d1_45) ?_
    show Steps p.tables e below (s₁.setTop (mkF m 46 #[.val (.int p128)] [(.int (5 : Int32)), (.int p128)])) _
    refine XS.icmpYes X0.here hx rfl (pc0 := 46) (pc' := 53) rfl (hb hby d1_46) rfl (feq H5).2 (by decide) (by decide) ?_
    show Steps p.tables e below (s₁.setTop (mkF m 53 #[.val (.int p128)] [])) _
    refine XS.iloadN X0.here hx rfl (hb hby d1_53) rfl ?_
    show Steps p.tables e below (s₁.setTop (mkF m 54 #[.val (.int p128)] [(.int p128)])) _
    refine XS.bipush X0.here hx rfl (hb hby d1_54) ?_
    show Steps p.tables e below (s₁.setTop (mkF m 56 #[.val (.int p128)] [(.int (6 : Int32)), (.int p128)])) _
    refine XS.icmpYes X0.here hx rfl (pc0 := 56) (pc' := 63) rfl (hb hby d1_56) rfl (feq H6).2 (by decide) (by decide) ?_
    show Steps p.tables e below (s₁.setTop (mkF m 63 #[.val (.int p128)] [])) _
    refine XS.iloadN X0.here hx rfl (hb hby d1_63) rfl ?_
    show Steps p.tables e below (s₁.setTop (mkF m 64 #[.val (.int p128)] [(.int p128)])) _
    refine XS.bipush X0.here hx rfl (hb hby d1_64) ?_
    show Steps p.tables e below (s₁.setTop (mkF m 66 #[.val (.int p128)] [(.int (7 : Int32)), (.int p128)])) _
    refine XS.icmpYes X0.here hx rfl (pc0 := 66) (pc' := 73) rfl (hb hby d1_66) rfl (feq H7).2 (by decide) (by decide) ?_
    show Steps p.tables e below (s₁.setTop (mkF m 73 #[.val (.int p128)] [])) _
    refine XS.iloadN X0.here hx rfl (hb hby d1_73) rfl ?_
    show Steps p.tables e below (s₁.setTop (mkF m 74 #[.val (.int p128)] [(.int p128)])) _
    refine XS.bipush X0.here hx rfl (hb hby d1_74) ?_
    show Steps p.tables e below (s₁.setTop (mkF m 76 #[.val (.int p128)] [(.int (8 : Int32)), (.int p128)])) _
    refine XS.icmpYes X0.here hx rfl (pc0 := 76) (pc' := 83) rfl (hb hby d1_76) rfl (feq H8).2 (by decide) (by decide) ?_
    show Steps p.tables e below (s₁.setTop (mkF m 83 #[.val (.int p128)] [])) _
    refine XS.iloadN X0.here hx rfl (hb hby d1_83) rfl ?_
    show Steps p.tables e below (s₁.setTop (mkF m 84 #[.val (.int p128)] [(.int p128)])) _
    refine XS.bipush X0.here hx rfl (hb hby d1_84) ?_
    show Steps p.tables e below (s₁.setTop (mkF m 86 #[.val (.int p128)] [(.int (9 : Int32)), (.int p128)])) _
    refine XS.icmpNo X0.here hx rfl (hb hby d1_86) rfl (teq H9).2 ?_
    show Steps p.tables e below (s₁.setTop (mkF m 89 #[.val (.int p128)] [])) _
    refine st130 _ ?_
    show Steps p.tables e below (T130.setTop (mkF m 92 #[.val (.int p128)] [(.ref w129)])) _
    jvm_step X130.here [X130.here.top, hx, (hb hby d1_92), X130.method', Bd.returns, Value.isRef, FieldType.isReference]
    first | (intro acts; rw [hr _ acts rfl rfl rfl]) | rw [hr _ _ rfl rfl rfl]
    exact Steps.refl _
  · show OQp (some (.ref w129)) h0 n0 _ T130.heap _
    rw [e130]
    exact ⟨rfl, N0, rfl⟩
set_option maxRecDepth 65536 in
set_option maxHeartbeats 40000000 in
theorem r0_10 (l : Launch) (Z : State) (a0 : Array Value) (hw : ∀ d ∈ tables_1, d.before a0 Z = true) (p127 : Int32) (w132 : Addr) (w139 : Addr) (w140 : Addr) (h0 : Heap) (n0 : Nat) (Z0 : n0 ≤ h0.size) (H0 : ¬ (((p127 &&& (2147483647 : Int32)) % (11 : Int32)) = (0 : Int32))) (H1 : ¬ (((p127 &&& (2147483647 : Int32)) % (11 : Int32)) = (1 : Int32))) (H2 : ¬ (((p127 &&& (2147483647 : Int32)) % (11 : Int32)) = (2 : Int32))) (H3 : ¬ (((p127 &&& (2147483647 : Int32)) % (11 : Int32)) = (3 : Int32))) (H4 : ¬ (((p127 &&& (2147483647 : Int32)) % (11 : Int32)) = (4 : Int32))) (H5 : ¬ (((p127 &&& (2147483647 : Int32)) % (11 : Int32)) = (5 : Int32))) (H6 : ¬ (((p127 &&& (2147483647 : Int32)) % (11 : Int32)) = (6 : Int32))) (H7 : ¬ (((p127 &&& (2147483647 : Int32)) % (11 : Int32)) = (7 : Int32))) (H8 : ¬ (((p127 &&& (2147483647 : Int32)) % (11 : Int32)) = (8 : Int32))) (H9 : ((p127 &&& (2147483647 : Int32)) % (11 : Int32)) = (9 : Int32)) (H10 : Sta Z h0 "com/example/resense/resense/engine/Measure" "RECALL_1000" "Lcom/example/resense/resense/engine/Measure;" (.ref w132)) (H11 : (3 : Int32) < ((p127 &&& (2147483647 : Int32)) % (11 : Int32))) (H12 : ¬ (((p127 &&& (2147483647 : Int32)) % (11 : Int32)) = (10 : Int32))) (H13 : Fld Z h0 w132 "com/example/resense/resense/engine/Measure" "combination" "Lcom/example/resense/resense/engine/Measure$Combination;" (.ref w139)) (H14 : Sta Z h0 "com/example/resense/resense/engine/Measure$Combination" "SUM" "Lcom/example/resense/resense/engine/Measure$Combination;" (.ref w140)) (H15 : w139 ≠ w140) (H16 : Exa Z h0 w132 "com/example/resense/resense/engine/Measure") :
    OMet l Z x code maxLocals ret tables_1 room_1 h0 #[(.int p127)] (OQl (some (.int (1 : Int32))) n0) := by
  refine MetFree.of_bodySF (plainFor_of_name pn_com_example_resense_resense_engine_MeasureIsCountPinLaw) hisR ?_
  intro p e s m args below meth c s₁ Bd hml0 hP hK
  obtain ⟨rfl, hZ, hh⟩ := hP
  have hx := Bd.exec
  have hby := Bd.bytes
  have hml : c.maxLocals = 4 := hml0
  have hown : s.vm.findClass "com/example/resense/resense/engine/MeasureIsCountPinLaw" = some m.cls := findClass_of_methodNamed Bd.named
  have hnm := (name_of_methodNamed Bd.named Bd.method).1
  have X0 : Stand p l e room_1 s m #[(.int p127)] below meth c s₁ [] 0 0 := Stand.of_body Bd
  have e0 : s₁.heap = h0 := by rw [← hh, Bd.state]; rfl
  have N0 := Fr.nil n0
  have pre0 : ∀ t, Steps p.tables e below (s₁.setTop (mkF m 0 #[.val (.int p127), .unset, .unset, .unset] [])) t → Steps p.tables e below (s₁.setTop (entryFrame m #[(.int p127)] maxLocals)) t := fun t k => castTop (ef_0_v m p127) k
  obtain ⟨_, _, ⟨T131, L131, k131, n131⟩, -, X131, ⟨Lc131, hQ131, l131, y131, z131⟩, st131⟩ := Jvm.LawKit.callS X0 hx (y := (⟨"com/example/resense/resense/engine/MeasureIsCountPinLaw", "pick", "(I)Lcom/example/resense/resense/engine/Measure;"⟩ : MethodName)) hown (mvT hZ (hw _ (List.mem_of_getElem? (i := 1) rfl))) (mvT hZ (hw _ (List.mem_of_getElem? (i := 2) rfl))) (mvT hZ (hw _ (List.mem_of_getElem? (i := 3) rfl))) (mvT hZ (hw _ (List.mem_of_getElem? (i := 4) rfl))) (by decide) (backOf (W := 0) (r1_10 l Z a0 hw ((p127 &&& (2147483647 : Int32)) % (11 : Int32)) w132 h0 n0 Z0 H0 H1 H2 H3 H4 H5 H6 H7 H8 H9 H10) hZ (hw _ (List.mem_of_getElem? (i := 4) rfl)) (hw _ (List.mem_of_getElem? (i := 3) rfl)) (by decide) (by decide)) (g := (mkF m 9 #[.val (.int p127), .val (.int ((p127 &&& (2147483647 : Int32)) % (11 : Int32))), .unset, .unset] [(.int ((p127 &&& (2147483647 : Int32)) % (11 : Int32)))])) rfl (by rw [hml]; rfl) (argsL := [(.int ((p127 &&& (2147483647 : Int32)) % (11 : Int32)))]) (rest := []) (lenOf pd_0 rfl) rfl (by show 2 * 0 + _ ≤ _; exact Nat.le_of_eq rfl) (hb hby at_9) (fun _ _ => ⟨rfl, e0, (by decide : 0 + 0 ≤ _), (by decide : 0 + 0 ≤ _)⟩)
  dsimp only [Pt.U, Pt.locs, Pt.cells, Pt.slots] at X131 l131 y131 z131 st131 hQ131
  subst l131 y131 z131
  obtain ⟨rfl, N131q, e131⟩ := hQ131
  have N131 := Fr.app N0 N131q
  obtain ⟨cq138, kq138, q138a, q138b, q138c⟩ := isOf hZ e131 H16
  obtain ⟨_, _, ⟨T138, L138, k138, n138⟩, -, X138, ⟨Lc138, hQ138, l138, y138, z138⟩, st138⟩ := X131.virtualBack hx (y := (⟨"com/example/resense/resense/engine/Measure", "isCount", "()Z"⟩ : MethodName)) (z := (⟨"com/example/resense/resense/engine/Measure", "isCount", "()Z"⟩ : MethodName)) hown (mvT hZ (hw _ (List.mem_of_getElem? (i := 8) rfl))) (mvT hZ (hw _ (List.mem_of_getElem? (i := 9) rfl))) (notFace_of_selects (args := #[]) (mvT hZ (hw _ (List.mem_of_getElem? (i := 11) rfl)))) (mvT hZ (hw _ (List.mem_of_getElem? (i := 11) rfl))) (mvT hZ (hw _ (List.mem_of_getElem? (i := 10) rfl))) (by decide) (backOf (W := 0) (r2_2 l Z a0 hw w132 w139 w140 h0 n0 Z0 H13 H14 H15) hZ (hw _ (List.mem_of_getElem? (i := 12) rfl)) (hw _ (List.mem_of_getElem? (i := 6) rfl)) (by decide) (by decide)) q138a q138c (g := (mkF m 31 #[.val (.int p127), .val (.int ((p127 &&& (2147483647 : Int32)) % (11 : Int32))), .val (.ref w132), .val (.int (0 : Int32))] [(.ref w132)])) rfl (by rw [hml]; rfl) (Steps.refl _) (argsL := []) (rest := []) (lenOf pd_1 rfl) rfl (by show 2 * 0 + _ ≤ _; exact Nat.le_of_eq rfl) (hb hby at_31) (fun _ _ => ⟨rfl, e131, (by decide : 0 + 0 ≤ _), (by decide : 0 + 0 ≤ _)⟩)
  dsimp only [Pt.U, Pt.locs, Pt.cells, Pt.slots] at X138 l138 y138 z138 st138 hQ138
  subst l138 y138 z138
  obtain ⟨rfl, N138q, e138⟩ := hQ138
  have N138 := Fr.app N131 N138q
  obtain ⟨fs, hr, hrun, hended, hW, hsame⟩ := X138.leave (v := some (.int (1 : Int32))) (fun h => by rw [Bd.returns] at h; cases h)
  refine ⟨_, _, pre0 _ ?_, hrun, hended, _, _, rfl, ?_, ⟨_, rfl⟩, hW, hsame.mono (by decide) (by decide)⟩
  · show Steps p.tables e below (s₁.setTop (mkF m 0 #[.val (.int p127), .unset, .unset, .unset] [])) _
    refine XS.iloadN X0.here hx rfl (hb hby at_0) rfl ?_
    show Steps p.tables e below (s₁.setTop (mkF m 1 #[.val (.int p127), .unset, .unset, .unset] [(.int p127)])) _
    refine X0.ldcInt hx hown (mvT hZ (hw _ (List.mem_of_getElem? (i := 0) rfl))) (g := (mkF m 1 #[.val (.int p127), .unset, .unset, .unset] [(.int p127)])) rfl (hb hby at_1) _ ?_
    show Steps p.tables e below (s₁.setTop (mkF m 3 #[.val (.int p127), .unset, .unset, .unset] [(.int (2147483647 : Int32)), (.int p127)])) _
    refine XS.iand X0.here hx rfl (hb hby at_3) rfl ?_
    show Steps p.tables e below (s₁.setTop (mkF m 4 #[.val (.int p127), .unset, .unset, .unset] [(.int (p127 &&& (2147483647 : Int32)))])) _
    refine XS.bipush X0.here hx rfl (hb hby at_4) ?_
    show Steps p.tables e below (s₁.setTop (mkF m 6 #[.val (.int p127), .unset, .unset, .unset] [(.int (11 : Int32)), (.int (p127 &&& (2147483647 : Int32)))])) _
    refine iremM X0 hx rfl (hb hby at_6) rfl (by decide) ?_
    show Steps p.tables e below (s₁.setTop (mkF m 7 #[.val (.int p127), .unset, .unset, .unset] [(.int ((p127 &&& (2147483647 : Int32)) % (11 : Int32)))])) _
    refine XS.istoreN X0.here hx rfl (hb hby at_7) rfl (l' := #[.val (.int p127), .val (.int ((p127 &&& (2147483647 : Int32)) % (11 : Int32))), .unset, .unset]) rfl ?_
    show Steps p.tables e below (s₁.setTop (mkF m 8 #[.val (.int p127), .val (.int ((p127 &&& (2147483647 : Int32)) % (11 : Int32))), .unset, .unset] [])) _
    refine XS.iloadN X0.here hx rfl (hb hby at_8) rfl ?_
    show Steps p.tables e below (s₁.setTop (mkF m 9 #[.val (.int p127), .val (.int ((p127 &&& (2147483647 : Int32)) % (11 : Int32))), .unset, .unset] [(.int ((p127 &&& (2147483647 : Int32)) % (11 : Int32)))])) _
    refine st131 _ ?_
    show Steps p.tables e below (T131.setTop (mkF m 12 #[.val (.int p127), .val (.int ((p127 &&& (2147483647 : Int32)) % (11 : Int32))), .unset, .unset] [(.ref w132)])) _
    refine XS.astoreN X131.here hx rfl (hb hby at_12) rfl rfl (l' := #[.val (.int p127), .val (.int ((p127 &&& (2147483647 : Int32)) % (11 : Int32))), .val (.ref w132), .unset]) rfl ?_
    show Steps p.tables e below (T131.setTop (mkF m 13 #[.val (.int p127), .val (.int ((p127 &&& (2147483647 : Int32)) % (11 : Int32))), .val (.ref w132), .unset] [])) _
    refine XS.iloadN X131.here hx rfl (hb hby at_13) rfl ?_
    show Steps p.tables e below (T131.setTop (mkF m 14 #[.val (.int p127), .val (.int ((p127 &&& (2147483647 : Int32)) % (11 : Int32))), .val (.ref w132), .unset] [(.int ((p127 &&& (2147483647 : Int32)) % (11 : Int32)))])) _
    refine XS.iconst X131.here hx rfl (hb hby at_14) ?_
    show Steps p.tables e below (T131.setTop (mkF m 15 #[.val (.int p127), .val (.int ((p127 &&& (2147483647 : Int32)) % (11 : Int32))), .val (.ref w132), .unset] [(.int (3 : Int32)), (.int ((p127 &&& (2147483647 : Int32)) % (11 : Int32)))])) _
    refine XS.icmpNo X131.here hx rfl (hb hby at_15) rfl (tlt H11).2.2.2 ?_
    show Steps p.tables e below (T131.setTop (mkF m 18 #[.val (.int p127), .val (.int ((p127 &&& (2147483647 : Int32)) % (11 : Int32))), .val (.ref w132), .unset] [])) _
    refine XS.iloadN X131.here hx rfl (hb hby at_18) rfl ?_
    show Steps p.tables e below (T131.setTop (mkF m 19 #[.val (.int p127), .val (.int ((p127 &&& (2147483647 : Int32)) % (11 : Int32))), .val (.ref w132), .unset] [(.int ((p127 &&& (2147483647 : Int32)) % (11 : Int32)))])) _
    refine XS.bipush X131.here hx rfl (hb hby at_19) ?_
    show Steps p.tables e below (T131.setTop (mkF m 21 #[.val (.int p127), .val (.int ((p127 &&& (2147483647 : Int32)) % (11 : Int32))), .val (.ref w132), .unset] [(.int (10 : Int32)), (.int ((p127 &&& (2147483647 : Int32)) % (11 : Int32)))])) _
    refine XS.icmpYes X131.here hx rfl (pc0 := 21) (pc' := 28) rfl (hb hby at_21) rfl (feq H12).2 (by decide) (by decide) ?_
    show Steps p.tables e below (T131.setTop (mkF m 28 #[.val (.int p127), .val (.int ((p127 &&& (2147483647 : Int32)) % (11 : Int32))), .val (.ref w132), .unset] [])) _
    refine XS.iconst X131.here hx rfl (hb hby at_28) ?_
    show Steps p.tables e below (T131.setTop (mkF m 29 #[.val (.int p127), .val (.int ((p127 &&& (2147483647 : Int32)) % (11 : Int32))), .val (.ref w132), .unset] [(.int (0 : Int32))])) _
    refine XS.istoreN X131.here hx rfl (hb hby at_29) rfl (l' := #[.val (.int p127), .val (.int ((p127 &&& (2147483647 : Int32)) % (11 : Int32))), .val (.ref w132), .val (.int (0 : Int32))]) rfl ?_
    show Steps p.tables e below (T131.setTop (mkF m 30 #[.val (.int p127), .val (.int ((p127 &&& (2147483647 : Int32)) % (11 : Int32))), .val (.ref w132), .val (.int (0 : Int32))] [])) _
    refine XS.aloadN X131.here hx rfl (hb hby at_30) rfl rfl ?_
    show Steps p.tables e below (T131.setTop (mkF m 31 #[.val (.int p127), .val (.int ((p127 &&& (2147483647 : Int32)) % (11 : Int32))), .val (.ref w132), .val (.int (0 : Int32))] [(.ref w132)])) _
    refine st138.trans ?_
    show Steps p.tables e below (T138.setTop (mkF m 34 #[.val (.int p127), .val (.int ((p127 &&& (2147483647 : Int32)) % (11 : Int32))), .val (.ref w132), .val (.int (0 : Int32))] [(.int (0 : Int32))])) _
    refine XS.iloadN X138.here hx rfl (hb hby at_34) rfl ?_
    show Steps p.tables e below (T138.setTop (mkF m 35 #[.val (.int p127), .val (.int ((p127 &&& (2147483647 : Int32)) % (11 : Int32))), .val (.ref w132), .val (.int (0 : Int32))] [(.int (0 : Int32)), (.int (0 : Int32))])) _
    refine XS.icmpNo X138.here hx rfl (hb hby at_35) rfl (teq (rfl : (0 : Int32) = (0 : Int32))).2 ?_
    show Steps p.tables e below (T138.setTop (mkF m 38 #[.val (.int p127), .val (.int ((p127 &&& (2147483647 : Int32)) % (11 : Int32))), .val (.ref w132), .val (.int (0 : Int32))] [])) _
    refine XS.iconst X138.here hx rfl (hb hby at_38) ?_
    show Steps p.tables e below (T138.setTop (mkF m 39 #[.val (.int p127), .val (.int ((p127 &&& (2147483647 : Int32)) % (11 : Int32))), .val (.ref w132), .val (.int (0 : Int32))] [(.int (1 : Int32))])) _
    refine XS.goto X138.here hx rfl (pc0 := 39) (pc' := 43) rfl (hb hby at_39) (by decide) (by decide) ?_
    show Steps p.tables e below (T138.setTop (mkF m 43 #[.val (.int p127), .val (.int ((p127 &&& (2147483647 : Int32)) % (11 : Int32))), .val (.ref w132), .val (.int (0 : Int32))] [(.int (1 : Int32))])) _
    exact retN X138 hx (t := .boolean) Bd.returns (by simp) (hb hby at_43) hr
  · show OQl (some (.int (1 : Int32))) n0 _ T138.heap _
    exact ⟨rfl, N138⟩
theorem d1_93 : decode method_3_code 93 = .ok (.getstatic 51, 3) := by decide +kernel
theorem d1_96 : decode method_3_code 96 = .ok (.areturn, 1) := by decide +kernel
set_option maxRecDepth 65536 in
set_option maxHeartbeats 40000000 in
theorem r1_11 (l : Launch) (Z : State) (a0 : Array Value) (hw : ∀ d ∈ tables_1, d.before a0 Z = true) (p142 : Int32) (w143 : Addr) (h0 : Heap) (n0 : Nat) (Z0 : n0 ≤ h0.size) (H0 : ¬ (p142 = (0 : Int32))) (H1 : ¬ (p142 = (1 : Int32))) (H2 : ¬ (p142 = (2 : Int32))) (H3 : ¬ (p142 = (3 : Int32))) (H4 : ¬ (p142 = (4 : Int32))) (H5 : ¬ (p142 = (5 : Int32))) (H6 : ¬ (p142 = (6 : Int32))) (H7 : ¬ (p142 = (7 : Int32))) (H8 : ¬ (p142 = (8 : Int32))) (H9 : ¬ (p142 = (9 : Int32))) (H10 : Sta Z h0 "com/example/resense/resense/engine/Measure" "TOPICS_NO_REL_IN_TOP10" "Lcom/example/resense/resense/engine/Measure;" (.ref w143)) :
    OMet l Z (⟨"com/example/resense/resense/engine/MeasureIsCountPinLaw", "pick", "(I)Lcom/example/resense/resense/engine/Measure;"⟩ : MethodName) method_3_code 1 (some (.object "com/example/resense/resense/engine/Measure")) [] ({ frames := 0, cells := 0, slots := 0, locals := 0 } : Room) h0 #[(.int p142)] (OQp (some (.ref w143)) h0 n0) := by
  refine MetFree.of_bodySF (plainFor_of_name pn_com_example_resense_resense_engine_MeasureIsCountPinLaw) hisR ?_
  intro p e s m args below meth c s₁ Bd hml0 hP hK
  obtain ⟨rfl, hZ, hh⟩ := hP
  have hx := Bd.exec
  have hby := Bd.bytes
  have hml : c.maxLocals = 1 := hml0
  have hown : s.vm.findClass "com/example/resense/resense/engine/MeasureIsCountPinLaw" = some m.cls := findClass_of_methodNamed Bd.named
  have hnm := (name_of_methodNamed Bd.named Bd.method).1
  have X0 : Stand p l e ({ frames := 0, cells := 0, slots := 0, locals := 0 } : Room) s m #[(.int p142)] below meth c s₁ [] 0 0 := Stand.of_body Bd
  have e0 : s₁.heap = h0 := by rw [← hh, Bd.state]; rfl
  have N0 := Fr.nil n0
  have pre0 : ∀ t, Steps p.tables e below (s₁.setTop (mkF m 0 #[.val (.int p142)] [])) t → Steps p.tables e below (s₁.setTop (entryFrame m #[(.int p142)] 1)) t := fun t k => castTop (ef_1_v m p142) k
  obtain ⟨T144, X144, e144, st144⟩ := getS2 X0 hx hZ hown (host := "") (Or.inl (hw _ (List.mem_of_getElem? (i := 27) rfl))) Via.refl e0 H10 (g := (mkF m 93 #[.val (.int p142)] [])) rfl (hb hby d1_93)
  obtain ⟨fs, hr, hrun, hended, hW, hsame⟩ := X144.leave (v := some (.ref w143)) (fun h => by rw [Bd.returns] at h; cases h)
  refine ⟨_, _, pre0 _ ?_, hrun, hended, _, _, rfl, ?_, ⟨_, rfl⟩, hW, hsame.mono (by decide) (by decide)⟩
  · show Steps p.tables e below (s₁.setTop (mkF m 0 #[.val (.int p142)] [])) _
    refine XS.iloadN X0.here hx rfl (hb hby d1_0) rfl ?_
    show Steps p.tables e below (s₁.setTop (mkF m 1 #[.val (.int p142)] [(.int p142)])) _
    refine XS.ifYes X0.here hx rfl (pc0 := 1) (pc' := 8) rfl (hb hby d1_1) rfl ((if0 _ _).trans (feq H0).2) (by decide) (by decide) ?_
    show Steps p.tables e below (s₁.setTop (mkF m 8 #[.val (.int p142)] [])) _
    refine XS.iloadN X0.here hx rfl (hb hby d1_8) rfl ?_
    show Steps p.tables e below (s₁.setTop (mkF m 9 #[.val (.int p142)] [(.int p142)])) _
    refine XS.iconst X0.here hx rfl (hb hby d1_9) ?_
    show Steps p.tables e below (s₁.setTop (mkF m 10 #[.val (.int p142)] [(.int (1 : Int32)), (.int p142)])) _
    refine XS.icmpYes X0.here hx rfl (pc0 := 10) (pc' := 17) rfl (hb hby d1_10) rfl (feq H1).2 (by decide) (by decide) ?_
    show Steps p.tables e below (s₁.setTop (mkF m 17 #[.val (.int p142)] [])) _
    refine XS.iloadN X0.here hx rfl (hb hby d1_17) rfl ?_
    show Steps p.tables e below (s₁.setTop (mkF m 18 #[.val (.int p142)] [(.int p142)])) _
    refine XS.iconst X0.here hx rfl (hb hby d1_18) ?_
    show Steps p.tables e below (s₁.setTop (mkF m 19 #[.val (.int p142)] [(.int (2 : Int32)), (.int p142)])) _
    refine XS.icmpYes X0.here hx rfl (pc0 := 19) (pc' := 26) rfl (hb hby d1_19) rfl (feq H2).2 (by decide) (by decide) ?_
    show Steps p.tables e below (s₁.setTop (mkF m 26 #[.val (.int p142)] [])) _
    refine XS.iloadN X0.here hx rfl (hb hby d1_26) rfl ?_
    show Steps p.tables e below (s₁.setTop (mkF m 27 #[.val (.int p142)] [(.int p142)])) _
    refine XS.iconst X0.here hx rfl (hb hby d1_27) ?_
    show Steps p.tables e below (s₁.setTop (mkF m 28 #[.val (.int p142)] [(.int (3 : Int32)), (.int p142)])) _
    refine XS.icmpYes X0.here hx rfl (pc0 := 28) (pc' := 35) rfl (hb hby d1_28) rfl (feq H3).2 (by decide) (by decide) ?_
    show Steps p.tables e below (s₁.setTop (mkF m 35 #[.val (.int p142)] [])) _
    refine XS.iloadN X0.here hx rfl (hb hby d1_35) rfl ?_
    show Steps p.tables e below (s₁.setTop (mkF m 36 #[.val (.int p142)] [(.int p142)])) _
    refine XS.iconst X0.here hx rfl (hb hby d1_36) ?_
    show Steps p.tables e below (s₁.setTop (mkF m 37 #[.val (.int p142)] [(.int (4 : Int32)), (.int p142)])) _
    refine XS.icmpYes X0.here hx rfl (pc0 := 37) (pc' := 44) rfl (hb hby d1_37) rfl (feq H4).2 (by decide) (by decide) ?_
    show Steps p.tables e below (s₁.setTop (mkF m 44 #[.val (.int p142)] [])) _
    refine XS.iloadN X0.here hx rfl (hb hby d1_44) rfl ?_
    show Steps p.tables e below (s₁.setTop (mkF m 45 #[.val (.int p142)] [(.int p142)])) _
    refine XS.iconst X0.here hx rfl (hb hby d1_45) ?_
    show Steps p.tables e below (s₁.setTop (mkF m 46 #[.val (.int p142)] [(.int (5 : Int32)), (.int p142)])) _
    refine XS.icmpYes X0.here hx rfl (pc0 := 46) (pc' := 53) rfl (hb hby d1_46) rfl (feq H5).2 (by decide) (by decide) ?_
    show Steps p.tables e below (s₁.setTop (mkF m 53 #[.val (.int p142)] [])) _
    refine XS.iloadN X0.here hx rfl (hb hby d1_53) rfl ?_
    show Steps p.tables e below (s₁.setTop (mkF m 54 #[.val (.int p142)] [(.int p142)])) _
    refine XS.bipush X0.here hx rfl (hb hby d1_54) ?_
    show Steps p.tables e below (s₁.setTop (mkF m 56 #[.val (.int p142)] [(.int (6 : Int32)), (.int p142)])) _
    refine XS.icmpYes X0.here hx rfl (pc0 := 56) (pc' := 63) rfl (hb hby d1_56) rfl (feq H6).2 (by decide) (by decide) ?_
    show Steps p.tables e below (s₁.setTop (mkF m 63 #[.val (.int p142)] [])) _
    refine XS.iloadN X0.here hx rfl (hb hby d1_63) rfl ?_
    show Steps p.tables e below (s₁.setTop (mkF m 64 #[.val (.int p142)] [(.int p142)])) _
    refine XS.bipush X0.here hx rfl (hb hby d1_64) ?_
    show Steps p.tables e below (s₁.setTop (mkF m 66 #[.val (.int p142)] [(.int (7 : Int32)), (.int p142)])) _
    refine XS.icmpYes X0.here hx rfl (pc0 := 66) (pc' := 73) rfl (hb hby d1_66) rfl (feq H7).2 (by decide) (by decide) ?_
    show Steps p.tables e below (s₁.setTop (mkF m 73 #[.val (.int p142)] [])) _
    refine XS.iloadN X0.here hx rfl (hb hby d1_73) rfl ?_
    show Steps p.tables e below (s₁.setTop (mkF m 74 #[.val (.int p142)] [(.int p142)])) _
    refine XS.bipush X0.here hx rfl (hb hby d1_74) ?_
    show Steps p.tables e below (s₁.setTop (mkF m 76 #[.val (.int p142)] [(.int (8 : Int32)), (.int p142)])) _
    refine XS.icmpYes X0.here hx rfl (pc0 := 76) (pc' := 83) rfl (hb hby d1_76) rfl (feq H8).2 (by decide) (by decide) ?_
    show Steps p.tables e below (s₁.setTop (mkF m 83 #[.val (.int p142)] [])) _
    refine XS.iloadN X0.here hx rfl (hb hby d1_83) rfl ?_
    show Steps p.tables e below (s₁.setTop (mkF m 84 #[.val (.int p142)] [(.int p142)])) _
    refine XS.bipush X0.here hx rfl (hb hby d1_84) ?_
    show Steps p.tables e below (s₁.setTop (mkF m 86 #[.val (.int p142)] [(.int (9 : Int32)), (.int p142)])) _
    refine XS.icmpYes X0.here hx rfl (pc0 := 86) (pc' := 93) rfl (hb hby d1_86) rfl (feq H9).2 (by decide) (by decide) ?_
    show Steps p.tables e below (s₁.setTop (mkF m 93 #[.val (.int p142)] [])) _
    refine st144 _ ?_
    show Steps p.tables e below (T144.setTop (mkF m 96 #[.val (.int p142)] [(.ref w143)])) _
    jvm_step X144.here [X144.here.top, hx, (hb hby d1_96), X144.method', Bd.returns, Value.isRef, FieldType.isReference]
    first | (intro acts; rw [hr _ acts rfl rfl rfl]) | rw [hr _ _ rfl rfl rfl]
    exact Steps.refl _
  · show OQp (some (.ref w143)) h0 n0 _ T144.heap _
    rw [e144]
    exact ⟨rfl, N0, rfl⟩
set_option maxRecDepth 65536 in
set_option maxHeartbeats 40000000 in
theorem r0_11 (l : Launch) (Z : State) (a0 : Array Value) (hw : ∀ d ∈ tables_1, d.before a0 Z = true) (p141 : Int32) (w146 : Addr) (w153 : Addr) (w154 : Addr) (h0 : Heap) (n0 : Nat) (Z0 : n0 ≤ h0.size) (H0 : ¬ (((p141 &&& (2147483647 : Int32)) % (11 : Int32)) = (0 : Int32))) (H1 : ¬ (((p141 &&& (2147483647 : Int32)) % (11 : Int32)) = (1 : Int32))) (H2 : ¬ (((p141 &&& (2147483647 : Int32)) % (11 : Int32)) = (2 : Int32))) (H3 : ¬ (((p141 &&& (2147483647 : Int32)) % (11 : Int32)) = (3 : Int32))) (H4 : ¬ (((p141 &&& (2147483647 : Int32)) % (11 : Int32)) = (4 : Int32))) (H5 : ¬ (((p141 &&& (2147483647 : Int32)) % (11 : Int32)) = (5 : Int32))) (H6 : ¬ (((p141 &&& (2147483647 : Int32)) % (11 : Int32)) = (6 : Int32))) (H7 : ¬ (((p141 &&& (2147483647 : Int32)) % (11 : Int32)) = (7 : Int32))) (H8 : ¬ (((p141 &&& (2147483647 : Int32)) % (11 : Int32)) = (8 : Int32))) (H9 : ¬ (((p141 &&& (2147483647 : Int32)) % (11 : Int32)) = (9 : Int32))) (H10 : Sta Z h0 "com/example/resense/resense/engine/Measure" "TOPICS_NO_REL_IN_TOP10" "Lcom/example/resense/resense/engine/Measure;" (.ref w146)) (H11 : (3 : Int32) < ((p141 &&& (2147483647 : Int32)) % (11 : Int32))) (H12 : ((p141 &&& (2147483647 : Int32)) % (11 : Int32)) = (10 : Int32)) (H13 : Fld Z h0 w146 "com/example/resense/resense/engine/Measure" "combination" "Lcom/example/resense/resense/engine/Measure$Combination;" (.ref w153)) (H14 : Sta Z h0 "com/example/resense/resense/engine/Measure$Combination" "SUM" "Lcom/example/resense/resense/engine/Measure$Combination;" (.ref w154)) (H15 : w153 = w154) (H16 : Exa Z h0 w146 "com/example/resense/resense/engine/Measure") :
    OMet l Z x code maxLocals ret tables_1 room_1 h0 #[(.int p141)] (OQl (some (.int (1 : Int32))) n0) := by
  refine MetFree.of_bodySF (plainFor_of_name pn_com_example_resense_resense_engine_MeasureIsCountPinLaw) hisR ?_
  intro p e s m args below meth c s₁ Bd hml0 hP hK
  obtain ⟨rfl, hZ, hh⟩ := hP
  have hx := Bd.exec
  have hby := Bd.bytes
  have hml : c.maxLocals = 4 := hml0
  have hown : s.vm.findClass "com/example/resense/resense/engine/MeasureIsCountPinLaw" = some m.cls := findClass_of_methodNamed Bd.named
  have hnm := (name_of_methodNamed Bd.named Bd.method).1
  have X0 : Stand p l e room_1 s m #[(.int p141)] below meth c s₁ [] 0 0 := Stand.of_body Bd
  have e0 : s₁.heap = h0 := by rw [← hh, Bd.state]; rfl
  have N0 := Fr.nil n0
  have pre0 : ∀ t, Steps p.tables e below (s₁.setTop (mkF m 0 #[.val (.int p141), .unset, .unset, .unset] [])) t → Steps p.tables e below (s₁.setTop (entryFrame m #[(.int p141)] maxLocals)) t := fun t k => castTop (ef_0_v m p141) k
  obtain ⟨_, _, ⟨T145, L145, k145, n145⟩, -, X145, ⟨Lc145, hQ145, l145, y145, z145⟩, st145⟩ := Jvm.LawKit.callS X0 hx (y := (⟨"com/example/resense/resense/engine/MeasureIsCountPinLaw", "pick", "(I)Lcom/example/resense/resense/engine/Measure;"⟩ : MethodName)) hown (mvT hZ (hw _ (List.mem_of_getElem? (i := 1) rfl))) (mvT hZ (hw _ (List.mem_of_getElem? (i := 2) rfl))) (mvT hZ (hw _ (List.mem_of_getElem? (i := 3) rfl))) (mvT hZ (hw _ (List.mem_of_getElem? (i := 4) rfl))) (by decide) (backOf (W := 0) (r1_11 l Z a0 hw ((p141 &&& (2147483647 : Int32)) % (11 : Int32)) w146 h0 n0 Z0 H0 H1 H2 H3 H4 H5 H6 H7 H8 H9 H10) hZ (hw _ (List.mem_of_getElem? (i := 4) rfl)) (hw _ (List.mem_of_getElem? (i := 3) rfl)) (by decide) (by decide)) (g := (mkF m 9 #[.val (.int p141), .val (.int ((p141 &&& (2147483647 : Int32)) % (11 : Int32))), .unset, .unset] [(.int ((p141 &&& (2147483647 : Int32)) % (11 : Int32)))])) rfl (by rw [hml]; rfl) (argsL := [(.int ((p141 &&& (2147483647 : Int32)) % (11 : Int32)))]) (rest := []) (lenOf pd_0 rfl) rfl (by show 2 * 0 + _ ≤ _; exact Nat.le_of_eq rfl) (hb hby at_9) (fun _ _ => ⟨rfl, e0, (by decide : 0 + 0 ≤ _), (by decide : 0 + 0 ≤ _)⟩)
  dsimp only [Pt.U, Pt.locs, Pt.cells, Pt.slots] at X145 l145 y145 z145 st145 hQ145
  subst l145 y145 z145
  obtain ⟨rfl, N145q, e145⟩ := hQ145
  have N145 := Fr.app N0 N145q
  obtain ⟨cq152, kq152, q152a, q152b, q152c⟩ := isOf hZ e145 H16
  obtain ⟨_, _, ⟨T152, L152, k152, n152⟩, -, X152, ⟨Lc152, hQ152, l152, y152, z152⟩, st152⟩ := X145.virtualBack hx (y := (⟨"com/example/resense/resense/engine/Measure", "isCount", "()Z"⟩ : MethodName)) (z := (⟨"com/example/resense/resense/engine/Measure", "isCount", "()Z"⟩ : MethodName)) hown (mvT hZ (hw _ (List.mem_of_getElem? (i := 8) rfl))) (mvT hZ (hw _ (List.mem_of_getElem? (i := 9) rfl))) (notFace_of_selects (args := #[]) (mvT hZ (hw _ (List.mem_of_getElem? (i := 11) rfl)))) (mvT hZ (hw _ (List.mem_of_getElem? (i := 11) rfl))) (mvT hZ (hw _ (List.mem_of_getElem? (i := 10) rfl))) (by decide) (backOf (W := 0) (r2_1 l Z a0 hw w146 w153 w154 h0 n0 Z0 H13 H14 H15) hZ (hw _ (List.mem_of_getElem? (i := 12) rfl)) (hw _ (List.mem_of_getElem? (i := 6) rfl)) (by decide) (by decide)) q152a q152c (g := (mkF m 31 #[.val (.int p141), .val (.int ((p141 &&& (2147483647 : Int32)) % (11 : Int32))), .val (.ref w146), .val (.int (1 : Int32))] [(.ref w146)])) rfl (by rw [hml]; rfl) (Steps.refl _) (argsL := []) (rest := []) (lenOf pd_1 rfl) rfl (by show 2 * 0 + _ ≤ _; exact Nat.le_of_eq rfl) (hb hby at_31) (fun _ _ => ⟨rfl, e145, (by decide : 0 + 0 ≤ _), (by decide : 0 + 0 ≤ _)⟩)
  dsimp only [Pt.U, Pt.locs, Pt.cells, Pt.slots] at X152 l152 y152 z152 st152 hQ152
  subst l152 y152 z152
  obtain ⟨rfl, N152q, e152⟩ := hQ152
  have N152 := Fr.app N145 N152q
  obtain ⟨fs, hr, hrun, hended, hW, hsame⟩ := X152.leave (v := some (.int (1 : Int32))) (fun h => by rw [Bd.returns] at h; cases h)
  refine ⟨_, _, pre0 _ ?_, hrun, hended, _, _, rfl, ?_, ⟨_, rfl⟩, hW, hsame.mono (by decide) (by decide)⟩
  · show Steps p.tables e below (s₁.setTop (mkF m 0 #[.val (.int p141), .unset, .unset, .unset] [])) _
    refine XS.iloadN X0.here hx rfl (hb hby at_0) rfl ?_
    show Steps p.tables e below (s₁.setTop (mkF m 1 #[.val (.int p141), .unset, .unset, .unset] [(.int p141)])) _
    refine X0.ldcInt hx hown (mvT hZ (hw _ (List.mem_of_getElem? (i := 0) rfl))) (g := (mkF m 1 #[.val (.int p141), .unset, .unset, .unset] [(.int p141)])) rfl (hb hby at_1) _ ?_
    show Steps p.tables e below (s₁.setTop (mkF m 3 #[.val (.int p141), .unset, .unset, .unset] [(.int (2147483647 : Int32)), (.int p141)])) _
    refine XS.iand X0.here hx rfl (hb hby at_3) rfl ?_
    show Steps p.tables e below (s₁.setTop (mkF m 4 #[.val (.int p141), .unset, .unset, .unset] [(.int (p141 &&& (2147483647 : Int32)))])) _
    refine XS.bipush X0.here hx rfl (hb hby at_4) ?_
    show Steps p.tables e below (s₁.setTop (mkF m 6 #[.val (.int p141), .unset, .unset, .unset] [(.int (11 : Int32)), (.int (p141 &&& (2147483647 : Int32)))])) _
    refine iremM X0 hx rfl (hb hby at_6) rfl (by decide) ?_
    show Steps p.tables e below (s₁.setTop (mkF m 7 #[.val (.int p141), .unset, .unset, .unset] [(.int ((p141 &&& (2147483647 : Int32)) % (11 : Int32)))])) _
    refine XS.istoreN X0.here hx rfl (hb hby at_7) rfl (l' := #[.val (.int p141), .val (.int ((p141 &&& (2147483647 : Int32)) % (11 : Int32))), .unset, .unset]) rfl ?_
    show Steps p.tables e below (s₁.setTop (mkF m 8 #[.val (.int p141), .val (.int ((p141 &&& (2147483647 : Int32)) % (11 : Int32))), .unset, .unset] [])) _
    refine XS.iloadN X0.here hx rfl (hb hby at_8) rfl ?_
    show Steps p.tables e below (s₁.setTop (mkF m 9 #[.val (.int p141), .val (.int ((p141 &&& (2147483647 : Int32)) % (11 : Int32))), .unset, .unset] [(.int ((p141 &&& (2147483647 : Int32)) % (11 : Int32)))])) _
    refine st145 _ ?_
    show Steps p.tables e below (T145.setTop (mkF m 12 #[.val (.int p141), .val (.int ((p141 &&& (2147483647 : Int32)) % (11 : Int32))), .unset, .unset] [(.ref w146)])) _
    refine XS.astoreN X145.here hx rfl (hb hby at_12) rfl rfl (l' := #[.val (.int p141), .val (.int ((p141 &&& (2147483647 : Int32)) % (11 : Int32))), .val (.ref w146), .unset]) rfl ?_
    show Steps p.tables e below (T145.setTop (mkF m 13 #[.val (.int p141), .val (.int ((p141 &&& (2147483647 : Int32)) % (11 : Int32))), .val (.ref w146), .unset] [])) _
    refine XS.iloadN X145.here hx rfl (hb hby at_13) rfl ?_
    show Steps p.tables e below (T145.setTop (mkF m 14 #[.val (.int p141), .val (.int ((p141 &&& (2147483647 : Int32)) % (11 : Int32))), .val (.ref w146), .unset] [(.int ((p141 &&& (2147483647 : Int32)) % (11 : Int32)))])) _
    refine XS.iconst X145.here hx rfl (hb hby at_14) ?_
    show Steps p.tables e below (T145.setTop (mkF m 15 #[.val (.int p141), .val (.int ((p141 &&& (2147483647 : Int32)) % (11 : Int32))), .val (.ref w146), .unset] [(.int (3 : Int32)), (.int ((p141 &&& (2147483647 : Int32)) % (11 : Int32)))])) _
    refine XS.icmpNo X145.here hx rfl (hb hby at_15) rfl (tlt H11).2.2.2 ?_
    show Steps p.tables e below (T145.setTop (mkF m 18 #[.val (.int p141), .val (.int ((p141 &&& (2147483647 : Int32)) % (11 : Int32))), .val (.ref w146), .unset] [])) _
    refine XS.iloadN X145.here hx rfl (hb hby at_18) rfl ?_
    show Steps p.tables e below (T145.setTop (mkF m 19 #[.val (.int p141), .val (.int ((p141 &&& (2147483647 : Int32)) % (11 : Int32))), .val (.ref w146), .unset] [(.int ((p141 &&& (2147483647 : Int32)) % (11 : Int32)))])) _
    refine XS.bipush X145.here hx rfl (hb hby at_19) ?_
    show Steps p.tables e below (T145.setTop (mkF m 21 #[.val (.int p141), .val (.int ((p141 &&& (2147483647 : Int32)) % (11 : Int32))), .val (.ref w146), .unset] [(.int (10 : Int32)), (.int ((p141 &&& (2147483647 : Int32)) % (11 : Int32)))])) _
    refine XS.icmpNo X145.here hx rfl (hb hby at_21) rfl (teq H12).2 ?_
    show Steps p.tables e below (T145.setTop (mkF m 24 #[.val (.int p141), .val (.int ((p141 &&& (2147483647 : Int32)) % (11 : Int32))), .val (.ref w146), .unset] [])) _
    refine XS.iconst X145.here hx rfl (hb hby at_24) ?_
    show Steps p.tables e below (T145.setTop (mkF m 25 #[.val (.int p141), .val (.int ((p141 &&& (2147483647 : Int32)) % (11 : Int32))), .val (.ref w146), .unset] [(.int (1 : Int32))])) _
    refine XS.goto X145.here hx rfl (pc0 := 25) (pc' := 29) rfl (hb hby at_25) (by decide) (by decide) ?_
    show Steps p.tables e below (T145.setTop (mkF m 29 #[.val (.int p141), .val (.int ((p141 &&& (2147483647 : Int32)) % (11 : Int32))), .val (.ref w146), .unset] [(.int (1 : Int32))])) _
    refine XS.istoreN X145.here hx rfl (hb hby at_29) rfl (l' := #[.val (.int p141), .val (.int ((p141 &&& (2147483647 : Int32)) % (11 : Int32))), .val (.ref w146), .val (.int (1 : Int32))]) rfl ?_
    show Steps p.tables e below (T145.setTop (mkF m 30 #[.val (.int p141), .val (.int ((p141 &&& (2147483647 : Int32)) % (11 : Int32))), .val (.ref w146), .val (.int (1 : Int32))] [])) _
    refine XS.aloadN X145.here hx rfl (hb hby at_30) rfl rfl ?_
    show Steps p.tables e below (T145.setTop (mkF m 31 #[.val (.int p141), .val (.int ((p141 &&& (2147483647 : Int32)) % (11 : Int32))), .val (.ref w146), .val (.int (1 : Int32))] [(.ref w146)])) _
    refine st152.trans ?_
    show Steps p.tables e below (T152.setTop (mkF m 34 #[.val (.int p141), .val (.int ((p141 &&& (2147483647 : Int32)) % (11 : Int32))), .val (.ref w146), .val (.int (1 : Int32))] [(.int (1 : Int32))])) _
    refine XS.iloadN X152.here hx rfl (hb hby at_34) rfl ?_
    show Steps p.tables e below (T152.setTop (mkF m 35 #[.val (.int p141), .val (.int ((p141 &&& (2147483647 : Int32)) % (11 : Int32))), .val (.ref w146), .val (.int (1 : Int32))] [(.int (1 : Int32)), (.int (1 : Int32))])) _
    refine XS.icmpNo X152.here hx rfl (hb hby at_35) rfl (teq (rfl : (1 : Int32) = (1 : Int32))).2 ?_
    show Steps p.tables e below (T152.setTop (mkF m 38 #[.val (.int p141), .val (.int ((p141 &&& (2147483647 : Int32)) % (11 : Int32))), .val (.ref w146), .val (.int (1 : Int32))] [])) _
    refine XS.iconst X152.here hx rfl (hb hby at_38) ?_
    show Steps p.tables e below (T152.setTop (mkF m 39 #[.val (.int p141), .val (.int ((p141 &&& (2147483647 : Int32)) % (11 : Int32))), .val (.ref w146), .val (.int (1 : Int32))] [(.int (1 : Int32))])) _
    refine XS.goto X152.here hx rfl (pc0 := 39) (pc' := 43) rfl (hb hby at_39) (by decide) (by decide) ?_
    show Steps p.tables e below (T152.setTop (mkF m 43 #[.val (.int p141), .val (.int ((p141 &&& (2147483647 : Int32)) % (11 : Int32))), .val (.ref w146), .val (.int (1 : Int32))] [(.int (1 : Int32))])) _
    exact retN X152 hx (t := .boolean) Bd.returns (by simp) (hb hby at_43) hr
  · show OQl (some (.int (1 : Int32))) n0 _ T152.heap _
    exact ⟨rfl, N152⟩
set_option maxRecDepth 65536 in
set_option maxHeartbeats 40000000 in
theorem comes_1 {Post : Tables → Env → Array Value → State → Outcome → State → Prop} (hpost : ∀ tb e args s v u, (limb_1_1.after args s (.returned v) u = true ∧ limb_1_2.after args s (.returned v) u = true ∧ True) → FrameEnd s (.returned v) u (Jvm.fieldLocs frame_1_writes args s ++ Jvm.arrayLocs frame_1_arrays args s ++ Jvm.staticLocs frame_1_statics s) 0 0 → Post tb e args s (.returned v) u) :
    ArmFor flags0 classFile x code maxLocals ret World_1 tables_1 room_1 Calls_1 rest_1 Pre_1 Post := by
  intro l hfl _ _ p e ha hc hk s m args below hf hA hF happ hP
  obtain ⟨hcalls, hrest, hpre⟩ := hP
  obtain ⟨-, -, -, hnamed, -, -, -, hat⟩ := (Spec.applies_iff hf).mp happ
  obtain ⟨hg, hn⟩ := and_e (Cond.before_iff.mp (show (Jvm.Cond.and given_1 narrow_1).before args s = true from hpre))
  obtain ⟨gg0, gr0⟩ := and_e hg
  obtain ⟨w0, rfl⟩ : ∃ w0 : Value, args = #[w0] := by
    have hs : args.size = 1 := by simpa [Cond.value, given_1] using gg0
    obtain ⟨L⟩ := args
    match L, hs with
    | [w0], _ => exact ⟨w0, rfl⟩
  have hw := fun d (hd : d ∈ tables_1) => atoms_spec (ws := Jvm.Cond.code x code maxLocals ret :: tables_1) hat d (List.mem_cons_of_mem _ hd)
  have hfit : Fit s := fun {y c} hc i hi => by
    obtain ⟨ha, rfl⟩ := Array.getElem?_eq_some_iff.mp hc
    have q := List.all_eq_true.mp ((Array.all_eq_true_iff_forall_mem.mp hF) _ (Array.getElem_mem ha)) i (List.mem_range.mpr hi)
    simpa [Array.getElem?_eq_getElem hi] using q
  obtain ⟨i0, ei0⟩ := is_v gr0
  obtain rfl : w0 = (.int i0) := Option.some.inj ei0
  obtain ⟨hn1, hn2⟩ := and_e hn
  obtain ⟨hn3, hn4⟩ := and_e hn2
  obtain ⟨hn5, hn6⟩ := and_e hn4
  obtain ⟨hn7, hn8⟩ := and_e hn6
  obtain ⟨hn9, hn10⟩ := and_e hn8
  obtain ⟨hn11, hn12⟩ := and_e hn10
  obtain ⟨hn13, hn14⟩ := and_e hn12
  obtain ⟨hn15, hn16⟩ := and_e hn14
  obtain ⟨hn17, hn18⟩ := and_e hn16
  obtain ⟨hn19, hn20⟩ := and_e hn18
  obtain ⟨hn21, hn22⟩ := and_e hn20
  obtain ⟨hn23, hn24⟩ := and_e hn22
  obtain ⟨hn25, hn26⟩ := and_e hn24
  obtain ⟨hn27, hn28⟩ := and_e hn26
  obtain ⟨hn29, hn30⟩ := and_e hn28
  obtain ⟨hn31, hn32⟩ := and_e hn30
  obtain ⟨hn33, hn34⟩ := and_e hn32
  obtain ⟨hn35, hn36⟩ := and_e hn34
  obtain ⟨hn37, hn38⟩ := and_e hn36
  obtain ⟨hn39, hn40⟩ := and_e hn38
  obtain ⟨hn41, hn42⟩ := and_e hn40
  obtain ⟨hn43, hn44⟩ := and_e hn42
  obtain ⟨hn45, hn46⟩ := and_e hn44
  obtain ⟨hn47, hn48⟩ := and_e hn46
  obtain ⟨hn49, hn50⟩ := and_e hn48
  obtain ⟨hn51, hn52⟩ := and_e hn50
  obtain ⟨hn53, hn54⟩ := and_e hn52
  obtain ⟨w_c55, ev_c55⟩ := exa_v hn1
  have E_c55 := Exa.start ev_c55 hn1
  have S_c55 := Sta.start ev_c55 (Or.inr ⟨(hw _ (List.mem_of_getElem? (i := 6) rfl)), (hw _ (List.mem_of_getElem? (i := 7) rfl))⟩)
  obtain ⟨w_c56, ev_c56⟩ := exa_v hn3
  have E_c56 := Exa.start ev_c56 hn3
  have S_c56 := Sta.start ev_c56 (Or.inr ⟨(hw _ (List.mem_of_getElem? (i := 15) rfl)), (hw _ (List.mem_of_getElem? (i := 16) rfl))⟩)
  have F57 := own_fr ev_c55 ev_c56 hn5
  obtain ⟨w_c58, ev_c58⟩ := exa_v hn7
  have E_c58 := Exa.start ev_c58 hn7
  have S_c58 := Sta.start ev_c58 (Or.inr ⟨(hw _ (List.mem_of_getElem? (i := 6) rfl)), (hw _ (List.mem_of_getElem? (i := 19) rfl))⟩)
  have F59 := own_fr ev_c58 ev_c56 hn9
  obtain ⟨w_c60, ev_c60⟩ := exa_v hn11
  have E_c60 := Exa.start ev_c60 hn11
  have S_c60 := Sta.start ev_c60 (Or.inr ⟨(hw _ (List.mem_of_getElem? (i := 6) rfl)), (hw _ (List.mem_of_getElem? (i := 21) rfl))⟩)
  obtain ⟨w_c61, ev_c61⟩ := exa_v hn13
  have E_c61 := Exa.start ev_c61 hn13
  have S_c61 := Sta.start ev_c61 (Or.inr ⟨(hw _ (List.mem_of_getElem? (i := 15) rfl)), (hw _ (List.mem_of_getElem? (i := 22) rfl))⟩)
  have F62 := own_fr ev_c60 ev_c61 hn15
  have F63 := own_fi ev_c61 hn17
  have F64 := own_fi ev_c56 hn19
  obtain ⟨w_c65, ev_c65⟩ := exa_v hn21
  have E_c65 := Exa.start ev_c65 hn21
  have S_c65 := Sta.start ev_c65 (Or.inr ⟨(hw _ (List.mem_of_getElem? (i := 6) rfl)), (hw _ (List.mem_of_getElem? (i := 24) rfl))⟩)
  have F66 := own_fr ev_c65 ev_c61 hn23
  obtain ⟨w_c67, ev_c67⟩ := exa_v hn25
  have E_c67 := Exa.start ev_c67 hn25
  have S_c67 := Sta.start ev_c67 (Or.inr ⟨(hw _ (List.mem_of_getElem? (i := 6) rfl)), (hw _ (List.mem_of_getElem? (i := 26) rfl))⟩)
  have F68 := own_fr ev_c67 ev_c56 hn27
  obtain ⟨w_c69, ev_c69⟩ := exa_v hn29
  have E_c69 := Exa.start ev_c69 hn29
  have S_c69 := Sta.start ev_c69 (Or.inr ⟨(hw _ (List.mem_of_getElem? (i := 6) rfl)), (hw _ (List.mem_of_getElem? (i := 28) rfl))⟩)
  have F70 := own_fr ev_c69 ev_c56 hn31
  obtain ⟨w_c71, ev_c71⟩ := exa_v hn33
  have E_c71 := Exa.start ev_c71 hn33
  have S_c71 := Sta.start ev_c71 (Or.inr ⟨(hw _ (List.mem_of_getElem? (i := 6) rfl)), (hw _ (List.mem_of_getElem? (i := 30) rfl))⟩)
  have F72 := own_fr ev_c71 ev_c56 hn35
  obtain ⟨w_c73, ev_c73⟩ := exa_v hn37
  have E_c73 := Exa.start ev_c73 hn37
  have S_c73 := Sta.start ev_c73 (Or.inr ⟨(hw _ (List.mem_of_getElem? (i := 6) rfl)), (hw _ (List.mem_of_getElem? (i := 32) rfl))⟩)
  have F74 := own_fr ev_c73 ev_c61 hn39
  obtain ⟨w_c75, ev_c75⟩ := exa_v hn41
  have E_c75 := Exa.start ev_c75 hn41
  have S_c75 := Sta.start ev_c75 (Or.inr ⟨(hw _ (List.mem_of_getElem? (i := 6) rfl)), (hw _ (List.mem_of_getElem? (i := 34) rfl))⟩)
  obtain ⟨w_c76, ev_c76⟩ := exa_v hn43
  have E_c76 := Exa.start ev_c76 hn43
  have S_c76 := Sta.start ev_c76 (Or.inr ⟨(hw _ (List.mem_of_getElem? (i := 15) rfl)), (hw _ (List.mem_of_getElem? (i := 35) rfl))⟩)
  have F77 := own_fr ev_c75 ev_c76 hn45
  have F78 := own_fi ev_c76 hn47
  obtain ⟨w_c79, ev_c79⟩ := exa_v hn49
  have E_c79 := Exa.start ev_c79 hn49
  have S_c79 := Sta.start ev_c79 (Or.inr ⟨(hw _ (List.mem_of_getElem? (i := 6) rfl)), (hw _ (List.mem_of_getElem? (i := 37) rfl))⟩)
  have F80 := own_fr ev_c79 ev_c61 hn51
  obtain ⟨w_c81, ev_c81⟩ := exa_v hn53
  have E_c81 := Exa.start ev_c81 hn53
  have S_c81 := Sta.start ev_c81 (Or.inr ⟨(hw _ (List.mem_of_getElem? (i := 6) rfl)), (hw _ (List.mem_of_getElem? (i := 39) rfl))⟩)
  have F82 := own_fr ev_c81 ev_c61 hn54
  suffices M : OMet l s x code maxLocals ret tables_1 room_1 s.heap #[(.int i0)] (OQl (some (.int (1 : Int32))) s.heap.size) by
    obtain ⟨n, o, h1, h2, h3, _, L, rfl, ⟨rfl, N⟩, hq⟩ := M p e ha hc hk s m _ below hf ((Spec.applies_iff_loose hf).mp happ).1 ⟨rfl, State.Warmed39.refl s, rfl⟩ trivial
    exact ⟨n, _, h1, h2, h3, hpost _ _ _ _ _ _ ⟨Cond.after_iff.mpr rfl, Cond.after_iff.mpr (eq_i res_at (Term.int_eval (1)) rfl), trivial⟩ ⟨hq.1, hq.2.1, (hq.2.2.sift fun y hy => Or.inr (N y hy)).mono (by decide) (by decide)⟩⟩
  have hm_hq : ((i0 &&& (2147483647 : Int32)) % (11 : Int32)) = (0 : Int32) ∨ ((i0 &&& (2147483647 : Int32)) % (11 : Int32)) = (1 : Int32) ∨ ((i0 &&& (2147483647 : Int32)) % (11 : Int32)) = (2 : Int32) ∨ ((i0 &&& (2147483647 : Int32)) % (11 : Int32)) = (3 : Int32) ∨ ((i0 &&& (2147483647 : Int32)) % (11 : Int32)) = (4 : Int32) ∨ ((i0 &&& (2147483647 : Int32)) % (11 : Int32)) = (5 : Int32) ∨ ((i0 &&& (2147483647 : Int32)) % (11 : Int32)) = (6 : Int32) ∨ ((i0 &&& (2147483647 : Int32)) % (11 : Int32)) = (7 : Int32) ∨ ((i0 &&& (2147483647 : Int32)) % (11 : Int32)) = (8 : Int32) ∨ ((i0 &&& (2147483647 : Int32)) % (11 : Int32)) = (9 : Int32) ∨ ((i0 &&& (2147483647 : Int32)) % (11 : Int32)) = (10 : Int32) := by
    obtain ⟨q1, q2⟩ := own_mod i0 (11 : Int32) (by decide)
    have q3 : (11 : Int32).toInt = 11 := by decide
    rw [q3] at q2
    generalize ((i0 &&& (2147483647 : Int32)) % (11 : Int32)) = z at q1 q2 ⊢
    have q4 : z.toInt = 0 ∨ z.toInt = 1 ∨ z.toInt = 2 ∨ z.toInt = 3 ∨ z.toInt = 4 ∨ z.toInt = 5 ∨ z.toInt = 6 ∨ z.toInt = 7 ∨ z.toInt = 8 ∨ z.toInt = 9 ∨ z.toInt = 10 := by omega
    rcases q4 with q | q | q | q | q | q | q | q | q | q | q <;> simp [← Int32.toInt_inj, q]
  rcases hm_hq with hq | hq | hq | hq | hq | hq | hq | hq | hq | hq | hq
  · exact r0_1 l s _ hw i0 w_c55 w_c56 w_c56 s.heap s.heap.size (Nat.le_refl _) (by rw [hq] <;> decide) S_c55 (by rw [hq] <;> decide) F57 S_c56 rfl E_c55
  · exact r0_2 l s _ hw i0 w_c71 w_c56 w_c56 s.heap s.heap.size (Nat.le_refl _) (by rw [hq] <;> decide) (by rw [hq] <;> decide) S_c71 (by rw [hq] <;> decide) F72 S_c56 rfl E_c71
  · exact r0_3 l s _ hw i0 w_c67 w_c56 w_c56 s.heap s.heap.size (Nat.le_refl _) (by rw [hq] <;> decide) (by rw [hq] <;> decide) (by rw [hq] <;> decide) S_c67 (by rw [hq] <;> decide) F68 S_c56 rfl E_c67
  · exact r0_4 l s _ hw i0 w_c58 w_c56 w_c56 s.heap s.heap.size (Nat.le_refl _) (by rw [hq] <;> decide) (by rw [hq] <;> decide) (by rw [hq] <;> decide) (by rw [hq] <;> decide) S_c58 (by rw [hq] <;> decide) F59 S_c56 rfl E_c58
  · exact r0_5 l s _ hw i0 w_c81 w_c61 w_c56 s.heap s.heap.size (Nat.le_refl _) (by rw [hq] <;> decide) (by rw [hq] <;> decide) (by rw [hq] <;> decide) (by rw [hq] <;> decide) (by rw [hq] <;> decide) S_c81 (by rw [hq] <;> decide) (by rw [hq] <;> decide) F82 S_c56 (Fld.ne F63 F64 (by decide)) E_c81
  · exact r0_6 l s _ hw i0 w_c75 w_c76 w_c56 s.heap s.heap.size (Nat.le_refl _) (by rw [hq] <;> decide) (by rw [hq] <;> decide) (by rw [hq] <;> decide) (by rw [hq] <;> decide) (by rw [hq] <;> decide) (by rw [hq] <;> decide) S_c75 (by rw [hq] <;> decide) (by rw [hq] <;> decide) F77 S_c56 (Fld.ne F78 F64 (by decide)) E_c75
  · exact r0_7 l s _ hw i0 w_c79 w_c61 w_c56 s.heap s.heap.size (Nat.le_refl _) (by rw [hq] <;> decide) (by rw [hq] <;> decide) (by rw [hq] <;> decide) (by rw [hq] <;> decide) (by rw [hq] <;> decide) (by rw [hq] <;> decide) (by rw [hq] <;> decide) S_c79 (by rw [hq] <;> decide) (by rw [hq] <;> decide) F80 S_c56 (Fld.ne F63 F64 (by decide)) E_c79
  · exact r0_8 l s _ hw i0 w_c60 w_c61 w_c56 s.heap s.heap.size (Nat.le_refl _) (by rw [hq] <;> decide) (by rw [hq] <;> decide) (by rw [hq] <;> decide) (by rw [hq] <;> decide) (by rw [hq] <;> decide) (by rw [hq] <;> decide) (by rw [hq] <;> decide) (by rw [hq] <;> decide) S_c60 (by rw [hq] <;> decide) (by rw [hq] <;> decide) F62 S_c56 (Fld.ne F63 F64 (by decide)) E_c60
  · exact r0_9 l s _ hw i0 w_c65 w_c61 w_c56 s.heap s.heap.size (Nat.le_refl _) (by rw [hq] <;> decide) (by rw [hq] <;> decide) (by rw [hq] <;> decide) (by rw [hq] <;> decide) (by rw [hq] <;> decide) (by rw [hq] <;> decide) (by rw [hq] <;> decide) (by rw [hq] <;> decide) (by rw [hq] <;> decide) S_c65 (by rw [hq] <;> decide) (by rw [hq] <;> decide) F66 S_c56 (Fld.ne F63 F64 (by decide)) E_c65
  · exact r0_10 l s _ hw i0 w_c73 w_c61 w_c56 s.heap s.heap.size (Nat.le_refl _) (by rw [hq] <;> decide) (by rw [hq] <;> decide) (by rw [hq] <;> decide) (by rw [hq] <;> decide) (by rw [hq] <;> decide) (by rw [hq] <;> decide) (by rw [hq] <;> decide) (by rw [hq] <;> decide) (by rw [hq] <;> decide) (by rw [hq] <;> decide) S_c73 (by rw [hq] <;> decide) (by rw [hq] <;> decide) F74 S_c56 (Fld.ne F63 F64 (by decide)) E_c73
  · exact r0_11 l s _ hw i0 w_c69 w_c56 w_c56 s.heap s.heap.size (Nat.le_refl _) (by rw [hq] <;> decide) (by rw [hq] <;> decide) (by rw [hq] <;> decide) (by rw [hq] <;> decide) (by rw [hq] <;> decide) (by rw [hq] <;> decide) (by rw [hq] <;> decide) (by rw [hq] <;> decide) (by rw [hq] <;> decide) (by rw [hq] <;> decide) S_c69 (by rw [hq] <;> decide) (by rw [hq] <;> decide) F70 S_c56 rfl E_c69
theorem main_1_1 : Claimed_1_1 := comes_1 fun _ _ _ _ _ _ h hF => ⟨h.1, hF⟩
theorem main_1_2 : Claimed_1_2 := comes_1 fun _ _ _ _ _ _ h hF => ⟨h.2.1, hF⟩
end Jvm.Pilot.@@N@@
namespace Jvm.Pilot.@@N@@
open Jvm Jvm.ClassFile Sem Op Lib Jvm.Free Jvm.Stand Jvm.Pilot.@@N@@.Jvm.D
/-! MADE BY PROGRAM (witnessworld.py) out of the Statement's table words and the real class files: 13 classes; the members and pool entries that the words name. The judged class is class 1, her method 1. -/
namespace start1
open Jvm.ClassFile
def u (s : String) : CpInfo := .utf8 (stringToUtf16 s)
/-- a pool by its gaps: so many unusable entries, then the entry; so many at the end -/
def gap : Nat → List CpInfo → List CpInfo
  | 0, r => r
  | n + 1, r => .unusable :: gap n r
def poolList (es : List (Nat × CpInfo)) (last : Nat) : List CpInfo := es.foldr (fun e r => gap e.1 (e.2 :: r)) (gap last [])
def pool (es : List (Nat × CpInfo)) (last : Nat) : Array CpInfo := ⟨poolList es last⟩
def fileOf (pool : Array CpInfo) (this : Nat) (attrs : Array Attribute := #[]) (ms : Array MethodInfo := #[]) (fl : Nat := 33) (sup : Nat := 0) (ifs : Array Nat := #[]) (fds : Array FieldInfo := #[]) : ClassFile where
  minorVersion := 0
  majorVersion := 65
  constantPool := pool
  accessFlags := fl
  thisClass := this
  superClass := sup
  interfaces := ifs
  fields := fds
  methods := ms
  attributes := attrs
def plain (name : String) (sup : Option ClassId) : Class where
  name := name
  kind := .ordinary
  loader := none
  accessFlags := 33
  super := sup
  interfaces := #[]
  cf := none
  fields := #[]
  methods := #[]
  instanceTypes := #[]
  staticTypes := #[]
  resolved := #[]
  callSites := []
  init := .initialized
  statics := none
  mirror := none

def pool0 : Array CpInfo := pool [(5, u "<init>"), (0, u "()V"), (1, .class_ 10), (1, u "java/lang/Object")] 113

def k0m0 : Method := { name := "<init>", desc := "()V", sig := { parameters := [], returnType := none }, accessFlags := 1, code := none }
/-- java/lang/Object -/
def k0 : Class := { plain "java/lang/Object" none with
  accessFlags := 33
  interfaces := #[]
  cf := some (fileOf pool0 8 #[] #[{ accessFlags := 1, nameIndex := 5, descriptorIndex := 6, attributes := #[] }] 33 0 #[] #[])
  fields := #[]
  methods := #[k0m0]
  instanceTypes := #[]
  staticTypes := #[]
  resolved := Array.replicate 124 none
  statics := none }

def pool1 : Array CpInfo := pool [(2, .class_ 4), (1, u "java/lang/Object"), (0, u "<init>"), (0, u "()V"), (0, .integer 2147483647), (0, .methodref 9 10), (0, .class_ 11), (0, .nameAndType 12 13), (0, u "com/example/resense/resense/engine/MeasureIsCountPinLaw"), (0, u "pick"), (0, u "(I)Lcom/example/resense/resense/engine/Measure;"), (0, .methodref 15 16), (0, .class_ 17), (0, .nameAndType 18 19), (0, u "com/example/resense/resense/engine/Measure"), (0, u "isCount"), (0, u "()Z"), (0, .fieldref 15 21), (0, .nameAndType 22 23), (0, u "NUM_Q"), (0, u "Lcom/example/resense/resense/engine/Measure;"), (0, .fieldref 15 25), (0, .nameAndType 26 23), (0, u "NUM_RET"), (0, .fieldref 15 28), (0, .nameAndType 29 23), (0, u "NUM_REL"), (0, .fieldref 15 31), (0, .nameAndType 32 23), (0, u "NUM_REL_RET"), (0, .fieldref 15 34), (0, .nameAndType 35 23), (0, u "MAP"), (0, .fieldref 15 37), (0, .nameAndType 38 23), (0, u "GM_MAP"), (0, .fieldref 15 40), (0, .nameAndType 41 23), (0, u "R_PREC"), (0, .fieldref 15 43), (0, .nameAndType 44 23), (0, u "P_10"), (0, .fieldref 15 46), (0, .nameAndType 47 23), (0, u "RECALL_100"), (0, .fieldref 15 49), (0, .nameAndType 50 23), (0, u "RECALL_1000"), (0, .fieldref 15 52), (0, .nameAndType 53 23), (0, u "TOPICS_NO_REL_IN_TOP10"), (2, u "law"), (0, u "(I)Z")] 3

def k1m0 : Method := { name := "<init>", desc := "()V", sig := { parameters := [], returnType := none }, accessFlags := 1, code := none }
def k1c1 : Code := { maxStack := 2, maxLocals := 4, code := code, exceptionTable := #[], attributes := #[] }
def k1m1 : Method := { name := "law", desc := "(I)Z", sig := { parameters := [.int], returnType := some .boolean }, accessFlags := 9, code := some k1c1 }
def k1c2 : Code := { maxStack := 2, maxLocals := 1, code := method_3_code, exceptionTable := #[], attributes := #[] }
def k1m2 : Method := { name := "pick", desc := "(I)Lcom/example/resense/resense/engine/Measure;", sig := { parameters := [.int], returnType := some (.object "com/example/resense/resense/engine/Measure") }, accessFlags := 10, code := some k1c2 }
/-- com/example/resense/resense/engine/MeasureIsCountPinLaw -/
def k1 : Class := { plain "com/example/resense/resense/engine/MeasureIsCountPinLaw" (some 0) with
  accessFlags := 49
  interfaces := #[]
  cf := some (fileOf pool1 9 #[] #[{ accessFlags := 1, nameIndex := 5, descriptorIndex := 6, attributes := #[] }, { accessFlags := 9, nameIndex := 56, descriptorIndex := 57, attributes := #[] }, { accessFlags := 10, nameIndex := 12, descriptorIndex := 13, attributes := #[] }] 49 2 #[] #[])
  fields := #[]
  methods := #[k1m0, k1m1, k1m2]
  instanceTypes := #[]
  staticTypes := #[]
  resolved := Array.replicate 61 none
  statics := none }

def pool2 : Array CpInfo := pool [(1, .class_ 2), (0, u "java/lang/constant/Constable"), (0, .class_ 4), (0, u "java/lang/Object")] 6

/-- java/lang/constant/Constable -/
def k2 : Class := { plain "java/lang/constant/Constable" (some 0) with
  accessFlags := 1537
  interfaces := #[]
  cf := some (fileOf pool2 1 #[] #[] 1537 3 #[] #[])
  fields := #[]
  methods := #[]
  instanceTypes := #[]
  staticTypes := #[]
  resolved := Array.replicate 11 none
  statics := none }

def pool3 : Array CpInfo := pool [(1, .class_ 2), (0, u "java/lang/Comparable"), (0, .class_ 4), (0, u "java/lang/Object")] 7

/-- java/lang/Comparable -/
def k3 : Class := { plain "java/lang/Comparable" (some 0) with
  accessFlags := 1537
  interfaces := #[]
  cf := some (fileOf pool3 1 #[] #[] 1537 3 #[] #[])
  fields := #[]
  methods := #[]
  instanceTypes := #[]
  staticTypes := #[]
  resolved := Array.replicate 12 none
  statics := none }

def pool4 : Array CpInfo := pool [(1, .class_ 2), (0, u "java/io/Serializable"), (0, .class_ 4), (0, u "java/lang/Object")] 2

/-- java/io/Serializable -/
def k4 : Class := { plain "java/io/Serializable" (some 0) with
  accessFlags := 1537
  interfaces := #[]
  cf := some (fileOf pool4 1 #[] #[] 1537 3 #[] #[])
  fields := #[]
  methods := #[]
  instanceTypes := #[]
  staticTypes := #[]
  resolved := Array.replicate 7 none
  statics := none }

def pool5 : Array CpInfo := pool [(2, .class_ 4), (1, u "java/lang/Enum"), (0, u "name"), (0, u "Ljava/lang/String;"), (2, u "ordinal"), (0, u "I"), (1, .class_ 14), (1, u "java/lang/Object"), (4, u "hash"), (86, .class_ 108), (1, u "java/lang/Enum$EnumDesc"), (2, .class_ 112), (0, u "java/lang/constant/Constable"), (0, .class_ 114), (0, u "java/lang/Comparable"), (0, .class_ 116), (0, u "java/io/Serializable")] 87

/-- java/lang/Enum -/
def k5 : Class := { plain "java/lang/Enum" (some 0) with
  accessFlags := 1057
  interfaces := #[2, 3, 4]
  cf := some (fileOf pool5 2 #[.nestMembers #[106]] #[] 1057 12 #[111, 113, 115] #[{ accessFlags := 18, nameIndex := 5, descriptorIndex := 6, attributes := #[] }, { accessFlags := 18, nameIndex := 9, descriptorIndex := 10, attributes := #[] }, { accessFlags := 2, nameIndex := 19, descriptorIndex := 10, attributes := #[] }])
  fields := #[{ name := "name", type := (.object "java/lang/String"), accessFlags := 18, slot := 0, constantValue := 0 }, { name := "ordinal", type := .int, accessFlags := 18, slot := 1, constantValue := 0 }, { name := "hash", type := .int, accessFlags := 2, slot := 2, constantValue := 0 }]
  methods := #[]
  instanceTypes := #[(.object "java/lang/String"), .int, .int]
  staticTypes := #[]
  resolved := Array.replicate 204 none
  statics := none }

def pool6 : Array CpInfo := pool [(1, .class_ 2), (0, u "com/example/resense/resense/engine/Measure"), (2, u "NUM_Q"), (0, u "Lcom/example/resense/resense/engine/Measure;"), (2, u "NUM_RET"), (2, u "NUM_REL"), (2, u "NUM_REL_RET"), (2, u "MAP"), (2, u "GM_MAP"), (2, u "R_PREC"), (2, u "P_10"), (2, u "RECALL_100"), (2, u "RECALL_1000"), (2, u "TOPICS_NO_REL_IN_TOP10"), (2, u "$VALUES"), (0, u "[Lcom/example/resense/resense/engine/Measure;"), (6, .class_ 49), (1, u "java/lang/Enum"), (8, u "label"), (0, u "Ljava/lang/String;"), (0, .fieldref 1 61), (0, .nameAndType 62 63), (0, u "combination"), (0, u "Lcom/example/resense/resense/engine/Measure$Combination;"), (2, u "topicValue"), (0, u "Ljava/util/function/ToDoubleFunction;"), (0, .fieldref 69 70), (0, .class_ 71), (0, .nameAndType 72 63), (0, u "com/example/resense/resense/engine/Measure$Combination"), (0, u "SUM"), (110, u "LEAST_AVERAGE_PRECISION"), (0, u "D"), (10, u "isCount"), (0, u "()Z")] 62

def k6c0 : Code := { maxStack := 2, maxLocals := 1, code := prog_10_method_5_code, exceptionTable := #[], attributes := #[] }
def k6m0 : Method := { name := "isCount", desc := "()Z", sig := { parameters := [], returnType := some .boolean }, accessFlags := 1, code := some k6c0 }
/-- com/example/resense/resense/engine/Measure -/
def k6 : Class := { plain "com/example/resense/resense/engine/Measure" (some 5) with
  accessFlags := 16433
  interfaces := #[]
  cf := some (fileOf pool6 1 #[.nestMembers #[69]] #[{ accessFlags := 1, nameIndex := 195, descriptorIndex := 196, attributes := #[] }] 16433 47 #[] #[{ accessFlags := 16409, nameIndex := 5, descriptorIndex := 6, attributes := #[] }, { accessFlags := 16409, nameIndex := 9, descriptorIndex := 6, attributes := #[] }, { accessFlags := 16409, nameIndex := 12, descriptorIndex := 6, attributes := #[] }, { accessFlags := 16409, nameIndex := 15, descriptorIndex := 6, attributes := #[] }, { accessFlags := 16409, nameIndex := 18, descriptorIndex := 6, attributes := #[] }, { accessFlags := 16409, nameIndex := 21, descriptorIndex := 6, attributes := #[] }, { accessFlags := 16409, nameIndex := 24, descriptorIndex := 6, attributes := #[] }, { accessFlags := 16409, nameIndex := 27, descriptorIndex := 6, attributes := #[] }, { accessFlags := 16409, nameIndex := 30, descriptorIndex := 6, attributes := #[] }, { accessFlags := 16409, nameIndex := 33, descriptorIndex := 6, attributes := #[] }, { accessFlags := 16409, nameIndex := 36, descriptorIndex := 6, attributes := #[] }, { accessFlags := 26, nameIndex := 183, descriptorIndex := 184, attributes := #[] }, { accessFlags := 18, nameIndex := 58, descriptorIndex := 59, attributes := #[] }, { accessFlags := 18, nameIndex := 62, descriptorIndex := 63, attributes := #[] }, { accessFlags := 18, nameIndex := 66, descriptorIndex := 67, attributes := #[] }, { accessFlags := 4122, nameIndex := 39, descriptorIndex := 40, attributes := #[] }])
  fields := #[{ name := "NUM_Q", type := (.object "com/example/resense/resense/engine/Measure"), accessFlags := 16409, slot := 0, constantValue := 0 }, { name := "NUM_RET", type := (.object "com/example/resense/resense/engine/Measure"), accessFlags := 16409, slot := 1, constantValue := 0 }, { name := "NUM_REL", type := (.object "com/example/resense/resense/engine/Measure"), accessFlags := 16409, slot := 2, constantValue := 0 }, { name := "NUM_REL_RET", type := (.object "com/example/resense/resense/engine/Measure"), accessFlags := 16409, slot := 3, constantValue := 0 }, { name := "MAP", type := (.object "com/example/resense/resense/engine/Measure"), accessFlags := 16409, slot := 4, constantValue := 0 }, { name := "GM_MAP", type := (.object "com/example/resense/resense/engine/Measure"), accessFlags := 16409, slot := 5, constantValue := 0 }, { name := "R_PREC", type := (.object "com/example/resense/resense/engine/Measure"), accessFlags := 16409, slot := 6, constantValue := 0 }, { name := "P_10", type := (.object "com/example/resense/resense/engine/Measure"), accessFlags := 16409, slot := 7, constantValue := 0 }, { name := "RECALL_100", type := (.object "com/example/resense/resense/engine/Measure"), accessFlags := 16409, slot := 8, constantValue := 0 }, { name := "RECALL_1000", type := (.object "com/example/resense/resense/engine/Measure"), accessFlags := 16409, slot := 9, constantValue := 0 }, { name := "TOPICS_NO_REL_IN_TOP10", type := (.object "com/example/resense/resense/engine/Measure"), accessFlags := 16409, slot := 10, constantValue := 0 }, { name := "LEAST_AVERAGE_PRECISION", type := .double, accessFlags := 26, slot := 11, constantValue := 0 }, { name := "label", type := (.object "java/lang/String"), accessFlags := 18, slot := 3, constantValue := 0 }, { name := "combination", type := (.object "com/example/resense/resense/engine/Measure$Combination"), accessFlags := 18, slot := 4, constantValue := 0 }, { name := "topicValue", type := (.object "java/util/function/ToDoubleFunction"), accessFlags := 18, slot := 5, constantValue := 0 }, { name := "$VALUES", type := (.array (.object "com/example/resense/resense/engine/Measure")), accessFlags := 4122, slot := 12, constantValue := 0 }]
  methods := #[k6m0]
  instanceTypes := #[(.object "java/lang/String"), .int, .int, (.object "java/lang/String"), (.object "com/example/resense/resense/engine/Measure$Combination"), (.object "java/util/function/ToDoubleFunction")]
  staticTypes := #[(.object "com/example/resense/resense/engine/Measure"), (.object "com/example/resense/resense/engine/Measure"), (.object "com/example/resense/resense/engine/Measure"), (.object "com/example/resense/resense/engine/Measure"), (.object "com/example/resense/resense/engine/Measure"), (.object "com/example/resense/resense/engine/Measure"), (.object "com/example/resense/resense/engine/Measure"), (.object "com/example/resense/resense/engine/Measure"), (.object "com/example/resense/resense/engine/Measure"), (.object "com/example/resense/resense/engine/Measure"), (.object "com/example/resense/resense/engine/Measure"), .double, (.array (.object "com/example/resense/resense/engine/Measure"))]
  resolved := Array.replicate 259 none
  statics := some 0 }

def pool7 : Array CpInfo := pool [(1, .class_ 2), (0, u "com/example/resense/resense/engine/Measure$Combination"), (2, u "SUM"), (0, u "Lcom/example/resense/resense/engine/Measure$Combination;"), (2, u "MEAN"), (2, u "GEOMETRIC_MEAN"), (2, u "$VALUES"), (0, u "[Lcom/example/resense/resense/engine/Measure$Combination;"), (6, .class_ 25), (1, u "java/lang/Enum"), (26, .class_ 53), (0, u "com/example/resense/resense/engine/Measure")] 2

/-- com/example/resense/resense/engine/Measure$Combination -/
def k7 : Class := { plain "com/example/resense/resense/engine/Measure$Combination" (some 5) with
  accessFlags := 16432
  interfaces := #[]
  cf := some (fileOf pool7 1 #[.nestHost 52] #[] 16432 23 #[] #[{ accessFlags := 16409, nameIndex := 5, descriptorIndex := 6, attributes := #[] }, { accessFlags := 16409, nameIndex := 9, descriptorIndex := 6, attributes := #[] }, { accessFlags := 16409, nameIndex := 12, descriptorIndex := 6, attributes := #[] }, { accessFlags := 4122, nameIndex := 15, descriptorIndex := 16, attributes := #[] }])
  fields := #[{ name := "SUM", type := (.object "com/example/resense/resense/engine/Measure$Combination"), accessFlags := 16409, slot := 0, constantValue := 0 }, { name := "MEAN", type := (.object "com/example/resense/resense/engine/Measure$Combination"), accessFlags := 16409, slot := 1, constantValue := 0 }, { name := "GEOMETRIC_MEAN", type := (.object "com/example/resense/resense/engine/Measure$Combination"), accessFlags := 16409, slot := 2, constantValue := 0 }, { name := "$VALUES", type := (.array (.object "com/example/resense/resense/engine/Measure$Combination")), accessFlags := 4122, slot := 3, constantValue := 0 }]
  methods := #[]
  instanceTypes := #[(.object "java/lang/String"), .int, .int]
  staticTypes := #[(.object "com/example/resense/resense/engine/Measure$Combination"), (.object "com/example/resense/resense/engine/Measure$Combination"), (.object "com/example/resense/resense/engine/Measure$Combination"), (.array (.object "com/example/resense/resense/engine/Measure$Combination"))]
  resolved := Array.replicate 56 none
  statics := some 1 }

def pool8 : Array CpInfo := pool [(1, u "java/lang/Cloneable"), (0, .class_ 1), (0, u "java/lang/Object"), (0, .class_ 3)] 3

/-- java/lang/Cloneable -/
def k8 : Class := { plain "java/lang/Cloneable" (some 0) with
  accessFlags := 1537
  interfaces := #[]
  cf := some (fileOf pool8 2 #[] #[] 1537 4 #[] #[])
  fields := #[]
  methods := #[]
  instanceTypes := #[]
  staticTypes := #[]
  resolved := Array.replicate 8 none
  statics := none }

/-- the primitive byte -/
def k9 : Class := { plain "byte" none with kind := .primitive 'B', accessFlags := 0x411 }
/-- [B -/
def k10 : Class := { plain "[B" (some 0) with kind := .array 9 .byte, interfaces := #[8, 4], accessFlags := 1041 }

/-- the primitive int -/
def k11 : Class := { plain "int" none with kind := .primitive 'I', accessFlags := 0x411 }
/-- [I -/
def k12 : Class := { plain "[I" (some 0) with kind := .array 11 .int, interfaces := #[8, 4], accessFlags := 1041 }

def heap : Heap := #[{ cls := 6, slots := #[.ref 2, .ref 10, .ref 8, .ref 4, .ref 15, .ref 12, .ref 14, .ref 5, .ref 7, .ref 11, .ref 9, .double 0, .null], vm := .statics 6 },
  { cls := 7, slots := #[.ref 3, .ref 6, .ref 13, .null], vm := .statics 7 },
  { cls := 6, slots := #[.null, .int 0, .int 0, .null, .ref 3, .null], vm := .none },
  { cls := 7, slots := #[.null, .int 0, .int 0], vm := .none },
  { cls := 6, slots := #[.null, .int 0, .int 0, .null, .ref 3, .null], vm := .none },
  { cls := 6, slots := #[.null, .int 0, .int 0, .null, .ref 6, .null], vm := .none },
  { cls := 7, slots := #[.null, .int 1, .int 0], vm := .none },
  { cls := 6, slots := #[.null, .int 0, .int 0, .null, .ref 6, .null], vm := .none },
  { cls := 6, slots := #[.null, .int 0, .int 0, .null, .ref 3, .null], vm := .none },
  { cls := 6, slots := #[.null, .int 0, .int 0, .null, .ref 3, .null], vm := .none },
  { cls := 6, slots := #[.null, .int 0, .int 0, .null, .ref 3, .null], vm := .none },
  { cls := 6, slots := #[.null, .int 0, .int 0, .null, .ref 6, .null], vm := .none },
  { cls := 6, slots := #[.null, .int 0, .int 0, .null, .ref 13, .null], vm := .none },
  { cls := 7, slots := #[.null, .int 2, .int 0], vm := .none },
  { cls := 6, slots := #[.null, .int 0, .int 0, .null, .ref 6, .null], vm := .none },
  { cls := 6, slots := #[.null, .int 0, .int 0, .null, .ref 6, .null], vm := .none }]
def classes : Array Class := #[k0, k1, k2, k3, k4, k5, k6, k7, k8, k9, k10, k11, k12]
def interned : List (Array UInt16 × Addr) := []
def slotsUsed : Nat := 92
def theMethod : MethodId := ⟨1, 1⟩
def args0 : Array Value := #[.int 5]
def aboutOver (below : List Frame) : State where
  vm := { classes := classes, interned := interned.toArray }
  heap := heap
  slotsUsed := slotsUsed
  threads := #[{ frames := .invoking theMethod args0 :: below }]
def below0 : List Frame := [.native { method := ⟨0, 0⟩, args := #[] }]
def about1 : State := aboutOver below0
def p0 : Program := .bare "" "" ""
def e0 : Env := launch0.env 0 0 0
theorem w_frames : about1.frames = Frame.invoking theMethod args0 :: below0 := rfl
set_option maxRecDepth 65536 in
theorem w_args : argsFit about1.vm theMethod args0 = true := by decide +kernel
set_option maxRecDepth 65536 in
theorem w_heap : heapFits about1 = true := by decide +kernel
set_option maxRecDepth 65536 in
theorem w_runnable : about1.curStatus? = some .runnable := by decide +kernel
set_option maxRecDepth 65536 in
theorem w_alone : about1.alone = true := by decide +kernel
set_option maxRecDepth 65536 in
theorem w_named : about1.methodNamed? x = some theMethod := by decide +kernel
set_option maxRecDepth 65536 in
theorem w_hears : about1.hears theMethod below0 = true := by decide +kernel
set_option maxRecDepth 65536 in
theorem w_ripe : about1.ripe theMethod args0 below0 = true := by decide +kernel
theorem w_running : about1.status = .running := rfl
set_option maxRecDepth 65536 in
theorem w_room : about1.hasRoom e0.platform room_1 = true :=
  launch0.hasRoom_least _ room_1 (by decide +kernel) (by decide +kernel) (by decide +kernel) (by decide +kernel) (by decide +kernel) (by decide +kernel)
theorem allAtoms_all (ts : List Jvm.Cond) (a : Array Jvm.Value) (st : Jvm.State) : (allAtoms ts).before a st = ts.all (fun c => c.before a st) := by
  induction ts with
  | nil => rfl
  | cons c t ih =>
    show (Jvm.Cond.and c (allAtoms t)).before a st = _
    rw [Jvm.Cond.before_and, ih, List.all_cons]
def words1 : List Jvm.Cond := Jvm.Cond.code x code maxLocals ret :: tables_1
/-- a 'code' word, met by the world's own term for the bytes: nothing is compared byte by byte -/
theorem code_word {y : MethodName} {bytes : ByteArray} {mx : Nat} {rt : Option FieldType} {a : Array Value} {s : State} {m : MethodId} {meth : Method} {c : Code} (h1 : s.methodNamed? y = some m) (h2 : s.vm.method? m = some meth) (h3 : meth.code = some c) (h4 : c.code = bytes)
    (h5 : (c.maxLocals == mx && c.exceptionTable.isEmpty && decide (c.maxStack ≤ mostOperands) && decide (meth.sig.returnType = rt) && !meth.locks && decide (parseMethodDescriptor y.desc = some meth.sig)) = true) : (Jvm.Cond.code y bytes mx rt).before a s = true := by
  simp only [Bool.and_eq_true, beq_iff_eq, Bool.not_eq_true', decide_eq_true_eq] at h5
  obtain ⟨⟨⟨⟨⟨g1, g2⟩, g3⟩, g4⟩, g5⟩, g6⟩ := h5
  simp [Cond.before, Cond.holds, Cond.value, h1, h2, h3, h4, g1, g2, g3, g4, g5, g6]
def isCode : Jvm.Cond → Bool
  | .code _ _ _ _ => true
  | _ => false
theorem all_split {L : List Jvm.Cond} {P : Jvm.Cond → Bool} (h1 : L.all (fun c => isCode c || P c) = true) (h2 : ∀ c ∈ L.filter isCode, P c = true) : L.all P = true := by
  refine List.all_eq_true.mpr fun c hc => ?_
  have h := List.all_eq_true.mp h1 c hc
  rcases Bool.eq_false_or_eq_true (isCode c) with hi | hi
  · exact h2 c (List.mem_filter.mpr ⟨hc, hi⟩)
  · simpa [hi] using h
set_option maxRecDepth 65536 in
theorem w_c0 : (Jvm.Cond.code x code maxLocals ret).before args0 about1 = true := code_word (m := ⟨1, 1⟩) (meth := k1m1) (c := k1c1) (by decide +kernel) rfl rfl rfl (by decide +kernel)
set_option maxRecDepth 65536 in
theorem w_c1 : (Jvm.Cond.code ({ cls := "com/example/resense/resense/engine/MeasureIsCountPinLaw", name := "pick", desc := "(I)Lcom/example/resense/resense/engine/Measure;" } : Jvm.MethodName) method_3_code (1 : Nat) (Option.some (Jvm.ClassFile.FieldType.object "com/example/resense/resense/engine/Measure"))).before args0 about1 = true := code_word (m := ⟨1, 2⟩) (meth := k1m2) (c := k1c2) (by decide +kernel) rfl rfl rfl (by decide +kernel)
set_option maxRecDepth 65536 in
theorem w_c2 : (Jvm.Cond.code ({ cls := "com/example/resense/resense/engine/Measure", name := "isCount", desc := "()Z" } : Jvm.MethodName) prog_10_method_5_code (1 : Nat) (Option.some Jvm.ClassFile.FieldType.boolean)).before args0 about1 = true := code_word (m := ⟨6, 0⟩) (meth := k6m0) (c := k6c0) (by decide +kernel) rfl rfl rfl (by decide +kernel)
def codes1 : List Jvm.Cond := [Jvm.Cond.code x code maxLocals ret, Jvm.Cond.code ({ cls := "com/example/resense/resense/engine/MeasureIsCountPinLaw", name := "pick", desc := "(I)Lcom/example/resense/resense/engine/Measure;" } : Jvm.MethodName) method_3_code (1 : Nat) (Option.some (Jvm.ClassFile.FieldType.object "com/example/resense/resense/engine/Measure")), Jvm.Cond.code ({ cls := "com/example/resense/resense/engine/Measure", name := "isCount", desc := "()Z" } : Jvm.MethodName) prog_10_method_5_code (1 : Nat) (Option.some Jvm.ClassFile.FieldType.boolean)]
set_option maxRecDepth 65536 in
theorem codes_eq : words1.filter isCode = codes1 := rfl
theorem w_codes : ∀ c ∈ words1.filter isCode, c.before args0 about1 = true := by
  rw [codes_eq]
  intro c hc
  simp only [codes1, List.mem_cons, List.not_mem_nil, or_false] at hc
  rcases hc with rfl | rfl | rfl
  · exact w_c0
  · exact w_c1
  · exact w_c2
set_option maxRecDepth 65536 in
theorem w_t1 : (words1.take 24).all (fun c => isCode c || c.before args0 about1) = true := by decide +kernel
set_option maxRecDepth 65536 in
theorem w_t2 : (words1.drop 24).all (fun c => isCode c || c.before args0 about1) = true := by decide +kernel
theorem w_tables : (allAtoms (Jvm.Cond.code x code maxLocals ret :: tables_1)).before args0 about1 = true := by
  rw [allAtoms_all]
  show words1.all (fun c => c.before args0 about1) = true
  refine all_split ?_ w_codes
  rw [← List.take_append_drop 24 words1, List.all_append, w_t1, w_t2]
  rfl
set_option maxRecDepth 65536 in
theorem w_case : (Jvm.Cond.and given_1 narrow_1).before args0 about1 = true := by decide +kernel
theorem w_applies : (headSpec (Jvm.Cond.code x code maxLocals ret :: tables_1) room_1).applies x e0.platform about1 = true :=
  (Spec.applies_iff w_frames).mpr ⟨w_running, w_runnable, w_alone, w_named, w_hears, w_ripe, w_room, w_tables⟩
theorem atStart : AtStart classFile x code maxLocals ret World_1 tables_1 room_1 Calls_1 rest_1 Pre_1 launch0 p0 e0 about1 theMethod args0 below0 :=
  ⟨lists_1, trivial, launch0.admits_env _ _ _, launch0.least_env, fairChoices_fair.cas, fairChoices_fair.clock, w_frames, w_args, w_heap, w_applies, trivial, trivial, w_case⟩
end start1
theorem witness_1 : WitnessClaimed_1 := ⟨start1.p0, start1.e0, start1.about1, start1.theMethod, start1.args0, start1.below0, start1.atStart⟩
end Jvm.Pilot.@@N@@
