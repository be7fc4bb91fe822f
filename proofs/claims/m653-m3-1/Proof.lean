import JvmDerived
import JvmDerived.Pilot.@@N@@Statement
import JvmDerived.Pilot.@@N@@Code
set_option linter.unusedVariables false
set_option linter.unusedSimpArgs false
namespace Jvm.RoadKit
open Sem ClassFile Op Lib Jvm.Stand Jvm.Free Jvm.LawKit
section New
variable {p : Program} {l : Launch} {e : Env} {R : Room} {s : State} {m : MethodId} {args : Array Value} {below : List Frame} {meth : Method} {c : Code} {T : State} {locs : List Loc} {cells slots : Nat}
theorem retI (X : Stand p l e R s m args below meth c T locs cells slots) (hx : p.tables.exec = Jvm.exec) {pc : Nat} {Ls : Array Slot} {z : Int32} {rest : List Value} (hret : meth.sig.returnType = some .int) (hd : decode c.code pc = .ok (.ireturn, 1)) {fs : List Frame}
    (hl : ∀ (f : JFrame) (acts : List Action), f.method = m → f.locked = none → f.entered = [] → (doReturn e (T.setTop f) acts (some (.int z))).1 = T.setFrames fs) : Steps p.tables e below (T.setTop (mkF m pc Ls (.int z :: rest))) (T.setFrames fs) := by
  have hm' : T.vm.method? m = some meth := X.method'
  have hn : narrow .int (.int z) = .int z := rfl
  show Steps p.tables e below (T.setTop { method := m, pc := pc, locals := Ls, stack := _ :: rest, locked := none }) _
  jvm_step X.here [X.here.top, hx, hd, hm', hret, hn]
  first | (intro acts; rw [hl _ acts rfl rfl rfl]) | rw [hl _ _ rfl rfl rfl]
  exact Steps.refl _
end New
section Own
variable {Z : State} {h0 h h' : Heap} {ws ws' : List (Addr × Nat)} {a : Addr} {sl : Nat} {v : Value} {C n d : String}
/-- own: what a call leaves as it was, by places: every cell is kept in class, kind and size; a place that isn't listed keeps its value -/
def KSx (h h' : Heap) (ws : List (Addr × Nat)) : Prop := h.size ≤ h'.size ∧ ∀ (x : Addr) (c : Cell), h[x]? = some c → ∃ c' : Cell, h'[x]? = some c' ∧ c'.cls = c.cls ∧ c'.vm = c.vm ∧ c'.slots.size = c.slots.size ∧ (∀ j, (∀ p ∈ ws, x ≠ p.1 ∨ j ≠ p.2) → c'.slots[j]? = c.slots[j]?) ∧ ((c.vm.isStatics = true ∨ ∀ p ∈ ws, x ≠ p.1) → c' = c)
theorem ks0 {P : Addr × Nat → Prop} : ∀ p ∈ ([] : List (Addr × Nat)), P p := fun _ q => nomatch q
theorem ksS {P : Addr × Nat → Prop} {y : Addr × Nat} {L : List (Addr × Nat)} (q : P y) (r : ∀ p ∈ L, P p) : ∀ p ∈ y :: L, P p := fun x z => (List.mem_cons.mp z).elim (fun u => u ▸ q) (r x)
theorem KSx.refl (h : Heap) (ws : List (Addr × Nat)) : KSx h h ws := ⟨Nat.le_refl _, fun _ c q => ⟨c, q, rfl, rfl, rfl, fun _ _ => rfl, fun _ => rfl⟩⟩
theorem KSx.ext (K : KSx h0 h ws) (E : Ext h h') : KSx h0 h' ws := ⟨Nat.le_trans K.1 E.1, fun x c q => by obtain ⟨c', q', r⟩ := K.2 x c q; exact ⟨c', E.2 x c' q', r⟩⟩
theorem KSx.trans (K : KSx h0 h ws) (K' : KSx h h' ws') (q : ∀ p ∈ ws', p ∈ ws ∨ h0.size ≤ p.1) : KSx h0 h' ws := by
  refine ⟨Nat.le_trans K.1 K'.1, fun x c hc => ?_⟩
  obtain ⟨c1, a1, a2, a3, a4, a5, a6⟩ := K.2 x c hc
  obtain ⟨c2, b1, b2, b3, b4, b5, b6⟩ := K'.2 x c1 a1
  have hx : x < h0.size := (Array.getElem?_eq_some_iff.mp hc).1
  refine ⟨c2, b1, b2.trans a2, b3.trans a3, b4.trans a4, fun j hj => ?_, fun hs => ?_⟩
  · refine (b5 j fun p hp => ?_).trans (a5 j hj)
    rcases q p hp with w | g
    · exact hj p w
    · exact Or.inl fun e => by subst e; exact absurd hx (Nat.not_lt.mpr g)
  · have e1 : c1 = c := a6 hs
    refine (b6 ?_).trans e1
    rcases hs with w | w
    · exact Or.inl (by rw [e1]; exact w)
    · refine Or.inr fun p hp => ?_
      rcases q p hp with y | g
      · exact w p y
      · exact fun e => by subst e; exact absurd hx (Nat.not_lt.mpr g)
theorem KSx.of_wr (W : Wr h h' a sl v) : KSx h h' [(a, sl)] := by
  refine ⟨Nat.le_of_eq W.size.symm, fun x c hc => ?_⟩
  obtain ⟨c', e1, e2, e3, e4, e5, e6, e7⟩ := wr_at W hc
  refine ⟨c', e1, e2, e3, e4, fun j hj => ?_, fun hs => ?_⟩
  · rcases hj (a, sl) (List.mem_singleton.mpr rfl) with y | y
    · rw [e5 y]
    · exact e6 j y
  · rcases hs with y | y
    · by_cases z : x = a
      · rw [(e7 z).2.2] at y; cases y
      · exact e5 z
    · exact e5 (y (a, sl) (List.mem_singleton.mpr rfl))
theorem KSx.wr (K : KSx h0 h ws) (W : Wr h h' a sl v) (q : (a, sl) ∈ ws ∨ h0.size ≤ a) : KSx h0 h' ws := K.trans (KSx.of_wr W) fun p hp => by cases List.mem_singleton.mp hp; exact q
theorem Fld.ks (F : Fld Z h a C n d v) (K : KSx h h' ws) (q : ∀ p ∈ ws, a ≠ p.1 ∨ slotOf Z C n d ≠ p.2) : Fld Z h' a C n d v := by
  obtain ⟨cell, cf, k, i, f, h1, h2, h3, h4, h5, h6, h7⟩ := F
  obtain ⟨c', e1, e2, e3, -, e5, -⟩ := K.2 _ _ h1
  refine ⟨c', cf, k, i, f, e1, h2, h3, by rw [e3]; exact h4, by rw [e3]; exact h5, by rw [e2]; exact h6, ?_⟩
  refine (e5 _ fun p hp => ?_).trans h7
  simpa [slotOf, h2] using q p hp
theorem Exa.ks (F : Exa Z h a C) (K : KSx h h' ws) : Exa Z h' a C := by
  obtain ⟨cell, k, h1, h2, h3, h4, h5⟩ := F
  obtain ⟨c', e1, e2, e3, e4, -⟩ := K.2 _ _ h1
  exact ⟨c', k, e1, by rw [e2]; exact h2, by rw [e2]; exact h3, by rw [e3]; exact h4, by rw [e4]; exact h5⟩
theorem Sta.ks (F : Sta Z h C n d v) (K : KSx h h' ws) : Sta Z h' C n d v := by
  obtain ⟨cf, i, k, f, st, cell, h1, h2, h3, h4, h5, h6, h7⟩ := F
  obtain ⟨c', e1, -, -, -, -, e6⟩ := K.2 _ _ h5
  exact ⟨cf, i, k, f, st, cell, h1, h2, h3, h4, (e6 (Or.inl h6)) ▸ e1, h6, h7⟩
theorem Arr.ks {c : Cell} {ty : FieldType} (F : Arr Z h a c ty) (K : KSx h h' ws) (q : ∀ p ∈ ws, a ≠ p.1) : Arr Z h' a c ty := by
  obtain ⟨c', e1, -, -, -, -, e6⟩ := K.2 _ _ F.1
  exact ⟨(e6 (Or.inr q)) ▸ e1, F.2⟩
theorem Arv.ks {k : ClassId} {ty : FieldType} {z : Int32} {vs : List Value} {dv : Value} (F : Arv Z h a k ty z vs dv) (K : KSx h h' ws) (q : ∀ p ∈ ws, a ≠ p.1) : Arv Z h' a k ty z vs dv := by obtain ⟨c, A, r⟩ := F; exact ⟨c, A.ks K q, r⟩
theorem own_fi {args : Array Value} {s : State} {t : Term} {k : Int32} (ht : t.eval args s none [] s = some (.ref a)) (hq : (Cond.eq (.field t C n d) (.int k)).value args s none s [] = some true) : Fld s s.heap a C n d (.int k) := by
  have e2 : (Term.int k).eval args s none [] s = some (.int k) := Term.int_eval k
  obtain ⟨x, y, e1, e3, -, k2⟩ := cmp_v (Or.inl hq)
  cases e2.symm.trans e3
  obtain ⟨z, rfl⟩ := k2
  have q : z = k := by simpa [Cond.value, e1, e2] using hq
  subst q
  exact Fld.start (by rw [← fld_at ht]; exact e1)
theorem own_fr {args : Array Value} {s : State} {t u : Term} {b : Addr} (ht : t.eval args s none [] s = some (.ref a)) (hu : u.eval args s none [] s = some (.ref b)) (hq : (Cond.eq (.field t C n d) u).value args s none s [] = some true) : Fld s s.heap a C n d (.ref b) := by
  obtain ⟨x, y, e1, e3, k1, k2⟩ := cmp_v (Or.inl hq)
  cases hu.symm.trans e3
  have hr : x.isRef = true := k2.2
  have q : x = .ref b := gotT (eq_R e1 hu hr rfl) hq
  subst q
  exact Fld.start (by rw [← fld_at ht]; exact e1)
theorem own_len {args : Array Value} {s : State} {t : Term} {k : Int32} {cl : Cell} {ty : FieldType} (ht : t.eval args s none [] s = some (.ref a)) (A : Arr s s.heap a cl ty) (hq : (Cond.eq (.length t) (.int k)).value args s none s [] = some true) : cl.slots.size < 2 ^ 31 ∧ cl.slots.size.toInt32 = k := by
  have e2 : (Term.int k).eval args s none [] s = some (.int k) := Term.int_eval k
  have ha : s.arrayAt? a = some cl := A.fin (Vm.Alike.refl _)
  obtain ⟨x, y, e1, e3, -, k2⟩ := cmp_v (Or.inl hq)
  cases e2.symm.trans e3
  obtain ⟨z, rfl⟩ := k2
  have q : z = k := by simpa [Cond.value, e1, e2] using hq
  subst q
  by_cases hl : cl.slots.size < 2 ^ 31
  · rw [len_f ht ha hl] at e1
    cases e1; exact ⟨hl, rfl⟩
  · simp [Term.eval, ht, ha, hl] at e1
theorem own_el {args : Array Value} {s : State} {t u : Term} {k : Int32} {b : Addr} {cl : Cell} {ty : FieldType} (ht : t.eval args s none [] s = some (.ref a)) (hu : u.eval args s none [] s = some (.ref b)) (A : Arr s s.heap a cl ty) (hq : (Cond.eq (.elem t (.int k)) u).value args s none s [] = some true) : cl.slots[k.toNatClampNeg]? = some (.ref b) := by
  obtain ⟨x, y, e1, e3, k1, k2⟩ := cmp_v (Or.inl hq)
  cases hu.symm.trans e3
  have q : x = .ref b := gotT (eq_R e1 hu k2.2 rfl) hq
  subst q
  exact (elem_in e1 ht (Term.int_eval k) A.1).2
theorem own_sel {s : State} {a0 args : Array Value} {y : MethodName} {k : Nat} (hZ : Z.Warmed39 s.vm) (wi : (Cond.instantiable y.cls k).before a0 Z = true) (wp : (Cond.privateMethod y).before a0 Z = true) (wm : (Cond.instanceMethod y).before a0 Z = true) (hy : y.cls ≠ "java/lang/invoke/MethodHandle" ∧ y.cls ≠ "java/lang/invoke/VarHandle") : (Cond.selects y.cls y y).before args s = true := by
  obtain ⟨c, kc, h1, h2, -, h4, -⟩ := Cond.instantiable_spec (mvT (args := args) hZ wi)
  exact selects_self_of_private h1 h2 (Bool.or_eq_false_iff.mp h4).1 (Cond.privateMethod_at (mvP hZ wp (args := args))) (mvT hZ wm) hy
end Own
end Jvm.RoadKit
namespace Jvm.Pilot.@@N@@
open Jvm Jvm.ClassFile Sem Op Lib Jvm.Free Jvm.Stand Jvm.LawKit Jvm.RoadKit Bundle Jvm.Pilot.@@N@@.Jvm.D
abbrev OMet (l : Launch) (Z : State) (y : MethodName) (bytes : ByteArray) (ml : Nat) (rt : Option FieldType) (ws : List Jvm.Cond) (rm : Room) (h0 : Heap) (as : Array Value) (Q : Option Value → Heap → List Loc → Prop) : Prop :=
  MetFree l y (head1 (Jvm.Cond.code y bytes ml rt :: ws) rm) (fun a U => a = as ∧ Z.Warmed39 U.vm ∧ U.heap = h0) (fun _ _ _ _ _ => True) (fun _ U o U' => ∃ v L, o = .returned v ∧ Q v U'.heap L ∧ FrameEnd U o U' L rm.cells rm.slots)
abbrev OMetS (l : Launch) (Z : State) (y : MethodName) (bytes : ByteArray) (ml : Nat) (rt : Option FieldType) (ws : List Jvm.Cond) (rm : Room) (h0 : Heap) (as : Array Value) (Q : Option Value → Heap → List Loc → Prop) : Prop :=
  MetFree l y (head1 (Jvm.Cond.code y bytes ml rt :: ws) rm) (fun a U => a = as ∧ Z.Warmed39 U.vm ∧ U.heap = h0) (fun _ _ _ _ _ => True) (fun _ U o U' => ∃ v L, o = .returned v ∧ Q v U'.heap L ∧ ReturnedEndW U o U' L rm.cells rm.slots)
def OQp (r : Option Value) (h0 : Heap) (n0 : Nat) (v : Option Value) (h : Heap) (L : List Loc) : Prop := v = r ∧ Fr n0 L ∧ h = h0
def OQl (r : Option Value) (n0 : Nat) (v : Option Value) (h : Heap) (L : List Loc) : Prop := v = r ∧ Fr n0 L
theorem own_rng {k n : Int32} {N : Nat} (h : 0 ≤ k.toInt ∧ k.toInt < N) : ∃ i : Fin N, k = Int32.ofInt i.1 := by
  refine ⟨⟨k.toInt.toNat, by omega⟩, ?_⟩
  show k = Int32.ofInt ((k.toInt.toNat : Nat) : Int)
  rw [Int.toNat_of_nonneg h.1]; exact (Int32.ofInt_toInt k).symm
theorem own_mod (x : Int32) (y : Int32) (hy : 0 < y.toInt) : 0 ≤ ((x &&& (2147483647 : Int32)) % y).toInt ∧ ((x &&& (2147483647 : Int32)) % y).toInt < y.toInt := by
  have h1 := c_mask x 2147483647 31 (by decide) (by decide)
  have h2 := (c_iremV (x &&& (2147483647 : Int32)) y).1 (by rw [h1]; exact Int.emod_nonneg _ (by decide)) hy
  exact ⟨h2.1, h2.2.1⟩
theorem own_b1 (x : Int32) : (x &&& (1 : Int32)) = (0 : Int32) ∨ (x &&& (1 : Int32)) = (1 : Int32) := by
  have h := c_mask x 1 1 (by decide) (by decide)
  have q : (x &&& (1 : Int32)).toInt = 0 ∨ (x &&& (1 : Int32)).toInt = 1 := by rw [h]; omega
  rcases q with q | q <;> simp [← Int32.toInt_inj, q]
theorem d1_0 : decode method_2_code 0 = .ok (.iload_n 0, 1) := by decide +kernel
theorem d1_1 : decode method_2_code 1 = .ok (.ifCond .ne 7, 3) := by decide +kernel
theorem d1_4 : decode method_2_code 4 = .ok (.getstatic 7, 3) := by decide +kernel
theorem d1_7 : decode method_2_code 7 = .ok (.areturn, 1) := by decide +kernel
theorem pn_com_example_grepo_grepo_internal_query_OperatorTakesCollectionPinLaw : plainName "com/example/grepo/grepo/internal/query/OperatorTakesCollectionPinLaw" = true := by first | (simp [plainName, overriddenIn]; done) | decide +kernel
theorem ef_1_v (m : MethodId) (x0 : Int32) : entryFrame m #[(.int x0)] 1 = mkF m 0 #[.val (.int x0)] [] := by first | (simp [entryFrame, mkF, argsToLocals, Value.category]; done) | rfl
set_option maxRecDepth 65536 in
set_option maxHeartbeats 40000000 in
theorem r1_1 (l : Launch) (Z : State) (a0 : Array Value) (hw : ∀ d ∈ tables_1, d.before a0 Z = true) (p2 : Int32) (w3 : Addr) (h0 : Heap) (n0 : Nat) (Z0 : n0 ≤ h0.size) (H0 : p2 = (0 : Int32)) (H1 : Sta Z h0 "com/example/grepo/grepo/internal/query/Operator" "EQUAL" "Lcom/example/grepo/grepo/internal/query/Operator;" (.ref w3)) :
    OMet l Z (⟨"com/example/grepo/grepo/internal/query/OperatorTakesCollectionPinLaw", "pick", "(I)Lcom/example/grepo/grepo/internal/query/Operator;"⟩ : MethodName) method_2_code 1 (some (.object "com/example/grepo/grepo/internal/query/Operator")) [] ({ frames := 0, cells := 0, slots := 0, locals := 0 } : Room) h0 #[(.int p2)] (OQp (some (.ref w3)) h0 n0) := by
  refine MetFree.of_bodySF (plainFor_of_name pn_com_example_grepo_grepo_internal_query_OperatorTakesCollectionPinLaw) hisR ?_
  intro p e s m args below meth c s₁ Bd hml0 hP hK
  obtain ⟨rfl, hZ, hh⟩ := hP
  have hx := Bd.exec
  have hby := Bd.bytes
  have hml : c.maxLocals = 1 := hml0
  have hown : s.vm.findClass "com/example/grepo/grepo/internal/query/OperatorTakesCollectionPinLaw" = some m.cls := findClass_of_methodNamed Bd.named
  have hnm := (name_of_methodNamed Bd.named Bd.method).1
  have X0 : Stand p l e ({ frames := 0, cells := 0, slots := 0, locals := 0 } : Room) s m #[(.int p2)] below meth c s₁ [] 0 0 := Stand.of_body Bd
  have e0 : s₁.heap = h0 := by rw [← hh, Bd.state]; rfl
  have N0 := Fr.nil n0
  have pre0 : ∀ t, Steps p.tables e below (s₁.setTop (mkF m 0 #[.val (.int p2)] [])) t → Steps p.tables e below (s₁.setTop (entryFrame m #[(.int p2)] 1)) t := fun t k => castTop (ef_1_v m p2) k
  obtain ⟨T4, X4, e4, st4⟩ := getS2 X0 hx hZ hown (host := "") (Or.inl (hw _ (List.mem_of_getElem? (i := 5) rfl))) Via.refl e0 H1 (g := (mkF m 4 #[.val (.int p2)] [])) rfl (hb hby d1_4)
  obtain ⟨fs, hr, hrun, hended, hW, hsame⟩ := X4.leave (v := some (.ref w3)) (fun h => by rw [Bd.returns] at h; cases h)
  refine ⟨_, _, pre0 _ ?_, hrun, hended, _, _, rfl, ?_, ⟨_, rfl⟩, hW, hsame.mono (by decide) (by decide)⟩
  · show Steps p.tables e below (s₁.setTop (mkF m 0 #[.val (.int p2)] [])) _
    refine XS.iloadN X0.here hx rfl (hb hby d1_0) rfl ?_
    show Steps p.tables e below (s₁.setTop (mkF m 1 #[.val (.int p2)] [(.int p2)])) _
    refine XS.ifNo X0.here hx rfl (hb hby d1_1) rfl ((if0 _ _).trans (teq H0).2) ?_
    show Steps p.tables e below (s₁.setTop (mkF m 4 #[.val (.int p2)] [])) _
    refine st4 _ ?_
    show Steps p.tables e below (T4.setTop (mkF m 7 #[.val (.int p2)] [(.ref w3)])) _
    jvm_step X4.here [X4.here.top, hx, (hb hby d1_7), X4.method', Bd.returns, Value.isRef, FieldType.isReference]
    first | (intro acts; rw [hr _ acts rfl rfl rfl]) | rw [hr _ _ rfl rfl rfl]
    exact Steps.refl _
  · show OQp (some (.ref w3)) h0 n0 _ T4.heap _
    rw [e4]
    exact ⟨rfl, N0, rfl⟩
theorem pd_0 : parseMethodDescriptor "(I)Lcom/example/grepo/grepo/internal/query/Operator;" = some ⟨[.int], some (.object "com/example/grepo/grepo/internal/query/Operator")⟩ := by decide +kernel
theorem d2_0 : decode prog_25_method_6_code 0 = .ok (.aload_n 0, 1) := by decide +kernel
theorem d2_1 : decode prog_25_method_6_code 1 = .ok (.getstatic 31, 3) := by decide +kernel
theorem d2_4 : decode prog_25_method_6_code 4 = .ok (.if_acmp .eq 10, 3) := by decide +kernel
theorem d2_7 : decode prog_25_method_6_code 7 = .ok (.aload_n 0, 1) := by decide +kernel
theorem d2_8 : decode prog_25_method_6_code 8 = .ok (.getstatic 34, 3) := by decide +kernel
theorem d2_11 : decode prog_25_method_6_code 11 = .ok (.if_acmp .ne 7, 3) := by decide +kernel
theorem d2_18 : decode prog_25_method_6_code 18 = .ok (.iconst 0, 1) := by decide +kernel
theorem d2_19 : decode prog_25_method_6_code 19 = .ok (.ireturn, 1) := by decide +kernel
theorem pn_com_example_grepo_grepo_internal_query_Operator : plainName "com/example/grepo/grepo/internal/query/Operator" = true := by first | (simp [plainName, overriddenIn]; done) | decide +kernel
theorem ef_2_v (m : MethodId) (x0 : Addr) : entryFrame m #[(.ref x0)] 1 = mkF m 0 #[.val (.ref x0)] [] := by first | (simp [entryFrame, mkF, argsToLocals, Value.category]; done) | rfl
set_option maxRecDepth 65536 in
set_option maxHeartbeats 40000000 in
theorem r2_1 (l : Launch) (Z : State) (a0 : Array Value) (hw : ∀ d ∈ tables_1, d.before a0 Z = true) (a7 : Addr) (w8 : Addr) (w10 : Addr) (h0 : Heap) (n0 : Nat) (Z0 : n0 ≤ h0.size) (H0 : Sta Z h0 "com/example/grepo/grepo/internal/query/Operator" "IN" "Lcom/example/grepo/grepo/internal/query/Operator;" (.ref w8)) (H1 : a7 ≠ w8) (H2 : Sta Z h0 "com/example/grepo/grepo/internal/query/Operator" "NOT_IN" "Lcom/example/grepo/grepo/internal/query/Operator;" (.ref w10)) (H3 : a7 ≠ w10) :
    OMet l Z (⟨"com/example/grepo/grepo/internal/query/Operator", "takesCollection", "()Z"⟩ : MethodName) prog_25_method_6_code 1 (some .boolean) [] ({ frames := 0, cells := 0, slots := 0, locals := 0 } : Room) h0 #[(.ref a7)] (OQp (some (.int (0 : Int32))) h0 n0) := by
  refine MetFree.of_bodySF (plainFor_of_name pn_com_example_grepo_grepo_internal_query_Operator) hisR ?_
  intro p e s m args below meth c s₁ Bd hml0 hP hK
  obtain ⟨rfl, hZ, hh⟩ := hP
  have hx := Bd.exec
  have hby := Bd.bytes
  have hml : c.maxLocals = 1 := hml0
  have hown : s.vm.findClass "com/example/grepo/grepo/internal/query/Operator" = some m.cls := findClass_of_methodNamed Bd.named
  have hnm := (name_of_methodNamed Bd.named Bd.method).1
  have X0 : Stand p l e ({ frames := 0, cells := 0, slots := 0, locals := 0 } : Room) s m #[(.ref a7)] below meth c s₁ [] 0 0 := Stand.of_body Bd
  have e0 : s₁.heap = h0 := by rw [← hh, Bd.state]; rfl
  have N0 := Fr.nil n0
  have pre0 : ∀ t, Steps p.tables e below (s₁.setTop (mkF m 0 #[.val (.ref a7)] [])) t → Steps p.tables e below (s₁.setTop (entryFrame m #[(.ref a7)] 1)) t := fun t k => castTop (ef_2_v m a7) k
  obtain ⟨T9, X9, e9, st9⟩ := getS2 X0 hx hZ hown (host := "") (Or.inl (hw _ (List.mem_of_getElem? (i := 13) rfl))) Via.refl e0 H0 (g := (mkF m 1 #[.val (.ref a7)] [(.ref a7)])) rfl (hb hby d2_1)
  obtain ⟨T11, X11, e11, st11⟩ := getS2 X9 hx hZ hown (host := "") (Or.inl (hw _ (List.mem_of_getElem? (i := 15) rfl))) Via.refl e9 H2 (g := (mkF m 8 #[.val (.ref a7)] [(.ref a7)])) rfl (hb hby d2_8)
  obtain ⟨fs, hr, hrun, hended, hW, hsame⟩ := X11.leave (v := some (.int (0 : Int32))) (fun h => by rw [Bd.returns] at h; cases h)
  refine ⟨_, _, pre0 _ ?_, hrun, hended, _, _, rfl, ?_, ⟨_, rfl⟩, hW, hsame.mono (by decide) (by decide)⟩
  · show Steps p.tables e below (s₁.setTop (mkF m 0 #[.val (.ref a7)] [])) _
    refine XS.aloadN X0.here hx rfl (hb hby d2_0) rfl rfl ?_
    show Steps p.tables e below (s₁.setTop (mkF m 1 #[.val (.ref a7)] [(.ref a7)])) _
    refine st9 _ ?_
    show Steps p.tables e below (T9.setTop (mkF m 4 #[.val (.ref a7)] [(.ref w8), (.ref a7)])) _
    refine Jvm.RoadKit.acmp (g := (mkF m 4 #[.val (.ref a7)] [(.ref w8), (.ref a7)])) X9 hx rfl rfl rfl (pc0 := 4) (pc' := 7) (same := false) rfl (hb hby d2_4) rfl (decide_eq_false fun q => H1 (Value.ref.inj q)) (by decide) (by decide) ?_
    show Steps p.tables e below (T9.setTop (mkF m 7 #[.val (.ref a7)] [])) _
    refine XS.aloadN X9.here hx rfl (hb hby d2_7) rfl rfl ?_
    show Steps p.tables e below (T9.setTop (mkF m 8 #[.val (.ref a7)] [(.ref a7)])) _
    refine st11 _ ?_
    show Steps p.tables e below (T11.setTop (mkF m 11 #[.val (.ref a7)] [(.ref w10), (.ref a7)])) _
    refine Jvm.RoadKit.acmp (g := (mkF m 11 #[.val (.ref a7)] [(.ref w10), (.ref a7)])) X11 hx rfl rfl rfl (pc0 := 11) (pc' := 18) (same := false) rfl (hb hby d2_11) rfl (decide_eq_false fun q => H3 (Value.ref.inj q)) (by decide) (by decide) ?_
    show Steps p.tables e below (T11.setTop (mkF m 18 #[.val (.ref a7)] [])) _
    refine XS.iconst X11.here hx rfl (hb hby d2_18) ?_
    show Steps p.tables e below (T11.setTop (mkF m 19 #[.val (.ref a7)] [(.int (0 : Int32))])) _
    exact retN X11 hx (t := .boolean) Bd.returns (by simp) (hb hby d2_19) hr
  · show OQp (some (.int (0 : Int32))) h0 n0 _ T11.heap _
    rw [e11]
    exact ⟨rfl, N0, rfl⟩
theorem pd_1 : parseMethodDescriptor "()Z" = some ⟨[], some .boolean⟩ := by decide +kernel
theorem d3_0 : decode method_3_code 0 = .ok (.iload_n 0, 1) := by decide +kernel
theorem d3_1 : decode method_3_code 1 = .ok (.bipush 9, 2) := by decide +kernel
theorem d3_3 : decode method_3_code 3 = .ok (.if_icmp .ne 5, 3) := by decide +kernel
theorem d3_8 : decode method_3_code 8 = .ok (.iload_n 0, 1) := by decide +kernel
theorem d3_9 : decode method_3_code 9 = .ok (.bipush 10, 2) := by decide +kernel
theorem d3_11 : decode method_3_code 11 = .ok (.if_icmp .ne 5, 3) := by decide +kernel
theorem d3_16 : decode method_3_code 16 = .ok (.iconst 0, 1) := by decide +kernel
theorem d3_17 : decode method_3_code 17 = .ok (.ireturn, 1) := by decide +kernel
theorem ef_3_v (m : MethodId) (x0 : Int32) : entryFrame m #[(.int x0)] 1 = mkF m 0 #[.val (.int x0)] [] := by first | (simp [entryFrame, mkF, argsToLocals, Value.category]; done) | rfl
set_option maxRecDepth 65536 in
set_option maxHeartbeats 40000000 in
theorem r3_1 (l : Launch) (Z : State) (a0 : Array Value) (hw : ∀ d ∈ tables_1, d.before a0 Z = true) (p15 : Int32) (h0 : Heap) (n0 : Nat) (Z0 : n0 ≤ h0.size) (H0 : ¬ (p15 = (9 : Int32))) (H1 : ¬ (p15 = (10 : Int32))) :
    OMet l Z (⟨"com/example/grepo/grepo/internal/query/OperatorTakesCollectionPinLaw", "expected", "(I)Z"⟩ : MethodName) method_3_code 1 (some .boolean) [] ({ frames := 0, cells := 0, slots := 0, locals := 0 } : Room) h0 #[(.int p15)] (OQp (some (.int (0 : Int32))) h0 n0) := by
  refine MetFree.of_bodySF (plainFor_of_name pn_com_example_grepo_grepo_internal_query_OperatorTakesCollectionPinLaw) hisR ?_
  intro p e s m args below meth c s₁ Bd hml0 hP hK
  obtain ⟨rfl, hZ, hh⟩ := hP
  have hx := Bd.exec
  have hby := Bd.bytes
  have hml : c.maxLocals = 1 := hml0
  have hown : s.vm.findClass "com/example/grepo/grepo/internal/query/OperatorTakesCollectionPinLaw" = some m.cls := findClass_of_methodNamed Bd.named
  have hnm := (name_of_methodNamed Bd.named Bd.method).1
  have X0 : Stand p l e ({ frames := 0, cells := 0, slots := 0, locals := 0 } : Room) s m #[(.int p15)] below meth c s₁ [] 0 0 := Stand.of_body Bd
  have e0 : s₁.heap = h0 := by rw [← hh, Bd.state]; rfl
  have N0 := Fr.nil n0
  have pre0 : ∀ t, Steps p.tables e below (s₁.setTop (mkF m 0 #[.val (.int p15)] [])) t → Steps p.tables e below (s₁.setTop (entryFrame m #[(.int p15)] 1)) t := fun t k => castTop (ef_3_v m p15) k

  obtain ⟨fs, hr, hrun, hended, hW, hsame⟩ := X0.leave (v := some (.int (0 : Int32))) (fun h => by rw [Bd.returns] at h; cases h)
  refine ⟨_, _, pre0 _ ?_, hrun, hended, _, _, rfl, ?_, ⟨_, rfl⟩, hW, hsame.mono (by decide) (by decide)⟩
  · show Steps p.tables e below (s₁.setTop (mkF m 0 #[.val (.int p15)] [])) _
    refine XS.iloadN X0.here hx rfl (hb hby d3_0) rfl ?_
    show Steps p.tables e below (s₁.setTop (mkF m 1 #[.val (.int p15)] [(.int p15)])) _
    refine XS.bipush X0.here hx rfl (hb hby d3_1) ?_
    show Steps p.tables e below (s₁.setTop (mkF m 3 #[.val (.int p15)] [(.int (9 : Int32)), (.int p15)])) _
    refine XS.icmpYes X0.here hx rfl (pc0 := 3) (pc' := 8) rfl (hb hby d3_3) rfl (feq H0).2 (by decide) (by decide) ?_
    show Steps p.tables e below (s₁.setTop (mkF m 8 #[.val (.int p15)] [])) _
    refine XS.iloadN X0.here hx rfl (hb hby d3_8) rfl ?_
    show Steps p.tables e below (s₁.setTop (mkF m 9 #[.val (.int p15)] [(.int p15)])) _
    refine XS.bipush X0.here hx rfl (hb hby d3_9) ?_
    show Steps p.tables e below (s₁.setTop (mkF m 11 #[.val (.int p15)] [(.int (10 : Int32)), (.int p15)])) _
    refine XS.icmpYes X0.here hx rfl (pc0 := 11) (pc' := 16) rfl (hb hby d3_11) rfl (feq H1).2 (by decide) (by decide) ?_
    show Steps p.tables e below (s₁.setTop (mkF m 16 #[.val (.int p15)] [])) _
    refine XS.iconst X0.here hx rfl (hb hby d3_16) ?_
    show Steps p.tables e below (s₁.setTop (mkF m 17 #[.val (.int p15)] [(.int (0 : Int32))])) _
    exact retN X0 hx (t := .boolean) Bd.returns (by simp) (hb hby d3_17) hr
  · show OQp (some (.int (0 : Int32))) h0 n0 _ s₁.heap _
    rw [e0]
    exact ⟨rfl, N0, rfl⟩
theorem pd_2 : parseMethodDescriptor "(I)Z" = some ⟨[.int], some .boolean⟩ := by decide +kernel
theorem ef_0_v (m : MethodId) (x0 : Int32) : entryFrame m #[(.int x0)] maxLocals = mkF m 0 #[.val (.int x0), .unset, .unset, .unset] [] := by first | (simp [entryFrame, mkF, argsToLocals, Value.category, maxLocals]; done) | rfl
set_option maxRecDepth 65536 in
set_option maxHeartbeats 40000000 in
theorem r0_1 (l : Launch) (Z : State) (a0 : Array Value) (hw : ∀ d ∈ tables_1, d.before a0 Z = true) (p1 : Int32) (w6 : Addr) (w13 : Addr) (w14 : Addr) (h0 : Heap) (n0 : Nat) (Z0 : n0 ≤ h0.size) (H0 : ((p1 &&& (2147483647 : Int32)) % (18 : Int32)) = (0 : Int32)) (H1 : Sta Z h0 "com/example/grepo/grepo/internal/query/Operator" "EQUAL" "Lcom/example/grepo/grepo/internal/query/Operator;" (.ref w6)) (H2 : Sta Z h0 "com/example/grepo/grepo/internal/query/Operator" "IN" "Lcom/example/grepo/grepo/internal/query/Operator;" (.ref w13)) (H3 : w6 ≠ w13) (H4 : Sta Z h0 "com/example/grepo/grepo/internal/query/Operator" "NOT_IN" "Lcom/example/grepo/grepo/internal/query/Operator;" (.ref w14)) (H5 : w6 ≠ w14) (H6 : Exa Z h0 w6 "com/example/grepo/grepo/internal/query/Operator") (H7 : ¬ (((p1 &&& (2147483647 : Int32)) % (18 : Int32)) = (9 : Int32))) (H8 : ¬ (((p1 &&& (2147483647 : Int32)) % (18 : Int32)) = (10 : Int32))) :
    OMet l Z x code maxLocals ret tables_1 room_1 h0 #[(.int p1)] (OQl (some (.int (1 : Int32))) n0) := by
  refine MetFree.of_bodySF (plainFor_of_name pn_com_example_grepo_grepo_internal_query_OperatorTakesCollectionPinLaw) hisR ?_
  intro p e s m args below meth c s₁ Bd hml0 hP hK
  obtain ⟨rfl, hZ, hh⟩ := hP
  have hx := Bd.exec
  have hby := Bd.bytes
  have hml : c.maxLocals = 4 := hml0
  have hown : s.vm.findClass "com/example/grepo/grepo/internal/query/OperatorTakesCollectionPinLaw" = some m.cls := findClass_of_methodNamed Bd.named
  have hnm := (name_of_methodNamed Bd.named Bd.method).1
  have X0 : Stand p l e room_1 s m #[(.int p1)] below meth c s₁ [] 0 0 := Stand.of_body Bd
  have e0 : s₁.heap = h0 := by rw [← hh, Bd.state]; rfl
  have N0 := Fr.nil n0
  have pre0 : ∀ t, Steps p.tables e below (s₁.setTop (mkF m 0 #[.val (.int p1), .unset, .unset, .unset] [])) t → Steps p.tables e below (s₁.setTop (entryFrame m #[(.int p1)] maxLocals)) t := fun t k => castTop (ef_0_v m p1) k
  obtain ⟨_, _, ⟨T5, L5, k5, n5⟩, -, X5, ⟨Lc5, hQ5, l5, y5, z5⟩, st5⟩ := Jvm.LawKit.callS X0 hx (y := (⟨"com/example/grepo/grepo/internal/query/OperatorTakesCollectionPinLaw", "pick", "(I)Lcom/example/grepo/grepo/internal/query/Operator;"⟩ : MethodName)) hown (mvT hZ (hw _ (List.mem_of_getElem? (i := 1) rfl))) (mvT hZ (hw _ (List.mem_of_getElem? (i := 2) rfl))) (mvT hZ (hw _ (List.mem_of_getElem? (i := 3) rfl))) (mvT hZ (hw _ (List.mem_of_getElem? (i := 4) rfl))) (by decide) (backOf (W := 0) (r1_1 l Z a0 hw ((p1 &&& (2147483647 : Int32)) % (18 : Int32)) w6 h0 n0 Z0 H0 H1) hZ (hw _ (List.mem_of_getElem? (i := 4) rfl)) (hw _ (List.mem_of_getElem? (i := 3) rfl)) (by decide) (by decide)) (g := (mkF m 9 #[.val (.int p1), .val (.int ((p1 &&& (2147483647 : Int32)) % (18 : Int32))), .unset, .unset] [(.int ((p1 &&& (2147483647 : Int32)) % (18 : Int32)))])) rfl (by rw [hml]; rfl) (argsL := [(.int ((p1 &&& (2147483647 : Int32)) % (18 : Int32)))]) (rest := []) (lenOf pd_0 rfl) rfl (by show 2 * 0 + _ ≤ _; exact Nat.le_of_eq rfl) (hb hby at_9) (fun _ _ => ⟨rfl, e0, (by decide : 0 + 0 ≤ _), (by decide : 0 + 0 ≤ _)⟩)
  dsimp only [Pt.U, Pt.locs, Pt.cells, Pt.slots] at X5 l5 y5 z5 st5 hQ5
  subst l5 y5 z5
  obtain ⟨rfl, N5q, e5⟩ := hQ5
  have N5 := Fr.app N0 N5q
  obtain ⟨cq12, kq12, q12a, q12b, q12c⟩ := isOf hZ e5 H6
  obtain ⟨_, _, ⟨T12, L12, k12, n12⟩, -, X12, ⟨Lc12, hQ12, l12, y12, z12⟩, st12⟩ := X5.virtualBack hx (y := (⟨"com/example/grepo/grepo/internal/query/Operator", "takesCollection", "()Z"⟩ : MethodName)) (z := (⟨"com/example/grepo/grepo/internal/query/Operator", "takesCollection", "()Z"⟩ : MethodName)) hown (mvT hZ (hw _ (List.mem_of_getElem? (i := 8) rfl))) (mvT hZ (hw _ (List.mem_of_getElem? (i := 9) rfl))) (notFace_of_selects (args := #[]) (mvT hZ (hw _ (List.mem_of_getElem? (i := 11) rfl)))) (mvT hZ (hw _ (List.mem_of_getElem? (i := 11) rfl))) (mvT hZ (hw _ (List.mem_of_getElem? (i := 10) rfl))) (by decide) (backOf (W := 0) (r2_1 l Z a0 hw w6 w13 w14 h0 n0 Z0 H2 H3 H4 H5) hZ (hw _ (List.mem_of_getElem? (i := 12) rfl)) (hw _ (List.mem_of_getElem? (i := 6) rfl)) (by decide) (by decide)) q12a q12c (g := (mkF m 14 #[.val (.int p1), .val (.int ((p1 &&& (2147483647 : Int32)) % (18 : Int32))), .val (.ref w6), .unset] [(.ref w6)])) rfl (by rw [hml]; rfl) (Steps.refl _) (argsL := []) (rest := []) (lenOf pd_1 rfl) rfl (by show 2 * 0 + _ ≤ _; exact Nat.le_of_eq rfl) (hb hby at_14) (fun _ _ => ⟨rfl, e5, (by decide : 0 + 0 ≤ _), (by decide : 0 + 0 ≤ _)⟩)
  dsimp only [Pt.U, Pt.locs, Pt.cells, Pt.slots] at X12 l12 y12 z12 st12 hQ12
  subst l12 y12 z12
  obtain ⟨rfl, N12q, e12⟩ := hQ12
  have N12 := Fr.app N5 N12q
  obtain ⟨_, _, ⟨T16, L16, k16, n16⟩, -, X16, ⟨Lc16, hQ16, l16, y16, z16⟩, st16⟩ := Jvm.LawKit.callS X12 hx (y := (⟨"com/example/grepo/grepo/internal/query/OperatorTakesCollectionPinLaw", "expected", "(I)Z"⟩ : MethodName)) hown (mvT hZ (hw _ (List.mem_of_getElem? (i := 17) rfl))) (mvT hZ (hw _ (List.mem_of_getElem? (i := 18) rfl))) (mvT hZ (hw _ (List.mem_of_getElem? (i := 3) rfl))) (mvT hZ (hw _ (List.mem_of_getElem? (i := 19) rfl))) (by decide) (backOf (W := 1) (r3_1 l Z a0 hw ((p1 &&& (2147483647 : Int32)) % (18 : Int32)) h0 n0 Z0 H7 H8) hZ (hw _ (List.mem_of_getElem? (i := 19) rfl)) (hw _ (List.mem_of_getElem? (i := 3) rfl)) (by decide) (by decide)) (g := (mkF m 20 #[.val (.int p1), .val (.int ((p1 &&& (2147483647 : Int32)) % (18 : Int32))), .val (.ref w6), .val (.int (0 : Int32))] [(.int ((p1 &&& (2147483647 : Int32)) % (18 : Int32))), (.int (0 : Int32))])) rfl (by rw [hml]; rfl) (argsL := [(.int ((p1 &&& (2147483647 : Int32)) % (18 : Int32)))]) (rest := [(.int (0 : Int32))]) (lenOf pd_2 rfl) rfl (by show 2 * 0 + _ ≤ _; exact Nat.le_of_eq rfl) (hb hby at_20) (fun _ _ => ⟨rfl, e12, (by decide : 0 + 0 ≤ _), (by decide : 0 + 0 ≤ _)⟩)
  dsimp only [Pt.U, Pt.locs, Pt.cells, Pt.slots] at X16 l16 y16 z16 st16 hQ16
  subst l16 y16 z16
  obtain ⟨rfl, N16q, e16⟩ := hQ16
  have N16 := Fr.app N12 N16q
  obtain ⟨fs, hr, hrun, hended, hW, hsame⟩ := X16.leave (v := some (.int (1 : Int32))) (fun h => by rw [Bd.returns] at h; cases h)
  refine ⟨_, _, pre0 _ ?_, hrun, hended, _, _, rfl, ?_, ⟨_, rfl⟩, hW, hsame.mono (by decide) (by decide)⟩
  · show Steps p.tables e below (s₁.setTop (mkF m 0 #[.val (.int p1), .unset, .unset, .unset] [])) _
    refine XS.iloadN X0.here hx rfl (hb hby at_0) rfl ?_
    show Steps p.tables e below (s₁.setTop (mkF m 1 #[.val (.int p1), .unset, .unset, .unset] [(.int p1)])) _
    refine X0.ldcInt hx hown (mvT hZ (hw _ (List.mem_of_getElem? (i := 0) rfl))) (g := (mkF m 1 #[.val (.int p1), .unset, .unset, .unset] [(.int p1)])) rfl (hb hby at_1) _ ?_
    show Steps p.tables e below (s₁.setTop (mkF m 3 #[.val (.int p1), .unset, .unset, .unset] [(.int (2147483647 : Int32)), (.int p1)])) _
    refine XS.iand X0.here hx rfl (hb hby at_3) rfl ?_
    show Steps p.tables e below (s₁.setTop (mkF m 4 #[.val (.int p1), .unset, .unset, .unset] [(.int (p1 &&& (2147483647 : Int32)))])) _
    refine XS.bipush X0.here hx rfl (hb hby at_4) ?_
    show Steps p.tables e below (s₁.setTop (mkF m 6 #[.val (.int p1), .unset, .unset, .unset] [(.int (18 : Int32)), (.int (p1 &&& (2147483647 : Int32)))])) _
    refine iremM X0 hx rfl (hb hby at_6) rfl (by decide) ?_
    show Steps p.tables e below (s₁.setTop (mkF m 7 #[.val (.int p1), .unset, .unset, .unset] [(.int ((p1 &&& (2147483647 : Int32)) % (18 : Int32)))])) _
    refine XS.istoreN X0.here hx rfl (hb hby at_7) rfl (l' := #[.val (.int p1), .val (.int ((p1 &&& (2147483647 : Int32)) % (18 : Int32))), .unset, .unset]) rfl ?_
    show Steps p.tables e below (s₁.setTop (mkF m 8 #[.val (.int p1), .val (.int ((p1 &&& (2147483647 : Int32)) % (18 : Int32))), .unset, .unset] [])) _
    refine XS.iloadN X0.here hx rfl (hb hby at_8) rfl ?_
    show Steps p.tables e below (s₁.setTop (mkF m 9 #[.val (.int p1), .val (.int ((p1 &&& (2147483647 : Int32)) % (18 : Int32))), .unset, .unset] [(.int ((p1 &&& (2147483647 : Int32)) % (18 : Int32)))])) _
    refine st5 _ ?_
    show Steps p.tables e below (T5.setTop (mkF m 12 #[.val (.int p1), .val (.int ((p1 &&& (2147483647 : Int32)) % (18 : Int32))), .unset, .unset] [(.ref w6)])) _
    refine XS.astoreN X5.here hx rfl (hb hby at_12) rfl rfl (l' := #[.val (.int p1), .val (.int ((p1 &&& (2147483647 : Int32)) % (18 : Int32))), .val (.ref w6), .unset]) rfl ?_
    show Steps p.tables e below (T5.setTop (mkF m 13 #[.val (.int p1), .val (.int ((p1 &&& (2147483647 : Int32)) % (18 : Int32))), .val (.ref w6), .unset] [])) _
    refine XS.aloadN X5.here hx rfl (hb hby at_13) rfl rfl ?_
    show Steps p.tables e below (T5.setTop (mkF m 14 #[.val (.int p1), .val (.int ((p1 &&& (2147483647 : Int32)) % (18 : Int32))), .val (.ref w6), .unset] [(.ref w6)])) _
    refine st12.trans ?_
    show Steps p.tables e below (T12.setTop (mkF m 17 #[.val (.int p1), .val (.int ((p1 &&& (2147483647 : Int32)) % (18 : Int32))), .val (.ref w6), .unset] [(.int (0 : Int32))])) _
    refine XS.istoreN X12.here hx rfl (hb hby at_17) rfl (l' := #[.val (.int p1), .val (.int ((p1 &&& (2147483647 : Int32)) % (18 : Int32))), .val (.ref w6), .val (.int (0 : Int32))]) rfl ?_
    show Steps p.tables e below (T12.setTop (mkF m 18 #[.val (.int p1), .val (.int ((p1 &&& (2147483647 : Int32)) % (18 : Int32))), .val (.ref w6), .val (.int (0 : Int32))] [])) _
    refine XS.iloadN X12.here hx rfl (hb hby at_18) rfl ?_
    show Steps p.tables e below (T12.setTop (mkF m 19 #[.val (.int p1), .val (.int ((p1 &&& (2147483647 : Int32)) % (18 : Int32))), .val (.ref w6), .val (.int (0 : Int32))] [(.int (0 : Int32))])) _
    refine XS.iloadN X12.here hx rfl (hb hby at_19) rfl ?_
    show Steps p.tables e below (T12.setTop (mkF m 20 #[.val (.int p1), .val (.int ((p1 &&& (2147483647 : Int32)) % (18 : Int32))), .val (.ref w6), .val (.int (0 : Int32))] [(.int ((p1 &&& (2147483647 : Int32)) % (18 : Int32))), (.int (0 : Int32))])) _
    refine st16 _ ?_
    show Steps p.tables e below (T16.setTop (mkF m 23 #[.val (.int p1), .val (.int ((p1 &&& (2147483647 : Int32)) % (18 : Int32))), .val (.ref w6), .val (.int (0 : Int32))] [(.int (0 : Int32)), (.int (0 : Int32))])) _
    refine XS.icmpYes X16.here hx rfl (pc0 := 23) (pc' := 28) rfl (hb hby at_23) rfl (teq (rfl : (0 : Int32) = (0 : Int32))).1 (by decide) (by decide) ?_
    show Steps p.tables e below (T16.setTop (mkF m 28 #[.val (.int p1), .val (.int ((p1 &&& (2147483647 : Int32)) % (18 : Int32))), .val (.ref w6), .val (.int (0 : Int32))] [])) _
    refine XS.iloadN X16.here hx rfl (hb hby at_28) rfl ?_
    show Steps p.tables e below (T16.setTop (mkF m 29 #[.val (.int p1), .val (.int ((p1 &&& (2147483647 : Int32)) % (18 : Int32))), .val (.ref w6), .val (.int (0 : Int32))] [(.int (0 : Int32))])) _
    refine XS.ifYes X16.here hx rfl (pc0 := 29) (pc' := 42) rfl (hb hby at_29) rfl ((if0 _ _).trans (teq (rfl : (0 : Int32) = (0 : Int32))).1) (by decide) (by decide) ?_
    show Steps p.tables e below (T16.setTop (mkF m 42 #[.val (.int p1), .val (.int ((p1 &&& (2147483647 : Int32)) % (18 : Int32))), .val (.ref w6), .val (.int (0 : Int32))] [])) _
    refine XS.iconst X16.here hx rfl (hb hby at_42) ?_
    show Steps p.tables e below (T16.setTop (mkF m 43 #[.val (.int p1), .val (.int ((p1 &&& (2147483647 : Int32)) % (18 : Int32))), .val (.ref w6), .val (.int (0 : Int32))] [(.int (1 : Int32))])) _
    exact retN X16 hx (t := .boolean) Bd.returns (by simp) (hb hby at_43) hr
  · show OQl (some (.int (1 : Int32))) n0 _ T16.heap _
    exact ⟨rfl, N16⟩
theorem d1_8 : decode method_2_code 8 = .ok (.iload_n 0, 1) := by decide +kernel
theorem d1_9 : decode method_2_code 9 = .ok (.iconst 1, 1) := by decide +kernel
theorem d1_10 : decode method_2_code 10 = .ok (.if_icmp .ne 7, 3) := by decide +kernel
theorem d1_13 : decode method_2_code 13 = .ok (.getstatic 13, 3) := by decide +kernel
theorem d1_16 : decode method_2_code 16 = .ok (.areturn, 1) := by decide +kernel
set_option maxRecDepth 65536 in
set_option maxHeartbeats 40000000 in
theorem r1_2 (l : Launch) (Z : State) (a0 : Array Value) (hw : ∀ d ∈ tables_1, d.before a0 Z = true) (p18 : Int32) (w19 : Addr) (h0 : Heap) (n0 : Nat) (Z0 : n0 ≤ h0.size) (H0 : ¬ (p18 = (0 : Int32))) (H1 : p18 = (1 : Int32)) (H2 : Sta Z h0 "com/example/grepo/grepo/internal/query/Operator" "NOT_EQUAL" "Lcom/example/grepo/grepo/internal/query/Operator;" (.ref w19)) :
    OMet l Z (⟨"com/example/grepo/grepo/internal/query/OperatorTakesCollectionPinLaw", "pick", "(I)Lcom/example/grepo/grepo/internal/query/Operator;"⟩ : MethodName) method_2_code 1 (some (.object "com/example/grepo/grepo/internal/query/Operator")) [] ({ frames := 0, cells := 0, slots := 0, locals := 0 } : Room) h0 #[(.int p18)] (OQp (some (.ref w19)) h0 n0) := by
  refine MetFree.of_bodySF (plainFor_of_name pn_com_example_grepo_grepo_internal_query_OperatorTakesCollectionPinLaw) hisR ?_
  intro p e s m args below meth c s₁ Bd hml0 hP hK
  obtain ⟨rfl, hZ, hh⟩ := hP
  have hx := Bd.exec
  have hby := Bd.bytes
  have hml : c.maxLocals = 1 := hml0
  have hown : s.vm.findClass "com/example/grepo/grepo/internal/query/OperatorTakesCollectionPinLaw" = some m.cls := findClass_of_methodNamed Bd.named
  have hnm := (name_of_methodNamed Bd.named Bd.method).1
  have X0 : Stand p l e ({ frames := 0, cells := 0, slots := 0, locals := 0 } : Room) s m #[(.int p18)] below meth c s₁ [] 0 0 := Stand.of_body Bd
  have e0 : s₁.heap = h0 := by rw [← hh, Bd.state]; rfl
  have N0 := Fr.nil n0
  have pre0 : ∀ t, Steps p.tables e below (s₁.setTop (mkF m 0 #[.val (.int p18)] [])) t → Steps p.tables e below (s₁.setTop (entryFrame m #[(.int p18)] 1)) t := fun t k => castTop (ef_1_v m p18) k
  obtain ⟨T20, X20, e20, st20⟩ := getS2 X0 hx hZ hown (host := "") (Or.inl (hw _ (List.mem_of_getElem? (i := 24) rfl))) Via.refl e0 H2 (g := (mkF m 13 #[.val (.int p18)] [])) rfl (hb hby d1_13)
  obtain ⟨fs, hr, hrun, hended, hW, hsame⟩ := X20.leave (v := some (.ref w19)) (fun h => by rw [Bd.returns] at h; cases h)
  refine ⟨_, _, pre0 _ ?_, hrun, hended, _, _, rfl, ?_, ⟨_, rfl⟩, hW, hsame.mono (by decide) (by decide)⟩
  · show Steps p.tables e below (s₁.setTop (mkF m 0 #[.val (.int p18)] [])) _
    refine XS.iloadN X0.here hx rfl (hb hby d1_0) rfl ?_
    show Steps p.tables e below (s₁.setTop (mkF m 1 #[.val (.int p18)] [(.int p18)])) _
    refine XS.ifYes X0.here hx rfl (pc0 := 1) (pc' := 8) rfl (hb hby d1_1) rfl ((if0 _ _).trans (feq H0).2) (by decide) (by decide) ?_
    show Steps p.tables e below (s₁.setTop (mkF m 8 #[.val (.int p18)] [])) _
    refine XS.iloadN X0.here hx rfl (hb hby d1_8) rfl ?_
    show Steps p.tables e below (s₁.setTop (mkF m 9 #[.val (.int p18)] [(.int p18)])) _
    refine XS.iconst X0.here hx rfl (hb hby d1_9) ?_
    show Steps p.tables e below (s₁.setTop (mkF m 10 #[.val (.int p18)] [(.int (1 : Int32)), (.int p18)])) _
    refine XS.icmpNo X0.here hx rfl (hb hby d1_10) rfl (teq H1).2 ?_
    show Steps p.tables e below (s₁.setTop (mkF m 13 #[.val (.int p18)] [])) _
    refine st20 _ ?_
    show Steps p.tables e below (T20.setTop (mkF m 16 #[.val (.int p18)] [(.ref w19)])) _
    jvm_step X20.here [X20.here.top, hx, (hb hby d1_16), X20.method', Bd.returns, Value.isRef, FieldType.isReference]
    first | (intro acts; rw [hr _ acts rfl rfl rfl]) | rw [hr _ _ rfl rfl rfl]
    exact Steps.refl _
  · show OQp (some (.ref w19)) h0 n0 _ T20.heap _
    rw [e20]
    exact ⟨rfl, N0, rfl⟩
set_option maxRecDepth 65536 in
set_option maxHeartbeats 40000000 in
theorem r0_2 (l : Launch) (Z : State) (a0 : Array Value) (hw : ∀ d ∈ tables_1, d.before a0 Z = true) (p17 : Int32) (w22 : Addr) (w29 : Addr) (w30 : Addr) (h0 : Heap) (n0 : Nat) (Z0 : n0 ≤ h0.size) (H0 : ¬ (((p17 &&& (2147483647 : Int32)) % (18 : Int32)) = (0 : Int32))) (H1 : ((p17 &&& (2147483647 : Int32)) % (18 : Int32)) = (1 : Int32)) (H2 : Sta Z h0 "com/example/grepo/grepo/internal/query/Operator" "NOT_EQUAL" "Lcom/example/grepo/grepo/internal/query/Operator;" (.ref w22)) (H3 : Sta Z h0 "com/example/grepo/grepo/internal/query/Operator" "IN" "Lcom/example/grepo/grepo/internal/query/Operator;" (.ref w29)) (H4 : w22 ≠ w29) (H5 : Sta Z h0 "com/example/grepo/grepo/internal/query/Operator" "NOT_IN" "Lcom/example/grepo/grepo/internal/query/Operator;" (.ref w30)) (H6 : w22 ≠ w30) (H7 : Exa Z h0 w22 "com/example/grepo/grepo/internal/query/Operator") (H8 : ¬ (((p17 &&& (2147483647 : Int32)) % (18 : Int32)) = (9 : Int32))) (H9 : ¬ (((p17 &&& (2147483647 : Int32)) % (18 : Int32)) = (10 : Int32))) :
    OMet l Z x code maxLocals ret tables_1 room_1 h0 #[(.int p17)] (OQl (some (.int (1 : Int32))) n0) := by
  refine MetFree.of_bodySF (plainFor_of_name pn_com_example_grepo_grepo_internal_query_OperatorTakesCollectionPinLaw) hisR ?_
  intro p e s m args below meth c s₁ Bd hml0 hP hK
  obtain ⟨rfl, hZ, hh⟩ := hP
  have hx := Bd.exec
  have hby := Bd.bytes
  have hml : c.maxLocals = 4 := hml0
  have hown : s.vm.findClass "com/example/grepo/grepo/internal/query/OperatorTakesCollectionPinLaw" = some m.cls := findClass_of_methodNamed Bd.named
  have hnm := (name_of_methodNamed Bd.named Bd.method).1
  have X0 : Stand p l e room_1 s m #[(.int p17)] below meth c s₁ [] 0 0 := Stand.of_body Bd
  have e0 : s₁.heap = h0 := by rw [← hh, Bd.state]; rfl
  have N0 := Fr.nil n0
  have pre0 : ∀ t, Steps p.tables e below (s₁.setTop (mkF m 0 #[.val (.int p17), .unset, .unset, .unset] [])) t → Steps p.tables e below (s₁.setTop (entryFrame m #[(.int p17)] maxLocals)) t := fun t k => castTop (ef_0_v m p17) k
  obtain ⟨_, _, ⟨T21, L21, k21, n21⟩, -, X21, ⟨Lc21, hQ21, l21, y21, z21⟩, st21⟩ := Jvm.LawKit.callS X0 hx (y := (⟨"com/example/grepo/grepo/internal/query/OperatorTakesCollectionPinLaw", "pick", "(I)Lcom/example/grepo/grepo/internal/query/Operator;"⟩ : MethodName)) hown (mvT hZ (hw _ (List.mem_of_getElem? (i := 1) rfl))) (mvT hZ (hw _ (List.mem_of_getElem? (i := 2) rfl))) (mvT hZ (hw _ (List.mem_of_getElem? (i := 3) rfl))) (mvT hZ (hw _ (List.mem_of_getElem? (i := 4) rfl))) (by decide) (backOf (W := 0) (r1_2 l Z a0 hw ((p17 &&& (2147483647 : Int32)) % (18 : Int32)) w22 h0 n0 Z0 H0 H1 H2) hZ (hw _ (List.mem_of_getElem? (i := 4) rfl)) (hw _ (List.mem_of_getElem? (i := 3) rfl)) (by decide) (by decide)) (g := (mkF m 9 #[.val (.int p17), .val (.int ((p17 &&& (2147483647 : Int32)) % (18 : Int32))), .unset, .unset] [(.int ((p17 &&& (2147483647 : Int32)) % (18 : Int32)))])) rfl (by rw [hml]; rfl) (argsL := [(.int ((p17 &&& (2147483647 : Int32)) % (18 : Int32)))]) (rest := []) (lenOf pd_0 rfl) rfl (by show 2 * 0 + _ ≤ _; exact Nat.le_of_eq rfl) (hb hby at_9) (fun _ _ => ⟨rfl, e0, (by decide : 0 + 0 ≤ _), (by decide : 0 + 0 ≤ _)⟩)
  dsimp only [Pt.U, Pt.locs, Pt.cells, Pt.slots] at X21 l21 y21 z21 st21 hQ21
  subst l21 y21 z21
  obtain ⟨rfl, N21q, e21⟩ := hQ21
  have N21 := Fr.app N0 N21q
  obtain ⟨cq28, kq28, q28a, q28b, q28c⟩ := isOf hZ e21 H7
  obtain ⟨_, _, ⟨T28, L28, k28, n28⟩, -, X28, ⟨Lc28, hQ28, l28, y28, z28⟩, st28⟩ := X21.virtualBack hx (y := (⟨"com/example/grepo/grepo/internal/query/Operator", "takesCollection", "()Z"⟩ : MethodName)) (z := (⟨"com/example/grepo/grepo/internal/query/Operator", "takesCollection", "()Z"⟩ : MethodName)) hown (mvT hZ (hw _ (List.mem_of_getElem? (i := 8) rfl))) (mvT hZ (hw _ (List.mem_of_getElem? (i := 9) rfl))) (notFace_of_selects (args := #[]) (mvT hZ (hw _ (List.mem_of_getElem? (i := 11) rfl)))) (mvT hZ (hw _ (List.mem_of_getElem? (i := 11) rfl))) (mvT hZ (hw _ (List.mem_of_getElem? (i := 10) rfl))) (by decide) (backOf (W := 0) (r2_1 l Z a0 hw w22 w29 w30 h0 n0 Z0 H3 H4 H5 H6) hZ (hw _ (List.mem_of_getElem? (i := 12) rfl)) (hw _ (List.mem_of_getElem? (i := 6) rfl)) (by decide) (by decide)) q28a q28c (g := (mkF m 14 #[.val (.int p17), .val (.int ((p17 &&& (2147483647 : Int32)) % (18 : Int32))), .val (.ref w22), .unset] [(.ref w22)])) rfl (by rw [hml]; rfl) (Steps.refl _) (argsL := []) (rest := []) (lenOf pd_1 rfl) rfl (by show 2 * 0 + _ ≤ _; exact Nat.le_of_eq rfl) (hb hby at_14) (fun _ _ => ⟨rfl, e21, (by decide : 0 + 0 ≤ _), (by decide : 0 + 0 ≤ _)⟩)
  dsimp only [Pt.U, Pt.locs, Pt.cells, Pt.slots] at X28 l28 y28 z28 st28 hQ28
  subst l28 y28 z28
  obtain ⟨rfl, N28q, e28⟩ := hQ28
  have N28 := Fr.app N21 N28q
  obtain ⟨_, _, ⟨T32, L32, k32, n32⟩, -, X32, ⟨Lc32, hQ32, l32, y32, z32⟩, st32⟩ := Jvm.LawKit.callS X28 hx (y := (⟨"com/example/grepo/grepo/internal/query/OperatorTakesCollectionPinLaw", "expected", "(I)Z"⟩ : MethodName)) hown (mvT hZ (hw _ (List.mem_of_getElem? (i := 17) rfl))) (mvT hZ (hw _ (List.mem_of_getElem? (i := 18) rfl))) (mvT hZ (hw _ (List.mem_of_getElem? (i := 3) rfl))) (mvT hZ (hw _ (List.mem_of_getElem? (i := 19) rfl))) (by decide) (backOf (W := 1) (r3_1 l Z a0 hw ((p17 &&& (2147483647 : Int32)) % (18 : Int32)) h0 n0 Z0 H8 H9) hZ (hw _ (List.mem_of_getElem? (i := 19) rfl)) (hw _ (List.mem_of_getElem? (i := 3) rfl)) (by decide) (by decide)) (g := (mkF m 20 #[.val (.int p17), .val (.int ((p17 &&& (2147483647 : Int32)) % (18 : Int32))), .val (.ref w22), .val (.int (0 : Int32))] [(.int ((p17 &&& (2147483647 : Int32)) % (18 : Int32))), (.int (0 : Int32))])) rfl (by rw [hml]; rfl) (argsL := [(.int ((p17 &&& (2147483647 : Int32)) % (18 : Int32)))]) (rest := [(.int (0 : Int32))]) (lenOf pd_2 rfl) rfl (by show 2 * 0 + _ ≤ _; exact Nat.le_of_eq rfl) (hb hby at_20) (fun _ _ => ⟨rfl, e28, (by decide : 0 + 0 ≤ _), (by decide : 0 + 0 ≤ _)⟩)
  dsimp only [Pt.U, Pt.locs, Pt.cells, Pt.slots] at X32 l32 y32 z32 st32 hQ32
  subst l32 y32 z32
  obtain ⟨rfl, N32q, e32⟩ := hQ32
  have N32 := Fr.app N28 N32q
  obtain ⟨fs, hr, hrun, hended, hW, hsame⟩ := X32.leave (v := some (.int (1 : Int32))) (fun h => by rw [Bd.returns] at h; cases h)
  refine ⟨_, _, pre0 _ ?_, hrun, hended, _, _, rfl, ?_, ⟨_, rfl⟩, hW, hsame.mono (by decide) (by decide)⟩
  · show Steps p.tables e below (s₁.setTop (mkF m 0 #[.val (.int p17), .unset, .unset, .unset] [])) _
    refine XS.iloadN X0.here hx rfl (hb hby at_0) rfl ?_
    show Steps p.tables e below (s₁.setTop (mkF m 1 #[.val (.int p17), .unset, .unset, .unset] [(.int p17)])) _
    refine X0.ldcInt hx hown (mvT hZ (hw _ (List.mem_of_getElem? (i := 0) rfl))) (g := (mkF m 1 #[.val (.int p17), .unset, .unset, .unset] [(.int p17)])) rfl (hb hby at_1) _ ?_
    show Steps p.tables e below (s₁.setTop (mkF m 3 #[.val (.int p17), .unset, .unset, .unset] [(.int (2147483647 : Int32)), (.int p17)])) _
    refine XS.iand X0.here hx rfl (hb hby at_3) rfl ?_
    show Steps p.tables e below (s₁.setTop (mkF m 4 #[.val (.int p17), .unset, .unset, .unset] [(.int (p17 &&& (2147483647 : Int32)))])) _
    refine XS.bipush X0.here hx rfl (hb hby at_4) ?_
    show Steps p.tables e below (s₁.setTop (mkF m 6 #[.val (.int p17), .unset, .unset, .unset] [(.int (18 : Int32)), (.int (p17 &&& (2147483647 : Int32)))])) _
    refine iremM X0 hx rfl (hb hby at_6) rfl (by decide) ?_
    show Steps p.tables e below (s₁.setTop (mkF m 7 #[.val (.int p17), .unset, .unset, .unset] [(.int ((p17 &&& (2147483647 : Int32)) % (18 : Int32)))])) _
    refine XS.istoreN X0.here hx rfl (hb hby at_7) rfl (l' := #[.val (.int p17), .val (.int ((p17 &&& (2147483647 : Int32)) % (18 : Int32))), .unset, .unset]) rfl ?_
    show Steps p.tables e below (s₁.setTop (mkF m 8 #[.val (.int p17), .val (.int ((p17 &&& (2147483647 : Int32)) % (18 : Int32))), .unset, .unset] [])) _
    refine XS.iloadN X0.here hx rfl (hb hby at_8) rfl ?_
    show Steps p.tables e below (s₁.setTop (mkF m 9 #[.val (.int p17), .val (.int ((p17 &&& (2147483647 : Int32)) % (18 : Int32))), .unset, .unset] [(.int ((p17 &&& (2147483647 : Int32)) % (18 : Int32)))])) _
    refine st21 _ ?_
    show Steps p.tables e below (T21.setTop (mkF m 12 #[.val (.int p17), .val (.int ((p17 &&& (2147483647 : Int32)) % (18 : Int32))), .unset, .unset] [(.ref w22)])) _
    refine XS.astoreN X21.here hx rfl (hb hby at_12) rfl rfl (l' := #[.val (.int p17), .val (.int ((p17 &&& (2147483647 : Int32)) % (18 : Int32))), .val (.ref w22), .unset]) rfl ?_
    show Steps p.tables e below (T21.setTop (mkF m 13 #[.val (.int p17), .val (.int ((p17 &&& (2147483647 : Int32)) % (18 : Int32))), .val (.ref w22), .unset] [])) _
    refine XS.aloadN X21.here hx rfl (hb hby at_13) rfl rfl ?_
    show Steps p.tables e below (T21.setTop (mkF m 14 #[.val (.int p17), .val (.int ((p17 &&& (2147483647 : Int32)) % (18 : Int32))), .val (.ref w22), .unset] [(.ref w22)])) _
    refine st28.trans ?_
    show Steps p.tables e below (T28.setTop (mkF m 17 #[.val (.int p17), .val (.int ((p17 &&& (2147483647 : Int32)) % (18 : Int32))), .val (.ref w22), .unset] [(.int (0 : Int32))])) _
    refine XS.istoreN X28.here hx rfl (hb hby at_17) rfl (l' := #[.val (.int p17), .val (.int ((p17 &&& (2147483647 : Int32)) % (18 : Int32))), .val (.ref w22), .val (.int (0 : Int32))]) rfl ?_
    show Steps p.tables e below (T28.setTop (mkF m 18 #[.val (.int p17), .val (.int ((p17 &&& (2147483647 : Int32)) % (18 : Int32))), .val (.ref w22), .val (.int (0 : Int32))] [])) _
    refine XS.iloadN X28.here hx rfl (hb hby at_18) rfl ?_
    show Steps p.tables e below (T28.setTop (mkF m 19 #[.val (.int p17), .val (.int ((p17 &&& (2147483647 : Int32)) % (18 : Int32))), .val (.ref w22), .val (.int (0 : Int32))] [(.int (0 : Int32))])) _
    refine XS.iloadN X28.here hx rfl (hb hby at_19) rfl ?_
    show Steps p.tables e below (T28.setTop (mkF m 20 #[.val (.int p17), .val (.int ((p17 &&& (2147483647 : Int32)) % (18 : Int32))), .val (.ref w22), .val (.int (0 : Int32))] [(.int ((p17 &&& (2147483647 : Int32)) % (18 : Int32))), (.int (0 : Int32))])) _
    refine st32 _ ?_
    show Steps p.tables e below (T32.setTop (mkF m 23 #[.val (.int p17), .val (.int ((p17 &&& (2147483647 : Int32)) % (18 : Int32))), .val (.ref w22), .val (.int (0 : Int32))] [(.int (0 : Int32)), (.int (0 : Int32))])) _
    refine XS.icmpYes X32.here hx rfl (pc0 := 23) (pc' := 28) rfl (hb hby at_23) rfl (teq (rfl : (0 : Int32) = (0 : Int32))).1 (by decide) (by decide) ?_
    show Steps p.tables e below (T32.setTop (mkF m 28 #[.val (.int p17), .val (.int ((p17 &&& (2147483647 : Int32)) % (18 : Int32))), .val (.ref w22), .val (.int (0 : Int32))] [])) _
    refine XS.iloadN X32.here hx rfl (hb hby at_28) rfl ?_
    show Steps p.tables e below (T32.setTop (mkF m 29 #[.val (.int p17), .val (.int ((p17 &&& (2147483647 : Int32)) % (18 : Int32))), .val (.ref w22), .val (.int (0 : Int32))] [(.int (0 : Int32))])) _
    refine XS.ifYes X32.here hx rfl (pc0 := 29) (pc' := 42) rfl (hb hby at_29) rfl ((if0 _ _).trans (teq (rfl : (0 : Int32) = (0 : Int32))).1) (by decide) (by decide) ?_
    show Steps p.tables e below (T32.setTop (mkF m 42 #[.val (.int p17), .val (.int ((p17 &&& (2147483647 : Int32)) % (18 : Int32))), .val (.ref w22), .val (.int (0 : Int32))] [])) _
    refine XS.iconst X32.here hx rfl (hb hby at_42) ?_
    show Steps p.tables e below (T32.setTop (mkF m 43 #[.val (.int p17), .val (.int ((p17 &&& (2147483647 : Int32)) % (18 : Int32))), .val (.ref w22), .val (.int (0 : Int32))] [(.int (1 : Int32))])) _
    exact retN X32 hx (t := .boolean) Bd.returns (by simp) (hb hby at_43) hr
  · show OQl (some (.int (1 : Int32))) n0 _ T32.heap _
    exact ⟨rfl, N32⟩
theorem d1_17 : decode method_2_code 17 = .ok (.iload_n 0, 1) := by decide +kernel
theorem d1_18 : decode method_2_code 18 = .ok (.iconst 2, 1) := by decide +kernel
theorem d1_19 : decode method_2_code 19 = .ok (.if_icmp .ne 7, 3) := by decide +kernel
theorem d1_22 : decode method_2_code 22 = .ok (.getstatic 16, 3) := by decide +kernel
theorem d1_25 : decode method_2_code 25 = .ok (.areturn, 1) := by decide +kernel
set_option maxRecDepth 65536 in
set_option maxHeartbeats 40000000 in
theorem r1_3 (l : Launch) (Z : State) (a0 : Array Value) (hw : ∀ d ∈ tables_1, d.before a0 Z = true) (p34 : Int32) (w35 : Addr) (h0 : Heap) (n0 : Nat) (Z0 : n0 ≤ h0.size) (H0 : ¬ (p34 = (0 : Int32))) (H1 : ¬ (p34 = (1 : Int32))) (H2 : p34 = (2 : Int32)) (H3 : Sta Z h0 "com/example/grepo/grepo/internal/query/Operator" "LESS_THAN" "Lcom/example/grepo/grepo/internal/query/Operator;" (.ref w35)) :
    OMet l Z (⟨"com/example/grepo/grepo/internal/query/OperatorTakesCollectionPinLaw", "pick", "(I)Lcom/example/grepo/grepo/internal/query/Operator;"⟩ : MethodName) method_2_code 1 (some (.object "com/example/grepo/grepo/internal/query/Operator")) [] ({ frames := 0, cells := 0, slots := 0, locals := 0 } : Room) h0 #[(.int p34)] (OQp (some (.ref w35)) h0 n0) := by
  refine MetFree.of_bodySF (plainFor_of_name pn_com_example_grepo_grepo_internal_query_OperatorTakesCollectionPinLaw) hisR ?_
  intro p e s m args below meth c s₁ Bd hml0 hP hK
  obtain ⟨rfl, hZ, hh⟩ := hP
  have hx := Bd.exec
  have hby := Bd.bytes
  have hml : c.maxLocals = 1 := hml0
  have hown : s.vm.findClass "com/example/grepo/grepo/internal/query/OperatorTakesCollectionPinLaw" = some m.cls := findClass_of_methodNamed Bd.named
  have hnm := (name_of_methodNamed Bd.named Bd.method).1
  have X0 : Stand p l e ({ frames := 0, cells := 0, slots := 0, locals := 0 } : Room) s m #[(.int p34)] below meth c s₁ [] 0 0 := Stand.of_body Bd
  have e0 : s₁.heap = h0 := by rw [← hh, Bd.state]; rfl
  have N0 := Fr.nil n0
  have pre0 : ∀ t, Steps p.tables e below (s₁.setTop (mkF m 0 #[.val (.int p34)] [])) t → Steps p.tables e below (s₁.setTop (entryFrame m #[(.int p34)] 1)) t := fun t k => castTop (ef_1_v m p34) k
  obtain ⟨T36, X36, e36, st36⟩ := getS2 X0 hx hZ hown (host := "") (Or.inl (hw _ (List.mem_of_getElem? (i := 22) rfl))) Via.refl e0 H3 (g := (mkF m 22 #[.val (.int p34)] [])) rfl (hb hby d1_22)
  obtain ⟨fs, hr, hrun, hended, hW, hsame⟩ := X36.leave (v := some (.ref w35)) (fun h => by rw [Bd.returns] at h; cases h)
  refine ⟨_, _, pre0 _ ?_, hrun, hended, _, _, rfl, ?_, ⟨_, rfl⟩, hW, hsame.mono (by decide) (by decide)⟩
  · show Steps p.tables e below (s₁.setTop (mkF m 0 #[.val (.int p34)] [])) _
    refine XS.iloadN X0.here hx rfl (hb hby d1_0) rfl ?_
    show Steps p.tables e below (s₁.setTop (mkF m 1 #[.val (.int p34)] [(.int p34)])) _
    refine XS.ifYes X0.here hx rfl (pc0 := 1) (pc' := 8) rfl (hb hby d1_1) rfl ((if0 _ _).trans (feq H0).2) (by decide) (by decide) ?_
    show Steps p.tables e below (s₁.setTop (mkF m 8 #[.val (.int p34)] [])) _
    refine XS.iloadN X0.here hx rfl (hb hby d1_8) rfl ?_
    show Steps p.tables e below (s₁.setTop (mkF m 9 #[.val (.int p34)] [(.int p34)])) _
    refine XS.iconst X0.here hx rfl (hb hby d1_9) ?_
    show Steps p.tables e below (s₁.setTop (mkF m 10 #[.val (.int p34)] [(.int (1 : Int32)), (.int p34)])) _
    refine XS.icmpYes X0.here hx rfl (pc0 := 10) (pc' := 17) rfl (hb hby d1_10) rfl (feq H1).2 (by decide) (by decide) ?_
    show Steps p.tables e below (s₁.setTop (mkF m 17 #[.val (.int p34)] [])) _
    refine XS.iloadN X0.here hx rfl (hb hby d1_17) rfl ?_
    show Steps p.tables e below (s₁.setTop (mkF m 18 #[.val (.int p34)] [(.int p34)])) _
    refine XS.iconst X0.here hx rfl (hb hby d1_18) ?_
    show Steps p.tables e below (s₁.setTop (mkF m 19 #[.val (.int p34)] [(.int (2 : Int32)), (.int p34)])) _
    refine XS.icmpNo X0.here hx rfl (hb hby d1_19) rfl (teq H2).2 ?_
    show Steps p.tables e below (s₁.setTop (mkF m 22 #[.val (.int p34)] [])) _
    refine st36 _ ?_
    show Steps p.tables e below (T36.setTop (mkF m 25 #[.val (.int p34)] [(.ref w35)])) _
    jvm_step X36.here [X36.here.top, hx, (hb hby d1_25), X36.method', Bd.returns, Value.isRef, FieldType.isReference]
    first | (intro acts; rw [hr _ acts rfl rfl rfl]) | rw [hr _ _ rfl rfl rfl]
    exact Steps.refl _
  · show OQp (some (.ref w35)) h0 n0 _ T36.heap _
    rw [e36]
    exact ⟨rfl, N0, rfl⟩
set_option maxRecDepth 65536 in
set_option maxHeartbeats 40000000 in
theorem r0_3 (l : Launch) (Z : State) (a0 : Array Value) (hw : ∀ d ∈ tables_1, d.before a0 Z = true) (p33 : Int32) (w38 : Addr) (w45 : Addr) (w46 : Addr) (h0 : Heap) (n0 : Nat) (Z0 : n0 ≤ h0.size) (H0 : ¬ (((p33 &&& (2147483647 : Int32)) % (18 : Int32)) = (0 : Int32))) (H1 : ¬ (((p33 &&& (2147483647 : Int32)) % (18 : Int32)) = (1 : Int32))) (H2 : ((p33 &&& (2147483647 : Int32)) % (18 : Int32)) = (2 : Int32)) (H3 : Sta Z h0 "com/example/grepo/grepo/internal/query/Operator" "LESS_THAN" "Lcom/example/grepo/grepo/internal/query/Operator;" (.ref w38)) (H4 : Sta Z h0 "com/example/grepo/grepo/internal/query/Operator" "IN" "Lcom/example/grepo/grepo/internal/query/Operator;" (.ref w45)) (H5 : w38 ≠ w45) (H6 : Sta Z h0 "com/example/grepo/grepo/internal/query/Operator" "NOT_IN" "Lcom/example/grepo/grepo/internal/query/Operator;" (.ref w46)) (H7 : w38 ≠ w46) (H8 : Exa Z h0 w38 "com/example/grepo/grepo/internal/query/Operator") (H9 : ¬ (((p33 &&& (2147483647 : Int32)) % (18 : Int32)) = (9 : Int32))) (H10 : ¬ (((p33 &&& (2147483647 : Int32)) % (18 : Int32)) = (10 : Int32))) :
    OMet l Z x code maxLocals ret tables_1 room_1 h0 #[(.int p33)] (OQl (some (.int (1 : Int32))) n0) := by
  refine MetFree.of_bodySF (plainFor_of_name pn_com_example_grepo_grepo_internal_query_OperatorTakesCollectionPinLaw) hisR ?_
  intro p e s m args below meth c s₁ Bd hml0 hP hK
  obtain ⟨rfl, hZ, hh⟩ := hP
  have hx := Bd.exec
  have hby := Bd.bytes
  have hml : c.maxLocals = 4 := hml0
  have hown : s.vm.findClass "com/example/grepo/grepo/internal/query/OperatorTakesCollectionPinLaw" = some m.cls := findClass_of_methodNamed Bd.named
  have hnm := (name_of_methodNamed Bd.named Bd.method).1
  have X0 : Stand p l e room_1 s m #[(.int p33)] below meth c s₁ [] 0 0 := Stand.of_body Bd
  have e0 : s₁.heap = h0 := by rw [← hh, Bd.state]; rfl
  have N0 := Fr.nil n0
  have pre0 : ∀ t, Steps p.tables e below (s₁.setTop (mkF m 0 #[.val (.int p33), .unset, .unset, .unset] [])) t → Steps p.tables e below (s₁.setTop (entryFrame m #[(.int p33)] maxLocals)) t := fun t k => castTop (ef_0_v m p33) k
  obtain ⟨_, _, ⟨T37, L37, k37, n37⟩, -, X37, ⟨Lc37, hQ37, l37, y37, z37⟩, st37⟩ := Jvm.LawKit.callS X0 hx (y := (⟨"com/example/grepo/grepo/internal/query/OperatorTakesCollectionPinLaw", "pick", "(I)Lcom/example/grepo/grepo/internal/query/Operator;"⟩ : MethodName)) hown (mvT hZ (hw _ (List.mem_of_getElem? (i := 1) rfl))) (mvT hZ (hw _ (List.mem_of_getElem? (i := 2) rfl))) (mvT hZ (hw _ (List.mem_of_getElem? (i := 3) rfl))) (mvT hZ (hw _ (List.mem_of_getElem? (i := 4) rfl))) (by decide) (backOf (W := 0) (r1_3 l Z a0 hw ((p33 &&& (2147483647 : Int32)) % (18 : Int32)) w38 h0 n0 Z0 H0 H1 H2 H3) hZ (hw _ (List.mem_of_getElem? (i := 4) rfl)) (hw _ (List.mem_of_getElem? (i := 3) rfl)) (by decide) (by decide)) (g := (mkF m 9 #[.val (.int p33), .val (.int ((p33 &&& (2147483647 : Int32)) % (18 : Int32))), .unset, .unset] [(.int ((p33 &&& (2147483647 : Int32)) % (18 : Int32)))])) rfl (by rw [hml]; rfl) (argsL := [(.int ((p33 &&& (2147483647 : Int32)) % (18 : Int32)))]) (rest := []) (lenOf pd_0 rfl) rfl (by show 2 * 0 + _ ≤ _; exact Nat.le_of_eq rfl) (hb hby at_9) (fun _ _ => ⟨rfl, e0, (by decide : 0 + 0 ≤ _), (by decide : 0 + 0 ≤ _)⟩)
  dsimp only [Pt.U, Pt.locs, Pt.cells, Pt.slots] at X37 l37 y37 z37 st37 hQ37
  subst l37 y37 z37
  obtain ⟨rfl, N37q, e37⟩ := hQ37
  have N37 := Fr.app N0 N37q
  obtain ⟨cq44, kq44, q44a, q44b, q44c⟩ := isOf hZ e37 H8
  obtain ⟨_, _, ⟨T44, L44, k44, n44⟩, -, X44, ⟨Lc44, hQ44, l44, y44, z44⟩, st44⟩ := X37.virtualBack hx (y := (⟨"com/example/grepo/grepo/internal/query/Operator", "takesCollection", "()Z"⟩ : MethodName)) (z := (⟨"com/example/grepo/grepo/internal/query/Operator", "takesCollection", "()Z"⟩ : MethodName)) hown (mvT hZ (hw _ (List.mem_of_getElem? (i := 8) rfl))) (mvT hZ (hw _ (List.mem_of_getElem? (i := 9) rfl))) (notFace_of_selects (args := #[]) (mvT hZ (hw _ (List.mem_of_getElem? (i := 11) rfl)))) (mvT hZ (hw _ (List.mem_of_getElem? (i := 11) rfl))) (mvT hZ (hw _ (List.mem_of_getElem? (i := 10) rfl))) (by decide) (backOf (W := 0) (r2_1 l Z a0 hw w38 w45 w46 h0 n0 Z0 H4 H5 H6 H7) hZ (hw _ (List.mem_of_getElem? (i := 12) rfl)) (hw _ (List.mem_of_getElem? (i := 6) rfl)) (by decide) (by decide)) q44a q44c (g := (mkF m 14 #[.val (.int p33), .val (.int ((p33 &&& (2147483647 : Int32)) % (18 : Int32))), .val (.ref w38), .unset] [(.ref w38)])) rfl (by rw [hml]; rfl) (Steps.refl _) (argsL := []) (rest := []) (lenOf pd_1 rfl) rfl (by show 2 * 0 + _ ≤ _; exact Nat.le_of_eq rfl) (hb hby at_14) (fun _ _ => ⟨rfl, e37, (by decide : 0 + 0 ≤ _), (by decide : 0 + 0 ≤ _)⟩)
  dsimp only [Pt.U, Pt.locs, Pt.cells, Pt.slots] at X44 l44 y44 z44 st44 hQ44
  subst l44 y44 z44
  obtain ⟨rfl, N44q, e44⟩ := hQ44
  have N44 := Fr.app N37 N44q
  obtain ⟨_, _, ⟨T48, L48, k48, n48⟩, -, X48, ⟨Lc48, hQ48, l48, y48, z48⟩, st48⟩ := Jvm.LawKit.callS X44 hx (y := (⟨"com/example/grepo/grepo/internal/query/OperatorTakesCollectionPinLaw", "expected", "(I)Z"⟩ : MethodName)) hown (mvT hZ (hw _ (List.mem_of_getElem? (i := 17) rfl))) (mvT hZ (hw _ (List.mem_of_getElem? (i := 18) rfl))) (mvT hZ (hw _ (List.mem_of_getElem? (i := 3) rfl))) (mvT hZ (hw _ (List.mem_of_getElem? (i := 19) rfl))) (by decide) (backOf (W := 1) (r3_1 l Z a0 hw ((p33 &&& (2147483647 : Int32)) % (18 : Int32)) h0 n0 Z0 H9 H10) hZ (hw _ (List.mem_of_getElem? (i := 19) rfl)) (hw _ (List.mem_of_getElem? (i := 3) rfl)) (by decide) (by decide)) (g := (mkF m 20 #[.val (.int p33), .val (.int ((p33 &&& (2147483647 : Int32)) % (18 : Int32))), .val (.ref w38), .val (.int (0 : Int32))] [(.int ((p33 &&& (2147483647 : Int32)) % (18 : Int32))), (.int (0 : Int32))])) rfl (by rw [hml]; rfl) (argsL := [(.int ((p33 &&& (2147483647 : Int32)) % (18 : Int32)))]) (rest := [(.int (0 : Int32))]) (lenOf pd_2 rfl) rfl (by show 2 * 0 + _ ≤ _; exact Nat.le_of_eq rfl) (hb hby at_20) (fun _ _ => ⟨rfl, e44, (by decide : 0 + 0 ≤ _), (by decide : 0 + 0 ≤ _)⟩)
  dsimp only [Pt.U, Pt.locs, Pt.cells, Pt.slots] at X48 l48 y48 z48 st48 hQ48
  subst l48 y48 z48
  obtain ⟨rfl, N48q, e48⟩ := hQ48
  have N48 := Fr.app N44 N48q
  obtain ⟨fs, hr, hrun, hended, hW, hsame⟩ := X48.leave (v := some (.int (1 : Int32))) (fun h => by rw [Bd.returns] at h; cases h)
  refine ⟨_, _, pre0 _ ?_, hrun, hended, _, _, rfl, ?_, ⟨_, rfl⟩, hW, hsame.mono (by decide) (by decide)⟩
  · show Steps p.tables e below (s₁.setTop (mkF m 0 #[.val (.int p33), .unset, .unset, .unset] [])) _
    refine XS.iloadN X0.here hx rfl (hb hby at_0) rfl ?_
    show Steps p.tables e below (s₁.setTop (mkF m 1 #[.val (.int p33), .unset, .unset, .unset] [(.int p33)])) _
    refine X0.ldcInt hx hown (mvT hZ (hw _ (List.mem_of_getElem? (i := 0) rfl))) (g := (mkF m 1 #[.val (.int p33), .unset, .unset, .unset] [(.int p33)])) rfl (hb hby at_1) _ ?_
    show Steps p.tables e below (s₁.setTop (mkF m 3 #[.val (.int p33), .unset, .unset, .unset] [(.int (2147483647 : Int32)), (.int p33)])) _
    refine XS.iand X0.here hx rfl (hb hby at_3) rfl ?_
    show Steps p.tables e below (s₁.setTop (mkF m 4 #[.val (.int p33), .unset, .unset, .unset] [(.int (p33 &&& (2147483647 : Int32)))])) _
    refine XS.bipush X0.here hx rfl (hb hby at_4) ?_
    show Steps p.tables e below (s₁.setTop (mkF m 6 #[.val (.int p33), .unset, .unset, .unset] [(.int (18 : Int32)), (.int (p33 &&& (2147483647 : Int32)))])) _
    refine iremM X0 hx rfl (hb hby at_6) rfl (by decide) ?_
    show Steps p.tables e below (s₁.setTop (mkF m 7 #[.val (.int p33), .unset, .unset, .unset] [(.int ((p33 &&& (2147483647 : Int32)) % (18 : Int32)))])) _
    refine XS.istoreN X0.here hx rfl (hb hby at_7) rfl (l' := #[.val (.int p33), .val (.int ((p33 &&& (2147483647 : Int32)) % (18 : Int32))), .unset, .unset]) rfl ?_
    show Steps p.tables e below (s₁.setTop (mkF m 8 #[.val (.int p33), .val (.int ((p33 &&& (2147483647 : Int32)) % (18 : Int32))), .unset, .unset] [])) _
    refine XS.iloadN X0.here hx rfl (hb hby at_8) rfl ?_
    show Steps p.tables e below (s₁.setTop (mkF m 9 #[.val (.int p33), .val (.int ((p33 &&& (2147483647 : Int32)) % (18 : Int32))), .unset, .unset] [(.int ((p33 &&& (2147483647 : Int32)) % (18 : Int32)))])) _
    refine st37 _ ?_
    show Steps p.tables e below (T37.setTop (mkF m 12 #[.val (.int p33), .val (.int ((p33 &&& (2147483647 : Int32)) % (18 : Int32))), .unset, .unset] [(.ref w38)])) _
    refine XS.astoreN X37.here hx rfl (hb hby at_12) rfl rfl (l' := #[.val (.int p33), .val (.int ((p33 &&& (2147483647 : Int32)) % (18 : Int32))), .val (.ref w38), .unset]) rfl ?_
    show Steps p.tables e below (T37.setTop (mkF m 13 #[.val (.int p33), .val (.int ((p33 &&& (2147483647 : Int32)) % (18 : Int32))), .val (.ref w38), .unset] [])) _
    refine XS.aloadN X37.here hx rfl (hb hby at_13) rfl rfl ?_
    show Steps p.tables e below (T37.setTop (mkF m 14 #[.val (.int p33), .val (.int ((p33 &&& (2147483647 : Int32)) % (18 : Int32))), .val (.ref w38), .unset] [(.ref w38)])) _
    refine st44.trans ?_
    show Steps p.tables e below (T44.setTop (mkF m 17 #[.val (.int p33), .val (.int ((p33 &&& (2147483647 : Int32)) % (18 : Int32))), .val (.ref w38), .unset] [(.int (0 : Int32))])) _
    refine XS.istoreN X44.here hx rfl (hb hby at_17) rfl (l' := #[.val (.int p33), .val (.int ((p33 &&& (2147483647 : Int32)) % (18 : Int32))), .val (.ref w38), .val (.int (0 : Int32))]) rfl ?_
    show Steps p.tables e below (T44.setTop (mkF m 18 #[.val (.int p33), .val (.int ((p33 &&& (2147483647 : Int32)) % (18 : Int32))), .val (.ref w38), .val (.int (0 : Int32))] [])) _
    refine XS.iloadN X44.here hx rfl (hb hby at_18) rfl ?_
    show Steps p.tables e below (T44.setTop (mkF m 19 #[.val (.int p33), .val (.int ((p33 &&& (2147483647 : Int32)) % (18 : Int32))), .val (.ref w38), .val (.int (0 : Int32))] [(.int (0 : Int32))])) _
    refine XS.iloadN X44.here hx rfl (hb hby at_19) rfl ?_
    show Steps p.tables e below (T44.setTop (mkF m 20 #[.val (.int p33), .val (.int ((p33 &&& (2147483647 : Int32)) % (18 : Int32))), .val (.ref w38), .val (.int (0 : Int32))] [(.int ((p33 &&& (2147483647 : Int32)) % (18 : Int32))), (.int (0 : Int32))])) _
    refine st48 _ ?_
    show Steps p.tables e below (T48.setTop (mkF m 23 #[.val (.int p33), .val (.int ((p33 &&& (2147483647 : Int32)) % (18 : Int32))), .val (.ref w38), .val (.int (0 : Int32))] [(.int (0 : Int32)), (.int (0 : Int32))])) _
    refine XS.icmpYes X48.here hx rfl (pc0 := 23) (pc' := 28) rfl (hb hby at_23) rfl (teq (rfl : (0 : Int32) = (0 : Int32))).1 (by decide) (by decide) ?_
    show Steps p.tables e below (T48.setTop (mkF m 28 #[.val (.int p33), .val (.int ((p33 &&& (2147483647 : Int32)) % (18 : Int32))), .val (.ref w38), .val (.int (0 : Int32))] [])) _
    refine XS.iloadN X48.here hx rfl (hb hby at_28) rfl ?_
    show Steps p.tables e below (T48.setTop (mkF m 29 #[.val (.int p33), .val (.int ((p33 &&& (2147483647 : Int32)) % (18 : Int32))), .val (.ref w38), .val (.int (0 : Int32))] [(.int (0 : Int32))])) _
    refine XS.ifYes X48.here hx rfl (pc0 := 29) (pc' := 42) rfl (hb hby at_29) rfl ((if0 _ _).trans (teq (rfl : (0 : Int32) = (0 : Int32))).1) (by decide) (by decide) ?_
    show Steps p.tables e below (T48.setTop (mkF m 42 #[.val (.int p33), .val (.int ((p33 &&& (2147483647 : Int32)) % (18 : Int32))), .val (.ref w38), .val (.int (0 : Int32))] [])) _
    refine XS.iconst X48.here hx rfl (hb hby at_42) ?_
    show Steps p.tables e below (T48.setTop (mkF m 43 #[.val (.int p33), .val (.int ((p33 &&& (2147483647 : Int32)) % (18 : Int32))), .val (.ref w38), .val (.int (0 : Int32))] [(.int (1 : Int32))])) _
    exact retN X48 hx (t := .boolean) Bd.returns (by simp) (hb hby at_43) hr
  · show OQl (some (.int (1 : Int32))) n0 _ T48.heap _
    exact ⟨rfl, N48⟩
theorem d1_26 : decode method_2_code 26 = .ok (.iload_n 0, 1) := by decide +kernel
theorem d1_27 : decode method_2_code 27 = .ok (.iconst 3, 1) := by decide +kernel
theorem d1_28 : decode method_2_code 28 = .ok (.if_icmp .ne 7, 3) := by decide +kernel
theorem d1_31 : decode method_2_code 31 = .ok (.getstatic 19, 3) := by decide +kernel
theorem d1_34 : decode method_2_code 34 = .ok (.areturn, 1) := by decide +kernel
set_option maxRecDepth 65536 in
set_option maxHeartbeats 40000000 in
theorem r1_4 (l : Launch) (Z : State) (a0 : Array Value) (hw : ∀ d ∈ tables_1, d.before a0 Z = true) (p50 : Int32) (w51 : Addr) (h0 : Heap) (n0 : Nat) (Z0 : n0 ≤ h0.size) (H0 : ¬ (p50 = (0 : Int32))) (H1 : ¬ (p50 = (1 : Int32))) (H2 : ¬ (p50 = (2 : Int32))) (H3 : p50 = (3 : Int32)) (H4 : Sta Z h0 "com/example/grepo/grepo/internal/query/Operator" "LESS_THAN_EQUAL" "Lcom/example/grepo/grepo/internal/query/Operator;" (.ref w51)) :
    OMet l Z (⟨"com/example/grepo/grepo/internal/query/OperatorTakesCollectionPinLaw", "pick", "(I)Lcom/example/grepo/grepo/internal/query/Operator;"⟩ : MethodName) method_2_code 1 (some (.object "com/example/grepo/grepo/internal/query/Operator")) [] ({ frames := 0, cells := 0, slots := 0, locals := 0 } : Room) h0 #[(.int p50)] (OQp (some (.ref w51)) h0 n0) := by
  refine MetFree.of_bodySF (plainFor_of_name pn_com_example_grepo_grepo_internal_query_OperatorTakesCollectionPinLaw) hisR ?_
  intro p e s m args below meth c s₁ Bd hml0 hP hK
  obtain ⟨rfl, hZ, hh⟩ := hP
  have hx := Bd.exec
  have hby := Bd.bytes
  have hml : c.maxLocals = 1 := hml0
  have hown : s.vm.findClass "com/example/grepo/grepo/internal/query/OperatorTakesCollectionPinLaw" = some m.cls := findClass_of_methodNamed Bd.named
  have hnm := (name_of_methodNamed Bd.named Bd.method).1
  have X0 : Stand p l e ({ frames := 0, cells := 0, slots := 0, locals := 0 } : Room) s m #[(.int p50)] below meth c s₁ [] 0 0 := Stand.of_body Bd
  have e0 : s₁.heap = h0 := by rw [← hh, Bd.state]; rfl
  have N0 := Fr.nil n0
  have pre0 : ∀ t, Steps p.tables e below (s₁.setTop (mkF m 0 #[.val (.int p50)] [])) t → Steps p.tables e below (s₁.setTop (entryFrame m #[(.int p50)] 1)) t := fun t k => castTop (ef_1_v m p50) k
  obtain ⟨T52, X52, e52, st52⟩ := getS2 X0 hx hZ hown (host := "") (Or.inl (hw _ (List.mem_of_getElem? (i := 20) rfl))) Via.refl e0 H4 (g := (mkF m 31 #[.val (.int p50)] [])) rfl (hb hby d1_31)
  obtain ⟨fs, hr, hrun, hended, hW, hsame⟩ := X52.leave (v := some (.ref w51)) (fun h => by rw [Bd.returns] at h; cases h)
  refine ⟨_, _, pre0 _ ?_, hrun, hended, _, _, rfl, ?_, ⟨_, rfl⟩, hW, hsame.mono (by decide) (by decide)⟩
  · show Steps p.tables e below (s₁.setTop (mkF m 0 #[.val (.int p50)] [])) _
    refine XS.iloadN X0.here hx rfl (hb hby d1_0) rfl ?_
    show Steps p.tables e below (s₁.setTop (mkF m 1 #[.val (.int p50)] [(.int p50)])) _
    refine XS.ifYes X0.here hx rfl (pc0 := 1) (pc' := 8) rfl (hb hby d1_1) rfl ((if0 _ _).trans (feq H0).2) (by decide) (by decide) ?_
    show Steps p.tables e below (s₁.setTop (mkF m 8 #[.val (.int p50)] [])) _
    refine XS.iloadN X0.here hx rfl (hb hby d1_8) rfl ?_
    show Steps p.tables e below (s₁.setTop (mkF m 9 #[.val (.int p50)] [(.int p50)])) _
    refine XS.iconst X0.here hx rfl (hb hby d1_9) ?_
    show Steps p.tables e below (s₁.setTop (mkF m 10 #[.val (.int p50)] [(.int (1 : Int32)), (.int p50)])) _
    refine XS.icmpYes X0.here hx rfl (pc0 := 10) (pc' := 17) rfl (hb hby d1_10) rfl (feq H1).2 (by decide) (by decide) ?_
    show Steps p.tables e below (s₁.setTop (mkF m 17 #[.val (.int p50)] [])) _
    refine XS.iloadN X0.here hx rfl (hb hby d1_17) rfl ?_
    show Steps p.tables e below (s₁.setTop (mkF m 18 #[.val (.int p50)] [(.int p50)])) _
    refine XS.iconst X0.here hx rfl (hb hby d1_18) ?_
    show Steps p.tables e below (s₁.setTop (mkF m 19 #[.val (.int p50)] [(.int (2 : Int32)), (.int p50)])) _
    refine XS.icmpYes X0.here hx rfl (pc0 := 19) (pc' := 26) rfl (hb hby d1_19) rfl (feq H2).2 (by decide) (by decide) ?_
    show Steps p.tables e below (s₁.setTop (mkF m 26 #[.val (.int p50)] [])) _
    refine XS.iloadN X0.here hx rfl (hb hby d1_26) rfl ?_
    show Steps p.tables e below (s₁.setTop (mkF m 27 #[.val (.int p50)] [(.int p50)])) _
    refine XS.iconst X0.here hx rfl (hb hby d1_27) ?_
    show Steps p.tables e below (s₁.setTop (mkF m 28 #[.val (.int p50)] [(.int (3 : Int32)), (.int p50)])) _
    refine XS.icmpNo X0.here hx rfl (hb hby d1_28) rfl (teq H3).2 ?_
    show Steps p.tables e below (s₁.setTop (mkF m 31 #[.val (.int p50)] [])) _
    refine st52 _ ?_
    show Steps p.tables e below (T52.setTop (mkF m 34 #[.val (.int p50)] [(.ref w51)])) _
    jvm_step X52.here [X52.here.top, hx, (hb hby d1_34), X52.method', Bd.returns, Value.isRef, FieldType.isReference]
    first | (intro acts; rw [hr _ acts rfl rfl rfl]) | rw [hr _ _ rfl rfl rfl]
    exact Steps.refl _
  · show OQp (some (.ref w51)) h0 n0 _ T52.heap _
    rw [e52]
    exact ⟨rfl, N0, rfl⟩
set_option maxRecDepth 65536 in
set_option maxHeartbeats 40000000 in
theorem r0_4 (l : Launch) (Z : State) (a0 : Array Value) (hw : ∀ d ∈ tables_1, d.before a0 Z = true) (p49 : Int32) (w54 : Addr) (w61 : Addr) (w62 : Addr) (h0 : Heap) (n0 : Nat) (Z0 : n0 ≤ h0.size) (H0 : ¬ (((p49 &&& (2147483647 : Int32)) % (18 : Int32)) = (0 : Int32))) (H1 : ¬ (((p49 &&& (2147483647 : Int32)) % (18 : Int32)) = (1 : Int32))) (H2 : ¬ (((p49 &&& (2147483647 : Int32)) % (18 : Int32)) = (2 : Int32))) (H3 : ((p49 &&& (2147483647 : Int32)) % (18 : Int32)) = (3 : Int32)) (H4 : Sta Z h0 "com/example/grepo/grepo/internal/query/Operator" "LESS_THAN_EQUAL" "Lcom/example/grepo/grepo/internal/query/Operator;" (.ref w54)) (H5 : Sta Z h0 "com/example/grepo/grepo/internal/query/Operator" "IN" "Lcom/example/grepo/grepo/internal/query/Operator;" (.ref w61)) (H6 : w54 ≠ w61) (H7 : Sta Z h0 "com/example/grepo/grepo/internal/query/Operator" "NOT_IN" "Lcom/example/grepo/grepo/internal/query/Operator;" (.ref w62)) (H8 : w54 ≠ w62) (H9 : Exa Z h0 w54 "com/example/grepo/grepo/internal/query/Operator") (H10 : ¬ (((p49 &&& (2147483647 : Int32)) % (18 : Int32)) = (9 : Int32))) (H11 : ¬ (((p49 &&& (2147483647 : Int32)) % (18 : Int32)) = (10 : Int32))) :
    OMet l Z x code maxLocals ret tables_1 room_1 h0 #[(.int p49)] (OQl (some (.int (1 : Int32))) n0) := by
  refine MetFree.of_bodySF (plainFor_of_name pn_com_example_grepo_grepo_internal_query_OperatorTakesCollectionPinLaw) hisR ?_
  intro p e s m args below meth c s₁ Bd hml0 hP hK
  obtain ⟨rfl, hZ, hh⟩ := hP
  have hx := Bd.exec
  have hby := Bd.bytes
  have hml : c.maxLocals = 4 := hml0
  have hown : s.vm.findClass "com/example/grepo/grepo/internal/query/OperatorTakesCollectionPinLaw" = some m.cls := findClass_of_methodNamed Bd.named
  have hnm := (name_of_methodNamed Bd.named Bd.method).1
  have X0 : Stand p l e room_1 s m #[(.int p49)] below meth c s₁ [] 0 0 := Stand.of_body Bd
  have e0 : s₁.heap = h0 := by rw [← hh, Bd.state]; rfl
  have N0 := Fr.nil n0
  have pre0 : ∀ t, Steps p.tables e below (s₁.setTop (mkF m 0 #[.val (.int p49), .unset, .unset, .unset] [])) t → Steps p.tables e below (s₁.setTop (entryFrame m #[(.int p49)] maxLocals)) t := fun t k => castTop (ef_0_v m p49) k
  obtain ⟨_, _, ⟨T53, L53, k53, n53⟩, -, X53, ⟨Lc53, hQ53, l53, y53, z53⟩, st53⟩ := Jvm.LawKit.callS X0 hx (y := (⟨"com/example/grepo/grepo/internal/query/OperatorTakesCollectionPinLaw", "pick", "(I)Lcom/example/grepo/grepo/internal/query/Operator;"⟩ : MethodName)) hown (mvT hZ (hw _ (List.mem_of_getElem? (i := 1) rfl))) (mvT hZ (hw _ (List.mem_of_getElem? (i := 2) rfl))) (mvT hZ (hw _ (List.mem_of_getElem? (i := 3) rfl))) (mvT hZ (hw _ (List.mem_of_getElem? (i := 4) rfl))) (by decide) (backOf (W := 0) (r1_4 l Z a0 hw ((p49 &&& (2147483647 : Int32)) % (18 : Int32)) w54 h0 n0 Z0 H0 H1 H2 H3 H4) hZ (hw _ (List.mem_of_getElem? (i := 4) rfl)) (hw _ (List.mem_of_getElem? (i := 3) rfl)) (by decide) (by decide)) (g := (mkF m 9 #[.val (.int p49), .val (.int ((p49 &&& (2147483647 : Int32)) % (18 : Int32))), .unset, .unset] [(.int ((p49 &&& (2147483647 : Int32)) % (18 : Int32)))])) rfl (by rw [hml]; rfl) (argsL := [(.int ((p49 &&& (2147483647 : Int32)) % (18 : Int32)))]) (rest := []) (lenOf pd_0 rfl) rfl (by show 2 * 0 + _ ≤ _; exact Nat.le_of_eq rfl) (hb hby at_9) (fun _ _ => ⟨rfl, e0, (by decide : 0 + 0 ≤ _), (by decide : 0 + 0 ≤ _)⟩)
  dsimp only [Pt.U, Pt.locs, Pt.cells, Pt.slots] at X53 l53 y53 z53 st53 hQ53
  subst l53 y53 z53
  obtain ⟨rfl, N53q, e53⟩ := hQ53
  have N53 := Fr.app N0 N53q
  obtain ⟨cq60, kq60, q60a, q60b, q60c⟩ := isOf hZ e53 H9
  obtain ⟨_, _, ⟨T60, L60, k60, n60⟩, -, X60, ⟨Lc60, hQ60, l60, y60, z60⟩, st60⟩ := X53.virtualBack hx (y := (⟨"com/example/grepo/grepo/internal/query/Operator", "takesCollection", "()Z"⟩ : MethodName)) (z := (⟨"com/example/grepo/grepo/internal/query/Operator", "takesCollection", "()Z"⟩ : MethodName)) hown (mvT hZ (hw _ (List.mem_of_getElem? (i := 8) rfl))) (mvT hZ (hw _ (List.mem_of_getElem? (i := 9) rfl))) (notFace_of_selects (args := #[]) (mvT hZ (hw _ (List.mem_of_getElem? (i := 11) rfl)))) (mvT hZ (hw _ (List.mem_of_getElem? (i := 11) rfl))) (mvT hZ (hw _ (List.mem_of_getElem? (i := 10) rfl))) (by decide) (backOf (W := 0) (r2_1 l Z a0 hw w54 w61 w62 h0 n0 Z0 H5 H6 H7 H8) hZ (hw _ (List.mem_of_getElem? (i := 12) rfl)) (hw _ (List.mem_of_getElem? (i := 6) rfl)) (by decide) (by decide)) q60a q60c (g := (mkF m 14 #[.val (.int p49), .val (.int ((p49 &&& (2147483647 : Int32)) % (18 : Int32))), .val (.ref w54), .unset] [(.ref w54)])) rfl (by rw [hml]; rfl) (Steps.refl _) (argsL := []) (rest := []) (lenOf pd_1 rfl) rfl (by show 2 * 0 + _ ≤ _; exact Nat.le_of_eq rfl) (hb hby at_14) (fun _ _ => ⟨rfl, e53, (by decide : 0 + 0 ≤ _), (by decide : 0 + 0 ≤ _)⟩)
  dsimp only [Pt.U, Pt.locs, Pt.cells, Pt.slots] at X60 l60 y60 z60 st60 hQ60
  subst l60 y60 z60
  obtain ⟨rfl, N60q, e60⟩ := hQ60
  have N60 := Fr.app N53 N60q
  obtain ⟨_, _, ⟨T64, L64, k64, n64⟩, -, X64, ⟨Lc64, hQ64, l64, y64, z64⟩, st64⟩ := Jvm.LawKit.callS X60 hx (y := (⟨"com/example/grepo/grepo/internal/query/OperatorTakesCollectionPinLaw", "expected", "(I)Z"⟩ : MethodName)) hown (mvT hZ (hw _ (List.mem_of_getElem? (i := 17) rfl))) (mvT hZ (hw _ (List.mem_of_getElem? (i := 18) rfl))) (mvT hZ (hw _ (List.mem_of_getElem? (i := 3) rfl))) (mvT hZ (hw _ (List.mem_of_getElem? (i := 19) rfl))) (by decide) (backOf (W := 1) (r3_1 l Z a0 hw ((p49 &&& (2147483647 : Int32)) % (18 : Int32)) h0 n0 Z0 H10 H11) hZ (hw _ (List.mem_of_getElem? (i := 19) rfl)) (hw _ (List.mem_of_getElem? (i := 3) rfl)) (by decide) (by decide)) (g := (mkF m 20 #[.val (.int p49), .val (.int ((p49 &&& (2147483647 : Int32)) % (18 : Int32))), .val (.ref w54), .val (.int (0 : Int32))] [(.int ((p49 &&& (2147483647 : Int32)) % (18 : Int32))), (.int (0 : Int32))])) rfl (by rw [hml]; rfl) (argsL := [(.int ((p49 &&& (2147483647 : Int32)) % (18 : Int32)))]) (rest := [(.int (0 : Int32))]) (lenOf pd_2 rfl) rfl (by show 2 * 0 + _ ≤ _; exact Nat.le_of_eq rfl) (hb hby at_20) (fun _ _ => ⟨rfl, e60, (by decide : 0 + 0 ≤ _), (by decide : 0 + 0 ≤ _)⟩)
  dsimp only [Pt.U, Pt.locs, Pt.cells, Pt.slots] at X64 l64 y64 z64 st64 hQ64
  subst l64 y64 z64
  obtain ⟨rfl, N64q, e64⟩ := hQ64
  have N64 := Fr.app N60 N64q
  obtain ⟨fs, hr, hrun, hended, hW, hsame⟩ := X64.leave (v := some (.int (1 : Int32))) (fun h => by rw [Bd.returns] at h; cases h)
  refine ⟨_, _, pre0 _ ?_, hrun, hended, _, _, rfl, ?_, ⟨_, rfl⟩, hW, hsame.mono (by decide) (by decide)⟩
  · show Steps p.tables e below (s₁.setTop (mkF m 0 #[.val (.int p49), .unset, .unset, .unset] [])) _
    refine XS.iloadN X0.here hx rfl (hb hby at_0) rfl ?_
    show Steps p.tables e below (s₁.setTop (mkF m 1 #[.val (.int p49), .unset, .unset, .unset] [(.int p49)])) _
    refine X0.ldcInt hx hown (mvT hZ (hw _ (List.mem_of_getElem? (i := 0) rfl))) (g := (mkF m 1 #[.val (.int p49), .unset, .unset, .unset] [(.int p49)])) rfl (hb hby at_1) _ ?_
    show Steps p.tables e below (s₁.setTop (mkF m 3 #[.val (.int p49), .unset, .unset, .unset] [(.int (2147483647 : Int32)), (.int p49)])) _
    refine XS.iand X0.here hx rfl (hb hby at_3) rfl ?_
    show Steps p.tables e below (s₁.setTop (mkF m 4 #[.val (.int p49), .unset, .unset, .unset] [(.int (p49 &&& (2147483647 : Int32)))])) _
    refine XS.bipush X0.here hx rfl (hb hby at_4) ?_
    show Steps p.tables e below (s₁.setTop (mkF m 6 #[.val (.int p49), .unset, .unset, .unset] [(.int (18 : Int32)), (.int (p49 &&& (2147483647 : Int32)))])) _
    refine iremM X0 hx rfl (hb hby at_6) rfl (by decide) ?_
    show Steps p.tables e below (s₁.setTop (mkF m 7 #[.val (.int p49), .unset, .unset, .unset] [(.int ((p49 &&& (2147483647 : Int32)) % (18 : Int32)))])) _
    refine XS.istoreN X0.here hx rfl (hb hby at_7) rfl (l' := #[.val (.int p49), .val (.int ((p49 &&& (2147483647 : Int32)) % (18 : Int32))), .unset, .unset]) rfl ?_
    show Steps p.tables e below (s₁.setTop (mkF m 8 #[.val (.int p49), .val (.int ((p49 &&& (2147483647 : Int32)) % (18 : Int32))), .unset, .unset] [])) _
    refine XS.iloadN X0.here hx rfl (hb hby at_8) rfl ?_
    show Steps p.tables e below (s₁.setTop (mkF m 9 #[.val (.int p49), .val (.int ((p49 &&& (2147483647 : Int32)) % (18 : Int32))), .unset, .unset] [(.int ((p49 &&& (2147483647 : Int32)) % (18 : Int32)))])) _
    refine st53 _ ?_
    show Steps p.tables e below (T53.setTop (mkF m 12 #[.val (.int p49), .val (.int ((p49 &&& (2147483647 : Int32)) % (18 : Int32))), .unset, .unset] [(.ref w54)])) _
    refine XS.astoreN X53.here hx rfl (hb hby at_12) rfl rfl (l' := #[.val (.int p49), .val (.int ((p49 &&& (2147483647 : Int32)) % (18 : Int32))), .val (.ref w54), .unset]) rfl ?_
    show Steps p.tables e below (T53.setTop (mkF m 13 #[.val (.int p49), .val (.int ((p49 &&& (2147483647 : Int32)) % (18 : Int32))), .val (.ref w54), .unset] [])) _
    refine XS.aloadN X53.here hx rfl (hb hby at_13) rfl rfl ?_
    show Steps p.tables e below (T53.setTop (mkF m 14 #[.val (.int p49), .val (.int ((p49 &&& (2147483647 : Int32)) % (18 : Int32))), .val (.ref w54), .unset] [(.ref w54)])) _
    refine st60.trans ?_
    show Steps p.tables e below (T60.setTop (mkF m 17 #[.val (.int p49), .val (.int ((p49 &&& (2147483647 : Int32)) % (18 : Int32))), .val (.ref w54), .unset] [(.int (0 : Int32))])) _
    refine XS.istoreN X60.here hx rfl (hb hby at_17) rfl (l' := #[.val (.int p49), .val (.int ((p49 &&& (2147483647 : Int32)) % (18 : Int32))), .val (.ref w54), .val (.int (0 : Int32))]) rfl ?_
    show Steps p.tables e below (T60.setTop (mkF m 18 #[.val (.int p49), .val (.int ((p49 &&& (2147483647 : Int32)) % (18 : Int32))), .val (.ref w54), .val (.int (0 : Int32))] [])) _
    refine XS.iloadN X60.here hx rfl (hb hby at_18) rfl ?_
    show Steps p.tables e below (T60.setTop (mkF m 19 #[.val (.int p49), .val (.int ((p49 &&& (2147483647 : Int32)) % (18 : Int32))), .val (.ref w54), .val (.int (0 : Int32))] [(.int (0 : Int32))])) _
    refine XS.iloadN X60.here hx rfl (hb hby at_19) rfl ?_
    show Steps p.tables e below (T60.setTop (mkF m 20 #[.val (.int p49), .val (.int ((p49 &&& (2147483647 : Int32)) % (18 : Int32))), .val (.ref w54), .val (.int (0 : Int32))] [(.int ((p49 &&& (2147483647 : Int32)) % (18 : Int32))), (.int (0 : Int32))])) _
    refine st64 _ ?_
    show Steps p.tables e below (T64.setTop (mkF m 23 #[.val (.int p49), .val (.int ((p49 &&& (2147483647 : Int32)) % (18 : Int32))), .val (.ref w54), .val (.int (0 : Int32))] [(.int (0 : Int32)), (.int (0 : Int32))])) _
    refine XS.icmpYes X64.here hx rfl (pc0 := 23) (pc' := 28) rfl (hb hby at_23) rfl (teq (rfl : (0 : Int32) = (0 : Int32))).1 (by decide) (by decide) ?_
    show Steps p.tables e below (T64.setTop (mkF m 28 #[.val (.int p49), .val (.int ((p49 &&& (2147483647 : Int32)) % (18 : Int32))), .val (.ref w54), .val (.int (0 : Int32))] [])) _
    refine XS.iloadN X64.here hx rfl (hb hby at_28) rfl ?_
    show Steps p.tables e below (T64.setTop (mkF m 29 #[.val (.int p49), .val (.int ((p49 &&& (2147483647 : Int32)) % (18 : Int32))), .val (.ref w54), .val (.int (0 : Int32))] [(.int (0 : Int32))])) _
    refine XS.ifYes X64.here hx rfl (pc0 := 29) (pc' := 42) rfl (hb hby at_29) rfl ((if0 _ _).trans (teq (rfl : (0 : Int32) = (0 : Int32))).1) (by decide) (by decide) ?_
    show Steps p.tables e below (T64.setTop (mkF m 42 #[.val (.int p49), .val (.int ((p49 &&& (2147483647 : Int32)) % (18 : Int32))), .val (.ref w54), .val (.int (0 : Int32))] [])) _
    refine XS.iconst X64.here hx rfl (hb hby at_42) ?_
    show Steps p.tables e below (T64.setTop (mkF m 43 #[.val (.int p49), .val (.int ((p49 &&& (2147483647 : Int32)) % (18 : Int32))), .val (.ref w54), .val (.int (0 : Int32))] [(.int (1 : Int32))])) _
    exact retN X64 hx (t := .boolean) Bd.returns (by simp) (hb hby at_43) hr
  · show OQl (some (.int (1 : Int32))) n0 _ T64.heap _
    exact ⟨rfl, N64⟩
theorem d1_35 : decode method_2_code 35 = .ok (.iload_n 0, 1) := by decide +kernel
theorem d1_36 : decode method_2_code 36 = .ok (.iconst 4, 1) := by decide +kernel
theorem d1_37 : decode method_2_code 37 = .ok (.if_icmp .ne 7, 3) := by decide +kernel
theorem d1_40 : decode method_2_code 40 = .ok (.getstatic 22, 3) := by decide +kernel
theorem d1_43 : decode method_2_code 43 = .ok (.areturn, 1) := by decide +kernel
set_option maxRecDepth 65536 in
set_option maxHeartbeats 40000000 in
theorem r1_5 (l : Launch) (Z : State) (a0 : Array Value) (hw : ∀ d ∈ tables_1, d.before a0 Z = true) (p66 : Int32) (w67 : Addr) (h0 : Heap) (n0 : Nat) (Z0 : n0 ≤ h0.size) (H0 : ¬ (p66 = (0 : Int32))) (H1 : ¬ (p66 = (1 : Int32))) (H2 : ¬ (p66 = (2 : Int32))) (H3 : ¬ (p66 = (3 : Int32))) (H4 : p66 = (4 : Int32)) (H5 : Sta Z h0 "com/example/grepo/grepo/internal/query/Operator" "GREATER_THAN" "Lcom/example/grepo/grepo/internal/query/Operator;" (.ref w67)) :
    OMet l Z (⟨"com/example/grepo/grepo/internal/query/OperatorTakesCollectionPinLaw", "pick", "(I)Lcom/example/grepo/grepo/internal/query/Operator;"⟩ : MethodName) method_2_code 1 (some (.object "com/example/grepo/grepo/internal/query/Operator")) [] ({ frames := 0, cells := 0, slots := 0, locals := 0 } : Room) h0 #[(.int p66)] (OQp (some (.ref w67)) h0 n0) := by
  refine MetFree.of_bodySF (plainFor_of_name pn_com_example_grepo_grepo_internal_query_OperatorTakesCollectionPinLaw) hisR ?_
  intro p e s m args below meth c s₁ Bd hml0 hP hK
  obtain ⟨rfl, hZ, hh⟩ := hP
  have hx := Bd.exec
  have hby := Bd.bytes
  have hml : c.maxLocals = 1 := hml0
  have hown : s.vm.findClass "com/example/grepo/grepo/internal/query/OperatorTakesCollectionPinLaw" = some m.cls := findClass_of_methodNamed Bd.named
  have hnm := (name_of_methodNamed Bd.named Bd.method).1
  have X0 : Stand p l e ({ frames := 0, cells := 0, slots := 0, locals := 0 } : Room) s m #[(.int p66)] below meth c s₁ [] 0 0 := Stand.of_body Bd
  have e0 : s₁.heap = h0 := by rw [← hh, Bd.state]; rfl
  have N0 := Fr.nil n0
  have pre0 : ∀ t, Steps p.tables e below (s₁.setTop (mkF m 0 #[.val (.int p66)] [])) t → Steps p.tables e below (s₁.setTop (entryFrame m #[(.int p66)] 1)) t := fun t k => castTop (ef_1_v m p66) k
  obtain ⟨T68, X68, e68, st68⟩ := getS2 X0 hx hZ hown (host := "") (Or.inl (hw _ (List.mem_of_getElem? (i := 30) rfl))) Via.refl e0 H5 (g := (mkF m 40 #[.val (.int p66)] [])) rfl (hb hby d1_40)
  obtain ⟨fs, hr, hrun, hended, hW, hsame⟩ := X68.leave (v := some (.ref w67)) (fun h => by rw [Bd.returns] at h; cases h)
  refine ⟨_, _, pre0 _ ?_, hrun, hended, _, _, rfl, ?_, ⟨_, rfl⟩, hW, hsame.mono (by decide) (by decide)⟩
  · show Steps p.tables e below (s₁.setTop (mkF m 0 #[.val (.int p66)] [])) _
    refine XS.iloadN X0.here hx rfl (hb hby d1_0) rfl ?_
    show Steps p.tables e below (s₁.setTop (mkF m 1 #[.val (.int p66)] [(.int p66)])) _
    refine XS.ifYes X0.here hx rfl (pc0 := 1) (pc' := 8) rfl (hb hby d1_1) rfl ((if0 _ _).trans (feq H0).2) (by decide) (by decide) ?_
    show Steps p.tables e below (s₁.setTop (mkF m 8 #[.val (.int p66)] [])) _
    refine XS.iloadN X0.here hx rfl (hb hby d1_8) rfl ?_
    show Steps p.tables e below (s₁.setTop (mkF m 9 #[.val (.int p66)] [(.int p66)])) _
    refine XS.iconst X0.here hx rfl (hb hby d1_9) ?_
    show Steps p.tables e below (s₁.setTop (mkF m 10 #[.val (.int p66)] [(.int (1 : Int32)), (.int p66)])) _
    refine XS.icmpYes X0.here hx rfl (pc0 := 10) (pc' := 17) rfl (hb hby d1_10) rfl (feq H1).2 (by decide) (by decide) ?_
    show Steps p.tables e below (s₁.setTop (mkF m 17 #[.val (.int p66)] [])) _
    refine XS.iloadN X0.here hx rfl (hb hby d1_17) rfl ?_
    show Steps p.tables e below (s₁.setTop (mkF m 18 #[.val (.int p66)] [(.int p66)])) _
    refine XS.iconst X0.here hx rfl (hb hby d1_18) ?_
    show Steps p.tables e below (s₁.setTop (mkF m 19 #[.val (.int p66)] [(.int (2 : Int32)), (.int p66)])) _
    refine XS.icmpYes X0.here hx rfl (pc0 := 19) (pc' := 26) rfl (hb hby d1_19) rfl (feq H2).2 (by decide) (by decide) ?_
    show Steps p.tables e below (s₁.setTop (mkF m 26 #[.val (.int p66)] [])) _
    refine XS.iloadN X0.here hx rfl (hb hby d1_26) rfl ?_
    show Steps p.tables e below (s₁.setTop (mkF m 27 #[.val (.int p66)] [(.int p66)])) _
    refine XS.iconst X0.here hx rfl (hb hby d1_27) ?_
    show Steps p.tables e below (s₁.setTop (mkF m 28 #[.val (.int p66)] [(.int (3 : Int32)), (.int p66)])) _
    refine XS.icmpYes X0.here hx rfl (pc0 := 28) (pc' := 35) rfl (hb hby d1_28) rfl (feq H3).2 (by decide) (by decide) ?_
    show Steps p.tables e below (s₁.setTop (mkF m 35 #[.val (.int p66)] [])) _
    refine XS.iloadN X0.here hx rfl (hb hby d1_35) rfl ?_
    show Steps p.tables e below (s₁.setTop (mkF m 36 #[.val (.int p66)] [(.int p66)])) _
    refine XS.iconst X0.here hx rfl (hb hby d1_36) ?_
    show Steps p.tables e below (s₁.setTop (mkF m 37 #[.val (.int p66)] [(.int (4 : Int32)), (.int p66)])) _
    refine XS.icmpNo X0.here hx rfl (hb hby d1_37) rfl (teq H4).2 ?_
    show Steps p.tables e below (s₁.setTop (mkF m 40 #[.val (.int p66)] [])) _
    refine st68 _ ?_
    show Steps p.tables e below (T68.setTop (mkF m 43 #[.val (.int p66)] [(.ref w67)])) _
    jvm_step X68.here [X68.here.top, hx, (hb hby d1_43), X68.method', Bd.returns, Value.isRef, FieldType.isReference]
    first | (intro acts; rw [hr _ acts rfl rfl rfl]) | rw [hr _ _ rfl rfl rfl]
    exact Steps.refl _
  · show OQp (some (.ref w67)) h0 n0 _ T68.heap _
    rw [e68]
    exact ⟨rfl, N0, rfl⟩
set_option maxRecDepth 65536 in
set_option maxHeartbeats 40000000 in
theorem r0_5 (l : Launch) (Z : State) (a0 : Array Value) (hw : ∀ d ∈ tables_1, d.before a0 Z = true) (p65 : Int32) (w70 : Addr) (w77 : Addr) (w78 : Addr) (h0 : Heap) (n0 : Nat) (Z0 : n0 ≤ h0.size) (H0 : ¬ (((p65 &&& (2147483647 : Int32)) % (18 : Int32)) = (0 : Int32))) (H1 : ¬ (((p65 &&& (2147483647 : Int32)) % (18 : Int32)) = (1 : Int32))) (H2 : ¬ (((p65 &&& (2147483647 : Int32)) % (18 : Int32)) = (2 : Int32))) (H3 : ¬ (((p65 &&& (2147483647 : Int32)) % (18 : Int32)) = (3 : Int32))) (H4 : ((p65 &&& (2147483647 : Int32)) % (18 : Int32)) = (4 : Int32)) (H5 : Sta Z h0 "com/example/grepo/grepo/internal/query/Operator" "GREATER_THAN" "Lcom/example/grepo/grepo/internal/query/Operator;" (.ref w70)) (H6 : Sta Z h0 "com/example/grepo/grepo/internal/query/Operator" "IN" "Lcom/example/grepo/grepo/internal/query/Operator;" (.ref w77)) (H7 : w70 ≠ w77) (H8 : Sta Z h0 "com/example/grepo/grepo/internal/query/Operator" "NOT_IN" "Lcom/example/grepo/grepo/internal/query/Operator;" (.ref w78)) (H9 : w70 ≠ w78) (H10 : Exa Z h0 w70 "com/example/grepo/grepo/internal/query/Operator") (H11 : ¬ (((p65 &&& (2147483647 : Int32)) % (18 : Int32)) = (9 : Int32))) (H12 : ¬ (((p65 &&& (2147483647 : Int32)) % (18 : Int32)) = (10 : Int32))) :
    OMet l Z x code maxLocals ret tables_1 room_1 h0 #[(.int p65)] (OQl (some (.int (1 : Int32))) n0) := by
  refine MetFree.of_bodySF (plainFor_of_name pn_com_example_grepo_grepo_internal_query_OperatorTakesCollectionPinLaw) hisR ?_
  intro p e s m args below meth c s₁ Bd hml0 hP hK
  obtain ⟨rfl, hZ, hh⟩ := hP
  have hx := Bd.exec
  have hby := Bd.bytes
  have hml : c.maxLocals = 4 := hml0
  have hown : s.vm.findClass "com/example/grepo/grepo/internal/query/OperatorTakesCollectionPinLaw" = some m.cls := findClass_of_methodNamed Bd.named
  have hnm := (name_of_methodNamed Bd.named Bd.method).1
  have X0 : Stand p l e room_1 s m #[(.int p65)] below meth c s₁ [] 0 0 := Stand.of_body Bd
  have e0 : s₁.heap = h0 := by rw [← hh, Bd.state]; rfl
  have N0 := Fr.nil n0
  have pre0 : ∀ t, Steps p.tables e below (s₁.setTop (mkF m 0 #[.val (.int p65), .unset, .unset, .unset] [])) t → Steps p.tables e below (s₁.setTop (entryFrame m #[(.int p65)] maxLocals)) t := fun t k => castTop (ef_0_v m p65) k
  obtain ⟨_, _, ⟨T69, L69, k69, n69⟩, -, X69, ⟨Lc69, hQ69, l69, y69, z69⟩, st69⟩ := Jvm.LawKit.callS X0 hx (y := (⟨"com/example/grepo/grepo/internal/query/OperatorTakesCollectionPinLaw", "pick", "(I)Lcom/example/grepo/grepo/internal/query/Operator;"⟩ : MethodName)) hown (mvT hZ (hw _ (List.mem_of_getElem? (i := 1) rfl))) (mvT hZ (hw _ (List.mem_of_getElem? (i := 2) rfl))) (mvT hZ (hw _ (List.mem_of_getElem? (i := 3) rfl))) (mvT hZ (hw _ (List.mem_of_getElem? (i := 4) rfl))) (by decide) (backOf (W := 0) (r1_5 l Z a0 hw ((p65 &&& (2147483647 : Int32)) % (18 : Int32)) w70 h0 n0 Z0 H0 H1 H2 H3 H4 H5) hZ (hw _ (List.mem_of_getElem? (i := 4) rfl)) (hw _ (List.mem_of_getElem? (i := 3) rfl)) (by decide) (by decide)) (g := (mkF m 9 #[.val (.int p65), .val (.int ((p65 &&& (2147483647 : Int32)) % (18 : Int32))), .unset, .unset] [(.int ((p65 &&& (2147483647 : Int32)) % (18 : Int32)))])) rfl (by rw [hml]; rfl) (argsL := [(.int ((p65 &&& (2147483647 : Int32)) % (18 : Int32)))]) (rest := []) (lenOf pd_0 rfl) rfl (by show 2 * 0 + _ ≤ _; exact Nat.le_of_eq rfl) (hb hby at_9) (fun _ _ => ⟨rfl, e0, (by decide : 0 + 0 ≤ _), (by decide : 0 + 0 ≤ _)⟩)
  dsimp only [Pt.U, Pt.locs, Pt.cells, Pt.slots] at X69 l69 y69 z69 st69 hQ69
  subst l69 y69 z69
  obtain ⟨rfl, N69q, e69⟩ := hQ69
  have N69 := Fr.app N0 N69q
  obtain ⟨cq76, kq76, q76a, q76b, q76c⟩ := isOf hZ e69 H10
  obtain ⟨_, _, ⟨T76, L76, k76, n76⟩, -, X76, ⟨Lc76, hQ76, l76, y76, z76⟩, st76⟩ := X69.virtualBack hx (y := (⟨"com/example/grepo/grepo/internal/query/Operator", "takesCollection", "()Z"⟩ : MethodName)) (z := (⟨"com/example/grepo/grepo/internal/query/Operator", "takesCollection", "()Z"⟩ : MethodName)) hown (mvT hZ (hw _ (List.mem_of_getElem? (i := 8) rfl))) (mvT hZ (hw _ (List.mem_of_getElem? (i := 9) rfl))) (notFace_of_selects (args := #[]) (mvT hZ (hw _ (List.mem_of_getElem? (i := 11) rfl)))) (mvT hZ (hw _ (List.mem_of_getElem? (i := 11) rfl))) (mvT hZ (hw _ (List.mem_of_getElem? (i := 10) rfl))) (by decide) (backOf (W := 0) (r2_1 l Z a0 hw w70 w77 w78 h0 n0 Z0 H6 H7 H8 H9) hZ (hw _ (List.mem_of_getElem? (i := 12) rfl)) (hw _ (List.mem_of_getElem? (i := 6) rfl)) (by decide) (by decide)) q76a q76c (g := (mkF m 14 #[.val (.int p65), .val (.int ((p65 &&& (2147483647 : Int32)) % (18 : Int32))), .val (.ref w70), .unset] [(.ref w70)])) rfl (by rw [hml]; rfl) (Steps.refl _) (argsL := []) (rest := []) (lenOf pd_1 rfl) rfl (by show 2 * 0 + _ ≤ _; exact Nat.le_of_eq rfl) (hb hby at_14) (fun _ _ => ⟨rfl, e69, (by decide : 0 + 0 ≤ _), (by decide : 0 + 0 ≤ _)⟩)
  dsimp only [Pt.U, Pt.locs, Pt.cells, Pt.slots] at X76 l76 y76 z76 st76 hQ76
  subst l76 y76 z76
  obtain ⟨rfl, N76q, e76⟩ := hQ76
  have N76 := Fr.app N69 N76q
  obtain ⟨_, _, ⟨T80, L80, k80, n80⟩, -, X80, ⟨Lc80, hQ80, l80, y80, z80⟩, st80⟩ := Jvm.LawKit.callS X76 hx (y := (⟨"com/example/grepo/grepo/internal/query/OperatorTakesCollectionPinLaw", "expected", "(I)Z"⟩ : MethodName)) hown (mvT hZ (hw _ (List.mem_of_getElem? (i := 17) rfl))) (mvT hZ (hw _ (List.mem_of_getElem? (i := 18) rfl))) (mvT hZ (hw _ (List.mem_of_getElem? (i := 3) rfl))) (mvT hZ (hw _ (List.mem_of_getElem? (i := 19) rfl))) (by decide) (backOf (W := 1) (r3_1 l Z a0 hw ((p65 &&& (2147483647 : Int32)) % (18 : Int32)) h0 n0 Z0 H11 H12) hZ (hw _ (List.mem_of_getElem? (i := 19) rfl)) (hw _ (List.mem_of_getElem? (i := 3) rfl)) (by decide) (by decide)) (g := (mkF m 20 #[.val (.int p65), .val (.int ((p65 &&& (2147483647 : Int32)) % (18 : Int32))), .val (.ref w70), .val (.int (0 : Int32))] [(.int ((p65 &&& (2147483647 : Int32)) % (18 : Int32))), (.int (0 : Int32))])) rfl (by rw [hml]; rfl) (argsL := [(.int ((p65 &&& (2147483647 : Int32)) % (18 : Int32)))]) (rest := [(.int (0 : Int32))]) (lenOf pd_2 rfl) rfl (by show 2 * 0 + _ ≤ _; exact Nat.le_of_eq rfl) (hb hby at_20) (fun _ _ => ⟨rfl, e76, (by decide : 0 + 0 ≤ _), (by decide : 0 + 0 ≤ _)⟩)
  dsimp only [Pt.U, Pt.locs, Pt.cells, Pt.slots] at X80 l80 y80 z80 st80 hQ80
  subst l80 y80 z80
  obtain ⟨rfl, N80q, e80⟩ := hQ80
  have N80 := Fr.app N76 N80q
  obtain ⟨fs, hr, hrun, hended, hW, hsame⟩ := X80.leave (v := some (.int (1 : Int32))) (fun h => by rw [Bd.returns] at h; cases h)
  refine ⟨_, _, pre0 _ ?_, hrun, hended, _, _, rfl, ?_, ⟨_, rfl⟩, hW, hsame.mono (by decide) (by decide)⟩
  · show Steps p.tables e below (s₁.setTop (mkF m 0 #[.val (.int p65), .unset, .unset, .unset] [])) _
    refine XS.iloadN X0.here hx rfl (hb hby at_0) rfl ?_
    show Steps p.tables e below (s₁.setTop (mkF m 1 #[.val (.int p65), .unset, .unset, .unset] [(.int p65)])) _
    refine X0.ldcInt hx hown (mvT hZ (hw _ (List.mem_of_getElem? (i := 0) rfl))) (g := (mkF m 1 #[.val (.int p65), .unset, .unset, .unset] [(.int p65)])) rfl (hb hby at_1) _ ?_
    show Steps p.tables e below (s₁.setTop (mkF m 3 #[.val (.int p65), .unset, .unset, .unset] [(.int (2147483647 : Int32)), (.int p65)])) _
    refine XS.iand X0.here hx rfl (hb hby at_3) rfl ?_
    show Steps p.tables e below (s₁.setTop (mkF m 4 #[.val (.int p65), .unset, .unset, .unset] [(.int (p65 &&& (2147483647 : Int32)))])) _
    refine XS.bipush X0.here hx rfl (hb hby at_4) ?_
    show Steps p.tables e below (s₁.setTop (mkF m 6 #[.val (.int p65), .unset, .unset, .unset] [(.int (18 : Int32)), (.int (p65 &&& (2147483647 : Int32)))])) _
    refine iremM X0 hx rfl (hb hby at_6) rfl (by decide) ?_
    show Steps p.tables e below (s₁.setTop (mkF m 7 #[.val (.int p65), .unset, .unset, .unset] [(.int ((p65 &&& (2147483647 : Int32)) % (18 : Int32)))])) _
    refine XS.istoreN X0.here hx rfl (hb hby at_7) rfl (l' := #[.val (.int p65), .val (.int ((p65 &&& (2147483647 : Int32)) % (18 : Int32))), .unset, .unset]) rfl ?_
    show Steps p.tables e below (s₁.setTop (mkF m 8 #[.val (.int p65), .val (.int ((p65 &&& (2147483647 : Int32)) % (18 : Int32))), .unset, .unset] [])) _
    refine XS.iloadN X0.here hx rfl (hb hby at_8) rfl ?_
    show Steps p.tables e below (s₁.setTop (mkF m 9 #[.val (.int p65), .val (.int ((p65 &&& (2147483647 : Int32)) % (18 : Int32))), .unset, .unset] [(.int ((p65 &&& (2147483647 : Int32)) % (18 : Int32)))])) _
    refine st69 _ ?_
    show Steps p.tables e below (T69.setTop (mkF m 12 #[.val (.int p65), .val (.int ((p65 &&& (2147483647 : Int32)) % (18 : Int32))), .unset, .unset] [(.ref w70)])) _
    refine XS.astoreN X69.here hx rfl (hb hby at_12) rfl rfl (l' := #[.val (.int p65), .val (.int ((p65 &&& (2147483647 : Int32)) % (18 : Int32))), .val (.ref w70), .unset]) rfl ?_
    show Steps p.tables e below (T69.setTop (mkF m 13 #[.val (.int p65), .val (.int ((p65 &&& (2147483647 : Int32)) % (18 : Int32))), .val (.ref w70), .unset] [])) _
    refine XS.aloadN X69.here hx rfl (hb hby at_13) rfl rfl ?_
    show Steps p.tables e below (T69.setTop (mkF m 14 #[.val (.int p65), .val (.int ((p65 &&& (2147483647 : Int32)) % (18 : Int32))), .val (.ref w70), .unset] [(.ref w70)])) _
    refine st76.trans ?_
    show Steps p.tables e below (T76.setTop (mkF m 17 #[.val (.int p65), .val (.int ((p65 &&& (2147483647 : Int32)) % (18 : Int32))), .val (.ref w70), .unset] [(.int (0 : Int32))])) _
    refine XS.istoreN X76.here hx rfl (hb hby at_17) rfl (l' := #[.val (.int p65), .val (.int ((p65 &&& (2147483647 : Int32)) % (18 : Int32))), .val (.ref w70), .val (.int (0 : Int32))]) rfl ?_
    show Steps p.tables e below (T76.setTop (mkF m 18 #[.val (.int p65), .val (.int ((p65 &&& (2147483647 : Int32)) % (18 : Int32))), .val (.ref w70), .val (.int (0 : Int32))] [])) _
    refine XS.iloadN X76.here hx rfl (hb hby at_18) rfl ?_
    show Steps p.tables e below (T76.setTop (mkF m 19 #[.val (.int p65), .val (.int ((p65 &&& (2147483647 : Int32)) % (18 : Int32))), .val (.ref w70), .val (.int (0 : Int32))] [(.int (0 : Int32))])) _
    refine XS.iloadN X76.here hx rfl (hb hby at_19) rfl ?_
    show Steps p.tables e below (T76.setTop (mkF m 20 #[.val (.int p65), .val (.int ((p65 &&& (2147483647 : Int32)) % (18 : Int32))), .val (.ref w70), .val (.int (0 : Int32))] [(.int ((p65 &&& (2147483647 : Int32)) % (18 : Int32))), (.int (0 : Int32))])) _
    refine st80 _ ?_
    show Steps p.tables e below (T80.setTop (mkF m 23 #[.val (.int p65), .val (.int ((p65 &&& (2147483647 : Int32)) % (18 : Int32))), .val (.ref w70), .val (.int (0 : Int32))] [(.int (0 : Int32)), (.int (0 : Int32))])) _
    refine XS.icmpYes X80.here hx rfl (pc0 := 23) (pc' := 28) rfl (hb hby at_23) rfl (teq (rfl : (0 : Int32) = (0 : Int32))).1 (by decide) (by decide) ?_
    show Steps p.tables e below (T80.setTop (mkF m 28 #[.val (.int p65), .val (.int ((p65 &&& (2147483647 : Int32)) % (18 : Int32))), .val (.ref w70), .val (.int (0 : Int32))] [])) _
    refine XS.iloadN X80.here hx rfl (hb hby at_28) rfl ?_
    show Steps p.tables e below (T80.setTop (mkF m 29 #[.val (.int p65), .val (.int ((p65 &&& (2147483647 : Int32)) % (18 : Int32))), .val (.ref w70), .val (.int (0 : Int32))] [(.int (0 : Int32))])) _
    refine XS.ifYes X80.here hx rfl (pc0 := 29) (pc' := 42) rfl (hb hby at_29) rfl ((if0 _ _).trans (teq (rfl : (0 : Int32) = (0 : Int32))).1) (by decide) (by decide) ?_
    show Steps p.tables e below (T80.setTop (mkF m 42 #[.val (.int p65), .val (.int ((p65 &&& (2147483647 : Int32)) % (18 : Int32))), .val (.ref w70), .val (.int (0 : Int32))] [])) _
    refine XS.iconst X80.here hx rfl (hb hby at_42) ?_
    show Steps p.tables e below (T80.setTop (mkF m 43 #[.val (.int p65), .val (.int ((p65 &&& (2147483647 : Int32)) % (18 : Int32))), .val (.ref w70), .val (.int (0 : Int32))] [(.int (1 : Int32))])) _
    exact retN X80 hx (t := .boolean) Bd.returns (by simp) (hb hby at_43) hr
  · show OQl (some (.int (1 : Int32))) n0 _ T80.heap _
    exact ⟨rfl, N80⟩
theorem d1_44 : decode method_2_code 44 = .ok (.iload_n 0, 1) := by decide +kernel
theorem d1_45 : decode method_2_code 45 = .ok (.iconst 5, 1) := by decide +kernel
theorem d1_46 : decode method_2_code 46 = .ok (.if_icmp .ne 7, 3) := by decide +kernel
theorem d1_49 : decode method_2_code 49 = .ok (.getstatic 25, 3) := by decide +kernel
theorem d1_52 : decode method_2_code 52 = .ok (.areturn, 1) := by decide +kernel
set_option maxRecDepth 65536 in
set_option maxHeartbeats 40000000 in
theorem r1_6 (l : Launch) (Z : State) (a0 : Array Value) (hw : ∀ d ∈ tables_1, d.before a0 Z = true) (p82 : Int32) (w83 : Addr) (h0 : Heap) (n0 : Nat) (Z0 : n0 ≤ h0.size) (H0 : ¬ (p82 = (0 : Int32))) (H1 : ¬ (p82 = (1 : Int32))) (H2 : ¬ (p82 = (2 : Int32))) (H3 : ¬ (p82 = (3 : Int32))) (H4 : ¬ (p82 = (4 : Int32))) (H5 : p82 = (5 : Int32)) (H6 : Sta Z h0 "com/example/grepo/grepo/internal/query/Operator" "GREATER_THAN_EQUAL" "Lcom/example/grepo/grepo/internal/query/Operator;" (.ref w83)) :
    OMet l Z (⟨"com/example/grepo/grepo/internal/query/OperatorTakesCollectionPinLaw", "pick", "(I)Lcom/example/grepo/grepo/internal/query/Operator;"⟩ : MethodName) method_2_code 1 (some (.object "com/example/grepo/grepo/internal/query/Operator")) [] ({ frames := 0, cells := 0, slots := 0, locals := 0 } : Room) h0 #[(.int p82)] (OQp (some (.ref w83)) h0 n0) := by
  refine MetFree.of_bodySF (plainFor_of_name pn_com_example_grepo_grepo_internal_query_OperatorTakesCollectionPinLaw) hisR ?_
  intro p e s m args below meth c s₁ Bd hml0 hP hK
  obtain ⟨rfl, hZ, hh⟩ := hP
  have hx := Bd.exec
  have hby := Bd.bytes
  have hml : c.maxLocals = 1 := hml0
  have hown : s.vm.findClass "com/example/grepo/grepo/internal/query/OperatorTakesCollectionPinLaw" = some m.cls := findClass_of_methodNamed Bd.named
  have hnm := (name_of_methodNamed Bd.named Bd.method).1
  have X0 : Stand p l e ({ frames := 0, cells := 0, slots := 0, locals := 0 } : Room) s m #[(.int p82)] below meth c s₁ [] 0 0 := Stand.of_body Bd
  have e0 : s₁.heap = h0 := by rw [← hh, Bd.state]; rfl
  have N0 := Fr.nil n0
  have pre0 : ∀ t, Steps p.tables e below (s₁.setTop (mkF m 0 #[.val (.int p82)] [])) t → Steps p.tables e below (s₁.setTop (entryFrame m #[(.int p82)] 1)) t := fun t k => castTop (ef_1_v m p82) k
  obtain ⟨T84, X84, e84, st84⟩ := getS2 X0 hx hZ hown (host := "") (Or.inl (hw _ (List.mem_of_getElem? (i := 56) rfl))) Via.refl e0 H6 (g := (mkF m 49 #[.val (.int p82)] [])) rfl (hb hby d1_49)
  obtain ⟨fs, hr, hrun, hended, hW, hsame⟩ := X84.leave (v := some (.ref w83)) (fun h => by rw [Bd.returns] at h; cases h)
  refine ⟨_, _, pre0 _ ?_, hrun, hended, _, _, rfl, ?_, ⟨_, rfl⟩, hW, hsame.mono (by decide) (by decide)⟩
  · show Steps p.tables e below (s₁.setTop (mkF m 0 #[.val (.int p82)] [])) _
    refine XS.iloadN X0.here hx rfl (hb hby d1_0) rfl ?_
    show Steps p.tables e below (s₁.setTop (mkF m 1 #[.val (.int p82)] [(.int p82)])) _
    refine XS.ifYes X0.here hx rfl (pc0 := 1) (pc' := 8) rfl (hb hby d1_1) rfl ((if0 _ _).trans (feq H0).2) (by decide) (by decide) ?_
    show Steps p.tables e below (s₁.setTop (mkF m 8 #[.val (.int p82)] [])) _
    refine XS.iloadN X0.here hx rfl (hb hby d1_8) rfl ?_
    show Steps p.tables e below (s₁.setTop (mkF m 9 #[.val (.int p82)] [(.int p82)])) _
    refine XS.iconst X0.here hx rfl (hb hby d1_9) ?_
    show Steps p.tables e below (s₁.setTop (mkF m 10 #[.val (.int p82)] [(.int (1 : Int32)), (.int p82)])) _
    refine XS.icmpYes X0.here hx rfl (pc0 := 10) (pc' := 17) rfl (hb hby d1_10) rfl (feq H1).2 (by decide) (by decide) ?_
    show Steps p.tables e below (s₁.setTop (mkF m 17 #[.val (.int p82)] [])) _
    refine XS.iloadN X0.here hx rfl (hb hby d1_17) rfl ?_
    show Steps p.tables e below (s₁.setTop (mkF m 18 #[.val (.int p82)] [(.int p82)])) _
    refine XS.iconst X0.here hx rfl (hb hby d1_18) ?_
    show Steps p.tables e below (s₁.setTop (mkF m 19 #[.val (.int p82)] [(.int (2 : Int32)), (.int p82)])) _
    refine XS.icmpYes X0.here hx rfl (pc0 := 19) (pc' := 26) rfl (hb hby d1_19) rfl (feq H2).2 (by decide) (by decide) ?_
    show Steps p.tables e below (s₁.setTop (mkF m 26 #[.val (.int p82)] [])) _
    refine XS.iloadN X0.here hx rfl (hb hby d1_26) rfl ?_
    show Steps p.tables e below (s₁.setTop (mkF m 27 #[.val (.int p82)] [(.int p82)])) _
    refine XS.iconst X0.here hx rfl (hb hby d1_27) ?_
    show Steps p.tables e below (s₁.setTop (mkF m 28 #[.val (.int p82)] [(.int (3 : Int32)), (.int p82)])) _
    refine XS.icmpYes X0.here hx rfl (pc0 := 28) (pc' := 35) rfl (hb hby d1_28) rfl (feq H3).2 (by decide) (by decide) ?_
    show Steps p.tables e below (s₁.setTop (mkF m 35 #[.val (.int p82)] [])) _
    refine XS.iloadN X0.here hx rfl (hb hby d1_35) rfl ?_
    show Steps p.tables e below (s₁.setTop (mkF m 36 #[.val (.int p82)] [(.int p82)])) _
    refine XS.iconst X0.here hx rfl (hb hby d1_36) ?_
    show Steps p.tables e below (s₁.setTop (mkF m 37 #[.val (.int p82)] [(.int (4 : Int32)), (.int p82)])) _
    refine XS.icmpYes X0.here hx rfl (pc0 := 37) (pc' := 44) rfl (hb hby d1_37) rfl (feq H4).2 (by decide) (by decide) ?_
    show Steps p.tables e below (s₁.setTop (mkF m 44 #[.val (.int p82)] [])) _
    refine XS.iloadN X0.here hx rfl (hb hby d1_44) rfl ?_
    show Steps p.tables e below (s₁.setTop (mkF m 45 #[.val (.int p82)] [(.int p82)])) _
    refine XS.iconst X0.here hx rfl (hb hby d1_45) ?_
    show Steps p.tables e below (s₁.setTop (mkF m 46 #[.val (.int p82)] [(.int (5 : Int32)), (.int p82)])) _
    refine XS.icmpNo X0.here hx rfl (hb hby d1_46) rfl (teq H5).2 ?_
    show Steps p.tables e below (s₁.setTop (mkF m 49 #[.val (.int p82)] [])) _
    refine st84 _ ?_
    show Steps p.tables e below (T84.setTop (mkF m 52 #[.val (.int p82)] [(.ref w83)])) _
    jvm_step X84.here [X84.here.top, hx, (hb hby d1_52), X84.method', Bd.returns, Value.isRef, FieldType.isReference]
    first | (intro acts; rw [hr _ acts rfl rfl rfl]) | rw [hr _ _ rfl rfl rfl]
    exact Steps.refl _
  · show OQp (some (.ref w83)) h0 n0 _ T84.heap _
    rw [e84]
    exact ⟨rfl, N0, rfl⟩
set_option maxRecDepth 65536 in
set_option maxHeartbeats 40000000 in
theorem r0_6 (l : Launch) (Z : State) (a0 : Array Value) (hw : ∀ d ∈ tables_1, d.before a0 Z = true) (p81 : Int32) (w86 : Addr) (w93 : Addr) (w94 : Addr) (h0 : Heap) (n0 : Nat) (Z0 : n0 ≤ h0.size) (H0 : ¬ (((p81 &&& (2147483647 : Int32)) % (18 : Int32)) = (0 : Int32))) (H1 : ¬ (((p81 &&& (2147483647 : Int32)) % (18 : Int32)) = (1 : Int32))) (H2 : ¬ (((p81 &&& (2147483647 : Int32)) % (18 : Int32)) = (2 : Int32))) (H3 : ¬ (((p81 &&& (2147483647 : Int32)) % (18 : Int32)) = (3 : Int32))) (H4 : ¬ (((p81 &&& (2147483647 : Int32)) % (18 : Int32)) = (4 : Int32))) (H5 : ((p81 &&& (2147483647 : Int32)) % (18 : Int32)) = (5 : Int32)) (H6 : Sta Z h0 "com/example/grepo/grepo/internal/query/Operator" "GREATER_THAN_EQUAL" "Lcom/example/grepo/grepo/internal/query/Operator;" (.ref w86)) (H7 : Sta Z h0 "com/example/grepo/grepo/internal/query/Operator" "IN" "Lcom/example/grepo/grepo/internal/query/Operator;" (.ref w93)) (H8 : w86 ≠ w93) (H9 : Sta Z h0 "com/example/grepo/grepo/internal/query/Operator" "NOT_IN" "Lcom/example/grepo/grepo/internal/query/Operator;" (.ref w94)) (H10 : w86 ≠ w94) (H11 : Exa Z h0 w86 "com/example/grepo/grepo/internal/query/Operator") (H12 : ¬ (((p81 &&& (2147483647 : Int32)) % (18 : Int32)) = (9 : Int32))) (H13 : ¬ (((p81 &&& (2147483647 : Int32)) % (18 : Int32)) = (10 : Int32))) :
    OMet l Z x code maxLocals ret tables_1 room_1 h0 #[(.int p81)] (OQl (some (.int (1 : Int32))) n0) := by
  refine MetFree.of_bodySF (plainFor_of_name pn_com_example_grepo_grepo_internal_query_OperatorTakesCollectionPinLaw) hisR ?_
  intro p e s m args below meth c s₁ Bd hml0 hP hK
  obtain ⟨rfl, hZ, hh⟩ := hP
  have hx := Bd.exec
  have hby := Bd.bytes
  have hml : c.maxLocals = 4 := hml0
  have hown : s.vm.findClass "com/example/grepo/grepo/internal/query/OperatorTakesCollectionPinLaw" = some m.cls := findClass_of_methodNamed Bd.named
  have hnm := (name_of_methodNamed Bd.named Bd.method).1
  have X0 : Stand p l e room_1 s m #[(.int p81)] below meth c s₁ [] 0 0 := Stand.of_body Bd
  have e0 : s₁.heap = h0 := by rw [← hh, Bd.state]; rfl
  have N0 := Fr.nil n0
  have pre0 : ∀ t, Steps p.tables e below (s₁.setTop (mkF m 0 #[.val (.int p81), .unset, .unset, .unset] [])) t → Steps p.tables e below (s₁.setTop (entryFrame m #[(.int p81)] maxLocals)) t := fun t k => castTop (ef_0_v m p81) k
  obtain ⟨_, _, ⟨T85, L85, k85, n85⟩, -, X85, ⟨Lc85, hQ85, l85, y85, z85⟩, st85⟩ := Jvm.LawKit.callS X0 hx (y := (⟨"com/example/grepo/grepo/internal/query/OperatorTakesCollectionPinLaw", "pick", "(I)Lcom/example/grepo/grepo/internal/query/Operator;"⟩ : MethodName)) hown (mvT hZ (hw _ (List.mem_of_getElem? (i := 1) rfl))) (mvT hZ (hw _ (List.mem_of_getElem? (i := 2) rfl))) (mvT hZ (hw _ (List.mem_of_getElem? (i := 3) rfl))) (mvT hZ (hw _ (List.mem_of_getElem? (i := 4) rfl))) (by decide) (backOf (W := 0) (r1_6 l Z a0 hw ((p81 &&& (2147483647 : Int32)) % (18 : Int32)) w86 h0 n0 Z0 H0 H1 H2 H3 H4 H5 H6) hZ (hw _ (List.mem_of_getElem? (i := 4) rfl)) (hw _ (List.mem_of_getElem? (i := 3) rfl)) (by decide) (by decide)) (g := (mkF m 9 #[.val (.int p81), .val (.int ((p81 &&& (2147483647 : Int32)) % (18 : Int32))), .unset, .unset] [(.int ((p81 &&& (2147483647 : Int32)) % (18 : Int32)))])) rfl (by rw [hml]; rfl) (argsL := [(.int ((p81 &&& (2147483647 : Int32)) % (18 : Int32)))]) (rest := []) (lenOf pd_0 rfl) rfl (by show 2 * 0 + _ ≤ _; exact Nat.le_of_eq rfl) (hb hby at_9) (fun _ _ => ⟨rfl, e0, (by decide : 0 + 0 ≤ _), (by decide : 0 + 0 ≤ _)⟩)
  dsimp only [Pt.U, Pt.locs, Pt.cells, Pt.slots] at X85 l85 y85 z85 st85 hQ85
  subst l85 y85 z85
  obtain ⟨rfl, N85q, e85⟩ := hQ85
  have N85 := Fr.app N0 N85q
  obtain ⟨cq92, kq92, q92a, q92b, q92c⟩ := isOf hZ e85 H11
  obtain ⟨_, _, ⟨T92, L92, k92, n92⟩, -, X92, ⟨Lc92, hQ92, l92, y92, z92⟩, st92⟩ := X85.virtualBack hx (y := (⟨"com/example/grepo/grepo/internal/query/Operator", "takesCollection", "()Z"⟩ : MethodName)) (z := (⟨"com/example/grepo/grepo/internal/query/Operator", "takesCollection", "()Z"⟩ : MethodName)) hown (mvT hZ (hw _ (List.mem_of_getElem? (i := 8) rfl))) (mvT hZ (hw _ (List.mem_of_getElem? (i := 9) rfl))) (notFace_of_selects (args := #[]) (mvT hZ (hw _ (List.mem_of_getElem? (i := 11) rfl)))) (mvT hZ (hw _ (List.mem_of_getElem? (i := 11) rfl))) (mvT hZ (hw _ (List.mem_of_getElem? (i := 10) rfl))) (by decide) (backOf (W := 0) (r2_1 l Z a0 hw w86 w93 w94 h0 n0 Z0 H7 H8 H9 H10) hZ (hw _ (List.mem_of_getElem? (i := 12) rfl)) (hw _ (List.mem_of_getElem? (i := 6) rfl)) (by decide) (by decide)) q92a q92c (g := (mkF m 14 #[.val (.int p81), .val (.int ((p81 &&& (2147483647 : Int32)) % (18 : Int32))), .val (.ref w86), .unset] [(.ref w86)])) rfl (by rw [hml]; rfl) (Steps.refl _) (argsL := []) (rest := []) (lenOf pd_1 rfl) rfl (by show 2 * 0 + _ ≤ _; exact Nat.le_of_eq rfl) (hb hby at_14) (fun _ _ => ⟨rfl, e85, (by decide : 0 + 0 ≤ _), (by decide : 0 + 0 ≤ _)⟩)
  dsimp only [Pt.U, Pt.locs, Pt.cells, Pt.slots] at X92 l92 y92 z92 st92 hQ92
  subst l92 y92 z92
  obtain ⟨rfl, N92q, e92⟩ := hQ92
  have N92 := Fr.app N85 N92q
  obtain ⟨_, _, ⟨T96, L96, k96, n96⟩, -, X96, ⟨Lc96, hQ96, l96, y96, z96⟩, st96⟩ := Jvm.LawKit.callS X92 hx (y := (⟨"com/example/grepo/grepo/internal/query/OperatorTakesCollectionPinLaw", "expected", "(I)Z"⟩ : MethodName)) hown (mvT hZ (hw _ (List.mem_of_getElem? (i := 17) rfl))) (mvT hZ (hw _ (List.mem_of_getElem? (i := 18) rfl))) (mvT hZ (hw _ (List.mem_of_getElem? (i := 3) rfl))) (mvT hZ (hw _ (List.mem_of_getElem? (i := 19) rfl))) (by decide) (backOf (W := 1) (r3_1 l Z a0 hw ((p81 &&& (2147483647 : Int32)) % (18 : Int32)) h0 n0 Z0 H12 H13) hZ (hw _ (List.mem_of_getElem? (i := 19) rfl)) (hw _ (List.mem_of_getElem? (i := 3) rfl)) (by decide) (by decide)) (g := (mkF m 20 #[.val (.int p81), .val (.int ((p81 &&& (2147483647 : Int32)) % (18 : Int32))), .val (.ref w86), .val (.int (0 : Int32))] [(.int ((p81 &&& (2147483647 : Int32)) % (18 : Int32))), (.int (0 : Int32))])) rfl (by rw [hml]; rfl) (argsL := [(.int ((p81 &&& (2147483647 : Int32)) % (18 : Int32)))]) (rest := [(.int (0 : Int32))]) (lenOf pd_2 rfl) rfl (by show 2 * 0 + _ ≤ _; exact Nat.le_of_eq rfl) (hb hby at_20) (fun _ _ => ⟨rfl, e92, (by decide : 0 + 0 ≤ _), (by decide : 0 + 0 ≤ _)⟩)
  dsimp only [Pt.U, Pt.locs, Pt.cells, Pt.slots] at X96 l96 y96 z96 st96 hQ96
  subst l96 y96 z96
  obtain ⟨rfl, N96q, e96⟩ := hQ96
  have N96 := Fr.app N92 N96q
  obtain ⟨fs, hr, hrun, hended, hW, hsame⟩ := X96.leave (v := some (.int (1 : Int32))) (fun h => by rw [Bd.returns] at h; cases h)
  refine ⟨_, _, pre0 _ ?_, hrun, hended, _, _, rfl, ?_, ⟨_, rfl⟩, hW, hsame.mono (by decide) (by decide)⟩
  · show Steps p.tables e below (s₁.setTop (mkF m 0 #[.val (.int p81), .unset, .unset, .unset] [])) _
    refine XS.iloadN X0.here hx rfl (hb hby at_0) rfl ?_
    show Steps p.tables e below (s₁.setTop (mkF m 1 #[.val (.int p81), .unset, .unset, .unset] [(.int p81)])) _
    refine X0.ldcInt hx hown (mvT hZ (hw _ (List.mem_of_getElem? (i := 0) rfl))) (g := (mkF m 1 #[.val (.int p81), .unset, .unset, .unset] [(.int p81)])) rfl (hb hby at_1) _ ?_
    show Steps p.tables e below (s₁.setTop (mkF m 3 #[.val (.int p81), .unset, .unset, .unset] [(.int (2147483647 : Int32)), (.int p81)])) _
    refine XS.iand X0.here hx rfl (hb hby at_3) rfl ?_
    show Steps p.tables e below (s₁.setTop (mkF m 4 #[.val (.int p81), .unset, .unset, .unset] [(.int (p81 &&& (2147483647 : Int32)))])) _
    refine XS.bipush X0.here hx rfl (hb hby at_4) ?_
    show Steps p.tables e below (s₁.setTop (mkF m 6 #[.val (.int p81), .unset, .unset, .unset] [(.int (18 : Int32)), (.int (p81 &&& (2147483647 : Int32)))])) _
    refine iremM X0 hx rfl (hb hby at_6) rfl (by decide) ?_
    show Steps p.tables e below (s₁.setTop (mkF m 7 #[.val (.int p81), .unset, .unset, .unset] [(.int ((p81 &&& (2147483647 : Int32)) % (18 : Int32)))])) _
    refine XS.istoreN X0.here hx rfl (hb hby at_7) rfl (l' := #[.val (.int p81), .val (.int ((p81 &&& (2147483647 : Int32)) % (18 : Int32))), .unset, .unset]) rfl ?_
    show Steps p.tables e below (s₁.setTop (mkF m 8 #[.val (.int p81), .val (.int ((p81 &&& (2147483647 : Int32)) % (18 : Int32))), .unset, .unset] [])) _
    refine XS.iloadN X0.here hx rfl (hb hby at_8) rfl ?_
    show Steps p.tables e below (s₁.setTop (mkF m 9 #[.val (.int p81), .val (.int ((p81 &&& (2147483647 : Int32)) % (18 : Int32))), .unset, .unset] [(.int ((p81 &&& (2147483647 : Int32)) % (18 : Int32)))])) _
    refine st85 _ ?_
    show Steps p.tables e below (T85.setTop (mkF m 12 #[.val (.int p81), .val (.int ((p81 &&& (2147483647 : Int32)) % (18 : Int32))), .unset, .unset] [(.ref w86)])) _
    refine XS.astoreN X85.here hx rfl (hb hby at_12) rfl rfl (l' := #[.val (.int p81), .val (.int ((p81 &&& (2147483647 : Int32)) % (18 : Int32))), .val (.ref w86), .unset]) rfl ?_
    show Steps p.tables e below (T85.setTop (mkF m 13 #[.val (.int p81), .val (.int ((p81 &&& (2147483647 : Int32)) % (18 : Int32))), .val (.ref w86), .unset] [])) _
    refine XS.aloadN X85.here hx rfl (hb hby at_13) rfl rfl ?_
    show Steps p.tables e below (T85.setTop (mkF m 14 #[.val (.int p81), .val (.int ((p81 &&& (2147483647 : Int32)) % (18 : Int32))), .val (.ref w86), .unset] [(.ref w86)])) _
    refine st92.trans ?_
    show Steps p.tables e below (T92.setTop (mkF m 17 #[.val (.int p81), .val (.int ((p81 &&& (2147483647 : Int32)) % (18 : Int32))), .val (.ref w86), .unset] [(.int (0 : Int32))])) _
    refine XS.istoreN X92.here hx rfl (hb hby at_17) rfl (l' := #[.val (.int p81), .val (.int ((p81 &&& (2147483647 : Int32)) % (18 : Int32))), .val (.ref w86), .val (.int (0 : Int32))]) rfl ?_
    show Steps p.tables e below (T92.setTop (mkF m 18 #[.val (.int p81), .val (.int ((p81 &&& (2147483647 : Int32)) % (18 : Int32))), .val (.ref w86), .val (.int (0 : Int32))] [])) _
    refine XS.iloadN X92.here hx rfl (hb hby at_18) rfl ?_
    show Steps p.tables e below (T92.setTop (mkF m 19 #[.val (.int p81), .val (.int ((p81 &&& (2147483647 : Int32)) % (18 : Int32))), .val (.ref w86), .val (.int (0 : Int32))] [(.int (0 : Int32))])) _
    refine XS.iloadN X92.here hx rfl (hb hby at_19) rfl ?_
    show Steps p.tables e below (T92.setTop (mkF m 20 #[.val (.int p81), .val (.int ((p81 &&& (2147483647 : Int32)) % (18 : Int32))), .val (.ref w86), .val (.int (0 : Int32))] [(.int ((p81 &&& (2147483647 : Int32)) % (18 : Int32))), (.int (0 : Int32))])) _
    refine st96 _ ?_
    show Steps p.tables e below (T96.setTop (mkF m 23 #[.val (.int p81), .val (.int ((p81 &&& (2147483647 : Int32)) % (18 : Int32))), .val (.ref w86), .val (.int (0 : Int32))] [(.int (0 : Int32)), (.int (0 : Int32))])) _
    refine XS.icmpYes X96.here hx rfl (pc0 := 23) (pc' := 28) rfl (hb hby at_23) rfl (teq (rfl : (0 : Int32) = (0 : Int32))).1 (by decide) (by decide) ?_
    show Steps p.tables e below (T96.setTop (mkF m 28 #[.val (.int p81), .val (.int ((p81 &&& (2147483647 : Int32)) % (18 : Int32))), .val (.ref w86), .val (.int (0 : Int32))] [])) _
    refine XS.iloadN X96.here hx rfl (hb hby at_28) rfl ?_
    show Steps p.tables e below (T96.setTop (mkF m 29 #[.val (.int p81), .val (.int ((p81 &&& (2147483647 : Int32)) % (18 : Int32))), .val (.ref w86), .val (.int (0 : Int32))] [(.int (0 : Int32))])) _
    refine XS.ifYes X96.here hx rfl (pc0 := 29) (pc' := 42) rfl (hb hby at_29) rfl ((if0 _ _).trans (teq (rfl : (0 : Int32) = (0 : Int32))).1) (by decide) (by decide) ?_
    show Steps p.tables e below (T96.setTop (mkF m 42 #[.val (.int p81), .val (.int ((p81 &&& (2147483647 : Int32)) % (18 : Int32))), .val (.ref w86), .val (.int (0 : Int32))] [])) _
    refine XS.iconst X96.here hx rfl (hb hby at_42) ?_
    show Steps p.tables e below (T96.setTop (mkF m 43 #[.val (.int p81), .val (.int ((p81 &&& (2147483647 : Int32)) % (18 : Int32))), .val (.ref w86), .val (.int (0 : Int32))] [(.int (1 : Int32))])) _
    exact retN X96 hx (t := .boolean) Bd.returns (by simp) (hb hby at_43) hr
  · show OQl (some (.int (1 : Int32))) n0 _ T96.heap _
    exact ⟨rfl, N96⟩
theorem d1_53 : decode method_2_code 53 = .ok (.iload_n 0, 1) := by decide +kernel
theorem d1_54 : decode method_2_code 54 = .ok (.bipush 6, 2) := by decide +kernel
theorem d1_56 : decode method_2_code 56 = .ok (.if_icmp .ne 7, 3) := by decide +kernel
theorem d1_59 : decode method_2_code 59 = .ok (.getstatic 28, 3) := by decide +kernel
theorem d1_62 : decode method_2_code 62 = .ok (.areturn, 1) := by decide +kernel
set_option maxRecDepth 65536 in
set_option maxHeartbeats 40000000 in
theorem r1_7 (l : Launch) (Z : State) (a0 : Array Value) (hw : ∀ d ∈ tables_1, d.before a0 Z = true) (p98 : Int32) (w99 : Addr) (h0 : Heap) (n0 : Nat) (Z0 : n0 ≤ h0.size) (H0 : ¬ (p98 = (0 : Int32))) (H1 : ¬ (p98 = (1 : Int32))) (H2 : ¬ (p98 = (2 : Int32))) (H3 : ¬ (p98 = (3 : Int32))) (H4 : ¬ (p98 = (4 : Int32))) (H5 : ¬ (p98 = (5 : Int32))) (H6 : p98 = (6 : Int32)) (H7 : Sta Z h0 "com/example/grepo/grepo/internal/query/Operator" "BETWEEN" "Lcom/example/grepo/grepo/internal/query/Operator;" (.ref w99)) :
    OMet l Z (⟨"com/example/grepo/grepo/internal/query/OperatorTakesCollectionPinLaw", "pick", "(I)Lcom/example/grepo/grepo/internal/query/Operator;"⟩ : MethodName) method_2_code 1 (some (.object "com/example/grepo/grepo/internal/query/Operator")) [] ({ frames := 0, cells := 0, slots := 0, locals := 0 } : Room) h0 #[(.int p98)] (OQp (some (.ref w99)) h0 n0) := by
  refine MetFree.of_bodySF (plainFor_of_name pn_com_example_grepo_grepo_internal_query_OperatorTakesCollectionPinLaw) hisR ?_
  intro p e s m args below meth c s₁ Bd hml0 hP hK
  obtain ⟨rfl, hZ, hh⟩ := hP
  have hx := Bd.exec
  have hby := Bd.bytes
  have hml : c.maxLocals = 1 := hml0
  have hown : s.vm.findClass "com/example/grepo/grepo/internal/query/OperatorTakesCollectionPinLaw" = some m.cls := findClass_of_methodNamed Bd.named
  have hnm := (name_of_methodNamed Bd.named Bd.method).1
  have X0 : Stand p l e ({ frames := 0, cells := 0, slots := 0, locals := 0 } : Room) s m #[(.int p98)] below meth c s₁ [] 0 0 := Stand.of_body Bd
  have e0 : s₁.heap = h0 := by rw [← hh, Bd.state]; rfl
  have N0 := Fr.nil n0
  have pre0 : ∀ t, Steps p.tables e below (s₁.setTop (mkF m 0 #[.val (.int p98)] [])) t → Steps p.tables e below (s₁.setTop (entryFrame m #[(.int p98)] 1)) t := fun t k => castTop (ef_1_v m p98) k
  obtain ⟨T100, X100, e100, st100⟩ := getS2 X0 hx hZ hown (host := "") (Or.inl (hw _ (List.mem_of_getElem? (i := 50) rfl))) Via.refl e0 H7 (g := (mkF m 59 #[.val (.int p98)] [])) rfl (hb hby d1_59)
  obtain ⟨fs, hr, hrun, hended, hW, hsame⟩ := X100.leave (v := some (.ref w99)) (fun h => by rw [Bd.returns] at h; cases h)
  refine ⟨_, _, pre0 _ ?_, hrun, hended, _, _, rfl, ?_, ⟨_, rfl⟩, hW, hsame.mono (by decide) (by decide)⟩
  · show Steps p.tables e below (s₁.setTop (mkF m 0 #[.val (.int p98)] [])) _
    refine XS.iloadN X0.here hx rfl (hb hby d1_0) rfl ?_
    show Steps p.tables e below (s₁.setTop (mkF m 1 #[.val (.int p98)] [(.int p98)])) _
    refine XS.ifYes X0.here hx rfl (pc0 := 1) (pc' := 8) rfl (hb hby d1_1) rfl ((if0 _ _).trans (feq H0).2) (by decide) (by decide) ?_
    show Steps p.tables e below (s₁.setTop (mkF m 8 #[.val (.int p98)] [])) _
    refine XS.iloadN X0.here hx rfl (hb hby d1_8) rfl ?_
    show Steps p.tables e below (s₁.setTop (mkF m 9 #[.val (.int p98)] [(.int p98)])) _
    refine XS.iconst X0.here hx rfl (hb hby d1_9) ?_
    show Steps p.tables e below (s₁.setTop (mkF m 10 #[.val (.int p98)] [(.int (1 : Int32)), (.int p98)])) _
    refine XS.icmpYes X0.here hx rfl (pc0 := 10) (pc' := 17) rfl (hb hby d1_10) rfl (feq H1).2 (by decide) (by decide) ?_
    show Steps p.tables e below (s₁.setTop (mkF m 17 #[.val (.int p98)] [])) _
    refine XS.iloadN X0.here hx rfl (hb hby d1_17) rfl ?_
    show Steps p.tables e below (s₁.setTop (mkF m 18 #[.val (.int p98)] [(.int p98)])) _
    refine XS.iconst X0.here hx rfl (hb hby d1_18) ?_
    show Steps p.tables e below (s₁.setTop (mkF m 19 #[.val (.int p98)] [(.int (2 : Int32)), (.int p98)])) _
    refine XS.icmpYes X0.here hx rfl (pc0 := 19) (pc' := 26) rfl (hb hby d1_19) rfl (feq H2).2 (by decide) (by decide) ?_
    show Steps p.tables e below (s₁.setTop (mkF m 26 #[.val (.int p98)] [])) _
    refine XS.iloadN X0.here hx rfl (hb hby d1_26) rfl ?_
    show Steps p.tables e below (s₁.setTop (mkF m 27 #[.val (.int p98)] [(.int p98)])) _
    refine XS.iconst X0.here hx rfl (hb hby d1_27) ?_
    show Steps p.tables e below (s₁.setTop (mkF m 28 #[.val (.int p98)] [(.int (3 : Int32)), (.int p98)])) _
    refine XS.icmpYes X0.here hx rfl (pc0 := 28) (pc' := 35) rfl (hb hby d1_28) rfl (feq H3).2 (by decide) (by decide) ?_
    show Steps p.tables e below (s₁.setTop (mkF m 35 #[.val (.int p98)] [])) _
    refine XS.iloadN X0.here hx rfl (hb hby d1_35) rfl ?_
    show Steps p.tables e below (s₁.setTop (mkF m 36 #[.val (.int p98)] [(.int p98)])) _
    refine XS.iconst X0.here hx rfl (hb hby d1_36) ?_
    show Steps p.tables e below (s₁.setTop (mkF m 37 #[.val (.int p98)] [(.int (4 : Int32)), (.int p98)])) _
    refine XS.icmpYes X0.here hx rfl (pc0 := 37) (pc' := 44) rfl (hb hby d1_37) rfl (feq H4).2 (by decide) (by decide) ?_
    show Steps p.tables e below (s₁.setTop (mkF m 44 #[.val (.int p98)] [])) _
    refine XS.iloadN X0.here hx rfl (hb hby d1_44) rfl ?_
    show Steps p.tables e below (s₁.setTop (mkF m 45 #[.val (.int p98)] [(.int p98)])) _
    refine XS.iconst X0.here hx rfl (hb hby d1_45) ?_
    show Steps p.tables e below (s₁.setTop (mkF m 46 #[.val (.int p98)] [(.int (5 : Int32)), (.int p98)])) _
    refine XS.icmpYes X0.here hx rfl (pc0 := 46) (pc' := 53) rfl (hb hby d1_46) rfl (feq H5).2 (by decide) (by decide) ?_
    show Steps p.tables e below (s₁.setTop (mkF m 53 #[.val (.int p98)] [])) _
    refine XS.iloadN X0.here hx rfl (hb hby d1_53) rfl ?_
    show Steps p.tables e below (s₁.setTop (mkF m 54 #[.val (.int p98)] [(.int p98)])) _
    refine XS.bipush X0.here hx rfl (hb hby d1_54) ?_
    show Steps p.tables e below (s₁.setTop (mkF m 56 #[.val (.int p98)] [(.int (6 : Int32)), (.int p98)])) _
    refine XS.icmpNo X0.here hx rfl (hb hby d1_56) rfl (teq H6).2 ?_
    show Steps p.tables e below (s₁.setTop (mkF m 59 #[.val (.int p98)] [])) _
    refine st100 _ ?_
    show Steps p.tables e below (T100.setTop (mkF m 62 #[.val (.int p98)] [(.ref w99)])) _
    jvm_step X100.here [X100.here.top, hx, (hb hby d1_62), X100.method', Bd.returns, Value.isRef, FieldType.isReference]
    first | (intro acts; rw [hr _ acts rfl rfl rfl]) | rw [hr _ _ rfl rfl rfl]
    exact Steps.refl _
  · show OQp (some (.ref w99)) h0 n0 _ T100.heap _
    rw [e100]
    exact ⟨rfl, N0, rfl⟩
set_option maxRecDepth 65536 in
set_option maxHeartbeats 40000000 in
theorem r0_7 (l : Launch) (Z : State) (a0 : Array Value) (hw : ∀ d ∈ tables_1, d.before a0 Z = true) (p97 : Int32) (w102 : Addr) (w109 : Addr) (w110 : Addr) (h0 : Heap) (n0 : Nat) (Z0 : n0 ≤ h0.size) (H0 : ¬ (((p97 &&& (2147483647 : Int32)) % (18 : Int32)) = (0 : Int32))) (H1 : ¬ (((p97 &&& (2147483647 : Int32)) % (18 : Int32)) = (1 : Int32))) (H2 : ¬ (((p97 &&& (2147483647 : Int32)) % (18 : Int32)) = (2 : Int32))) (H3 : ¬ (((p97 &&& (2147483647 : Int32)) % (18 : Int32)) = (3 : Int32))) (H4 : ¬ (((p97 &&& (2147483647 : Int32)) % (18 : Int32)) = (4 : Int32))) (H5 : ¬ (((p97 &&& (2147483647 : Int32)) % (18 : Int32)) = (5 : Int32))) (H6 : ((p97 &&& (2147483647 : Int32)) % (18 : Int32)) = (6 : Int32)) (H7 : Sta Z h0 "com/example/grepo/grepo/internal/query/Operator" "BETWEEN" "Lcom/example/grepo/grepo/internal/query/Operator;" (.ref w102)) (H8 : Sta Z h0 "com/example/grepo/grepo/internal/query/Operator" "IN" "Lcom/example/grepo/grepo/internal/query/Operator;" (.ref w109)) (H9 : w102 ≠ w109) (H10 : Sta Z h0 "com/example/grepo/grepo/internal/query/Operator" "NOT_IN" "Lcom/example/grepo/grepo/internal/query/Operator;" (.ref w110)) (H11 : w102 ≠ w110) (H12 : Exa Z h0 w102 "com/example/grepo/grepo/internal/query/Operator") (H13 : ¬ (((p97 &&& (2147483647 : Int32)) % (18 : Int32)) = (9 : Int32))) (H14 : ¬ (((p97 &&& (2147483647 : Int32)) % (18 : Int32)) = (10 : Int32))) :
    OMet l Z x code maxLocals ret tables_1 room_1 h0 #[(.int p97)] (OQl (some (.int (1 : Int32))) n0) := by
  refine MetFree.of_bodySF (plainFor_of_name pn_com_example_grepo_grepo_internal_query_OperatorTakesCollectionPinLaw) hisR ?_
  intro p e s m args below meth c s₁ Bd hml0 hP hK
  obtain ⟨rfl, hZ, hh⟩ := hP
  have hx := Bd.exec
  have hby := Bd.bytes
  have hml : c.maxLocals = 4 := hml0
  have hown : s.vm.findClass "com/example/grepo/grepo/internal/query/OperatorTakesCollectionPinLaw" = some m.cls := findClass_of_methodNamed Bd.named
  have hnm := (name_of_methodNamed Bd.named Bd.method).1
  have X0 : Stand p l e room_1 s m #[(.int p97)] below meth c s₁ [] 0 0 := Stand.of_body Bd
  have e0 : s₁.heap = h0 := by rw [← hh, Bd.state]; rfl
  have N0 := Fr.nil n0
  have pre0 : ∀ t, Steps p.tables e below (s₁.setTop (mkF m 0 #[.val (.int p97), .unset, .unset, .unset] [])) t → Steps p.tables e below (s₁.setTop (entryFrame m #[(.int p97)] maxLocals)) t := fun t k => castTop (ef_0_v m p97) k
  obtain ⟨_, _, ⟨T101, L101, k101, n101⟩, -, X101, ⟨Lc101, hQ101, l101, y101, z101⟩, st101⟩ := Jvm.LawKit.callS X0 hx (y := (⟨"com/example/grepo/grepo/internal/query/OperatorTakesCollectionPinLaw", "pick", "(I)Lcom/example/grepo/grepo/internal/query/Operator;"⟩ : MethodName)) hown (mvT hZ (hw _ (List.mem_of_getElem? (i := 1) rfl))) (mvT hZ (hw _ (List.mem_of_getElem? (i := 2) rfl))) (mvT hZ (hw _ (List.mem_of_getElem? (i := 3) rfl))) (mvT hZ (hw _ (List.mem_of_getElem? (i := 4) rfl))) (by decide) (backOf (W := 0) (r1_7 l Z a0 hw ((p97 &&& (2147483647 : Int32)) % (18 : Int32)) w102 h0 n0 Z0 H0 H1 H2 H3 H4 H5 H6 H7) hZ (hw _ (List.mem_of_getElem? (i := 4) rfl)) (hw _ (List.mem_of_getElem? (i := 3) rfl)) (by decide) (by decide)) (g := (mkF m 9 #[.val (.int p97), .val (.int ((p97 &&& (2147483647 : Int32)) % (18 : Int32))), .unset, .unset] [(.int ((p97 &&& (2147483647 : Int32)) % (18 : Int32)))])) rfl (by rw [hml]; rfl) (argsL := [(.int ((p97 &&& (2147483647 : Int32)) % (18 : Int32)))]) (rest := []) (lenOf pd_0 rfl) rfl (by show 2 * 0 + _ ≤ _; exact Nat.le_of_eq rfl) (hb hby at_9) (fun _ _ => ⟨rfl, e0, (by decide : 0 + 0 ≤ _), (by decide : 0 + 0 ≤ _)⟩)
  dsimp only [Pt.U, Pt.locs, Pt.cells, Pt.slots] at X101 l101 y101 z101 st101 hQ101
  subst l101 y101 z101
  obtain ⟨rfl, N101q, e101⟩ := hQ101
  have N101 := Fr.app N0 N101q
  obtain ⟨cq108, kq108, q108a, q108b, q108c⟩ := isOf hZ e101 H12
  obtain ⟨_, _, ⟨T108, L108, k108, n108⟩, -, X108, ⟨Lc108, hQ108, l108, y108, z108⟩, st108⟩ := X101.virtualBack hx (y := (⟨"com/example/grepo/grepo/internal/query/Operator", "takesCollection", "()Z"⟩ : MethodName)) (z := (⟨"com/example/grepo/grepo/internal/query/Operator", "takesCollection", "()Z"⟩ : MethodName)) hown (mvT hZ (hw _ (List.mem_of_getElem? (i := 8) rfl))) (mvT hZ (hw _ (List.mem_of_getElem? (i := 9) rfl))) (notFace_of_selects (args := #[]) (mvT hZ (hw _ (List.mem_of_getElem? (i := 11) rfl)))) (mvT hZ (hw _ (List.mem_of_getElem? (i := 11) rfl))) (mvT hZ (hw _ (List.mem_of_getElem? (i := 10) rfl))) (by decide) (backOf (W := 0) (r2_1 l Z a0 hw w102 w109 w110 h0 n0 Z0 H8 H9 H10 H11) hZ (hw _ (List.mem_of_getElem? (i := 12) rfl)) (hw _ (List.mem_of_getElem? (i := 6) rfl)) (by decide) (by decide)) q108a q108c (g := (mkF m 14 #[.val (.int p97), .val (.int ((p97 &&& (2147483647 : Int32)) % (18 : Int32))), .val (.ref w102), .unset] [(.ref w102)])) rfl (by rw [hml]; rfl) (Steps.refl _) (argsL := []) (rest := []) (lenOf pd_1 rfl) rfl (by show 2 * 0 + _ ≤ _; exact Nat.le_of_eq rfl) (hb hby at_14) (fun _ _ => ⟨rfl, e101, (by decide : 0 + 0 ≤ _), (by decide : 0 + 0 ≤ _)⟩)
  dsimp only [Pt.U, Pt.locs, Pt.cells, Pt.slots] at X108 l108 y108 z108 st108 hQ108
  subst l108 y108 z108
  obtain ⟨rfl, N108q, e108⟩ := hQ108
  have N108 := Fr.app N101 N108q
  obtain ⟨_, _, ⟨T112, L112, k112, n112⟩, -, X112, ⟨Lc112, hQ112, l112, y112, z112⟩, st112⟩ := Jvm.LawKit.callS X108 hx (y := (⟨"com/example/grepo/grepo/internal/query/OperatorTakesCollectionPinLaw", "expected", "(I)Z"⟩ : MethodName)) hown (mvT hZ (hw _ (List.mem_of_getElem? (i := 17) rfl))) (mvT hZ (hw _ (List.mem_of_getElem? (i := 18) rfl))) (mvT hZ (hw _ (List.mem_of_getElem? (i := 3) rfl))) (mvT hZ (hw _ (List.mem_of_getElem? (i := 19) rfl))) (by decide) (backOf (W := 1) (r3_1 l Z a0 hw ((p97 &&& (2147483647 : Int32)) % (18 : Int32)) h0 n0 Z0 H13 H14) hZ (hw _ (List.mem_of_getElem? (i := 19) rfl)) (hw _ (List.mem_of_getElem? (i := 3) rfl)) (by decide) (by decide)) (g := (mkF m 20 #[.val (.int p97), .val (.int ((p97 &&& (2147483647 : Int32)) % (18 : Int32))), .val (.ref w102), .val (.int (0 : Int32))] [(.int ((p97 &&& (2147483647 : Int32)) % (18 : Int32))), (.int (0 : Int32))])) rfl (by rw [hml]; rfl) (argsL := [(.int ((p97 &&& (2147483647 : Int32)) % (18 : Int32)))]) (rest := [(.int (0 : Int32))]) (lenOf pd_2 rfl) rfl (by show 2 * 0 + _ ≤ _; exact Nat.le_of_eq rfl) (hb hby at_20) (fun _ _ => ⟨rfl, e108, (by decide : 0 + 0 ≤ _), (by decide : 0 + 0 ≤ _)⟩)
  dsimp only [Pt.U, Pt.locs, Pt.cells, Pt.slots] at X112 l112 y112 z112 st112 hQ112
  subst l112 y112 z112
  obtain ⟨rfl, N112q, e112⟩ := hQ112
  have N112 := Fr.app N108 N112q
  obtain ⟨fs, hr, hrun, hended, hW, hsame⟩ := X112.leave (v := some (.int (1 : Int32))) (fun h => by rw [Bd.returns] at h; cases h)
  refine ⟨_, _, pre0 _ ?_, hrun, hended, _, _, rfl, ?_, ⟨_, rfl⟩, hW, hsame.mono (by decide) (by decide)⟩
  · show Steps p.tables e below (s₁.setTop (mkF m 0 #[.val (.int p97), .unset, .unset, .unset] [])) _
    refine XS.iloadN X0.here hx rfl (hb hby at_0) rfl ?_
    show Steps p.tables e below (s₁.setTop (mkF m 1 #[.val (.int p97), .unset, .unset, .unset] [(.int p97)])) _
    refine X0.ldcInt hx hown (mvT hZ (hw _ (List.mem_of_getElem? (i := 0) rfl))) (g := (mkF m 1 #[.val (.int p97), .unset, .unset, .unset] [(.int p97)])) rfl (hb hby at_1) _ ?_
    show Steps p.tables e below (s₁.setTop (mkF m 3 #[.val (.int p97), .unset, .unset, .unset] [(.int (2147483647 : Int32)), (.int p97)])) _
    refine XS.iand X0.here hx rfl (hb hby at_3) rfl ?_
    show Steps p.tables e below (s₁.setTop (mkF m 4 #[.val (.int p97), .unset, .unset, .unset] [(.int (p97 &&& (2147483647 : Int32)))])) _
    refine XS.bipush X0.here hx rfl (hb hby at_4) ?_
    show Steps p.tables e below (s₁.setTop (mkF m 6 #[.val (.int p97), .unset, .unset, .unset] [(.int (18 : Int32)), (.int (p97 &&& (2147483647 : Int32)))])) _
    refine iremM X0 hx rfl (hb hby at_6) rfl (by decide) ?_
    show Steps p.tables e below (s₁.setTop (mkF m 7 #[.val (.int p97), .unset, .unset, .unset] [(.int ((p97 &&& (2147483647 : Int32)) % (18 : Int32)))])) _
    refine XS.istoreN X0.here hx rfl (hb hby at_7) rfl (l' := #[.val (.int p97), .val (.int ((p97 &&& (2147483647 : Int32)) % (18 : Int32))), .unset, .unset]) rfl ?_
    show Steps p.tables e below (s₁.setTop (mkF m 8 #[.val (.int p97), .val (.int ((p97 &&& (2147483647 : Int32)) % (18 : Int32))), .unset, .unset] [])) _
    refine XS.iloadN X0.here hx rfl (hb hby at_8) rfl ?_
    show Steps p.tables e below (s₁.setTop (mkF m 9 #[.val (.int p97), .val (.int ((p97 &&& (2147483647 : Int32)) % (18 : Int32))), .unset, .unset] [(.int ((p97 &&& (2147483647 : Int32)) % (18 : Int32)))])) _
    refine st101 _ ?_
    show Steps p.tables e below (T101.setTop (mkF m 12 #[.val (.int p97), .val (.int ((p97 &&& (2147483647 : Int32)) % (18 : Int32))), .unset, .unset] [(.ref w102)])) _
    refine XS.astoreN X101.here hx rfl (hb hby at_12) rfl rfl (l' := #[.val (.int p97), .val (.int ((p97 &&& (2147483647 : Int32)) % (18 : Int32))), .val (.ref w102), .unset]) rfl ?_
    show Steps p.tables e below (T101.setTop (mkF m 13 #[.val (.int p97), .val (.int ((p97 &&& (2147483647 : Int32)) % (18 : Int32))), .val (.ref w102), .unset] [])) _
    refine XS.aloadN X101.here hx rfl (hb hby at_13) rfl rfl ?_
    show Steps p.tables e below (T101.setTop (mkF m 14 #[.val (.int p97), .val (.int ((p97 &&& (2147483647 : Int32)) % (18 : Int32))), .val (.ref w102), .unset] [(.ref w102)])) _
    refine st108.trans ?_
    show Steps p.tables e below (T108.setTop (mkF m 17 #[.val (.int p97), .val (.int ((p97 &&& (2147483647 : Int32)) % (18 : Int32))), .val (.ref w102), .unset] [(.int (0 : Int32))])) _
    refine XS.istoreN X108.here hx rfl (hb hby at_17) rfl (l' := #[.val (.int p97), .val (.int ((p97 &&& (2147483647 : Int32)) % (18 : Int32))), .val (.ref w102), .val (.int (0 : Int32))]) rfl ?_
    show Steps p.tables e below (T108.setTop (mkF m 18 #[.val (.int p97), .val (.int ((p97 &&& (2147483647 : Int32)) % (18 : Int32))), .val (.ref w102), .val (.int (0 : Int32))] [])) _
    refine XS.iloadN X108.here hx rfl (hb hby at_18) rfl ?_
    show Steps p.tables e below (T108.setTop (mkF m 19 #[.val (.int p97), .val (.int ((p97 &&& (2147483647 : Int32)) % (18 : Int32))), .val (.ref w102), .val (.int (0 : Int32))] [(.int (0 : Int32))])) _
    refine XS.iloadN X108.here hx rfl (hb hby at_19) rfl ?_
    show Steps p.tables e below (T108.setTop (mkF m 20 #[.val (.int p97), .val (.int ((p97 &&& (2147483647 : Int32)) % (18 : Int32))), .val (.ref w102), .val (.int (0 : Int32))] [(.int ((p97 &&& (2147483647 : Int32)) % (18 : Int32))), (.int (0 : Int32))])) _
    refine st112 _ ?_
    show Steps p.tables e below (T112.setTop (mkF m 23 #[.val (.int p97), .val (.int ((p97 &&& (2147483647 : Int32)) % (18 : Int32))), .val (.ref w102), .val (.int (0 : Int32))] [(.int (0 : Int32)), (.int (0 : Int32))])) _
    refine XS.icmpYes X112.here hx rfl (pc0 := 23) (pc' := 28) rfl (hb hby at_23) rfl (teq (rfl : (0 : Int32) = (0 : Int32))).1 (by decide) (by decide) ?_
    show Steps p.tables e below (T112.setTop (mkF m 28 #[.val (.int p97), .val (.int ((p97 &&& (2147483647 : Int32)) % (18 : Int32))), .val (.ref w102), .val (.int (0 : Int32))] [])) _
    refine XS.iloadN X112.here hx rfl (hb hby at_28) rfl ?_
    show Steps p.tables e below (T112.setTop (mkF m 29 #[.val (.int p97), .val (.int ((p97 &&& (2147483647 : Int32)) % (18 : Int32))), .val (.ref w102), .val (.int (0 : Int32))] [(.int (0 : Int32))])) _
    refine XS.ifYes X112.here hx rfl (pc0 := 29) (pc' := 42) rfl (hb hby at_29) rfl ((if0 _ _).trans (teq (rfl : (0 : Int32) = (0 : Int32))).1) (by decide) (by decide) ?_
    show Steps p.tables e below (T112.setTop (mkF m 42 #[.val (.int p97), .val (.int ((p97 &&& (2147483647 : Int32)) % (18 : Int32))), .val (.ref w102), .val (.int (0 : Int32))] [])) _
    refine XS.iconst X112.here hx rfl (hb hby at_42) ?_
    show Steps p.tables e below (T112.setTop (mkF m 43 #[.val (.int p97), .val (.int ((p97 &&& (2147483647 : Int32)) % (18 : Int32))), .val (.ref w102), .val (.int (0 : Int32))] [(.int (1 : Int32))])) _
    exact retN X112 hx (t := .boolean) Bd.returns (by simp) (hb hby at_43) hr
  · show OQl (some (.int (1 : Int32))) n0 _ T112.heap _
    exact ⟨rfl, N112⟩
theorem d1_63 : decode method_2_code 63 = .ok (.iload_n 0, 1) := by decide +kernel
theorem d1_64 : decode method_2_code 64 = .ok (.bipush 7, 2) := by decide +kernel
theorem d1_66 : decode method_2_code 66 = .ok (.if_icmp .ne 7, 3) := by decide +kernel
theorem d1_69 : decode method_2_code 69 = .ok (.getstatic 31, 3) := by decide +kernel
theorem d1_72 : decode method_2_code 72 = .ok (.areturn, 1) := by decide +kernel
set_option maxRecDepth 65536 in
set_option maxHeartbeats 40000000 in
theorem r1_8 (l : Launch) (Z : State) (a0 : Array Value) (hw : ∀ d ∈ tables_1, d.before a0 Z = true) (p114 : Int32) (w115 : Addr) (h0 : Heap) (n0 : Nat) (Z0 : n0 ≤ h0.size) (H0 : ¬ (p114 = (0 : Int32))) (H1 : ¬ (p114 = (1 : Int32))) (H2 : ¬ (p114 = (2 : Int32))) (H3 : ¬ (p114 = (3 : Int32))) (H4 : ¬ (p114 = (4 : Int32))) (H5 : ¬ (p114 = (5 : Int32))) (H6 : ¬ (p114 = (6 : Int32))) (H7 : p114 = (7 : Int32)) (H8 : Sta Z h0 "com/example/grepo/grepo/internal/query/Operator" "IS_NULL" "Lcom/example/grepo/grepo/internal/query/Operator;" (.ref w115)) :
    OMet l Z (⟨"com/example/grepo/grepo/internal/query/OperatorTakesCollectionPinLaw", "pick", "(I)Lcom/example/grepo/grepo/internal/query/Operator;"⟩ : MethodName) method_2_code 1 (some (.object "com/example/grepo/grepo/internal/query/Operator")) [] ({ frames := 0, cells := 0, slots := 0, locals := 0 } : Room) h0 #[(.int p114)] (OQp (some (.ref w115)) h0 n0) := by
  refine MetFree.of_bodySF (plainFor_of_name pn_com_example_grepo_grepo_internal_query_OperatorTakesCollectionPinLaw) hisR ?_
  intro p e s m args below meth c s₁ Bd hml0 hP hK
  obtain ⟨rfl, hZ, hh⟩ := hP
  have hx := Bd.exec
  have hby := Bd.bytes
  have hml : c.maxLocals = 1 := hml0
  have hown : s.vm.findClass "com/example/grepo/grepo/internal/query/OperatorTakesCollectionPinLaw" = some m.cls := findClass_of_methodNamed Bd.named
  have hnm := (name_of_methodNamed Bd.named Bd.method).1
  have X0 : Stand p l e ({ frames := 0, cells := 0, slots := 0, locals := 0 } : Room) s m #[(.int p114)] below meth c s₁ [] 0 0 := Stand.of_body Bd
  have e0 : s₁.heap = h0 := by rw [← hh, Bd.state]; rfl
  have N0 := Fr.nil n0
  have pre0 : ∀ t, Steps p.tables e below (s₁.setTop (mkF m 0 #[.val (.int p114)] [])) t → Steps p.tables e below (s₁.setTop (entryFrame m #[(.int p114)] 1)) t := fun t k => castTop (ef_1_v m p114) k
  obtain ⟨T116, X116, e116, st116⟩ := getS2 X0 hx hZ hown (host := "") (Or.inl (hw _ (List.mem_of_getElem? (i := 26) rfl))) Via.refl e0 H8 (g := (mkF m 69 #[.val (.int p114)] [])) rfl (hb hby d1_69)
  obtain ⟨fs, hr, hrun, hended, hW, hsame⟩ := X116.leave (v := some (.ref w115)) (fun h => by rw [Bd.returns] at h; cases h)
  refine ⟨_, _, pre0 _ ?_, hrun, hended, _, _, rfl, ?_, ⟨_, rfl⟩, hW, hsame.mono (by decide) (by decide)⟩
  · show Steps p.tables e below (s₁.setTop (mkF m 0 #[.val (.int p114)] [])) _
    refine XS.iloadN X0.here hx rfl (hb hby d1_0) rfl ?_
    show Steps p.tables e below (s₁.setTop (mkF m 1 #[.val (.int p114)] [(.int p114)])) _
    refine XS.ifYes X0.here hx rfl (pc0 := 1) (pc' := 8) rfl (hb hby d1_1) rfl ((if0 _ _).trans (feq H0).2) (by decide) (by decide) ?_
    show Steps p.tables e below (s₁.setTop (mkF m 8 #[.val (.int p114)] [])) _
    refine XS.iloadN X0.here hx rfl (hb hby d1_8) rfl ?_
    show Steps p.tables e below (s₁.setTop (mkF m 9 #[.val (.int p114)] [(.int p114)])) _
    refine XS.iconst X0.here hx rfl (hb hby d1_9) ?_
    show Steps p.tables e below (s₁.setTop (mkF m 10 #[.val (.int p114)] [(.int (1 : Int32)), (.int p114)])) _
    refine XS.icmpYes X0.here hx rfl (pc0 := 10) (pc' := 17) rfl (hb hby d1_10) rfl (feq H1).2 (by decide) (by decide) ?_
    show Steps p.tables e below (s₁.setTop (mkF m 17 #[.val (.int p114)] [])) _
    refine XS.iloadN X0.here hx rfl (hb hby d1_17) rfl ?_
    show Steps p.tables e below (s₁.setTop (mkF m 18 #[.val (.int p114)] [(.int p114)])) _
    refine XS.iconst X0.here hx rfl (hb hby d1_18) ?_
    show Steps p.tables e below (s₁.setTop (mkF m 19 #[.val (.int p114)] [(.int (2 : Int32)), (.int p114)])) _
    refine XS.icmpYes X0.here hx rfl (pc0 := 19) (pc' := 26) rfl (hb hby d1_19) rfl (feq H2).2 (by decide) (by decide) ?_
    show Steps p.tables e below (s₁.setTop (mkF m 26 #[.val (.int p114)] [])) _
    refine XS.iloadN X0.here hx rfl (hb hby d1_26) rfl ?_
    show Steps p.tables e below (s₁.setTop (mkF m 27 #[.val (.int p114)] [(.int p114)])) _
    refine XS.iconst X0.here hx rfl (hb hby d1_27) ?_
    show Steps p.tables e below (s₁.setTop (mkF m 28 #[.val (.int p114)] [(.int (3 : Int32)), (.int p114)])) _
    refine XS.icmpYes X0.here hx rfl (pc0 := 28) (pc' := 35) rfl (hb hby d1_28) rfl (feq H3).2 (by decide) (by decide) ?_
    show Steps p.tables e below (s₁.setTop (mkF m 35 #[.val (.int p114)] [])) _
    refine XS.iloadN X0.here hx rfl (hb hby d1_35) rfl ?_
    show Steps p.tables e below (s₁.setTop (mkF m 36 #[.val (.int p114)] [(.int p114)])) _
    refine XS.iconst X0.here hx rfl (hb hby d1_36) ?_
    show Steps p.tables e below (s₁.setTop (mkF m 37 #[.val (.int p114)] [(.int (4 : Int32)), (.int p114)])) _
    refine XS.icmpYes X0.here hx rfl (pc0 := 37) (pc' := 44) rfl (hb hby d1_37) rfl (feq H4).2 (by decide) (by decide) ?_
    show Steps p.tables e below (s₁.setTop (mkF m 44 #[.val (.int p114)] [])) _
    refine XS.iloadN X0.here hx rfl (hb hby d1_44) rfl ?_
    show Steps p.tables e below (s₁.setTop (mkF m 45 #[.val (.int p114)] [(.int p114)])) _
    refine XS.iconst X0.here hx rfl (hb hby d1_45) ?_
    show Steps p.tables e below (s₁.setTop (mkF m 46 #[.val (.int p114)] [(.int (5 : Int32)), (.int p114)])) _
    refine XS.icmpYes X0.here hx rfl (pc0 := 46) (pc' := 53) rfl (hb hby d1_46) rfl (feq H5).2 (by decide) (by decide) ?_
    show Steps p.tables e below (s₁.setTop (mkF m 53 #[.val (.int p114)] [])) _
    refine XS.iloadN X0.here hx rfl (hb hby d1_53) rfl ?_
    show Steps p.tables e below (s₁.setTop (mkF m 54 #[.val (.int p114)] [(.int p114)])) _
    refine XS.bipush X0.here hx rfl (hb hby d1_54) ?_
    show Steps p.tables e below (s₁.setTop (mkF m 56 #[.val (.int p114)] [(.int (6 : Int32)), (.int p114)])) _
    refine XS.icmpYes X0.here hx rfl (pc0 := 56) (pc' := 63) rfl (hb hby d1_56) rfl (feq H6).2 (by decide) (by decide) ?_
    show Steps p.tables e below (s₁.setTop (mkF m 63 #[.val (.int p114)] [])) _
    refine XS.iloadN X0.here hx rfl (hb hby d1_63) rfl ?_
    show Steps p.tables e below (s₁.setTop (mkF m 64 #[.val (.int p114)] [(.int p114)])) _
    refine XS.bipush X0.here hx rfl (hb hby d1_64) ?_
    show Steps p.tables e below (s₁.setTop (mkF m 66 #[.val (.int p114)] [(.int (7 : Int32)), (.int p114)])) _
    refine XS.icmpNo X0.here hx rfl (hb hby d1_66) rfl (teq H7).2 ?_
    show Steps p.tables e below (s₁.setTop (mkF m 69 #[.val (.int p114)] [])) _
    refine st116 _ ?_
    show Steps p.tables e below (T116.setTop (mkF m 72 #[.val (.int p114)] [(.ref w115)])) _
    jvm_step X116.here [X116.here.top, hx, (hb hby d1_72), X116.method', Bd.returns, Value.isRef, FieldType.isReference]
    first | (intro acts; rw [hr _ acts rfl rfl rfl]) | rw [hr _ _ rfl rfl rfl]
    exact Steps.refl _
  · show OQp (some (.ref w115)) h0 n0 _ T116.heap _
    rw [e116]
    exact ⟨rfl, N0, rfl⟩
set_option maxRecDepth 65536 in
set_option maxHeartbeats 40000000 in
theorem r0_8 (l : Launch) (Z : State) (a0 : Array Value) (hw : ∀ d ∈ tables_1, d.before a0 Z = true) (p113 : Int32) (w118 : Addr) (w125 : Addr) (w126 : Addr) (h0 : Heap) (n0 : Nat) (Z0 : n0 ≤ h0.size) (H0 : ¬ (((p113 &&& (2147483647 : Int32)) % (18 : Int32)) = (0 : Int32))) (H1 : ¬ (((p113 &&& (2147483647 : Int32)) % (18 : Int32)) = (1 : Int32))) (H2 : ¬ (((p113 &&& (2147483647 : Int32)) % (18 : Int32)) = (2 : Int32))) (H3 : ¬ (((p113 &&& (2147483647 : Int32)) % (18 : Int32)) = (3 : Int32))) (H4 : ¬ (((p113 &&& (2147483647 : Int32)) % (18 : Int32)) = (4 : Int32))) (H5 : ¬ (((p113 &&& (2147483647 : Int32)) % (18 : Int32)) = (5 : Int32))) (H6 : ¬ (((p113 &&& (2147483647 : Int32)) % (18 : Int32)) = (6 : Int32))) (H7 : ((p113 &&& (2147483647 : Int32)) % (18 : Int32)) = (7 : Int32)) (H8 : Sta Z h0 "com/example/grepo/grepo/internal/query/Operator" "IS_NULL" "Lcom/example/grepo/grepo/internal/query/Operator;" (.ref w118)) (H9 : Sta Z h0 "com/example/grepo/grepo/internal/query/Operator" "IN" "Lcom/example/grepo/grepo/internal/query/Operator;" (.ref w125)) (H10 : w118 ≠ w125) (H11 : Sta Z h0 "com/example/grepo/grepo/internal/query/Operator" "NOT_IN" "Lcom/example/grepo/grepo/internal/query/Operator;" (.ref w126)) (H12 : w118 ≠ w126) (H13 : Exa Z h0 w118 "com/example/grepo/grepo/internal/query/Operator") (H14 : ¬ (((p113 &&& (2147483647 : Int32)) % (18 : Int32)) = (9 : Int32))) (H15 : ¬ (((p113 &&& (2147483647 : Int32)) % (18 : Int32)) = (10 : Int32))) :
    OMet l Z x code maxLocals ret tables_1 room_1 h0 #[(.int p113)] (OQl (some (.int (1 : Int32))) n0) := by
  refine MetFree.of_bodySF (plainFor_of_name pn_com_example_grepo_grepo_internal_query_OperatorTakesCollectionPinLaw) hisR ?_
  intro p e s m args below meth c s₁ Bd hml0 hP hK
  obtain ⟨rfl, hZ, hh⟩ := hP
  have hx := Bd.exec
  have hby := Bd.bytes
  have hml : c.maxLocals = 4 := hml0
  have hown : s.vm.findClass "com/example/grepo/grepo/internal/query/OperatorTakesCollectionPinLaw" = some m.cls := findClass_of_methodNamed Bd.named
  have hnm := (name_of_methodNamed Bd.named Bd.method).1
  have X0 : Stand p l e room_1 s m #[(.int p113)] below meth c s₁ [] 0 0 := Stand.of_body Bd
  have e0 : s₁.heap = h0 := by rw [← hh, Bd.state]; rfl
  have N0 := Fr.nil n0
  have pre0 : ∀ t, Steps p.tables e below (s₁.setTop (mkF m 0 #[.val (.int p113), .unset, .unset, .unset] [])) t → Steps p.tables e below (s₁.setTop (entryFrame m #[(.int p113)] maxLocals)) t := fun t k => castTop (ef_0_v m p113) k
  obtain ⟨_, _, ⟨T117, L117, k117, n117⟩, -, X117, ⟨Lc117, hQ117, l117, y117, z117⟩, st117⟩ := Jvm.LawKit.callS X0 hx (y := (⟨"com/example/grepo/grepo/internal/query/OperatorTakesCollectionPinLaw", "pick", "(I)Lcom/example/grepo/grepo/internal/query/Operator;"⟩ : MethodName)) hown (mvT hZ (hw _ (List.mem_of_getElem? (i := 1) rfl))) (mvT hZ (hw _ (List.mem_of_getElem? (i := 2) rfl))) (mvT hZ (hw _ (List.mem_of_getElem? (i := 3) rfl))) (mvT hZ (hw _ (List.mem_of_getElem? (i := 4) rfl))) (by decide) (backOf (W := 0) (r1_8 l Z a0 hw ((p113 &&& (2147483647 : Int32)) % (18 : Int32)) w118 h0 n0 Z0 H0 H1 H2 H3 H4 H5 H6 H7 H8) hZ (hw _ (List.mem_of_getElem? (i := 4) rfl)) (hw _ (List.mem_of_getElem? (i := 3) rfl)) (by decide) (by decide)) (g := (mkF m 9 #[.val (.int p113), .val (.int ((p113 &&& (2147483647 : Int32)) % (18 : Int32))), .unset, .unset] [(.int ((p113 &&& (2147483647 : Int32)) % (18 : Int32)))])) rfl (by rw [hml]; rfl) (argsL := [(.int ((p113 &&& (2147483647 : Int32)) % (18 : Int32)))]) (rest := []) (lenOf pd_0 rfl) rfl (by show 2 * 0 + _ ≤ _; exact Nat.le_of_eq rfl) (hb hby at_9) (fun _ _ => ⟨rfl, e0, (by decide : 0 + 0 ≤ _), (by decide : 0 + 0 ≤ _)⟩)
  dsimp only [Pt.U, Pt.locs, Pt.cells, Pt.slots] at X117 l117 y117 z117 st117 hQ117
  subst l117 y117 z117
  obtain ⟨rfl, N117q, e117⟩ := hQ117
  have N117 := Fr.app N0 N117q
  obtain ⟨cq124, kq124, q124a, q124b, q124c⟩ := isOf hZ e117 H13
  obtain ⟨_, _, ⟨T124, L124, k124, n124⟩, -, X124, ⟨Lc124, hQ124, l124, y124, z124⟩, st124⟩ := X117.virtualBack hx (y := (⟨"com/example/grepo/grepo/internal/query/Operator", "takesCollection", "()Z"⟩ : MethodName)) (z := (⟨"com/example/grepo/grepo/internal/query/Operator", "takesCollection", "()Z"⟩ : MethodName)) hown (mvT hZ (hw _ (List.mem_of_getElem? (i := 8) rfl))) (mvT hZ (hw _ (List.mem_of_getElem? (i := 9) rfl))) (notFace_of_selects (args := #[]) (mvT hZ (hw _ (List.mem_of_getElem? (i := 11) rfl)))) (mvT hZ (hw _ (List.mem_of_getElem? (i := 11) rfl))) (mvT hZ (hw _ (List.mem_of_getElem? (i := 10) rfl))) (by decide) (backOf (W := 0) (r2_1 l Z a0 hw w118 w125 w126 h0 n0 Z0 H9 H10 H11 H12) hZ (hw _ (List.mem_of_getElem? (i := 12) rfl)) (hw _ (List.mem_of_getElem? (i := 6) rfl)) (by decide) (by decide)) q124a q124c (g := (mkF m 14 #[.val (.int p113), .val (.int ((p113 &&& (2147483647 : Int32)) % (18 : Int32))), .val (.ref w118), .unset] [(.ref w118)])) rfl (by rw [hml]; rfl) (Steps.refl _) (argsL := []) (rest := []) (lenOf pd_1 rfl) rfl (by show 2 * 0 + _ ≤ _; exact Nat.le_of_eq rfl) (hb hby at_14) (fun _ _ => ⟨rfl, e117, (by decide : 0 + 0 ≤ _), (by decide : 0 + 0 ≤ _)⟩)
  dsimp only [Pt.U, Pt.locs, Pt.cells, Pt.slots] at X124 l124 y124 z124 st124 hQ124
  subst l124 y124 z124
  obtain ⟨rfl, N124q, e124⟩ := hQ124
  have N124 := Fr.app N117 N124q
  obtain ⟨_, _, ⟨T128, L128, k128, n128⟩, -, X128, ⟨Lc128, hQ128, l128, y128, z128⟩, st128⟩ := Jvm.LawKit.callS X124 hx (y := (⟨"com/example/grepo/grepo/internal/query/OperatorTakesCollectionPinLaw", "expected", "(I)Z"⟩ : MethodName)) hown (mvT hZ (hw _ (List.mem_of_getElem? (i := 17) rfl))) (mvT hZ (hw _ (List.mem_of_getElem? (i := 18) rfl))) (mvT hZ (hw _ (List.mem_of_getElem? (i := 3) rfl))) (mvT hZ (hw _ (List.mem_of_getElem? (i := 19) rfl))) (by decide) (backOf (W := 1) (r3_1 l Z a0 hw ((p113 &&& (2147483647 : Int32)) % (18 : Int32)) h0 n0 Z0 H14 H15) hZ (hw _ (List.mem_of_getElem? (i := 19) rfl)) (hw _ (List.mem_of_getElem? (i := 3) rfl)) (by decide) (by decide)) (g := (mkF m 20 #[.val (.int p113), .val (.int ((p113 &&& (2147483647 : Int32)) % (18 : Int32))), .val (.ref w118), .val (.int (0 : Int32))] [(.int ((p113 &&& (2147483647 : Int32)) % (18 : Int32))), (.int (0 : Int32))])) rfl (by rw [hml]; rfl) (argsL := [(.int ((p113 &&& (2147483647 : Int32)) % (18 : Int32)))]) (rest := [(.int (0 : Int32))]) (lenOf pd_2 rfl) rfl (by show 2 * 0 + _ ≤ _; exact Nat.le_of_eq rfl) (hb hby at_20) (fun _ _ => ⟨rfl, e124, (by decide : 0 + 0 ≤ _), (by decide : 0 + 0 ≤ _)⟩)
  dsimp only [Pt.U, Pt.locs, Pt.cells, Pt.slots] at X128 l128 y128 z128 st128 hQ128
  subst l128 y128 z128
  obtain ⟨rfl, N128q, e128⟩ := hQ128
  have N128 := Fr.app N124 N128q
  obtain ⟨fs, hr, hrun, hended, hW, hsame⟩ := X128.leave (v := some (.int (1 : Int32))) (fun h => by rw [Bd.returns] at h; cases h)
  refine ⟨_, _, pre0 _ ?_, hrun, hended, _, _, rfl, ?_, ⟨_, rfl⟩, hW, hsame.mono (by decide) (by decide)⟩
  · show Steps p.tables e below (s₁.setTop (mkF m 0 #[.val (.int p113), .unset, .unset, .unset] [])) _
    refine XS.iloadN X0.here hx rfl (hb hby at_0) rfl ?_
    show Steps p.tables e below (s₁.setTop (mkF m 1 #[.val (.int p113), .unset, .unset, .unset] [(.int p113)])) _
    refine X0.ldcInt hx hown (mvT hZ (hw _ (List.mem_of_getElem? (i := 0) rfl))) (g := (mkF m 1 #[.val (.int p113), .unset, .unset, .unset] [(.int p113)])) rfl (hb hby at_1) _ ?_
    show Steps p.tables e below (s₁.setTop (mkF m 3 #[.val (.int p113), .unset, .unset, .unset] [(.int (2147483647 : Int32)), (.int p113)])) _
    refine XS.iand X0.here hx rfl (hb hby at_3) rfl ?_
    show Steps p.tables e below (s₁.setTop (mkF m 4 #[.val (.int p113), .unset, .unset, .unset] [(.int (p113 &&& (2147483647 : Int32)))])) _
    refine XS.bipush X0.here hx rfl (hb hby at_4) ?_
    show Steps p.tables e below (s₁.setTop (mkF m 6 #[.val (.int p113), .unset, .unset, .unset] [(.int (18 : Int32)), (.int (p113 &&& (2147483647 : Int32)))])) _
    refine iremM X0 hx rfl (hb hby at_6) rfl (by decide) ?_
    show Steps p.tables e below (s₁.setTop (mkF m 7 #[.val (.int p113), .unset, .unset, .unset] [(.int ((p113 &&& (2147483647 : Int32)) % (18 : Int32)))])) _
    refine XS.istoreN X0.here hx rfl (hb hby at_7) rfl (l' := #[.val (.int p113), .val (.int ((p113 &&& (2147483647 : Int32)) % (18 : Int32))), .unset, .unset]) rfl ?_
    show Steps p.tables e below (s₁.setTop (mkF m 8 #[.val (.int p113), .val (.int ((p113 &&& (2147483647 : Int32)) % (18 : Int32))), .unset, .unset] [])) _
    refine XS.iloadN X0.here hx rfl (hb hby at_8) rfl ?_
    show Steps p.tables e below (s₁.setTop (mkF m 9 #[.val (.int p113), .val (.int ((p113 &&& (2147483647 : Int32)) % (18 : Int32))), .unset, .unset] [(.int ((p113 &&& (2147483647 : Int32)) % (18 : Int32)))])) _
    refine st117 _ ?_
    show Steps p.tables e below (T117.setTop (mkF m 12 #[.val (.int p113), .val (.int ((p113 &&& (2147483647 : Int32)) % (18 : Int32))), .unset, .unset] [(.ref w118)])) _
    refine XS.astoreN X117.here hx rfl (hb hby at_12) rfl rfl (l' := #[.val (.int p113), .val (.int ((p113 &&& (2147483647 : Int32)) % (18 : Int32))), .val (.ref w118), .unset]) rfl ?_
    show Steps p.tables e below (T117.setTop (mkF m 13 #[.val (.int p113), .val (.int ((p113 &&& (2147483647 : Int32)) % (18 : Int32))), .val (.ref w118), .unset] [])) _
    refine XS.aloadN X117.here hx rfl (hb hby at_13) rfl rfl ?_
    show Steps p.tables e below (T117.setTop (mkF m 14 #[.val (.int p113), .val (.int ((p113 &&& (2147483647 : Int32)) % (18 : Int32))), .val (.ref w118), .unset] [(.ref w118)])) _
    refine st124.trans ?_
    show Steps p.tables e below (T124.setTop (mkF m 17 #[.val (.int p113), .val (.int ((p113 &&& (2147483647 : Int32)) % (18 : Int32))), .val (.ref w118), .unset] [(.int (0 : Int32))])) _
    refine XS.istoreN X124.here hx rfl (hb hby at_17) rfl (l' := #[.val (.int p113), .val (.int ((p113 &&& (2147483647 : Int32)) % (18 : Int32))), .val (.ref w118), .val (.int (0 : Int32))]) rfl ?_
    show Steps p.tables e below (T124.setTop (mkF m 18 #[.val (.int p113), .val (.int ((p113 &&& (2147483647 : Int32)) % (18 : Int32))), .val (.ref w118), .val (.int (0 : Int32))] [])) _
    refine XS.iloadN X124.here hx rfl (hb hby at_18) rfl ?_
    show Steps p.tables e below (T124.setTop (mkF m 19 #[.val (.int p113), .val (.int ((p113 &&& (2147483647 : Int32)) % (18 : Int32))), .val (.ref w118), .val (.int (0 : Int32))] [(.int (0 : Int32))])) _
    refine XS.iloadN X124.here hx rfl (hb hby at_19) rfl ?_
    show Steps p.tables e below (T124.setTop (mkF m 20 #[.val (.int p113), .val (.int ((p113 &&& (2147483647 : Int32)) % (18 : Int32))), .val (.ref w118), .val (.int (0 : Int32))] [(.int ((p113 &&& (2147483647 : Int32)) % (18 : Int32))), (.int (0 : Int32))])) _
    refine st128 _ ?_
    show Steps p.tables e below (T128.setTop (mkF m 23 #[.val (.int p113), .val (.int ((p113 &&& (2147483647 : Int32)) % (18 : Int32))), .val (.ref w118), .val (.int (0 : Int32))] [(.int (0 : Int32)), (.int (0 : Int32))])) _
    refine XS.icmpYes X128.here hx rfl (pc0 := 23) (pc' := 28) rfl (hb hby at_23) rfl (teq (rfl : (0 : Int32) = (0 : Int32))).1 (by decide) (by decide) ?_
    show Steps p.tables e below (T128.setTop (mkF m 28 #[.val (.int p113), .val (.int ((p113 &&& (2147483647 : Int32)) % (18 : Int32))), .val (.ref w118), .val (.int (0 : Int32))] [])) _
    refine XS.iloadN X128.here hx rfl (hb hby at_28) rfl ?_
    show Steps p.tables e below (T128.setTop (mkF m 29 #[.val (.int p113), .val (.int ((p113 &&& (2147483647 : Int32)) % (18 : Int32))), .val (.ref w118), .val (.int (0 : Int32))] [(.int (0 : Int32))])) _
    refine XS.ifYes X128.here hx rfl (pc0 := 29) (pc' := 42) rfl (hb hby at_29) rfl ((if0 _ _).trans (teq (rfl : (0 : Int32) = (0 : Int32))).1) (by decide) (by decide) ?_
    show Steps p.tables e below (T128.setTop (mkF m 42 #[.val (.int p113), .val (.int ((p113 &&& (2147483647 : Int32)) % (18 : Int32))), .val (.ref w118), .val (.int (0 : Int32))] [])) _
    refine XS.iconst X128.here hx rfl (hb hby at_42) ?_
    show Steps p.tables e below (T128.setTop (mkF m 43 #[.val (.int p113), .val (.int ((p113 &&& (2147483647 : Int32)) % (18 : Int32))), .val (.ref w118), .val (.int (0 : Int32))] [(.int (1 : Int32))])) _
    exact retN X128 hx (t := .boolean) Bd.returns (by simp) (hb hby at_43) hr
  · show OQl (some (.int (1 : Int32))) n0 _ T128.heap _
    exact ⟨rfl, N128⟩
theorem d1_73 : decode method_2_code 73 = .ok (.iload_n 0, 1) := by decide +kernel
theorem d1_74 : decode method_2_code 74 = .ok (.bipush 8, 2) := by decide +kernel
theorem d1_76 : decode method_2_code 76 = .ok (.if_icmp .ne 7, 3) := by decide +kernel
theorem d1_79 : decode method_2_code 79 = .ok (.getstatic 34, 3) := by decide +kernel
theorem d1_82 : decode method_2_code 82 = .ok (.areturn, 1) := by decide +kernel
set_option maxRecDepth 65536 in
set_option maxHeartbeats 40000000 in
theorem r1_9 (l : Launch) (Z : State) (a0 : Array Value) (hw : ∀ d ∈ tables_1, d.before a0 Z = true) (p130 : Int32) (w131 : Addr) (h0 : Heap) (n0 : Nat) (Z0 : n0 ≤ h0.size) (H0 : ¬ (p130 = (0 : Int32))) (H1 : ¬ (p130 = (1 : Int32))) (H2 : ¬ (p130 = (2 : Int32))) (H3 : ¬ (p130 = (3 : Int32))) (H4 : ¬ (p130 = (4 : Int32))) (H5 : ¬ (p130 = (5 : Int32))) (H6 : ¬ (p130 = (6 : Int32))) (H7 : ¬ (p130 = (7 : Int32))) (H8 : p130 = (8 : Int32)) (H9 : Sta Z h0 "com/example/grepo/grepo/internal/query/Operator" "IS_NOT_NULL" "Lcom/example/grepo/grepo/internal/query/Operator;" (.ref w131)) :
    OMet l Z (⟨"com/example/grepo/grepo/internal/query/OperatorTakesCollectionPinLaw", "pick", "(I)Lcom/example/grepo/grepo/internal/query/Operator;"⟩ : MethodName) method_2_code 1 (some (.object "com/example/grepo/grepo/internal/query/Operator")) [] ({ frames := 0, cells := 0, slots := 0, locals := 0 } : Room) h0 #[(.int p130)] (OQp (some (.ref w131)) h0 n0) := by
  refine MetFree.of_bodySF (plainFor_of_name pn_com_example_grepo_grepo_internal_query_OperatorTakesCollectionPinLaw) hisR ?_
  intro p e s m args below meth c s₁ Bd hml0 hP hK
  obtain ⟨rfl, hZ, hh⟩ := hP
  have hx := Bd.exec
  have hby := Bd.bytes
  have hml : c.maxLocals = 1 := hml0
  have hown : s.vm.findClass "com/example/grepo/grepo/internal/query/OperatorTakesCollectionPinLaw" = some m.cls := findClass_of_methodNamed Bd.named
  have hnm := (name_of_methodNamed Bd.named Bd.method).1
  have X0 : Stand p l e ({ frames := 0, cells := 0, slots := 0, locals := 0 } : Room) s m #[(.int p130)] below meth c s₁ [] 0 0 := Stand.of_body Bd
  have e0 : s₁.heap = h0 := by rw [← hh, Bd.state]; rfl
  have N0 := Fr.nil n0
  have pre0 : ∀ t, Steps p.tables e below (s₁.setTop (mkF m 0 #[.val (.int p130)] [])) t → Steps p.tables e below (s₁.setTop (entryFrame m #[(.int p130)] 1)) t := fun t k => castTop (ef_1_v m p130) k
  obtain ⟨T132, X132, e132, st132⟩ := getS2 X0 hx hZ hown (host := "") (Or.inl (hw _ (List.mem_of_getElem? (i := 32) rfl))) Via.refl e0 H9 (g := (mkF m 79 #[.val (.int p130)] [])) rfl (hb hby d1_79)
  obtain ⟨fs, hr, hrun, hended, hW, hsame⟩ := X132.leave (v := some (.ref w131)) (fun h => by rw [Bd.returns] at h; cases h)
  refine ⟨_, _, pre0 _ ?_, hrun, hended, _, _, rfl, ?_, ⟨_, rfl⟩, hW, hsame.mono (by decide) (by decide)⟩
  · show Steps p.tables e below (s₁.setTop (mkF m 0 #[.val (.int p130)] [])) _
    refine XS.iloadN X0.here hx rfl (hb hby d1_0) rfl ?_
    show Steps p.tables e below (s₁.setTop (mkF m 1 #[.val (.int p130)] [(.int p130)])) _
    refine XS.ifYes X0.here hx rfl (pc0 := 1) (pc' := 8) rfl (hb hby d1_1) rfl ((if0 _ _).trans (feq H0).2) (by decide) (by decide) ?_
    show Steps p.tables e below (s₁.setTop (mkF m 8 #[.val (.int p130)] [])) _
    refine XS.iloadN X0.here hx rfl (hb hby d1_8) rfl ?_
    show Steps p.tables e below (s₁.setTop (mkF m 9 #[.val (.int p130)] [(.int p130)])) _
    refine XS.iconst X0.here hx rfl (hb hby d1_9) ?_
    show Steps p.tables e below (s₁.setTop (mkF m 10 #[.val (.int p130)] [(.int (1 : Int32)), (.int p130)])) _
    refine XS.icmpYes X0.here hx rfl (pc0 := 10) (pc' := 17) rfl (hb hby d1_10) rfl (feq H1).2 (by decide) (by decide) ?_
    show Steps p.tables e below (s₁.setTop (mkF m 17 #[.val (.int p130)] [])) _
    refine XS.iloadN X0.here hx rfl (hb hby d1_17) rfl ?_
    show Steps p.tables e below (s₁.setTop (mkF m 18 #[.val (.int p130)] [(.int p130)])) _
    refine XS.iconst X0.here hx rfl (hb hby d1_18) ?_
    show Steps p.tables e below (s₁.setTop (mkF m 19 #[.val (.int p130)] [(.int (2 : Int32)), (.int p130)])) _
    refine XS.icmpYes X0.here hx rfl (pc0 := 19) (pc' := 26) rfl (hb hby d1_19) rfl (feq H2).2 (by decide) (by decide) ?_
    show Steps p.tables e below (s₁.setTop (mkF m 26 #[.val (.int p130)] [])) _
    refine XS.iloadN X0.here hx rfl (hb hby d1_26) rfl ?_
    show Steps p.tables e below (s₁.setTop (mkF m 27 #[.val (.int p130)] [(.int p130)])) _
    refine XS.iconst X0.here hx rfl (hb hby d1_27) ?_
    show Steps p.tables e below (s₁.setTop (mkF m 28 #[.val (.int p130)] [(.int (3 : Int32)), (.int p130)])) _
    refine XS.icmpYes X0.here hx rfl (pc0 := 28) (pc' := 35) rfl (hb hby d1_28) rfl (feq H3).2 (by decide) (by decide) ?_
    show Steps p.tables e below (s₁.setTop (mkF m 35 #[.val (.int p130)] [])) _
    refine XS.iloadN X0.here hx rfl (hb hby d1_35) rfl ?_
    show Steps p.tables e below (s₁.setTop (mkF m 36 #[.val (.int p130)] [(.int p130)])) _
    refine XS.iconst X0.here hx rfl (hb hby d1_36) ?_
    show Steps p.tables e below (s₁.setTop (mkF m 37 #[.val (.int p130)] [(.int (4 : Int32)), (.int p130)])) _
    refine XS.icmpYes X0.here hx rfl (pc0 := 37) (pc' := 44) rfl (hb hby d1_37) rfl (feq H4).2 (by decide) (by decide) ?_
    show Steps p.tables e below (s₁.setTop (mkF m 44 #[.val (.int p130)] [])) _
    refine XS.iloadN X0.here hx rfl (hb hby d1_44) rfl ?_
    show Steps p.tables e below (s₁.setTop (mkF m 45 #[.val (.int p130)] [(.int p130)])) _
    refine XS.iconst X0.here hx rfl (hb hby d1_45) ?_
    show Steps p.tables e below (s₁.setTop (mkF m 46 #[.val (.int p130)] [(.int (5 : Int32)), (.int p130)])) _
    refine XS.icmpYes X0.here hx rfl (pc0 := 46) (pc' := 53) rfl (hb hby d1_46) rfl (feq H5).2 (by decide) (by decide) ?_
    show Steps p.tables e below (s₁.setTop (mkF m 53 #[.val (.int p130)] [])) _
    refine XS.iloadN X0.here hx rfl (hb hby d1_53) rfl ?_
    show Steps p.tables e below (s₁.setTop (mkF m 54 #[.val (.int p130)] [(.int p130)])) _
    refine XS.bipush X0.here hx rfl (hb hby d1_54) ?_
    show Steps p.tables e below (s₁.setTop (mkF m 56 #[.val (.int p130)] [(.int (6 : Int32)), (.int p130)])) _
    refine XS.icmpYes X0.here hx rfl (pc0 := 56) (pc' := 63) rfl (hb hby d1_56) rfl (feq H6).2 (by decide) (by decide) ?_
    show Steps p.tables e below (s₁.setTop (mkF m 63 #[.val (.int p130)] [])) _
    refine XS.iloadN X0.here hx rfl (hb hby d1_63) rfl ?_
    show Steps p.tables e below (s₁.setTop (mkF m 64 #[.val (.int p130)] [(.int p130)])) _
    refine XS.bipush X0.here hx rfl (hb hby d1_64) ?_
    show Steps p.tables e below (s₁.setTop (mkF m 66 #[.val (.int p130)] [(.int (7 : Int32)), (.int p130)])) _
    refine XS.icmpYes X0.here hx rfl (pc0 := 66) (pc' := 73) rfl (hb hby d1_66) rfl (feq H7).2 (by decide) (by decide) ?_
    show Steps p.tables e below (s₁.setTop (mkF m 73 #[.val (.int p130)] [])) _
    refine XS.iloadN X0.here hx rfl (hb hby d1_73) rfl ?_
    show Steps p.tables e below (s₁.setTop (mkF m 74 #[.val (.int p130)] [(.int p130)])) _
    refine XS.bipush X0.here hx rfl (hb hby d1_74) ?_
    show Steps p.tables e below (s₁.setTop (mkF m 76 #[.val (.int p130)] [(.int (8 : Int32)), (.int p130)])) _
    refine XS.icmpNo X0.here hx rfl (hb hby d1_76) rfl (teq H8).2 ?_
    show Steps p.tables e below (s₁.setTop (mkF m 79 #[.val (.int p130)] [])) _
    refine st132 _ ?_
    show Steps p.tables e below (T132.setTop (mkF m 82 #[.val (.int p130)] [(.ref w131)])) _
    jvm_step X132.here [X132.here.top, hx, (hb hby d1_82), X132.method', Bd.returns, Value.isRef, FieldType.isReference]
    first | (intro acts; rw [hr _ acts rfl rfl rfl]) | rw [hr _ _ rfl rfl rfl]
    exact Steps.refl _
  · show OQp (some (.ref w131)) h0 n0 _ T132.heap _
    rw [e132]
    exact ⟨rfl, N0, rfl⟩
set_option maxRecDepth 65536 in
set_option maxHeartbeats 40000000 in
theorem r0_9 (l : Launch) (Z : State) (a0 : Array Value) (hw : ∀ d ∈ tables_1, d.before a0 Z = true) (p129 : Int32) (w134 : Addr) (w141 : Addr) (w142 : Addr) (h0 : Heap) (n0 : Nat) (Z0 : n0 ≤ h0.size) (H0 : ¬ (((p129 &&& (2147483647 : Int32)) % (18 : Int32)) = (0 : Int32))) (H1 : ¬ (((p129 &&& (2147483647 : Int32)) % (18 : Int32)) = (1 : Int32))) (H2 : ¬ (((p129 &&& (2147483647 : Int32)) % (18 : Int32)) = (2 : Int32))) (H3 : ¬ (((p129 &&& (2147483647 : Int32)) % (18 : Int32)) = (3 : Int32))) (H4 : ¬ (((p129 &&& (2147483647 : Int32)) % (18 : Int32)) = (4 : Int32))) (H5 : ¬ (((p129 &&& (2147483647 : Int32)) % (18 : Int32)) = (5 : Int32))) (H6 : ¬ (((p129 &&& (2147483647 : Int32)) % (18 : Int32)) = (6 : Int32))) (H7 : ¬ (((p129 &&& (2147483647 : Int32)) % (18 : Int32)) = (7 : Int32))) (H8 : ((p129 &&& (2147483647 : Int32)) % (18 : Int32)) = (8 : Int32)) (H9 : Sta Z h0 "com/example/grepo/grepo/internal/query/Operator" "IS_NOT_NULL" "Lcom/example/grepo/grepo/internal/query/Operator;" (.ref w134)) (H10 : Sta Z h0 "com/example/grepo/grepo/internal/query/Operator" "IN" "Lcom/example/grepo/grepo/internal/query/Operator;" (.ref w141)) (H11 : w134 ≠ w141) (H12 : Sta Z h0 "com/example/grepo/grepo/internal/query/Operator" "NOT_IN" "Lcom/example/grepo/grepo/internal/query/Operator;" (.ref w142)) (H13 : w134 ≠ w142) (H14 : Exa Z h0 w134 "com/example/grepo/grepo/internal/query/Operator") (H15 : ¬ (((p129 &&& (2147483647 : Int32)) % (18 : Int32)) = (9 : Int32))) (H16 : ¬ (((p129 &&& (2147483647 : Int32)) % (18 : Int32)) = (10 : Int32))) :
    OMet l Z x code maxLocals ret tables_1 room_1 h0 #[(.int p129)] (OQl (some (.int (1 : Int32))) n0) := by
  refine MetFree.of_bodySF (plainFor_of_name pn_com_example_grepo_grepo_internal_query_OperatorTakesCollectionPinLaw) hisR ?_
  intro p e s m args below meth c s₁ Bd hml0 hP hK
  obtain ⟨rfl, hZ, hh⟩ := hP
  have hx := Bd.exec
  have hby := Bd.bytes
  have hml : c.maxLocals = 4 := hml0
  have hown : s.vm.findClass "com/example/grepo/grepo/internal/query/OperatorTakesCollectionPinLaw" = some m.cls := findClass_of_methodNamed Bd.named
  have hnm := (name_of_methodNamed Bd.named Bd.method).1
  have X0 : Stand p l e room_1 s m #[(.int p129)] below meth c s₁ [] 0 0 := Stand.of_body Bd
  have e0 : s₁.heap = h0 := by rw [← hh, Bd.state]; rfl
  have N0 := Fr.nil n0
  have pre0 : ∀ t, Steps p.tables e below (s₁.setTop (mkF m 0 #[.val (.int p129), .unset, .unset, .unset] [])) t → Steps p.tables e below (s₁.setTop (entryFrame m #[(.int p129)] maxLocals)) t := fun t k => castTop (ef_0_v m p129) k
  obtain ⟨_, _, ⟨T133, L133, k133, n133⟩, -, X133, ⟨Lc133, hQ133, l133, y133, z133⟩, st133⟩ := Jvm.LawKit.callS X0 hx (y := (⟨"com/example/grepo/grepo/internal/query/OperatorTakesCollectionPinLaw", "pick", "(I)Lcom/example/grepo/grepo/internal/query/Operator;"⟩ : MethodName)) hown (mvT hZ (hw _ (List.mem_of_getElem? (i := 1) rfl))) (mvT hZ (hw _ (List.mem_of_getElem? (i := 2) rfl))) (mvT hZ (hw _ (List.mem_of_getElem? (i := 3) rfl))) (mvT hZ (hw _ (List.mem_of_getElem? (i := 4) rfl))) (by decide) (backOf (W := 0) (r1_9 l Z a0 hw ((p129 &&& (2147483647 : Int32)) % (18 : Int32)) w134 h0 n0 Z0 H0 H1 H2 H3 H4 H5 H6 H7 H8 H9) hZ (hw _ (List.mem_of_getElem? (i := 4) rfl)) (hw _ (List.mem_of_getElem? (i := 3) rfl)) (by decide) (by decide)) (g := (mkF m 9 #[.val (.int p129), .val (.int ((p129 &&& (2147483647 : Int32)) % (18 : Int32))), .unset, .unset] [(.int ((p129 &&& (2147483647 : Int32)) % (18 : Int32)))])) rfl (by rw [hml]; rfl) (argsL := [(.int ((p129 &&& (2147483647 : Int32)) % (18 : Int32)))]) (rest := []) (lenOf pd_0 rfl) rfl (by show 2 * 0 + _ ≤ _; exact Nat.le_of_eq rfl) (hb hby at_9) (fun _ _ => ⟨rfl, e0, (by decide : 0 + 0 ≤ _), (by decide : 0 + 0 ≤ _)⟩)
  dsimp only [Pt.U, Pt.locs, Pt.cells, Pt.slots] at X133 l133 y133 z133 st133 hQ133
  subst l133 y133 z133
  obtain ⟨rfl, N133q, e133⟩ := hQ133
  have N133 := Fr.app N0 N133q
  obtain ⟨cq140, kq140, q140a, q140b, q140c⟩ := isOf hZ e133 H14
  obtain ⟨_, _, ⟨T140, L140, k140, n140⟩, -, X140, ⟨Lc140, hQ140, l140, y140, z140⟩, st140⟩ := X133.virtualBack hx (y := (⟨"com/example/grepo/grepo/internal/query/Operator", "takesCollection", "()Z"⟩ : MethodName)) (z := (⟨"com/example/grepo/grepo/internal/query/Operator", "takesCollection", "()Z"⟩ : MethodName)) hown (mvT hZ (hw _ (List.mem_of_getElem? (i := 8) rfl))) (mvT hZ (hw _ (List.mem_of_getElem? (i := 9) rfl))) (notFace_of_selects (args := #[]) (mvT hZ (hw _ (List.mem_of_getElem? (i := 11) rfl)))) (mvT hZ (hw _ (List.mem_of_getElem? (i := 11) rfl))) (mvT hZ (hw _ (List.mem_of_getElem? (i := 10) rfl))) (by decide) (backOf (W := 0) (r2_1 l Z a0 hw w134 w141 w142 h0 n0 Z0 H10 H11 H12 H13) hZ (hw _ (List.mem_of_getElem? (i := 12) rfl)) (hw _ (List.mem_of_getElem? (i := 6) rfl)) (by decide) (by decide)) q140a q140c (g := (mkF m 14 #[.val (.int p129), .val (.int ((p129 &&& (2147483647 : Int32)) % (18 : Int32))), .val (.ref w134), .unset] [(.ref w134)])) rfl (by rw [hml]; rfl) (Steps.refl _) (argsL := []) (rest := []) (lenOf pd_1 rfl) rfl (by show 2 * 0 + _ ≤ _; exact Nat.le_of_eq rfl) (hb hby at_14) (fun _ _ => ⟨rfl, e133, (by decide : 0 + 0 ≤ _), (by decide : 0 + 0 ≤ _)⟩)
  dsimp only [Pt.U, Pt.locs, Pt.cells, Pt.slots] at X140 l140 y140 z140 st140 hQ140
  subst l140 y140 z140
  obtain ⟨rfl, N140q, e140⟩ := hQ140
  have N140 := Fr.app N133 N140q
  obtain ⟨_, _, ⟨T144, L144, k144, n144⟩, -, X144, ⟨Lc144, hQ144, l144, y144, z144⟩, st144⟩ := Jvm.LawKit.callS X140 hx (y := (⟨"com/example/grepo/grepo/internal/query/OperatorTakesCollectionPinLaw", "expected", "(I)Z"⟩ : MethodName)) hown (mvT hZ (hw _ (List.mem_of_getElem? (i := 17) rfl))) (mvT hZ (hw _ (List.mem_of_getElem? (i := 18) rfl))) (mvT hZ (hw _ (List.mem_of_getElem? (i := 3) rfl))) (mvT hZ (hw _ (List.mem_of_getElem? (i := 19) rfl))) (by decide) (backOf (W := 1) (r3_1 l Z a0 hw ((p129 &&& (2147483647 : Int32)) % (18 : Int32)) h0 n0 Z0 H15 H16) hZ (hw _ (List.mem_of_getElem? (i := 19) rfl)) (hw _ (List.mem_of_getElem? (i := 3) rfl)) (by decide) (by decide)) (g := (mkF m 20 #[.val (.int p129), .val (.int ((p129 &&& (2147483647 : Int32)) % (18 : Int32))), .val (.ref w134), .val (.int (0 : Int32))] [(.int ((p129 &&& (2147483647 : Int32)) % (18 : Int32))), (.int (0 : Int32))])) rfl (by rw [hml]; rfl) (argsL := [(.int ((p129 &&& (2147483647 : Int32)) % (18 : Int32)))]) (rest := [(.int (0 : Int32))]) (lenOf pd_2 rfl) rfl (by show 2 * 0 + _ ≤ _; exact Nat.le_of_eq rfl) (hb hby at_20) (fun _ _ => ⟨rfl, e140, (by decide : 0 + 0 ≤ _), (by decide : 0 + 0 ≤ _)⟩)
  dsimp only [Pt.U, Pt.locs, Pt.cells, Pt.slots] at X144 l144 y144 z144 st144 hQ144
  subst l144 y144 z144
  obtain ⟨rfl, N144q, e144⟩ := hQ144
  have N144 := Fr.app N140 N144q
  obtain ⟨fs, hr, hrun, hended, hW, hsame⟩ := X144.leave (v := some (.int (1 : Int32))) (fun h => by rw [Bd.returns] at h; cases h)
  refine ⟨_, _, pre0 _ ?_, hrun, hended, _, _, rfl, ?_, ⟨_, rfl⟩, hW, hsame.mono (by decide) (by decide)⟩
  · show Steps p.tables e below (s₁.setTop (mkF m 0 #[.val (.int p129), .unset, .unset, .unset] [])) _
    refine XS.iloadN X0.here hx rfl (hb hby at_0) rfl ?_
    show Steps p.tables e below (s₁.setTop (mkF m 1 #[.val (.int p129), .unset, .unset, .unset] [(.int p129)])) _
    refine X0.ldcInt hx hown (mvT hZ (hw _ (List.mem_of_getElem? (i := 0) rfl))) (g := (mkF m 1 #[.val (.int p129), .unset, .unset, .unset] [(.int p129)])) rfl (hb hby at_1) _ ?_
    show Steps p.tables e below (s₁.setTop (mkF m 3 #[.val (.int p129), .unset, .unset, .unset] [(.int (2147483647 : Int32)), (.int p129)])) _
    refine XS.iand X0.here hx rfl (hb hby at_3) rfl ?_
    show Steps p.tables e below (s₁.setTop (mkF m 4 #[.val (.int p129), .unset, .unset, .unset] [(.int (p129 &&& (2147483647 : Int32)))])) _
    refine XS.bipush X0.here hx rfl (hb hby at_4) ?_
    show Steps p.tables e below (s₁.setTop (mkF m 6 #[.val (.int p129), .unset, .unset, .unset] [(.int (18 : Int32)), (.int (p129 &&& (2147483647 : Int32)))])) _
    refine iremM X0 hx rfl (hb hby at_6) rfl (by decide) ?_
    show Steps p.tables e below (s₁.setTop (mkF m 7 #[.val (.int p129), .unset, .unset, .unset] [(.int ((p129 &&& (2147483647 : Int32)) % (18 : Int32)))])) _
    refine XS.istoreN X0.here hx rfl (hb hby at_7) rfl (l' := #[.val (.int p129), .val (.int ((p129 &&& (2147483647 : Int32)) % (18 : Int32))), .unset, .unset]) rfl ?_
    show Steps p.tables e below (s₁.setTop (mkF m 8 #[.val (.int p129), .val (.int ((p129 &&& (2147483647 : Int32)) % (18 : Int32))), .unset, .unset] [])) _
    refine XS.iloadN X0.here hx rfl (hb hby at_8) rfl ?_
    show Steps p.tables e below (s₁.setTop (mkF m 9 #[.val (.int p129), .val (.int ((p129 &&& (2147483647 : Int32)) % (18 : Int32))), .unset, .unset] [(.int ((p129 &&& (2147483647 : Int32)) % (18 : Int32)))])) _
    refine st133 _ ?_
    show Steps p.tables e below (T133.setTop (mkF m 12 #[.val (.int p129), .val (.int ((p129 &&& (2147483647 : Int32)) % (18 : Int32))), .unset, .unset] [(.ref w134)])) _
    refine XS.astoreN X133.here hx rfl (hb hby at_12) rfl rfl (l' := #[.val (.int p129), .val (.int ((p129 &&& (2147483647 : Int32)) % (18 : Int32))), .val (.ref w134), .unset]) rfl ?_
    show Steps p.tables e below (T133.setTop (mkF m 13 #[.val (.int p129), .val (.int ((p129 &&& (2147483647 : Int32)) % (18 : Int32))), .val (.ref w134), .unset] [])) _
    refine XS.aloadN X133.here hx rfl (hb hby at_13) rfl rfl ?_
    show Steps p.tables e below (T133.setTop (mkF m 14 #[.val (.int p129), .val (.int ((p129 &&& (2147483647 : Int32)) % (18 : Int32))), .val (.ref w134), .unset] [(.ref w134)])) _
    refine st140.trans ?_
    show Steps p.tables e below (T140.setTop (mkF m 17 #[.val (.int p129), .val (.int ((p129 &&& (2147483647 : Int32)) % (18 : Int32))), .val (.ref w134), .unset] [(.int (0 : Int32))])) _
    refine XS.istoreN X140.here hx rfl (hb hby at_17) rfl (l' := #[.val (.int p129), .val (.int ((p129 &&& (2147483647 : Int32)) % (18 : Int32))), .val (.ref w134), .val (.int (0 : Int32))]) rfl ?_
    show Steps p.tables e below (T140.setTop (mkF m 18 #[.val (.int p129), .val (.int ((p129 &&& (2147483647 : Int32)) % (18 : Int32))), .val (.ref w134), .val (.int (0 : Int32))] [])) _
    refine XS.iloadN X140.here hx rfl (hb hby at_18) rfl ?_
    show Steps p.tables e below (T140.setTop (mkF m 19 #[.val (.int p129), .val (.int ((p129 &&& (2147483647 : Int32)) % (18 : Int32))), .val (.ref w134), .val (.int (0 : Int32))] [(.int (0 : Int32))])) _
    refine XS.iloadN X140.here hx rfl (hb hby at_19) rfl ?_
    show Steps p.tables e below (T140.setTop (mkF m 20 #[.val (.int p129), .val (.int ((p129 &&& (2147483647 : Int32)) % (18 : Int32))), .val (.ref w134), .val (.int (0 : Int32))] [(.int ((p129 &&& (2147483647 : Int32)) % (18 : Int32))), (.int (0 : Int32))])) _
    refine st144 _ ?_
    show Steps p.tables e below (T144.setTop (mkF m 23 #[.val (.int p129), .val (.int ((p129 &&& (2147483647 : Int32)) % (18 : Int32))), .val (.ref w134), .val (.int (0 : Int32))] [(.int (0 : Int32)), (.int (0 : Int32))])) _
    refine XS.icmpYes X144.here hx rfl (pc0 := 23) (pc' := 28) rfl (hb hby at_23) rfl (teq (rfl : (0 : Int32) = (0 : Int32))).1 (by decide) (by decide) ?_
    show Steps p.tables e below (T144.setTop (mkF m 28 #[.val (.int p129), .val (.int ((p129 &&& (2147483647 : Int32)) % (18 : Int32))), .val (.ref w134), .val (.int (0 : Int32))] [])) _
    refine XS.iloadN X144.here hx rfl (hb hby at_28) rfl ?_
    show Steps p.tables e below (T144.setTop (mkF m 29 #[.val (.int p129), .val (.int ((p129 &&& (2147483647 : Int32)) % (18 : Int32))), .val (.ref w134), .val (.int (0 : Int32))] [(.int (0 : Int32))])) _
    refine XS.ifYes X144.here hx rfl (pc0 := 29) (pc' := 42) rfl (hb hby at_29) rfl ((if0 _ _).trans (teq (rfl : (0 : Int32) = (0 : Int32))).1) (by decide) (by decide) ?_
    show Steps p.tables e below (T144.setTop (mkF m 42 #[.val (.int p129), .val (.int ((p129 &&& (2147483647 : Int32)) % (18 : Int32))), .val (.ref w134), .val (.int (0 : Int32))] [])) _
    refine XS.iconst X144.here hx rfl (hb hby at_42) ?_
    show Steps p.tables e below (T144.setTop (mkF m 43 #[.val (.int p129), .val (.int ((p129 &&& (2147483647 : Int32)) % (18 : Int32))), .val (.ref w134), .val (.int (0 : Int32))] [(.int (1 : Int32))])) _
    exact retN X144 hx (t := .boolean) Bd.returns (by simp) (hb hby at_43) hr
  · show OQl (some (.int (1 : Int32))) n0 _ T144.heap _
    exact ⟨rfl, N144⟩
theorem d1_83 : decode method_2_code 83 = .ok (.iload_n 0, 1) := by decide +kernel
theorem d1_84 : decode method_2_code 84 = .ok (.bipush 9, 2) := by decide +kernel
theorem d1_86 : decode method_2_code 86 = .ok (.if_icmp .ne 7, 3) := by decide +kernel
theorem d1_89 : decode method_2_code 89 = .ok (.getstatic 37, 3) := by decide +kernel
theorem d1_92 : decode method_2_code 92 = .ok (.areturn, 1) := by decide +kernel
set_option maxRecDepth 65536 in
set_option maxHeartbeats 40000000 in
theorem r1_10 (l : Launch) (Z : State) (a0 : Array Value) (hw : ∀ d ∈ tables_1, d.before a0 Z = true) (p146 : Int32) (w147 : Addr) (h0 : Heap) (n0 : Nat) (Z0 : n0 ≤ h0.size) (H0 : ¬ (p146 = (0 : Int32))) (H1 : ¬ (p146 = (1 : Int32))) (H2 : ¬ (p146 = (2 : Int32))) (H3 : ¬ (p146 = (3 : Int32))) (H4 : ¬ (p146 = (4 : Int32))) (H5 : ¬ (p146 = (5 : Int32))) (H6 : ¬ (p146 = (6 : Int32))) (H7 : ¬ (p146 = (7 : Int32))) (H8 : ¬ (p146 = (8 : Int32))) (H9 : p146 = (9 : Int32)) (H10 : Sta Z h0 "com/example/grepo/grepo/internal/query/Operator" "IN" "Lcom/example/grepo/grepo/internal/query/Operator;" (.ref w147)) :
    OMet l Z (⟨"com/example/grepo/grepo/internal/query/OperatorTakesCollectionPinLaw", "pick", "(I)Lcom/example/grepo/grepo/internal/query/Operator;"⟩ : MethodName) method_2_code 1 (some (.object "com/example/grepo/grepo/internal/query/Operator")) [] ({ frames := 0, cells := 0, slots := 0, locals := 0 } : Room) h0 #[(.int p146)] (OQp (some (.ref w147)) h0 n0) := by
  refine MetFree.of_bodySF (plainFor_of_name pn_com_example_grepo_grepo_internal_query_OperatorTakesCollectionPinLaw) hisR ?_
  intro p e s m args below meth c s₁ Bd hml0 hP hK
  obtain ⟨rfl, hZ, hh⟩ := hP
  have hx := Bd.exec
  have hby := Bd.bytes
  have hml : c.maxLocals = 1 := hml0
  have hown : s.vm.findClass "com/example/grepo/grepo/internal/query/OperatorTakesCollectionPinLaw" = some m.cls := findClass_of_methodNamed Bd.named
  have hnm := (name_of_methodNamed Bd.named Bd.method).1
  have X0 : Stand p l e ({ frames := 0, cells := 0, slots := 0, locals := 0 } : Room) s m #[(.int p146)] below meth c s₁ [] 0 0 := Stand.of_body Bd
  have e0 : s₁.heap = h0 := by rw [← hh, Bd.state]; rfl
  have N0 := Fr.nil n0
  have pre0 : ∀ t, Steps p.tables e below (s₁.setTop (mkF m 0 #[.val (.int p146)] [])) t → Steps p.tables e below (s₁.setTop (entryFrame m #[(.int p146)] 1)) t := fun t k => castTop (ef_1_v m p146) k
  obtain ⟨T148, X148, e148, st148⟩ := getS2 X0 hx hZ hown (host := "") (Or.inl (hw _ (List.mem_of_getElem? (i := 58) rfl))) Via.refl e0 H10 (g := (mkF m 89 #[.val (.int p146)] [])) rfl (hb hby d1_89)
  obtain ⟨fs, hr, hrun, hended, hW, hsame⟩ := X148.leave (v := some (.ref w147)) (fun h => by rw [Bd.returns] at h; cases h)
  refine ⟨_, _, pre0 _ ?_, hrun, hended, _, _, rfl, ?_, ⟨_, rfl⟩, hW, hsame.mono (by decide) (by decide)⟩
  · show Steps p.tables e below (s₁.setTop (mkF m 0 #[.val (.int p146)] [])) _
    refine XS.iloadN X0.here hx rfl (hb hby d1_0) rfl ?_
    show Steps p.tables e below (s₁.setTop (mkF m 1 #[.val (.int p146)] [(.int p146)])) _
    refine XS.ifYes X0.here hx rfl (pc0 := 1) (pc' := 8) rfl (hb hby d1_1) rfl ((if0 _ _).trans (feq H0).2) (by decide) (by decide) ?_
    show Steps p.tables e below (s₁.setTop (mkF m 8 #[.val (.int p146)] [])) _
    refine XS.iloadN X0.here hx rfl (hb hby d1_8) rfl ?_
    show Steps p.tables e below (s₁.setTop (mkF m 9 #[.val (.int p146)] [(.int p146)])) _
    refine XS.iconst X0.here hx rfl (hb hby d1_9) ?_
    show Steps p.tables e below (s₁.setTop (mkF m 10 #[.val (.int p146)] [(.int (1 : Int32)), (.int p146)])) _
    refine XS.icmpYes X0.here hx rfl (pc0 := 10) (pc' := 17) rfl (hb hby d1_10) rfl (feq H1).2 (by decide) (by decide) ?_
    show Steps p.tables e below (s₁.setTop (mkF m 17 #[.val (.int p146)] [])) _
    refine XS.iloadN X0.here hx rfl (hb hby d1_17) rfl ?_
    show Steps p.tables e below (s₁.setTop (mkF m 18 #[.val (.int p146)] [(.int p146)])) _
    refine XS.iconst X0.here hx rfl (hb hby d1_18) ?_
    show Steps p.tables e below (s₁.setTop (mkF m 19 #[.val (.int p146)] [(.int (2 : Int32)), (.int p146)])) _
    refine XS.icmpYes X0.here hx rfl (pc0 := 19) (pc' := 26) rfl (hb hby d1_19) rfl (feq H2).2 (by decide) (by decide) ?_
    show Steps p.tables e below (s₁.setTop (mkF m 26 #[.val (.int p146)] [])) _
    refine XS.iloadN X0.here hx rfl (hb hby d1_26) rfl ?_
    show Steps p.tables e below (s₁.setTop (mkF m 27 #[.val (.int p146)] [(.int p146)])) _
    refine XS.iconst X0.here hx rfl (hb hby d1_27) ?_
    show Steps p.tables e below (s₁.setTop (mkF m 28 #[.val (.int p146)] [(.int (3 : Int32)), (.int p146)])) _
    refine XS.icmpYes X0.here hx rfl (pc0 := 28) (pc' := 35) rfl (hb hby d1_28) rfl (feq H3).2 (by decide) (by decide) ?_
    show Steps p.tables e below (s₁.setTop (mkF m 35 #[.val (.int p146)] [])) _
    refine XS.iloadN X0.here hx rfl (hb hby d1_35) rfl ?_
    show Steps p.tables e below (s₁.setTop (mkF m 36 #[.val (.int p146)] [(.int p146)])) _
    refine XS.iconst X0.here hx rfl (hb hby d1_36) ?_
    show Steps p.tables e below (s₁.setTop (mkF m 37 #[.val (.int p146)] [(.int (4 : Int32)), (.int p146)])) _
    refine XS.icmpYes X0.here hx rfl (pc0 := 37) (pc' := 44) rfl (hb hby d1_37) rfl (feq H4).2 (by decide) (by decide) ?_
    show Steps p.tables e below (s₁.setTop (mkF m 44 #[.val (.int p146)] [])) _
    refine XS.iloadN X0.here hx rfl (hb hby d1_44) rfl ?_
    show Steps p.tables e below (s₁.setTop (mkF m 45 #[.val (.int p146)] [(.int p146)])) _
    refine XS.iconst X0.here hx rfl (hb hby d1_45) ?_
    show Steps p.tables e below (s₁.setTop (mkF m 46 #[.val (.int p146)] [(.int (5 : Int32)), (.int p146)])) _
    refine XS.icmpYes X0.here hx rfl (pc0 := 46) (pc' := 53) rfl (hb hby d1_46) rfl (feq H5).2 (by decide) (by decide) ?_
    show Steps p.tables e below (s₁.setTop (mkF m 53 #[.val (.int p146)] [])) _
    refine XS.iloadN X0.here hx rfl (hb hby d1_53) rfl ?_
    show Steps p.tables e below (s₁.setTop (mkF m 54 #[.val (.int p146)] [(.int p146)])) _
    refine XS.bipush X0.here hx rfl (hb hby d1_54) ?_
    show Steps p.tables e below (s₁.setTop (mkF m 56 #[.val (.int p146)] [(.int (6 : Int32)), (.int p146)])) _
    refine XS.icmpYes X0.here hx rfl (pc0 := 56) (pc' := 63) rfl (hb hby d1_56) rfl (feq H6).2 (by decide) (by decide) ?_
    show Steps p.tables e below (s₁.setTop (mkF m 63 #[.val (.int p146)] [])) _
    refine XS.iloadN X0.here hx rfl (hb hby d1_63) rfl ?_
    show Steps p.tables e below (s₁.setTop (mkF m 64 #[.val (.int p146)] [(.int p146)])) _
    refine XS.bipush X0.here hx rfl (hb hby d1_64) ?_
    show Steps p.tables e below (s₁.setTop (mkF m 66 #[.val (.int p146)] [(.int (7 : Int32)), (.int p146)])) _
    refine XS.icmpYes X0.here hx rfl (pc0 := 66) (pc' := 73) rfl (hb hby d1_66) rfl (feq H7).2 (by decide) (by decide) ?_
    show Steps p.tables e below (s₁.setTop (mkF m 73 #[.val (.int p146)] [])) _
    refine XS.iloadN X0.here hx rfl (hb hby d1_73) rfl ?_
    show Steps p.tables e below (s₁.setTop (mkF m 74 #[.val (.int p146)] [(.int p146)])) _
    refine XS.bipush X0.here hx rfl (hb hby d1_74) ?_
    show Steps p.tables e below (s₁.setTop (mkF m 76 #[.val (.int p146)] [(.int (8 : Int32)), (.int p146)])) _
    refine XS.icmpYes X0.here hx rfl (pc0 := 76) (pc' := 83) rfl (hb hby d1_76) rfl (feq H8).2 (by decide) (by decide) ?_
    show Steps p.tables e below (s₁.setTop (mkF m 83 #[.val (.int p146)] [])) _
    refine XS.iloadN X0.here hx rfl (hb hby d1_83) rfl ?_
    show Steps p.tables e below (s₁.setTop (mkF m 84 #[.val (.int p146)] [(.int p146)])) _
    refine XS.bipush X0.here hx rfl (hb hby d1_84) ?_
    show Steps p.tables e below (s₁.setTop (mkF m 86 #[.val (.int p146)] [(.int (9 : Int32)), (.int p146)])) _
    refine XS.icmpNo X0.here hx rfl (hb hby d1_86) rfl (teq H9).2 ?_
    show Steps p.tables e below (s₁.setTop (mkF m 89 #[.val (.int p146)] [])) _
    refine st148 _ ?_
    show Steps p.tables e below (T148.setTop (mkF m 92 #[.val (.int p146)] [(.ref w147)])) _
    jvm_step X148.here [X148.here.top, hx, (hb hby d1_92), X148.method', Bd.returns, Value.isRef, FieldType.isReference]
    first | (intro acts; rw [hr _ acts rfl rfl rfl]) | rw [hr _ _ rfl rfl rfl]
    exact Steps.refl _
  · show OQp (some (.ref w147)) h0 n0 _ T148.heap _
    rw [e148]
    exact ⟨rfl, N0, rfl⟩
theorem d2_14 : decode prog_25_method_6_code 14 = .ok (.iconst 1, 1) := by decide +kernel
theorem d2_15 : decode prog_25_method_6_code 15 = .ok (.goto 4, 3) := by decide +kernel
set_option maxRecDepth 65536 in
set_option maxHeartbeats 40000000 in
theorem r2_2 (l : Launch) (Z : State) (a0 : Array Value) (hw : ∀ d ∈ tables_1, d.before a0 Z = true) (a151 : Addr) (w152 : Addr) (h0 : Heap) (n0 : Nat) (Z0 : n0 ≤ h0.size) (H0 : Sta Z h0 "com/example/grepo/grepo/internal/query/Operator" "IN" "Lcom/example/grepo/grepo/internal/query/Operator;" (.ref w152)) (H1 : a151 = w152) :
    OMet l Z (⟨"com/example/grepo/grepo/internal/query/Operator", "takesCollection", "()Z"⟩ : MethodName) prog_25_method_6_code 1 (some .boolean) [] ({ frames := 0, cells := 0, slots := 0, locals := 0 } : Room) h0 #[(.ref a151)] (OQp (some (.int (1 : Int32))) h0 n0) := by
  refine MetFree.of_bodySF (plainFor_of_name pn_com_example_grepo_grepo_internal_query_Operator) hisR ?_
  intro p e s m args below meth c s₁ Bd hml0 hP hK
  obtain ⟨rfl, hZ, hh⟩ := hP
  have hx := Bd.exec
  have hby := Bd.bytes
  have hml : c.maxLocals = 1 := hml0
  have hown : s.vm.findClass "com/example/grepo/grepo/internal/query/Operator" = some m.cls := findClass_of_methodNamed Bd.named
  have hnm := (name_of_methodNamed Bd.named Bd.method).1
  have X0 : Stand p l e ({ frames := 0, cells := 0, slots := 0, locals := 0 } : Room) s m #[(.ref a151)] below meth c s₁ [] 0 0 := Stand.of_body Bd
  have e0 : s₁.heap = h0 := by rw [← hh, Bd.state]; rfl
  have N0 := Fr.nil n0
  have pre0 : ∀ t, Steps p.tables e below (s₁.setTop (mkF m 0 #[.val (.ref a151)] [])) t → Steps p.tables e below (s₁.setTop (entryFrame m #[(.ref a151)] 1)) t := fun t k => castTop (ef_2_v m a151) k
  obtain ⟨T153, X153, e153, st153⟩ := getS2 X0 hx hZ hown (host := "") (Or.inl (hw _ (List.mem_of_getElem? (i := 13) rfl))) Via.refl e0 H0 (g := (mkF m 1 #[.val (.ref a151)] [(.ref a151)])) rfl (hb hby d2_1)
  obtain ⟨fs, hr, hrun, hended, hW, hsame⟩ := X153.leave (v := some (.int (1 : Int32))) (fun h => by rw [Bd.returns] at h; cases h)
  refine ⟨_, _, pre0 _ ?_, hrun, hended, _, _, rfl, ?_, ⟨_, rfl⟩, hW, hsame.mono (by decide) (by decide)⟩
  · show Steps p.tables e below (s₁.setTop (mkF m 0 #[.val (.ref a151)] [])) _
    refine XS.aloadN X0.here hx rfl (hb hby d2_0) rfl rfl ?_
    show Steps p.tables e below (s₁.setTop (mkF m 1 #[.val (.ref a151)] [(.ref a151)])) _
    refine st153 _ ?_
    show Steps p.tables e below (T153.setTop (mkF m 4 #[.val (.ref a151)] [(.ref w152), (.ref a151)])) _
    refine Jvm.RoadKit.acmp (g := (mkF m 4 #[.val (.ref a151)] [(.ref w152), (.ref a151)])) X153 hx rfl rfl rfl (pc0 := 4) (pc' := 14) (same := true) rfl (hb hby d2_4) rfl (decide_eq_true (congrArg Value.ref H1)) (by decide) (by decide) ?_
    show Steps p.tables e below (T153.setTop (mkF m 14 #[.val (.ref a151)] [])) _
    refine XS.iconst X153.here hx rfl (hb hby d2_14) ?_
    show Steps p.tables e below (T153.setTop (mkF m 15 #[.val (.ref a151)] [(.int (1 : Int32))])) _
    refine XS.goto X153.here hx rfl (pc0 := 15) (pc' := 19) rfl (hb hby d2_15) (by decide) (by decide) ?_
    show Steps p.tables e below (T153.setTop (mkF m 19 #[.val (.ref a151)] [(.int (1 : Int32))])) _
    exact retN X153 hx (t := .boolean) Bd.returns (by simp) (hb hby d2_19) hr
  · show OQp (some (.int (1 : Int32))) h0 n0 _ T153.heap _
    rw [e153]
    exact ⟨rfl, N0, rfl⟩
theorem d3_6 : decode method_3_code 6 = .ok (.iconst 1, 1) := by decide +kernel
theorem d3_7 : decode method_3_code 7 = .ok (.ireturn, 1) := by decide +kernel
set_option maxRecDepth 65536 in
set_option maxHeartbeats 40000000 in
theorem r3_2 (l : Launch) (Z : State) (a0 : Array Value) (hw : ∀ d ∈ tables_1, d.before a0 Z = true) (p155 : Int32) (h0 : Heap) (n0 : Nat) (Z0 : n0 ≤ h0.size) (H0 : p155 = (9 : Int32)) :
    OMet l Z (⟨"com/example/grepo/grepo/internal/query/OperatorTakesCollectionPinLaw", "expected", "(I)Z"⟩ : MethodName) method_3_code 1 (some .boolean) [] ({ frames := 0, cells := 0, slots := 0, locals := 0 } : Room) h0 #[(.int p155)] (OQp (some (.int (1 : Int32))) h0 n0) := by
  refine MetFree.of_bodySF (plainFor_of_name pn_com_example_grepo_grepo_internal_query_OperatorTakesCollectionPinLaw) hisR ?_
  intro p e s m args below meth c s₁ Bd hml0 hP hK
  obtain ⟨rfl, hZ, hh⟩ := hP
  have hx := Bd.exec
  have hby := Bd.bytes
  have hml : c.maxLocals = 1 := hml0
  have hown : s.vm.findClass "com/example/grepo/grepo/internal/query/OperatorTakesCollectionPinLaw" = some m.cls := findClass_of_methodNamed Bd.named
  have hnm := (name_of_methodNamed Bd.named Bd.method).1
  have X0 : Stand p l e ({ frames := 0, cells := 0, slots := 0, locals := 0 } : Room) s m #[(.int p155)] below meth c s₁ [] 0 0 := Stand.of_body Bd
  have e0 : s₁.heap = h0 := by rw [← hh, Bd.state]; rfl
  have N0 := Fr.nil n0
  have pre0 : ∀ t, Steps p.tables e below (s₁.setTop (mkF m 0 #[.val (.int p155)] [])) t → Steps p.tables e below (s₁.setTop (entryFrame m #[(.int p155)] 1)) t := fun t k => castTop (ef_3_v m p155) k

  obtain ⟨fs, hr, hrun, hended, hW, hsame⟩ := X0.leave (v := some (.int (1 : Int32))) (fun h => by rw [Bd.returns] at h; cases h)
  refine ⟨_, _, pre0 _ ?_, hrun, hended, _, _, rfl, ?_, ⟨_, rfl⟩, hW, hsame.mono (by decide) (by decide)⟩
  · show Steps p.tables e below (s₁.setTop (mkF m 0 #[.val (.int p155)] [])) _
    refine XS.iloadN X0.here hx rfl (hb hby d3_0) rfl ?_
    show Steps p.tables e below (s₁.setTop (mkF m 1 #[.val (.int p155)] [(.int p155)])) _
    refine XS.bipush X0.here hx rfl (hb hby d3_1) ?_
    show Steps p.tables e below (s₁.setTop (mkF m 3 #[.val (.int p155)] [(.int (9 : Int32)), (.int p155)])) _
    refine XS.icmpNo X0.here hx rfl (hb hby d3_3) rfl (teq H0).2 ?_
    show Steps p.tables e below (s₁.setTop (mkF m 6 #[.val (.int p155)] [])) _
    refine XS.iconst X0.here hx rfl (hb hby d3_6) ?_
    show Steps p.tables e below (s₁.setTop (mkF m 7 #[.val (.int p155)] [(.int (1 : Int32))])) _
    exact retN X0 hx (t := .boolean) Bd.returns (by simp) (hb hby d3_7) hr
  · show OQp (some (.int (1 : Int32))) h0 n0 _ s₁.heap _
    rw [e0]
    exact ⟨rfl, N0, rfl⟩
theorem d4_0 : decode prog_25_method_5_code 0 = .ok (.aload_n 0, 1) := by decide +kernel
theorem d4_1 : decode prog_25_method_5_code 1 = .ok (.getfield 80, 3) := by decide +kernel
theorem d4_4 : decode prog_25_method_5_code 4 = .ok (.ireturn, 1) := by decide +kernel
theorem ef_4_v (m : MethodId) (x0 : Addr) : entryFrame m #[(.ref x0)] 1 = mkF m 0 #[.val (.ref x0)] [] := by first | (simp [entryFrame, mkF, argsToLocals, Value.category]; done) | rfl
set_option maxRecDepth 65536 in
set_option maxHeartbeats 40000000 in
theorem r4_1 (l : Launch) (Z : State) (a0 : Array Value) (hw : ∀ d ∈ tables_1, d.before a0 Z = true) (a157 : Addr) (w158 : Int32) (h0 : Heap) (n0 : Nat) (Z0 : n0 ≤ h0.size) (H0 : Fld Z h0 a157 "com/example/grepo/grepo/internal/query/Operator" "arity" "I" (.int w158)) :
    OMet l Z (⟨"com/example/grepo/grepo/internal/query/Operator", "arity", "()I"⟩ : MethodName) prog_25_method_5_code 1 (some .int) [] ({ frames := 0, cells := 0, slots := 0, locals := 0 } : Room) h0 #[(.ref a157)] (OQp (some (.int w158)) h0 n0) := by
  refine MetFree.of_bodySF (plainFor_of_name pn_com_example_grepo_grepo_internal_query_Operator) hisR ?_
  intro p e s m args below meth c s₁ Bd hml0 hP hK
  obtain ⟨rfl, hZ, hh⟩ := hP
  have hx := Bd.exec
  have hby := Bd.bytes
  have hml : c.maxLocals = 1 := hml0
  have hown : s.vm.findClass "com/example/grepo/grepo/internal/query/Operator" = some m.cls := findClass_of_methodNamed Bd.named
  have hnm := (name_of_methodNamed Bd.named Bd.method).1
  have X0 : Stand p l e ({ frames := 0, cells := 0, slots := 0, locals := 0 } : Room) s m #[(.ref a157)] below meth c s₁ [] 0 0 := Stand.of_body Bd
  have e0 : s₁.heap = h0 := by rw [← hh, Bd.state]; rfl
  have N0 := Fr.nil n0
  have pre0 : ∀ t, Steps p.tables e below (s₁.setTop (mkF m 0 #[.val (.ref a157)] [])) t → Steps p.tables e below (s₁.setTop (entryFrame m #[(.ref a157)] 1)) t := fun t k => castTop (ef_4_v m a157) k
  obtain ⟨T159, X159, e159, st159⟩ := getF X0 hx hZ hown (host := "") (Or.inl (hw _ (List.mem_of_getElem? (i := 46) rfl))) Via.refl e0 H0 (g := (mkF m 1 #[.val (.ref a157)] [(.ref a157)])) rfl rfl (hb hby d4_1)
  obtain ⟨fs, hr, hrun, hended, hW, hsame⟩ := X159.leave (v := some (.int w158)) (fun h => by rw [Bd.returns] at h; cases h)
  refine ⟨_, _, pre0 _ ?_, hrun, hended, _, _, rfl, ?_, ⟨_, rfl⟩, hW, hsame.mono (by decide) (by decide)⟩
  · show Steps p.tables e below (s₁.setTop (mkF m 0 #[.val (.ref a157)] [])) _
    refine XS.aloadN X0.here hx rfl (hb hby d4_0) rfl rfl ?_
    show Steps p.tables e below (s₁.setTop (mkF m 1 #[.val (.ref a157)] [(.ref a157)])) _
    refine st159 _ ?_
    show Steps p.tables e below (T159.setTop (mkF m 4 #[.val (.ref a157)] [(.int w158)])) _
    exact retI X159 hx Bd.returns (hb hby d4_4) hr
  · show OQp (some (.int w158)) h0 n0 _ T159.heap _
    rw [e159]
    exact ⟨rfl, N0, rfl⟩
theorem pd_3 : parseMethodDescriptor "()I" = some ⟨[], some .int⟩ := by decide +kernel
set_option maxRecDepth 65536 in
set_option maxHeartbeats 40000000 in
theorem r0_10 (l : Launch) (Z : State) (a0 : Array Value) (hw : ∀ d ∈ tables_1, d.before a0 Z = true) (p145 : Int32) (w150 : Addr) (w161 : Int32) (h0 : Heap) (n0 : Nat) (Z0 : n0 ≤ h0.size) (H0 : ¬ (((p145 &&& (2147483647 : Int32)) % (18 : Int32)) = (0 : Int32))) (H1 : ¬ (((p145 &&& (2147483647 : Int32)) % (18 : Int32)) = (1 : Int32))) (H2 : ¬ (((p145 &&& (2147483647 : Int32)) % (18 : Int32)) = (2 : Int32))) (H3 : ¬ (((p145 &&& (2147483647 : Int32)) % (18 : Int32)) = (3 : Int32))) (H4 : ¬ (((p145 &&& (2147483647 : Int32)) % (18 : Int32)) = (4 : Int32))) (H5 : ¬ (((p145 &&& (2147483647 : Int32)) % (18 : Int32)) = (5 : Int32))) (H6 : ¬ (((p145 &&& (2147483647 : Int32)) % (18 : Int32)) = (6 : Int32))) (H7 : ¬ (((p145 &&& (2147483647 : Int32)) % (18 : Int32)) = (7 : Int32))) (H8 : ¬ (((p145 &&& (2147483647 : Int32)) % (18 : Int32)) = (8 : Int32))) (H9 : ((p145 &&& (2147483647 : Int32)) % (18 : Int32)) = (9 : Int32)) (H10 : Sta Z h0 "com/example/grepo/grepo/internal/query/Operator" "IN" "Lcom/example/grepo/grepo/internal/query/Operator;" (.ref w150)) (H11 : Exa Z h0 w150 "com/example/grepo/grepo/internal/query/Operator") (H12 : Fld Z h0 w150 "com/example/grepo/grepo/internal/query/Operator" "arity" "I" (.int w161)) (H13 : w161 = (1 : Int32)) :
    OMet l Z x code maxLocals ret tables_1 room_1 h0 #[(.int p145)] (OQl (some (.int (1 : Int32))) n0) := by
  refine MetFree.of_bodySF (plainFor_of_name pn_com_example_grepo_grepo_internal_query_OperatorTakesCollectionPinLaw) hisR ?_
  intro p e s m args below meth c s₁ Bd hml0 hP hK
  obtain ⟨rfl, hZ, hh⟩ := hP
  have hx := Bd.exec
  have hby := Bd.bytes
  have hml : c.maxLocals = 4 := hml0
  have hown : s.vm.findClass "com/example/grepo/grepo/internal/query/OperatorTakesCollectionPinLaw" = some m.cls := findClass_of_methodNamed Bd.named
  have hnm := (name_of_methodNamed Bd.named Bd.method).1
  have X0 : Stand p l e room_1 s m #[(.int p145)] below meth c s₁ [] 0 0 := Stand.of_body Bd
  have e0 : s₁.heap = h0 := by rw [← hh, Bd.state]; rfl
  have N0 := Fr.nil n0
  have pre0 : ∀ t, Steps p.tables e below (s₁.setTop (mkF m 0 #[.val (.int p145), .unset, .unset, .unset] [])) t → Steps p.tables e below (s₁.setTop (entryFrame m #[(.int p145)] maxLocals)) t := fun t k => castTop (ef_0_v m p145) k
  obtain ⟨_, _, ⟨T149, L149, k149, n149⟩, -, X149, ⟨Lc149, hQ149, l149, y149, z149⟩, st149⟩ := Jvm.LawKit.callS X0 hx (y := (⟨"com/example/grepo/grepo/internal/query/OperatorTakesCollectionPinLaw", "pick", "(I)Lcom/example/grepo/grepo/internal/query/Operator;"⟩ : MethodName)) hown (mvT hZ (hw _ (List.mem_of_getElem? (i := 1) rfl))) (mvT hZ (hw _ (List.mem_of_getElem? (i := 2) rfl))) (mvT hZ (hw _ (List.mem_of_getElem? (i := 3) rfl))) (mvT hZ (hw _ (List.mem_of_getElem? (i := 4) rfl))) (by decide) (backOf (W := 0) (r1_10 l Z a0 hw ((p145 &&& (2147483647 : Int32)) % (18 : Int32)) w150 h0 n0 Z0 H0 H1 H2 H3 H4 H5 H6 H7 H8 H9 H10) hZ (hw _ (List.mem_of_getElem? (i := 4) rfl)) (hw _ (List.mem_of_getElem? (i := 3) rfl)) (by decide) (by decide)) (g := (mkF m 9 #[.val (.int p145), .val (.int ((p145 &&& (2147483647 : Int32)) % (18 : Int32))), .unset, .unset] [(.int ((p145 &&& (2147483647 : Int32)) % (18 : Int32)))])) rfl (by rw [hml]; rfl) (argsL := [(.int ((p145 &&& (2147483647 : Int32)) % (18 : Int32)))]) (rest := []) (lenOf pd_0 rfl) rfl (by show 2 * 0 + _ ≤ _; exact Nat.le_of_eq rfl) (hb hby at_9) (fun _ _ => ⟨rfl, e0, (by decide : 0 + 0 ≤ _), (by decide : 0 + 0 ≤ _)⟩)
  dsimp only [Pt.U, Pt.locs, Pt.cells, Pt.slots] at X149 l149 y149 z149 st149 hQ149
  subst l149 y149 z149
  obtain ⟨rfl, N149q, e149⟩ := hQ149
  have N149 := Fr.app N0 N149q
  obtain ⟨cq154, kq154, q154a, q154b, q154c⟩ := isOf hZ e149 H11
  obtain ⟨_, _, ⟨T154, L154, k154, n154⟩, -, X154, ⟨Lc154, hQ154, l154, y154, z154⟩, st154⟩ := X149.virtualBack hx (y := (⟨"com/example/grepo/grepo/internal/query/Operator", "takesCollection", "()Z"⟩ : MethodName)) (z := (⟨"com/example/grepo/grepo/internal/query/Operator", "takesCollection", "()Z"⟩ : MethodName)) hown (mvT hZ (hw _ (List.mem_of_getElem? (i := 8) rfl))) (mvT hZ (hw _ (List.mem_of_getElem? (i := 9) rfl))) (notFace_of_selects (args := #[]) (mvT hZ (hw _ (List.mem_of_getElem? (i := 11) rfl)))) (mvT hZ (hw _ (List.mem_of_getElem? (i := 11) rfl))) (mvT hZ (hw _ (List.mem_of_getElem? (i := 10) rfl))) (by decide) (backOf (W := 0) (r2_2 l Z a0 hw w150 w150 h0 n0 Z0 H10 rfl) hZ (hw _ (List.mem_of_getElem? (i := 12) rfl)) (hw _ (List.mem_of_getElem? (i := 6) rfl)) (by decide) (by decide)) q154a q154c (g := (mkF m 14 #[.val (.int p145), .val (.int ((p145 &&& (2147483647 : Int32)) % (18 : Int32))), .val (.ref w150), .unset] [(.ref w150)])) rfl (by rw [hml]; rfl) (Steps.refl _) (argsL := []) (rest := []) (lenOf pd_1 rfl) rfl (by show 2 * 0 + _ ≤ _; exact Nat.le_of_eq rfl) (hb hby at_14) (fun _ _ => ⟨rfl, e149, (by decide : 0 + 0 ≤ _), (by decide : 0 + 0 ≤ _)⟩)
  dsimp only [Pt.U, Pt.locs, Pt.cells, Pt.slots] at X154 l154 y154 z154 st154 hQ154
  subst l154 y154 z154
  obtain ⟨rfl, N154q, e154⟩ := hQ154
  have N154 := Fr.app N149 N154q
  obtain ⟨_, _, ⟨T156, L156, k156, n156⟩, -, X156, ⟨Lc156, hQ156, l156, y156, z156⟩, st156⟩ := Jvm.LawKit.callS X154 hx (y := (⟨"com/example/grepo/grepo/internal/query/OperatorTakesCollectionPinLaw", "expected", "(I)Z"⟩ : MethodName)) hown (mvT hZ (hw _ (List.mem_of_getElem? (i := 17) rfl))) (mvT hZ (hw _ (List.mem_of_getElem? (i := 18) rfl))) (mvT hZ (hw _ (List.mem_of_getElem? (i := 3) rfl))) (mvT hZ (hw _ (List.mem_of_getElem? (i := 19) rfl))) (by decide) (backOf (W := 1) (r3_2 l Z a0 hw ((p145 &&& (2147483647 : Int32)) % (18 : Int32)) h0 n0 Z0 H9) hZ (hw _ (List.mem_of_getElem? (i := 19) rfl)) (hw _ (List.mem_of_getElem? (i := 3) rfl)) (by decide) (by decide)) (g := (mkF m 20 #[.val (.int p145), .val (.int ((p145 &&& (2147483647 : Int32)) % (18 : Int32))), .val (.ref w150), .val (.int (1 : Int32))] [(.int ((p145 &&& (2147483647 : Int32)) % (18 : Int32))), (.int (1 : Int32))])) rfl (by rw [hml]; rfl) (argsL := [(.int ((p145 &&& (2147483647 : Int32)) % (18 : Int32)))]) (rest := [(.int (1 : Int32))]) (lenOf pd_2 rfl) rfl (by show 2 * 0 + _ ≤ _; exact Nat.le_of_eq rfl) (hb hby at_20) (fun _ _ => ⟨rfl, e154, (by decide : 0 + 0 ≤ _), (by decide : 0 + 0 ≤ _)⟩)
  dsimp only [Pt.U, Pt.locs, Pt.cells, Pt.slots] at X156 l156 y156 z156 st156 hQ156
  subst l156 y156 z156
  obtain ⟨rfl, N156q, e156⟩ := hQ156
  have N156 := Fr.app N154 N156q
  obtain ⟨cq160, kq160, q160a, q160b, q160c⟩ := isOf hZ e156 H11
  obtain ⟨_, _, ⟨T160, L160, k160, n160⟩, -, X160, ⟨Lc160, hQ160, l160, y160, z160⟩, st160⟩ := X156.virtualBack hx (y := (⟨"com/example/grepo/grepo/internal/query/Operator", "arity", "()I"⟩ : MethodName)) (z := (⟨"com/example/grepo/grepo/internal/query/Operator", "arity", "()I"⟩ : MethodName)) hown (mvT hZ (hw _ (List.mem_of_getElem? (i := 41) rfl))) (mvT hZ (hw _ (List.mem_of_getElem? (i := 42) rfl))) (notFace_of_selects (args := #[]) (mvT hZ (hw _ (List.mem_of_getElem? (i := 44) rfl)))) (mvT hZ (hw _ (List.mem_of_getElem? (i := 44) rfl))) (mvT hZ (hw _ (List.mem_of_getElem? (i := 43) rfl))) (by decide) (backOf (W := 0) (r4_1 l Z a0 hw w150 w161 h0 n0 Z0 H12) hZ (hw _ (List.mem_of_getElem? (i := 45) rfl)) (hw _ (List.mem_of_getElem? (i := 6) rfl)) (by decide) (by decide)) q160a q160c (g := (mkF m 33 #[.val (.int p145), .val (.int ((p145 &&& (2147483647 : Int32)) % (18 : Int32))), .val (.ref w150), .val (.int (1 : Int32))] [(.ref w150)])) rfl (by rw [hml]; rfl) (Steps.refl _) (argsL := []) (rest := []) (lenOf pd_3 rfl) rfl (by show 2 * 0 + _ ≤ _; exact Nat.le_of_eq rfl) (hb hby at_33) (fun _ _ => ⟨rfl, e156, (by decide : 0 + 0 ≤ _), (by decide : 0 + 0 ≤ _)⟩)
  dsimp only [Pt.U, Pt.locs, Pt.cells, Pt.slots] at X160 l160 y160 z160 st160 hQ160
  subst l160 y160 z160
  obtain ⟨rfl, N160q, e160⟩ := hQ160
  have N160 := Fr.app N156 N160q
  obtain ⟨fs, hr, hrun, hended, hW, hsame⟩ := X160.leave (v := some (.int (1 : Int32))) (fun h => by rw [Bd.returns] at h; cases h)
  refine ⟨_, _, pre0 _ ?_, hrun, hended, _, _, rfl, ?_, ⟨_, rfl⟩, hW, hsame.mono (by decide) (by decide)⟩
  · show Steps p.tables e below (s₁.setTop (mkF m 0 #[.val (.int p145), .unset, .unset, .unset] [])) _
    refine XS.iloadN X0.here hx rfl (hb hby at_0) rfl ?_
    show Steps p.tables e below (s₁.setTop (mkF m 1 #[.val (.int p145), .unset, .unset, .unset] [(.int p145)])) _
    refine X0.ldcInt hx hown (mvT hZ (hw _ (List.mem_of_getElem? (i := 0) rfl))) (g := (mkF m 1 #[.val (.int p145), .unset, .unset, .unset] [(.int p145)])) rfl (hb hby at_1) _ ?_
    show Steps p.tables e below (s₁.setTop (mkF m 3 #[.val (.int p145), .unset, .unset, .unset] [(.int (2147483647 : Int32)), (.int p145)])) _
    refine XS.iand X0.here hx rfl (hb hby at_3) rfl ?_
    show Steps p.tables e below (s₁.setTop (mkF m 4 #[.val (.int p145), .unset, .unset, .unset] [(.int (p145 &&& (2147483647 : Int32)))])) _
    refine XS.bipush X0.here hx rfl (hb hby at_4) ?_
    show Steps p.tables e below (s₁.setTop (mkF m 6 #[.val (.int p145), .unset, .unset, .unset] [(.int (18 : Int32)), (.int (p145 &&& (2147483647 : Int32)))])) _
    refine iremM X0 hx rfl (hb hby at_6) rfl (by decide) ?_
    show Steps p.tables e below (s₁.setTop (mkF m 7 #[.val (.int p145), .unset, .unset, .unset] [(.int ((p145 &&& (2147483647 : Int32)) % (18 : Int32)))])) _
    refine XS.istoreN X0.here hx rfl (hb hby at_7) rfl (l' := #[.val (.int p145), .val (.int ((p145 &&& (2147483647 : Int32)) % (18 : Int32))), .unset, .unset]) rfl ?_
    show Steps p.tables e below (s₁.setTop (mkF m 8 #[.val (.int p145), .val (.int ((p145 &&& (2147483647 : Int32)) % (18 : Int32))), .unset, .unset] [])) _
    refine XS.iloadN X0.here hx rfl (hb hby at_8) rfl ?_
    show Steps p.tables e below (s₁.setTop (mkF m 9 #[.val (.int p145), .val (.int ((p145 &&& (2147483647 : Int32)) % (18 : Int32))), .unset, .unset] [(.int ((p145 &&& (2147483647 : Int32)) % (18 : Int32)))])) _
    refine st149 _ ?_
    show Steps p.tables e below (T149.setTop (mkF m 12 #[.val (.int p145), .val (.int ((p145 &&& (2147483647 : Int32)) % (18 : Int32))), .unset, .unset] [(.ref w150)])) _
    refine XS.astoreN X149.here hx rfl (hb hby at_12) rfl rfl (l' := #[.val (.int p145), .val (.int ((p145 &&& (2147483647 : Int32)) % (18 : Int32))), .val (.ref w150), .unset]) rfl ?_
    show Steps p.tables e below (T149.setTop (mkF m 13 #[.val (.int p145), .val (.int ((p145 &&& (2147483647 : Int32)) % (18 : Int32))), .val (.ref w150), .unset] [])) _
    refine XS.aloadN X149.here hx rfl (hb hby at_13) rfl rfl ?_
    show Steps p.tables e below (T149.setTop (mkF m 14 #[.val (.int p145), .val (.int ((p145 &&& (2147483647 : Int32)) % (18 : Int32))), .val (.ref w150), .unset] [(.ref w150)])) _
    refine st154.trans ?_
    show Steps p.tables e below (T154.setTop (mkF m 17 #[.val (.int p145), .val (.int ((p145 &&& (2147483647 : Int32)) % (18 : Int32))), .val (.ref w150), .unset] [(.int (1 : Int32))])) _
    refine XS.istoreN X154.here hx rfl (hb hby at_17) rfl (l' := #[.val (.int p145), .val (.int ((p145 &&& (2147483647 : Int32)) % (18 : Int32))), .val (.ref w150), .val (.int (1 : Int32))]) rfl ?_
    show Steps p.tables e below (T154.setTop (mkF m 18 #[.val (.int p145), .val (.int ((p145 &&& (2147483647 : Int32)) % (18 : Int32))), .val (.ref w150), .val (.int (1 : Int32))] [])) _
    refine XS.iloadN X154.here hx rfl (hb hby at_18) rfl ?_
    show Steps p.tables e below (T154.setTop (mkF m 19 #[.val (.int p145), .val (.int ((p145 &&& (2147483647 : Int32)) % (18 : Int32))), .val (.ref w150), .val (.int (1 : Int32))] [(.int (1 : Int32))])) _
    refine XS.iloadN X154.here hx rfl (hb hby at_19) rfl ?_
    show Steps p.tables e below (T154.setTop (mkF m 20 #[.val (.int p145), .val (.int ((p145 &&& (2147483647 : Int32)) % (18 : Int32))), .val (.ref w150), .val (.int (1 : Int32))] [(.int ((p145 &&& (2147483647 : Int32)) % (18 : Int32))), (.int (1 : Int32))])) _
    refine st156 _ ?_
    show Steps p.tables e below (T156.setTop (mkF m 23 #[.val (.int p145), .val (.int ((p145 &&& (2147483647 : Int32)) % (18 : Int32))), .val (.ref w150), .val (.int (1 : Int32))] [(.int (1 : Int32)), (.int (1 : Int32))])) _
    refine XS.icmpYes X156.here hx rfl (pc0 := 23) (pc' := 28) rfl (hb hby at_23) rfl (teq (rfl : (1 : Int32) = (1 : Int32))).1 (by decide) (by decide) ?_
    show Steps p.tables e below (T156.setTop (mkF m 28 #[.val (.int p145), .val (.int ((p145 &&& (2147483647 : Int32)) % (18 : Int32))), .val (.ref w150), .val (.int (1 : Int32))] [])) _
    refine XS.iloadN X156.here hx rfl (hb hby at_28) rfl ?_
    show Steps p.tables e below (T156.setTop (mkF m 29 #[.val (.int p145), .val (.int ((p145 &&& (2147483647 : Int32)) % (18 : Int32))), .val (.ref w150), .val (.int (1 : Int32))] [(.int (1 : Int32))])) _
    refine XS.ifNo X156.here hx rfl (hb hby at_29) rfl ((if0 _ _).trans (feq (by decide : ¬ ((1 : Int32) = (0 : Int32)))).1) ?_
    show Steps p.tables e below (T156.setTop (mkF m 32 #[.val (.int p145), .val (.int ((p145 &&& (2147483647 : Int32)) % (18 : Int32))), .val (.ref w150), .val (.int (1 : Int32))] [])) _
    refine XS.aloadN X156.here hx rfl (hb hby at_32) rfl rfl ?_
    show Steps p.tables e below (T156.setTop (mkF m 33 #[.val (.int p145), .val (.int ((p145 &&& (2147483647 : Int32)) % (18 : Int32))), .val (.ref w150), .val (.int (1 : Int32))] [(.ref w150)])) _
    refine st160.trans ?_
    show Steps p.tables e below (T160.setTop (mkF m 36 #[.val (.int p145), .val (.int ((p145 &&& (2147483647 : Int32)) % (18 : Int32))), .val (.ref w150), .val (.int (1 : Int32))] [(.int w161)])) _
    refine XS.iconst X160.here hx rfl (hb hby at_36) ?_
    show Steps p.tables e below (T160.setTop (mkF m 37 #[.val (.int p145), .val (.int ((p145 &&& (2147483647 : Int32)) % (18 : Int32))), .val (.ref w150), .val (.int (1 : Int32))] [(.int (1 : Int32)), (.int w161)])) _
    refine XS.icmpYes X160.here hx rfl (pc0 := 37) (pc' := 42) rfl (hb hby at_37) rfl (teq H13).1 (by decide) (by decide) ?_
    show Steps p.tables e below (T160.setTop (mkF m 42 #[.val (.int p145), .val (.int ((p145 &&& (2147483647 : Int32)) % (18 : Int32))), .val (.ref w150), .val (.int (1 : Int32))] [])) _
    refine XS.iconst X160.here hx rfl (hb hby at_42) ?_
    show Steps p.tables e below (T160.setTop (mkF m 43 #[.val (.int p145), .val (.int ((p145 &&& (2147483647 : Int32)) % (18 : Int32))), .val (.ref w150), .val (.int (1 : Int32))] [(.int (1 : Int32))])) _
    exact retN X160 hx (t := .boolean) Bd.returns (by simp) (hb hby at_43) hr
  · show OQl (some (.int (1 : Int32))) n0 _ T160.heap _
    exact ⟨rfl, N160⟩
theorem d1_93 : decode method_2_code 93 = .ok (.iload_n 0, 1) := by decide +kernel
theorem d1_94 : decode method_2_code 94 = .ok (.bipush 10, 2) := by decide +kernel
theorem d1_96 : decode method_2_code 96 = .ok (.if_icmp .ne 7, 3) := by decide +kernel
theorem d1_99 : decode method_2_code 99 = .ok (.getstatic 40, 3) := by decide +kernel
theorem d1_102 : decode method_2_code 102 = .ok (.areturn, 1) := by decide +kernel
set_option maxRecDepth 65536 in
set_option maxHeartbeats 40000000 in
theorem r1_11 (l : Launch) (Z : State) (a0 : Array Value) (hw : ∀ d ∈ tables_1, d.before a0 Z = true) (p163 : Int32) (w164 : Addr) (h0 : Heap) (n0 : Nat) (Z0 : n0 ≤ h0.size) (H0 : ¬ (p163 = (0 : Int32))) (H1 : ¬ (p163 = (1 : Int32))) (H2 : ¬ (p163 = (2 : Int32))) (H3 : ¬ (p163 = (3 : Int32))) (H4 : ¬ (p163 = (4 : Int32))) (H5 : ¬ (p163 = (5 : Int32))) (H6 : ¬ (p163 = (6 : Int32))) (H7 : ¬ (p163 = (7 : Int32))) (H8 : ¬ (p163 = (8 : Int32))) (H9 : ¬ (p163 = (9 : Int32))) (H10 : p163 = (10 : Int32)) (H11 : Sta Z h0 "com/example/grepo/grepo/internal/query/Operator" "NOT_IN" "Lcom/example/grepo/grepo/internal/query/Operator;" (.ref w164)) :
    OMet l Z (⟨"com/example/grepo/grepo/internal/query/OperatorTakesCollectionPinLaw", "pick", "(I)Lcom/example/grepo/grepo/internal/query/Operator;"⟩ : MethodName) method_2_code 1 (some (.object "com/example/grepo/grepo/internal/query/Operator")) [] ({ frames := 0, cells := 0, slots := 0, locals := 0 } : Room) h0 #[(.int p163)] (OQp (some (.ref w164)) h0 n0) := by
  refine MetFree.of_bodySF (plainFor_of_name pn_com_example_grepo_grepo_internal_query_OperatorTakesCollectionPinLaw) hisR ?_
  intro p e s m args below meth c s₁ Bd hml0 hP hK
  obtain ⟨rfl, hZ, hh⟩ := hP
  have hx := Bd.exec
  have hby := Bd.bytes
  have hml : c.maxLocals = 1 := hml0
  have hown : s.vm.findClass "com/example/grepo/grepo/internal/query/OperatorTakesCollectionPinLaw" = some m.cls := findClass_of_methodNamed Bd.named
  have hnm := (name_of_methodNamed Bd.named Bd.method).1
  have X0 : Stand p l e ({ frames := 0, cells := 0, slots := 0, locals := 0 } : Room) s m #[(.int p163)] below meth c s₁ [] 0 0 := Stand.of_body Bd
  have e0 : s₁.heap = h0 := by rw [← hh, Bd.state]; rfl
  have N0 := Fr.nil n0
  have pre0 : ∀ t, Steps p.tables e below (s₁.setTop (mkF m 0 #[.val (.int p163)] [])) t → Steps p.tables e below (s₁.setTop (entryFrame m #[(.int p163)] 1)) t := fun t k => castTop (ef_1_v m p163) k
  obtain ⟨T165, X165, e165, st165⟩ := getS2 X0 hx hZ hown (host := "") (Or.inl (hw _ (List.mem_of_getElem? (i := 40) rfl))) Via.refl e0 H11 (g := (mkF m 99 #[.val (.int p163)] [])) rfl (hb hby d1_99)
  obtain ⟨fs, hr, hrun, hended, hW, hsame⟩ := X165.leave (v := some (.ref w164)) (fun h => by rw [Bd.returns] at h; cases h)
  refine ⟨_, _, pre0 _ ?_, hrun, hended, _, _, rfl, ?_, ⟨_, rfl⟩, hW, hsame.mono (by decide) (by decide)⟩
  · show Steps p.tables e below (s₁.setTop (mkF m 0 #[.val (.int p163)] [])) _
    refine XS.iloadN X0.here hx rfl (hb hby d1_0) rfl ?_
    show Steps p.tables e below (s₁.setTop (mkF m 1 #[.val (.int p163)] [(.int p163)])) _
    refine XS.ifYes X0.here hx rfl (pc0 := 1) (pc' := 8) rfl (hb hby d1_1) rfl ((if0 _ _).trans (feq H0).2) (by decide) (by decide) ?_
    show Steps p.tables e below (s₁.setTop (mkF m 8 #[.val (.int p163)] [])) _
    refine XS.iloadN X0.here hx rfl (hb hby d1_8) rfl ?_
    show Steps p.tables e below (s₁.setTop (mkF m 9 #[.val (.int p163)] [(.int p163)])) _
    refine XS.iconst X0.here hx rfl (hb hby d1_9) ?_
    show Steps p.tables e below (s₁.setTop (mkF m 10 #[.val (.int p163)] [(.int (1 : Int32)), (.int p163)])) _
    refine XS.icmpYes X0.here hx rfl (pc0 := 10) (pc' := 17) rfl (hb hby d1_10) rfl (feq H1).2 (by decide) (by decide) ?_
    show Steps p.tables e below (s₁.setTop (mkF m 17 #[.val (.int p163)] [])) _
    refine XS.iloadN X0.here hx rfl (hb hby d1_17) rfl ?_
    show Steps p.tables e below (s₁.setTop (mkF m 18 #[.val (.int p163)] [(.int p163)])) _
    refine XS.iconst X0.here hx rfl (hb hby d1_18) ?_
    show Steps p.tables e below (s₁.setTop (mkF m 19 #[.val (.int p163)] [(.int (2 : Int32)), (.int p163)])) _
    refine XS.icmpYes X0.here hx rfl (pc0 := 19) (pc' := 26) rfl (hb hby d1_19) rfl (feq H2).2 (by decide) (by decide) ?_
    show Steps p.tables e below (s₁.setTop (mkF m 26 #[.val (.int p163)] [])) _
    refine XS.iloadN X0.here hx rfl (hb hby d1_26) rfl ?_
    show Steps p.tables e below (s₁.setTop (mkF m 27 #[.val (.int p163)] [(.int p163)])) _
    refine XS.iconst X0.here hx rfl (hb hby d1_27) ?_
    show Steps p.tables e below (s₁.setTop (mkF m 28 #[.val (.int p163)] [(.int (3 : Int32)), (.int p163)])) _
    refine XS.icmpYes X0.here hx rfl (pc0 := 28) (pc' := 35) rfl (hb hby d1_28) rfl (feq H3).2 (by decide) (by decide) ?_
    show Steps p.tables e below (s₁.setTop (mkF m 35 #[.val (.int p163)] [])) _
    refine XS.iloadN X0.here hx rfl (hb hby d1_35) rfl ?_
    show Steps p.tables e below (s₁.setTop (mkF m 36 #[.val (.int p163)] [(.int p163)])) _
    refine XS.iconst X0.here hx rfl (hb hby d1_36) ?_
    show Steps p.tables e below (s₁.setTop (mkF m 37 #[.val (.int p163)] [(.int (4 : Int32)), (.int p163)])) _
    refine XS.icmpYes X0.here hx rfl (pc0 := 37) (pc' := 44) rfl (hb hby d1_37) rfl (feq H4).2 (by decide) (by decide) ?_
    show Steps p.tables e below (s₁.setTop (mkF m 44 #[.val (.int p163)] [])) _
    refine XS.iloadN X0.here hx rfl (hb hby d1_44) rfl ?_
    show Steps p.tables e below (s₁.setTop (mkF m 45 #[.val (.int p163)] [(.int p163)])) _
    refine XS.iconst X0.here hx rfl (hb hby d1_45) ?_
    show Steps p.tables e below (s₁.setTop (mkF m 46 #[.val (.int p163)] [(.int (5 : Int32)), (.int p163)])) _
    refine XS.icmpYes X0.here hx rfl (pc0 := 46) (pc' := 53) rfl (hb hby d1_46) rfl (feq H5).2 (by decide) (by decide) ?_
    show Steps p.tables e below (s₁.setTop (mkF m 53 #[.val (.int p163)] [])) _
    refine XS.iloadN X0.here hx rfl (hb hby d1_53) rfl ?_
    show Steps p.tables e below (s₁.setTop (mkF m 54 #[.val (.int p163)] [(.int p163)])) _
    refine XS.bipush X0.here hx rfl (hb hby d1_54) ?_
    show Steps p.tables e below (s₁.setTop (mkF m 56 #[.val (.int p163)] [(.int (6 : Int32)), (.int p163)])) _
    refine XS.icmpYes X0.here hx rfl (pc0 := 56) (pc' := 63) rfl (hb hby d1_56) rfl (feq H6).2 (by decide) (by decide) ?_
    show Steps p.tables e below (s₁.setTop (mkF m 63 #[.val (.int p163)] [])) _
    refine XS.iloadN X0.here hx rfl (hb hby d1_63) rfl ?_
    show Steps p.tables e below (s₁.setTop (mkF m 64 #[.val (.int p163)] [(.int p163)])) _
    refine XS.bipush X0.here hx rfl (hb hby d1_64) ?_
    show Steps p.tables e below (s₁.setTop (mkF m 66 #[.val (.int p163)] [(.int (7 : Int32)), (.int p163)])) _
    refine XS.icmpYes X0.here hx rfl (pc0 := 66) (pc' := 73) rfl (hb hby d1_66) rfl (feq H7).2 (by decide) (by decide) ?_
    show Steps p.tables e below (s₁.setTop (mkF m 73 #[.val (.int p163)] [])) _
    refine XS.iloadN X0.here hx rfl (hb hby d1_73) rfl ?_
    show Steps p.tables e below (s₁.setTop (mkF m 74 #[.val (.int p163)] [(.int p163)])) _
    refine XS.bipush X0.here hx rfl (hb hby d1_74) ?_
    show Steps p.tables e below (s₁.setTop (mkF m 76 #[.val (.int p163)] [(.int (8 : Int32)), (.int p163)])) _
    refine XS.icmpYes X0.here hx rfl (pc0 := 76) (pc' := 83) rfl (hb hby d1_76) rfl (feq H8).2 (by decide) (by decide) ?_
    show Steps p.tables e below (s₁.setTop (mkF m 83 #[.val (.int p163)] [])) _
    refine XS.iloadN X0.here hx rfl (hb hby d1_83) rfl ?_
    show Steps p.tables e below (s₁.setTop (mkF m 84 #[.val (.int p163)] [(.int p163)])) _
    refine XS.bipush X0.here hx rfl (hb hby d1_84) ?_
    show Steps p.tables e below (s₁.setTop (mkF m 86 #[.val (.int p163)] [(.int (9 : Int32)), (.int p163)])) _
    refine XS.icmpYes X0.here hx rfl (pc0 := 86) (pc' := 93) rfl (hb hby d1_86) rfl (feq H9).2 (by decide) (by decide) ?_
    show Steps p.tables e below (s₁.setTop (mkF m 93 #[.val (.int p163)] [])) _
    refine XS.iloadN X0.here hx rfl (hb hby d1_93) rfl ?_
    show Steps p.tables e below (s₁.setTop (mkF m 94 #[.val (.int p163)] [(.int p163)])) _
    refine XS.bipush X0.here hx rfl (hb hby d1_94) ?_
    show Steps p.tables e below (s₁.setTop (mkF m 96 #[.val (.int p163)] [(.int (10 : Int32)), (.int p163)])) _
    refine XS.icmpNo X0.here hx rfl (hb hby d1_96) rfl (teq H10).2 ?_
    show Steps p.tables e below (s₁.setTop (mkF m 99 #[.val (.int p163)] [])) _
    refine st165 _ ?_
    show Steps p.tables e below (T165.setTop (mkF m 102 #[.val (.int p163)] [(.ref w164)])) _
    jvm_step X165.here [X165.here.top, hx, (hb hby d1_102), X165.method', Bd.returns, Value.isRef, FieldType.isReference]
    first | (intro acts; rw [hr _ acts rfl rfl rfl]) | rw [hr _ _ rfl rfl rfl]
    exact Steps.refl _
  · show OQp (some (.ref w164)) h0 n0 _ T165.heap _
    rw [e165]
    exact ⟨rfl, N0, rfl⟩
set_option maxRecDepth 65536 in
set_option maxHeartbeats 40000000 in
theorem r2_3 (l : Launch) (Z : State) (a0 : Array Value) (hw : ∀ d ∈ tables_1, d.before a0 Z = true) (a168 : Addr) (w169 : Addr) (w171 : Addr) (h0 : Heap) (n0 : Nat) (Z0 : n0 ≤ h0.size) (H0 : Sta Z h0 "com/example/grepo/grepo/internal/query/Operator" "IN" "Lcom/example/grepo/grepo/internal/query/Operator;" (.ref w169)) (H1 : a168 ≠ w169) (H2 : Sta Z h0 "com/example/grepo/grepo/internal/query/Operator" "NOT_IN" "Lcom/example/grepo/grepo/internal/query/Operator;" (.ref w171)) (H3 : a168 = w171) :
    OMet l Z (⟨"com/example/grepo/grepo/internal/query/Operator", "takesCollection", "()Z"⟩ : MethodName) prog_25_method_6_code 1 (some .boolean) [] ({ frames := 0, cells := 0, slots := 0, locals := 0 } : Room) h0 #[(.ref a168)] (OQp (some (.int (1 : Int32))) h0 n0) := by
  refine MetFree.of_bodySF (plainFor_of_name pn_com_example_grepo_grepo_internal_query_Operator) hisR ?_
  intro p e s m args below meth c s₁ Bd hml0 hP hK
  obtain ⟨rfl, hZ, hh⟩ := hP
  have hx := Bd.exec
  have hby := Bd.bytes
  have hml : c.maxLocals = 1 := hml0
  have hown : s.vm.findClass "com/example/grepo/grepo/internal/query/Operator" = some m.cls := findClass_of_methodNamed Bd.named
  have hnm := (name_of_methodNamed Bd.named Bd.method).1
  have X0 : Stand p l e ({ frames := 0, cells := 0, slots := 0, locals := 0 } : Room) s m #[(.ref a168)] below meth c s₁ [] 0 0 := Stand.of_body Bd
  have e0 : s₁.heap = h0 := by rw [← hh, Bd.state]; rfl
  have N0 := Fr.nil n0
  have pre0 : ∀ t, Steps p.tables e below (s₁.setTop (mkF m 0 #[.val (.ref a168)] [])) t → Steps p.tables e below (s₁.setTop (entryFrame m #[(.ref a168)] 1)) t := fun t k => castTop (ef_2_v m a168) k
  obtain ⟨T170, X170, e170, st170⟩ := getS2 X0 hx hZ hown (host := "") (Or.inl (hw _ (List.mem_of_getElem? (i := 13) rfl))) Via.refl e0 H0 (g := (mkF m 1 #[.val (.ref a168)] [(.ref a168)])) rfl (hb hby d2_1)
  obtain ⟨T172, X172, e172, st172⟩ := getS2 X170 hx hZ hown (host := "") (Or.inl (hw _ (List.mem_of_getElem? (i := 15) rfl))) Via.refl e170 H2 (g := (mkF m 8 #[.val (.ref a168)] [(.ref a168)])) rfl (hb hby d2_8)
  obtain ⟨fs, hr, hrun, hended, hW, hsame⟩ := X172.leave (v := some (.int (1 : Int32))) (fun h => by rw [Bd.returns] at h; cases h)
  refine ⟨_, _, pre0 _ ?_, hrun, hended, _, _, rfl, ?_, ⟨_, rfl⟩, hW, hsame.mono (by decide) (by decide)⟩
  · show Steps p.tables e below (s₁.setTop (mkF m 0 #[.val (.ref a168)] [])) _
    refine XS.aloadN X0.here hx rfl (hb hby d2_0) rfl rfl ?_
    show Steps p.tables e below (s₁.setTop (mkF m 1 #[.val (.ref a168)] [(.ref a168)])) _
    refine st170 _ ?_
    show Steps p.tables e below (T170.setTop (mkF m 4 #[.val (.ref a168)] [(.ref w169), (.ref a168)])) _
    refine Jvm.RoadKit.acmp (g := (mkF m 4 #[.val (.ref a168)] [(.ref w169), (.ref a168)])) X170 hx rfl rfl rfl (pc0 := 4) (pc' := 7) (same := false) rfl (hb hby d2_4) rfl (decide_eq_false fun q => H1 (Value.ref.inj q)) (by decide) (by decide) ?_
    show Steps p.tables e below (T170.setTop (mkF m 7 #[.val (.ref a168)] [])) _
    refine XS.aloadN X170.here hx rfl (hb hby d2_7) rfl rfl ?_
    show Steps p.tables e below (T170.setTop (mkF m 8 #[.val (.ref a168)] [(.ref a168)])) _
    refine st172 _ ?_
    show Steps p.tables e below (T172.setTop (mkF m 11 #[.val (.ref a168)] [(.ref w171), (.ref a168)])) _
    refine Jvm.RoadKit.acmp (g := (mkF m 11 #[.val (.ref a168)] [(.ref w171), (.ref a168)])) X172 hx rfl rfl rfl (pc0 := 11) (pc' := 14) (same := true) rfl (hb hby d2_11) rfl (decide_eq_true (congrArg Value.ref H3)) (by decide) (by decide) ?_
    show Steps p.tables e below (T172.setTop (mkF m 14 #[.val (.ref a168)] [])) _
    refine XS.iconst X172.here hx rfl (hb hby d2_14) ?_
    show Steps p.tables e below (T172.setTop (mkF m 15 #[.val (.ref a168)] [(.int (1 : Int32))])) _
    refine XS.goto X172.here hx rfl (pc0 := 15) (pc' := 19) rfl (hb hby d2_15) (by decide) (by decide) ?_
    show Steps p.tables e below (T172.setTop (mkF m 19 #[.val (.ref a168)] [(.int (1 : Int32))])) _
    exact retN X172 hx (t := .boolean) Bd.returns (by simp) (hb hby d2_19) hr
  · show OQp (some (.int (1 : Int32))) h0 n0 _ T172.heap _
    rw [e172]
    exact ⟨rfl, N0, rfl⟩
theorem d3_14 : decode method_3_code 14 = .ok (.iconst 1, 1) := by decide +kernel
theorem d3_15 : decode method_3_code 15 = .ok (.ireturn, 1) := by decide +kernel
set_option maxRecDepth 65536 in
set_option maxHeartbeats 40000000 in
theorem r3_3 (l : Launch) (Z : State) (a0 : Array Value) (hw : ∀ d ∈ tables_1, d.before a0 Z = true) (p175 : Int32) (h0 : Heap) (n0 : Nat) (Z0 : n0 ≤ h0.size) (H0 : ¬ (p175 = (9 : Int32))) (H1 : p175 = (10 : Int32)) :
    OMet l Z (⟨"com/example/grepo/grepo/internal/query/OperatorTakesCollectionPinLaw", "expected", "(I)Z"⟩ : MethodName) method_3_code 1 (some .boolean) [] ({ frames := 0, cells := 0, slots := 0, locals := 0 } : Room) h0 #[(.int p175)] (OQp (some (.int (1 : Int32))) h0 n0) := by
  refine MetFree.of_bodySF (plainFor_of_name pn_com_example_grepo_grepo_internal_query_OperatorTakesCollectionPinLaw) hisR ?_
  intro p e s m args below meth c s₁ Bd hml0 hP hK
  obtain ⟨rfl, hZ, hh⟩ := hP
  have hx := Bd.exec
  have hby := Bd.bytes
  have hml : c.maxLocals = 1 := hml0
  have hown : s.vm.findClass "com/example/grepo/grepo/internal/query/OperatorTakesCollectionPinLaw" = some m.cls := findClass_of_methodNamed Bd.named
  have hnm := (name_of_methodNamed Bd.named Bd.method).1
  have X0 : Stand p l e ({ frames := 0, cells := 0, slots := 0, locals := 0 } : Room) s m #[(.int p175)] below meth c s₁ [] 0 0 := Stand.of_body Bd
  have e0 : s₁.heap = h0 := by rw [← hh, Bd.state]; rfl
  have N0 := Fr.nil n0
  have pre0 : ∀ t, Steps p.tables e below (s₁.setTop (mkF m 0 #[.val (.int p175)] [])) t → Steps p.tables e below (s₁.setTop (entryFrame m #[(.int p175)] 1)) t := fun t k => castTop (ef_3_v m p175) k

  obtain ⟨fs, hr, hrun, hended, hW, hsame⟩ := X0.leave (v := some (.int (1 : Int32))) (fun h => by rw [Bd.returns] at h; cases h)
  refine ⟨_, _, pre0 _ ?_, hrun, hended, _, _, rfl, ?_, ⟨_, rfl⟩, hW, hsame.mono (by decide) (by decide)⟩
  · show Steps p.tables e below (s₁.setTop (mkF m 0 #[.val (.int p175)] [])) _
    refine XS.iloadN X0.here hx rfl (hb hby d3_0) rfl ?_
    show Steps p.tables e below (s₁.setTop (mkF m 1 #[.val (.int p175)] [(.int p175)])) _
    refine XS.bipush X0.here hx rfl (hb hby d3_1) ?_
    show Steps p.tables e below (s₁.setTop (mkF m 3 #[.val (.int p175)] [(.int (9 : Int32)), (.int p175)])) _
    refine XS.icmpYes X0.here hx rfl (pc0 := 3) (pc' := 8) rfl (hb hby d3_3) rfl (feq H0).2 (by decide) (by decide) ?_
    show Steps p.tables e below (s₁.setTop (mkF m 8 #[.val (.int p175)] [])) _
    refine XS.iloadN X0.here hx rfl (hb hby d3_8) rfl ?_
    show Steps p.tables e below (s₁.setTop (mkF m 9 #[.val (.int p175)] [(.int p175)])) _
    refine XS.bipush X0.here hx rfl (hb hby d3_9) ?_
    show Steps p.tables e below (s₁.setTop (mkF m 11 #[.val (.int p175)] [(.int (10 : Int32)), (.int p175)])) _
    refine XS.icmpNo X0.here hx rfl (hb hby d3_11) rfl (teq H1).2 ?_
    show Steps p.tables e below (s₁.setTop (mkF m 14 #[.val (.int p175)] [])) _
    refine XS.iconst X0.here hx rfl (hb hby d3_14) ?_
    show Steps p.tables e below (s₁.setTop (mkF m 15 #[.val (.int p175)] [(.int (1 : Int32))])) _
    exact retN X0 hx (t := .boolean) Bd.returns (by simp) (hb hby d3_15) hr
  · show OQp (some (.int (1 : Int32))) h0 n0 _ s₁.heap _
    rw [e0]
    exact ⟨rfl, N0, rfl⟩
set_option maxRecDepth 65536 in
set_option maxHeartbeats 40000000 in
theorem r0_11 (l : Launch) (Z : State) (a0 : Array Value) (hw : ∀ d ∈ tables_1, d.before a0 Z = true) (p162 : Int32) (w167 : Addr) (w174 : Addr) (w181 : Int32) (h0 : Heap) (n0 : Nat) (Z0 : n0 ≤ h0.size) (H0 : ¬ (((p162 &&& (2147483647 : Int32)) % (18 : Int32)) = (0 : Int32))) (H1 : ¬ (((p162 &&& (2147483647 : Int32)) % (18 : Int32)) = (1 : Int32))) (H2 : ¬ (((p162 &&& (2147483647 : Int32)) % (18 : Int32)) = (2 : Int32))) (H3 : ¬ (((p162 &&& (2147483647 : Int32)) % (18 : Int32)) = (3 : Int32))) (H4 : ¬ (((p162 &&& (2147483647 : Int32)) % (18 : Int32)) = (4 : Int32))) (H5 : ¬ (((p162 &&& (2147483647 : Int32)) % (18 : Int32)) = (5 : Int32))) (H6 : ¬ (((p162 &&& (2147483647 : Int32)) % (18 : Int32)) = (6 : Int32))) (H7 : ¬ (((p162 &&& (2147483647 : Int32)) % (18 : Int32)) = (7 : Int32))) (H8 : ¬ (((p162 &&& (2147483647 : Int32)) % (18 : Int32)) = (8 : Int32))) (H9 : ¬ (((p162 &&& (2147483647 : Int32)) % (18 : Int32)) = (9 : Int32))) (H10 : ((p162 &&& (2147483647 : Int32)) % (18 : Int32)) = (10 : Int32)) (H11 : Sta Z h0 "com/example/grepo/grepo/internal/query/Operator" "NOT_IN" "Lcom/example/grepo/grepo/internal/query/Operator;" (.ref w167)) (H12 : Sta Z h0 "com/example/grepo/grepo/internal/query/Operator" "IN" "Lcom/example/grepo/grepo/internal/query/Operator;" (.ref w174)) (H13 : w167 ≠ w174) (H14 : Exa Z h0 w167 "com/example/grepo/grepo/internal/query/Operator") (H15 : Fld Z h0 w167 "com/example/grepo/grepo/internal/query/Operator" "arity" "I" (.int w181)) (H16 : w181 = (1 : Int32)) :
    OMet l Z x code maxLocals ret tables_1 room_1 h0 #[(.int p162)] (OQl (some (.int (1 : Int32))) n0) := by
  refine MetFree.of_bodySF (plainFor_of_name pn_com_example_grepo_grepo_internal_query_OperatorTakesCollectionPinLaw) hisR ?_
  intro p e s m args below meth c s₁ Bd hml0 hP hK
  obtain ⟨rfl, hZ, hh⟩ := hP
  have hx := Bd.exec
  have hby := Bd.bytes
  have hml : c.maxLocals = 4 := hml0
  have hown : s.vm.findClass "com/example/grepo/grepo/internal/query/OperatorTakesCollectionPinLaw" = some m.cls := findClass_of_methodNamed Bd.named
  have hnm := (name_of_methodNamed Bd.named Bd.method).1
  have X0 : Stand p l e room_1 s m #[(.int p162)] below meth c s₁ [] 0 0 := Stand.of_body Bd
  have e0 : s₁.heap = h0 := by rw [← hh, Bd.state]; rfl
  have N0 := Fr.nil n0
  have pre0 : ∀ t, Steps p.tables e below (s₁.setTop (mkF m 0 #[.val (.int p162), .unset, .unset, .unset] [])) t → Steps p.tables e below (s₁.setTop (entryFrame m #[(.int p162)] maxLocals)) t := fun t k => castTop (ef_0_v m p162) k
  obtain ⟨_, _, ⟨T166, L166, k166, n166⟩, -, X166, ⟨Lc166, hQ166, l166, y166, z166⟩, st166⟩ := Jvm.LawKit.callS X0 hx (y := (⟨"com/example/grepo/grepo/internal/query/OperatorTakesCollectionPinLaw", "pick", "(I)Lcom/example/grepo/grepo/internal/query/Operator;"⟩ : MethodName)) hown (mvT hZ (hw _ (List.mem_of_getElem? (i := 1) rfl))) (mvT hZ (hw _ (List.mem_of_getElem? (i := 2) rfl))) (mvT hZ (hw _ (List.mem_of_getElem? (i := 3) rfl))) (mvT hZ (hw _ (List.mem_of_getElem? (i := 4) rfl))) (by decide) (backOf (W := 0) (r1_11 l Z a0 hw ((p162 &&& (2147483647 : Int32)) % (18 : Int32)) w167 h0 n0 Z0 H0 H1 H2 H3 H4 H5 H6 H7 H8 H9 H10 H11) hZ (hw _ (List.mem_of_getElem? (i := 4) rfl)) (hw _ (List.mem_of_getElem? (i := 3) rfl)) (by decide) (by decide)) (g := (mkF m 9 #[.val (.int p162), .val (.int ((p162 &&& (2147483647 : Int32)) % (18 : Int32))), .unset, .unset] [(.int ((p162 &&& (2147483647 : Int32)) % (18 : Int32)))])) rfl (by rw [hml]; rfl) (argsL := [(.int ((p162 &&& (2147483647 : Int32)) % (18 : Int32)))]) (rest := []) (lenOf pd_0 rfl) rfl (by show 2 * 0 + _ ≤ _; exact Nat.le_of_eq rfl) (hb hby at_9) (fun _ _ => ⟨rfl, e0, (by decide : 0 + 0 ≤ _), (by decide : 0 + 0 ≤ _)⟩)
  dsimp only [Pt.U, Pt.locs, Pt.cells, Pt.slots] at X166 l166 y166 z166 st166 hQ166
  subst l166 y166 z166
  obtain ⟨rfl, N166q, e166⟩ := hQ166
  have N166 := Fr.app N0 N166q
  obtain ⟨cq173, kq173, q173a, q173b, q173c⟩ := isOf hZ e166 H14
  obtain ⟨_, _, ⟨T173, L173, k173, n173⟩, -, X173, ⟨Lc173, hQ173, l173, y173, z173⟩, st173⟩ := X166.virtualBack hx (y := (⟨"com/example/grepo/grepo/internal/query/Operator", "takesCollection", "()Z"⟩ : MethodName)) (z := (⟨"com/example/grepo/grepo/internal/query/Operator", "takesCollection", "()Z"⟩ : MethodName)) hown (mvT hZ (hw _ (List.mem_of_getElem? (i := 8) rfl))) (mvT hZ (hw _ (List.mem_of_getElem? (i := 9) rfl))) (notFace_of_selects (args := #[]) (mvT hZ (hw _ (List.mem_of_getElem? (i := 11) rfl)))) (mvT hZ (hw _ (List.mem_of_getElem? (i := 11) rfl))) (mvT hZ (hw _ (List.mem_of_getElem? (i := 10) rfl))) (by decide) (backOf (W := 0) (r2_3 l Z a0 hw w167 w174 w167 h0 n0 Z0 H12 H13 H11 rfl) hZ (hw _ (List.mem_of_getElem? (i := 12) rfl)) (hw _ (List.mem_of_getElem? (i := 6) rfl)) (by decide) (by decide)) q173a q173c (g := (mkF m 14 #[.val (.int p162), .val (.int ((p162 &&& (2147483647 : Int32)) % (18 : Int32))), .val (.ref w167), .unset] [(.ref w167)])) rfl (by rw [hml]; rfl) (Steps.refl _) (argsL := []) (rest := []) (lenOf pd_1 rfl) rfl (by show 2 * 0 + _ ≤ _; exact Nat.le_of_eq rfl) (hb hby at_14) (fun _ _ => ⟨rfl, e166, (by decide : 0 + 0 ≤ _), (by decide : 0 + 0 ≤ _)⟩)
  dsimp only [Pt.U, Pt.locs, Pt.cells, Pt.slots] at X173 l173 y173 z173 st173 hQ173
  subst l173 y173 z173
  obtain ⟨rfl, N173q, e173⟩ := hQ173
  have N173 := Fr.app N166 N173q
  obtain ⟨_, _, ⟨T176, L176, k176, n176⟩, -, X176, ⟨Lc176, hQ176, l176, y176, z176⟩, st176⟩ := Jvm.LawKit.callS X173 hx (y := (⟨"com/example/grepo/grepo/internal/query/OperatorTakesCollectionPinLaw", "expected", "(I)Z"⟩ : MethodName)) hown (mvT hZ (hw _ (List.mem_of_getElem? (i := 17) rfl))) (mvT hZ (hw _ (List.mem_of_getElem? (i := 18) rfl))) (mvT hZ (hw _ (List.mem_of_getElem? (i := 3) rfl))) (mvT hZ (hw _ (List.mem_of_getElem? (i := 19) rfl))) (by decide) (backOf (W := 1) (r3_3 l Z a0 hw ((p162 &&& (2147483647 : Int32)) % (18 : Int32)) h0 n0 Z0 H9 H10) hZ (hw _ (List.mem_of_getElem? (i := 19) rfl)) (hw _ (List.mem_of_getElem? (i := 3) rfl)) (by decide) (by decide)) (g := (mkF m 20 #[.val (.int p162), .val (.int ((p162 &&& (2147483647 : Int32)) % (18 : Int32))), .val (.ref w167), .val (.int (1 : Int32))] [(.int ((p162 &&& (2147483647 : Int32)) % (18 : Int32))), (.int (1 : Int32))])) rfl (by rw [hml]; rfl) (argsL := [(.int ((p162 &&& (2147483647 : Int32)) % (18 : Int32)))]) (rest := [(.int (1 : Int32))]) (lenOf pd_2 rfl) rfl (by show 2 * 0 + _ ≤ _; exact Nat.le_of_eq rfl) (hb hby at_20) (fun _ _ => ⟨rfl, e173, (by decide : 0 + 0 ≤ _), (by decide : 0 + 0 ≤ _)⟩)
  dsimp only [Pt.U, Pt.locs, Pt.cells, Pt.slots] at X176 l176 y176 z176 st176 hQ176
  subst l176 y176 z176
  obtain ⟨rfl, N176q, e176⟩ := hQ176
  have N176 := Fr.app N173 N176q
  obtain ⟨cq180, kq180, q180a, q180b, q180c⟩ := isOf hZ e176 H14
  obtain ⟨_, _, ⟨T180, L180, k180, n180⟩, -, X180, ⟨Lc180, hQ180, l180, y180, z180⟩, st180⟩ := X176.virtualBack hx (y := (⟨"com/example/grepo/grepo/internal/query/Operator", "arity", "()I"⟩ : MethodName)) (z := (⟨"com/example/grepo/grepo/internal/query/Operator", "arity", "()I"⟩ : MethodName)) hown (mvT hZ (hw _ (List.mem_of_getElem? (i := 41) rfl))) (mvT hZ (hw _ (List.mem_of_getElem? (i := 42) rfl))) (notFace_of_selects (args := #[]) (mvT hZ (hw _ (List.mem_of_getElem? (i := 44) rfl)))) (mvT hZ (hw _ (List.mem_of_getElem? (i := 44) rfl))) (mvT hZ (hw _ (List.mem_of_getElem? (i := 43) rfl))) (by decide) (backOf (W := 0) (r4_1 l Z a0 hw w167 w181 h0 n0 Z0 H15) hZ (hw _ (List.mem_of_getElem? (i := 45) rfl)) (hw _ (List.mem_of_getElem? (i := 6) rfl)) (by decide) (by decide)) q180a q180c (g := (mkF m 33 #[.val (.int p162), .val (.int ((p162 &&& (2147483647 : Int32)) % (18 : Int32))), .val (.ref w167), .val (.int (1 : Int32))] [(.ref w167)])) rfl (by rw [hml]; rfl) (Steps.refl _) (argsL := []) (rest := []) (lenOf pd_3 rfl) rfl (by show 2 * 0 + _ ≤ _; exact Nat.le_of_eq rfl) (hb hby at_33) (fun _ _ => ⟨rfl, e176, (by decide : 0 + 0 ≤ _), (by decide : 0 + 0 ≤ _)⟩)
  dsimp only [Pt.U, Pt.locs, Pt.cells, Pt.slots] at X180 l180 y180 z180 st180 hQ180
  subst l180 y180 z180
  obtain ⟨rfl, N180q, e180⟩ := hQ180
  have N180 := Fr.app N176 N180q
  obtain ⟨fs, hr, hrun, hended, hW, hsame⟩ := X180.leave (v := some (.int (1 : Int32))) (fun h => by rw [Bd.returns] at h; cases h)
  refine ⟨_, _, pre0 _ ?_, hrun, hended, _, _, rfl, ?_, ⟨_, rfl⟩, hW, hsame.mono (by decide) (by decide)⟩
  · show Steps p.tables e below (s₁.setTop (mkF m 0 #[.val (.int p162), .unset, .unset, .unset] [])) _
    refine XS.iloadN X0.here hx rfl (hb hby at_0) rfl ?_
    show Steps p.tables e below (s₁.setTop (mkF m 1 #[.val (.int p162), .unset, .unset, .unset] [(.int p162)])) _
    refine X0.ldcInt hx hown (mvT hZ (hw _ (List.mem_of_getElem? (i := 0) rfl))) (g := (mkF m 1 #[.val (.int p162), .unset, .unset, .unset] [(.int p162)])) rfl (hb hby at_1) _ ?_
    show Steps p.tables e below (s₁.setTop (mkF m 3 #[.val (.int p162), .unset, .unset, .unset] [(.int (2147483647 : Int32)), (.int p162)])) _
    refine XS.iand X0.here hx rfl (hb hby at_3) rfl ?_
    show Steps p.tables e below (s₁.setTop (mkF m 4 #[.val (.int p162), .unset, .unset, .unset] [(.int (p162 &&& (2147483647 : Int32)))])) _
    refine XS.bipush X0.here hx rfl (hb hby at_4) ?_
    show Steps p.tables e below (s₁.setTop (mkF m 6 #[.val (.int p162), .unset, .unset, .unset] [(.int (18 : Int32)), (.int (p162 &&& (2147483647 : Int32)))])) _
    refine iremM X0 hx rfl (hb hby at_6) rfl (by decide) ?_
    show Steps p.tables e below (s₁.setTop (mkF m 7 #[.val (.int p162), .unset, .unset, .unset] [(.int ((p162 &&& (2147483647 : Int32)) % (18 : Int32)))])) _
    refine XS.istoreN X0.here hx rfl (hb hby at_7) rfl (l' := #[.val (.int p162), .val (.int ((p162 &&& (2147483647 : Int32)) % (18 : Int32))), .unset, .unset]) rfl ?_
    show Steps p.tables e below (s₁.setTop (mkF m 8 #[.val (.int p162), .val (.int ((p162 &&& (2147483647 : Int32)) % (18 : Int32))), .unset, .unset] [])) _
    refine XS.iloadN X0.here hx rfl (hb hby at_8) rfl ?_
    show Steps p.tables e below (s₁.setTop (mkF m 9 #[.val (.int p162), .val (.int ((p162 &&& (2147483647 : Int32)) % (18 : Int32))), .unset, .unset] [(.int ((p162 &&& (2147483647 : Int32)) % (18 : Int32)))])) _
    refine st166 _ ?_
    show Steps p.tables e below (T166.setTop (mkF m 12 #[.val (.int p162), .val (.int ((p162 &&& (2147483647 : Int32)) % (18 : Int32))), .unset, .unset] [(.ref w167)])) _
    refine XS.astoreN X166.here hx rfl (hb hby at_12) rfl rfl (l' := #[.val (.int p162), .val (.int ((p162 &&& (2147483647 : Int32)) % (18 : Int32))), .val (.ref w167), .unset]) rfl ?_
    show Steps p.tables e below (T166.setTop (mkF m 13 #[.val (.int p162), .val (.int ((p162 &&& (2147483647 : Int32)) % (18 : Int32))), .val (.ref w167), .unset] [])) _
    refine XS.aloadN X166.here hx rfl (hb hby at_13) rfl rfl ?_
    show Steps p.tables e below (T166.setTop (mkF m 14 #[.val (.int p162), .val (.int ((p162 &&& (2147483647 : Int32)) % (18 : Int32))), .val (.ref w167), .unset] [(.ref w167)])) _
    refine st173.trans ?_
    show Steps p.tables e below (T173.setTop (mkF m 17 #[.val (.int p162), .val (.int ((p162 &&& (2147483647 : Int32)) % (18 : Int32))), .val (.ref w167), .unset] [(.int (1 : Int32))])) _
    refine XS.istoreN X173.here hx rfl (hb hby at_17) rfl (l' := #[.val (.int p162), .val (.int ((p162 &&& (2147483647 : Int32)) % (18 : Int32))), .val (.ref w167), .val (.int (1 : Int32))]) rfl ?_
    show Steps p.tables e below (T173.setTop (mkF m 18 #[.val (.int p162), .val (.int ((p162 &&& (2147483647 : Int32)) % (18 : Int32))), .val (.ref w167), .val (.int (1 : Int32))] [])) _
    refine XS.iloadN X173.here hx rfl (hb hby at_18) rfl ?_
    show Steps p.tables e below (T173.setTop (mkF m 19 #[.val (.int p162), .val (.int ((p162 &&& (2147483647 : Int32)) % (18 : Int32))), .val (.ref w167), .val (.int (1 : Int32))] [(.int (1 : Int32))])) _
    refine XS.iloadN X173.here hx rfl (hb hby at_19) rfl ?_
    show Steps p.tables e below (T173.setTop (mkF m 20 #[.val (.int p162), .val (.int ((p162 &&& (2147483647 : Int32)) % (18 : Int32))), .val (.ref w167), .val (.int (1 : Int32))] [(.int ((p162 &&& (2147483647 : Int32)) % (18 : Int32))), (.int (1 : Int32))])) _
    refine st176 _ ?_
    show Steps p.tables e below (T176.setTop (mkF m 23 #[.val (.int p162), .val (.int ((p162 &&& (2147483647 : Int32)) % (18 : Int32))), .val (.ref w167), .val (.int (1 : Int32))] [(.int (1 : Int32)), (.int (1 : Int32))])) _
    refine XS.icmpYes X176.here hx rfl (pc0 := 23) (pc' := 28) rfl (hb hby at_23) rfl (teq (rfl : (1 : Int32) = (1 : Int32))).1 (by decide) (by decide) ?_
    show Steps p.tables e below (T176.setTop (mkF m 28 #[.val (.int p162), .val (.int ((p162 &&& (2147483647 : Int32)) % (18 : Int32))), .val (.ref w167), .val (.int (1 : Int32))] [])) _
    refine XS.iloadN X176.here hx rfl (hb hby at_28) rfl ?_
    show Steps p.tables e below (T176.setTop (mkF m 29 #[.val (.int p162), .val (.int ((p162 &&& (2147483647 : Int32)) % (18 : Int32))), .val (.ref w167), .val (.int (1 : Int32))] [(.int (1 : Int32))])) _
    refine XS.ifNo X176.here hx rfl (hb hby at_29) rfl ((if0 _ _).trans (feq (by decide : ¬ ((1 : Int32) = (0 : Int32)))).1) ?_
    show Steps p.tables e below (T176.setTop (mkF m 32 #[.val (.int p162), .val (.int ((p162 &&& (2147483647 : Int32)) % (18 : Int32))), .val (.ref w167), .val (.int (1 : Int32))] [])) _
    refine XS.aloadN X176.here hx rfl (hb hby at_32) rfl rfl ?_
    show Steps p.tables e below (T176.setTop (mkF m 33 #[.val (.int p162), .val (.int ((p162 &&& (2147483647 : Int32)) % (18 : Int32))), .val (.ref w167), .val (.int (1 : Int32))] [(.ref w167)])) _
    refine st180.trans ?_
    show Steps p.tables e below (T180.setTop (mkF m 36 #[.val (.int p162), .val (.int ((p162 &&& (2147483647 : Int32)) % (18 : Int32))), .val (.ref w167), .val (.int (1 : Int32))] [(.int w181)])) _
    refine XS.iconst X180.here hx rfl (hb hby at_36) ?_
    show Steps p.tables e below (T180.setTop (mkF m 37 #[.val (.int p162), .val (.int ((p162 &&& (2147483647 : Int32)) % (18 : Int32))), .val (.ref w167), .val (.int (1 : Int32))] [(.int (1 : Int32)), (.int w181)])) _
    refine XS.icmpYes X180.here hx rfl (pc0 := 37) (pc' := 42) rfl (hb hby at_37) rfl (teq H16).1 (by decide) (by decide) ?_
    show Steps p.tables e below (T180.setTop (mkF m 42 #[.val (.int p162), .val (.int ((p162 &&& (2147483647 : Int32)) % (18 : Int32))), .val (.ref w167), .val (.int (1 : Int32))] [])) _
    refine XS.iconst X180.here hx rfl (hb hby at_42) ?_
    show Steps p.tables e below (T180.setTop (mkF m 43 #[.val (.int p162), .val (.int ((p162 &&& (2147483647 : Int32)) % (18 : Int32))), .val (.ref w167), .val (.int (1 : Int32))] [(.int (1 : Int32))])) _
    exact retN X180 hx (t := .boolean) Bd.returns (by simp) (hb hby at_43) hr
  · show OQl (some (.int (1 : Int32))) n0 _ T180.heap _
    exact ⟨rfl, N180⟩
theorem d1_103 : decode method_2_code 103 = .ok (.iload_n 0, 1) := by decide +kernel
theorem d1_104 : decode method_2_code 104 = .ok (.bipush 11, 2) := by decide +kernel
theorem d1_106 : decode method_2_code 106 = .ok (.if_icmp .ne 7, 3) := by decide +kernel
theorem d1_109 : decode method_2_code 109 = .ok (.getstatic 43, 3) := by decide +kernel
theorem d1_112 : decode method_2_code 112 = .ok (.areturn, 1) := by decide +kernel
set_option maxRecDepth 65536 in
set_option maxHeartbeats 40000000 in
theorem r1_12 (l : Launch) (Z : State) (a0 : Array Value) (hw : ∀ d ∈ tables_1, d.before a0 Z = true) (p183 : Int32) (w184 : Addr) (h0 : Heap) (n0 : Nat) (Z0 : n0 ≤ h0.size) (H0 : ¬ (p183 = (0 : Int32))) (H1 : ¬ (p183 = (1 : Int32))) (H2 : ¬ (p183 = (2 : Int32))) (H3 : ¬ (p183 = (3 : Int32))) (H4 : ¬ (p183 = (4 : Int32))) (H5 : ¬ (p183 = (5 : Int32))) (H6 : ¬ (p183 = (6 : Int32))) (H7 : ¬ (p183 = (7 : Int32))) (H8 : ¬ (p183 = (8 : Int32))) (H9 : ¬ (p183 = (9 : Int32))) (H10 : ¬ (p183 = (10 : Int32))) (H11 : p183 = (11 : Int32)) (H12 : Sta Z h0 "com/example/grepo/grepo/internal/query/Operator" "TRUE" "Lcom/example/grepo/grepo/internal/query/Operator;" (.ref w184)) :
    OMet l Z (⟨"com/example/grepo/grepo/internal/query/OperatorTakesCollectionPinLaw", "pick", "(I)Lcom/example/grepo/grepo/internal/query/Operator;"⟩ : MethodName) method_2_code 1 (some (.object "com/example/grepo/grepo/internal/query/Operator")) [] ({ frames := 0, cells := 0, slots := 0, locals := 0 } : Room) h0 #[(.int p183)] (OQp (some (.ref w184)) h0 n0) := by
  refine MetFree.of_bodySF (plainFor_of_name pn_com_example_grepo_grepo_internal_query_OperatorTakesCollectionPinLaw) hisR ?_
  intro p e s m args below meth c s₁ Bd hml0 hP hK
  obtain ⟨rfl, hZ, hh⟩ := hP
  have hx := Bd.exec
  have hby := Bd.bytes
  have hml : c.maxLocals = 1 := hml0
  have hown : s.vm.findClass "com/example/grepo/grepo/internal/query/OperatorTakesCollectionPinLaw" = some m.cls := findClass_of_methodNamed Bd.named
  have hnm := (name_of_methodNamed Bd.named Bd.method).1
  have X0 : Stand p l e ({ frames := 0, cells := 0, slots := 0, locals := 0 } : Room) s m #[(.int p183)] below meth c s₁ [] 0 0 := Stand.of_body Bd
  have e0 : s₁.heap = h0 := by rw [← hh, Bd.state]; rfl
  have N0 := Fr.nil n0
  have pre0 : ∀ t, Steps p.tables e below (s₁.setTop (mkF m 0 #[.val (.int p183)] [])) t → Steps p.tables e below (s₁.setTop (entryFrame m #[(.int p183)] 1)) t := fun t k => castTop (ef_1_v m p183) k
  obtain ⟨T185, X185, e185, st185⟩ := getS2 X0 hx hZ hown (host := "") (Or.inl (hw _ (List.mem_of_getElem? (i := 28) rfl))) Via.refl e0 H12 (g := (mkF m 109 #[.val (.int p183)] [])) rfl (hb hby d1_109)
  obtain ⟨fs, hr, hrun, hended, hW, hsame⟩ := X185.leave (v := some (.ref w184)) (fun h => by rw [Bd.returns] at h; cases h)
  refine ⟨_, _, pre0 _ ?_, hrun, hended, _, _, rfl, ?_, ⟨_, rfl⟩, hW, hsame.mono (by decide) (by decide)⟩
  · show Steps p.tables e below (s₁.setTop (mkF m 0 #[.val (.int p183)] [])) _
    refine XS.iloadN X0.here hx rfl (hb hby d1_0) rfl ?_
    show Steps p.tables e below (s₁.setTop (mkF m 1 #[.val (.int p183)] [(.int p183)])) _
    refine XS.ifYes X0.here hx rfl (pc0 := 1) (pc' := 8) rfl (hb hby d1_1) rfl ((if0 _ _).trans (feq H0).2) (by decide) (by decide) ?_
    show Steps p.tables e below (s₁.setTop (mkF m 8 #[.val (.int p183)] [])) _
    refine XS.iloadN X0.here hx rfl (hb hby d1_8) rfl ?_
    show Steps p.tables e below (s₁.setTop (mkF m 9 #[.val (.int p183)] [(.int p183)])) _
    refine XS.iconst X0.here hx rfl (hb hby d1_9) ?_
    show Steps p.tables e below (s₁.setTop (mkF m 10 #[.val (.int p183)] [(.int (1 : Int32)), (.int p183)])) _
    refine XS.icmpYes X0.here hx rfl (pc0 := 10) (pc' := 17) rfl (hb hby d1_10) rfl (feq H1).2 (by decide) (by decide) ?_
    show Steps p.tables e below (s₁.setTop (mkF m 17 #[.val (.int p183)] [])) _
    refine XS.iloadN X0.here hx rfl (hb hby d1_17) rfl ?_
    show Steps p.tables e below (s₁.setTop (mkF m 18 #[.val (.int p183)] [(.int p183)])) _
    refine XS.iconst X0.here hx rfl (hb hby d1_18) ?_
    show Steps p.tables e below (s₁.setTop (mkF m 19 #[.val (.int p183)] [(.int (2 : Int32)), (.int p183)])) _
    refine XS.icmpYes X0.here hx rfl (pc0 := 19) (pc' := 26) rfl (hb hby d1_19) rfl (feq H2).2 (by decide) (by decide) ?_
    show Steps p.tables e below (s₁.setTop (mkF m 26 #[.val (.int p183)] [])) _
    refine XS.iloadN X0.here hx rfl (hb hby d1_26) rfl ?_
    show Steps p.tables e below (s₁.setTop (mkF m 27 #[.val (.int p183)] [(.int p183)])) _
    refine XS.iconst X0.here hx rfl (hb hby d1_27) ?_
    show Steps p.tables e below (s₁.setTop (mkF m 28 #[.val (.int p183)] [(.int (3 : Int32)), (.int p183)])) _
    refine XS.icmpYes X0.here hx rfl (pc0 := 28) (pc' := 35) rfl (hb hby d1_28) rfl (feq H3).2 (by decide) (by decide) ?_
    show Steps p.tables e below (s₁.setTop (mkF m 35 #[.val (.int p183)] [])) _
    refine XS.iloadN X0.here hx rfl (hb hby d1_35) rfl ?_
    show Steps p.tables e below (s₁.setTop (mkF m 36 #[.val (.int p183)] [(.int p183)])) _
    refine XS.iconst X0.here hx rfl (hb hby d1_36) ?_
    show Steps p.tables e below (s₁.setTop (mkF m 37 #[.val (.int p183)] [(.int (4 : Int32)), (.int p183)])) _
    refine XS.icmpYes X0.here hx rfl (pc0 := 37) (pc' := 44) rfl (hb hby d1_37) rfl (feq H4).2 (by decide) (by decide) ?_
    show Steps p.tables e below (s₁.setTop (mkF m 44 #[.val (.int p183)] [])) _
    refine XS.iloadN X0.here hx rfl (hb hby d1_44) rfl ?_
    show Steps p.tables e below (s₁.setTop (mkF m 45 #[.val (.int p183)] [(.int p183)])) _
    refine XS.iconst X0.here hx rfl (hb hby d1_45) ?_
    show Steps p.tables e below (s₁.setTop (mkF m 46 #[.val (.int p183)] [(.int (5 : Int32)), (.int p183)])) _
    refine XS.icmpYes X0.here hx rfl (pc0 := 46) (pc' := 53) rfl (hb hby d1_46) rfl (feq H5).2 (by decide) (by decide) ?_
    show Steps p.tables e below (s₁.setTop (mkF m 53 #[.val (.int p183)] [])) _
    refine XS.iloadN X0.here hx rfl (hb hby d1_53) rfl ?_
    show Steps p.tables e below (s₁.setTop (mkF m 54 #[.val (.int p183)] [(.int p183)])) _
    refine XS.bipush X0.here hx rfl (hb hby d1_54) ?_
    show Steps p.tables e below (s₁.setTop (mkF m 56 #[.val (.int p183)] [(.int (6 : Int32)), (.int p183)])) _
    refine XS.icmpYes X0.here hx rfl (pc0 := 56) (pc' := 63) rfl (hb hby d1_56) rfl (feq H6).2 (by decide) (by decide) ?_
    show Steps p.tables e below (s₁.setTop (mkF m 63 #[.val (.int p183)] [])) _
    refine XS.iloadN X0.here hx rfl (hb hby d1_63) rfl ?_
    show Steps p.tables e below (s₁.setTop (mkF m 64 #[.val (.int p183)] [(.int p183)])) _
    refine XS.bipush X0.here hx rfl (hb hby d1_64) ?_
    show Steps p.tables e below (s₁.setTop (mkF m 66 #[.val (.int p183)] [(.int (7 : Int32)), (.int p183)])) _
    refine XS.icmpYes X0.here hx rfl (pc0 := 66) (pc' := 73) rfl (hb hby d1_66) rfl (feq H7).2 (by decide) (by decide) ?_
    show Steps p.tables e below (s₁.setTop (mkF m 73 #[.val (.int p183)] [])) _
    refine XS.iloadN X0.here hx rfl (hb hby d1_73) rfl ?_
    show Steps p.tables e below (s₁.setTop (mkF m 74 #[.val (.int p183)] [(.int p183)])) _
    refine XS.bipush X0.here hx rfl (hb hby d1_74) ?_
    show Steps p.tables e below (s₁.setTop (mkF m 76 #[.val (.int p183)] [(.int (8 : Int32)), (.int p183)])) _
    refine XS.icmpYes X0.here hx rfl (pc0 := 76) (pc' := 83) rfl (hb hby d1_76) rfl (feq H8).2 (by decide) (by decide) ?_
    show Steps p.tables e below (s₁.setTop (mkF m 83 #[.val (.int p183)] [])) _
    refine XS.iloadN X0.here hx rfl (hb hby d1_83) rfl ?_
    show Steps p.tables e below (s₁.setTop (mkF m 84 #[.val (.int p183)] [(.int p183)])) _
    refine XS.bipush X0.here hx rfl (hb hby d1_84) ?_
    show Steps p.tables e below (s₁.setTop (mkF m 86 #[.val (.int p183)] [(.int (9 : Int32)), (.int p183)])) _
    refine XS.icmpYes X0.here hx rfl (pc0 := 86) (pc' := 93) rfl (hb hby d1_86) rfl (feq H9).2 (by decide) (by decide) ?_
    show Steps p.tables e below (s₁.setTop (mkF m 93 #[.val (.int p183)] [])) _
    refine XS.iloadN X0.here hx rfl (hb hby d1_93) rfl ?_
    show Steps p.tables e below (s₁.setTop (mkF m 94 #[.val (.int p183)] [(.int p183)])) _
    refine XS.bipush X0.here hx rfl (hb hby d1_94) ?_
    show Steps p.tables e below (s₁.setTop (mkF m 96 #[.val (.int p183)] [(.int (10 : Int32)), (.int p183)])) _
    refine XS.icmpYes X0.here hx rfl (pc0 := 96) (pc' := 103) rfl (hb hby d1_96) rfl (feq H10).2 (by decide) (by decide) ?_
    show Steps p.tables e below (s₁.setTop (mkF m 103 #[.val (.int p183)] [])) _
    refine XS.iloadN X0.here hx rfl (hb hby d1_103) rfl ?_
    show Steps p.tables e below (s₁.setTop (mkF m 104 #[.val (.int p183)] [(.int p183)])) _
    refine XS.bipush X0.here hx rfl (hb hby d1_104) ?_
    show Steps p.tables e below (s₁.setTop (mkF m 106 #[.val (.int p183)] [(.int (11 : Int32)), (.int p183)])) _
    refine XS.icmpNo X0.here hx rfl (hb hby d1_106) rfl (teq H11).2 ?_
    show Steps p.tables e below (s₁.setTop (mkF m 109 #[.val (.int p183)] [])) _
    refine st185 _ ?_
    show Steps p.tables e below (T185.setTop (mkF m 112 #[.val (.int p183)] [(.ref w184)])) _
    jvm_step X185.here [X185.here.top, hx, (hb hby d1_112), X185.method', Bd.returns, Value.isRef, FieldType.isReference]
    first | (intro acts; rw [hr _ acts rfl rfl rfl]) | rw [hr _ _ rfl rfl rfl]
    exact Steps.refl _
  · show OQp (some (.ref w184)) h0 n0 _ T185.heap _
    rw [e185]
    exact ⟨rfl, N0, rfl⟩
set_option maxRecDepth 65536 in
set_option maxHeartbeats 40000000 in
theorem r0_12 (l : Launch) (Z : State) (a0 : Array Value) (hw : ∀ d ∈ tables_1, d.before a0 Z = true) (p182 : Int32) (w187 : Addr) (w194 : Addr) (w195 : Addr) (h0 : Heap) (n0 : Nat) (Z0 : n0 ≤ h0.size) (H0 : ¬ (((p182 &&& (2147483647 : Int32)) % (18 : Int32)) = (0 : Int32))) (H1 : ¬ (((p182 &&& (2147483647 : Int32)) % (18 : Int32)) = (1 : Int32))) (H2 : ¬ (((p182 &&& (2147483647 : Int32)) % (18 : Int32)) = (2 : Int32))) (H3 : ¬ (((p182 &&& (2147483647 : Int32)) % (18 : Int32)) = (3 : Int32))) (H4 : ¬ (((p182 &&& (2147483647 : Int32)) % (18 : Int32)) = (4 : Int32))) (H5 : ¬ (((p182 &&& (2147483647 : Int32)) % (18 : Int32)) = (5 : Int32))) (H6 : ¬ (((p182 &&& (2147483647 : Int32)) % (18 : Int32)) = (6 : Int32))) (H7 : ¬ (((p182 &&& (2147483647 : Int32)) % (18 : Int32)) = (7 : Int32))) (H8 : ¬ (((p182 &&& (2147483647 : Int32)) % (18 : Int32)) = (8 : Int32))) (H9 : ¬ (((p182 &&& (2147483647 : Int32)) % (18 : Int32)) = (9 : Int32))) (H10 : ¬ (((p182 &&& (2147483647 : Int32)) % (18 : Int32)) = (10 : Int32))) (H11 : ((p182 &&& (2147483647 : Int32)) % (18 : Int32)) = (11 : Int32)) (H12 : Sta Z h0 "com/example/grepo/grepo/internal/query/Operator" "TRUE" "Lcom/example/grepo/grepo/internal/query/Operator;" (.ref w187)) (H13 : Sta Z h0 "com/example/grepo/grepo/internal/query/Operator" "IN" "Lcom/example/grepo/grepo/internal/query/Operator;" (.ref w194)) (H14 : w187 ≠ w194) (H15 : Sta Z h0 "com/example/grepo/grepo/internal/query/Operator" "NOT_IN" "Lcom/example/grepo/grepo/internal/query/Operator;" (.ref w195)) (H16 : w187 ≠ w195) (H17 : Exa Z h0 w187 "com/example/grepo/grepo/internal/query/Operator") :
    OMet l Z x code maxLocals ret tables_1 room_1 h0 #[(.int p182)] (OQl (some (.int (1 : Int32))) n0) := by
  refine MetFree.of_bodySF (plainFor_of_name pn_com_example_grepo_grepo_internal_query_OperatorTakesCollectionPinLaw) hisR ?_
  intro p e s m args below meth c s₁ Bd hml0 hP hK
  obtain ⟨rfl, hZ, hh⟩ := hP
  have hx := Bd.exec
  have hby := Bd.bytes
  have hml : c.maxLocals = 4 := hml0
  have hown : s.vm.findClass "com/example/grepo/grepo/internal/query/OperatorTakesCollectionPinLaw" = some m.cls := findClass_of_methodNamed Bd.named
  have hnm := (name_of_methodNamed Bd.named Bd.method).1
  have X0 : Stand p l e room_1 s m #[(.int p182)] below meth c s₁ [] 0 0 := Stand.of_body Bd
  have e0 : s₁.heap = h0 := by rw [← hh, Bd.state]; rfl
  have N0 := Fr.nil n0
  have pre0 : ∀ t, Steps p.tables e below (s₁.setTop (mkF m 0 #[.val (.int p182), .unset, .unset, .unset] [])) t → Steps p.tables e below (s₁.setTop (entryFrame m #[(.int p182)] maxLocals)) t := fun t k => castTop (ef_0_v m p182) k
  obtain ⟨_, _, ⟨T186, L186, k186, n186⟩, -, X186, ⟨Lc186, hQ186, l186, y186, z186⟩, st186⟩ := Jvm.LawKit.callS X0 hx (y := (⟨"com/example/grepo/grepo/internal/query/OperatorTakesCollectionPinLaw", "pick", "(I)Lcom/example/grepo/grepo/internal/query/Operator;"⟩ : MethodName)) hown (mvT hZ (hw _ (List.mem_of_getElem? (i := 1) rfl))) (mvT hZ (hw _ (List.mem_of_getElem? (i := 2) rfl))) (mvT hZ (hw _ (List.mem_of_getElem? (i := 3) rfl))) (mvT hZ (hw _ (List.mem_of_getElem? (i := 4) rfl))) (by decide) (backOf (W := 0) (r1_12 l Z a0 hw ((p182 &&& (2147483647 : Int32)) % (18 : Int32)) w187 h0 n0 Z0 H0 H1 H2 H3 H4 H5 H6 H7 H8 H9 H10 H11 H12) hZ (hw _ (List.mem_of_getElem? (i := 4) rfl)) (hw _ (List.mem_of_getElem? (i := 3) rfl)) (by decide) (by decide)) (g := (mkF m 9 #[.val (.int p182), .val (.int ((p182 &&& (2147483647 : Int32)) % (18 : Int32))), .unset, .unset] [(.int ((p182 &&& (2147483647 : Int32)) % (18 : Int32)))])) rfl (by rw [hml]; rfl) (argsL := [(.int ((p182 &&& (2147483647 : Int32)) % (18 : Int32)))]) (rest := []) (lenOf pd_0 rfl) rfl (by show 2 * 0 + _ ≤ _; exact Nat.le_of_eq rfl) (hb hby at_9) (fun _ _ => ⟨rfl, e0, (by decide : 0 + 0 ≤ _), (by decide : 0 + 0 ≤ _)⟩)
  dsimp only [Pt.U, Pt.locs, Pt.cells, Pt.slots] at X186 l186 y186 z186 st186 hQ186
  subst l186 y186 z186
  obtain ⟨rfl, N186q, e186⟩ := hQ186
  have N186 := Fr.app N0 N186q
  obtain ⟨cq193, kq193, q193a, q193b, q193c⟩ := isOf hZ e186 H17
  obtain ⟨_, _, ⟨T193, L193, k193, n193⟩, -, X193, ⟨Lc193, hQ193, l193, y193, z193⟩, st193⟩ := X186.virtualBack hx (y := (⟨"com/example/grepo/grepo/internal/query/Operator", "takesCollection", "()Z"⟩ : MethodName)) (z := (⟨"com/example/grepo/grepo/internal/query/Operator", "takesCollection", "()Z"⟩ : MethodName)) hown (mvT hZ (hw _ (List.mem_of_getElem? (i := 8) rfl))) (mvT hZ (hw _ (List.mem_of_getElem? (i := 9) rfl))) (notFace_of_selects (args := #[]) (mvT hZ (hw _ (List.mem_of_getElem? (i := 11) rfl)))) (mvT hZ (hw _ (List.mem_of_getElem? (i := 11) rfl))) (mvT hZ (hw _ (List.mem_of_getElem? (i := 10) rfl))) (by decide) (backOf (W := 0) (r2_1 l Z a0 hw w187 w194 w195 h0 n0 Z0 H13 H14 H15 H16) hZ (hw _ (List.mem_of_getElem? (i := 12) rfl)) (hw _ (List.mem_of_getElem? (i := 6) rfl)) (by decide) (by decide)) q193a q193c (g := (mkF m 14 #[.val (.int p182), .val (.int ((p182 &&& (2147483647 : Int32)) % (18 : Int32))), .val (.ref w187), .unset] [(.ref w187)])) rfl (by rw [hml]; rfl) (Steps.refl _) (argsL := []) (rest := []) (lenOf pd_1 rfl) rfl (by show 2 * 0 + _ ≤ _; exact Nat.le_of_eq rfl) (hb hby at_14) (fun _ _ => ⟨rfl, e186, (by decide : 0 + 0 ≤ _), (by decide : 0 + 0 ≤ _)⟩)
  dsimp only [Pt.U, Pt.locs, Pt.cells, Pt.slots] at X193 l193 y193 z193 st193 hQ193
  subst l193 y193 z193
  obtain ⟨rfl, N193q, e193⟩ := hQ193
  have N193 := Fr.app N186 N193q
  obtain ⟨_, _, ⟨T197, L197, k197, n197⟩, -, X197, ⟨Lc197, hQ197, l197, y197, z197⟩, st197⟩ := Jvm.LawKit.callS X193 hx (y := (⟨"com/example/grepo/grepo/internal/query/OperatorTakesCollectionPinLaw", "expected", "(I)Z"⟩ : MethodName)) hown (mvT hZ (hw _ (List.mem_of_getElem? (i := 17) rfl))) (mvT hZ (hw _ (List.mem_of_getElem? (i := 18) rfl))) (mvT hZ (hw _ (List.mem_of_getElem? (i := 3) rfl))) (mvT hZ (hw _ (List.mem_of_getElem? (i := 19) rfl))) (by decide) (backOf (W := 1) (r3_1 l Z a0 hw ((p182 &&& (2147483647 : Int32)) % (18 : Int32)) h0 n0 Z0 H9 H10) hZ (hw _ (List.mem_of_getElem? (i := 19) rfl)) (hw _ (List.mem_of_getElem? (i := 3) rfl)) (by decide) (by decide)) (g := (mkF m 20 #[.val (.int p182), .val (.int ((p182 &&& (2147483647 : Int32)) % (18 : Int32))), .val (.ref w187), .val (.int (0 : Int32))] [(.int ((p182 &&& (2147483647 : Int32)) % (18 : Int32))), (.int (0 : Int32))])) rfl (by rw [hml]; rfl) (argsL := [(.int ((p182 &&& (2147483647 : Int32)) % (18 : Int32)))]) (rest := [(.int (0 : Int32))]) (lenOf pd_2 rfl) rfl (by show 2 * 0 + _ ≤ _; exact Nat.le_of_eq rfl) (hb hby at_20) (fun _ _ => ⟨rfl, e193, (by decide : 0 + 0 ≤ _), (by decide : 0 + 0 ≤ _)⟩)
  dsimp only [Pt.U, Pt.locs, Pt.cells, Pt.slots] at X197 l197 y197 z197 st197 hQ197
  subst l197 y197 z197
  obtain ⟨rfl, N197q, e197⟩ := hQ197
  have N197 := Fr.app N193 N197q
  obtain ⟨fs, hr, hrun, hended, hW, hsame⟩ := X197.leave (v := some (.int (1 : Int32))) (fun h => by rw [Bd.returns] at h; cases h)
  refine ⟨_, _, pre0 _ ?_, hrun, hended, _, _, rfl, ?_, ⟨_, rfl⟩, hW, hsame.mono (by decide) (by decide)⟩
  · show Steps p.tables e below (s₁.setTop (mkF m 0 #[.val (.int p182), .unset, .unset, .unset] [])) _
    refine XS.iloadN X0.here hx rfl (hb hby at_0) rfl ?_
    show Steps p.tables e below (s₁.setTop (mkF m 1 #[.val (.int p182), .unset, .unset, .unset] [(.int p182)])) _
    refine X0.ldcInt hx hown (mvT hZ (hw _ (List.mem_of_getElem? (i := 0) rfl))) (g := (mkF m 1 #[.val (.int p182), .unset, .unset, .unset] [(.int p182)])) rfl (hb hby at_1) _ ?_
    show Steps p.tables e below (s₁.setTop (mkF m 3 #[.val (.int p182), .unset, .unset, .unset] [(.int (2147483647 : Int32)), (.int p182)])) _
    refine XS.iand X0.here hx rfl (hb hby at_3) rfl ?_
    show Steps p.tables e below (s₁.setTop (mkF m 4 #[.val (.int p182), .unset, .unset, .unset] [(.int (p182 &&& (2147483647 : Int32)))])) _
    refine XS.bipush X0.here hx rfl (hb hby at_4) ?_
    show Steps p.tables e below (s₁.setTop (mkF m 6 #[.val (.int p182), .unset, .unset, .unset] [(.int (18 : Int32)), (.int (p182 &&& (2147483647 : Int32)))])) _
    refine iremM X0 hx rfl (hb hby at_6) rfl (by decide) ?_
    show Steps p.tables e below (s₁.setTop (mkF m 7 #[.val (.int p182), .unset, .unset, .unset] [(.int ((p182 &&& (2147483647 : Int32)) % (18 : Int32)))])) _
    refine XS.istoreN X0.here hx rfl (hb hby at_7) rfl (l' := #[.val (.int p182), .val (.int ((p182 &&& (2147483647 : Int32)) % (18 : Int32))), .unset, .unset]) rfl ?_
    show Steps p.tables e below (s₁.setTop (mkF m 8 #[.val (.int p182), .val (.int ((p182 &&& (2147483647 : Int32)) % (18 : Int32))), .unset, .unset] [])) _
    refine XS.iloadN X0.here hx rfl (hb hby at_8) rfl ?_
    show Steps p.tables e below (s₁.setTop (mkF m 9 #[.val (.int p182), .val (.int ((p182 &&& (2147483647 : Int32)) % (18 : Int32))), .unset, .unset] [(.int ((p182 &&& (2147483647 : Int32)) % (18 : Int32)))])) _
    refine st186 _ ?_
    show Steps p.tables e below (T186.setTop (mkF m 12 #[.val (.int p182), .val (.int ((p182 &&& (2147483647 : Int32)) % (18 : Int32))), .unset, .unset] [(.ref w187)])) _
    refine XS.astoreN X186.here hx rfl (hb hby at_12) rfl rfl (l' := #[.val (.int p182), .val (.int ((p182 &&& (2147483647 : Int32)) % (18 : Int32))), .val (.ref w187), .unset]) rfl ?_
    show Steps p.tables e below (T186.setTop (mkF m 13 #[.val (.int p182), .val (.int ((p182 &&& (2147483647 : Int32)) % (18 : Int32))), .val (.ref w187), .unset] [])) _
    refine XS.aloadN X186.here hx rfl (hb hby at_13) rfl rfl ?_
    show Steps p.tables e below (T186.setTop (mkF m 14 #[.val (.int p182), .val (.int ((p182 &&& (2147483647 : Int32)) % (18 : Int32))), .val (.ref w187), .unset] [(.ref w187)])) _
    refine st193.trans ?_
    show Steps p.tables e below (T193.setTop (mkF m 17 #[.val (.int p182), .val (.int ((p182 &&& (2147483647 : Int32)) % (18 : Int32))), .val (.ref w187), .unset] [(.int (0 : Int32))])) _
    refine XS.istoreN X193.here hx rfl (hb hby at_17) rfl (l' := #[.val (.int p182), .val (.int ((p182 &&& (2147483647 : Int32)) % (18 : Int32))), .val (.ref w187), .val (.int (0 : Int32))]) rfl ?_
    show Steps p.tables e below (T193.setTop (mkF m 18 #[.val (.int p182), .val (.int ((p182 &&& (2147483647 : Int32)) % (18 : Int32))), .val (.ref w187), .val (.int (0 : Int32))] [])) _
    refine XS.iloadN X193.here hx rfl (hb hby at_18) rfl ?_
    show Steps p.tables e below (T193.setTop (mkF m 19 #[.val (.int p182), .val (.int ((p182 &&& (2147483647 : Int32)) % (18 : Int32))), .val (.ref w187), .val (.int (0 : Int32))] [(.int (0 : Int32))])) _
    refine XS.iloadN X193.here hx rfl (hb hby at_19) rfl ?_
    show Steps p.tables e below (T193.setTop (mkF m 20 #[.val (.int p182), .val (.int ((p182 &&& (2147483647 : Int32)) % (18 : Int32))), .val (.ref w187), .val (.int (0 : Int32))] [(.int ((p182 &&& (2147483647 : Int32)) % (18 : Int32))), (.int (0 : Int32))])) _
    refine st197 _ ?_
    show Steps p.tables e below (T197.setTop (mkF m 23 #[.val (.int p182), .val (.int ((p182 &&& (2147483647 : Int32)) % (18 : Int32))), .val (.ref w187), .val (.int (0 : Int32))] [(.int (0 : Int32)), (.int (0 : Int32))])) _
    refine XS.icmpYes X197.here hx rfl (pc0 := 23) (pc' := 28) rfl (hb hby at_23) rfl (teq (rfl : (0 : Int32) = (0 : Int32))).1 (by decide) (by decide) ?_
    show Steps p.tables e below (T197.setTop (mkF m 28 #[.val (.int p182), .val (.int ((p182 &&& (2147483647 : Int32)) % (18 : Int32))), .val (.ref w187), .val (.int (0 : Int32))] [])) _
    refine XS.iloadN X197.here hx rfl (hb hby at_28) rfl ?_
    show Steps p.tables e below (T197.setTop (mkF m 29 #[.val (.int p182), .val (.int ((p182 &&& (2147483647 : Int32)) % (18 : Int32))), .val (.ref w187), .val (.int (0 : Int32))] [(.int (0 : Int32))])) _
    refine XS.ifYes X197.here hx rfl (pc0 := 29) (pc' := 42) rfl (hb hby at_29) rfl ((if0 _ _).trans (teq (rfl : (0 : Int32) = (0 : Int32))).1) (by decide) (by decide) ?_
    show Steps p.tables e below (T197.setTop (mkF m 42 #[.val (.int p182), .val (.int ((p182 &&& (2147483647 : Int32)) % (18 : Int32))), .val (.ref w187), .val (.int (0 : Int32))] [])) _
    refine XS.iconst X197.here hx rfl (hb hby at_42) ?_
    show Steps p.tables e below (T197.setTop (mkF m 43 #[.val (.int p182), .val (.int ((p182 &&& (2147483647 : Int32)) % (18 : Int32))), .val (.ref w187), .val (.int (0 : Int32))] [(.int (1 : Int32))])) _
    exact retN X197 hx (t := .boolean) Bd.returns (by simp) (hb hby at_43) hr
  · show OQl (some (.int (1 : Int32))) n0 _ T197.heap _
    exact ⟨rfl, N197⟩
theorem d1_113 : decode method_2_code 113 = .ok (.iload_n 0, 1) := by decide +kernel
theorem d1_114 : decode method_2_code 114 = .ok (.bipush 12, 2) := by decide +kernel
theorem d1_116 : decode method_2_code 116 = .ok (.if_icmp .ne 7, 3) := by decide +kernel
theorem d1_119 : decode method_2_code 119 = .ok (.getstatic 46, 3) := by decide +kernel
theorem d1_122 : decode method_2_code 122 = .ok (.areturn, 1) := by decide +kernel
set_option maxRecDepth 65536 in
set_option maxHeartbeats 40000000 in
theorem r1_13 (l : Launch) (Z : State) (a0 : Array Value) (hw : ∀ d ∈ tables_1, d.before a0 Z = true) (p199 : Int32) (w200 : Addr) (h0 : Heap) (n0 : Nat) (Z0 : n0 ≤ h0.size) (H0 : ¬ (p199 = (0 : Int32))) (H1 : ¬ (p199 = (1 : Int32))) (H2 : ¬ (p199 = (2 : Int32))) (H3 : ¬ (p199 = (3 : Int32))) (H4 : ¬ (p199 = (4 : Int32))) (H5 : ¬ (p199 = (5 : Int32))) (H6 : ¬ (p199 = (6 : Int32))) (H7 : ¬ (p199 = (7 : Int32))) (H8 : ¬ (p199 = (8 : Int32))) (H9 : ¬ (p199 = (9 : Int32))) (H10 : ¬ (p199 = (10 : Int32))) (H11 : ¬ (p199 = (11 : Int32))) (H12 : p199 = (12 : Int32)) (H13 : Sta Z h0 "com/example/grepo/grepo/internal/query/Operator" "FALSE" "Lcom/example/grepo/grepo/internal/query/Operator;" (.ref w200)) :
    OMet l Z (⟨"com/example/grepo/grepo/internal/query/OperatorTakesCollectionPinLaw", "pick", "(I)Lcom/example/grepo/grepo/internal/query/Operator;"⟩ : MethodName) method_2_code 1 (some (.object "com/example/grepo/grepo/internal/query/Operator")) [] ({ frames := 0, cells := 0, slots := 0, locals := 0 } : Room) h0 #[(.int p199)] (OQp (some (.ref w200)) h0 n0) := by
  refine MetFree.of_bodySF (plainFor_of_name pn_com_example_grepo_grepo_internal_query_OperatorTakesCollectionPinLaw) hisR ?_
  intro p e s m args below meth c s₁ Bd hml0 hP hK
  obtain ⟨rfl, hZ, hh⟩ := hP
  have hx := Bd.exec
  have hby := Bd.bytes
  have hml : c.maxLocals = 1 := hml0
  have hown : s.vm.findClass "com/example/grepo/grepo/internal/query/OperatorTakesCollectionPinLaw" = some m.cls := findClass_of_methodNamed Bd.named
  have hnm := (name_of_methodNamed Bd.named Bd.method).1
  have X0 : Stand p l e ({ frames := 0, cells := 0, slots := 0, locals := 0 } : Room) s m #[(.int p199)] below meth c s₁ [] 0 0 := Stand.of_body Bd
  have e0 : s₁.heap = h0 := by rw [← hh, Bd.state]; rfl
  have N0 := Fr.nil n0
  have pre0 : ∀ t, Steps p.tables e below (s₁.setTop (mkF m 0 #[.val (.int p199)] [])) t → Steps p.tables e below (s₁.setTop (entryFrame m #[(.int p199)] 1)) t := fun t k => castTop (ef_1_v m p199) k
  obtain ⟨T201, X201, e201, st201⟩ := getS2 X0 hx hZ hown (host := "") (Or.inl (hw _ (List.mem_of_getElem? (i := 34) rfl))) Via.refl e0 H13 (g := (mkF m 119 #[.val (.int p199)] [])) rfl (hb hby d1_119)
  obtain ⟨fs, hr, hrun, hended, hW, hsame⟩ := X201.leave (v := some (.ref w200)) (fun h => by rw [Bd.returns] at h; cases h)
  refine ⟨_, _, pre0 _ ?_, hrun, hended, _, _, rfl, ?_, ⟨_, rfl⟩, hW, hsame.mono (by decide) (by decide)⟩
  · show Steps p.tables e below (s₁.setTop (mkF m 0 #[.val (.int p199)] [])) _
    refine XS.iloadN X0.here hx rfl (hb hby d1_0) rfl ?_
    show Steps p.tables e below (s₁.setTop (mkF m 1 #[.val (.int p199)] [(.int p199)])) _
    refine XS.ifYes X0.here hx rfl (pc0 := 1) (pc' := 8) rfl (hb hby d1_1) rfl ((if0 _ _).trans (feq H0).2) (by decide) (by decide) ?_
    show Steps p.tables e below (s₁.setTop (mkF m 8 #[.val (.int p199)] [])) _
    refine XS.iloadN X0.here hx rfl (hb hby d1_8) rfl ?_
    show Steps p.tables e below (s₁.setTop (mkF m 9 #[.val (.int p199)] [(.int p199)])) _
    refine XS.iconst X0.here hx rfl (hb hby d1_9) ?_
    show Steps p.tables e below (s₁.setTop (mkF m 10 #[.val (.int p199)] [(.int (1 : Int32)), (.int p199)])) _
    refine XS.icmpYes X0.here hx rfl (pc0 := 10) (pc' := 17) rfl (hb hby d1_10) rfl (feq H1).2 (by decide) (by decide) ?_
    show Steps p.tables e below (s₁.setTop (mkF m 17 #[.val (.int p199)] [])) _
    refine XS.iloadN X0.here hx rfl (hb hby d1_17) rfl ?_
    show Steps p.tables e below (s₁.setTop (mkF m 18 #[.val (.int p199)] [(.int p199)])) _
    refine XS.iconst X0.here hx rfl (hb hby d1_18) ?_
    show Steps p.tables e below (s₁.setTop (mkF m 19 #[.val (.int p199)] [(.int (2 : Int32)), (.int p199)])) _
    refine XS.icmpYes X0.here hx rfl (pc0 := 19) (pc' := 26) rfl (hb hby d1_19) rfl (feq H2).2 (by decide) (by decide) ?_
    show Steps p.tables e below (s₁.setTop (mkF m 26 #[.val (.int p199)] [])) _
    refine XS.iloadN X0.here hx rfl (hb hby d1_26) rfl ?_
    show Steps p.tables e below (s₁.setTop (mkF m 27 #[.val (.int p199)] [(.int p199)])) _
    refine XS.iconst X0.here hx rfl (hb hby d1_27) ?_
    show Steps p.tables e below (s₁.setTop (mkF m 28 #[.val (.int p199)] [(.int (3 : Int32)), (.int p199)])) _
    refine XS.icmpYes X0.here hx rfl (pc0 := 28) (pc' := 35) rfl (hb hby d1_28) rfl (feq H3).2 (by decide) (by decide) ?_
    show Steps p.tables e below (s₁.setTop (mkF m 35 #[.val (.int p199)] [])) _
    refine XS.iloadN X0.here hx rfl (hb hby d1_35) rfl ?_
    show Steps p.tables e below (s₁.setTop (mkF m 36 #[.val (.int p199)] [(.int p199)])) _
    refine XS.iconst X0.here hx rfl (hb hby d1_36) ?_
    show Steps p.tables e below (s₁.setTop (mkF m 37 #[.val (.int p199)] [(.int (4 : Int32)), (.int p199)])) _
    refine XS.icmpYes X0.here hx rfl (pc0 := 37) (pc' := 44) rfl (hb hby d1_37) rfl (feq H4).2 (by decide) (by decide) ?_
    show Steps p.tables e below (s₁.setTop (mkF m 44 #[.val (.int p199)] [])) _
    refine XS.iloadN X0.here hx rfl (hb hby d1_44) rfl ?_
    show Steps p.tables e below (s₁.setTop (mkF m 45 #[.val (.int p199)] [(.int p199)])) _
    refine XS.iconst X0.here hx rfl (hb hby d1_45) ?_
    show Steps p.tables e below (s₁.setTop (mkF m 46 #[.val (.int p199)] [(.int (5 : Int32)), (.int p199)])) _
    refine XS.icmpYes X0.here hx rfl (pc0 := 46) (pc' := 53) rfl (hb hby d1_46) rfl (feq H5).2 (by decide) (by decide) ?_
    show Steps p.tables e below (s₁.setTop (mkF m 53 #[.val (.int p199)] [])) _
    refine XS.iloadN X0.here hx rfl (hb hby d1_53) rfl ?_
    show Steps p.tables e below (s₁.setTop (mkF m 54 #[.val (.int p199)] [(.int p199)])) _
    refine XS.bipush X0.here hx rfl (hb hby d1_54) ?_
    show Steps p.tables e below (s₁.setTop (mkF m 56 #[.val (.int p199)] [(.int (6 : Int32)), (.int p199)])) _
    refine XS.icmpYes X0.here hx rfl (pc0 := 56) (pc' := 63) rfl (hb hby d1_56) rfl (feq H6).2 (by decide) (by decide) ?_
    show Steps p.tables e below (s₁.setTop (mkF m 63 #[.val (.int p199)] [])) _
    refine XS.iloadN X0.here hx rfl (hb hby d1_63) rfl ?_
    show Steps p.tables e below (s₁.setTop (mkF m 64 #[.val (.int p199)] [(.int p199)])) _
    refine XS.bipush X0.here hx rfl (hb hby d1_64) ?_
    show Steps p.tables e below (s₁.setTop (mkF m 66 #[.val (.int p199)] [(.int (7 : Int32)), (.int p199)])) _
    refine XS.icmpYes X0.here hx rfl (pc0 := 66) (pc' := 73) rfl (hb hby d1_66) rfl (feq H7).2 (by decide) (by decide) ?_
    show Steps p.tables e below (s₁.setTop (mkF m 73 #[.val (.int p199)] [])) _
    refine XS.iloadN X0.here hx rfl (hb hby d1_73) rfl ?_
    show Steps p.tables e below (s₁.setTop (mkF m 74 #[.val (.int p199)] [(.int p199)])) _
    refine XS.bipush X0.here hx rfl (hb hby d1_74) ?_
    show Steps p.tables e below (s₁.setTop (mkF m 76 #[.val (.int p199)] [(.int (8 : Int32)), (.int p199)])) _
    refine XS.icmpYes X0.here hx rfl (pc0 := 76) (pc' := 83) rfl (hb hby d1_76) rfl (feq H8).2 (by decide) (by decide) ?_
    show Steps p.tables e below (s₁.setTop (mkF m 83 #[.val (.int p199)] [])) _
    refine XS.iloadN X0.here hx rfl (hb hby d1_83) rfl ?_
    show Steps p.tables e below (s₁.setTop (mkF m 84 #[.val (.int p199)] [(.int p199)])) _
    refine XS.bipush X0.here hx rfl (hb hby d1_84) ?_
    show Steps p.tables e below (s₁.setTop (mkF m 86 #[.val (.int p199)] [(.int (9 : Int32)), (.int p199)])) _
    refine XS.icmpYes X0.here hx rfl (pc0 := 86) (pc' := 93) rfl (hb hby d1_86) rfl (feq H9).2 (by decide) (by decide) ?_
    show Steps p.tables e below (s₁.setTop (mkF m 93 #[.val (.int p199)] [])) _
    refine XS.iloadN X0.here hx rfl (hb hby d1_93) rfl ?_
    show Steps p.tables e below (s₁.setTop (mkF m 94 #[.val (.int p199)] [(.int p199)])) _
    refine XS.bipush X0.here hx rfl (hb hby d1_94) ?_
    show Steps p.tables e below (s₁.setTop (mkF m 96 #[.val (.int p199)] [(.int (10 : Int32)), (.int p199)])) _
    refine XS.icmpYes X0.here hx rfl (pc0 := 96) (pc' := 103) rfl (hb hby d1_96) rfl (feq H10).2 (by decide) (by decide) ?_
    show Steps p.tables e below (s₁.setTop (mkF m 103 #[.val (.int p199)] [])) _
    refine XS.iloadN X0.here hx rfl (hb hby d1_103) rfl ?_
    show Steps p.tables e below (s₁.setTop (mkF m 104 #[.val (.int p199)] [(.int p199)])) _
    refine XS.bipush X0.here hx rfl (hb hby d1_104) ?_
    show Steps p.tables e below (s₁.setTop (mkF m 106 #[.val (.int p199)] [(.int (11 : Int32)), (.int p199)])) _
    refine XS.icmpYes X0.here hx rfl (pc0 := 106) (pc' := 113) rfl (hb hby d1_106) rfl (feq H11).2 (by decide) (by decide) ?_
    show Steps p.tables e below (s₁.setTop (mkF m 113 #[.val (.int p199)] [])) _
    refine XS.iloadN X0.here hx rfl (hb hby d1_113) rfl ?_
    show Steps p.tables e below (s₁.setTop (mkF m 114 #[.val (.int p199)] [(.int p199)])) _
    refine XS.bipush X0.here hx rfl (hb hby d1_114) ?_
    show Steps p.tables e below (s₁.setTop (mkF m 116 #[.val (.int p199)] [(.int (12 : Int32)), (.int p199)])) _
    refine XS.icmpNo X0.here hx rfl (hb hby d1_116) rfl (teq H12).2 ?_
    show Steps p.tables e below (s₁.setTop (mkF m 119 #[.val (.int p199)] [])) _
    refine st201 _ ?_
    show Steps p.tables e below (T201.setTop (mkF m 122 #[.val (.int p199)] [(.ref w200)])) _
    jvm_step X201.here [X201.here.top, hx, (hb hby d1_122), X201.method', Bd.returns, Value.isRef, FieldType.isReference]
    first | (intro acts; rw [hr _ acts rfl rfl rfl]) | rw [hr _ _ rfl rfl rfl]
    exact Steps.refl _
  · show OQp (some (.ref w200)) h0 n0 _ T201.heap _
    rw [e201]
    exact ⟨rfl, N0, rfl⟩
set_option maxRecDepth 65536 in
set_option maxHeartbeats 40000000 in
theorem r0_13 (l : Launch) (Z : State) (a0 : Array Value) (hw : ∀ d ∈ tables_1, d.before a0 Z = true) (p198 : Int32) (w203 : Addr) (w210 : Addr) (w211 : Addr) (h0 : Heap) (n0 : Nat) (Z0 : n0 ≤ h0.size) (H0 : ¬ (((p198 &&& (2147483647 : Int32)) % (18 : Int32)) = (0 : Int32))) (H1 : ¬ (((p198 &&& (2147483647 : Int32)) % (18 : Int32)) = (1 : Int32))) (H2 : ¬ (((p198 &&& (2147483647 : Int32)) % (18 : Int32)) = (2 : Int32))) (H3 : ¬ (((p198 &&& (2147483647 : Int32)) % (18 : Int32)) = (3 : Int32))) (H4 : ¬ (((p198 &&& (2147483647 : Int32)) % (18 : Int32)) = (4 : Int32))) (H5 : ¬ (((p198 &&& (2147483647 : Int32)) % (18 : Int32)) = (5 : Int32))) (H6 : ¬ (((p198 &&& (2147483647 : Int32)) % (18 : Int32)) = (6 : Int32))) (H7 : ¬ (((p198 &&& (2147483647 : Int32)) % (18 : Int32)) = (7 : Int32))) (H8 : ¬ (((p198 &&& (2147483647 : Int32)) % (18 : Int32)) = (8 : Int32))) (H9 : ¬ (((p198 &&& (2147483647 : Int32)) % (18 : Int32)) = (9 : Int32))) (H10 : ¬ (((p198 &&& (2147483647 : Int32)) % (18 : Int32)) = (10 : Int32))) (H11 : ¬ (((p198 &&& (2147483647 : Int32)) % (18 : Int32)) = (11 : Int32))) (H12 : ((p198 &&& (2147483647 : Int32)) % (18 : Int32)) = (12 : Int32)) (H13 : Sta Z h0 "com/example/grepo/grepo/internal/query/Operator" "FALSE" "Lcom/example/grepo/grepo/internal/query/Operator;" (.ref w203)) (H14 : Sta Z h0 "com/example/grepo/grepo/internal/query/Operator" "IN" "Lcom/example/grepo/grepo/internal/query/Operator;" (.ref w210)) (H15 : w203 ≠ w210) (H16 : Sta Z h0 "com/example/grepo/grepo/internal/query/Operator" "NOT_IN" "Lcom/example/grepo/grepo/internal/query/Operator;" (.ref w211)) (H17 : w203 ≠ w211) (H18 : Exa Z h0 w203 "com/example/grepo/grepo/internal/query/Operator") :
    OMet l Z x code maxLocals ret tables_1 room_1 h0 #[(.int p198)] (OQl (some (.int (1 : Int32))) n0) := by
  refine MetFree.of_bodySF (plainFor_of_name pn_com_example_grepo_grepo_internal_query_OperatorTakesCollectionPinLaw) hisR ?_
  intro p e s m args below meth c s₁ Bd hml0 hP hK
  obtain ⟨rfl, hZ, hh⟩ := hP
  have hx := Bd.exec
  have hby := Bd.bytes
  have hml : c.maxLocals = 4 := hml0
  have hown : s.vm.findClass "com/example/grepo/grepo/internal/query/OperatorTakesCollectionPinLaw" = some m.cls := findClass_of_methodNamed Bd.named
  have hnm := (name_of_methodNamed Bd.named Bd.method).1
  have X0 : Stand p l e room_1 s m #[(.int p198)] below meth c s₁ [] 0 0 := Stand.of_body Bd
  have e0 : s₁.heap = h0 := by rw [← hh, Bd.state]; rfl
  have N0 := Fr.nil n0
  have pre0 : ∀ t, Steps p.tables e below (s₁.setTop (mkF m 0 #[.val (.int p198), .unset, .unset, .unset] [])) t → Steps p.tables e below (s₁.setTop (entryFrame m #[(.int p198)] maxLocals)) t := fun t k => castTop (ef_0_v m p198) k
  obtain ⟨_, _, ⟨T202, L202, k202, n202⟩, -, X202, ⟨Lc202, hQ202, l202, y202, z202⟩, st202⟩ := Jvm.LawKit.callS X0 hx (y := (⟨"com/example/grepo/grepo/internal/query/OperatorTakesCollectionPinLaw", "pick", "(I)Lcom/example/grepo/grepo/internal/query/Operator;"⟩ : MethodName)) hown (mvT hZ (hw _ (List.mem_of_getElem? (i := 1) rfl))) (mvT hZ (hw _ (List.mem_of_getElem? (i := 2) rfl))) (mvT hZ (hw _ (List.mem_of_getElem? (i := 3) rfl))) (mvT hZ (hw _ (List.mem_of_getElem? (i := 4) rfl))) (by decide) (backOf (W := 0) (r1_13 l Z a0 hw ((p198 &&& (2147483647 : Int32)) % (18 : Int32)) w203 h0 n0 Z0 H0 H1 H2 H3 H4 H5 H6 H7 H8 H9 H10 H11 H12 H13) hZ (hw _ (List.mem_of_getElem? (i := 4) rfl)) (hw _ (List.mem_of_getElem? (i := 3) rfl)) (by decide) (by decide)) (g := (mkF m 9 #[.val (.int p198), .val (.int ((p198 &&& (2147483647 : Int32)) % (18 : Int32))), .unset, .unset] [(.int ((p198 &&& (2147483647 : Int32)) % (18 : Int32)))])) rfl (by rw [hml]; rfl) (argsL := [(.int ((p198 &&& (2147483647 : Int32)) % (18 : Int32)))]) (rest := []) (lenOf pd_0 rfl) rfl (by show 2 * 0 + _ ≤ _; exact Nat.le_of_eq rfl) (hb hby at_9) (fun _ _ => ⟨rfl, e0, (by decide : 0 + 0 ≤ _), (by decide : 0 + 0 ≤ _)⟩)
  dsimp only [Pt.U, Pt.locs, Pt.cells, Pt.slots] at X202 l202 y202 z202 st202 hQ202
  subst l202 y202 z202
  obtain ⟨rfl, N202q, e202⟩ := hQ202
  have N202 := Fr.app N0 N202q
  obtain ⟨cq209, kq209, q209a, q209b, q209c⟩ := isOf hZ e202 H18
  obtain ⟨_, _, ⟨T209, L209, k209, n209⟩, -, X209, ⟨Lc209, hQ209, l209, y209, z209⟩, st209⟩ := X202.virtualBack hx (y := (⟨"com/example/grepo/grepo/internal/query/Operator", "takesCollection", "()Z"⟩ : MethodName)) (z := (⟨"com/example/grepo/grepo/internal/query/Operator", "takesCollection", "()Z"⟩ : MethodName)) hown (mvT hZ (hw _ (List.mem_of_getElem? (i := 8) rfl))) (mvT hZ (hw _ (List.mem_of_getElem? (i := 9) rfl))) (notFace_of_selects (args := #[]) (mvT hZ (hw _ (List.mem_of_getElem? (i := 11) rfl)))) (mvT hZ (hw _ (List.mem_of_getElem? (i := 11) rfl))) (mvT hZ (hw _ (List.mem_of_getElem? (i := 10) rfl))) (by decide) (backOf (W := 0) (r2_1 l Z a0 hw w203 w210 w211 h0 n0 Z0 H14 H15 H16 H17) hZ (hw _ (List.mem_of_getElem? (i := 12) rfl)) (hw _ (List.mem_of_getElem? (i := 6) rfl)) (by decide) (by decide)) q209a q209c (g := (mkF m 14 #[.val (.int p198), .val (.int ((p198 &&& (2147483647 : Int32)) % (18 : Int32))), .val (.ref w203), .unset] [(.ref w203)])) rfl (by rw [hml]; rfl) (Steps.refl _) (argsL := []) (rest := []) (lenOf pd_1 rfl) rfl (by show 2 * 0 + _ ≤ _; exact Nat.le_of_eq rfl) (hb hby at_14) (fun _ _ => ⟨rfl, e202, (by decide : 0 + 0 ≤ _), (by decide : 0 + 0 ≤ _)⟩)
  dsimp only [Pt.U, Pt.locs, Pt.cells, Pt.slots] at X209 l209 y209 z209 st209 hQ209
  subst l209 y209 z209
  obtain ⟨rfl, N209q, e209⟩ := hQ209
  have N209 := Fr.app N202 N209q
  obtain ⟨_, _, ⟨T213, L213, k213, n213⟩, -, X213, ⟨Lc213, hQ213, l213, y213, z213⟩, st213⟩ := Jvm.LawKit.callS X209 hx (y := (⟨"com/example/grepo/grepo/internal/query/OperatorTakesCollectionPinLaw", "expected", "(I)Z"⟩ : MethodName)) hown (mvT hZ (hw _ (List.mem_of_getElem? (i := 17) rfl))) (mvT hZ (hw _ (List.mem_of_getElem? (i := 18) rfl))) (mvT hZ (hw _ (List.mem_of_getElem? (i := 3) rfl))) (mvT hZ (hw _ (List.mem_of_getElem? (i := 19) rfl))) (by decide) (backOf (W := 1) (r3_1 l Z a0 hw ((p198 &&& (2147483647 : Int32)) % (18 : Int32)) h0 n0 Z0 H9 H10) hZ (hw _ (List.mem_of_getElem? (i := 19) rfl)) (hw _ (List.mem_of_getElem? (i := 3) rfl)) (by decide) (by decide)) (g := (mkF m 20 #[.val (.int p198), .val (.int ((p198 &&& (2147483647 : Int32)) % (18 : Int32))), .val (.ref w203), .val (.int (0 : Int32))] [(.int ((p198 &&& (2147483647 : Int32)) % (18 : Int32))), (.int (0 : Int32))])) rfl (by rw [hml]; rfl) (argsL := [(.int ((p198 &&& (2147483647 : Int32)) % (18 : Int32)))]) (rest := [(.int (0 : Int32))]) (lenOf pd_2 rfl) rfl (by show 2 * 0 + _ ≤ _; exact Nat.le_of_eq rfl) (hb hby at_20) (fun _ _ => ⟨rfl, e209, (by decide : 0 + 0 ≤ _), (by decide : 0 + 0 ≤ _)⟩)
  dsimp only [Pt.U, Pt.locs, Pt.cells, Pt.slots] at X213 l213 y213 z213 st213 hQ213
  subst l213 y213 z213
  obtain ⟨rfl, N213q, e213⟩ := hQ213
  have N213 := Fr.app N209 N213q
  obtain ⟨fs, hr, hrun, hended, hW, hsame⟩ := X213.leave (v := some (.int (1 : Int32))) (fun h => by rw [Bd.returns] at h; cases h)
  refine ⟨_, _, pre0 _ ?_, hrun, hended, _, _, rfl, ?_, ⟨_, rfl⟩, hW, hsame.mono (by decide) (by decide)⟩
  · show Steps p.tables e below (s₁.setTop (mkF m 0 #[.val (.int p198), .unset, .unset, .unset] [])) _
    refine XS.iloadN X0.here hx rfl (hb hby at_0) rfl ?_
    show Steps p.tables e below (s₁.setTop (mkF m 1 #[.val (.int p198), .unset, .unset, .unset] [(.int p198)])) _
    refine X0.ldcInt hx hown (mvT hZ (hw _ (List.mem_of_getElem? (i := 0) rfl))) (g := (mkF m 1 #[.val (.int p198), .unset, .unset, .unset] [(.int p198)])) rfl (hb hby at_1) _ ?_
    show Steps p.tables e below (s₁.setTop (mkF m 3 #[.val (.int p198), .unset, .unset, .unset] [(.int (2147483647 : Int32)), (.int p198)])) _
    refine XS.iand X0.here hx rfl (hb hby at_3) rfl ?_
    show Steps p.tables e below (s₁.setTop (mkF m 4 #[.val (.int p198), .unset, .unset, .unset] [(.int (p198 &&& (2147483647 : Int32)))])) _
    refine XS.bipush X0.here hx rfl (hb hby at_4) ?_
    show Steps p.tables e below (s₁.setTop (mkF m 6 #[.val (.int p198), .unset, .unset, .unset] [(.int (18 : Int32)), (.int (p198 &&& (2147483647 : Int32)))])) _
    refine iremM X0 hx rfl (hb hby at_6) rfl (by decide) ?_
    show Steps p.tables e below (s₁.setTop (mkF m 7 #[.val (.int p198), .unset, .unset, .unset] [(.int ((p198 &&& (2147483647 : Int32)) % (18 : Int32)))])) _
    refine XS.istoreN X0.here hx rfl (hb hby at_7) rfl (l' := #[.val (.int p198), .val (.int ((p198 &&& (2147483647 : Int32)) % (18 : Int32))), .unset, .unset]) rfl ?_
    show Steps p.tables e below (s₁.setTop (mkF m 8 #[.val (.int p198), .val (.int ((p198 &&& (2147483647 : Int32)) % (18 : Int32))), .unset, .unset] [])) _
    refine XS.iloadN X0.here hx rfl (hb hby at_8) rfl ?_
    show Steps p.tables e below (s₁.setTop (mkF m 9 #[.val (.int p198), .val (.int ((p198 &&& (2147483647 : Int32)) % (18 : Int32))), .unset, .unset] [(.int ((p198 &&& (2147483647 : Int32)) % (18 : Int32)))])) _
    refine st202 _ ?_
    show Steps p.tables e below (T202.setTop (mkF m 12 #[.val (.int p198), .val (.int ((p198 &&& (2147483647 : Int32)) % (18 : Int32))), .unset, .unset] [(.ref w203)])) _
    refine XS.astoreN X202.here hx rfl (hb hby at_12) rfl rfl (l' := #[.val (.int p198), .val (.int ((p198 &&& (2147483647 : Int32)) % (18 : Int32))), .val (.ref w203), .unset]) rfl ?_
    show Steps p.tables e below (T202.setTop (mkF m 13 #[.val (.int p198), .val (.int ((p198 &&& (2147483647 : Int32)) % (18 : Int32))), .val (.ref w203), .unset] [])) _
    refine XS.aloadN X202.here hx rfl (hb hby at_13) rfl rfl ?_
    show Steps p.tables e below (T202.setTop (mkF m 14 #[.val (.int p198), .val (.int ((p198 &&& (2147483647 : Int32)) % (18 : Int32))), .val (.ref w203), .unset] [(.ref w203)])) _
    refine st209.trans ?_
    show Steps p.tables e below (T209.setTop (mkF m 17 #[.val (.int p198), .val (.int ((p198 &&& (2147483647 : Int32)) % (18 : Int32))), .val (.ref w203), .unset] [(.int (0 : Int32))])) _
    refine XS.istoreN X209.here hx rfl (hb hby at_17) rfl (l' := #[.val (.int p198), .val (.int ((p198 &&& (2147483647 : Int32)) % (18 : Int32))), .val (.ref w203), .val (.int (0 : Int32))]) rfl ?_
    show Steps p.tables e below (T209.setTop (mkF m 18 #[.val (.int p198), .val (.int ((p198 &&& (2147483647 : Int32)) % (18 : Int32))), .val (.ref w203), .val (.int (0 : Int32))] [])) _
    refine XS.iloadN X209.here hx rfl (hb hby at_18) rfl ?_
    show Steps p.tables e below (T209.setTop (mkF m 19 #[.val (.int p198), .val (.int ((p198 &&& (2147483647 : Int32)) % (18 : Int32))), .val (.ref w203), .val (.int (0 : Int32))] [(.int (0 : Int32))])) _
    refine XS.iloadN X209.here hx rfl (hb hby at_19) rfl ?_
    show Steps p.tables e below (T209.setTop (mkF m 20 #[.val (.int p198), .val (.int ((p198 &&& (2147483647 : Int32)) % (18 : Int32))), .val (.ref w203), .val (.int (0 : Int32))] [(.int ((p198 &&& (2147483647 : Int32)) % (18 : Int32))), (.int (0 : Int32))])) _
    refine st213 _ ?_
    show Steps p.tables e below (T213.setTop (mkF m 23 #[.val (.int p198), .val (.int ((p198 &&& (2147483647 : Int32)) % (18 : Int32))), .val (.ref w203), .val (.int (0 : Int32))] [(.int (0 : Int32)), (.int (0 : Int32))])) _
    refine XS.icmpYes X213.here hx rfl (pc0 := 23) (pc' := 28) rfl (hb hby at_23) rfl (teq (rfl : (0 : Int32) = (0 : Int32))).1 (by decide) (by decide) ?_
    show Steps p.tables e below (T213.setTop (mkF m 28 #[.val (.int p198), .val (.int ((p198 &&& (2147483647 : Int32)) % (18 : Int32))), .val (.ref w203), .val (.int (0 : Int32))] [])) _
    refine XS.iloadN X213.here hx rfl (hb hby at_28) rfl ?_
    show Steps p.tables e below (T213.setTop (mkF m 29 #[.val (.int p198), .val (.int ((p198 &&& (2147483647 : Int32)) % (18 : Int32))), .val (.ref w203), .val (.int (0 : Int32))] [(.int (0 : Int32))])) _
    refine XS.ifYes X213.here hx rfl (pc0 := 29) (pc' := 42) rfl (hb hby at_29) rfl ((if0 _ _).trans (teq (rfl : (0 : Int32) = (0 : Int32))).1) (by decide) (by decide) ?_
    show Steps p.tables e below (T213.setTop (mkF m 42 #[.val (.int p198), .val (.int ((p198 &&& (2147483647 : Int32)) % (18 : Int32))), .val (.ref w203), .val (.int (0 : Int32))] [])) _
    refine XS.iconst X213.here hx rfl (hb hby at_42) ?_
    show Steps p.tables e below (T213.setTop (mkF m 43 #[.val (.int p198), .val (.int ((p198 &&& (2147483647 : Int32)) % (18 : Int32))), .val (.ref w203), .val (.int (0 : Int32))] [(.int (1 : Int32))])) _
    exact retN X213 hx (t := .boolean) Bd.returns (by simp) (hb hby at_43) hr
  · show OQl (some (.int (1 : Int32))) n0 _ T213.heap _
    exact ⟨rfl, N213⟩
theorem d1_123 : decode method_2_code 123 = .ok (.iload_n 0, 1) := by decide +kernel
theorem d1_124 : decode method_2_code 124 = .ok (.bipush 13, 2) := by decide +kernel
theorem d1_126 : decode method_2_code 126 = .ok (.if_icmp .ne 7, 3) := by decide +kernel
theorem d1_129 : decode method_2_code 129 = .ok (.getstatic 49, 3) := by decide +kernel
theorem d1_132 : decode method_2_code 132 = .ok (.areturn, 1) := by decide +kernel
set_option maxRecDepth 65536 in
set_option maxHeartbeats 40000000 in
theorem r1_14 (l : Launch) (Z : State) (a0 : Array Value) (hw : ∀ d ∈ tables_1, d.before a0 Z = true) (p215 : Int32) (w216 : Addr) (h0 : Heap) (n0 : Nat) (Z0 : n0 ≤ h0.size) (H0 : ¬ (p215 = (0 : Int32))) (H1 : ¬ (p215 = (1 : Int32))) (H2 : ¬ (p215 = (2 : Int32))) (H3 : ¬ (p215 = (3 : Int32))) (H4 : ¬ (p215 = (4 : Int32))) (H5 : ¬ (p215 = (5 : Int32))) (H6 : ¬ (p215 = (6 : Int32))) (H7 : ¬ (p215 = (7 : Int32))) (H8 : ¬ (p215 = (8 : Int32))) (H9 : ¬ (p215 = (9 : Int32))) (H10 : ¬ (p215 = (10 : Int32))) (H11 : ¬ (p215 = (11 : Int32))) (H12 : ¬ (p215 = (12 : Int32))) (H13 : p215 = (13 : Int32)) (H14 : Sta Z h0 "com/example/grepo/grepo/internal/query/Operator" "CONTAINING" "Lcom/example/grepo/grepo/internal/query/Operator;" (.ref w216)) :
    OMet l Z (⟨"com/example/grepo/grepo/internal/query/OperatorTakesCollectionPinLaw", "pick", "(I)Lcom/example/grepo/grepo/internal/query/Operator;"⟩ : MethodName) method_2_code 1 (some (.object "com/example/grepo/grepo/internal/query/Operator")) [] ({ frames := 0, cells := 0, slots := 0, locals := 0 } : Room) h0 #[(.int p215)] (OQp (some (.ref w216)) h0 n0) := by
  refine MetFree.of_bodySF (plainFor_of_name pn_com_example_grepo_grepo_internal_query_OperatorTakesCollectionPinLaw) hisR ?_
  intro p e s m args below meth c s₁ Bd hml0 hP hK
  obtain ⟨rfl, hZ, hh⟩ := hP
  have hx := Bd.exec
  have hby := Bd.bytes
  have hml : c.maxLocals = 1 := hml0
  have hown : s.vm.findClass "com/example/grepo/grepo/internal/query/OperatorTakesCollectionPinLaw" = some m.cls := findClass_of_methodNamed Bd.named
  have hnm := (name_of_methodNamed Bd.named Bd.method).1
  have X0 : Stand p l e ({ frames := 0, cells := 0, slots := 0, locals := 0 } : Room) s m #[(.int p215)] below meth c s₁ [] 0 0 := Stand.of_body Bd
  have e0 : s₁.heap = h0 := by rw [← hh, Bd.state]; rfl
  have N0 := Fr.nil n0
  have pre0 : ∀ t, Steps p.tables e below (s₁.setTop (mkF m 0 #[.val (.int p215)] [])) t → Steps p.tables e below (s₁.setTop (entryFrame m #[(.int p215)] 1)) t := fun t k => castTop (ef_1_v m p215) k
  obtain ⟨T217, X217, e217, st217⟩ := getS2 X0 hx hZ hown (host := "") (Or.inl (hw _ (List.mem_of_getElem? (i := 48) rfl))) Via.refl e0 H14 (g := (mkF m 129 #[.val (.int p215)] [])) rfl (hb hby d1_129)
  obtain ⟨fs, hr, hrun, hended, hW, hsame⟩ := X217.leave (v := some (.ref w216)) (fun h => by rw [Bd.returns] at h; cases h)
  refine ⟨_, _, pre0 _ ?_, hrun, hended, _, _, rfl, ?_, ⟨_, rfl⟩, hW, hsame.mono (by decide) (by decide)⟩
  · show Steps p.tables e below (s₁.setTop (mkF m 0 #[.val (.int p215)] [])) _
    refine XS.iloadN X0.here hx rfl (hb hby d1_0) rfl ?_
    show Steps p.tables e below (s₁.setTop (mkF m 1 #[.val (.int p215)] [(.int p215)])) _
    refine XS.ifYes X0.here hx rfl (pc0 := 1) (pc' := 8) rfl (hb hby d1_1) rfl ((if0 _ _).trans (feq H0).2) (by decide) (by decide) ?_
    show Steps p.tables e below (s₁.setTop (mkF m 8 #[.val (.int p215)] [])) _
    refine XS.iloadN X0.here hx rfl (hb hby d1_8) rfl ?_
    show Steps p.tables e below (s₁.setTop (mkF m 9 #[.val (.int p215)] [(.int p215)])) _
    refine XS.iconst X0.here hx rfl (hb hby d1_9) ?_
    show Steps p.tables e below (s₁.setTop (mkF m 10 #[.val (.int p215)] [(.int (1 : Int32)), (.int p215)])) _
    refine XS.icmpYes X0.here hx rfl (pc0 := 10) (pc' := 17) rfl (hb hby d1_10) rfl (feq H1).2 (by decide) (by decide) ?_
    show Steps p.tables e below (s₁.setTop (mkF m 17 #[.val (.int p215)] [])) _
    refine XS.iloadN X0.here hx rfl (hb hby d1_17) rfl ?_
    show Steps p.tables e below (s₁.setTop (mkF m 18 #[.val (.int p215)] [(.int p215)])) _
    refine XS.iconst X0.here hx rfl (hb hby d1_18) ?_
    show Steps p.tables e below (s₁.setTop (mkF m 19 #[.val (.int p215)] [(.int (2 : Int32)), (.int p215)])) _
    refine XS.icmpYes X0.here hx rfl (pc0 := 19) (pc' := 26) rfl (hb hby d1_19) rfl (feq H2).2 (by decide) (by decide) ?_
    show Steps p.tables e below (s₁.setTop (mkF m 26 #[.val (.int p215)] [])) _
    refine XS.iloadN X0.here hx rfl (hb hby d1_26) rfl ?_
    show Steps p.tables e below (s₁.setTop (mkF m 27 #[.val (.int p215)] [(.int p215)])) _
    refine XS.iconst X0.here hx rfl (hb hby d1_27) ?_
    show Steps p.tables e below (s₁.setTop (mkF m 28 #[.val (.int p215)] [(.int (3 : Int32)), (.int p215)])) _
    refine XS.icmpYes X0.here hx rfl (pc0 := 28) (pc' := 35) rfl (hb hby d1_28) rfl (feq H3).2 (by decide) (by decide) ?_
    show Steps p.tables e below (s₁.setTop (mkF m 35 #[.val (.int p215)] [])) _
    refine XS.iloadN X0.here hx rfl (hb hby d1_35) rfl ?_
    show Steps p.tables e below (s₁.setTop (mkF m 36 #[.val (.int p215)] [(.int p215)])) _
    refine XS.iconst X0.here hx rfl (hb hby d1_36) ?_
    show Steps p.tables e below (s₁.setTop (mkF m 37 #[.val (.int p215)] [(.int (4 : Int32)), (.int p215)])) _
    refine XS.icmpYes X0.here hx rfl (pc0 := 37) (pc' := 44) rfl (hb hby d1_37) rfl (feq H4).2 (by decide) (by decide) ?_
    show Steps p.tables e below (s₁.setTop (mkF m 44 #[.val (.int p215)] [])) _
    refine XS.iloadN X0.here hx rfl (hb hby d1_44) rfl ?_
    show Steps p.tables e below (s₁.setTop (mkF m 45 #[.val (.int p215)] [(.int p215)])) _
    refine XS.iconst X0.here hx rfl (hb hby d1_45) ?_
    show Steps p.tables e below (s₁.setTop (mkF m 46 #[.val (.int p215)] [(.int (5 : Int32)), (.int p215)])) _
    refine XS.icmpYes X0.here hx rfl (pc0 := 46) (pc' := 53) rfl (hb hby d1_46) rfl (feq H5).2 (by decide) (by decide) ?_
    show Steps p.tables e below (s₁.setTop (mkF m 53 #[.val (.int p215)] [])) _
    refine XS.iloadN X0.here hx rfl (hb hby d1_53) rfl ?_
    show Steps p.tables e below (s₁.setTop (mkF m 54 #[.val (.int p215)] [(.int p215)])) _
    refine XS.bipush X0.here hx rfl (hb hby d1_54) ?_
    show Steps p.tables e below (s₁.setTop (mkF m 56 #[.val (.int p215)] [(.int (6 : Int32)), (.int p215)])) _
    refine XS.icmpYes X0.here hx rfl (pc0 := 56) (pc' := 63) rfl (hb hby d1_56) rfl (feq H6).2 (by decide) (by decide) ?_
    show Steps p.tables e below (s₁.setTop (mkF m 63 #[.val (.int p215)] [])) _
    refine XS.iloadN X0.here hx rfl (hb hby d1_63) rfl ?_
    show Steps p.tables e below (s₁.setTop (mkF m 64 #[.val (.int p215)] [(.int p215)])) _
    refine XS.bipush X0.here hx rfl (hb hby d1_64) ?_
    show Steps p.tables e below (s₁.setTop (mkF m 66 #[.val (.int p215)] [(.int (7 : Int32)), (.int p215)])) _
    refine XS.icmpYes X0.here hx rfl (pc0 := 66) (pc' := 73) rfl (hb hby d1_66) rfl (feq H7).2 (by decide) (by decide) ?_
    show Steps p.tables e below (s₁.setTop (mkF m 73 #[.val (.int p215)] [])) _
    refine XS.iloadN X0.here hx rfl (hb hby d1_73) rfl ?_
    show Steps p.tables e below (s₁.setTop (mkF m 74 #[.val (.int p215)] [(.int p215)])) _
    refine XS.bipush X0.here hx rfl (hb hby d1_74) ?_
    show Steps p.tables e below (s₁.setTop (mkF m 76 #[.val (.int p215)] [(.int (8 : Int32)), (.int p215)])) _
    refine XS.icmpYes X0.here hx rfl (pc0 := 76) (pc' := 83) rfl (hb hby d1_76) rfl (feq H8).2 (by decide) (by decide) ?_
    show Steps p.tables e below (s₁.setTop (mkF m 83 #[.val (.int p215)] [])) _
    refine XS.iloadN X0.here hx rfl (hb hby d1_83) rfl ?_
    show Steps p.tables e below (s₁.setTop (mkF m 84 #[.val (.int p215)] [(.int p215)])) _
    refine XS.bipush X0.here hx rfl (hb hby d1_84) ?_
    show Steps p.tables e below (s₁.setTop (mkF m 86 #[.val (.int p215)] [(.int (9 : Int32)), (.int p215)])) _
    refine XS.icmpYes X0.here hx rfl (pc0 := 86) (pc' := 93) rfl (hb hby d1_86) rfl (feq H9).2 (by decide) (by decide) ?_
    show Steps p.tables e below (s₁.setTop (mkF m 93 #[.val (.int p215)] [])) _
    refine XS.iloadN X0.here hx rfl (hb hby d1_93) rfl ?_
    show Steps p.tables e below (s₁.setTop (mkF m 94 #[.val (.int p215)] [(.int p215)])) _
    refine XS.bipush X0.here hx rfl (hb hby d1_94) ?_
    show Steps p.tables e below (s₁.setTop (mkF m 96 #[.val (.int p215)] [(.int (10 : Int32)), (.int p215)])) _
    refine XS.icmpYes X0.here hx rfl (pc0 := 96) (pc' := 103) rfl (hb hby d1_96) rfl (feq H10).2 (by decide) (by decide) ?_
    show Steps p.tables e below (s₁.setTop (mkF m 103 #[.val (.int p215)] [])) _
    refine XS.iloadN X0.here hx rfl (hb hby d1_103) rfl ?_
    show Steps p.tables e below (s₁.setTop (mkF m 104 #[.val (.int p215)] [(.int p215)])) _
    refine XS.bipush X0.here hx rfl (hb hby d1_104) ?_
    show Steps p.tables e below (s₁.setTop (mkF m 106 #[.val (.int p215)] [(.int (11 : Int32)), (.int p215)])) _
    refine XS.icmpYes X0.here hx rfl (pc0 := 106) (pc' := 113) rfl (hb hby d1_106) rfl (feq H11).2 (by decide) (by decide) ?_
    show Steps p.tables e below (s₁.setTop (mkF m 113 #[.val (.int p215)] [])) _
    refine XS.iloadN X0.here hx rfl (hb hby d1_113) rfl ?_
    show Steps p.tables e below (s₁.setTop (mkF m 114 #[.val (.int p215)] [(.int p215)])) _
    refine XS.bipush X0.here hx rfl (hb hby d1_114) ?_
    show Steps p.tables e below (s₁.setTop (mkF m 116 #[.val (.int p215)] [(.int (12 : Int32)), (.int p215)])) _
    refine XS.icmpYes X0.here hx rfl (pc0 := 116) (pc' := 123) rfl (hb hby d1_116) rfl (feq H12).2 (by decide) (by decide) ?_
    show Steps p.tables e below (s₁.setTop (mkF m 123 #[.val (.int p215)] [])) _
    refine XS.iloadN X0.here hx rfl (hb hby d1_123) rfl ?_
    show Steps p.tables e below (s₁.setTop (mkF m 124 #[.val (.int p215)] [(.int p215)])) _
    refine XS.bipush X0.here hx rfl (hb hby d1_124) ?_
    show Steps p.tables e below (s₁.setTop (mkF m 126 #[.val (.int p215)] [(.int (13 : Int32)), (.int p215)])) _
    refine XS.icmpNo X0.here hx rfl (hb hby d1_126) rfl (teq H13).2 ?_
    show Steps p.tables e below (s₁.setTop (mkF m 129 #[.val (.int p215)] [])) _
    refine st217 _ ?_
    show Steps p.tables e below (T217.setTop (mkF m 132 #[.val (.int p215)] [(.ref w216)])) _
    jvm_step X217.here [X217.here.top, hx, (hb hby d1_132), X217.method', Bd.returns, Value.isRef, FieldType.isReference]
    first | (intro acts; rw [hr _ acts rfl rfl rfl]) | rw [hr _ _ rfl rfl rfl]
    exact Steps.refl _
  · show OQp (some (.ref w216)) h0 n0 _ T217.heap _
    rw [e217]
    exact ⟨rfl, N0, rfl⟩
set_option maxRecDepth 65536 in
set_option maxHeartbeats 40000000 in
theorem r0_14 (l : Launch) (Z : State) (a0 : Array Value) (hw : ∀ d ∈ tables_1, d.before a0 Z = true) (p214 : Int32) (w219 : Addr) (w226 : Addr) (w227 : Addr) (h0 : Heap) (n0 : Nat) (Z0 : n0 ≤ h0.size) (H0 : ¬ (((p214 &&& (2147483647 : Int32)) % (18 : Int32)) = (0 : Int32))) (H1 : ¬ (((p214 &&& (2147483647 : Int32)) % (18 : Int32)) = (1 : Int32))) (H2 : ¬ (((p214 &&& (2147483647 : Int32)) % (18 : Int32)) = (2 : Int32))) (H3 : ¬ (((p214 &&& (2147483647 : Int32)) % (18 : Int32)) = (3 : Int32))) (H4 : ¬ (((p214 &&& (2147483647 : Int32)) % (18 : Int32)) = (4 : Int32))) (H5 : ¬ (((p214 &&& (2147483647 : Int32)) % (18 : Int32)) = (5 : Int32))) (H6 : ¬ (((p214 &&& (2147483647 : Int32)) % (18 : Int32)) = (6 : Int32))) (H7 : ¬ (((p214 &&& (2147483647 : Int32)) % (18 : Int32)) = (7 : Int32))) (H8 : ¬ (((p214 &&& (2147483647 : Int32)) % (18 : Int32)) = (8 : Int32))) (H9 : ¬ (((p214 &&& (2147483647 : Int32)) % (18 : Int32)) = (9 : Int32))) (H10 : ¬ (((p214 &&& (2147483647 : Int32)) % (18 : Int32)) = (10 : Int32))) (H11 : ¬ (((p214 &&& (2147483647 : Int32)) % (18 : Int32)) = (11 : Int32))) (H12 : ¬ (((p214 &&& (2147483647 : Int32)) % (18 : Int32)) = (12 : Int32))) (H13 : ((p214 &&& (2147483647 : Int32)) % (18 : Int32)) = (13 : Int32)) (H14 : Sta Z h0 "com/example/grepo/grepo/internal/query/Operator" "CONTAINING" "Lcom/example/grepo/grepo/internal/query/Operator;" (.ref w219)) (H15 : Sta Z h0 "com/example/grepo/grepo/internal/query/Operator" "IN" "Lcom/example/grepo/grepo/internal/query/Operator;" (.ref w226)) (H16 : w219 ≠ w226) (H17 : Sta Z h0 "com/example/grepo/grepo/internal/query/Operator" "NOT_IN" "Lcom/example/grepo/grepo/internal/query/Operator;" (.ref w227)) (H18 : w219 ≠ w227) (H19 : Exa Z h0 w219 "com/example/grepo/grepo/internal/query/Operator") :
    OMet l Z x code maxLocals ret tables_1 room_1 h0 #[(.int p214)] (OQl (some (.int (1 : Int32))) n0) := by
  refine MetFree.of_bodySF (plainFor_of_name pn_com_example_grepo_grepo_internal_query_OperatorTakesCollectionPinLaw) hisR ?_
  intro p e s m args below meth c s₁ Bd hml0 hP hK
  obtain ⟨rfl, hZ, hh⟩ := hP
  have hx := Bd.exec
  have hby := Bd.bytes
  have hml : c.maxLocals = 4 := hml0
  have hown : s.vm.findClass "com/example/grepo/grepo/internal/query/OperatorTakesCollectionPinLaw" = some m.cls := findClass_of_methodNamed Bd.named
  have hnm := (name_of_methodNamed Bd.named Bd.method).1
  have X0 : Stand p l e room_1 s m #[(.int p214)] below meth c s₁ [] 0 0 := Stand.of_body Bd
  have e0 : s₁.heap = h0 := by rw [← hh, Bd.state]; rfl
  have N0 := Fr.nil n0
  have pre0 : ∀ t, Steps p.tables e below (s₁.setTop (mkF m 0 #[.val (.int p214), .unset, .unset, .unset] [])) t → Steps p.tables e below (s₁.setTop (entryFrame m #[(.int p214)] maxLocals)) t := fun t k => castTop (ef_0_v m p214) k
  obtain ⟨_, _, ⟨T218, L218, k218, n218⟩, -, X218, ⟨Lc218, hQ218, l218, y218, z218⟩, st218⟩ := Jvm.LawKit.callS X0 hx (y := (⟨"com/example/grepo/grepo/internal/query/OperatorTakesCollectionPinLaw", "pick", "(I)Lcom/example/grepo/grepo/internal/query/Operator;"⟩ : MethodName)) hown (mvT hZ (hw _ (List.mem_of_getElem? (i := 1) rfl))) (mvT hZ (hw _ (List.mem_of_getElem? (i := 2) rfl))) (mvT hZ (hw _ (List.mem_of_getElem? (i := 3) rfl))) (mvT hZ (hw _ (List.mem_of_getElem? (i := 4) rfl))) (by decide) (backOf (W := 0) (r1_14 l Z a0 hw ((p214 &&& (2147483647 : Int32)) % (18 : Int32)) w219 h0 n0 Z0 H0 H1 H2 H3 H4 H5 H6 H7 H8 H9 H10 H11 H12 H13 H14) hZ (hw _ (List.mem_of_getElem? (i := 4) rfl)) (hw _ (List.mem_of_getElem? (i := 3) rfl)) (by decide) (by decide)) (g := (mkF m 9 #[.val (.int p214), .val (.int ((p214 &&& (2147483647 : Int32)) % (18 : Int32))), .unset, .unset] [(.int ((p214 &&& (2147483647 : Int32)) % (18 : Int32)))])) rfl (by rw [hml]; rfl) (argsL := [(.int ((p214 &&& (2147483647 : Int32)) % (18 : Int32)))]) (rest := []) (lenOf pd_0 rfl) rfl (by show 2 * 0 + _ ≤ _; exact Nat.le_of_eq rfl) (hb hby at_9) (fun _ _ => ⟨rfl, e0, (by decide : 0 + 0 ≤ _), (by decide : 0 + 0 ≤ _)⟩)
  dsimp only [Pt.U, Pt.locs, Pt.cells, Pt.slots] at X218 l218 y218 z218 st218 hQ218
  subst l218 y218 z218
  obtain ⟨rfl, N218q, e218⟩ := hQ218
  have N218 := Fr.app N0 N218q
  obtain ⟨cq225, kq225, q225a, q225b, q225c⟩ := isOf hZ e218 H19
  obtain ⟨_, _, ⟨T225, L225, k225, n225⟩, -, X225, ⟨Lc225, hQ225, l225, y225, z225⟩, st225⟩ := X218.virtualBack hx (y := (⟨"com/example/grepo/grepo/internal/query/Operator", "takesCollection", "()Z"⟩ : MethodName)) (z := (⟨"com/example/grepo/grepo/internal/query/Operator", "takesCollection", "()Z"⟩ : MethodName)) hown (mvT hZ (hw _ (List.mem_of_getElem? (i := 8) rfl))) (mvT hZ (hw _ (List.mem_of_getElem? (i := 9) rfl))) (notFace_of_selects (args := #[]) (mvT hZ (hw _ (List.mem_of_getElem? (i := 11) rfl)))) (mvT hZ (hw _ (List.mem_of_getElem? (i := 11) rfl))) (mvT hZ (hw _ (List.mem_of_getElem? (i := 10) rfl))) (by decide) (backOf (W := 0) (r2_1 l Z a0 hw w219 w226 w227 h0 n0 Z0 H15 H16 H17 H18) hZ (hw _ (List.mem_of_getElem? (i := 12) rfl)) (hw _ (List.mem_of_getElem? (i := 6) rfl)) (by decide) (by decide)) q225a q225c (g := (mkF m 14 #[.val (.int p214), .val (.int ((p214 &&& (2147483647 : Int32)) % (18 : Int32))), .val (.ref w219), .unset] [(.ref w219)])) rfl (by rw [hml]; rfl) (Steps.refl _) (argsL := []) (rest := []) (lenOf pd_1 rfl) rfl (by show 2 * 0 + _ ≤ _; exact Nat.le_of_eq rfl) (hb hby at_14) (fun _ _ => ⟨rfl, e218, (by decide : 0 + 0 ≤ _), (by decide : 0 + 0 ≤ _)⟩)
  dsimp only [Pt.U, Pt.locs, Pt.cells, Pt.slots] at X225 l225 y225 z225 st225 hQ225
  subst l225 y225 z225
  obtain ⟨rfl, N225q, e225⟩ := hQ225
  have N225 := Fr.app N218 N225q
  obtain ⟨_, _, ⟨T229, L229, k229, n229⟩, -, X229, ⟨Lc229, hQ229, l229, y229, z229⟩, st229⟩ := Jvm.LawKit.callS X225 hx (y := (⟨"com/example/grepo/grepo/internal/query/OperatorTakesCollectionPinLaw", "expected", "(I)Z"⟩ : MethodName)) hown (mvT hZ (hw _ (List.mem_of_getElem? (i := 17) rfl))) (mvT hZ (hw _ (List.mem_of_getElem? (i := 18) rfl))) (mvT hZ (hw _ (List.mem_of_getElem? (i := 3) rfl))) (mvT hZ (hw _ (List.mem_of_getElem? (i := 19) rfl))) (by decide) (backOf (W := 1) (r3_1 l Z a0 hw ((p214 &&& (2147483647 : Int32)) % (18 : Int32)) h0 n0 Z0 H9 H10) hZ (hw _ (List.mem_of_getElem? (i := 19) rfl)) (hw _ (List.mem_of_getElem? (i := 3) rfl)) (by decide) (by decide)) (g := (mkF m 20 #[.val (.int p214), .val (.int ((p214 &&& (2147483647 : Int32)) % (18 : Int32))), .val (.ref w219), .val (.int (0 : Int32))] [(.int ((p214 &&& (2147483647 : Int32)) % (18 : Int32))), (.int (0 : Int32))])) rfl (by rw [hml]; rfl) (argsL := [(.int ((p214 &&& (2147483647 : Int32)) % (18 : Int32)))]) (rest := [(.int (0 : Int32))]) (lenOf pd_2 rfl) rfl (by show 2 * 0 + _ ≤ _; exact Nat.le_of_eq rfl) (hb hby at_20) (fun _ _ => ⟨rfl, e225, (by decide : 0 + 0 ≤ _), (by decide : 0 + 0 ≤ _)⟩)
  dsimp only [Pt.U, Pt.locs, Pt.cells, Pt.slots] at X229 l229 y229 z229 st229 hQ229
  subst l229 y229 z229
  obtain ⟨rfl, N229q, e229⟩ := hQ229
  have N229 := Fr.app N225 N229q
  obtain ⟨fs, hr, hrun, hended, hW, hsame⟩ := X229.leave (v := some (.int (1 : Int32))) (fun h => by rw [Bd.returns] at h; cases h)
  refine ⟨_, _, pre0 _ ?_, hrun, hended, _, _, rfl, ?_, ⟨_, rfl⟩, hW, hsame.mono (by decide) (by decide)⟩
  · show Steps p.tables e below (s₁.setTop (mkF m 0 #[.val (.int p214), .unset, .unset, .unset] [])) _
    refine XS.iloadN X0.here hx rfl (hb hby at_0) rfl ?_
    show Steps p.tables e below (s₁.setTop (mkF m 1 #[.val (.int p214), .unset, .unset, .unset] [(.int p214)])) _
    refine X0.ldcInt hx hown (mvT hZ (hw _ (List.mem_of_getElem? (i := 0) rfl))) (g := (mkF m 1 #[.val (.int p214), .unset, .unset, .unset] [(.int p214)])) rfl (hb hby at_1) _ ?_
    show Steps p.tables e below (s₁.setTop (mkF m 3 #[.val (.int p214), .unset, .unset, .unset] [(.int (2147483647 : Int32)), (.int p214)])) _
    refine XS.iand X0.here hx rfl (hb hby at_3) rfl ?_
    show Steps p.tables e below (s₁.setTop (mkF m 4 #[.val (.int p214), .unset, .unset, .unset] [(.int (p214 &&& (2147483647 : Int32)))])) _
    refine XS.bipush X0.here hx rfl (hb hby at_4) ?_
    show Steps p.tables e below (s₁.setTop (mkF m 6 #[.val (.int p214), .unset, .unset, .unset] [(.int (18 : Int32)), (.int (p214 &&& (2147483647 : Int32)))])) _
    refine iremM X0 hx rfl (hb hby at_6) rfl (by decide) ?_
    show Steps p.tables e below (s₁.setTop (mkF m 7 #[.val (.int p214), .unset, .unset, .unset] [(.int ((p214 &&& (2147483647 : Int32)) % (18 : Int32)))])) _
    refine XS.istoreN X0.here hx rfl (hb hby at_7) rfl (l' := #[.val (.int p214), .val (.int ((p214 &&& (2147483647 : Int32)) % (18 : Int32))), .unset, .unset]) rfl ?_
    show Steps p.tables e below (s₁.setTop (mkF m 8 #[.val (.int p214), .val (.int ((p214 &&& (2147483647 : Int32)) % (18 : Int32))), .unset, .unset] [])) _
    refine XS.iloadN X0.here hx rfl (hb hby at_8) rfl ?_
    show Steps p.tables e below (s₁.setTop (mkF m 9 #[.val (.int p214), .val (.int ((p214 &&& (2147483647 : Int32)) % (18 : Int32))), .unset, .unset] [(.int ((p214 &&& (2147483647 : Int32)) % (18 : Int32)))])) _
    refine st218 _ ?_
    show Steps p.tables e below (T218.setTop (mkF m 12 #[.val (.int p214), .val (.int ((p214 &&& (2147483647 : Int32)) % (18 : Int32))), .unset, .unset] [(.ref w219)])) _
    refine XS.astoreN X218.here hx rfl (hb hby at_12) rfl rfl (l' := #[.val (.int p214), .val (.int ((p214 &&& (2147483647 : Int32)) % (18 : Int32))), .val (.ref w219), .unset]) rfl ?_
    show Steps p.tables e below (T218.setTop (mkF m 13 #[.val (.int p214), .val (.int ((p214 &&& (2147483647 : Int32)) % (18 : Int32))), .val (.ref w219), .unset] [])) _
    refine XS.aloadN X218.here hx rfl (hb hby at_13) rfl rfl ?_
    show Steps p.tables e below (T218.setTop (mkF m 14 #[.val (.int p214), .val (.int ((p214 &&& (2147483647 : Int32)) % (18 : Int32))), .val (.ref w219), .unset] [(.ref w219)])) _
    refine st225.trans ?_
    show Steps p.tables e below (T225.setTop (mkF m 17 #[.val (.int p214), .val (.int ((p214 &&& (2147483647 : Int32)) % (18 : Int32))), .val (.ref w219), .unset] [(.int (0 : Int32))])) _
    refine XS.istoreN X225.here hx rfl (hb hby at_17) rfl (l' := #[.val (.int p214), .val (.int ((p214 &&& (2147483647 : Int32)) % (18 : Int32))), .val (.ref w219), .val (.int (0 : Int32))]) rfl ?_
    show Steps p.tables e below (T225.setTop (mkF m 18 #[.val (.int p214), .val (.int ((p214 &&& (2147483647 : Int32)) % (18 : Int32))), .val (.ref w219), .val (.int (0 : Int32))] [])) _
    refine XS.iloadN X225.here hx rfl (hb hby at_18) rfl ?_
    show Steps p.tables e below (T225.setTop (mkF m 19 #[.val (.int p214), .val (.int ((p214 &&& (2147483647 : Int32)) % (18 : Int32))), .val (.ref w219), .val (.int (0 : Int32))] [(.int (0 : Int32))])) _
    refine XS.iloadN X225.here hx rfl (hb hby at_19) rfl ?_
    show Steps p.tables e below (T225.setTop (mkF m 20 #[.val (.int p214), .val (.int ((p214 &&& (2147483647 : Int32)) % (18 : Int32))), .val (.ref w219), .val (.int (0 : Int32))] [(.int ((p214 &&& (2147483647 : Int32)) % (18 : Int32))), (.int (0 : Int32))])) _
    refine st229 _ ?_
    show Steps p.tables e below (T229.setTop (mkF m 23 #[.val (.int p214), .val (.int ((p214 &&& (2147483647 : Int32)) % (18 : Int32))), .val (.ref w219), .val (.int (0 : Int32))] [(.int (0 : Int32)), (.int (0 : Int32))])) _
    refine XS.icmpYes X229.here hx rfl (pc0 := 23) (pc' := 28) rfl (hb hby at_23) rfl (teq (rfl : (0 : Int32) = (0 : Int32))).1 (by decide) (by decide) ?_
    show Steps p.tables e below (T229.setTop (mkF m 28 #[.val (.int p214), .val (.int ((p214 &&& (2147483647 : Int32)) % (18 : Int32))), .val (.ref w219), .val (.int (0 : Int32))] [])) _
    refine XS.iloadN X229.here hx rfl (hb hby at_28) rfl ?_
    show Steps p.tables e below (T229.setTop (mkF m 29 #[.val (.int p214), .val (.int ((p214 &&& (2147483647 : Int32)) % (18 : Int32))), .val (.ref w219), .val (.int (0 : Int32))] [(.int (0 : Int32))])) _
    refine XS.ifYes X229.here hx rfl (pc0 := 29) (pc' := 42) rfl (hb hby at_29) rfl ((if0 _ _).trans (teq (rfl : (0 : Int32) = (0 : Int32))).1) (by decide) (by decide) ?_
    show Steps p.tables e below (T229.setTop (mkF m 42 #[.val (.int p214), .val (.int ((p214 &&& (2147483647 : Int32)) % (18 : Int32))), .val (.ref w219), .val (.int (0 : Int32))] [])) _
    refine XS.iconst X229.here hx rfl (hb hby at_42) ?_
    show Steps p.tables e below (T229.setTop (mkF m 43 #[.val (.int p214), .val (.int ((p214 &&& (2147483647 : Int32)) % (18 : Int32))), .val (.ref w219), .val (.int (0 : Int32))] [(.int (1 : Int32))])) _
    exact retN X229 hx (t := .boolean) Bd.returns (by simp) (hb hby at_43) hr
  · show OQl (some (.int (1 : Int32))) n0 _ T229.heap _
    exact ⟨rfl, N229⟩
theorem d1_133 : decode method_2_code 133 = .ok (.iload_n 0, 1) := by decide +kernel
theorem d1_134 : decode method_2_code 134 = .ok (.bipush 14, 2) := by decide +kernel
theorem d1_136 : decode method_2_code 136 = .ok (.if_icmp .ne 7, 3) := by decide +kernel
theorem d1_139 : decode method_2_code 139 = .ok (.getstatic 52, 3) := by decide +kernel
theorem d1_142 : decode method_2_code 142 = .ok (.areturn, 1) := by decide +kernel
set_option maxRecDepth 65536 in
set_option maxHeartbeats 40000000 in
theorem r1_15 (l : Launch) (Z : State) (a0 : Array Value) (hw : ∀ d ∈ tables_1, d.before a0 Z = true) (p231 : Int32) (w232 : Addr) (h0 : Heap) (n0 : Nat) (Z0 : n0 ≤ h0.size) (H0 : ¬ (p231 = (0 : Int32))) (H1 : ¬ (p231 = (1 : Int32))) (H2 : ¬ (p231 = (2 : Int32))) (H3 : ¬ (p231 = (3 : Int32))) (H4 : ¬ (p231 = (4 : Int32))) (H5 : ¬ (p231 = (5 : Int32))) (H6 : ¬ (p231 = (6 : Int32))) (H7 : ¬ (p231 = (7 : Int32))) (H8 : ¬ (p231 = (8 : Int32))) (H9 : ¬ (p231 = (9 : Int32))) (H10 : ¬ (p231 = (10 : Int32))) (H11 : ¬ (p231 = (11 : Int32))) (H12 : ¬ (p231 = (12 : Int32))) (H13 : ¬ (p231 = (13 : Int32))) (H14 : p231 = (14 : Int32)) (H15 : Sta Z h0 "com/example/grepo/grepo/internal/query/Operator" "STARTING_WITH" "Lcom/example/grepo/grepo/internal/query/Operator;" (.ref w232)) :
    OMet l Z (⟨"com/example/grepo/grepo/internal/query/OperatorTakesCollectionPinLaw", "pick", "(I)Lcom/example/grepo/grepo/internal/query/Operator;"⟩ : MethodName) method_2_code 1 (some (.object "com/example/grepo/grepo/internal/query/Operator")) [] ({ frames := 0, cells := 0, slots := 0, locals := 0 } : Room) h0 #[(.int p231)] (OQp (some (.ref w232)) h0 n0) := by
  refine MetFree.of_bodySF (plainFor_of_name pn_com_example_grepo_grepo_internal_query_OperatorTakesCollectionPinLaw) hisR ?_
  intro p e s m args below meth c s₁ Bd hml0 hP hK
  obtain ⟨rfl, hZ, hh⟩ := hP
  have hx := Bd.exec
  have hby := Bd.bytes
  have hml : c.maxLocals = 1 := hml0
  have hown : s.vm.findClass "com/example/grepo/grepo/internal/query/OperatorTakesCollectionPinLaw" = some m.cls := findClass_of_methodNamed Bd.named
  have hnm := (name_of_methodNamed Bd.named Bd.method).1
  have X0 : Stand p l e ({ frames := 0, cells := 0, slots := 0, locals := 0 } : Room) s m #[(.int p231)] below meth c s₁ [] 0 0 := Stand.of_body Bd
  have e0 : s₁.heap = h0 := by rw [← hh, Bd.state]; rfl
  have N0 := Fr.nil n0
  have pre0 : ∀ t, Steps p.tables e below (s₁.setTop (mkF m 0 #[.val (.int p231)] [])) t → Steps p.tables e below (s₁.setTop (entryFrame m #[(.int p231)] 1)) t := fun t k => castTop (ef_1_v m p231) k
  obtain ⟨T233, X233, e233, st233⟩ := getS2 X0 hx hZ hown (host := "") (Or.inl (hw _ (List.mem_of_getElem? (i := 54) rfl))) Via.refl e0 H15 (g := (mkF m 139 #[.val (.int p231)] [])) rfl (hb hby d1_139)
  obtain ⟨fs, hr, hrun, hended, hW, hsame⟩ := X233.leave (v := some (.ref w232)) (fun h => by rw [Bd.returns] at h; cases h)
  refine ⟨_, _, pre0 _ ?_, hrun, hended, _, _, rfl, ?_, ⟨_, rfl⟩, hW, hsame.mono (by decide) (by decide)⟩
  · show Steps p.tables e below (s₁.setTop (mkF m 0 #[.val (.int p231)] [])) _
    refine XS.iloadN X0.here hx rfl (hb hby d1_0) rfl ?_
    show Steps p.tables e below (s₁.setTop (mkF m 1 #[.val (.int p231)] [(.int p231)])) _
    refine XS.ifYes X0.here hx rfl (pc0 := 1) (pc' := 8) rfl (hb hby d1_1) rfl ((if0 _ _).trans (feq H0).2) (by decide) (by decide) ?_
    show Steps p.tables e below (s₁.setTop (mkF m 8 #[.val (.int p231)] [])) _
    refine XS.iloadN X0.here hx rfl (hb hby d1_8) rfl ?_
    show Steps p.tables e below (s₁.setTop (mkF m 9 #[.val (.int p231)] [(.int p231)])) _
    refine XS.iconst X0.here hx rfl (hb hby d1_9) ?_
    show Steps p.tables e below (s₁.setTop (mkF m 10 #[.val (.int p231)] [(.int (1 : Int32)), (.int p231)])) _
    refine XS.icmpYes X0.here hx rfl (pc0 := 10) (pc' := 17) rfl (hb hby d1_10) rfl (feq H1).2 (by decide) (by decide) ?_
    show Steps p.tables e below (s₁.setTop (mkF m 17 #[.val (.int p231)] [])) _
    refine XS.iloadN X0.here hx rfl (hb hby d1_17) rfl ?_
    show Steps p.tables e below (s₁.setTop (mkF m 18 #[.val (.int p231)] [(.int p231)])) _
    refine XS.iconst X0.here hx rfl (hb hby d1_18) ?_
    show Steps p.tables e below (s₁.setTop (mkF m 19 #[.val (.int p231)] [(.int (2 : Int32)), (.int p231)])) _
    refine XS.icmpYes X0.here hx rfl (pc0 := 19) (pc' := 26) rfl (hb hby d1_19) rfl (feq H2).2 (by decide) (by decide) ?_
    show Steps p.tables e below (s₁.setTop (mkF m 26 #[.val (.int p231)] [])) _
    refine XS.iloadN X0.here hx rfl (hb hby d1_26) rfl ?_
    show Steps p.tables e below (s₁.setTop (mkF m 27 #[.val (.int p231)] [(.int p231)])) _
    refine XS.iconst X0.here hx rfl (hb hby d1_27) ?_
    show Steps p.tables e below (s₁.setTop (mkF m 28 #[.val (.int p231)] [(.int (3 : Int32)), (.int p231)])) _
    refine XS.icmpYes X0.here hx rfl (pc0 := 28) (pc' := 35) rfl (hb hby d1_28) rfl (feq H3).2 (by decide) (by decide) ?_
    show Steps p.tables e below (s₁.setTop (mkF m 35 #[.val (.int p231)] [])) _
    refine XS.iloadN X0.here hx rfl (hb hby d1_35) rfl ?_
    show Steps p.tables e below (s₁.setTop (mkF m 36 #[.val (.int p231)] [(.int p231)])) _
    refine XS.iconst X0.here hx rfl (hb hby d1_36) ?_
    show Steps p.tables e below (s₁.setTop (mkF m 37 #[.val (.int p231)] [(.int (4 : Int32)), (.int p231)])) _
    refine XS.icmpYes X0.here hx rfl (pc0 := 37) (pc' := 44) rfl (hb hby d1_37) rfl (feq H4).2 (by decide) (by decide) ?_
    show Steps p.tables e below (s₁.setTop (mkF m 44 #[.val (.int p231)] [])) _
    refine XS.iloadN X0.here hx rfl (hb hby d1_44) rfl ?_
    show Steps p.tables e below (s₁.setTop (mkF m 45 #[.val (.int p231)] [(.int p231)])) _
    refine XS.iconst X0.here hx rfl (hb hby d1_45) ?_
    show Steps p.tables e below (s₁.setTop (mkF m 46 #[.val (.int p231)] [(.int (5 : Int32)), (.int p231)])) _
    refine XS.icmpYes X0.here hx rfl (pc0 := 46) (pc' := 53) rfl (hb hby d1_46) rfl (feq H5).2 (by decide) (by decide) ?_
    show Steps p.tables e below (s₁.setTop (mkF m 53 #[.val (.int p231)] [])) _
    refine XS.iloadN X0.here hx rfl (hb hby d1_53) rfl ?_
    show Steps p.tables e below (s₁.setTop (mkF m 54 #[.val (.int p231)] [(.int p231)])) _
    refine XS.bipush X0.here hx rfl (hb hby d1_54) ?_
    show Steps p.tables e below (s₁.setTop (mkF m 56 #[.val (.int p231)] [(.int (6 : Int32)), (.int p231)])) _
    refine XS.icmpYes X0.here hx rfl (pc0 := 56) (pc' := 63) rfl (hb hby d1_56) rfl (feq H6).2 (by decide) (by decide) ?_
    show Steps p.tables e below (s₁.setTop (mkF m 63 #[.val (.int p231)] [])) _
    refine XS.iloadN X0.here hx rfl (hb hby d1_63) rfl ?_
    show Steps p.tables e below (s₁.setTop (mkF m 64 #[.val (.int p231)] [(.int p231)])) _
    refine XS.bipush X0.here hx rfl (hb hby d1_64) ?_
    show Steps p.tables e below (s₁.setTop (mkF m 66 #[.val (.int p231)] [(.int (7 : Int32)), (.int p231)])) _
    refine XS.icmpYes X0.here hx rfl (pc0 := 66) (pc' := 73) rfl (hb hby d1_66) rfl (feq H7).2 (by decide) (by decide) ?_
    show Steps p.tables e below (s₁.setTop (mkF m 73 #[.val (.int p231)] [])) _
    refine XS.iloadN X0.here hx rfl (hb hby d1_73) rfl ?_
    show Steps p.tables e below (s₁.setTop (mkF m 74 #[.val (.int p231)] [(.int p231)])) _
    refine XS.bipush X0.here hx rfl (hb hby d1_74) ?_
    show Steps p.tables e below (s₁.setTop (mkF m 76 #[.val (.int p231)] [(.int (8 : Int32)), (.int p231)])) _
    refine XS.icmpYes X0.here hx rfl (pc0 := 76) (pc' := 83) rfl (hb hby d1_76) rfl (feq H8).2 (by decide) (by decide) ?_
    show Steps p.tables e below (s₁.setTop (mkF m 83 #[.val (.int p231)] [])) _
    refine XS.iloadN X0.here hx rfl (hb hby d1_83) rfl ?_
    show Steps p.tables e below (s₁.setTop (mkF m 84 #[.val (.int p231)] [(.int p231)])) _
    refine XS.bipush X0.here hx rfl (hb hby d1_84) ?_
    show Steps p.tables e below (s₁.setTop (mkF m 86 #[.val (.int p231)] [(.int (9 : Int32)), (.int p231)])) _
    refine XS.icmpYes X0.here hx rfl (pc0 := 86) (pc' := 93) rfl (hb hby d1_86) rfl (feq H9).2 (by decide) (by decide) ?_
    show Steps p.tables e below (s₁.setTop (mkF m 93 #[.val (.int p231)] [])) _
    refine XS.iloadN X0.here hx rfl (hb hby d1_93) rfl ?_
    show Steps p.tables e below (s₁.setTop (mkF m 94 #[.val (.int p231)] [(.int p231)])) _
    refine XS.bipush X0.here hx rfl (hb hby d1_94) ?_
    show Steps p.tables e below (s₁.setTop (mkF m 96 #[.val (.int p231)] [(.int (10 : Int32)), (.int p231)])) _
    refine XS.icmpYes X0.here hx rfl (pc0 := 96) (pc' := 103) rfl (hb hby d1_96) rfl (feq H10).2 (by decide) (by decide) ?_
    show Steps p.tables e below (s₁.setTop (mkF m 103 #[.val (.int p231)] [])) _
    refine XS.iloadN X0.here hx rfl (hb hby d1_103) rfl ?_
    show Steps p.tables e below (s₁.setTop (mkF m 104 #[.val (.int p231)] [(.int p231)])) _
    refine XS.bipush X0.here hx rfl (hb hby d1_104) ?_
    show Steps p.tables e below (s₁.setTop (mkF m 106 #[.val (.int p231)] [(.int (11 : Int32)), (.int p231)])) _
    refine XS.icmpYes X0.here hx rfl (pc0 := 106) (pc' := 113) rfl (hb hby d1_106) rfl (feq H11).2 (by decide) (by decide) ?_
    show Steps p.tables e below (s₁.setTop (mkF m 113 #[.val (.int p231)] [])) _
    refine XS.iloadN X0.here hx rfl (hb hby d1_113) rfl ?_
    show Steps p.tables e below (s₁.setTop (mkF m 114 #[.val (.int p231)] [(.int p231)])) _
    refine XS.bipush X0.here hx rfl (hb hby d1_114) ?_
    show Steps p.tables e below (s₁.setTop (mkF m 116 #[.val (.int p231)] [(.int (12 : Int32)), (.int p231)])) _
    refine XS.icmpYes X0.here hx rfl (pc0 := 116) (pc' := 123) rfl (hb hby d1_116) rfl (feq H12).2 (by decide) (by decide) ?_
    show Steps p.tables e below (s₁.setTop (mkF m 123 #[.val (.int p231)] [])) _
    refine XS.iloadN X0.here hx rfl (hb hby d1_123) rfl ?_
    show Steps p.tables e below (s₁.setTop (mkF m 124 #[.val (.int p231)] [(.int p231)])) _
    refine XS.bipush X0.here hx rfl (hb hby d1_124) ?_
    show Steps p.tables e below (s₁.setTop (mkF m 126 #[.val (.int p231)] [(.int (13 : Int32)), (.int p231)])) _
    refine XS.icmpYes X0.here hx rfl (pc0 := 126) (pc' := 133) rfl (hb hby d1_126) rfl (feq H13).2 (by decide) (by decide) ?_
    show Steps p.tables e below (s₁.setTop (mkF m 133 #[.val (.int p231)] [])) _
    refine XS.iloadN X0.here hx rfl (hb hby d1_133) rfl ?_
    show Steps p.tables e below (s₁.setTop (mkF m 134 #[.val (.int p231)] [(.int p231)])) _
    refine XS.bipush X0.here hx rfl (hb hby d1_134) ?_
    show Steps p.tables e below (s₁.setTop (mkF m 136 #[.val (.int p231)] [(.int (14 : Int32)), (.int p231)])) _
    refine XS.icmpNo X0.here hx rfl (hb hby d1_136) rfl (teq H14).2 ?_
    show Steps p.tables e below (s₁.setTop (mkF m 139 #[.val (.int p231)] [])) _
    refine st233 _ ?_
    show Steps p.tables e below (T233.setTop (mkF m 142 #[.val (.int p231)] [(.ref w232)])) _
    jvm_step X233.here [X233.here.top, hx, (hb hby d1_142), X233.method', Bd.returns, Value.isRef, FieldType.isReference]
    first | (intro acts; rw [hr _ acts rfl rfl rfl]) | rw [hr _ _ rfl rfl rfl]
    exact Steps.refl _
  · show OQp (some (.ref w232)) h0 n0 _ T233.heap _
    rw [e233]
    exact ⟨rfl, N0, rfl⟩
set_option maxRecDepth 65536 in
set_option maxHeartbeats 40000000 in
theorem r0_15 (l : Launch) (Z : State) (a0 : Array Value) (hw : ∀ d ∈ tables_1, d.before a0 Z = true) (p230 : Int32) (w235 : Addr) (w242 : Addr) (w243 : Addr) (h0 : Heap) (n0 : Nat) (Z0 : n0 ≤ h0.size) (H0 : ¬ (((p230 &&& (2147483647 : Int32)) % (18 : Int32)) = (0 : Int32))) (H1 : ¬ (((p230 &&& (2147483647 : Int32)) % (18 : Int32)) = (1 : Int32))) (H2 : ¬ (((p230 &&& (2147483647 : Int32)) % (18 : Int32)) = (2 : Int32))) (H3 : ¬ (((p230 &&& (2147483647 : Int32)) % (18 : Int32)) = (3 : Int32))) (H4 : ¬ (((p230 &&& (2147483647 : Int32)) % (18 : Int32)) = (4 : Int32))) (H5 : ¬ (((p230 &&& (2147483647 : Int32)) % (18 : Int32)) = (5 : Int32))) (H6 : ¬ (((p230 &&& (2147483647 : Int32)) % (18 : Int32)) = (6 : Int32))) (H7 : ¬ (((p230 &&& (2147483647 : Int32)) % (18 : Int32)) = (7 : Int32))) (H8 : ¬ (((p230 &&& (2147483647 : Int32)) % (18 : Int32)) = (8 : Int32))) (H9 : ¬ (((p230 &&& (2147483647 : Int32)) % (18 : Int32)) = (9 : Int32))) (H10 : ¬ (((p230 &&& (2147483647 : Int32)) % (18 : Int32)) = (10 : Int32))) (H11 : ¬ (((p230 &&& (2147483647 : Int32)) % (18 : Int32)) = (11 : Int32))) (H12 : ¬ (((p230 &&& (2147483647 : Int32)) % (18 : Int32)) = (12 : Int32))) (H13 : ¬ (((p230 &&& (2147483647 : Int32)) % (18 : Int32)) = (13 : Int32))) (H14 : ((p230 &&& (2147483647 : Int32)) % (18 : Int32)) = (14 : Int32)) (H15 : Sta Z h0 "com/example/grepo/grepo/internal/query/Operator" "STARTING_WITH" "Lcom/example/grepo/grepo/internal/query/Operator;" (.ref w235)) (H16 : Sta Z h0 "com/example/grepo/grepo/internal/query/Operator" "IN" "Lcom/example/grepo/grepo/internal/query/Operator;" (.ref w242)) (H17 : w235 ≠ w242) (H18 : Sta Z h0 "com/example/grepo/grepo/internal/query/Operator" "NOT_IN" "Lcom/example/grepo/grepo/internal/query/Operator;" (.ref w243)) (H19 : w235 ≠ w243) (H20 : Exa Z h0 w235 "com/example/grepo/grepo/internal/query/Operator") :
    OMet l Z x code maxLocals ret tables_1 room_1 h0 #[(.int p230)] (OQl (some (.int (1 : Int32))) n0) := by
  refine MetFree.of_bodySF (plainFor_of_name pn_com_example_grepo_grepo_internal_query_OperatorTakesCollectionPinLaw) hisR ?_
  intro p e s m args below meth c s₁ Bd hml0 hP hK
  obtain ⟨rfl, hZ, hh⟩ := hP
  have hx := Bd.exec
  have hby := Bd.bytes
  have hml : c.maxLocals = 4 := hml0
  have hown : s.vm.findClass "com/example/grepo/grepo/internal/query/OperatorTakesCollectionPinLaw" = some m.cls := findClass_of_methodNamed Bd.named
  have hnm := (name_of_methodNamed Bd.named Bd.method).1
  have X0 : Stand p l e room_1 s m #[(.int p230)] below meth c s₁ [] 0 0 := Stand.of_body Bd
  have e0 : s₁.heap = h0 := by rw [← hh, Bd.state]; rfl
  have N0 := Fr.nil n0
  have pre0 : ∀ t, Steps p.tables e below (s₁.setTop (mkF m 0 #[.val (.int p230), .unset, .unset, .unset] [])) t → Steps p.tables e below (s₁.setTop (entryFrame m #[(.int p230)] maxLocals)) t := fun t k => castTop (ef_0_v m p230) k
  obtain ⟨_, _, ⟨T234, L234, k234, n234⟩, -, X234, ⟨Lc234, hQ234, l234, y234, z234⟩, st234⟩ := Jvm.LawKit.callS X0 hx (y := (⟨"com/example/grepo/grepo/internal/query/OperatorTakesCollectionPinLaw", "pick", "(I)Lcom/example/grepo/grepo/internal/query/Operator;"⟩ : MethodName)) hown (mvT hZ (hw _ (List.mem_of_getElem? (i := 1) rfl))) (mvT hZ (hw _ (List.mem_of_getElem? (i := 2) rfl))) (mvT hZ (hw _ (List.mem_of_getElem? (i := 3) rfl))) (mvT hZ (hw _ (List.mem_of_getElem? (i := 4) rfl))) (by decide) (backOf (W := 0) (r1_15 l Z a0 hw ((p230 &&& (2147483647 : Int32)) % (18 : Int32)) w235 h0 n0 Z0 H0 H1 H2 H3 H4 H5 H6 H7 H8 H9 H10 H11 H12 H13 H14 H15) hZ (hw _ (List.mem_of_getElem? (i := 4) rfl)) (hw _ (List.mem_of_getElem? (i := 3) rfl)) (by decide) (by decide)) (g := (mkF m 9 #[.val (.int p230), .val (.int ((p230 &&& (2147483647 : Int32)) % (18 : Int32))), .unset, .unset] [(.int ((p230 &&& (2147483647 : Int32)) % (18 : Int32)))])) rfl (by rw [hml]; rfl) (argsL := [(.int ((p230 &&& (2147483647 : Int32)) % (18 : Int32)))]) (rest := []) (lenOf pd_0 rfl) rfl (by show 2 * 0 + _ ≤ _; exact Nat.le_of_eq rfl) (hb hby at_9) (fun _ _ => ⟨rfl, e0, (by decide : 0 + 0 ≤ _), (by decide : 0 + 0 ≤ _)⟩)
  dsimp only [Pt.U, Pt.locs, Pt.cells, Pt.slots] at X234 l234 y234 z234 st234 hQ234
  subst l234 y234 z234
  obtain ⟨rfl, N234q, e234⟩ := hQ234
  have N234 := Fr.app N0 N234q
  obtain ⟨cq241, kq241, q241a, q241b, q241c⟩ := isOf hZ e234 H20
  obtain ⟨_, _, ⟨T241, L241, k241, n241⟩, -, X241, ⟨Lc241, hQ241, l241, y241, z241⟩, st241⟩ := X234.virtualBack hx (y := (⟨"com/example/grepo/grepo/internal/query/Operator", "takesCollection", "()Z"⟩ : MethodName)) (z := (⟨"com/example/grepo/grepo/internal/query/Operator", "takesCollection", "()Z"⟩ : MethodName)) hown (mvT hZ (hw _ (List.mem_of_getElem? (i := 8) rfl))) (mvT hZ (hw _ (List.mem_of_getElem? (i := 9) rfl))) (notFace_of_selects (args := #[]) (mvT hZ (hw _ (List.mem_of_getElem? (i := 11) rfl)))) (mvT hZ (hw _ (List.mem_of_getElem? (i := 11) rfl))) (mvT hZ (hw _ (List.mem_of_getElem? (i := 10) rfl))) (by decide) (backOf (W := 0) (r2_1 l Z a0 hw w235 w242 w243 h0 n0 Z0 H16 H17 H18 H19) hZ (hw _ (List.mem_of_getElem? (i := 12) rfl)) (hw _ (List.mem_of_getElem? (i := 6) rfl)) (by decide) (by decide)) q241a q241c (g := (mkF m 14 #[.val (.int p230), .val (.int ((p230 &&& (2147483647 : Int32)) % (18 : Int32))), .val (.ref w235), .unset] [(.ref w235)])) rfl (by rw [hml]; rfl) (Steps.refl _) (argsL := []) (rest := []) (lenOf pd_1 rfl) rfl (by show 2 * 0 + _ ≤ _; exact Nat.le_of_eq rfl) (hb hby at_14) (fun _ _ => ⟨rfl, e234, (by decide : 0 + 0 ≤ _), (by decide : 0 + 0 ≤ _)⟩)
  dsimp only [Pt.U, Pt.locs, Pt.cells, Pt.slots] at X241 l241 y241 z241 st241 hQ241
  subst l241 y241 z241
  obtain ⟨rfl, N241q, e241⟩ := hQ241
  have N241 := Fr.app N234 N241q
  obtain ⟨_, _, ⟨T245, L245, k245, n245⟩, -, X245, ⟨Lc245, hQ245, l245, y245, z245⟩, st245⟩ := Jvm.LawKit.callS X241 hx (y := (⟨"com/example/grepo/grepo/internal/query/OperatorTakesCollectionPinLaw", "expected", "(I)Z"⟩ : MethodName)) hown (mvT hZ (hw _ (List.mem_of_getElem? (i := 17) rfl))) (mvT hZ (hw _ (List.mem_of_getElem? (i := 18) rfl))) (mvT hZ (hw _ (List.mem_of_getElem? (i := 3) rfl))) (mvT hZ (hw _ (List.mem_of_getElem? (i := 19) rfl))) (by decide) (backOf (W := 1) (r3_1 l Z a0 hw ((p230 &&& (2147483647 : Int32)) % (18 : Int32)) h0 n0 Z0 H9 H10) hZ (hw _ (List.mem_of_getElem? (i := 19) rfl)) (hw _ (List.mem_of_getElem? (i := 3) rfl)) (by decide) (by decide)) (g := (mkF m 20 #[.val (.int p230), .val (.int ((p230 &&& (2147483647 : Int32)) % (18 : Int32))), .val (.ref w235), .val (.int (0 : Int32))] [(.int ((p230 &&& (2147483647 : Int32)) % (18 : Int32))), (.int (0 : Int32))])) rfl (by rw [hml]; rfl) (argsL := [(.int ((p230 &&& (2147483647 : Int32)) % (18 : Int32)))]) (rest := [(.int (0 : Int32))]) (lenOf pd_2 rfl) rfl (by show 2 * 0 + _ ≤ _; exact Nat.le_of_eq rfl) (hb hby at_20) (fun _ _ => ⟨rfl, e241, (by decide : 0 + 0 ≤ _), (by decide : 0 + 0 ≤ _)⟩)
  dsimp only [Pt.U, Pt.locs, Pt.cells, Pt.slots] at X245 l245 y245 z245 st245 hQ245
  subst l245 y245 z245
  obtain ⟨rfl, N245q, e245⟩ := hQ245
  have N245 := Fr.app N241 N245q
  obtain ⟨fs, hr, hrun, hended, hW, hsame⟩ := X245.leave (v := some (.int (1 : Int32))) (fun h => by rw [Bd.returns] at h; cases h)
  refine ⟨_, _, pre0 _ ?_, hrun, hended, _, _, rfl, ?_, ⟨_, rfl⟩, hW, hsame.mono (by decide) (by decide)⟩
  · show Steps p.tables e below (s₁.setTop (mkF m 0 #[.val (.int p230), .unset, .unset, .unset] [])) _
    refine XS.iloadN X0.here hx rfl (hb hby at_0) rfl ?_
    show Steps p.tables e below (s₁.setTop (mkF m 1 #[.val (.int p230), .unset, .unset, .unset] [(.int p230)])) _
    refine X0.ldcInt hx hown (mvT hZ (hw _ (List.mem_of_getElem? (i := 0) rfl))) (g := (mkF m 1 #[.val (.int p230), .unset, .unset, .unset] [(.int p230)])) rfl (hb hby at_1) _ ?_
    show Steps p.tables e below (s₁.setTop (mkF m 3 #[.val (.int p230), .unset, .unset, .unset] [(.int (2147483647 : Int32)), (.int p230)])) _
    refine XS.iand X0.here hx rfl (hb hby at_3) rfl ?_
    show Steps p.tables e below (s₁.setTop (mkF m 4 #[.val (.int p230), .unset, .unset, .unset] [(.int (p230 &&& (2147483647 : Int32)))])) _
    refine XS.bipush X0.here hx rfl (hb hby at_4) ?_
    show Steps p.tables e below (s₁.setTop (mkF m 6 #[.val (.int p230), .unset, .unset, .unset] [(.int (18 : Int32)), (.int (p230 &&& (2147483647 : Int32)))])) _
    refine iremM X0 hx rfl (hb hby at_6) rfl (by decide) ?_
    show Steps p.tables e below (s₁.setTop (mkF m 7 #[.val (.int p230), .unset, .unset, .unset] [(.int ((p230 &&& (2147483647 : Int32)) % (18 : Int32)))])) _
    refine XS.istoreN X0.here hx rfl (hb hby at_7) rfl (l' := #[.val (.int p230), .val (.int ((p230 &&& (2147483647 : Int32)) % (18 : Int32))), .unset, .unset]) rfl ?_
    show Steps p.tables e below (s₁.setTop (mkF m 8 #[.val (.int p230), .val (.int ((p230 &&& (2147483647 : Int32)) % (18 : Int32))), .unset, .unset] [])) _
    refine XS.iloadN X0.here hx rfl (hb hby at_8) rfl ?_
    show Steps p.tables e below (s₁.setTop (mkF m 9 #[.val (.int p230), .val (.int ((p230 &&& (2147483647 : Int32)) % (18 : Int32))), .unset, .unset] [(.int ((p230 &&& (2147483647 : Int32)) % (18 : Int32)))])) _
    refine st234 _ ?_
    show Steps p.tables e below (T234.setTop (mkF m 12 #[.val (.int p230), .val (.int ((p230 &&& (2147483647 : Int32)) % (18 : Int32))), .unset, .unset] [(.ref w235)])) _
    refine XS.astoreN X234.here hx rfl (hb hby at_12) rfl rfl (l' := #[.val (.int p230), .val (.int ((p230 &&& (2147483647 : Int32)) % (18 : Int32))), .val (.ref w235), .unset]) rfl ?_
    show Steps p.tables e below (T234.setTop (mkF m 13 #[.val (.int p230), .val (.int ((p230 &&& (2147483647 : Int32)) % (18 : Int32))), .val (.ref w235), .unset] [])) _
    refine XS.aloadN X234.here hx rfl (hb hby at_13) rfl rfl ?_
    show Steps p.tables e below (T234.setTop (mkF m 14 #[.val (.int p230), .val (.int ((p230 &&& (2147483647 : Int32)) % (18 : Int32))), .val (.ref w235), .unset] [(.ref w235)])) _
    refine st241.trans ?_
    show Steps p.tables e below (T241.setTop (mkF m 17 #[.val (.int p230), .val (.int ((p230 &&& (2147483647 : Int32)) % (18 : Int32))), .val (.ref w235), .unset] [(.int (0 : Int32))])) _
    refine XS.istoreN X241.here hx rfl (hb hby at_17) rfl (l' := #[.val (.int p230), .val (.int ((p230 &&& (2147483647 : Int32)) % (18 : Int32))), .val (.ref w235), .val (.int (0 : Int32))]) rfl ?_
    show Steps p.tables e below (T241.setTop (mkF m 18 #[.val (.int p230), .val (.int ((p230 &&& (2147483647 : Int32)) % (18 : Int32))), .val (.ref w235), .val (.int (0 : Int32))] [])) _
    refine XS.iloadN X241.here hx rfl (hb hby at_18) rfl ?_
    show Steps p.tables e below (T241.setTop (mkF m 19 #[.val (.int p230), .val (.int ((p230 &&& (2147483647 : Int32)) % (18 : Int32))), .val (.ref w235), .val (.int (0 : Int32))] [(.int (0 : Int32))])) _
    refine XS.iloadN X241.here hx rfl (hb hby at_19) rfl ?_
    show Steps p.tables e below (T241.setTop (mkF m 20 #[.val (.int p230), .val (.int ((p230 &&& (2147483647 : Int32)) % (18 : Int32))), .val (.ref w235), .val (.int (0 : Int32))] [(.int ((p230 &&& (2147483647 : Int32)) % (18 : Int32))), (.int (0 : Int32))])) _
    refine st245 _ ?_
    show Steps p.tables e below (T245.setTop (mkF m 23 #[.val (.int p230), .val (.int ((p230 &&& (2147483647 : Int32)) % (18 : Int32))), .val (.ref w235), .val (.int (0 : Int32))] [(.int (0 : Int32)), (.int (0 : Int32))])) _
    refine XS.icmpYes X245.here hx rfl (pc0 := 23) (pc' := 28) rfl (hb hby at_23) rfl (teq (rfl : (0 : Int32) = (0 : Int32))).1 (by decide) (by decide) ?_
    show Steps p.tables e below (T245.setTop (mkF m 28 #[.val (.int p230), .val (.int ((p230 &&& (2147483647 : Int32)) % (18 : Int32))), .val (.ref w235), .val (.int (0 : Int32))] [])) _
    refine XS.iloadN X245.here hx rfl (hb hby at_28) rfl ?_
    show Steps p.tables e below (T245.setTop (mkF m 29 #[.val (.int p230), .val (.int ((p230 &&& (2147483647 : Int32)) % (18 : Int32))), .val (.ref w235), .val (.int (0 : Int32))] [(.int (0 : Int32))])) _
    refine XS.ifYes X245.here hx rfl (pc0 := 29) (pc' := 42) rfl (hb hby at_29) rfl ((if0 _ _).trans (teq (rfl : (0 : Int32) = (0 : Int32))).1) (by decide) (by decide) ?_
    show Steps p.tables e below (T245.setTop (mkF m 42 #[.val (.int p230), .val (.int ((p230 &&& (2147483647 : Int32)) % (18 : Int32))), .val (.ref w235), .val (.int (0 : Int32))] [])) _
    refine XS.iconst X245.here hx rfl (hb hby at_42) ?_
    show Steps p.tables e below (T245.setTop (mkF m 43 #[.val (.int p230), .val (.int ((p230 &&& (2147483647 : Int32)) % (18 : Int32))), .val (.ref w235), .val (.int (0 : Int32))] [(.int (1 : Int32))])) _
    exact retN X245 hx (t := .boolean) Bd.returns (by simp) (hb hby at_43) hr
  · show OQl (some (.int (1 : Int32))) n0 _ T245.heap _
    exact ⟨rfl, N245⟩
theorem d1_143 : decode method_2_code 143 = .ok (.iload_n 0, 1) := by decide +kernel
theorem d1_144 : decode method_2_code 144 = .ok (.bipush 15, 2) := by decide +kernel
theorem d1_146 : decode method_2_code 146 = .ok (.if_icmp .ne 7, 3) := by decide +kernel
theorem d1_149 : decode method_2_code 149 = .ok (.getstatic 55, 3) := by decide +kernel
theorem d1_152 : decode method_2_code 152 = .ok (.areturn, 1) := by decide +kernel
set_option maxRecDepth 65536 in
set_option maxHeartbeats 40000000 in
theorem r1_16 (l : Launch) (Z : State) (a0 : Array Value) (hw : ∀ d ∈ tables_1, d.before a0 Z = true) (p247 : Int32) (w248 : Addr) (h0 : Heap) (n0 : Nat) (Z0 : n0 ≤ h0.size) (H0 : ¬ (p247 = (0 : Int32))) (H1 : ¬ (p247 = (1 : Int32))) (H2 : ¬ (p247 = (2 : Int32))) (H3 : ¬ (p247 = (3 : Int32))) (H4 : ¬ (p247 = (4 : Int32))) (H5 : ¬ (p247 = (5 : Int32))) (H6 : ¬ (p247 = (6 : Int32))) (H7 : ¬ (p247 = (7 : Int32))) (H8 : ¬ (p247 = (8 : Int32))) (H9 : ¬ (p247 = (9 : Int32))) (H10 : ¬ (p247 = (10 : Int32))) (H11 : ¬ (p247 = (11 : Int32))) (H12 : ¬ (p247 = (12 : Int32))) (H13 : ¬ (p247 = (13 : Int32))) (H14 : ¬ (p247 = (14 : Int32))) (H15 : p247 = (15 : Int32)) (H16 : Sta Z h0 "com/example/grepo/grepo/internal/query/Operator" "ENDING_WITH" "Lcom/example/grepo/grepo/internal/query/Operator;" (.ref w248)) :
    OMet l Z (⟨"com/example/grepo/grepo/internal/query/OperatorTakesCollectionPinLaw", "pick", "(I)Lcom/example/grepo/grepo/internal/query/Operator;"⟩ : MethodName) method_2_code 1 (some (.object "com/example/grepo/grepo/internal/query/Operator")) [] ({ frames := 0, cells := 0, slots := 0, locals := 0 } : Room) h0 #[(.int p247)] (OQp (some (.ref w248)) h0 n0) := by
  refine MetFree.of_bodySF (plainFor_of_name pn_com_example_grepo_grepo_internal_query_OperatorTakesCollectionPinLaw) hisR ?_
  intro p e s m args below meth c s₁ Bd hml0 hP hK
  obtain ⟨rfl, hZ, hh⟩ := hP
  have hx := Bd.exec
  have hby := Bd.bytes
  have hml : c.maxLocals = 1 := hml0
  have hown : s.vm.findClass "com/example/grepo/grepo/internal/query/OperatorTakesCollectionPinLaw" = some m.cls := findClass_of_methodNamed Bd.named
  have hnm := (name_of_methodNamed Bd.named Bd.method).1
  have X0 : Stand p l e ({ frames := 0, cells := 0, slots := 0, locals := 0 } : Room) s m #[(.int p247)] below meth c s₁ [] 0 0 := Stand.of_body Bd
  have e0 : s₁.heap = h0 := by rw [← hh, Bd.state]; rfl
  have N0 := Fr.nil n0
  have pre0 : ∀ t, Steps p.tables e below (s₁.setTop (mkF m 0 #[.val (.int p247)] [])) t → Steps p.tables e below (s₁.setTop (entryFrame m #[(.int p247)] 1)) t := fun t k => castTop (ef_1_v m p247) k
  obtain ⟨T249, X249, e249, st249⟩ := getS2 X0 hx hZ hown (host := "") (Or.inl (hw _ (List.mem_of_getElem? (i := 38) rfl))) Via.refl e0 H16 (g := (mkF m 149 #[.val (.int p247)] [])) rfl (hb hby d1_149)
  obtain ⟨fs, hr, hrun, hended, hW, hsame⟩ := X249.leave (v := some (.ref w248)) (fun h => by rw [Bd.returns] at h; cases h)
  refine ⟨_, _, pre0 _ ?_, hrun, hended, _, _, rfl, ?_, ⟨_, rfl⟩, hW, hsame.mono (by decide) (by decide)⟩
  · show Steps p.tables e below (s₁.setTop (mkF m 0 #[.val (.int p247)] [])) _
    refine XS.iloadN X0.here hx rfl (hb hby d1_0) rfl ?_
    show Steps p.tables e below (s₁.setTop (mkF m 1 #[.val (.int p247)] [(.int p247)])) _
    refine XS.ifYes X0.here hx rfl (pc0 := 1) (pc' := 8) rfl (hb hby d1_1) rfl ((if0 _ _).trans (feq H0).2) (by decide) (by decide) ?_
    show Steps p.tables e below (s₁.setTop (mkF m 8 #[.val (.int p247)] [])) _
    refine XS.iloadN X0.here hx rfl (hb hby d1_8) rfl ?_
    show Steps p.tables e below (s₁.setTop (mkF m 9 #[.val (.int p247)] [(.int p247)])) _
    refine XS.iconst X0.here hx rfl (hb hby d1_9) ?_
    show Steps p.tables e below (s₁.setTop (mkF m 10 #[.val (.int p247)] [(.int (1 : Int32)), (.int p247)])) _
    refine XS.icmpYes X0.here hx rfl (pc0 := 10) (pc' := 17) rfl (hb hby d1_10) rfl (feq H1).2 (by decide) (by decide) ?_
    show Steps p.tables e below (s₁.setTop (mkF m 17 #[.val (.int p247)] [])) _
    refine XS.iloadN X0.here hx rfl (hb hby d1_17) rfl ?_
    show Steps p.tables e below (s₁.setTop (mkF m 18 #[.val (.int p247)] [(.int p247)])) _
    refine XS.iconst X0.here hx rfl (hb hby d1_18) ?_
    show Steps p.tables e below (s₁.setTop (mkF m 19 #[.val (.int p247)] [(.int (2 : Int32)), (.int p247)])) _
    refine XS.icmpYes X0.here hx rfl (pc0 := 19) (pc' := 26) rfl (hb hby d1_19) rfl (feq H2).2 (by decide) (by decide) ?_
    show Steps p.tables e below (s₁.setTop (mkF m 26 #[.val (.int p247)] [])) _
    refine XS.iloadN X0.here hx rfl (hb hby d1_26) rfl ?_
    show Steps p.tables e below (s₁.setTop (mkF m 27 #[.val (.int p247)] [(.int p247)])) _
    refine XS.iconst X0.here hx rfl (hb hby d1_27) ?_
    show Steps p.tables e below (s₁.setTop (mkF m 28 #[.val (.int p247)] [(.int (3 : Int32)), (.int p247)])) _
    refine XS.icmpYes X0.here hx rfl (pc0 := 28) (pc' := 35) rfl (hb hby d1_28) rfl (feq H3).2 (by decide) (by decide) ?_
    show Steps p.tables e below (s₁.setTop (mkF m 35 #[.val (.int p247)] [])) _
    refine XS.iloadN X0.here hx rfl (hb hby d1_35) rfl ?_
    show Steps p.tables e below (s₁.setTop (mkF m 36 #[.val (.int p247)] [(.int p247)])) _
    refine XS.iconst X0.here hx rfl (hb hby d1_36) ?_
    show Steps p.tables e below (s₁.setTop (mkF m 37 #[.val (.int p247)] [(.int (4 : Int32)), (.int p247)])) _
    refine XS.icmpYes X0.here hx rfl (pc0 := 37) (pc' := 44) rfl (hb hby d1_37) rfl (feq H4).2 (by decide) (by decide) ?_
    show Steps p.tables e below (s₁.setTop (mkF m 44 #[.val (.int p247)] [])) _
    refine XS.iloadN X0.here hx rfl (hb hby d1_44) rfl ?_
    show Steps p.tables e below (s₁.setTop (mkF m 45 #[.val (.int p247)] [(.int p247)])) _
    refine XS.iconst X0.here hx rfl (hb hby d1_45) ?_
    show Steps p.tables e below (s₁.setTop (mkF m 46 #[.val (.int p247)] [(.int (5 : Int32)), (.int p247)])) _
    refine XS.icmpYes X0.here hx rfl (pc0 := 46) (pc' := 53) rfl (hb hby d1_46) rfl (feq H5).2 (by decide) (by decide) ?_
    show Steps p.tables e below (s₁.setTop (mkF m 53 #[.val (.int p247)] [])) _
    refine XS.iloadN X0.here hx rfl (hb hby d1_53) rfl ?_
    show Steps p.tables e below (s₁.setTop (mkF m 54 #[.val (.int p247)] [(.int p247)])) _
    refine XS.bipush X0.here hx rfl (hb hby d1_54) ?_
    show Steps p.tables e below (s₁.setTop (mkF m 56 #[.val (.int p247)] [(.int (6 : Int32)), (.int p247)])) _
    refine XS.icmpYes X0.here hx rfl (pc0 := 56) (pc' := 63) rfl (hb hby d1_56) rfl (feq H6).2 (by decide) (by decide) ?_
    show Steps p.tables e below (s₁.setTop (mkF m 63 #[.val (.int p247)] [])) _
    refine XS.iloadN X0.here hx rfl (hb hby d1_63) rfl ?_
    show Steps p.tables e below (s₁.setTop (mkF m 64 #[.val (.int p247)] [(.int p247)])) _
    refine XS.bipush X0.here hx rfl (hb hby d1_64) ?_
    show Steps p.tables e below (s₁.setTop (mkF m 66 #[.val (.int p247)] [(.int (7 : Int32)), (.int p247)])) _
    refine XS.icmpYes X0.here hx rfl (pc0 := 66) (pc' := 73) rfl (hb hby d1_66) rfl (feq H7).2 (by decide) (by decide) ?_
    show Steps p.tables e below (s₁.setTop (mkF m 73 #[.val (.int p247)] [])) _
    refine XS.iloadN X0.here hx rfl (hb hby d1_73) rfl ?_
    show Steps p.tables e below (s₁.setTop (mkF m 74 #[.val (.int p247)] [(.int p247)])) _
    refine XS.bipush X0.here hx rfl (hb hby d1_74) ?_
    show Steps p.tables e below (s₁.setTop (mkF m 76 #[.val (.int p247)] [(.int (8 : Int32)), (.int p247)])) _
    refine XS.icmpYes X0.here hx rfl (pc0 := 76) (pc' := 83) rfl (hb hby d1_76) rfl (feq H8).2 (by decide) (by decide) ?_
    show Steps p.tables e below (s₁.setTop (mkF m 83 #[.val (.int p247)] [])) _
    refine XS.iloadN X0.here hx rfl (hb hby d1_83) rfl ?_
    show Steps p.tables e below (s₁.setTop (mkF m 84 #[.val (.int p247)] [(.int p247)])) _
    refine XS.bipush X0.here hx rfl (hb hby d1_84) ?_
    show Steps p.tables e below (s₁.setTop (mkF m 86 #[.val (.int p247)] [(.int (9 : Int32)), (.int p247)])) _
    refine XS.icmpYes X0.here hx rfl (pc0 := 86) (pc' := 93) rfl (hb hby d1_86) rfl (feq H9).2 (by decide) (by decide) ?_
    show Steps p.tables e below (s₁.setTop (mkF m 93 #[.val (.int p247)] [])) _
    refine XS.iloadN X0.here hx rfl (hb hby d1_93) rfl ?_
    show Steps p.tables e below (s₁.setTop (mkF m 94 #[.val (.int p247)] [(.int p247)])) _
    refine XS.bipush X0.here hx rfl (hb hby d1_94) ?_
    show Steps p.tables e below (s₁.setTop (mkF m 96 #[.val (.int p247)] [(.int (10 : Int32)), (.int p247)])) _
    refine XS.icmpYes X0.here hx rfl (pc0 := 96) (pc' := 103) rfl (hb hby d1_96) rfl (feq H10).2 (by decide) (by decide) ?_
    show Steps p.tables e below (s₁.setTop (mkF m 103 #[.val (.int p247)] [])) _
    refine XS.iloadN X0.here hx rfl (hb hby d1_103) rfl ?_
    show Steps p.tables e below (s₁.setTop (mkF m 104 #[.val (.int p247)] [(.int p247)])) _
    refine XS.bipush X0.here hx rfl (hb hby d1_104) ?_
    show Steps p.tables e below (s₁.setTop (mkF m 106 #[.val (.int p247)] [(.int (11 : Int32)), (.int p247)])) _
    refine XS.icmpYes X0.here hx rfl (pc0 := 106) (pc' := 113) rfl (hb hby d1_106) rfl (feq H11).2 (by decide) (by decide) ?_
    show Steps p.tables e below (s₁.setTop (mkF m 113 #[.val (.int p247)] [])) _
    refine XS.iloadN X0.here hx rfl (hb hby d1_113) rfl ?_
    show Steps p.tables e below (s₁.setTop (mkF m 114 #[.val (.int p247)] [(.int p247)])) _
    refine XS.bipush X0.here hx rfl (hb hby d1_114) ?_
    show Steps p.tables e below (s₁.setTop (mkF m 116 #[.val (.int p247)] [(.int (12 : Int32)), (.int p247)])) _
    refine XS.icmpYes X0.here hx rfl (pc0 := 116) (pc' := 123) rfl (hb hby d1_116) rfl (feq H12).2 (by decide) (by decide) ?_
    show Steps p.tables e below (s₁.setTop (mkF m 123 #[.val (.int p247)] [])) _
    refine XS.iloadN X0.here hx rfl (hb hby d1_123) rfl ?_
    show Steps p.tables e below (s₁.setTop (mkF m 124 #[.val (.int p247)] [(.int p247)])) _
    refine XS.bipush X0.here hx rfl (hb hby d1_124) ?_
    show Steps p.tables e below (s₁.setTop (mkF m 126 #[.val (.int p247)] [(.int (13 : Int32)), (.int p247)])) _
    refine XS.icmpYes X0.here hx rfl (pc0 := 126) (pc' := 133) rfl (hb hby d1_126) rfl (feq H13).2 (by decide) (by decide) ?_
    show Steps p.tables e below (s₁.setTop (mkF m 133 #[.val (.int p247)] [])) _
    refine XS.iloadN X0.here hx rfl (hb hby d1_133) rfl ?_
    show Steps p.tables e below (s₁.setTop (mkF m 134 #[.val (.int p247)] [(.int p247)])) _
    refine XS.bipush X0.here hx rfl (hb hby d1_134) ?_
    show Steps p.tables e below (s₁.setTop (mkF m 136 #[.val (.int p247)] [(.int (14 : Int32)), (.int p247)])) _
    refine XS.icmpYes X0.here hx rfl (pc0 := 136) (pc' := 143) rfl (hb hby d1_136) rfl (feq H14).2 (by decide) (by decide) ?_
    show Steps p.tables e below (s₁.setTop (mkF m 143 #[.val (.int p247)] [])) _
    refine XS.iloadN X0.here hx rfl (hb hby d1_143) rfl ?_
    show Steps p.tables e below (s₁.setTop (mkF m 144 #[.val (.int p247)] [(.int p247)])) _
    refine XS.bipush X0.here hx rfl (hb hby d1_144) ?_
    show Steps p.tables e below (s₁.setTop (mkF m 146 #[.val (.int p247)] [(.int (15 : Int32)), (.int p247)])) _
    refine XS.icmpNo X0.here hx rfl (hb hby d1_146) rfl (teq H15).2 ?_
    show Steps p.tables e below (s₁.setTop (mkF m 149 #[.val (.int p247)] [])) _
    refine st249 _ ?_
    show Steps p.tables e below (T249.setTop (mkF m 152 #[.val (.int p247)] [(.ref w248)])) _
    jvm_step X249.here [X249.here.top, hx, (hb hby d1_152), X249.method', Bd.returns, Value.isRef, FieldType.isReference]
    first | (intro acts; rw [hr _ acts rfl rfl rfl]) | rw [hr _ _ rfl rfl rfl]
    exact Steps.refl _
  · show OQp (some (.ref w248)) h0 n0 _ T249.heap _
    rw [e249]
    exact ⟨rfl, N0, rfl⟩
set_option maxRecDepth 65536 in
set_option maxHeartbeats 40000000 in
theorem r0_16 (l : Launch) (Z : State) (a0 : Array Value) (hw : ∀ d ∈ tables_1, d.before a0 Z = true) (p246 : Int32) (w251 : Addr) (w258 : Addr) (w259 : Addr) (h0 : Heap) (n0 : Nat) (Z0 : n0 ≤ h0.size) (H0 : ¬ (((p246 &&& (2147483647 : Int32)) % (18 : Int32)) = (0 : Int32))) (H1 : ¬ (((p246 &&& (2147483647 : Int32)) % (18 : Int32)) = (1 : Int32))) (H2 : ¬ (((p246 &&& (2147483647 : Int32)) % (18 : Int32)) = (2 : Int32))) (H3 : ¬ (((p246 &&& (2147483647 : Int32)) % (18 : Int32)) = (3 : Int32))) (H4 : ¬ (((p246 &&& (2147483647 : Int32)) % (18 : Int32)) = (4 : Int32))) (H5 : ¬ (((p246 &&& (2147483647 : Int32)) % (18 : Int32)) = (5 : Int32))) (H6 : ¬ (((p246 &&& (2147483647 : Int32)) % (18 : Int32)) = (6 : Int32))) (H7 : ¬ (((p246 &&& (2147483647 : Int32)) % (18 : Int32)) = (7 : Int32))) (H8 : ¬ (((p246 &&& (2147483647 : Int32)) % (18 : Int32)) = (8 : Int32))) (H9 : ¬ (((p246 &&& (2147483647 : Int32)) % (18 : Int32)) = (9 : Int32))) (H10 : ¬ (((p246 &&& (2147483647 : Int32)) % (18 : Int32)) = (10 : Int32))) (H11 : ¬ (((p246 &&& (2147483647 : Int32)) % (18 : Int32)) = (11 : Int32))) (H12 : ¬ (((p246 &&& (2147483647 : Int32)) % (18 : Int32)) = (12 : Int32))) (H13 : ¬ (((p246 &&& (2147483647 : Int32)) % (18 : Int32)) = (13 : Int32))) (H14 : ¬ (((p246 &&& (2147483647 : Int32)) % (18 : Int32)) = (14 : Int32))) (H15 : ((p246 &&& (2147483647 : Int32)) % (18 : Int32)) = (15 : Int32)) (H16 : Sta Z h0 "com/example/grepo/grepo/internal/query/Operator" "ENDING_WITH" "Lcom/example/grepo/grepo/internal/query/Operator;" (.ref w251)) (H17 : Sta Z h0 "com/example/grepo/grepo/internal/query/Operator" "IN" "Lcom/example/grepo/grepo/internal/query/Operator;" (.ref w258)) (H18 : w251 ≠ w258) (H19 : Sta Z h0 "com/example/grepo/grepo/internal/query/Operator" "NOT_IN" "Lcom/example/grepo/grepo/internal/query/Operator;" (.ref w259)) (H20 : w251 ≠ w259) (H21 : Exa Z h0 w251 "com/example/grepo/grepo/internal/query/Operator") :
    OMet l Z x code maxLocals ret tables_1 room_1 h0 #[(.int p246)] (OQl (some (.int (1 : Int32))) n0) := by
  refine MetFree.of_bodySF (plainFor_of_name pn_com_example_grepo_grepo_internal_query_OperatorTakesCollectionPinLaw) hisR ?_
  intro p e s m args below meth c s₁ Bd hml0 hP hK
  obtain ⟨rfl, hZ, hh⟩ := hP
  have hx := Bd.exec
  have hby := Bd.bytes
  have hml : c.maxLocals = 4 := hml0
  have hown : s.vm.findClass "com/example/grepo/grepo/internal/query/OperatorTakesCollectionPinLaw" = some m.cls := findClass_of_methodNamed Bd.named
  have hnm := (name_of_methodNamed Bd.named Bd.method).1
  have X0 : Stand p l e room_1 s m #[(.int p246)] below meth c s₁ [] 0 0 := Stand.of_body Bd
  have e0 : s₁.heap = h0 := by rw [← hh, Bd.state]; rfl
  have N0 := Fr.nil n0
  have pre0 : ∀ t, Steps p.tables e below (s₁.setTop (mkF m 0 #[.val (.int p246), .unset, .unset, .unset] [])) t → Steps p.tables e below (s₁.setTop (entryFrame m #[(.int p246)] maxLocals)) t := fun t k => castTop (ef_0_v m p246) k
  obtain ⟨_, _, ⟨T250, L250, k250, n250⟩, -, X250, ⟨Lc250, hQ250, l250, y250, z250⟩, st250⟩ := Jvm.LawKit.callS X0 hx (y := (⟨"com/example/grepo/grepo/internal/query/OperatorTakesCollectionPinLaw", "pick", "(I)Lcom/example/grepo/grepo/internal/query/Operator;"⟩ : MethodName)) hown (mvT hZ (hw _ (List.mem_of_getElem? (i := 1) rfl))) (mvT hZ (hw _ (List.mem_of_getElem? (i := 2) rfl))) (mvT hZ (hw _ (List.mem_of_getElem? (i := 3) rfl))) (mvT hZ (hw _ (List.mem_of_getElem? (i := 4) rfl))) (by decide) (backOf (W := 0) (r1_16 l Z a0 hw ((p246 &&& (2147483647 : Int32)) % (18 : Int32)) w251 h0 n0 Z0 H0 H1 H2 H3 H4 H5 H6 H7 H8 H9 H10 H11 H12 H13 H14 H15 H16) hZ (hw _ (List.mem_of_getElem? (i := 4) rfl)) (hw _ (List.mem_of_getElem? (i := 3) rfl)) (by decide) (by decide)) (g := (mkF m 9 #[.val (.int p246), .val (.int ((p246 &&& (2147483647 : Int32)) % (18 : Int32))), .unset, .unset] [(.int ((p246 &&& (2147483647 : Int32)) % (18 : Int32)))])) rfl (by rw [hml]; rfl) (argsL := [(.int ((p246 &&& (2147483647 : Int32)) % (18 : Int32)))]) (rest := []) (lenOf pd_0 rfl) rfl (by show 2 * 0 + _ ≤ _; exact Nat.le_of_eq rfl) (hb hby at_9) (fun _ _ => ⟨rfl, e0, (by decide : 0 + 0 ≤ _), (by decide : 0 + 0 ≤ _)⟩)
  dsimp only [Pt.U, Pt.locs, Pt.cells, Pt.slots] at X250 l250 y250 z250 st250 hQ250
  subst l250 y250 z250
  obtain ⟨rfl, N250q, e250⟩ := hQ250
  have N250 := Fr.app N0 N250q
  obtain ⟨cq257, kq257, q257a, q257b, q257c⟩ := isOf hZ e250 H21
  obtain ⟨_, _, ⟨T257, L257, k257, n257⟩, -, X257, ⟨Lc257, hQ257, l257, y257, z257⟩, st257⟩ := X250.virtualBack hx (y := (⟨"com/example/grepo/grepo/internal/query/Operator", "takesCollection", "()Z"⟩ : MethodName)) (z := (⟨"com/example/grepo/grepo/internal/query/Operator", "takesCollection", "()Z"⟩ : MethodName)) hown (mvT hZ (hw _ (List.mem_of_getElem? (i := 8) rfl))) (mvT hZ (hw _ (List.mem_of_getElem? (i := 9) rfl))) (notFace_of_selects (args := #[]) (mvT hZ (hw _ (List.mem_of_getElem? (i := 11) rfl)))) (mvT hZ (hw _ (List.mem_of_getElem? (i := 11) rfl))) (mvT hZ (hw _ (List.mem_of_getElem? (i := 10) rfl))) (by decide) (backOf (W := 0) (r2_1 l Z a0 hw w251 w258 w259 h0 n0 Z0 H17 H18 H19 H20) hZ (hw _ (List.mem_of_getElem? (i := 12) rfl)) (hw _ (List.mem_of_getElem? (i := 6) rfl)) (by decide) (by decide)) q257a q257c (g := (mkF m 14 #[.val (.int p246), .val (.int ((p246 &&& (2147483647 : Int32)) % (18 : Int32))), .val (.ref w251), .unset] [(.ref w251)])) rfl (by rw [hml]; rfl) (Steps.refl _) (argsL := []) (rest := []) (lenOf pd_1 rfl) rfl (by show 2 * 0 + _ ≤ _; exact Nat.le_of_eq rfl) (hb hby at_14) (fun _ _ => ⟨rfl, e250, (by decide : 0 + 0 ≤ _), (by decide : 0 + 0 ≤ _)⟩)
  dsimp only [Pt.U, Pt.locs, Pt.cells, Pt.slots] at X257 l257 y257 z257 st257 hQ257
  subst l257 y257 z257
  obtain ⟨rfl, N257q, e257⟩ := hQ257
  have N257 := Fr.app N250 N257q
  obtain ⟨_, _, ⟨T261, L261, k261, n261⟩, -, X261, ⟨Lc261, hQ261, l261, y261, z261⟩, st261⟩ := Jvm.LawKit.callS X257 hx (y := (⟨"com/example/grepo/grepo/internal/query/OperatorTakesCollectionPinLaw", "expected", "(I)Z"⟩ : MethodName)) hown (mvT hZ (hw _ (List.mem_of_getElem? (i := 17) rfl))) (mvT hZ (hw _ (List.mem_of_getElem? (i := 18) rfl))) (mvT hZ (hw _ (List.mem_of_getElem? (i := 3) rfl))) (mvT hZ (hw _ (List.mem_of_getElem? (i := 19) rfl))) (by decide) (backOf (W := 1) (r3_1 l Z a0 hw ((p246 &&& (2147483647 : Int32)) % (18 : Int32)) h0 n0 Z0 H9 H10) hZ (hw _ (List.mem_of_getElem? (i := 19) rfl)) (hw _ (List.mem_of_getElem? (i := 3) rfl)) (by decide) (by decide)) (g := (mkF m 20 #[.val (.int p246), .val (.int ((p246 &&& (2147483647 : Int32)) % (18 : Int32))), .val (.ref w251), .val (.int (0 : Int32))] [(.int ((p246 &&& (2147483647 : Int32)) % (18 : Int32))), (.int (0 : Int32))])) rfl (by rw [hml]; rfl) (argsL := [(.int ((p246 &&& (2147483647 : Int32)) % (18 : Int32)))]) (rest := [(.int (0 : Int32))]) (lenOf pd_2 rfl) rfl (by show 2 * 0 + _ ≤ _; exact Nat.le_of_eq rfl) (hb hby at_20) (fun _ _ => ⟨rfl, e257, (by decide : 0 + 0 ≤ _), (by decide : 0 + 0 ≤ _)⟩)
  dsimp only [Pt.U, Pt.locs, Pt.cells, Pt.slots] at X261 l261 y261 z261 st261 hQ261
  subst l261 y261 z261
  obtain ⟨rfl, N261q, e261⟩ := hQ261
  have N261 := Fr.app N257 N261q
  obtain ⟨fs, hr, hrun, hended, hW, hsame⟩ := X261.leave (v := some (.int (1 : Int32))) (fun h => by rw [Bd.returns] at h; cases h)
  refine ⟨_, _, pre0 _ ?_, hrun, hended, _, _, rfl, ?_, ⟨_, rfl⟩, hW, hsame.mono (by decide) (by decide)⟩
  · show Steps p.tables e below (s₁.setTop (mkF m 0 #[.val (.int p246), .unset, .unset, .unset] [])) _
    refine XS.iloadN X0.here hx rfl (hb hby at_0) rfl ?_
    show Steps p.tables e below (s₁.setTop (mkF m 1 #[.val (.int p246), .unset, .unset, .unset] [(.int p246)])) _
    refine X0.ldcInt hx hown (mvT hZ (hw _ (List.mem_of_getElem? (i := 0) rfl))) (g := (mkF m 1 #[.val (.int p246), .unset, .unset, .unset] [(.int p246)])) rfl (hb hby at_1) _ ?_
    show Steps p.tables e below (s₁.setTop (mkF m 3 #[.val (.int p246), .unset, .unset, .unset] [(.int (2147483647 : Int32)), (.int p246)])) _
    refine XS.iand X0.here hx rfl (hb hby at_3) rfl ?_
    show Steps p.tables e below (s₁.setTop (mkF m 4 #[.val (.int p246), .unset, .unset, .unset] [(.int (p246 &&& (2147483647 : Int32)))])) _
    refine XS.bipush X0.here hx rfl (hb hby at_4) ?_
    show Steps p.tables e below (s₁.setTop (mkF m 6 #[.val (.int p246), .unset, .unset, .unset] [(.int (18 : Int32)), (.int (p246 &&& (2147483647 : Int32)))])) _
    refine iremM X0 hx rfl (hb hby at_6) rfl (by decide) ?_
    show Steps p.tables e below (s₁.setTop (mkF m 7 #[.val (.int p246), .unset, .unset, .unset] [(.int ((p246 &&& (2147483647 : Int32)) % (18 : Int32)))])) _
    refine XS.istoreN X0.here hx rfl (hb hby at_7) rfl (l' := #[.val (.int p246), .val (.int ((p246 &&& (2147483647 : Int32)) % (18 : Int32))), .unset, .unset]) rfl ?_
    show Steps p.tables e below (s₁.setTop (mkF m 8 #[.val (.int p246), .val (.int ((p246 &&& (2147483647 : Int32)) % (18 : Int32))), .unset, .unset] [])) _
    refine XS.iloadN X0.here hx rfl (hb hby at_8) rfl ?_
    show Steps p.tables e below (s₁.setTop (mkF m 9 #[.val (.int p246), .val (.int ((p246 &&& (2147483647 : Int32)) % (18 : Int32))), .unset, .unset] [(.int ((p246 &&& (2147483647 : Int32)) % (18 : Int32)))])) _
    refine st250 _ ?_
    show Steps p.tables e below (T250.setTop (mkF m 12 #[.val (.int p246), .val (.int ((p246 &&& (2147483647 : Int32)) % (18 : Int32))), .unset, .unset] [(.ref w251)])) _
    refine XS.astoreN X250.here hx rfl (hb hby at_12) rfl rfl (l' := #[.val (.int p246), .val (.int ((p246 &&& (2147483647 : Int32)) % (18 : Int32))), .val (.ref w251), .unset]) rfl ?_
    show Steps p.tables e below (T250.setTop (mkF m 13 #[.val (.int p246), .val (.int ((p246 &&& (2147483647 : Int32)) % (18 : Int32))), .val (.ref w251), .unset] [])) _
    refine XS.aloadN X250.here hx rfl (hb hby at_13) rfl rfl ?_
    show Steps p.tables e below (T250.setTop (mkF m 14 #[.val (.int p246), .val (.int ((p246 &&& (2147483647 : Int32)) % (18 : Int32))), .val (.ref w251), .unset] [(.ref w251)])) _
    refine st257.trans ?_
    show Steps p.tables e below (T257.setTop (mkF m 17 #[.val (.int p246), .val (.int ((p246 &&& (2147483647 : Int32)) % (18 : Int32))), .val (.ref w251), .unset] [(.int (0 : Int32))])) _
    refine XS.istoreN X257.here hx rfl (hb hby at_17) rfl (l' := #[.val (.int p246), .val (.int ((p246 &&& (2147483647 : Int32)) % (18 : Int32))), .val (.ref w251), .val (.int (0 : Int32))]) rfl ?_
    show Steps p.tables e below (T257.setTop (mkF m 18 #[.val (.int p246), .val (.int ((p246 &&& (2147483647 : Int32)) % (18 : Int32))), .val (.ref w251), .val (.int (0 : Int32))] [])) _
    refine XS.iloadN X257.here hx rfl (hb hby at_18) rfl ?_
    show Steps p.tables e below (T257.setTop (mkF m 19 #[.val (.int p246), .val (.int ((p246 &&& (2147483647 : Int32)) % (18 : Int32))), .val (.ref w251), .val (.int (0 : Int32))] [(.int (0 : Int32))])) _
    refine XS.iloadN X257.here hx rfl (hb hby at_19) rfl ?_
    show Steps p.tables e below (T257.setTop (mkF m 20 #[.val (.int p246), .val (.int ((p246 &&& (2147483647 : Int32)) % (18 : Int32))), .val (.ref w251), .val (.int (0 : Int32))] [(.int ((p246 &&& (2147483647 : Int32)) % (18 : Int32))), (.int (0 : Int32))])) _
    refine st261 _ ?_
    show Steps p.tables e below (T261.setTop (mkF m 23 #[.val (.int p246), .val (.int ((p246 &&& (2147483647 : Int32)) % (18 : Int32))), .val (.ref w251), .val (.int (0 : Int32))] [(.int (0 : Int32)), (.int (0 : Int32))])) _
    refine XS.icmpYes X261.here hx rfl (pc0 := 23) (pc' := 28) rfl (hb hby at_23) rfl (teq (rfl : (0 : Int32) = (0 : Int32))).1 (by decide) (by decide) ?_
    show Steps p.tables e below (T261.setTop (mkF m 28 #[.val (.int p246), .val (.int ((p246 &&& (2147483647 : Int32)) % (18 : Int32))), .val (.ref w251), .val (.int (0 : Int32))] [])) _
    refine XS.iloadN X261.here hx rfl (hb hby at_28) rfl ?_
    show Steps p.tables e below (T261.setTop (mkF m 29 #[.val (.int p246), .val (.int ((p246 &&& (2147483647 : Int32)) % (18 : Int32))), .val (.ref w251), .val (.int (0 : Int32))] [(.int (0 : Int32))])) _
    refine XS.ifYes X261.here hx rfl (pc0 := 29) (pc' := 42) rfl (hb hby at_29) rfl ((if0 _ _).trans (teq (rfl : (0 : Int32) = (0 : Int32))).1) (by decide) (by decide) ?_
    show Steps p.tables e below (T261.setTop (mkF m 42 #[.val (.int p246), .val (.int ((p246 &&& (2147483647 : Int32)) % (18 : Int32))), .val (.ref w251), .val (.int (0 : Int32))] [])) _
    refine XS.iconst X261.here hx rfl (hb hby at_42) ?_
    show Steps p.tables e below (T261.setTop (mkF m 43 #[.val (.int p246), .val (.int ((p246 &&& (2147483647 : Int32)) % (18 : Int32))), .val (.ref w251), .val (.int (0 : Int32))] [(.int (1 : Int32))])) _
    exact retN X261 hx (t := .boolean) Bd.returns (by simp) (hb hby at_43) hr
  · show OQl (some (.int (1 : Int32))) n0 _ T261.heap _
    exact ⟨rfl, N261⟩
theorem d1_153 : decode method_2_code 153 = .ok (.iload_n 0, 1) := by decide +kernel
theorem d1_154 : decode method_2_code 154 = .ok (.bipush 16, 2) := by decide +kernel
theorem d1_156 : decode method_2_code 156 = .ok (.if_icmp .ne 7, 3) := by decide +kernel
theorem d1_159 : decode method_2_code 159 = .ok (.getstatic 58, 3) := by decide +kernel
theorem d1_162 : decode method_2_code 162 = .ok (.areturn, 1) := by decide +kernel
set_option maxRecDepth 65536 in
set_option maxHeartbeats 40000000 in
theorem r1_17 (l : Launch) (Z : State) (a0 : Array Value) (hw : ∀ d ∈ tables_1, d.before a0 Z = true) (p263 : Int32) (w264 : Addr) (h0 : Heap) (n0 : Nat) (Z0 : n0 ≤ h0.size) (H0 : ¬ (p263 = (0 : Int32))) (H1 : ¬ (p263 = (1 : Int32))) (H2 : ¬ (p263 = (2 : Int32))) (H3 : ¬ (p263 = (3 : Int32))) (H4 : ¬ (p263 = (4 : Int32))) (H5 : ¬ (p263 = (5 : Int32))) (H6 : ¬ (p263 = (6 : Int32))) (H7 : ¬ (p263 = (7 : Int32))) (H8 : ¬ (p263 = (8 : Int32))) (H9 : ¬ (p263 = (9 : Int32))) (H10 : ¬ (p263 = (10 : Int32))) (H11 : ¬ (p263 = (11 : Int32))) (H12 : ¬ (p263 = (12 : Int32))) (H13 : ¬ (p263 = (13 : Int32))) (H14 : ¬ (p263 = (14 : Int32))) (H15 : ¬ (p263 = (15 : Int32))) (H16 : p263 = (16 : Int32)) (H17 : Sta Z h0 "com/example/grepo/grepo/internal/query/Operator" "LIKE" "Lcom/example/grepo/grepo/internal/query/Operator;" (.ref w264)) :
    OMet l Z (⟨"com/example/grepo/grepo/internal/query/OperatorTakesCollectionPinLaw", "pick", "(I)Lcom/example/grepo/grepo/internal/query/Operator;"⟩ : MethodName) method_2_code 1 (some (.object "com/example/grepo/grepo/internal/query/Operator")) [] ({ frames := 0, cells := 0, slots := 0, locals := 0 } : Room) h0 #[(.int p263)] (OQp (some (.ref w264)) h0 n0) := by
  refine MetFree.of_bodySF (plainFor_of_name pn_com_example_grepo_grepo_internal_query_OperatorTakesCollectionPinLaw) hisR ?_
  intro p e s m args below meth c s₁ Bd hml0 hP hK
  obtain ⟨rfl, hZ, hh⟩ := hP
  have hx := Bd.exec
  have hby := Bd.bytes
  have hml : c.maxLocals = 1 := hml0
  have hown : s.vm.findClass "com/example/grepo/grepo/internal/query/OperatorTakesCollectionPinLaw" = some m.cls := findClass_of_methodNamed Bd.named
  have hnm := (name_of_methodNamed Bd.named Bd.method).1
  have X0 : Stand p l e ({ frames := 0, cells := 0, slots := 0, locals := 0 } : Room) s m #[(.int p263)] below meth c s₁ [] 0 0 := Stand.of_body Bd
  have e0 : s₁.heap = h0 := by rw [← hh, Bd.state]; rfl
  have N0 := Fr.nil n0
  have pre0 : ∀ t, Steps p.tables e below (s₁.setTop (mkF m 0 #[.val (.int p263)] [])) t → Steps p.tables e below (s₁.setTop (entryFrame m #[(.int p263)] 1)) t := fun t k => castTop (ef_1_v m p263) k
  obtain ⟨T265, X265, e265, st265⟩ := getS2 X0 hx hZ hown (host := "") (Or.inl (hw _ (List.mem_of_getElem? (i := 36) rfl))) Via.refl e0 H17 (g := (mkF m 159 #[.val (.int p263)] [])) rfl (hb hby d1_159)
  obtain ⟨fs, hr, hrun, hended, hW, hsame⟩ := X265.leave (v := some (.ref w264)) (fun h => by rw [Bd.returns] at h; cases h)
  refine ⟨_, _, pre0 _ ?_, hrun, hended, _, _, rfl, ?_, ⟨_, rfl⟩, hW, hsame.mono (by decide) (by decide)⟩
  · show Steps p.tables e below (s₁.setTop (mkF m 0 #[.val (.int p263)] [])) _
    refine XS.iloadN X0.here hx rfl (hb hby d1_0) rfl ?_
    show Steps p.tables e below (s₁.setTop (mkF m 1 #[.val (.int p263)] [(.int p263)])) _
    refine XS.ifYes X0.here hx rfl (pc0 := 1) (pc' := 8) rfl (hb hby d1_1) rfl ((if0 _ _).trans (feq H0).2) (by decide) (by decide) ?_
    show Steps p.tables e below (s₁.setTop (mkF m 8 #[.val (.int p263)] [])) _
    refine XS.iloadN X0.here hx rfl (hb hby d1_8) rfl ?_
    show Steps p.tables e below (s₁.setTop (mkF m 9 #[.val (.int p263)] [(.int p263)])) _
    refine XS.iconst X0.here hx rfl (hb hby d1_9) ?_
    show Steps p.tables e below (s₁.setTop (mkF m 10 #[.val (.int p263)] [(.int (1 : Int32)), (.int p263)])) _
    refine XS.icmpYes X0.here hx rfl (pc0 := 10) (pc' := 17) rfl (hb hby d1_10) rfl (feq H1).2 (by decide) (by decide) ?_
    show Steps p.tables e below (s₁.setTop (mkF m 17 #[.val (.int p263)] [])) _
    refine XS.iloadN X0.here hx rfl (hb hby d1_17) rfl ?_
    show Steps p.tables e below (s₁.setTop (mkF m 18 #[.val (.int p263)] [(.int p263)])) _
    refine XS.iconst X0.here hx rfl (hb hby d1_18) ?_
    show Steps p.tables e below (s₁.setTop (mkF m 19 #[.val (.int p263)] [(.int (2 : Int32)), (.int p263)])) _
    refine XS.icmpYes X0.here hx rfl (pc0 := 19) (pc' := 26) rfl (hb hby d1_19) rfl (feq H2).2 (by decide) (by decide) ?_
    show Steps p.tables e below (s₁.setTop (mkF m 26 #[.val (.int p263)] [])) _
    refine XS.iloadN X0.here hx rfl (hb hby d1_26) rfl ?_
    show Steps p.tables e below (s₁.setTop (mkF m 27 #[.val (.int p263)] [(.int p263)])) _
    refine XS.iconst X0.here hx rfl (hb hby d1_27) ?_
    show Steps p.tables e below (s₁.setTop (mkF m 28 #[.val (.int p263)] [(.int (3 : Int32)), (.int p263)])) _
    refine XS.icmpYes X0.here hx rfl (pc0 := 28) (pc' := 35) rfl (hb hby d1_28) rfl (feq H3).2 (by decide) (by decide) ?_
    show Steps p.tables e below (s₁.setTop (mkF m 35 #[.val (.int p263)] [])) _
    refine XS.iloadN X0.here hx rfl (hb hby d1_35) rfl ?_
    show Steps p.tables e below (s₁.setTop (mkF m 36 #[.val (.int p263)] [(.int p263)])) _
    refine XS.iconst X0.here hx rfl (hb hby d1_36) ?_
    show Steps p.tables e below (s₁.setTop (mkF m 37 #[.val (.int p263)] [(.int (4 : Int32)), (.int p263)])) _
    refine XS.icmpYes X0.here hx rfl (pc0 := 37) (pc' := 44) rfl (hb hby d1_37) rfl (feq H4).2 (by decide) (by decide) ?_
    show Steps p.tables e below (s₁.setTop (mkF m 44 #[.val (.int p263)] [])) _
    refine XS.iloadN X0.here hx rfl (hb hby d1_44) rfl ?_
    show Steps p.tables e below (s₁.setTop (mkF m 45 #[.val (.int p263)] [(.int p263)])) _
    refine XS.iconst X0.here hx rfl (hb hby d1_45) ?_
    show Steps p.tables e below (s₁.setTop (mkF m 46 #[.val (.int p263)] [(.int (5 : Int32)), (.int p263)])) _
    refine XS.icmpYes X0.here hx rfl (pc0 := 46) (pc' := 53) rfl (hb hby d1_46) rfl (feq H5).2 (by decide) (by decide) ?_
    show Steps p.tables e below (s₁.setTop (mkF m 53 #[.val (.int p263)] [])) _
    refine XS.iloadN X0.here hx rfl (hb hby d1_53) rfl ?_
    show Steps p.tables e below (s₁.setTop (mkF m 54 #[.val (.int p263)] [(.int p263)])) _
    refine XS.bipush X0.here hx rfl (hb hby d1_54) ?_
    show Steps p.tables e below (s₁.setTop (mkF m 56 #[.val (.int p263)] [(.int (6 : Int32)), (.int p263)])) _
    refine XS.icmpYes X0.here hx rfl (pc0 := 56) (pc' := 63) rfl (hb hby d1_56) rfl (feq H6).2 (by decide) (by decide) ?_
    show Steps p.tables e below (s₁.setTop (mkF m 63 #[.val (.int p263)] [])) _
    refine XS.iloadN X0.here hx rfl (hb hby d1_63) rfl ?_
    show Steps p.tables e below (s₁.setTop (mkF m 64 #[.val (.int p263)] [(.int p263)])) _
    refine XS.bipush X0.here hx rfl (hb hby d1_64) ?_
    show Steps p.tables e below (s₁.setTop (mkF m 66 #[.val (.int p263)] [(.int (7 : Int32)), (.int p263)])) _
    refine XS.icmpYes X0.here hx rfl (pc0 := 66) (pc' := 73) rfl (hb hby d1_66) rfl (feq H7).2 (by decide) (by decide) ?_
    show Steps p.tables e below (s₁.setTop (mkF m 73 #[.val (.int p263)] [])) _
    refine XS.iloadN X0.here hx rfl (hb hby d1_73) rfl ?_
    show Steps p.tables e below (s₁.setTop (mkF m 74 #[.val (.int p263)] [(.int p263)])) _
    refine XS.bipush X0.here hx rfl (hb hby d1_74) ?_
    show Steps p.tables e below (s₁.setTop (mkF m 76 #[.val (.int p263)] [(.int (8 : Int32)), (.int p263)])) _
    refine XS.icmpYes X0.here hx rfl (pc0 := 76) (pc' := 83) rfl (hb hby d1_76) rfl (feq H8).2 (by decide) (by decide) ?_
    show Steps p.tables e below (s₁.setTop (mkF m 83 #[.val (.int p263)] [])) _
    refine XS.iloadN X0.here hx rfl (hb hby d1_83) rfl ?_
    show Steps p.tables e below (s₁.setTop (mkF m 84 #[.val (.int p263)] [(.int p263)])) _
    refine XS.bipush X0.here hx rfl (hb hby d1_84) ?_
    show Steps p.tables e below (s₁.setTop (mkF m 86 #[.val (.int p263)] [(.int (9 : Int32)), (.int p263)])) _
    refine XS.icmpYes X0.here hx rfl (pc0 := 86) (pc' := 93) rfl (hb hby d1_86) rfl (feq H9).2 (by decide) (by decide) ?_
    show Steps p.tables e below (s₁.setTop (mkF m 93 #[.val (.int p263)] [])) _
    refine XS.iloadN X0.here hx rfl (hb hby d1_93) rfl ?_
    show Steps p.tables e below (s₁.setTop (mkF m 94 #[.val (.int p263)] [(.int p263)])) _
    refine XS.bipush X0.here hx rfl (hb hby d1_94) ?_
    show Steps p.tables e below (s₁.setTop (mkF m 96 #[.val (.int p263)] [(.int (10 : Int32)), (.int p263)])) _
    refine XS.icmpYes X0.here hx rfl (pc0 := 96) (pc' := 103) rfl (hb hby d1_96) rfl (feq H10).2 (by decide) (by decide) ?_
    show Steps p.tables e below (s₁.setTop (mkF m 103 #[.val (.int p263)] [])) _
    refine XS.iloadN X0.here hx rfl (hb hby d1_103) rfl ?_
    show Steps p.tables e below (s₁.setTop (mkF m 104 #[.val (.int p263)] [(.int p263)])) _
    refine XS.bipush X0.here hx rfl (hb hby d1_104) ?_
    show Steps p.tables e below (s₁.setTop (mkF m 106 #[.val (.int p263)] [(.int (11 : Int32)), (.int p263)])) _
    refine XS.icmpYes X0.here hx rfl (pc0 := 106) (pc' := 113) rfl (hb hby d1_106) rfl (feq H11).2 (by decide) (by decide) ?_
    show Steps p.tables e below (s₁.setTop (mkF m 113 #[.val (.int p263)] [])) _
    refine XS.iloadN X0.here hx rfl (hb hby d1_113) rfl ?_
    show Steps p.tables e below (s₁.setTop (mkF m 114 #[.val (.int p263)] [(.int p263)])) _
    refine XS.bipush X0.here hx rfl (hb hby d1_114) ?_
    show Steps p.tables e below (s₁.setTop (mkF m 116 #[.val (.int p263)] [(.int (12 : Int32)), (.int p263)])) _
    refine XS.icmpYes X0.here hx rfl (pc0 := 116) (pc' := 123) rfl (hb hby d1_116) rfl (feq H12).2 (by decide) (by decide) ?_
    show Steps p.tables e below (s₁.setTop (mkF m 123 #[.val (.int p263)] [])) _
    refine XS.iloadN X0.here hx rfl (hb hby d1_123) rfl ?_
    show Steps p.tables e below (s₁.setTop (mkF m 124 #[.val (.int p263)] [(.int p263)])) _
    refine XS.bipush X0.here hx rfl (hb hby d1_124) ?_
    show Steps p.tables e below (s₁.setTop (mkF m 126 #[.val (.int p263)] [(.int (13 : Int32)), (.int p263)])) _
    refine XS.icmpYes X0.here hx rfl (pc0 := 126) (pc' := 133) rfl (hb hby d1_126) rfl (feq H13).2 (by decide) (by decide) ?_
    show Steps p.tables e below (s₁.setTop (mkF m 133 #[.val (.int p263)] [])) _
    refine XS.iloadN X0.here hx rfl (hb hby d1_133) rfl ?_
    show Steps p.tables e below (s₁.setTop (mkF m 134 #[.val (.int p263)] [(.int p263)])) _
    refine XS.bipush X0.here hx rfl (hb hby d1_134) ?_
    show Steps p.tables e below (s₁.setTop (mkF m 136 #[.val (.int p263)] [(.int (14 : Int32)), (.int p263)])) _
    refine XS.icmpYes X0.here hx rfl (pc0 := 136) (pc' := 143) rfl (hb hby d1_136) rfl (feq H14).2 (by decide) (by decide) ?_
    show Steps p.tables e below (s₁.setTop (mkF m 143 #[.val (.int p263)] [])) _
    refine XS.iloadN X0.here hx rfl (hb hby d1_143) rfl ?_
    show Steps p.tables e below (s₁.setTop (mkF m 144 #[.val (.int p263)] [(.int p263)])) _
    refine XS.bipush X0.here hx rfl (hb hby d1_144) ?_
    show Steps p.tables e below (s₁.setTop (mkF m 146 #[.val (.int p263)] [(.int (15 : Int32)), (.int p263)])) _
    refine XS.icmpYes X0.here hx rfl (pc0 := 146) (pc' := 153) rfl (hb hby d1_146) rfl (feq H15).2 (by decide) (by decide) ?_
    show Steps p.tables e below (s₁.setTop (mkF m 153 #[.val (.int p263)] [])) _
    refine XS.iloadN X0.here hx rfl (hb hby d1_153) rfl ?_
    show Steps p.tables e below (s₁.setTop (mkF m 154 #[.val (.int p263)] [(.int p263)])) _
    refine XS.bipush X0.here hx rfl (hb hby d1_154) ?_
    show Steps p.tables e below (s₁.setTop (mkF m 156 #[.val (.int p263)] [(.int (16 : Int32)), (.int p263)])) _
    refine XS.icmpNo X0.here hx rfl (hb hby d1_156) rfl (teq H16).2 ?_
    show Steps p.tables e below (s₁.setTop (mkF m 159 #[.val (.int p263)] [])) _
    refine st265 _ ?_
    show Steps p.tables e below (T265.setTop (mkF m 162 #[.val (.int p263)] [(.ref w264)])) _
    jvm_step X265.here [X265.here.top, hx, (hb hby d1_162), X265.method', Bd.returns, Value.isRef, FieldType.isReference]
    first | (intro acts; rw [hr _ acts rfl rfl rfl]) | rw [hr _ _ rfl rfl rfl]
    exact Steps.refl _
  · show OQp (some (.ref w264)) h0 n0 _ T265.heap _
    rw [e265]
    exact ⟨rfl, N0, rfl⟩
set_option maxRecDepth 65536 in
set_option maxHeartbeats 40000000 in
theorem r0_17 (l : Launch) (Z : State) (a0 : Array Value) (hw : ∀ d ∈ tables_1, d.before a0 Z = true) (p262 : Int32) (w267 : Addr) (w274 : Addr) (w275 : Addr) (h0 : Heap) (n0 : Nat) (Z0 : n0 ≤ h0.size) (H0 : ¬ (((p262 &&& (2147483647 : Int32)) % (18 : Int32)) = (0 : Int32))) (H1 : ¬ (((p262 &&& (2147483647 : Int32)) % (18 : Int32)) = (1 : Int32))) (H2 : ¬ (((p262 &&& (2147483647 : Int32)) % (18 : Int32)) = (2 : Int32))) (H3 : ¬ (((p262 &&& (2147483647 : Int32)) % (18 : Int32)) = (3 : Int32))) (H4 : ¬ (((p262 &&& (2147483647 : Int32)) % (18 : Int32)) = (4 : Int32))) (H5 : ¬ (((p262 &&& (2147483647 : Int32)) % (18 : Int32)) = (5 : Int32))) (H6 : ¬ (((p262 &&& (2147483647 : Int32)) % (18 : Int32)) = (6 : Int32))) (H7 : ¬ (((p262 &&& (2147483647 : Int32)) % (18 : Int32)) = (7 : Int32))) (H8 : ¬ (((p262 &&& (2147483647 : Int32)) % (18 : Int32)) = (8 : Int32))) (H9 : ¬ (((p262 &&& (2147483647 : Int32)) % (18 : Int32)) = (9 : Int32))) (H10 : ¬ (((p262 &&& (2147483647 : Int32)) % (18 : Int32)) = (10 : Int32))) (H11 : ¬ (((p262 &&& (2147483647 : Int32)) % (18 : Int32)) = (11 : Int32))) (H12 : ¬ (((p262 &&& (2147483647 : Int32)) % (18 : Int32)) = (12 : Int32))) (H13 : ¬ (((p262 &&& (2147483647 : Int32)) % (18 : Int32)) = (13 : Int32))) (H14 : ¬ (((p262 &&& (2147483647 : Int32)) % (18 : Int32)) = (14 : Int32))) (H15 : ¬ (((p262 &&& (2147483647 : Int32)) % (18 : Int32)) = (15 : Int32))) (H16 : ((p262 &&& (2147483647 : Int32)) % (18 : Int32)) = (16 : Int32)) (H17 : Sta Z h0 "com/example/grepo/grepo/internal/query/Operator" "LIKE" "Lcom/example/grepo/grepo/internal/query/Operator;" (.ref w267)) (H18 : Sta Z h0 "com/example/grepo/grepo/internal/query/Operator" "IN" "Lcom/example/grepo/grepo/internal/query/Operator;" (.ref w274)) (H19 : w267 ≠ w274) (H20 : Sta Z h0 "com/example/grepo/grepo/internal/query/Operator" "NOT_IN" "Lcom/example/grepo/grepo/internal/query/Operator;" (.ref w275)) (H21 : w267 ≠ w275) (H22 : Exa Z h0 w267 "com/example/grepo/grepo/internal/query/Operator") :
    OMet l Z x code maxLocals ret tables_1 room_1 h0 #[(.int p262)] (OQl (some (.int (1 : Int32))) n0) := by
  refine MetFree.of_bodySF (plainFor_of_name pn_com_example_grepo_grepo_internal_query_OperatorTakesCollectionPinLaw) hisR ?_
  intro p e s m args below meth c s₁ Bd hml0 hP hK
  obtain ⟨rfl, hZ, hh⟩ := hP
  have hx := Bd.exec
  have hby := Bd.bytes
  have hml : c.maxLocals = 4 := hml0
  have hown : s.vm.findClass "com/example/grepo/grepo/internal/query/OperatorTakesCollectionPinLaw" = some m.cls := findClass_of_methodNamed Bd.named
  have hnm := (name_of_methodNamed Bd.named Bd.method).1
  have X0 : Stand p l e room_1 s m #[(.int p262)] below meth c s₁ [] 0 0 := Stand.of_body Bd
  have e0 : s₁.heap = h0 := by rw [← hh, Bd.state]; rfl
  have N0 := Fr.nil n0
  have pre0 : ∀ t, Steps p.tables e below (s₁.setTop (mkF m 0 #[.val (.int p262), .unset, .unset, .unset] [])) t → Steps p.tables e below (s₁.setTop (entryFrame m #[(.int p262)] maxLocals)) t := fun t k => castTop (ef_0_v m p262) k
  obtain ⟨_, _, ⟨T266, L266, k266, n266⟩, -, X266, ⟨Lc266, hQ266, l266, y266, z266⟩, st266⟩ := Jvm.LawKit.callS X0 hx (y := (⟨"com/example/grepo/grepo/internal/query/OperatorTakesCollectionPinLaw", "pick", "(I)Lcom/example/grepo/grepo/internal/query/Operator;"⟩ : MethodName)) hown (mvT hZ (hw _ (List.mem_of_getElem? (i := 1) rfl))) (mvT hZ (hw _ (List.mem_of_getElem? (i := 2) rfl))) (mvT hZ (hw _ (List.mem_of_getElem? (i := 3) rfl))) (mvT hZ (hw _ (List.mem_of_getElem? (i := 4) rfl))) (by decide) (backOf (W := 0) (r1_17 l Z a0 hw ((p262 &&& (2147483647 : Int32)) % (18 : Int32)) w267 h0 n0 Z0 H0 H1 H2 H3 H4 H5 H6 H7 H8 H9 H10 H11 H12 H13 H14 H15 H16 H17) hZ (hw _ (List.mem_of_getElem? (i := 4) rfl)) (hw _ (List.mem_of_getElem? (i := 3) rfl)) (by decide) (by decide)) (g := (mkF m 9 #[.val (.int p262), .val (.int ((p262 &&& (2147483647 : Int32)) % (18 : Int32))), .unset, .unset] [(.int ((p262 &&& (2147483647 : Int32)) % (18 : Int32)))])) rfl (by rw [hml]; rfl) (argsL := [(.int ((p262 &&& (2147483647 : Int32)) % (18 : Int32)))]) (rest := []) (lenOf pd_0 rfl) rfl (by show 2 * 0 + _ ≤ _; exact Nat.le_of_eq rfl) (hb hby at_9) (fun _ _ => ⟨rfl, e0, (by decide : 0 + 0 ≤ _), (by decide : 0 + 0 ≤ _)⟩)
  dsimp only [Pt.U, Pt.locs, Pt.cells, Pt.slots] at X266 l266 y266 z266 st266 hQ266
  subst l266 y266 z266
  obtain ⟨rfl, N266q, e266⟩ := hQ266
  have N266 := Fr.app N0 N266q
  obtain ⟨cq273, kq273, q273a, q273b, q273c⟩ := isOf hZ e266 H22
  obtain ⟨_, _, ⟨T273, L273, k273, n273⟩, -, X273, ⟨Lc273, hQ273, l273, y273, z273⟩, st273⟩ := X266.virtualBack hx (y := (⟨"com/example/grepo/grepo/internal/query/Operator", "takesCollection", "()Z"⟩ : MethodName)) (z := (⟨"com/example/grepo/grepo/internal/query/Operator", "takesCollection", "()Z"⟩ : MethodName)) hown (mvT hZ (hw _ (List.mem_of_getElem? (i := 8) rfl))) (mvT hZ (hw _ (List.mem_of_getElem? (i := 9) rfl))) (notFace_of_selects (args := #[]) (mvT hZ (hw _ (List.mem_of_getElem? (i := 11) rfl)))) (mvT hZ (hw _ (List.mem_of_getElem? (i := 11) rfl))) (mvT hZ (hw _ (List.mem_of_getElem? (i := 10) rfl))) (by decide) (backOf (W := 0) (r2_1 l Z a0 hw w267 w274 w275 h0 n0 Z0 H18 H19 H20 H21) hZ (hw _ (List.mem_of_getElem? (i := 12) rfl)) (hw _ (List.mem_of_getElem? (i := 6) rfl)) (by decide) (by decide)) q273a q273c (g := (mkF m 14 #[.val (.int p262), .val (.int ((p262 &&& (2147483647 : Int32)) % (18 : Int32))), .val (.ref w267), .unset] [(.ref w267)])) rfl (by rw [hml]; rfl) (Steps.refl _) (argsL := []) (rest := []) (lenOf pd_1 rfl) rfl (by show 2 * 0 + _ ≤ _; exact Nat.le_of_eq rfl) (hb hby at_14) (fun _ _ => ⟨rfl, e266, (by decide : 0 + 0 ≤ _), (by decide : 0 + 0 ≤ _)⟩)
  dsimp only [Pt.U, Pt.locs, Pt.cells, Pt.slots] at X273 l273 y273 z273 st273 hQ273
  subst l273 y273 z273
  obtain ⟨rfl, N273q, e273⟩ := hQ273
  have N273 := Fr.app N266 N273q
  obtain ⟨_, _, ⟨T277, L277, k277, n277⟩, -, X277, ⟨Lc277, hQ277, l277, y277, z277⟩, st277⟩ := Jvm.LawKit.callS X273 hx (y := (⟨"com/example/grepo/grepo/internal/query/OperatorTakesCollectionPinLaw", "expected", "(I)Z"⟩ : MethodName)) hown (mvT hZ (hw _ (List.mem_of_getElem? (i := 17) rfl))) (mvT hZ (hw _ (List.mem_of_getElem? (i := 18) rfl))) (mvT hZ (hw _ (List.mem_of_getElem? (i := 3) rfl))) (mvT hZ (hw _ (List.mem_of_getElem? (i := 19) rfl))) (by decide) (backOf (W := 1) (r3_1 l Z a0 hw ((p262 &&& (2147483647 : Int32)) % (18 : Int32)) h0 n0 Z0 H9 H10) hZ (hw _ (List.mem_of_getElem? (i := 19) rfl)) (hw _ (List.mem_of_getElem? (i := 3) rfl)) (by decide) (by decide)) (g := (mkF m 20 #[.val (.int p262), .val (.int ((p262 &&& (2147483647 : Int32)) % (18 : Int32))), .val (.ref w267), .val (.int (0 : Int32))] [(.int ((p262 &&& (2147483647 : Int32)) % (18 : Int32))), (.int (0 : Int32))])) rfl (by rw [hml]; rfl) (argsL := [(.int ((p262 &&& (2147483647 : Int32)) % (18 : Int32)))]) (rest := [(.int (0 : Int32))]) (lenOf pd_2 rfl) rfl (by show 2 * 0 + _ ≤ _; exact Nat.le_of_eq rfl) (hb hby at_20) (fun _ _ => ⟨rfl, e273, (by decide : 0 + 0 ≤ _), (by decide : 0 + 0 ≤ _)⟩)
  dsimp only [Pt.U, Pt.locs, Pt.cells, Pt.slots] at X277 l277 y277 z277 st277 hQ277
  subst l277 y277 z277
  obtain ⟨rfl, N277q, e277⟩ := hQ277
  have N277 := Fr.app N273 N277q
  obtain ⟨fs, hr, hrun, hended, hW, hsame⟩ := X277.leave (v := some (.int (1 : Int32))) (fun h => by rw [Bd.returns] at h; cases h)
  refine ⟨_, _, pre0 _ ?_, hrun, hended, _, _, rfl, ?_, ⟨_, rfl⟩, hW, hsame.mono (by decide) (by decide)⟩
  · show Steps p.tables e below (s₁.setTop (mkF m 0 #[.val (.int p262), .unset, .unset, .unset] [])) _
    refine XS.iloadN X0.here hx rfl (hb hby at_0) rfl ?_
    show Steps p.tables e below (s₁.setTop (mkF m 1 #[.val (.int p262), .unset, .unset, .unset] [(.int p262)])) _
    refine X0.ldcInt hx hown (mvT hZ (hw _ (List.mem_of_getElem? (i := 0) rfl))) (g := (mkF m 1 #[.val (.int p262), .unset, .unset, .unset] [(.int p262)])) rfl (hb hby at_1) _ ?_
    show Steps p.tables e below (s₁.setTop (mkF m 3 #[.val (.int p262), .unset, .unset, .unset] [(.int (2147483647 : Int32)), (.int p262)])) _
    refine XS.iand X0.here hx rfl (hb hby at_3) rfl ?_
    show Steps p.tables e below (s₁.setTop (mkF m 4 #[.val (.int p262), .unset, .unset, .unset] [(.int (p262 &&& (2147483647 : Int32)))])) _
    refine XS.bipush X0.here hx rfl (hb hby at_4) ?_
    show Steps p.tables e below (s₁.setTop (mkF m 6 #[.val (.int p262), .unset, .unset, .unset] [(.int (18 : Int32)), (.int (p262 &&& (2147483647 : Int32)))])) _
    refine iremM X0 hx rfl (hb hby at_6) rfl (by decide) ?_
    show Steps p.tables e below (s₁.setTop (mkF m 7 #[.val (.int p262), .unset, .unset, .unset] [(.int ((p262 &&& (2147483647 : Int32)) % (18 : Int32)))])) _
    refine XS.istoreN X0.here hx rfl (hb hby at_7) rfl (l' := #[.val (.int p262), .val (.int ((p262 &&& (2147483647 : Int32)) % (18 : Int32))), .unset, .unset]) rfl ?_
    show Steps p.tables e below (s₁.setTop (mkF m 8 #[.val (.int p262), .val (.int ((p262 &&& (2147483647 : Int32)) % (18 : Int32))), .unset, .unset] [])) _
    refine XS.iloadN X0.here hx rfl (hb hby at_8) rfl ?_
    show Steps p.tables e below (s₁.setTop (mkF m 9 #[.val (.int p262), .val (.int ((p262 &&& (2147483647 : Int32)) % (18 : Int32))), .unset, .unset] [(.int ((p262 &&& (2147483647 : Int32)) % (18 : Int32)))])) _
    refine st266 _ ?_
    show Steps p.tables e below (T266.setTop (mkF m 12 #[.val (.int p262), .val (.int ((p262 &&& (2147483647 : Int32)) % (18 : Int32))), .unset, .unset] [(.ref w267)])) _
    refine XS.astoreN X266.here hx rfl (hb hby at_12) rfl rfl (l' := #[.val (.int p262), .val (.int ((p262 &&& (2147483647 : Int32)) % (18 : Int32))), .val (.ref w267), .unset]) rfl ?_
    show Steps p.tables e below (T266.setTop (mkF m 13 #[.val (.int p262), .val (.int ((p262 &&& (2147483647 : Int32)) % (18 : Int32))), .val (.ref w267), .unset] [])) _
    refine XS.aloadN X266.here hx rfl (hb hby at_13) rfl rfl ?_
    show Steps p.tables e below (T266.setTop (mkF m 14 #[.val (.int p262), .val (.int ((p262 &&& (2147483647 : Int32)) % (18 : Int32))), .val (.ref w267), .unset] [(.ref w267)])) _
    refine st273.trans ?_
    show Steps p.tables e below (T273.setTop (mkF m 17 #[.val (.int p262), .val (.int ((p262 &&& (2147483647 : Int32)) % (18 : Int32))), .val (.ref w267), .unset] [(.int (0 : Int32))])) _
    refine XS.istoreN X273.here hx rfl (hb hby at_17) rfl (l' := #[.val (.int p262), .val (.int ((p262 &&& (2147483647 : Int32)) % (18 : Int32))), .val (.ref w267), .val (.int (0 : Int32))]) rfl ?_
    show Steps p.tables e below (T273.setTop (mkF m 18 #[.val (.int p262), .val (.int ((p262 &&& (2147483647 : Int32)) % (18 : Int32))), .val (.ref w267), .val (.int (0 : Int32))] [])) _
    refine XS.iloadN X273.here hx rfl (hb hby at_18) rfl ?_
    show Steps p.tables e below (T273.setTop (mkF m 19 #[.val (.int p262), .val (.int ((p262 &&& (2147483647 : Int32)) % (18 : Int32))), .val (.ref w267), .val (.int (0 : Int32))] [(.int (0 : Int32))])) _
    refine XS.iloadN X273.here hx rfl (hb hby at_19) rfl ?_
    show Steps p.tables e below (T273.setTop (mkF m 20 #[.val (.int p262), .val (.int ((p262 &&& (2147483647 : Int32)) % (18 : Int32))), .val (.ref w267), .val (.int (0 : Int32))] [(.int ((p262 &&& (2147483647 : Int32)) % (18 : Int32))), (.int (0 : Int32))])) _
    refine st277 _ ?_
    show Steps p.tables e below (T277.setTop (mkF m 23 #[.val (.int p262), .val (.int ((p262 &&& (2147483647 : Int32)) % (18 : Int32))), .val (.ref w267), .val (.int (0 : Int32))] [(.int (0 : Int32)), (.int (0 : Int32))])) _
    refine XS.icmpYes X277.here hx rfl (pc0 := 23) (pc' := 28) rfl (hb hby at_23) rfl (teq (rfl : (0 : Int32) = (0 : Int32))).1 (by decide) (by decide) ?_
    show Steps p.tables e below (T277.setTop (mkF m 28 #[.val (.int p262), .val (.int ((p262 &&& (2147483647 : Int32)) % (18 : Int32))), .val (.ref w267), .val (.int (0 : Int32))] [])) _
    refine XS.iloadN X277.here hx rfl (hb hby at_28) rfl ?_
    show Steps p.tables e below (T277.setTop (mkF m 29 #[.val (.int p262), .val (.int ((p262 &&& (2147483647 : Int32)) % (18 : Int32))), .val (.ref w267), .val (.int (0 : Int32))] [(.int (0 : Int32))])) _
    refine XS.ifYes X277.here hx rfl (pc0 := 29) (pc' := 42) rfl (hb hby at_29) rfl ((if0 _ _).trans (teq (rfl : (0 : Int32) = (0 : Int32))).1) (by decide) (by decide) ?_
    show Steps p.tables e below (T277.setTop (mkF m 42 #[.val (.int p262), .val (.int ((p262 &&& (2147483647 : Int32)) % (18 : Int32))), .val (.ref w267), .val (.int (0 : Int32))] [])) _
    refine XS.iconst X277.here hx rfl (hb hby at_42) ?_
    show Steps p.tables e below (T277.setTop (mkF m 43 #[.val (.int p262), .val (.int ((p262 &&& (2147483647 : Int32)) % (18 : Int32))), .val (.ref w267), .val (.int (0 : Int32))] [(.int (1 : Int32))])) _
    exact retN X277 hx (t := .boolean) Bd.returns (by simp) (hb hby at_43) hr
  · show OQl (some (.int (1 : Int32))) n0 _ T277.heap _
    exact ⟨rfl, N277⟩
theorem d1_163 : decode method_2_code 163 = .ok (.getstatic 61, 3) := by decide +kernel
theorem d1_166 : decode method_2_code 166 = .ok (.areturn, 1) := by decide +kernel
set_option maxRecDepth 65536 in
set_option maxHeartbeats 40000000 in
theorem r1_18 (l : Launch) (Z : State) (a0 : Array Value) (hw : ∀ d ∈ tables_1, d.before a0 Z = true) (p279 : Int32) (w280 : Addr) (h0 : Heap) (n0 : Nat) (Z0 : n0 ≤ h0.size) (H0 : ¬ (p279 = (0 : Int32))) (H1 : ¬ (p279 = (1 : Int32))) (H2 : ¬ (p279 = (2 : Int32))) (H3 : ¬ (p279 = (3 : Int32))) (H4 : ¬ (p279 = (4 : Int32))) (H5 : ¬ (p279 = (5 : Int32))) (H6 : ¬ (p279 = (6 : Int32))) (H7 : ¬ (p279 = (7 : Int32))) (H8 : ¬ (p279 = (8 : Int32))) (H9 : ¬ (p279 = (9 : Int32))) (H10 : ¬ (p279 = (10 : Int32))) (H11 : ¬ (p279 = (11 : Int32))) (H12 : ¬ (p279 = (12 : Int32))) (H13 : ¬ (p279 = (13 : Int32))) (H14 : ¬ (p279 = (14 : Int32))) (H15 : ¬ (p279 = (15 : Int32))) (H16 : ¬ (p279 = (16 : Int32))) (H17 : Sta Z h0 "com/example/grepo/grepo/internal/query/Operator" "NOT_LIKE" "Lcom/example/grepo/grepo/internal/query/Operator;" (.ref w280)) :
    OMet l Z (⟨"com/example/grepo/grepo/internal/query/OperatorTakesCollectionPinLaw", "pick", "(I)Lcom/example/grepo/grepo/internal/query/Operator;"⟩ : MethodName) method_2_code 1 (some (.object "com/example/grepo/grepo/internal/query/Operator")) [] ({ frames := 0, cells := 0, slots := 0, locals := 0 } : Room) h0 #[(.int p279)] (OQp (some (.ref w280)) h0 n0) := by
  refine MetFree.of_bodySF (plainFor_of_name pn_com_example_grepo_grepo_internal_query_OperatorTakesCollectionPinLaw) hisR ?_
  intro p e s m args below meth c s₁ Bd hml0 hP hK
  obtain ⟨rfl, hZ, hh⟩ := hP
  have hx := Bd.exec
  have hby := Bd.bytes
  have hml : c.maxLocals = 1 := hml0
  have hown : s.vm.findClass "com/example/grepo/grepo/internal/query/OperatorTakesCollectionPinLaw" = some m.cls := findClass_of_methodNamed Bd.named
  have hnm := (name_of_methodNamed Bd.named Bd.method).1
  have X0 : Stand p l e ({ frames := 0, cells := 0, slots := 0, locals := 0 } : Room) s m #[(.int p279)] below meth c s₁ [] 0 0 := Stand.of_body Bd
  have e0 : s₁.heap = h0 := by rw [← hh, Bd.state]; rfl
  have N0 := Fr.nil n0
  have pre0 : ∀ t, Steps p.tables e below (s₁.setTop (mkF m 0 #[.val (.int p279)] [])) t → Steps p.tables e below (s₁.setTop (entryFrame m #[(.int p279)] 1)) t := fun t k => castTop (ef_1_v m p279) k
  obtain ⟨T281, X281, e281, st281⟩ := getS2 X0 hx hZ hown (host := "") (Or.inl (hw _ (List.mem_of_getElem? (i := 52) rfl))) Via.refl e0 H17 (g := (mkF m 163 #[.val (.int p279)] [])) rfl (hb hby d1_163)
  obtain ⟨fs, hr, hrun, hended, hW, hsame⟩ := X281.leave (v := some (.ref w280)) (fun h => by rw [Bd.returns] at h; cases h)
  refine ⟨_, _, pre0 _ ?_, hrun, hended, _, _, rfl, ?_, ⟨_, rfl⟩, hW, hsame.mono (by decide) (by decide)⟩
  · show Steps p.tables e below (s₁.setTop (mkF m 0 #[.val (.int p279)] [])) _
    refine XS.iloadN X0.here hx rfl (hb hby d1_0) rfl ?_
    show Steps p.tables e below (s₁.setTop (mkF m 1 #[.val (.int p279)] [(.int p279)])) _
    refine XS.ifYes X0.here hx rfl (pc0 := 1) (pc' := 8) rfl (hb hby d1_1) rfl ((if0 _ _).trans (feq H0).2) (by decide) (by decide) ?_
    show Steps p.tables e below (s₁.setTop (mkF m 8 #[.val (.int p279)] [])) _
    refine XS.iloadN X0.here hx rfl (hb hby d1_8) rfl ?_
    show Steps p.tables e below (s₁.setTop (mkF m 9 #[.val (.int p279)] [(.int p279)])) _
    refine XS.iconst X0.here hx rfl (hb hby d1_9) ?_
    show Steps p.tables e below (s₁.setTop (mkF m 10 #[.val (.int p279)] [(.int (1 : Int32)), (.int p279)])) _
    refine XS.icmpYes X0.here hx rfl (pc0 := 10) (pc' := 17) rfl (hb hby d1_10) rfl (feq H1).2 (by decide) (by decide) ?_
    show Steps p.tables e below (s₁.setTop (mkF m 17 #[.val (.int p279)] [])) _
    refine XS.iloadN X0.here hx rfl (hb hby d1_17) rfl ?_
    show Steps p.tables e below (s₁.setTop (mkF m 18 #[.val (.int p279)] [(.int p279)])) _
    refine XS.iconst X0.here hx rfl (hb hby d1_18) ?_
    show Steps p.tables e below (s₁.setTop (mkF m 19 #[.val (.int p279)] [(.int (2 : Int32)), (.int p279)])) _
    refine XS.icmpYes X0.here hx rfl (pc0 := 19) (pc' := 26) rfl (hb hby d1_19) rfl (feq H2).2 (by decide) (by decide) ?_
    show Steps p.tables e below (s₁.setTop (mkF m 26 #[.val (.int p279)] [])) _
    refine XS.iloadN X0.here hx rfl (hb hby d1_26) rfl ?_
    show Steps p.tables e below (s₁.setTop (mkF m 27 #[.val (.int p279)] [(.int p279)])) _
    refine XS.iconst X0.here hx rfl (hb hby d1_27) ?_
    show Steps p.tables e below (s₁.setTop (mkF m 28 #[.val (.int p279)] [(.int (3 : Int32)), (.int p279)])) _
    refine XS.icmpYes X0.here hx rfl (pc0 := 28) (pc' := 35) rfl (hb hby d1_28) rfl (feq H3).2 (by decide) (by decide) ?_
    show Steps p.tables e below (s₁.setTop (mkF m 35 #[.val (.int p279)] [])) _
    refine XS.iloadN X0.here hx rfl (hb hby d1_35) rfl ?_
    show Steps p.tables e below (s₁.setTop (mkF m 36 #[.val (.int p279)] [(.int p279)])) _
    refine XS.iconst X0.here hx rfl (hb hby d1_36) ?_
    show Steps p.tables e below (s₁.setTop (mkF m 37 #[.val (.int p279)] [(.int (4 : Int32)), (.int p279)])) _
    refine XS.icmpYes X0.here hx rfl (pc0 := 37) (pc' := 44) rfl (hb hby d1_37) rfl (feq H4).2 (by decide) (by decide) ?_
    show Steps p.tables e below (s₁.setTop (mkF m 44 #[.val (.int p279)] [])) _
    refine XS.iloadN X0.here hx rfl (hb hby d1_44) rfl ?_
    show Steps p.tables e below (s₁.setTop (mkF m 45 #[.val (.int p279)] [(.int p279)])) _
    refine XS.iconst X0.here hx rfl (hb hby d1_45) ?_
    show Steps p.tables e below (s₁.setTop (mkF m 46 #[.val (.int p279)] [(.int (5 : Int32)), (.int p279)])) _
    refine XS.icmpYes X0.here hx rfl (pc0 := 46) (pc' := 53) rfl (hb hby d1_46) rfl (feq H5).2 (by decide) (by decide) ?_
    show Steps p.tables e below (s₁.setTop (mkF m 53 #[.val (.int p279)] [])) _
    refine XS.iloadN X0.here hx rfl (hb hby d1_53) rfl ?_
    show Steps p.tables e below (s₁.setTop (mkF m 54 #[.val (.int p279)] [(.int p279)])) _
    refine XS.bipush X0.here hx rfl (hb hby d1_54) ?_
    show Steps p.tables e below (s₁.setTop (mkF m 56 #[.val (.int p279)] [(.int (6 : Int32)), (.int p279)])) _
    refine XS.icmpYes X0.here hx rfl (pc0 := 56) (pc' := 63) rfl (hb hby d1_56) rfl (feq H6).2 (by decide) (by decide) ?_
    show Steps p.tables e below (s₁.setTop (mkF m 63 #[.val (.int p279)] [])) _
    refine XS.iloadN X0.here hx rfl (hb hby d1_63) rfl ?_
    show Steps p.tables e below (s₁.setTop (mkF m 64 #[.val (.int p279)] [(.int p279)])) _
    refine XS.bipush X0.here hx rfl (hb hby d1_64) ?_
    show Steps p.tables e below (s₁.setTop (mkF m 66 #[.val (.int p279)] [(.int (7 : Int32)), (.int p279)])) _
    refine XS.icmpYes X0.here hx rfl (pc0 := 66) (pc' := 73) rfl (hb hby d1_66) rfl (feq H7).2 (by decide) (by decide) ?_
    show Steps p.tables e below (s₁.setTop (mkF m 73 #[.val (.int p279)] [])) _
    refine XS.iloadN X0.here hx rfl (hb hby d1_73) rfl ?_
    show Steps p.tables e below (s₁.setTop (mkF m 74 #[.val (.int p279)] [(.int p279)])) _
    refine XS.bipush X0.here hx rfl (hb hby d1_74) ?_
    show Steps p.tables e below (s₁.setTop (mkF m 76 #[.val (.int p279)] [(.int (8 : Int32)), (.int p279)])) _
    refine XS.icmpYes X0.here hx rfl (pc0 := 76) (pc' := 83) rfl (hb hby d1_76) rfl (feq H8).2 (by decide) (by decide) ?_
    show Steps p.tables e below (s₁.setTop (mkF m 83 #[.val (.int p279)] [])) _
    refine XS.iloadN X0.here hx rfl (hb hby d1_83) rfl ?_
    show Steps p.tables e below (s₁.setTop (mkF m 84 #[.val (.int p279)] [(.int p279)])) _
    refine XS.bipush X0.here hx rfl (hb hby d1_84) ?_
    show Steps p.tables e below (s₁.setTop (mkF m 86 #[.val (.int p279)] [(.int (9 : Int32)), (.int p279)])) _
    refine XS.icmpYes X0.here hx rfl (pc0 := 86) (pc' := 93) rfl (hb hby d1_86) rfl (feq H9).2 (by decide) (by decide) ?_
    show Steps p.tables e below (s₁.setTop (mkF m 93 #[.val (.int p279)] [])) _
    refine XS.iloadN X0.here hx rfl (hb hby d1_93) rfl ?_
    show Steps p.tables e below (s₁.setTop (mkF m 94 #[.val (.int p279)] [(.int p279)])) _
    refine XS.bipush X0.here hx rfl (hb hby d1_94) ?_
    show Steps p.tables e below (s₁.setTop (mkF m 96 #[.val (.int p279)] [(.int (10 : Int32)), (.int p279)])) _
    refine XS.icmpYes X0.here hx rfl (pc0 := 96) (pc' := 103) rfl (hb hby d1_96) rfl (feq H10).2 (by decide) (by decide) ?_
    show Steps p.tables e below (s₁.setTop (mkF m 103 #[.val (.int p279)] [])) _
    refine XS.iloadN X0.here hx rfl (hb hby d1_103) rfl ?_
    show Steps p.tables e below (s₁.setTop (mkF m 104 #[.val (.int p279)] [(.int p279)])) _
    refine XS.bipush X0.here hx rfl (hb hby d1_104) ?_
    show Steps p.tables e below (s₁.setTop (mkF m 106 #[.val (.int p279)] [(.int (11 : Int32)), (.int p279)])) _
    refine XS.icmpYes X0.here hx rfl (pc0 := 106) (pc' := 113) rfl (hb hby d1_106) rfl (feq H11).2 (by decide) (by decide) ?_
    show Steps p.tables e below (s₁.setTop (mkF m 113 #[.val (.int p279)] [])) _
    refine XS.iloadN X0.here hx rfl (hb hby d1_113) rfl ?_
    show Steps p.tables e below (s₁.setTop (mkF m 114 #[.val (.int p279)] [(.int p279)])) _
    refine XS.bipush X0.here hx rfl (hb hby d1_114) ?_
    show Steps p.tables e below (s₁.setTop (mkF m 116 #[.val (.int p279)] [(.int (12 : Int32)), (.int p279)])) _
    refine XS.icmpYes X0.here hx rfl (pc0 := 116) (pc' := 123) rfl (hb hby d1_116) rfl (feq H12).2 (by decide) (by decide) ?_
    show Steps p.tables e below (s₁.setTop (mkF m 123 #[.val (.int p279)] [])) _
    refine XS.iloadN X0.here hx rfl (hb hby d1_123) rfl ?_
    show Steps p.tables e below (s₁.setTop (mkF m 124 #[.val (.int p279)] [(.int p279)])) _
    refine XS.bipush X0.here hx rfl (hb hby d1_124) ?_
    show Steps p.tables e below (s₁.setTop (mkF m 126 #[.val (.int p279)] [(.int (13 : Int32)), (.int p279)])) _
    refine XS.icmpYes X0.here hx rfl (pc0 := 126) (pc' := 133) rfl (hb hby d1_126) rfl (feq H13).2 (by decide) (by decide) ?_
    show Steps p.tables e below (s₁.setTop (mkF m 133 #[.val (.int p279)] [])) _
    refine XS.iloadN X0.here hx rfl (hb hby d1_133) rfl ?_
    show Steps p.tables e below (s₁.setTop (mkF m 134 #[.val (.int p279)] [(.int p279)])) _
    refine XS.bipush X0.here hx rfl (hb hby d1_134) ?_
    show Steps p.tables e below (s₁.setTop (mkF m 136 #[.val (.int p279)] [(.int (14 : Int32)), (.int p279)])) _
    refine XS.icmpYes X0.here hx rfl (pc0 := 136) (pc' := 143) rfl (hb hby d1_136) rfl (feq H14).2 (by decide) (by decide) ?_
    show Steps p.tables e below (s₁.setTop (mkF m 143 #[.val (.int p279)] [])) _
    refine XS.iloadN X0.here hx rfl (hb hby d1_143) rfl ?_
    show Steps p.tables e below (s₁.setTop (mkF m 144 #[.val (.int p279)] [(.int p279)])) _
    refine XS.bipush X0.here hx rfl (hb hby d1_144) ?_
    show Steps p.tables e below (s₁.setTop (mkF m 146 #[.val (.int p279)] [(.int (15 : Int32)), (.int p279)])) _
    refine XS.icmpYes X0.here hx rfl (pc0 := 146) (pc' := 153) rfl (hb hby d1_146) rfl (feq H15).2 (by decide) (by decide) ?_
    show Steps p.tables e below (s₁.setTop (mkF m 153 #[.val (.int p279)] [])) _
    refine XS.iloadN X0.here hx rfl (hb hby d1_153) rfl ?_
    show Steps p.tables e below (s₁.setTop (mkF m 154 #[.val (.int p279)] [(.int p279)])) _
    refine XS.bipush X0.here hx rfl (hb hby d1_154) ?_
    show Steps p.tables e below (s₁.setTop (mkF m 156 #[.val (.int p279)] [(.int (16 : Int32)), (.int p279)])) _
    refine XS.icmpYes X0.here hx rfl (pc0 := 156) (pc' := 163) rfl (hb hby d1_156) rfl (feq H16).2 (by decide) (by decide) ?_
    show Steps p.tables e below (s₁.setTop (mkF m 163 #[.val (.int p279)] [])) _
    refine st281 _ ?_
    show Steps p.tables e below (T281.setTop (mkF m 166 #[.val (.int p279)] [(.ref w280)])) _
    jvm_step X281.here [X281.here.top, hx, (hb hby d1_166), X281.method', Bd.returns, Value.isRef, FieldType.isReference]
    first | (intro acts; rw [hr _ acts rfl rfl rfl]) | rw [hr _ _ rfl rfl rfl]
    exact Steps.refl _
  · show OQp (some (.ref w280)) h0 n0 _ T281.heap _
    rw [e281]
    exact ⟨rfl, N0, rfl⟩
set_option maxRecDepth 65536 in
set_option maxHeartbeats 40000000 in
theorem r0_18 (l : Launch) (Z : State) (a0 : Array Value) (hw : ∀ d ∈ tables_1, d.before a0 Z = true) (p278 : Int32) (w283 : Addr) (w290 : Addr) (w291 : Addr) (h0 : Heap) (n0 : Nat) (Z0 : n0 ≤ h0.size) (H0 : ¬ (((p278 &&& (2147483647 : Int32)) % (18 : Int32)) = (0 : Int32))) (H1 : ¬ (((p278 &&& (2147483647 : Int32)) % (18 : Int32)) = (1 : Int32))) (H2 : ¬ (((p278 &&& (2147483647 : Int32)) % (18 : Int32)) = (2 : Int32))) (H3 : ¬ (((p278 &&& (2147483647 : Int32)) % (18 : Int32)) = (3 : Int32))) (H4 : ¬ (((p278 &&& (2147483647 : Int32)) % (18 : Int32)) = (4 : Int32))) (H5 : ¬ (((p278 &&& (2147483647 : Int32)) % (18 : Int32)) = (5 : Int32))) (H6 : ¬ (((p278 &&& (2147483647 : Int32)) % (18 : Int32)) = (6 : Int32))) (H7 : ¬ (((p278 &&& (2147483647 : Int32)) % (18 : Int32)) = (7 : Int32))) (H8 : ¬ (((p278 &&& (2147483647 : Int32)) % (18 : Int32)) = (8 : Int32))) (H9 : ¬ (((p278 &&& (2147483647 : Int32)) % (18 : Int32)) = (9 : Int32))) (H10 : ¬ (((p278 &&& (2147483647 : Int32)) % (18 : Int32)) = (10 : Int32))) (H11 : ¬ (((p278 &&& (2147483647 : Int32)) % (18 : Int32)) = (11 : Int32))) (H12 : ¬ (((p278 &&& (2147483647 : Int32)) % (18 : Int32)) = (12 : Int32))) (H13 : ¬ (((p278 &&& (2147483647 : Int32)) % (18 : Int32)) = (13 : Int32))) (H14 : ¬ (((p278 &&& (2147483647 : Int32)) % (18 : Int32)) = (14 : Int32))) (H15 : ¬ (((p278 &&& (2147483647 : Int32)) % (18 : Int32)) = (15 : Int32))) (H16 : ¬ (((p278 &&& (2147483647 : Int32)) % (18 : Int32)) = (16 : Int32))) (H17 : Sta Z h0 "com/example/grepo/grepo/internal/query/Operator" "NOT_LIKE" "Lcom/example/grepo/grepo/internal/query/Operator;" (.ref w283)) (H18 : Sta Z h0 "com/example/grepo/grepo/internal/query/Operator" "IN" "Lcom/example/grepo/grepo/internal/query/Operator;" (.ref w290)) (H19 : w283 ≠ w290) (H20 : Sta Z h0 "com/example/grepo/grepo/internal/query/Operator" "NOT_IN" "Lcom/example/grepo/grepo/internal/query/Operator;" (.ref w291)) (H21 : w283 ≠ w291) (H22 : Exa Z h0 w283 "com/example/grepo/grepo/internal/query/Operator") :
    OMet l Z x code maxLocals ret tables_1 room_1 h0 #[(.int p278)] (OQl (some (.int (1 : Int32))) n0) := by
  refine MetFree.of_bodySF (plainFor_of_name pn_com_example_grepo_grepo_internal_query_OperatorTakesCollectionPinLaw) hisR ?_
  intro p e s m args below meth c s₁ Bd hml0 hP hK
  obtain ⟨rfl, hZ, hh⟩ := hP
  have hx := Bd.exec
  have hby := Bd.bytes
  have hml : c.maxLocals = 4 := hml0
  have hown : s.vm.findClass "com/example/grepo/grepo/internal/query/OperatorTakesCollectionPinLaw" = some m.cls := findClass_of_methodNamed Bd.named
  have hnm := (name_of_methodNamed Bd.named Bd.method).1
  have X0 : Stand p l e room_1 s m #[(.int p278)] below meth c s₁ [] 0 0 := Stand.of_body Bd
  have e0 : s₁.heap = h0 := by rw [← hh, Bd.state]; rfl
  have N0 := Fr.nil n0
  have pre0 : ∀ t, Steps p.tables e below (s₁.setTop (mkF m 0 #[.val (.int p278), .unset, .unset, .unset] [])) t → Steps p.tables e below (s₁.setTop (entryFrame m #[(.int p278)] maxLocals)) t := fun t k => castTop (ef_0_v m p278) k
  obtain ⟨_, _, ⟨T282, L282, k282, n282⟩, -, X282, ⟨Lc282, hQ282, l282, y282, z282⟩, st282⟩ := Jvm.LawKit.callS X0 hx (y := (⟨"com/example/grepo/grepo/internal/query/OperatorTakesCollectionPinLaw", "pick", "(I)Lcom/example/grepo/grepo/internal/query/Operator;"⟩ : MethodName)) hown (mvT hZ (hw _ (List.mem_of_getElem? (i := 1) rfl))) (mvT hZ (hw _ (List.mem_of_getElem? (i := 2) rfl))) (mvT hZ (hw _ (List.mem_of_getElem? (i := 3) rfl))) (mvT hZ (hw _ (List.mem_of_getElem? (i := 4) rfl))) (by decide) (backOf (W := 0) (r1_18 l Z a0 hw ((p278 &&& (2147483647 : Int32)) % (18 : Int32)) w283 h0 n0 Z0 H0 H1 H2 H3 H4 H5 H6 H7 H8 H9 H10 H11 H12 H13 H14 H15 H16 H17) hZ (hw _ (List.mem_of_getElem? (i := 4) rfl)) (hw _ (List.mem_of_getElem? (i := 3) rfl)) (by decide) (by decide)) (g := (mkF m 9 #[.val (.int p278), .val (.int ((p278 &&& (2147483647 : Int32)) % (18 : Int32))), .unset, .unset] [(.int ((p278 &&& (2147483647 : Int32)) % (18 : Int32)))])) rfl (by rw [hml]; rfl) (argsL := [(.int ((p278 &&& (2147483647 : Int32)) % (18 : Int32)))]) (rest := []) (lenOf pd_0 rfl) rfl (by show 2 * 0 + _ ≤ _; exact Nat.le_of_eq rfl) (hb hby at_9) (fun _ _ => ⟨rfl, e0, (by decide : 0 + 0 ≤ _), (by decide : 0 + 0 ≤ _)⟩)
  dsimp only [Pt.U, Pt.locs, Pt.cells, Pt.slots] at X282 l282 y282 z282 st282 hQ282
  subst l282 y282 z282
  obtain ⟨rfl, N282q, e282⟩ := hQ282
  have N282 := Fr.app N0 N282q
  obtain ⟨cq289, kq289, q289a, q289b, q289c⟩ := isOf hZ e282 H22
  obtain ⟨_, _, ⟨T289, L289, k289, n289⟩, -, X289, ⟨Lc289, hQ289, l289, y289, z289⟩, st289⟩ := X282.virtualBack hx (y := (⟨"com/example/grepo/grepo/internal/query/Operator", "takesCollection", "()Z"⟩ : MethodName)) (z := (⟨"com/example/grepo/grepo/internal/query/Operator", "takesCollection", "()Z"⟩ : MethodName)) hown (mvT hZ (hw _ (List.mem_of_getElem? (i := 8) rfl))) (mvT hZ (hw _ (List.mem_of_getElem? (i := 9) rfl))) (notFace_of_selects (args := #[]) (mvT hZ (hw _ (List.mem_of_getElem? (i := 11) rfl)))) (mvT hZ (hw _ (List.mem_of_getElem? (i := 11) rfl))) (mvT hZ (hw _ (List.mem_of_getElem? (i := 10) rfl))) (by decide) (backOf (W := 0) (r2_1 l Z a0 hw w283 w290 w291 h0 n0 Z0 H18 H19 H20 H21) hZ (hw _ (List.mem_of_getElem? (i := 12) rfl)) (hw _ (List.mem_of_getElem? (i := 6) rfl)) (by decide) (by decide)) q289a q289c (g := (mkF m 14 #[.val (.int p278), .val (.int ((p278 &&& (2147483647 : Int32)) % (18 : Int32))), .val (.ref w283), .unset] [(.ref w283)])) rfl (by rw [hml]; rfl) (Steps.refl _) (argsL := []) (rest := []) (lenOf pd_1 rfl) rfl (by show 2 * 0 + _ ≤ _; exact Nat.le_of_eq rfl) (hb hby at_14) (fun _ _ => ⟨rfl, e282, (by decide : 0 + 0 ≤ _), (by decide : 0 + 0 ≤ _)⟩)
  dsimp only [Pt.U, Pt.locs, Pt.cells, Pt.slots] at X289 l289 y289 z289 st289 hQ289
  subst l289 y289 z289
  obtain ⟨rfl, N289q, e289⟩ := hQ289
  have N289 := Fr.app N282 N289q
  obtain ⟨_, _, ⟨T293, L293, k293, n293⟩, -, X293, ⟨Lc293, hQ293, l293, y293, z293⟩, st293⟩ := Jvm.LawKit.callS X289 hx (y := (⟨"com/example/grepo/grepo/internal/query/OperatorTakesCollectionPinLaw", "expected", "(I)Z"⟩ : MethodName)) hown (mvT hZ (hw _ (List.mem_of_getElem? (i := 17) rfl))) (mvT hZ (hw _ (List.mem_of_getElem? (i := 18) rfl))) (mvT hZ (hw _ (List.mem_of_getElem? (i := 3) rfl))) (mvT hZ (hw _ (List.mem_of_getElem? (i := 19) rfl))) (by decide) (backOf (W := 1) (r3_1 l Z a0 hw ((p278 &&& (2147483647 : Int32)) % (18 : Int32)) h0 n0 Z0 H9 H10) hZ (hw _ (List.mem_of_getElem? (i := 19) rfl)) (hw _ (List.mem_of_getElem? (i := 3) rfl)) (by decide) (by decide)) (g := (mkF m 20 #[.val (.int p278), .val (.int ((p278 &&& (2147483647 : Int32)) % (18 : Int32))), .val (.ref w283), .val (.int (0 : Int32))] [(.int ((p278 &&& (2147483647 : Int32)) % (18 : Int32))), (.int (0 : Int32))])) rfl (by rw [hml]; rfl) (argsL := [(.int ((p278 &&& (2147483647 : Int32)) % (18 : Int32)))]) (rest := [(.int (0 : Int32))]) (lenOf pd_2 rfl) rfl (by show 2 * 0 + _ ≤ _; exact Nat.le_of_eq rfl) (hb hby at_20) (fun _ _ => ⟨rfl, e289, (by decide : 0 + 0 ≤ _), (by decide : 0 + 0 ≤ _)⟩)
  dsimp only [Pt.U, Pt.locs, Pt.cells, Pt.slots] at X293 l293 y293 z293 st293 hQ293
  subst l293 y293 z293
  obtain ⟨rfl, N293q, e293⟩ := hQ293
  have N293 := Fr.app N289 N293q
  obtain ⟨fs, hr, hrun, hended, hW, hsame⟩ := X293.leave (v := some (.int (1 : Int32))) (fun h => by rw [Bd.returns] at h; cases h)
  refine ⟨_, _, pre0 _ ?_, hrun, hended, _, _, rfl, ?_, ⟨_, rfl⟩, hW, hsame.mono (by decide) (by decide)⟩
  · show Steps p.tables e below (s₁.setTop (mkF m 0 #[.val (.int p278), .unset, .unset, .unset] [])) _
    refine XS.iloadN X0.here hx rfl (hb hby at_0) rfl ?_
    show Steps p.tables e below (s₁.setTop (mkF m 1 #[.val (.int p278), .unset, .unset, .unset] [(.int p278)])) _
    refine X0.ldcInt hx hown (mvT hZ (hw _ (List.mem_of_getElem? (i := 0) rfl))) (g := (mkF m 1 #[.val (.int p278), .unset, .unset, .unset] [(.int p278)])) rfl (hb hby at_1) _ ?_
    show Steps p.tables e below (s₁.setTop (mkF m 3 #[.val (.int p278), .unset, .unset, .unset] [(.int (2147483647 : Int32)), (.int p278)])) _
    refine XS.iand X0.here hx rfl (hb hby at_3) rfl ?_
    show Steps p.tables e below (s₁.setTop (mkF m 4 #[.val (.int p278), .unset, .unset, .unset] [(.int (p278 &&& (2147483647 : Int32)))])) _
    refine XS.bipush X0.here hx rfl (hb hby at_4) ?_
    show Steps p.tables e below (s₁.setTop (mkF m 6 #[.val (.int p278), .unset, .unset, .unset] [(.int (18 : Int32)), (.int (p278 &&& (2147483647 : Int32)))])) _
    refine iremM X0 hx rfl (hb hby at_6) rfl (by decide) ?_
    show Steps p.tables e below (s₁.setTop (mkF m 7 #[.val (.int p278), .unset, .unset, .unset] [(.int ((p278 &&& (2147483647 : Int32)) % (18 : Int32)))])) _
    refine XS.istoreN X0.here hx rfl (hb hby at_7) rfl (l' := #[.val (.int p278), .val (.int ((p278 &&& (2147483647 : Int32)) % (18 : Int32))), .unset, .unset]) rfl ?_
    show Steps p.tables e below (s₁.setTop (mkF m 8 #[.val (.int p278), .val (.int ((p278 &&& (2147483647 : Int32)) % (18 : Int32))), .unset, .unset] [])) _
    refine XS.iloadN X0.here hx rfl (hb hby at_8) rfl ?_
    show Steps p.tables e below (s₁.setTop (mkF m 9 #[.val (.int p278), .val (.int ((p278 &&& (2147483647 : Int32)) % (18 : Int32))), .unset, .unset] [(.int ((p278 &&& (2147483647 : Int32)) % (18 : Int32)))])) _
    refine st282 _ ?_
    show Steps p.tables e below (T282.setTop (mkF m 12 #[.val (.int p278), .val (.int ((p278 &&& (2147483647 : Int32)) % (18 : Int32))), .unset, .unset] [(.ref w283)])) _
    refine XS.astoreN X282.here hx rfl (hb hby at_12) rfl rfl (l' := #[.val (.int p278), .val (.int ((p278 &&& (2147483647 : Int32)) % (18 : Int32))), .val (.ref w283), .unset]) rfl ?_
    show Steps p.tables e below (T282.setTop (mkF m 13 #[.val (.int p278), .val (.int ((p278 &&& (2147483647 : Int32)) % (18 : Int32))), .val (.ref w283), .unset] [])) _
    refine XS.aloadN X282.here hx rfl (hb hby at_13) rfl rfl ?_
    show Steps p.tables e below (T282.setTop (mkF m 14 #[.val (.int p278), .val (.int ((p278 &&& (2147483647 : Int32)) % (18 : Int32))), .val (.ref w283), .unset] [(.ref w283)])) _
    refine st289.trans ?_
    show Steps p.tables e below (T289.setTop (mkF m 17 #[.val (.int p278), .val (.int ((p278 &&& (2147483647 : Int32)) % (18 : Int32))), .val (.ref w283), .unset] [(.int (0 : Int32))])) _
    refine XS.istoreN X289.here hx rfl (hb hby at_17) rfl (l' := #[.val (.int p278), .val (.int ((p278 &&& (2147483647 : Int32)) % (18 : Int32))), .val (.ref w283), .val (.int (0 : Int32))]) rfl ?_
    show Steps p.tables e below (T289.setTop (mkF m 18 #[.val (.int p278), .val (.int ((p278 &&& (2147483647 : Int32)) % (18 : Int32))), .val (.ref w283), .val (.int (0 : Int32))] [])) _
    refine XS.iloadN X289.here hx rfl (hb hby at_18) rfl ?_
    show Steps p.tables e below (T289.setTop (mkF m 19 #[.val (.int p278), .val (.int ((p278 &&& (2147483647 : Int32)) % (18 : Int32))), .val (.ref w283), .val (.int (0 : Int32))] [(.int (0 : Int32))])) _
    refine XS.iloadN X289.here hx rfl (hb hby at_19) rfl ?_
    show Steps p.tables e below (T289.setTop (mkF m 20 #[.val (.int p278), .val (.int ((p278 &&& (2147483647 : Int32)) % (18 : Int32))), .val (.ref w283), .val (.int (0 : Int32))] [(.int ((p278 &&& (2147483647 : Int32)) % (18 : Int32))), (.int (0 : Int32))])) _
    refine st293 _ ?_
    show Steps p.tables e below (T293.setTop (mkF m 23 #[.val (.int p278), .val (.int ((p278 &&& (2147483647 : Int32)) % (18 : Int32))), .val (.ref w283), .val (.int (0 : Int32))] [(.int (0 : Int32)), (.int (0 : Int32))])) _
    refine XS.icmpYes X293.here hx rfl (pc0 := 23) (pc' := 28) rfl (hb hby at_23) rfl (teq (rfl : (0 : Int32) = (0 : Int32))).1 (by decide) (by decide) ?_
    show Steps p.tables e below (T293.setTop (mkF m 28 #[.val (.int p278), .val (.int ((p278 &&& (2147483647 : Int32)) % (18 : Int32))), .val (.ref w283), .val (.int (0 : Int32))] [])) _
    refine XS.iloadN X293.here hx rfl (hb hby at_28) rfl ?_
    show Steps p.tables e below (T293.setTop (mkF m 29 #[.val (.int p278), .val (.int ((p278 &&& (2147483647 : Int32)) % (18 : Int32))), .val (.ref w283), .val (.int (0 : Int32))] [(.int (0 : Int32))])) _
    refine XS.ifYes X293.here hx rfl (pc0 := 29) (pc' := 42) rfl (hb hby at_29) rfl ((if0 _ _).trans (teq (rfl : (0 : Int32) = (0 : Int32))).1) (by decide) (by decide) ?_
    show Steps p.tables e below (T293.setTop (mkF m 42 #[.val (.int p278), .val (.int ((p278 &&& (2147483647 : Int32)) % (18 : Int32))), .val (.ref w283), .val (.int (0 : Int32))] [])) _
    refine XS.iconst X293.here hx rfl (hb hby at_42) ?_
    show Steps p.tables e below (T293.setTop (mkF m 43 #[.val (.int p278), .val (.int ((p278 &&& (2147483647 : Int32)) % (18 : Int32))), .val (.ref w283), .val (.int (0 : Int32))] [(.int (1 : Int32))])) _
    exact retN X293 hx (t := .boolean) Bd.returns (by simp) (hb hby at_43) hr
  · show OQl (some (.int (1 : Int32))) n0 _ T293.heap _
    exact ⟨rfl, N293⟩
set_option maxRecDepth 65536 in
set_option maxHeartbeats 40000000 in
theorem comes_1 {Post : Tables → Env → Array Value → State → Outcome → State → Prop} (hpost : ∀ tb e args s v u, (limb_1_1.after args s (.returned v) u = true ∧ limb_1_2.after args s (.returned v) u = true ∧ True) → FrameEnd s (.returned v) u (Jvm.fieldLocs frame_1_writes args s ++ Jvm.arrayLocs frame_1_arrays args s ++ Jvm.staticLocs frame_1_statics s) 0 0 → Post tb e args s (.returned v) u) :
    ArmFor flags0 classFile x code maxLocals ret World_1 tables_1 room_1 Calls_1 rest_1 Pre_1 Post := by
  intro l hfl _ _ p e ha hc hk s m args below hf hA hF happ hP
  obtain ⟨hcalls, hrest, hpre⟩ := hP
  obtain ⟨-, -, -, hnamed, -, -, -, hat⟩ := (Spec.applies_iff hf).mp happ
  obtain ⟨hg, hn⟩ := and_e (Cond.before_iff.mp (show (Jvm.Cond.and given_1 narrow_1).before args s = true from hpre))
  obtain ⟨gg0, gr0⟩ := and_e hg
  obtain ⟨w0, rfl⟩ : ∃ w0 : Value, args = #[w0] := by
    have hs : args.size = 1 := by simpa [Cond.value, given_1] using gg0
    obtain ⟨L⟩ := args
    match L, hs with
    | [w0], _ => exact ⟨w0, rfl⟩
  have hw := fun d (hd : d ∈ tables_1) => atoms_spec (ws := Jvm.Cond.code x code maxLocals ret :: tables_1) hat d (List.mem_cons_of_mem _ hd)
  have hfit : Fit s := fun {y c} hc i hi => by
    obtain ⟨ha, rfl⟩ := Array.getElem?_eq_some_iff.mp hc
    have q := List.all_eq_true.mp ((Array.all_eq_true_iff_forall_mem.mp hF) _ (Array.getElem_mem ha)) i (List.mem_range.mpr hi)
    simpa [Array.getElem?_eq_getElem hi] using q
  obtain ⟨i0, ei0⟩ := is_v gr0
  obtain rfl : w0 = (.int i0) := Option.some.inj ei0
  obtain ⟨hn1, hn2⟩ := and_e hn
  obtain ⟨hn3, hn4⟩ := and_e hn2
  obtain ⟨hn5, hn6⟩ := and_e hn4
  obtain ⟨hn7, hn8⟩ := and_e hn6
  obtain ⟨hn9, hn10⟩ := and_e hn8
  obtain ⟨hn11, hn12⟩ := and_e hn10
  obtain ⟨hn13, hn14⟩ := and_e hn12
  obtain ⟨hn15, hn16⟩ := and_e hn14
  obtain ⟨hn17, hn18⟩ := and_e hn16
  obtain ⟨hn19, hn20⟩ := and_e hn18
  obtain ⟨hn21, hn22⟩ := and_e hn20
  obtain ⟨hn23, hn24⟩ := and_e hn22
  obtain ⟨hn25, hn26⟩ := and_e hn24
  obtain ⟨hn27, hn28⟩ := and_e hn26
  obtain ⟨hn29, hn30⟩ := and_e hn28
  obtain ⟨hn31, hn32⟩ := and_e hn30
  obtain ⟨hn33, hn34⟩ := and_e hn32
  obtain ⟨hn35, hn36⟩ := and_e hn34
  obtain ⟨hn37, hn38⟩ := and_e hn36
  obtain ⟨hn39, hn40⟩ := and_e hn38
  obtain ⟨hn41, hn42⟩ := and_e hn40
  obtain ⟨hn43, hn44⟩ := and_e hn42
  obtain ⟨hn45, hn46⟩ := and_e hn44
  obtain ⟨hn47, hn48⟩ := and_e hn46
  obtain ⟨hn49, hn50⟩ := and_e hn48
  obtain ⟨hn51, hn52⟩ := and_e hn50
  obtain ⟨hn53, hn54⟩ := and_e hn52
  obtain ⟨hn55, hn56⟩ := and_e hn54
  obtain ⟨hn57, hn58⟩ := and_e hn56
  obtain ⟨hn59, hn60⟩ := and_e hn58
  obtain ⟨hn61, hn62⟩ := and_e hn60
  obtain ⟨hn63, hn64⟩ := and_e hn62
  obtain ⟨hn65, hn66⟩ := and_e hn64
  obtain ⟨hn67, hn68⟩ := and_e hn66
  obtain ⟨hn69, hn70⟩ := and_e hn68
  obtain ⟨hn71, hn72⟩ := and_e hn70
  obtain ⟨hn73, hn74⟩ := and_e hn72
  obtain ⟨hn75, hn76⟩ := and_e hn74
  obtain ⟨hn77, hn78⟩ := and_e hn76
  obtain ⟨hn79, hn80⟩ := and_e hn78
  obtain ⟨hn81, hn82⟩ := and_e hn80
  obtain ⟨hn83, hn84⟩ := and_e hn82
  obtain ⟨hn85, hn86⟩ := and_e hn84
  obtain ⟨hn87, hn88⟩ := and_e hn86
  obtain ⟨hn89, hn90⟩ := and_e hn88
  obtain ⟨hn91, hn92⟩ := and_e hn90
  obtain ⟨hn93, hn94⟩ := and_e hn92
  obtain ⟨hn95, hn96⟩ := and_e hn94
  obtain ⟨hn97, hn98⟩ := and_e hn96
  obtain ⟨hn99, hn100⟩ := and_e hn98
  obtain ⟨hn101, hn102⟩ := and_e hn100
  obtain ⟨hn103, hn104⟩ := and_e hn102
  obtain ⟨hn105, hn106⟩ := and_e hn104
  obtain ⟨w_c107, ev_c107⟩ := exa_v hn1
  have E_c107 := Exa.start ev_c107 hn1
  have S_c107 := Sta.start ev_c107 (Or.inr ⟨(hw _ (List.mem_of_getElem? (i := 6) rfl)), (hw _ (List.mem_of_getElem? (i := 7) rfl))⟩)
  obtain ⟨w_c108, ev_c108⟩ := exa_v hn3
  have E_c108 := Exa.start ev_c108 hn3
  have S_c108 := Sta.start ev_c108 (Or.inr ⟨(hw _ (List.mem_of_getElem? (i := 6) rfl)), (hw _ (List.mem_of_getElem? (i := 14) rfl))⟩)
  have F109 := own_fi ev_c107 hn5
  have F110 := own_fi ev_c108 hn7
  obtain ⟨w_c111, ev_c111⟩ := exa_v hn9
  have E_c111 := Exa.start ev_c111 hn9
  have S_c111 := Sta.start ev_c111 (Or.inr ⟨(hw _ (List.mem_of_getElem? (i := 6) rfl)), (hw _ (List.mem_of_getElem? (i := 16) rfl))⟩)
  have F112 := own_fi ev_c111 hn11
  obtain ⟨w_c113, ev_c113⟩ := exa_v hn13
  have E_c113 := Exa.start ev_c113 hn13
  have S_c113 := Sta.start ev_c113 (Or.inr ⟨(hw _ (List.mem_of_getElem? (i := 6) rfl)), (hw _ (List.mem_of_getElem? (i := 21) rfl))⟩)
  have F114 := own_fi ev_c113 hn15
  obtain ⟨w_c115, ev_c115⟩ := exa_v hn17
  have E_c115 := Exa.start ev_c115 hn17
  have S_c115 := Sta.start ev_c115 (Or.inr ⟨(hw _ (List.mem_of_getElem? (i := 6) rfl)), (hw _ (List.mem_of_getElem? (i := 23) rfl))⟩)
  have F116 := own_fi ev_c115 hn19
  obtain ⟨w_c117, ev_c117⟩ := exa_v hn21
  have E_c117 := Exa.start ev_c117 hn21
  have S_c117 := Sta.start ev_c117 (Or.inr ⟨(hw _ (List.mem_of_getElem? (i := 6) rfl)), (hw _ (List.mem_of_getElem? (i := 25) rfl))⟩)
  have F118 := own_fi ev_c117 hn23
  obtain ⟨w_c119, ev_c119⟩ := exa_v hn25
  have E_c119 := Exa.start ev_c119 hn25
  have S_c119 := Sta.start ev_c119 (Or.inr ⟨(hw _ (List.mem_of_getElem? (i := 6) rfl)), (hw _ (List.mem_of_getElem? (i := 27) rfl))⟩)
  have F120 := own_fi ev_c119 hn27
  obtain ⟨w_c121, ev_c121⟩ := exa_v hn29
  have E_c121 := Exa.start ev_c121 hn29
  have S_c121 := Sta.start ev_c121 (Or.inr ⟨(hw _ (List.mem_of_getElem? (i := 6) rfl)), (hw _ (List.mem_of_getElem? (i := 29) rfl))⟩)
  have F122 := own_fi ev_c121 hn31
  obtain ⟨w_c123, ev_c123⟩ := exa_v hn33
  have E_c123 := Exa.start ev_c123 hn33
  have S_c123 := Sta.start ev_c123 (Or.inr ⟨(hw _ (List.mem_of_getElem? (i := 6) rfl)), (hw _ (List.mem_of_getElem? (i := 31) rfl))⟩)
  have F124 := own_fi ev_c123 hn35
  obtain ⟨w_c125, ev_c125⟩ := exa_v hn37
  have E_c125 := Exa.start ev_c125 hn37
  have S_c125 := Sta.start ev_c125 (Or.inr ⟨(hw _ (List.mem_of_getElem? (i := 6) rfl)), (hw _ (List.mem_of_getElem? (i := 33) rfl))⟩)
  have F126 := own_fi ev_c125 hn39
  obtain ⟨w_c127, ev_c127⟩ := exa_v hn41
  have E_c127 := Exa.start ev_c127 hn41
  have S_c127 := Sta.start ev_c127 (Or.inr ⟨(hw _ (List.mem_of_getElem? (i := 6) rfl)), (hw _ (List.mem_of_getElem? (i := 35) rfl))⟩)
  have F128 := own_fi ev_c127 hn43
  obtain ⟨w_c129, ev_c129⟩ := exa_v hn45
  have E_c129 := Exa.start ev_c129 hn45
  have S_c129 := Sta.start ev_c129 (Or.inr ⟨(hw _ (List.mem_of_getElem? (i := 6) rfl)), (hw _ (List.mem_of_getElem? (i := 37) rfl))⟩)
  have F130 := own_fi ev_c129 hn47
  obtain ⟨w_c131, ev_c131⟩ := exa_v hn49
  have E_c131 := Exa.start ev_c131 hn49
  have S_c131 := Sta.start ev_c131 (Or.inr ⟨(hw _ (List.mem_of_getElem? (i := 6) rfl)), (hw _ (List.mem_of_getElem? (i := 39) rfl))⟩)
  have F132 := own_fi ev_c131 hn51
  have F133 := own_fi ev_c111 hn53
  obtain ⟨w_c134, ev_c134⟩ := exa_v hn55
  have E_c134 := Exa.start ev_c134 hn55
  have S_c134 := Sta.start ev_c134 (Or.inr ⟨(hw _ (List.mem_of_getElem? (i := 6) rfl)), (hw _ (List.mem_of_getElem? (i := 49) rfl))⟩)
  have F135 := own_fi ev_c134 hn57
  obtain ⟨w_c136, ev_c136⟩ := exa_v hn59
  have E_c136 := Exa.start ev_c136 hn59
  have S_c136 := Sta.start ev_c136 (Or.inr ⟨(hw _ (List.mem_of_getElem? (i := 6) rfl)), (hw _ (List.mem_of_getElem? (i := 51) rfl))⟩)
  have F137 := own_fi ev_c136 hn61
  obtain ⟨w_c138, ev_c138⟩ := exa_v hn63
  have E_c138 := Exa.start ev_c138 hn63
  have S_c138 := Sta.start ev_c138 (Or.inr ⟨(hw _ (List.mem_of_getElem? (i := 6) rfl)), (hw _ (List.mem_of_getElem? (i := 53) rfl))⟩)
  have F139 := own_fi ev_c138 hn65
  obtain ⟨w_c140, ev_c140⟩ := exa_v hn67
  have E_c140 := Exa.start ev_c140 hn67
  have S_c140 := Sta.start ev_c140 (Or.inr ⟨(hw _ (List.mem_of_getElem? (i := 6) rfl)), (hw _ (List.mem_of_getElem? (i := 55) rfl))⟩)
  have F141 := own_fi ev_c140 hn69
  obtain ⟨w_c142, ev_c142⟩ := exa_v hn71
  have E_c142 := Exa.start ev_c142 hn71
  have S_c142 := Sta.start ev_c142 (Or.inr ⟨(hw _ (List.mem_of_getElem? (i := 6) rfl)), (hw _ (List.mem_of_getElem? (i := 57) rfl))⟩)
  have F143 := own_fi ev_c142 hn73
  have F144 := own_fi ev_c108 hn75
  have F145 := own_fi ev_c107 hn77
  have F146 := own_fi ev_c113 hn79
  have F147 := own_fi ev_c115 hn81
  have F148 := own_fi ev_c117 hn83
  have F149 := own_fi ev_c119 hn85
  have F150 := own_fi ev_c121 hn87
  have F151 := own_fi ev_c123 hn89
  have F152 := own_fi ev_c125 hn91
  have F153 := own_fi ev_c127 hn93
  have F154 := own_fi ev_c129 hn95
  have F155 := own_fi ev_c131 hn97
  have F156 := own_fi ev_c134 hn99
  have F157 := own_fi ev_c136 hn101
  have F158 := own_fi ev_c138 hn103
  have F159 := own_fi ev_c140 hn105
  have F160 := own_fi ev_c142 hn106
  suffices M : OMet l s x code maxLocals ret tables_1 room_1 s.heap #[(.int i0)] (OQl (some (.int (1 : Int32))) s.heap.size) by
    obtain ⟨n, o, h1, h2, h3, _, L, rfl, ⟨rfl, N⟩, hq⟩ := M p e ha hc hk s m _ below hf ((Spec.applies_iff_loose hf).mp happ).1 ⟨rfl, State.Warmed39.refl s, rfl⟩ trivial
    exact ⟨n, _, h1, h2, h3, hpost _ _ _ _ _ _ ⟨Cond.after_iff.mpr rfl, Cond.after_iff.mpr (eq_i res_at (Term.int_eval (1)) rfl), trivial⟩ ⟨hq.1, hq.2.1, (hq.2.2.sift fun y hy => Or.inr (N y hy)).mono (by decide) (by decide)⟩⟩
  have hm_hq : ((i0 &&& (2147483647 : Int32)) % (18 : Int32)) = (0 : Int32) ∨ ((i0 &&& (2147483647 : Int32)) % (18 : Int32)) = (1 : Int32) ∨ ((i0 &&& (2147483647 : Int32)) % (18 : Int32)) = (2 : Int32) ∨ ((i0 &&& (2147483647 : Int32)) % (18 : Int32)) = (3 : Int32) ∨ ((i0 &&& (2147483647 : Int32)) % (18 : Int32)) = (4 : Int32) ∨ ((i0 &&& (2147483647 : Int32)) % (18 : Int32)) = (5 : Int32) ∨ ((i0 &&& (2147483647 : Int32)) % (18 : Int32)) = (6 : Int32) ∨ ((i0 &&& (2147483647 : Int32)) % (18 : Int32)) = (7 : Int32) ∨ ((i0 &&& (2147483647 : Int32)) % (18 : Int32)) = (8 : Int32) ∨ ((i0 &&& (2147483647 : Int32)) % (18 : Int32)) = (9 : Int32) ∨ ((i0 &&& (2147483647 : Int32)) % (18 : Int32)) = (10 : Int32) ∨ ((i0 &&& (2147483647 : Int32)) % (18 : Int32)) = (11 : Int32) ∨ ((i0 &&& (2147483647 : Int32)) % (18 : Int32)) = (12 : Int32) ∨ ((i0 &&& (2147483647 : Int32)) % (18 : Int32)) = (13 : Int32) ∨ ((i0 &&& (2147483647 : Int32)) % (18 : Int32)) = (14 : Int32) ∨ ((i0 &&& (2147483647 : Int32)) % (18 : Int32)) = (15 : Int32) ∨ ((i0 &&& (2147483647 : Int32)) % (18 : Int32)) = (16 : Int32) ∨ ((i0 &&& (2147483647 : Int32)) % (18 : Int32)) = (17 : Int32) := by
    obtain ⟨q1, q2⟩ := own_mod i0 (18 : Int32) (by decide)
    have q3 : (18 : Int32).toInt = 18 := by decide
    rw [q3] at q2
    generalize ((i0 &&& (2147483647 : Int32)) % (18 : Int32)) = z at q1 q2 ⊢
    have q4 : z.toInt = 0 ∨ z.toInt = 1 ∨ z.toInt = 2 ∨ z.toInt = 3 ∨ z.toInt = 4 ∨ z.toInt = 5 ∨ z.toInt = 6 ∨ z.toInt = 7 ∨ z.toInt = 8 ∨ z.toInt = 9 ∨ z.toInt = 10 ∨ z.toInt = 11 ∨ z.toInt = 12 ∨ z.toInt = 13 ∨ z.toInt = 14 ∨ z.toInt = 15 ∨ z.toInt = 16 ∨ z.toInt = 17 := by omega
    rcases q4 with q | q | q | q | q | q | q | q | q | q | q | q | q | q | q | q | q | q <;> simp [← Int32.toInt_inj, q]
  rcases hm_hq with hq | hq | hq | hq | hq | hq | hq | hq | hq | hq | hq | hq | hq | hq | hq | hq | hq | hq
  · exact r0_1 l s _ hw i0 w_c107 w_c108 w_c111 s.heap s.heap.size (Nat.le_refl _) (by rw [hq] <;> decide) S_c107 S_c108 (Fld.ne F109 F110 (by decide)) S_c111 (Fld.ne F109 F112 (by decide)) E_c107 (by rw [hq] <;> decide) (by rw [hq] <;> decide)
  · exact r0_2 l s _ hw i0 w_c117 w_c108 w_c111 s.heap s.heap.size (Nat.le_refl _) (by rw [hq] <;> decide) (by rw [hq] <;> decide) S_c117 S_c108 (Fld.ne F118 F110 (by decide)) S_c111 (Fld.ne F118 F112 (by decide)) E_c117 (by rw [hq] <;> decide) (by rw [hq] <;> decide)
  · exact r0_3 l s _ hw i0 w_c115 w_c108 w_c111 s.heap s.heap.size (Nat.le_refl _) (by rw [hq] <;> decide) (by rw [hq] <;> decide) (by rw [hq] <;> decide) S_c115 S_c108 (Fld.ne F116 F110 (by decide)) S_c111 (Fld.ne F116 F112 (by decide)) E_c115 (by rw [hq] <;> decide) (by rw [hq] <;> decide)
  · exact r0_4 l s _ hw i0 w_c113 w_c108 w_c111 s.heap s.heap.size (Nat.le_refl _) (by rw [hq] <;> decide) (by rw [hq] <;> decide) (by rw [hq] <;> decide) (by rw [hq] <;> decide) S_c113 S_c108 (Fld.ne F114 F110 (by decide)) S_c111 (Fld.ne F114 F112 (by decide)) E_c113 (by rw [hq] <;> decide) (by rw [hq] <;> decide)
  · exact r0_5 l s _ hw i0 w_c123 w_c108 w_c111 s.heap s.heap.size (Nat.le_refl _) (by rw [hq] <;> decide) (by rw [hq] <;> decide) (by rw [hq] <;> decide) (by rw [hq] <;> decide) (by rw [hq] <;> decide) S_c123 S_c108 (Fld.ne F124 F110 (by decide)) S_c111 (Fld.ne F124 F112 (by decide)) E_c123 (by rw [hq] <;> decide) (by rw [hq] <;> decide)
  · exact r0_6 l s _ hw i0 w_c142 w_c108 w_c111 s.heap s.heap.size (Nat.le_refl _) (by rw [hq] <;> decide) (by rw [hq] <;> decide) (by rw [hq] <;> decide) (by rw [hq] <;> decide) (by rw [hq] <;> decide) (by rw [hq] <;> decide) S_c142 S_c108 (Fld.ne F143 F110 (by decide)) S_c111 (Fld.ne F143 F112 (by decide)) E_c142 (by rw [hq] <;> decide) (by rw [hq] <;> decide)
  · exact r0_7 l s _ hw i0 w_c136 w_c108 w_c111 s.heap s.heap.size (Nat.le_refl _) (by rw [hq] <;> decide) (by rw [hq] <;> decide) (by rw [hq] <;> decide) (by rw [hq] <;> decide) (by rw [hq] <;> decide) (by rw [hq] <;> decide) (by rw [hq] <;> decide) S_c136 S_c108 (Fld.ne F137 F110 (by decide)) S_c111 (Fld.ne F137 F112 (by decide)) E_c136 (by rw [hq] <;> decide) (by rw [hq] <;> decide)
  · exact r0_8 l s _ hw i0 w_c119 w_c108 w_c111 s.heap s.heap.size (Nat.le_refl _) (by rw [hq] <;> decide) (by rw [hq] <;> decide) (by rw [hq] <;> decide) (by rw [hq] <;> decide) (by rw [hq] <;> decide) (by rw [hq] <;> decide) (by rw [hq] <;> decide) (by rw [hq] <;> decide) S_c119 S_c108 (Fld.ne F120 F110 (by decide)) S_c111 (Fld.ne F120 F112 (by decide)) E_c119 (by rw [hq] <;> decide) (by rw [hq] <;> decide)
  · exact r0_9 l s _ hw i0 w_c125 w_c108 w_c111 s.heap s.heap.size (Nat.le_refl _) (by rw [hq] <;> decide) (by rw [hq] <;> decide) (by rw [hq] <;> decide) (by rw [hq] <;> decide) (by rw [hq] <;> decide) (by rw [hq] <;> decide) (by rw [hq] <;> decide) (by rw [hq] <;> decide) (by rw [hq] <;> decide) S_c125 S_c108 (Fld.ne F126 F110 (by decide)) S_c111 (Fld.ne F126 F112 (by decide)) E_c125 (by rw [hq] <;> decide) (by rw [hq] <;> decide)
  · exact r0_10 l s _ hw i0 w_c108 (1 : Int32) s.heap s.heap.size (Nat.le_refl _) (by rw [hq] <;> decide) (by rw [hq] <;> decide) (by rw [hq] <;> decide) (by rw [hq] <;> decide) (by rw [hq] <;> decide) (by rw [hq] <;> decide) (by rw [hq] <;> decide) (by rw [hq] <;> decide) (by rw [hq] <;> decide) (by rw [hq] <;> decide) S_c108 E_c108 F144 rfl
  · exact r0_11 l s _ hw i0 w_c111 w_c108 (1 : Int32) s.heap s.heap.size (Nat.le_refl _) (by rw [hq] <;> decide) (by rw [hq] <;> decide) (by rw [hq] <;> decide) (by rw [hq] <;> decide) (by rw [hq] <;> decide) (by rw [hq] <;> decide) (by rw [hq] <;> decide) (by rw [hq] <;> decide) (by rw [hq] <;> decide) (by rw [hq] <;> decide) (by rw [hq] <;> decide) S_c111 S_c108 (Fld.ne F112 F110 (by decide)) E_c111 F133 rfl
  · exact r0_12 l s _ hw i0 w_c121 w_c108 w_c111 s.heap s.heap.size (Nat.le_refl _) (by rw [hq] <;> decide) (by rw [hq] <;> decide) (by rw [hq] <;> decide) (by rw [hq] <;> decide) (by rw [hq] <;> decide) (by rw [hq] <;> decide) (by rw [hq] <;> decide) (by rw [hq] <;> decide) (by rw [hq] <;> decide) (by rw [hq] <;> decide) (by rw [hq] <;> decide) (by rw [hq] <;> decide) S_c121 S_c108 (Fld.ne F122 F110 (by decide)) S_c111 (Fld.ne F122 F112 (by decide)) E_c121
  · exact r0_13 l s _ hw i0 w_c127 w_c108 w_c111 s.heap s.heap.size (Nat.le_refl _) (by rw [hq] <;> decide) (by rw [hq] <;> decide) (by rw [hq] <;> decide) (by rw [hq] <;> decide) (by rw [hq] <;> decide) (by rw [hq] <;> decide) (by rw [hq] <;> decide) (by rw [hq] <;> decide) (by rw [hq] <;> decide) (by rw [hq] <;> decide) (by rw [hq] <;> decide) (by rw [hq] <;> decide) (by rw [hq] <;> decide) S_c127 S_c108 (Fld.ne F128 F110 (by decide)) S_c111 (Fld.ne F128 F112 (by decide)) E_c127
  · exact r0_14 l s _ hw i0 w_c134 w_c108 w_c111 s.heap s.heap.size (Nat.le_refl _) (by rw [hq] <;> decide) (by rw [hq] <;> decide) (by rw [hq] <;> decide) (by rw [hq] <;> decide) (by rw [hq] <;> decide) (by rw [hq] <;> decide) (by rw [hq] <;> decide) (by rw [hq] <;> decide) (by rw [hq] <;> decide) (by rw [hq] <;> decide) (by rw [hq] <;> decide) (by rw [hq] <;> decide) (by rw [hq] <;> decide) (by rw [hq] <;> decide) S_c134 S_c108 (Fld.ne F135 F110 (by decide)) S_c111 (Fld.ne F135 F112 (by decide)) E_c134
  · exact r0_15 l s _ hw i0 w_c140 w_c108 w_c111 s.heap s.heap.size (Nat.le_refl _) (by rw [hq] <;> decide) (by rw [hq] <;> decide) (by rw [hq] <;> decide) (by rw [hq] <;> decide) (by rw [hq] <;> decide) (by rw [hq] <;> decide) (by rw [hq] <;> decide) (by rw [hq] <;> decide) (by rw [hq] <;> decide) (by rw [hq] <;> decide) (by rw [hq] <;> decide) (by rw [hq] <;> decide) (by rw [hq] <;> decide) (by rw [hq] <;> decide) (by rw [hq] <;> decide) S_c140 S_c108 (Fld.ne F141 F110 (by decide)) S_c111 (Fld.ne F141 F112 (by decide)) E_c140
  · exact r0_16 l s _ hw i0 w_c131 w_c108 w_c111 s.heap s.heap.size (Nat.le_refl _) (by rw [hq] <;> decide) (by rw [hq] <;> decide) (by rw [hq] <;> decide) (by rw [hq] <;> decide) (by rw [hq] <;> decide) (by rw [hq] <;> decide) (by rw [hq] <;> decide) (by rw [hq] <;> decide) (by rw [hq] <;> decide) (by rw [hq] <;> decide) (by rw [hq] <;> decide) (by rw [hq] <;> decide) (by rw [hq] <;> decide) (by rw [hq] <;> decide) (by rw [hq] <;> decide) (by rw [hq] <;> decide) S_c131 S_c108 (Fld.ne F132 F110 (by decide)) S_c111 (Fld.ne F132 F112 (by decide)) E_c131
  · exact r0_17 l s _ hw i0 w_c129 w_c108 w_c111 s.heap s.heap.size (Nat.le_refl _) (by rw [hq] <;> decide) (by rw [hq] <;> decide) (by rw [hq] <;> decide) (by rw [hq] <;> decide) (by rw [hq] <;> decide) (by rw [hq] <;> decide) (by rw [hq] <;> decide) (by rw [hq] <;> decide) (by rw [hq] <;> decide) (by rw [hq] <;> decide) (by rw [hq] <;> decide) (by rw [hq] <;> decide) (by rw [hq] <;> decide) (by rw [hq] <;> decide) (by rw [hq] <;> decide) (by rw [hq] <;> decide) (by rw [hq] <;> decide) S_c129 S_c108 (Fld.ne F130 F110 (by decide)) S_c111 (Fld.ne F130 F112 (by decide)) E_c129
  · exact r0_18 l s _ hw i0 w_c138 w_c108 w_c111 s.heap s.heap.size (Nat.le_refl _) (by rw [hq] <;> decide) (by rw [hq] <;> decide) (by rw [hq] <;> decide) (by rw [hq] <;> decide) (by rw [hq] <;> decide) (by rw [hq] <;> decide) (by rw [hq] <;> decide) (by rw [hq] <;> decide) (by rw [hq] <;> decide) (by rw [hq] <;> decide) (by rw [hq] <;> decide) (by rw [hq] <;> decide) (by rw [hq] <;> decide) (by rw [hq] <;> decide) (by rw [hq] <;> decide) (by rw [hq] <;> decide) (by rw [hq] <;> decide) S_c138 S_c108 (Fld.ne F139 F110 (by decide)) S_c111 (Fld.ne F139 F112 (by decide)) E_c138
theorem main_1_1 : Claimed_1_1 := comes_1 fun _ _ _ _ _ _ h hF => ⟨h.1, hF⟩
theorem main_1_2 : Claimed_1_2 := comes_1 fun _ _ _ _ _ _ h hF => ⟨h.2.1, hF⟩
end Jvm.Pilot.@@N@@
namespace Jvm.Pilot.@@N@@
open Jvm Jvm.ClassFile Sem Op Lib Jvm.Free Jvm.Stand Jvm.Pilot.@@N@@.Jvm.D
/-! MADE BY PROGRAM (witnessworld.py) out of the Statement's table words and the real class files: 12 classes; the members and pool entries that the words name. The judged class is class 1, her method 3. -/
namespace start1
open Jvm.ClassFile
def u (s : String) : CpInfo := .utf8 (stringToUtf16 s)
/-- a pool by its gaps: so many unusable entries, then the entry; so many at the end -/
def gap : Nat → List CpInfo → List CpInfo
  | 0, r => r
  | n + 1, r => .unusable :: gap n r
def poolList (es : List (Nat × CpInfo)) (last : Nat) : List CpInfo := es.foldr (fun e r => gap e.1 (e.2 :: r)) (gap last [])
def pool (es : List (Nat × CpInfo)) (last : Nat) : Array CpInfo := ⟨poolList es last⟩
def fileOf (pool : Array CpInfo) (this : Nat) (attrs : Array Attribute := #[]) (ms : Array MethodInfo := #[]) (fl : Nat := 33) (sup : Nat := 0) (ifs : Array Nat := #[]) (fds : Array FieldInfo := #[]) : ClassFile where
  minorVersion := 0
  majorVersion := 65
  constantPool := pool
  accessFlags := fl
  thisClass := this
  superClass := sup
  interfaces := ifs
  fields := fds
  methods := ms
  attributes := attrs
def plain (name : String) (sup : Option ClassId) : Class where
  name := name
  kind := .ordinary
  loader := none
  accessFlags := 33
  super := sup
  interfaces := #[]
  cf := none
  fields := #[]
  methods := #[]
  instanceTypes := #[]
  staticTypes := #[]
  resolved := #[]
  callSites := []
  init := .initialized
  statics := none
  mirror := none

def pool0 : Array CpInfo := pool [(5, u "<init>"), (0, u "()V"), (1, .class_ 10), (1, u "java/lang/Object")] 113

def k0m0 : Method := { name := "<init>", desc := "()V", sig := { parameters := [], returnType := none }, accessFlags := 1, code := none }
/-- java/lang/Object -/
def k0 : Class := { plain "java/lang/Object" none with
  accessFlags := 33
  interfaces := #[]
  cf := some (fileOf pool0 8 #[] #[{ accessFlags := 1, nameIndex := 5, descriptorIndex := 6, attributes := #[] }] 33 0 #[] #[])
  fields := #[]
  methods := #[k0m0]
  instanceTypes := #[]
  staticTypes := #[]
  resolved := Array.replicate 124 none
  statics := none }

def pool1 : Array CpInfo := pool [(2, .class_ 4), (1, u "java/lang/Object"), (0, u "<init>"), (0, u "()V"), (0, .fieldref 8 9), (0, .class_ 10), (0, .nameAndType 11 12), (0, u "com/example/grepo/grepo/internal/query/Operator"), (0, u "EQUAL"), (0, u "Lcom/example/grepo/grepo/internal/query/Operator;"), (0, .fieldref 8 14), (0, .nameAndType 15 12), (0, u "NOT_EQUAL"), (0, .fieldref 8 17), (0, .nameAndType 18 12), (0, u "LESS_THAN"), (0, .fieldref 8 20), (0, .nameAndType 21 12), (0, u "LESS_THAN_EQUAL"), (0, .fieldref 8 23), (0, .nameAndType 24 12), (0, u "GREATER_THAN"), (0, .fieldref 8 26), (0, .nameAndType 27 12), (0, u "GREATER_THAN_EQUAL"), (0, .fieldref 8 29), (0, .nameAndType 30 12), (0, u "BETWEEN"), (0, .fieldref 8 32), (0, .nameAndType 33 12), (0, u "IS_NULL"), (0, .fieldref 8 35), (0, .nameAndType 36 12), (0, u "IS_NOT_NULL"), (0, .fieldref 8 38), (0, .nameAndType 39 12), (0, u "IN"), (0, .fieldref 8 41), (0, .nameAndType 42 12), (0, u "NOT_IN"), (0, .fieldref 8 44), (0, .nameAndType 45 12), (0, u "TRUE"), (0, .fieldref 8 47), (0, .nameAndType 48 12), (0, u "FALSE"), (0, .fieldref 8 50), (0, .nameAndType 51 12), (0, u "CONTAINING"), (0, .fieldref 8 53), (0, .nameAndType 54 12), (0, u "STARTING_WITH"), (0, .fieldref 8 56), (0, .nameAndType 57 12), (0, u "ENDING_WITH"), (0, .fieldref 8 59), (0, .nameAndType 60 12), (0, u "LIKE"), (0, .fieldref 8 62), (0, .nameAndType 63 12), (0, u "NOT_LIKE"), (0, .integer 2147483647), (0, .methodref 66 67), (0, .class_ 68), (0, .nameAndType 69 70), (0, u "com/example/grepo/grepo/internal/query/OperatorTakesCollectionPinLaw"), (0, u "pick"), (0, u "(I)Lcom/example/grepo/grepo/internal/query/Operator;"), (0, .methodref 8 72), (0, .nameAndType 73 74), (0, u "takesCollection"), (0, u "()Z"), (0, .methodref 66 76), (0, .nameAndType 77 78), (0, u "expected"), (0, u "(I)Z"), (0, .methodref 8 80), (0, .nameAndType 81 82), (0, u "arity"), (0, u "()I"), (3, u "law")] 2

def k1m0 : Method := { name := "<init>", desc := "()V", sig := { parameters := [], returnType := none }, accessFlags := 1, code := none }
def k1c1 : Code := { maxStack := 2, maxLocals := 1, code := method_2_code, exceptionTable := #[], attributes := #[] }
def k1m1 : Method := { name := "pick", desc := "(I)Lcom/example/grepo/grepo/internal/query/Operator;", sig := { parameters := [.int], returnType := some (.object "com/example/grepo/grepo/internal/query/Operator") }, accessFlags := 10, code := some k1c1 }
def k1c2 : Code := { maxStack := 2, maxLocals := 1, code := method_3_code, exceptionTable := #[], attributes := #[] }
def k1m2 : Method := { name := "expected", desc := "(I)Z", sig := { parameters := [.int], returnType := some .boolean }, accessFlags := 10, code := some k1c2 }
def k1c3 : Code := { maxStack := 2, maxLocals := 4, code := code, exceptionTable := #[], attributes := #[] }
def k1m3 : Method := { name := "law", desc := "(I)Z", sig := { parameters := [.int], returnType := some .boolean }, accessFlags := 9, code := some k1c3 }
/-- com/example/grepo/grepo/internal/query/OperatorTakesCollectionPinLaw -/
def k1 : Class := { plain "com/example/grepo/grepo/internal/query/OperatorTakesCollectionPinLaw" (some 0) with
  accessFlags := 49
  interfaces := #[]
  cf := some (fileOf pool1 66 #[] #[{ accessFlags := 1, nameIndex := 5, descriptorIndex := 6, attributes := #[] }, { accessFlags := 10, nameIndex := 69, descriptorIndex := 70, attributes := #[] }, { accessFlags := 10, nameIndex := 77, descriptorIndex := 78, attributes := #[] }, { accessFlags := 9, nameIndex := 86, descriptorIndex := 78, attributes := #[] }] 49 2 #[] #[])
  fields := #[]
  methods := #[k1m0, k1m1, k1m2, k1m3]
  instanceTypes := #[]
  staticTypes := #[]
  resolved := Array.replicate 89 none
  statics := none }

def pool2 : Array CpInfo := pool [(1, .class_ 2), (0, u "java/lang/constant/Constable"), (0, .class_ 4), (0, u "java/lang/Object")] 6

/-- java/lang/constant/Constable -/
def k2 : Class := { plain "java/lang/constant/Constable" (some 0) with
  accessFlags := 1537
  interfaces := #[]
  cf := some (fileOf pool2 1 #[] #[] 1537 3 #[] #[])
  fields := #[]
  methods := #[]
  instanceTypes := #[]
  staticTypes := #[]
  resolved := Array.replicate 11 none
  statics := none }

def pool3 : Array CpInfo := pool [(1, .class_ 2), (0, u "java/lang/Comparable"), (0, .class_ 4), (0, u "java/lang/Object")] 7

/-- java/lang/Comparable -/
def k3 : Class := { plain "java/lang/Comparable" (some 0) with
  accessFlags := 1537
  interfaces := #[]
  cf := some (fileOf pool3 1 #[] #[] 1537 3 #[] #[])
  fields := #[]
  methods := #[]
  instanceTypes := #[]
  staticTypes := #[]
  resolved := Array.replicate 12 none
  statics := none }

def pool4 : Array CpInfo := pool [(1, .class_ 2), (0, u "java/io/Serializable"), (0, .class_ 4), (0, u "java/lang/Object")] 2

/-- java/io/Serializable -/
def k4 : Class := { plain "java/io/Serializable" (some 0) with
  accessFlags := 1537
  interfaces := #[]
  cf := some (fileOf pool4 1 #[] #[] 1537 3 #[] #[])
  fields := #[]
  methods := #[]
  instanceTypes := #[]
  staticTypes := #[]
  resolved := Array.replicate 7 none
  statics := none }

def pool5 : Array CpInfo := pool [(2, .class_ 4), (1, u "java/lang/Enum"), (0, u "name"), (0, u "Ljava/lang/String;"), (2, u "ordinal"), (0, u "I"), (1, .class_ 14), (1, u "java/lang/Object"), (4, u "hash"), (86, .class_ 108), (1, u "java/lang/Enum$EnumDesc"), (2, .class_ 112), (0, u "java/lang/constant/Constable"), (0, .class_ 114), (0, u "java/lang/Comparable"), (0, .class_ 116), (0, u "java/io/Serializable")] 87

/-- java/lang/Enum -/
def k5 : Class := { plain "java/lang/Enum" (some 0) with
  accessFlags := 1057
  interfaces := #[2, 3, 4]
  cf := some (fileOf pool5 2 #[.nestMembers #[106]] #[] 1057 12 #[111, 113, 115] #[{ accessFlags := 18, nameIndex := 5, descriptorIndex := 6, attributes := #[] }, { accessFlags := 18, nameIndex := 9, descriptorIndex := 10, attributes := #[] }, { accessFlags := 2, nameIndex := 19, descriptorIndex := 10, attributes := #[] }])
  fields := #[{ name := "name", type := (.object "java/lang/String"), accessFlags := 18, slot := 0, constantValue := 0 }, { name := "ordinal", type := .int, accessFlags := 18, slot := 1, constantValue := 0 }, { name := "hash", type := .int, accessFlags := 2, slot := 2, constantValue := 0 }]
  methods := #[]
  instanceTypes := #[(.object "java/lang/String"), .int, .int]
  staticTypes := #[]
  resolved := Array.replicate 204 none
  statics := none }

def pool6 : Array CpInfo := pool [(1, .class_ 2), (0, u "com/example/grepo/grepo/internal/query/Operator"), (2, u "EQUAL"), (0, u "Lcom/example/grepo/grepo/internal/query/Operator;"), (2, u "NOT_EQUAL"), (2, u "LESS_THAN"), (2, u "LESS_THAN_EQUAL"), (2, u "GREATER_THAN"), (2, u "GREATER_THAN_EQUAL"), (2, u "BETWEEN"), (2, u "IS_NULL"), (2, u "IS_NOT_NULL"), (0, .fieldref 1 32), (0, .nameAndType 33 6), (0, u "IN"), (0, .fieldref 1 35), (0, .nameAndType 36 6), (0, u "NOT_IN"), (2, u "TRUE"), (2, u "FALSE"), (2, u "CONTAINING"), (2, u "STARTING_WITH"), (2, u "ENDING_WITH"), (2, u "LIKE"), (2, u "NOT_LIKE"), (2, u "$VALUES"), (0, u "[Lcom/example/grepo/grepo/internal/query/Operator;"), (6, .class_ 70), (1, u "java/lang/Enum"), (9, .fieldref 1 81), (0, .nameAndType 82 83), (0, u "arity"), (0, u "I"), (2, u "propertyType"), (0, u "Ljava/lang/Class;"), (8, u "keywords"), (0, u "Ljava/util/List;"), (9, u "()I"), (151, u "IS"), (0, u "Ljava/lang/String;"), (1, u "NOT"), (10, u "takesCollection"), (0, u "()Z")] 41

def k6c0 : Code := { maxStack := 1, maxLocals := 1, code := prog_25_method_5_code, exceptionTable := #[], attributes := #[] }
def k6m0 : Method := { name := "arity", desc := "()I", sig := { parameters := [], returnType := some .int }, accessFlags := 1, code := some k6c0 }
def k6c1 : Code := { maxStack := 2, maxLocals := 1, code := prog_25_method_6_code, exceptionTable := #[], attributes := #[] }
def k6m1 : Method := { name := "takesCollection", desc := "()Z", sig := { parameters := [], returnType := some .boolean }, accessFlags := 1, code := some k6c1 }
/-- com/example/grepo/grepo/internal/query/Operator -/
def k6 : Class := { plain "com/example/grepo/grepo/internal/query/Operator" (some 5) with
  accessFlags := 16433
  interfaces := #[]
  cf := some (fileOf pool6 1 #[] #[{ accessFlags := 1, nameIndex := 82, descriptorIndex := 107, attributes := #[] }, { accessFlags := 1, nameIndex := 273, descriptorIndex := 274, attributes := #[] }] 16433 68 #[] #[{ accessFlags := 16409, nameIndex := 5, descriptorIndex := 6, attributes := #[] }, { accessFlags := 16409, nameIndex := 9, descriptorIndex := 6, attributes := #[] }, { accessFlags := 16409, nameIndex := 12, descriptorIndex := 6, attributes := #[] }, { accessFlags := 16409, nameIndex := 15, descriptorIndex := 6, attributes := #[] }, { accessFlags := 16409, nameIndex := 18, descriptorIndex := 6, attributes := #[] }, { accessFlags := 16409, nameIndex := 21, descriptorIndex := 6, attributes := #[] }, { accessFlags := 16409, nameIndex := 24, descriptorIndex := 6, attributes := #[] }, { accessFlags := 16409, nameIndex := 27, descriptorIndex := 6, attributes := #[] }, { accessFlags := 16409, nameIndex := 30, descriptorIndex := 6, attributes := #[] }, { accessFlags := 16409, nameIndex := 33, descriptorIndex := 6, attributes := #[] }, { accessFlags := 16409, nameIndex := 36, descriptorIndex := 6, attributes := #[] }, { accessFlags := 16409, nameIndex := 39, descriptorIndex := 6, attributes := #[] }, { accessFlags := 16409, nameIndex := 42, descriptorIndex := 6, attributes := #[] }, { accessFlags := 16409, nameIndex := 45, descriptorIndex := 6, attributes := #[] }, { accessFlags := 16409, nameIndex := 48, descriptorIndex := 6, attributes := #[] }, { accessFlags := 16409, nameIndex := 51, descriptorIndex := 6, attributes := #[] }, { accessFlags := 16409, nameIndex := 54, descriptorIndex := 6, attributes := #[] }, { accessFlags := 16409, nameIndex := 57, descriptorIndex := 6, attributes := #[] }, { accessFlags := 26, nameIndex := 259, descriptorIndex := 260, attributes := #[] }, { accessFlags := 26, nameIndex := 262, descriptorIndex := 260, attributes := #[] }, { accessFlags := 18, nameIndex := 82, descriptorIndex := 83, attributes := #[] }, { accessFlags := 18, nameIndex := 86, descriptorIndex := 87, attributes := #[] }, { accessFlags := 18, nameIndex := 96, descriptorIndex := 97, attributes := #[] }, { accessFlags := 4122, nameIndex := 60, descriptorIndex := 61, attributes := #[] }])
  fields := #[{ name := "EQUAL", type := (.object "com/example/grepo/grepo/internal/query/Operator"), accessFlags := 16409, slot := 0, constantValue := 0 }, { name := "NOT_EQUAL", type := (.object "com/example/grepo/grepo/internal/query/Operator"), accessFlags := 16409, slot := 1, constantValue := 0 }, { name := "LESS_THAN", type := (.object "com/example/grepo/grepo/internal/query/Operator"), accessFlags := 16409, slot := 2, constantValue := 0 }, { name := "LESS_THAN_EQUAL", type := (.object "com/example/grepo/grepo/internal/query/Operator"), accessFlags := 16409, slot := 3, constantValue := 0 }, { name := "GREATER_THAN", type := (.object "com/example/grepo/grepo/internal/query/Operator"), accessFlags := 16409, slot := 4, constantValue := 0 }, { name := "GREATER_THAN_EQUAL", type := (.object "com/example/grepo/grepo/internal/query/Operator"), accessFlags := 16409, slot := 5, constantValue := 0 }, { name := "BETWEEN", type := (.object "com/example/grepo/grepo/internal/query/Operator"), accessFlags := 16409, slot := 6, constantValue := 0 }, { name := "IS_NULL", type := (.object "com/example/grepo/grepo/internal/query/Operator"), accessFlags := 16409, slot := 7, constantValue := 0 }, { name := "IS_NOT_NULL", type := (.object "com/example/grepo/grepo/internal/query/Operator"), accessFlags := 16409, slot := 8, constantValue := 0 }, { name := "IN", type := (.object "com/example/grepo/grepo/internal/query/Operator"), accessFlags := 16409, slot := 9, constantValue := 0 }, { name := "NOT_IN", type := (.object "com/example/grepo/grepo/internal/query/Operator"), accessFlags := 16409, slot := 10, constantValue := 0 }, { name := "TRUE", type := (.object "com/example/grepo/grepo/internal/query/Operator"), accessFlags := 16409, slot := 11, constantValue := 0 }, { name := "FALSE", type := (.object "com/example/grepo/grepo/internal/query/Operator"), accessFlags := 16409, slot := 12, constantValue := 0 }, { name := "CONTAINING", type := (.object "com/example/grepo/grepo/internal/query/Operator"), accessFlags := 16409, slot := 13, constantValue := 0 }, { name := "STARTING_WITH", type := (.object "com/example/grepo/grepo/internal/query/Operator"), accessFlags := 16409, slot := 14, constantValue := 0 }, { name := "ENDING_WITH", type := (.object "com/example/grepo/grepo/internal/query/Operator"), accessFlags := 16409, slot := 15, constantValue := 0 }, { name := "LIKE", type := (.object "com/example/grepo/grepo/internal/query/Operator"), accessFlags := 16409, slot := 16, constantValue := 0 }, { name := "NOT_LIKE", type := (.object "com/example/grepo/grepo/internal/query/Operator"), accessFlags := 16409, slot := 17, constantValue := 0 }, { name := "IS", type := (.object "java/lang/String"), accessFlags := 26, slot := 18, constantValue := 0 }, { name := "NOT", type := (.object "java/lang/String"), accessFlags := 26, slot := 19, constantValue := 0 }, { name := "arity", type := .int, accessFlags := 18, slot := 3, constantValue := 0 }, { name := "propertyType", type := (.object "java/lang/Class"), accessFlags := 18, slot := 4, constantValue := 0 }, { name := "keywords", type := (.object "java/util/List"), accessFlags := 18, slot := 5, constantValue := 0 }, { name := "$VALUES", type := (.array (.object "com/example/grepo/grepo/internal/query/Operator")), accessFlags := 4122, slot := 20, constantValue := 0 }]
  methods := #[k6m0, k6m1]
  instanceTypes := #[(.object "java/lang/String"), .int, .int, .int, (.object "java/lang/Class"), (.object "java/util/List")]
  staticTypes := #[(.object "com/example/grepo/grepo/internal/query/Operator"), (.object "com/example/grepo/grepo/internal/query/Operator"), (.object "com/example/grepo/grepo/internal/query/Operator"), (.object "com/example/grepo/grepo/internal/query/Operator"), (.object "com/example/grepo/grepo/internal/query/Operator"), (.object "com/example/grepo/grepo/internal/query/Operator"), (.object "com/example/grepo/grepo/internal/query/Operator"), (.object "com/example/grepo/grepo/internal/query/Operator"), (.object "com/example/grepo/grepo/internal/query/Operator"), (.object "com/example/grepo/grepo/internal/query/Operator"), (.object "com/example/grepo/grepo/internal/query/Operator"), (.object "com/example/grepo/grepo/internal/query/Operator"), (.object "com/example/grepo/grepo/internal/query/Operator"), (.object "com/example/grepo/grepo/internal/query/Operator"), (.object "com/example/grepo/grepo/internal/query/Operator"), (.object "com/example/grepo/grepo/internal/query/Operator"), (.object "com/example/grepo/grepo/internal/query/Operator"), (.object "com/example/grepo/grepo/internal/query/Operator"), (.object "java/lang/String"), (.object "java/lang/String"), (.array (.object "com/example/grepo/grepo/internal/query/Operator"))]
  resolved := Array.replicate 316 none
  statics := some 0 }

def pool7 : Array CpInfo := pool [(1, u "java/lang/Cloneable"), (0, .class_ 1), (0, u "java/lang/Object"), (0, .class_ 3)] 3

/-- java/lang/Cloneable -/
def k7 : Class := { plain "java/lang/Cloneable" (some 0) with
  accessFlags := 1537
  interfaces := #[]
  cf := some (fileOf pool7 2 #[] #[] 1537 4 #[] #[])
  fields := #[]
  methods := #[]
  instanceTypes := #[]
  staticTypes := #[]
  resolved := Array.replicate 8 none
  statics := none }

/-- the primitive byte -/
def k8 : Class := { plain "byte" none with kind := .primitive 'B', accessFlags := 0x411 }
/-- [B -/
def k9 : Class := { plain "[B" (some 0) with kind := .array 8 .byte, interfaces := #[7, 4], accessFlags := 1041 }

/-- the primitive int -/
def k10 : Class := { plain "int" none with kind := .primitive 'I', accessFlags := 0x411 }
/-- [I -/
def k11 : Class := { plain "[I" (some 0) with kind := .array 10 .int, interfaces := #[7, 4], accessFlags := 1041 }

def heap : Heap := #[{ cls := 6, slots := #[.ref 1, .ref 6, .ref 5, .ref 4, .ref 9, .ref 18, .ref 15, .ref 7, .ref 10, .ref 2, .ref 3, .ref 8, .ref 11, .ref 14, .ref 17, .ref 13, .ref 12, .ref 16, .null, .null, .null], vm := .statics 6 },
  { cls := 6, slots := #[.null, .int 0, .int 0, .int 1, .null, .null], vm := .none },
  { cls := 6, slots := #[.null, .int 9, .int 0, .int 1, .null, .null], vm := .none },
  { cls := 6, slots := #[.null, .int 10, .int 0, .int 1, .null, .null], vm := .none },
  { cls := 6, slots := #[.null, .int 3, .int 0, .int 1, .null, .null], vm := .none },
  { cls := 6, slots := #[.null, .int 2, .int 0, .int 1, .null, .null], vm := .none },
  { cls := 6, slots := #[.null, .int 1, .int 0, .int 1, .null, .null], vm := .none },
  { cls := 6, slots := #[.null, .int 7, .int 0, .int 0, .null, .null], vm := .none },
  { cls := 6, slots := #[.null, .int 11, .int 0, .int 0, .null, .null], vm := .none },
  { cls := 6, slots := #[.null, .int 4, .int 0, .int 1, .null, .null], vm := .none },
  { cls := 6, slots := #[.null, .int 8, .int 0, .int 0, .null, .null], vm := .none },
  { cls := 6, slots := #[.null, .int 12, .int 0, .int 0, .null, .null], vm := .none },
  { cls := 6, slots := #[.null, .int 16, .int 0, .int 1, .null, .null], vm := .none },
  { cls := 6, slots := #[.null, .int 15, .int 0, .int 1, .null, .null], vm := .none },
  { cls := 6, slots := #[.null, .int 13, .int 0, .int 1, .null, .null], vm := .none },
  { cls := 6, slots := #[.null, .int 6, .int 0, .int 2, .null, .null], vm := .none },
  { cls := 6, slots := #[.null, .int 17, .int 0, .int 1, .null, .null], vm := .none },
  { cls := 6, slots := #[.null, .int 14, .int 0, .int 1, .null, .null], vm := .none },
  { cls := 6, slots := #[.null, .int 5, .int 0, .int 1, .null, .null], vm := .none }]
def classes : Array Class := #[k0, k1, k2, k3, k4, k5, k6, k7, k8, k9, k10, k11]
def interned : List (Array UInt16 × Addr) := []
def slotsUsed : Nat := 129
def theMethod : MethodId := ⟨1, 3⟩
def args0 : Array Value := #[.int 5]
def aboutOver (below : List Frame) : State where
  vm := { classes := classes, interned := interned.toArray }
  heap := heap
  slotsUsed := slotsUsed
  threads := #[{ frames := .invoking theMethod args0 :: below }]
def below0 : List Frame := [.native { method := ⟨0, 0⟩, args := #[] }]
def about1 : State := aboutOver below0
def p0 : Program := .bare "" "" ""
def e0 : Env := launch0.env 0 0 0
theorem w_frames : about1.frames = Frame.invoking theMethod args0 :: below0 := rfl
set_option maxRecDepth 65536 in
theorem w_args : argsFit about1.vm theMethod args0 = true := by decide +kernel
set_option maxRecDepth 65536 in
theorem w_heap : heapFits about1 = true := by decide +kernel
set_option maxRecDepth 65536 in
theorem w_runnable : about1.curStatus? = some .runnable := by decide +kernel
set_option maxRecDepth 65536 in
theorem w_alone : about1.alone = true := by decide +kernel
set_option maxRecDepth 65536 in
theorem w_named : about1.methodNamed? x = some theMethod := by decide +kernel
set_option maxRecDepth 65536 in
theorem w_hears : about1.hears theMethod below0 = true := by decide +kernel
set_option maxRecDepth 65536 in
theorem w_ripe : about1.ripe theMethod args0 below0 = true := by decide +kernel
theorem w_running : about1.status = .running := rfl
set_option maxRecDepth 65536 in
theorem w_room : about1.hasRoom e0.platform room_1 = true :=
  launch0.hasRoom_least _ room_1 (by decide +kernel) (by decide +kernel) (by decide +kernel) (by decide +kernel) (by decide +kernel) (by decide +kernel)
theorem allAtoms_all (ts : List Jvm.Cond) (a : Array Jvm.Value) (st : Jvm.State) : (allAtoms ts).before a st = ts.all (fun c => c.before a st) := by
  induction ts with
  | nil => rfl
  | cons c t ih =>
    show (Jvm.Cond.and c (allAtoms t)).before a st = _
    rw [Jvm.Cond.before_and, ih, List.all_cons]
def words1 : List Jvm.Cond := Jvm.Cond.code x code maxLocals ret :: tables_1
/-- a 'code' word, met by the world's own term for the bytes: nothing is compared byte by byte -/
theorem code_word {y : MethodName} {bytes : ByteArray} {mx : Nat} {rt : Option FieldType} {a : Array Value} {s : State} {m : MethodId} {meth : Method} {c : Code} (h1 : s.methodNamed? y = some m) (h2 : s.vm.method? m = some meth) (h3 : meth.code = some c) (h4 : c.code = bytes)
    (h5 : (c.maxLocals == mx && c.exceptionTable.isEmpty && decide (c.maxStack ≤ mostOperands) && decide (meth.sig.returnType = rt) && !meth.locks && decide (parseMethodDescriptor y.desc = some meth.sig)) = true) : (Jvm.Cond.code y bytes mx rt).before a s = true := by
  simp only [Bool.and_eq_true, beq_iff_eq, Bool.not_eq_true', decide_eq_true_eq] at h5
  obtain ⟨⟨⟨⟨⟨g1, g2⟩, g3⟩, g4⟩, g5⟩, g6⟩ := h5
  simp [Cond.before, Cond.holds, Cond.value, h1, h2, h3, h4, g1, g2, g3, g4, g5, g6]
def isCode : Jvm.Cond → Bool
  | .code _ _ _ _ => true
  | _ => false
theorem all_split {L : List Jvm.Cond} {P : Jvm.Cond → Bool} (h1 : L.all (fun c => isCode c || P c) = true) (h2 : ∀ c ∈ L.filter isCode, P c = true) : L.all P = true := by
  refine List.all_eq_true.mpr fun c hc => ?_
  have h := List.all_eq_true.mp h1 c hc
  rcases Bool.eq_false_or_eq_true (isCode c) with hi | hi
  · exact h2 c (List.mem_filter.mpr ⟨hc, hi⟩)
  · simpa [hi] using h
set_option maxRecDepth 65536 in
theorem w_c0 : (Jvm.Cond.code x code maxLocals ret).before args0 about1 = true := code_word (m := ⟨1, 3⟩) (meth := k1m3) (c := k1c3) (by decide +kernel) rfl rfl rfl (by decide +kernel)
set_option maxRecDepth 65536 in
theorem w_c1 : (Jvm.Cond.code ({ cls := "com/example/grepo/grepo/internal/query/OperatorTakesCollectionPinLaw", name := "pick", desc := "(I)Lcom/example/grepo/grepo/internal/query/Operator;" } : Jvm.MethodName) method_2_code (1 : Nat) (Option.some (Jvm.ClassFile.FieldType.object "com/example/grepo/grepo/internal/query/Operator"))).before args0 about1 = true := code_word (m := ⟨1, 1⟩) (meth := k1m1) (c := k1c1) (by decide +kernel) rfl rfl rfl (by decide +kernel)
set_option maxRecDepth 65536 in
theorem w_c2 : (Jvm.Cond.code ({ cls := "com/example/grepo/grepo/internal/query/Operator", name := "takesCollection", desc := "()Z" } : Jvm.MethodName) prog_25_method_6_code (1 : Nat) (Option.some Jvm.ClassFile.FieldType.boolean)).before args0 about1 = true := code_word (m := ⟨6, 1⟩) (meth := k6m1) (c := k6c1) (by decide +kernel) rfl rfl rfl (by decide +kernel)
set_option maxRecDepth 65536 in
theorem w_c3 : (Jvm.Cond.code ({ cls := "com/example/grepo/grepo/internal/query/OperatorTakesCollectionPinLaw", name := "expected", desc := "(I)Z" } : Jvm.MethodName) method_3_code (1 : Nat) (Option.some Jvm.ClassFile.FieldType.boolean)).before args0 about1 = true := code_word (m := ⟨1, 2⟩) (meth := k1m2) (c := k1c2) (by decide +kernel) rfl rfl rfl (by decide +kernel)
set_option maxRecDepth 65536 in
theorem w_c4 : (Jvm.Cond.code ({ cls := "com/example/grepo/grepo/internal/query/Operator", name := "arity", desc := "()I" } : Jvm.MethodName) prog_25_method_5_code (1 : Nat) (Option.some Jvm.ClassFile.FieldType.int)).before args0 about1 = true := code_word (m := ⟨6, 0⟩) (meth := k6m0) (c := k6c0) (by decide +kernel) rfl rfl rfl (by decide +kernel)
def codes1 : List Jvm.Cond := [Jvm.Cond.code x code maxLocals ret, Jvm.Cond.code ({ cls := "com/example/grepo/grepo/internal/query/OperatorTakesCollectionPinLaw", name := "pick", desc := "(I)Lcom/example/grepo/grepo/internal/query/Operator;" } : Jvm.MethodName) method_2_code (1 : Nat) (Option.some (Jvm.ClassFile.FieldType.object "com/example/grepo/grepo/internal/query/Operator")), Jvm.Cond.code ({ cls := "com/example/grepo/grepo/internal/query/Operator", name := "takesCollection", desc := "()Z" } : Jvm.MethodName) prog_25_method_6_code (1 : Nat) (Option.some Jvm.ClassFile.FieldType.boolean), Jvm.Cond.code ({ cls := "com/example/grepo/grepo/internal/query/OperatorTakesCollectionPinLaw", name := "expected", desc := "(I)Z" } : Jvm.MethodName) method_3_code (1 : Nat) (Option.some Jvm.ClassFile.FieldType.boolean), Jvm.Cond.code ({ cls := "com/example/grepo/grepo/internal/query/Operator", name := "arity", desc := "()I" } : Jvm.MethodName) prog_25_method_5_code (1 : Nat) (Option.some Jvm.ClassFile.FieldType.int)]
set_option maxRecDepth 65536 in
theorem codes_eq : words1.filter isCode = codes1 := rfl
theorem w_codes : ∀ c ∈ words1.filter isCode, c.before args0 about1 = true := by
  rw [codes_eq]
  intro c hc
  simp only [codes1, List.mem_cons, List.not_mem_nil, or_false] at hc
  rcases hc with rfl | rfl | rfl | rfl | rfl
  · exact w_c0
  · exact w_c1
  · exact w_c2
  · exact w_c3
  · exact w_c4
set_option maxRecDepth 65536 in
theorem w_t1 : (words1.take 24).all (fun c => isCode c || c.before args0 about1) = true := by decide +kernel
set_option maxRecDepth 65536 in
theorem w_t2 : ((words1.drop 24).take 24).all (fun c => isCode c || c.before args0 about1) = true := by decide +kernel
set_option maxRecDepth 65536 in
theorem w_t3 : ((words1.drop 24).drop 24).all (fun c => isCode c || c.before args0 about1) = true := by decide +kernel
theorem w_tables : (allAtoms (Jvm.Cond.code x code maxLocals ret :: tables_1)).before args0 about1 = true := by
  rw [allAtoms_all]
  show words1.all (fun c => c.before args0 about1) = true
  refine all_split ?_ w_codes
  rw [← List.take_append_drop 24 words1, List.all_append, w_t1, ← List.take_append_drop 24 (words1.drop 24), List.all_append, w_t2, w_t3]
  rfl
set_option maxRecDepth 65536 in
theorem w_case : (Jvm.Cond.and given_1 narrow_1).before args0 about1 = true := by decide +kernel
theorem w_applies : (headSpec (Jvm.Cond.code x code maxLocals ret :: tables_1) room_1).applies x e0.platform about1 = true :=
  (Spec.applies_iff w_frames).mpr ⟨w_running, w_runnable, w_alone, w_named, w_hears, w_ripe, w_room, w_tables⟩
theorem atStart : AtStart classFile x code maxLocals ret World_1 tables_1 room_1 Calls_1 rest_1 Pre_1 launch0 p0 e0 about1 theMethod args0 below0 :=
  ⟨lists_1, trivial, launch0.admits_env _ _ _, launch0.least_env, fairChoices_fair.cas, fairChoices_fair.clock, w_frames, w_args, w_heap, w_applies, trivial, trivial, w_case⟩
end start1
theorem witness_1 : WitnessClaimed_1 := ⟨start1.p0, start1.e0, start1.about1, start1.theMethod, start1.args0, start1.below0, start1.atStart⟩
end Jvm.Pilot.@@N@@
