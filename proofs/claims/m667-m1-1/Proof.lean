import JvmDerived
import JvmDerived.Pilot.@@N@@Statement
import JvmDerived.Pilot.@@N@@Code
set_option linter.unusedVariables false
set_option linter.unusedSimpArgs false
namespace Jvm.RoadKit
open Sem ClassFile Op Lib Jvm.Stand Jvm.Free Jvm.LawKit
section New
variable {p : Program} {l : Launch} {e : Env} {R : Room} {s : State} {m : MethodId} {args : Array Value} {below : List Frame} {meth : Method} {c : Code} {T : State} {locs : List Loc} {cells slots : Nat}
theorem retI (X : Stand p l e R s m args below meth c T locs cells slots) (hx : p.tables.exec = Jvm.exec) {pc : Nat} {Ls : Array Slot} {z : Int32} {rest : List Value} (hret : meth.sig.returnType = some .int) (hd : decode c.code pc = .ok (.ireturn, 1)) {fs : List Frame}
    (hl : ∀ (f : JFrame) (acts : List Action), f.method = m → f.locked = none → f.entered = [] → (doReturn e (T.setTop f) acts (some (.int z))).1 = T.setFrames fs) : Steps p.tables e below (T.setTop (mkF m pc Ls (.int z :: rest))) (T.setFrames fs) := by
  have hm' : T.vm.method? m = some meth := X.method'
  have hn : narrow .int (.int z) = .int z := rfl
  show Steps p.tables e below (T.setTop { method := m, pc := pc, locals := Ls, stack := _ :: rest, locked := none }) _
  jvm_step X.here [X.here.top, hx, hd, hm', hret, hn]
  first | (intro acts; rw [hl _ acts rfl rfl rfl]) | rw [hl _ _ rfl rfl rfl]
  exact Steps.refl _
end New
section Own
variable {Z : State} {h0 h h' : Heap} {ws ws' : List (Addr × Nat)} {a : Addr} {sl : Nat} {v : Value} {C n d : String}
/-- own: what a call leaves as it was, by places: every cell is kept in class, kind and size; a place that isn't listed keeps its value -/
def KSx (h h' : Heap) (ws : List (Addr × Nat)) : Prop := h.size ≤ h'.size ∧ ∀ (x : Addr) (c : Cell), h[x]? = some c → ∃ c' : Cell, h'[x]? = some c' ∧ c'.cls = c.cls ∧ c'.vm = c.vm ∧ c'.slots.size = c.slots.size ∧ (∀ j, (∀ p ∈ ws, x ≠ p.1 ∨ j ≠ p.2) → c'.slots[j]? = c.slots[j]?) ∧ ((c.vm.isStatics = true ∨ ∀ p ∈ ws, x ≠ p.1) → c' = c)
theorem ks0 {P : Addr × Nat → Prop} : ∀ p ∈ ([] : List (Addr × Nat)), P p := fun _ q => nomatch q
theorem ksS {P : Addr × Nat → Prop} {y : Addr × Nat} {L : List (Addr × Nat)} (q : P y) (r : ∀ p ∈ L, P p) : ∀ p ∈ y :: L, P p := fun x z => (List.mem_cons.mp z).elim (fun u => u ▸ q) (r x)
theorem KSx.refl (h : Heap) (ws : List (Addr × Nat)) : KSx h h ws := ⟨Nat.le_refl _, fun _ c q => ⟨c, q, rfl, rfl, rfl, fun _ _ => rfl, fun _ => rfl⟩⟩
theorem KSx.ext (K : KSx h0 h ws) (E : Ext h h') : KSx h0 h' ws := ⟨Nat.le_trans K.1 E.1, fun x c q => by obtain ⟨c', q', r⟩ := K.2 x c q; exact ⟨c', E.2 x c' q', r⟩⟩
theorem KSx.trans (K : KSx h0 h ws) (K' : KSx h h' ws') (q : ∀ p ∈ ws', p ∈ ws ∨ h0.size ≤ p.1) : KSx h0 h' ws := by
  refine ⟨Nat.le_trans K.1 K'.1, fun x c hc => ?_⟩
  obtain ⟨c1, a1, a2, a3, a4, a5, a6⟩ := K.2 x c hc
  obtain ⟨c2, b1, b2, b3, b4, b5, b6⟩ := K'.2 x c1 a1
  have hx : x < h0.size := (Array.getElem?_eq_some_iff.mp hc).1
  refine ⟨c2, b1, b2.trans a2, b3.trans a3, b4.trans a4, fun j hj => ?_, fun hs => ?_⟩
  · refine (b5 j fun p hp => ?_).trans (a5 j hj)
    rcases q p hp with w | g
    · exact hj p w
    · exact Or.inl fun e => by subst e; exact absurd hx (Nat.not_lt.mpr g)
  · have e1 : c1 = c := a6 hs
    refine (b6 ?_).trans e1
    rcases hs with w | w
    · exact Or.inl (by rw [e1]; exact w)
    · refine Or.inr fun p hp => ?_
      rcases q p hp with y | g
      · exact w p y
      · exact fun e => by subst e; exact absurd hx (Nat.not_lt.mpr g)
theorem KSx.of_wr (W : Wr h h' a sl v) : KSx h h' [(a, sl)] := by
  refine ⟨Nat.le_of_eq W.size.symm, fun x c hc => ?_⟩
  obtain ⟨c', e1, e2, e3, e4, e5, e6, e7⟩ := wr_at W hc
  refine ⟨c', e1, e2, e3, e4, fun j hj => ?_, fun hs => ?_⟩
  · rcases hj (a, sl) (List.mem_singleton.mpr rfl) with y | y
    · rw [e5 y]
    · exact e6 j y
  · rcases hs with y | y
    · by_cases z : x = a
      · rw [(e7 z).2.2] at y; cases y
      · exact e5 z
    · exact e5 (y (a, sl) (List.mem_singleton.mpr rfl))
theorem KSx.wr (K : KSx h0 h ws) (W : Wr h h' a sl v) (q : (a, sl) ∈ ws ∨ h0.size ≤ a) : KSx h0 h' ws := K.trans (KSx.of_wr W) fun p hp => by cases List.mem_singleton.mp hp; exact q
theorem Fld.ks (F : Fld Z h a C n d v) (K : KSx h h' ws) (q : ∀ p ∈ ws, a ≠ p.1 ∨ slotOf Z C n d ≠ p.2) : Fld Z h' a C n d v := by
  obtain ⟨cell, cf, k, i, f, h1, h2, h3, h4, h5, h6, h7⟩ := F
  obtain ⟨c', e1, e2, e3, -, e5, -⟩ := K.2 _ _ h1
  refine ⟨c', cf, k, i, f, e1, h2, h3, by rw [e3]; exact h4, by rw [e3]; exact h5, by rw [e2]; exact h6, ?_⟩
  refine (e5 _ fun p hp => ?_).trans h7
  simpa [slotOf, h2] using q p hp
theorem Exa.ks (F : Exa Z h a C) (K : KSx h h' ws) : Exa Z h' a C := by
  obtain ⟨cell, k, h1, h2, h3, h4, h5⟩ := F
  obtain ⟨c', e1, e2, e3, e4, -⟩ := K.2 _ _ h1
  exact ⟨c', k, e1, by rw [e2]; exact h2, by rw [e2]; exact h3, by rw [e3]; exact h4, by rw [e4]; exact h5⟩
theorem Sta.ks (F : Sta Z h C n d v) (K : KSx h h' ws) : Sta Z h' C n d v := by
  obtain ⟨cf, i, k, f, st, cell, h1, h2, h3, h4, h5, h6, h7⟩ := F
  obtain ⟨c', e1, -, -, -, -, e6⟩ := K.2 _ _ h5
  exact ⟨cf, i, k, f, st, cell, h1, h2, h3, h4, (e6 (Or.inl h6)) ▸ e1, h6, h7⟩
theorem Arr.ks {c : Cell} {ty : FieldType} (F : Arr Z h a c ty) (K : KSx h h' ws) (q : ∀ p ∈ ws, a ≠ p.1) : Arr Z h' a c ty := by
  obtain ⟨c', e1, -, -, -, -, e6⟩ := K.2 _ _ F.1
  exact ⟨(e6 (Or.inr q)) ▸ e1, F.2⟩
theorem Arv.ks {k : ClassId} {ty : FieldType} {z : Int32} {vs : List Value} {dv : Value} (F : Arv Z h a k ty z vs dv) (K : KSx h h' ws) (q : ∀ p ∈ ws, a ≠ p.1) : Arv Z h' a k ty z vs dv := by obtain ⟨c, A, r⟩ := F; exact ⟨c, A.ks K q, r⟩
theorem own_fi {args : Array Value} {s : State} {t : Term} {k : Int32} (ht : t.eval args s none [] s = some (.ref a)) (hq : (Cond.eq (.field t C n d) (.int k)).value args s none s [] = some true) : Fld s s.heap a C n d (.int k) := by
  have e2 : (Term.int k).eval args s none [] s = some (.int k) := Term.int_eval k
  obtain ⟨x, y, e1, e3, -, k2⟩ := cmp_v (Or.inl hq)
  cases e2.symm.trans e3
  obtain ⟨z, rfl⟩ := k2
  have q : z = k := by simpa [Cond.value, e1, e2] using hq
  subst q
  exact Fld.start (by rw [← fld_at ht]; exact e1)
theorem own_fr {args : Array Value} {s : State} {t u : Term} {b : Addr} (ht : t.eval args s none [] s = some (.ref a)) (hu : u.eval args s none [] s = some (.ref b)) (hq : (Cond.eq (.field t C n d) u).value args s none s [] = some true) : Fld s s.heap a C n d (.ref b) := by
  obtain ⟨x, y, e1, e3, k1, k2⟩ := cmp_v (Or.inl hq)
  cases hu.symm.trans e3
  have hr : x.isRef = true := k2.2
  have q : x = .ref b := gotT (eq_R e1 hu hr rfl) hq
  subst q
  exact Fld.start (by rw [← fld_at ht]; exact e1)
theorem own_len {args : Array Value} {s : State} {t : Term} {k : Int32} {cl : Cell} {ty : FieldType} (ht : t.eval args s none [] s = some (.ref a)) (A : Arr s s.heap a cl ty) (hq : (Cond.eq (.length t) (.int k)).value args s none s [] = some true) : cl.slots.size < 2 ^ 31 ∧ cl.slots.size.toInt32 = k := by
  have e2 : (Term.int k).eval args s none [] s = some (.int k) := Term.int_eval k
  have ha : s.arrayAt? a = some cl := A.fin (Vm.Alike.refl _)
  obtain ⟨x, y, e1, e3, -, k2⟩ := cmp_v (Or.inl hq)
  cases e2.symm.trans e3
  obtain ⟨z, rfl⟩ := k2
  have q : z = k := by simpa [Cond.value, e1, e2] using hq
  subst q
  by_cases hl : cl.slots.size < 2 ^ 31
  · rw [len_f ht ha hl] at e1
    cases e1; exact ⟨hl, rfl⟩
  · simp [Term.eval, ht, ha, hl] at e1
theorem own_el {args : Array Value} {s : State} {t u : Term} {k : Int32} {b : Addr} {cl : Cell} {ty : FieldType} (ht : t.eval args s none [] s = some (.ref a)) (hu : u.eval args s none [] s = some (.ref b)) (A : Arr s s.heap a cl ty) (hq : (Cond.eq (.elem t (.int k)) u).value args s none s [] = some true) : cl.slots[k.toNatClampNeg]? = some (.ref b) := by
  obtain ⟨x, y, e1, e3, k1, k2⟩ := cmp_v (Or.inl hq)
  cases hu.symm.trans e3
  have q : x = .ref b := gotT (eq_R e1 hu k2.2 rfl) hq
  subst q
  exact (elem_in e1 ht (Term.int_eval k) A.1).2
theorem own_sel {s : State} {a0 args : Array Value} {y : MethodName} {k : Nat} (hZ : Z.Warmed39 s.vm) (wi : (Cond.instantiable y.cls k).before a0 Z = true) (wp : (Cond.privateMethod y).before a0 Z = true) (wm : (Cond.instanceMethod y).before a0 Z = true) (hy : y.cls ≠ "java/lang/invoke/MethodHandle" ∧ y.cls ≠ "java/lang/invoke/VarHandle") : (Cond.selects y.cls y y).before args s = true := by
  obtain ⟨c, kc, h1, h2, -, h4, -⟩ := Cond.instantiable_spec (mvT (args := args) hZ wi)
  exact selects_self_of_private h1 h2 (Bool.or_eq_false_iff.mp h4).1 (Cond.privateMethod_at (mvP hZ wp (args := args))) (mvT hZ wm) hy
end Own
end Jvm.RoadKit
namespace Jvm.Pilot.@@N@@
open Jvm Jvm.ClassFile Sem Op Lib Jvm.Free Jvm.Stand Jvm.LawKit Jvm.RoadKit Bundle Jvm.Pilot.@@N@@.Jvm.D
abbrev OMet (l : Launch) (Z : State) (y : MethodName) (bytes : ByteArray) (ml : Nat) (rt : Option FieldType) (ws : List Jvm.Cond) (rm : Room) (h0 : Heap) (as : Array Value) (Q : Option Value → Heap → List Loc → Prop) : Prop :=
  MetFree l y (head1 (Jvm.Cond.code y bytes ml rt :: ws) rm) (fun a U => a = as ∧ Z.Warmed39 U.vm ∧ U.heap = h0) (fun _ _ _ _ _ => True) (fun _ U o U' => ∃ v L, o = .returned v ∧ Q v U'.heap L ∧ FrameEnd U o U' L rm.cells rm.slots)
abbrev OMetS (l : Launch) (Z : State) (y : MethodName) (bytes : ByteArray) (ml : Nat) (rt : Option FieldType) (ws : List Jvm.Cond) (rm : Room) (h0 : Heap) (as : Array Value) (Q : Option Value → Heap → List Loc → Prop) : Prop :=
  MetFree l y (head1 (Jvm.Cond.code y bytes ml rt :: ws) rm) (fun a U => a = as ∧ Z.Warmed39 U.vm ∧ U.heap = h0) (fun _ _ _ _ _ => True) (fun _ U o U' => ∃ v L, o = .returned v ∧ Q v U'.heap L ∧ ReturnedEndW U o U' L rm.cells rm.slots)
def OQp (r : Option Value) (h0 : Heap) (n0 : Nat) (v : Option Value) (h : Heap) (L : List Loc) : Prop := v = r ∧ Fr n0 L ∧ h = h0
def OQl (r : Option Value) (n0 : Nat) (v : Option Value) (h : Heap) (L : List Loc) : Prop := v = r ∧ Fr n0 L
theorem own_rng {k n : Int32} {N : Nat} (h : 0 ≤ k.toInt ∧ k.toInt < N) : ∃ i : Fin N, k = Int32.ofInt i.1 := by
  refine ⟨⟨k.toInt.toNat, by omega⟩, ?_⟩
  show k = Int32.ofInt ((k.toInt.toNat : Nat) : Int)
  rw [Int.toNat_of_nonneg h.1]; exact (Int32.ofInt_toInt k).symm
theorem own_mod (x : Int32) (y : Int32) (hy : 0 < y.toInt) : 0 ≤ ((x &&& (2147483647 : Int32)) % y).toInt ∧ ((x &&& (2147483647 : Int32)) % y).toInt < y.toInt := by
  have h1 := c_mask x 2147483647 31 (by decide) (by decide)
  have h2 := (c_iremV (x &&& (2147483647 : Int32)) y).1 (by rw [h1]; exact Int.emod_nonneg _ (by decide)) hy
  exact ⟨h2.1, h2.2.1⟩
theorem own_b1 (x : Int32) : (x &&& (1 : Int32)) = (0 : Int32) ∨ (x &&& (1 : Int32)) = (1 : Int32) := by
  have h := c_mask x 1 1 (by decide) (by decide)
  have q : (x &&& (1 : Int32)).toInt = 0 ∨ (x &&& (1 : Int32)).toInt = 1 := by rw [h]; omega
  rcases q with q | q <;> simp [← Int32.toInt_inj, q]
theorem d1_0 : decode prog_41_method_7_code 0 = .ok (.aload_n 1, 1) := by decide +kernel
theorem d1_1 : decode prog_41_method_7_code 1 = .ok (.getstatic 39, 3) := by decide +kernel
theorem d1_4 : decode prog_41_method_7_code 4 = .ok (.if_acmp .ne 7, 3) := by decide +kernel
theorem d1_11 : decode prog_41_method_7_code 11 = .ok (.iconst 0, 1) := by decide +kernel
theorem d1_12 : decode prog_41_method_7_code 12 = .ok (.ireturn, 1) := by decide +kernel
theorem pn_com_example_tranchebook_tranchebook_PeriodKind : plainName "com/example/tranchebook/tranchebook/PeriodKind" = true := by first | (simp [plainName, overriddenIn]; done) | decide +kernel
theorem ef_1_vv (m : MethodId) (x0 : Addr) (x1 : Addr) : entryFrame m #[(.ref x0), (.ref x1)] 2 = mkF m 0 #[.val (.ref x0), .val (.ref x1)] [] := by first | (simp [entryFrame, mkF, argsToLocals, Value.category]; done) | rfl
set_option maxRecDepth 65536 in
set_option maxHeartbeats 40000000 in
theorem r1_1 (l : Launch) (Z : State) (a0 : Array Value) (hw : ∀ d ∈ tables_1, d.before a0 Z = true) (a6 : Addr) (a7 : Addr) (w8 : Addr) (h0 : Heap) (n0 : Nat) (Z0 : n0 ≤ h0.size) (H0 : Sta Z h0 "com/example/tranchebook/tranchebook/EarlierPeriod" "PREVIOUS_YEAR" "Lcom/example/tranchebook/tranchebook/EarlierPeriod;" (.ref w8)) (H1 : Exa Z h0 a7 "com/example/tranchebook/tranchebook/EarlierPeriod$1") (H2 : Exa Z h0 w8 "com/example/tranchebook/tranchebook/EarlierPeriod$2") :
    OMet l Z (⟨"com/example/tranchebook/tranchebook/PeriodKind", "includesEvery", "(Lcom/example/tranchebook/tranchebook/EarlierPeriod;)Z"⟩ : MethodName) prog_41_method_7_code 2 (some .boolean) [] ({ frames := 0, cells := 0, slots := 0, locals := 0 } : Room) h0 #[(.ref a6), (.ref a7)] (OQp (some (.int (0 : Int32))) h0 n0) := by
  refine MetFree.of_bodySF (plainFor_of_name pn_com_example_tranchebook_tranchebook_PeriodKind) hisR ?_
  intro p e s m args below meth c s₁ Bd hml0 hP hK
  obtain ⟨rfl, hZ, hh⟩ := hP
  have hx := Bd.exec
  have hby := Bd.bytes
  have hml : c.maxLocals = 2 := hml0
  have hown : s.vm.findClass "com/example/tranchebook/tranchebook/PeriodKind" = some m.cls := findClass_of_methodNamed Bd.named
  have hnm := (name_of_methodNamed Bd.named Bd.method).1
  have X0 : Stand p l e ({ frames := 0, cells := 0, slots := 0, locals := 0 } : Room) s m #[(.ref a6), (.ref a7)] below meth c s₁ [] 0 0 := Stand.of_body Bd
  have e0 : s₁.heap = h0 := by rw [← hh, Bd.state]; rfl
  have N0 := Fr.nil n0
  have pre0 : ∀ t, Steps p.tables e below (s₁.setTop (mkF m 0 #[.val (.ref a6), .val (.ref a7)] [])) t → Steps p.tables e below (s₁.setTop (entryFrame m #[(.ref a6), (.ref a7)] 2)) t := fun t k => castTop (ef_1_vv m a6 a7) k
  obtain ⟨T9, X9, e9, st9⟩ := getS2 X0 hx hZ hown (host := "") (Or.inl (hw _ (List.mem_of_getElem? (i := 12) rfl))) Via.refl e0 H0 (g := (mkF m 1 #[.val (.ref a6), .val (.ref a7)] [(.ref a7)])) rfl (hb hby d1_1)
  have ne10 : a7 ≠ w8 := (ne_exa H1 H2 (by decide))
  obtain ⟨fs, hr, hrun, hended, hW, hsame⟩ := X9.leave (v := some (.int (0 : Int32))) (fun h => by rw [Bd.returns] at h; cases h)
  refine ⟨_, _, pre0 _ ?_, hrun, hended, _, _, rfl, ?_, ⟨_, rfl⟩, hW, hsame.mono (by decide) (by decide)⟩
  · show Steps p.tables e below (s₁.setTop (mkF m 0 #[.val (.ref a6), .val (.ref a7)] [])) _
    refine XS.aloadN X0.here hx rfl (hb hby d1_0) rfl rfl ?_
    show Steps p.tables e below (s₁.setTop (mkF m 1 #[.val (.ref a6), .val (.ref a7)] [(.ref a7)])) _
    refine st9 _ ?_
    show Steps p.tables e below (T9.setTop (mkF m 4 #[.val (.ref a6), .val (.ref a7)] [(.ref w8), (.ref a7)])) _
    refine Jvm.RoadKit.acmp (g := (mkF m 4 #[.val (.ref a6), .val (.ref a7)] [(.ref w8), (.ref a7)])) X9 hx rfl rfl rfl (pc0 := 4) (pc' := 11) (same := false) rfl (hb hby d1_4) rfl (decide_eq_false fun q => ne10 (Value.ref.inj q)) (by decide) (by decide) ?_
    show Steps p.tables e below (T9.setTop (mkF m 11 #[.val (.ref a6), .val (.ref a7)] [])) _
    refine XS.iconst X9.here hx rfl (hb hby d1_11) ?_
    show Steps p.tables e below (T9.setTop (mkF m 12 #[.val (.ref a6), .val (.ref a7)] [(.int (0 : Int32))])) _
    exact retN X9 hx (t := .boolean) Bd.returns (by simp) (hb hby d1_12) hr
  · show OQp (some (.int (0 : Int32))) h0 n0 _ T9.heap _
    rw [e9]
    exact ⟨rfl, N0, rfl⟩
theorem pd_0 : parseMethodDescriptor "(Lcom/example/tranchebook/tranchebook/EarlierPeriod;)Z" = some ⟨[(.object "com/example/tranchebook/tranchebook/EarlierPeriod")], some .boolean⟩ := by decide +kernel
theorem pn_com_example_tranchebook_tranchebook_PeriodKindIncludesEveryPinLaw : plainName "com/example/tranchebook/tranchebook/PeriodKindIncludesEveryPinLaw" = true := by first | (simp [plainName, overriddenIn]; done) | decide +kernel
theorem ef_0_v (m : MethodId) (x0 : Int32) : entryFrame m #[(.int x0)] maxLocals = mkF m 0 #[.val (.int x0), .unset, .unset, .unset] [] := by first | (simp [entryFrame, mkF, argsToLocals, Value.category, maxLocals]; done) | rfl
set_option maxRecDepth 65536 in
set_option maxHeartbeats 40000000 in
theorem r0_1 (l : Launch) (Z : State) (a0 : Array Value) (hw : ∀ d ∈ tables_1, d.before a0 Z = true) (p1 : Int32) (w2 : Addr) (w4 : Addr) (w12 : Addr) (h0 : Heap) (n0 : Nat) (Z0 : n0 ≤ h0.size) (H0 : ((p1 &&& (2147483647 : Int32)) % (3 : Int32)) = (0 : Int32)) (H1 : Sta Z h0 "com/example/tranchebook/tranchebook/EarlierPeriod" "PREVIOUS_QUARTER" "Lcom/example/tranchebook/tranchebook/EarlierPeriod;" (.ref w2)) (H2 : ¬ (((p1 &&& (2147483647 : Int32)) % (3 : Int32)) = (1 : Int32))) (H3 : Sta Z h0 "com/example/tranchebook/tranchebook/PeriodKind" "FISCAL_YEAR_END" "Lcom/example/tranchebook/tranchebook/PeriodKind;" (.ref w4)) (H4 : Sta Z h0 "com/example/tranchebook/tranchebook/EarlierPeriod" "PREVIOUS_YEAR" "Lcom/example/tranchebook/tranchebook/EarlierPeriod;" (.ref w12)) (H5 : Exa Z h0 w2 "com/example/tranchebook/tranchebook/EarlierPeriod$1") (H6 : Exa Z h0 w12 "com/example/tranchebook/tranchebook/EarlierPeriod$2") (H7 : Exa Z h0 w4 "com/example/tranchebook/tranchebook/PeriodKind") :
    OMet l Z x code maxLocals ret tables_1 room_1 h0 #[(.int p1)] (OQl (some (.int (1 : Int32))) n0) := by
  refine MetFree.of_bodySF (plainFor_of_name pn_com_example_tranchebook_tranchebook_PeriodKindIncludesEveryPinLaw) hisR ?_
  intro p e s m args below meth c s₁ Bd hml0 hP hK
  obtain ⟨rfl, hZ, hh⟩ := hP
  have hx := Bd.exec
  have hby := Bd.bytes
  have hml : c.maxLocals = 4 := hml0
  have hown : s.vm.findClass "com/example/tranchebook/tranchebook/PeriodKindIncludesEveryPinLaw" = some m.cls := findClass_of_methodNamed Bd.named
  have hnm := (name_of_methodNamed Bd.named Bd.method).1
  have X0 : Stand p l e room_1 s m #[(.int p1)] below meth c s₁ [] 0 0 := Stand.of_body Bd
  have e0 : s₁.heap = h0 := by rw [← hh, Bd.state]; rfl
  have N0 := Fr.nil n0
  have pre0 : ∀ t, Steps p.tables e below (s₁.setTop (mkF m 0 #[.val (.int p1), .unset, .unset, .unset] [])) t → Steps p.tables e below (s₁.setTop (entryFrame m #[(.int p1)] maxLocals)) t := fun t k => castTop (ef_0_v m p1) k
  obtain ⟨T3, X3, e3, st3⟩ := getS2 X0 hx hZ hown (host := "") (Or.inl (hw _ (List.mem_of_getElem? (i := 1) rfl))) Via.refl e0 H1 (g := (mkF m 11 #[.val (.int p1), .val (.int ((p1 &&& (2147483647 : Int32)) % (3 : Int32))), .unset, .unset] [])) rfl (hb hby at_11)
  obtain ⟨T5, X5, e5, st5⟩ := getS2 X3 hx hZ hown (host := "") (Or.inl (hw _ (List.mem_of_getElem? (i := 4) rfl))) Via.refl e3 H3 (g := (mkF m 41 #[.val (.int p1), .val (.int ((p1 &&& (2147483647 : Int32)) % (3 : Int32))), .val (.ref w2), .val (.int (0 : Int32))] [])) rfl (hb hby at_41)
  obtain ⟨cq11, kq11, q11a, q11b, q11c⟩ := isOf hZ e5 H7
  obtain ⟨_, _, ⟨T11, L11, k11, n11⟩, -, X11, ⟨Lc11, hQ11, l11, y11, z11⟩, st11⟩ := X5.virtualBack hx (y := (⟨"com/example/tranchebook/tranchebook/PeriodKind", "includesEvery", "(Lcom/example/tranchebook/tranchebook/EarlierPeriod;)Z"⟩ : MethodName)) (z := (⟨"com/example/tranchebook/tranchebook/PeriodKind", "includesEvery", "(Lcom/example/tranchebook/tranchebook/EarlierPeriod;)Z"⟩ : MethodName)) hown (mvT hZ (hw _ (List.mem_of_getElem? (i := 7) rfl))) (mvT hZ (hw _ (List.mem_of_getElem? (i := 8) rfl))) (notFace_of_selects (args := #[]) (mvT hZ (hw _ (List.mem_of_getElem? (i := 10) rfl)))) (mvT hZ (hw _ (List.mem_of_getElem? (i := 10) rfl))) (mvT hZ (hw _ (List.mem_of_getElem? (i := 9) rfl))) (by decide) (backOf (W := 0) (r1_1 l Z a0 hw w4 w2 w12 h0 n0 Z0 H4 H5 H6) hZ (hw _ (List.mem_of_getElem? (i := 11) rfl)) (hw _ (List.mem_of_getElem? (i := 5) rfl)) (by decide) (by decide)) q11a q11c (g := (mkF m 45 #[.val (.int p1), .val (.int ((p1 &&& (2147483647 : Int32)) % (3 : Int32))), .val (.ref w2), .val (.int (0 : Int32))] [(.ref w2), (.ref w4)])) rfl (by rw [hml]; rfl) (Steps.refl _) (argsL := [(.ref w2)]) (rest := []) (lenOf pd_0 rfl) rfl (by show 2 * 0 + _ ≤ _; exact Nat.le_of_eq rfl) (hb hby at_45) (fun _ _ => ⟨rfl, e5, (by decide : 0 + 0 ≤ _), (by decide : 0 + 0 ≤ _)⟩)
  dsimp only [Pt.U, Pt.locs, Pt.cells, Pt.slots] at X11 l11 y11 z11 st11 hQ11
  subst l11 y11 z11
  obtain ⟨rfl, N11q, e11⟩ := hQ11
  have N11 := Fr.app N0 N11q
  obtain ⟨fs, hr, hrun, hended, hW, hsame⟩ := X11.leave (v := some (.int (1 : Int32))) (fun h => by rw [Bd.returns] at h; cases h)
  refine ⟨_, _, pre0 _ ?_, hrun, hended, _, _, rfl, ?_, ⟨_, rfl⟩, hW, hsame.mono (by decide) (by decide)⟩
  · show Steps p.tables e below (s₁.setTop (mkF m 0 #[.val (.int p1), .unset, .unset, .unset] [])) _
    refine XS.iloadN X0.here hx rfl (hb hby at_0) rfl ?_
    show Steps p.tables e below (s₁.setTop (mkF m 1 #[.val (.int p1), .unset, .unset, .unset] [(.int p1)])) _
    refine X0.ldcInt hx hown (mvT hZ (hw _ (List.mem_of_getElem? (i := 0) rfl))) (g := (mkF m 1 #[.val (.int p1), .unset, .unset, .unset] [(.int p1)])) rfl (hb hby at_1) _ ?_
    show Steps p.tables e below (s₁.setTop (mkF m 3 #[.val (.int p1), .unset, .unset, .unset] [(.int (2147483647 : Int32)), (.int p1)])) _
    refine XS.iand X0.here hx rfl (hb hby at_3) rfl ?_
    show Steps p.tables e below (s₁.setTop (mkF m 4 #[.val (.int p1), .unset, .unset, .unset] [(.int (p1 &&& (2147483647 : Int32)))])) _
    refine XS.iconst X0.here hx rfl (hb hby at_4) ?_
    show Steps p.tables e below (s₁.setTop (mkF m 5 #[.val (.int p1), .unset, .unset, .unset] [(.int (3 : Int32)), (.int (p1 &&& (2147483647 : Int32)))])) _
    refine iremM X0 hx rfl (hb hby at_5) rfl (by decide) ?_
    show Steps p.tables e below (s₁.setTop (mkF m 6 #[.val (.int p1), .unset, .unset, .unset] [(.int ((p1 &&& (2147483647 : Int32)) % (3 : Int32)))])) _
    refine XS.istoreN X0.here hx rfl (hb hby at_6) rfl (l' := #[.val (.int p1), .val (.int ((p1 &&& (2147483647 : Int32)) % (3 : Int32))), .unset, .unset]) rfl ?_
    show Steps p.tables e below (s₁.setTop (mkF m 7 #[.val (.int p1), .val (.int ((p1 &&& (2147483647 : Int32)) % (3 : Int32))), .unset, .unset] [])) _
    refine XS.iloadN X0.here hx rfl (hb hby at_7) rfl ?_
    show Steps p.tables e below (s₁.setTop (mkF m 8 #[.val (.int p1), .val (.int ((p1 &&& (2147483647 : Int32)) % (3 : Int32))), .unset, .unset] [(.int ((p1 &&& (2147483647 : Int32)) % (3 : Int32)))])) _
    refine XS.ifNo X0.here hx rfl (hb hby at_8) rfl ((if0 _ _).trans (teq H0).2) ?_
    show Steps p.tables e below (s₁.setTop (mkF m 11 #[.val (.int p1), .val (.int ((p1 &&& (2147483647 : Int32)) % (3 : Int32))), .unset, .unset] [])) _
    refine st3 _ ?_
    show Steps p.tables e below (T3.setTop (mkF m 14 #[.val (.int p1), .val (.int ((p1 &&& (2147483647 : Int32)) % (3 : Int32))), .unset, .unset] [(.ref w2)])) _
    refine XS.goto X3.here hx rfl (pc0 := 14) (pc' := 29) rfl (hb hby at_14) (by decide) (by decide) ?_
    show Steps p.tables e below (T3.setTop (mkF m 29 #[.val (.int p1), .val (.int ((p1 &&& (2147483647 : Int32)) % (3 : Int32))), .unset, .unset] [(.ref w2)])) _
    refine XS.astoreN X3.here hx rfl (hb hby at_29) rfl rfl (l' := #[.val (.int p1), .val (.int ((p1 &&& (2147483647 : Int32)) % (3 : Int32))), .val (.ref w2), .unset]) rfl ?_
    show Steps p.tables e below (T3.setTop (mkF m 30 #[.val (.int p1), .val (.int ((p1 &&& (2147483647 : Int32)) % (3 : Int32))), .val (.ref w2), .unset] [])) _
    refine XS.iloadN X3.here hx rfl (hb hby at_30) rfl ?_
    show Steps p.tables e below (T3.setTop (mkF m 31 #[.val (.int p1), .val (.int ((p1 &&& (2147483647 : Int32)) % (3 : Int32))), .val (.ref w2), .unset] [(.int ((p1 &&& (2147483647 : Int32)) % (3 : Int32)))])) _
    refine XS.iconst X3.here hx rfl (hb hby at_31) ?_
    show Steps p.tables e below (T3.setTop (mkF m 32 #[.val (.int p1), .val (.int ((p1 &&& (2147483647 : Int32)) % (3 : Int32))), .val (.ref w2), .unset] [(.int (1 : Int32)), (.int ((p1 &&& (2147483647 : Int32)) % (3 : Int32)))])) _
    refine XS.icmpYes X3.here hx rfl (pc0 := 32) (pc' := 39) rfl (hb hby at_32) rfl (feq H2).2 (by decide) (by decide) ?_
    show Steps p.tables e below (T3.setTop (mkF m 39 #[.val (.int p1), .val (.int ((p1 &&& (2147483647 : Int32)) % (3 : Int32))), .val (.ref w2), .unset] [])) _
    refine XS.iconst X3.here hx rfl (hb hby at_39) ?_
    show Steps p.tables e below (T3.setTop (mkF m 40 #[.val (.int p1), .val (.int ((p1 &&& (2147483647 : Int32)) % (3 : Int32))), .val (.ref w2), .unset] [(.int (0 : Int32))])) _
    refine XS.istoreN X3.here hx rfl (hb hby at_40) rfl (l' := #[.val (.int p1), .val (.int ((p1 &&& (2147483647 : Int32)) % (3 : Int32))), .val (.ref w2), .val (.int (0 : Int32))]) rfl ?_
    show Steps p.tables e below (T3.setTop (mkF m 41 #[.val (.int p1), .val (.int ((p1 &&& (2147483647 : Int32)) % (3 : Int32))), .val (.ref w2), .val (.int (0 : Int32))] [])) _
    refine st5 _ ?_
    show Steps p.tables e below (T5.setTop (mkF m 44 #[.val (.int p1), .val (.int ((p1 &&& (2147483647 : Int32)) % (3 : Int32))), .val (.ref w2), .val (.int (0 : Int32))] [(.ref w4)])) _
    refine XS.aloadN X5.here hx rfl (hb hby at_44) rfl rfl ?_
    show Steps p.tables e below (T5.setTop (mkF m 45 #[.val (.int p1), .val (.int ((p1 &&& (2147483647 : Int32)) % (3 : Int32))), .val (.ref w2), .val (.int (0 : Int32))] [(.ref w2), (.ref w4)])) _
    refine st11.trans ?_
    show Steps p.tables e below (T11.setTop (mkF m 48 #[.val (.int p1), .val (.int ((p1 &&& (2147483647 : Int32)) % (3 : Int32))), .val (.ref w2), .val (.int (0 : Int32))] [(.int (0 : Int32))])) _
    refine XS.iloadN X11.here hx rfl (hb hby at_48) rfl ?_
    show Steps p.tables e below (T11.setTop (mkF m 49 #[.val (.int p1), .val (.int ((p1 &&& (2147483647 : Int32)) % (3 : Int32))), .val (.ref w2), .val (.int (0 : Int32))] [(.int (0 : Int32)), (.int (0 : Int32))])) _
    refine XS.icmpNo X11.here hx rfl (hb hby at_49) rfl (teq (rfl : (0 : Int32) = (0 : Int32))).2 ?_
    show Steps p.tables e below (T11.setTop (mkF m 52 #[.val (.int p1), .val (.int ((p1 &&& (2147483647 : Int32)) % (3 : Int32))), .val (.ref w2), .val (.int (0 : Int32))] [])) _
    refine XS.iconst X11.here hx rfl (hb hby at_52) ?_
    show Steps p.tables e below (T11.setTop (mkF m 53 #[.val (.int p1), .val (.int ((p1 &&& (2147483647 : Int32)) % (3 : Int32))), .val (.ref w2), .val (.int (0 : Int32))] [(.int (1 : Int32))])) _
    refine XS.goto X11.here hx rfl (pc0 := 53) (pc' := 57) rfl (hb hby at_53) (by decide) (by decide) ?_
    show Steps p.tables e below (T11.setTop (mkF m 57 #[.val (.int p1), .val (.int ((p1 &&& (2147483647 : Int32)) % (3 : Int32))), .val (.ref w2), .val (.int (0 : Int32))] [(.int (1 : Int32))])) _
    exact retN X11 hx (t := .boolean) Bd.returns (by simp) (hb hby at_57) hr
  · show OQl (some (.int (1 : Int32))) n0 _ T11.heap _
    exact ⟨rfl, N11⟩
theorem d1_7 : decode prog_41_method_7_code 7 = .ok (.iconst 1, 1) := by decide +kernel
theorem d1_8 : decode prog_41_method_7_code 8 = .ok (.goto 4, 3) := by decide +kernel
set_option maxRecDepth 65536 in
set_option maxHeartbeats 40000000 in
theorem r1_2 (l : Launch) (Z : State) (a0 : Array Value) (hw : ∀ d ∈ tables_1, d.before a0 Z = true) (a18 : Addr) (a19 : Addr) (w20 : Addr) (h0 : Heap) (n0 : Nat) (Z0 : n0 ≤ h0.size) (H0 : Sta Z h0 "com/example/tranchebook/tranchebook/EarlierPeriod" "PREVIOUS_YEAR" "Lcom/example/tranchebook/tranchebook/EarlierPeriod;" (.ref w20)) (H1 : a19 = w20) :
    OMet l Z (⟨"com/example/tranchebook/tranchebook/PeriodKind", "includesEvery", "(Lcom/example/tranchebook/tranchebook/EarlierPeriod;)Z"⟩ : MethodName) prog_41_method_7_code 2 (some .boolean) [] ({ frames := 0, cells := 0, slots := 0, locals := 0 } : Room) h0 #[(.ref a18), (.ref a19)] (OQp (some (.int (1 : Int32))) h0 n0) := by
  refine MetFree.of_bodySF (plainFor_of_name pn_com_example_tranchebook_tranchebook_PeriodKind) hisR ?_
  intro p e s m args below meth c s₁ Bd hml0 hP hK
  obtain ⟨rfl, hZ, hh⟩ := hP
  have hx := Bd.exec
  have hby := Bd.bytes
  have hml : c.maxLocals = 2 := hml0
  have hown : s.vm.findClass "com/example/tranchebook/tranchebook/PeriodKind" = some m.cls := findClass_of_methodNamed Bd.named
  have hnm := (name_of_methodNamed Bd.named Bd.method).1
  have X0 : Stand p l e ({ frames := 0, cells := 0, slots := 0, locals := 0 } : Room) s m #[(.ref a18), (.ref a19)] below meth c s₁ [] 0 0 := Stand.of_body Bd
  have e0 : s₁.heap = h0 := by rw [← hh, Bd.state]; rfl
  have N0 := Fr.nil n0
  have pre0 : ∀ t, Steps p.tables e below (s₁.setTop (mkF m 0 #[.val (.ref a18), .val (.ref a19)] [])) t → Steps p.tables e below (s₁.setTop (entryFrame m #[(.ref a18), (.ref a19)] 2)) t := fun t k => castTop (ef_1_vv m a18 a19) k
  obtain ⟨T21, X21, e21, st21⟩ := getS2 X0 hx hZ hown (host := "") (Or.inl (hw _ (List.mem_of_getElem? (i := 12) rfl))) Via.refl e0 H0 (g := (mkF m 1 #[.val (.ref a18), .val (.ref a19)] [(.ref a19)])) rfl (hb hby d1_1)
  obtain ⟨fs, hr, hrun, hended, hW, hsame⟩ := X21.leave (v := some (.int (1 : Int32))) (fun h => by rw [Bd.returns] at h; cases h)
  refine ⟨_, _, pre0 _ ?_, hrun, hended, _, _, rfl, ?_, ⟨_, rfl⟩, hW, hsame.mono (by decide) (by decide)⟩
  · show Steps p.tables e below (s₁.setTop (mkF m 0 #[.val (.ref a18), .val (.ref a19)] [])) _
    refine XS.aloadN X0.here hx rfl (hb hby d1_0) rfl rfl ?_
    show Steps p.tables e below (s₁.setTop (mkF m 1 #[.val (.ref a18), .val (.ref a19)] [(.ref a19)])) _
    refine st21 _ ?_
    show Steps p.tables e below (T21.setTop (mkF m 4 #[.val (.ref a18), .val (.ref a19)] [(.ref w20), (.ref a19)])) _
    refine Jvm.RoadKit.acmp (g := (mkF m 4 #[.val (.ref a18), .val (.ref a19)] [(.ref w20), (.ref a19)])) X21 hx rfl rfl rfl (pc0 := 4) (pc' := 7) (same := true) rfl (hb hby d1_4) rfl (decide_eq_true (congrArg Value.ref H1)) (by decide) (by decide) ?_
    show Steps p.tables e below (T21.setTop (mkF m 7 #[.val (.ref a18), .val (.ref a19)] [])) _
    refine XS.iconst X21.here hx rfl (hb hby d1_7) ?_
    show Steps p.tables e below (T21.setTop (mkF m 8 #[.val (.ref a18), .val (.ref a19)] [(.int (1 : Int32))])) _
    refine XS.goto X21.here hx rfl (pc0 := 8) (pc' := 12) rfl (hb hby d1_8) (by decide) (by decide) ?_
    show Steps p.tables e below (T21.setTop (mkF m 12 #[.val (.ref a18), .val (.ref a19)] [(.int (1 : Int32))])) _
    exact retN X21 hx (t := .boolean) Bd.returns (by simp) (hb hby d1_12) hr
  · show OQp (some (.int (1 : Int32))) h0 n0 _ T21.heap _
    rw [e21]
    exact ⟨rfl, N0, rfl⟩
set_option maxRecDepth 65536 in
set_option maxHeartbeats 40000000 in
theorem r0_2 (l : Launch) (Z : State) (a0 : Array Value) (hw : ∀ d ∈ tables_1, d.before a0 Z = true) (p13 : Int32) (w14 : Addr) (w16 : Addr) (h0 : Heap) (n0 : Nat) (Z0 : n0 ≤ h0.size) (H0 : ¬ (((p13 &&& (2147483647 : Int32)) % (3 : Int32)) = (0 : Int32))) (H1 : ((p13 &&& (2147483647 : Int32)) % (3 : Int32)) = (1 : Int32)) (H2 : Sta Z h0 "com/example/tranchebook/tranchebook/EarlierPeriod" "PREVIOUS_YEAR" "Lcom/example/tranchebook/tranchebook/EarlierPeriod;" (.ref w14)) (H3 : Sta Z h0 "com/example/tranchebook/tranchebook/PeriodKind" "FISCAL_YEAR_END" "Lcom/example/tranchebook/tranchebook/PeriodKind;" (.ref w16)) (H4 : Exa Z h0 w16 "com/example/tranchebook/tranchebook/PeriodKind") :
    OMet l Z x code maxLocals ret tables_1 room_1 h0 #[(.int p13)] (OQl (some (.int (1 : Int32))) n0) := by
  refine MetFree.of_bodySF (plainFor_of_name pn_com_example_tranchebook_tranchebook_PeriodKindIncludesEveryPinLaw) hisR ?_
  intro p e s m args below meth c s₁ Bd hml0 hP hK
  obtain ⟨rfl, hZ, hh⟩ := hP
  have hx := Bd.exec
  have hby := Bd.bytes
  have hml : c.maxLocals = 4 := hml0
  have hown : s.vm.findClass "com/example/tranchebook/tranchebook/PeriodKindIncludesEveryPinLaw" = some m.cls := findClass_of_methodNamed Bd.named
  have hnm := (name_of_methodNamed Bd.named Bd.method).1
  have X0 : Stand p l e room_1 s m #[(.int p13)] below meth c s₁ [] 0 0 := Stand.of_body Bd
  have e0 : s₁.heap = h0 := by rw [← hh, Bd.state]; rfl
  have N0 := Fr.nil n0
  have pre0 : ∀ t, Steps p.tables e below (s₁.setTop (mkF m 0 #[.val (.int p13), .unset, .unset, .unset] [])) t → Steps p.tables e below (s₁.setTop (entryFrame m #[(.int p13)] maxLocals)) t := fun t k => castTop (ef_0_v m p13) k
  obtain ⟨T15, X15, e15, st15⟩ := getS2 X0 hx hZ hown (host := "") (Or.inl (hw _ (List.mem_of_getElem? (i := 14) rfl))) Via.refl e0 H2 (g := (mkF m 22 #[.val (.int p13), .val (.int ((p13 &&& (2147483647 : Int32)) % (3 : Int32))), .unset, .unset] [])) rfl (hb hby at_22)
  obtain ⟨T17, X17, e17, st17⟩ := getS2 X15 hx hZ hown (host := "") (Or.inl (hw _ (List.mem_of_getElem? (i := 4) rfl))) Via.refl e15 H3 (g := (mkF m 41 #[.val (.int p13), .val (.int ((p13 &&& (2147483647 : Int32)) % (3 : Int32))), .val (.ref w14), .val (.int (1 : Int32))] [])) rfl (hb hby at_41)
  obtain ⟨cq22, kq22, q22a, q22b, q22c⟩ := isOf hZ e17 H4
  obtain ⟨_, _, ⟨T22, L22, k22, n22⟩, -, X22, ⟨Lc22, hQ22, l22, y22, z22⟩, st22⟩ := X17.virtualBack hx (y := (⟨"com/example/tranchebook/tranchebook/PeriodKind", "includesEvery", "(Lcom/example/tranchebook/tranchebook/EarlierPeriod;)Z"⟩ : MethodName)) (z := (⟨"com/example/tranchebook/tranchebook/PeriodKind", "includesEvery", "(Lcom/example/tranchebook/tranchebook/EarlierPeriod;)Z"⟩ : MethodName)) hown (mvT hZ (hw _ (List.mem_of_getElem? (i := 7) rfl))) (mvT hZ (hw _ (List.mem_of_getElem? (i := 8) rfl))) (notFace_of_selects (args := #[]) (mvT hZ (hw _ (List.mem_of_getElem? (i := 10) rfl)))) (mvT hZ (hw _ (List.mem_of_getElem? (i := 10) rfl))) (mvT hZ (hw _ (List.mem_of_getElem? (i := 9) rfl))) (by decide) (backOf (W := 0) (r1_2 l Z a0 hw w16 w14 w14 h0 n0 Z0 H2 rfl) hZ (hw _ (List.mem_of_getElem? (i := 11) rfl)) (hw _ (List.mem_of_getElem? (i := 5) rfl)) (by decide) (by decide)) q22a q22c (g := (mkF m 45 #[.val (.int p13), .val (.int ((p13 &&& (2147483647 : Int32)) % (3 : Int32))), .val (.ref w14), .val (.int (1 : Int32))] [(.ref w14), (.ref w16)])) rfl (by rw [hml]; rfl) (Steps.refl _) (argsL := [(.ref w14)]) (rest := []) (lenOf pd_0 rfl) rfl (by show 2 * 0 + _ ≤ _; exact Nat.le_of_eq rfl) (hb hby at_45) (fun _ _ => ⟨rfl, e17, (by decide : 0 + 0 ≤ _), (by decide : 0 + 0 ≤ _)⟩)
  dsimp only [Pt.U, Pt.locs, Pt.cells, Pt.slots] at X22 l22 y22 z22 st22 hQ22
  subst l22 y22 z22
  obtain ⟨rfl, N22q, e22⟩ := hQ22
  have N22 := Fr.app N0 N22q
  obtain ⟨fs, hr, hrun, hended, hW, hsame⟩ := X22.leave (v := some (.int (1 : Int32))) (fun h => by rw [Bd.returns] at h; cases h)
  refine ⟨_, _, pre0 _ ?_, hrun, hended, _, _, rfl, ?_, ⟨_, rfl⟩, hW, hsame.mono (by decide) (by decide)⟩
  · show Steps p.tables e below (s₁.setTop (mkF m 0 #[.val (.int p13), .unset, .unset, .unset] [])) _
    refine XS.iloadN X0.here hx rfl (hb hby at_0) rfl ?_
    show Steps p.tables e below (s₁.setTop (mkF m 1 #[.val (.int p13), .unset, .unset, .unset] [(.int p13)])) _
    refine X0.ldcInt hx hown (mvT hZ (hw _ (List.mem_of_getElem? (i := 0) rfl))) (g := (mkF m 1 #[.val (.int p13), .unset, .unset, .unset] [(.int p13)])) rfl (hb hby at_1) _ ?_
    show Steps p.tables e below (s₁.setTop (mkF m 3 #[.val (.int p13), .unset, .unset, .unset] [(.int (2147483647 : Int32)), (.int p13)])) _
    refine XS.iand X0.here hx rfl (hb hby at_3) rfl ?_
    show Steps p.tables e below (s₁.setTop (mkF m 4 #[.val (.int p13), .unset, .unset, .unset] [(.int (p13 &&& (2147483647 : Int32)))])) _
    refine XS.iconst X0.here hx rfl (hb hby at_4) ?_
    show Steps p.tables e below (s₁.setTop (mkF m 5 #[.val (.int p13), .unset, .unset, .unset] [(.int (3 : Int32)), (.int (p13 &&& (2147483647 : Int32)))])) _
    refine iremM X0 hx rfl (hb hby at_5) rfl (by decide) ?_
    show Steps p.tables e below (s₁.setTop (mkF m 6 #[.val (.int p13), .unset, .unset, .unset] [(.int ((p13 &&& (2147483647 : Int32)) % (3 : Int32)))])) _
    refine XS.istoreN X0.here hx rfl (hb hby at_6) rfl (l' := #[.val (.int p13), .val (.int ((p13 &&& (2147483647 : Int32)) % (3 : Int32))), .unset, .unset]) rfl ?_
    show Steps p.tables e below (s₁.setTop (mkF m 7 #[.val (.int p13), .val (.int ((p13 &&& (2147483647 : Int32)) % (3 : Int32))), .unset, .unset] [])) _
    refine XS.iloadN X0.here hx rfl (hb hby at_7) rfl ?_
    show Steps p.tables e below (s₁.setTop (mkF m 8 #[.val (.int p13), .val (.int ((p13 &&& (2147483647 : Int32)) % (3 : Int32))), .unset, .unset] [(.int ((p13 &&& (2147483647 : Int32)) % (3 : Int32)))])) _
    refine XS.ifYes X0.here hx rfl (pc0 := 8) (pc' := 17) rfl (hb hby at_8) rfl ((if0 _ _).trans (feq H0).2) (by decide) (by decide) ?_
    show Steps p.tables e below (s₁.setTop (mkF m 17 #[.val (.int p13), .val (.int ((p13 &&& (2147483647 : Int32)) % (3 : Int32))), .unset, .unset] [])) _
    refine XS.iloadN X0.here hx rfl (hb hby at_17) rfl ?_
    show Steps p.tables e below (s₁.setTop (mkF m 18 #[.val (.int p13), .val (.int ((p13 &&& (2147483647 : Int32)) % (3 : Int32))), .unset, .unset] [(.int ((p13 &&& (2147483647 : Int32)) % (3 : Int32)))])) _
    refine XS.iconst X0.here hx rfl (hb hby at_18) ?_
    show Steps p.tables e below (s₁.setTop (mkF m 19 #[.val (.int p13), .val (.int ((p13 &&& (2147483647 : Int32)) % (3 : Int32))), .unset, .unset] [(.int (1 : Int32)), (.int ((p13 &&& (2147483647 : Int32)) % (3 : Int32)))])) _
    refine XS.icmpNo X0.here hx rfl (hb hby at_19) rfl (teq H1).2 ?_
    show Steps p.tables e below (s₁.setTop (mkF m 22 #[.val (.int p13), .val (.int ((p13 &&& (2147483647 : Int32)) % (3 : Int32))), .unset, .unset] [])) _
    refine st15 _ ?_
    show Steps p.tables e below (T15.setTop (mkF m 25 #[.val (.int p13), .val (.int ((p13 &&& (2147483647 : Int32)) % (3 : Int32))), .unset, .unset] [(.ref w14)])) _
    refine XS.goto X15.here hx rfl (pc0 := 25) (pc' := 29) rfl (hb hby at_25) (by decide) (by decide) ?_
    show Steps p.tables e below (T15.setTop (mkF m 29 #[.val (.int p13), .val (.int ((p13 &&& (2147483647 : Int32)) % (3 : Int32))), .unset, .unset] [(.ref w14)])) _
    refine XS.astoreN X15.here hx rfl (hb hby at_29) rfl rfl (l' := #[.val (.int p13), .val (.int ((p13 &&& (2147483647 : Int32)) % (3 : Int32))), .val (.ref w14), .unset]) rfl ?_
    show Steps p.tables e below (T15.setTop (mkF m 30 #[.val (.int p13), .val (.int ((p13 &&& (2147483647 : Int32)) % (3 : Int32))), .val (.ref w14), .unset] [])) _
    refine XS.iloadN X15.here hx rfl (hb hby at_30) rfl ?_
    show Steps p.tables e below (T15.setTop (mkF m 31 #[.val (.int p13), .val (.int ((p13 &&& (2147483647 : Int32)) % (3 : Int32))), .val (.ref w14), .unset] [(.int ((p13 &&& (2147483647 : Int32)) % (3 : Int32)))])) _
    refine XS.iconst X15.here hx rfl (hb hby at_31) ?_
    show Steps p.tables e below (T15.setTop (mkF m 32 #[.val (.int p13), .val (.int ((p13 &&& (2147483647 : Int32)) % (3 : Int32))), .val (.ref w14), .unset] [(.int (1 : Int32)), (.int ((p13 &&& (2147483647 : Int32)) % (3 : Int32)))])) _
    refine XS.icmpNo X15.here hx rfl (hb hby at_32) rfl (teq H1).2 ?_
    show Steps p.tables e below (T15.setTop (mkF m 35 #[.val (.int p13), .val (.int ((p13 &&& (2147483647 : Int32)) % (3 : Int32))), .val (.ref w14), .unset] [])) _
    refine XS.iconst X15.here hx rfl (hb hby at_35) ?_
    show Steps p.tables e below (T15.setTop (mkF m 36 #[.val (.int p13), .val (.int ((p13 &&& (2147483647 : Int32)) % (3 : Int32))), .val (.ref w14), .unset] [(.int (1 : Int32))])) _
    refine XS.goto X15.here hx rfl (pc0 := 36) (pc' := 40) rfl (hb hby at_36) (by decide) (by decide) ?_
    show Steps p.tables e below (T15.setTop (mkF m 40 #[.val (.int p13), .val (.int ((p13 &&& (2147483647 : Int32)) % (3 : Int32))), .val (.ref w14), .unset] [(.int (1 : Int32))])) _
    refine XS.istoreN X15.here hx rfl (hb hby at_40) rfl (l' := #[.val (.int p13), .val (.int ((p13 &&& (2147483647 : Int32)) % (3 : Int32))), .val (.ref w14), .val (.int (1 : Int32))]) rfl ?_
    show Steps p.tables e below (T15.setTop (mkF m 41 #[.val (.int p13), .val (.int ((p13 &&& (2147483647 : Int32)) % (3 : Int32))), .val (.ref w14), .val (.int (1 : Int32))] [])) _
    refine st17 _ ?_
    show Steps p.tables e below (T17.setTop (mkF m 44 #[.val (.int p13), .val (.int ((p13 &&& (2147483647 : Int32)) % (3 : Int32))), .val (.ref w14), .val (.int (1 : Int32))] [(.ref w16)])) _
    refine XS.aloadN X17.here hx rfl (hb hby at_44) rfl rfl ?_
    show Steps p.tables e below (T17.setTop (mkF m 45 #[.val (.int p13), .val (.int ((p13 &&& (2147483647 : Int32)) % (3 : Int32))), .val (.ref w14), .val (.int (1 : Int32))] [(.ref w14), (.ref w16)])) _
    refine st22.trans ?_
    show Steps p.tables e below (T22.setTop (mkF m 48 #[.val (.int p13), .val (.int ((p13 &&& (2147483647 : Int32)) % (3 : Int32))), .val (.ref w14), .val (.int (1 : Int32))] [(.int (1 : Int32))])) _
    refine XS.iloadN X22.here hx rfl (hb hby at_48) rfl ?_
    show Steps p.tables e below (T22.setTop (mkF m 49 #[.val (.int p13), .val (.int ((p13 &&& (2147483647 : Int32)) % (3 : Int32))), .val (.ref w14), .val (.int (1 : Int32))] [(.int (1 : Int32)), (.int (1 : Int32))])) _
    refine XS.icmpNo X22.here hx rfl (hb hby at_49) rfl (teq (rfl : (1 : Int32) = (1 : Int32))).2 ?_
    show Steps p.tables e below (T22.setTop (mkF m 52 #[.val (.int p13), .val (.int ((p13 &&& (2147483647 : Int32)) % (3 : Int32))), .val (.ref w14), .val (.int (1 : Int32))] [])) _
    refine XS.iconst X22.here hx rfl (hb hby at_52) ?_
    show Steps p.tables e below (T22.setTop (mkF m 53 #[.val (.int p13), .val (.int ((p13 &&& (2147483647 : Int32)) % (3 : Int32))), .val (.ref w14), .val (.int (1 : Int32))] [(.int (1 : Int32))])) _
    refine XS.goto X22.here hx rfl (pc0 := 53) (pc' := 57) rfl (hb hby at_53) (by decide) (by decide) ?_
    show Steps p.tables e below (T22.setTop (mkF m 57 #[.val (.int p13), .val (.int ((p13 &&& (2147483647 : Int32)) % (3 : Int32))), .val (.ref w14), .val (.int (1 : Int32))] [(.int (1 : Int32))])) _
    exact retN X22 hx (t := .boolean) Bd.returns (by simp) (hb hby at_57) hr
  · show OQl (some (.int (1 : Int32))) n0 _ T22.heap _
    exact ⟨rfl, N22⟩
theorem ef_1_vn (m : MethodId) (x0 : Addr) : entryFrame m #[(.ref x0), .null] 2 = mkF m 0 #[.val (.ref x0), .val .null] [] := by first | (simp [entryFrame, mkF, argsToLocals, Value.category]; done) | rfl
set_option maxRecDepth 65536 in
set_option maxHeartbeats 40000000 in
theorem r1_3 (l : Launch) (Z : State) (a0 : Array Value) (hw : ∀ d ∈ tables_1, d.before a0 Z = true) (a26 : Addr) (w27 : Addr) (h0 : Heap) (n0 : Nat) (Z0 : n0 ≤ h0.size) (H0 : Sta Z h0 "com/example/tranchebook/tranchebook/EarlierPeriod" "PREVIOUS_YEAR" "Lcom/example/tranchebook/tranchebook/EarlierPeriod;" (.ref w27)) :
    OMet l Z (⟨"com/example/tranchebook/tranchebook/PeriodKind", "includesEvery", "(Lcom/example/tranchebook/tranchebook/EarlierPeriod;)Z"⟩ : MethodName) prog_41_method_7_code 2 (some .boolean) [] ({ frames := 0, cells := 0, slots := 0, locals := 0 } : Room) h0 #[(.ref a26), .null] (OQp (some (.int (0 : Int32))) h0 n0) := by
  refine MetFree.of_bodySF (plainFor_of_name pn_com_example_tranchebook_tranchebook_PeriodKind) hisR ?_
  intro p e s m args below meth c s₁ Bd hml0 hP hK
  obtain ⟨rfl, hZ, hh⟩ := hP
  have hx := Bd.exec
  have hby := Bd.bytes
  have hml : c.maxLocals = 2 := hml0
  have hown : s.vm.findClass "com/example/tranchebook/tranchebook/PeriodKind" = some m.cls := findClass_of_methodNamed Bd.named
  have hnm := (name_of_methodNamed Bd.named Bd.method).1
  have X0 : Stand p l e ({ frames := 0, cells := 0, slots := 0, locals := 0 } : Room) s m #[(.ref a26), .null] below meth c s₁ [] 0 0 := Stand.of_body Bd
  have e0 : s₁.heap = h0 := by rw [← hh, Bd.state]; rfl
  have N0 := Fr.nil n0
  have pre0 : ∀ t, Steps p.tables e below (s₁.setTop (mkF m 0 #[.val (.ref a26), .val .null] [])) t → Steps p.tables e below (s₁.setTop (entryFrame m #[(.ref a26), .null] 2)) t := fun t k => castTop (ef_1_vn m a26) k
  obtain ⟨T28, X28, e28, st28⟩ := getS2 X0 hx hZ hown (host := "") (Or.inl (hw _ (List.mem_of_getElem? (i := 12) rfl))) Via.refl e0 H0 (g := (mkF m 1 #[.val (.ref a26), .val .null] [.null])) rfl (hb hby d1_1)
  obtain ⟨fs, hr, hrun, hended, hW, hsame⟩ := X28.leave (v := some (.int (0 : Int32))) (fun h => by rw [Bd.returns] at h; cases h)
  refine ⟨_, _, pre0 _ ?_, hrun, hended, _, _, rfl, ?_, ⟨_, rfl⟩, hW, hsame.mono (by decide) (by decide)⟩
  · show Steps p.tables e below (s₁.setTop (mkF m 0 #[.val (.ref a26), .val .null] [])) _
    refine XS.aloadN X0.here hx rfl (hb hby d1_0) rfl rfl ?_
    show Steps p.tables e below (s₁.setTop (mkF m 1 #[.val (.ref a26), .val .null] [.null])) _
    refine st28 _ ?_
    show Steps p.tables e below (T28.setTop (mkF m 4 #[.val (.ref a26), .val .null] [(.ref w27), .null])) _
    refine Jvm.RoadKit.acmp (g := (mkF m 4 #[.val (.ref a26), .val .null] [(.ref w27), .null])) X28 hx rfl rfl rfl (pc0 := 4) (pc' := 11) (same := false) rfl (hb hby d1_4) rfl (decide_eq_false nofun) (by decide) (by decide) ?_
    show Steps p.tables e below (T28.setTop (mkF m 11 #[.val (.ref a26), .val .null] [])) _
    refine XS.iconst X28.here hx rfl (hb hby d1_11) ?_
    show Steps p.tables e below (T28.setTop (mkF m 12 #[.val (.ref a26), .val .null] [(.int (0 : Int32))])) _
    exact retN X28 hx (t := .boolean) Bd.returns (by simp) (hb hby d1_12) hr
  · show OQp (some (.int (0 : Int32))) h0 n0 _ T28.heap _
    rw [e28]
    exact ⟨rfl, N0, rfl⟩
set_option maxRecDepth 65536 in
set_option maxHeartbeats 40000000 in
theorem r0_3 (l : Launch) (Z : State) (a0 : Array Value) (hw : ∀ d ∈ tables_1, d.before a0 Z = true) (p23 : Int32) (w24 : Addr) (w30 : Addr) (h0 : Heap) (n0 : Nat) (Z0 : n0 ≤ h0.size) (H0 : ¬ (((p23 &&& (2147483647 : Int32)) % (3 : Int32)) = (0 : Int32))) (H1 : ¬ (((p23 &&& (2147483647 : Int32)) % (3 : Int32)) = (1 : Int32))) (H2 : Sta Z h0 "com/example/tranchebook/tranchebook/PeriodKind" "FISCAL_YEAR_END" "Lcom/example/tranchebook/tranchebook/PeriodKind;" (.ref w24)) (H3 : Sta Z h0 "com/example/tranchebook/tranchebook/EarlierPeriod" "PREVIOUS_YEAR" "Lcom/example/tranchebook/tranchebook/EarlierPeriod;" (.ref w30)) (H4 : Exa Z h0 w24 "com/example/tranchebook/tranchebook/PeriodKind") :
    OMet l Z x code maxLocals ret tables_1 room_1 h0 #[(.int p23)] (OQl (some (.int (1 : Int32))) n0) := by
  refine MetFree.of_bodySF (plainFor_of_name pn_com_example_tranchebook_tranchebook_PeriodKindIncludesEveryPinLaw) hisR ?_
  intro p e s m args below meth c s₁ Bd hml0 hP hK
  obtain ⟨rfl, hZ, hh⟩ := hP
  have hx := Bd.exec
  have hby := Bd.bytes
  have hml : c.maxLocals = 4 := hml0
  have hown : s.vm.findClass "com/example/tranchebook/tranchebook/PeriodKindIncludesEveryPinLaw" = some m.cls := findClass_of_methodNamed Bd.named
  have hnm := (name_of_methodNamed Bd.named Bd.method).1
  have X0 : Stand p l e room_1 s m #[(.int p23)] below meth c s₁ [] 0 0 := Stand.of_body Bd
  have e0 : s₁.heap = h0 := by rw [← hh, Bd.state]; rfl
  have N0 := Fr.nil n0
  have pre0 : ∀ t, Steps p.tables e below (s₁.setTop (mkF m 0 #[.val (.int p23), .unset, .unset, .unset] [])) t → Steps p.tables e below (s₁.setTop (entryFrame m #[(.int p23)] maxLocals)) t := fun t k => castTop (ef_0_v m p23) k
  obtain ⟨T25, X25, e25, st25⟩ := getS2 X0 hx hZ hown (host := "") (Or.inl (hw _ (List.mem_of_getElem? (i := 4) rfl))) Via.refl e0 H2 (g := (mkF m 41 #[.val (.int p23), .val (.int ((p23 &&& (2147483647 : Int32)) % (3 : Int32))), .val .null, .val (.int (0 : Int32))] [])) rfl (hb hby at_41)
  obtain ⟨cq29, kq29, q29a, q29b, q29c⟩ := isOf hZ e25 H4
  obtain ⟨_, _, ⟨T29, L29, k29, n29⟩, -, X29, ⟨Lc29, hQ29, l29, y29, z29⟩, st29⟩ := X25.virtualBack hx (y := (⟨"com/example/tranchebook/tranchebook/PeriodKind", "includesEvery", "(Lcom/example/tranchebook/tranchebook/EarlierPeriod;)Z"⟩ : MethodName)) (z := (⟨"com/example/tranchebook/tranchebook/PeriodKind", "includesEvery", "(Lcom/example/tranchebook/tranchebook/EarlierPeriod;)Z"⟩ : MethodName)) hown (mvT hZ (hw _ (List.mem_of_getElem? (i := 7) rfl))) (mvT hZ (hw _ (List.mem_of_getElem? (i := 8) rfl))) (notFace_of_selects (args := #[]) (mvT hZ (hw _ (List.mem_of_getElem? (i := 10) rfl)))) (mvT hZ (hw _ (List.mem_of_getElem? (i := 10) rfl))) (mvT hZ (hw _ (List.mem_of_getElem? (i := 9) rfl))) (by decide) (backOf (W := 0) (r1_3 l Z a0 hw w24 w30 h0 n0 Z0 H3) hZ (hw _ (List.mem_of_getElem? (i := 11) rfl)) (hw _ (List.mem_of_getElem? (i := 5) rfl)) (by decide) (by decide)) q29a q29c (g := (mkF m 45 #[.val (.int p23), .val (.int ((p23 &&& (2147483647 : Int32)) % (3 : Int32))), .val .null, .val (.int (0 : Int32))] [.null, (.ref w24)])) rfl (by rw [hml]; rfl) (Steps.refl _) (argsL := [.null]) (rest := []) (lenOf pd_0 rfl) rfl (by show 2 * 0 + _ ≤ _; exact Nat.le_of_eq rfl) (hb hby at_45) (fun _ _ => ⟨rfl, e25, (by decide : 0 + 0 ≤ _), (by decide : 0 + 0 ≤ _)⟩)
  dsimp only [Pt.U, Pt.locs, Pt.cells, Pt.slots] at X29 l29 y29 z29 st29 hQ29
  subst l29 y29 z29
  obtain ⟨rfl, N29q, e29⟩ := hQ29
  have N29 := Fr.app N0 N29q
  obtain ⟨fs, hr, hrun, hended, hW, hsame⟩ := X29.leave (v := some (.int (1 : Int32))) (fun h => by rw [Bd.returns] at h; cases h)
  refine ⟨_, _, pre0 _ ?_, hrun, hended, _, _, rfl, ?_, ⟨_, rfl⟩, hW, hsame.mono (by decide) (by decide)⟩
  · show Steps p.tables e below (s₁.setTop (mkF m 0 #[.val (.int p23), .unset, .unset, .unset] [])) _
    refine XS.iloadN X0.here hx rfl (hb hby at_0) rfl ?_
    show Steps p.tables e below (s₁.setTop (mkF m 1 #[.val (.int p23), .unset, .unset, .unset] [(.int p23)])) _
    refine X0.ldcInt hx hown (mvT hZ (hw _ (List.mem_of_getElem? (i := 0) rfl))) (g := (mkF m 1 #[.val (.int p23), .unset, .unset, .unset] [(.int p23)])) rfl (hb hby at_1) _ ?_
    show Steps p.tables e below (s₁.setTop (mkF m 3 #[.val (.int p23), .unset, .unset, .unset] [(.int (2147483647 : Int32)), (.int p23)])) _
    refine XS.iand X0.here hx rfl (hb hby at_3) rfl ?_
    show Steps p.tables e below (s₁.setTop (mkF m 4 #[.val (.int p23), .unset, .unset, .unset] [(.int (p23 &&& (2147483647 : Int32)))])) _
    refine XS.iconst X0.here hx rfl (hb hby at_4) ?_
    show Steps p.tables e below (s₁.setTop (mkF m 5 #[.val (.int p23), .unset, .unset, .unset] [(.int (3 : Int32)), (.int (p23 &&& (2147483647 : Int32)))])) _
    refine iremM X0 hx rfl (hb hby at_5) rfl (by decide) ?_
    show Steps p.tables e below (s₁.setTop (mkF m 6 #[.val (.int p23), .unset, .unset, .unset] [(.int ((p23 &&& (2147483647 : Int32)) % (3 : Int32)))])) _
    refine XS.istoreN X0.here hx rfl (hb hby at_6) rfl (l' := #[.val (.int p23), .val (.int ((p23 &&& (2147483647 : Int32)) % (3 : Int32))), .unset, .unset]) rfl ?_
    show Steps p.tables e below (s₁.setTop (mkF m 7 #[.val (.int p23), .val (.int ((p23 &&& (2147483647 : Int32)) % (3 : Int32))), .unset, .unset] [])) _
    refine XS.iloadN X0.here hx rfl (hb hby at_7) rfl ?_
    show Steps p.tables e below (s₁.setTop (mkF m 8 #[.val (.int p23), .val (.int ((p23 &&& (2147483647 : Int32)) % (3 : Int32))), .unset, .unset] [(.int ((p23 &&& (2147483647 : Int32)) % (3 : Int32)))])) _
    refine XS.ifYes X0.here hx rfl (pc0 := 8) (pc' := 17) rfl (hb hby at_8) rfl ((if0 _ _).trans (feq H0).2) (by decide) (by decide) ?_
    show Steps p.tables e below (s₁.setTop (mkF m 17 #[.val (.int p23), .val (.int ((p23 &&& (2147483647 : Int32)) % (3 : Int32))), .unset, .unset] [])) _
    refine XS.iloadN X0.here hx rfl (hb hby at_17) rfl ?_
    show Steps p.tables e below (s₁.setTop (mkF m 18 #[.val (.int p23), .val (.int ((p23 &&& (2147483647 : Int32)) % (3 : Int32))), .unset, .unset] [(.int ((p23 &&& (2147483647 : Int32)) % (3 : Int32)))])) _
    refine XS.iconst X0.here hx rfl (hb hby at_18) ?_
    show Steps p.tables e below (s₁.setTop (mkF m 19 #[.val (.int p23), .val (.int ((p23 &&& (2147483647 : Int32)) % (3 : Int32))), .unset, .unset] [(.int (1 : Int32)), (.int ((p23 &&& (2147483647 : Int32)) % (3 : Int32)))])) _
    refine XS.icmpYes X0.here hx rfl (pc0 := 19) (pc' := 28) rfl (hb hby at_19) rfl (feq H1).2 (by decide) (by decide) ?_
    show Steps p.tables e below (s₁.setTop (mkF m 28 #[.val (.int p23), .val (.int ((p23 &&& (2147483647 : Int32)) % (3 : Int32))), .unset, .unset] [])) _
    refine XS.aconstNull X0.here hx rfl (hb hby at_28) ?_
    show Steps p.tables e below (s₁.setTop (mkF m 29 #[.val (.int p23), .val (.int ((p23 &&& (2147483647 : Int32)) % (3 : Int32))), .unset, .unset] [.null])) _
    refine XS.astoreN X0.here hx rfl (hb hby at_29) rfl rfl (l' := #[.val (.int p23), .val (.int ((p23 &&& (2147483647 : Int32)) % (3 : Int32))), .val .null, .unset]) rfl ?_
    show Steps p.tables e below (s₁.setTop (mkF m 30 #[.val (.int p23), .val (.int ((p23 &&& (2147483647 : Int32)) % (3 : Int32))), .val .null, .unset] [])) _
    refine XS.iloadN X0.here hx rfl (hb hby at_30) rfl ?_
    show Steps p.tables e below (s₁.setTop (mkF m 31 #[.val (.int p23), .val (.int ((p23 &&& (2147483647 : Int32)) % (3 : Int32))), .val .null, .unset] [(.int ((p23 &&& (2147483647 : Int32)) % (3 : Int32)))])) _
    refine XS.iconst X0.here hx rfl (hb hby at_31) ?_
    show Steps p.tables e below (s₁.setTop (mkF m 32 #[.val (.int p23), .val (.int ((p23 &&& (2147483647 : Int32)) % (3 : Int32))), .val .null, .unset] [(.int (1 : Int32)), (.int ((p23 &&& (2147483647 : Int32)) % (3 : Int32)))])) _
    refine XS.icmpYes X0.here hx rfl (pc0 := 32) (pc' := 39) rfl (hb hby at_32) rfl (feq H1).2 (by decide) (by decide) ?_
    show Steps p.tables e below (s₁.setTop (mkF m 39 #[.val (.int p23), .val (.int ((p23 &&& (2147483647 : Int32)) % (3 : Int32))), .val .null, .unset] [])) _
    refine XS.iconst X0.here hx rfl (hb hby at_39) ?_
    show Steps p.tables e below (s₁.setTop (mkF m 40 #[.val (.int p23), .val (.int ((p23 &&& (2147483647 : Int32)) % (3 : Int32))), .val .null, .unset] [(.int (0 : Int32))])) _
    refine XS.istoreN X0.here hx rfl (hb hby at_40) rfl (l' := #[.val (.int p23), .val (.int ((p23 &&& (2147483647 : Int32)) % (3 : Int32))), .val .null, .val (.int (0 : Int32))]) rfl ?_
    show Steps p.tables e below (s₁.setTop (mkF m 41 #[.val (.int p23), .val (.int ((p23 &&& (2147483647 : Int32)) % (3 : Int32))), .val .null, .val (.int (0 : Int32))] [])) _
    refine st25 _ ?_
    show Steps p.tables e below (T25.setTop (mkF m 44 #[.val (.int p23), .val (.int ((p23 &&& (2147483647 : Int32)) % (3 : Int32))), .val .null, .val (.int (0 : Int32))] [(.ref w24)])) _
    refine XS.aloadN X25.here hx rfl (hb hby at_44) rfl rfl ?_
    show Steps p.tables e below (T25.setTop (mkF m 45 #[.val (.int p23), .val (.int ((p23 &&& (2147483647 : Int32)) % (3 : Int32))), .val .null, .val (.int (0 : Int32))] [.null, (.ref w24)])) _
    refine st29.trans ?_
    show Steps p.tables e below (T29.setTop (mkF m 48 #[.val (.int p23), .val (.int ((p23 &&& (2147483647 : Int32)) % (3 : Int32))), .val .null, .val (.int (0 : Int32))] [(.int (0 : Int32))])) _
    refine XS.iloadN X29.here hx rfl (hb hby at_48) rfl ?_
    show Steps p.tables e below (T29.setTop (mkF m 49 #[.val (.int p23), .val (.int ((p23 &&& (2147483647 : Int32)) % (3 : Int32))), .val .null, .val (.int (0 : Int32))] [(.int (0 : Int32)), (.int (0 : Int32))])) _
    refine XS.icmpNo X29.here hx rfl (hb hby at_49) rfl (teq (rfl : (0 : Int32) = (0 : Int32))).2 ?_
    show Steps p.tables e below (T29.setTop (mkF m 52 #[.val (.int p23), .val (.int ((p23 &&& (2147483647 : Int32)) % (3 : Int32))), .val .null, .val (.int (0 : Int32))] [])) _
    refine XS.iconst X29.here hx rfl (hb hby at_52) ?_
    show Steps p.tables e below (T29.setTop (mkF m 53 #[.val (.int p23), .val (.int ((p23 &&& (2147483647 : Int32)) % (3 : Int32))), .val .null, .val (.int (0 : Int32))] [(.int (1 : Int32))])) _
    refine XS.goto X29.here hx rfl (pc0 := 53) (pc' := 57) rfl (hb hby at_53) (by decide) (by decide) ?_
    show Steps p.tables e below (T29.setTop (mkF m 57 #[.val (.int p23), .val (.int ((p23 &&& (2147483647 : Int32)) % (3 : Int32))), .val .null, .val (.int (0 : Int32))] [(.int (1 : Int32))])) _
    exact retN X29 hx (t := .boolean) Bd.returns (by simp) (hb hby at_57) hr
  · show OQl (some (.int (1 : Int32))) n0 _ T29.heap _
    exact ⟨rfl, N29⟩
set_option maxRecDepth 65536 in
set_option maxHeartbeats 40000000 in
theorem comes_1 {Post : Tables → Env → Array Value → State → Outcome → State → Prop} (hpost : ∀ tb e args s v u, (limb_1_1.after args s (.returned v) u = true ∧ limb_1_2.after args s (.returned v) u = true ∧ True) → FrameEnd s (.returned v) u (Jvm.fieldLocs frame_1_writes args s ++ Jvm.arrayLocs frame_1_arrays args s ++ Jvm.staticLocs frame_1_statics s) 0 0 → Post tb e args s (.returned v) u) :
    ArmFor flags0 classFile x code maxLocals ret World_1 tables_1 room_1 Calls_1 rest_1 Pre_1 Post := by
  intro l hfl _ _ p e ha hc hk s m args below hf hA hF happ hP
  obtain ⟨hcalls, hrest, hpre⟩ := hP
  obtain ⟨-, -, -, hnamed, -, -, -, hat⟩ := (Spec.applies_iff hf).mp happ
  obtain ⟨hg, hn⟩ := and_e (Cond.before_iff.mp (show (Jvm.Cond.and given_1 narrow_1).before args s = true from hpre))
  obtain ⟨gg0, gr0⟩ := and_e hg
  obtain ⟨w0, rfl⟩ : ∃ w0 : Value, args = #[w0] := by
    have hs : args.size = 1 := by simpa [Cond.value, given_1] using gg0
    obtain ⟨L⟩ := args
    match L, hs with
    | [w0], _ => exact ⟨w0, rfl⟩
  have hw := fun d (hd : d ∈ tables_1) => atoms_spec (ws := Jvm.Cond.code x code maxLocals ret :: tables_1) hat d (List.mem_cons_of_mem _ hd)
  have hfit : Fit s := fun {y c} hc i hi => by
    obtain ⟨ha, rfl⟩ := Array.getElem?_eq_some_iff.mp hc
    have q := List.all_eq_true.mp ((Array.all_eq_true_iff_forall_mem.mp hF) _ (Array.getElem_mem ha)) i (List.mem_range.mpr hi)
    simpa [Array.getElem?_eq_getElem hi] using q
  obtain ⟨i0, ei0⟩ := is_v gr0
  obtain rfl : w0 = (.int i0) := Option.some.inj ei0
  obtain ⟨hn1, hn2⟩ := and_e hn
  obtain ⟨hn3, hn4⟩ := and_e hn2
  obtain ⟨w_c5, ev_c5⟩ := exa_v hn1
  have E_c5 := Exa.start ev_c5 hn1
  have S_c5 := Sta.start ev_c5 (Or.inr ⟨(hw _ (List.mem_of_getElem? (i := 2) rfl)), (hw _ (List.mem_of_getElem? (i := 3) rfl))⟩)
  obtain ⟨w_c6, ev_c6⟩ := exa_v hn3
  have E_c6 := Exa.start ev_c6 hn3
  have S_c6 := Sta.start ev_c6 (Or.inr ⟨(hw _ (List.mem_of_getElem? (i := 5) rfl)), (hw _ (List.mem_of_getElem? (i := 6) rfl))⟩)
  obtain ⟨w_c7, ev_c7⟩ := exa_v hn4
  have E_c7 := Exa.start ev_c7 hn4
  have S_c7 := Sta.start ev_c7 (Or.inr ⟨(hw _ (List.mem_of_getElem? (i := 2) rfl)), (hw _ (List.mem_of_getElem? (i := 13) rfl))⟩)
  suffices M : OMet l s x code maxLocals ret tables_1 room_1 s.heap #[(.int i0)] (OQl (some (.int (1 : Int32))) s.heap.size) by
    obtain ⟨n, o, h1, h2, h3, _, L, rfl, ⟨rfl, N⟩, hq⟩ := M p e ha hc hk s m _ below hf ((Spec.applies_iff_loose hf).mp happ).1 ⟨rfl, State.Warmed39.refl s, rfl⟩ trivial
    exact ⟨n, _, h1, h2, h3, hpost _ _ _ _ _ _ ⟨Cond.after_iff.mpr rfl, Cond.after_iff.mpr (eq_i res_at (Term.int_eval (1)) rfl), trivial⟩ ⟨hq.1, hq.2.1, (hq.2.2.sift fun y hy => Or.inr (N y hy)).mono (by decide) (by decide)⟩⟩
  have hm_hq : ((i0 &&& (2147483647 : Int32)) % (3 : Int32)) = (0 : Int32) ∨ ((i0 &&& (2147483647 : Int32)) % (3 : Int32)) = (1 : Int32) ∨ ((i0 &&& (2147483647 : Int32)) % (3 : Int32)) = (2 : Int32) := by
    obtain ⟨q1, q2⟩ := own_mod i0 (3 : Int32) (by decide)
    have q3 : (3 : Int32).toInt = 3 := by decide
    rw [q3] at q2
    generalize ((i0 &&& (2147483647 : Int32)) % (3 : Int32)) = z at q1 q2 ⊢
    have q4 : z.toInt = 0 ∨ z.toInt = 1 ∨ z.toInt = 2 := by omega
    rcases q4 with q | q | q <;> simp [← Int32.toInt_inj, q]
  rcases hm_hq with hq | hq | hq
  · exact r0_1 l s _ hw i0 w_c5 w_c6 w_c7 s.heap s.heap.size (Nat.le_refl _) (by rw [hq] <;> decide) S_c5 (by rw [hq] <;> decide) S_c6 S_c7 E_c5 E_c7 E_c6
  · exact r0_2 l s _ hw i0 w_c7 w_c6 s.heap s.heap.size (Nat.le_refl _) (by rw [hq] <;> decide) (by rw [hq] <;> decide) S_c7 S_c6 E_c6
  · exact r0_3 l s _ hw i0 w_c6 w_c7 s.heap s.heap.size (Nat.le_refl _) (by rw [hq] <;> decide) (by rw [hq] <;> decide) S_c6 S_c7 E_c6
theorem main_1_1 : Claimed_1_1 := comes_1 fun _ _ _ _ _ _ h hF => ⟨h.1, hF⟩
theorem main_1_2 : Claimed_1_2 := comes_1 fun _ _ _ _ _ _ h hF => ⟨h.2.1, hF⟩
end Jvm.Pilot.@@N@@
namespace Jvm.Pilot.@@N@@
open Jvm Jvm.ClassFile Sem Op Lib Jvm.Free Jvm.Stand Jvm.Pilot.@@N@@.Jvm.D
/-! MADE BY PROGRAM (witnessworld.py) out of the Statement's table words and the real class files: 15 classes; the members and pool entries that the words name. The judged class is class 1, her method 1. -/
namespace start1
open Jvm.ClassFile
def u (s : String) : CpInfo := .utf8 (stringToUtf16 s)
/-- a pool by its gaps: so many unusable entries, then the entry; so many at the end -/
def gap : Nat → List CpInfo → List CpInfo
  | 0, r => r
  | n + 1, r => .unusable :: gap n r
def poolList (es : List (Nat × CpInfo)) (last : Nat) : List CpInfo := es.foldr (fun e r => gap e.1 (e.2 :: r)) (gap last [])
def pool (es : List (Nat × CpInfo)) (last : Nat) : Array CpInfo := ⟨poolList es last⟩
def fileOf (pool : Array CpInfo) (this : Nat) (attrs : Array Attribute := #[]) (ms : Array MethodInfo := #[]) (fl : Nat := 33) (sup : Nat := 0) (ifs : Array Nat := #[]) (fds : Array FieldInfo := #[]) : ClassFile where
  minorVersion := 0
  majorVersion := 65
  constantPool := pool
  accessFlags := fl
  thisClass := this
  superClass := sup
  interfaces := ifs
  fields := fds
  methods := ms
  attributes := attrs
def plain (name : String) (sup : Option ClassId) : Class where
  name := name
  kind := .ordinary
  loader := none
  accessFlags := 33
  super := sup
  interfaces := #[]
  cf := none
  fields := #[]
  methods := #[]
  instanceTypes := #[]
  staticTypes := #[]
  resolved := #[]
  callSites := []
  init := .initialized
  statics := none
  mirror := none

def pool0 : Array CpInfo := pool [(5, u "<init>"), (0, u "()V"), (1, .class_ 10), (1, u "java/lang/Object")] 113

def k0m0 : Method := { name := "<init>", desc := "()V", sig := { parameters := [], returnType := none }, accessFlags := 1, code := none }
/-- java/lang/Object -/
def k0 : Class := { plain "java/lang/Object" none with
  accessFlags := 33
  interfaces := #[]
  cf := some (fileOf pool0 8 #[] #[{ accessFlags := 1, nameIndex := 5, descriptorIndex := 6, attributes := #[] }] 33 0 #[] #[])
  fields := #[]
  methods := #[k0m0]
  instanceTypes := #[]
  staticTypes := #[]
  resolved := Array.replicate 124 none
  statics := none }

def pool1 : Array CpInfo := pool [(2, .class_ 4), (1, u "java/lang/Object"), (0, u "<init>"), (0, u "()V"), (0, .integer 2147483647), (0, .fieldref 9 10), (0, .class_ 11), (0, .nameAndType 12 13), (0, u "com/example/tranchebook/tranchebook/EarlierPeriod"), (0, u "PREVIOUS_QUARTER"), (0, u "Lcom/example/tranchebook/tranchebook/EarlierPeriod;"), (0, .fieldref 9 15), (0, .nameAndType 16 13), (0, u "PREVIOUS_YEAR"), (0, .fieldref 18 19), (0, .class_ 20), (0, .nameAndType 21 22), (0, u "com/example/tranchebook/tranchebook/PeriodKind"), (0, u "FISCAL_YEAR_END"), (0, u "Lcom/example/tranchebook/tranchebook/PeriodKind;"), (0, .methodref 18 24), (0, .nameAndType 25 26), (0, u "includesEvery"), (0, u "(Lcom/example/tranchebook/tranchebook/EarlierPeriod;)Z"), (0, .class_ 28), (0, u "com/example/tranchebook/tranchebook/PeriodKindIncludesEveryPinLaw"), (2, u "law"), (0, u "(I)Z")] 3

def k1m0 : Method := { name := "<init>", desc := "()V", sig := { parameters := [], returnType := none }, accessFlags := 1, code := none }
def k1c1 : Code := { maxStack := 2, maxLocals := 4, code := code, exceptionTable := #[], attributes := #[] }
def k1m1 : Method := { name := "law", desc := "(I)Z", sig := { parameters := [.int], returnType := some .boolean }, accessFlags := 9, code := some k1c1 }
/-- com/example/tranchebook/tranchebook/PeriodKindIncludesEveryPinLaw -/
def k1 : Class := { plain "com/example/tranchebook/tranchebook/PeriodKindIncludesEveryPinLaw" (some 0) with
  accessFlags := 49
  interfaces := #[]
  cf := some (fileOf pool1 27 #[] #[{ accessFlags := 1, nameIndex := 5, descriptorIndex := 6, attributes := #[] }, { accessFlags := 9, nameIndex := 31, descriptorIndex := 32, attributes := #[] }] 49 2 #[] #[])
  fields := #[]
  methods := #[k1m0, k1m1]
  instanceTypes := #[]
  staticTypes := #[]
  resolved := Array.replicate 36 none
  statics := none }

def pool2 : Array CpInfo := pool [(1, .class_ 2), (0, u "java/lang/constant/Constable"), (0, .class_ 4), (0, u "java/lang/Object")] 6

/-- java/lang/constant/Constable -/
def k2 : Class := { plain "java/lang/constant/Constable" (some 0) with
  accessFlags := 1537
  interfaces := #[]
  cf := some (fileOf pool2 1 #[] #[] 1537 3 #[] #[])
  fields := #[]
  methods := #[]
  instanceTypes := #[]
  staticTypes := #[]
  resolved := Array.replicate 11 none
  statics := none }

def pool3 : Array CpInfo := pool [(1, .class_ 2), (0, u "java/lang/Comparable"), (0, .class_ 4), (0, u "java/lang/Object")] 7

/-- java/lang/Comparable -/
def k3 : Class := { plain "java/lang/Comparable" (some 0) with
  accessFlags := 1537
  interfaces := #[]
  cf := some (fileOf pool3 1 #[] #[] 1537 3 #[] #[])
  fields := #[]
  methods := #[]
  instanceTypes := #[]
  staticTypes := #[]
  resolved := Array.replicate 12 none
  statics := none }

def pool4 : Array CpInfo := pool [(1, .class_ 2), (0, u "java/io/Serializable"), (0, .class_ 4), (0, u "java/lang/Object")] 2

/-- java/io/Serializable -/
def k4 : Class := { plain "java/io/Serializable" (some 0) with
  accessFlags := 1537
  interfaces := #[]
  cf := some (fileOf pool4 1 #[] #[] 1537 3 #[] #[])
  fields := #[]
  methods := #[]
  instanceTypes := #[]
  staticTypes := #[]
  resolved := Array.replicate 7 none
  statics := none }

def pool5 : Array CpInfo := pool [(2, .class_ 4), (1, u "java/lang/Enum"), (0, u "name"), (0, u "Ljava/lang/String;"), (2, u "ordinal"), (0, u "I"), (1, .class_ 14), (1, u "java/lang/Object"), (4, u "hash"), (86, .class_ 108), (1, u "java/lang/Enum$EnumDesc"), (2, .class_ 112), (0, u "java/lang/constant/Constable"), (0, .class_ 114), (0, u "java/lang/Comparable"), (0, .class_ 116), (0, u "java/io/Serializable")] 87

/-- java/lang/Enum -/
def k5 : Class := { plain "java/lang/Enum" (some 0) with
  accessFlags := 1057
  interfaces := #[2, 3, 4]
  cf := some (fileOf pool5 2 #[.nestMembers #[106]] #[] 1057 12 #[111, 113, 115] #[{ accessFlags := 18, nameIndex := 5, descriptorIndex := 6, attributes := #[] }, { accessFlags := 18, nameIndex := 9, descriptorIndex := 10, attributes := #[] }, { accessFlags := 2, nameIndex := 19, descriptorIndex := 10, attributes := #[] }])
  fields := #[{ name := "name", type := (.object "java/lang/String"), accessFlags := 18, slot := 0, constantValue := 0 }, { name := "ordinal", type := .int, accessFlags := 18, slot := 1, constantValue := 0 }, { name := "hash", type := .int, accessFlags := 2, slot := 2, constantValue := 0 }]
  methods := #[]
  instanceTypes := #[(.object "java/lang/String"), .int, .int]
  staticTypes := #[]
  resolved := Array.replicate 204 none
  statics := none }

def pool6 : Array CpInfo := pool [(1, .class_ 2), (0, u "com/example/tranchebook/tranchebook/EarlierPeriod"), (2, u "PREVIOUS_QUARTER"), (0, u "Lcom/example/tranchebook/tranchebook/EarlierPeriod;"), (2, u "PREVIOUS_YEAR"), (2, u "$VALUES"), (0, u "[Lcom/example/tranchebook/tranchebook/EarlierPeriod;"), (6, .class_ 22), (1, u "java/lang/Enum"), (6, .class_ 30), (0, u "com/example/tranchebook/tranchebook/EarlierPeriod$1"), (2, .class_ 34), (0, u "com/example/tranchebook/tranchebook/EarlierPeriod$2")] 22

/-- com/example/tranchebook/tranchebook/EarlierPeriod -/
def k6 : Class := { plain "com/example/tranchebook/tranchebook/EarlierPeriod" (some 5) with
  accessFlags := 17440
  interfaces := #[]
  cf := some (fileOf pool6 1 #[.nestMembers #[33, 29]] #[] 17440 20 #[] #[{ accessFlags := 16409, nameIndex := 5, descriptorIndex := 6, attributes := #[] }, { accessFlags := 16409, nameIndex := 9, descriptorIndex := 6, attributes := #[] }, { accessFlags := 4122, nameIndex := 12, descriptorIndex := 13, attributes := #[] }])
  fields := #[{ name := "PREVIOUS_QUARTER", type := (.object "com/example/tranchebook/tranchebook/EarlierPeriod"), accessFlags := 16409, slot := 0, constantValue := 0 }, { name := "PREVIOUS_YEAR", type := (.object "com/example/tranchebook/tranchebook/EarlierPeriod"), accessFlags := 16409, slot := 1, constantValue := 0 }, { name := "$VALUES", type := (.array (.object "com/example/tranchebook/tranchebook/EarlierPeriod")), accessFlags := 4122, slot := 2, constantValue := 0 }]
  methods := #[]
  instanceTypes := #[(.object "java/lang/String"), .int, .int]
  staticTypes := #[(.object "com/example/tranchebook/tranchebook/EarlierPeriod"), (.object "com/example/tranchebook/tranchebook/EarlierPeriod"), (.array (.object "com/example/tranchebook/tranchebook/EarlierPeriod"))]
  resolved := Array.replicate 57 none
  statics := some 0 }

def pool7 : Array CpInfo := pool [(1, .class_ 2), (0, u "com/example/tranchebook/tranchebook/PeriodKind"), (2, u "FISCAL_YEAR_END"), (0, u "Lcom/example/tranchebook/tranchebook/PeriodKind;"), (2, u "$VALUES"), (0, u "[Lcom/example/tranchebook/tranchebook/PeriodKind;"), (6, .class_ 19), (1, u "java/lang/Enum"), (8, u "name"), (0, u "Ljava/lang/String;"), (2, u "words"), (6, .fieldref 40 41), (0, .class_ 42), (0, .nameAndType 43 44), (0, u "com/example/tranchebook/tranchebook/EarlierPeriod"), (0, u "PREVIOUS_YEAR"), (0, u "Lcom/example/tranchebook/tranchebook/EarlierPeriod;"), (24, u "includesEvery"), (0, u "(Lcom/example/tranchebook/tranchebook/EarlierPeriod;)Z")] 6

def k7c0 : Code := { maxStack := 2, maxLocals := 2, code := prog_41_method_7_code, exceptionTable := #[], attributes := #[] }
def k7m0 : Method := { name := "includesEvery", desc := "(Lcom/example/tranchebook/tranchebook/EarlierPeriod;)Z", sig := { parameters := [(.object "com/example/tranchebook/tranchebook/EarlierPeriod")], returnType := some .boolean }, accessFlags := 0, code := some k7c0 }
/-- com/example/tranchebook/tranchebook/PeriodKind -/
def k7 : Class := { plain "com/example/tranchebook/tranchebook/PeriodKind" (some 5) with
  accessFlags := 16433
  interfaces := #[]
  cf := some (fileOf pool7 1 #[] #[{ accessFlags := 0, nameIndex := 69, descriptorIndex := 70, attributes := #[] }] 16433 17 #[] #[{ accessFlags := 16409, nameIndex := 5, descriptorIndex := 6, attributes := #[] }, { accessFlags := 18, nameIndex := 28, descriptorIndex := 29, attributes := #[] }, { accessFlags := 18, nameIndex := 32, descriptorIndex := 29, attributes := #[] }, { accessFlags := 4122, nameIndex := 9, descriptorIndex := 10, attributes := #[] }])
  fields := #[{ name := "FISCAL_YEAR_END", type := (.object "com/example/tranchebook/tranchebook/PeriodKind"), accessFlags := 16409, slot := 0, constantValue := 0 }, { name := "name", type := (.object "java/lang/String"), accessFlags := 18, slot := 3, constantValue := 0 }, { name := "words", type := (.object "java/lang/String"), accessFlags := 18, slot := 4, constantValue := 0 }, { name := "$VALUES", type := (.array (.object "com/example/tranchebook/tranchebook/PeriodKind")), accessFlags := 4122, slot := 1, constantValue := 0 }]
  methods := #[k7m0]
  instanceTypes := #[(.object "java/lang/String"), .int, .int, (.object "java/lang/String"), (.object "java/lang/String")]
  staticTypes := #[(.object "com/example/tranchebook/tranchebook/PeriodKind"), (.array (.object "com/example/tranchebook/tranchebook/PeriodKind"))]
  resolved := Array.replicate 77 none
  statics := some 1 }

def pool8 : Array CpInfo := pool [(2, .class_ 4), (1, u "com/example/tranchebook/tranchebook/EarlierPeriod"), (8, .class_ 14), (0, u "com/example/tranchebook/tranchebook/EarlierPeriod$1")] 10

/-- com/example/tranchebook/tranchebook/EarlierPeriod$1 -/
def k8 : Class := { plain "com/example/tranchebook/tranchebook/EarlierPeriod$1" (some 6) with
  accessFlags := 16432
  interfaces := #[]
  cf := some (fileOf pool8 13 #[.nestHost 2] #[] 16432 2 #[] #[])
  fields := #[]
  methods := #[]
  instanceTypes := #[(.object "java/lang/String"), .int, .int]
  staticTypes := #[]
  resolved := Array.replicate 25 none
  statics := none }

def pool9 : Array CpInfo := pool [(2, .class_ 4), (1, u "com/example/tranchebook/tranchebook/EarlierPeriod"), (11, .class_ 17), (0, u "com/example/tranchebook/tranchebook/EarlierPeriod$2")] 10

/-- com/example/tranchebook/tranchebook/EarlierPeriod$2 -/
def k9 : Class := { plain "com/example/tranchebook/tranchebook/EarlierPeriod$2" (some 6) with
  accessFlags := 16432
  interfaces := #[]
  cf := some (fileOf pool9 16 #[.nestHost 2] #[] 16432 2 #[] #[])
  fields := #[]
  methods := #[]
  instanceTypes := #[(.object "java/lang/String"), .int, .int]
  staticTypes := #[]
  resolved := Array.replicate 28 none
  statics := none }

def pool10 : Array CpInfo := pool [(1, u "java/lang/Cloneable"), (0, .class_ 1), (0, u "java/lang/Object"), (0, .class_ 3)] 3

/-- java/lang/Cloneable -/
def k10 : Class := { plain "java/lang/Cloneable" (some 0) with
  accessFlags := 1537
  interfaces := #[]
  cf := some (fileOf pool10 2 #[] #[] 1537 4 #[] #[])
  fields := #[]
  methods := #[]
  instanceTypes := #[]
  staticTypes := #[]
  resolved := Array.replicate 8 none
  statics := none }

/-- the primitive byte -/
def k11 : Class := { plain "byte" none with kind := .primitive 'B', accessFlags := 0x411 }
/-- [B -/
def k12 : Class := { plain "[B" (some 0) with kind := .array 11 .byte, interfaces := #[10, 4], accessFlags := 1041 }

/-- the primitive int -/
def k13 : Class := { plain "int" none with kind := .primitive 'I', accessFlags := 0x411 }
/-- [I -/
def k14 : Class := { plain "[I" (some 0) with kind := .array 13 .int, interfaces := #[10, 4], accessFlags := 1041 }

def heap : Heap := #[{ cls := 6, slots := #[.ref 2, .ref 4, .null], vm := .statics 6 },
  { cls := 7, slots := #[.ref 3, .null], vm := .statics 7 },
  { cls := 8, slots := #[.null, .int 0, .int 0], vm := .none },
  { cls := 7, slots := #[.null, .int 0, .int 0, .null, .null], vm := .none },
  { cls := 9, slots := #[.null, .int 0, .int 0], vm := .none }]
def classes : Array Class := #[k0, k1, k2, k3, k4, k5, k6, k7, k8, k9, k10, k11, k12, k13, k14]
def interned : List (Array UInt16 × Addr) := []
def slotsUsed : Nat := 16
def theMethod : MethodId := ⟨1, 1⟩
def args0 : Array Value := #[.int 5]
def aboutOver (below : List Frame) : State where
  vm := { classes := classes, interned := interned.toArray }
  heap := heap
  slotsUsed := slotsUsed
  threads := #[{ frames := .invoking theMethod args0 :: below }]
def below0 : List Frame := [.native { method := ⟨0, 0⟩, args := #[] }]
def about1 : State := aboutOver below0
def p0 : Program := .bare "" "" ""
def e0 : Env := launch0.env 0 0 0
theorem w_frames : about1.frames = Frame.invoking theMethod args0 :: below0 := rfl
set_option maxRecDepth 65536 in
theorem w_args : argsFit about1.vm theMethod args0 = true := by decide +kernel
set_option maxRecDepth 65536 in
theorem w_heap : heapFits about1 = true := by decide +kernel
set_option maxRecDepth 65536 in
theorem w_runnable : about1.curStatus? = some .runnable := by decide +kernel
set_option maxRecDepth 65536 in
theorem w_alone : about1.alone = true := by decide +kernel
set_option maxRecDepth 65536 in
theorem w_named : about1.methodNamed? x = some theMethod := by decide +kernel
set_option maxRecDepth 65536 in
theorem w_hears : about1.hears theMethod below0 = true := by decide +kernel
set_option maxRecDepth 65536 in
theorem w_ripe : about1.ripe theMethod args0 below0 = true := by decide +kernel
theorem w_running : about1.status = .running := rfl
set_option maxRecDepth 65536 in
theorem w_room : about1.hasRoom e0.platform room_1 = true :=
  launch0.hasRoom_least _ room_1 (by decide +kernel) (by decide +kernel) (by decide +kernel) (by decide +kernel) (by decide +kernel) (by decide +kernel)
theorem allAtoms_all (ts : List Jvm.Cond) (a : Array Jvm.Value) (st : Jvm.State) : (allAtoms ts).before a st = ts.all (fun c => c.before a st) := by
  induction ts with
  | nil => rfl
  | cons c t ih =>
    show (Jvm.Cond.and c (allAtoms t)).before a st = _
    rw [Jvm.Cond.before_and, ih, List.all_cons]
def words1 : List Jvm.Cond := Jvm.Cond.code x code maxLocals ret :: tables_1
/-- a 'code' word, met by the world's own term for the bytes: nothing is compared byte by byte -/
theorem code_word {y : MethodName} {bytes : ByteArray} {mx : Nat} {rt : Option FieldType} {a : Array Value} {s : State} {m : MethodId} {meth : Method} {c : Code} (h1 : s.methodNamed? y = some m) (h2 : s.vm.method? m = some meth) (h3 : meth.code = some c) (h4 : c.code = bytes)
    (h5 : (c.maxLocals == mx && c.exceptionTable.isEmpty && decide (c.maxStack ≤ mostOperands) && decide (meth.sig.returnType = rt) && !meth.locks && decide (parseMethodDescriptor y.desc = some meth.sig)) = true) : (Jvm.Cond.code y bytes mx rt).before a s = true := by
  simp only [Bool.and_eq_true, beq_iff_eq, Bool.not_eq_true', decide_eq_true_eq] at h5
  obtain ⟨⟨⟨⟨⟨g1, g2⟩, g3⟩, g4⟩, g5⟩, g6⟩ := h5
  simp [Cond.before, Cond.holds, Cond.value, h1, h2, h3, h4, g1, g2, g3, g4, g5, g6]
def isCode : Jvm.Cond → Bool
  | .code _ _ _ _ => true
  | _ => false
theorem all_split {L : List Jvm.Cond} {P : Jvm.Cond → Bool} (h1 : L.all (fun c => isCode c || P c) = true) (h2 : ∀ c ∈ L.filter isCode, P c = true) : L.all P = true := by
  refine List.all_eq_true.mpr fun c hc => ?_
  have h := List.all_eq_true.mp h1 c hc
  rcases Bool.eq_false_or_eq_true (isCode c) with hi | hi
  · exact h2 c (List.mem_filter.mpr ⟨hc, hi⟩)
  · simpa [hi] using h
set_option maxRecDepth 65536 in
theorem w_c0 : (Jvm.Cond.code x code maxLocals ret).before args0 about1 = true := code_word (m := ⟨1, 1⟩) (meth := k1m1) (c := k1c1) (by decide +kernel) rfl rfl rfl (by decide +kernel)
set_option maxRecDepth 65536 in
theorem w_c1 : (Jvm.Cond.code ({ cls := "com/example/tranchebook/tranchebook/PeriodKind", name := "includesEvery", desc := "(Lcom/example/tranchebook/tranchebook/EarlierPeriod;)Z" } : Jvm.MethodName) prog_41_method_7_code (2 : Nat) (Option.some Jvm.ClassFile.FieldType.boolean)).before args0 about1 = true := code_word (m := ⟨7, 0⟩) (meth := k7m0) (c := k7c0) (by decide +kernel) rfl rfl rfl (by decide +kernel)
def codes1 : List Jvm.Cond := [Jvm.Cond.code x code maxLocals ret, Jvm.Cond.code ({ cls := "com/example/tranchebook/tranchebook/PeriodKind", name := "includesEvery", desc := "(Lcom/example/tranchebook/tranchebook/EarlierPeriod;)Z" } : Jvm.MethodName) prog_41_method_7_code (2 : Nat) (Option.some Jvm.ClassFile.FieldType.boolean)]
set_option maxRecDepth 65536 in
theorem codes_eq : words1.filter isCode = codes1 := rfl
theorem w_codes : ∀ c ∈ words1.filter isCode, c.before args0 about1 = true := by
  rw [codes_eq]
  intro c hc
  simp only [codes1, List.mem_cons, List.not_mem_nil, or_false] at hc
  rcases hc with rfl | rfl
  · exact w_c0
  · exact w_c1
set_option maxRecDepth 65536 in
theorem w_t1 : words1.all (fun c => isCode c || c.before args0 about1) = true := by decide +kernel
theorem w_tables : (allAtoms (Jvm.Cond.code x code maxLocals ret :: tables_1)).before args0 about1 = true := by
  rw [allAtoms_all]
  show words1.all (fun c => c.before args0 about1) = true
  refine all_split ?_ w_codes
  rw [w_t1]
set_option maxRecDepth 65536 in
theorem w_case : (Jvm.Cond.and given_1 narrow_1).before args0 about1 = true := by decide +kernel
theorem w_applies : (headSpec (Jvm.Cond.code x code maxLocals ret :: tables_1) room_1).applies x e0.platform about1 = true :=
  (Spec.applies_iff w_frames).mpr ⟨w_running, w_runnable, w_alone, w_named, w_hears, w_ripe, w_room, w_tables⟩
theorem atStart : AtStart classFile x code maxLocals ret World_1 tables_1 room_1 Calls_1 rest_1 Pre_1 launch0 p0 e0 about1 theMethod args0 below0 :=
  ⟨lists_1, trivial, launch0.admits_env _ _ _, launch0.least_env, fairChoices_fair.cas, fairChoices_fair.clock, w_frames, w_args, w_heap, w_applies, trivial, trivial, w_case⟩
end start1
theorem witness_1 : WitnessClaimed_1 := ⟨start1.p0, start1.e0, start1.about1, start1.theMethod, start1.args0, start1.below0, start1.atStart⟩
end Jvm.Pilot.@@N@@
