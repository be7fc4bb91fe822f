import JvmDerived
import JvmDerived.Pilot.@@N@@Statement
import JvmDerived.Pilot.@@N@@Code
set_option linter.unusedVariables false
set_option linter.unusedSimpArgs false
namespace Jvm.RoadKit
open Sem ClassFile Op Lib Jvm.Stand Jvm.Free Jvm.LawKit
section New
variable {p : Program} {l : Launch} {e : Env} {R : Room} {s : State} {m : MethodId} {args : Array Value} {below : List Frame} {meth : Method} {c : Code} {T : State} {locs : List Loc} {cells slots : Nat}
theorem retI (X : Stand p l e R s m args below meth c T locs cells slots) (hx : p.tables.exec = Jvm.exec) {pc : Nat} {Ls : Array Slot} {z : Int32} {rest : List Value} (hret : meth.sig.returnType = some .int) (hd : decode c.code pc = .ok (.ireturn, 1)) {fs : List Frame}
    (hl : ∀ (f : JFrame) (acts : List Action), f.method = m → f.locked = none → f.entered = [] → (doReturn e (T.setTop f) acts (some (.int z))).1 = T.setFrames fs) : Steps p.tables e below (T.setTop (mkF m pc Ls (.int z :: rest))) (T.setFrames fs) := by
  have hm' : T.vm.method? m = some meth := X.method'
  have hn : narrow .int (.int z) = .int z := rfl
  show Steps p.tables e below (T.setTop { method := m, pc := pc, locals := Ls, stack := _ :: rest, locked := none }) _
  jvm_step X.here [X.here.top, hx, hd, hm', hret, hn]
  first | (intro acts; rw [hl _ acts rfl rfl rfl]) | rw [hl _ _ rfl rfl rfl]
  exact Steps.refl _
end New
section Own
variable {Z : State} {h0 h h' : Heap} {ws ws' : List (Addr × Nat)} {a : Addr} {sl : Nat} {v : Value} {C n d : String}
/-- own: what a call leaves as it was, by places: every cell is kept in class, kind and size; a place that isn't listed keeps its value -/
def KSx (h h' : Heap) (ws : List (Addr × Nat)) : Prop := h.size ≤ h'.size ∧ ∀ (x : Addr) (c : Cell), h[x]? = some c → ∃ c' : Cell, h'[x]? = some c' ∧ c'.cls = c.cls ∧ c'.vm = c.vm ∧ c'.slots.size = c.slots.size ∧ (∀ j, (∀ p ∈ ws, x ≠ p.1 ∨ j ≠ p.2) → c'.slots[j]? = c.slots[j]?) ∧ ((c.vm.isStatics = true ∨ ∀ p ∈ ws, x ≠ p.1) → c' = c)
theorem ks0 {P : Addr × Nat → Prop} : ∀ p ∈ ([] : List (Addr × Nat)), P p := fun _ q => nomatch q
theorem ksS {P : Addr × Nat → Prop} {y : Addr × Nat} {L : List (Addr × Nat)} (q : P y) (r : ∀ p ∈ L, P p) : ∀ p ∈ y :: L, P p := fun x z => (List.mem_cons.mp z).elim (fun u => u ▸ q) (r x)
theorem KSx.refl (h : Heap) (ws : List (Addr × Nat)) : KSx h h ws := ⟨Nat.le_refl _, fun _ c q => ⟨c, q, rfl, rfl, rfl, fun _ _ => rfl, fun _ => rfl⟩⟩
theorem KSx.ext (K : KSx h0 h ws) (E : Ext h h') : KSx h0 h' ws := ⟨Nat.le_trans K.1 E.1, fun x c q => by obtain ⟨c', q', r⟩ := K.2 x c q; exact ⟨c', E.2 x c' q', r⟩⟩
theorem KSx.trans (K : KSx h0 h ws) (K' : KSx h h' ws') (q : ∀ p ∈ ws', p ∈ ws ∨ h0.size ≤ p.1) : KSx h0 h' ws := by
  refine ⟨Nat.le_trans K.1 K'.1, fun x c hc => ?_⟩
  obtain ⟨c1, a1, a2, a3, a4, a5, a6⟩ := K.2 x c hc
  obtain ⟨c2, b1, b2, b3, b4, b5, b6⟩ := K'.2 x c1 a1
  have hx : x < h0.size := (Array.getElem?_eq_some_iff.mp hc).1
  refine ⟨c2, b1, b2.trans a2, b3.trans a3, b4.trans a4, fun j hj => ?_, fun hs => ?_⟩
  · refine (b5 j fun p hp => ?_).trans (a5 j hj)
    rcases q p hp with w | g
    · exact hj p w
    · exact Or.inl fun e => by subst e; exact absurd hx (Nat.not_lt.mpr g)
  · have e1 : c1 = c := a6 hs
    refine (b6 ?_).trans e1
    rcases hs with w | w
    · exact Or.inl (by rw [e1]; exact w)
    · refine Or.inr fun p hp => ?_
      rcases q p hp with y | g
      · exact w p y
      · exact fun e => by subst e; exact absurd hx (Nat.not_lt.mpr g)
theorem KSx.of_wr (W : Wr h h' a sl v) : KSx h h' [(a, sl)] := by
  refine ⟨Nat.le_of_eq W.size.symm, fun x c hc => ?_⟩
  obtain ⟨c', e1, e2, e3, e4, e5, e6, e7⟩ := wr_at W hc
  refine ⟨c', e1, e2, e3, e4, fun j hj => ?_, fun hs => ?_⟩
  · rcases hj (a, sl) (List.mem_singleton.mpr rfl) with y | y
    · rw [e5 y]
    · exact e6 j y
  · rcases hs with y | y
    · by_cases z : x = a
      · rw [(e7 z).2.2] at y; cases y
      · exact e5 z
    · exact e5 (y (a, sl) (List.mem_singleton.mpr rfl))
theorem KSx.wr (K : KSx h0 h ws) (W : Wr h h' a sl v) (q : (a, sl) ∈ ws ∨ h0.size ≤ a) : KSx h0 h' ws := K.trans (KSx.of_wr W) fun p hp => by cases List.mem_singleton.mp hp; exact q
theorem Fld.ks (F : Fld Z h a C n d v) (K : KSx h h' ws) (q : ∀ p ∈ ws, a ≠ p.1 ∨ slotOf Z C n d ≠ p.2) : Fld Z h' a C n d v := by
  obtain ⟨cell, cf, k, i, f, h1, h2, h3, h4, h5, h6, h7⟩ := F
  obtain ⟨c', e1, e2, e3, -, e5, -⟩ := K.2 _ _ h1
  refine ⟨c', cf, k, i, f, e1, h2, h3, by rw [e3]; exact h4, by rw [e3]; exact h5, by rw [e2]; exact h6, ?_⟩
  refine (e5 _ fun p hp => ?_).trans h7
  simpa [slotOf, h2] using q p hp
theorem Exa.ks (F : Exa Z h a C) (K : KSx h h' ws) : Exa Z h' a C := by
  obtain ⟨cell, k, h1, h2, h3, h4, h5⟩ := F
  obtain ⟨c', e1, e2, e3, e4, -⟩ := K.2 _ _ h1
  exact ⟨c', k, e1, by rw [e2]; exact h2, by rw [e2]; exact h3, by rw [e3]; exact h4, by rw [e4]; exact h5⟩
theorem Sta.ks (F : Sta Z h C n d v) (K : KSx h h' ws) : Sta Z h' C n d v := by
  obtain ⟨cf, i, k, f, st, cell, h1, h2, h3, h4, h5, h6, h7⟩ := F
  obtain ⟨c', e1, -, -, -, -, e6⟩ := K.2 _ _ h5
  exact ⟨cf, i, k, f, st, cell, h1, h2, h3, h4, (e6 (Or.inl h6)) ▸ e1, h6, h7⟩
theorem Arr.ks {c : Cell} {ty : FieldType} (F : Arr Z h a c ty) (K : KSx h h' ws) (q : ∀ p ∈ ws, a ≠ p.1) : Arr Z h' a c ty := by
  obtain ⟨c', e1, -, -, -, -, e6⟩ := K.2 _ _ F.1
  exact ⟨(e6 (Or.inr q)) ▸ e1, F.2⟩
theorem Arv.ks {k : ClassId} {ty : FieldType} {z : Int32} {vs : List Value} {dv : Value} (F : Arv Z h a k ty z vs dv) (K : KSx h h' ws) (q : ∀ p ∈ ws, a ≠ p.1) : Arv Z h' a k ty z vs dv := by obtain ⟨c, A, r⟩ := F; exact ⟨c, A.ks K q, r⟩
theorem own_fi {args : Array Value} {s : State} {t : Term} {k : Int32} (ht : t.eval args s none [] s = some (.ref a)) (hq : (Cond.eq (.field t C n d) (.int k)).value args s none s [] = some true) : Fld s s.heap a C n d (.int k) := by
  have e2 : (Term.int k).eval args s none [] s = some (.int k) := Term.int_eval k
  obtain ⟨x, y, e1, e3, -, k2⟩ := cmp_v (Or.inl hq)
  cases e2.symm.trans e3
  obtain ⟨z, rfl⟩ := k2
  have q : z = k := by simpa [Cond.value, e1, e2] using hq
  subst q
  exact Fld.start (by rw [← fld_at ht]; exact e1)
theorem own_fr {args : Array Value} {s : State} {t u : Term} {b : Addr} (ht : t.eval args s none [] s = some (.ref a)) (hu : u.eval args s none [] s = some (.ref b)) (hq : (Cond.eq (.field t C n d) u).value args s none s [] = some true) : Fld s s.heap a C n d (.ref b) := by
  obtain ⟨x, y, e1, e3, k1, k2⟩ := cmp_v (Or.inl hq)
  cases hu.symm.trans e3
  have hr : x.isRef = true := k2.2
  have q : x = .ref b := gotT (eq_R e1 hu hr rfl) hq
  subst q
  exact Fld.start (by rw [← fld_at ht]; exact e1)
theorem own_len {args : Array Value} {s : State} {t : Term} {k : Int32} {cl : Cell} {ty : FieldType} (ht : t.eval args s none [] s = some (.ref a)) (A : Arr s s.heap a cl ty) (hq : (Cond.eq (.length t) (.int k)).value args s none s [] = some true) : cl.slots.size < 2 ^ 31 ∧ cl.slots.size.toInt32 = k := by
  have e2 : (Term.int k).eval args s none [] s = some (.int k) := Term.int_eval k
  have ha : s.arrayAt? a = some cl := A.fin (Vm.Alike.refl _)
  obtain ⟨x, y, e1, e3, -, k2⟩ := cmp_v (Or.inl hq)
  cases e2.symm.trans e3
  obtain ⟨z, rfl⟩ := k2
  have q : z = k := by simpa [Cond.value, e1, e2] using hq
  subst q
  by_cases hl : cl.slots.size < 2 ^ 31
  · rw [len_f ht ha hl] at e1
    cases e1; exact ⟨hl, rfl⟩
  · simp [Term.eval, ht, ha, hl] at e1
theorem own_el {args : Array Value} {s : State} {t u : Term} {k : Int32} {b : Addr} {cl : Cell} {ty : FieldType} (ht : t.eval args s none [] s = some (.ref a)) (hu : u.eval args s none [] s = some (.ref b)) (A : Arr s s.heap a cl ty) (hq : (Cond.eq (.elem t (.int k)) u).value args s none s [] = some true) : cl.slots[k.toNatClampNeg]? = some (.ref b) := by
  obtain ⟨x, y, e1, e3, k1, k2⟩ := cmp_v (Or.inl hq)
  cases hu.symm.trans e3
  have q : x = .ref b := gotT (eq_R e1 hu k2.2 rfl) hq
  subst q
  exact (elem_in e1 ht (Term.int_eval k) A.1).2
theorem own_sel {s : State} {a0 args : Array Value} {y : MethodName} {k : Nat} (hZ : Z.Warmed39 s.vm) (wi : (Cond.instantiable y.cls k).before a0 Z = true) (wp : (Cond.privateMethod y).before a0 Z = true) (wm : (Cond.instanceMethod y).before a0 Z = true) (hy : y.cls ≠ "java/lang/invoke/MethodHandle" ∧ y.cls ≠ "java/lang/invoke/VarHandle") : (Cond.selects y.cls y y).before args s = true := by
  obtain ⟨c, kc, h1, h2, -, h4, -⟩ := Cond.instantiable_spec (mvT (args := args) hZ wi)
  exact selects_self_of_private h1 h2 (Bool.or_eq_false_iff.mp h4).1 (Cond.privateMethod_at (mvP hZ wp (args := args))) (mvT hZ wm) hy
end Own
end Jvm.RoadKit
namespace Jvm.Pilot.@@N@@
open Jvm Jvm.ClassFile Sem Op Lib Jvm.Free Jvm.Stand Jvm.LawKit Jvm.RoadKit Bundle Jvm.Pilot.@@N@@.Jvm.D
abbrev OMet (l : Launch) (Z : State) (y : MethodName) (bytes : ByteArray) (ml : Nat) (rt : Option FieldType) (ws : List Jvm.Cond) (rm : Room) (h0 : Heap) (as : Array Value) (Q : Option Value → Heap → List Loc → Prop) : Prop :=
  MetFree l y (head1 (Jvm.Cond.code y bytes ml rt :: ws) rm) (fun a U => a = as ∧ Z.Warmed39 U.vm ∧ U.heap = h0) (fun _ _ _ _ _ => True) (fun _ U o U' => ∃ v L, o = .returned v ∧ Q v U'.heap L ∧ FrameEnd U o U' L rm.cells rm.slots)
abbrev OMetS (l : Launch) (Z : State) (y : MethodName) (bytes : ByteArray) (ml : Nat) (rt : Option FieldType) (ws : List Jvm.Cond) (rm : Room) (h0 : Heap) (as : Array Value) (Q : Option Value → Heap → List Loc → Prop) : Prop :=
  MetFree l y (head1 (Jvm.Cond.code y bytes ml rt :: ws) rm) (fun a U => a = as ∧ Z.Warmed39 U.vm ∧ U.heap = h0) (fun _ _ _ _ _ => True) (fun _ U o U' => ∃ v L, o = .returned v ∧ Q v U'.heap L ∧ ReturnedEndW U o U' L rm.cells rm.slots)
def OQp (r : Option Value) (h0 : Heap) (n0 : Nat) (v : Option Value) (h : Heap) (L : List Loc) : Prop := v = r ∧ Fr n0 L ∧ h = h0
def OQl (r : Option Value) (n0 : Nat) (v : Option Value) (h : Heap) (L : List Loc) : Prop := v = r ∧ Fr n0 L
theorem own_rng {k n : Int32} {N : Nat} (h : 0 ≤ k.toInt ∧ k.toInt < N) : ∃ i : Fin N, k = Int32.ofInt i.1 := by
  refine ⟨⟨k.toInt.toNat, by omega⟩, ?_⟩
  show k = Int32.ofInt ((k.toInt.toNat : Nat) : Int)
  rw [Int.toNat_of_nonneg h.1]; exact (Int32.ofInt_toInt k).symm
theorem own_mod (x : Int32) (y : Int32) (hy : 0 < y.toInt) : 0 ≤ ((x &&& (2147483647 : Int32)) % y).toInt ∧ ((x &&& (2147483647 : Int32)) % y).toInt < y.toInt := by
  have h1 := c_mask x 2147483647 31 (by decide) (by decide)
  have h2 := (c_iremV (x &&& (2147483647 : Int32)) y).1 (by rw [h1]; exact Int.emod_nonneg _ (by decide)) hy
  exact ⟨h2.1, h2.2.1⟩
theorem own_b1 (x : Int32) : (x &&& (1 : Int32)) = (0 : Int32) ∨ (x &&& (1 : Int32)) = (1 : Int32) := by
  have h := c_mask x 1 1 (by decide) (by decide)
  have q : (x &&& (1 : Int32)).toInt = 0 ∨ (x &&& (1 : Int32)).toInt = 1 := by rw [h]; omega
  rcases q with q | q <;> simp [← Int32.toInt_inj, q]
theorem d1_0 : decode method_2_code 0 = .ok (.iload_n 0, 1) := by decide +kernel
theorem d1_1 : decode method_2_code 1 = .ok (.ldc 7, 2) := by decide +kernel
theorem d1_3 : decode method_2_code 3 = .ok (.iand, 1) := by decide +kernel
theorem d1_4 : decode method_2_code 4 = .ok (.iconst 3, 1) := by decide +kernel
theorem d1_5 : decode method_2_code 5 = .ok (.irem, 1) := by decide +kernel
theorem d1_6 : decode method_2_code 6 = .ok (.istore_n 1, 1) := by decide +kernel
theorem d1_7 : decode method_2_code 7 = .ok (.iload_n 1, 1) := by decide +kernel
theorem d1_8 : decode method_2_code 8 = .ok (.ifCond .ne 7, 3) := by decide +kernel
theorem d1_11 : decode method_2_code 11 = .ok (.getstatic 8, 3) := by decide +kernel
theorem d1_14 : decode method_2_code 14 = .ok (.areturn, 1) := by decide +kernel
theorem pn_com_example_grepo_grepo_internal_store_TruthAndPinLaw : plainName "com/example/grepo/grepo/internal/store/TruthAndPinLaw" = true := by first | (simp [plainName, overriddenIn]; done) | decide +kernel
theorem ef_1_v (m : MethodId) (x0 : Int32) : entryFrame m #[(.int x0)] 2 = mkF m 0 #[.val (.int x0), .unset] [] := by first | (simp [entryFrame, mkF, argsToLocals, Value.category]; done) | rfl
set_option maxRecDepth 65536 in
set_option maxHeartbeats 40000000 in
theorem r1_1 (l : Launch) (Z : State) (a0 : Array Value) (hw : ∀ d ∈ tables_1, d.before a0 Z = true) (p3 : Int32) (w4 : Addr) (h0 : Heap) (n0 : Nat) (Z0 : n0 ≤ h0.size) (H0 : ((p3 &&& (2147483647 : Int32)) % (3 : Int32)) = (0 : Int32)) (H1 : Sta Z h0 "com/example/grepo/grepo/internal/store/Truth" "FALSE" "Lcom/example/grepo/grepo/internal/store/Truth;" (.ref w4)) :
    OMet l Z (⟨"com/example/grepo/grepo/internal/store/TruthAndPinLaw", "pick", "(I)Lcom/example/grepo/grepo/internal/store/Truth;"⟩ : MethodName) method_2_code 2 (some (.object "com/example/grepo/grepo/internal/store/Truth")) [] ({ frames := 0, cells := 0, slots := 0, locals := 0 } : Room) h0 #[(.int p3)] (OQp (some (.ref w4)) h0 n0) := by
  refine MetFree.of_bodySF (plainFor_of_name pn_com_example_grepo_grepo_internal_store_TruthAndPinLaw) hisR ?_
  intro p e s m args below meth c s₁ Bd hml0 hP hK
  obtain ⟨rfl, hZ, hh⟩ := hP
  have hx := Bd.exec
  have hby := Bd.bytes
  have hml : c.maxLocals = 2 := hml0
  have hown : s.vm.findClass "com/example/grepo/grepo/internal/store/TruthAndPinLaw" = some m.cls := findClass_of_methodNamed Bd.named
  have hnm := (name_of_methodNamed Bd.named Bd.method).1
  have X0 : Stand p l e ({ frames := 0, cells := 0, slots := 0, locals := 0 } : Room) s m #[(.int p3)] below meth c s₁ [] 0 0 := Stand.of_body Bd
  have e0 : s₁.heap = h0 := by rw [← hh, Bd.state]; rfl
  have N0 := Fr.nil n0
  have pre0 : ∀ t, Steps p.tables e below (s₁.setTop (mkF m 0 #[.val (.int p3), .unset] [])) t → Steps p.tables e below (s₁.setTop (entryFrame m #[(.int p3)] 2)) t := fun t k => castTop (ef_1_v m p3) k
  obtain ⟨T5, X5, e5, st5⟩ := getS2 X0 hx hZ hown (host := "") (Or.inl (hw _ (List.mem_of_getElem? (i := 5) rfl))) Via.refl e0 H1 (g := (mkF m 11 #[.val (.int p3), .val (.int ((p3 &&& (2147483647 : Int32)) % (3 : Int32)))] [])) rfl (hb hby d1_11)
  obtain ⟨fs, hr, hrun, hended, hW, hsame⟩ := X5.leave (v := some (.ref w4)) (fun h => by rw [Bd.returns] at h; cases h)
  refine ⟨_, _, pre0 _ ?_, hrun, hended, _, _, rfl, ?_, ⟨_, rfl⟩, hW, hsame.mono (by decide) (by decide)⟩
  · show Steps p.tables e below (s₁.setTop (mkF m 0 #[.val (.int p3), .unset] [])) _
    refine XS.iloadN X0.here hx rfl (hb hby d1_0) rfl ?_
    show Steps p.tables e below (s₁.setTop (mkF m 1 #[.val (.int p3), .unset] [(.int p3)])) _
    refine X0.ldcInt hx hown (mvT hZ (hw _ (List.mem_of_getElem? (i := 4) rfl))) (g := (mkF m 1 #[.val (.int p3), .unset] [(.int p3)])) rfl (hb hby d1_1) _ ?_
    show Steps p.tables e below (s₁.setTop (mkF m 3 #[.val (.int p3), .unset] [(.int (2147483647 : Int32)), (.int p3)])) _
    refine XS.iand X0.here hx rfl (hb hby d1_3) rfl ?_
    show Steps p.tables e below (s₁.setTop (mkF m 4 #[.val (.int p3), .unset] [(.int (p3 &&& (2147483647 : Int32)))])) _
    refine XS.iconst X0.here hx rfl (hb hby d1_4) ?_
    show Steps p.tables e below (s₁.setTop (mkF m 5 #[.val (.int p3), .unset] [(.int (3 : Int32)), (.int (p3 &&& (2147483647 : Int32)))])) _
    refine iremM X0 hx rfl (hb hby d1_5) rfl (by decide) ?_
    show Steps p.tables e below (s₁.setTop (mkF m 6 #[.val (.int p3), .unset] [(.int ((p3 &&& (2147483647 : Int32)) % (3 : Int32)))])) _
    refine XS.istoreN X0.here hx rfl (hb hby d1_6) rfl (l' := #[.val (.int p3), .val (.int ((p3 &&& (2147483647 : Int32)) % (3 : Int32)))]) rfl ?_
    show Steps p.tables e below (s₁.setTop (mkF m 7 #[.val (.int p3), .val (.int ((p3 &&& (2147483647 : Int32)) % (3 : Int32)))] [])) _
    refine XS.iloadN X0.here hx rfl (hb hby d1_7) rfl ?_
    show Steps p.tables e below (s₁.setTop (mkF m 8 #[.val (.int p3), .val (.int ((p3 &&& (2147483647 : Int32)) % (3 : Int32)))] [(.int ((p3 &&& (2147483647 : Int32)) % (3 : Int32)))])) _
    refine XS.ifNo X0.here hx rfl (hb hby d1_8) rfl ((if0 _ _).trans (teq H0).2) ?_
    show Steps p.tables e below (s₁.setTop (mkF m 11 #[.val (.int p3), .val (.int ((p3 &&& (2147483647 : Int32)) % (3 : Int32)))] [])) _
    refine st5 _ ?_
    show Steps p.tables e below (T5.setTop (mkF m 14 #[.val (.int p3), .val (.int ((p3 &&& (2147483647 : Int32)) % (3 : Int32)))] [(.ref w4)])) _
    jvm_step X5.here [X5.here.top, hx, (hb hby d1_14), X5.method', Bd.returns, Value.isRef, FieldType.isReference]
    first | (intro acts; rw [hr _ acts rfl rfl rfl]) | rw [hr _ _ rfl rfl rfl]
    exact Steps.refl _
  · show OQp (some (.ref w4)) h0 n0 _ T5.heap _
    rw [e5]
    exact ⟨rfl, N0, rfl⟩
theorem pd_0 : parseMethodDescriptor "(I)Lcom/example/grepo/grepo/internal/store/Truth;" = some ⟨[.int], some (.object "com/example/grepo/grepo/internal/store/Truth")⟩ := by decide +kernel
theorem d2_0 : decode prog_96_method_5_code 0 = .ok (.aload_n 0, 1) := by decide +kernel
theorem d2_1 : decode prog_96_method_5_code 1 = .ok (.getstatic 7, 3) := by decide +kernel
theorem d2_4 : decode prog_96_method_5_code 4 = .ok (.if_acmp .eq 10, 3) := by decide +kernel
theorem d2_14 : decode prog_96_method_5_code 14 = .ok (.getstatic 7, 3) := by decide +kernel
theorem d2_17 : decode prog_96_method_5_code 17 = .ok (.astore_n 2, 1) := by decide +kernel
theorem d2_18 : decode prog_96_method_5_code 18 = .ok (.goto 28, 3) := by decide +kernel
theorem d2_46 : decode prog_96_method_5_code 46 = .ok (.aload_n 2, 1) := by decide +kernel
theorem d2_47 : decode prog_96_method_5_code 47 = .ok (.areturn, 1) := by decide +kernel
theorem pn_com_example_grepo_grepo_internal_store_Truth : plainName "com/example/grepo/grepo/internal/store/Truth" = true := by first | (simp [plainName, overriddenIn]; done) | decide +kernel
theorem ef_2_vv (m : MethodId) (x0 : Addr) (x1 : Addr) : entryFrame m #[(.ref x0), (.ref x1)] 3 = mkF m 0 #[.val (.ref x0), .val (.ref x1), .unset] [] := by first | (simp [entryFrame, mkF, argsToLocals, Value.category]; done) | rfl
set_option maxRecDepth 65536 in
set_option maxHeartbeats 40000000 in
theorem r2_1 (l : Launch) (Z : State) (a0 : Array Value) (hw : ∀ d ∈ tables_1, d.before a0 Z = true) (a12 : Addr) (a13 : Addr) (w14 : Addr) (h0 : Heap) (n0 : Nat) (Z0 : n0 ≤ h0.size) (H0 : Sta Z h0 "com/example/grepo/grepo/internal/store/Truth" "FALSE" "Lcom/example/grepo/grepo/internal/store/Truth;" (.ref w14)) (H1 : a12 = w14) :
    OMet l Z (⟨"com/example/grepo/grepo/internal/store/Truth", "and", "(Lcom/example/grepo/grepo/internal/store/Truth;)Lcom/example/grepo/grepo/internal/store/Truth;"⟩ : MethodName) prog_96_method_5_code 3 (some (.object "com/example/grepo/grepo/internal/store/Truth")) [] ({ frames := 0, cells := 0, slots := 0, locals := 0 } : Room) h0 #[(.ref a12), (.ref a13)] (OQp (some (.ref w14)) h0 n0) := by
  refine MetFree.of_bodySF (plainFor_of_name pn_com_example_grepo_grepo_internal_store_Truth) hisR ?_
  intro p e s m args below meth c s₁ Bd hml0 hP hK
  obtain ⟨rfl, hZ, hh⟩ := hP
  have hx := Bd.exec
  have hby := Bd.bytes
  have hml : c.maxLocals = 3 := hml0
  have hown : s.vm.findClass "com/example/grepo/grepo/internal/store/Truth" = some m.cls := findClass_of_methodNamed Bd.named
  have hnm := (name_of_methodNamed Bd.named Bd.method).1
  have X0 : Stand p l e ({ frames := 0, cells := 0, slots := 0, locals := 0 } : Room) s m #[(.ref a12), (.ref a13)] below meth c s₁ [] 0 0 := Stand.of_body Bd
  have e0 : s₁.heap = h0 := by rw [← hh, Bd.state]; rfl
  have N0 := Fr.nil n0
  have pre0 : ∀ t, Steps p.tables e below (s₁.setTop (mkF m 0 #[.val (.ref a12), .val (.ref a13), .unset] [])) t → Steps p.tables e below (s₁.setTop (entryFrame m #[(.ref a12), (.ref a13)] 3)) t := fun t k => castTop (ef_2_vv m a12 a13) k
  obtain ⟨T15, X15, e15, st15⟩ := getS2 X0 hx hZ hown (host := "") (Or.inl (hw _ (List.mem_of_getElem? (i := 13) rfl))) Via.refl e0 H0 (g := (mkF m 1 #[.val (.ref a12), .val (.ref a13), .unset] [(.ref a12)])) rfl (hb hby d2_1)
  obtain ⟨T16, X16, e16, st16⟩ := getS2 X15 hx hZ hown (host := "") (Or.inl (hw _ (List.mem_of_getElem? (i := 13) rfl))) Via.refl e15 H0 (g := (mkF m 14 #[.val (.ref a12), .val (.ref a13), .unset] [])) rfl (hb hby d2_14)
  obtain ⟨fs, hr, hrun, hended, hW, hsame⟩ := X16.leave (v := some (.ref w14)) (fun h => by rw [Bd.returns] at h; cases h)
  refine ⟨_, _, pre0 _ ?_, hrun, hended, _, _, rfl, ?_, ⟨_, rfl⟩, hW, hsame.mono (by decide) (by decide)⟩
  · show Steps p.tables e below (s₁.setTop (mkF m 0 #[.val (.ref a12), .val (.ref a13), .unset] [])) _
    refine XS.aloadN X0.here hx rfl (hb hby d2_0) rfl rfl ?_
    show Steps p.tables e below (s₁.setTop (mkF m 1 #[.val (.ref a12), .val (.ref a13), .unset] [(.ref a12)])) _
    refine st15 _ ?_
    show Steps p.tables e below (T15.setTop (mkF m 4 #[.val (.ref a12), .val (.ref a13), .unset] [(.ref w14), (.ref a12)])) _
    refine Jvm.RoadKit.acmp (g := (mkF m 4 #[.val (.ref a12), .val (.ref a13), .unset] [(.ref w14), (.ref a12)])) X15 hx rfl rfl rfl (pc0 := 4) (pc' := 14) (same := true) rfl (hb hby d2_4) rfl (decide_eq_true (congrArg Value.ref H1)) (by decide) (by decide) ?_
    show Steps p.tables e below (T15.setTop (mkF m 14 #[.val (.ref a12), .val (.ref a13), .unset] [])) _
    refine st16 _ ?_
    show Steps p.tables e below (T16.setTop (mkF m 17 #[.val (.ref a12), .val (.ref a13), .unset] [(.ref w14)])) _
    refine XS.astoreN X16.here hx rfl (hb hby d2_17) rfl rfl (l' := #[.val (.ref a12), .val (.ref a13), .val (.ref w14)]) rfl ?_
    show Steps p.tables e below (T16.setTop (mkF m 18 #[.val (.ref a12), .val (.ref a13), .val (.ref w14)] [])) _
    refine XS.goto X16.here hx rfl (pc0 := 18) (pc' := 46) rfl (hb hby d2_18) (by decide) (by decide) ?_
    show Steps p.tables e below (T16.setTop (mkF m 46 #[.val (.ref a12), .val (.ref a13), .val (.ref w14)] [])) _
    refine XS.aloadN X16.here hx rfl (hb hby d2_46) rfl rfl ?_
    show Steps p.tables e below (T16.setTop (mkF m 47 #[.val (.ref a12), .val (.ref a13), .val (.ref w14)] [(.ref w14)])) _
    jvm_step X16.here [X16.here.top, hx, (hb hby d2_47), X16.method', Bd.returns, Value.isRef, FieldType.isReference]
    first | (intro acts; rw [hr _ acts rfl rfl rfl]) | rw [hr _ _ rfl rfl rfl]
    exact Steps.refl _
  · show OQp (some (.ref w14)) h0 n0 _ T16.heap _
    rw [e16]
    exact ⟨rfl, N0, rfl⟩
theorem pd_1 : parseMethodDescriptor "(Lcom/example/grepo/grepo/internal/store/Truth;)Lcom/example/grepo/grepo/internal/store/Truth;" = some ⟨[(.object "com/example/grepo/grepo/internal/store/Truth")], some (.object "com/example/grepo/grepo/internal/store/Truth")⟩ := by decide +kernel
theorem d3_0 : decode method_3_code 0 = .ok (.aload_n 0, 1) := by decide +kernel
theorem d3_1 : decode method_3_code 1 = .ok (.getstatic 8, 3) := by decide +kernel
theorem d3_4 : decode method_3_code 4 = .ok (.if_acmp .ne 5, 3) := by decide +kernel
theorem d3_7 : decode method_3_code 7 = .ok (.iconst 0, 1) := by decide +kernel
theorem d3_8 : decode method_3_code 8 = .ok (.ireturn, 1) := by decide +kernel
theorem ef_3_v (m : MethodId) (x0 : Addr) : entryFrame m #[(.ref x0)] 1 = mkF m 0 #[.val (.ref x0)] [] := by first | (simp [entryFrame, mkF, argsToLocals, Value.category]; done) | rfl
set_option maxRecDepth 65536 in
set_option maxHeartbeats 40000000 in
theorem r3_1 (l : Launch) (Z : State) (a0 : Array Value) (hw : ∀ d ∈ tables_1, d.before a0 Z = true) (a18 : Addr) (w19 : Addr) (h0 : Heap) (n0 : Nat) (Z0 : n0 ≤ h0.size) (H0 : Sta Z h0 "com/example/grepo/grepo/internal/store/Truth" "FALSE" "Lcom/example/grepo/grepo/internal/store/Truth;" (.ref w19)) (H1 : a18 = w19) :
    OMet l Z (⟨"com/example/grepo/grepo/internal/store/TruthAndPinLaw", "rank", "(Lcom/example/grepo/grepo/internal/store/Truth;)I"⟩ : MethodName) method_3_code 1 (some .int) [] ({ frames := 0, cells := 0, slots := 0, locals := 0 } : Room) h0 #[(.ref a18)] (OQp (some (.int (0 : Int32))) h0 n0) := by
  refine MetFree.of_bodySF (plainFor_of_name pn_com_example_grepo_grepo_internal_store_TruthAndPinLaw) hisR ?_
  intro p e s m args below meth c s₁ Bd hml0 hP hK
  obtain ⟨rfl, hZ, hh⟩ := hP
  have hx := Bd.exec
  have hby := Bd.bytes
  have hml : c.maxLocals = 1 := hml0
  have hown : s.vm.findClass "com/example/grepo/grepo/internal/store/TruthAndPinLaw" = some m.cls := findClass_of_methodNamed Bd.named
  have hnm := (name_of_methodNamed Bd.named Bd.method).1
  have X0 : Stand p l e ({ frames := 0, cells := 0, slots := 0, locals := 0 } : Room) s m #[(.ref a18)] below meth c s₁ [] 0 0 := Stand.of_body Bd
  have e0 : s₁.heap = h0 := by rw [← hh, Bd.state]; rfl
  have N0 := Fr.nil n0
  have pre0 : ∀ t, Steps p.tables e below (s₁.setTop (mkF m 0 #[.val (.ref a18)] [])) t → Steps p.tables e below (s₁.setTop (entryFrame m #[(.ref a18)] 1)) t := fun t k => castTop (ef_3_v m a18) k
  obtain ⟨T20, X20, e20, st20⟩ := getS2 X0 hx hZ hown (host := "") (Or.inl (hw _ (List.mem_of_getElem? (i := 5) rfl))) Via.refl e0 H0 (g := (mkF m 1 #[.val (.ref a18)] [(.ref a18)])) rfl (hb hby d3_1)
  obtain ⟨fs, hr, hrun, hended, hW, hsame⟩ := X20.leave (v := some (.int (0 : Int32))) (fun h => by rw [Bd.returns] at h; cases h)
  refine ⟨_, _, pre0 _ ?_, hrun, hended, _, _, rfl, ?_, ⟨_, rfl⟩, hW, hsame.mono (by decide) (by decide)⟩
  · show Steps p.tables e below (s₁.setTop (mkF m 0 #[.val (.ref a18)] [])) _
    refine XS.aloadN X0.here hx rfl (hb hby d3_0) rfl rfl ?_
    show Steps p.tables e below (s₁.setTop (mkF m 1 #[.val (.ref a18)] [(.ref a18)])) _
    refine st20 _ ?_
    show Steps p.tables e below (T20.setTop (mkF m 4 #[.val (.ref a18)] [(.ref w19), (.ref a18)])) _
    refine Jvm.RoadKit.acmp (g := (mkF m 4 #[.val (.ref a18)] [(.ref w19), (.ref a18)])) X20 hx rfl rfl rfl (pc0 := 4) (pc' := 7) (same := true) rfl (hb hby d3_4) rfl (decide_eq_true (congrArg Value.ref H1)) (by decide) (by decide) ?_
    show Steps p.tables e below (T20.setTop (mkF m 7 #[.val (.ref a18)] [])) _
    refine XS.iconst X20.here hx rfl (hb hby d3_7) ?_
    show Steps p.tables e below (T20.setTop (mkF m 8 #[.val (.ref a18)] [(.int (0 : Int32))])) _
    exact retI X20 hx Bd.returns (hb hby d3_8) hr
  · show OQp (some (.int (0 : Int32))) h0 n0 _ T20.heap _
    rw [e20]
    exact ⟨rfl, N0, rfl⟩
theorem pd_2 : parseMethodDescriptor "(Lcom/example/grepo/grepo/internal/store/Truth;)I" = some ⟨[(.object "com/example/grepo/grepo/internal/store/Truth")], some .int⟩ := by decide +kernel
theorem d4_0 : decode jdk_29_method_69_code 0 = .ok (.iload_n 0, 1) := by decide +kernel
theorem d4_1 : decode jdk_29_method_69_code 1 = .ok (.iload_n 1, 1) := by decide +kernel
theorem d4_2 : decode jdk_29_method_69_code 2 = .ok (.if_icmp .gt 7, 3) := by decide +kernel
theorem d4_5 : decode jdk_29_method_69_code 5 = .ok (.iload_n 0, 1) := by decide +kernel
theorem d4_6 : decode jdk_29_method_69_code 6 = .ok (.goto 4, 3) := by decide +kernel
theorem d4_10 : decode jdk_29_method_69_code 10 = .ok (.ireturn, 1) := by decide +kernel
theorem ef_4_vv (m : MethodId) (x0 : Int32) (x1 : Int32) : entryFrame m #[(.int x0), (.int x1)] 2 = mkF m 0 #[.val (.int x0), .val (.int x1)] [] := by first | (simp [entryFrame, mkF, argsToLocals, Value.category]; done) | rfl
set_option maxRecDepth 65536 in
set_option maxHeartbeats 40000000 in
theorem r4_1 (l : Launch) (Z : State) (a0 : Array Value) (hw : ∀ d ∈ tables_1, d.before a0 Z = true) (p26 : Int32) (p27 : Int32) (h0 : Heap) (n0 : Nat) (Z0 : n0 ≤ h0.size) (H0 : ¬ (p27 < p26)) :
    OMet l Z (⟨"java/lang/Math", "min", "(II)I"⟩ : MethodName) jdk_29_method_69_code 2 (some .int) [] ({ frames := 0, cells := 0, slots := 0, locals := 0 } : Room) h0 #[(.int p26), (.int p27)] (OQp (some (.int p26)) h0 n0) := by
  refine MetFree.of_bodySF (Jvm.Free.JP.mathPlain rfl (by decide +kernel)) hisR ?_
  intro p e s m args below meth c s₁ Bd hml0 hP hK
  obtain ⟨rfl, hZ, hh⟩ := hP
  have hx := Bd.exec
  have hby := Bd.bytes
  have hml : c.maxLocals = 2 := hml0
  have hown : s.vm.findClass "java/lang/Math" = some m.cls := findClass_of_methodNamed Bd.named
  have hnm := (name_of_methodNamed Bd.named Bd.method).1
  have X0 : Stand p l e ({ frames := 0, cells := 0, slots := 0, locals := 0 } : Room) s m #[(.int p26), (.int p27)] below meth c s₁ [] 0 0 := Stand.of_body Bd
  have e0 : s₁.heap = h0 := by rw [← hh, Bd.state]; rfl
  have N0 := Fr.nil n0
  have pre0 : ∀ t, Steps p.tables e below (s₁.setTop (mkF m 0 #[.val (.int p26), .val (.int p27)] [])) t → Steps p.tables e below (s₁.setTop (entryFrame m #[(.int p26), (.int p27)] 2)) t := fun t k => castTop (ef_4_vv m p26 p27) k

  obtain ⟨fs, hr, hrun, hended, hW, hsame⟩ := X0.leave (v := some (.int p26)) (fun h => by rw [Bd.returns] at h; cases h)
  refine ⟨_, _, pre0 _ ?_, hrun, hended, _, _, rfl, ?_, ⟨_, rfl⟩, hW, hsame.mono (by decide) (by decide)⟩
  · show Steps p.tables e below (s₁.setTop (mkF m 0 #[.val (.int p26), .val (.int p27)] [])) _
    refine XS.iloadN X0.here hx rfl (hb hby d4_0) rfl ?_
    show Steps p.tables e below (s₁.setTop (mkF m 1 #[.val (.int p26), .val (.int p27)] [(.int p26)])) _
    refine XS.iloadN X0.here hx rfl (hb hby d4_1) rfl ?_
    show Steps p.tables e below (s₁.setTop (mkF m 2 #[.val (.int p26), .val (.int p27)] [(.int p27), (.int p26)])) _
    refine XS.icmpNo X0.here hx rfl (hb hby d4_2) rfl (flt H0).2.2.1 ?_
    show Steps p.tables e below (s₁.setTop (mkF m 5 #[.val (.int p26), .val (.int p27)] [])) _
    refine XS.iloadN X0.here hx rfl (hb hby d4_5) rfl ?_
    show Steps p.tables e below (s₁.setTop (mkF m 6 #[.val (.int p26), .val (.int p27)] [(.int p26)])) _
    refine XS.goto X0.here hx rfl (pc0 := 6) (pc' := 10) rfl (hb hby d4_6) (by decide) (by decide) ?_
    show Steps p.tables e below (s₁.setTop (mkF m 10 #[.val (.int p26), .val (.int p27)] [(.int p26)])) _
    exact retI X0 hx Bd.returns (hb hby d4_10) hr
  · show OQp (some (.int p26)) h0 n0 _ s₁.heap _
    rw [e0]
    exact ⟨rfl, N0, rfl⟩
theorem pd_3 : parseMethodDescriptor "(II)I" = some ⟨[.int, .int], some .int⟩ := by decide +kernel
theorem ef_0_vv (m : MethodId) (x0 : Int32) (x1 : Int32) : entryFrame m #[(.int x0), (.int x1)] maxLocals = mkF m 0 #[.val (.int x0), .val (.int x1), .unset, .unset, .unset, .unset] [] := by first | (simp [entryFrame, mkF, argsToLocals, Value.category, maxLocals]; done) | rfl
set_option maxRecDepth 65536 in
set_option maxHeartbeats 40000000 in
theorem r0_1 (l : Launch) (Z : State) (a0 : Array Value) (hw : ∀ d ∈ tables_1, d.before a0 Z = true) (p1 : Int32) (p2 : Int32) (w7 : Addr) (h0 : Heap) (n0 : Nat) (Z0 : n0 ≤ h0.size) (H0 : ((p1 &&& (2147483647 : Int32)) % (3 : Int32)) = (0 : Int32)) (H1 : Sta Z h0 "com/example/grepo/grepo/internal/store/Truth" "FALSE" "Lcom/example/grepo/grepo/internal/store/Truth;" (.ref w7)) (H2 : ((p2 &&& (2147483647 : Int32)) % (3 : Int32)) = (0 : Int32)) (H3 : Exa Z h0 w7 "com/example/grepo/grepo/internal/store/Truth") :
    OMet l Z x code maxLocals ret tables_1 room_1 h0 #[(.int p1), (.int p2)] (OQl (some (.int (1 : Int32))) n0) := by
  refine MetFree.of_bodySF (plainFor_of_name pn_com_example_grepo_grepo_internal_store_TruthAndPinLaw) hisR ?_
  intro p e s m args below meth c s₁ Bd hml0 hP hK
  obtain ⟨rfl, hZ, hh⟩ := hP
  have hx := Bd.exec
  have hby := Bd.bytes
  have hml : c.maxLocals = 6 := hml0
  have hown : s.vm.findClass "com/example/grepo/grepo/internal/store/TruthAndPinLaw" = some m.cls := findClass_of_methodNamed Bd.named
  have hnm := (name_of_methodNamed Bd.named Bd.method).1
  have X0 : Stand p l e room_1 s m #[(.int p1), (.int p2)] below meth c s₁ [] 0 0 := Stand.of_body Bd
  have e0 : s₁.heap = h0 := by rw [← hh, Bd.state]; rfl
  have N0 := Fr.nil n0
  have pre0 : ∀ t, Steps p.tables e below (s₁.setTop (mkF m 0 #[.val (.int p1), .val (.int p2), .unset, .unset, .unset, .unset] [])) t → Steps p.tables e below (s₁.setTop (entryFrame m #[(.int p1), (.int p2)] maxLocals)) t := fun t k => castTop (ef_0_vv m p1 p2) k
  obtain ⟨_, _, ⟨T6, L6, k6, n6⟩, -, X6, ⟨Lc6, hQ6, l6, y6, z6⟩, st6⟩ := Jvm.LawKit.callS X0 hx (y := (⟨"com/example/grepo/grepo/internal/store/TruthAndPinLaw", "pick", "(I)Lcom/example/grepo/grepo/internal/store/Truth;"⟩ : MethodName)) hown (mvT hZ (hw _ (List.mem_of_getElem? (i := 0) rfl))) (mvT hZ (hw _ (List.mem_of_getElem? (i := 1) rfl))) (mvT hZ (hw _ (List.mem_of_getElem? (i := 2) rfl))) (mvT hZ (hw _ (List.mem_of_getElem? (i := 3) rfl))) (by decide) (backOf (W := 0) (r1_1 l Z a0 hw p1 w7 h0 n0 Z0 H0 H1) hZ (hw _ (List.mem_of_getElem? (i := 3) rfl)) (hw _ (List.mem_of_getElem? (i := 2) rfl)) (by decide) (by decide)) (g := (mkF m 1 #[.val (.int p1), .val (.int p2), .unset, .unset, .unset, .unset] [(.int p1)])) rfl (by rw [hml]; rfl) (argsL := [(.int p1)]) (rest := []) (lenOf pd_0 rfl) rfl (by show 2 * 0 + _ ≤ _; exact Nat.le_of_eq rfl) (hb hby at_1) (fun _ _ => ⟨rfl, e0, (by decide : 0 + 0 ≤ _), (by decide : 0 + 0 ≤ _)⟩)
  dsimp only [Pt.U, Pt.locs, Pt.cells, Pt.slots] at X6 l6 y6 z6 st6 hQ6
  subst l6 y6 z6
  obtain ⟨rfl, N6q, e6⟩ := hQ6
  have N6 := Fr.app N0 N6q
  obtain ⟨_, _, ⟨T11, L11, k11, n11⟩, -, X11, ⟨Lc11, hQ11, l11, y11, z11⟩, st11⟩ := Jvm.LawKit.callS X6 hx (y := (⟨"com/example/grepo/grepo/internal/store/TruthAndPinLaw", "pick", "(I)Lcom/example/grepo/grepo/internal/store/Truth;"⟩ : MethodName)) hown (mvT hZ (hw _ (List.mem_of_getElem? (i := 0) rfl))) (mvT hZ (hw _ (List.mem_of_getElem? (i := 1) rfl))) (mvT hZ (hw _ (List.mem_of_getElem? (i := 2) rfl))) (mvT hZ (hw _ (List.mem_of_getElem? (i := 3) rfl))) (by decide) (backOf (W := 0) (r1_1 l Z a0 hw p2 w7 h0 n0 Z0 H2 H1) hZ (hw _ (List.mem_of_getElem? (i := 3) rfl)) (hw _ (List.mem_of_getElem? (i := 2) rfl)) (by decide) (by decide)) (g := (mkF m 6 #[.val (.int p1), .val (.int p2), .val (.ref w7), .unset, .unset, .unset] [(.int p2)])) rfl (by rw [hml]; rfl) (argsL := [(.int p2)]) (rest := []) (lenOf pd_0 rfl) rfl (by show 2 * 0 + _ ≤ _; exact Nat.le_of_eq rfl) (hb hby at_6) (fun _ _ => ⟨rfl, e6, (by decide : 0 + 0 ≤ _), (by decide : 0 + 0 ≤ _)⟩)
  dsimp only [Pt.U, Pt.locs, Pt.cells, Pt.slots] at X11 l11 y11 z11 st11 hQ11
  subst l11 y11 z11
  obtain ⟨rfl, N11q, e11⟩ := hQ11
  have N11 := Fr.app N6 N11q
  obtain ⟨cq17, kq17, q17a, q17b, q17c⟩ := isOf hZ e11 H3
  obtain ⟨_, _, ⟨T17, L17, k17, n17⟩, -, X17, ⟨Lc17, hQ17, l17, y17, z17⟩, st17⟩ := X11.virtualBack hx (y := (⟨"com/example/grepo/grepo/internal/store/Truth", "and", "(Lcom/example/grepo/grepo/internal/store/Truth;)Lcom/example/grepo/grepo/internal/store/Truth;"⟩ : MethodName)) (z := (⟨"com/example/grepo/grepo/internal/store/Truth", "and", "(Lcom/example/grepo/grepo/internal/store/Truth;)Lcom/example/grepo/grepo/internal/store/Truth;"⟩ : MethodName)) hown (mvT hZ (hw _ (List.mem_of_getElem? (i := 8) rfl))) (mvT hZ (hw _ (List.mem_of_getElem? (i := 9) rfl))) (notFace_of_selects (args := #[]) (mvT hZ (hw _ (List.mem_of_getElem? (i := 11) rfl)))) (mvT hZ (hw _ (List.mem_of_getElem? (i := 11) rfl))) (mvT hZ (hw _ (List.mem_of_getElem? (i := 10) rfl))) (by decide) (backOf (W := 0) (r2_1 l Z a0 hw w7 w7 w7 h0 n0 Z0 H1 rfl) hZ (hw _ (List.mem_of_getElem? (i := 12) rfl)) (hw _ (List.mem_of_getElem? (i := 6) rfl)) (by decide) (by decide)) q17a q17c (g := (mkF m 12 #[.val (.int p1), .val (.int p2), .val (.ref w7), .val (.ref w7), .unset, .unset] [(.ref w7), (.ref w7)])) rfl (by rw [hml]; rfl) (Steps.refl _) (argsL := [(.ref w7)]) (rest := []) (lenOf pd_1 rfl) rfl (by show 2 * 0 + _ ≤ _; exact Nat.le_of_eq rfl) (hb hby at_12) (fun _ _ => ⟨rfl, e11, (by decide : 0 + 0 ≤ _), (by decide : 0 + 0 ≤ _)⟩)
  dsimp only [Pt.U, Pt.locs, Pt.cells, Pt.slots] at X17 l17 y17 z17 st17 hQ17
  subst l17 y17 z17
  obtain ⟨rfl, N17q, e17⟩ := hQ17
  have N17 := Fr.app N11 N17q
  obtain ⟨_, _, ⟨T21, L21, k21, n21⟩, -, X21, ⟨Lc21, hQ21, l21, y21, z21⟩, st21⟩ := Jvm.LawKit.callS X17 hx (y := (⟨"com/example/grepo/grepo/internal/store/TruthAndPinLaw", "rank", "(Lcom/example/grepo/grepo/internal/store/Truth;)I"⟩ : MethodName)) hown (mvT hZ (hw _ (List.mem_of_getElem? (i := 14) rfl))) (mvT hZ (hw _ (List.mem_of_getElem? (i := 15) rfl))) (mvT hZ (hw _ (List.mem_of_getElem? (i := 2) rfl))) (mvT hZ (hw _ (List.mem_of_getElem? (i := 16) rfl))) (by decide) (backOf (W := 0) (r3_1 l Z a0 hw w7 w7 h0 n0 Z0 H1 rfl) hZ (hw _ (List.mem_of_getElem? (i := 16) rfl)) (hw _ (List.mem_of_getElem? (i := 2) rfl)) (by decide) (by decide)) (g := (mkF m 18 #[.val (.int p1), .val (.int p2), .val (.ref w7), .val (.ref w7), .val (.ref w7), .unset] [(.ref w7)])) rfl (by rw [hml]; rfl) (argsL := [(.ref w7)]) (rest := []) (lenOf pd_2 rfl) rfl (by show 2 * 0 + _ ≤ _; exact Nat.le_of_eq rfl) (hb hby at_18) (fun _ _ => ⟨rfl, e17, (by decide : 0 + 0 ≤ _), (by decide : 0 + 0 ≤ _)⟩)
  dsimp only [Pt.U, Pt.locs, Pt.cells, Pt.slots] at X21 l21 y21 z21 st21 hQ21
  subst l21 y21 z21
  obtain ⟨rfl, N21q, e21⟩ := hQ21
  have N21 := Fr.app N17 N21q
  obtain ⟨_, _, ⟨T25, L25, k25, n25⟩, -, X25, ⟨Lc25, hQ25, l25, y25, z25⟩, st25⟩ := Jvm.LawKit.callS X21 hx (y := (⟨"com/example/grepo/grepo/internal/store/TruthAndPinLaw", "rank", "(Lcom/example/grepo/grepo/internal/store/Truth;)I"⟩ : MethodName)) hown (mvT hZ (hw _ (List.mem_of_getElem? (i := 14) rfl))) (mvT hZ (hw _ (List.mem_of_getElem? (i := 15) rfl))) (mvT hZ (hw _ (List.mem_of_getElem? (i := 2) rfl))) (mvT hZ (hw _ (List.mem_of_getElem? (i := 16) rfl))) (by decide) (backOf (W := 1) (r3_1 l Z a0 hw w7 w7 h0 n0 Z0 H1 rfl) hZ (hw _ (List.mem_of_getElem? (i := 16) rfl)) (hw _ (List.mem_of_getElem? (i := 2) rfl)) (by decide) (by decide)) (g := (mkF m 22 #[.val (.int p1), .val (.int p2), .val (.ref w7), .val (.ref w7), .val (.ref w7), .unset] [(.ref w7), (.int (0 : Int32))])) rfl (by rw [hml]; rfl) (argsL := [(.ref w7)]) (rest := [(.int (0 : Int32))]) (lenOf pd_2 rfl) rfl (by show 2 * 0 + _ ≤ _; exact Nat.le_of_eq rfl) (hb hby at_22) (fun _ _ => ⟨rfl, e21, (by decide : 0 + 0 ≤ _), (by decide : 0 + 0 ≤ _)⟩)
  dsimp only [Pt.U, Pt.locs, Pt.cells, Pt.slots] at X25 l25 y25 z25 st25 hQ25
  subst l25 y25 z25
  obtain ⟨rfl, N25q, e25⟩ := hQ25
  have N25 := Fr.app N21 N25q
  obtain ⟨_, _, ⟨T28, L28, k28, n28⟩, -, X28, ⟨Lc28, hQ28, l28, y28, z28⟩, st28⟩ := Jvm.LawKit.callS X25 hx (y := (⟨"java/lang/Math", "min", "(II)I"⟩ : MethodName)) hown (mvT hZ (hw _ (List.mem_of_getElem? (i := 17) rfl))) (mvT hZ (hw _ (List.mem_of_getElem? (i := 18) rfl))) (mvT hZ (hw _ (List.mem_of_getElem? (i := 19) rfl))) (mvT hZ (hw _ (List.mem_of_getElem? (i := 20) rfl))) (by decide) (backOf (W := 0) (r4_1 l Z a0 hw (0 : Int32) (0 : Int32) h0 n0 Z0 (by decide)) hZ (hw _ (List.mem_of_getElem? (i := 20) rfl)) (hw _ (List.mem_of_getElem? (i := 19) rfl)) (by decide) (by decide)) (g := (mkF m 25 #[.val (.int p1), .val (.int p2), .val (.ref w7), .val (.ref w7), .val (.ref w7), .unset] [(.int (0 : Int32)), (.int (0 : Int32))])) rfl (by rw [hml]; rfl) (argsL := [(.int (0 : Int32)), (.int (0 : Int32))]) (rest := []) (lenOf pd_3 rfl) rfl (by show 2 * 0 + _ ≤ _; exact Nat.le_of_eq rfl) (hb hby at_25) (fun _ _ => ⟨rfl, e25, (by decide : 0 + 0 ≤ _), (by decide : 0 + 0 ≤ _)⟩)
  dsimp only [Pt.U, Pt.locs, Pt.cells, Pt.slots] at X28 l28 y28 z28 st28 hQ28
  subst l28 y28 z28
  obtain ⟨rfl, N28q, e28⟩ := hQ28
  have N28 := Fr.app N25 N28q
  obtain ⟨_, _, ⟨T32, L32, k32, n32⟩, -, X32, ⟨Lc32, hQ32, l32, y32, z32⟩, st32⟩ := Jvm.LawKit.callS X28 hx (y := (⟨"com/example/grepo/grepo/internal/store/TruthAndPinLaw", "pick", "(I)Lcom/example/grepo/grepo/internal/store/Truth;"⟩ : MethodName)) hown (mvT hZ (hw _ (List.mem_of_getElem? (i := 0) rfl))) (mvT hZ (hw _ (List.mem_of_getElem? (i := 1) rfl))) (mvT hZ (hw _ (List.mem_of_getElem? (i := 2) rfl))) (mvT hZ (hw _ (List.mem_of_getElem? (i := 3) rfl))) (by decide) (backOf (W := 0) (r1_1 l Z a0 hw (0 : Int32) w7 h0 n0 Z0 (by decide) H1) hZ (hw _ (List.mem_of_getElem? (i := 3) rfl)) (hw _ (List.mem_of_getElem? (i := 2) rfl)) (by decide) (by decide)) (g := (mkF m 28 #[.val (.int p1), .val (.int p2), .val (.ref w7), .val (.ref w7), .val (.ref w7), .unset] [(.int (0 : Int32))])) rfl (by rw [hml]; rfl) (argsL := [(.int (0 : Int32))]) (rest := []) (lenOf pd_0 rfl) rfl (by show 2 * 0 + _ ≤ _; exact Nat.le_of_eq rfl) (hb hby at_28) (fun _ _ => ⟨rfl, e28, (by decide : 0 + 0 ≤ _), (by decide : 0 + 0 ≤ _)⟩)
  dsimp only [Pt.U, Pt.locs, Pt.cells, Pt.slots] at X32 l32 y32 z32 st32 hQ32
  subst l32 y32 z32
  obtain ⟨rfl, N32q, e32⟩ := hQ32
  have N32 := Fr.app N28 N32q
  obtain ⟨fs, hr, hrun, hended, hW, hsame⟩ := X32.leave (v := some (.int (1 : Int32))) (fun h => by rw [Bd.returns] at h; cases h)
  refine ⟨_, _, pre0 _ ?_, hrun, hended, _, _, rfl, ?_, ⟨_, rfl⟩, hW, hsame.mono (by decide) (by decide)⟩
  · show Steps p.tables e below (s₁.setTop (mkF m 0 #[.val (.int p1), .val (.int p2), .unset, .unset, .unset, .unset] [])) _
    refine XS.iloadN X0.here hx rfl (hb hby at_0) rfl ?_
    show Steps p.tables e below (s₁.setTop (mkF m 1 #[.val (.int p1), .val (.int p2), .unset, .unset, .unset, .unset] [(.int p1)])) _
    refine st6 _ ?_
    show Steps p.tables e below (T6.setTop (mkF m 4 #[.val (.int p1), .val (.int p2), .unset, .unset, .unset, .unset] [(.ref w7)])) _
    refine XS.astoreN X6.here hx rfl (hb hby at_4) rfl rfl (l' := #[.val (.int p1), .val (.int p2), .val (.ref w7), .unset, .unset, .unset]) rfl ?_
    show Steps p.tables e below (T6.setTop (mkF m 5 #[.val (.int p1), .val (.int p2), .val (.ref w7), .unset, .unset, .unset] [])) _
    refine XS.iloadN X6.here hx rfl (hb hby at_5) rfl ?_
    show Steps p.tables e below (T6.setTop (mkF m 6 #[.val (.int p1), .val (.int p2), .val (.ref w7), .unset, .unset, .unset] [(.int p2)])) _
    refine st11 _ ?_
    show Steps p.tables e below (T11.setTop (mkF m 9 #[.val (.int p1), .val (.int p2), .val (.ref w7), .unset, .unset, .unset] [(.ref w7)])) _
    refine XS.astoreN X11.here hx rfl (hb hby at_9) rfl rfl (l' := #[.val (.int p1), .val (.int p2), .val (.ref w7), .val (.ref w7), .unset, .unset]) rfl ?_
    show Steps p.tables e below (T11.setTop (mkF m 10 #[.val (.int p1), .val (.int p2), .val (.ref w7), .val (.ref w7), .unset, .unset] [])) _
    refine XS.aloadN X11.here hx rfl (hb hby at_10) rfl rfl ?_
    show Steps p.tables e below (T11.setTop (mkF m 11 #[.val (.int p1), .val (.int p2), .val (.ref w7), .val (.ref w7), .unset, .unset] [(.ref w7)])) _
    refine XS.aloadN X11.here hx rfl (hb hby at_11) rfl rfl ?_
    show Steps p.tables e below (T11.setTop (mkF m 12 #[.val (.int p1), .val (.int p2), .val (.ref w7), .val (.ref w7), .unset, .unset] [(.ref w7), (.ref w7)])) _
    refine st17.trans ?_
    show Steps p.tables e below (T17.setTop (mkF m 15 #[.val (.int p1), .val (.int p2), .val (.ref w7), .val (.ref w7), .unset, .unset] [(.ref w7)])) _
    refine XS.astore X17.here hx rfl (hb hby at_15) rfl rfl (l' := #[.val (.int p1), .val (.int p2), .val (.ref w7), .val (.ref w7), .val (.ref w7), .unset]) rfl ?_
    show Steps p.tables e below (T17.setTop (mkF m 17 #[.val (.int p1), .val (.int p2), .val (.ref w7), .val (.ref w7), .val (.ref w7), .unset] [])) _
    refine XS.aloadN X17.here hx rfl (hb hby at_17) rfl rfl ?_
    show Steps p.tables e below (T17.setTop (mkF m 18 #[.val (.int p1), .val (.int p2), .val (.ref w7), .val (.ref w7), .val (.ref w7), .unset] [(.ref w7)])) _
    refine st21 _ ?_
    show Steps p.tables e below (T21.setTop (mkF m 21 #[.val (.int p1), .val (.int p2), .val (.ref w7), .val (.ref w7), .val (.ref w7), .unset] [(.int (0 : Int32))])) _
    refine XS.aloadN X21.here hx rfl (hb hby at_21) rfl rfl ?_
    show Steps p.tables e below (T21.setTop (mkF m 22 #[.val (.int p1), .val (.int p2), .val (.ref w7), .val (.ref w7), .val (.ref w7), .unset] [(.ref w7), (.int (0 : Int32))])) _
    refine st25 _ ?_
    show Steps p.tables e below (T25.setTop (mkF m 25 #[.val (.int p1), .val (.int p2), .val (.ref w7), .val (.ref w7), .val (.ref w7), .unset] [(.int (0 : Int32)), (.int (0 : Int32))])) _
    refine st28 _ ?_
    show Steps p.tables e below (T28.setTop (mkF m 28 #[.val (.int p1), .val (.int p2), .val (.ref w7), .val (.ref w7), .val (.ref w7), .unset] [(.int (0 : Int32))])) _
    refine st32 _ ?_
    show Steps p.tables e below (T32.setTop (mkF m 31 #[.val (.int p1), .val (.int p2), .val (.ref w7), .val (.ref w7), .val (.ref w7), .unset] [(.ref w7)])) _
    refine XS.astore X32.here hx rfl (hb hby at_31) rfl rfl (l' := #[.val (.int p1), .val (.int p2), .val (.ref w7), .val (.ref w7), .val (.ref w7), .val (.ref w7)]) rfl ?_
    show Steps p.tables e below (T32.setTop (mkF m 33 #[.val (.int p1), .val (.int p2), .val (.ref w7), .val (.ref w7), .val (.ref w7), .val (.ref w7)] [])) _
    refine XS.aload X32.here hx rfl (hb hby at_33) rfl rfl ?_
    show Steps p.tables e below (T32.setTop (mkF m 35 #[.val (.int p1), .val (.int p2), .val (.ref w7), .val (.ref w7), .val (.ref w7), .val (.ref w7)] [(.ref w7)])) _
    refine XS.aload X32.here hx rfl (hb hby at_35) rfl rfl ?_
    show Steps p.tables e below (T32.setTop (mkF m 37 #[.val (.int p1), .val (.int p2), .val (.ref w7), .val (.ref w7), .val (.ref w7), .val (.ref w7)] [(.ref w7), (.ref w7)])) _
    refine Jvm.RoadKit.acmp (g := (mkF m 37 #[.val (.int p1), .val (.int p2), .val (.ref w7), .val (.ref w7), .val (.ref w7), .val (.ref w7)] [(.ref w7), (.ref w7)])) X32 hx rfl rfl rfl (pc0 := 37) (pc' := 40) (same := true) rfl (hb hby at_37) rfl (decide_eq_true rfl) (by decide) (by decide) ?_
    show Steps p.tables e below (T32.setTop (mkF m 40 #[.val (.int p1), .val (.int p2), .val (.ref w7), .val (.ref w7), .val (.ref w7), .val (.ref w7)] [])) _
    refine XS.iconst X32.here hx rfl (hb hby at_40) ?_
    show Steps p.tables e below (T32.setTop (mkF m 41 #[.val (.int p1), .val (.int p2), .val (.ref w7), .val (.ref w7), .val (.ref w7), .val (.ref w7)] [(.int (1 : Int32))])) _
    refine XS.goto X32.here hx rfl (pc0 := 41) (pc' := 45) rfl (hb hby at_41) (by decide) (by decide) ?_
    show Steps p.tables e below (T32.setTop (mkF m 45 #[.val (.int p1), .val (.int p2), .val (.ref w7), .val (.ref w7), .val (.ref w7), .val (.ref w7)] [(.int (1 : Int32))])) _
    exact retN X32 hx (t := .boolean) Bd.returns (by simp) (hb hby at_45) hr
  · show OQl (some (.int (1 : Int32))) n0 _ T32.heap _
    exact ⟨rfl, N32⟩
theorem d1_15 : decode method_2_code 15 = .ok (.iload_n 1, 1) := by decide +kernel
theorem d1_16 : decode method_2_code 16 = .ok (.iconst 1, 1) := by decide +kernel
theorem d1_17 : decode method_2_code 17 = .ok (.if_icmp .ne 7, 3) := by decide +kernel
theorem d1_20 : decode method_2_code 20 = .ok (.getstatic 14, 3) := by decide +kernel
theorem d1_23 : decode method_2_code 23 = .ok (.areturn, 1) := by decide +kernel
set_option maxRecDepth 65536 in
set_option maxHeartbeats 40000000 in
theorem r1_2 (l : Launch) (Z : State) (a0 : Array Value) (hw : ∀ d ∈ tables_1, d.before a0 Z = true) (p40 : Int32) (w41 : Addr) (h0 : Heap) (n0 : Nat) (Z0 : n0 ≤ h0.size) (H0 : ¬ (((p40 &&& (2147483647 : Int32)) % (3 : Int32)) = (0 : Int32))) (H1 : ((p40 &&& (2147483647 : Int32)) % (3 : Int32)) = (1 : Int32)) (H2 : Sta Z h0 "com/example/grepo/grepo/internal/store/Truth" "UNKNOWN" "Lcom/example/grepo/grepo/internal/store/Truth;" (.ref w41)) :
    OMet l Z (⟨"com/example/grepo/grepo/internal/store/TruthAndPinLaw", "pick", "(I)Lcom/example/grepo/grepo/internal/store/Truth;"⟩ : MethodName) method_2_code 2 (some (.object "com/example/grepo/grepo/internal/store/Truth")) [] ({ frames := 0, cells := 0, slots := 0, locals := 0 } : Room) h0 #[(.int p40)] (OQp (some (.ref w41)) h0 n0) := by
  refine MetFree.of_bodySF (plainFor_of_name pn_com_example_grepo_grepo_internal_store_TruthAndPinLaw) hisR ?_
  intro p e s m args below meth c s₁ Bd hml0 hP hK
  obtain ⟨rfl, hZ, hh⟩ := hP
  have hx := Bd.exec
  have hby := Bd.bytes
  have hml : c.maxLocals = 2 := hml0
  have hown : s.vm.findClass "com/example/grepo/grepo/internal/store/TruthAndPinLaw" = some m.cls := findClass_of_methodNamed Bd.named
  have hnm := (name_of_methodNamed Bd.named Bd.method).1
  have X0 : Stand p l e ({ frames := 0, cells := 0, slots := 0, locals := 0 } : Room) s m #[(.int p40)] below meth c s₁ [] 0 0 := Stand.of_body Bd
  have e0 : s₁.heap = h0 := by rw [← hh, Bd.state]; rfl
  have N0 := Fr.nil n0
  have pre0 : ∀ t, Steps p.tables e below (s₁.setTop (mkF m 0 #[.val (.int p40), .unset] [])) t → Steps p.tables e below (s₁.setTop (entryFrame m #[(.int p40)] 2)) t := fun t k => castTop (ef_1_v m p40) k
  obtain ⟨T42, X42, e42, st42⟩ := getS2 X0 hx hZ hown (host := "") (Or.inl (hw _ (List.mem_of_getElem? (i := 23) rfl))) Via.refl e0 H2 (g := (mkF m 20 #[.val (.int p40), .val (.int ((p40 &&& (2147483647 : Int32)) % (3 : Int32)))] [])) rfl (hb hby d1_20)
  obtain ⟨fs, hr, hrun, hended, hW, hsame⟩ := X42.leave (v := some (.ref w41)) (fun h => by rw [Bd.returns] at h; cases h)
  refine ⟨_, _, pre0 _ ?_, hrun, hended, _, _, rfl, ?_, ⟨_, rfl⟩, hW, hsame.mono (by decide) (by decide)⟩
  · show Steps p.tables e below (s₁.setTop (mkF m 0 #[.val (.int p40), .unset] [])) _
    refine XS.iloadN X0.here hx rfl (hb hby d1_0) rfl ?_
    show Steps p.tables e below (s₁.setTop (mkF m 1 #[.val (.int p40), .unset] [(.int p40)])) _
    refine X0.ldcInt hx hown (mvT hZ (hw _ (List.mem_of_getElem? (i := 4) rfl))) (g := (mkF m 1 #[.val (.int p40), .unset] [(.int p40)])) rfl (hb hby d1_1) _ ?_
    show Steps p.tables e below (s₁.setTop (mkF m 3 #[.val (.int p40), .unset] [(.int (2147483647 : Int32)), (.int p40)])) _
    refine XS.iand X0.here hx rfl (hb hby d1_3) rfl ?_
    show Steps p.tables e below (s₁.setTop (mkF m 4 #[.val (.int p40), .unset] [(.int (p40 &&& (2147483647 : Int32)))])) _
    refine XS.iconst X0.here hx rfl (hb hby d1_4) ?_
    show Steps p.tables e below (s₁.setTop (mkF m 5 #[.val (.int p40), .unset] [(.int (3 : Int32)), (.int (p40 &&& (2147483647 : Int32)))])) _
    refine iremM X0 hx rfl (hb hby d1_5) rfl (by decide) ?_
    show Steps p.tables e below (s₁.setTop (mkF m 6 #[.val (.int p40), .unset] [(.int ((p40 &&& (2147483647 : Int32)) % (3 : Int32)))])) _
    refine XS.istoreN X0.here hx rfl (hb hby d1_6) rfl (l' := #[.val (.int p40), .val (.int ((p40 &&& (2147483647 : Int32)) % (3 : Int32)))]) rfl ?_
    show Steps p.tables e below (s₁.setTop (mkF m 7 #[.val (.int p40), .val (.int ((p40 &&& (2147483647 : Int32)) % (3 : Int32)))] [])) _
    refine XS.iloadN X0.here hx rfl (hb hby d1_7) rfl ?_
    show Steps p.tables e below (s₁.setTop (mkF m 8 #[.val (.int p40), .val (.int ((p40 &&& (2147483647 : Int32)) % (3 : Int32)))] [(.int ((p40 &&& (2147483647 : Int32)) % (3 : Int32)))])) _
    refine XS.ifYes X0.here hx rfl (pc0 := 8) (pc' := 15) rfl (hb hby d1_8) rfl ((if0 _ _).trans (feq H0).2) (by decide) (by decide) ?_
    show Steps p.tables e below (s₁.setTop (mkF m 15 #[.val (.int p40), .val (.int ((p40 &&& (2147483647 : Int32)) % (3 : Int32)))] [])) _
    refine XS.iloadN X0.here hx rfl (hb hby d1_15) rfl ?_
    show Steps p.tables e below (s₁.setTop (mkF m 16 #[.val (.int p40), .val (.int ((p40 &&& (2147483647 : Int32)) % (3 : Int32)))] [(.int ((p40 &&& (2147483647 : Int32)) % (3 : Int32)))])) _
    refine XS.iconst X0.here hx rfl (hb hby d1_16) ?_
    show Steps p.tables e below (s₁.setTop (mkF m 17 #[.val (.int p40), .val (.int ((p40 &&& (2147483647 : Int32)) % (3 : Int32)))] [(.int (1 : Int32)), (.int ((p40 &&& (2147483647 : Int32)) % (3 : Int32)))])) _
    refine XS.icmpNo X0.here hx rfl (hb hby d1_17) rfl (teq H1).2 ?_
    show Steps p.tables e below (s₁.setTop (mkF m 20 #[.val (.int p40), .val (.int ((p40 &&& (2147483647 : Int32)) % (3 : Int32)))] [])) _
    refine st42 _ ?_
    show Steps p.tables e below (T42.setTop (mkF m 23 #[.val (.int p40), .val (.int ((p40 &&& (2147483647 : Int32)) % (3 : Int32)))] [(.ref w41)])) _
    jvm_step X42.here [X42.here.top, hx, (hb hby d1_23), X42.method', Bd.returns, Value.isRef, FieldType.isReference]
    first | (intro acts; rw [hr _ acts rfl rfl rfl]) | rw [hr _ _ rfl rfl rfl]
    exact Steps.refl _
  · show OQp (some (.ref w41)) h0 n0 _ T42.heap _
    rw [e42]
    exact ⟨rfl, N0, rfl⟩
theorem d3_9 : decode method_3_code 9 = .ok (.aload_n 0, 1) := by decide +kernel
theorem d3_10 : decode method_3_code 10 = .ok (.getstatic 14, 3) := by decide +kernel
theorem d3_13 : decode method_3_code 13 = .ok (.if_acmp .ne 5, 3) := by decide +kernel
theorem d3_16 : decode method_3_code 16 = .ok (.iconst 1, 1) := by decide +kernel
theorem d3_17 : decode method_3_code 17 = .ok (.ireturn, 1) := by decide +kernel
set_option maxRecDepth 65536 in
set_option maxHeartbeats 40000000 in
theorem r3_2 (l : Launch) (Z : State) (a0 : Array Value) (hw : ∀ d ∈ tables_1, d.before a0 Z = true) (a55 : Addr) (w56 : Addr) (w58 : Addr) (h0 : Heap) (n0 : Nat) (Z0 : n0 ≤ h0.size) (H0 : Sta Z h0 "com/example/grepo/grepo/internal/store/Truth" "FALSE" "Lcom/example/grepo/grepo/internal/store/Truth;" (.ref w56)) (H1 : a55 ≠ w56) (H2 : Sta Z h0 "com/example/grepo/grepo/internal/store/Truth" "UNKNOWN" "Lcom/example/grepo/grepo/internal/store/Truth;" (.ref w58)) (H3 : a55 = w58) :
    OMet l Z (⟨"com/example/grepo/grepo/internal/store/TruthAndPinLaw", "rank", "(Lcom/example/grepo/grepo/internal/store/Truth;)I"⟩ : MethodName) method_3_code 1 (some .int) [] ({ frames := 0, cells := 0, slots := 0, locals := 0 } : Room) h0 #[(.ref a55)] (OQp (some (.int (1 : Int32))) h0 n0) := by
  refine MetFree.of_bodySF (plainFor_of_name pn_com_example_grepo_grepo_internal_store_TruthAndPinLaw) hisR ?_
  intro p e s m args below meth c s₁ Bd hml0 hP hK
  obtain ⟨rfl, hZ, hh⟩ := hP
  have hx := Bd.exec
  have hby := Bd.bytes
  have hml : c.maxLocals = 1 := hml0
  have hown : s.vm.findClass "com/example/grepo/grepo/internal/store/TruthAndPinLaw" = some m.cls := findClass_of_methodNamed Bd.named
  have hnm := (name_of_methodNamed Bd.named Bd.method).1
  have X0 : Stand p l e ({ frames := 0, cells := 0, slots := 0, locals := 0 } : Room) s m #[(.ref a55)] below meth c s₁ [] 0 0 := Stand.of_body Bd
  have e0 : s₁.heap = h0 := by rw [← hh, Bd.state]; rfl
  have N0 := Fr.nil n0
  have pre0 : ∀ t, Steps p.tables e below (s₁.setTop (mkF m 0 #[.val (.ref a55)] [])) t → Steps p.tables e below (s₁.setTop (entryFrame m #[(.ref a55)] 1)) t := fun t k => castTop (ef_3_v m a55) k
  obtain ⟨T57, X57, e57, st57⟩ := getS2 X0 hx hZ hown (host := "") (Or.inl (hw _ (List.mem_of_getElem? (i := 5) rfl))) Via.refl e0 H0 (g := (mkF m 1 #[.val (.ref a55)] [(.ref a55)])) rfl (hb hby d3_1)
  obtain ⟨T59, X59, e59, st59⟩ := getS2 X57 hx hZ hown (host := "") (Or.inl (hw _ (List.mem_of_getElem? (i := 23) rfl))) Via.refl e57 H2 (g := (mkF m 10 #[.val (.ref a55)] [(.ref a55)])) rfl (hb hby d3_10)
  obtain ⟨fs, hr, hrun, hended, hW, hsame⟩ := X59.leave (v := some (.int (1 : Int32))) (fun h => by rw [Bd.returns] at h; cases h)
  refine ⟨_, _, pre0 _ ?_, hrun, hended, _, _, rfl, ?_, ⟨_, rfl⟩, hW, hsame.mono (by decide) (by decide)⟩
  · show Steps p.tables e below (s₁.setTop (mkF m 0 #[.val (.ref a55)] [])) _
    refine XS.aloadN X0.here hx rfl (hb hby d3_0) rfl rfl ?_
    show Steps p.tables e below (s₁.setTop (mkF m 1 #[.val (.ref a55)] [(.ref a55)])) _
    refine st57 _ ?_
    show Steps p.tables e below (T57.setTop (mkF m 4 #[.val (.ref a55)] [(.ref w56), (.ref a55)])) _
    refine Jvm.RoadKit.acmp (g := (mkF m 4 #[.val (.ref a55)] [(.ref w56), (.ref a55)])) X57 hx rfl rfl rfl (pc0 := 4) (pc' := 9) (same := false) rfl (hb hby d3_4) rfl (decide_eq_false fun q => H1 (Value.ref.inj q)) (by decide) (by decide) ?_
    show Steps p.tables e below (T57.setTop (mkF m 9 #[.val (.ref a55)] [])) _
    refine XS.aloadN X57.here hx rfl (hb hby d3_9) rfl rfl ?_
    show Steps p.tables e below (T57.setTop (mkF m 10 #[.val (.ref a55)] [(.ref a55)])) _
    refine st59 _ ?_
    show Steps p.tables e below (T59.setTop (mkF m 13 #[.val (.ref a55)] [(.ref w58), (.ref a55)])) _
    refine Jvm.RoadKit.acmp (g := (mkF m 13 #[.val (.ref a55)] [(.ref w58), (.ref a55)])) X59 hx rfl rfl rfl (pc0 := 13) (pc' := 16) (same := true) rfl (hb hby d3_13) rfl (decide_eq_true (congrArg Value.ref H3)) (by decide) (by decide) ?_
    show Steps p.tables e below (T59.setTop (mkF m 16 #[.val (.ref a55)] [])) _
    refine XS.iconst X59.here hx rfl (hb hby d3_16) ?_
    show Steps p.tables e below (T59.setTop (mkF m 17 #[.val (.ref a55)] [(.int (1 : Int32))])) _
    exact retI X59 hx Bd.returns (hb hby d3_17) hr
  · show OQp (some (.int (1 : Int32))) h0 n0 _ T59.heap _
    rw [e59]
    exact ⟨rfl, N0, rfl⟩
set_option maxRecDepth 65536 in
set_option maxHeartbeats 40000000 in
theorem r0_2 (l : Launch) (Z : State) (a0 : Array Value) (hw : ∀ d ∈ tables_1, d.before a0 Z = true) (p33 : Int32) (p34 : Int32) (w39 : Addr) (w44 : Addr) (h0 : Heap) (n0 : Nat) (Z0 : n0 ≤ h0.size) (H0 : ((p33 &&& (2147483647 : Int32)) % (3 : Int32)) = (0 : Int32)) (H1 : Sta Z h0 "com/example/grepo/grepo/internal/store/Truth" "FALSE" "Lcom/example/grepo/grepo/internal/store/Truth;" (.ref w39)) (H2 : ¬ (((p34 &&& (2147483647 : Int32)) % (3 : Int32)) = (0 : Int32))) (H3 : ((p34 &&& (2147483647 : Int32)) % (3 : Int32)) = (1 : Int32)) (H4 : Sta Z h0 "com/example/grepo/grepo/internal/store/Truth" "UNKNOWN" "Lcom/example/grepo/grepo/internal/store/Truth;" (.ref w44)) (H5 : Exa Z h0 w39 "com/example/grepo/grepo/internal/store/Truth") (H6 : w44 ≠ w39) :
    OMet l Z x code maxLocals ret tables_1 room_1 h0 #[(.int p33), (.int p34)] (OQl (some (.int (1 : Int32))) n0) := by
  refine MetFree.of_bodySF (plainFor_of_name pn_com_example_grepo_grepo_internal_store_TruthAndPinLaw) hisR ?_
  intro p e s m args below meth c s₁ Bd hml0 hP hK
  obtain ⟨rfl, hZ, hh⟩ := hP
  have hx := Bd.exec
  have hby := Bd.bytes
  have hml : c.maxLocals = 6 := hml0
  have hown : s.vm.findClass "com/example/grepo/grepo/internal/store/TruthAndPinLaw" = some m.cls := findClass_of_methodNamed Bd.named
  have hnm := (name_of_methodNamed Bd.named Bd.method).1
  have X0 : Stand p l e room_1 s m #[(.int p33), (.int p34)] below meth c s₁ [] 0 0 := Stand.of_body Bd
  have e0 : s₁.heap = h0 := by rw [← hh, Bd.state]; rfl
  have N0 := Fr.nil n0
  have pre0 : ∀ t, Steps p.tables e below (s₁.setTop (mkF m 0 #[.val (.int p33), .val (.int p34), .unset, .unset, .unset, .unset] [])) t → Steps p.tables e below (s₁.setTop (entryFrame m #[(.int p33), (.int p34)] maxLocals)) t := fun t k => castTop (ef_0_vv m p33 p34) k
  obtain ⟨_, _, ⟨T38, L38, k38, n38⟩, -, X38, ⟨Lc38, hQ38, l38, y38, z38⟩, st38⟩ := Jvm.LawKit.callS X0 hx (y := (⟨"com/example/grepo/grepo/internal/store/TruthAndPinLaw", "pick", "(I)Lcom/example/grepo/grepo/internal/store/Truth;"⟩ : MethodName)) hown (mvT hZ (hw _ (List.mem_of_getElem? (i := 0) rfl))) (mvT hZ (hw _ (List.mem_of_getElem? (i := 1) rfl))) (mvT hZ (hw _ (List.mem_of_getElem? (i := 2) rfl))) (mvT hZ (hw _ (List.mem_of_getElem? (i := 3) rfl))) (by decide) (backOf (W := 0) (r1_1 l Z a0 hw p33 w39 h0 n0 Z0 H0 H1) hZ (hw _ (List.mem_of_getElem? (i := 3) rfl)) (hw _ (List.mem_of_getElem? (i := 2) rfl)) (by decide) (by decide)) (g := (mkF m 1 #[.val (.int p33), .val (.int p34), .unset, .unset, .unset, .unset] [(.int p33)])) rfl (by rw [hml]; rfl) (argsL := [(.int p33)]) (rest := []) (lenOf pd_0 rfl) rfl (by show 2 * 0 + _ ≤ _; exact Nat.le_of_eq rfl) (hb hby at_1) (fun _ _ => ⟨rfl, e0, (by decide : 0 + 0 ≤ _), (by decide : 0 + 0 ≤ _)⟩)
  dsimp only [Pt.U, Pt.locs, Pt.cells, Pt.slots] at X38 l38 y38 z38 st38 hQ38
  subst l38 y38 z38
  obtain ⟨rfl, N38q, e38⟩ := hQ38
  have N38 := Fr.app N0 N38q
  obtain ⟨_, _, ⟨T43, L43, k43, n43⟩, -, X43, ⟨Lc43, hQ43, l43, y43, z43⟩, st43⟩ := Jvm.LawKit.callS X38 hx (y := (⟨"com/example/grepo/grepo/internal/store/TruthAndPinLaw", "pick", "(I)Lcom/example/grepo/grepo/internal/store/Truth;"⟩ : MethodName)) hown (mvT hZ (hw _ (List.mem_of_getElem? (i := 0) rfl))) (mvT hZ (hw _ (List.mem_of_getElem? (i := 1) rfl))) (mvT hZ (hw _ (List.mem_of_getElem? (i := 2) rfl))) (mvT hZ (hw _ (List.mem_of_getElem? (i := 3) rfl))) (by decide) (backOf (W := 0) (r1_2 l Z a0 hw p34 w44 h0 n0 Z0 H2 H3 H4) hZ (hw _ (List.mem_of_getElem? (i := 3) rfl)) (hw _ (List.mem_of_getElem? (i := 2) rfl)) (by decide) (by decide)) (g := (mkF m 6 #[.val (.int p33), .val (.int p34), .val (.ref w39), .unset, .unset, .unset] [(.int p34)])) rfl (by rw [hml]; rfl) (argsL := [(.int p34)]) (rest := []) (lenOf pd_0 rfl) rfl (by show 2 * 0 + _ ≤ _; exact Nat.le_of_eq rfl) (hb hby at_6) (fun _ _ => ⟨rfl, e38, (by decide : 0 + 0 ≤ _), (by decide : 0 + 0 ≤ _)⟩)
  dsimp only [Pt.U, Pt.locs, Pt.cells, Pt.slots] at X43 l43 y43 z43 st43 hQ43
  subst l43 y43 z43
  obtain ⟨rfl, N43q, e43⟩ := hQ43
  have N43 := Fr.app N38 N43q
  obtain ⟨cq50, kq50, q50a, q50b, q50c⟩ := isOf hZ e43 H5
  obtain ⟨_, _, ⟨T50, L50, k50, n50⟩, -, X50, ⟨Lc50, hQ50, l50, y50, z50⟩, st50⟩ := X43.virtualBack hx (y := (⟨"com/example/grepo/grepo/internal/store/Truth", "and", "(Lcom/example/grepo/grepo/internal/store/Truth;)Lcom/example/grepo/grepo/internal/store/Truth;"⟩ : MethodName)) (z := (⟨"com/example/grepo/grepo/internal/store/Truth", "and", "(Lcom/example/grepo/grepo/internal/store/Truth;)Lcom/example/grepo/grepo/internal/store/Truth;"⟩ : MethodName)) hown (mvT hZ (hw _ (List.mem_of_getElem? (i := 8) rfl))) (mvT hZ (hw _ (List.mem_of_getElem? (i := 9) rfl))) (notFace_of_selects (args := #[]) (mvT hZ (hw _ (List.mem_of_getElem? (i := 11) rfl)))) (mvT hZ (hw _ (List.mem_of_getElem? (i := 11) rfl))) (mvT hZ (hw _ (List.mem_of_getElem? (i := 10) rfl))) (by decide) (backOf (W := 0) (r2_1 l Z a0 hw w39 w44 w39 h0 n0 Z0 H1 rfl) hZ (hw _ (List.mem_of_getElem? (i := 12) rfl)) (hw _ (List.mem_of_getElem? (i := 6) rfl)) (by decide) (by decide)) q50a q50c (g := (mkF m 12 #[.val (.int p33), .val (.int p34), .val (.ref w39), .val (.ref w44), .unset, .unset] [(.ref w44), (.ref w39)])) rfl (by rw [hml]; rfl) (Steps.refl _) (argsL := [(.ref w44)]) (rest := []) (lenOf pd_1 rfl) rfl (by show 2 * 0 + _ ≤ _; exact Nat.le_of_eq rfl) (hb hby at_12) (fun _ _ => ⟨rfl, e43, (by decide : 0 + 0 ≤ _), (by decide : 0 + 0 ≤ _)⟩)
  dsimp only [Pt.U, Pt.locs, Pt.cells, Pt.slots] at X50 l50 y50 z50 st50 hQ50
  subst l50 y50 z50
  obtain ⟨rfl, N50q, e50⟩ := hQ50
  have N50 := Fr.app N43 N50q
  obtain ⟨_, _, ⟨T54, L54, k54, n54⟩, -, X54, ⟨Lc54, hQ54, l54, y54, z54⟩, st54⟩ := Jvm.LawKit.callS X50 hx (y := (⟨"com/example/grepo/grepo/internal/store/TruthAndPinLaw", "rank", "(Lcom/example/grepo/grepo/internal/store/Truth;)I"⟩ : MethodName)) hown (mvT hZ (hw _ (List.mem_of_getElem? (i := 14) rfl))) (mvT hZ (hw _ (List.mem_of_getElem? (i := 15) rfl))) (mvT hZ (hw _ (List.mem_of_getElem? (i := 2) rfl))) (mvT hZ (hw _ (List.mem_of_getElem? (i := 16) rfl))) (by decide) (backOf (W := 0) (r3_1 l Z a0 hw w39 w39 h0 n0 Z0 H1 rfl) hZ (hw _ (List.mem_of_getElem? (i := 16) rfl)) (hw _ (List.mem_of_getElem? (i := 2) rfl)) (by decide) (by decide)) (g := (mkF m 18 #[.val (.int p33), .val (.int p34), .val (.ref w39), .val (.ref w44), .val (.ref w39), .unset] [(.ref w39)])) rfl (by rw [hml]; rfl) (argsL := [(.ref w39)]) (rest := []) (lenOf pd_2 rfl) rfl (by show 2 * 0 + _ ≤ _; exact Nat.le_of_eq rfl) (hb hby at_18) (fun _ _ => ⟨rfl, e50, (by decide : 0 + 0 ≤ _), (by decide : 0 + 0 ≤ _)⟩)
  dsimp only [Pt.U, Pt.locs, Pt.cells, Pt.slots] at X54 l54 y54 z54 st54 hQ54
  subst l54 y54 z54
  obtain ⟨rfl, N54q, e54⟩ := hQ54
  have N54 := Fr.app N50 N54q
  obtain ⟨_, _, ⟨T60, L60, k60, n60⟩, -, X60, ⟨Lc60, hQ60, l60, y60, z60⟩, st60⟩ := Jvm.LawKit.callS X54 hx (y := (⟨"com/example/grepo/grepo/internal/store/TruthAndPinLaw", "rank", "(Lcom/example/grepo/grepo/internal/store/Truth;)I"⟩ : MethodName)) hown (mvT hZ (hw _ (List.mem_of_getElem? (i := 14) rfl))) (mvT hZ (hw _ (List.mem_of_getElem? (i := 15) rfl))) (mvT hZ (hw _ (List.mem_of_getElem? (i := 2) rfl))) (mvT hZ (hw _ (List.mem_of_getElem? (i := 16) rfl))) (by decide) (backOf (W := 1) (r3_2 l Z a0 hw w44 w39 w44 h0 n0 Z0 H1 H6 H4 rfl) hZ (hw _ (List.mem_of_getElem? (i := 16) rfl)) (hw _ (List.mem_of_getElem? (i := 2) rfl)) (by decide) (by decide)) (g := (mkF m 22 #[.val (.int p33), .val (.int p34), .val (.ref w39), .val (.ref w44), .val (.ref w39), .unset] [(.ref w44), (.int (0 : Int32))])) rfl (by rw [hml]; rfl) (argsL := [(.ref w44)]) (rest := [(.int (0 : Int32))]) (lenOf pd_2 rfl) rfl (by show 2 * 0 + _ ≤ _; exact Nat.le_of_eq rfl) (hb hby at_22) (fun _ _ => ⟨rfl, e54, (by decide : 0 + 0 ≤ _), (by decide : 0 + 0 ≤ _)⟩)
  dsimp only [Pt.U, Pt.locs, Pt.cells, Pt.slots] at X60 l60 y60 z60 st60 hQ60
  subst l60 y60 z60
  obtain ⟨rfl, N60q, e60⟩ := hQ60
  have N60 := Fr.app N54 N60q
  obtain ⟨_, _, ⟨T63, L63, k63, n63⟩, -, X63, ⟨Lc63, hQ63, l63, y63, z63⟩, st63⟩ := Jvm.LawKit.callS X60 hx (y := (⟨"java/lang/Math", "min", "(II)I"⟩ : MethodName)) hown (mvT hZ (hw _ (List.mem_of_getElem? (i := 17) rfl))) (mvT hZ (hw _ (List.mem_of_getElem? (i := 18) rfl))) (mvT hZ (hw _ (List.mem_of_getElem? (i := 19) rfl))) (mvT hZ (hw _ (List.mem_of_getElem? (i := 20) rfl))) (by decide) (backOf (W := 0) (r4_1 l Z a0 hw (0 : Int32) (1 : Int32) h0 n0 Z0 (by decide)) hZ (hw _ (List.mem_of_getElem? (i := 20) rfl)) (hw _ (List.mem_of_getElem? (i := 19) rfl)) (by decide) (by decide)) (g := (mkF m 25 #[.val (.int p33), .val (.int p34), .val (.ref w39), .val (.ref w44), .val (.ref w39), .unset] [(.int (1 : Int32)), (.int (0 : Int32))])) rfl (by rw [hml]; rfl) (argsL := [(.int (0 : Int32)), (.int (1 : Int32))]) (rest := []) (lenOf pd_3 rfl) rfl (by show 2 * 0 + _ ≤ _; exact Nat.le_of_eq rfl) (hb hby at_25) (fun _ _ => ⟨rfl, e60, (by decide : 0 + 0 ≤ _), (by decide : 0 + 0 ≤ _)⟩)
  dsimp only [Pt.U, Pt.locs, Pt.cells, Pt.slots] at X63 l63 y63 z63 st63 hQ63
  subst l63 y63 z63
  obtain ⟨rfl, N63q, e63⟩ := hQ63
  have N63 := Fr.app N60 N63q
  obtain ⟨_, _, ⟨T67, L67, k67, n67⟩, -, X67, ⟨Lc67, hQ67, l67, y67, z67⟩, st67⟩ := Jvm.LawKit.callS X63 hx (y := (⟨"com/example/grepo/grepo/internal/store/TruthAndPinLaw", "pick", "(I)Lcom/example/grepo/grepo/internal/store/Truth;"⟩ : MethodName)) hown (mvT hZ (hw _ (List.mem_of_getElem? (i := 0) rfl))) (mvT hZ (hw _ (List.mem_of_getElem? (i := 1) rfl))) (mvT hZ (hw _ (List.mem_of_getElem? (i := 2) rfl))) (mvT hZ (hw _ (List.mem_of_getElem? (i := 3) rfl))) (by decide) (backOf (W := 0) (r1_1 l Z a0 hw (0 : Int32) w39 h0 n0 Z0 (by decide) H1) hZ (hw _ (List.mem_of_getElem? (i := 3) rfl)) (hw _ (List.mem_of_getElem? (i := 2) rfl)) (by decide) (by decide)) (g := (mkF m 28 #[.val (.int p33), .val (.int p34), .val (.ref w39), .val (.ref w44), .val (.ref w39), .unset] [(.int (0 : Int32))])) rfl (by rw [hml]; rfl) (argsL := [(.int (0 : Int32))]) (rest := []) (lenOf pd_0 rfl) rfl (by show 2 * 0 + _ ≤ _; exact Nat.le_of_eq rfl) (hb hby at_28) (fun _ _ => ⟨rfl, e63, (by decide : 0 + 0 ≤ _), (by decide : 0 + 0 ≤ _)⟩)
  dsimp only [Pt.U, Pt.locs, Pt.cells, Pt.slots] at X67 l67 y67 z67 st67 hQ67
  subst l67 y67 z67
  obtain ⟨rfl, N67q, e67⟩ := hQ67
  have N67 := Fr.app N63 N67q
  obtain ⟨fs, hr, hrun, hended, hW, hsame⟩ := X67.leave (v := some (.int (1 : Int32))) (fun h => by rw [Bd.returns] at h; cases h)
  refine ⟨_, _, pre0 _ ?_, hrun, hended, _, _, rfl, ?_, ⟨_, rfl⟩, hW, hsame.mono (by decide) (by decide)⟩
  · show Steps p.tables e below (s₁.setTop (mkF m 0 #[.val (.int p33), .val (.int p34), .unset, .unset, .unset, .unset] [])) _
    refine XS.iloadN X0.here hx rfl (hb hby at_0) rfl ?_
    show Steps p.tables e below (s₁.setTop (mkF m 1 #[.val (.int p33), .val (.int p34), .unset, .unset, .unset, .unset] [(.int p33)])) _
    refine st38 _ ?_
    show Steps p.tables e below (T38.setTop (mkF m 4 #[.val (.int p33), .val (.int p34), .unset, .unset, .unset, .unset] [(.ref w39)])) _
    refine XS.astoreN X38.here hx rfl (hb hby at_4) rfl rfl (l' := #[.val (.int p33), .val (.int p34), .val (.ref w39), .unset, .unset, .unset]) rfl ?_
    show Steps p.tables e below (T38.setTop (mkF m 5 #[.val (.int p33), .val (.int p34), .val (.ref w39), .unset, .unset, .unset] [])) _
    refine XS.iloadN X38.here hx rfl (hb hby at_5) rfl ?_
    show Steps p.tables e below (T38.setTop (mkF m 6 #[.val (.int p33), .val (.int p34), .val (.ref w39), .unset, .unset, .unset] [(.int p34)])) _
    refine st43 _ ?_
    show Steps p.tables e below (T43.setTop (mkF m 9 #[.val (.int p33), .val (.int p34), .val (.ref w39), .unset, .unset, .unset] [(.ref w44)])) _
    refine XS.astoreN X43.here hx rfl (hb hby at_9) rfl rfl (l' := #[.val (.int p33), .val (.int p34), .val (.ref w39), .val (.ref w44), .unset, .unset]) rfl ?_
    show Steps p.tables e below (T43.setTop (mkF m 10 #[.val (.int p33), .val (.int p34), .val (.ref w39), .val (.ref w44), .unset, .unset] [])) _
    refine XS.aloadN X43.here hx rfl (hb hby at_10) rfl rfl ?_
    show Steps p.tables e below (T43.setTop (mkF m 11 #[.val (.int p33), .val (.int p34), .val (.ref w39), .val (.ref w44), .unset, .unset] [(.ref w39)])) _
    refine XS.aloadN X43.here hx rfl (hb hby at_11) rfl rfl ?_
    show Steps p.tables e below (T43.setTop (mkF m 12 #[.val (.int p33), .val (.int p34), .val (.ref w39), .val (.ref w44), .unset, .unset] [(.ref w44), (.ref w39)])) _
    refine st50.trans ?_
    show Steps p.tables e below (T50.setTop (mkF m 15 #[.val (.int p33), .val (.int p34), .val (.ref w39), .val (.ref w44), .unset, .unset] [(.ref w39)])) _
    refine XS.astore X50.here hx rfl (hb hby at_15) rfl rfl (l' := #[.val (.int p33), .val (.int p34), .val (.ref w39), .val (.ref w44), .val (.ref w39), .unset]) rfl ?_
    show Steps p.tables e below (T50.setTop (mkF m 17 #[.val (.int p33), .val (.int p34), .val (.ref w39), .val (.ref w44), .val (.ref w39), .unset] [])) _
    refine XS.aloadN X50.here hx rfl (hb hby at_17) rfl rfl ?_
    show Steps p.tables e below (T50.setTop (mkF m 18 #[.val (.int p33), .val (.int p34), .val (.ref w39), .val (.ref w44), .val (.ref w39), .unset] [(.ref w39)])) _
    refine st54 _ ?_
    show Steps p.tables e below (T54.setTop (mkF m 21 #[.val (.int p33), .val (.int p34), .val (.ref w39), .val (.ref w44), .val (.ref w39), .unset] [(.int (0 : Int32))])) _
    refine XS.aloadN X54.here hx rfl (hb hby at_21) rfl rfl ?_
    show Steps p.tables e below (T54.setTop (mkF m 22 #[.val (.int p33), .val (.int p34), .val (.ref w39), .val (.ref w44), .val (.ref w39), .unset] [(.ref w44), (.int (0 : Int32))])) _
    refine st60 _ ?_
    show Steps p.tables e below (T60.setTop (mkF m 25 #[.val (.int p33), .val (.int p34), .val (.ref w39), .val (.ref w44), .val (.ref w39), .unset] [(.int (1 : Int32)), (.int (0 : Int32))])) _
    refine st63 _ ?_
    show Steps p.tables e below (T63.setTop (mkF m 28 #[.val (.int p33), .val (.int p34), .val (.ref w39), .val (.ref w44), .val (.ref w39), .unset] [(.int (0 : Int32))])) _
    refine st67 _ ?_
    show Steps p.tables e below (T67.setTop (mkF m 31 #[.val (.int p33), .val (.int p34), .val (.ref w39), .val (.ref w44), .val (.ref w39), .unset] [(.ref w39)])) _
    refine XS.astore X67.here hx rfl (hb hby at_31) rfl rfl (l' := #[.val (.int p33), .val (.int p34), .val (.ref w39), .val (.ref w44), .val (.ref w39), .val (.ref w39)]) rfl ?_
    show Steps p.tables e below (T67.setTop (mkF m 33 #[.val (.int p33), .val (.int p34), .val (.ref w39), .val (.ref w44), .val (.ref w39), .val (.ref w39)] [])) _
    refine XS.aload X67.here hx rfl (hb hby at_33) rfl rfl ?_
    show Steps p.tables e below (T67.setTop (mkF m 35 #[.val (.int p33), .val (.int p34), .val (.ref w39), .val (.ref w44), .val (.ref w39), .val (.ref w39)] [(.ref w39)])) _
    refine XS.aload X67.here hx rfl (hb hby at_35) rfl rfl ?_
    show Steps p.tables e below (T67.setTop (mkF m 37 #[.val (.int p33), .val (.int p34), .val (.ref w39), .val (.ref w44), .val (.ref w39), .val (.ref w39)] [(.ref w39), (.ref w39)])) _
    refine Jvm.RoadKit.acmp (g := (mkF m 37 #[.val (.int p33), .val (.int p34), .val (.ref w39), .val (.ref w44), .val (.ref w39), .val (.ref w39)] [(.ref w39), (.ref w39)])) X67 hx rfl rfl rfl (pc0 := 37) (pc' := 40) (same := true) rfl (hb hby at_37) rfl (decide_eq_true rfl) (by decide) (by decide) ?_
    show Steps p.tables e below (T67.setTop (mkF m 40 #[.val (.int p33), .val (.int p34), .val (.ref w39), .val (.ref w44), .val (.ref w39), .val (.ref w39)] [])) _
    refine XS.iconst X67.here hx rfl (hb hby at_40) ?_
    show Steps p.tables e below (T67.setTop (mkF m 41 #[.val (.int p33), .val (.int p34), .val (.ref w39), .val (.ref w44), .val (.ref w39), .val (.ref w39)] [(.int (1 : Int32))])) _
    refine XS.goto X67.here hx rfl (pc0 := 41) (pc' := 45) rfl (hb hby at_41) (by decide) (by decide) ?_
    show Steps p.tables e below (T67.setTop (mkF m 45 #[.val (.int p33), .val (.int p34), .val (.ref w39), .val (.ref w44), .val (.ref w39), .val (.ref w39)] [(.int (1 : Int32))])) _
    exact retN X67 hx (t := .boolean) Bd.returns (by simp) (hb hby at_45) hr
  · show OQl (some (.int (1 : Int32))) n0 _ T67.heap _
    exact ⟨rfl, N67⟩
theorem d1_24 : decode method_2_code 24 = .ok (.getstatic 17, 3) := by decide +kernel
theorem d1_27 : decode method_2_code 27 = .ok (.areturn, 1) := by decide +kernel
set_option maxRecDepth 65536 in
set_option maxHeartbeats 40000000 in
theorem r1_3 (l : Launch) (Z : State) (a0 : Array Value) (hw : ∀ d ∈ tables_1, d.before a0 Z = true) (p75 : Int32) (w76 : Addr) (h0 : Heap) (n0 : Nat) (Z0 : n0 ≤ h0.size) (H0 : ¬ (((p75 &&& (2147483647 : Int32)) % (3 : Int32)) = (0 : Int32))) (H1 : ¬ (((p75 &&& (2147483647 : Int32)) % (3 : Int32)) = (1 : Int32))) (H2 : Sta Z h0 "com/example/grepo/grepo/internal/store/Truth" "TRUE" "Lcom/example/grepo/grepo/internal/store/Truth;" (.ref w76)) :
    OMet l Z (⟨"com/example/grepo/grepo/internal/store/TruthAndPinLaw", "pick", "(I)Lcom/example/grepo/grepo/internal/store/Truth;"⟩ : MethodName) method_2_code 2 (some (.object "com/example/grepo/grepo/internal/store/Truth")) [] ({ frames := 0, cells := 0, slots := 0, locals := 0 } : Room) h0 #[(.int p75)] (OQp (some (.ref w76)) h0 n0) := by
  refine MetFree.of_bodySF (plainFor_of_name pn_com_example_grepo_grepo_internal_store_TruthAndPinLaw) hisR ?_
  intro p e s m args below meth c s₁ Bd hml0 hP hK
  obtain ⟨rfl, hZ, hh⟩ := hP
  have hx := Bd.exec
  have hby := Bd.bytes
  have hml : c.maxLocals = 2 := hml0
  have hown : s.vm.findClass "com/example/grepo/grepo/internal/store/TruthAndPinLaw" = some m.cls := findClass_of_methodNamed Bd.named
  have hnm := (name_of_methodNamed Bd.named Bd.method).1
  have X0 : Stand p l e ({ frames := 0, cells := 0, slots := 0, locals := 0 } : Room) s m #[(.int p75)] below meth c s₁ [] 0 0 := Stand.of_body Bd
  have e0 : s₁.heap = h0 := by rw [← hh, Bd.state]; rfl
  have N0 := Fr.nil n0
  have pre0 : ∀ t, Steps p.tables e below (s₁.setTop (mkF m 0 #[.val (.int p75), .unset] [])) t → Steps p.tables e below (s₁.setTop (entryFrame m #[(.int p75)] 2)) t := fun t k => castTop (ef_1_v m p75) k
  obtain ⟨T77, X77, e77, st77⟩ := getS2 X0 hx hZ hown (host := "") (Or.inl (hw _ (List.mem_of_getElem? (i := 21) rfl))) Via.refl e0 H2 (g := (mkF m 24 #[.val (.int p75), .val (.int ((p75 &&& (2147483647 : Int32)) % (3 : Int32)))] [])) rfl (hb hby d1_24)
  obtain ⟨fs, hr, hrun, hended, hW, hsame⟩ := X77.leave (v := some (.ref w76)) (fun h => by rw [Bd.returns] at h; cases h)
  refine ⟨_, _, pre0 _ ?_, hrun, hended, _, _, rfl, ?_, ⟨_, rfl⟩, hW, hsame.mono (by decide) (by decide)⟩
  · show Steps p.tables e below (s₁.setTop (mkF m 0 #[.val (.int p75), .unset] [])) _
    refine XS.iloadN X0.here hx rfl (hb hby d1_0) rfl ?_
    show Steps p.tables e below (s₁.setTop (mkF m 1 #[.val (.int p75), .unset] [(.int p75)])) _
    refine X0.ldcInt hx hown (mvT hZ (hw _ (List.mem_of_getElem? (i := 4) rfl))) (g := (mkF m 1 #[.val (.int p75), .unset] [(.int p75)])) rfl (hb hby d1_1) _ ?_
    show Steps p.tables e below (s₁.setTop (mkF m 3 #[.val (.int p75), .unset] [(.int (2147483647 : Int32)), (.int p75)])) _
    refine XS.iand X0.here hx rfl (hb hby d1_3) rfl ?_
    show Steps p.tables e below (s₁.setTop (mkF m 4 #[.val (.int p75), .unset] [(.int (p75 &&& (2147483647 : Int32)))])) _
    refine XS.iconst X0.here hx rfl (hb hby d1_4) ?_
    show Steps p.tables e below (s₁.setTop (mkF m 5 #[.val (.int p75), .unset] [(.int (3 : Int32)), (.int (p75 &&& (2147483647 : Int32)))])) _
    refine iremM X0 hx rfl (hb hby d1_5) rfl (by decide) ?_
    show Steps p.tables e below (s₁.setTop (mkF m 6 #[.val (.int p75), .unset] [(.int ((p75 &&& (2147483647 : Int32)) % (3 : Int32)))])) _
    refine XS.istoreN X0.here hx rfl (hb hby d1_6) rfl (l' := #[.val (.int p75), .val (.int ((p75 &&& (2147483647 : Int32)) % (3 : Int32)))]) rfl ?_
    show Steps p.tables e below (s₁.setTop (mkF m 7 #[.val (.int p75), .val (.int ((p75 &&& (2147483647 : Int32)) % (3 : Int32)))] [])) _
    refine XS.iloadN X0.here hx rfl (hb hby d1_7) rfl ?_
    show Steps p.tables e below (s₁.setTop (mkF m 8 #[.val (.int p75), .val (.int ((p75 &&& (2147483647 : Int32)) % (3 : Int32)))] [(.int ((p75 &&& (2147483647 : Int32)) % (3 : Int32)))])) _
    refine XS.ifYes X0.here hx rfl (pc0 := 8) (pc' := 15) rfl (hb hby d1_8) rfl ((if0 _ _).trans (feq H0).2) (by decide) (by decide) ?_
    show Steps p.tables e below (s₁.setTop (mkF m 15 #[.val (.int p75), .val (.int ((p75 &&& (2147483647 : Int32)) % (3 : Int32)))] [])) _
    refine XS.iloadN X0.here hx rfl (hb hby d1_15) rfl ?_
    show Steps p.tables e below (s₁.setTop (mkF m 16 #[.val (.int p75), .val (.int ((p75 &&& (2147483647 : Int32)) % (3 : Int32)))] [(.int ((p75 &&& (2147483647 : Int32)) % (3 : Int32)))])) _
    refine XS.iconst X0.here hx rfl (hb hby d1_16) ?_
    show Steps p.tables e below (s₁.setTop (mkF m 17 #[.val (.int p75), .val (.int ((p75 &&& (2147483647 : Int32)) % (3 : Int32)))] [(.int (1 : Int32)), (.int ((p75 &&& (2147483647 : Int32)) % (3 : Int32)))])) _
    refine XS.icmpYes X0.here hx rfl (pc0 := 17) (pc' := 24) rfl (hb hby d1_17) rfl (feq H1).2 (by decide) (by decide) ?_
    show Steps p.tables e below (s₁.setTop (mkF m 24 #[.val (.int p75), .val (.int ((p75 &&& (2147483647 : Int32)) % (3 : Int32)))] [])) _
    refine st77 _ ?_
    show Steps p.tables e below (T77.setTop (mkF m 27 #[.val (.int p75), .val (.int ((p75 &&& (2147483647 : Int32)) % (3 : Int32)))] [(.ref w76)])) _
    jvm_step X77.here [X77.here.top, hx, (hb hby d1_27), X77.method', Bd.returns, Value.isRef, FieldType.isReference]
    first | (intro acts; rw [hr _ acts rfl rfl rfl]) | rw [hr _ _ rfl rfl rfl]
    exact Steps.refl _
  · show OQp (some (.ref w76)) h0 n0 _ T77.heap _
    rw [e77]
    exact ⟨rfl, N0, rfl⟩
theorem d3_18 : decode method_3_code 18 = .ok (.iconst 2, 1) := by decide +kernel
theorem d3_19 : decode method_3_code 19 = .ok (.ireturn, 1) := by decide +kernel
set_option maxRecDepth 65536 in
set_option maxHeartbeats 40000000 in
theorem r3_3 (l : Launch) (Z : State) (a0 : Array Value) (hw : ∀ d ∈ tables_1, d.before a0 Z = true) (a90 : Addr) (w91 : Addr) (w93 : Addr) (h0 : Heap) (n0 : Nat) (Z0 : n0 ≤ h0.size) (H0 : Sta Z h0 "com/example/grepo/grepo/internal/store/Truth" "FALSE" "Lcom/example/grepo/grepo/internal/store/Truth;" (.ref w91)) (H1 : a90 ≠ w91) (H2 : Sta Z h0 "com/example/grepo/grepo/internal/store/Truth" "UNKNOWN" "Lcom/example/grepo/grepo/internal/store/Truth;" (.ref w93)) (H3 : a90 ≠ w93) :
    OMet l Z (⟨"com/example/grepo/grepo/internal/store/TruthAndPinLaw", "rank", "(Lcom/example/grepo/grepo/internal/store/Truth;)I"⟩ : MethodName) method_3_code 1 (some .int) [] ({ frames := 0, cells := 0, slots := 0, locals := 0 } : Room) h0 #[(.ref a90)] (OQp (some (.int (2 : Int32))) h0 n0) := by
  refine MetFree.of_bodySF (plainFor_of_name pn_com_example_grepo_grepo_internal_store_TruthAndPinLaw) hisR ?_
  intro p e s m args below meth c s₁ Bd hml0 hP hK
  obtain ⟨rfl, hZ, hh⟩ := hP
  have hx := Bd.exec
  have hby := Bd.bytes
  have hml : c.maxLocals = 1 := hml0
  have hown : s.vm.findClass "com/example/grepo/grepo/internal/store/TruthAndPinLaw" = some m.cls := findClass_of_methodNamed Bd.named
  have hnm := (name_of_methodNamed Bd.named Bd.method).1
  have X0 : Stand p l e ({ frames := 0, cells := 0, slots := 0, locals := 0 } : Room) s m #[(.ref a90)] below meth c s₁ [] 0 0 := Stand.of_body Bd
  have e0 : s₁.heap = h0 := by rw [← hh, Bd.state]; rfl
  have N0 := Fr.nil n0
  have pre0 : ∀ t, Steps p.tables e below (s₁.setTop (mkF m 0 #[.val (.ref a90)] [])) t → Steps p.tables e below (s₁.setTop (entryFrame m #[(.ref a90)] 1)) t := fun t k => castTop (ef_3_v m a90) k
  obtain ⟨T92, X92, e92, st92⟩ := getS2 X0 hx hZ hown (host := "") (Or.inl (hw _ (List.mem_of_getElem? (i := 5) rfl))) Via.refl e0 H0 (g := (mkF m 1 #[.val (.ref a90)] [(.ref a90)])) rfl (hb hby d3_1)
  obtain ⟨T94, X94, e94, st94⟩ := getS2 X92 hx hZ hown (host := "") (Or.inl (hw _ (List.mem_of_getElem? (i := 23) rfl))) Via.refl e92 H2 (g := (mkF m 10 #[.val (.ref a90)] [(.ref a90)])) rfl (hb hby d3_10)
  obtain ⟨fs, hr, hrun, hended, hW, hsame⟩ := X94.leave (v := some (.int (2 : Int32))) (fun h => by rw [Bd.returns] at h; cases h)
  refine ⟨_, _, pre0 _ ?_, hrun, hended, _, _, rfl, ?_, ⟨_, rfl⟩, hW, hsame.mono (by decide) (by decide)⟩
  · show Steps p.tables e below (s₁.setTop (mkF m 0 #[.val (.ref a90)] [])) _
    refine XS.aloadN X0.here hx rfl (hb hby d3_0) rfl rfl ?_
    show Steps p.tables e below (s₁.setTop (mkF m 1 #[.val (.ref a90)] [(.ref a90)])) _
    refine st92 _ ?_
    show Steps p.tables e below (T92.setTop (mkF m 4 #[.val (.ref a90)] [(.ref w91), (.ref a90)])) _
    refine Jvm.RoadKit.acmp (g := (mkF m 4 #[.val (.ref a90)] [(.ref w91), (.ref a90)])) X92 hx rfl rfl rfl (pc0 := 4) (pc' := 9) (same := false) rfl (hb hby d3_4) rfl (decide_eq_false fun q => H1 (Value.ref.inj q)) (by decide) (by decide) ?_
    show Steps p.tables e below (T92.setTop (mkF m 9 #[.val (.ref a90)] [])) _
    refine XS.aloadN X92.here hx rfl (hb hby d3_9) rfl rfl ?_
    show Steps p.tables e below (T92.setTop (mkF m 10 #[.val (.ref a90)] [(.ref a90)])) _
    refine st94 _ ?_
    show Steps p.tables e below (T94.setTop (mkF m 13 #[.val (.ref a90)] [(.ref w93), (.ref a90)])) _
    refine Jvm.RoadKit.acmp (g := (mkF m 13 #[.val (.ref a90)] [(.ref w93), (.ref a90)])) X94 hx rfl rfl rfl (pc0 := 13) (pc' := 18) (same := false) rfl (hb hby d3_13) rfl (decide_eq_false fun q => H3 (Value.ref.inj q)) (by decide) (by decide) ?_
    show Steps p.tables e below (T94.setTop (mkF m 18 #[.val (.ref a90)] [])) _
    refine XS.iconst X94.here hx rfl (hb hby d3_18) ?_
    show Steps p.tables e below (T94.setTop (mkF m 19 #[.val (.ref a90)] [(.int (2 : Int32))])) _
    exact retI X94 hx Bd.returns (hb hby d3_19) hr
  · show OQp (some (.int (2 : Int32))) h0 n0 _ T94.heap _
    rw [e94]
    exact ⟨rfl, N0, rfl⟩
set_option maxRecDepth 65536 in
set_option maxHeartbeats 40000000 in
theorem r0_3 (l : Launch) (Z : State) (a0 : Array Value) (hw : ∀ d ∈ tables_1, d.before a0 Z = true) (p68 : Int32) (p69 : Int32) (w74 : Addr) (w79 : Addr) (w96 : Addr) (h0 : Heap) (n0 : Nat) (Z0 : n0 ≤ h0.size) (H0 : ((p68 &&& (2147483647 : Int32)) % (3 : Int32)) = (0 : Int32)) (H1 : Sta Z h0 "com/example/grepo/grepo/internal/store/Truth" "FALSE" "Lcom/example/grepo/grepo/internal/store/Truth;" (.ref w74)) (H2 : ¬ (((p69 &&& (2147483647 : Int32)) % (3 : Int32)) = (0 : Int32))) (H3 : ¬ (((p69 &&& (2147483647 : Int32)) % (3 : Int32)) = (1 : Int32))) (H4 : Sta Z h0 "com/example/grepo/grepo/internal/store/Truth" "TRUE" "Lcom/example/grepo/grepo/internal/store/Truth;" (.ref w79)) (H5 : Exa Z h0 w74 "com/example/grepo/grepo/internal/store/Truth") (H6 : w79 ≠ w74) (H7 : Sta Z h0 "com/example/grepo/grepo/internal/store/Truth" "UNKNOWN" "Lcom/example/grepo/grepo/internal/store/Truth;" (.ref w96)) (H8 : w79 ≠ w96) :
    OMet l Z x code maxLocals ret tables_1 room_1 h0 #[(.int p68), (.int p69)] (OQl (some (.int (1 : Int32))) n0) := by
  refine MetFree.of_bodySF (plainFor_of_name pn_com_example_grepo_grepo_internal_store_TruthAndPinLaw) hisR ?_
  intro p e s m args below meth c s₁ Bd hml0 hP hK
  obtain ⟨rfl, hZ, hh⟩ := hP
  have hx := Bd.exec
  have hby := Bd.bytes
  have hml : c.maxLocals = 6 := hml0
  have hown : s.vm.findClass "com/example/grepo/grepo/internal/store/TruthAndPinLaw" = some m.cls := findClass_of_methodNamed Bd.named
  have hnm := (name_of_methodNamed Bd.named Bd.method).1
  have X0 : Stand p l e room_1 s m #[(.int p68), (.int p69)] below meth c s₁ [] 0 0 := Stand.of_body Bd
  have e0 : s₁.heap = h0 := by rw [← hh, Bd.state]; rfl
  have N0 := Fr.nil n0
  have pre0 : ∀ t, Steps p.tables e below (s₁.setTop (mkF m 0 #[.val (.int p68), .val (.int p69), .unset, .unset, .unset, .unset] [])) t → Steps p.tables e below (s₁.setTop (entryFrame m #[(.int p68), (.int p69)] maxLocals)) t := fun t k => castTop (ef_0_vv m p68 p69) k
  obtain ⟨_, _, ⟨T73, L73, k73, n73⟩, -, X73, ⟨Lc73, hQ73, l73, y73, z73⟩, st73⟩ := Jvm.LawKit.callS X0 hx (y := (⟨"com/example/grepo/grepo/internal/store/TruthAndPinLaw", "pick", "(I)Lcom/example/grepo/grepo/internal/store/Truth;"⟩ : MethodName)) hown (mvT hZ (hw _ (List.mem_of_getElem? (i := 0) rfl))) (mvT hZ (hw _ (List.mem_of_getElem? (i := 1) rfl))) (mvT hZ (hw _ (List.mem_of_getElem? (i := 2) rfl))) (mvT hZ (hw _ (List.mem_of_getElem? (i := 3) rfl))) (by decide) (backOf (W := 0) (r1_1 l Z a0 hw p68 w74 h0 n0 Z0 H0 H1) hZ (hw _ (List.mem_of_getElem? (i := 3) rfl)) (hw _ (List.mem_of_getElem? (i := 2) rfl)) (by decide) (by decide)) (g := (mkF m 1 #[.val (.int p68), .val (.int p69), .unset, .unset, .unset, .unset] [(.int p68)])) rfl (by rw [hml]; rfl) (argsL := [(.int p68)]) (rest := []) (lenOf pd_0 rfl) rfl (by show 2 * 0 + _ ≤ _; exact Nat.le_of_eq rfl) (hb hby at_1) (fun _ _ => ⟨rfl, e0, (by decide : 0 + 0 ≤ _), (by decide : 0 + 0 ≤ _)⟩)
  dsimp only [Pt.U, Pt.locs, Pt.cells, Pt.slots] at X73 l73 y73 z73 st73 hQ73
  subst l73 y73 z73
  obtain ⟨rfl, N73q, e73⟩ := hQ73
  have N73 := Fr.app N0 N73q
  obtain ⟨_, _, ⟨T78, L78, k78, n78⟩, -, X78, ⟨Lc78, hQ78, l78, y78, z78⟩, st78⟩ := Jvm.LawKit.callS X73 hx (y := (⟨"com/example/grepo/grepo/internal/store/TruthAndPinLaw", "pick", "(I)Lcom/example/grepo/grepo/internal/store/Truth;"⟩ : MethodName)) hown (mvT hZ (hw _ (List.mem_of_getElem? (i := 0) rfl))) (mvT hZ (hw _ (List.mem_of_getElem? (i := 1) rfl))) (mvT hZ (hw _ (List.mem_of_getElem? (i := 2) rfl))) (mvT hZ (hw _ (List.mem_of_getElem? (i := 3) rfl))) (by decide) (backOf (W := 0) (r1_3 l Z a0 hw p69 w79 h0 n0 Z0 H2 H3 H4) hZ (hw _ (List.mem_of_getElem? (i := 3) rfl)) (hw _ (List.mem_of_getElem? (i := 2) rfl)) (by decide) (by decide)) (g := (mkF m 6 #[.val (.int p68), .val (.int p69), .val (.ref w74), .unset, .unset, .unset] [(.int p69)])) rfl (by rw [hml]; rfl) (argsL := [(.int p69)]) (rest := []) (lenOf pd_0 rfl) rfl (by show 2 * 0 + _ ≤ _; exact Nat.le_of_eq rfl) (hb hby at_6) (fun _ _ => ⟨rfl, e73, (by decide : 0 + 0 ≤ _), (by decide : 0 + 0 ≤ _)⟩)
  dsimp only [Pt.U, Pt.locs, Pt.cells, Pt.slots] at X78 l78 y78 z78 st78 hQ78
  subst l78 y78 z78
  obtain ⟨rfl, N78q, e78⟩ := hQ78
  have N78 := Fr.app N73 N78q
  obtain ⟨cq85, kq85, q85a, q85b, q85c⟩ := isOf hZ e78 H5
  obtain ⟨_, _, ⟨T85, L85, k85, n85⟩, -, X85, ⟨Lc85, hQ85, l85, y85, z85⟩, st85⟩ := X78.virtualBack hx (y := (⟨"com/example/grepo/grepo/internal/store/Truth", "and", "(Lcom/example/grepo/grepo/internal/store/Truth;)Lcom/example/grepo/grepo/internal/store/Truth;"⟩ : MethodName)) (z := (⟨"com/example/grepo/grepo/internal/store/Truth", "and", "(Lcom/example/grepo/grepo/internal/store/Truth;)Lcom/example/grepo/grepo/internal/store/Truth;"⟩ : MethodName)) hown (mvT hZ (hw _ (List.mem_of_getElem? (i := 8) rfl))) (mvT hZ (hw _ (List.mem_of_getElem? (i := 9) rfl))) (notFace_of_selects (args := #[]) (mvT hZ (hw _ (List.mem_of_getElem? (i := 11) rfl)))) (mvT hZ (hw _ (List.mem_of_getElem? (i := 11) rfl))) (mvT hZ (hw _ (List.mem_of_getElem? (i := 10) rfl))) (by decide) (backOf (W := 0) (r2_1 l Z a0 hw w74 w79 w74 h0 n0 Z0 H1 rfl) hZ (hw _ (List.mem_of_getElem? (i := 12) rfl)) (hw _ (List.mem_of_getElem? (i := 6) rfl)) (by decide) (by decide)) q85a q85c (g := (mkF m 12 #[.val (.int p68), .val (.int p69), .val (.ref w74), .val (.ref w79), .unset, .unset] [(.ref w79), (.ref w74)])) rfl (by rw [hml]; rfl) (Steps.refl _) (argsL := [(.ref w79)]) (rest := []) (lenOf pd_1 rfl) rfl (by show 2 * 0 + _ ≤ _; exact Nat.le_of_eq rfl) (hb hby at_12) (fun _ _ => ⟨rfl, e78, (by decide : 0 + 0 ≤ _), (by decide : 0 + 0 ≤ _)⟩)
  dsimp only [Pt.U, Pt.locs, Pt.cells, Pt.slots] at X85 l85 y85 z85 st85 hQ85
  subst l85 y85 z85
  obtain ⟨rfl, N85q, e85⟩ := hQ85
  have N85 := Fr.app N78 N85q
  obtain ⟨_, _, ⟨T89, L89, k89, n89⟩, -, X89, ⟨Lc89, hQ89, l89, y89, z89⟩, st89⟩ := Jvm.LawKit.callS X85 hx (y := (⟨"com/example/grepo/grepo/internal/store/TruthAndPinLaw", "rank", "(Lcom/example/grepo/grepo/internal/store/Truth;)I"⟩ : MethodName)) hown (mvT hZ (hw _ (List.mem_of_getElem? (i := 14) rfl))) (mvT hZ (hw _ (List.mem_of_getElem? (i := 15) rfl))) (mvT hZ (hw _ (List.mem_of_getElem? (i := 2) rfl))) (mvT hZ (hw _ (List.mem_of_getElem? (i := 16) rfl))) (by decide) (backOf (W := 0) (r3_1 l Z a0 hw w74 w74 h0 n0 Z0 H1 rfl) hZ (hw _ (List.mem_of_getElem? (i := 16) rfl)) (hw _ (List.mem_of_getElem? (i := 2) rfl)) (by decide) (by decide)) (g := (mkF m 18 #[.val (.int p68), .val (.int p69), .val (.ref w74), .val (.ref w79), .val (.ref w74), .unset] [(.ref w74)])) rfl (by rw [hml]; rfl) (argsL := [(.ref w74)]) (rest := []) (lenOf pd_2 rfl) rfl (by show 2 * 0 + _ ≤ _; exact Nat.le_of_eq rfl) (hb hby at_18) (fun _ _ => ⟨rfl, e85, (by decide : 0 + 0 ≤ _), (by decide : 0 + 0 ≤ _)⟩)
  dsimp only [Pt.U, Pt.locs, Pt.cells, Pt.slots] at X89 l89 y89 z89 st89 hQ89
  subst l89 y89 z89
  obtain ⟨rfl, N89q, e89⟩ := hQ89
  have N89 := Fr.app N85 N89q
  obtain ⟨_, _, ⟨T95, L95, k95, n95⟩, -, X95, ⟨Lc95, hQ95, l95, y95, z95⟩, st95⟩ := Jvm.LawKit.callS X89 hx (y := (⟨"com/example/grepo/grepo/internal/store/TruthAndPinLaw", "rank", "(Lcom/example/grepo/grepo/internal/store/Truth;)I"⟩ : MethodName)) hown (mvT hZ (hw _ (List.mem_of_getElem? (i := 14) rfl))) (mvT hZ (hw _ (List.mem_of_getElem? (i := 15) rfl))) (mvT hZ (hw _ (List.mem_of_getElem? (i := 2) rfl))) (mvT hZ (hw _ (List.mem_of_getElem? (i := 16) rfl))) (by decide) (backOf (W := 1) (r3_3 l Z a0 hw w79 w74 w96 h0 n0 Z0 H1 H6 H7 H8) hZ (hw _ (List.mem_of_getElem? (i := 16) rfl)) (hw _ (List.mem_of_getElem? (i := 2) rfl)) (by decide) (by decide)) (g := (mkF m 22 #[.val (.int p68), .val (.int p69), .val (.ref w74), .val (.ref w79), .val (.ref w74), .unset] [(.ref w79), (.int (0 : Int32))])) rfl (by rw [hml]; rfl) (argsL := [(.ref w79)]) (rest := [(.int (0 : Int32))]) (lenOf pd_2 rfl) rfl (by show 2 * 0 + _ ≤ _; exact Nat.le_of_eq rfl) (hb hby at_22) (fun _ _ => ⟨rfl, e89, (by decide : 0 + 0 ≤ _), (by decide : 0 + 0 ≤ _)⟩)
  dsimp only [Pt.U, Pt.locs, Pt.cells, Pt.slots] at X95 l95 y95 z95 st95 hQ95
  subst l95 y95 z95
  obtain ⟨rfl, N95q, e95⟩ := hQ95
  have N95 := Fr.app N89 N95q
  obtain ⟨_, _, ⟨T99, L99, k99, n99⟩, -, X99, ⟨Lc99, hQ99, l99, y99, z99⟩, st99⟩ := Jvm.LawKit.callS X95 hx (y := (⟨"java/lang/Math", "min", "(II)I"⟩ : MethodName)) hown (mvT hZ (hw _ (List.mem_of_getElem? (i := 17) rfl))) (mvT hZ (hw _ (List.mem_of_getElem? (i := 18) rfl))) (mvT hZ (hw _ (List.mem_of_getElem? (i := 19) rfl))) (mvT hZ (hw _ (List.mem_of_getElem? (i := 20) rfl))) (by decide) (backOf (W := 0) (r4_1 l Z a0 hw (0 : Int32) (2 : Int32) h0 n0 Z0 (by decide)) hZ (hw _ (List.mem_of_getElem? (i := 20) rfl)) (hw _ (List.mem_of_getElem? (i := 19) rfl)) (by decide) (by decide)) (g := (mkF m 25 #[.val (.int p68), .val (.int p69), .val (.ref w74), .val (.ref w79), .val (.ref w74), .unset] [(.int (2 : Int32)), (.int (0 : Int32))])) rfl (by rw [hml]; rfl) (argsL := [(.int (0 : Int32)), (.int (2 : Int32))]) (rest := []) (lenOf pd_3 rfl) rfl (by show 2 * 0 + _ ≤ _; exact Nat.le_of_eq rfl) (hb hby at_25) (fun _ _ => ⟨rfl, e95, (by decide : 0 + 0 ≤ _), (by decide : 0 + 0 ≤ _)⟩)
  dsimp only [Pt.U, Pt.locs, Pt.cells, Pt.slots] at X99 l99 y99 z99 st99 hQ99
  subst l99 y99 z99
  obtain ⟨rfl, N99q, e99⟩ := hQ99
  have N99 := Fr.app N95 N99q
  obtain ⟨_, _, ⟨T103, L103, k103, n103⟩, -, X103, ⟨Lc103, hQ103, l103, y103, z103⟩, st103⟩ := Jvm.LawKit.callS X99 hx (y := (⟨"com/example/grepo/grepo/internal/store/TruthAndPinLaw", "pick", "(I)Lcom/example/grepo/grepo/internal/store/Truth;"⟩ : MethodName)) hown (mvT hZ (hw _ (List.mem_of_getElem? (i := 0) rfl))) (mvT hZ (hw _ (List.mem_of_getElem? (i := 1) rfl))) (mvT hZ (hw _ (List.mem_of_getElem? (i := 2) rfl))) (mvT hZ (hw _ (List.mem_of_getElem? (i := 3) rfl))) (by decide) (backOf (W := 0) (r1_1 l Z a0 hw (0 : Int32) w74 h0 n0 Z0 (by decide) H1) hZ (hw _ (List.mem_of_getElem? (i := 3) rfl)) (hw _ (List.mem_of_getElem? (i := 2) rfl)) (by decide) (by decide)) (g := (mkF m 28 #[.val (.int p68), .val (.int p69), .val (.ref w74), .val (.ref w79), .val (.ref w74), .unset] [(.int (0 : Int32))])) rfl (by rw [hml]; rfl) (argsL := [(.int (0 : Int32))]) (rest := []) (lenOf pd_0 rfl) rfl (by show 2 * 0 + _ ≤ _; exact Nat.le_of_eq rfl) (hb hby at_28) (fun _ _ => ⟨rfl, e99, (by decide : 0 + 0 ≤ _), (by decide : 0 + 0 ≤ _)⟩)
  dsimp only [Pt.U, Pt.locs, Pt.cells, Pt.slots] at X103 l103 y103 z103 st103 hQ103
  subst l103 y103 z103
  obtain ⟨rfl, N103q, e103⟩ := hQ103
  have N103 := Fr.app N99 N103q
  obtain ⟨fs, hr, hrun, hended, hW, hsame⟩ := X103.leave (v := some (.int (1 : Int32))) (fun h => by rw [Bd.returns] at h; cases h)
  refine ⟨_, _, pre0 _ ?_, hrun, hended, _, _, rfl, ?_, ⟨_, rfl⟩, hW, hsame.mono (by decide) (by decide)⟩
  · show Steps p.tables e below (s₁.setTop (mkF m 0 #[.val (.int p68), .val (.int p69), .unset, .unset, .unset, .unset] [])) _
    refine XS.iloadN X0.here hx rfl (hb hby at_0) rfl ?_
    show Steps p.tables e below (s₁.setTop (mkF m 1 #[.val (.int p68), .val (.int p69), .unset, .unset, .unset, .unset] [(.int p68)])) _
    refine st73 _ ?_
    show Steps p.tables e below (T73.setTop (mkF m 4 #[.val (.int p68), .val (.int p69), .unset, .unset, .unset, .unset] [(.ref w74)])) _
    refine XS.astoreN X73.here hx rfl (hb hby at_4) rfl rfl (l' := #[.val (.int p68), .val (.int p69), .val (.ref w74), .unset, .unset, .unset]) rfl ?_
    show Steps p.tables e below (T73.setTop (mkF m 5 #[.val (.int p68), .val (.int p69), .val (.ref w74), .unset, .unset, .unset] [])) _
    refine XS.iloadN X73.here hx rfl (hb hby at_5) rfl ?_
    show Steps p.tables e below (T73.setTop (mkF m 6 #[.val (.int p68), .val (.int p69), .val (.ref w74), .unset, .unset, .unset] [(.int p69)])) _
    refine st78 _ ?_
    show Steps p.tables e below (T78.setTop (mkF m 9 #[.val (.int p68), .val (.int p69), .val (.ref w74), .unset, .unset, .unset] [(.ref w79)])) _
    refine XS.astoreN X78.here hx rfl (hb hby at_9) rfl rfl (l' := #[.val (.int p68), .val (.int p69), .val (.ref w74), .val (.ref w79), .unset, .unset]) rfl ?_
    show Steps p.tables e below (T78.setTop (mkF m 10 #[.val (.int p68), .val (.int p69), .val (.ref w74), .val (.ref w79), .unset, .unset] [])) _
    refine XS.aloadN X78.here hx rfl (hb hby at_10) rfl rfl ?_
    show Steps p.tables e below (T78.setTop (mkF m 11 #[.val (.int p68), .val (.int p69), .val (.ref w74), .val (.ref w79), .unset, .unset] [(.ref w74)])) _
    refine XS.aloadN X78.here hx rfl (hb hby at_11) rfl rfl ?_
    show Steps p.tables e below (T78.setTop (mkF m 12 #[.val (.int p68), .val (.int p69), .val (.ref w74), .val (.ref w79), .unset, .unset] [(.ref w79), (.ref w74)])) _
    refine st85.trans ?_
    show Steps p.tables e below (T85.setTop (mkF m 15 #[.val (.int p68), .val (.int p69), .val (.ref w74), .val (.ref w79), .unset, .unset] [(.ref w74)])) _
    refine XS.astore X85.here hx rfl (hb hby at_15) rfl rfl (l' := #[.val (.int p68), .val (.int p69), .val (.ref w74), .val (.ref w79), .val (.ref w74), .unset]) rfl ?_
    show Steps p.tables e below (T85.setTop (mkF m 17 #[.val (.int p68), .val (.int p69), .val (.ref w74), .val (.ref w79), .val (.ref w74), .unset] [])) _
    refine XS.aloadN X85.here hx rfl (hb hby at_17) rfl rfl ?_
    show Steps p.tables e below (T85.setTop (mkF m 18 #[.val (.int p68), .val (.int p69), .val (.ref w74), .val (.ref w79), .val (.ref w74), .unset] [(.ref w74)])) _
    refine st89 _ ?_
    show Steps p.tables e below (T89.setTop (mkF m 21 #[.val (.int p68), .val (.int p69), .val (.ref w74), .val (.ref w79), .val (.ref w74), .unset] [(.int (0 : Int32))])) _
    refine XS.aloadN X89.here hx rfl (hb hby at_21) rfl rfl ?_
    show Steps p.tables e below (T89.setTop (mkF m 22 #[.val (.int p68), .val (.int p69), .val (.ref w74), .val (.ref w79), .val (.ref w74), .unset] [(.ref w79), (.int (0 : Int32))])) _
    refine st95 _ ?_
    show Steps p.tables e below (T95.setTop (mkF m 25 #[.val (.int p68), .val (.int p69), .val (.ref w74), .val (.ref w79), .val (.ref w74), .unset] [(.int (2 : Int32)), (.int (0 : Int32))])) _
    refine st99 _ ?_
    show Steps p.tables e below (T99.setTop (mkF m 28 #[.val (.int p68), .val (.int p69), .val (.ref w74), .val (.ref w79), .val (.ref w74), .unset] [(.int (0 : Int32))])) _
    refine st103 _ ?_
    show Steps p.tables e below (T103.setTop (mkF m 31 #[.val (.int p68), .val (.int p69), .val (.ref w74), .val (.ref w79), .val (.ref w74), .unset] [(.ref w74)])) _
    refine XS.astore X103.here hx rfl (hb hby at_31) rfl rfl (l' := #[.val (.int p68), .val (.int p69), .val (.ref w74), .val (.ref w79), .val (.ref w74), .val (.ref w74)]) rfl ?_
    show Steps p.tables e below (T103.setTop (mkF m 33 #[.val (.int p68), .val (.int p69), .val (.ref w74), .val (.ref w79), .val (.ref w74), .val (.ref w74)] [])) _
    refine XS.aload X103.here hx rfl (hb hby at_33) rfl rfl ?_
    show Steps p.tables e below (T103.setTop (mkF m 35 #[.val (.int p68), .val (.int p69), .val (.ref w74), .val (.ref w79), .val (.ref w74), .val (.ref w74)] [(.ref w74)])) _
    refine XS.aload X103.here hx rfl (hb hby at_35) rfl rfl ?_
    show Steps p.tables e below (T103.setTop (mkF m 37 #[.val (.int p68), .val (.int p69), .val (.ref w74), .val (.ref w79), .val (.ref w74), .val (.ref w74)] [(.ref w74), (.ref w74)])) _
    refine Jvm.RoadKit.acmp (g := (mkF m 37 #[.val (.int p68), .val (.int p69), .val (.ref w74), .val (.ref w79), .val (.ref w74), .val (.ref w74)] [(.ref w74), (.ref w74)])) X103 hx rfl rfl rfl (pc0 := 37) (pc' := 40) (same := true) rfl (hb hby at_37) rfl (decide_eq_true rfl) (by decide) (by decide) ?_
    show Steps p.tables e below (T103.setTop (mkF m 40 #[.val (.int p68), .val (.int p69), .val (.ref w74), .val (.ref w79), .val (.ref w74), .val (.ref w74)] [])) _
    refine XS.iconst X103.here hx rfl (hb hby at_40) ?_
    show Steps p.tables e below (T103.setTop (mkF m 41 #[.val (.int p68), .val (.int p69), .val (.ref w74), .val (.ref w79), .val (.ref w74), .val (.ref w74)] [(.int (1 : Int32))])) _
    refine XS.goto X103.here hx rfl (pc0 := 41) (pc' := 45) rfl (hb hby at_41) (by decide) (by decide) ?_
    show Steps p.tables e below (T103.setTop (mkF m 45 #[.val (.int p68), .val (.int p69), .val (.ref w74), .val (.ref w79), .val (.ref w74), .val (.ref w74)] [(.int (1 : Int32))])) _
    exact retN X103 hx (t := .boolean) Bd.returns (by simp) (hb hby at_45) hr
  · show OQl (some (.int (1 : Int32))) n0 _ T103.heap _
    exact ⟨rfl, N103⟩
theorem d2_7 : decode prog_96_method_5_code 7 = .ok (.aload_n 1, 1) := by decide +kernel
theorem d2_8 : decode prog_96_method_5_code 8 = .ok (.getstatic 7, 3) := by decide +kernel
theorem d2_11 : decode prog_96_method_5_code 11 = .ok (.if_acmp .ne 10, 3) := by decide +kernel
set_option maxRecDepth 65536 in
set_option maxHeartbeats 40000000 in
theorem r2_2 (l : Launch) (Z : State) (a0 : Array Value) (hw : ∀ d ∈ tables_1, d.before a0 Z = true) (a116 : Addr) (a117 : Addr) (w118 : Addr) (h0 : Heap) (n0 : Nat) (Z0 : n0 ≤ h0.size) (H0 : Sta Z h0 "com/example/grepo/grepo/internal/store/Truth" "FALSE" "Lcom/example/grepo/grepo/internal/store/Truth;" (.ref w118)) (H1 : a116 ≠ w118) (H2 : a117 = w118) :
    OMet l Z (⟨"com/example/grepo/grepo/internal/store/Truth", "and", "(Lcom/example/grepo/grepo/internal/store/Truth;)Lcom/example/grepo/grepo/internal/store/Truth;"⟩ : MethodName) prog_96_method_5_code 3 (some (.object "com/example/grepo/grepo/internal/store/Truth")) [] ({ frames := 0, cells := 0, slots := 0, locals := 0 } : Room) h0 #[(.ref a116), (.ref a117)] (OQp (some (.ref w118)) h0 n0) := by
  refine MetFree.of_bodySF (plainFor_of_name pn_com_example_grepo_grepo_internal_store_Truth) hisR ?_
  intro p e s m args below meth c s₁ Bd hml0 hP hK
  obtain ⟨rfl, hZ, hh⟩ := hP
  have hx := Bd.exec
  have hby := Bd.bytes
  have hml : c.maxLocals = 3 := hml0
  have hown : s.vm.findClass "com/example/grepo/grepo/internal/store/Truth" = some m.cls := findClass_of_methodNamed Bd.named
  have hnm := (name_of_methodNamed Bd.named Bd.method).1
  have X0 : Stand p l e ({ frames := 0, cells := 0, slots := 0, locals := 0 } : Room) s m #[(.ref a116), (.ref a117)] below meth c s₁ [] 0 0 := Stand.of_body Bd
  have e0 : s₁.heap = h0 := by rw [← hh, Bd.state]; rfl
  have N0 := Fr.nil n0
  have pre0 : ∀ t, Steps p.tables e below (s₁.setTop (mkF m 0 #[.val (.ref a116), .val (.ref a117), .unset] [])) t → Steps p.tables e below (s₁.setTop (entryFrame m #[(.ref a116), (.ref a117)] 3)) t := fun t k => castTop (ef_2_vv m a116 a117) k
  obtain ⟨T119, X119, e119, st119⟩ := getS2 X0 hx hZ hown (host := "") (Or.inl (hw _ (List.mem_of_getElem? (i := 13) rfl))) Via.refl e0 H0 (g := (mkF m 1 #[.val (.ref a116), .val (.ref a117), .unset] [(.ref a116)])) rfl (hb hby d2_1)
  obtain ⟨T120, X120, e120, st120⟩ := getS2 X119 hx hZ hown (host := "") (Or.inl (hw _ (List.mem_of_getElem? (i := 13) rfl))) Via.refl e119 H0 (g := (mkF m 8 #[.val (.ref a116), .val (.ref a117), .unset] [(.ref a117)])) rfl (hb hby d2_8)
  obtain ⟨T121, X121, e121, st121⟩ := getS2 X120 hx hZ hown (host := "") (Or.inl (hw _ (List.mem_of_getElem? (i := 13) rfl))) Via.refl e120 H0 (g := (mkF m 14 #[.val (.ref a116), .val (.ref a117), .unset] [])) rfl (hb hby d2_14)
  obtain ⟨fs, hr, hrun, hended, hW, hsame⟩ := X121.leave (v := some (.ref w118)) (fun h => by rw [Bd.returns] at h; cases h)
  refine ⟨_, _, pre0 _ ?_, hrun, hended, _, _, rfl, ?_, ⟨_, rfl⟩, hW, hsame.mono (by decide) (by decide)⟩
  · show Steps p.tables e below (s₁.setTop (mkF m 0 #[.val (.ref a116), .val (.ref a117), .unset] [])) _
    refine XS.aloadN X0.here hx rfl (hb hby d2_0) rfl rfl ?_
    show Steps p.tables e below (s₁.setTop (mkF m 1 #[.val (.ref a116), .val (.ref a117), .unset] [(.ref a116)])) _
    refine st119 _ ?_
    show Steps p.tables e below (T119.setTop (mkF m 4 #[.val (.ref a116), .val (.ref a117), .unset] [(.ref w118), (.ref a116)])) _
    refine Jvm.RoadKit.acmp (g := (mkF m 4 #[.val (.ref a116), .val (.ref a117), .unset] [(.ref w118), (.ref a116)])) X119 hx rfl rfl rfl (pc0 := 4) (pc' := 7) (same := false) rfl (hb hby d2_4) rfl (decide_eq_false fun q => H1 (Value.ref.inj q)) (by decide) (by decide) ?_
    show Steps p.tables e below (T119.setTop (mkF m 7 #[.val (.ref a116), .val (.ref a117), .unset] [])) _
    refine XS.aloadN X119.here hx rfl (hb hby d2_7) rfl rfl ?_
    show Steps p.tables e below (T119.setTop (mkF m 8 #[.val (.ref a116), .val (.ref a117), .unset] [(.ref a117)])) _
    refine st120 _ ?_
    show Steps p.tables e below (T120.setTop (mkF m 11 #[.val (.ref a116), .val (.ref a117), .unset] [(.ref w118), (.ref a117)])) _
    refine Jvm.RoadKit.acmp (g := (mkF m 11 #[.val (.ref a116), .val (.ref a117), .unset] [(.ref w118), (.ref a117)])) X120 hx rfl rfl rfl (pc0 := 11) (pc' := 14) (same := true) rfl (hb hby d2_11) rfl (decide_eq_true (congrArg Value.ref H2)) (by decide) (by decide) ?_
    show Steps p.tables e below (T120.setTop (mkF m 14 #[.val (.ref a116), .val (.ref a117), .unset] [])) _
    refine st121 _ ?_
    show Steps p.tables e below (T121.setTop (mkF m 17 #[.val (.ref a116), .val (.ref a117), .unset] [(.ref w118)])) _
    refine XS.astoreN X121.here hx rfl (hb hby d2_17) rfl rfl (l' := #[.val (.ref a116), .val (.ref a117), .val (.ref w118)]) rfl ?_
    show Steps p.tables e below (T121.setTop (mkF m 18 #[.val (.ref a116), .val (.ref a117), .val (.ref w118)] [])) _
    refine XS.goto X121.here hx rfl (pc0 := 18) (pc' := 46) rfl (hb hby d2_18) (by decide) (by decide) ?_
    show Steps p.tables e below (T121.setTop (mkF m 46 #[.val (.ref a116), .val (.ref a117), .val (.ref w118)] [])) _
    refine XS.aloadN X121.here hx rfl (hb hby d2_46) rfl rfl ?_
    show Steps p.tables e below (T121.setTop (mkF m 47 #[.val (.ref a116), .val (.ref a117), .val (.ref w118)] [(.ref w118)])) _
    jvm_step X121.here [X121.here.top, hx, (hb hby d2_47), X121.method', Bd.returns, Value.isRef, FieldType.isReference]
    first | (intro acts; rw [hr _ acts rfl rfl rfl]) | rw [hr _ _ rfl rfl rfl]
    exact Steps.refl _
  · show OQp (some (.ref w118)) h0 n0 _ T121.heap _
    rw [e121]
    exact ⟨rfl, N0, rfl⟩
theorem d4_9 : decode jdk_29_method_69_code 9 = .ok (.iload_n 1, 1) := by decide +kernel
set_option maxRecDepth 65536 in
set_option maxHeartbeats 40000000 in
theorem r4_2 (l : Launch) (Z : State) (a0 : Array Value) (hw : ∀ d ∈ tables_1, d.before a0 Z = true) (p133 : Int32) (p134 : Int32) (h0 : Heap) (n0 : Nat) (Z0 : n0 ≤ h0.size) (H0 : p134 < p133) :
    OMet l Z (⟨"java/lang/Math", "min", "(II)I"⟩ : MethodName) jdk_29_method_69_code 2 (some .int) [] ({ frames := 0, cells := 0, slots := 0, locals := 0 } : Room) h0 #[(.int p133), (.int p134)] (OQp (some (.int p134)) h0 n0) := by
  refine MetFree.of_bodySF (Jvm.Free.JP.mathPlain rfl (by decide +kernel)) hisR ?_
  intro p e s m args below meth c s₁ Bd hml0 hP hK
  obtain ⟨rfl, hZ, hh⟩ := hP
  have hx := Bd.exec
  have hby := Bd.bytes
  have hml : c.maxLocals = 2 := hml0
  have hown : s.vm.findClass "java/lang/Math" = some m.cls := findClass_of_methodNamed Bd.named
  have hnm := (name_of_methodNamed Bd.named Bd.method).1
  have X0 : Stand p l e ({ frames := 0, cells := 0, slots := 0, locals := 0 } : Room) s m #[(.int p133), (.int p134)] below meth c s₁ [] 0 0 := Stand.of_body Bd
  have e0 : s₁.heap = h0 := by rw [← hh, Bd.state]; rfl
  have N0 := Fr.nil n0
  have pre0 : ∀ t, Steps p.tables e below (s₁.setTop (mkF m 0 #[.val (.int p133), .val (.int p134)] [])) t → Steps p.tables e below (s₁.setTop (entryFrame m #[(.int p133), (.int p134)] 2)) t := fun t k => castTop (ef_4_vv m p133 p134) k

  obtain ⟨fs, hr, hrun, hended, hW, hsame⟩ := X0.leave (v := some (.int p134)) (fun h => by rw [Bd.returns] at h; cases h)
  refine ⟨_, _, pre0 _ ?_, hrun, hended, _, _, rfl, ?_, ⟨_, rfl⟩, hW, hsame.mono (by decide) (by decide)⟩
  · show Steps p.tables e below (s₁.setTop (mkF m 0 #[.val (.int p133), .val (.int p134)] [])) _
    refine XS.iloadN X0.here hx rfl (hb hby d4_0) rfl ?_
    show Steps p.tables e below (s₁.setTop (mkF m 1 #[.val (.int p133), .val (.int p134)] [(.int p133)])) _
    refine XS.iloadN X0.here hx rfl (hb hby d4_1) rfl ?_
    show Steps p.tables e below (s₁.setTop (mkF m 2 #[.val (.int p133), .val (.int p134)] [(.int p134), (.int p133)])) _
    refine XS.icmpYes X0.here hx rfl (pc0 := 2) (pc' := 9) rfl (hb hby d4_2) rfl (tlt H0).2.2.1 (by decide) (by decide) ?_
    show Steps p.tables e below (s₁.setTop (mkF m 9 #[.val (.int p133), .val (.int p134)] [])) _
    refine XS.iloadN X0.here hx rfl (hb hby d4_9) rfl ?_
    show Steps p.tables e below (s₁.setTop (mkF m 10 #[.val (.int p133), .val (.int p134)] [(.int p134)])) _
    exact retI X0 hx Bd.returns (hb hby d4_10) hr
  · show OQp (some (.int p134)) h0 n0 _ s₁.heap _
    rw [e0]
    exact ⟨rfl, N0, rfl⟩
set_option maxRecDepth 65536 in
set_option maxHeartbeats 40000000 in
theorem r0_4 (l : Launch) (Z : State) (a0 : Array Value) (hw : ∀ d ∈ tables_1, d.before a0 Z = true) (p104 : Int32) (p105 : Int32) (w110 : Addr) (w115 : Addr) (h0 : Heap) (n0 : Nat) (Z0 : n0 ≤ h0.size) (H0 : ¬ (((p104 &&& (2147483647 : Int32)) % (3 : Int32)) = (0 : Int32))) (H1 : ((p104 &&& (2147483647 : Int32)) % (3 : Int32)) = (1 : Int32)) (H2 : Sta Z h0 "com/example/grepo/grepo/internal/store/Truth" "UNKNOWN" "Lcom/example/grepo/grepo/internal/store/Truth;" (.ref w110)) (H3 : ((p105 &&& (2147483647 : Int32)) % (3 : Int32)) = (0 : Int32)) (H4 : Sta Z h0 "com/example/grepo/grepo/internal/store/Truth" "FALSE" "Lcom/example/grepo/grepo/internal/store/Truth;" (.ref w115)) (H5 : w110 ≠ w115) (H6 : Exa Z h0 w110 "com/example/grepo/grepo/internal/store/Truth") :
    OMet l Z x code maxLocals ret tables_1 room_1 h0 #[(.int p104), (.int p105)] (OQl (some (.int (1 : Int32))) n0) := by
  refine MetFree.of_bodySF (plainFor_of_name pn_com_example_grepo_grepo_internal_store_TruthAndPinLaw) hisR ?_
  intro p e s m args below meth c s₁ Bd hml0 hP hK
  obtain ⟨rfl, hZ, hh⟩ := hP
  have hx := Bd.exec
  have hby := Bd.bytes
  have hml : c.maxLocals = 6 := hml0
  have hown : s.vm.findClass "com/example/grepo/grepo/internal/store/TruthAndPinLaw" = some m.cls := findClass_of_methodNamed Bd.named
  have hnm := (name_of_methodNamed Bd.named Bd.method).1
  have X0 : Stand p l e room_1 s m #[(.int p104), (.int p105)] below meth c s₁ [] 0 0 := Stand.of_body Bd
  have e0 : s₁.heap = h0 := by rw [← hh, Bd.state]; rfl
  have N0 := Fr.nil n0
  have pre0 : ∀ t, Steps p.tables e below (s₁.setTop (mkF m 0 #[.val (.int p104), .val (.int p105), .unset, .unset, .unset, .unset] [])) t → Steps p.tables e below (s₁.setTop (entryFrame m #[(.int p104), (.int p105)] maxLocals)) t := fun t k => castTop (ef_0_vv m p104 p105) k
  obtain ⟨_, _, ⟨T109, L109, k109, n109⟩, -, X109, ⟨Lc109, hQ109, l109, y109, z109⟩, st109⟩ := Jvm.LawKit.callS X0 hx (y := (⟨"com/example/grepo/grepo/internal/store/TruthAndPinLaw", "pick", "(I)Lcom/example/grepo/grepo/internal/store/Truth;"⟩ : MethodName)) hown (mvT hZ (hw _ (List.mem_of_getElem? (i := 0) rfl))) (mvT hZ (hw _ (List.mem_of_getElem? (i := 1) rfl))) (mvT hZ (hw _ (List.mem_of_getElem? (i := 2) rfl))) (mvT hZ (hw _ (List.mem_of_getElem? (i := 3) rfl))) (by decide) (backOf (W := 0) (r1_2 l Z a0 hw p104 w110 h0 n0 Z0 H0 H1 H2) hZ (hw _ (List.mem_of_getElem? (i := 3) rfl)) (hw _ (List.mem_of_getElem? (i := 2) rfl)) (by decide) (by decide)) (g := (mkF m 1 #[.val (.int p104), .val (.int p105), .unset, .unset, .unset, .unset] [(.int p104)])) rfl (by rw [hml]; rfl) (argsL := [(.int p104)]) (rest := []) (lenOf pd_0 rfl) rfl (by show 2 * 0 + _ ≤ _; exact Nat.le_of_eq rfl) (hb hby at_1) (fun _ _ => ⟨rfl, e0, (by decide : 0 + 0 ≤ _), (by decide : 0 + 0 ≤ _)⟩)
  dsimp only [Pt.U, Pt.locs, Pt.cells, Pt.slots] at X109 l109 y109 z109 st109 hQ109
  subst l109 y109 z109
  obtain ⟨rfl, N109q, e109⟩ := hQ109
  have N109 := Fr.app N0 N109q
  obtain ⟨_, _, ⟨T114, L114, k114, n114⟩, -, X114, ⟨Lc114, hQ114, l114, y114, z114⟩, st114⟩ := Jvm.LawKit.callS X109 hx (y := (⟨"com/example/grepo/grepo/internal/store/TruthAndPinLaw", "pick", "(I)Lcom/example/grepo/grepo/internal/store/Truth;"⟩ : MethodName)) hown (mvT hZ (hw _ (List.mem_of_getElem? (i := 0) rfl))) (mvT hZ (hw _ (List.mem_of_getElem? (i := 1) rfl))) (mvT hZ (hw _ (List.mem_of_getElem? (i := 2) rfl))) (mvT hZ (hw _ (List.mem_of_getElem? (i := 3) rfl))) (by decide) (backOf (W := 0) (r1_1 l Z a0 hw p105 w115 h0 n0 Z0 H3 H4) hZ (hw _ (List.mem_of_getElem? (i := 3) rfl)) (hw _ (List.mem_of_getElem? (i := 2) rfl)) (by decide) (by decide)) (g := (mkF m 6 #[.val (.int p104), .val (.int p105), .val (.ref w110), .unset, .unset, .unset] [(.int p105)])) rfl (by rw [hml]; rfl) (argsL := [(.int p105)]) (rest := []) (lenOf pd_0 rfl) rfl (by show 2 * 0 + _ ≤ _; exact Nat.le_of_eq rfl) (hb hby at_6) (fun _ _ => ⟨rfl, e109, (by decide : 0 + 0 ≤ _), (by decide : 0 + 0 ≤ _)⟩)
  dsimp only [Pt.U, Pt.locs, Pt.cells, Pt.slots] at X114 l114 y114 z114 st114 hQ114
  subst l114 y114 z114
  obtain ⟨rfl, N114q, e114⟩ := hQ114
  have N114 := Fr.app N109 N114q
  obtain ⟨cq122, kq122, q122a, q122b, q122c⟩ := isOf hZ e114 H6
  obtain ⟨_, _, ⟨T122, L122, k122, n122⟩, -, X122, ⟨Lc122, hQ122, l122, y122, z122⟩, st122⟩ := X114.virtualBack hx (y := (⟨"com/example/grepo/grepo/internal/store/Truth", "and", "(Lcom/example/grepo/grepo/internal/store/Truth;)Lcom/example/grepo/grepo/internal/store/Truth;"⟩ : MethodName)) (z := (⟨"com/example/grepo/grepo/internal/store/Truth", "and", "(Lcom/example/grepo/grepo/internal/store/Truth;)Lcom/example/grepo/grepo/internal/store/Truth;"⟩ : MethodName)) hown (mvT hZ (hw _ (List.mem_of_getElem? (i := 8) rfl))) (mvT hZ (hw _ (List.mem_of_getElem? (i := 9) rfl))) (notFace_of_selects (args := #[]) (mvT hZ (hw _ (List.mem_of_getElem? (i := 11) rfl)))) (mvT hZ (hw _ (List.mem_of_getElem? (i := 11) rfl))) (mvT hZ (hw _ (List.mem_of_getElem? (i := 10) rfl))) (by decide) (backOf (W := 0) (r2_2 l Z a0 hw w110 w115 w115 h0 n0 Z0 H4 H5 rfl) hZ (hw _ (List.mem_of_getElem? (i := 12) rfl)) (hw _ (List.mem_of_getElem? (i := 6) rfl)) (by decide) (by decide)) q122a q122c (g := (mkF m 12 #[.val (.int p104), .val (.int p105), .val (.ref w110), .val (.ref w115), .unset, .unset] [(.ref w115), (.ref w110)])) rfl (by rw [hml]; rfl) (Steps.refl _) (argsL := [(.ref w115)]) (rest := []) (lenOf pd_1 rfl) rfl (by show 2 * 0 + _ ≤ _; exact Nat.le_of_eq rfl) (hb hby at_12) (fun _ _ => ⟨rfl, e114, (by decide : 0 + 0 ≤ _), (by decide : 0 + 0 ≤ _)⟩)
  dsimp only [Pt.U, Pt.locs, Pt.cells, Pt.slots] at X122 l122 y122 z122 st122 hQ122
  subst l122 y122 z122
  obtain ⟨rfl, N122q, e122⟩ := hQ122
  have N122 := Fr.app N114 N122q
  obtain ⟨_, _, ⟨T128, L128, k128, n128⟩, -, X128, ⟨Lc128, hQ128, l128, y128, z128⟩, st128⟩ := Jvm.LawKit.callS X122 hx (y := (⟨"com/example/grepo/grepo/internal/store/TruthAndPinLaw", "rank", "(Lcom/example/grepo/grepo/internal/store/Truth;)I"⟩ : MethodName)) hown (mvT hZ (hw _ (List.mem_of_getElem? (i := 14) rfl))) (mvT hZ (hw _ (List.mem_of_getElem? (i := 15) rfl))) (mvT hZ (hw _ (List.mem_of_getElem? (i := 2) rfl))) (mvT hZ (hw _ (List.mem_of_getElem? (i := 16) rfl))) (by decide) (backOf (W := 0) (r3_2 l Z a0 hw w110 w115 w110 h0 n0 Z0 H4 H5 H2 rfl) hZ (hw _ (List.mem_of_getElem? (i := 16) rfl)) (hw _ (List.mem_of_getElem? (i := 2) rfl)) (by decide) (by decide)) (g := (mkF m 18 #[.val (.int p104), .val (.int p105), .val (.ref w110), .val (.ref w115), .val (.ref w115), .unset] [(.ref w110)])) rfl (by rw [hml]; rfl) (argsL := [(.ref w110)]) (rest := []) (lenOf pd_2 rfl) rfl (by show 2 * 0 + _ ≤ _; exact Nat.le_of_eq rfl) (hb hby at_18) (fun _ _ => ⟨rfl, e122, (by decide : 0 + 0 ≤ _), (by decide : 0 + 0 ≤ _)⟩)
  dsimp only [Pt.U, Pt.locs, Pt.cells, Pt.slots] at X128 l128 y128 z128 st128 hQ128
  subst l128 y128 z128
  obtain ⟨rfl, N128q, e128⟩ := hQ128
  have N128 := Fr.app N122 N128q
  obtain ⟨_, _, ⟨T132, L132, k132, n132⟩, -, X132, ⟨Lc132, hQ132, l132, y132, z132⟩, st132⟩ := Jvm.LawKit.callS X128 hx (y := (⟨"com/example/grepo/grepo/internal/store/TruthAndPinLaw", "rank", "(Lcom/example/grepo/grepo/internal/store/Truth;)I"⟩ : MethodName)) hown (mvT hZ (hw _ (List.mem_of_getElem? (i := 14) rfl))) (mvT hZ (hw _ (List.mem_of_getElem? (i := 15) rfl))) (mvT hZ (hw _ (List.mem_of_getElem? (i := 2) rfl))) (mvT hZ (hw _ (List.mem_of_getElem? (i := 16) rfl))) (by decide) (backOf (W := 1) (r3_1 l Z a0 hw w115 w115 h0 n0 Z0 H4 rfl) hZ (hw _ (List.mem_of_getElem? (i := 16) rfl)) (hw _ (List.mem_of_getElem? (i := 2) rfl)) (by decide) (by decide)) (g := (mkF m 22 #[.val (.int p104), .val (.int p105), .val (.ref w110), .val (.ref w115), .val (.ref w115), .unset] [(.ref w115), (.int (1 : Int32))])) rfl (by rw [hml]; rfl) (argsL := [(.ref w115)]) (rest := [(.int (1 : Int32))]) (lenOf pd_2 rfl) rfl (by show 2 * 0 + _ ≤ _; exact Nat.le_of_eq rfl) (hb hby at_22) (fun _ _ => ⟨rfl, e128, (by decide : 0 + 0 ≤ _), (by decide : 0 + 0 ≤ _)⟩)
  dsimp only [Pt.U, Pt.locs, Pt.cells, Pt.slots] at X132 l132 y132 z132 st132 hQ132
  subst l132 y132 z132
  obtain ⟨rfl, N132q, e132⟩ := hQ132
  have N132 := Fr.app N128 N132q
  obtain ⟨_, _, ⟨T135, L135, k135, n135⟩, -, X135, ⟨Lc135, hQ135, l135, y135, z135⟩, st135⟩ := Jvm.LawKit.callS X132 hx (y := (⟨"java/lang/Math", "min", "(II)I"⟩ : MethodName)) hown (mvT hZ (hw _ (List.mem_of_getElem? (i := 17) rfl))) (mvT hZ (hw _ (List.mem_of_getElem? (i := 18) rfl))) (mvT hZ (hw _ (List.mem_of_getElem? (i := 19) rfl))) (mvT hZ (hw _ (List.mem_of_getElem? (i := 20) rfl))) (by decide) (backOf (W := 0) (r4_2 l Z a0 hw (1 : Int32) (0 : Int32) h0 n0 Z0 (by decide)) hZ (hw _ (List.mem_of_getElem? (i := 20) rfl)) (hw _ (List.mem_of_getElem? (i := 19) rfl)) (by decide) (by decide)) (g := (mkF m 25 #[.val (.int p104), .val (.int p105), .val (.ref w110), .val (.ref w115), .val (.ref w115), .unset] [(.int (0 : Int32)), (.int (1 : Int32))])) rfl (by rw [hml]; rfl) (argsL := [(.int (1 : Int32)), (.int (0 : Int32))]) (rest := []) (lenOf pd_3 rfl) rfl (by show 2 * 0 + _ ≤ _; exact Nat.le_of_eq rfl) (hb hby at_25) (fun _ _ => ⟨rfl, e132, (by decide : 0 + 0 ≤ _), (by decide : 0 + 0 ≤ _)⟩)
  dsimp only [Pt.U, Pt.locs, Pt.cells, Pt.slots] at X135 l135 y135 z135 st135 hQ135
  subst l135 y135 z135
  obtain ⟨rfl, N135q, e135⟩ := hQ135
  have N135 := Fr.app N132 N135q
  obtain ⟨_, _, ⟨T139, L139, k139, n139⟩, -, X139, ⟨Lc139, hQ139, l139, y139, z139⟩, st139⟩ := Jvm.LawKit.callS X135 hx (y := (⟨"com/example/grepo/grepo/internal/store/TruthAndPinLaw", "pick", "(I)Lcom/example/grepo/grepo/internal/store/Truth;"⟩ : MethodName)) hown (mvT hZ (hw _ (List.mem_of_getElem? (i := 0) rfl))) (mvT hZ (hw _ (List.mem_of_getElem? (i := 1) rfl))) (mvT hZ (hw _ (List.mem_of_getElem? (i := 2) rfl))) (mvT hZ (hw _ (List.mem_of_getElem? (i := 3) rfl))) (by decide) (backOf (W := 0) (r1_1 l Z a0 hw (0 : Int32) w115 h0 n0 Z0 (by decide) H4) hZ (hw _ (List.mem_of_getElem? (i := 3) rfl)) (hw _ (List.mem_of_getElem? (i := 2) rfl)) (by decide) (by decide)) (g := (mkF m 28 #[.val (.int p104), .val (.int p105), .val (.ref w110), .val (.ref w115), .val (.ref w115), .unset] [(.int (0 : Int32))])) rfl (by rw [hml]; rfl) (argsL := [(.int (0 : Int32))]) (rest := []) (lenOf pd_0 rfl) rfl (by show 2 * 0 + _ ≤ _; exact Nat.le_of_eq rfl) (hb hby at_28) (fun _ _ => ⟨rfl, e135, (by decide : 0 + 0 ≤ _), (by decide : 0 + 0 ≤ _)⟩)
  dsimp only [Pt.U, Pt.locs, Pt.cells, Pt.slots] at X139 l139 y139 z139 st139 hQ139
  subst l139 y139 z139
  obtain ⟨rfl, N139q, e139⟩ := hQ139
  have N139 := Fr.app N135 N139q
  obtain ⟨fs, hr, hrun, hended, hW, hsame⟩ := X139.leave (v := some (.int (1 : Int32))) (fun h => by rw [Bd.returns] at h; cases h)
  refine ⟨_, _, pre0 _ ?_, hrun, hended, _, _, rfl, ?_, ⟨_, rfl⟩, hW, hsame.mono (by decide) (by decide)⟩
  · show Steps p.tables e below (s₁.setTop (mkF m 0 #[.val (.int p104), .val (.int p105), .unset, .unset, .unset, .unset] [])) _
    refine XS.iloadN X0.here hx rfl (hb hby at_0) rfl ?_
    show Steps p.tables e below (s₁.setTop (mkF m 1 #[.val (.int p104), .val (.int p105), .unset, .unset, .unset, .unset] [(.int p104)])) _
    refine st109 _ ?_
    show Steps p.tables e below (T109.setTop (mkF m 4 #[.val (.int p104), .val (.int p105), .unset, .unset, .unset, .unset] [(.ref w110)])) _
    refine XS.astoreN X109.here hx rfl (hb hby at_4) rfl rfl (l' := #[.val (.int p104), .val (.int p105), .val (.ref w110), .unset, .unset, .unset]) rfl ?_
    show Steps p.tables e below (T109.setTop (mkF m 5 #[.val (.int p104), .val (.int p105), .val (.ref w110), .unset, .unset, .unset] [])) _
    refine XS.iloadN X109.here hx rfl (hb hby at_5) rfl ?_
    show Steps p.tables e below (T109.setTop (mkF m 6 #[.val (.int p104), .val (.int p105), .val (.ref w110), .unset, .unset, .unset] [(.int p105)])) _
    refine st114 _ ?_
    show Steps p.tables e below (T114.setTop (mkF m 9 #[.val (.int p104), .val (.int p105), .val (.ref w110), .unset, .unset, .unset] [(.ref w115)])) _
    refine XS.astoreN X114.here hx rfl (hb hby at_9) rfl rfl (l' := #[.val (.int p104), .val (.int p105), .val (.ref w110), .val (.ref w115), .unset, .unset]) rfl ?_
    show Steps p.tables e below (T114.setTop (mkF m 10 #[.val (.int p104), .val (.int p105), .val (.ref w110), .val (.ref w115), .unset, .unset] [])) _
    refine XS.aloadN X114.here hx rfl (hb hby at_10) rfl rfl ?_
    show Steps p.tables e below (T114.setTop (mkF m 11 #[.val (.int p104), .val (.int p105), .val (.ref w110), .val (.ref w115), .unset, .unset] [(.ref w110)])) _
    refine XS.aloadN X114.here hx rfl (hb hby at_11) rfl rfl ?_
    show Steps p.tables e below (T114.setTop (mkF m 12 #[.val (.int p104), .val (.int p105), .val (.ref w110), .val (.ref w115), .unset, .unset] [(.ref w115), (.ref w110)])) _
    refine st122.trans ?_
    show Steps p.tables e below (T122.setTop (mkF m 15 #[.val (.int p104), .val (.int p105), .val (.ref w110), .val (.ref w115), .unset, .unset] [(.ref w115)])) _
    refine XS.astore X122.here hx rfl (hb hby at_15) rfl rfl (l' := #[.val (.int p104), .val (.int p105), .val (.ref w110), .val (.ref w115), .val (.ref w115), .unset]) rfl ?_
    show Steps p.tables e below (T122.setTop (mkF m 17 #[.val (.int p104), .val (.int p105), .val (.ref w110), .val (.ref w115), .val (.ref w115), .unset] [])) _
    refine XS.aloadN X122.here hx rfl (hb hby at_17) rfl rfl ?_
    show Steps p.tables e below (T122.setTop (mkF m 18 #[.val (.int p104), .val (.int p105), .val (.ref w110), .val (.ref w115), .val (.ref w115), .unset] [(.ref w110)])) _
    refine st128 _ ?_
    show Steps p.tables e below (T128.setTop (mkF m 21 #[.val (.int p104), .val (.int p105), .val (.ref w110), .val (.ref w115), .val (.ref w115), .unset] [(.int (1 : Int32))])) _
    refine XS.aloadN X128.here hx rfl (hb hby at_21) rfl rfl ?_
    show Steps p.tables e below (T128.setTop (mkF m 22 #[.val (.int p104), .val (.int p105), .val (.ref w110), .val (.ref w115), .val (.ref w115), .unset] [(.ref w115), (.int (1 : Int32))])) _
    refine st132 _ ?_
    show Steps p.tables e below (T132.setTop (mkF m 25 #[.val (.int p104), .val (.int p105), .val (.ref w110), .val (.ref w115), .val (.ref w115), .unset] [(.int (0 : Int32)), (.int (1 : Int32))])) _
    refine st135 _ ?_
    show Steps p.tables e below (T135.setTop (mkF m 28 #[.val (.int p104), .val (.int p105), .val (.ref w110), .val (.ref w115), .val (.ref w115), .unset] [(.int (0 : Int32))])) _
    refine st139 _ ?_
    show Steps p.tables e below (T139.setTop (mkF m 31 #[.val (.int p104), .val (.int p105), .val (.ref w110), .val (.ref w115), .val (.ref w115), .unset] [(.ref w115)])) _
    refine XS.astore X139.here hx rfl (hb hby at_31) rfl rfl (l' := #[.val (.int p104), .val (.int p105), .val (.ref w110), .val (.ref w115), .val (.ref w115), .val (.ref w115)]) rfl ?_
    show Steps p.tables e below (T139.setTop (mkF m 33 #[.val (.int p104), .val (.int p105), .val (.ref w110), .val (.ref w115), .val (.ref w115), .val (.ref w115)] [])) _
    refine XS.aload X139.here hx rfl (hb hby at_33) rfl rfl ?_
    show Steps p.tables e below (T139.setTop (mkF m 35 #[.val (.int p104), .val (.int p105), .val (.ref w110), .val (.ref w115), .val (.ref w115), .val (.ref w115)] [(.ref w115)])) _
    refine XS.aload X139.here hx rfl (hb hby at_35) rfl rfl ?_
    show Steps p.tables e below (T139.setTop (mkF m 37 #[.val (.int p104), .val (.int p105), .val (.ref w110), .val (.ref w115), .val (.ref w115), .val (.ref w115)] [(.ref w115), (.ref w115)])) _
    refine Jvm.RoadKit.acmp (g := (mkF m 37 #[.val (.int p104), .val (.int p105), .val (.ref w110), .val (.ref w115), .val (.ref w115), .val (.ref w115)] [(.ref w115), (.ref w115)])) X139 hx rfl rfl rfl (pc0 := 37) (pc' := 40) (same := true) rfl (hb hby at_37) rfl (decide_eq_true rfl) (by decide) (by decide) ?_
    show Steps p.tables e below (T139.setTop (mkF m 40 #[.val (.int p104), .val (.int p105), .val (.ref w110), .val (.ref w115), .val (.ref w115), .val (.ref w115)] [])) _
    refine XS.iconst X139.here hx rfl (hb hby at_40) ?_
    show Steps p.tables e below (T139.setTop (mkF m 41 #[.val (.int p104), .val (.int p105), .val (.ref w110), .val (.ref w115), .val (.ref w115), .val (.ref w115)] [(.int (1 : Int32))])) _
    refine XS.goto X139.here hx rfl (pc0 := 41) (pc' := 45) rfl (hb hby at_41) (by decide) (by decide) ?_
    show Steps p.tables e below (T139.setTop (mkF m 45 #[.val (.int p104), .val (.int p105), .val (.ref w110), .val (.ref w115), .val (.ref w115), .val (.ref w115)] [(.int (1 : Int32))])) _
    exact retN X139 hx (t := .boolean) Bd.returns (by simp) (hb hby at_45) hr
  · show OQl (some (.int (1 : Int32))) n0 _ T139.heap _
    exact ⟨rfl, N139⟩
theorem d2_21 : decode prog_96_method_5_code 21 = .ok (.aload_n 0, 1) := by decide +kernel
theorem d2_22 : decode prog_96_method_5_code 22 = .ok (.getstatic 3, 3) := by decide +kernel
theorem d2_25 : decode prog_96_method_5_code 25 = .ok (.if_acmp .ne 17, 3) := by decide +kernel
theorem d2_42 : decode prog_96_method_5_code 42 = .ok (.getstatic 10, 3) := by decide +kernel
theorem d2_45 : decode prog_96_method_5_code 45 = .ok (.astore_n 2, 1) := by decide +kernel
set_option maxRecDepth 65536 in
set_option maxHeartbeats 40000000 in
theorem r2_3 (l : Launch) (Z : State) (a0 : Array Value) (hw : ∀ d ∈ tables_1, d.before a0 Z = true) (a151 : Addr) (a152 : Addr) (w153 : Addr) (w156 : Addr) (w158 : Addr) (h0 : Heap) (n0 : Nat) (Z0 : n0 ≤ h0.size) (H0 : Sta Z h0 "com/example/grepo/grepo/internal/store/Truth" "FALSE" "Lcom/example/grepo/grepo/internal/store/Truth;" (.ref w153)) (H1 : a151 ≠ w153) (H2 : a152 ≠ w153) (H3 : Sta Z h0 "com/example/grepo/grepo/internal/store/Truth" "TRUE" "Lcom/example/grepo/grepo/internal/store/Truth;" (.ref w156)) (H4 : a151 ≠ w156) (H5 : Sta Z h0 "com/example/grepo/grepo/internal/store/Truth" "UNKNOWN" "Lcom/example/grepo/grepo/internal/store/Truth;" (.ref w158)) :
    OMet l Z (⟨"com/example/grepo/grepo/internal/store/Truth", "and", "(Lcom/example/grepo/grepo/internal/store/Truth;)Lcom/example/grepo/grepo/internal/store/Truth;"⟩ : MethodName) prog_96_method_5_code 3 (some (.object "com/example/grepo/grepo/internal/store/Truth")) [] ({ frames := 0, cells := 0, slots := 0, locals := 0 } : Room) h0 #[(.ref a151), (.ref a152)] (OQp (some (.ref w158)) h0 n0) := by
  refine MetFree.of_bodySF (plainFor_of_name pn_com_example_grepo_grepo_internal_store_Truth) hisR ?_
  intro p e s m args below meth c s₁ Bd hml0 hP hK
  obtain ⟨rfl, hZ, hh⟩ := hP
  have hx := Bd.exec
  have hby := Bd.bytes
  have hml : c.maxLocals = 3 := hml0
  have hown : s.vm.findClass "com/example/grepo/grepo/internal/store/Truth" = some m.cls := findClass_of_methodNamed Bd.named
  have hnm := (name_of_methodNamed Bd.named Bd.method).1
  have X0 : Stand p l e ({ frames := 0, cells := 0, slots := 0, locals := 0 } : Room) s m #[(.ref a151), (.ref a152)] below meth c s₁ [] 0 0 := Stand.of_body Bd
  have e0 : s₁.heap = h0 := by rw [← hh, Bd.state]; rfl
  have N0 := Fr.nil n0
  have pre0 : ∀ t, Steps p.tables e below (s₁.setTop (mkF m 0 #[.val (.ref a151), .val (.ref a152), .unset] [])) t → Steps p.tables e below (s₁.setTop (entryFrame m #[(.ref a151), (.ref a152)] 3)) t := fun t k => castTop (ef_2_vv m a151 a152) k
  obtain ⟨T154, X154, e154, st154⟩ := getS2 X0 hx hZ hown (host := "") (Or.inl (hw _ (List.mem_of_getElem? (i := 13) rfl))) Via.refl e0 H0 (g := (mkF m 1 #[.val (.ref a151), .val (.ref a152), .unset] [(.ref a151)])) rfl (hb hby d2_1)
  obtain ⟨T155, X155, e155, st155⟩ := getS2 X154 hx hZ hown (host := "") (Or.inl (hw _ (List.mem_of_getElem? (i := 13) rfl))) Via.refl e154 H0 (g := (mkF m 8 #[.val (.ref a151), .val (.ref a152), .unset] [(.ref a152)])) rfl (hb hby d2_8)
  obtain ⟨T157, X157, e157, st157⟩ := getS2 X155 hx hZ hown (host := "") (Or.inl (hw _ (List.mem_of_getElem? (i := 25) rfl))) Via.refl e155 H3 (g := (mkF m 22 #[.val (.ref a151), .val (.ref a152), .unset] [(.ref a151)])) rfl (hb hby d2_22)
  obtain ⟨T159, X159, e159, st159⟩ := getS2 X157 hx hZ hown (host := "") (Or.inl (hw _ (List.mem_of_getElem? (i := 26) rfl))) Via.refl e157 H5 (g := (mkF m 42 #[.val (.ref a151), .val (.ref a152), .unset] [])) rfl (hb hby d2_42)
  obtain ⟨fs, hr, hrun, hended, hW, hsame⟩ := X159.leave (v := some (.ref w158)) (fun h => by rw [Bd.returns] at h; cases h)
  refine ⟨_, _, pre0 _ ?_, hrun, hended, _, _, rfl, ?_, ⟨_, rfl⟩, hW, hsame.mono (by decide) (by decide)⟩
  · show Steps p.tables e below (s₁.setTop (mkF m 0 #[.val (.ref a151), .val (.ref a152), .unset] [])) _
    refine XS.aloadN X0.here hx rfl (hb hby d2_0) rfl rfl ?_
    show Steps p.tables e below (s₁.setTop (mkF m 1 #[.val (.ref a151), .val (.ref a152), .unset] [(.ref a151)])) _
    refine st154 _ ?_
    show Steps p.tables e below (T154.setTop (mkF m 4 #[.val (.ref a151), .val (.ref a152), .unset] [(.ref w153), (.ref a151)])) _
    refine Jvm.RoadKit.acmp (g := (mkF m 4 #[.val (.ref a151), .val (.ref a152), .unset] [(.ref w153), (.ref a151)])) X154 hx rfl rfl rfl (pc0 := 4) (pc' := 7) (same := false) rfl (hb hby d2_4) rfl (decide_eq_false fun q => H1 (Value.ref.inj q)) (by decide) (by decide) ?_
    show Steps p.tables e below (T154.setTop (mkF m 7 #[.val (.ref a151), .val (.ref a152), .unset] [])) _
    refine XS.aloadN X154.here hx rfl (hb hby d2_7) rfl rfl ?_
    show Steps p.tables e below (T154.setTop (mkF m 8 #[.val (.ref a151), .val (.ref a152), .unset] [(.ref a152)])) _
    refine st155 _ ?_
    show Steps p.tables e below (T155.setTop (mkF m 11 #[.val (.ref a151), .val (.ref a152), .unset] [(.ref w153), (.ref a152)])) _
    refine Jvm.RoadKit.acmp (g := (mkF m 11 #[.val (.ref a151), .val (.ref a152), .unset] [(.ref w153), (.ref a152)])) X155 hx rfl rfl rfl (pc0 := 11) (pc' := 21) (same := false) rfl (hb hby d2_11) rfl (decide_eq_false fun q => H2 (Value.ref.inj q)) (by decide) (by decide) ?_
    show Steps p.tables e below (T155.setTop (mkF m 21 #[.val (.ref a151), .val (.ref a152), .unset] [])) _
    refine XS.aloadN X155.here hx rfl (hb hby d2_21) rfl rfl ?_
    show Steps p.tables e below (T155.setTop (mkF m 22 #[.val (.ref a151), .val (.ref a152), .unset] [(.ref a151)])) _
    refine st157 _ ?_
    show Steps p.tables e below (T157.setTop (mkF m 25 #[.val (.ref a151), .val (.ref a152), .unset] [(.ref w156), (.ref a151)])) _
    refine Jvm.RoadKit.acmp (g := (mkF m 25 #[.val (.ref a151), .val (.ref a152), .unset] [(.ref w156), (.ref a151)])) X157 hx rfl rfl rfl (pc0 := 25) (pc' := 42) (same := false) rfl (hb hby d2_25) rfl (decide_eq_false fun q => H4 (Value.ref.inj q)) (by decide) (by decide) ?_
    show Steps p.tables e below (T157.setTop (mkF m 42 #[.val (.ref a151), .val (.ref a152), .unset] [])) _
    refine st159 _ ?_
    show Steps p.tables e below (T159.setTop (mkF m 45 #[.val (.ref a151), .val (.ref a152), .unset] [(.ref w158)])) _
    refine XS.astoreN X159.here hx rfl (hb hby d2_45) rfl rfl (l' := #[.val (.ref a151), .val (.ref a152), .val (.ref w158)]) rfl ?_
    show Steps p.tables e below (T159.setTop (mkF m 46 #[.val (.ref a151), .val (.ref a152), .val (.ref w158)] [])) _
    refine XS.aloadN X159.here hx rfl (hb hby d2_46) rfl rfl ?_
    show Steps p.tables e below (T159.setTop (mkF m 47 #[.val (.ref a151), .val (.ref a152), .val (.ref w158)] [(.ref w158)])) _
    jvm_step X159.here [X159.here.top, hx, (hb hby d2_47), X159.method', Bd.returns, Value.isRef, FieldType.isReference]
    first | (intro acts; rw [hr _ acts rfl rfl rfl]) | rw [hr _ _ rfl rfl rfl]
    exact Steps.refl _
  · show OQp (some (.ref w158)) h0 n0 _ T159.heap _
    rw [e159]
    exact ⟨rfl, N0, rfl⟩
set_option maxRecDepth 65536 in
set_option maxHeartbeats 40000000 in
theorem r0_5 (l : Launch) (Z : State) (a0 : Array Value) (hw : ∀ d ∈ tables_1, d.before a0 Z = true) (p140 : Int32) (p141 : Int32) (w146 : Addr) (w161 : Addr) (w162 : Addr) (h0 : Heap) (n0 : Nat) (Z0 : n0 ≤ h0.size) (H0 : ¬ (((p140 &&& (2147483647 : Int32)) % (3 : Int32)) = (0 : Int32))) (H1 : ((p140 &&& (2147483647 : Int32)) % (3 : Int32)) = (1 : Int32)) (H2 : Sta Z h0 "com/example/grepo/grepo/internal/store/Truth" "UNKNOWN" "Lcom/example/grepo/grepo/internal/store/Truth;" (.ref w146)) (H3 : ¬ (((p141 &&& (2147483647 : Int32)) % (3 : Int32)) = (0 : Int32))) (H4 : ((p141 &&& (2147483647 : Int32)) % (3 : Int32)) = (1 : Int32)) (H5 : Sta Z h0 "com/example/grepo/grepo/internal/store/Truth" "FALSE" "Lcom/example/grepo/grepo/internal/store/Truth;" (.ref w161)) (H6 : w146 ≠ w161) (H7 : Sta Z h0 "com/example/grepo/grepo/internal/store/Truth" "TRUE" "Lcom/example/grepo/grepo/internal/store/Truth;" (.ref w162)) (H8 : w146 ≠ w162) (H9 : Exa Z h0 w146 "com/example/grepo/grepo/internal/store/Truth") :
    OMet l Z x code maxLocals ret tables_1 room_1 h0 #[(.int p140), (.int p141)] (OQl (some (.int (1 : Int32))) n0) := by
  refine MetFree.of_bodySF (plainFor_of_name pn_com_example_grepo_grepo_internal_store_TruthAndPinLaw) hisR ?_
  intro p e s m args below meth c s₁ Bd hml0 hP hK
  obtain ⟨rfl, hZ, hh⟩ := hP
  have hx := Bd.exec
  have hby := Bd.bytes
  have hml : c.maxLocals = 6 := hml0
  have hown : s.vm.findClass "com/example/grepo/grepo/internal/store/TruthAndPinLaw" = some m.cls := findClass_of_methodNamed Bd.named
  have hnm := (name_of_methodNamed Bd.named Bd.method).1
  have X0 : Stand p l e room_1 s m #[(.int p140), (.int p141)] below meth c s₁ [] 0 0 := Stand.of_body Bd
  have e0 : s₁.heap = h0 := by rw [← hh, Bd.state]; rfl
  have N0 := Fr.nil n0
  have pre0 : ∀ t, Steps p.tables e below (s₁.setTop (mkF m 0 #[.val (.int p140), .val (.int p141), .unset, .unset, .unset, .unset] [])) t → Steps p.tables e below (s₁.setTop (entryFrame m #[(.int p140), (.int p141)] maxLocals)) t := fun t k => castTop (ef_0_vv m p140 p141) k
  obtain ⟨_, _, ⟨T145, L145, k145, n145⟩, -, X145, ⟨Lc145, hQ145, l145, y145, z145⟩, st145⟩ := Jvm.LawKit.callS X0 hx (y := (⟨"com/example/grepo/grepo/internal/store/TruthAndPinLaw", "pick", "(I)Lcom/example/grepo/grepo/internal/store/Truth;"⟩ : MethodName)) hown (mvT hZ (hw _ (List.mem_of_getElem? (i := 0) rfl))) (mvT hZ (hw _ (List.mem_of_getElem? (i := 1) rfl))) (mvT hZ (hw _ (List.mem_of_getElem? (i := 2) rfl))) (mvT hZ (hw _ (List.mem_of_getElem? (i := 3) rfl))) (by decide) (backOf (W := 0) (r1_2 l Z a0 hw p140 w146 h0 n0 Z0 H0 H1 H2) hZ (hw _ (List.mem_of_getElem? (i := 3) rfl)) (hw _ (List.mem_of_getElem? (i := 2) rfl)) (by decide) (by decide)) (g := (mkF m 1 #[.val (.int p140), .val (.int p141), .unset, .unset, .unset, .unset] [(.int p140)])) rfl (by rw [hml]; rfl) (argsL := [(.int p140)]) (rest := []) (lenOf pd_0 rfl) rfl (by show 2 * 0 + _ ≤ _; exact Nat.le_of_eq rfl) (hb hby at_1) (fun _ _ => ⟨rfl, e0, (by decide : 0 + 0 ≤ _), (by decide : 0 + 0 ≤ _)⟩)
  dsimp only [Pt.U, Pt.locs, Pt.cells, Pt.slots] at X145 l145 y145 z145 st145 hQ145
  subst l145 y145 z145
  obtain ⟨rfl, N145q, e145⟩ := hQ145
  have N145 := Fr.app N0 N145q
  obtain ⟨_, _, ⟨T150, L150, k150, n150⟩, -, X150, ⟨Lc150, hQ150, l150, y150, z150⟩, st150⟩ := Jvm.LawKit.callS X145 hx (y := (⟨"com/example/grepo/grepo/internal/store/TruthAndPinLaw", "pick", "(I)Lcom/example/grepo/grepo/internal/store/Truth;"⟩ : MethodName)) hown (mvT hZ (hw _ (List.mem_of_getElem? (i := 0) rfl))) (mvT hZ (hw _ (List.mem_of_getElem? (i := 1) rfl))) (mvT hZ (hw _ (List.mem_of_getElem? (i := 2) rfl))) (mvT hZ (hw _ (List.mem_of_getElem? (i := 3) rfl))) (by decide) (backOf (W := 0) (r1_2 l Z a0 hw p141 w146 h0 n0 Z0 H3 H4 H2) hZ (hw _ (List.mem_of_getElem? (i := 3) rfl)) (hw _ (List.mem_of_getElem? (i := 2) rfl)) (by decide) (by decide)) (g := (mkF m 6 #[.val (.int p140), .val (.int p141), .val (.ref w146), .unset, .unset, .unset] [(.int p141)])) rfl (by rw [hml]; rfl) (argsL := [(.int p141)]) (rest := []) (lenOf pd_0 rfl) rfl (by show 2 * 0 + _ ≤ _; exact Nat.le_of_eq rfl) (hb hby at_6) (fun _ _ => ⟨rfl, e145, (by decide : 0 + 0 ≤ _), (by decide : 0 + 0 ≤ _)⟩)
  dsimp only [Pt.U, Pt.locs, Pt.cells, Pt.slots] at X150 l150 y150 z150 st150 hQ150
  subst l150 y150 z150
  obtain ⟨rfl, N150q, e150⟩ := hQ150
  have N150 := Fr.app N145 N150q
  obtain ⟨cq160, kq160, q160a, q160b, q160c⟩ := isOf hZ e150 H9
  obtain ⟨_, _, ⟨T160, L160, k160, n160⟩, -, X160, ⟨Lc160, hQ160, l160, y160, z160⟩, st160⟩ := X150.virtualBack hx (y := (⟨"com/example/grepo/grepo/internal/store/Truth", "and", "(Lcom/example/grepo/grepo/internal/store/Truth;)Lcom/example/grepo/grepo/internal/store/Truth;"⟩ : MethodName)) (z := (⟨"com/example/grepo/grepo/internal/store/Truth", "and", "(Lcom/example/grepo/grepo/internal/store/Truth;)Lcom/example/grepo/grepo/internal/store/Truth;"⟩ : MethodName)) hown (mvT hZ (hw _ (List.mem_of_getElem? (i := 8) rfl))) (mvT hZ (hw _ (List.mem_of_getElem? (i := 9) rfl))) (notFace_of_selects (args := #[]) (mvT hZ (hw _ (List.mem_of_getElem? (i := 11) rfl)))) (mvT hZ (hw _ (List.mem_of_getElem? (i := 11) rfl))) (mvT hZ (hw _ (List.mem_of_getElem? (i := 10) rfl))) (by decide) (backOf (W := 0) (r2_3 l Z a0 hw w146 w146 w161 w162 w146 h0 n0 Z0 H5 H6 H6 H7 H8 H2) hZ (hw _ (List.mem_of_getElem? (i := 12) rfl)) (hw _ (List.mem_of_getElem? (i := 6) rfl)) (by decide) (by decide)) q160a q160c (g := (mkF m 12 #[.val (.int p140), .val (.int p141), .val (.ref w146), .val (.ref w146), .unset, .unset] [(.ref w146), (.ref w146)])) rfl (by rw [hml]; rfl) (Steps.refl _) (argsL := [(.ref w146)]) (rest := []) (lenOf pd_1 rfl) rfl (by show 2 * 0 + _ ≤ _; exact Nat.le_of_eq rfl) (hb hby at_12) (fun _ _ => ⟨rfl, e150, (by decide : 0 + 0 ≤ _), (by decide : 0 + 0 ≤ _)⟩)
  dsimp only [Pt.U, Pt.locs, Pt.cells, Pt.slots] at X160 l160 y160 z160 st160 hQ160
  subst l160 y160 z160
  obtain ⟨rfl, N160q, e160⟩ := hQ160
  have N160 := Fr.app N150 N160q
  obtain ⟨_, _, ⟨T168, L168, k168, n168⟩, -, X168, ⟨Lc168, hQ168, l168, y168, z168⟩, st168⟩ := Jvm.LawKit.callS X160 hx (y := (⟨"com/example/grepo/grepo/internal/store/TruthAndPinLaw", "rank", "(Lcom/example/grepo/grepo/internal/store/Truth;)I"⟩ : MethodName)) hown (mvT hZ (hw _ (List.mem_of_getElem? (i := 14) rfl))) (mvT hZ (hw _ (List.mem_of_getElem? (i := 15) rfl))) (mvT hZ (hw _ (List.mem_of_getElem? (i := 2) rfl))) (mvT hZ (hw _ (List.mem_of_getElem? (i := 16) rfl))) (by decide) (backOf (W := 0) (r3_2 l Z a0 hw w146 w161 w146 h0 n0 Z0 H5 H6 H2 rfl) hZ (hw _ (List.mem_of_getElem? (i := 16) rfl)) (hw _ (List.mem_of_getElem? (i := 2) rfl)) (by decide) (by decide)) (g := (mkF m 18 #[.val (.int p140), .val (.int p141), .val (.ref w146), .val (.ref w146), .val (.ref w146), .unset] [(.ref w146)])) rfl (by rw [hml]; rfl) (argsL := [(.ref w146)]) (rest := []) (lenOf pd_2 rfl) rfl (by show 2 * 0 + _ ≤ _; exact Nat.le_of_eq rfl) (hb hby at_18) (fun _ _ => ⟨rfl, e160, (by decide : 0 + 0 ≤ _), (by decide : 0 + 0 ≤ _)⟩)
  dsimp only [Pt.U, Pt.locs, Pt.cells, Pt.slots] at X168 l168 y168 z168 st168 hQ168
  subst l168 y168 z168
  obtain ⟨rfl, N168q, e168⟩ := hQ168
  have N168 := Fr.app N160 N168q
  obtain ⟨_, _, ⟨T174, L174, k174, n174⟩, -, X174, ⟨Lc174, hQ174, l174, y174, z174⟩, st174⟩ := Jvm.LawKit.callS X168 hx (y := (⟨"com/example/grepo/grepo/internal/store/TruthAndPinLaw", "rank", "(Lcom/example/grepo/grepo/internal/store/Truth;)I"⟩ : MethodName)) hown (mvT hZ (hw _ (List.mem_of_getElem? (i := 14) rfl))) (mvT hZ (hw _ (List.mem_of_getElem? (i := 15) rfl))) (mvT hZ (hw _ (List.mem_of_getElem? (i := 2) rfl))) (mvT hZ (hw _ (List.mem_of_getElem? (i := 16) rfl))) (by decide) (backOf (W := 1) (r3_2 l Z a0 hw w146 w161 w146 h0 n0 Z0 H5 H6 H2 rfl) hZ (hw _ (List.mem_of_getElem? (i := 16) rfl)) (hw _ (List.mem_of_getElem? (i := 2) rfl)) (by decide) (by decide)) (g := (mkF m 22 #[.val (.int p140), .val (.int p141), .val (.ref w146), .val (.ref w146), .val (.ref w146), .unset] [(.ref w146), (.int (1 : Int32))])) rfl (by rw [hml]; rfl) (argsL := [(.ref w146)]) (rest := [(.int (1 : Int32))]) (lenOf pd_2 rfl) rfl (by show 2 * 0 + _ ≤ _; exact Nat.le_of_eq rfl) (hb hby at_22) (fun _ _ => ⟨rfl, e168, (by decide : 0 + 0 ≤ _), (by decide : 0 + 0 ≤ _)⟩)
  dsimp only [Pt.U, Pt.locs, Pt.cells, Pt.slots] at X174 l174 y174 z174 st174 hQ174
  subst l174 y174 z174
  obtain ⟨rfl, N174q, e174⟩ := hQ174
  have N174 := Fr.app N168 N174q
  obtain ⟨_, _, ⟨T177, L177, k177, n177⟩, -, X177, ⟨Lc177, hQ177, l177, y177, z177⟩, st177⟩ := Jvm.LawKit.callS X174 hx (y := (⟨"java/lang/Math", "min", "(II)I"⟩ : MethodName)) hown (mvT hZ (hw _ (List.mem_of_getElem? (i := 17) rfl))) (mvT hZ (hw _ (List.mem_of_getElem? (i := 18) rfl))) (mvT hZ (hw _ (List.mem_of_getElem? (i := 19) rfl))) (mvT hZ (hw _ (List.mem_of_getElem? (i := 20) rfl))) (by decide) (backOf (W := 0) (r4_1 l Z a0 hw (1 : Int32) (1 : Int32) h0 n0 Z0 (by decide)) hZ (hw _ (List.mem_of_getElem? (i := 20) rfl)) (hw _ (List.mem_of_getElem? (i := 19) rfl)) (by decide) (by decide)) (g := (mkF m 25 #[.val (.int p140), .val (.int p141), .val (.ref w146), .val (.ref w146), .val (.ref w146), .unset] [(.int (1 : Int32)), (.int (1 : Int32))])) rfl (by rw [hml]; rfl) (argsL := [(.int (1 : Int32)), (.int (1 : Int32))]) (rest := []) (lenOf pd_3 rfl) rfl (by show 2 * 0 + _ ≤ _; exact Nat.le_of_eq rfl) (hb hby at_25) (fun _ _ => ⟨rfl, e174, (by decide : 0 + 0 ≤ _), (by decide : 0 + 0 ≤ _)⟩)
  dsimp only [Pt.U, Pt.locs, Pt.cells, Pt.slots] at X177 l177 y177 z177 st177 hQ177
  subst l177 y177 z177
  obtain ⟨rfl, N177q, e177⟩ := hQ177
  have N177 := Fr.app N174 N177q
  obtain ⟨_, _, ⟨T181, L181, k181, n181⟩, -, X181, ⟨Lc181, hQ181, l181, y181, z181⟩, st181⟩ := Jvm.LawKit.callS X177 hx (y := (⟨"com/example/grepo/grepo/internal/store/TruthAndPinLaw", "pick", "(I)Lcom/example/grepo/grepo/internal/store/Truth;"⟩ : MethodName)) hown (mvT hZ (hw _ (List.mem_of_getElem? (i := 0) rfl))) (mvT hZ (hw _ (List.mem_of_getElem? (i := 1) rfl))) (mvT hZ (hw _ (List.mem_of_getElem? (i := 2) rfl))) (mvT hZ (hw _ (List.mem_of_getElem? (i := 3) rfl))) (by decide) (backOf (W := 0) (r1_2 l Z a0 hw (1 : Int32) w146 h0 n0 Z0 (by decide) (by decide) H2) hZ (hw _ (List.mem_of_getElem? (i := 3) rfl)) (hw _ (List.mem_of_getElem? (i := 2) rfl)) (by decide) (by decide)) (g := (mkF m 28 #[.val (.int p140), .val (.int p141), .val (.ref w146), .val (.ref w146), .val (.ref w146), .unset] [(.int (1 : Int32))])) rfl (by rw [hml]; rfl) (argsL := [(.int (1 : Int32))]) (rest := []) (lenOf pd_0 rfl) rfl (by show 2 * 0 + _ ≤ _; exact Nat.le_of_eq rfl) (hb hby at_28) (fun _ _ => ⟨rfl, e177, (by decide : 0 + 0 ≤ _), (by decide : 0 + 0 ≤ _)⟩)
  dsimp only [Pt.U, Pt.locs, Pt.cells, Pt.slots] at X181 l181 y181 z181 st181 hQ181
  subst l181 y181 z181
  obtain ⟨rfl, N181q, e181⟩ := hQ181
  have N181 := Fr.app N177 N181q
  obtain ⟨fs, hr, hrun, hended, hW, hsame⟩ := X181.leave (v := some (.int (1 : Int32))) (fun h => by rw [Bd.returns] at h; cases h)
  refine ⟨_, _, pre0 _ ?_, hrun, hended, _, _, rfl, ?_, ⟨_, rfl⟩, hW, hsame.mono (by decide) (by decide)⟩
  · show Steps p.tables e below (s₁.setTop (mkF m 0 #[.val (.int p140), .val (.int p141), .unset, .unset, .unset, .unset] [])) _
    refine XS.iloadN X0.here hx rfl (hb hby at_0) rfl ?_
    show Steps p.tables e below (s₁.setTop (mkF m 1 #[.val (.int p140), .val (.int p141), .unset, .unset, .unset, .unset] [(.int p140)])) _
    refine st145 _ ?_
    show Steps p.tables e below (T145.setTop (mkF m 4 #[.val (.int p140), .val (.int p141), .unset, .unset, .unset, .unset] [(.ref w146)])) _
    refine XS.astoreN X145.here hx rfl (hb hby at_4) rfl rfl (l' := #[.val (.int p140), .val (.int p141), .val (.ref w146), .unset, .unset, .unset]) rfl ?_
    show Steps p.tables e below (T145.setTop (mkF m 5 #[.val (.int p140), .val (.int p141), .val (.ref w146), .unset, .unset, .unset] [])) _
    refine XS.iloadN X145.here hx rfl (hb hby at_5) rfl ?_
    show Steps p.tables e below (T145.setTop (mkF m 6 #[.val (.int p140), .val (.int p141), .val (.ref w146), .unset, .unset, .unset] [(.int p141)])) _
    refine st150 _ ?_
    show Steps p.tables e below (T150.setTop (mkF m 9 #[.val (.int p140), .val (.int p141), .val (.ref w146), .unset, .unset, .unset] [(.ref w146)])) _
    refine XS.astoreN X150.here hx rfl (hb hby at_9) rfl rfl (l' := #[.val (.int p140), .val (.int p141), .val (.ref w146), .val (.ref w146), .unset, .unset]) rfl ?_
    show Steps p.tables e below (T150.setTop (mkF m 10 #[.val (.int p140), .val (.int p141), .val (.ref w146), .val (.ref w146), .unset, .unset] [])) _
    refine XS.aloadN X150.here hx rfl (hb hby at_10) rfl rfl ?_
    show Steps p.tables e below (T150.setTop (mkF m 11 #[.val (.int p140), .val (.int p141), .val (.ref w146), .val (.ref w146), .unset, .unset] [(.ref w146)])) _
    refine XS.aloadN X150.here hx rfl (hb hby at_11) rfl rfl ?_
    show Steps p.tables e below (T150.setTop (mkF m 12 #[.val (.int p140), .val (.int p141), .val (.ref w146), .val (.ref w146), .unset, .unset] [(.ref w146), (.ref w146)])) _
    refine st160.trans ?_
    show Steps p.tables e below (T160.setTop (mkF m 15 #[.val (.int p140), .val (.int p141), .val (.ref w146), .val (.ref w146), .unset, .unset] [(.ref w146)])) _
    refine XS.astore X160.here hx rfl (hb hby at_15) rfl rfl (l' := #[.val (.int p140), .val (.int p141), .val (.ref w146), .val (.ref w146), .val (.ref w146), .unset]) rfl ?_
    show Steps p.tables e below (T160.setTop (mkF m 17 #[.val (.int p140), .val (.int p141), .val (.ref w146), .val (.ref w146), .val (.ref w146), .unset] [])) _
    refine XS.aloadN X160.here hx rfl (hb hby at_17) rfl rfl ?_
    show Steps p.tables e below (T160.setTop (mkF m 18 #[.val (.int p140), .val (.int p141), .val (.ref w146), .val (.ref w146), .val (.ref w146), .unset] [(.ref w146)])) _
    refine st168 _ ?_
    show Steps p.tables e below (T168.setTop (mkF m 21 #[.val (.int p140), .val (.int p141), .val (.ref w146), .val (.ref w146), .val (.ref w146), .unset] [(.int (1 : Int32))])) _
    refine XS.aloadN X168.here hx rfl (hb hby at_21) rfl rfl ?_
    show Steps p.tables e below (T168.setTop (mkF m 22 #[.val (.int p140), .val (.int p141), .val (.ref w146), .val (.ref w146), .val (.ref w146), .unset] [(.ref w146), (.int (1 : Int32))])) _
    refine st174 _ ?_
    show Steps p.tables e below (T174.setTop (mkF m 25 #[.val (.int p140), .val (.int p141), .val (.ref w146), .val (.ref w146), .val (.ref w146), .unset] [(.int (1 : Int32)), (.int (1 : Int32))])) _
    refine st177 _ ?_
    show Steps p.tables e below (T177.setTop (mkF m 28 #[.val (.int p140), .val (.int p141), .val (.ref w146), .val (.ref w146), .val (.ref w146), .unset] [(.int (1 : Int32))])) _
    refine st181 _ ?_
    show Steps p.tables e below (T181.setTop (mkF m 31 #[.val (.int p140), .val (.int p141), .val (.ref w146), .val (.ref w146), .val (.ref w146), .unset] [(.ref w146)])) _
    refine XS.astore X181.here hx rfl (hb hby at_31) rfl rfl (l' := #[.val (.int p140), .val (.int p141), .val (.ref w146), .val (.ref w146), .val (.ref w146), .val (.ref w146)]) rfl ?_
    show Steps p.tables e below (T181.setTop (mkF m 33 #[.val (.int p140), .val (.int p141), .val (.ref w146), .val (.ref w146), .val (.ref w146), .val (.ref w146)] [])) _
    refine XS.aload X181.here hx rfl (hb hby at_33) rfl rfl ?_
    show Steps p.tables e below (T181.setTop (mkF m 35 #[.val (.int p140), .val (.int p141), .val (.ref w146), .val (.ref w146), .val (.ref w146), .val (.ref w146)] [(.ref w146)])) _
    refine XS.aload X181.here hx rfl (hb hby at_35) rfl rfl ?_
    show Steps p.tables e below (T181.setTop (mkF m 37 #[.val (.int p140), .val (.int p141), .val (.ref w146), .val (.ref w146), .val (.ref w146), .val (.ref w146)] [(.ref w146), (.ref w146)])) _
    refine Jvm.RoadKit.acmp (g := (mkF m 37 #[.val (.int p140), .val (.int p141), .val (.ref w146), .val (.ref w146), .val (.ref w146), .val (.ref w146)] [(.ref w146), (.ref w146)])) X181 hx rfl rfl rfl (pc0 := 37) (pc' := 40) (same := true) rfl (hb hby at_37) rfl (decide_eq_true rfl) (by decide) (by decide) ?_
    show Steps p.tables e below (T181.setTop (mkF m 40 #[.val (.int p140), .val (.int p141), .val (.ref w146), .val (.ref w146), .val (.ref w146), .val (.ref w146)] [])) _
    refine XS.iconst X181.here hx rfl (hb hby at_40) ?_
    show Steps p.tables e below (T181.setTop (mkF m 41 #[.val (.int p140), .val (.int p141), .val (.ref w146), .val (.ref w146), .val (.ref w146), .val (.ref w146)] [(.int (1 : Int32))])) _
    refine XS.goto X181.here hx rfl (pc0 := 41) (pc' := 45) rfl (hb hby at_41) (by decide) (by decide) ?_
    show Steps p.tables e below (T181.setTop (mkF m 45 #[.val (.int p140), .val (.int p141), .val (.ref w146), .val (.ref w146), .val (.ref w146), .val (.ref w146)] [(.int (1 : Int32))])) _
    exact retN X181 hx (t := .boolean) Bd.returns (by simp) (hb hby at_45) hr
  · show OQl (some (.int (1 : Int32))) n0 _ T181.heap _
    exact ⟨rfl, N181⟩
set_option maxRecDepth 65536 in
set_option maxHeartbeats 40000000 in
theorem r0_6 (l : Launch) (Z : State) (a0 : Array Value) (hw : ∀ d ∈ tables_1, d.before a0 Z = true) (p182 : Int32) (p183 : Int32) (w188 : Addr) (w193 : Addr) (w204 : Addr) (h0 : Heap) (n0 : Nat) (Z0 : n0 ≤ h0.size) (H0 : ¬ (((p182 &&& (2147483647 : Int32)) % (3 : Int32)) = (0 : Int32))) (H1 : ((p182 &&& (2147483647 : Int32)) % (3 : Int32)) = (1 : Int32)) (H2 : Sta Z h0 "com/example/grepo/grepo/internal/store/Truth" "UNKNOWN" "Lcom/example/grepo/grepo/internal/store/Truth;" (.ref w188)) (H3 : ¬ (((p183 &&& (2147483647 : Int32)) % (3 : Int32)) = (0 : Int32))) (H4 : ¬ (((p183 &&& (2147483647 : Int32)) % (3 : Int32)) = (1 : Int32))) (H5 : Sta Z h0 "com/example/grepo/grepo/internal/store/Truth" "TRUE" "Lcom/example/grepo/grepo/internal/store/Truth;" (.ref w193)) (H6 : Sta Z h0 "com/example/grepo/grepo/internal/store/Truth" "FALSE" "Lcom/example/grepo/grepo/internal/store/Truth;" (.ref w204)) (H7 : w188 ≠ w204) (H8 : w193 ≠ w204) (H9 : w188 ≠ w193) (H10 : Exa Z h0 w188 "com/example/grepo/grepo/internal/store/Truth") (H11 : w193 ≠ w188) :
    OMet l Z x code maxLocals ret tables_1 room_1 h0 #[(.int p182), (.int p183)] (OQl (some (.int (1 : Int32))) n0) := by
  refine MetFree.of_bodySF (plainFor_of_name pn_com_example_grepo_grepo_internal_store_TruthAndPinLaw) hisR ?_
  intro p e s m args below meth c s₁ Bd hml0 hP hK
  obtain ⟨rfl, hZ, hh⟩ := hP
  have hx := Bd.exec
  have hby := Bd.bytes
  have hml : c.maxLocals = 6 := hml0
  have hown : s.vm.findClass "com/example/grepo/grepo/internal/store/TruthAndPinLaw" = some m.cls := findClass_of_methodNamed Bd.named
  have hnm := (name_of_methodNamed Bd.named Bd.method).1
  have X0 : Stand p l e room_1 s m #[(.int p182), (.int p183)] below meth c s₁ [] 0 0 := Stand.of_body Bd
  have e0 : s₁.heap = h0 := by rw [← hh, Bd.state]; rfl
  have N0 := Fr.nil n0
  have pre0 : ∀ t, Steps p.tables e below (s₁.setTop (mkF m 0 #[.val (.int p182), .val (.int p183), .unset, .unset, .unset, .unset] [])) t → Steps p.tables e below (s₁.setTop (entryFrame m #[(.int p182), (.int p183)] maxLocals)) t := fun t k => castTop (ef_0_vv m p182 p183) k
  obtain ⟨_, _, ⟨T187, L187, k187, n187⟩, -, X187, ⟨Lc187, hQ187, l187, y187, z187⟩, st187⟩ := Jvm.LawKit.callS X0 hx (y := (⟨"com/example/grepo/grepo/internal/store/TruthAndPinLaw", "pick", "(I)Lcom/example/grepo/grepo/internal/store/Truth;"⟩ : MethodName)) hown (mvT hZ (hw _ (List.mem_of_getElem? (i := 0) rfl))) (mvT hZ (hw _ (List.mem_of_getElem? (i := 1) rfl))) (mvT hZ (hw _ (List.mem_of_getElem? (i := 2) rfl))) (mvT hZ (hw _ (List.mem_of_getElem? (i := 3) rfl))) (by decide) (backOf (W := 0) (r1_2 l Z a0 hw p182 w188 h0 n0 Z0 H0 H1 H2) hZ (hw _ (List.mem_of_getElem? (i := 3) rfl)) (hw _ (List.mem_of_getElem? (i := 2) rfl)) (by decide) (by decide)) (g := (mkF m 1 #[.val (.int p182), .val (.int p183), .unset, .unset, .unset, .unset] [(.int p182)])) rfl (by rw [hml]; rfl) (argsL := [(.int p182)]) (rest := []) (lenOf pd_0 rfl) rfl (by show 2 * 0 + _ ≤ _; exact Nat.le_of_eq rfl) (hb hby at_1) (fun _ _ => ⟨rfl, e0, (by decide : 0 + 0 ≤ _), (by decide : 0 + 0 ≤ _)⟩)
  dsimp only [Pt.U, Pt.locs, Pt.cells, Pt.slots] at X187 l187 y187 z187 st187 hQ187
  subst l187 y187 z187
  obtain ⟨rfl, N187q, e187⟩ := hQ187
  have N187 := Fr.app N0 N187q
  obtain ⟨_, _, ⟨T192, L192, k192, n192⟩, -, X192, ⟨Lc192, hQ192, l192, y192, z192⟩, st192⟩ := Jvm.LawKit.callS X187 hx (y := (⟨"com/example/grepo/grepo/internal/store/TruthAndPinLaw", "pick", "(I)Lcom/example/grepo/grepo/internal/store/Truth;"⟩ : MethodName)) hown (mvT hZ (hw _ (List.mem_of_getElem? (i := 0) rfl))) (mvT hZ (hw _ (List.mem_of_getElem? (i := 1) rfl))) (mvT hZ (hw _ (List.mem_of_getElem? (i := 2) rfl))) (mvT hZ (hw _ (List.mem_of_getElem? (i := 3) rfl))) (by decide) (backOf (W := 0) (r1_3 l Z a0 hw p183 w193 h0 n0 Z0 H3 H4 H5) hZ (hw _ (List.mem_of_getElem? (i := 3) rfl)) (hw _ (List.mem_of_getElem? (i := 2) rfl)) (by decide) (by decide)) (g := (mkF m 6 #[.val (.int p182), .val (.int p183), .val (.ref w188), .unset, .unset, .unset] [(.int p183)])) rfl (by rw [hml]; rfl) (argsL := [(.int p183)]) (rest := []) (lenOf pd_0 rfl) rfl (by show 2 * 0 + _ ≤ _; exact Nat.le_of_eq rfl) (hb hby at_6) (fun _ _ => ⟨rfl, e187, (by decide : 0 + 0 ≤ _), (by decide : 0 + 0 ≤ _)⟩)
  dsimp only [Pt.U, Pt.locs, Pt.cells, Pt.slots] at X192 l192 y192 z192 st192 hQ192
  subst l192 y192 z192
  obtain ⟨rfl, N192q, e192⟩ := hQ192
  have N192 := Fr.app N187 N192q
  obtain ⟨cq203, kq203, q203a, q203b, q203c⟩ := isOf hZ e192 H10
  obtain ⟨_, _, ⟨T203, L203, k203, n203⟩, -, X203, ⟨Lc203, hQ203, l203, y203, z203⟩, st203⟩ := X192.virtualBack hx (y := (⟨"com/example/grepo/grepo/internal/store/Truth", "and", "(Lcom/example/grepo/grepo/internal/store/Truth;)Lcom/example/grepo/grepo/internal/store/Truth;"⟩ : MethodName)) (z := (⟨"com/example/grepo/grepo/internal/store/Truth", "and", "(Lcom/example/grepo/grepo/internal/store/Truth;)Lcom/example/grepo/grepo/internal/store/Truth;"⟩ : MethodName)) hown (mvT hZ (hw _ (List.mem_of_getElem? (i := 8) rfl))) (mvT hZ (hw _ (List.mem_of_getElem? (i := 9) rfl))) (notFace_of_selects (args := #[]) (mvT hZ (hw _ (List.mem_of_getElem? (i := 11) rfl)))) (mvT hZ (hw _ (List.mem_of_getElem? (i := 11) rfl))) (mvT hZ (hw _ (List.mem_of_getElem? (i := 10) rfl))) (by decide) (backOf (W := 0) (r2_3 l Z a0 hw w188 w193 w204 w193 w188 h0 n0 Z0 H6 H7 H8 H5 H9 H2) hZ (hw _ (List.mem_of_getElem? (i := 12) rfl)) (hw _ (List.mem_of_getElem? (i := 6) rfl)) (by decide) (by decide)) q203a q203c (g := (mkF m 12 #[.val (.int p182), .val (.int p183), .val (.ref w188), .val (.ref w193), .unset, .unset] [(.ref w193), (.ref w188)])) rfl (by rw [hml]; rfl) (Steps.refl _) (argsL := [(.ref w193)]) (rest := []) (lenOf pd_1 rfl) rfl (by show 2 * 0 + _ ≤ _; exact Nat.le_of_eq rfl) (hb hby at_12) (fun _ _ => ⟨rfl, e192, (by decide : 0 + 0 ≤ _), (by decide : 0 + 0 ≤ _)⟩)
  dsimp only [Pt.U, Pt.locs, Pt.cells, Pt.slots] at X203 l203 y203 z203 st203 hQ203
  subst l203 y203 z203
  obtain ⟨rfl, N203q, e203⟩ := hQ203
  have N203 := Fr.app N192 N203q
  obtain ⟨_, _, ⟨T210, L210, k210, n210⟩, -, X210, ⟨Lc210, hQ210, l210, y210, z210⟩, st210⟩ := Jvm.LawKit.callS X203 hx (y := (⟨"com/example/grepo/grepo/internal/store/TruthAndPinLaw", "rank", "(Lcom/example/grepo/grepo/internal/store/Truth;)I"⟩ : MethodName)) hown (mvT hZ (hw _ (List.mem_of_getElem? (i := 14) rfl))) (mvT hZ (hw _ (List.mem_of_getElem? (i := 15) rfl))) (mvT hZ (hw _ (List.mem_of_getElem? (i := 2) rfl))) (mvT hZ (hw _ (List.mem_of_getElem? (i := 16) rfl))) (by decide) (backOf (W := 0) (r3_2 l Z a0 hw w188 w204 w188 h0 n0 Z0 H6 H7 H2 rfl) hZ (hw _ (List.mem_of_getElem? (i := 16) rfl)) (hw _ (List.mem_of_getElem? (i := 2) rfl)) (by decide) (by decide)) (g := (mkF m 18 #[.val (.int p182), .val (.int p183), .val (.ref w188), .val (.ref w193), .val (.ref w188), .unset] [(.ref w188)])) rfl (by rw [hml]; rfl) (argsL := [(.ref w188)]) (rest := []) (lenOf pd_2 rfl) rfl (by show 2 * 0 + _ ≤ _; exact Nat.le_of_eq rfl) (hb hby at_18) (fun _ _ => ⟨rfl, e203, (by decide : 0 + 0 ≤ _), (by decide : 0 + 0 ≤ _)⟩)
  dsimp only [Pt.U, Pt.locs, Pt.cells, Pt.slots] at X210 l210 y210 z210 st210 hQ210
  subst l210 y210 z210
  obtain ⟨rfl, N210q, e210⟩ := hQ210
  have N210 := Fr.app N203 N210q
  obtain ⟨_, _, ⟨T216, L216, k216, n216⟩, -, X216, ⟨Lc216, hQ216, l216, y216, z216⟩, st216⟩ := Jvm.LawKit.callS X210 hx (y := (⟨"com/example/grepo/grepo/internal/store/TruthAndPinLaw", "rank", "(Lcom/example/grepo/grepo/internal/store/Truth;)I"⟩ : MethodName)) hown (mvT hZ (hw _ (List.mem_of_getElem? (i := 14) rfl))) (mvT hZ (hw _ (List.mem_of_getElem? (i := 15) rfl))) (mvT hZ (hw _ (List.mem_of_getElem? (i := 2) rfl))) (mvT hZ (hw _ (List.mem_of_getElem? (i := 16) rfl))) (by decide) (backOf (W := 1) (r3_3 l Z a0 hw w193 w204 w188 h0 n0 Z0 H6 H8 H2 H11) hZ (hw _ (List.mem_of_getElem? (i := 16) rfl)) (hw _ (List.mem_of_getElem? (i := 2) rfl)) (by decide) (by decide)) (g := (mkF m 22 #[.val (.int p182), .val (.int p183), .val (.ref w188), .val (.ref w193), .val (.ref w188), .unset] [(.ref w193), (.int (1 : Int32))])) rfl (by rw [hml]; rfl) (argsL := [(.ref w193)]) (rest := [(.int (1 : Int32))]) (lenOf pd_2 rfl) rfl (by show 2 * 0 + _ ≤ _; exact Nat.le_of_eq rfl) (hb hby at_22) (fun _ _ => ⟨rfl, e210, (by decide : 0 + 0 ≤ _), (by decide : 0 + 0 ≤ _)⟩)
  dsimp only [Pt.U, Pt.locs, Pt.cells, Pt.slots] at X216 l216 y216 z216 st216 hQ216
  subst l216 y216 z216
  obtain ⟨rfl, N216q, e216⟩ := hQ216
  have N216 := Fr.app N210 N216q
  obtain ⟨_, _, ⟨T219, L219, k219, n219⟩, -, X219, ⟨Lc219, hQ219, l219, y219, z219⟩, st219⟩ := Jvm.LawKit.callS X216 hx (y := (⟨"java/lang/Math", "min", "(II)I"⟩ : MethodName)) hown (mvT hZ (hw _ (List.mem_of_getElem? (i := 17) rfl))) (mvT hZ (hw _ (List.mem_of_getElem? (i := 18) rfl))) (mvT hZ (hw _ (List.mem_of_getElem? (i := 19) rfl))) (mvT hZ (hw _ (List.mem_of_getElem? (i := 20) rfl))) (by decide) (backOf (W := 0) (r4_1 l Z a0 hw (1 : Int32) (2 : Int32) h0 n0 Z0 (by decide)) hZ (hw _ (List.mem_of_getElem? (i := 20) rfl)) (hw _ (List.mem_of_getElem? (i := 19) rfl)) (by decide) (by decide)) (g := (mkF m 25 #[.val (.int p182), .val (.int p183), .val (.ref w188), .val (.ref w193), .val (.ref w188), .unset] [(.int (2 : Int32)), (.int (1 : Int32))])) rfl (by rw [hml]; rfl) (argsL := [(.int (1 : Int32)), (.int (2 : Int32))]) (rest := []) (lenOf pd_3 rfl) rfl (by show 2 * 0 + _ ≤ _; exact Nat.le_of_eq rfl) (hb hby at_25) (fun _ _ => ⟨rfl, e216, (by decide : 0 + 0 ≤ _), (by decide : 0 + 0 ≤ _)⟩)
  dsimp only [Pt.U, Pt.locs, Pt.cells, Pt.slots] at X219 l219 y219 z219 st219 hQ219
  subst l219 y219 z219
  obtain ⟨rfl, N219q, e219⟩ := hQ219
  have N219 := Fr.app N216 N219q
  obtain ⟨_, _, ⟨T223, L223, k223, n223⟩, -, X223, ⟨Lc223, hQ223, l223, y223, z223⟩, st223⟩ := Jvm.LawKit.callS X219 hx (y := (⟨"com/example/grepo/grepo/internal/store/TruthAndPinLaw", "pick", "(I)Lcom/example/grepo/grepo/internal/store/Truth;"⟩ : MethodName)) hown (mvT hZ (hw _ (List.mem_of_getElem? (i := 0) rfl))) (mvT hZ (hw _ (List.mem_of_getElem? (i := 1) rfl))) (mvT hZ (hw _ (List.mem_of_getElem? (i := 2) rfl))) (mvT hZ (hw _ (List.mem_of_getElem? (i := 3) rfl))) (by decide) (backOf (W := 0) (r1_2 l Z a0 hw (1 : Int32) w188 h0 n0 Z0 (by decide) (by decide) H2) hZ (hw _ (List.mem_of_getElem? (i := 3) rfl)) (hw _ (List.mem_of_getElem? (i := 2) rfl)) (by decide) (by decide)) (g := (mkF m 28 #[.val (.int p182), .val (.int p183), .val (.ref w188), .val (.ref w193), .val (.ref w188), .unset] [(.int (1 : Int32))])) rfl (by rw [hml]; rfl) (argsL := [(.int (1 : Int32))]) (rest := []) (lenOf pd_0 rfl) rfl (by show 2 * 0 + _ ≤ _; exact Nat.le_of_eq rfl) (hb hby at_28) (fun _ _ => ⟨rfl, e219, (by decide : 0 + 0 ≤ _), (by decide : 0 + 0 ≤ _)⟩)
  dsimp only [Pt.U, Pt.locs, Pt.cells, Pt.slots] at X223 l223 y223 z223 st223 hQ223
  subst l223 y223 z223
  obtain ⟨rfl, N223q, e223⟩ := hQ223
  have N223 := Fr.app N219 N223q
  obtain ⟨fs, hr, hrun, hended, hW, hsame⟩ := X223.leave (v := some (.int (1 : Int32))) (fun h => by rw [Bd.returns] at h; cases h)
  refine ⟨_, _, pre0 _ ?_, hrun, hended, _, _, rfl, ?_, ⟨_, rfl⟩, hW, hsame.mono (by decide) (by decide)⟩
  · show Steps p.tables e below (s₁.setTop (mkF m 0 #[.val (.int p182), .val (.int p183), .unset, .unset, .unset, .unset] [])) _
    refine XS.iloadN X0.here hx rfl (hb hby at_0) rfl ?_
    show Steps p.tables e below (s₁.setTop (mkF m 1 #[.val (.int p182), .val (.int p183), .unset, .unset, .unset, .unset] [(.int p182)])) _
    refine st187 _ ?_
    show Steps p.tables e below (T187.setTop (mkF m 4 #[.val (.int p182), .val (.int p183), .unset, .unset, .unset, .unset] [(.ref w188)])) _
    refine XS.astoreN X187.here hx rfl (hb hby at_4) rfl rfl (l' := #[.val (.int p182), .val (.int p183), .val (.ref w188), .unset, .unset, .unset]) rfl ?_
    show Steps p.tables e below (T187.setTop (mkF m 5 #[.val (.int p182), .val (.int p183), .val (.ref w188), .unset, .unset, .unset] [])) _
    refine XS.iloadN X187.here hx rfl (hb hby at_5) rfl ?_
    show Steps p.tables e below (T187.setTop (mkF m 6 #[.val (.int p182), .val (.int p183), .val (.ref w188), .unset, .unset, .unset] [(.int p183)])) _
    refine st192 _ ?_
    show Steps p.tables e below (T192.setTop (mkF m 9 #[.val (.int p182), .val (.int p183), .val (.ref w188), .unset, .unset, .unset] [(.ref w193)])) _
    refine XS.astoreN X192.here hx rfl (hb hby at_9) rfl rfl (l' := #[.val (.int p182), .val (.int p183), .val (.ref w188), .val (.ref w193), .unset, .unset]) rfl ?_
    show Steps p.tables e below (T192.setTop (mkF m 10 #[.val (.int p182), .val (.int p183), .val (.ref w188), .val (.ref w193), .unset, .unset] [])) _
    refine XS.aloadN X192.here hx rfl (hb hby at_10) rfl rfl ?_
    show Steps p.tables e below (T192.setTop (mkF m 11 #[.val (.int p182), .val (.int p183), .val (.ref w188), .val (.ref w193), .unset, .unset] [(.ref w188)])) _
    refine XS.aloadN X192.here hx rfl (hb hby at_11) rfl rfl ?_
    show Steps p.tables e below (T192.setTop (mkF m 12 #[.val (.int p182), .val (.int p183), .val (.ref w188), .val (.ref w193), .unset, .unset] [(.ref w193), (.ref w188)])) _
    refine st203.trans ?_
    show Steps p.tables e below (T203.setTop (mkF m 15 #[.val (.int p182), .val (.int p183), .val (.ref w188), .val (.ref w193), .unset, .unset] [(.ref w188)])) _
    refine XS.astore X203.here hx rfl (hb hby at_15) rfl rfl (l' := #[.val (.int p182), .val (.int p183), .val (.ref w188), .val (.ref w193), .val (.ref w188), .unset]) rfl ?_
    show Steps p.tables e below (T203.setTop (mkF m 17 #[.val (.int p182), .val (.int p183), .val (.ref w188), .val (.ref w193), .val (.ref w188), .unset] [])) _
    refine XS.aloadN X203.here hx rfl (hb hby at_17) rfl rfl ?_
    show Steps p.tables e below (T203.setTop (mkF m 18 #[.val (.int p182), .val (.int p183), .val (.ref w188), .val (.ref w193), .val (.ref w188), .unset] [(.ref w188)])) _
    refine st210 _ ?_
    show Steps p.tables e below (T210.setTop (mkF m 21 #[.val (.int p182), .val (.int p183), .val (.ref w188), .val (.ref w193), .val (.ref w188), .unset] [(.int (1 : Int32))])) _
    refine XS.aloadN X210.here hx rfl (hb hby at_21) rfl rfl ?_
    show Steps p.tables e below (T210.setTop (mkF m 22 #[.val (.int p182), .val (.int p183), .val (.ref w188), .val (.ref w193), .val (.ref w188), .unset] [(.ref w193), (.int (1 : Int32))])) _
    refine st216 _ ?_
    show Steps p.tables e below (T216.setTop (mkF m 25 #[.val (.int p182), .val (.int p183), .val (.ref w188), .val (.ref w193), .val (.ref w188), .unset] [(.int (2 : Int32)), (.int (1 : Int32))])) _
    refine st219 _ ?_
    show Steps p.tables e below (T219.setTop (mkF m 28 #[.val (.int p182), .val (.int p183), .val (.ref w188), .val (.ref w193), .val (.ref w188), .unset] [(.int (1 : Int32))])) _
    refine st223 _ ?_
    show Steps p.tables e below (T223.setTop (mkF m 31 #[.val (.int p182), .val (.int p183), .val (.ref w188), .val (.ref w193), .val (.ref w188), .unset] [(.ref w188)])) _
    refine XS.astore X223.here hx rfl (hb hby at_31) rfl rfl (l' := #[.val (.int p182), .val (.int p183), .val (.ref w188), .val (.ref w193), .val (.ref w188), .val (.ref w188)]) rfl ?_
    show Steps p.tables e below (T223.setTop (mkF m 33 #[.val (.int p182), .val (.int p183), .val (.ref w188), .val (.ref w193), .val (.ref w188), .val (.ref w188)] [])) _
    refine XS.aload X223.here hx rfl (hb hby at_33) rfl rfl ?_
    show Steps p.tables e below (T223.setTop (mkF m 35 #[.val (.int p182), .val (.int p183), .val (.ref w188), .val (.ref w193), .val (.ref w188), .val (.ref w188)] [(.ref w188)])) _
    refine XS.aload X223.here hx rfl (hb hby at_35) rfl rfl ?_
    show Steps p.tables e below (T223.setTop (mkF m 37 #[.val (.int p182), .val (.int p183), .val (.ref w188), .val (.ref w193), .val (.ref w188), .val (.ref w188)] [(.ref w188), (.ref w188)])) _
    refine Jvm.RoadKit.acmp (g := (mkF m 37 #[.val (.int p182), .val (.int p183), .val (.ref w188), .val (.ref w193), .val (.ref w188), .val (.ref w188)] [(.ref w188), (.ref w188)])) X223 hx rfl rfl rfl (pc0 := 37) (pc' := 40) (same := true) rfl (hb hby at_37) rfl (decide_eq_true rfl) (by decide) (by decide) ?_
    show Steps p.tables e below (T223.setTop (mkF m 40 #[.val (.int p182), .val (.int p183), .val (.ref w188), .val (.ref w193), .val (.ref w188), .val (.ref w188)] [])) _
    refine XS.iconst X223.here hx rfl (hb hby at_40) ?_
    show Steps p.tables e below (T223.setTop (mkF m 41 #[.val (.int p182), .val (.int p183), .val (.ref w188), .val (.ref w193), .val (.ref w188), .val (.ref w188)] [(.int (1 : Int32))])) _
    refine XS.goto X223.here hx rfl (pc0 := 41) (pc' := 45) rfl (hb hby at_41) (by decide) (by decide) ?_
    show Steps p.tables e below (T223.setTop (mkF m 45 #[.val (.int p182), .val (.int p183), .val (.ref w188), .val (.ref w193), .val (.ref w188), .val (.ref w188)] [(.int (1 : Int32))])) _
    exact retN X223 hx (t := .boolean) Bd.returns (by simp) (hb hby at_45) hr
  · show OQl (some (.int (1 : Int32))) n0 _ T223.heap _
    exact ⟨rfl, N223⟩
set_option maxRecDepth 65536 in
set_option maxHeartbeats 40000000 in
theorem r0_7 (l : Launch) (Z : State) (a0 : Array Value) (hw : ∀ d ∈ tables_1, d.before a0 Z = true) (p224 : Int32) (p225 : Int32) (w230 : Addr) (w235 : Addr) (w249 : Addr) (h0 : Heap) (n0 : Nat) (Z0 : n0 ≤ h0.size) (H0 : ¬ (((p224 &&& (2147483647 : Int32)) % (3 : Int32)) = (0 : Int32))) (H1 : ¬ (((p224 &&& (2147483647 : Int32)) % (3 : Int32)) = (1 : Int32))) (H2 : Sta Z h0 "com/example/grepo/grepo/internal/store/Truth" "TRUE" "Lcom/example/grepo/grepo/internal/store/Truth;" (.ref w230)) (H3 : ((p225 &&& (2147483647 : Int32)) % (3 : Int32)) = (0 : Int32)) (H4 : Sta Z h0 "com/example/grepo/grepo/internal/store/Truth" "FALSE" "Lcom/example/grepo/grepo/internal/store/Truth;" (.ref w235)) (H5 : w230 ≠ w235) (H6 : Exa Z h0 w230 "com/example/grepo/grepo/internal/store/Truth") (H7 : Sta Z h0 "com/example/grepo/grepo/internal/store/Truth" "UNKNOWN" "Lcom/example/grepo/grepo/internal/store/Truth;" (.ref w249)) (H8 : w230 ≠ w249) :
    OMet l Z x code maxLocals ret tables_1 room_1 h0 #[(.int p224), (.int p225)] (OQl (some (.int (1 : Int32))) n0) := by
  refine MetFree.of_bodySF (plainFor_of_name pn_com_example_grepo_grepo_internal_store_TruthAndPinLaw) hisR ?_
  intro p e s m args below meth c s₁ Bd hml0 hP hK
  obtain ⟨rfl, hZ, hh⟩ := hP
  have hx := Bd.exec
  have hby := Bd.bytes
  have hml : c.maxLocals = 6 := hml0
  have hown : s.vm.findClass "com/example/grepo/grepo/internal/store/TruthAndPinLaw" = some m.cls := findClass_of_methodNamed Bd.named
  have hnm := (name_of_methodNamed Bd.named Bd.method).1
  have X0 : Stand p l e room_1 s m #[(.int p224), (.int p225)] below meth c s₁ [] 0 0 := Stand.of_body Bd
  have e0 : s₁.heap = h0 := by rw [← hh, Bd.state]; rfl
  have N0 := Fr.nil n0
  have pre0 : ∀ t, Steps p.tables e below (s₁.setTop (mkF m 0 #[.val (.int p224), .val (.int p225), .unset, .unset, .unset, .unset] [])) t → Steps p.tables e below (s₁.setTop (entryFrame m #[(.int p224), (.int p225)] maxLocals)) t := fun t k => castTop (ef_0_vv m p224 p225) k
  obtain ⟨_, _, ⟨T229, L229, k229, n229⟩, -, X229, ⟨Lc229, hQ229, l229, y229, z229⟩, st229⟩ := Jvm.LawKit.callS X0 hx (y := (⟨"com/example/grepo/grepo/internal/store/TruthAndPinLaw", "pick", "(I)Lcom/example/grepo/grepo/internal/store/Truth;"⟩ : MethodName)) hown (mvT hZ (hw _ (List.mem_of_getElem? (i := 0) rfl))) (mvT hZ (hw _ (List.mem_of_getElem? (i := 1) rfl))) (mvT hZ (hw _ (List.mem_of_getElem? (i := 2) rfl))) (mvT hZ (hw _ (List.mem_of_getElem? (i := 3) rfl))) (by decide) (backOf (W := 0) (r1_3 l Z a0 hw p224 w230 h0 n0 Z0 H0 H1 H2) hZ (hw _ (List.mem_of_getElem? (i := 3) rfl)) (hw _ (List.mem_of_getElem? (i := 2) rfl)) (by decide) (by decide)) (g := (mkF m 1 #[.val (.int p224), .val (.int p225), .unset, .unset, .unset, .unset] [(.int p224)])) rfl (by rw [hml]; rfl) (argsL := [(.int p224)]) (rest := []) (lenOf pd_0 rfl) rfl (by show 2 * 0 + _ ≤ _; exact Nat.le_of_eq rfl) (hb hby at_1) (fun _ _ => ⟨rfl, e0, (by decide : 0 + 0 ≤ _), (by decide : 0 + 0 ≤ _)⟩)
  dsimp only [Pt.U, Pt.locs, Pt.cells, Pt.slots] at X229 l229 y229 z229 st229 hQ229
  subst l229 y229 z229
  obtain ⟨rfl, N229q, e229⟩ := hQ229
  have N229 := Fr.app N0 N229q
  obtain ⟨_, _, ⟨T234, L234, k234, n234⟩, -, X234, ⟨Lc234, hQ234, l234, y234, z234⟩, st234⟩ := Jvm.LawKit.callS X229 hx (y := (⟨"com/example/grepo/grepo/internal/store/TruthAndPinLaw", "pick", "(I)Lcom/example/grepo/grepo/internal/store/Truth;"⟩ : MethodName)) hown (mvT hZ (hw _ (List.mem_of_getElem? (i := 0) rfl))) (mvT hZ (hw _ (List.mem_of_getElem? (i := 1) rfl))) (mvT hZ (hw _ (List.mem_of_getElem? (i := 2) rfl))) (mvT hZ (hw _ (List.mem_of_getElem? (i := 3) rfl))) (by decide) (backOf (W := 0) (r1_1 l Z a0 hw p225 w235 h0 n0 Z0 H3 H4) hZ (hw _ (List.mem_of_getElem? (i := 3) rfl)) (hw _ (List.mem_of_getElem? (i := 2) rfl)) (by decide) (by decide)) (g := (mkF m 6 #[.val (.int p224), .val (.int p225), .val (.ref w230), .unset, .unset, .unset] [(.int p225)])) rfl (by rw [hml]; rfl) (argsL := [(.int p225)]) (rest := []) (lenOf pd_0 rfl) rfl (by show 2 * 0 + _ ≤ _; exact Nat.le_of_eq rfl) (hb hby at_6) (fun _ _ => ⟨rfl, e229, (by decide : 0 + 0 ≤ _), (by decide : 0 + 0 ≤ _)⟩)
  dsimp only [Pt.U, Pt.locs, Pt.cells, Pt.slots] at X234 l234 y234 z234 st234 hQ234
  subst l234 y234 z234
  obtain ⟨rfl, N234q, e234⟩ := hQ234
  have N234 := Fr.app N229 N234q
  obtain ⟨cq242, kq242, q242a, q242b, q242c⟩ := isOf hZ e234 H6
  obtain ⟨_, _, ⟨T242, L242, k242, n242⟩, -, X242, ⟨Lc242, hQ242, l242, y242, z242⟩, st242⟩ := X234.virtualBack hx (y := (⟨"com/example/grepo/grepo/internal/store/Truth", "and", "(Lcom/example/grepo/grepo/internal/store/Truth;)Lcom/example/grepo/grepo/internal/store/Truth;"⟩ : MethodName)) (z := (⟨"com/example/grepo/grepo/internal/store/Truth", "and", "(Lcom/example/grepo/grepo/internal/store/Truth;)Lcom/example/grepo/grepo/internal/store/Truth;"⟩ : MethodName)) hown (mvT hZ (hw _ (List.mem_of_getElem? (i := 8) rfl))) (mvT hZ (hw _ (List.mem_of_getElem? (i := 9) rfl))) (notFace_of_selects (args := #[]) (mvT hZ (hw _ (List.mem_of_getElem? (i := 11) rfl)))) (mvT hZ (hw _ (List.mem_of_getElem? (i := 11) rfl))) (mvT hZ (hw _ (List.mem_of_getElem? (i := 10) rfl))) (by decide) (backOf (W := 0) (r2_2 l Z a0 hw w230 w235 w235 h0 n0 Z0 H4 H5 rfl) hZ (hw _ (List.mem_of_getElem? (i := 12) rfl)) (hw _ (List.mem_of_getElem? (i := 6) rfl)) (by decide) (by decide)) q242a q242c (g := (mkF m 12 #[.val (.int p224), .val (.int p225), .val (.ref w230), .val (.ref w235), .unset, .unset] [(.ref w235), (.ref w230)])) rfl (by rw [hml]; rfl) (Steps.refl _) (argsL := [(.ref w235)]) (rest := []) (lenOf pd_1 rfl) rfl (by show 2 * 0 + _ ≤ _; exact Nat.le_of_eq rfl) (hb hby at_12) (fun _ _ => ⟨rfl, e234, (by decide : 0 + 0 ≤ _), (by decide : 0 + 0 ≤ _)⟩)
  dsimp only [Pt.U, Pt.locs, Pt.cells, Pt.slots] at X242 l242 y242 z242 st242 hQ242
  subst l242 y242 z242
  obtain ⟨rfl, N242q, e242⟩ := hQ242
  have N242 := Fr.app N234 N242q
  obtain ⟨_, _, ⟨T248, L248, k248, n248⟩, -, X248, ⟨Lc248, hQ248, l248, y248, z248⟩, st248⟩ := Jvm.LawKit.callS X242 hx (y := (⟨"com/example/grepo/grepo/internal/store/TruthAndPinLaw", "rank", "(Lcom/example/grepo/grepo/internal/store/Truth;)I"⟩ : MethodName)) hown (mvT hZ (hw _ (List.mem_of_getElem? (i := 14) rfl))) (mvT hZ (hw _ (List.mem_of_getElem? (i := 15) rfl))) (mvT hZ (hw _ (List.mem_of_getElem? (i := 2) rfl))) (mvT hZ (hw _ (List.mem_of_getElem? (i := 16) rfl))) (by decide) (backOf (W := 0) (r3_3 l Z a0 hw w230 w235 w249 h0 n0 Z0 H4 H5 H7 H8) hZ (hw _ (List.mem_of_getElem? (i := 16) rfl)) (hw _ (List.mem_of_getElem? (i := 2) rfl)) (by decide) (by decide)) (g := (mkF m 18 #[.val (.int p224), .val (.int p225), .val (.ref w230), .val (.ref w235), .val (.ref w235), .unset] [(.ref w230)])) rfl (by rw [hml]; rfl) (argsL := [(.ref w230)]) (rest := []) (lenOf pd_2 rfl) rfl (by show 2 * 0 + _ ≤ _; exact Nat.le_of_eq rfl) (hb hby at_18) (fun _ _ => ⟨rfl, e242, (by decide : 0 + 0 ≤ _), (by decide : 0 + 0 ≤ _)⟩)
  dsimp only [Pt.U, Pt.locs, Pt.cells, Pt.slots] at X248 l248 y248 z248 st248 hQ248
  subst l248 y248 z248
  obtain ⟨rfl, N248q, e248⟩ := hQ248
  have N248 := Fr.app N242 N248q
  obtain ⟨_, _, ⟨T253, L253, k253, n253⟩, -, X253, ⟨Lc253, hQ253, l253, y253, z253⟩, st253⟩ := Jvm.LawKit.callS X248 hx (y := (⟨"com/example/grepo/grepo/internal/store/TruthAndPinLaw", "rank", "(Lcom/example/grepo/grepo/internal/store/Truth;)I"⟩ : MethodName)) hown (mvT hZ (hw _ (List.mem_of_getElem? (i := 14) rfl))) (mvT hZ (hw _ (List.mem_of_getElem? (i := 15) rfl))) (mvT hZ (hw _ (List.mem_of_getElem? (i := 2) rfl))) (mvT hZ (hw _ (List.mem_of_getElem? (i := 16) rfl))) (by decide) (backOf (W := 1) (r3_1 l Z a0 hw w235 w235 h0 n0 Z0 H4 rfl) hZ (hw _ (List.mem_of_getElem? (i := 16) rfl)) (hw _ (List.mem_of_getElem? (i := 2) rfl)) (by decide) (by decide)) (g := (mkF m 22 #[.val (.int p224), .val (.int p225), .val (.ref w230), .val (.ref w235), .val (.ref w235), .unset] [(.ref w235), (.int (2 : Int32))])) rfl (by rw [hml]; rfl) (argsL := [(.ref w235)]) (rest := [(.int (2 : Int32))]) (lenOf pd_2 rfl) rfl (by show 2 * 0 + _ ≤ _; exact Nat.le_of_eq rfl) (hb hby at_22) (fun _ _ => ⟨rfl, e248, (by decide : 0 + 0 ≤ _), (by decide : 0 + 0 ≤ _)⟩)
  dsimp only [Pt.U, Pt.locs, Pt.cells, Pt.slots] at X253 l253 y253 z253 st253 hQ253
  subst l253 y253 z253
  obtain ⟨rfl, N253q, e253⟩ := hQ253
  have N253 := Fr.app N248 N253q
  obtain ⟨_, _, ⟨T256, L256, k256, n256⟩, -, X256, ⟨Lc256, hQ256, l256, y256, z256⟩, st256⟩ := Jvm.LawKit.callS X253 hx (y := (⟨"java/lang/Math", "min", "(II)I"⟩ : MethodName)) hown (mvT hZ (hw _ (List.mem_of_getElem? (i := 17) rfl))) (mvT hZ (hw _ (List.mem_of_getElem? (i := 18) rfl))) (mvT hZ (hw _ (List.mem_of_getElem? (i := 19) rfl))) (mvT hZ (hw _ (List.mem_of_getElem? (i := 20) rfl))) (by decide) (backOf (W := 0) (r4_2 l Z a0 hw (2 : Int32) (0 : Int32) h0 n0 Z0 (by decide)) hZ (hw _ (List.mem_of_getElem? (i := 20) rfl)) (hw _ (List.mem_of_getElem? (i := 19) rfl)) (by decide) (by decide)) (g := (mkF m 25 #[.val (.int p224), .val (.int p225), .val (.ref w230), .val (.ref w235), .val (.ref w235), .unset] [(.int (0 : Int32)), (.int (2 : Int32))])) rfl (by rw [hml]; rfl) (argsL := [(.int (2 : Int32)), (.int (0 : Int32))]) (rest := []) (lenOf pd_3 rfl) rfl (by show 2 * 0 + _ ≤ _; exact Nat.le_of_eq rfl) (hb hby at_25) (fun _ _ => ⟨rfl, e253, (by decide : 0 + 0 ≤ _), (by decide : 0 + 0 ≤ _)⟩)
  dsimp only [Pt.U, Pt.locs, Pt.cells, Pt.slots] at X256 l256 y256 z256 st256 hQ256
  subst l256 y256 z256
  obtain ⟨rfl, N256q, e256⟩ := hQ256
  have N256 := Fr.app N253 N256q
  obtain ⟨_, _, ⟨T260, L260, k260, n260⟩, -, X260, ⟨Lc260, hQ260, l260, y260, z260⟩, st260⟩ := Jvm.LawKit.callS X256 hx (y := (⟨"com/example/grepo/grepo/internal/store/TruthAndPinLaw", "pick", "(I)Lcom/example/grepo/grepo/internal/store/Truth;"⟩ : MethodName)) hown (mvT hZ (hw _ (List.mem_of_getElem? (i := 0) rfl))) (mvT hZ (hw _ (List.mem_of_getElem? (i := 1) rfl))) (mvT hZ (hw _ (List.mem_of_getElem? (i := 2) rfl))) (mvT hZ (hw _ (List.mem_of_getElem? (i := 3) rfl))) (by decide) (backOf (W := 0) (r1_1 l Z a0 hw (0 : Int32) w235 h0 n0 Z0 (by decide) H4) hZ (hw _ (List.mem_of_getElem? (i := 3) rfl)) (hw _ (List.mem_of_getElem? (i := 2) rfl)) (by decide) (by decide)) (g := (mkF m 28 #[.val (.int p224), .val (.int p225), .val (.ref w230), .val (.ref w235), .val (.ref w235), .unset] [(.int (0 : Int32))])) rfl (by rw [hml]; rfl) (argsL := [(.int (0 : Int32))]) (rest := []) (lenOf pd_0 rfl) rfl (by show 2 * 0 + _ ≤ _; exact Nat.le_of_eq rfl) (hb hby at_28) (fun _ _ => ⟨rfl, e256, (by decide : 0 + 0 ≤ _), (by decide : 0 + 0 ≤ _)⟩)
  dsimp only [Pt.U, Pt.locs, Pt.cells, Pt.slots] at X260 l260 y260 z260 st260 hQ260
  subst l260 y260 z260
  obtain ⟨rfl, N260q, e260⟩ := hQ260
  have N260 := Fr.app N256 N260q
  obtain ⟨fs, hr, hrun, hended, hW, hsame⟩ := X260.leave (v := some (.int (1 : Int32))) (fun h => by rw [Bd.returns] at h; cases h)
  refine ⟨_, _, pre0 _ ?_, hrun, hended, _, _, rfl, ?_, ⟨_, rfl⟩, hW, hsame.mono (by decide) (by decide)⟩
  · show Steps p.tables e below (s₁.setTop (mkF m 0 #[.val (.int p224), .val (.int p225), .unset, .unset, .unset, .unset] [])) _
    refine XS.iloadN X0.here hx rfl (hb hby at_0) rfl ?_
    show Steps p.tables e below (s₁.setTop (mkF m 1 #[.val (.int p224), .val (.int p225), .unset, .unset, .unset, .unset] [(.int p224)])) _
    refine st229 _ ?_
    show Steps p.tables e below (T229.setTop (mkF m 4 #[.val (.int p224), .val (.int p225), .unset, .unset, .unset, .unset] [(.ref w230)])) _
    refine XS.astoreN X229.here hx rfl (hb hby at_4) rfl rfl (l' := #[.val (.int p224), .val (.int p225), .val (.ref w230), .unset, .unset, .unset]) rfl ?_
    show Steps p.tables e below (T229.setTop (mkF m 5 #[.val (.int p224), .val (.int p225), .val (.ref w230), .unset, .unset, .unset] [])) _
    refine XS.iloadN X229.here hx rfl (hb hby at_5) rfl ?_
    show Steps p.tables e below (T229.setTop (mkF m 6 #[.val (.int p224), .val (.int p225), .val (.ref w230), .unset, .unset, .unset] [(.int p225)])) _
    refine st234 _ ?_
    show Steps p.tables e below (T234.setTop (mkF m 9 #[.val (.int p224), .val (.int p225), .val (.ref w230), .unset, .unset, .unset] [(.ref w235)])) _
    refine XS.astoreN X234.here hx rfl (hb hby at_9) rfl rfl (l' := #[.val (.int p224), .val (.int p225), .val (.ref w230), .val (.ref w235), .unset, .unset]) rfl ?_
    show Steps p.tables e below (T234.setTop (mkF m 10 #[.val (.int p224), .val (.int p225), .val (.ref w230), .val (.ref w235), .unset, .unset] [])) _
    refine XS.aloadN X234.here hx rfl (hb hby at_10) rfl rfl ?_
    show Steps p.tables e below (T234.setTop (mkF m 11 #[.val (.int p224), .val (.int p225), .val (.ref w230), .val (.ref w235), .unset, .unset] [(.ref w230)])) _
    refine XS.aloadN X234.here hx rfl (hb hby at_11) rfl rfl ?_
    show Steps p.tables e below (T234.setTop (mkF m 12 #[.val (.int p224), .val (.int p225), .val (.ref w230), .val (.ref w235), .unset, .unset] [(.ref w235), (.ref w230)])) _
    refine st242.trans ?_
    show Steps p.tables e below (T242.setTop (mkF m 15 #[.val (.int p224), .val (.int p225), .val (.ref w230), .val (.ref w235), .unset, .unset] [(.ref w235)])) _
    refine XS.astore X242.here hx rfl (hb hby at_15) rfl rfl (l' := #[.val (.int p224), .val (.int p225), .val (.ref w230), .val (.ref w235), .val (.ref w235), .unset]) rfl ?_
    show Steps p.tables e below (T242.setTop (mkF m 17 #[.val (.int p224), .val (.int p225), .val (.ref w230), .val (.ref w235), .val (.ref w235), .unset] [])) _
    refine XS.aloadN X242.here hx rfl (hb hby at_17) rfl rfl ?_
    show Steps p.tables e below (T242.setTop (mkF m 18 #[.val (.int p224), .val (.int p225), .val (.ref w230), .val (.ref w235), .val (.ref w235), .unset] [(.ref w230)])) _
    refine st248 _ ?_
    show Steps p.tables e below (T248.setTop (mkF m 21 #[.val (.int p224), .val (.int p225), .val (.ref w230), .val (.ref w235), .val (.ref w235), .unset] [(.int (2 : Int32))])) _
    refine XS.aloadN X248.here hx rfl (hb hby at_21) rfl rfl ?_
    show Steps p.tables e below (T248.setTop (mkF m 22 #[.val (.int p224), .val (.int p225), .val (.ref w230), .val (.ref w235), .val (.ref w235), .unset] [(.ref w235), (.int (2 : Int32))])) _
    refine st253 _ ?_
    show Steps p.tables e below (T253.setTop (mkF m 25 #[.val (.int p224), .val (.int p225), .val (.ref w230), .val (.ref w235), .val (.ref w235), .unset] [(.int (0 : Int32)), (.int (2 : Int32))])) _
    refine st256 _ ?_
    show Steps p.tables e below (T256.setTop (mkF m 28 #[.val (.int p224), .val (.int p225), .val (.ref w230), .val (.ref w235), .val (.ref w235), .unset] [(.int (0 : Int32))])) _
    refine st260 _ ?_
    show Steps p.tables e below (T260.setTop (mkF m 31 #[.val (.int p224), .val (.int p225), .val (.ref w230), .val (.ref w235), .val (.ref w235), .unset] [(.ref w235)])) _
    refine XS.astore X260.here hx rfl (hb hby at_31) rfl rfl (l' := #[.val (.int p224), .val (.int p225), .val (.ref w230), .val (.ref w235), .val (.ref w235), .val (.ref w235)]) rfl ?_
    show Steps p.tables e below (T260.setTop (mkF m 33 #[.val (.int p224), .val (.int p225), .val (.ref w230), .val (.ref w235), .val (.ref w235), .val (.ref w235)] [])) _
    refine XS.aload X260.here hx rfl (hb hby at_33) rfl rfl ?_
    show Steps p.tables e below (T260.setTop (mkF m 35 #[.val (.int p224), .val (.int p225), .val (.ref w230), .val (.ref w235), .val (.ref w235), .val (.ref w235)] [(.ref w235)])) _
    refine XS.aload X260.here hx rfl (hb hby at_35) rfl rfl ?_
    show Steps p.tables e below (T260.setTop (mkF m 37 #[.val (.int p224), .val (.int p225), .val (.ref w230), .val (.ref w235), .val (.ref w235), .val (.ref w235)] [(.ref w235), (.ref w235)])) _
    refine Jvm.RoadKit.acmp (g := (mkF m 37 #[.val (.int p224), .val (.int p225), .val (.ref w230), .val (.ref w235), .val (.ref w235), .val (.ref w235)] [(.ref w235), (.ref w235)])) X260 hx rfl rfl rfl (pc0 := 37) (pc' := 40) (same := true) rfl (hb hby at_37) rfl (decide_eq_true rfl) (by decide) (by decide) ?_
    show Steps p.tables e below (T260.setTop (mkF m 40 #[.val (.int p224), .val (.int p225), .val (.ref w230), .val (.ref w235), .val (.ref w235), .val (.ref w235)] [])) _
    refine XS.iconst X260.here hx rfl (hb hby at_40) ?_
    show Steps p.tables e below (T260.setTop (mkF m 41 #[.val (.int p224), .val (.int p225), .val (.ref w230), .val (.ref w235), .val (.ref w235), .val (.ref w235)] [(.int (1 : Int32))])) _
    refine XS.goto X260.here hx rfl (pc0 := 41) (pc' := 45) rfl (hb hby at_41) (by decide) (by decide) ?_
    show Steps p.tables e below (T260.setTop (mkF m 45 #[.val (.int p224), .val (.int p225), .val (.ref w230), .val (.ref w235), .val (.ref w235), .val (.ref w235)] [(.int (1 : Int32))])) _
    exact retN X260 hx (t := .boolean) Bd.returns (by simp) (hb hby at_45) hr
  · show OQl (some (.int (1 : Int32))) n0 _ T260.heap _
    exact ⟨rfl, N260⟩
theorem d2_28 : decode prog_96_method_5_code 28 = .ok (.aload_n 1, 1) := by decide +kernel
theorem d2_29 : decode prog_96_method_5_code 29 = .ok (.getstatic 3, 3) := by decide +kernel
theorem d2_32 : decode prog_96_method_5_code 32 = .ok (.if_acmp .ne 10, 3) := by decide +kernel
set_option maxRecDepth 65536 in
set_option maxHeartbeats 40000000 in
theorem r2_4 (l : Launch) (Z : State) (a0 : Array Value) (hw : ∀ d ∈ tables_1, d.before a0 Z = true) (a273 : Addr) (a274 : Addr) (w275 : Addr) (w278 : Addr) (w281 : Addr) (h0 : Heap) (n0 : Nat) (Z0 : n0 ≤ h0.size) (H0 : Sta Z h0 "com/example/grepo/grepo/internal/store/Truth" "FALSE" "Lcom/example/grepo/grepo/internal/store/Truth;" (.ref w275)) (H1 : a273 ≠ w275) (H2 : a274 ≠ w275) (H3 : Sta Z h0 "com/example/grepo/grepo/internal/store/Truth" "TRUE" "Lcom/example/grepo/grepo/internal/store/Truth;" (.ref w278)) (H4 : a273 = w278) (H5 : a274 ≠ w278) (H6 : Sta Z h0 "com/example/grepo/grepo/internal/store/Truth" "UNKNOWN" "Lcom/example/grepo/grepo/internal/store/Truth;" (.ref w281)) :
    OMet l Z (⟨"com/example/grepo/grepo/internal/store/Truth", "and", "(Lcom/example/grepo/grepo/internal/store/Truth;)Lcom/example/grepo/grepo/internal/store/Truth;"⟩ : MethodName) prog_96_method_5_code 3 (some (.object "com/example/grepo/grepo/internal/store/Truth")) [] ({ frames := 0, cells := 0, slots := 0, locals := 0 } : Room) h0 #[(.ref a273), (.ref a274)] (OQp (some (.ref w281)) h0 n0) := by
  refine MetFree.of_bodySF (plainFor_of_name pn_com_example_grepo_grepo_internal_store_Truth) hisR ?_
  intro p e s m args below meth c s₁ Bd hml0 hP hK
  obtain ⟨rfl, hZ, hh⟩ := hP
  have hx := Bd.exec
  have hby := Bd.bytes
  have hml : c.maxLocals = 3 := hml0
  have hown : s.vm.findClass "com/example/grepo/grepo/internal/store/Truth" = some m.cls := findClass_of_methodNamed Bd.named
  have hnm := (name_of_methodNamed Bd.named Bd.method).1
  have X0 : Stand p l e ({ frames := 0, cells := 0, slots := 0, locals := 0 } : Room) s m #[(.ref a273), (.ref a274)] below meth c s₁ [] 0 0 := Stand.of_body Bd
  have e0 : s₁.heap = h0 := by rw [← hh, Bd.state]; rfl
  have N0 := Fr.nil n0
  have pre0 : ∀ t, Steps p.tables e below (s₁.setTop (mkF m 0 #[.val (.ref a273), .val (.ref a274), .unset] [])) t → Steps p.tables e below (s₁.setTop (entryFrame m #[(.ref a273), (.ref a274)] 3)) t := fun t k => castTop (ef_2_vv m a273 a274) k
  obtain ⟨T276, X276, e276, st276⟩ := getS2 X0 hx hZ hown (host := "") (Or.inl (hw _ (List.mem_of_getElem? (i := 13) rfl))) Via.refl e0 H0 (g := (mkF m 1 #[.val (.ref a273), .val (.ref a274), .unset] [(.ref a273)])) rfl (hb hby d2_1)
  obtain ⟨T277, X277, e277, st277⟩ := getS2 X276 hx hZ hown (host := "") (Or.inl (hw _ (List.mem_of_getElem? (i := 13) rfl))) Via.refl e276 H0 (g := (mkF m 8 #[.val (.ref a273), .val (.ref a274), .unset] [(.ref a274)])) rfl (hb hby d2_8)
  obtain ⟨T279, X279, e279, st279⟩ := getS2 X277 hx hZ hown (host := "") (Or.inl (hw _ (List.mem_of_getElem? (i := 25) rfl))) Via.refl e277 H3 (g := (mkF m 22 #[.val (.ref a273), .val (.ref a274), .unset] [(.ref a273)])) rfl (hb hby d2_22)
  obtain ⟨T280, X280, e280, st280⟩ := getS2 X279 hx hZ hown (host := "") (Or.inl (hw _ (List.mem_of_getElem? (i := 25) rfl))) Via.refl e279 H3 (g := (mkF m 29 #[.val (.ref a273), .val (.ref a274), .unset] [(.ref a274)])) rfl (hb hby d2_29)
  obtain ⟨T282, X282, e282, st282⟩ := getS2 X280 hx hZ hown (host := "") (Or.inl (hw _ (List.mem_of_getElem? (i := 26) rfl))) Via.refl e280 H6 (g := (mkF m 42 #[.val (.ref a273), .val (.ref a274), .unset] [])) rfl (hb hby d2_42)
  obtain ⟨fs, hr, hrun, hended, hW, hsame⟩ := X282.leave (v := some (.ref w281)) (fun h => by rw [Bd.returns] at h; cases h)
  refine ⟨_, _, pre0 _ ?_, hrun, hended, _, _, rfl, ?_, ⟨_, rfl⟩, hW, hsame.mono (by decide) (by decide)⟩
  · show Steps p.tables e below (s₁.setTop (mkF m 0 #[.val (.ref a273), .val (.ref a274), .unset] [])) _
    refine XS.aloadN X0.here hx rfl (hb hby d2_0) rfl rfl ?_
    show Steps p.tables e below (s₁.setTop (mkF m 1 #[.val (.ref a273), .val (.ref a274), .unset] [(.ref a273)])) _
    refine st276 _ ?_
    show Steps p.tables e below (T276.setTop (mkF m 4 #[.val (.ref a273), .val (.ref a274), .unset] [(.ref w275), (.ref a273)])) _
    refine Jvm.RoadKit.acmp (g := (mkF m 4 #[.val (.ref a273), .val (.ref a274), .unset] [(.ref w275), (.ref a273)])) X276 hx rfl rfl rfl (pc0 := 4) (pc' := 7) (same := false) rfl (hb hby d2_4) rfl (decide_eq_false fun q => H1 (Value.ref.inj q)) (by decide) (by decide) ?_
    show Steps p.tables e below (T276.setTop (mkF m 7 #[.val (.ref a273), .val (.ref a274), .unset] [])) _
    refine XS.aloadN X276.here hx rfl (hb hby d2_7) rfl rfl ?_
    show Steps p.tables e below (T276.setTop (mkF m 8 #[.val (.ref a273), .val (.ref a274), .unset] [(.ref a274)])) _
    refine st277 _ ?_
    show Steps p.tables e below (T277.setTop (mkF m 11 #[.val (.ref a273), .val (.ref a274), .unset] [(.ref w275), (.ref a274)])) _
    refine Jvm.RoadKit.acmp (g := (mkF m 11 #[.val (.ref a273), .val (.ref a274), .unset] [(.ref w275), (.ref a274)])) X277 hx rfl rfl rfl (pc0 := 11) (pc' := 21) (same := false) rfl (hb hby d2_11) rfl (decide_eq_false fun q => H2 (Value.ref.inj q)) (by decide) (by decide) ?_
    show Steps p.tables e below (T277.setTop (mkF m 21 #[.val (.ref a273), .val (.ref a274), .unset] [])) _
    refine XS.aloadN X277.here hx rfl (hb hby d2_21) rfl rfl ?_
    show Steps p.tables e below (T277.setTop (mkF m 22 #[.val (.ref a273), .val (.ref a274), .unset] [(.ref a273)])) _
    refine st279 _ ?_
    show Steps p.tables e below (T279.setTop (mkF m 25 #[.val (.ref a273), .val (.ref a274), .unset] [(.ref w278), (.ref a273)])) _
    refine Jvm.RoadKit.acmp (g := (mkF m 25 #[.val (.ref a273), .val (.ref a274), .unset] [(.ref w278), (.ref a273)])) X279 hx rfl rfl rfl (pc0 := 25) (pc' := 28) (same := true) rfl (hb hby d2_25) rfl (decide_eq_true (congrArg Value.ref H4)) (by decide) (by decide) ?_
    show Steps p.tables e below (T279.setTop (mkF m 28 #[.val (.ref a273), .val (.ref a274), .unset] [])) _
    refine XS.aloadN X279.here hx rfl (hb hby d2_28) rfl rfl ?_
    show Steps p.tables e below (T279.setTop (mkF m 29 #[.val (.ref a273), .val (.ref a274), .unset] [(.ref a274)])) _
    refine st280 _ ?_
    show Steps p.tables e below (T280.setTop (mkF m 32 #[.val (.ref a273), .val (.ref a274), .unset] [(.ref w278), (.ref a274)])) _
    refine Jvm.RoadKit.acmp (g := (mkF m 32 #[.val (.ref a273), .val (.ref a274), .unset] [(.ref w278), (.ref a274)])) X280 hx rfl rfl rfl (pc0 := 32) (pc' := 42) (same := false) rfl (hb hby d2_32) rfl (decide_eq_false fun q => H5 (Value.ref.inj q)) (by decide) (by decide) ?_
    show Steps p.tables e below (T280.setTop (mkF m 42 #[.val (.ref a273), .val (.ref a274), .unset] [])) _
    refine st282 _ ?_
    show Steps p.tables e below (T282.setTop (mkF m 45 #[.val (.ref a273), .val (.ref a274), .unset] [(.ref w281)])) _
    refine XS.astoreN X282.here hx rfl (hb hby d2_45) rfl rfl (l' := #[.val (.ref a273), .val (.ref a274), .val (.ref w281)]) rfl ?_
    show Steps p.tables e below (T282.setTop (mkF m 46 #[.val (.ref a273), .val (.ref a274), .val (.ref w281)] [])) _
    refine XS.aloadN X282.here hx rfl (hb hby d2_46) rfl rfl ?_
    show Steps p.tables e below (T282.setTop (mkF m 47 #[.val (.ref a273), .val (.ref a274), .val (.ref w281)] [(.ref w281)])) _
    jvm_step X282.here [X282.here.top, hx, (hb hby d2_47), X282.method', Bd.returns, Value.isRef, FieldType.isReference]
    first | (intro acts; rw [hr _ acts rfl rfl rfl]) | rw [hr _ _ rfl rfl rfl]
    exact Steps.refl _
  · show OQp (some (.ref w281)) h0 n0 _ T282.heap _
    rw [e282]
    exact ⟨rfl, N0, rfl⟩
set_option maxRecDepth 65536 in
set_option maxHeartbeats 40000000 in
theorem r0_8 (l : Launch) (Z : State) (a0 : Array Value) (hw : ∀ d ∈ tables_1, d.before a0 Z = true) (p261 : Int32) (p262 : Int32) (w267 : Addr) (w272 : Addr) (w284 : Addr) (h0 : Heap) (n0 : Nat) (Z0 : n0 ≤ h0.size) (H0 : ¬ (((p261 &&& (2147483647 : Int32)) % (3 : Int32)) = (0 : Int32))) (H1 : ¬ (((p261 &&& (2147483647 : Int32)) % (3 : Int32)) = (1 : Int32))) (H2 : Sta Z h0 "com/example/grepo/grepo/internal/store/Truth" "TRUE" "Lcom/example/grepo/grepo/internal/store/Truth;" (.ref w267)) (H3 : ¬ (((p262 &&& (2147483647 : Int32)) % (3 : Int32)) = (0 : Int32))) (H4 : ((p262 &&& (2147483647 : Int32)) % (3 : Int32)) = (1 : Int32)) (H5 : Sta Z h0 "com/example/grepo/grepo/internal/store/Truth" "UNKNOWN" "Lcom/example/grepo/grepo/internal/store/Truth;" (.ref w272)) (H6 : Sta Z h0 "com/example/grepo/grepo/internal/store/Truth" "FALSE" "Lcom/example/grepo/grepo/internal/store/Truth;" (.ref w284)) (H7 : w267 ≠ w284) (H8 : w272 ≠ w284) (H9 : w272 ≠ w267) (H10 : Exa Z h0 w267 "com/example/grepo/grepo/internal/store/Truth") (H11 : w267 ≠ w272) :
    OMet l Z x code maxLocals ret tables_1 room_1 h0 #[(.int p261), (.int p262)] (OQl (some (.int (1 : Int32))) n0) := by
  refine MetFree.of_bodySF (plainFor_of_name pn_com_example_grepo_grepo_internal_store_TruthAndPinLaw) hisR ?_
  intro p e s m args below meth c s₁ Bd hml0 hP hK
  obtain ⟨rfl, hZ, hh⟩ := hP
  have hx := Bd.exec
  have hby := Bd.bytes
  have hml : c.maxLocals = 6 := hml0
  have hown : s.vm.findClass "com/example/grepo/grepo/internal/store/TruthAndPinLaw" = some m.cls := findClass_of_methodNamed Bd.named
  have hnm := (name_of_methodNamed Bd.named Bd.method).1
  have X0 : Stand p l e room_1 s m #[(.int p261), (.int p262)] below meth c s₁ [] 0 0 := Stand.of_body Bd
  have e0 : s₁.heap = h0 := by rw [← hh, Bd.state]; rfl
  have N0 := Fr.nil n0
  have pre0 : ∀ t, Steps p.tables e below (s₁.setTop (mkF m 0 #[.val (.int p261), .val (.int p262), .unset, .unset, .unset, .unset] [])) t → Steps p.tables e below (s₁.setTop (entryFrame m #[(.int p261), (.int p262)] maxLocals)) t := fun t k => castTop (ef_0_vv m p261 p262) k
  obtain ⟨_, _, ⟨T266, L266, k266, n266⟩, -, X266, ⟨Lc266, hQ266, l266, y266, z266⟩, st266⟩ := Jvm.LawKit.callS X0 hx (y := (⟨"com/example/grepo/grepo/internal/store/TruthAndPinLaw", "pick", "(I)Lcom/example/grepo/grepo/internal/store/Truth;"⟩ : MethodName)) hown (mvT hZ (hw _ (List.mem_of_getElem? (i := 0) rfl))) (mvT hZ (hw _ (List.mem_of_getElem? (i := 1) rfl))) (mvT hZ (hw _ (List.mem_of_getElem? (i := 2) rfl))) (mvT hZ (hw _ (List.mem_of_getElem? (i := 3) rfl))) (by decide) (backOf (W := 0) (r1_3 l Z a0 hw p261 w267 h0 n0 Z0 H0 H1 H2) hZ (hw _ (List.mem_of_getElem? (i := 3) rfl)) (hw _ (List.mem_of_getElem? (i := 2) rfl)) (by decide) (by decide)) (g := (mkF m 1 #[.val (.int p261), .val (.int p262), .unset, .unset, .unset, .unset] [(.int p261)])) rfl (by rw [hml]; rfl) (argsL := [(.int p261)]) (rest := []) (lenOf pd_0 rfl) rfl (by show 2 * 0 + _ ≤ _; exact Nat.le_of_eq rfl) (hb hby at_1) (fun _ _ => ⟨rfl, e0, (by decide : 0 + 0 ≤ _), (by decide : 0 + 0 ≤ _)⟩)
  dsimp only [Pt.U, Pt.locs, Pt.cells, Pt.slots] at X266 l266 y266 z266 st266 hQ266
  subst l266 y266 z266
  obtain ⟨rfl, N266q, e266⟩ := hQ266
  have N266 := Fr.app N0 N266q
  obtain ⟨_, _, ⟨T271, L271, k271, n271⟩, -, X271, ⟨Lc271, hQ271, l271, y271, z271⟩, st271⟩ := Jvm.LawKit.callS X266 hx (y := (⟨"com/example/grepo/grepo/internal/store/TruthAndPinLaw", "pick", "(I)Lcom/example/grepo/grepo/internal/store/Truth;"⟩ : MethodName)) hown (mvT hZ (hw _ (List.mem_of_getElem? (i := 0) rfl))) (mvT hZ (hw _ (List.mem_of_getElem? (i := 1) rfl))) (mvT hZ (hw _ (List.mem_of_getElem? (i := 2) rfl))) (mvT hZ (hw _ (List.mem_of_getElem? (i := 3) rfl))) (by decide) (backOf (W := 0) (r1_2 l Z a0 hw p262 w272 h0 n0 Z0 H3 H4 H5) hZ (hw _ (List.mem_of_getElem? (i := 3) rfl)) (hw _ (List.mem_of_getElem? (i := 2) rfl)) (by decide) (by decide)) (g := (mkF m 6 #[.val (.int p261), .val (.int p262), .val (.ref w267), .unset, .unset, .unset] [(.int p262)])) rfl (by rw [hml]; rfl) (argsL := [(.int p262)]) (rest := []) (lenOf pd_0 rfl) rfl (by show 2 * 0 + _ ≤ _; exact Nat.le_of_eq rfl) (hb hby at_6) (fun _ _ => ⟨rfl, e266, (by decide : 0 + 0 ≤ _), (by decide : 0 + 0 ≤ _)⟩)
  dsimp only [Pt.U, Pt.locs, Pt.cells, Pt.slots] at X271 l271 y271 z271 st271 hQ271
  subst l271 y271 z271
  obtain ⟨rfl, N271q, e271⟩ := hQ271
  have N271 := Fr.app N266 N271q
  obtain ⟨cq283, kq283, q283a, q283b, q283c⟩ := isOf hZ e271 H10
  obtain ⟨_, _, ⟨T283, L283, k283, n283⟩, -, X283, ⟨Lc283, hQ283, l283, y283, z283⟩, st283⟩ := X271.virtualBack hx (y := (⟨"com/example/grepo/grepo/internal/store/Truth", "and", "(Lcom/example/grepo/grepo/internal/store/Truth;)Lcom/example/grepo/grepo/internal/store/Truth;"⟩ : MethodName)) (z := (⟨"com/example/grepo/grepo/internal/store/Truth", "and", "(Lcom/example/grepo/grepo/internal/store/Truth;)Lcom/example/grepo/grepo/internal/store/Truth;"⟩ : MethodName)) hown (mvT hZ (hw _ (List.mem_of_getElem? (i := 8) rfl))) (mvT hZ (hw _ (List.mem_of_getElem? (i := 9) rfl))) (notFace_of_selects (args := #[]) (mvT hZ (hw _ (List.mem_of_getElem? (i := 11) rfl)))) (mvT hZ (hw _ (List.mem_of_getElem? (i := 11) rfl))) (mvT hZ (hw _ (List.mem_of_getElem? (i := 10) rfl))) (by decide) (backOf (W := 0) (r2_4 l Z a0 hw w267 w272 w284 w267 w272 h0 n0 Z0 H6 H7 H8 H2 rfl H9 H5) hZ (hw _ (List.mem_of_getElem? (i := 12) rfl)) (hw _ (List.mem_of_getElem? (i := 6) rfl)) (by decide) (by decide)) q283a q283c (g := (mkF m 12 #[.val (.int p261), .val (.int p262), .val (.ref w267), .val (.ref w272), .unset, .unset] [(.ref w272), (.ref w267)])) rfl (by rw [hml]; rfl) (Steps.refl _) (argsL := [(.ref w272)]) (rest := []) (lenOf pd_1 rfl) rfl (by show 2 * 0 + _ ≤ _; exact Nat.le_of_eq rfl) (hb hby at_12) (fun _ _ => ⟨rfl, e271, (by decide : 0 + 0 ≤ _), (by decide : 0 + 0 ≤ _)⟩)
  dsimp only [Pt.U, Pt.locs, Pt.cells, Pt.slots] at X283 l283 y283 z283 st283 hQ283
  subst l283 y283 z283
  obtain ⟨rfl, N283q, e283⟩ := hQ283
  have N283 := Fr.app N271 N283q
  obtain ⟨_, _, ⟨T290, L290, k290, n290⟩, -, X290, ⟨Lc290, hQ290, l290, y290, z290⟩, st290⟩ := Jvm.LawKit.callS X283 hx (y := (⟨"com/example/grepo/grepo/internal/store/TruthAndPinLaw", "rank", "(Lcom/example/grepo/grepo/internal/store/Truth;)I"⟩ : MethodName)) hown (mvT hZ (hw _ (List.mem_of_getElem? (i := 14) rfl))) (mvT hZ (hw _ (List.mem_of_getElem? (i := 15) rfl))) (mvT hZ (hw _ (List.mem_of_getElem? (i := 2) rfl))) (mvT hZ (hw _ (List.mem_of_getElem? (i := 16) rfl))) (by decide) (backOf (W := 0) (r3_3 l Z a0 hw w267 w284 w272 h0 n0 Z0 H6 H7 H5 H11) hZ (hw _ (List.mem_of_getElem? (i := 16) rfl)) (hw _ (List.mem_of_getElem? (i := 2) rfl)) (by decide) (by decide)) (g := (mkF m 18 #[.val (.int p261), .val (.int p262), .val (.ref w267), .val (.ref w272), .val (.ref w272), .unset] [(.ref w267)])) rfl (by rw [hml]; rfl) (argsL := [(.ref w267)]) (rest := []) (lenOf pd_2 rfl) rfl (by show 2 * 0 + _ ≤ _; exact Nat.le_of_eq rfl) (hb hby at_18) (fun _ _ => ⟨rfl, e283, (by decide : 0 + 0 ≤ _), (by decide : 0 + 0 ≤ _)⟩)
  dsimp only [Pt.U, Pt.locs, Pt.cells, Pt.slots] at X290 l290 y290 z290 st290 hQ290
  subst l290 y290 z290
  obtain ⟨rfl, N290q, e290⟩ := hQ290
  have N290 := Fr.app N283 N290q
  obtain ⟨_, _, ⟨T296, L296, k296, n296⟩, -, X296, ⟨Lc296, hQ296, l296, y296, z296⟩, st296⟩ := Jvm.LawKit.callS X290 hx (y := (⟨"com/example/grepo/grepo/internal/store/TruthAndPinLaw", "rank", "(Lcom/example/grepo/grepo/internal/store/Truth;)I"⟩ : MethodName)) hown (mvT hZ (hw _ (List.mem_of_getElem? (i := 14) rfl))) (mvT hZ (hw _ (List.mem_of_getElem? (i := 15) rfl))) (mvT hZ (hw _ (List.mem_of_getElem? (i := 2) rfl))) (mvT hZ (hw _ (List.mem_of_getElem? (i := 16) rfl))) (by decide) (backOf (W := 1) (r3_2 l Z a0 hw w272 w284 w272 h0 n0 Z0 H6 H8 H5 rfl) hZ (hw _ (List.mem_of_getElem? (i := 16) rfl)) (hw _ (List.mem_of_getElem? (i := 2) rfl)) (by decide) (by decide)) (g := (mkF m 22 #[.val (.int p261), .val (.int p262), .val (.ref w267), .val (.ref w272), .val (.ref w272), .unset] [(.ref w272), (.int (2 : Int32))])) rfl (by rw [hml]; rfl) (argsL := [(.ref w272)]) (rest := [(.int (2 : Int32))]) (lenOf pd_2 rfl) rfl (by show 2 * 0 + _ ≤ _; exact Nat.le_of_eq rfl) (hb hby at_22) (fun _ _ => ⟨rfl, e290, (by decide : 0 + 0 ≤ _), (by decide : 0 + 0 ≤ _)⟩)
  dsimp only [Pt.U, Pt.locs, Pt.cells, Pt.slots] at X296 l296 y296 z296 st296 hQ296
  subst l296 y296 z296
  obtain ⟨rfl, N296q, e296⟩ := hQ296
  have N296 := Fr.app N290 N296q
  obtain ⟨_, _, ⟨T299, L299, k299, n299⟩, -, X299, ⟨Lc299, hQ299, l299, y299, z299⟩, st299⟩ := Jvm.LawKit.callS X296 hx (y := (⟨"java/lang/Math", "min", "(II)I"⟩ : MethodName)) hown (mvT hZ (hw _ (List.mem_of_getElem? (i := 17) rfl))) (mvT hZ (hw _ (List.mem_of_getElem? (i := 18) rfl))) (mvT hZ (hw _ (List.mem_of_getElem? (i := 19) rfl))) (mvT hZ (hw _ (List.mem_of_getElem? (i := 20) rfl))) (by decide) (backOf (W := 0) (r4_2 l Z a0 hw (2 : Int32) (1 : Int32) h0 n0 Z0 (by decide)) hZ (hw _ (List.mem_of_getElem? (i := 20) rfl)) (hw _ (List.mem_of_getElem? (i := 19) rfl)) (by decide) (by decide)) (g := (mkF m 25 #[.val (.int p261), .val (.int p262), .val (.ref w267), .val (.ref w272), .val (.ref w272), .unset] [(.int (1 : Int32)), (.int (2 : Int32))])) rfl (by rw [hml]; rfl) (argsL := [(.int (2 : Int32)), (.int (1 : Int32))]) (rest := []) (lenOf pd_3 rfl) rfl (by show 2 * 0 + _ ≤ _; exact Nat.le_of_eq rfl) (hb hby at_25) (fun _ _ => ⟨rfl, e296, (by decide : 0 + 0 ≤ _), (by decide : 0 + 0 ≤ _)⟩)
  dsimp only [Pt.U, Pt.locs, Pt.cells, Pt.slots] at X299 l299 y299 z299 st299 hQ299
  subst l299 y299 z299
  obtain ⟨rfl, N299q, e299⟩ := hQ299
  have N299 := Fr.app N296 N299q
  obtain ⟨_, _, ⟨T303, L303, k303, n303⟩, -, X303, ⟨Lc303, hQ303, l303, y303, z303⟩, st303⟩ := Jvm.LawKit.callS X299 hx (y := (⟨"com/example/grepo/grepo/internal/store/TruthAndPinLaw", "pick", "(I)Lcom/example/grepo/grepo/internal/store/Truth;"⟩ : MethodName)) hown (mvT hZ (hw _ (List.mem_of_getElem? (i := 0) rfl))) (mvT hZ (hw _ (List.mem_of_getElem? (i := 1) rfl))) (mvT hZ (hw _ (List.mem_of_getElem? (i := 2) rfl))) (mvT hZ (hw _ (List.mem_of_getElem? (i := 3) rfl))) (by decide) (backOf (W := 0) (r1_2 l Z a0 hw (1 : Int32) w272 h0 n0 Z0 (by decide) (by decide) H5) hZ (hw _ (List.mem_of_getElem? (i := 3) rfl)) (hw _ (List.mem_of_getElem? (i := 2) rfl)) (by decide) (by decide)) (g := (mkF m 28 #[.val (.int p261), .val (.int p262), .val (.ref w267), .val (.ref w272), .val (.ref w272), .unset] [(.int (1 : Int32))])) rfl (by rw [hml]; rfl) (argsL := [(.int (1 : Int32))]) (rest := []) (lenOf pd_0 rfl) rfl (by show 2 * 0 + _ ≤ _; exact Nat.le_of_eq rfl) (hb hby at_28) (fun _ _ => ⟨rfl, e299, (by decide : 0 + 0 ≤ _), (by decide : 0 + 0 ≤ _)⟩)
  dsimp only [Pt.U, Pt.locs, Pt.cells, Pt.slots] at X303 l303 y303 z303 st303 hQ303
  subst l303 y303 z303
  obtain ⟨rfl, N303q, e303⟩ := hQ303
  have N303 := Fr.app N299 N303q
  obtain ⟨fs, hr, hrun, hended, hW, hsame⟩ := X303.leave (v := some (.int (1 : Int32))) (fun h => by rw [Bd.returns] at h; cases h)
  refine ⟨_, _, pre0 _ ?_, hrun, hended, _, _, rfl, ?_, ⟨_, rfl⟩, hW, hsame.mono (by decide) (by decide)⟩
  · show Steps p.tables e below (s₁.setTop (mkF m 0 #[.val (.int p261), .val (.int p262), .unset, .unset, .unset, .unset] [])) _
    refine XS.iloadN X0.here hx rfl (hb hby at_0) rfl ?_
    show Steps p.tables e below (s₁.setTop (mkF m 1 #[.val (.int p261), .val (.int p262), .unset, .unset, .unset, .unset] [(.int p261)])) _
    refine st266 _ ?_
    show Steps p.tables e below (T266.setTop (mkF m 4 #[.val (.int p261), .val (.int p262), .unset, .unset, .unset, .unset] [(.ref w267)])) _
    refine XS.astoreN X266.here hx rfl (hb hby at_4) rfl rfl (l' := #[.val (.int p261), .val (.int p262), .val (.ref w267), .unset, .unset, .unset]) rfl ?_
    show Steps p.tables e below (T266.setTop (mkF m 5 #[.val (.int p261), .val (.int p262), .val (.ref w267), .unset, .unset, .unset] [])) _
    refine XS.iloadN X266.here hx rfl (hb hby at_5) rfl ?_
    show Steps p.tables e below (T266.setTop (mkF m 6 #[.val (.int p261), .val (.int p262), .val (.ref w267), .unset, .unset, .unset] [(.int p262)])) _
    refine st271 _ ?_
    show Steps p.tables e below (T271.setTop (mkF m 9 #[.val (.int p261), .val (.int p262), .val (.ref w267), .unset, .unset, .unset] [(.ref w272)])) _
    refine XS.astoreN X271.here hx rfl (hb hby at_9) rfl rfl (l' := #[.val (.int p261), .val (.int p262), .val (.ref w267), .val (.ref w272), .unset, .unset]) rfl ?_
    show Steps p.tables e below (T271.setTop (mkF m 10 #[.val (.int p261), .val (.int p262), .val (.ref w267), .val (.ref w272), .unset, .unset] [])) _
    refine XS.aloadN X271.here hx rfl (hb hby at_10) rfl rfl ?_
    show Steps p.tables e below (T271.setTop (mkF m 11 #[.val (.int p261), .val (.int p262), .val (.ref w267), .val (.ref w272), .unset, .unset] [(.ref w267)])) _
    refine XS.aloadN X271.here hx rfl (hb hby at_11) rfl rfl ?_
    show Steps p.tables e below (T271.setTop (mkF m 12 #[.val (.int p261), .val (.int p262), .val (.ref w267), .val (.ref w272), .unset, .unset] [(.ref w272), (.ref w267)])) _
    refine st283.trans ?_
    show Steps p.tables e below (T283.setTop (mkF m 15 #[.val (.int p261), .val (.int p262), .val (.ref w267), .val (.ref w272), .unset, .unset] [(.ref w272)])) _
    refine XS.astore X283.here hx rfl (hb hby at_15) rfl rfl (l' := #[.val (.int p261), .val (.int p262), .val (.ref w267), .val (.ref w272), .val (.ref w272), .unset]) rfl ?_
    show Steps p.tables e below (T283.setTop (mkF m 17 #[.val (.int p261), .val (.int p262), .val (.ref w267), .val (.ref w272), .val (.ref w272), .unset] [])) _
    refine XS.aloadN X283.here hx rfl (hb hby at_17) rfl rfl ?_
    show Steps p.tables e below (T283.setTop (mkF m 18 #[.val (.int p261), .val (.int p262), .val (.ref w267), .val (.ref w272), .val (.ref w272), .unset] [(.ref w267)])) _
    refine st290 _ ?_
    show Steps p.tables e below (T290.setTop (mkF m 21 #[.val (.int p261), .val (.int p262), .val (.ref w267), .val (.ref w272), .val (.ref w272), .unset] [(.int (2 : Int32))])) _
    refine XS.aloadN X290.here hx rfl (hb hby at_21) rfl rfl ?_
    show Steps p.tables e below (T290.setTop (mkF m 22 #[.val (.int p261), .val (.int p262), .val (.ref w267), .val (.ref w272), .val (.ref w272), .unset] [(.ref w272), (.int (2 : Int32))])) _
    refine st296 _ ?_
    show Steps p.tables e below (T296.setTop (mkF m 25 #[.val (.int p261), .val (.int p262), .val (.ref w267), .val (.ref w272), .val (.ref w272), .unset] [(.int (1 : Int32)), (.int (2 : Int32))])) _
    refine st299 _ ?_
    show Steps p.tables e below (T299.setTop (mkF m 28 #[.val (.int p261), .val (.int p262), .val (.ref w267), .val (.ref w272), .val (.ref w272), .unset] [(.int (1 : Int32))])) _
    refine st303 _ ?_
    show Steps p.tables e below (T303.setTop (mkF m 31 #[.val (.int p261), .val (.int p262), .val (.ref w267), .val (.ref w272), .val (.ref w272), .unset] [(.ref w272)])) _
    refine XS.astore X303.here hx rfl (hb hby at_31) rfl rfl (l' := #[.val (.int p261), .val (.int p262), .val (.ref w267), .val (.ref w272), .val (.ref w272), .val (.ref w272)]) rfl ?_
    show Steps p.tables e below (T303.setTop (mkF m 33 #[.val (.int p261), .val (.int p262), .val (.ref w267), .val (.ref w272), .val (.ref w272), .val (.ref w272)] [])) _
    refine XS.aload X303.here hx rfl (hb hby at_33) rfl rfl ?_
    show Steps p.tables e below (T303.setTop (mkF m 35 #[.val (.int p261), .val (.int p262), .val (.ref w267), .val (.ref w272), .val (.ref w272), .val (.ref w272)] [(.ref w272)])) _
    refine XS.aload X303.here hx rfl (hb hby at_35) rfl rfl ?_
    show Steps p.tables e below (T303.setTop (mkF m 37 #[.val (.int p261), .val (.int p262), .val (.ref w267), .val (.ref w272), .val (.ref w272), .val (.ref w272)] [(.ref w272), (.ref w272)])) _
    refine Jvm.RoadKit.acmp (g := (mkF m 37 #[.val (.int p261), .val (.int p262), .val (.ref w267), .val (.ref w272), .val (.ref w272), .val (.ref w272)] [(.ref w272), (.ref w272)])) X303 hx rfl rfl rfl (pc0 := 37) (pc' := 40) (same := true) rfl (hb hby at_37) rfl (decide_eq_true rfl) (by decide) (by decide) ?_
    show Steps p.tables e below (T303.setTop (mkF m 40 #[.val (.int p261), .val (.int p262), .val (.ref w267), .val (.ref w272), .val (.ref w272), .val (.ref w272)] [])) _
    refine XS.iconst X303.here hx rfl (hb hby at_40) ?_
    show Steps p.tables e below (T303.setTop (mkF m 41 #[.val (.int p261), .val (.int p262), .val (.ref w267), .val (.ref w272), .val (.ref w272), .val (.ref w272)] [(.int (1 : Int32))])) _
    refine XS.goto X303.here hx rfl (pc0 := 41) (pc' := 45) rfl (hb hby at_41) (by decide) (by decide) ?_
    show Steps p.tables e below (T303.setTop (mkF m 45 #[.val (.int p261), .val (.int p262), .val (.ref w267), .val (.ref w272), .val (.ref w272), .val (.ref w272)] [(.int (1 : Int32))])) _
    exact retN X303 hx (t := .boolean) Bd.returns (by simp) (hb hby at_45) hr
  · show OQl (some (.int (1 : Int32))) n0 _ T303.heap _
    exact ⟨rfl, N303⟩
theorem d2_35 : decode prog_96_method_5_code 35 = .ok (.getstatic 3, 3) := by decide +kernel
theorem d2_38 : decode prog_96_method_5_code 38 = .ok (.astore_n 2, 1) := by decide +kernel
theorem d2_39 : decode prog_96_method_5_code 39 = .ok (.goto 7, 3) := by decide +kernel
set_option maxRecDepth 65536 in
set_option maxHeartbeats 40000000 in
theorem r2_5 (l : Launch) (Z : State) (a0 : Array Value) (hw : ∀ d ∈ tables_1, d.before a0 Z = true) (a315 : Addr) (a316 : Addr) (w317 : Addr) (w320 : Addr) (h0 : Heap) (n0 : Nat) (Z0 : n0 ≤ h0.size) (H0 : Sta Z h0 "com/example/grepo/grepo/internal/store/Truth" "FALSE" "Lcom/example/grepo/grepo/internal/store/Truth;" (.ref w317)) (H1 : a315 ≠ w317) (H2 : a316 ≠ w317) (H3 : Sta Z h0 "com/example/grepo/grepo/internal/store/Truth" "TRUE" "Lcom/example/grepo/grepo/internal/store/Truth;" (.ref w320)) (H4 : a315 = w320) (H5 : a316 = w320) :
    OMet l Z (⟨"com/example/grepo/grepo/internal/store/Truth", "and", "(Lcom/example/grepo/grepo/internal/store/Truth;)Lcom/example/grepo/grepo/internal/store/Truth;"⟩ : MethodName) prog_96_method_5_code 3 (some (.object "com/example/grepo/grepo/internal/store/Truth")) [] ({ frames := 0, cells := 0, slots := 0, locals := 0 } : Room) h0 #[(.ref a315), (.ref a316)] (OQp (some (.ref w320)) h0 n0) := by
  refine MetFree.of_bodySF (plainFor_of_name pn_com_example_grepo_grepo_internal_store_Truth) hisR ?_
  intro p e s m args below meth c s₁ Bd hml0 hP hK
  obtain ⟨rfl, hZ, hh⟩ := hP
  have hx := Bd.exec
  have hby := Bd.bytes
  have hml : c.maxLocals = 3 := hml0
  have hown : s.vm.findClass "com/example/grepo/grepo/internal/store/Truth" = some m.cls := findClass_of_methodNamed Bd.named
  have hnm := (name_of_methodNamed Bd.named Bd.method).1
  have X0 : Stand p l e ({ frames := 0, cells := 0, slots := 0, locals := 0 } : Room) s m #[(.ref a315), (.ref a316)] below meth c s₁ [] 0 0 := Stand.of_body Bd
  have e0 : s₁.heap = h0 := by rw [← hh, Bd.state]; rfl
  have N0 := Fr.nil n0
  have pre0 : ∀ t, Steps p.tables e below (s₁.setTop (mkF m 0 #[.val (.ref a315), .val (.ref a316), .unset] [])) t → Steps p.tables e below (s₁.setTop (entryFrame m #[(.ref a315), (.ref a316)] 3)) t := fun t k => castTop (ef_2_vv m a315 a316) k
  obtain ⟨T318, X318, e318, st318⟩ := getS2 X0 hx hZ hown (host := "") (Or.inl (hw _ (List.mem_of_getElem? (i := 13) rfl))) Via.refl e0 H0 (g := (mkF m 1 #[.val (.ref a315), .val (.ref a316), .unset] [(.ref a315)])) rfl (hb hby d2_1)
  obtain ⟨T319, X319, e319, st319⟩ := getS2 X318 hx hZ hown (host := "") (Or.inl (hw _ (List.mem_of_getElem? (i := 13) rfl))) Via.refl e318 H0 (g := (mkF m 8 #[.val (.ref a315), .val (.ref a316), .unset] [(.ref a316)])) rfl (hb hby d2_8)
  obtain ⟨T321, X321, e321, st321⟩ := getS2 X319 hx hZ hown (host := "") (Or.inl (hw _ (List.mem_of_getElem? (i := 25) rfl))) Via.refl e319 H3 (g := (mkF m 22 #[.val (.ref a315), .val (.ref a316), .unset] [(.ref a315)])) rfl (hb hby d2_22)
  obtain ⟨T322, X322, e322, st322⟩ := getS2 X321 hx hZ hown (host := "") (Or.inl (hw _ (List.mem_of_getElem? (i := 25) rfl))) Via.refl e321 H3 (g := (mkF m 29 #[.val (.ref a315), .val (.ref a316), .unset] [(.ref a316)])) rfl (hb hby d2_29)
  obtain ⟨T323, X323, e323, st323⟩ := getS2 X322 hx hZ hown (host := "") (Or.inl (hw _ (List.mem_of_getElem? (i := 25) rfl))) Via.refl e322 H3 (g := (mkF m 35 #[.val (.ref a315), .val (.ref a316), .unset] [])) rfl (hb hby d2_35)
  obtain ⟨fs, hr, hrun, hended, hW, hsame⟩ := X323.leave (v := some (.ref w320)) (fun h => by rw [Bd.returns] at h; cases h)
  refine ⟨_, _, pre0 _ ?_, hrun, hended, _, _, rfl, ?_, ⟨_, rfl⟩, hW, hsame.mono (by decide) (by decide)⟩
  · show Steps p.tables e below (s₁.setTop (mkF m 0 #[.val (.ref a315), .val (.ref a316), .unset] [])) _
    refine XS.aloadN X0.here hx rfl (hb hby d2_0) rfl rfl ?_
    show Steps p.tables e below (s₁.setTop (mkF m 1 #[.val (.ref a315), .val (.ref a316), .unset] [(.ref a315)])) _
    refine st318 _ ?_
    show Steps p.tables e below (T318.setTop (mkF m 4 #[.val (.ref a315), .val (.ref a316), .unset] [(.ref w317), (.ref a315)])) _
    refine Jvm.RoadKit.acmp (g := (mkF m 4 #[.val (.ref a315), .val (.ref a316), .unset] [(.ref w317), (.ref a315)])) X318 hx rfl rfl rfl (pc0 := 4) (pc' := 7) (same := false) rfl (hb hby d2_4) rfl (decide_eq_false fun q => H1 (Value.ref.inj q)) (by decide) (by decide) ?_
    show Steps p.tables e below (T318.setTop (mkF m 7 #[.val (.ref a315), .val (.ref a316), .unset] [])) _
    refine XS.aloadN X318.here hx rfl (hb hby d2_7) rfl rfl ?_
    show Steps p.tables e below (T318.setTop (mkF m 8 #[.val (.ref a315), .val (.ref a316), .unset] [(.ref a316)])) _
    refine st319 _ ?_
    show Steps p.tables e below (T319.setTop (mkF m 11 #[.val (.ref a315), .val (.ref a316), .unset] [(.ref w317), (.ref a316)])) _
    refine Jvm.RoadKit.acmp (g := (mkF m 11 #[.val (.ref a315), .val (.ref a316), .unset] [(.ref w317), (.ref a316)])) X319 hx rfl rfl rfl (pc0 := 11) (pc' := 21) (same := false) rfl (hb hby d2_11) rfl (decide_eq_false fun q => H2 (Value.ref.inj q)) (by decide) (by decide) ?_
    show Steps p.tables e below (T319.setTop (mkF m 21 #[.val (.ref a315), .val (.ref a316), .unset] [])) _
    refine XS.aloadN X319.here hx rfl (hb hby d2_21) rfl rfl ?_
    show Steps p.tables e below (T319.setTop (mkF m 22 #[.val (.ref a315), .val (.ref a316), .unset] [(.ref a315)])) _
    refine st321 _ ?_
    show Steps p.tables e below (T321.setTop (mkF m 25 #[.val (.ref a315), .val (.ref a316), .unset] [(.ref w320), (.ref a315)])) _
    refine Jvm.RoadKit.acmp (g := (mkF m 25 #[.val (.ref a315), .val (.ref a316), .unset] [(.ref w320), (.ref a315)])) X321 hx rfl rfl rfl (pc0 := 25) (pc' := 28) (same := true) rfl (hb hby d2_25) rfl (decide_eq_true (congrArg Value.ref H4)) (by decide) (by decide) ?_
    show Steps p.tables e below (T321.setTop (mkF m 28 #[.val (.ref a315), .val (.ref a316), .unset] [])) _
    refine XS.aloadN X321.here hx rfl (hb hby d2_28) rfl rfl ?_
    show Steps p.tables e below (T321.setTop (mkF m 29 #[.val (.ref a315), .val (.ref a316), .unset] [(.ref a316)])) _
    refine st322 _ ?_
    show Steps p.tables e below (T322.setTop (mkF m 32 #[.val (.ref a315), .val (.ref a316), .unset] [(.ref w320), (.ref a316)])) _
    refine Jvm.RoadKit.acmp (g := (mkF m 32 #[.val (.ref a315), .val (.ref a316), .unset] [(.ref w320), (.ref a316)])) X322 hx rfl rfl rfl (pc0 := 32) (pc' := 35) (same := true) rfl (hb hby d2_32) rfl (decide_eq_true (congrArg Value.ref H5)) (by decide) (by decide) ?_
    show Steps p.tables e below (T322.setTop (mkF m 35 #[.val (.ref a315), .val (.ref a316), .unset] [])) _
    refine st323 _ ?_
    show Steps p.tables e below (T323.setTop (mkF m 38 #[.val (.ref a315), .val (.ref a316), .unset] [(.ref w320)])) _
    refine XS.astoreN X323.here hx rfl (hb hby d2_38) rfl rfl (l' := #[.val (.ref a315), .val (.ref a316), .val (.ref w320)]) rfl ?_
    show Steps p.tables e below (T323.setTop (mkF m 39 #[.val (.ref a315), .val (.ref a316), .val (.ref w320)] [])) _
    refine XS.goto X323.here hx rfl (pc0 := 39) (pc' := 46) rfl (hb hby d2_39) (by decide) (by decide) ?_
    show Steps p.tables e below (T323.setTop (mkF m 46 #[.val (.ref a315), .val (.ref a316), .val (.ref w320)] [])) _
    refine XS.aloadN X323.here hx rfl (hb hby d2_46) rfl rfl ?_
    show Steps p.tables e below (T323.setTop (mkF m 47 #[.val (.ref a315), .val (.ref a316), .val (.ref w320)] [(.ref w320)])) _
    jvm_step X323.here [X323.here.top, hx, (hb hby d2_47), X323.method', Bd.returns, Value.isRef, FieldType.isReference]
    first | (intro acts; rw [hr _ acts rfl rfl rfl]) | rw [hr _ _ rfl rfl rfl]
    exact Steps.refl _
  · show OQp (some (.ref w320)) h0 n0 _ T323.heap _
    rw [e323]
    exact ⟨rfl, N0, rfl⟩
set_option maxRecDepth 65536 in
set_option maxHeartbeats 40000000 in
theorem r0_9 (l : Launch) (Z : State) (a0 : Array Value) (hw : ∀ d ∈ tables_1, d.before a0 Z = true) (p304 : Int32) (p305 : Int32) (w310 : Addr) (w325 : Addr) (w332 : Addr) (h0 : Heap) (n0 : Nat) (Z0 : n0 ≤ h0.size) (H0 : ¬ (((p304 &&& (2147483647 : Int32)) % (3 : Int32)) = (0 : Int32))) (H1 : ¬ (((p304 &&& (2147483647 : Int32)) % (3 : Int32)) = (1 : Int32))) (H2 : Sta Z h0 "com/example/grepo/grepo/internal/store/Truth" "TRUE" "Lcom/example/grepo/grepo/internal/store/Truth;" (.ref w310)) (H3 : ¬ (((p305 &&& (2147483647 : Int32)) % (3 : Int32)) = (0 : Int32))) (H4 : ¬ (((p305 &&& (2147483647 : Int32)) % (3 : Int32)) = (1 : Int32))) (H5 : Sta Z h0 "com/example/grepo/grepo/internal/store/Truth" "FALSE" "Lcom/example/grepo/grepo/internal/store/Truth;" (.ref w325)) (H6 : w310 ≠ w325) (H7 : Exa Z h0 w310 "com/example/grepo/grepo/internal/store/Truth") (H8 : Sta Z h0 "com/example/grepo/grepo/internal/store/Truth" "UNKNOWN" "Lcom/example/grepo/grepo/internal/store/Truth;" (.ref w332)) (H9 : w310 ≠ w332) :
    OMet l Z x code maxLocals ret tables_1 room_1 h0 #[(.int p304), (.int p305)] (OQl (some (.int (1 : Int32))) n0) := by
  refine MetFree.of_bodySF (plainFor_of_name pn_com_example_grepo_grepo_internal_store_TruthAndPinLaw) hisR ?_
  intro p e s m args below meth c s₁ Bd hml0 hP hK
  obtain ⟨rfl, hZ, hh⟩ := hP
  have hx := Bd.exec
  have hby := Bd.bytes
  have hml : c.maxLocals = 6 := hml0
  have hown : s.vm.findClass "com/example/grepo/grepo/internal/store/TruthAndPinLaw" = some m.cls := findClass_of_methodNamed Bd.named
  have hnm := (name_of_methodNamed Bd.named Bd.method).1
  have X0 : Stand p l e room_1 s m #[(.int p304), (.int p305)] below meth c s₁ [] 0 0 := Stand.of_body Bd
  have e0 : s₁.heap = h0 := by rw [← hh, Bd.state]; rfl
  have N0 := Fr.nil n0
  have pre0 : ∀ t, Steps p.tables e below (s₁.setTop (mkF m 0 #[.val (.int p304), .val (.int p305), .unset, .unset, .unset, .unset] [])) t → Steps p.tables e below (s₁.setTop (entryFrame m #[(.int p304), (.int p305)] maxLocals)) t := fun t k => castTop (ef_0_vv m p304 p305) k
  obtain ⟨_, _, ⟨T309, L309, k309, n309⟩, -, X309, ⟨Lc309, hQ309, l309, y309, z309⟩, st309⟩ := Jvm.LawKit.callS X0 hx (y := (⟨"com/example/grepo/grepo/internal/store/TruthAndPinLaw", "pick", "(I)Lcom/example/grepo/grepo/internal/store/Truth;"⟩ : MethodName)) hown (mvT hZ (hw _ (List.mem_of_getElem? (i := 0) rfl))) (mvT hZ (hw _ (List.mem_of_getElem? (i := 1) rfl))) (mvT hZ (hw _ (List.mem_of_getElem? (i := 2) rfl))) (mvT hZ (hw _ (List.mem_of_getElem? (i := 3) rfl))) (by decide) (backOf (W := 0) (r1_3 l Z a0 hw p304 w310 h0 n0 Z0 H0 H1 H2) hZ (hw _ (List.mem_of_getElem? (i := 3) rfl)) (hw _ (List.mem_of_getElem? (i := 2) rfl)) (by decide) (by decide)) (g := (mkF m 1 #[.val (.int p304), .val (.int p305), .unset, .unset, .unset, .unset] [(.int p304)])) rfl (by rw [hml]; rfl) (argsL := [(.int p304)]) (rest := []) (lenOf pd_0 rfl) rfl (by show 2 * 0 + _ ≤ _; exact Nat.le_of_eq rfl) (hb hby at_1) (fun _ _ => ⟨rfl, e0, (by decide : 0 + 0 ≤ _), (by decide : 0 + 0 ≤ _)⟩)
  dsimp only [Pt.U, Pt.locs, Pt.cells, Pt.slots] at X309 l309 y309 z309 st309 hQ309
  subst l309 y309 z309
  obtain ⟨rfl, N309q, e309⟩ := hQ309
  have N309 := Fr.app N0 N309q
  obtain ⟨_, _, ⟨T314, L314, k314, n314⟩, -, X314, ⟨Lc314, hQ314, l314, y314, z314⟩, st314⟩ := Jvm.LawKit.callS X309 hx (y := (⟨"com/example/grepo/grepo/internal/store/TruthAndPinLaw", "pick", "(I)Lcom/example/grepo/grepo/internal/store/Truth;"⟩ : MethodName)) hown (mvT hZ (hw _ (List.mem_of_getElem? (i := 0) rfl))) (mvT hZ (hw _ (List.mem_of_getElem? (i := 1) rfl))) (mvT hZ (hw _ (List.mem_of_getElem? (i := 2) rfl))) (mvT hZ (hw _ (List.mem_of_getElem? (i := 3) rfl))) (by decide) (backOf (W := 0) (r1_3 l Z a0 hw p305 w310 h0 n0 Z0 H3 H4 H2) hZ (hw _ (List.mem_of_getElem? (i := 3) rfl)) (hw _ (List.mem_of_getElem? (i := 2) rfl)) (by decide) (by decide)) (g := (mkF m 6 #[.val (.int p304), .val (.int p305), .val (.ref w310), .unset, .unset, .unset] [(.int p305)])) rfl (by rw [hml]; rfl) (argsL := [(.int p305)]) (rest := []) (lenOf pd_0 rfl) rfl (by show 2 * 0 + _ ≤ _; exact Nat.le_of_eq rfl) (hb hby at_6) (fun _ _ => ⟨rfl, e309, (by decide : 0 + 0 ≤ _), (by decide : 0 + 0 ≤ _)⟩)
  dsimp only [Pt.U, Pt.locs, Pt.cells, Pt.slots] at X314 l314 y314 z314 st314 hQ314
  subst l314 y314 z314
  obtain ⟨rfl, N314q, e314⟩ := hQ314
  have N314 := Fr.app N309 N314q
  obtain ⟨cq324, kq324, q324a, q324b, q324c⟩ := isOf hZ e314 H7
  obtain ⟨_, _, ⟨T324, L324, k324, n324⟩, -, X324, ⟨Lc324, hQ324, l324, y324, z324⟩, st324⟩ := X314.virtualBack hx (y := (⟨"com/example/grepo/grepo/internal/store/Truth", "and", "(Lcom/example/grepo/grepo/internal/store/Truth;)Lcom/example/grepo/grepo/internal/store/Truth;"⟩ : MethodName)) (z := (⟨"com/example/grepo/grepo/internal/store/Truth", "and", "(Lcom/example/grepo/grepo/internal/store/Truth;)Lcom/example/grepo/grepo/internal/store/Truth;"⟩ : MethodName)) hown (mvT hZ (hw _ (List.mem_of_getElem? (i := 8) rfl))) (mvT hZ (hw _ (List.mem_of_getElem? (i := 9) rfl))) (notFace_of_selects (args := #[]) (mvT hZ (hw _ (List.mem_of_getElem? (i := 11) rfl)))) (mvT hZ (hw _ (List.mem_of_getElem? (i := 11) rfl))) (mvT hZ (hw _ (List.mem_of_getElem? (i := 10) rfl))) (by decide) (backOf (W := 0) (r2_5 l Z a0 hw w310 w310 w325 w310 h0 n0 Z0 H5 H6 H6 H2 rfl rfl) hZ (hw _ (List.mem_of_getElem? (i := 12) rfl)) (hw _ (List.mem_of_getElem? (i := 6) rfl)) (by decide) (by decide)) q324a q324c (g := (mkF m 12 #[.val (.int p304), .val (.int p305), .val (.ref w310), .val (.ref w310), .unset, .unset] [(.ref w310), (.ref w310)])) rfl (by rw [hml]; rfl) (Steps.refl _) (argsL := [(.ref w310)]) (rest := []) (lenOf pd_1 rfl) rfl (by show 2 * 0 + _ ≤ _; exact Nat.le_of_eq rfl) (hb hby at_12) (fun _ _ => ⟨rfl, e314, (by decide : 0 + 0 ≤ _), (by decide : 0 + 0 ≤ _)⟩)
  dsimp only [Pt.U, Pt.locs, Pt.cells, Pt.slots] at X324 l324 y324 z324 st324 hQ324
  subst l324 y324 z324
  obtain ⟨rfl, N324q, e324⟩ := hQ324
  have N324 := Fr.app N314 N324q
  obtain ⟨_, _, ⟨T331, L331, k331, n331⟩, -, X331, ⟨Lc331, hQ331, l331, y331, z331⟩, st331⟩ := Jvm.LawKit.callS X324 hx (y := (⟨"com/example/grepo/grepo/internal/store/TruthAndPinLaw", "rank", "(Lcom/example/grepo/grepo/internal/store/Truth;)I"⟩ : MethodName)) hown (mvT hZ (hw _ (List.mem_of_getElem? (i := 14) rfl))) (mvT hZ (hw _ (List.mem_of_getElem? (i := 15) rfl))) (mvT hZ (hw _ (List.mem_of_getElem? (i := 2) rfl))) (mvT hZ (hw _ (List.mem_of_getElem? (i := 16) rfl))) (by decide) (backOf (W := 0) (r3_3 l Z a0 hw w310 w325 w332 h0 n0 Z0 H5 H6 H8 H9) hZ (hw _ (List.mem_of_getElem? (i := 16) rfl)) (hw _ (List.mem_of_getElem? (i := 2) rfl)) (by decide) (by decide)) (g := (mkF m 18 #[.val (.int p304), .val (.int p305), .val (.ref w310), .val (.ref w310), .val (.ref w310), .unset] [(.ref w310)])) rfl (by rw [hml]; rfl) (argsL := [(.ref w310)]) (rest := []) (lenOf pd_2 rfl) rfl (by show 2 * 0 + _ ≤ _; exact Nat.le_of_eq rfl) (hb hby at_18) (fun _ _ => ⟨rfl, e324, (by decide : 0 + 0 ≤ _), (by decide : 0 + 0 ≤ _)⟩)
  dsimp only [Pt.U, Pt.locs, Pt.cells, Pt.slots] at X331 l331 y331 z331 st331 hQ331
  subst l331 y331 z331
  obtain ⟨rfl, N331q, e331⟩ := hQ331
  have N331 := Fr.app N324 N331q
  obtain ⟨_, _, ⟨T338, L338, k338, n338⟩, -, X338, ⟨Lc338, hQ338, l338, y338, z338⟩, st338⟩ := Jvm.LawKit.callS X331 hx (y := (⟨"com/example/grepo/grepo/internal/store/TruthAndPinLaw", "rank", "(Lcom/example/grepo/grepo/internal/store/Truth;)I"⟩ : MethodName)) hown (mvT hZ (hw _ (List.mem_of_getElem? (i := 14) rfl))) (mvT hZ (hw _ (List.mem_of_getElem? (i := 15) rfl))) (mvT hZ (hw _ (List.mem_of_getElem? (i := 2) rfl))) (mvT hZ (hw _ (List.mem_of_getElem? (i := 16) rfl))) (by decide) (backOf (W := 1) (r3_3 l Z a0 hw w310 w325 w332 h0 n0 Z0 H5 H6 H8 H9) hZ (hw _ (List.mem_of_getElem? (i := 16) rfl)) (hw _ (List.mem_of_getElem? (i := 2) rfl)) (by decide) (by decide)) (g := (mkF m 22 #[.val (.int p304), .val (.int p305), .val (.ref w310), .val (.ref w310), .val (.ref w310), .unset] [(.ref w310), (.int (2 : Int32))])) rfl (by rw [hml]; rfl) (argsL := [(.ref w310)]) (rest := [(.int (2 : Int32))]) (lenOf pd_2 rfl) rfl (by show 2 * 0 + _ ≤ _; exact Nat.le_of_eq rfl) (hb hby at_22) (fun _ _ => ⟨rfl, e331, (by decide : 0 + 0 ≤ _), (by decide : 0 + 0 ≤ _)⟩)
  dsimp only [Pt.U, Pt.locs, Pt.cells, Pt.slots] at X338 l338 y338 z338 st338 hQ338
  subst l338 y338 z338
  obtain ⟨rfl, N338q, e338⟩ := hQ338
  have N338 := Fr.app N331 N338q
  obtain ⟨_, _, ⟨T341, L341, k341, n341⟩, -, X341, ⟨Lc341, hQ341, l341, y341, z341⟩, st341⟩ := Jvm.LawKit.callS X338 hx (y := (⟨"java/lang/Math", "min", "(II)I"⟩ : MethodName)) hown (mvT hZ (hw _ (List.mem_of_getElem? (i := 17) rfl))) (mvT hZ (hw _ (List.mem_of_getElem? (i := 18) rfl))) (mvT hZ (hw _ (List.mem_of_getElem? (i := 19) rfl))) (mvT hZ (hw _ (List.mem_of_getElem? (i := 20) rfl))) (by decide) (backOf (W := 0) (r4_1 l Z a0 hw (2 : Int32) (2 : Int32) h0 n0 Z0 (by decide)) hZ (hw _ (List.mem_of_getElem? (i := 20) rfl)) (hw _ (List.mem_of_getElem? (i := 19) rfl)) (by decide) (by decide)) (g := (mkF m 25 #[.val (.int p304), .val (.int p305), .val (.ref w310), .val (.ref w310), .val (.ref w310), .unset] [(.int (2 : Int32)), (.int (2 : Int32))])) rfl (by rw [hml]; rfl) (argsL := [(.int (2 : Int32)), (.int (2 : Int32))]) (rest := []) (lenOf pd_3 rfl) rfl (by show 2 * 0 + _ ≤ _; exact Nat.le_of_eq rfl) (hb hby at_25) (fun _ _ => ⟨rfl, e338, (by decide : 0 + 0 ≤ _), (by decide : 0 + 0 ≤ _)⟩)
  dsimp only [Pt.U, Pt.locs, Pt.cells, Pt.slots] at X341 l341 y341 z341 st341 hQ341
  subst l341 y341 z341
  obtain ⟨rfl, N341q, e341⟩ := hQ341
  have N341 := Fr.app N338 N341q
  obtain ⟨_, _, ⟨T345, L345, k345, n345⟩, -, X345, ⟨Lc345, hQ345, l345, y345, z345⟩, st345⟩ := Jvm.LawKit.callS X341 hx (y := (⟨"com/example/grepo/grepo/internal/store/TruthAndPinLaw", "pick", "(I)Lcom/example/grepo/grepo/internal/store/Truth;"⟩ : MethodName)) hown (mvT hZ (hw _ (List.mem_of_getElem? (i := 0) rfl))) (mvT hZ (hw _ (List.mem_of_getElem? (i := 1) rfl))) (mvT hZ (hw _ (List.mem_of_getElem? (i := 2) rfl))) (mvT hZ (hw _ (List.mem_of_getElem? (i := 3) rfl))) (by decide) (backOf (W := 0) (r1_3 l Z a0 hw (2 : Int32) w310 h0 n0 Z0 (by decide) (by decide) H2) hZ (hw _ (List.mem_of_getElem? (i := 3) rfl)) (hw _ (List.mem_of_getElem? (i := 2) rfl)) (by decide) (by decide)) (g := (mkF m 28 #[.val (.int p304), .val (.int p305), .val (.ref w310), .val (.ref w310), .val (.ref w310), .unset] [(.int (2 : Int32))])) rfl (by rw [hml]; rfl) (argsL := [(.int (2 : Int32))]) (rest := []) (lenOf pd_0 rfl) rfl (by show 2 * 0 + _ ≤ _; exact Nat.le_of_eq rfl) (hb hby at_28) (fun _ _ => ⟨rfl, e341, (by decide : 0 + 0 ≤ _), (by decide : 0 + 0 ≤ _)⟩)
  dsimp only [Pt.U, Pt.locs, Pt.cells, Pt.slots] at X345 l345 y345 z345 st345 hQ345
  subst l345 y345 z345
  obtain ⟨rfl, N345q, e345⟩ := hQ345
  have N345 := Fr.app N341 N345q
  obtain ⟨fs, hr, hrun, hended, hW, hsame⟩ := X345.leave (v := some (.int (1 : Int32))) (fun h => by rw [Bd.returns] at h; cases h)
  refine ⟨_, _, pre0 _ ?_, hrun, hended, _, _, rfl, ?_, ⟨_, rfl⟩, hW, hsame.mono (by decide) (by decide)⟩
  · show Steps p.tables e below (s₁.setTop (mkF m 0 #[.val (.int p304), .val (.int p305), .unset, .unset, .unset, .unset] [])) _
    refine XS.iloadN X0.here hx rfl (hb hby at_0) rfl ?_
    show Steps p.tables e below (s₁.setTop (mkF m 1 #[.val (.int p304), .val (.int p305), .unset, .unset, .unset, .unset] [(.int p304)])) _
    refine st309 _ ?_
    show Steps p.tables e below (T309.setTop (mkF m 4 #[.val (.int p304), .val (.int p305), .unset, .unset, .unset, .unset] [(.ref w310)])) _
    refine XS.astoreN X309.here hx rfl (hb hby at_4) rfl rfl (l' := #[.val (.int p304), .val (.int p305), .val (.ref w310), .unset, .unset, .unset]) rfl ?_
    show Steps p.tables e below (T309.setTop (mkF m 5 #[.val (.int p304), .val (.int p305), .val (.ref w310), .unset, .unset, .unset] [])) _
    refine XS.iloadN X309.here hx rfl (hb hby at_5) rfl ?_
    show Steps p.tables e below (T309.setTop (mkF m 6 #[.val (.int p304), .val (.int p305), .val (.ref w310), .unset, .unset, .unset] [(.int p305)])) _
    refine st314 _ ?_
    show Steps p.tables e below (T314.setTop (mkF m 9 #[.val (.int p304), .val (.int p305), .val (.ref w310), .unset, .unset, .unset] [(.ref w310)])) _
    refine XS.astoreN X314.here hx rfl (hb hby at_9) rfl rfl (l' := #[.val (.int p304), .val (.int p305), .val (.ref w310), .val (.ref w310), .unset, .unset]) rfl ?_
    show Steps p.tables e below (T314.setTop (mkF m 10 #[.val (.int p304), .val (.int p305), .val (.ref w310), .val (.ref w310), .unset, .unset] [])) _
    refine XS.aloadN X314.here hx rfl (hb hby at_10) rfl rfl ?_
    show Steps p.tables e below (T314.setTop (mkF m 11 #[.val (.int p304), .val (.int p305), .val (.ref w310), .val (.ref w310), .unset, .unset] [(.ref w310)])) _
    refine XS.aloadN X314.here hx rfl (hb hby at_11) rfl rfl ?_
    show Steps p.tables e below (T314.setTop (mkF m 12 #[.val (.int p304), .val (.int p305), .val (.ref w310), .val (.ref w310), .unset, .unset] [(.ref w310), (.ref w310)])) _
    refine st324.trans ?_
    show Steps p.tables e below (T324.setTop (mkF m 15 #[.val (.int p304), .val (.int p305), .val (.ref w310), .val (.ref w310), .unset, .unset] [(.ref w310)])) _
    refine XS.astore X324.here hx rfl (hb hby at_15) rfl rfl (l' := #[.val (.int p304), .val (.int p305), .val (.ref w310), .val (.ref w310), .val (.ref w310), .unset]) rfl ?_
    show Steps p.tables e below (T324.setTop (mkF m 17 #[.val (.int p304), .val (.int p305), .val (.ref w310), .val (.ref w310), .val (.ref w310), .unset] [])) _
    refine XS.aloadN X324.here hx rfl (hb hby at_17) rfl rfl ?_
    show Steps p.tables e below (T324.setTop (mkF m 18 #[.val (.int p304), .val (.int p305), .val (.ref w310), .val (.ref w310), .val (.ref w310), .unset] [(.ref w310)])) _
    refine st331 _ ?_
    show Steps p.tables e below (T331.setTop (mkF m 21 #[.val (.int p304), .val (.int p305), .val (.ref w310), .val (.ref w310), .val (.ref w310), .unset] [(.int (2 : Int32))])) _
    refine XS.aloadN X331.here hx rfl (hb hby at_21) rfl rfl ?_
    show Steps p.tables e below (T331.setTop (mkF m 22 #[.val (.int p304), .val (.int p305), .val (.ref w310), .val (.ref w310), .val (.ref w310), .unset] [(.ref w310), (.int (2 : Int32))])) _
    refine st338 _ ?_
    show Steps p.tables e below (T338.setTop (mkF m 25 #[.val (.int p304), .val (.int p305), .val (.ref w310), .val (.ref w310), .val (.ref w310), .unset] [(.int (2 : Int32)), (.int (2 : Int32))])) _
    refine st341 _ ?_
    show Steps p.tables e below (T341.setTop (mkF m 28 #[.val (.int p304), .val (.int p305), .val (.ref w310), .val (.ref w310), .val (.ref w310), .unset] [(.int (2 : Int32))])) _
    refine st345 _ ?_
    show Steps p.tables e below (T345.setTop (mkF m 31 #[.val (.int p304), .val (.int p305), .val (.ref w310), .val (.ref w310), .val (.ref w310), .unset] [(.ref w310)])) _
    refine XS.astore X345.here hx rfl (hb hby at_31) rfl rfl (l' := #[.val (.int p304), .val (.int p305), .val (.ref w310), .val (.ref w310), .val (.ref w310), .val (.ref w310)]) rfl ?_
    show Steps p.tables e below (T345.setTop (mkF m 33 #[.val (.int p304), .val (.int p305), .val (.ref w310), .val (.ref w310), .val (.ref w310), .val (.ref w310)] [])) _
    refine XS.aload X345.here hx rfl (hb hby at_33) rfl rfl ?_
    show Steps p.tables e below (T345.setTop (mkF m 35 #[.val (.int p304), .val (.int p305), .val (.ref w310), .val (.ref w310), .val (.ref w310), .val (.ref w310)] [(.ref w310)])) _
    refine XS.aload X345.here hx rfl (hb hby at_35) rfl rfl ?_
    show Steps p.tables e below (T345.setTop (mkF m 37 #[.val (.int p304), .val (.int p305), .val (.ref w310), .val (.ref w310), .val (.ref w310), .val (.ref w310)] [(.ref w310), (.ref w310)])) _
    refine Jvm.RoadKit.acmp (g := (mkF m 37 #[.val (.int p304), .val (.int p305), .val (.ref w310), .val (.ref w310), .val (.ref w310), .val (.ref w310)] [(.ref w310), (.ref w310)])) X345 hx rfl rfl rfl (pc0 := 37) (pc' := 40) (same := true) rfl (hb hby at_37) rfl (decide_eq_true rfl) (by decide) (by decide) ?_
    show Steps p.tables e below (T345.setTop (mkF m 40 #[.val (.int p304), .val (.int p305), .val (.ref w310), .val (.ref w310), .val (.ref w310), .val (.ref w310)] [])) _
    refine XS.iconst X345.here hx rfl (hb hby at_40) ?_
    show Steps p.tables e below (T345.setTop (mkF m 41 #[.val (.int p304), .val (.int p305), .val (.ref w310), .val (.ref w310), .val (.ref w310), .val (.ref w310)] [(.int (1 : Int32))])) _
    refine XS.goto X345.here hx rfl (pc0 := 41) (pc' := 45) rfl (hb hby at_41) (by decide) (by decide) ?_
    show Steps p.tables e below (T345.setTop (mkF m 45 #[.val (.int p304), .val (.int p305), .val (.ref w310), .val (.ref w310), .val (.ref w310), .val (.ref w310)] [(.int (1 : Int32))])) _
    exact retN X345 hx (t := .boolean) Bd.returns (by simp) (hb hby at_45) hr
  · show OQl (some (.int (1 : Int32))) n0 _ T345.heap _
    exact ⟨rfl, N345⟩
set_option maxRecDepth 65536 in
set_option maxHeartbeats 40000000 in
theorem comes_1 {Post : Tables → Env → Array Value → State → Outcome → State → Prop} (hpost : ∀ tb e args s v u, (limb_1_1.after args s (.returned v) u = true ∧ limb_1_2.after args s (.returned v) u = true ∧ True) → FrameEnd s (.returned v) u (Jvm.fieldLocs frame_1_writes args s ++ Jvm.arrayLocs frame_1_arrays args s ++ Jvm.staticLocs frame_1_statics s) 0 0 → Post tb e args s (.returned v) u) :
    ArmFor flags0 classFile x code maxLocals ret World_1 tables_1 room_1 Calls_1 rest_1 Pre_1 Post := by
  intro l hfl _ _ p e ha hc hk s m args below hf hA hF happ hP
  obtain ⟨hcalls, hrest, hpre⟩ := hP
  obtain ⟨-, -, -, hnamed, -, -, -, hat⟩ := (Spec.applies_iff hf).mp happ
  obtain ⟨hg, hn⟩ := and_e (Cond.before_iff.mp (show (Jvm.Cond.and given_1 narrow_1).before args s = true from hpre))
  obtain ⟨gg0, gr0⟩ := and_e hg
  obtain ⟨gg1, gr1⟩ := and_e gr0
  obtain ⟨w0, w1, rfl⟩ : ∃ w0 w1 : Value, args = #[w0, w1] := by
    have hs : args.size = 2 := by simpa [Cond.value, given_1] using gg0
    obtain ⟨L⟩ := args
    match L, hs with
    | [w0, w1], _ => exact ⟨w0, w1, rfl⟩
  have hw := fun d (hd : d ∈ tables_1) => atoms_spec (ws := Jvm.Cond.code x code maxLocals ret :: tables_1) hat d (List.mem_cons_of_mem _ hd)
  have hfit : Fit s := fun {y c} hc i hi => by
    obtain ⟨ha, rfl⟩ := Array.getElem?_eq_some_iff.mp hc
    have q := List.all_eq_true.mp ((Array.all_eq_true_iff_forall_mem.mp hF) _ (Array.getElem_mem ha)) i (List.mem_range.mpr hi)
    simpa [Array.getElem?_eq_getElem hi] using q
  obtain ⟨i0, ei0⟩ := is_v gg1
  obtain rfl : w0 = (.int i0) := Option.some.inj ei0
  obtain ⟨i1, ei1⟩ := is_v gr1
  obtain rfl : w1 = (.int i1) := Option.some.inj ei1
  obtain ⟨hn1, hn2⟩ := and_e hn
  obtain ⟨hn3, hn4⟩ := and_e hn2
  obtain ⟨hn5, hn6⟩ := and_e hn4
  obtain ⟨hn7, hn8⟩ := and_e hn6
  obtain ⟨hn9, hn10⟩ := and_e hn8
  obtain ⟨w_c11, ev_c11⟩ := exa_v hn1
  have E_c11 := Exa.start ev_c11 hn1
  have S_c11 := Sta.start ev_c11 (Or.inr ⟨(hw _ (List.mem_of_getElem? (i := 6) rfl)), (hw _ (List.mem_of_getElem? (i := 7) rfl))⟩)
  obtain ⟨w_c12, ev_c12⟩ := exa_v hn3
  have E_c12 := Exa.start ev_c12 hn3
  have S_c12 := Sta.start ev_c12 (Or.inr ⟨(hw _ (List.mem_of_getElem? (i := 6) rfl)), (hw _ (List.mem_of_getElem? (i := 22) rfl))⟩)
  obtain ⟨w_c13, ev_c13⟩ := exa_v hn5
  have E_c13 := Exa.start ev_c13 hn5
  have S_c13 := Sta.start ev_c13 (Or.inr ⟨(hw _ (List.mem_of_getElem? (i := 6) rfl)), (hw _ (List.mem_of_getElem? (i := 24) rfl))⟩)
  have F14 := own_fi ev_c12 hn7
  have F15 := own_fi ev_c11 hn9
  have F16 := own_fi ev_c13 hn10
  suffices M : OMet l s x code maxLocals ret tables_1 room_1 s.heap #[(.int i0), (.int i1)] (OQl (some (.int (1 : Int32))) s.heap.size) by
    obtain ⟨n, o, h1, h2, h3, _, L, rfl, ⟨rfl, N⟩, hq⟩ := M p e ha hc hk s m _ below hf ((Spec.applies_iff_loose hf).mp happ).1 ⟨rfl, State.Warmed39.refl s, rfl⟩ trivial
    exact ⟨n, _, h1, h2, h3, hpost _ _ _ _ _ _ ⟨Cond.after_iff.mpr rfl, Cond.after_iff.mpr (eq_i res_at (Term.int_eval (1)) rfl), trivial⟩ ⟨hq.1, hq.2.1, (hq.2.2.sift fun y hy => Or.inr (N y hy)).mono (by decide) (by decide)⟩⟩
  have hm_hq : ((i0 &&& (2147483647 : Int32)) % (3 : Int32)) = (0 : Int32) ∨ ((i0 &&& (2147483647 : Int32)) % (3 : Int32)) = (1 : Int32) ∨ ((i0 &&& (2147483647 : Int32)) % (3 : Int32)) = (2 : Int32) := by
    obtain ⟨q1, q2⟩ := own_mod i0 (3 : Int32) (by decide)
    have q3 : (3 : Int32).toInt = 3 := by decide
    rw [q3] at q2
    generalize ((i0 &&& (2147483647 : Int32)) % (3 : Int32)) = z at q1 q2 ⊢
    have q4 : z.toInt = 0 ∨ z.toInt = 1 ∨ z.toInt = 2 := by omega
    rcases q4 with q | q | q <;> simp [← Int32.toInt_inj, q]
  have hm_hr : ((i1 &&& (2147483647 : Int32)) % (3 : Int32)) = (0 : Int32) ∨ ((i1 &&& (2147483647 : Int32)) % (3 : Int32)) = (1 : Int32) ∨ ((i1 &&& (2147483647 : Int32)) % (3 : Int32)) = (2 : Int32) := by
    obtain ⟨q1, q2⟩ := own_mod i1 (3 : Int32) (by decide)
    have q3 : (3 : Int32).toInt = 3 := by decide
    rw [q3] at q2
    generalize ((i1 &&& (2147483647 : Int32)) % (3 : Int32)) = z at q1 q2 ⊢
    have q4 : z.toInt = 0 ∨ z.toInt = 1 ∨ z.toInt = 2 := by omega
    rcases q4 with q | q | q <;> simp [← Int32.toInt_inj, q]
  rcases hm_hq with hq | hq | hq <;> rcases hm_hr with hr | hr | hr
  · exact r0_1 l s _ hw i0 i1 w_c11 s.heap s.heap.size (Nat.le_refl _) (by first | (rw [hq] <;> decide) | (rw [hr] <;> decide)) S_c11 (by first | (rw [hq] <;> decide) | (rw [hr] <;> decide)) E_c11
  · exact r0_2 l s _ hw i0 i1 w_c11 w_c13 s.heap s.heap.size (Nat.le_refl _) (by first | (rw [hq] <;> decide) | (rw [hr] <;> decide)) S_c11 (by first | (rw [hq] <;> decide) | (rw [hr] <;> decide)) (by first | (rw [hq] <;> decide) | (rw [hr] <;> decide)) S_c13 E_c11 (Fld.ne F16 F15 (by decide))
  · exact r0_3 l s _ hw i0 i1 w_c11 w_c12 w_c13 s.heap s.heap.size (Nat.le_refl _) (by first | (rw [hq] <;> decide) | (rw [hr] <;> decide)) S_c11 (by first | (rw [hq] <;> decide) | (rw [hr] <;> decide)) (by first | (rw [hq] <;> decide) | (rw [hr] <;> decide)) S_c12 E_c11 (Fld.ne F14 F15 (by decide)) S_c13 (Fld.ne F14 F16 (by decide))
  · exact r0_4 l s _ hw i0 i1 w_c13 w_c11 s.heap s.heap.size (Nat.le_refl _) (by first | (rw [hq] <;> decide) | (rw [hr] <;> decide)) (by first | (rw [hq] <;> decide) | (rw [hr] <;> decide)) S_c13 (by first | (rw [hq] <;> decide) | (rw [hr] <;> decide)) S_c11 (Fld.ne F16 F15 (by decide)) E_c13
  · exact r0_5 l s _ hw i0 i1 w_c13 w_c11 w_c12 s.heap s.heap.size (Nat.le_refl _) (by first | (rw [hq] <;> decide) | (rw [hr] <;> decide)) (by first | (rw [hq] <;> decide) | (rw [hr] <;> decide)) S_c13 (by first | (rw [hq] <;> decide) | (rw [hr] <;> decide)) (by first | (rw [hq] <;> decide) | (rw [hr] <;> decide)) S_c11 (Fld.ne F16 F15 (by decide)) S_c12 (Fld.ne F16 F14 (by decide)) E_c13
  · exact r0_6 l s _ hw i0 i1 w_c13 w_c12 w_c11 s.heap s.heap.size (Nat.le_refl _) (by first | (rw [hq] <;> decide) | (rw [hr] <;> decide)) (by first | (rw [hq] <;> decide) | (rw [hr] <;> decide)) S_c13 (by first | (rw [hq] <;> decide) | (rw [hr] <;> decide)) (by first | (rw [hq] <;> decide) | (rw [hr] <;> decide)) S_c12 S_c11 (Fld.ne F16 F15 (by decide)) (Fld.ne F14 F15 (by decide)) (Fld.ne F16 F14 (by decide)) E_c13 (Fld.ne F14 F16 (by decide))
  · exact r0_7 l s _ hw i0 i1 w_c12 w_c11 w_c13 s.heap s.heap.size (Nat.le_refl _) (by first | (rw [hq] <;> decide) | (rw [hr] <;> decide)) (by first | (rw [hq] <;> decide) | (rw [hr] <;> decide)) S_c12 (by first | (rw [hq] <;> decide) | (rw [hr] <;> decide)) S_c11 (Fld.ne F14 F15 (by decide)) E_c12 S_c13 (Fld.ne F14 F16 (by decide))
  · exact r0_8 l s _ hw i0 i1 w_c12 w_c13 w_c11 s.heap s.heap.size (Nat.le_refl _) (by first | (rw [hq] <;> decide) | (rw [hr] <;> decide)) (by first | (rw [hq] <;> decide) | (rw [hr] <;> decide)) S_c12 (by first | (rw [hq] <;> decide) | (rw [hr] <;> decide)) (by first | (rw [hq] <;> decide) | (rw [hr] <;> decide)) S_c13 S_c11 (Fld.ne F14 F15 (by decide)) (Fld.ne F16 F15 (by decide)) (Fld.ne F16 F14 (by decide)) E_c12 (Fld.ne F14 F16 (by decide))
  · exact r0_9 l s _ hw i0 i1 w_c12 w_c11 w_c13 s.heap s.heap.size (Nat.le_refl _) (by first | (rw [hq] <;> decide) | (rw [hr] <;> decide)) (by first | (rw [hq] <;> decide) | (rw [hr] <;> decide)) S_c12 (by first | (rw [hq] <;> decide) | (rw [hr] <;> decide)) (by first | (rw [hq] <;> decide) | (rw [hr] <;> decide)) S_c11 (Fld.ne F14 F15 (by decide)) E_c12 S_c13 (Fld.ne F14 F16 (by decide))
theorem main_1_1 : Claimed_1_1 := comes_1 fun _ _ _ _ _ _ h hF => ⟨h.1, hF⟩
theorem main_1_2 : Claimed_1_2 := comes_1 fun _ _ _ _ _ _ h hF => ⟨h.2.1, hF⟩
end Jvm.Pilot.@@N@@
namespace Jvm.Pilot.@@N@@
open Jvm Jvm.ClassFile Sem Op Lib Jvm.Free Jvm.Stand Jvm.Pilot.@@N@@.Jvm.D
/-! MADE BY PROGRAM (witnessworld.py) out of the Statement's table words and the real class files: 13 classes; the members and pool entries that the words name. The judged class is class 1, her method 3. -/
namespace start1
open Jvm.ClassFile
def u (s : String) : CpInfo := .utf8 (stringToUtf16 s)
/-- a pool by its gaps: so many unusable entries, then the entry; so many at the end -/
def gap : Nat → List CpInfo → List CpInfo
  | 0, r => r
  | n + 1, r => .unusable :: gap n r
def poolList (es : List (Nat × CpInfo)) (last : Nat) : List CpInfo := es.foldr (fun e r => gap e.1 (e.2 :: r)) (gap last [])
def pool (es : List (Nat × CpInfo)) (last : Nat) : Array CpInfo := ⟨poolList es last⟩
def fileOf (pool : Array CpInfo) (this : Nat) (attrs : Array Attribute := #[]) (ms : Array MethodInfo := #[]) (fl : Nat := 33) (sup : Nat := 0) (ifs : Array Nat := #[]) (fds : Array FieldInfo := #[]) : ClassFile where
  minorVersion := 0
  majorVersion := 65
  constantPool := pool
  accessFlags := fl
  thisClass := this
  superClass := sup
  interfaces := ifs
  fields := fds
  methods := ms
  attributes := attrs
def plain (name : String) (sup : Option ClassId) : Class where
  name := name
  kind := .ordinary
  loader := none
  accessFlags := 33
  super := sup
  interfaces := #[]
  cf := none
  fields := #[]
  methods := #[]
  instanceTypes := #[]
  staticTypes := #[]
  resolved := #[]
  callSites := []
  init := .initialized
  statics := none
  mirror := none

def pool0 : Array CpInfo := pool [(5, u "<init>"), (0, u "()V"), (1, .class_ 10), (1, u "java/lang/Object")] 113

def k0m0 : Method := { name := "<init>", desc := "()V", sig := { parameters := [], returnType := none }, accessFlags := 1, code := none }
/-- java/lang/Object -/
def k0 : Class := { plain "java/lang/Object" none with
  accessFlags := 33
  interfaces := #[]
  cf := some (fileOf pool0 8 #[] #[{ accessFlags := 1, nameIndex := 5, descriptorIndex := 6, attributes := #[] }] 33 0 #[] #[])
  fields := #[]
  methods := #[k0m0]
  instanceTypes := #[]
  staticTypes := #[]
  resolved := Array.replicate 124 none
  statics := none }

def pool1 : Array CpInfo := pool [(2, .class_ 4), (1, u "java/lang/Object"), (0, u "<init>"), (0, u "()V"), (0, .integer 2147483647), (0, .fieldref 9 10), (0, .class_ 11), (0, .nameAndType 12 13), (0, u "com/example/grepo/grepo/internal/store/Truth"), (0, u "FALSE"), (0, u "Lcom/example/grepo/grepo/internal/store/Truth;"), (0, .fieldref 9 15), (0, .nameAndType 16 13), (0, u "UNKNOWN"), (0, .fieldref 9 18), (0, .nameAndType 19 13), (0, u "TRUE"), (0, .methodref 21 22), (0, .class_ 23), (0, .nameAndType 24 25), (0, u "com/example/grepo/grepo/internal/store/TruthAndPinLaw"), (0, u "pick"), (0, u "(I)Lcom/example/grepo/grepo/internal/store/Truth;"), (0, .methodref 9 27), (0, .nameAndType 28 29), (0, u "and"), (0, u "(Lcom/example/grepo/grepo/internal/store/Truth;)Lcom/example/grepo/grepo/internal/store/Truth;"), (0, .methodref 21 31), (0, .nameAndType 32 33), (0, u "rank"), (0, u "(Lcom/example/grepo/grepo/internal/store/Truth;)I"), (0, .methodref 35 36), (0, .class_ 37), (0, .nameAndType 38 39), (0, u "java/lang/Math"), (0, u "min"), (0, u "(II)I"), (3, u "law"), (0, u "(II)Z")] 2

def k1m0 : Method := { name := "<init>", desc := "()V", sig := { parameters := [], returnType := none }, accessFlags := 1, code := none }
def k1c1 : Code := { maxStack := 2, maxLocals := 2, code := method_2_code, exceptionTable := #[], attributes := #[] }
def k1m1 : Method := { name := "pick", desc := "(I)Lcom/example/grepo/grepo/internal/store/Truth;", sig := { parameters := [.int], returnType := some (.object "com/example/grepo/grepo/internal/store/Truth") }, accessFlags := 10, code := some k1c1 }
def k1c2 : Code := { maxStack := 2, maxLocals := 1, code := method_3_code, exceptionTable := #[], attributes := #[] }
def k1m2 : Method := { name := "rank", desc := "(Lcom/example/grepo/grepo/internal/store/Truth;)I", sig := { parameters := [(.object "com/example/grepo/grepo/internal/store/Truth")], returnType := some .int }, accessFlags := 10, code := some k1c2 }
def k1c3 : Code := { maxStack := 2, maxLocals := 6, code := code, exceptionTable := #[], attributes := #[] }
def k1m3 : Method := { name := "law", desc := "(II)Z", sig := { parameters := [.int, .int], returnType := some .boolean }, accessFlags := 9, code := some k1c3 }
/-- com/example/grepo/grepo/internal/store/TruthAndPinLaw -/
def k1 : Class := { plain "com/example/grepo/grepo/internal/store/TruthAndPinLaw" (some 0) with
  accessFlags := 49
  interfaces := #[]
  cf := some (fileOf pool1 21 #[] #[{ accessFlags := 1, nameIndex := 5, descriptorIndex := 6, attributes := #[] }, { accessFlags := 10, nameIndex := 24, descriptorIndex := 25, attributes := #[] }, { accessFlags := 10, nameIndex := 32, descriptorIndex := 33, attributes := #[] }, { accessFlags := 9, nameIndex := 43, descriptorIndex := 44, attributes := #[] }] 49 2 #[] #[])
  fields := #[]
  methods := #[k1m0, k1m1, k1m2, k1m3]
  instanceTypes := #[]
  staticTypes := #[]
  resolved := Array.replicate 47 none
  statics := none }

def pool2 : Array CpInfo := pool [(1, .class_ 2), (0, u "java/lang/constant/Constable"), (0, .class_ 4), (0, u "java/lang/Object")] 6

/-- java/lang/constant/Constable -/
def k2 : Class := { plain "java/lang/constant/Constable" (some 0) with
  accessFlags := 1537
  interfaces := #[]
  cf := some (fileOf pool2 1 #[] #[] 1537 3 #[] #[])
  fields := #[]
  methods := #[]
  instanceTypes := #[]
  staticTypes := #[]
  resolved := Array.replicate 11 none
  statics := none }

def pool3 : Array CpInfo := pool [(1, .class_ 2), (0, u "java/lang/Comparable"), (0, .class_ 4), (0, u "java/lang/Object")] 7

/-- java/lang/Comparable -/
def k3 : Class := { plain "java/lang/Comparable" (some 0) with
  accessFlags := 1537
  interfaces := #[]
  cf := some (fileOf pool3 1 #[] #[] 1537 3 #[] #[])
  fields := #[]
  methods := #[]
  instanceTypes := #[]
  staticTypes := #[]
  resolved := Array.replicate 12 none
  statics := none }

def pool4 : Array CpInfo := pool [(1, .class_ 2), (0, u "java/io/Serializable"), (0, .class_ 4), (0, u "java/lang/Object")] 2

/-- java/io/Serializable -/
def k4 : Class := { plain "java/io/Serializable" (some 0) with
  accessFlags := 1537
  interfaces := #[]
  cf := some (fileOf pool4 1 #[] #[] 1537 3 #[] #[])
  fields := #[]
  methods := #[]
  instanceTypes := #[]
  staticTypes := #[]
  resolved := Array.replicate 7 none
  statics := none }

def pool5 : Array CpInfo := pool [(2, .class_ 4), (1, u "java/lang/Enum"), (0, u "name"), (0, u "Ljava/lang/String;"), (2, u "ordinal"), (0, u "I"), (1, .class_ 14), (1, u "java/lang/Object"), (4, u "hash"), (86, .class_ 108), (1, u "java/lang/Enum$EnumDesc"), (2, .class_ 112), (0, u "java/lang/constant/Constable"), (0, .class_ 114), (0, u "java/lang/Comparable"), (0, .class_ 116), (0, u "java/io/Serializable")] 87

/-- java/lang/Enum -/
def k5 : Class := { plain "java/lang/Enum" (some 0) with
  accessFlags := 1057
  interfaces := #[2, 3, 4]
  cf := some (fileOf pool5 2 #[.nestMembers #[106]] #[] 1057 12 #[111, 113, 115] #[{ accessFlags := 18, nameIndex := 5, descriptorIndex := 6, attributes := #[] }, { accessFlags := 18, nameIndex := 9, descriptorIndex := 10, attributes := #[] }, { accessFlags := 2, nameIndex := 19, descriptorIndex := 10, attributes := #[] }])
  fields := #[{ name := "name", type := (.object "java/lang/String"), accessFlags := 18, slot := 0, constantValue := 0 }, { name := "ordinal", type := .int, accessFlags := 18, slot := 1, constantValue := 0 }, { name := "hash", type := .int, accessFlags := 2, slot := 2, constantValue := 0 }]
  methods := #[]
  instanceTypes := #[(.object "java/lang/String"), .int, .int]
  staticTypes := #[]
  resolved := Array.replicate 204 none
  statics := none }

def pool6 : Array CpInfo := pool [(1, .class_ 2), (0, u "com/example/grepo/grepo/internal/store/Truth"), (0, .fieldref 1 4), (0, .nameAndType 5 6), (0, u "TRUE"), (0, u "Lcom/example/grepo/grepo/internal/store/Truth;"), (0, .fieldref 1 8), (0, .nameAndType 9 6), (0, u "FALSE"), (0, .fieldref 1 11), (0, .nameAndType 12 6), (0, u "UNKNOWN"), (2, u "$VALUES"), (0, u "[Lcom/example/grepo/grepo/internal/store/Truth;"), (6, .class_ 25), (1, u "java/lang/Enum"), (12, u "and"), (0, u "(Lcom/example/grepo/grepo/internal/store/Truth;)Lcom/example/grepo/grepo/internal/store/Truth;")] 32

def k6c0 : Code := { maxStack := 2, maxLocals := 3, code := prog_96_method_5_code, exceptionTable := #[], attributes := #[] }
def k6m0 : Method := { name := "and", desc := "(Lcom/example/grepo/grepo/internal/store/Truth;)Lcom/example/grepo/grepo/internal/store/Truth;", sig := { parameters := [(.object "com/example/grepo/grepo/internal/store/Truth")], returnType := some (.object "com/example/grepo/grepo/internal/store/Truth") }, accessFlags := 0, code := some k6c0 }
/-- com/example/grepo/grepo/internal/store/Truth -/
def k6 : Class := { plain "com/example/grepo/grepo/internal/store/Truth" (some 5) with
  accessFlags := 16432
  interfaces := #[]
  cf := some (fileOf pool6 1 #[] #[{ accessFlags := 0, nameIndex := 38, descriptorIndex := 39, attributes := #[] }] 16432 23 #[] #[{ accessFlags := 16409, nameIndex := 5, descriptorIndex := 6, attributes := #[] }, { accessFlags := 16409, nameIndex := 9, descriptorIndex := 6, attributes := #[] }, { accessFlags := 16409, nameIndex := 12, descriptorIndex := 6, attributes := #[] }, { accessFlags := 4122, nameIndex := 15, descriptorIndex := 16, attributes := #[] }])
  fields := #[{ name := "TRUE", type := (.object "com/example/grepo/grepo/internal/store/Truth"), accessFlags := 16409, slot := 0, constantValue := 0 }, { name := "FALSE", type := (.object "com/example/grepo/grepo/internal/store/Truth"), accessFlags := 16409, slot := 1, constantValue := 0 }, { name := "UNKNOWN", type := (.object "com/example/grepo/grepo/internal/store/Truth"), accessFlags := 16409, slot := 2, constantValue := 0 }, { name := "$VALUES", type := (.array (.object "com/example/grepo/grepo/internal/store/Truth")), accessFlags := 4122, slot := 3, constantValue := 0 }]
  methods := #[k6m0]
  instanceTypes := #[(.object "java/lang/String"), .int, .int]
  staticTypes := #[(.object "com/example/grepo/grepo/internal/store/Truth"), (.object "com/example/grepo/grepo/internal/store/Truth"), (.object "com/example/grepo/grepo/internal/store/Truth"), (.array (.object "com/example/grepo/grepo/internal/store/Truth"))]
  resolved := Array.replicate 72 none
  statics := some 0 }

def pool7 : Array CpInfo := pool [(1, .class_ 2), (0, u "java/lang/Math"), (1, .class_ 6), (1, u "java/lang/Object"), (0, u "<init>"), (0, u "()V"), (89, .class_ 100), (1, u "java/lang/Math$RandomNumberGeneratorHolder"), (71, u "negativeZeroFloatBits"), (0, u "J"), (2, u "negativeZeroDoubleBits"), (24, u "min"), (43, u "$assertionsDisabled"), (0, u "Z"), (88, u "(II)I"), (2, u "twoToTheDoubleScaleDown"), (0, u "D"), (4, u "twoToTheDoubleScaleUp"), (9, u "E"), (3, u "PI"), (2, u "TAU"), (2, u "DEGREES_TO_RADIANS"), (0, u "RADIANS_TO_DEGREES")] 94

def k7m0 : Method := { name := "<init>", desc := "()V", sig := { parameters := [], returnType := none }, accessFlags := 2, code := none }
def k7c1 : Code := { maxStack := 2, maxLocals := 2, code := jdk_29_method_69_code, exceptionTable := #[], attributes := #[] }
def k7m1 : Method := { name := "min", desc := "(II)I", sig := { parameters := [.int, .int], returnType := some .int }, accessFlags := 9, code := some k7c1 }
/-- java/lang/Math -/
def k7 : Class := { plain "java/lang/Math" (some 0) with
  accessFlags := 49
  interfaces := #[]
  cf := some (fileOf pool7 1 #[.nestMembers #[98]] #[{ accessFlags := 2, nameIndex := 7, descriptorIndex := 8, attributes := #[] }, { accessFlags := 9, nameIndex := 201, descriptorIndex := 335, attributes := #[] }] 49 4 #[] #[{ accessFlags := 25, nameIndex := 354, descriptorIndex := 339, attributes := #[] }, { accessFlags := 25, nameIndex := 358, descriptorIndex := 339, attributes := #[] }, { accessFlags := 25, nameIndex := 361, descriptorIndex := 339, attributes := #[] }, { accessFlags := 26, nameIndex := 364, descriptorIndex := 339, attributes := #[] }, { accessFlags := 26, nameIndex := 365, descriptorIndex := 339, attributes := #[] }, { accessFlags := 26, nameIndex := 172, descriptorIndex := 173, attributes := #[] }, { accessFlags := 26, nameIndex := 176, descriptorIndex := 173, attributes := #[] }, { accessFlags := 8, nameIndex := 344, descriptorIndex := 339, attributes := #[] }, { accessFlags := 8, nameIndex := 338, descriptorIndex := 339, attributes := #[] }, { accessFlags := 4120, nameIndex := 245, descriptorIndex := 246, attributes := #[] }])
  fields := #[{ name := "E", type := .double, accessFlags := 25, slot := 0, constantValue := 0 }, { name := "PI", type := .double, accessFlags := 25, slot := 1, constantValue := 0 }, { name := "TAU", type := .double, accessFlags := 25, slot := 2, constantValue := 0 }, { name := "DEGREES_TO_RADIANS", type := .double, accessFlags := 26, slot := 3, constantValue := 0 }, { name := "RADIANS_TO_DEGREES", type := .double, accessFlags := 26, slot := 4, constantValue := 0 }, { name := "negativeZeroFloatBits", type := .long, accessFlags := 26, slot := 5, constantValue := 0 }, { name := "negativeZeroDoubleBits", type := .long, accessFlags := 26, slot := 6, constantValue := 0 }, { name := "twoToTheDoubleScaleUp", type := .double, accessFlags := 8, slot := 7, constantValue := 0 }, { name := "twoToTheDoubleScaleDown", type := .double, accessFlags := 8, slot := 8, constantValue := 0 }, { name := "$assertionsDisabled", type := .boolean, accessFlags := 4120, slot := 9, constantValue := 0 }]
  methods := #[k7m0, k7m1]
  instanceTypes := #[]
  staticTypes := #[.double, .double, .double, .double, .double, .long, .long, .double, .double, .boolean]
  resolved := Array.replicate 460 none
  statics := none }

def pool8 : Array CpInfo := pool [(1, u "java/lang/Cloneable"), (0, .class_ 1), (0, u "java/lang/Object"), (0, .class_ 3)] 3

/-- java/lang/Cloneable -/
def k8 : Class := { plain "java/lang/Cloneable" (some 0) with
  accessFlags := 1537
  interfaces := #[]
  cf := some (fileOf pool8 2 #[] #[] 1537 4 #[] #[])
  fields := #[]
  methods := #[]
  instanceTypes := #[]
  staticTypes := #[]
  resolved := Array.replicate 8 none
  statics := none }

/-- the primitive byte -/
def k9 : Class := { plain "byte" none with kind := .primitive 'B', accessFlags := 0x411 }
/-- [B -/
def k10 : Class := { plain "[B" (some 0) with kind := .array 9 .byte, interfaces := #[8, 4], accessFlags := 1041 }

/-- the primitive int -/
def k11 : Class := { plain "int" none with kind := .primitive 'I', accessFlags := 0x411 }
/-- [I -/
def k12 : Class := { plain "[I" (some 0) with kind := .array 11 .int, interfaces := #[8, 4], accessFlags := 1041 }

def heap : Heap := #[{ cls := 6, slots := #[.ref 2, .ref 1, .ref 3, .null], vm := .statics 6 },
  { cls := 6, slots := #[.null, .int 1, .int 0], vm := .none },
  { cls := 6, slots := #[.null, .int 0, .int 0], vm := .none },
  { cls := 6, slots := #[.null, .int 2, .int 0], vm := .none }]
def classes : Array Class := #[k0, k1, k2, k3, k4, k5, k6, k7, k8, k9, k10, k11, k12]
def interned : List (Array UInt16 × Addr) := []
def slotsUsed : Nat := 13
def theMethod : MethodId := ⟨1, 3⟩
def args0 : Array Value := #[.int 5, .int 7]
def aboutOver (below : List Frame) : State where
  vm := { classes := classes, interned := interned.toArray }
  heap := heap
  slotsUsed := slotsUsed
  threads := #[{ frames := .invoking theMethod args0 :: below }]
def below0 : List Frame := [.native { method := ⟨0, 0⟩, args := #[] }]
def about1 : State := aboutOver below0
def p0 : Program := .bare "" "" ""
def e0 : Env := launch0.env 0 0 0
theorem w_frames : about1.frames = Frame.invoking theMethod args0 :: below0 := rfl
set_option maxRecDepth 65536 in
theorem w_args : argsFit about1.vm theMethod args0 = true := by decide +kernel
set_option maxRecDepth 65536 in
theorem w_heap : heapFits about1 = true := by decide +kernel
set_option maxRecDepth 65536 in
theorem w_runnable : about1.curStatus? = some .runnable := by decide +kernel
set_option maxRecDepth 65536 in
theorem w_alone : about1.alone = true := by decide +kernel
set_option maxRecDepth 65536 in
theorem w_named : about1.methodNamed? x = some theMethod := by decide +kernel
set_option maxRecDepth 65536 in
theorem w_hears : about1.hears theMethod below0 = true := by decide +kernel
set_option maxRecDepth 65536 in
theorem w_ripe : about1.ripe theMethod args0 below0 = true := by decide +kernel
theorem w_running : about1.status = .running := rfl
set_option maxRecDepth 65536 in
theorem w_room : about1.hasRoom e0.platform room_1 = true :=
  launch0.hasRoom_least _ room_1 (by decide +kernel) (by decide +kernel) (by decide +kernel) (by decide +kernel) (by decide +kernel) (by decide +kernel)
theorem allAtoms_all (ts : List Jvm.Cond) (a : Array Jvm.Value) (st : Jvm.State) : (allAtoms ts).before a st = ts.all (fun c => c.before a st) := by
  induction ts with
  | nil => rfl
  | cons c t ih =>
    show (Jvm.Cond.and c (allAtoms t)).before a st = _
    rw [Jvm.Cond.before_and, ih, List.all_cons]
def words1 : List Jvm.Cond := Jvm.Cond.code x code maxLocals ret :: tables_1
/-- a 'code' word, met by the world's own term for the bytes: nothing is compared byte by byte -/
theorem code_word {y : MethodName} {bytes : ByteArray} {mx : Nat} {rt : Option FieldType} {a : Array Value} {s : State} {m : MethodId} {meth : Method} {c : Code} (h1 : s.methodNamed? y = some m) (h2 : s.vm.method? m = some meth) (h3 : meth.code = some c) (h4 : c.code = bytes)
    (h5 : (c.maxLocals == mx && c.exceptionTable.isEmpty && decide (c.maxStack ≤ mostOperands) && decide (meth.sig.returnType = rt) && !meth.locks && decide (parseMethodDescriptor y.desc = some meth.sig)) = true) : (Jvm.Cond.code y bytes mx rt).before a s = true := by
  simp only [Bool.and_eq_true, beq_iff_eq, Bool.not_eq_true', decide_eq_true_eq] at h5
  obtain ⟨⟨⟨⟨⟨g1, g2⟩, g3⟩, g4⟩, g5⟩, g6⟩ := h5
  simp [Cond.before, Cond.holds, Cond.value, h1, h2, h3, h4, g1, g2, g3, g4, g5, g6]
def isCode : Jvm.Cond → Bool
  | .code _ _ _ _ => true
  | _ => false
theorem all_split {L : List Jvm.Cond} {P : Jvm.Cond → Bool} (h1 : L.all (fun c => isCode c || P c) = true) (h2 : ∀ c ∈ L.filter isCode, P c = true) : L.all P = true := by
  refine List.all_eq_true.mpr fun c hc => ?_
  have h := List.all_eq_true.mp h1 c hc
  rcases Bool.eq_false_or_eq_true (isCode c) with hi | hi
  · exact h2 c (List.mem_filter.mpr ⟨hc, hi⟩)
  · simpa [hi] using h
set_option maxRecDepth 65536 in
theorem w_c0 : (Jvm.Cond.code x code maxLocals ret).before args0 about1 = true := code_word (m := ⟨1, 3⟩) (meth := k1m3) (c := k1c3) (by decide +kernel) rfl rfl rfl (by decide +kernel)
set_option maxRecDepth 65536 in
theorem w_c1 : (Jvm.Cond.code ({ cls := "com/example/grepo/grepo/internal/store/TruthAndPinLaw", name := "pick", desc := "(I)Lcom/example/grepo/grepo/internal/store/Truth;" } : Jvm.MethodName) method_2_code (2 : Nat) (Option.some (Jvm.ClassFile.FieldType.object "com/example/grepo/grepo/internal/store/Truth"))).before args0 about1 = true := code_word (m := ⟨1, 1⟩) (meth := k1m1) (c := k1c1) (by decide +kernel) rfl rfl rfl (by decide +kernel)
set_option maxRecDepth 65536 in
theorem w_c2 : (Jvm.Cond.code ({ cls := "com/example/grepo/grepo/internal/store/Truth", name := "and", desc := "(Lcom/example/grepo/grepo/internal/store/Truth;)Lcom/example/grepo/grepo/internal/store/Truth;" } : Jvm.MethodName) prog_96_method_5_code (3 : Nat) (Option.some (Jvm.ClassFile.FieldType.object "com/example/grepo/grepo/internal/store/Truth"))).before args0 about1 = true := code_word (m := ⟨6, 0⟩) (meth := k6m0) (c := k6c0) (by decide +kernel) rfl rfl rfl (by decide +kernel)
set_option maxRecDepth 65536 in
theorem w_c3 : (Jvm.Cond.code ({ cls := "com/example/grepo/grepo/internal/store/TruthAndPinLaw", name := "rank", desc := "(Lcom/example/grepo/grepo/internal/store/Truth;)I" } : Jvm.MethodName) method_3_code (1 : Nat) (Option.some Jvm.ClassFile.FieldType.int)).before args0 about1 = true := code_word (m := ⟨1, 2⟩) (meth := k1m2) (c := k1c2) (by decide +kernel) rfl rfl rfl (by decide +kernel)
set_option maxRecDepth 65536 in
theorem w_c4 : (Jvm.Cond.code ({ cls := "java/lang/Math", name := "min", desc := "(II)I" } : Jvm.MethodName) jdk_29_method_69_code (2 : Nat) (Option.some Jvm.ClassFile.FieldType.int)).before args0 about1 = true := code_word (m := ⟨7, 1⟩) (meth := k7m1) (c := k7c1) (by decide +kernel) rfl rfl rfl (by decide +kernel)
def codes1 : List Jvm.Cond := [Jvm.Cond.code x code maxLocals ret, Jvm.Cond.code ({ cls := "com/example/grepo/grepo/internal/store/TruthAndPinLaw", name := "pick", desc := "(I)Lcom/example/grepo/grepo/internal/store/Truth;" } : Jvm.MethodName) method_2_code (2 : Nat) (Option.some (Jvm.ClassFile.FieldType.object "com/example/grepo/grepo/internal/store/Truth")), Jvm.Cond.code ({ cls := "com/example/grepo/grepo/internal/store/Truth", name := "and", desc := "(Lcom/example/grepo/grepo/internal/store/Truth;)Lcom/example/grepo/grepo/internal/store/Truth;" } : Jvm.MethodName) prog_96_method_5_code (3 : Nat) (Option.some (Jvm.ClassFile.FieldType.object "com/example/grepo/grepo/internal/store/Truth")), Jvm.Cond.code ({ cls := "com/example/grepo/grepo/internal/store/TruthAndPinLaw", name := "rank", desc := "(Lcom/example/grepo/grepo/internal/store/Truth;)I" } : Jvm.MethodName) method_3_code (1 : Nat) (Option.some Jvm.ClassFile.FieldType.int), Jvm.Cond.code ({ cls := "java/lang/Math", name := "min", desc := "(II)I" } : Jvm.MethodName) jdk_29_method_69_code (2 : Nat) (Option.some Jvm.ClassFile.FieldType.int)]
set_option maxRecDepth 65536 in
theorem codes_eq : words1.filter isCode = codes1 := rfl
theorem w_codes : ∀ c ∈ words1.filter isCode, c.before args0 about1 = true := by
  rw [codes_eq]
  intro c hc
  simp only [codes1, List.mem_cons, List.not_mem_nil, or_false] at hc
  rcases hc with rfl | rfl | rfl | rfl | rfl
  · exact w_c0
  · exact w_c1
  · exact w_c2
  · exact w_c3
  · exact w_c4
set_option maxRecDepth 65536 in
theorem w_t1 : (words1.take 24).all (fun c => isCode c || c.before args0 about1) = true := by decide +kernel
set_option maxRecDepth 65536 in
theorem w_t2 : (words1.drop 24).all (fun c => isCode c || c.before args0 about1) = true := by decide +kernel
theorem w_tables : (allAtoms (Jvm.Cond.code x code maxLocals ret :: tables_1)).before args0 about1 = true := by
  rw [allAtoms_all]
  show words1.all (fun c => c.before args0 about1) = true
  refine all_split ?_ w_codes
  rw [← List.take_append_drop 24 words1, List.all_append, w_t1, w_t2]
  rfl
set_option maxRecDepth 65536 in
theorem w_case : (Jvm.Cond.and given_1 narrow_1).before args0 about1 = true := by decide +kernel
theorem w_applies : (headSpec (Jvm.Cond.code x code maxLocals ret :: tables_1) room_1).applies x e0.platform about1 = true :=
  (Spec.applies_iff w_frames).mpr ⟨w_running, w_runnable, w_alone, w_named, w_hears, w_ripe, w_room, w_tables⟩
theorem atStart : AtStart classFile x code maxLocals ret World_1 tables_1 room_1 Calls_1 rest_1 Pre_1 launch0 p0 e0 about1 theMethod args0 below0 :=
  ⟨lists_1, trivial, launch0.admits_env _ _ _, launch0.least_env, fairChoices_fair.cas, fairChoices_fair.clock, w_frames, w_args, w_heap, w_applies, trivial, trivial, w_case⟩
end start1
theorem witness_1 : WitnessClaimed_1 := ⟨start1.p0, start1.e0, start1.about1, start1.theMethod, start1.args0, start1.below0, start1.atStart⟩
end Jvm.Pilot.@@N@@
