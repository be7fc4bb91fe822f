import JvmDerived
import JvmDerived.Pilot.@@N@@Statement
import JvmDerived.Pilot.@@N@@Code
set_option linter.unusedVariables false
set_option linter.unusedSimpArgs false
namespace Jvm.RoadKit
open Sem ClassFile Op Lib Jvm.Stand Jvm.Free Jvm.LawKit
section New
variable {p : Program} {l : Launch} {e : Env} {R : Room} {s : State} {m : MethodId} {args : Array Value} {below : List Frame} {meth : Method} {c : Code} {T : State} {locs : List Loc} {cells slots : Nat}
theorem retI (X : Stand p l e R s m args below meth c T locs cells slots) (hx : p.tables.exec = Jvm.exec) {pc : Nat} {Ls : Array Slot} {z : Int32} {rest : List Value} (hret : meth.sig.returnType = some .int) (hd : decode c.code pc = .ok (.ireturn, 1)) {fs : List Frame}
    (hl : ∀ (f : JFrame) (acts : List Action), f.method = m → f.locked = none → f.entered = [] → (doReturn e (T.setTop f) acts (some (.int z))).1 = T.setFrames fs) : Steps p.tables e below (T.setTop (mkF m pc Ls (.int z :: rest))) (T.setFrames fs) := by
  have hm' : T.vm.method? m = some meth := X.method'
  have hn : narrow .int (.int z) = .int z := rfl
  show Steps p.tables e below (T.setTop { method := m, pc := pc, locals := Ls, stack := _ :: rest, locked := none }) _
  jvm_step X.here [X.here.top, hx, hd, hm', hret, hn]
  first | (intro acts; rw [hl _ acts rfl rfl rfl]) | rw [hl _ _ rfl rfl rfl]
  exact Steps.refl _
end New
section Own
variable {Z : State} {h0 h h' : Heap} {ws ws' : List (Addr × Nat)} {a : Addr} {sl : Nat} {v : Value} {C n d : String}
/-- own: what a call leaves as it was, by places: every cell is kept in class, kind and size; a place that isn't listed keeps its value -/
def KSx (h h' : Heap) (ws : List (Addr × Nat)) : Prop := h.size ≤ h'.size ∧ ∀ (x : Addr) (c : Cell), h[x]? = some c → ∃ c' : Cell, h'[x]? = some c' ∧ c'.cls = c.cls ∧ c'.vm = c.vm ∧ c'.slots.size = c.slots.size ∧ (∀ j, (∀ p ∈ ws, x ≠ p.1 ∨ j ≠ p.2) → c'.slots[j]? = c.slots[j]?) ∧ ((c.vm.isStatics = true ∨ ∀ p ∈ ws, x ≠ p.1) → c' = c)
theorem ks0 {P : Addr × Nat → Prop} : ∀ p ∈ ([] : List (Addr × Nat)), P p := fun _ q => nomatch q
theorem ksS {P : Addr × Nat → Prop} {y : Addr × Nat} {L : List (Addr × Nat)} (q : P y) (r : ∀ p ∈ L, P p) : ∀ p ∈ y :: L, P p := fun x z => (List.mem_cons.mp z).elim (fun u => u ▸ q) (r x)
theorem KSx.refl (h : Heap) (ws : List (Addr × Nat)) : KSx h h ws := ⟨Nat.le_refl _, fun _ c q => ⟨c, q, rfl, rfl, rfl, fun _ _ => rfl, fun _ => rfl⟩⟩
theorem KSx.ext (K : KSx h0 h ws) (E : Ext h h') : KSx h0 h' ws := ⟨Nat.le_trans K.1 E.1, fun x c q => by obtain ⟨c', q', r⟩ := K.2 x c q; exact ⟨c', E.2 x c' q', r⟩⟩
theorem KSx.trans (K : KSx h0 h ws) (K' : KSx h h' ws') (q : ∀ p ∈ ws', p ∈ ws ∨ h0.size ≤ p.1) : KSx h0 h' ws := by
  refine ⟨Nat.le_trans K.1 K'.1, fun x c hc => ?_⟩
  obtain ⟨c1, a1, a2, a3, a4, a5, a6⟩ := K.2 x c hc
  obtain ⟨c2, b1, b2, b3, b4, b5, b6⟩ := K'.2 x c1 a1
  have hx : x < h0.size := (Array.getElem?_eq_some_iff.mp hc).1
  refine ⟨c2, b1, b2.trans a2, b3.trans a3, b4.trans a4, fun j hj => ?_, fun hs => ?_⟩
  · refine (b5 j fun p hp => ?_).trans (a5 j hj)
    rcases q p hp with w | g
    · exact hj p w
    · exact Or.inl fun e => by subst e; exact absurd hx (Nat.not_lt.mpr g)
  · have e1 : c1 = c := a6 hs
    refine (b6 ?_).trans e1
    rcases hs with w | w
    · exact Or.inl (by rw [e1]; exact w)
    · refine Or.inr fun p hp => ?_
      rcases q p hp with y | g
      · exact w p y
      · exact fun e => by subst e; exact absurd hx (Nat.not_lt.mpr g)
theorem KSx.of_wr (W : Wr h h' a sl v) : KSx h h' [(a, sl)] := by
  refine ⟨Nat.le_of_eq W.size.symm, fun x c hc => ?_⟩
  obtain ⟨c', e1, e2, e3, e4, e5, e6, e7⟩ := wr_at W hc
  refine ⟨c', e1, e2, e3, e4, fun j hj => ?_, fun hs => ?_⟩
  · rcases hj (a, sl) (List.mem_singleton.mpr rfl) with y | y
    · rw [e5 y]
    · exact e6 j y
  · rcases hs with y | y
    · by_cases z : x = a
      · rw [(e7 z).2.2] at y; cases y
      · exact e5 z
    · exact e5 (y (a, sl) (List.mem_singleton.mpr rfl))
theorem KSx.wr (K : KSx h0 h ws) (W : Wr h h' a sl v) (q : (a, sl) ∈ ws ∨ h0.size ≤ a) : KSx h0 h' ws := K.trans (KSx.of_wr W) fun p hp => by cases List.mem_singleton.mp hp; exact q
theorem Fld.ks (F : Fld Z h a C n d v) (K : KSx h h' ws) (q : ∀ p ∈ ws, a ≠ p.1 ∨ slotOf Z C n d ≠ p.2) : Fld Z h' a C n d v := by
  obtain ⟨cell, cf, k, i, f, h1, h2, h3, h4, h5, h6, h7⟩ := F
  obtain ⟨c', e1, e2, e3, -, e5, -⟩ := K.2 _ _ h1
  refine ⟨c', cf, k, i, f, e1, h2, h3, by rw [e3]; exact h4, by rw [e3]; exact h5, by rw [e2]; exact h6, ?_⟩
  refine (e5 _ fun p hp => ?_).trans h7
  simpa [slotOf, h2] using q p hp
theorem Exa.ks (F : Exa Z h a C) (K : KSx h h' ws) : Exa Z h' a C := by
  obtain ⟨cell, k, h1, h2, h3, h4, h5⟩ := F
  obtain ⟨c', e1, e2, e3, e4, -⟩ := K.2 _ _ h1
  exact ⟨c', k, e1, by rw [e2]; exact h2, by rw [e2]; exact h3, by rw [e3]; exact h4, by rw [e4]; exact h5⟩
theorem Sta.ks (F : Sta Z h C n d v) (K : KSx h h' ws) : Sta Z h' C n d v := by
  obtain ⟨cf, i, k, f, st, cell, h1, h2, h3, h4, h5, h6, h7⟩ := F
  obtain ⟨c', e1, -, -, -, -, e6⟩ := K.2 _ _ h5
  exact ⟨cf, i, k, f, st, cell, h1, h2, h3, h4, (e6 (Or.inl h6)) ▸ e1, h6, h7⟩
theorem Arr.ks {c : Cell} {ty : FieldType} (F : Arr Z h a c ty) (K : KSx h h' ws) (q : ∀ p ∈ ws, a ≠ p.1) : Arr Z h' a c ty := by
  obtain ⟨c', e1, -, -, -, -, e6⟩ := K.2 _ _ F.1
  exact ⟨(e6 (Or.inr q)) ▸ e1, F.2⟩
theorem Arv.ks {k : ClassId} {ty : FieldType} {z : Int32} {vs : List Value} {dv : Value} (F : Arv Z h a k ty z vs dv) (K : KSx h h' ws) (q : ∀ p ∈ ws, a ≠ p.1) : Arv Z h' a k ty z vs dv := by obtain ⟨c, A, r⟩ := F; exact ⟨c, A.ks K q, r⟩
theorem own_fi {args : Array Value} {s : State} {t : Term} {k : Int32} (ht : t.eval args s none [] s = some (.ref a)) (hq : (Cond.eq (.field t C n d) (.int k)).value args s none s [] = some true) : Fld s s.heap a C n d (.int k) := by
  have e2 : (Term.int k).eval args s none [] s = some (.int k) := Term.int_eval k
  obtain ⟨x, y, e1, e3, -, k2⟩ := cmp_v (Or.inl hq)
  cases e2.symm.trans e3
  obtain ⟨z, rfl⟩ := k2
  have q : z = k := by simpa [Cond.value, e1, e2] using hq
  subst q
  exact Fld.start (by rw [← fld_at ht]; exact e1)
theorem own_fr {args : Array Value} {s : State} {t u : Term} {b : Addr} (ht : t.eval args s none [] s = some (.ref a)) (hu : u.eval args s none [] s = some (.ref b)) (hq : (Cond.eq (.field t C n d) u).value args s none s [] = some true) : Fld s s.heap a C n d (.ref b) := by
  obtain ⟨x, y, e1, e3, k1, k2⟩ := cmp_v (Or.inl hq)
  cases hu.symm.trans e3
  have hr : x.isRef = true := k2.2
  have q : x = .ref b := gotT (eq_R e1 hu hr rfl) hq
  subst q
  exact Fld.start (by rw [← fld_at ht]; exact e1)
theorem own_len {args : Array Value} {s : State} {t : Term} {k : Int32} {cl : Cell} {ty : FieldType} (ht : t.eval args s none [] s = some (.ref a)) (A : Arr s s.heap a cl ty) (hq : (Cond.eq (.length t) (.int k)).value args s none s [] = some true) : cl.slots.size < 2 ^ 31 ∧ cl.slots.size.toInt32 = k := by
  have e2 : (Term.int k).eval args s none [] s = some (.int k) := Term.int_eval k
  have ha : s.arrayAt? a = some cl := A.fin (Vm.Alike.refl _)
  obtain ⟨x, y, e1, e3, -, k2⟩ := cmp_v (Or.inl hq)
  cases e2.symm.trans e3
  obtain ⟨z, rfl⟩ := k2
  have q : z = k := by simpa [Cond.value, e1, e2] using hq
  subst q
  by_cases hl : cl.slots.size < 2 ^ 31
  · rw [len_f ht ha hl] at e1
    cases e1; exact ⟨hl, rfl⟩
  · simp [Term.eval, ht, ha, hl] at e1
theorem own_el {args : Array Value} {s : State} {t u : Term} {k : Int32} {b : Addr} {cl : Cell} {ty : FieldType} (ht : t.eval args s none [] s = some (.ref a)) (hu : u.eval args s none [] s = some (.ref b)) (A : Arr s s.heap a cl ty) (hq : (Cond.eq (.elem t (.int k)) u).value args s none s [] = some true) : cl.slots[k.toNatClampNeg]? = some (.ref b) := by
  obtain ⟨x, y, e1, e3, k1, k2⟩ := cmp_v (Or.inl hq)
  cases hu.symm.trans e3
  have q : x = .ref b := gotT (eq_R e1 hu k2.2 rfl) hq
  subst q
  exact (elem_in e1 ht (Term.int_eval k) A.1).2
theorem own_sel {s : State} {a0 args : Array Value} {y : MethodName} {k : Nat} (hZ : Z.Warmed39 s.vm) (wi : (Cond.instantiable y.cls k).before a0 Z = true) (wp : (Cond.privateMethod y).before a0 Z = true) (wm : (Cond.instanceMethod y).before a0 Z = true) (hy : y.cls ≠ "java/lang/invoke/MethodHandle" ∧ y.cls ≠ "java/lang/invoke/VarHandle") : (Cond.selects y.cls y y).before args s = true := by
  obtain ⟨c, kc, h1, h2, -, h4, -⟩ := Cond.instantiable_spec (mvT (args := args) hZ wi)
  exact selects_self_of_private h1 h2 (Bool.or_eq_false_iff.mp h4).1 (Cond.privateMethod_at (mvP hZ wp (args := args))) (mvT hZ wm) hy
end Own
end Jvm.RoadKit
namespace Jvm.Pilot.@@N@@
open Jvm Jvm.ClassFile Sem Op Lib Jvm.Free Jvm.Stand Jvm.LawKit Jvm.RoadKit Bundle Jvm.Pilot.@@N@@.Jvm.D
abbrev OMet (l : Launch) (Z : State) (y : MethodName) (bytes : ByteArray) (ml : Nat) (rt : Option FieldType) (ws : List Jvm.Cond) (rm : Room) (h0 : Heap) (as : Array Value) (Q : Option Value → Heap → List Loc → Prop) : Prop :=
  MetFree l y (head1 (Jvm.Cond.code y bytes ml rt :: ws) rm) (fun a U => a = as ∧ Z.Warmed39 U.vm ∧ U.heap = h0) (fun _ _ _ _ _ => True) (fun _ U o U' => ∃ v L, o = .returned v ∧ Q v U'.heap L ∧ FrameEnd U o U' L rm.cells rm.slots)
abbrev OMetS (l : Launch) (Z : State) (y : MethodName) (bytes : ByteArray) (ml : Nat) (rt : Option FieldType) (ws : List Jvm.Cond) (rm : Room) (h0 : Heap) (as : Array Value) (Q : Option Value → Heap → List Loc → Prop) : Prop :=
  MetFree l y (head1 (Jvm.Cond.code y bytes ml rt :: ws) rm) (fun a U => a = as ∧ Z.Warmed39 U.vm ∧ U.heap = h0) (fun _ _ _ _ _ => True) (fun _ U o U' => ∃ v L, o = .returned v ∧ Q v U'.heap L ∧ ReturnedEndW U o U' L rm.cells rm.slots)
def OQp (r : Option Value) (h0 : Heap) (n0 : Nat) (v : Option Value) (h : Heap) (L : List Loc) : Prop := v = r ∧ Fr n0 L ∧ h = h0
def OQl (r : Option Value) (n0 : Nat) (v : Option Value) (h : Heap) (L : List Loc) : Prop := v = r ∧ Fr n0 L
theorem own_rng {k n : Int32} {N : Nat} (h : 0 ≤ k.toInt ∧ k.toInt < N) : ∃ i : Fin N, k = Int32.ofInt i.1 := by
  refine ⟨⟨k.toInt.toNat, by omega⟩, ?_⟩
  show k = Int32.ofInt ((k.toInt.toNat : Nat) : Int)
  rw [Int.toNat_of_nonneg h.1]; exact (Int32.ofInt_toInt k).symm
theorem own_mod (x : Int32) (y : Int32) (hy : 0 < y.toInt) : 0 ≤ ((x &&& (2147483647 : Int32)) % y).toInt ∧ ((x &&& (2147483647 : Int32)) % y).toInt < y.toInt := by
  have h1 := c_mask x 2147483647 31 (by decide) (by decide)
  have h2 := (c_iremV (x &&& (2147483647 : Int32)) y).1 (by rw [h1]; exact Int.emod_nonneg _ (by decide)) hy
  exact ⟨h2.1, h2.2.1⟩
theorem own_b1 (x : Int32) : (x &&& (1 : Int32)) = (0 : Int32) ∨ (x &&& (1 : Int32)) = (1 : Int32) := by
  have h := c_mask x 1 1 (by decide) (by decide)
  have q : (x &&& (1 : Int32)).toInt = 0 ∨ (x &&& (1 : Int32)).toInt = 1 := by rw [h]; omega
  rcases q with q | q <;> simp [← Int32.toInt_inj, q]
theorem d1_0 : decode prog_28_method_6_code 0 = .ok (.aload_n 0, 1) := by decide +kernel
theorem d1_1 : decode prog_28_method_6_code 1 = .ok (.getstatic 3, 3) := by decide +kernel
theorem d1_4 : decode prog_28_method_6_code 4 = .ok (.if_acmp .ne 9, 3) := by decide +kernel
theorem d1_13 : decode prog_28_method_6_code 13 = .ok (.aload_n 1, 1) := by decide +kernel
theorem d1_14 : decode prog_28_method_6_code 14 = .ok (.areturn, 1) := by decide +kernel
theorem pn_com_example_resense_resense_lexicon_Match : plainName "com/example/resense/resense/lexicon/Match" = true := by first | (simp [plainName, overriddenIn]; done) | decide +kernel
theorem ef_1_vv (m : MethodId) (x0 : Addr) (x1 : Addr) : entryFrame m #[(.ref x0), (.ref x1)] 2 = mkF m 0 #[.val (.ref x0), .val (.ref x1)] [] := by first | (simp [entryFrame, mkF, argsToLocals, Value.category]; done) | rfl
set_option maxRecDepth 65536 in
set_option maxHeartbeats 40000000 in
theorem r1_1 (l : Launch) (Z : State) (a0 : Array Value) (hw : ∀ d ∈ tables_1, d.before a0 Z = true) (a6 : Addr) (a7 : Addr) (w8 : Addr) (h0 : Heap) (n0 : Nat) (Z0 : n0 ≤ h0.size) (H0 : Sta Z h0 "com/example/resense/resense/lexicon/Match" "FULL" "Lcom/example/resense/resense/lexicon/Match;" (.ref w8)) (H1 : a6 ≠ w8) :
    OMet l Z (⟨"com/example/resense/resense/lexicon/Match", "or", "(Lcom/example/resense/resense/lexicon/Match;)Lcom/example/resense/resense/lexicon/Match;"⟩ : MethodName) prog_28_method_6_code 2 (some (.object "com/example/resense/resense/lexicon/Match")) [] ({ frames := 0, cells := 0, slots := 0, locals := 0 } : Room) h0 #[(.ref a6), (.ref a7)] (OQp (some (.ref a7)) h0 n0) := by
  refine MetFree.of_bodySF (plainFor_of_name pn_com_example_resense_resense_lexicon_Match) hisR ?_
  intro p e s m args below meth c s₁ Bd hml0 hP hK
  obtain ⟨rfl, hZ, hh⟩ := hP
  have hx := Bd.exec
  have hby := Bd.bytes
  have hml : c.maxLocals = 2 := hml0
  have hown : s.vm.findClass "com/example/resense/resense/lexicon/Match" = some m.cls := findClass_of_methodNamed Bd.named
  have hnm := (name_of_methodNamed Bd.named Bd.method).1
  have X0 : Stand p l e ({ frames := 0, cells := 0, slots := 0, locals := 0 } : Room) s m #[(.ref a6), (.ref a7)] below meth c s₁ [] 0 0 := Stand.of_body Bd
  have e0 : s₁.heap = h0 := by rw [← hh, Bd.state]; rfl
  have N0 := Fr.nil n0
  have pre0 : ∀ t, Steps p.tables e below (s₁.setTop (mkF m 0 #[.val (.ref a6), .val (.ref a7)] [])) t → Steps p.tables e below (s₁.setTop (entryFrame m #[(.ref a6), (.ref a7)] 2)) t := fun t k => castTop (ef_1_vv m a6 a7) k
  obtain ⟨T9, X9, e9, st9⟩ := getS2 X0 hx hZ hown (host := "") (Or.inl (hw _ (List.mem_of_getElem? (i := 10) rfl))) Via.refl e0 H0 (g := (mkF m 1 #[.val (.ref a6), .val (.ref a7)] [(.ref a6)])) rfl (hb hby d1_1)
  obtain ⟨fs, hr, hrun, hended, hW, hsame⟩ := X9.leave (v := some (.ref a7)) (fun h => by rw [Bd.returns] at h; cases h)
  refine ⟨_, _, pre0 _ ?_, hrun, hended, _, _, rfl, ?_, ⟨_, rfl⟩, hW, hsame.mono (by decide) (by decide)⟩
  · show Steps p.tables e below (s₁.setTop (mkF m 0 #[.val (.ref a6), .val (.ref a7)] [])) _
    refine XS.aloadN X0.here hx rfl (hb hby d1_0) rfl rfl ?_
    show Steps p.tables e below (s₁.setTop (mkF m 1 #[.val (.ref a6), .val (.ref a7)] [(.ref a6)])) _
    refine st9 _ ?_
    show Steps p.tables e below (T9.setTop (mkF m 4 #[.val (.ref a6), .val (.ref a7)] [(.ref w8), (.ref a6)])) _
    refine Jvm.RoadKit.acmp (g := (mkF m 4 #[.val (.ref a6), .val (.ref a7)] [(.ref w8), (.ref a6)])) X9 hx rfl rfl rfl (pc0 := 4) (pc' := 13) (same := false) rfl (hb hby d1_4) rfl (decide_eq_false fun q => H1 (Value.ref.inj q)) (by decide) (by decide) ?_
    show Steps p.tables e below (T9.setTop (mkF m 13 #[.val (.ref a6), .val (.ref a7)] [])) _
    refine XS.aloadN X9.here hx rfl (hb hby d1_13) rfl rfl ?_
    show Steps p.tables e below (T9.setTop (mkF m 14 #[.val (.ref a6), .val (.ref a7)] [(.ref a7)])) _
    jvm_step X9.here [X9.here.top, hx, (hb hby d1_14), X9.method', Bd.returns, Value.isRef, FieldType.isReference]
    first | (intro acts; rw [hr _ acts rfl rfl rfl]) | rw [hr _ _ rfl rfl rfl]
    exact Steps.refl _
  · show OQp (some (.ref a7)) h0 n0 _ T9.heap _
    rw [e9]
    exact ⟨rfl, N0, rfl⟩
theorem pd_0 : parseMethodDescriptor "(Lcom/example/resense/resense/lexicon/Match;)Lcom/example/resense/resense/lexicon/Match;" = some ⟨[(.object "com/example/resense/resense/lexicon/Match")], some (.object "com/example/resense/resense/lexicon/Match")⟩ := by decide +kernel
theorem pn_com_example_resense_resense_lexicon_MatchOrPinLaw : plainName "com/example/resense/resense/lexicon/MatchOrPinLaw" = true := by first | (simp [plainName, overriddenIn]; done) | decide +kernel
theorem ef_0_vv (m : MethodId) (x0 : Int32) (x1 : Int32) : entryFrame m #[(.int x0), (.int x1)] maxLocals = mkF m 0 #[.val (.int x0), .val (.int x1), .unset, .unset, .unset, .unset, .unset, .unset] [] := by first | (simp [entryFrame, mkF, argsToLocals, Value.category, maxLocals]; done) | rfl
set_option maxRecDepth 65536 in
set_option maxHeartbeats 40000000 in
theorem r0_1 (l : Launch) (Z : State) (a0 : Array Value) (hw : ∀ d ∈ tables_1, d.before a0 Z = true) (p1 : Int32) (p2 : Int32) (w3 : Addr) (w11 : Addr) (h0 : Heap) (n0 : Nat) (Z0 : n0 ≤ h0.size) (H0 : (p1 &&& (1 : Int32)) = (0 : Int32)) (H1 : (p2 &&& (1 : Int32)) = (0 : Int32)) (H2 : Sta Z h0 "com/example/resense/resense/lexicon/Match" "PARTIAL" "Lcom/example/resense/resense/lexicon/Match;" (.ref w3)) (H3 : Sta Z h0 "com/example/resense/resense/lexicon/Match" "FULL" "Lcom/example/resense/resense/lexicon/Match;" (.ref w11)) (H4 : w3 ≠ w11) (H5 : Exa Z h0 w3 "com/example/resense/resense/lexicon/Match") :
    OMet l Z x code maxLocals ret tables_1 room_1 h0 #[(.int p1), (.int p2)] (OQl (some (.int (1 : Int32))) n0) := by
  refine MetFree.of_bodySF (plainFor_of_name pn_com_example_resense_resense_lexicon_MatchOrPinLaw) hisR ?_
  intro p e s m args below meth c s₁ Bd hml0 hP hK
  obtain ⟨rfl, hZ, hh⟩ := hP
  have hx := Bd.exec
  have hby := Bd.bytes
  have hml : c.maxLocals = 8 := hml0
  have hown : s.vm.findClass "com/example/resense/resense/lexicon/MatchOrPinLaw" = some m.cls := findClass_of_methodNamed Bd.named
  have hnm := (name_of_methodNamed Bd.named Bd.method).1
  have X0 : Stand p l e room_1 s m #[(.int p1), (.int p2)] below meth c s₁ [] 0 0 := Stand.of_body Bd
  have e0 : s₁.heap = h0 := by rw [← hh, Bd.state]; rfl
  have N0 := Fr.nil n0
  have pre0 : ∀ t, Steps p.tables e below (s₁.setTop (mkF m 0 #[.val (.int p1), .val (.int p2), .unset, .unset, .unset, .unset, .unset, .unset] [])) t → Steps p.tables e below (s₁.setTop (entryFrame m #[(.int p1), (.int p2)] maxLocals)) t := fun t k => castTop (ef_0_vv m p1 p2) k
  obtain ⟨T4, X4, e4, st4⟩ := getS2 X0 hx hZ hown (host := "") (Or.inl (hw _ (List.mem_of_getElem? (i := 0) rfl))) Via.refl e0 H2 (g := (mkF m 34 #[.val (.int p1), .val (.int p2), .val (.int (0 : Int32)), .val (.int (0 : Int32)), .unset, .unset, .unset, .unset] [])) rfl (hb hby at_34)
  obtain ⟨T5, X5, e5, st5⟩ := getS2 X4 hx hZ hown (host := "") (Or.inl (hw _ (List.mem_of_getElem? (i := 0) rfl))) Via.refl e4 H2 (g := (mkF m 49 #[.val (.int p1), .val (.int p2), .val (.int (0 : Int32)), .val (.int (0 : Int32)), .val (.ref w3), .unset, .unset, .unset] [])) rfl (hb hby at_49)
  obtain ⟨cq10, kq10, q10a, q10b, q10c⟩ := isOf hZ e5 H5
  obtain ⟨_, _, ⟨T10, L10, k10, n10⟩, -, X10, ⟨Lc10, hQ10, l10, y10, z10⟩, st10⟩ := X5.virtualBack hx (y := (⟨"com/example/resense/resense/lexicon/Match", "or", "(Lcom/example/resense/resense/lexicon/Match;)Lcom/example/resense/resense/lexicon/Match;"⟩ : MethodName)) (z := (⟨"com/example/resense/resense/lexicon/Match", "or", "(Lcom/example/resense/resense/lexicon/Match;)Lcom/example/resense/resense/lexicon/Match;"⟩ : MethodName)) hown (mvT hZ (hw _ (List.mem_of_getElem? (i := 5) rfl))) (mvT hZ (hw _ (List.mem_of_getElem? (i := 6) rfl))) (notFace_of_selects (args := #[]) (mvT hZ (hw _ (List.mem_of_getElem? (i := 8) rfl)))) (mvT hZ (hw _ (List.mem_of_getElem? (i := 8) rfl))) (mvT hZ (hw _ (List.mem_of_getElem? (i := 7) rfl))) (by decide) (backOf (W := 0) (r1_1 l Z a0 hw w3 w3 w11 h0 n0 Z0 H3 H4) hZ (hw _ (List.mem_of_getElem? (i := 9) rfl)) (hw _ (List.mem_of_getElem? (i := 1) rfl)) (by decide) (by decide)) q10a q10c (g := (mkF m 58 #[.val (.int p1), .val (.int p2), .val (.int (0 : Int32)), .val (.int (0 : Int32)), .val (.ref w3), .val (.ref w3), .unset, .unset] [(.ref w3), (.ref w3)])) rfl (by rw [hml]; rfl) (Steps.refl _) (argsL := [(.ref w3)]) (rest := []) (lenOf pd_0 rfl) rfl (by show 2 * 0 + _ ≤ _; exact Nat.le_of_eq rfl) (hb hby at_58) (fun _ _ => ⟨rfl, e5, (by decide : 0 + 0 ≤ _), (by decide : 0 + 0 ≤ _)⟩)
  dsimp only [Pt.U, Pt.locs, Pt.cells, Pt.slots] at X10 l10 y10 z10 st10 hQ10
  subst l10 y10 z10
  obtain ⟨rfl, N10q, e10⟩ := hQ10
  have N10 := Fr.app N0 N10q
  obtain ⟨T12, X12, e12, st12⟩ := getS2 X10 hx hZ hown (host := "") (Or.inl (hw _ (List.mem_of_getElem? (i := 0) rfl))) Via.refl e10 H2 (g := (mkF m 77 #[.val (.int p1), .val (.int p2), .val (.int (0 : Int32)), .val (.int (0 : Int32)), .val (.ref w3), .val (.ref w3), .val (.ref w3), .unset] [])) rfl (hb hby at_77)
  obtain ⟨fs, hr, hrun, hended, hW, hsame⟩ := X12.leave (v := some (.int (1 : Int32))) (fun h => by rw [Bd.returns] at h; cases h)
  refine ⟨_, _, pre0 _ ?_, hrun, hended, _, _, rfl, ?_, ⟨_, rfl⟩, hW, hsame.mono (by decide) (by decide)⟩
  · show Steps p.tables e below (s₁.setTop (mkF m 0 #[.val (.int p1), .val (.int p2), .unset, .unset, .unset, .unset, .unset, .unset] [])) _
    refine XS.iloadN X0.here hx rfl (hb hby at_0) rfl ?_
    show Steps p.tables e below (s₁.setTop (mkF m 1 #[.val (.int p1), .val (.int p2), .unset, .unset, .unset, .unset, .unset, .unset] [(.int p1)])) _
    refine XS.iconst X0.here hx rfl (hb hby at_1) ?_
    show Steps p.tables e below (s₁.setTop (mkF m 2 #[.val (.int p1), .val (.int p2), .unset, .unset, .unset, .unset, .unset, .unset] [(.int (1 : Int32)), (.int p1)])) _
    refine XS.iand X0.here hx rfl (hb hby at_2) rfl ?_
    show Steps p.tables e below (s₁.setTop (mkF m 3 #[.val (.int p1), .val (.int p2), .unset, .unset, .unset, .unset, .unset, .unset] [(.int (p1 &&& (1 : Int32)))])) _
    refine XS.ifYes X0.here hx rfl (pc0 := 3) (pc' := 10) rfl (hb hby at_3) rfl ((if0 _ _).trans (teq H0).1) (by decide) (by decide) ?_
    show Steps p.tables e below (s₁.setTop (mkF m 10 #[.val (.int p1), .val (.int p2), .unset, .unset, .unset, .unset, .unset, .unset] [])) _
    refine XS.iconst X0.here hx rfl (hb hby at_10) ?_
    show Steps p.tables e below (s₁.setTop (mkF m 11 #[.val (.int p1), .val (.int p2), .unset, .unset, .unset, .unset, .unset, .unset] [(.int (0 : Int32))])) _
    refine XS.istoreN X0.here hx rfl (hb hby at_11) rfl (l' := #[.val (.int p1), .val (.int p2), .val (.int (0 : Int32)), .unset, .unset, .unset, .unset, .unset]) rfl ?_
    show Steps p.tables e below (s₁.setTop (mkF m 12 #[.val (.int p1), .val (.int p2), .val (.int (0 : Int32)), .unset, .unset, .unset, .unset, .unset] [])) _
    refine XS.iloadN X0.here hx rfl (hb hby at_12) rfl ?_
    show Steps p.tables e below (s₁.setTop (mkF m 13 #[.val (.int p1), .val (.int p2), .val (.int (0 : Int32)), .unset, .unset, .unset, .unset, .unset] [(.int p2)])) _
    refine XS.iconst X0.here hx rfl (hb hby at_13) ?_
    show Steps p.tables e below (s₁.setTop (mkF m 14 #[.val (.int p1), .val (.int p2), .val (.int (0 : Int32)), .unset, .unset, .unset, .unset, .unset] [(.int (1 : Int32)), (.int p2)])) _
    refine XS.iand X0.here hx rfl (hb hby at_14) rfl ?_
    show Steps p.tables e below (s₁.setTop (mkF m 15 #[.val (.int p1), .val (.int p2), .val (.int (0 : Int32)), .unset, .unset, .unset, .unset, .unset] [(.int (p2 &&& (1 : Int32)))])) _
    refine XS.ifYes X0.here hx rfl (pc0 := 15) (pc' := 22) rfl (hb hby at_15) rfl ((if0 _ _).trans (teq H1).1) (by decide) (by decide) ?_
    show Steps p.tables e below (s₁.setTop (mkF m 22 #[.val (.int p1), .val (.int p2), .val (.int (0 : Int32)), .unset, .unset, .unset, .unset, .unset] [])) _
    refine XS.iconst X0.here hx rfl (hb hby at_22) ?_
    show Steps p.tables e below (s₁.setTop (mkF m 23 #[.val (.int p1), .val (.int p2), .val (.int (0 : Int32)), .unset, .unset, .unset, .unset, .unset] [(.int (0 : Int32))])) _
    refine XS.istoreN X0.here hx rfl (hb hby at_23) rfl (l' := #[.val (.int p1), .val (.int p2), .val (.int (0 : Int32)), .val (.int (0 : Int32)), .unset, .unset, .unset, .unset]) rfl ?_
    show Steps p.tables e below (s₁.setTop (mkF m 24 #[.val (.int p1), .val (.int p2), .val (.int (0 : Int32)), .val (.int (0 : Int32)), .unset, .unset, .unset, .unset] [])) _
    refine XS.iloadN X0.here hx rfl (hb hby at_24) rfl ?_
    show Steps p.tables e below (s₁.setTop (mkF m 25 #[.val (.int p1), .val (.int p2), .val (.int (0 : Int32)), .val (.int (0 : Int32)), .unset, .unset, .unset, .unset] [(.int (0 : Int32))])) _
    refine XS.ifYes X0.here hx rfl (pc0 := 25) (pc' := 34) rfl (hb hby at_25) rfl ((if0 _ _).trans (teq (rfl : (0 : Int32) = (0 : Int32))).1) (by decide) (by decide) ?_
    show Steps p.tables e below (s₁.setTop (mkF m 34 #[.val (.int p1), .val (.int p2), .val (.int (0 : Int32)), .val (.int (0 : Int32)), .unset, .unset, .unset, .unset] [])) _
    refine st4 _ ?_
    show Steps p.tables e below (T4.setTop (mkF m 37 #[.val (.int p1), .val (.int p2), .val (.int (0 : Int32)), .val (.int (0 : Int32)), .unset, .unset, .unset, .unset] [(.ref w3)])) _
    refine XS.astore X4.here hx rfl (hb hby at_37) rfl rfl (l' := #[.val (.int p1), .val (.int p2), .val (.int (0 : Int32)), .val (.int (0 : Int32)), .val (.ref w3), .unset, .unset, .unset]) rfl ?_
    show Steps p.tables e below (T4.setTop (mkF m 39 #[.val (.int p1), .val (.int p2), .val (.int (0 : Int32)), .val (.int (0 : Int32)), .val (.ref w3), .unset, .unset, .unset] [])) _
    refine XS.iloadN X4.here hx rfl (hb hby at_39) rfl ?_
    show Steps p.tables e below (T4.setTop (mkF m 40 #[.val (.int p1), .val (.int p2), .val (.int (0 : Int32)), .val (.int (0 : Int32)), .val (.ref w3), .unset, .unset, .unset] [(.int (0 : Int32))])) _
    refine XS.ifYes X4.here hx rfl (pc0 := 40) (pc' := 49) rfl (hb hby at_40) rfl ((if0 _ _).trans (teq (rfl : (0 : Int32) = (0 : Int32))).1) (by decide) (by decide) ?_
    show Steps p.tables e below (T4.setTop (mkF m 49 #[.val (.int p1), .val (.int p2), .val (.int (0 : Int32)), .val (.int (0 : Int32)), .val (.ref w3), .unset, .unset, .unset] [])) _
    refine st5 _ ?_
    show Steps p.tables e below (T5.setTop (mkF m 52 #[.val (.int p1), .val (.int p2), .val (.int (0 : Int32)), .val (.int (0 : Int32)), .val (.ref w3), .unset, .unset, .unset] [(.ref w3)])) _
    refine XS.astore X5.here hx rfl (hb hby at_52) rfl rfl (l' := #[.val (.int p1), .val (.int p2), .val (.int (0 : Int32)), .val (.int (0 : Int32)), .val (.ref w3), .val (.ref w3), .unset, .unset]) rfl ?_
    show Steps p.tables e below (T5.setTop (mkF m 54 #[.val (.int p1), .val (.int p2), .val (.int (0 : Int32)), .val (.int (0 : Int32)), .val (.ref w3), .val (.ref w3), .unset, .unset] [])) _
    refine XS.aload X5.here hx rfl (hb hby at_54) rfl rfl ?_
    show Steps p.tables e below (T5.setTop (mkF m 56 #[.val (.int p1), .val (.int p2), .val (.int (0 : Int32)), .val (.int (0 : Int32)), .val (.ref w3), .val (.ref w3), .unset, .unset] [(.ref w3)])) _
    refine XS.aload X5.here hx rfl (hb hby at_56) rfl rfl ?_
    show Steps p.tables e below (T5.setTop (mkF m 58 #[.val (.int p1), .val (.int p2), .val (.int (0 : Int32)), .val (.int (0 : Int32)), .val (.ref w3), .val (.ref w3), .unset, .unset] [(.ref w3), (.ref w3)])) _
    refine st10.trans ?_
    show Steps p.tables e below (T10.setTop (mkF m 61 #[.val (.int p1), .val (.int p2), .val (.int (0 : Int32)), .val (.int (0 : Int32)), .val (.ref w3), .val (.ref w3), .unset, .unset] [(.ref w3)])) _
    refine XS.astore X10.here hx rfl (hb hby at_61) rfl rfl (l' := #[.val (.int p1), .val (.int p2), .val (.int (0 : Int32)), .val (.int (0 : Int32)), .val (.ref w3), .val (.ref w3), .val (.ref w3), .unset]) rfl ?_
    show Steps p.tables e below (T10.setTop (mkF m 63 #[.val (.int p1), .val (.int p2), .val (.int (0 : Int32)), .val (.int (0 : Int32)), .val (.ref w3), .val (.ref w3), .val (.ref w3), .unset] [])) _
    refine XS.iloadN X10.here hx rfl (hb hby at_63) rfl ?_
    show Steps p.tables e below (T10.setTop (mkF m 64 #[.val (.int p1), .val (.int p2), .val (.int (0 : Int32)), .val (.int (0 : Int32)), .val (.ref w3), .val (.ref w3), .val (.ref w3), .unset] [(.int (0 : Int32))])) _
    refine XS.ifNo X10.here hx rfl (hb hby at_64) rfl ((if0 _ _).trans (teq (rfl : (0 : Int32) = (0 : Int32))).2) ?_
    show Steps p.tables e below (T10.setTop (mkF m 67 #[.val (.int p1), .val (.int p2), .val (.int (0 : Int32)), .val (.int (0 : Int32)), .val (.ref w3), .val (.ref w3), .val (.ref w3), .unset] [])) _
    refine XS.iloadN X10.here hx rfl (hb hby at_67) rfl ?_
    show Steps p.tables e below (T10.setTop (mkF m 68 #[.val (.int p1), .val (.int p2), .val (.int (0 : Int32)), .val (.int (0 : Int32)), .val (.ref w3), .val (.ref w3), .val (.ref w3), .unset] [(.int (0 : Int32))])) _
    refine XS.ifYes X10.here hx rfl (pc0 := 68) (pc' := 77) rfl (hb hby at_68) rfl ((if0 _ _).trans (teq (rfl : (0 : Int32) = (0 : Int32))).1) (by decide) (by decide) ?_
    show Steps p.tables e below (T10.setTop (mkF m 77 #[.val (.int p1), .val (.int p2), .val (.int (0 : Int32)), .val (.int (0 : Int32)), .val (.ref w3), .val (.ref w3), .val (.ref w3), .unset] [])) _
    refine st12 _ ?_
    show Steps p.tables e below (T12.setTop (mkF m 80 #[.val (.int p1), .val (.int p2), .val (.int (0 : Int32)), .val (.int (0 : Int32)), .val (.ref w3), .val (.ref w3), .val (.ref w3), .unset] [(.ref w3)])) _
    refine XS.astore X12.here hx rfl (hb hby at_80) rfl rfl (l' := #[.val (.int p1), .val (.int p2), .val (.int (0 : Int32)), .val (.int (0 : Int32)), .val (.ref w3), .val (.ref w3), .val (.ref w3), .val (.ref w3)]) rfl ?_
    show Steps p.tables e below (T12.setTop (mkF m 82 #[.val (.int p1), .val (.int p2), .val (.int (0 : Int32)), .val (.int (0 : Int32)), .val (.ref w3), .val (.ref w3), .val (.ref w3), .val (.ref w3)] [])) _
    refine XS.aload X12.here hx rfl (hb hby at_82) rfl rfl ?_
    show Steps p.tables e below (T12.setTop (mkF m 84 #[.val (.int p1), .val (.int p2), .val (.int (0 : Int32)), .val (.int (0 : Int32)), .val (.ref w3), .val (.ref w3), .val (.ref w3), .val (.ref w3)] [(.ref w3)])) _
    refine XS.aload X12.here hx rfl (hb hby at_84) rfl rfl ?_
    show Steps p.tables e below (T12.setTop (mkF m 86 #[.val (.int p1), .val (.int p2), .val (.int (0 : Int32)), .val (.int (0 : Int32)), .val (.ref w3), .val (.ref w3), .val (.ref w3), .val (.ref w3)] [(.ref w3), (.ref w3)])) _
    refine Jvm.RoadKit.acmp (g := (mkF m 86 #[.val (.int p1), .val (.int p2), .val (.int (0 : Int32)), .val (.int (0 : Int32)), .val (.ref w3), .val (.ref w3), .val (.ref w3), .val (.ref w3)] [(.ref w3), (.ref w3)])) X12 hx rfl rfl rfl (pc0 := 86) (pc' := 89) (same := true) rfl (hb hby at_86) rfl (decide_eq_true rfl) (by decide) (by decide) ?_
    show Steps p.tables e below (T12.setTop (mkF m 89 #[.val (.int p1), .val (.int p2), .val (.int (0 : Int32)), .val (.int (0 : Int32)), .val (.ref w3), .val (.ref w3), .val (.ref w3), .val (.ref w3)] [])) _
    refine XS.iconst X12.here hx rfl (hb hby at_89) ?_
    show Steps p.tables e below (T12.setTop (mkF m 90 #[.val (.int p1), .val (.int p2), .val (.int (0 : Int32)), .val (.int (0 : Int32)), .val (.ref w3), .val (.ref w3), .val (.ref w3), .val (.ref w3)] [(.int (1 : Int32))])) _
    refine XS.goto X12.here hx rfl (pc0 := 90) (pc' := 94) rfl (hb hby at_90) (by decide) (by decide) ?_
    show Steps p.tables e below (T12.setTop (mkF m 94 #[.val (.int p1), .val (.int p2), .val (.int (0 : Int32)), .val (.int (0 : Int32)), .val (.ref w3), .val (.ref w3), .val (.ref w3), .val (.ref w3)] [(.int (1 : Int32))])) _
    exact retN X12 hx (t := .boolean) Bd.returns (by simp) (hb hby at_94) hr
  · show OQl (some (.int (1 : Int32))) n0 _ T12.heap _
    exact ⟨rfl, N10⟩
set_option maxRecDepth 65536 in
set_option maxHeartbeats 40000000 in
theorem r0_2 (l : Launch) (Z : State) (a0 : Array Value) (hw : ∀ d ∈ tables_1, d.before a0 Z = true) (p13 : Int32) (p14 : Int32) (w15 : Addr) (w17 : Addr) (h0 : Heap) (n0 : Nat) (Z0 : n0 ≤ h0.size) (H0 : (p13 &&& (1 : Int32)) = (0 : Int32)) (H1 : ¬ ((p14 &&& (1 : Int32)) = (0 : Int32))) (H2 : Sta Z h0 "com/example/resense/resense/lexicon/Match" "PARTIAL" "Lcom/example/resense/resense/lexicon/Match;" (.ref w15)) (H3 : Sta Z h0 "com/example/resense/resense/lexicon/Match" "FULL" "Lcom/example/resense/resense/lexicon/Match;" (.ref w17)) (H4 : w15 ≠ w17) (H5 : Exa Z h0 w15 "com/example/resense/resense/lexicon/Match") :
    OMet l Z x code maxLocals ret tables_1 room_1 h0 #[(.int p13), (.int p14)] (OQl (some (.int (1 : Int32))) n0) := by
  refine MetFree.of_bodySF (plainFor_of_name pn_com_example_resense_resense_lexicon_MatchOrPinLaw) hisR ?_
  intro p e s m args below meth c s₁ Bd hml0 hP hK
  obtain ⟨rfl, hZ, hh⟩ := hP
  have hx := Bd.exec
  have hby := Bd.bytes
  have hml : c.maxLocals = 8 := hml0
  have hown : s.vm.findClass "com/example/resense/resense/lexicon/MatchOrPinLaw" = some m.cls := findClass_of_methodNamed Bd.named
  have hnm := (name_of_methodNamed Bd.named Bd.method).1
  have X0 : Stand p l e room_1 s m #[(.int p13), (.int p14)] below meth c s₁ [] 0 0 := Stand.of_body Bd
  have e0 : s₁.heap = h0 := by rw [← hh, Bd.state]; rfl
  have N0 := Fr.nil n0
  have pre0 : ∀ t, Steps p.tables e below (s₁.setTop (mkF m 0 #[.val (.int p13), .val (.int p14), .unset, .unset, .unset, .unset, .unset, .unset] [])) t → Steps p.tables e below (s₁.setTop (entryFrame m #[(.int p13), (.int p14)] maxLocals)) t := fun t k => castTop (ef_0_vv m p13 p14) k
  obtain ⟨T16, X16, e16, st16⟩ := getS2 X0 hx hZ hown (host := "") (Or.inl (hw _ (List.mem_of_getElem? (i := 0) rfl))) Via.refl e0 H2 (g := (mkF m 34 #[.val (.int p13), .val (.int p14), .val (.int (0 : Int32)), .val (.int (1 : Int32)), .unset, .unset, .unset, .unset] [])) rfl (hb hby at_34)
  obtain ⟨T18, X18, e18, st18⟩ := getS2 X16 hx hZ hown (host := "") (Or.inl (hw _ (List.mem_of_getElem? (i := 3) rfl))) Via.refl e16 H3 (g := (mkF m 43 #[.val (.int p13), .val (.int p14), .val (.int (0 : Int32)), .val (.int (1 : Int32)), .val (.ref w15), .unset, .unset, .unset] [])) rfl (hb hby at_43)
  obtain ⟨cq23, kq23, q23a, q23b, q23c⟩ := isOf hZ e18 H5
  obtain ⟨_, _, ⟨T23, L23, k23, n23⟩, -, X23, ⟨Lc23, hQ23, l23, y23, z23⟩, st23⟩ := X18.virtualBack hx (y := (⟨"com/example/resense/resense/lexicon/Match", "or", "(Lcom/example/resense/resense/lexicon/Match;)Lcom/example/resense/resense/lexicon/Match;"⟩ : MethodName)) (z := (⟨"com/example/resense/resense/lexicon/Match", "or", "(Lcom/example/resense/resense/lexicon/Match;)Lcom/example/resense/resense/lexicon/Match;"⟩ : MethodName)) hown (mvT hZ (hw _ (List.mem_of_getElem? (i := 5) rfl))) (mvT hZ (hw _ (List.mem_of_getElem? (i := 6) rfl))) (notFace_of_selects (args := #[]) (mvT hZ (hw _ (List.mem_of_getElem? (i := 8) rfl)))) (mvT hZ (hw _ (List.mem_of_getElem? (i := 8) rfl))) (mvT hZ (hw _ (List.mem_of_getElem? (i := 7) rfl))) (by decide) (backOf (W := 0) (r1_1 l Z a0 hw w15 w17 w17 h0 n0 Z0 H3 H4) hZ (hw _ (List.mem_of_getElem? (i := 9) rfl)) (hw _ (List.mem_of_getElem? (i := 1) rfl)) (by decide) (by decide)) q23a q23c (g := (mkF m 58 #[.val (.int p13), .val (.int p14), .val (.int (0 : Int32)), .val (.int (1 : Int32)), .val (.ref w15), .val (.ref w17), .unset, .unset] [(.ref w17), (.ref w15)])) rfl (by rw [hml]; rfl) (Steps.refl _) (argsL := [(.ref w17)]) (rest := []) (lenOf pd_0 rfl) rfl (by show 2 * 0 + _ ≤ _; exact Nat.le_of_eq rfl) (hb hby at_58) (fun _ _ => ⟨rfl, e18, (by decide : 0 + 0 ≤ _), (by decide : 0 + 0 ≤ _)⟩)
  dsimp only [Pt.U, Pt.locs, Pt.cells, Pt.slots] at X23 l23 y23 z23 st23 hQ23
  subst l23 y23 z23
  obtain ⟨rfl, N23q, e23⟩ := hQ23
  have N23 := Fr.app N0 N23q
  obtain ⟨T24, X24, e24, st24⟩ := getS2 X23 hx hZ hown (host := "") (Or.inl (hw _ (List.mem_of_getElem? (i := 3) rfl))) Via.refl e23 H3 (g := (mkF m 71 #[.val (.int p13), .val (.int p14), .val (.int (0 : Int32)), .val (.int (1 : Int32)), .val (.ref w15), .val (.ref w17), .val (.ref w17), .unset] [])) rfl (hb hby at_71)
  obtain ⟨fs, hr, hrun, hended, hW, hsame⟩ := X24.leave (v := some (.int (1 : Int32))) (fun h => by rw [Bd.returns] at h; cases h)
  refine ⟨_, _, pre0 _ ?_, hrun, hended, _, _, rfl, ?_, ⟨_, rfl⟩, hW, hsame.mono (by decide) (by decide)⟩
  · show Steps p.tables e below (s₁.setTop (mkF m 0 #[.val (.int p13), .val (.int p14), .unset, .unset, .unset, .unset, .unset, .unset] [])) _
    refine XS.iloadN X0.here hx rfl (hb hby at_0) rfl ?_
    show Steps p.tables e below (s₁.setTop (mkF m 1 #[.val (.int p13), .val (.int p14), .unset, .unset, .unset, .unset, .unset, .unset] [(.int p13)])) _
    refine XS.iconst X0.here hx rfl (hb hby at_1) ?_
    show Steps p.tables e below (s₁.setTop (mkF m 2 #[.val (.int p13), .val (.int p14), .unset, .unset, .unset, .unset, .unset, .unset] [(.int (1 : Int32)), (.int p13)])) _
    refine XS.iand X0.here hx rfl (hb hby at_2) rfl ?_
    show Steps p.tables e below (s₁.setTop (mkF m 3 #[.val (.int p13), .val (.int p14), .unset, .unset, .unset, .unset, .unset, .unset] [(.int (p13 &&& (1 : Int32)))])) _
    refine XS.ifYes X0.here hx rfl (pc0 := 3) (pc' := 10) rfl (hb hby at_3) rfl ((if0 _ _).trans (teq H0).1) (by decide) (by decide) ?_
    show Steps p.tables e below (s₁.setTop (mkF m 10 #[.val (.int p13), .val (.int p14), .unset, .unset, .unset, .unset, .unset, .unset] [])) _
    refine XS.iconst X0.here hx rfl (hb hby at_10) ?_
    show Steps p.tables e below (s₁.setTop (mkF m 11 #[.val (.int p13), .val (.int p14), .unset, .unset, .unset, .unset, .unset, .unset] [(.int (0 : Int32))])) _
    refine XS.istoreN X0.here hx rfl (hb hby at_11) rfl (l' := #[.val (.int p13), .val (.int p14), .val (.int (0 : Int32)), .unset, .unset, .unset, .unset, .unset]) rfl ?_
    show Steps p.tables e below (s₁.setTop (mkF m 12 #[.val (.int p13), .val (.int p14), .val (.int (0 : Int32)), .unset, .unset, .unset, .unset, .unset] [])) _
    refine XS.iloadN X0.here hx rfl (hb hby at_12) rfl ?_
    show Steps p.tables e below (s₁.setTop (mkF m 13 #[.val (.int p13), .val (.int p14), .val (.int (0 : Int32)), .unset, .unset, .unset, .unset, .unset] [(.int p14)])) _
    refine XS.iconst X0.here hx rfl (hb hby at_13) ?_
    show Steps p.tables e below (s₁.setTop (mkF m 14 #[.val (.int p13), .val (.int p14), .val (.int (0 : Int32)), .unset, .unset, .unset, .unset, .unset] [(.int (1 : Int32)), (.int p14)])) _
    refine XS.iand X0.here hx rfl (hb hby at_14) rfl ?_
    show Steps p.tables e below (s₁.setTop (mkF m 15 #[.val (.int p13), .val (.int p14), .val (.int (0 : Int32)), .unset, .unset, .unset, .unset, .unset] [(.int (p14 &&& (1 : Int32)))])) _
    refine XS.ifNo X0.here hx rfl (hb hby at_15) rfl ((if0 _ _).trans (feq H1).1) ?_
    show Steps p.tables e below (s₁.setTop (mkF m 18 #[.val (.int p13), .val (.int p14), .val (.int (0 : Int32)), .unset, .unset, .unset, .unset, .unset] [])) _
    refine XS.iconst X0.here hx rfl (hb hby at_18) ?_
    show Steps p.tables e below (s₁.setTop (mkF m 19 #[.val (.int p13), .val (.int p14), .val (.int (0 : Int32)), .unset, .unset, .unset, .unset, .unset] [(.int (1 : Int32))])) _
    refine XS.goto X0.here hx rfl (pc0 := 19) (pc' := 23) rfl (hb hby at_19) (by decide) (by decide) ?_
    show Steps p.tables e below (s₁.setTop (mkF m 23 #[.val (.int p13), .val (.int p14), .val (.int (0 : Int32)), .unset, .unset, .unset, .unset, .unset] [(.int (1 : Int32))])) _
    refine XS.istoreN X0.here hx rfl (hb hby at_23) rfl (l' := #[.val (.int p13), .val (.int p14), .val (.int (0 : Int32)), .val (.int (1 : Int32)), .unset, .unset, .unset, .unset]) rfl ?_
    show Steps p.tables e below (s₁.setTop (mkF m 24 #[.val (.int p13), .val (.int p14), .val (.int (0 : Int32)), .val (.int (1 : Int32)), .unset, .unset, .unset, .unset] [])) _
    refine XS.iloadN X0.here hx rfl (hb hby at_24) rfl ?_
    show Steps p.tables e below (s₁.setTop (mkF m 25 #[.val (.int p13), .val (.int p14), .val (.int (0 : Int32)), .val (.int (1 : Int32)), .unset, .unset, .unset, .unset] [(.int (0 : Int32))])) _
    refine XS.ifYes X0.here hx rfl (pc0 := 25) (pc' := 34) rfl (hb hby at_25) rfl ((if0 _ _).trans (teq (rfl : (0 : Int32) = (0 : Int32))).1) (by decide) (by decide) ?_
    show Steps p.tables e below (s₁.setTop (mkF m 34 #[.val (.int p13), .val (.int p14), .val (.int (0 : Int32)), .val (.int (1 : Int32)), .unset, .unset, .unset, .unset] [])) _
    refine st16 _ ?_
    show Steps p.tables e below (T16.setTop (mkF m 37 #[.val (.int p13), .val (.int p14), .val (.int (0 : Int32)), .val (.int (1 : Int32)), .unset, .unset, .unset, .unset] [(.ref w15)])) _
    refine XS.astore X16.here hx rfl (hb hby at_37) rfl rfl (l' := #[.val (.int p13), .val (.int p14), .val (.int (0 : Int32)), .val (.int (1 : Int32)), .val (.ref w15), .unset, .unset, .unset]) rfl ?_
    show Steps p.tables e below (T16.setTop (mkF m 39 #[.val (.int p13), .val (.int p14), .val (.int (0 : Int32)), .val (.int (1 : Int32)), .val (.ref w15), .unset, .unset, .unset] [])) _
    refine XS.iloadN X16.here hx rfl (hb hby at_39) rfl ?_
    show Steps p.tables e below (T16.setTop (mkF m 40 #[.val (.int p13), .val (.int p14), .val (.int (0 : Int32)), .val (.int (1 : Int32)), .val (.ref w15), .unset, .unset, .unset] [(.int (1 : Int32))])) _
    refine XS.ifNo X16.here hx rfl (hb hby at_40) rfl ((if0 _ _).trans (feq (by decide : ¬ ((1 : Int32) = (0 : Int32)))).1) ?_
    show Steps p.tables e below (T16.setTop (mkF m 43 #[.val (.int p13), .val (.int p14), .val (.int (0 : Int32)), .val (.int (1 : Int32)), .val (.ref w15), .unset, .unset, .unset] [])) _
    refine st18 _ ?_
    show Steps p.tables e below (T18.setTop (mkF m 46 #[.val (.int p13), .val (.int p14), .val (.int (0 : Int32)), .val (.int (1 : Int32)), .val (.ref w15), .unset, .unset, .unset] [(.ref w17)])) _
    refine XS.goto X18.here hx rfl (pc0 := 46) (pc' := 52) rfl (hb hby at_46) (by decide) (by decide) ?_
    show Steps p.tables e below (T18.setTop (mkF m 52 #[.val (.int p13), .val (.int p14), .val (.int (0 : Int32)), .val (.int (1 : Int32)), .val (.ref w15), .unset, .unset, .unset] [(.ref w17)])) _
    refine XS.astore X18.here hx rfl (hb hby at_52) rfl rfl (l' := #[.val (.int p13), .val (.int p14), .val (.int (0 : Int32)), .val (.int (1 : Int32)), .val (.ref w15), .val (.ref w17), .unset, .unset]) rfl ?_
    show Steps p.tables e below (T18.setTop (mkF m 54 #[.val (.int p13), .val (.int p14), .val (.int (0 : Int32)), .val (.int (1 : Int32)), .val (.ref w15), .val (.ref w17), .unset, .unset] [])) _
    refine XS.aload X18.here hx rfl (hb hby at_54) rfl rfl ?_
    show Steps p.tables e below (T18.setTop (mkF m 56 #[.val (.int p13), .val (.int p14), .val (.int (0 : Int32)), .val (.int (1 : Int32)), .val (.ref w15), .val (.ref w17), .unset, .unset] [(.ref w15)])) _
    refine XS.aload X18.here hx rfl (hb hby at_56) rfl rfl ?_
    show Steps p.tables e below (T18.setTop (mkF m 58 #[.val (.int p13), .val (.int p14), .val (.int (0 : Int32)), .val (.int (1 : Int32)), .val (.ref w15), .val (.ref w17), .unset, .unset] [(.ref w17), (.ref w15)])) _
    refine st23.trans ?_
    show Steps p.tables e below (T23.setTop (mkF m 61 #[.val (.int p13), .val (.int p14), .val (.int (0 : Int32)), .val (.int (1 : Int32)), .val (.ref w15), .val (.ref w17), .unset, .unset] [(.ref w17)])) _
    refine XS.astore X23.here hx rfl (hb hby at_61) rfl rfl (l' := #[.val (.int p13), .val (.int p14), .val (.int (0 : Int32)), .val (.int (1 : Int32)), .val (.ref w15), .val (.ref w17), .val (.ref w17), .unset]) rfl ?_
    show Steps p.tables e below (T23.setTop (mkF m 63 #[.val (.int p13), .val (.int p14), .val (.int (0 : Int32)), .val (.int (1 : Int32)), .val (.ref w15), .val (.ref w17), .val (.ref w17), .unset] [])) _
    refine XS.iloadN X23.here hx rfl (hb hby at_63) rfl ?_
    show Steps p.tables e below (T23.setTop (mkF m 64 #[.val (.int p13), .val (.int p14), .val (.int (0 : Int32)), .val (.int (1 : Int32)), .val (.ref w15), .val (.ref w17), .val (.ref w17), .unset] [(.int (0 : Int32))])) _
    refine XS.ifNo X23.here hx rfl (hb hby at_64) rfl ((if0 _ _).trans (teq (rfl : (0 : Int32) = (0 : Int32))).2) ?_
    show Steps p.tables e below (T23.setTop (mkF m 67 #[.val (.int p13), .val (.int p14), .val (.int (0 : Int32)), .val (.int (1 : Int32)), .val (.ref w15), .val (.ref w17), .val (.ref w17), .unset] [])) _
    refine XS.iloadN X23.here hx rfl (hb hby at_67) rfl ?_
    show Steps p.tables e below (T23.setTop (mkF m 68 #[.val (.int p13), .val (.int p14), .val (.int (0 : Int32)), .val (.int (1 : Int32)), .val (.ref w15), .val (.ref w17), .val (.ref w17), .unset] [(.int (1 : Int32))])) _
    refine XS.ifNo X23.here hx rfl (hb hby at_68) rfl ((if0 _ _).trans (feq (by decide : ¬ ((1 : Int32) = (0 : Int32)))).1) ?_
    show Steps p.tables e below (T23.setTop (mkF m 71 #[.val (.int p13), .val (.int p14), .val (.int (0 : Int32)), .val (.int (1 : Int32)), .val (.ref w15), .val (.ref w17), .val (.ref w17), .unset] [])) _
    refine st24 _ ?_
    show Steps p.tables e below (T24.setTop (mkF m 74 #[.val (.int p13), .val (.int p14), .val (.int (0 : Int32)), .val (.int (1 : Int32)), .val (.ref w15), .val (.ref w17), .val (.ref w17), .unset] [(.ref w17)])) _
    refine XS.goto X24.here hx rfl (pc0 := 74) (pc' := 80) rfl (hb hby at_74) (by decide) (by decide) ?_
    show Steps p.tables e below (T24.setTop (mkF m 80 #[.val (.int p13), .val (.int p14), .val (.int (0 : Int32)), .val (.int (1 : Int32)), .val (.ref w15), .val (.ref w17), .val (.ref w17), .unset] [(.ref w17)])) _
    refine XS.astore X24.here hx rfl (hb hby at_80) rfl rfl (l' := #[.val (.int p13), .val (.int p14), .val (.int (0 : Int32)), .val (.int (1 : Int32)), .val (.ref w15), .val (.ref w17), .val (.ref w17), .val (.ref w17)]) rfl ?_
    show Steps p.tables e below (T24.setTop (mkF m 82 #[.val (.int p13), .val (.int p14), .val (.int (0 : Int32)), .val (.int (1 : Int32)), .val (.ref w15), .val (.ref w17), .val (.ref w17), .val (.ref w17)] [])) _
    refine XS.aload X24.here hx rfl (hb hby at_82) rfl rfl ?_
    show Steps p.tables e below (T24.setTop (mkF m 84 #[.val (.int p13), .val (.int p14), .val (.int (0 : Int32)), .val (.int (1 : Int32)), .val (.ref w15), .val (.ref w17), .val (.ref w17), .val (.ref w17)] [(.ref w17)])) _
    refine XS.aload X24.here hx rfl (hb hby at_84) rfl rfl ?_
    show Steps p.tables e below (T24.setTop (mkF m 86 #[.val (.int p13), .val (.int p14), .val (.int (0 : Int32)), .val (.int (1 : Int32)), .val (.ref w15), .val (.ref w17), .val (.ref w17), .val (.ref w17)] [(.ref w17), (.ref w17)])) _
    refine Jvm.RoadKit.acmp (g := (mkF m 86 #[.val (.int p13), .val (.int p14), .val (.int (0 : Int32)), .val (.int (1 : Int32)), .val (.ref w15), .val (.ref w17), .val (.ref w17), .val (.ref w17)] [(.ref w17), (.ref w17)])) X24 hx rfl rfl rfl (pc0 := 86) (pc' := 89) (same := true) rfl (hb hby at_86) rfl (decide_eq_true rfl) (by decide) (by decide) ?_
    show Steps p.tables e below (T24.setTop (mkF m 89 #[.val (.int p13), .val (.int p14), .val (.int (0 : Int32)), .val (.int (1 : Int32)), .val (.ref w15), .val (.ref w17), .val (.ref w17), .val (.ref w17)] [])) _
    refine XS.iconst X24.here hx rfl (hb hby at_89) ?_
    show Steps p.tables e below (T24.setTop (mkF m 90 #[.val (.int p13), .val (.int p14), .val (.int (0 : Int32)), .val (.int (1 : Int32)), .val (.ref w15), .val (.ref w17), .val (.ref w17), .val (.ref w17)] [(.int (1 : Int32))])) _
    refine XS.goto X24.here hx rfl (pc0 := 90) (pc' := 94) rfl (hb hby at_90) (by decide) (by decide) ?_
    show Steps p.tables e below (T24.setTop (mkF m 94 #[.val (.int p13), .val (.int p14), .val (.int (0 : Int32)), .val (.int (1 : Int32)), .val (.ref w15), .val (.ref w17), .val (.ref w17), .val (.ref w17)] [(.int (1 : Int32))])) _
    exact retN X24 hx (t := .boolean) Bd.returns (by simp) (hb hby at_94) hr
  · show OQl (some (.int (1 : Int32))) n0 _ T24.heap _
    exact ⟨rfl, N23⟩
theorem d1_7 : decode prog_28_method_6_code 7 = .ok (.getstatic 3, 3) := by decide +kernel
theorem d1_10 : decode prog_28_method_6_code 10 = .ok (.goto 4, 3) := by decide +kernel
set_option maxRecDepth 65536 in
set_option maxHeartbeats 40000000 in
theorem r1_2 (l : Launch) (Z : State) (a0 : Array Value) (hw : ∀ d ∈ tables_1, d.before a0 Z = true) (a31 : Addr) (a32 : Addr) (w33 : Addr) (h0 : Heap) (n0 : Nat) (Z0 : n0 ≤ h0.size) (H0 : Sta Z h0 "com/example/resense/resense/lexicon/Match" "FULL" "Lcom/example/resense/resense/lexicon/Match;" (.ref w33)) (H1 : a31 = w33) :
    OMet l Z (⟨"com/example/resense/resense/lexicon/Match", "or", "(Lcom/example/resense/resense/lexicon/Match;)Lcom/example/resense/resense/lexicon/Match;"⟩ : MethodName) prog_28_method_6_code 2 (some (.object "com/example/resense/resense/lexicon/Match")) [] ({ frames := 0, cells := 0, slots := 0, locals := 0 } : Room) h0 #[(.ref a31), (.ref a32)] (OQp (some (.ref w33)) h0 n0) := by
  refine MetFree.of_bodySF (plainFor_of_name pn_com_example_resense_resense_lexicon_Match) hisR ?_
  intro p e s m args below meth c s₁ Bd hml0 hP hK
  obtain ⟨rfl, hZ, hh⟩ := hP
  have hx := Bd.exec
  have hby := Bd.bytes
  have hml : c.maxLocals = 2 := hml0
  have hown : s.vm.findClass "com/example/resense/resense/lexicon/Match" = some m.cls := findClass_of_methodNamed Bd.named
  have hnm := (name_of_methodNamed Bd.named Bd.method).1
  have X0 : Stand p l e ({ frames := 0, cells := 0, slots := 0, locals := 0 } : Room) s m #[(.ref a31), (.ref a32)] below meth c s₁ [] 0 0 := Stand.of_body Bd
  have e0 : s₁.heap = h0 := by rw [← hh, Bd.state]; rfl
  have N0 := Fr.nil n0
  have pre0 : ∀ t, Steps p.tables e below (s₁.setTop (mkF m 0 #[.val (.ref a31), .val (.ref a32)] [])) t → Steps p.tables e below (s₁.setTop (entryFrame m #[(.ref a31), (.ref a32)] 2)) t := fun t k => castTop (ef_1_vv m a31 a32) k
  obtain ⟨T34, X34, e34, st34⟩ := getS2 X0 hx hZ hown (host := "") (Or.inl (hw _ (List.mem_of_getElem? (i := 10) rfl))) Via.refl e0 H0 (g := (mkF m 1 #[.val (.ref a31), .val (.ref a32)] [(.ref a31)])) rfl (hb hby d1_1)
  obtain ⟨T35, X35, e35, st35⟩ := getS2 X34 hx hZ hown (host := "") (Or.inl (hw _ (List.mem_of_getElem? (i := 10) rfl))) Via.refl e34 H0 (g := (mkF m 7 #[.val (.ref a31), .val (.ref a32)] [])) rfl (hb hby d1_7)
  obtain ⟨fs, hr, hrun, hended, hW, hsame⟩ := X35.leave (v := some (.ref w33)) (fun h => by rw [Bd.returns] at h; cases h)
  refine ⟨_, _, pre0 _ ?_, hrun, hended, _, _, rfl, ?_, ⟨_, rfl⟩, hW, hsame.mono (by decide) (by decide)⟩
  · show Steps p.tables e below (s₁.setTop (mkF m 0 #[.val (.ref a31), .val (.ref a32)] [])) _
    refine XS.aloadN X0.here hx rfl (hb hby d1_0) rfl rfl ?_
    show Steps p.tables e below (s₁.setTop (mkF m 1 #[.val (.ref a31), .val (.ref a32)] [(.ref a31)])) _
    refine st34 _ ?_
    show Steps p.tables e below (T34.setTop (mkF m 4 #[.val (.ref a31), .val (.ref a32)] [(.ref w33), (.ref a31)])) _
    refine Jvm.RoadKit.acmp (g := (mkF m 4 #[.val (.ref a31), .val (.ref a32)] [(.ref w33), (.ref a31)])) X34 hx rfl rfl rfl (pc0 := 4) (pc' := 7) (same := true) rfl (hb hby d1_4) rfl (decide_eq_true (congrArg Value.ref H1)) (by decide) (by decide) ?_
    show Steps p.tables e below (T34.setTop (mkF m 7 #[.val (.ref a31), .val (.ref a32)] [])) _
    refine st35 _ ?_
    show Steps p.tables e below (T35.setTop (mkF m 10 #[.val (.ref a31), .val (.ref a32)] [(.ref w33)])) _
    refine XS.goto X35.here hx rfl (pc0 := 10) (pc' := 14) rfl (hb hby d1_10) (by decide) (by decide) ?_
    show Steps p.tables e below (T35.setTop (mkF m 14 #[.val (.ref a31), .val (.ref a32)] [(.ref w33)])) _
    jvm_step X35.here [X35.here.top, hx, (hb hby d1_14), X35.method', Bd.returns, Value.isRef, FieldType.isReference]
    first | (intro acts; rw [hr _ acts rfl rfl rfl]) | rw [hr _ _ rfl rfl rfl]
    exact Steps.refl _
  · show OQp (some (.ref w33)) h0 n0 _ T35.heap _
    rw [e35]
    exact ⟨rfl, N0, rfl⟩
set_option maxRecDepth 65536 in
set_option maxHeartbeats 40000000 in
theorem r0_3 (l : Launch) (Z : State) (a0 : Array Value) (hw : ∀ d ∈ tables_1, d.before a0 Z = true) (p25 : Int32) (p26 : Int32) (w27 : Addr) (w29 : Addr) (h0 : Heap) (n0 : Nat) (Z0 : n0 ≤ h0.size) (H0 : ¬ ((p25 &&& (1 : Int32)) = (0 : Int32))) (H1 : (p26 &&& (1 : Int32)) = (0 : Int32)) (H2 : Sta Z h0 "com/example/resense/resense/lexicon/Match" "FULL" "Lcom/example/resense/resense/lexicon/Match;" (.ref w27)) (H3 : Sta Z h0 "com/example/resense/resense/lexicon/Match" "PARTIAL" "Lcom/example/resense/resense/lexicon/Match;" (.ref w29)) (H4 : Exa Z h0 w27 "com/example/resense/resense/lexicon/Match") :
    OMet l Z x code maxLocals ret tables_1 room_1 h0 #[(.int p25), (.int p26)] (OQl (some (.int (1 : Int32))) n0) := by
  refine MetFree.of_bodySF (plainFor_of_name pn_com_example_resense_resense_lexicon_MatchOrPinLaw) hisR ?_
  intro p e s m args below meth c s₁ Bd hml0 hP hK
  obtain ⟨rfl, hZ, hh⟩ := hP
  have hx := Bd.exec
  have hby := Bd.bytes
  have hml : c.maxLocals = 8 := hml0
  have hown : s.vm.findClass "com/example/resense/resense/lexicon/MatchOrPinLaw" = some m.cls := findClass_of_methodNamed Bd.named
  have hnm := (name_of_methodNamed Bd.named Bd.method).1
  have X0 : Stand p l e room_1 s m #[(.int p25), (.int p26)] below meth c s₁ [] 0 0 := Stand.of_body Bd
  have e0 : s₁.heap = h0 := by rw [← hh, Bd.state]; rfl
  have N0 := Fr.nil n0
  have pre0 : ∀ t, Steps p.tables e below (s₁.setTop (mkF m 0 #[.val (.int p25), .val (.int p26), .unset, .unset, .unset, .unset, .unset, .unset] [])) t → Steps p.tables e below (s₁.setTop (entryFrame m #[(.int p25), (.int p26)] maxLocals)) t := fun t k => castTop (ef_0_vv m p25 p26) k
  obtain ⟨T28, X28, e28, st28⟩ := getS2 X0 hx hZ hown (host := "") (Or.inl (hw _ (List.mem_of_getElem? (i := 3) rfl))) Via.refl e0 H2 (g := (mkF m 28 #[.val (.int p25), .val (.int p26), .val (.int (1 : Int32)), .val (.int (0 : Int32)), .unset, .unset, .unset, .unset] [])) rfl (hb hby at_28)
  obtain ⟨T30, X30, e30, st30⟩ := getS2 X28 hx hZ hown (host := "") (Or.inl (hw _ (List.mem_of_getElem? (i := 0) rfl))) Via.refl e28 H3 (g := (mkF m 49 #[.val (.int p25), .val (.int p26), .val (.int (1 : Int32)), .val (.int (0 : Int32)), .val (.ref w27), .unset, .unset, .unset] [])) rfl (hb hby at_49)
  obtain ⟨cq36, kq36, q36a, q36b, q36c⟩ := isOf hZ e30 H4
  obtain ⟨_, _, ⟨T36, L36, k36, n36⟩, -, X36, ⟨Lc36, hQ36, l36, y36, z36⟩, st36⟩ := X30.virtualBack hx (y := (⟨"com/example/resense/resense/lexicon/Match", "or", "(Lcom/example/resense/resense/lexicon/Match;)Lcom/example/resense/resense/lexicon/Match;"⟩ : MethodName)) (z := (⟨"com/example/resense/resense/lexicon/Match", "or", "(Lcom/example/resense/resense/lexicon/Match;)Lcom/example/resense/resense/lexicon/Match;"⟩ : MethodName)) hown (mvT hZ (hw _ (List.mem_of_getElem? (i := 5) rfl))) (mvT hZ (hw _ (List.mem_of_getElem? (i := 6) rfl))) (notFace_of_selects (args := #[]) (mvT hZ (hw _ (List.mem_of_getElem? (i := 8) rfl)))) (mvT hZ (hw _ (List.mem_of_getElem? (i := 8) rfl))) (mvT hZ (hw _ (List.mem_of_getElem? (i := 7) rfl))) (by decide) (backOf (W := 0) (r1_2 l Z a0 hw w27 w29 w27 h0 n0 Z0 H2 rfl) hZ (hw _ (List.mem_of_getElem? (i := 9) rfl)) (hw _ (List.mem_of_getElem? (i := 1) rfl)) (by decide) (by decide)) q36a q36c (g := (mkF m 58 #[.val (.int p25), .val (.int p26), .val (.int (1 : Int32)), .val (.int (0 : Int32)), .val (.ref w27), .val (.ref w29), .unset, .unset] [(.ref w29), (.ref w27)])) rfl (by rw [hml]; rfl) (Steps.refl _) (argsL := [(.ref w29)]) (rest := []) (lenOf pd_0 rfl) rfl (by show 2 * 0 + _ ≤ _; exact Nat.le_of_eq rfl) (hb hby at_58) (fun _ _ => ⟨rfl, e30, (by decide : 0 + 0 ≤ _), (by decide : 0 + 0 ≤ _)⟩)
  dsimp only [Pt.U, Pt.locs, Pt.cells, Pt.slots] at X36 l36 y36 z36 st36 hQ36
  subst l36 y36 z36
  obtain ⟨rfl, N36q, e36⟩ := hQ36
  have N36 := Fr.app N0 N36q
  obtain ⟨T37, X37, e37, st37⟩ := getS2 X36 hx hZ hown (host := "") (Or.inl (hw _ (List.mem_of_getElem? (i := 3) rfl))) Via.refl e36 H2 (g := (mkF m 71 #[.val (.int p25), .val (.int p26), .val (.int (1 : Int32)), .val (.int (0 : Int32)), .val (.ref w27), .val (.ref w29), .val (.ref w27), .unset] [])) rfl (hb hby at_71)
  obtain ⟨fs, hr, hrun, hended, hW, hsame⟩ := X37.leave (v := some (.int (1 : Int32))) (fun h => by rw [Bd.returns] at h; cases h)
  refine ⟨_, _, pre0 _ ?_, hrun, hended, _, _, rfl, ?_, ⟨_, rfl⟩, hW, hsame.mono (by decide) (by decide)⟩
  · show Steps p.tables e below (s₁.setTop (mkF m 0 #[.val (.int p25), .val (.int p26), .unset, .unset, .unset, .unset, .unset, .unset] [])) _
    refine XS.iloadN X0.here hx rfl (hb hby at_0) rfl ?_
    show Steps p.tables e below (s₁.setTop (mkF m 1 #[.val (.int p25), .val (.int p26), .unset, .unset, .unset, .unset, .unset, .unset] [(.int p25)])) _
    refine XS.iconst X0.here hx rfl (hb hby at_1) ?_
    show Steps p.tables e below (s₁.setTop (mkF m 2 #[.val (.int p25), .val (.int p26), .unset, .unset, .unset, .unset, .unset, .unset] [(.int (1 : Int32)), (.int p25)])) _
    refine XS.iand X0.here hx rfl (hb hby at_2) rfl ?_
    show Steps p.tables e below (s₁.setTop (mkF m 3 #[.val (.int p25), .val (.int p26), .unset, .unset, .unset, .unset, .unset, .unset] [(.int (p25 &&& (1 : Int32)))])) _
    refine XS.ifNo X0.here hx rfl (hb hby at_3) rfl ((if0 _ _).trans (feq H0).1) ?_
    show Steps p.tables e below (s₁.setTop (mkF m 6 #[.val (.int p25), .val (.int p26), .unset, .unset, .unset, .unset, .unset, .unset] [])) _
    refine XS.iconst X0.here hx rfl (hb hby at_6) ?_
    show Steps p.tables e below (s₁.setTop (mkF m 7 #[.val (.int p25), .val (.int p26), .unset, .unset, .unset, .unset, .unset, .unset] [(.int (1 : Int32))])) _
    refine XS.goto X0.here hx rfl (pc0 := 7) (pc' := 11) rfl (hb hby at_7) (by decide) (by decide) ?_
    show Steps p.tables e below (s₁.setTop (mkF m 11 #[.val (.int p25), .val (.int p26), .unset, .unset, .unset, .unset, .unset, .unset] [(.int (1 : Int32))])) _
    refine XS.istoreN X0.here hx rfl (hb hby at_11) rfl (l' := #[.val (.int p25), .val (.int p26), .val (.int (1 : Int32)), .unset, .unset, .unset, .unset, .unset]) rfl ?_
    show Steps p.tables e below (s₁.setTop (mkF m 12 #[.val (.int p25), .val (.int p26), .val (.int (1 : Int32)), .unset, .unset, .unset, .unset, .unset] [])) _
    refine XS.iloadN X0.here hx rfl (hb hby at_12) rfl ?_
    show Steps p.tables e below (s₁.setTop (mkF m 13 #[.val (.int p25), .val (.int p26), .val (.int (1 : Int32)), .unset, .unset, .unset, .unset, .unset] [(.int p26)])) _
    refine XS.iconst X0.here hx rfl (hb hby at_13) ?_
    show Steps p.tables e below (s₁.setTop (mkF m 14 #[.val (.int p25), .val (.int p26), .val (.int (1 : Int32)), .unset, .unset, .unset, .unset, .unset] [(.int (1 : Int32)), (.int p26)])) _
    refine XS.iand X0.here hx rfl (hb hby at_14) rfl ?_
    show Steps p.tables e below (s₁.setTop (mkF m 15 #[.val (.int p25), .val (.int p26), .val (.int (1 : Int32)), .unset, .unset, .unset, .unset, .unset] [(.int (p26 &&& (1 : Int32)))])) _
    refine XS.ifYes X0.here hx rfl (pc0 := 15) (pc' := 22) rfl (hb hby at_15) rfl ((if0 _ _).trans (teq H1).1) (by decide) (by decide) ?_
    show Steps p.tables e below (s₁.setTop (mkF m 22 #[.val (.int p25), .val (.int p26), .val (.int (1 : Int32)), .unset, .unset, .unset, .unset, .unset] [])) _
    refine XS.iconst X0.here hx rfl (hb hby at_22) ?_
    show Steps p.tables e below (s₁.setTop (mkF m 23 #[.val (.int p25), .val (.int p26), .val (.int (1 : Int32)), .unset, .unset, .unset, .unset, .unset] [(.int (0 : Int32))])) _
    refine XS.istoreN X0.here hx rfl (hb hby at_23) rfl (l' := #[.val (.int p25), .val (.int p26), .val (.int (1 : Int32)), .val (.int (0 : Int32)), .unset, .unset, .unset, .unset]) rfl ?_
    show Steps p.tables e below (s₁.setTop (mkF m 24 #[.val (.int p25), .val (.int p26), .val (.int (1 : Int32)), .val (.int (0 : Int32)), .unset, .unset, .unset, .unset] [])) _
    refine XS.iloadN X0.here hx rfl (hb hby at_24) rfl ?_
    show Steps p.tables e below (s₁.setTop (mkF m 25 #[.val (.int p25), .val (.int p26), .val (.int (1 : Int32)), .val (.int (0 : Int32)), .unset, .unset, .unset, .unset] [(.int (1 : Int32))])) _
    refine XS.ifNo X0.here hx rfl (hb hby at_25) rfl ((if0 _ _).trans (feq (by decide : ¬ ((1 : Int32) = (0 : Int32)))).1) ?_
    show Steps p.tables e below (s₁.setTop (mkF m 28 #[.val (.int p25), .val (.int p26), .val (.int (1 : Int32)), .val (.int (0 : Int32)), .unset, .unset, .unset, .unset] [])) _
    refine st28 _ ?_
    show Steps p.tables e below (T28.setTop (mkF m 31 #[.val (.int p25), .val (.int p26), .val (.int (1 : Int32)), .val (.int (0 : Int32)), .unset, .unset, .unset, .unset] [(.ref w27)])) _
    refine XS.goto X28.here hx rfl (pc0 := 31) (pc' := 37) rfl (hb hby at_31) (by decide) (by decide) ?_
    show Steps p.tables e below (T28.setTop (mkF m 37 #[.val (.int p25), .val (.int p26), .val (.int (1 : Int32)), .val (.int (0 : Int32)), .unset, .unset, .unset, .unset] [(.ref w27)])) _
    refine XS.astore X28.here hx rfl (hb hby at_37) rfl rfl (l' := #[.val (.int p25), .val (.int p26), .val (.int (1 : Int32)), .val (.int (0 : Int32)), .val (.ref w27), .unset, .unset, .unset]) rfl ?_
    show Steps p.tables e below (T28.setTop (mkF m 39 #[.val (.int p25), .val (.int p26), .val (.int (1 : Int32)), .val (.int (0 : Int32)), .val (.ref w27), .unset, .unset, .unset] [])) _
    refine XS.iloadN X28.here hx rfl (hb hby at_39) rfl ?_
    show Steps p.tables e below (T28.setTop (mkF m 40 #[.val (.int p25), .val (.int p26), .val (.int (1 : Int32)), .val (.int (0 : Int32)), .val (.ref w27), .unset, .unset, .unset] [(.int (0 : Int32))])) _
    refine XS.ifYes X28.here hx rfl (pc0 := 40) (pc' := 49) rfl (hb hby at_40) rfl ((if0 _ _).trans (teq (rfl : (0 : Int32) = (0 : Int32))).1) (by decide) (by decide) ?_
    show Steps p.tables e below (T28.setTop (mkF m 49 #[.val (.int p25), .val (.int p26), .val (.int (1 : Int32)), .val (.int (0 : Int32)), .val (.ref w27), .unset, .unset, .unset] [])) _
    refine st30 _ ?_
    show Steps p.tables e below (T30.setTop (mkF m 52 #[.val (.int p25), .val (.int p26), .val (.int (1 : Int32)), .val (.int (0 : Int32)), .val (.ref w27), .unset, .unset, .unset] [(.ref w29)])) _
    refine XS.astore X30.here hx rfl (hb hby at_52) rfl rfl (l' := #[.val (.int p25), .val (.int p26), .val (.int (1 : Int32)), .val (.int (0 : Int32)), .val (.ref w27), .val (.ref w29), .unset, .unset]) rfl ?_
    show Steps p.tables e below (T30.setTop (mkF m 54 #[.val (.int p25), .val (.int p26), .val (.int (1 : Int32)), .val (.int (0 : Int32)), .val (.ref w27), .val (.ref w29), .unset, .unset] [])) _
    refine XS.aload X30.here hx rfl (hb hby at_54) rfl rfl ?_
    show Steps p.tables e below (T30.setTop (mkF m 56 #[.val (.int p25), .val (.int p26), .val (.int (1 : Int32)), .val (.int (0 : Int32)), .val (.ref w27), .val (.ref w29), .unset, .unset] [(.ref w27)])) _
    refine XS.aload X30.here hx rfl (hb hby at_56) rfl rfl ?_
    show Steps p.tables e below (T30.setTop (mkF m 58 #[.val (.int p25), .val (.int p26), .val (.int (1 : Int32)), .val (.int (0 : Int32)), .val (.ref w27), .val (.ref w29), .unset, .unset] [(.ref w29), (.ref w27)])) _
    refine st36.trans ?_
    show Steps p.tables e below (T36.setTop (mkF m 61 #[.val (.int p25), .val (.int p26), .val (.int (1 : Int32)), .val (.int (0 : Int32)), .val (.ref w27), .val (.ref w29), .unset, .unset] [(.ref w27)])) _
    refine XS.astore X36.here hx rfl (hb hby at_61) rfl rfl (l' := #[.val (.int p25), .val (.int p26), .val (.int (1 : Int32)), .val (.int (0 : Int32)), .val (.ref w27), .val (.ref w29), .val (.ref w27), .unset]) rfl ?_
    show Steps p.tables e below (T36.setTop (mkF m 63 #[.val (.int p25), .val (.int p26), .val (.int (1 : Int32)), .val (.int (0 : Int32)), .val (.ref w27), .val (.ref w29), .val (.ref w27), .unset] [])) _
    refine XS.iloadN X36.here hx rfl (hb hby at_63) rfl ?_
    show Steps p.tables e below (T36.setTop (mkF m 64 #[.val (.int p25), .val (.int p26), .val (.int (1 : Int32)), .val (.int (0 : Int32)), .val (.ref w27), .val (.ref w29), .val (.ref w27), .unset] [(.int (1 : Int32))])) _
    refine XS.ifYes X36.here hx rfl (pc0 := 64) (pc' := 71) rfl (hb hby at_64) rfl ((if0 _ _).trans (feq (by decide : ¬ ((1 : Int32) = (0 : Int32)))).2) (by decide) (by decide) ?_
    show Steps p.tables e below (T36.setTop (mkF m 71 #[.val (.int p25), .val (.int p26), .val (.int (1 : Int32)), .val (.int (0 : Int32)), .val (.ref w27), .val (.ref w29), .val (.ref w27), .unset] [])) _
    refine st37 _ ?_
    show Steps p.tables e below (T37.setTop (mkF m 74 #[.val (.int p25), .val (.int p26), .val (.int (1 : Int32)), .val (.int (0 : Int32)), .val (.ref w27), .val (.ref w29), .val (.ref w27), .unset] [(.ref w27)])) _
    refine XS.goto X37.here hx rfl (pc0 := 74) (pc' := 80) rfl (hb hby at_74) (by decide) (by decide) ?_
    show Steps p.tables e below (T37.setTop (mkF m 80 #[.val (.int p25), .val (.int p26), .val (.int (1 : Int32)), .val (.int (0 : Int32)), .val (.ref w27), .val (.ref w29), .val (.ref w27), .unset] [(.ref w27)])) _
    refine XS.astore X37.here hx rfl (hb hby at_80) rfl rfl (l' := #[.val (.int p25), .val (.int p26), .val (.int (1 : Int32)), .val (.int (0 : Int32)), .val (.ref w27), .val (.ref w29), .val (.ref w27), .val (.ref w27)]) rfl ?_
    show Steps p.tables e below (T37.setTop (mkF m 82 #[.val (.int p25), .val (.int p26), .val (.int (1 : Int32)), .val (.int (0 : Int32)), .val (.ref w27), .val (.ref w29), .val (.ref w27), .val (.ref w27)] [])) _
    refine XS.aload X37.here hx rfl (hb hby at_82) rfl rfl ?_
    show Steps p.tables e below (T37.setTop (mkF m 84 #[.val (.int p25), .val (.int p26), .val (.int (1 : Int32)), .val (.int (0 : Int32)), .val (.ref w27), .val (.ref w29), .val (.ref w27), .val (.ref w27)] [(.ref w27)])) _
    refine XS.aload X37.here hx rfl (hb hby at_84) rfl rfl ?_
    show Steps p.tables e below (T37.setTop (mkF m 86 #[.val (.int p25), .val (.int p26), .val (.int (1 : Int32)), .val (.int (0 : Int32)), .val (.ref w27), .val (.ref w29), .val (.ref w27), .val (.ref w27)] [(.ref w27), (.ref w27)])) _
    refine Jvm.RoadKit.acmp (g := (mkF m 86 #[.val (.int p25), .val (.int p26), .val (.int (1 : Int32)), .val (.int (0 : Int32)), .val (.ref w27), .val (.ref w29), .val (.ref w27), .val (.ref w27)] [(.ref w27), (.ref w27)])) X37 hx rfl rfl rfl (pc0 := 86) (pc' := 89) (same := true) rfl (hb hby at_86) rfl (decide_eq_true rfl) (by decide) (by decide) ?_
    show Steps p.tables e below (T37.setTop (mkF m 89 #[.val (.int p25), .val (.int p26), .val (.int (1 : Int32)), .val (.int (0 : Int32)), .val (.ref w27), .val (.ref w29), .val (.ref w27), .val (.ref w27)] [])) _
    refine XS.iconst X37.here hx rfl (hb hby at_89) ?_
    show Steps p.tables e below (T37.setTop (mkF m 90 #[.val (.int p25), .val (.int p26), .val (.int (1 : Int32)), .val (.int (0 : Int32)), .val (.ref w27), .val (.ref w29), .val (.ref w27), .val (.ref w27)] [(.int (1 : Int32))])) _
    refine XS.goto X37.here hx rfl (pc0 := 90) (pc' := 94) rfl (hb hby at_90) (by decide) (by decide) ?_
    show Steps p.tables e below (T37.setTop (mkF m 94 #[.val (.int p25), .val (.int p26), .val (.int (1 : Int32)), .val (.int (0 : Int32)), .val (.ref w27), .val (.ref w29), .val (.ref w27), .val (.ref w27)] [(.int (1 : Int32))])) _
    exact retN X37 hx (t := .boolean) Bd.returns (by simp) (hb hby at_94) hr
  · show OQl (some (.int (1 : Int32))) n0 _ T37.heap _
    exact ⟨rfl, N36⟩
set_option maxRecDepth 65536 in
set_option maxHeartbeats 40000000 in
theorem r0_4 (l : Launch) (Z : State) (a0 : Array Value) (hw : ∀ d ∈ tables_1, d.before a0 Z = true) (p38 : Int32) (p39 : Int32) (w40 : Addr) (h0 : Heap) (n0 : Nat) (Z0 : n0 ≤ h0.size) (H0 : ¬ ((p38 &&& (1 : Int32)) = (0 : Int32))) (H1 : ¬ ((p39 &&& (1 : Int32)) = (0 : Int32))) (H2 : Sta Z h0 "com/example/resense/resense/lexicon/Match" "FULL" "Lcom/example/resense/resense/lexicon/Match;" (.ref w40)) (H3 : Exa Z h0 w40 "com/example/resense/resense/lexicon/Match") :
    OMet l Z x code maxLocals ret tables_1 room_1 h0 #[(.int p38), (.int p39)] (OQl (some (.int (1 : Int32))) n0) := by
  refine MetFree.of_bodySF (plainFor_of_name pn_com_example_resense_resense_lexicon_MatchOrPinLaw) hisR ?_
  intro p e s m args below meth c s₁ Bd hml0 hP hK
  obtain ⟨rfl, hZ, hh⟩ := hP
  have hx := Bd.exec
  have hby := Bd.bytes
  have hml : c.maxLocals = 8 := hml0
  have hown : s.vm.findClass "com/example/resense/resense/lexicon/MatchOrPinLaw" = some m.cls := findClass_of_methodNamed Bd.named
  have hnm := (name_of_methodNamed Bd.named Bd.method).1
  have X0 : Stand p l e room_1 s m #[(.int p38), (.int p39)] below meth c s₁ [] 0 0 := Stand.of_body Bd
  have e0 : s₁.heap = h0 := by rw [← hh, Bd.state]; rfl
  have N0 := Fr.nil n0
  have pre0 : ∀ t, Steps p.tables e below (s₁.setTop (mkF m 0 #[.val (.int p38), .val (.int p39), .unset, .unset, .unset, .unset, .unset, .unset] [])) t → Steps p.tables e below (s₁.setTop (entryFrame m #[(.int p38), (.int p39)] maxLocals)) t := fun t k => castTop (ef_0_vv m p38 p39) k
  obtain ⟨T41, X41, e41, st41⟩ := getS2 X0 hx hZ hown (host := "") (Or.inl (hw _ (List.mem_of_getElem? (i := 3) rfl))) Via.refl e0 H2 (g := (mkF m 28 #[.val (.int p38), .val (.int p39), .val (.int (1 : Int32)), .val (.int (1 : Int32)), .unset, .unset, .unset, .unset] [])) rfl (hb hby at_28)
  obtain ⟨T42, X42, e42, st42⟩ := getS2 X41 hx hZ hown (host := "") (Or.inl (hw _ (List.mem_of_getElem? (i := 3) rfl))) Via.refl e41 H2 (g := (mkF m 43 #[.val (.int p38), .val (.int p39), .val (.int (1 : Int32)), .val (.int (1 : Int32)), .val (.ref w40), .unset, .unset, .unset] [])) rfl (hb hby at_43)
  obtain ⟨cq48, kq48, q48a, q48b, q48c⟩ := isOf hZ e42 H3
  obtain ⟨_, _, ⟨T48, L48, k48, n48⟩, -, X48, ⟨Lc48, hQ48, l48, y48, z48⟩, st48⟩ := X42.virtualBack hx (y := (⟨"com/example/resense/resense/lexicon/Match", "or", "(Lcom/example/resense/resense/lexicon/Match;)Lcom/example/resense/resense/lexicon/Match;"⟩ : MethodName)) (z := (⟨"com/example/resense/resense/lexicon/Match", "or", "(Lcom/example/resense/resense/lexicon/Match;)Lcom/example/resense/resense/lexicon/Match;"⟩ : MethodName)) hown (mvT hZ (hw _ (List.mem_of_getElem? (i := 5) rfl))) (mvT hZ (hw _ (List.mem_of_getElem? (i := 6) rfl))) (notFace_of_selects (args := #[]) (mvT hZ (hw _ (List.mem_of_getElem? (i := 8) rfl)))) (mvT hZ (hw _ (List.mem_of_getElem? (i := 8) rfl))) (mvT hZ (hw _ (List.mem_of_getElem? (i := 7) rfl))) (by decide) (backOf (W := 0) (r1_2 l Z a0 hw w40 w40 w40 h0 n0 Z0 H2 rfl) hZ (hw _ (List.mem_of_getElem? (i := 9) rfl)) (hw _ (List.mem_of_getElem? (i := 1) rfl)) (by decide) (by decide)) q48a q48c (g := (mkF m 58 #[.val (.int p38), .val (.int p39), .val (.int (1 : Int32)), .val (.int (1 : Int32)), .val (.ref w40), .val (.ref w40), .unset, .unset] [(.ref w40), (.ref w40)])) rfl (by rw [hml]; rfl) (Steps.refl _) (argsL := [(.ref w40)]) (rest := []) (lenOf pd_0 rfl) rfl (by show 2 * 0 + _ ≤ _; exact Nat.le_of_eq rfl) (hb hby at_58) (fun _ _ => ⟨rfl, e42, (by decide : 0 + 0 ≤ _), (by decide : 0 + 0 ≤ _)⟩)
  dsimp only [Pt.U, Pt.locs, Pt.cells, Pt.slots] at X48 l48 y48 z48 st48 hQ48
  subst l48 y48 z48
  obtain ⟨rfl, N48q, e48⟩ := hQ48
  have N48 := Fr.app N0 N48q
  obtain ⟨T49, X49, e49, st49⟩ := getS2 X48 hx hZ hown (host := "") (Or.inl (hw _ (List.mem_of_getElem? (i := 3) rfl))) Via.refl e48 H2 (g := (mkF m 71 #[.val (.int p38), .val (.int p39), .val (.int (1 : Int32)), .val (.int (1 : Int32)), .val (.ref w40), .val (.ref w40), .val (.ref w40), .unset] [])) rfl (hb hby at_71)
  obtain ⟨fs, hr, hrun, hended, hW, hsame⟩ := X49.leave (v := some (.int (1 : Int32))) (fun h => by rw [Bd.returns] at h; cases h)
  refine ⟨_, _, pre0 _ ?_, hrun, hended, _, _, rfl, ?_, ⟨_, rfl⟩, hW, hsame.mono (by decide) (by decide)⟩
  · show Steps p.tables e below (s₁.setTop (mkF m 0 #[.val (.int p38), .val (.int p39), .unset, .unset, .unset, .unset, .unset, .unset] [])) _
    refine XS.iloadN X0.here hx rfl (hb hby at_0) rfl ?_
    show Steps p.tables e below (s₁.setTop (mkF m 1 #[.val (.int p38), .val (.int p39), .unset, .unset, .unset, .unset, .unset, .unset] [(.int p38)])) _
    refine XS.iconst X0.here hx rfl (hb hby at_1) ?_
    show Steps p.tables e below (s₁.setTop (mkF m 2 #[.val (.int p38), .val (.int p39), .unset, .unset, .unset, .unset, .unset, .unset] [(.int (1 : Int32)), (.int p38)])) _
    refine XS.iand X0.here hx rfl (hb hby at_2) rfl ?_
    show Steps p.tables e below (s₁.setTop (mkF m 3 #[.val (.int p38), .val (.int p39), .unset, .unset, .unset, .unset, .unset, .unset] [(.int (p38 &&& (1 : Int32)))])) _
    refine XS.ifNo X0.here hx rfl (hb hby at_3) rfl ((if0 _ _).trans (feq H0).1) ?_
    show Steps p.tables e below (s₁.setTop (mkF m 6 #[.val (.int p38), .val (.int p39), .unset, .unset, .unset, .unset, .unset, .unset] [])) _
    refine XS.iconst X0.here hx rfl (hb hby at_6) ?_
    show Steps p.tables e below (s₁.setTop (mkF m 7 #[.val (.int p38), .val (.int p39), .unset, .unset, .unset, .unset, .unset, .unset] [(.int (1 : Int32))])) _
    refine XS.goto X0.here hx rfl (pc0 := 7) (pc' := 11) rfl (hb hby at_7) (by decide) (by decide) ?_
    show Steps p.tables e below (s₁.setTop (mkF m 11 #[.val (.int p38), .val (.int p39), .unset, .unset, .unset, .unset, .unset, .unset] [(.int (1 : Int32))])) _
    refine XS.istoreN X0.here hx rfl (hb hby at_11) rfl (l' := #[.val (.int p38), .val (.int p39), .val (.int (1 : Int32)), .unset, .unset, .unset, .unset, .unset]) rfl ?_
    show Steps p.tables e below (s₁.setTop (mkF m 12 #[.val (.int p38), .val (.int p39), .val (.int (1 : Int32)), .unset, .unset, .unset, .unset, .unset] [])) _
    refine XS.iloadN X0.here hx rfl (hb hby at_12) rfl ?_
    show Steps p.tables e below (s₁.setTop (mkF m 13 #[.val (.int p38), .val (.int p39), .val (.int (1 : Int32)), .unset, .unset, .unset, .unset, .unset] [(.int p39)])) _
    refine XS.iconst X0.here hx rfl (hb hby at_13) ?_
    show Steps p.tables e below (s₁.setTop (mkF m 14 #[.val (.int p38), .val (.int p39), .val (.int (1 : Int32)), .unset, .unset, .unset, .unset, .unset] [(.int (1 : Int32)), (.int p39)])) _
    refine XS.iand X0.here hx rfl (hb hby at_14) rfl ?_
    show Steps p.tables e below (s₁.setTop (mkF m 15 #[.val (.int p38), .val (.int p39), .val (.int (1 : Int32)), .unset, .unset, .unset, .unset, .unset] [(.int (p39 &&& (1 : Int32)))])) _
    refine XS.ifNo X0.here hx rfl (hb hby at_15) rfl ((if0 _ _).trans (feq H1).1) ?_
    show Steps p.tables e below (s₁.setTop (mkF m 18 #[.val (.int p38), .val (.int p39), .val (.int (1 : Int32)), .unset, .unset, .unset, .unset, .unset] [])) _
    refine XS.iconst X0.here hx rfl (hb hby at_18) ?_
    show Steps p.tables e below (s₁.setTop (mkF m 19 #[.val (.int p38), .val (.int p39), .val (.int (1 : Int32)), .unset, .unset, .unset, .unset, .unset] [(.int (1 : Int32))])) _
    refine XS.goto X0.here hx rfl (pc0 := 19) (pc' := 23) rfl (hb hby at_19) (by decide) (by decide) ?_
    show Steps p.tables e below (s₁.setTop (mkF m 23 #[.val (.int p38), .val (.int p39), .val (.int (1 : Int32)), .unset, .unset, .unset, .unset, .unset] [(.int (1 : Int32))])) _
    refine XS.istoreN X0.here hx rfl (hb hby at_23) rfl (l' := #[.val (.int p38), .val (.int p39), .val (.int (1 : Int32)), .val (.int (1 : Int32)), .unset, .unset, .unset, .unset]) rfl ?_
    show Steps p.tables e below (s₁.setTop (mkF m 24 #[.val (.int p38), .val (.int p39), .val (.int (1 : Int32)), .val (.int (1 : Int32)), .unset, .unset, .unset, .unset] [])) _
    refine XS.iloadN X0.here hx rfl (hb hby at_24) rfl ?_
    show Steps p.tables e below (s₁.setTop (mkF m 25 #[.val (.int p38), .val (.int p39), .val (.int (1 : Int32)), .val (.int (1 : Int32)), .unset, .unset, .unset, .unset] [(.int (1 : Int32))])) _
    refine XS.ifNo X0.here hx rfl (hb hby at_25) rfl ((if0 _ _).trans (feq (by decide : ¬ ((1 : Int32) = (0 : Int32)))).1) ?_
    show Steps p.tables e below (s₁.setTop (mkF m 28 #[.val (.int p38), .val (.int p39), .val (.int (1 : Int32)), .val (.int (1 : Int32)), .unset, .unset, .unset, .unset] [])) _
    refine st41 _ ?_
    show Steps p.tables e below (T41.setTop (mkF m 31 #[.val (.int p38), .val (.int p39), .val (.int (1 : Int32)), .val (.int (1 : Int32)), .unset, .unset, .unset, .unset] [(.ref w40)])) _
    refine XS.goto X41.here hx rfl (pc0 := 31) (pc' := 37) rfl (hb hby at_31) (by decide) (by decide) ?_
    show Steps p.tables e below (T41.setTop (mkF m 37 #[.val (.int p38), .val (.int p39), .val (.int (1 : Int32)), .val (.int (1 : Int32)), .unset, .unset, .unset, .unset] [(.ref w40)])) _
    refine XS.astore X41.here hx rfl (hb hby at_37) rfl rfl (l' := #[.val (.int p38), .val (.int p39), .val (.int (1 : Int32)), .val (.int (1 : Int32)), .val (.ref w40), .unset, .unset, .unset]) rfl ?_
    show Steps p.tables e below (T41.setTop (mkF m 39 #[.val (.int p38), .val (.int p39), .val (.int (1 : Int32)), .val (.int (1 : Int32)), .val (.ref w40), .unset, .unset, .unset] [])) _
    refine XS.iloadN X41.here hx rfl (hb hby at_39) rfl ?_
    show Steps p.tables e below (T41.setTop (mkF m 40 #[.val (.int p38), .val (.int p39), .val (.int (1 : Int32)), .val (.int (1 : Int32)), .val (.ref w40), .unset, .unset, .unset] [(.int (1 : Int32))])) _
    refine XS.ifNo X41.here hx rfl (hb hby at_40) rfl ((if0 _ _).trans (feq (by decide : ¬ ((1 : Int32) = (0 : Int32)))).1) ?_
    show Steps p.tables e below (T41.setTop (mkF m 43 #[.val (.int p38), .val (.int p39), .val (.int (1 : Int32)), .val (.int (1 : Int32)), .val (.ref w40), .unset, .unset, .unset] [])) _
    refine st42 _ ?_
    show Steps p.tables e below (T42.setTop (mkF m 46 #[.val (.int p38), .val (.int p39), .val (.int (1 : Int32)), .val (.int (1 : Int32)), .val (.ref w40), .unset, .unset, .unset] [(.ref w40)])) _
    refine XS.goto X42.here hx rfl (pc0 := 46) (pc' := 52) rfl (hb hby at_46) (by decide) (by decide) ?_
    show Steps p.tables e below (T42.setTop (mkF m 52 #[.val (.int p38), .val (.int p39), .val (.int (1 : Int32)), .val (.int (1 : Int32)), .val (.ref w40), .unset, .unset, .unset] [(.ref w40)])) _
    refine XS.astore X42.here hx rfl (hb hby at_52) rfl rfl (l' := #[.val (.int p38), .val (.int p39), .val (.int (1 : Int32)), .val (.int (1 : Int32)), .val (.ref w40), .val (.ref w40), .unset, .unset]) rfl ?_
    show Steps p.tables e below (T42.setTop (mkF m 54 #[.val (.int p38), .val (.int p39), .val (.int (1 : Int32)), .val (.int (1 : Int32)), .val (.ref w40), .val (.ref w40), .unset, .unset] [])) _
    refine XS.aload X42.here hx rfl (hb hby at_54) rfl rfl ?_
    show Steps p.tables e below (T42.setTop (mkF m 56 #[.val (.int p38), .val (.int p39), .val (.int (1 : Int32)), .val (.int (1 : Int32)), .val (.ref w40), .val (.ref w40), .unset, .unset] [(.ref w40)])) _
    refine XS.aload X42.here hx rfl (hb hby at_56) rfl rfl ?_
    show Steps p.tables e below (T42.setTop (mkF m 58 #[.val (.int p38), .val (.int p39), .val (.int (1 : Int32)), .val (.int (1 : Int32)), .val (.ref w40), .val (.ref w40), .unset, .unset] [(.ref w40), (.ref w40)])) _
    refine st48.trans ?_
    show Steps p.tables e below (T48.setTop (mkF m 61 #[.val (.int p38), .val (.int p39), .val (.int (1 : Int32)), .val (.int (1 : Int32)), .val (.ref w40), .val (.ref w40), .unset, .unset] [(.ref w40)])) _
    refine XS.astore X48.here hx rfl (hb hby at_61) rfl rfl (l' := #[.val (.int p38), .val (.int p39), .val (.int (1 : Int32)), .val (.int (1 : Int32)), .val (.ref w40), .val (.ref w40), .val (.ref w40), .unset]) rfl ?_
    show Steps p.tables e below (T48.setTop (mkF m 63 #[.val (.int p38), .val (.int p39), .val (.int (1 : Int32)), .val (.int (1 : Int32)), .val (.ref w40), .val (.ref w40), .val (.ref w40), .unset] [])) _
    refine XS.iloadN X48.here hx rfl (hb hby at_63) rfl ?_
    show Steps p.tables e below (T48.setTop (mkF m 64 #[.val (.int p38), .val (.int p39), .val (.int (1 : Int32)), .val (.int (1 : Int32)), .val (.ref w40), .val (.ref w40), .val (.ref w40), .unset] [(.int (1 : Int32))])) _
    refine XS.ifYes X48.here hx rfl (pc0 := 64) (pc' := 71) rfl (hb hby at_64) rfl ((if0 _ _).trans (feq (by decide : ¬ ((1 : Int32) = (0 : Int32)))).2) (by decide) (by decide) ?_
    show Steps p.tables e below (T48.setTop (mkF m 71 #[.val (.int p38), .val (.int p39), .val (.int (1 : Int32)), .val (.int (1 : Int32)), .val (.ref w40), .val (.ref w40), .val (.ref w40), .unset] [])) _
    refine st49 _ ?_
    show Steps p.tables e below (T49.setTop (mkF m 74 #[.val (.int p38), .val (.int p39), .val (.int (1 : Int32)), .val (.int (1 : Int32)), .val (.ref w40), .val (.ref w40), .val (.ref w40), .unset] [(.ref w40)])) _
    refine XS.goto X49.here hx rfl (pc0 := 74) (pc' := 80) rfl (hb hby at_74) (by decide) (by decide) ?_
    show Steps p.tables e below (T49.setTop (mkF m 80 #[.val (.int p38), .val (.int p39), .val (.int (1 : Int32)), .val (.int (1 : Int32)), .val (.ref w40), .val (.ref w40), .val (.ref w40), .unset] [(.ref w40)])) _
    refine XS.astore X49.here hx rfl (hb hby at_80) rfl rfl (l' := #[.val (.int p38), .val (.int p39), .val (.int (1 : Int32)), .val (.int (1 : Int32)), .val (.ref w40), .val (.ref w40), .val (.ref w40), .val (.ref w40)]) rfl ?_
    show Steps p.tables e below (T49.setTop (mkF m 82 #[.val (.int p38), .val (.int p39), .val (.int (1 : Int32)), .val (.int (1 : Int32)), .val (.ref w40), .val (.ref w40), .val (.ref w40), .val (.ref w40)] [])) _
    refine XS.aload X49.here hx rfl (hb hby at_82) rfl rfl ?_
    show Steps p.tables e below (T49.setTop (mkF m 84 #[.val (.int p38), .val (.int p39), .val (.int (1 : Int32)), .val (.int (1 : Int32)), .val (.ref w40), .val (.ref w40), .val (.ref w40), .val (.ref w40)] [(.ref w40)])) _
    refine XS.aload X49.here hx rfl (hb hby at_84) rfl rfl ?_
    show Steps p.tables e below (T49.setTop (mkF m 86 #[.val (.int p38), .val (.int p39), .val (.int (1 : Int32)), .val (.int (1 : Int32)), .val (.ref w40), .val (.ref w40), .val (.ref w40), .val (.ref w40)] [(.ref w40), (.ref w40)])) _
    refine Jvm.RoadKit.acmp (g := (mkF m 86 #[.val (.int p38), .val (.int p39), .val (.int (1 : Int32)), .val (.int (1 : Int32)), .val (.ref w40), .val (.ref w40), .val (.ref w40), .val (.ref w40)] [(.ref w40), (.ref w40)])) X49 hx rfl rfl rfl (pc0 := 86) (pc' := 89) (same := true) rfl (hb hby at_86) rfl (decide_eq_true rfl) (by decide) (by decide) ?_
    show Steps p.tables e below (T49.setTop (mkF m 89 #[.val (.int p38), .val (.int p39), .val (.int (1 : Int32)), .val (.int (1 : Int32)), .val (.ref w40), .val (.ref w40), .val (.ref w40), .val (.ref w40)] [])) _
    refine XS.iconst X49.here hx rfl (hb hby at_89) ?_
    show Steps p.tables e below (T49.setTop (mkF m 90 #[.val (.int p38), .val (.int p39), .val (.int (1 : Int32)), .val (.int (1 : Int32)), .val (.ref w40), .val (.ref w40), .val (.ref w40), .val (.ref w40)] [(.int (1 : Int32))])) _
    refine XS.goto X49.here hx rfl (pc0 := 90) (pc' := 94) rfl (hb hby at_90) (by decide) (by decide) ?_
    show Steps p.tables e below (T49.setTop (mkF m 94 #[.val (.int p38), .val (.int p39), .val (.int (1 : Int32)), .val (.int (1 : Int32)), .val (.ref w40), .val (.ref w40), .val (.ref w40), .val (.ref w40)] [(.int (1 : Int32))])) _
    exact retN X49 hx (t := .boolean) Bd.returns (by simp) (hb hby at_94) hr
  · show OQl (some (.int (1 : Int32))) n0 _ T49.heap _
    exact ⟨rfl, N48⟩
set_option maxRecDepth 65536 in
set_option maxHeartbeats 40000000 in
theorem comes_1 {Post : Tables → Env → Array Value → State → Outcome → State → Prop} (hpost : ∀ tb e args s v u, (limb_1_1.after args s (.returned v) u = true ∧ limb_1_2.after args s (.returned v) u = true ∧ True) → FrameEnd s (.returned v) u (Jvm.fieldLocs frame_1_writes args s ++ Jvm.arrayLocs frame_1_arrays args s ++ Jvm.staticLocs frame_1_statics s) 0 0 → Post tb e args s (.returned v) u) :
    ArmFor flags0 classFile x code maxLocals ret World_1 tables_1 room_1 Calls_1 rest_1 Pre_1 Post := by
  intro l hfl _ _ p e ha hc hk s m args below hf hA hF happ hP
  obtain ⟨hcalls, hrest, hpre⟩ := hP
  obtain ⟨-, -, -, hnamed, -, -, -, hat⟩ := (Spec.applies_iff hf).mp happ
  obtain ⟨hg, hn⟩ := and_e (Cond.before_iff.mp (show (Jvm.Cond.and given_1 narrow_1).before args s = true from hpre))
  obtain ⟨gg0, gr0⟩ := and_e hg
  obtain ⟨gg1, gr1⟩ := and_e gr0
  obtain ⟨w0, w1, rfl⟩ : ∃ w0 w1 : Value, args = #[w0, w1] := by
    have hs : args.size = 2 := by simpa [Cond.value, given_1] using gg0
    obtain ⟨L⟩ := args
    match L, hs with
    | [w0, w1], _ => exact ⟨w0, w1, rfl⟩
  have hw := fun d (hd : d ∈ tables_1) => atoms_spec (ws := Jvm.Cond.code x code maxLocals ret :: tables_1) hat d (List.mem_cons_of_mem _ hd)
  have hfit : Fit s := fun {y c} hc i hi => by
    obtain ⟨ha, rfl⟩ := Array.getElem?_eq_some_iff.mp hc
    have q := List.all_eq_true.mp ((Array.all_eq_true_iff_forall_mem.mp hF) _ (Array.getElem_mem ha)) i (List.mem_range.mpr hi)
    simpa [Array.getElem?_eq_getElem hi] using q
  obtain ⟨i0, ei0⟩ := is_v gg1
  obtain rfl : w0 = (.int i0) := Option.some.inj ei0
  obtain ⟨i1, ei1⟩ := is_v gr1
  obtain rfl : w1 = (.int i1) := Option.some.inj ei1
  obtain ⟨hn1, hn2⟩ := and_e hn
  obtain ⟨hn3, hn4⟩ := and_e hn2
  obtain ⟨hn5, hn6⟩ := and_e hn4
  obtain ⟨w_c7, ev_c7⟩ := exa_v hn1
  have E_c7 := Exa.start ev_c7 hn1
  have S_c7 := Sta.start ev_c7 (Or.inr ⟨(hw _ (List.mem_of_getElem? (i := 1) rfl)), (hw _ (List.mem_of_getElem? (i := 2) rfl))⟩)
  obtain ⟨w_c8, ev_c8⟩ := exa_v hn3
  have E_c8 := Exa.start ev_c8 hn3
  have S_c8 := Sta.start ev_c8 (Or.inr ⟨(hw _ (List.mem_of_getElem? (i := 1) rfl)), (hw _ (List.mem_of_getElem? (i := 4) rfl))⟩)
  have F9 := own_fi ev_c7 hn5
  have F10 := own_fi ev_c8 hn6
  suffices M : OMet l s x code maxLocals ret tables_1 room_1 s.heap #[(.int i0), (.int i1)] (OQl (some (.int (1 : Int32))) s.heap.size) by
    obtain ⟨n, o, h1, h2, h3, _, L, rfl, ⟨rfl, N⟩, hq⟩ := M p e ha hc hk s m _ below hf ((Spec.applies_iff_loose hf).mp happ).1 ⟨rfl, State.Warmed39.refl s, rfl⟩ trivial
    exact ⟨n, _, h1, h2, h3, hpost _ _ _ _ _ _ ⟨Cond.after_iff.mpr rfl, Cond.after_iff.mpr (eq_i res_at (Term.int_eval (1)) rfl), trivial⟩ ⟨hq.1, hq.2.1, (hq.2.2.sift fun y hy => Or.inr (N y hy)).mono (by decide) (by decide)⟩⟩
  rcases own_b1 i0 with hq | hq <;> rcases own_b1 i1 with hr | hr
  · exact r0_1 l s _ hw i0 i1 w_c7 w_c8 s.heap s.heap.size (Nat.le_refl _) (by first | (rw [hq] <;> decide) | (rw [hr] <;> decide)) (by first | (rw [hq] <;> decide) | (rw [hr] <;> decide)) S_c7 S_c8 (Fld.ne F9 F10 (by decide)) E_c7
  · exact r0_2 l s _ hw i0 i1 w_c7 w_c8 s.heap s.heap.size (Nat.le_refl _) (by first | (rw [hq] <;> decide) | (rw [hr] <;> decide)) (by first | (rw [hq] <;> decide) | (rw [hr] <;> decide)) S_c7 S_c8 (Fld.ne F9 F10 (by decide)) E_c7
  · exact r0_3 l s _ hw i0 i1 w_c8 w_c7 s.heap s.heap.size (Nat.le_refl _) (by first | (rw [hq] <;> decide) | (rw [hr] <;> decide)) (by first | (rw [hq] <;> decide) | (rw [hr] <;> decide)) S_c8 S_c7 E_c8
  · exact r0_4 l s _ hw i0 i1 w_c8 s.heap s.heap.size (Nat.le_refl _) (by first | (rw [hq] <;> decide) | (rw [hr] <;> decide)) (by first | (rw [hq] <;> decide) | (rw [hr] <;> decide)) S_c8 E_c8
theorem main_1_1 : Claimed_1_1 := comes_1 fun _ _ _ _ _ _ h hF => ⟨h.1, hF⟩
theorem main_1_2 : Claimed_1_2 := comes_1 fun _ _ _ _ _ _ h hF => ⟨h.2.1, hF⟩
end Jvm.Pilot.@@N@@
namespace Jvm.Pilot.@@N@@
open Jvm Jvm.ClassFile Sem Op Lib Jvm.Free Jvm.Stand Jvm.Pilot.@@N@@.Jvm.D
/-! MADE BY PROGRAM (witnessworld.py) out of the Statement's table words and the real class files: 12 classes; the members and pool entries that the words name. The judged class is class 1, her method 1. -/
namespace start1
open Jvm.ClassFile
def u (s : String) : CpInfo := .utf8 (stringToUtf16 s)
/-- a pool by its gaps: so many unusable entries, then the entry; so many at the end -/
def gap : Nat → List CpInfo → List CpInfo
  | 0, r => r
  | n + 1, r => .unusable :: gap n r
def poolList (es : List (Nat × CpInfo)) (last : Nat) : List CpInfo := es.foldr (fun e r => gap e.1 (e.2 :: r)) (gap last [])
def pool (es : List (Nat × CpInfo)) (last : Nat) : Array CpInfo := ⟨poolList es last⟩
def fileOf (pool : Array CpInfo) (this : Nat) (attrs : Array Attribute := #[]) (ms : Array MethodInfo := #[]) (fl : Nat := 33) (sup : Nat := 0) (ifs : Array Nat := #[]) (fds : Array FieldInfo := #[]) : ClassFile where
  minorVersion := 0
  majorVersion := 65
  constantPool := pool
  accessFlags := fl
  thisClass := this
  superClass := sup
  interfaces := ifs
  fields := fds
  methods := ms
  attributes := attrs
def plain (name : String) (sup : Option ClassId) : Class where
  name := name
  kind := .ordinary
  loader := none
  accessFlags := 33
  super := sup
  interfaces := #[]
  cf := none
  fields := #[]
  methods := #[]
  instanceTypes := #[]
  staticTypes := #[]
  resolved := #[]
  callSites := []
  init := .initialized
  statics := none
  mirror := none

def pool0 : Array CpInfo := pool [(5, u "<init>"), (0, u "()V"), (1, .class_ 10), (1, u "java/lang/Object")] 113

def k0m0 : Method := { name := "<init>", desc := "()V", sig := { parameters := [], returnType := none }, accessFlags := 1, code := none }
/-- java/lang/Object -/
def k0 : Class := { plain "java/lang/Object" none with
  accessFlags := 33
  interfaces := #[]
  cf := some (fileOf pool0 8 #[] #[{ accessFlags := 1, nameIndex := 5, descriptorIndex := 6, attributes := #[] }] 33 0 #[] #[])
  fields := #[]
  methods := #[k0m0]
  instanceTypes := #[]
  staticTypes := #[]
  resolved := Array.replicate 124 none
  statics := none }

def pool1 : Array CpInfo := pool [(2, .class_ 4), (1, u "java/lang/Object"), (0, u "<init>"), (0, u "()V"), (0, .fieldref 8 9), (0, .class_ 10), (0, .nameAndType 11 12), (0, u "com/example/resense/resense/lexicon/Match"), (0, u "FULL"), (0, u "Lcom/example/resense/resense/lexicon/Match;"), (0, .fieldref 8 14), (0, .nameAndType 15 12), (0, u "PARTIAL"), (0, .methodref 8 17), (0, .nameAndType 18 19), (0, u "or"), (0, u "(Lcom/example/resense/resense/lexicon/Match;)Lcom/example/resense/resense/lexicon/Match;"), (0, .class_ 21), (0, u "com/example/resense/resense/lexicon/MatchOrPinLaw"), (2, u "law"), (0, u "(II)Z")] 3

def k1m0 : Method := { name := "<init>", desc := "()V", sig := { parameters := [], returnType := none }, accessFlags := 1, code := none }
def k1c1 : Code := { maxStack := 2, maxLocals := 8, code := code, exceptionTable := #[], attributes := #[] }
def k1m1 : Method := { name := "law", desc := "(II)Z", sig := { parameters := [.int, .int], returnType := some .boolean }, accessFlags := 9, code := some k1c1 }
/-- com/example/resense/resense/lexicon/MatchOrPinLaw -/
def k1 : Class := { plain "com/example/resense/resense/lexicon/MatchOrPinLaw" (some 0) with
  accessFlags := 49
  interfaces := #[]
  cf := some (fileOf pool1 20 #[] #[{ accessFlags := 1, nameIndex := 5, descriptorIndex := 6, attributes := #[] }, { accessFlags := 9, nameIndex := 24, descriptorIndex := 25, attributes := #[] }] 49 2 #[] #[])
  fields := #[]
  methods := #[k1m0, k1m1]
  instanceTypes := #[]
  staticTypes := #[]
  resolved := Array.replicate 29 none
  statics := none }

def pool2 : Array CpInfo := pool [(1, .class_ 2), (0, u "java/lang/constant/Constable"), (0, .class_ 4), (0, u "java/lang/Object")] 6

/-- java/lang/constant/Constable -/
def k2 : Class := { plain "java/lang/constant/Constable" (some 0) with
  accessFlags := 1537
  interfaces := #[]
  cf := some (fileOf pool2 1 #[] #[] 1537 3 #[] #[])
  fields := #[]
  methods := #[]
  instanceTypes := #[]
  staticTypes := #[]
  resolved := Array.replicate 11 none
  statics := none }

def pool3 : Array CpInfo := pool [(1, .class_ 2), (0, u "java/lang/Comparable"), (0, .class_ 4), (0, u "java/lang/Object")] 7

/-- java/lang/Comparable -/
def k3 : Class := { plain "java/lang/Comparable" (some 0) with
  accessFlags := 1537
  interfaces := #[]
  cf := some (fileOf pool3 1 #[] #[] 1537 3 #[] #[])
  fields := #[]
  methods := #[]
  instanceTypes := #[]
  staticTypes := #[]
  resolved := Array.replicate 12 none
  statics := none }

def pool4 : Array CpInfo := pool [(1, .class_ 2), (0, u "java/io/Serializable"), (0, .class_ 4), (0, u "java/lang/Object")] 2

/-- java/io/Serializable -/
def k4 : Class := { plain "java/io/Serializable" (some 0) with
  accessFlags := 1537
  interfaces := #[]
  cf := some (fileOf pool4 1 #[] #[] 1537 3 #[] #[])
  fields := #[]
  methods := #[]
  instanceTypes := #[]
  staticTypes := #[]
  resolved := Array.replicate 7 none
  statics := none }

def pool5 : Array CpInfo := pool [(2, .class_ 4), (1, u "java/lang/Enum"), (0, u "name"), (0, u "Ljava/lang/String;"), (2, u "ordinal"), (0, u "I"), (1, .class_ 14), (1, u "java/lang/Object"), (4, u "hash"), (86, .class_ 108), (1, u "java/lang/Enum$EnumDesc"), (2, .class_ 112), (0, u "java/lang/constant/Constable"), (0, .class_ 114), (0, u "java/lang/Comparable"), (0, .class_ 116), (0, u "java/io/Serializable")] 87

/-- java/lang/Enum -/
def k5 : Class := { plain "java/lang/Enum" (some 0) with
  accessFlags := 1057
  interfaces := #[2, 3, 4]
  cf := some (fileOf pool5 2 #[.nestMembers #[106]] #[] 1057 12 #[111, 113, 115] #[{ accessFlags := 18, nameIndex := 5, descriptorIndex := 6, attributes := #[] }, { accessFlags := 18, nameIndex := 9, descriptorIndex := 10, attributes := #[] }, { accessFlags := 2, nameIndex := 19, descriptorIndex := 10, attributes := #[] }])
  fields := #[{ name := "name", type := (.object "java/lang/String"), accessFlags := 18, slot := 0, constantValue := 0 }, { name := "ordinal", type := .int, accessFlags := 18, slot := 1, constantValue := 0 }, { name := "hash", type := .int, accessFlags := 2, slot := 2, constantValue := 0 }]
  methods := #[]
  instanceTypes := #[(.object "java/lang/String"), .int, .int]
  staticTypes := #[]
  resolved := Array.replicate 204 none
  statics := none }

def pool6 : Array CpInfo := pool [(1, .class_ 2), (0, u "com/example/resense/resense/lexicon/Match"), (0, .fieldref 1 4), (0, .nameAndType 5 6), (0, u "FULL"), (0, u "Lcom/example/resense/resense/lexicon/Match;"), (2, u "PARTIAL"), (2, u "$VALUES"), (0, u "[Lcom/example/resense/resense/lexicon/Match;"), (6, .class_ 22), (1, u "java/lang/Enum"), (40, u "or"), (0, u "(Lcom/example/resense/resense/lexicon/Match;)Lcom/example/resense/resense/lexicon/Match;")] 4

def k6c0 : Code := { maxStack := 2, maxLocals := 2, code := prog_28_method_6_code, exceptionTable := #[], attributes := #[] }
def k6m0 : Method := { name := "or", desc := "(Lcom/example/resense/resense/lexicon/Match;)Lcom/example/resense/resense/lexicon/Match;", sig := { parameters := [(.object "com/example/resense/resense/lexicon/Match")], returnType := some (.object "com/example/resense/resense/lexicon/Match") }, accessFlags := 0, code := some k6c0 }
/-- com/example/resense/resense/lexicon/Match -/
def k6 : Class := { plain "com/example/resense/resense/lexicon/Match" (some 5) with
  accessFlags := 16433
  interfaces := #[]
  cf := some (fileOf pool6 1 #[] #[{ accessFlags := 0, nameIndex := 63, descriptorIndex := 64, attributes := #[] }] 16433 20 #[] #[{ accessFlags := 16409, nameIndex := 5, descriptorIndex := 6, attributes := #[] }, { accessFlags := 16409, nameIndex := 9, descriptorIndex := 6, attributes := #[] }, { accessFlags := 4122, nameIndex := 12, descriptorIndex := 13, attributes := #[] }])
  fields := #[{ name := "FULL", type := (.object "com/example/resense/resense/lexicon/Match"), accessFlags := 16409, slot := 0, constantValue := 0 }, { name := "PARTIAL", type := (.object "com/example/resense/resense/lexicon/Match"), accessFlags := 16409, slot := 1, constantValue := 0 }, { name := "$VALUES", type := (.array (.object "com/example/resense/resense/lexicon/Match")), accessFlags := 4122, slot := 2, constantValue := 0 }]
  methods := #[k6m0]
  instanceTypes := #[(.object "java/lang/String"), .int, .int]
  staticTypes := #[(.object "com/example/resense/resense/lexicon/Match"), (.object "com/example/resense/resense/lexicon/Match"), (.array (.object "com/example/resense/resense/lexicon/Match"))]
  resolved := Array.replicate 69 none
  statics := some 0 }

def pool7 : Array CpInfo := pool [(1, u "java/lang/Cloneable"), (0, .class_ 1), (0, u "java/lang/Object"), (0, .class_ 3)] 3

/-- java/lang/Cloneable -/
def k7 : Class := { plain "java/lang/Cloneable" (some 0) with
  accessFlags := 1537
  interfaces := #[]
  cf := some (fileOf pool7 2 #[] #[] 1537 4 #[] #[])
  fields := #[]
  methods := #[]
  instanceTypes := #[]
  staticTypes := #[]
  resolved := Array.replicate 8 none
  statics := none }

/-- the primitive byte -/
def k8 : Class := { plain "byte" none with kind := .primitive 'B', accessFlags := 0x411 }
/-- [B -/
def k9 : Class := { plain "[B" (some 0) with kind := .array 8 .byte, interfaces := #[7, 4], accessFlags := 1041 }

/-- the primitive int -/
def k10 : Class := { plain "int" none with kind := .primitive 'I', accessFlags := 0x411 }
/-- [I -/
def k11 : Class := { plain "[I" (some 0) with kind := .array 10 .int, interfaces := #[7, 4], accessFlags := 1041 }

def heap : Heap := #[{ cls := 6, slots := #[.ref 2, .ref 1, .null], vm := .statics 6 },
  { cls := 6, slots := #[.null, .int 1, .int 0], vm := .none },
  { cls := 6, slots := #[.null, .int 0, .int 0], vm := .none }]
def classes : Array Class := #[k0, k1, k2, k3, k4, k5, k6, k7, k8, k9, k10, k11]
def interned : List (Array UInt16 × Addr) := []
def slotsUsed : Nat := 9
def theMethod : MethodId := ⟨1, 1⟩
def args0 : Array Value := #[.int 5, .int 7]
def aboutOver (below : List Frame) : State where
  vm := { classes := classes, interned := interned.toArray }
  heap := heap
  slotsUsed := slotsUsed
  threads := #[{ frames := .invoking theMethod args0 :: below }]
def below0 : List Frame := [.native { method := ⟨0, 0⟩, args := #[] }]
def about1 : State := aboutOver below0
def p0 : Program := .bare "" "" ""
def e0 : Env := launch0.env 0 0 0
theorem w_frames : about1.frames = Frame.invoking theMethod args0 :: below0 := rfl
set_option maxRecDepth 65536 in
theorem w_args : argsFit about1.vm theMethod args0 = true := by decide +kernel
set_option maxRecDepth 65536 in
theorem w_heap : heapFits about1 = true := by decide +kernel
set_option maxRecDepth 65536 in
theorem w_runnable : about1.curStatus? = some .runnable := by decide +kernel
set_option maxRecDepth 65536 in
theorem w_alone : about1.alone = true := by decide +kernel
set_option maxRecDepth 65536 in
theorem w_named : about1.methodNamed? x = some theMethod := by decide +kernel
set_option maxRecDepth 65536 in
theorem w_hears : about1.hears theMethod below0 = true := by decide +kernel
set_option maxRecDepth 65536 in
theorem w_ripe : about1.ripe theMethod args0 below0 = true := by decide +kernel
theorem w_running : about1.status = .running := rfl
set_option maxRecDepth 65536 in
theorem w_room : about1.hasRoom e0.platform room_1 = true :=
  launch0.hasRoom_least _ room_1 (by decide +kernel) (by decide +kernel) (by decide +kernel) (by decide +kernel) (by decide +kernel) (by decide +kernel)
theorem allAtoms_all (ts : List Jvm.Cond) (a : Array Jvm.Value) (st : Jvm.State) : (allAtoms ts).before a st = ts.all (fun c => c.before a st) := by
  induction ts with
  | nil => rfl
  | cons c t ih =>
    show (Jvm.Cond.and c (allAtoms t)).before a st = _
    rw [Jvm.Cond.before_and, ih, List.all_cons]
def words1 : List Jvm.Cond := Jvm.Cond.code x code maxLocals ret :: tables_1
/-- a 'code' word, met by the world's own term for the bytes: nothing is compared byte by byte -/
theorem code_word {y : MethodName} {bytes : ByteArray} {mx : Nat} {rt : Option FieldType} {a : Array Value} {s : State} {m : MethodId} {meth : Method} {c : Code} (h1 : s.methodNamed? y = some m) (h2 : s.vm.method? m = some meth) (h3 : meth.code = some c) (h4 : c.code = bytes)
    (h5 : (c.maxLocals == mx && c.exceptionTable.isEmpty && decide (c.maxStack ≤ mostOperands) && decide (meth.sig.returnType = rt) && !meth.locks && decide (parseMethodDescriptor y.desc = some meth.sig)) = true) : (Jvm.Cond.code y bytes mx rt).before a s = true := by
  simp only [Bool.and_eq_true, beq_iff_eq, Bool.not_eq_true', decide_eq_true_eq] at h5
  obtain ⟨⟨⟨⟨⟨g1, g2⟩, g3⟩, g4⟩, g5⟩, g6⟩ := h5
  simp [Cond.before, Cond.holds, Cond.value, h1, h2, h3, h4, g1, g2, g3, g4, g5, g6]
def isCode : Jvm.Cond → Bool
  | .code _ _ _ _ => true
  | _ => false
theorem all_split {L : List Jvm.Cond} {P : Jvm.Cond → Bool} (h1 : L.all (fun c => isCode c || P c) = true) (h2 : ∀ c ∈ L.filter isCode, P c = true) : L.all P = true := by
  refine List.all_eq_true.mpr fun c hc => ?_
  have h := List.all_eq_true.mp h1 c hc
  rcases Bool.eq_false_or_eq_true (isCode c) with hi | hi
  · exact h2 c (List.mem_filter.mpr ⟨hc, hi⟩)
  · simpa [hi] using h
set_option maxRecDepth 65536 in
theorem w_c0 : (Jvm.Cond.code x code maxLocals ret).before args0 about1 = true := code_word (m := ⟨1, 1⟩) (meth := k1m1) (c := k1c1) (by decide +kernel) rfl rfl rfl (by decide +kernel)
set_option maxRecDepth 65536 in
theorem w_c1 : (Jvm.Cond.code ({ cls := "com/example/resense/resense/lexicon/Match", name := "or", desc := "(Lcom/example/resense/resense/lexicon/Match;)Lcom/example/resense/resense/lexicon/Match;" } : Jvm.MethodName) prog_28_method_6_code (2 : Nat) (Option.some (Jvm.ClassFile.FieldType.object "com/example/resense/resense/lexicon/Match"))).before args0 about1 = true := code_word (m := ⟨6, 0⟩) (meth := k6m0) (c := k6c0) (by decide +kernel) rfl rfl rfl (by decide +kernel)
def codes1 : List Jvm.Cond := [Jvm.Cond.code x code maxLocals ret, Jvm.Cond.code ({ cls := "com/example/resense/resense/lexicon/Match", name := "or", desc := "(Lcom/example/resense/resense/lexicon/Match;)Lcom/example/resense/resense/lexicon/Match;" } : Jvm.MethodName) prog_28_method_6_code (2 : Nat) (Option.some (Jvm.ClassFile.FieldType.object "com/example/resense/resense/lexicon/Match"))]
set_option maxRecDepth 65536 in
theorem codes_eq : words1.filter isCode = codes1 := rfl
theorem w_codes : ∀ c ∈ words1.filter isCode, c.before args0 about1 = true := by
  rw [codes_eq]
  intro c hc
  simp only [codes1, List.mem_cons, List.not_mem_nil, or_false] at hc
  rcases hc with rfl | rfl
  · exact w_c0
  · exact w_c1
set_option maxRecDepth 65536 in
theorem w_t1 : words1.all (fun c => isCode c || c.before args0 about1) = true := by decide +kernel
theorem w_tables : (allAtoms (Jvm.Cond.code x code maxLocals ret :: tables_1)).before args0 about1 = true := by
  rw [allAtoms_all]
  show words1.all (fun c => c.before args0 about1) = true
  refine all_split ?_ w_codes
  rw [w_t1]
set_option maxRecDepth 65536 in
theorem w_case : (Jvm.Cond.and given_1 narrow_1).before args0 about1 = true := by decide +kernel
theorem w_applies : (headSpec (Jvm.Cond.code x code maxLocals ret :: tables_1) room_1).applies x e0.platform about1 = true :=
  (Spec.applies_iff w_frames).mpr ⟨w_running, w_runnable, w_alone, w_named, w_hears, w_ripe, w_room, w_tables⟩
theorem atStart : AtStart classFile x code maxLocals ret World_1 tables_1 room_1 Calls_1 rest_1 Pre_1 launch0 p0 e0 about1 theMethod args0 below0 :=
  ⟨lists_1, trivial, launch0.admits_env _ _ _, launch0.least_env, fairChoices_fair.cas, fairChoices_fair.clock, w_frames, w_args, w_heap, w_applies, trivial, trivial, w_case⟩
end start1
theorem witness_1 : WitnessClaimed_1 := ⟨start1.p0, start1.e0, start1.about1, start1.theMethod, start1.args0, start1.below0, start1.atStart⟩
end Jvm.Pilot.@@N@@
