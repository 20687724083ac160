import JvmDerived
import JvmDerived.Pilot.@@N@@Statement
import JvmDerived.Pilot.@@N@@Code
set_option linter.unusedVariables false
set_option linter.unusedSimpArgs false
namespace Jvm.RoadKit
open Sem ClassFile Op Lib Jvm.Stand Jvm.Free Jvm.LawKit
section New
variable {p : Program} {l : Launch} {e : Env} {R : Room} {s : State} {m : MethodId} {args : Array Value} {below : List Frame} {meth : Method} {c : Code} {T : State} {locs : List Loc} {cells slots : Nat}
theorem retI (X : Stand p l e R s m args below meth c T locs cells slots) (hx : p.tables.exec = Jvm.exec) {pc : Nat} {Ls : Array Slot} {z : Int32} {rest : List Value} (hret : meth.sig.returnType = some .int) (hd : decode c.code pc = .ok (.ireturn, 1)) {fs : List Frame}
    (hl : ∀ (f : JFrame) (acts : List Action), f.method = m → f.locked = none → f.entered = [] → (doReturn e (T.setTop f) acts (some (.int z))).1 = T.setFrames fs) : Steps p.tables e below (T.setTop (mkF m pc Ls (.int z :: rest))) (T.setFrames fs) := by
  have hm' : T.vm.method? m = some meth := X.method'
  have hn : narrow .int (.int z) = .int z := rfl
  show Steps p.tables e below (T.setTop { method := m, pc := pc, locals := Ls, stack := _ :: rest, locked := none }) _
  jvm_step X.here [X.here.top, hx, hd, hm', hret, hn]
  first | (intro acts; rw [hl _ acts rfl rfl rfl]) | rw [hl _ _ rfl rfl rfl]
  exact Steps.refl _
end New
/-! the walk's own frame: a goal that is met by going on -/
section Own
variable {tb : Tables} {e : Env} {below : List Frame} {R : State → Outcome → Prop} {U U' T : State}
def own_G (tb : Tables) (e : Env) (below : List Frame) (R : State → Outcome → Prop) (U : State) : Prop := ∃ f o, Steps tb e below U f ∧ R f o
theorem own_pre {g g' : JFrame} (q : g = g') (h : own_G tb e below R (T.setTop g')) : ∃ f o, Steps tb e below (T.setTop g) f ∧ R f o := by rw [q]; exact h
theorem own_go (st : ∀ t, Steps tb e below U' t → Steps tb e below U t) (h : own_G tb e below R U') : own_G tb e below R U := by
  obtain ⟨f, o, h1, h2⟩ := h; exact ⟨f, o, st _ h1, h2⟩
theorem own_out (h : ∃ f o, Steps tb e below U f ∧ R f o) : own_G tb e below R U := h
end Own
section OwnFacts
variable {Z : State} {h h' : Heap} {a : Addr} {ws : List Addr} {C n d : String} {v : Value} {b : Bool}
def own_NS (h : Heap) (a : Addr) : Prop := ∃ c : Cell, h[a]? = some c ∧ c.vm.isStatics = false
theorem own_nsE (F : Exa Z h a C) : own_NS h a := by obtain ⟨c, k, h1, -, -, h4, -⟩ := F; exact ⟨c, h1, h4⟩
theorem own_nsF (F : Fld Z h a C n d v) : own_NS h a := by obtain ⟨c, _, _, _, _, h1, -, -, -, h5, -⟩ := F; exact ⟨c, h1, h5⟩
theorem own_nsV {k : ClassId} {ty : FieldType} {z : Int32} {vs : List Value} {dv : Value} (F : Arv Z h a k ty z vs dv) : own_NS h a := by obtain ⟨c, A, -⟩ := F; exact ⟨c, A.1, A.plain⟩
theorem own_staK (F : Sta Z h C n d v) (K : Keep h h' ws) (q : ∀ x ∈ ws, own_NS h x) : Sta Z h' C n d v := by
  obtain ⟨cf, i, k, f, st, cell, h1, h2, h3, h4, h5, h6, h7⟩ := F
  refine ⟨cf, i, k, f, st, cell, h1, h2, h3, h4, K.2.1 st cell h5 (fun hm => ?_), h6, h7⟩
  obtain ⟨c, e1, e2⟩ := q st hm
  cases h5.symm.trans e1
  rw [e2] at h6; cases h6
theorem own_insK (F : Ins Z h a C b) (K : Keep h h' ws) : Ins Z h' a C b := by
  obtain ⟨cell, cT, h1, h2, h3⟩ := F
  obtain ⟨c', e1, e2, e3, -⟩ := K.2.2 a cell h1
  exact ⟨c', cT, e1, h2, by rw [e2, e3]; exact h3⟩
theorem own_selP {s : State} {args : Array Value} {y : MethodName} {k : Nat} (wi : (Cond.instantiable y.cls k).before args s = true) (wp : (Cond.privateMethod y).before args s = true) (hi : (Cond.instanceMethod y).before args s = true) (hy : y.cls ≠ "java/lang/invoke/MethodHandle" ∧ y.cls ≠ "java/lang/invoke/VarHandle") : (Cond.selects y.cls y y).before args s = true := by
  obtain ⟨c, k, h1, h2, -, h4, -⟩ := Cond.instantiable_spec wi
  exact selects_self_of_private h1 h2 (by simp only [Bool.or_eq_false_iff] at h4; exact h4.1) (Cond.privateMethod_at wp) hi hy
theorem own_xnJ (x : Int64) : (x ^^^ (-1 : Int64)).toInt = -1 - x.toInt := by
  have h : x ^^^ (-1 : Int64) = ~~~ x := by
    rw [← Int64.toBitVec_inj]; simp
  rw [h]
  show (~~~ x.toBitVec).toInt = -1 - x.toBitVec.toInt
  rw [BitVec.toInt_not]
  have h1 := x.toBitVec.isLt
  rw [BitVec.toInt_eq_toNat_bmod]
  simp only [Int.bmod]
  split <;> split <;> omega
theorem own_at {h h' : Heap} {a : Addr} {c : Cell} (e : h' = h) (g : h[a]? = some c) : h'[a]? = some c := by rw [e]; exact g
theorem own_insLt (F : Ins Z h a C b) : a < h.size := by obtain ⟨_, _, h1, -⟩ := F; exact (Array.getElem?_eq_some_iff.mp h1).1
def own_As (Z : State) (C K : String) : Prop := ∃ c t, Z.vm.findClass C = some c ∧ Z.vm.findClass K = some t ∧ Z.vm.assignable c t = true
theorem own_asI {K : String} (E : Exa Z h a C) (A : own_As Z C K) : Ins Z h a K true := by
  obtain ⟨cell, k, h1, h2, -, h4, -⟩ := E
  obtain ⟨c, t, g1, g2, g3⟩ := A
  cases h2.symm.trans g1
  exact ⟨cell, t, h1, g2, by simp [h4, g3]⟩
theorem own_asN {a0 : Array Value} {own K : String} {index : Nat} (w : (Cond.classLink own index K).before a0 Z = true) (E : Exa Z h a C) (A : ¬ own_As Z C K) : ∃ c t, Z.vm.findClass C = some c ∧ Z.vm.findClass K = some t ∧ Z.vm.assignable c t = false := by
  obtain ⟨cell, k, h1, h2, -, h4, -⟩ := E
  have w' := Cond.before_iff.mp w
  cases hK : Z.vm.findClass K with
  | none => simp only [Cond.value, State.classLinks, hK] at w'; split at w' <;> simp_all
  | some t =>
    refine ⟨_, t, h2, rfl, ?_⟩
    cases hA : Z.vm.assignable cell.cls t with
    | false => rfl
    | true => exact absurd ⟨_, t, h2, hK, hA⟩ A
variable {args : Array Value} {t u : Term} {x : Addr}
theorem own_fldI {k : Int32} (ev : t.eval args Z none [] Z = some (.ref x)) (hh : (Cond.eq (.field t C n d) (.int k)).value args Z none Z [] = some true) : Fld Z Z.heap x C n d (.int k) := by
  refine Fld.start ?_
  obtain ⟨y, w, e1, e2, k1, -⟩ := cmp_v (Or.inl hh)
  cases (Term.int_eval k).symm.trans e2
  rw [fld_at ev] at e1
  cases y <;> simp [Kin, Value.isRef] at k1
  rename_i q
  have e3 : (Term.field t C n d).eval args Z none [] Z = some (.int q) := by rw [fld_at ev]; exact e1
  simp [Cond.value, e3, Term.int_eval] at hh
  rw [e1, hh]
theorem own_fldJ {k : Int64} (ev : t.eval args Z none [] Z = some (.ref x)) (hh : (Cond.eq (.field t C n d) (.long k)).value args Z none Z [] = some true) : Fld Z Z.heap x C n d (.long k) := by
  refine Fld.start ?_
  obtain ⟨y, w, e1, e2, k1, -⟩ := cmp_v (Or.inl hh)
  cases (long_at k).symm.trans e2
  rw [fld_at ev] at e1
  cases y <;> simp [Kin, Value.isRef] at k1
  rename_i q
  have e3 : (Term.field t C n d).eval args Z none [] Z = some (.long q) := by rw [fld_at ev]; exact e1
  have e4 := gotT (eq_L e3 (long_at k)) hh
  rw [e1, e4]
theorem own_fldR {y : Addr} (ev : t.eval args Z none [] Z = some (.ref x)) (e2 : (Term.field t C n d).eval args Z none [] Z = some (.ref y)) : Fld Z Z.heap x C n d (.ref y) := Fld.start (by rw [← fld_at ev]; exact e2)
theorem own_len {cl : Cell} {ty : FieldType} {k : Int32} (ev : t.eval args Z none [] Z = some (.ref x)) (A : Arr Z Z.heap x cl ty) (hh : (Cond.eq (.length t) (.int k)).value args Z none Z [] = some true) : cl.slots.size < 2 ^ 31 ∧ cl.slots.size.toInt32 = k := by
  obtain ⟨y, w, e1, e2, k1, -⟩ := cmp_v (Or.inl hh)
  cases (Term.int_eval k).symm.trans e2
  have hA := A.fin (Vm.Alike.refl _)
  have hl : cl.slots.size < 2 ^ 31 := by
    rcases Nat.lt_or_ge cl.slots.size (2 ^ 31) with q | q
    · exact q
    · simp [Term.eval, ev, hA, Nat.not_lt.mpr q] at e1
  refine ⟨hl, ?_⟩
  have e3 := len_f ev hA hl
  simp [Cond.value, e3, Term.int_eval] at hh
  exact hh
theorem own_elI {cl : Cell} {ty : FieldType} {i k : Int32} (ev : t.eval args Z none [] Z = some (.ref x)) (A : Arr Z Z.heap x cl ty) (hh : (Cond.eq (.elem t (.int i)) (.int k)).value args Z none Z [] = some true) : cl.slots[i.toNatClampNeg]? = some (.int k) := by
  obtain ⟨y, w, e1, e2, k1, -⟩ := cmp_v (Or.inl hh)
  cases (Term.int_eval k).symm.trans e2
  cases y <;> simp [Kin, Value.isRef] at k1
  rename_i q
  simp [Cond.value, e1, Term.int_eval] at hh
  rw [← hh]; exact (elem_in e1 ev (Term.int_eval i) A.1).2
theorem own_elR {cl : Cell} {ty : FieldType} {i : Int32} {y : Addr} (ev : t.eval args Z none [] Z = some (.ref x)) (eu : u.eval args Z none [] Z = some (.ref y)) (A : Arr Z Z.heap x cl ty) (hh : (Cond.eq (.elem t (.int i)) u).value args Z none Z [] = some true) : cl.slots[i.toNatClampNeg]? = some (.ref y) := by
  obtain ⟨p, w, e1, e3, k1, k2⟩ := cmp_v (Or.inl hh)
  cases eu.symm.trans e3
  have k3 := gotT (eq_R e1 eu k2.2 rfl) hh
  rw [← k3]; exact (elem_in e1 ev (Term.int_eval i) A.1).2
theorem own_eqR {y : Addr} (e2 : u.eval args Z none [] Z = some (.ref y)) (hh : (Cond.eq t u).value args Z none Z [] = some true) : t.eval args Z none [] Z = some (.ref y) := by
  obtain ⟨p, w, e1, e3, k1, k2⟩ := cmp_v (Or.inl hh)
  cases e2.symm.trans e3
  have k3 := gotT (eq_R e1 e2 k2.2 rfl) hh
  rw [e1, k3]
end OwnFacts
/-- the cache of Longs: old objects, each with its number -/
def own_LC (Z : State) (h : Heap) (a : Addr) (n : Nat) : Prop := ∃ cl : Cell, Arr Z h a cl (.object "java/lang/Long") ∧ cl.slots.size = (256 : Int32).toNatClampNeg ∧ a < n ∧ ∀ j : Int32, ¬ j < 0 → j < 256 → ∃ b : Addr, cl.slots[j.toNatClampNeg]? = some (.ref b) ∧ b < n ∧ Exa Z h b "java/lang/Long" ∧ Fld Z h b "java/lang/Long" "value" "J" (.long (j - 128).toInt64)
theorem own_LC.keep {Z : State} {h h' : Heap} {a : Addr} {n : Nat} {ws : List Addr} (F : own_LC Z h a n) (K : Keep h h' ws) (q : ∀ x ∈ ws, n ≤ x) : own_LC Z h' a n := by
  obtain ⟨cl, A, S, ha, M⟩ := F
  refine ⟨cl, ⟨K.2.1 a cl A.1 (fun hm => absurd ha (Nat.not_lt.mpr (q a hm))), A.2⟩, S, ha, fun j h0 h1 => ?_⟩
  obtain ⟨b, h2, h3, E, F⟩ := M j h0 h1
  exact ⟨b, h2, h3, E.keep K, F.keep K (fun hm => absurd h3 (Nat.not_lt.mpr (q b hm)))⟩
theorem own_LC.ext {Z : State} {h h' : Heap} {a : Addr} {n : Nat} (F : own_LC Z h a n) (E : Ext h h') : own_LC Z h' a n := F.keep ((Keep.refl h []).ext E) all0
theorem own_LC.start {Z : State} {args : Array Value} {C n d : String} {x : Addr} (ev : (Term.static C n d).eval args Z none [] Z = some (.ref x)) (hA : (Cond.arrayOf (.static C n d) (.object "java/lang/Long")).value args Z none Z [] = some true) (hL : (Cond.eq (.length (.static C n d)) (.int 256)).value args Z none Z [] = some true)
    (hall : (Cond.all (.static C n d) (.and (.exactly (.elem (.static C n d) (.index 0)) "java/lang/Long") (.eq (.field (.elem (.static C n d) (.index 0)) "java/lang/Long" "value" "J") (.op1 .i2l (.sub (.index 0) (.int 128)))))).value args Z none Z [] = some true) : own_LC Z Z.heap x Z.heap.size := by
  obtain ⟨cl, A⟩ := Arr.start ev hA
  have L := own_len ev A hL
  have hsz : cl.slots.size = 256 := by
    have h1 := congrArg Int32.toInt L.2
    have h2 : (cl.slots.size.toInt32).toInt = (cl.slots.size : Int) := by
      have := L.1
      exact Int32.toInt_ofNat_of_lt this
    have h3 : (256 : Int32).toInt = 256 := by decide
    omega
  have hat := A.fin (Vm.Alike.refl _)
  refine ⟨cl, A, by rw [hsz]; decide, (Array.getElem?_eq_some_iff.mp A.1).1, fun j h0 h1 => ?_⟩
  have j0 : 0 ≤ j.toInt := by
    have := fun q => h0 (Int32.lt_iff_toInt_lt.mpr q)
    simp at this; exact this
  have j1 : j.toInt < 256 := by
    have := Int32.lt_iff_toInt_lt.mp h1
    simpa using this
  have hj : j.toNatClampNeg = j.toInt.toNat := rfl
  have hm : j.toNatClampNeg < cl.slots.size := by rw [hsz, hj]; omega
  have hj3 : j.toNatClampNeg.toInt32 = j := by
    apply Int32.toInt_inj.mp
    have q : j.toNatClampNeg < 2 ^ 31 := by rw [hj]; omega
    rw [show j.toNatClampNeg.toInt32 = Int32.ofNat j.toNatClampNeg from rfl, Int32.toInt_ofNat_of_lt q, hj]; omega
  have hx := Cond.all_elim ev hat hall _ hm
  have ev' : (Term.static C n d).eval args Z none [j.toNatClampNeg] Z = some (.ref x) := by simpa only [Term.eval] using ev
  have hi : (Term.index 0).eval args Z none [j.toNatClampNeg] Z = some (.int j) := by simp [Term.eval, hj3]
  simp only [Cond.value] at hx
  split at hx
  · rename_i hex
    split at hex
    · rename_i b c0 eb ec
      have hb := (elem_in eb ev' hi A.1).2
      have E : Exa Z Z.heap b "java/lang/Long" := Exa.start (args := #[.ref b]) (t := .arg 0) rfl (by
        simp only [Cond.value, Term.eval]; simpa [ec] using hex)
      refine ⟨b, hb, ?_, E, ?_⟩
      · obtain ⟨c1, k1, h1, -⟩ := E
        exact (Array.getElem?_eq_some_iff.mp h1).1
      · refine Fld.start ?_
        have e2 : (Term.op1 .i2l (.sub (.index 0) (.int 128))).eval args Z none [j.toNatClampNeg] Z = some (.long (j - 128).toInt64) := by
          simp [Term.eval, hj3, Unary.apply]
        rw [e2, fld_at eb] at hx
        cases hv : Z.fieldOf? b "java/lang/Long" "value" "J" with
        | none => simp [hv] at hx
        | some v => cases v <;> simp [hv] at hx ⊢ ; exact hx
    · simp at hex
    · simp at hex
  · rename_i hne; exact absurd hx (hne)
theorem own_lcq {q : Int64} (h1 : ¬ q < (-128 : Int64)) (h2 : ¬ (127 : Int64) < q) : (q.toInt32 + (128 : Int32) - 128).toInt64 = q := by
  have a1 : ¬ q.toInt < -128 := fun e => h1 (Int64.lt_iff_toInt_lt.mpr e)
  have a2 : ¬ 127 < q.toInt := fun e => h2 (Int64.lt_iff_toInt_lt.mpr e)
  refine Int64.toInt_inj.mp ?_
  rw [c_i2l]
  have b1 := c_isub (q.toInt32 + (128 : Int32)) 128; have b2 := c_iadd q.toInt32 128; have b3 := c_l2i q
  have e1 : (128 : Int32).toInt = 128 := by decide
  have r1 := rng32 q.toInt32; have r2 := rng32 (q.toInt32 + (128 : Int32)); have r3 := rng32 (q.toInt32 + (128 : Int32) - 128)
  omega
section OwnLong
open Jvm.Free.XT
variable {x y : Int64}
theorem own_ll_eq_t (h : x = y) : ifCond.holds .eq (lcmpW x y) = true := ll_eq_t h
theorem own_ll_eq_f (h : ¬ x = y) : ifCond.holds .eq (lcmpW x y) = false := ll_eq_f h
theorem own_ll_ne_t (h : ¬ x = y) : ifCond.holds .ne (lcmpW x y) = true := ll_ne_t h
theorem own_ll_ne_f (h : x = y) : ifCond.holds .ne (lcmpW x y) = false := ll_ne_f h
theorem own_ll_lt_t (h : x < y) : ifCond.holds .lt (lcmpW x y) = true := ll_lt_t h
theorem own_ll_lt_f (h : ¬ x < y) : ifCond.holds .lt (lcmpW x y) = false := ll_lt_f h
theorem own_ll_ge_t (h : ¬ x < y) : ifCond.holds .ge (lcmpW x y) = true := ll_ge_t h
theorem own_ll_ge_f (h : x < y) : ifCond.holds .ge (lcmpW x y) = false := ll_ge_f h
theorem own_ll_gt_t (h : y < x) : ifCond.holds .gt (lcmpW x y) = true := ll_gt_t h
theorem own_ll_gt_f (h : ¬ y < x) : ifCond.holds .gt (lcmpW x y) = false := ll_gt_f h
theorem own_ll_le_t (h : ¬ y < x) : ifCond.holds .le (lcmpW x y) = true := ll_le_t h
theorem own_ll_le_f (h : y < x) : ifCond.holds .le (lcmpW x y) = false := ll_le_f h
end OwnLong
section OwnSteps
variable {p : Program} {l : Launch} {e : Env} {R : Room} {s : State} {m : MethodId} {args : Array Value} {below : List Frame} {meth : Method} {c : Code} {T : State} {locs : List Loc} {cells slots : Nat} {bytes : ByteArray} {pc : Nat} {L : Array Slot} {S : List Value} {t : State}

theorem oiload (X : Stand p l e R s m args below meth c T locs cells slots) (hx : p.tables.exec = Jvm.exec) (hby : c.code = bytes) {k : Nat} {v : Int32} (hd : decode bytes pc = .ok (.iload k, 2)) (hl : L[k]? = some (.val (.int v))) (hr : Steps p.tables e below (T.setTop (mkF m (pc + 2) L (.int v :: S))) t) : Steps p.tables e below (T.setTop (mkF m pc L S)) t := XS.iload X.here hx rfl (hb hby hd) hl hr
theorem oiloadN (X : Stand p l e R s m args below meth c T locs cells slots) (hx : p.tables.exec = Jvm.exec) (hby : c.code = bytes) {k : Fin 4} {v : Int32} (hd : decode bytes pc = .ok (.iload_n k, 1)) (hl : L[k.val]? = some (.val (.int v))) (hr : Steps p.tables e below (T.setTop (mkF m (pc + 1) L (.int v :: S))) t) : Steps p.tables e below (T.setTop (mkF m pc L S)) t := XS.iloadN X.here hx rfl (hb hby hd) hl hr
theorem olload (X : Stand p l e R s m args below meth c T locs cells slots) (hx : p.tables.exec = Jvm.exec) (hby : c.code = bytes) {k : Nat} {v : Int64} (hd : decode bytes pc = .ok (.lload k, 2)) (hl : L[k]? = some (.val (.long v))) (hr : Steps p.tables e below (T.setTop (mkF m (pc + 2) L (.long v :: S))) t) : Steps p.tables e below (T.setTop (mkF m pc L S)) t := XS.lload X.here hx rfl (hb hby hd) hl hr
theorem olloadN (X : Stand p l e R s m args below meth c T locs cells slots) (hx : p.tables.exec = Jvm.exec) (hby : c.code = bytes) {k : Fin 4} {v : Int64} (hd : decode bytes pc = .ok (.lload_n k, 1)) (hl : L[k.val]? = some (.val (.long v))) (hr : Steps p.tables e below (T.setTop (mkF m (pc + 1) L (.long v :: S))) t) : Steps p.tables e below (T.setTop (mkF m pc L S)) t := XS.lloadN X.here hx rfl (hb hby hd) hl hr
theorem oaload (X : Stand p l e R s m args below meth c T locs cells slots) (hx : p.tables.exec = Jvm.exec) (hby : c.code = bytes) {k : Nat} {v : Value} (hd : decode bytes pc = .ok (.aload k, 2)) (hl : L[k]? = some (.val v)) (hv : v.isRef = true) (hr : Steps p.tables e below (T.setTop (mkF m (pc + 2) L (v :: S))) t) : Steps p.tables e below (T.setTop (mkF m pc L S)) t := XS.aload X.here hx rfl (hb hby hd) hl hv hr
theorem oaloadN (X : Stand p l e R s m args below meth c T locs cells slots) (hx : p.tables.exec = Jvm.exec) (hby : c.code = bytes) {k : Fin 4} {v : Value} (hd : decode bytes pc = .ok (.aload_n k, 1)) (hl : L[k.val]? = some (.val v)) (hv : v.isRef = true) (hr : Steps p.tables e below (T.setTop (mkF m (pc + 1) L (v :: S))) t) : Steps p.tables e below (T.setTop (mkF m pc L S)) t := XS.aloadN X.here hx rfl (hb hby hd) hl hv hr
theorem oistore (X : Stand p l e R s m args below meth c T locs cells slots) (hx : p.tables.exec = Jvm.exec) (hby : c.code = bytes) {k : Nat} {x : Int32} (hd : decode bytes pc = .ok (.istore k, 2)) (l' : Array Slot) (hl : storeLocals L k (.int x) = some l') (hr : Steps p.tables e below (T.setTop (mkF m (pc + 2) l' S)) t) : Steps p.tables e below (T.setTop (mkF m pc L (.int x :: S))) t := XS.istore X.here hx rfl (hb hby hd) rfl hl hr
theorem oistoreN (X : Stand p l e R s m args below meth c T locs cells slots) (hx : p.tables.exec = Jvm.exec) (hby : c.code = bytes) {k : Fin 4} {x : Int32} (hd : decode bytes pc = .ok (.istore_n k, 1)) (l' : Array Slot) (hl : storeLocals L k.val (.int x) = some l') (hr : Steps p.tables e below (T.setTop (mkF m (pc + 1) l' S)) t) : Steps p.tables e below (T.setTop (mkF m pc L (.int x :: S))) t := XS.istoreN X.here hx rfl (hb hby hd) rfl hl hr
theorem oastore (X : Stand p l e R s m args below meth c T locs cells slots) (hx : p.tables.exec = Jvm.exec) (hby : c.code = bytes) {k : Nat} {x : Value} (hd : decode bytes pc = .ok (.astore k, 2)) (l' : Array Slot) (hv : x.isRef = true) (hl : storeLocals L k x = some l') (hr : Steps p.tables e below (T.setTop (mkF m (pc + 2) l' S)) t) : Steps p.tables e below (T.setTop (mkF m pc L (x :: S))) t := XS.astore X.here hx rfl (hb hby hd) rfl hv hl hr
theorem oastoreN (X : Stand p l e R s m args below meth c T locs cells slots) (hx : p.tables.exec = Jvm.exec) (hby : c.code = bytes) {k : Fin 4} {x : Value} (hd : decode bytes pc = .ok (.astore_n k, 1)) (l' : Array Slot) (hv : x.isRef = true) (hl : storeLocals L k.val x = some l') (hr : Steps p.tables e below (T.setTop (mkF m (pc + 1) l' S)) t) : Steps p.tables e below (T.setTop (mkF m pc L (x :: S))) t := XS.astoreN X.here hx rfl (hb hby hd) rfl hv hl hr
theorem oiconst (X : Stand p l e R s m args below meth c T locs cells slots) (hx : p.tables.exec = Jvm.exec) (hby : c.code = bytes) {i : Int} (hd : decode bytes pc = .ok (.iconst i, 1)) (hr : Steps p.tables e below (T.setTop (mkF m (pc + 1) L (.int (Int32.ofInt i) :: S))) t) : Steps p.tables e below (T.setTop (mkF m pc L S)) t := XS.iconst X.here hx rfl (hb hby hd) hr
theorem obipush (X : Stand p l e R s m args below meth c T locs cells slots) (hx : p.tables.exec = Jvm.exec) (hby : c.code = bytes) {i : Int} (hd : decode bytes pc = .ok (.bipush i, 2)) (hr : Steps p.tables e below (T.setTop (mkF m (pc + 2) L (.int (Int8.ofInt i).toInt32 :: S))) t) : Steps p.tables e below (T.setTop (mkF m pc L S)) t := XS.bipush X.here hx rfl (hb hby hd) hr
theorem osipush (X : Stand p l e R s m args below meth c T locs cells slots) (hx : p.tables.exec = Jvm.exec) (hby : c.code = bytes) {i : Int} (hd : decode bytes pc = .ok (.sipush i, 3)) (hr : Steps p.tables e below (T.setTop (mkF m (pc + 3) L (.int (Int16.ofInt i).toInt32 :: S))) t) : Steps p.tables e below (T.setTop (mkF m pc L S)) t := XS.sipush X.here hx rfl (hb hby hd) hr
theorem onull (X : Stand p l e R s m args below meth c T locs cells slots) (hx : p.tables.exec = Jvm.exec) (hby : c.code = bytes) (hd : decode bytes pc = .ok (.aconst_null, 1)) (hr : Steps p.tables e below (T.setTop (mkF m (pc + 1) L (.null :: S))) t) : Steps p.tables e below (T.setTop (mkF m pc L S)) t := XS.aconstNull X.here hx rfl (hb hby hd) hr
theorem oiadd (X : Stand p l e R s m args below meth c T locs cells slots) (hx : p.tables.exec = Jvm.exec) (hby : c.code = bytes) {x y : Int32} (hd : decode bytes pc = .ok (.iadd, 1)) (hr : Steps p.tables e below (T.setTop (mkF m (pc + 1) L (.int (x + y) :: S))) t) : Steps p.tables e below (T.setTop (mkF m pc L (.int y :: .int x :: S))) t := XS.iadd X.here hx rfl (hb hby hd) rfl hr
theorem oiand (X : Stand p l e R s m args below meth c T locs cells slots) (hx : p.tables.exec = Jvm.exec) (hby : c.code = bytes) {x y : Int32} (hd : decode bytes pc = .ok (.iand, 1)) (hr : Steps p.tables e below (T.setTop (mkF m (pc + 1) L (.int (x &&& y) :: S))) t) : Steps p.tables e below (T.setTop (mkF m pc L (.int y :: .int x :: S))) t := XS.iand X.here hx rfl (hb hby hd) rfl hr
theorem oiushr (X : Stand p l e R s m args below meth c T locs cells slots) (hx : p.tables.exec = Jvm.exec) (hby : c.code = bytes) {x y : Int32} (hd : decode bytes pc = .ok (.iushr, 1)) (hr : Steps p.tables e below (T.setTop (mkF m (pc + 1) L (.int ((x.toUInt32 >>> (y &&& 31).toUInt32).toInt32) :: S))) t) : Steps p.tables e below (T.setTop (mkF m pc L (.int y :: .int x :: S))) t := XS.iushr X.here hx rfl (hb hby hd) rfl hr
theorem ol2i (X : Stand p l e R s m args below meth c T locs cells slots) (hx : p.tables.exec = Jvm.exec) (hby : c.code = bytes) {x : Int64} (hd : decode bytes pc = .ok (.l2i, 1)) (hr : Steps p.tables e below (T.setTop (mkF m (pc + 1) L ((.int (x.toInt32)) :: S))) t) : Steps p.tables e below (T.setTop (mkF m pc L (.long x :: S))) t := XS.l2i X.here hx rfl (hb hby hd) rfl hr
theorem oirem (X : Stand p l e R s m args below meth c T locs cells slots) (hx : p.tables.exec = Jvm.exec) (hby : c.code = bytes) {x y : Int32} (hd : decode bytes pc = .ok (.irem, 1)) (hy : y ≠ 0) (hr : Steps p.tables e below (T.setTop (mkF m (pc + 1) L (.int (x % y) :: S))) t) : Steps p.tables e below (T.setTop (mkF m pc L (.int y :: .int x :: S))) t := iremM X hx rfl (hb hby hd) rfl hy hr
theorem olcmp (X : Stand p l e R s m args below meth c T locs cells slots) (hx : p.tables.exec = Jvm.exec) (hby : c.code = bytes) {x y : Int64} (hd : decode bytes pc = .ok (.lcmp, 1)) (hr : Steps p.tables e below (T.setTop (mkF m (pc + 1) L (.int (lcmpW x y) :: S))) t) : Steps p.tables e below (T.setTop (mkF m pc L (.long y :: .long x :: S))) t := XS.lcmp X.here hx rfl (hb hby hd) rfl hr
theorem odup (X : Stand p l e R s m args below meth c T locs cells slots) (hx : p.tables.exec = Jvm.exec) (hby : c.code = bytes) {x : Value} (hd : decode bytes pc = .ok (.dup, 1)) (hc : x.category = 1) (hr : Steps p.tables e below (T.setTop (mkF m (pc + 1) L (x :: x :: S))) t) : Steps p.tables e below (T.setTop (mkF m pc L (x :: S))) t := XS.dup X.here hx rfl (hb hby hd) rfl hc hr
theorem ogoto (X : Stand p l e R s m args below meth c T locs cells slots) (hx : p.tables.exec = Jvm.exec) (hby : c.code = bytes) {o : Int} (hd : decode bytes pc = .ok (.goto o, 3)) (pc' : Nat) (hp : 0 ≤ (pc : Int) + o ∧ ((pc : Int) + o).toNat = pc') (hr : Steps p.tables e below (T.setTop (mkF m pc' L S)) t) : Steps p.tables e below (T.setTop (mkF m pc L S)) t := XS.goto X.here hx rfl rfl (hb hby hd) hp.1 hp.2 hr
theorem oifY (X : Stand p l e R s m args below meth c T locs cells slots) (hx : p.tables.exec = Jvm.exec) (hby : c.code = bytes) {cd : ClassFile.Cond} {x : Int32} {o : Int} (hd : decode bytes pc = .ok (.ifCond cd o, 3)) (pc' : Nat) (hc : ifCond.holds cd x = true) (hp : 0 ≤ (pc : Int) + o ∧ ((pc : Int) + o).toNat = pc') (hr : Steps p.tables e below (T.setTop (mkF m pc' L S)) t) : Steps p.tables e below (T.setTop (mkF m pc L (.int x :: S))) t := XS.ifYes X.here hx rfl rfl (hb hby hd) rfl hc hp.1 hp.2 hr
theorem oifN (X : Stand p l e R s m args below meth c T locs cells slots) (hx : p.tables.exec = Jvm.exec) (hby : c.code = bytes) {cd : ClassFile.Cond} {x : Int32} {o : Int} (hd : decode bytes pc = .ok (.ifCond cd o, 3)) (hc : ifCond.holds cd x = false) (hr : Steps p.tables e below (T.setTop (mkF m (pc + 3) L S)) t) : Steps p.tables e below (T.setTop (mkF m pc L (.int x :: S))) t := XS.ifNo X.here hx rfl (hb hby hd) rfl hc hr
theorem oicY (X : Stand p l e R s m args below meth c T locs cells slots) (hx : p.tables.exec = Jvm.exec) (hby : c.code = bytes) {cd : ClassFile.Cond} {x y : Int32} {o : Int} (hd : decode bytes pc = .ok (.if_icmp cd o, 3)) (pc' : Nat) (hc : if_icmp.holds cd x y = true) (hp : 0 ≤ (pc : Int) + o ∧ ((pc : Int) + o).toNat = pc') (hr : Steps p.tables e below (T.setTop (mkF m pc' L S)) t) : Steps p.tables e below (T.setTop (mkF m pc L (.int y :: .int x :: S))) t := XS.icmpYes X.here hx rfl rfl (hb hby hd) rfl hc hp.1 hp.2 hr
theorem oicN (X : Stand p l e R s m args below meth c T locs cells slots) (hx : p.tables.exec = Jvm.exec) (hby : c.code = bytes) {cd : ClassFile.Cond} {x y : Int32} {o : Int} (hd : decode bytes pc = .ok (.if_icmp cd o, 3)) (hc : if_icmp.holds cd x y = false) (hr : Steps p.tables e below (T.setTop (mkF m (pc + 3) L S)) t) : Steps p.tables e below (T.setTop (mkF m pc L (.int y :: .int x :: S))) t := XS.icmpNo X.here hx rfl (hb hby hd) rfl hc hr
theorem onlY (X : Stand p l e R s m args below meth c T locs cells slots) (hx : p.tables.exec = Jvm.exec) (hby : c.code = bytes) {o : Int} (hd : decode bytes pc = .ok (.ifnull o, 3)) (pc' : Nat) (hp : 0 ≤ (pc : Int) + o ∧ ((pc : Int) + o).toNat = pc') (hr : Steps p.tables e below (T.setTop (mkF m pc' L S)) t) : Steps p.tables e below (T.setTop (mkF m pc L (.null :: S))) t := XS.ifnullYes X.here hx rfl rfl (hb hby hd) rfl hp.1 hp.2 hr
theorem onlN (X : Stand p l e R s m args below meth c T locs cells slots) (hx : p.tables.exec = Jvm.exec) (hby : c.code = bytes) {o : Int} {a : Addr} (hd : decode bytes pc = .ok (.ifnull o, 3)) (hr : Steps p.tables e below (T.setTop (mkF m (pc + 3) L S)) t) : Steps p.tables e below (T.setTop (mkF m pc L (.ref a :: S))) t := XS.ifnullNo X.here hx rfl (hb hby hd) rfl hr
end OwnSteps
section OwnCalls
variable {p : Program} {l : Launch} {e : Env} {R : Room} {s : State} {m : MethodId} {args : Array Value} {below : List Frame} {meth : Method} {c : Code} {T : State} {locs : List Loc} {cells slots : Nat} {Z : State} {a0 : Array Value} {h : Heap} {bytes : ByteArray}
theorem ocallS (X : Stand p l e R s m args below meth c T locs cells slots) (hx : p.tables.exec = Jvm.exec) (hZ : Z.Warmed39 s.vm) {cb : ByteArray} {maxL : Nat} {ret : Option FieldType} {rm : Room} {Q : Option Value → Heap → List Loc → Prop} {argsL rest : List Value} {index : Nat} {own : String} (y : MethodName) (hown : s.vm.findClass own = some m.cls) (w1 : (Cond.methodLink own index y).before a0 Z = true) (w2 : (Cond.static y).before a0 Z = true) (hy : y.cls ≠ "java/lang/invoke/MethodHandle" ∧ y.cls ≠ "java/lang/invoke/VarHandle") (w5 : (Cond.code y cb maxL ret).before a0 Z = true) (w6 : (Cond.initialized y.cls).before a0 Z = true) (eT : T.heap = h) (hM : MetFree l y (head1 [Cond.code y cb maxL ret] rm) (fun a U => a = argsL.toArray ∧ Z.Warmed39 U.vm ∧ U.heap = h) (fun _ _ _ _ _ => True) (fun _ U o U' => ∃ v L, o = .returned v ∧ Q v U'.heap L ∧ FrameEnd U o U' L rm.cells rm.slots)) {st : List Value} (hst : st = argsL.reverse ++ rest) (W : Nat) (hW : (rest.map fun v => v.category).sum = W) (hroom : rm.frames + 1 ≤ R.frames ∧ W + (maxL + 11) + rm.locals ≤ R.locals ∧ cells + rm.cells ≤ R.cells ∧ slots + rm.slots ≤ R.slots) {pc : Nat} {Ls : Array Slot} {nl : Nat} (hml : c.maxLocals = nl) (hsz : Ls.size = nl) (hlen : ∀ sig, parseMethodDescriptor y.desc = some sig → argsL.length = sig.parameters.length) (hd : decode bytes pc = .ok (.invokestatic index, 3)) (hby : c.code = bytes) : ∃ v T' L, Stand p l e R s m args below meth c T' (locs ++ L) (cells + rm.cells) (slots + rm.slots) ∧ Q v T'.heap L ∧ ∀ t, Steps p.tables e below (T'.setTop (mkF m (pc + 3) Ls (v.toList ++ rest))) t → Steps p.tables e below (T.setTop (mkF m pc Ls st)) t := by
  subst hst
  obtain ⟨_, _, ⟨T1, L1, k1, n1⟩, -, X1, ⟨Lc1, hQ1, l1, y1, z1⟩, st1⟩ := Jvm.LawKit.callS X hx hown (mvT hZ w1) (mvT hZ w2) (mvT hZ w6) (mvT hZ w5) hy (backOf (W := W) hM hZ w5 w6 hroom.1 hroom.2.1) (g := mkF m pc Ls (argsL.reverse ++ rest)) rfl (hsz.trans hml.symm) (argsL := argsL) (rest := rest) hlen rfl (by show 2 * 0 + _ ≤ _; rw [Nat.mul_zero, Nat.zero_add]; exact Nat.le_of_eq hW) (hb hby hd) (fun _ _ => ⟨rfl, eT, hroom.2.2.1, hroom.2.2.2⟩)
  dsimp only [Pt.U, Pt.locs, Pt.cells, Pt.slots] at X1 l1 y1 z1 st1 hQ1
  subst l1 y1 z1
  exact ⟨_, _, _, X1, hQ1, st1⟩
theorem ocallI (X : Stand p l e R s m args below meth c T locs cells slots) (hx : p.tables.exec = Jvm.exec) (hZ : Z.Warmed39 s.vm) {cb : ByteArray} {maxL : Nat} {rm : Room} {Q : Option Value → Heap → List Loc → Prop} {argsL rest : List Value} {index : Nat} {own : String} (y : MethodName) (hn : y.name = "<init>") (hown : s.vm.findClass own = some m.cls) (w1 : (Cond.methodLink own index y).before a0 Z = true) (w2 : (Cond.instanceMethod y).before a0 Z = true) (hy : y.cls ≠ "java/lang/invoke/MethodHandle" ∧ y.cls ≠ "java/lang/invoke/VarHandle") (w5 : (Cond.code y cb maxL none).before a0 Z = true) (w6 : (Cond.initialized y.cls).before a0 Z = true) (eT : T.heap = h) {b : Addr} (hM : MetFree l y (head1 [Cond.code y cb maxL none] rm) (fun a U => a = (.ref b :: argsL).toArray ∧ Z.Warmed39 U.vm ∧ U.heap = h) (fun _ _ _ _ _ => True) (fun _ U o U' => ∃ v L, o = .returned v ∧ Q v U'.heap L ∧ FrameEnd U o U' L rm.cells rm.slots)) {st : List Value} (hst : st = argsL.reverse ++ .ref b :: rest) (W : Nat) (hW : (rest.map fun v => v.category).sum = W) (hroom : rm.frames + 1 ≤ R.frames ∧ W + (maxL + 11) + rm.locals ≤ R.locals ∧ cells + rm.cells ≤ R.cells ∧ slots + rm.slots ≤ R.slots) {pc : Nat} {Ls : Array Slot} {nl : Nat} (hml : c.maxLocals = nl) (hsz : Ls.size = nl) (hlen : ∀ sig, parseMethodDescriptor y.desc = some sig → argsL.length = sig.parameters.length) (hd : decode bytes pc = .ok (.invokespecial index, 3)) (hby : c.code = bytes) : ∃ v T' L, Stand p l e R s m args below meth c T' (locs ++ L) (cells + rm.cells) (slots + rm.slots) ∧ Q v T'.heap L ∧ ∀ t, Steps p.tables e below (T'.setTop (mkF m (pc + 3) Ls (v.toList ++ rest))) t → Steps p.tables e below (T.setTop (mkF m pc Ls st)) t := by
  subst hst
  obtain ⟨_, _, ⟨T1, L1, k1, n1⟩, -, X1, ⟨Lc1, hQ1, l1, y1, z1⟩, st1⟩ := X.specialBack hx hn hown (mvT hZ w1) (mvT hZ w2) (mvT hZ w5) hy (backOf (W := W) hM hZ w5 w6 hroom.1 hroom.2.1) (g := mkF m pc Ls (argsL.reverse ++ .ref b :: rest)) rfl (hsz.trans hml.symm) (Steps.refl _) (a := b) (argsL := argsL) (rest := rest) hlen rfl (by show 2 * 0 + _ ≤ _; rw [Nat.mul_zero, Nat.zero_add]; exact Nat.le_of_eq hW) (hb hby hd) (fun _ _ => ⟨rfl, eT, hroom.2.2.1, hroom.2.2.2⟩)
  dsimp only [Pt.U, Pt.locs, Pt.cells, Pt.slots] at X1 l1 y1 z1 st1 hQ1
  subst l1 y1 z1
  exact ⟨_, _, _, X1, hQ1, fun _ k => st1.trans k⟩
theorem ocallV (X : Stand p l e R s m args below meth c T locs cells slots) (hx : p.tables.exec = Jvm.exec) (hZ : Z.Warmed39 s.vm) {cb : ByteArray} {maxL : Nat} {ret : Option FieldType} {rm : Room} {Q : Option Value → Heap → List Loc → Prop} {argsL rest : List Value} {index : Nat} {own : String} {C : String} (y z : MethodName) (hown : s.vm.findClass own = some m.cls) (w1 : (Cond.methodLink own index y).before a0 Z = true) (w2 : (Cond.declares y).before a0 Z = true) (nf : NotFace s y) (w4 : (Cond.selects C y z).before a0 Z = true) (w3 : (Cond.instanceMethod z).before a0 Z = true) (hy : y.cls ≠ "java/lang/invoke/MethodHandle" ∧ y.cls ≠ "java/lang/invoke/VarHandle") (w5 : (Cond.code z cb maxL ret).before a0 Z = true) (w6 : (Cond.initialized z.cls).before a0 Z = true) (eT : T.heap = h) {b : Addr} (E : Exa Z h b C) (hM : MetFree l z (head1 [Cond.code z cb maxL ret] rm) (fun a U => a = (.ref b :: argsL).toArray ∧ Z.Warmed39 U.vm ∧ U.heap = h) (fun _ _ _ _ _ => True) (fun _ U o U' => ∃ v L, o = .returned v ∧ Q v U'.heap L ∧ FrameEnd U o U' L rm.cells rm.slots)) {st : List Value} (hst : st = argsL.reverse ++ .ref b :: rest) (W : Nat) (hW : (rest.map fun v => v.category).sum = W) (hroom : rm.frames + 1 ≤ R.frames ∧ W + (maxL + 11) + rm.locals ≤ R.locals ∧ cells + rm.cells ≤ R.cells ∧ slots + rm.slots ≤ R.slots) {pc : Nat} {Ls : Array Slot} {nl : Nat} (hml : c.maxLocals = nl) (hsz : Ls.size = nl) (hlen : ∀ sig, parseMethodDescriptor y.desc = some sig → argsL.length = sig.parameters.length) (hd : decode bytes pc = .ok (.invokevirtual index, 3)) (hby : c.code = bytes) : ∃ v T' L, Stand p l e R s m args below meth c T' (locs ++ L) (cells + rm.cells) (slots + rm.slots) ∧ Q v T'.heap L ∧ ∀ t, Steps p.tables e below (T'.setTop (mkF m (pc + 3) Ls (v.toList ++ rest))) t → Steps p.tables e below (T.setTop (mkF m pc Ls st)) t := by
  subst hst
  obtain ⟨cq, kq, qa, qb, qc⟩ := isOf hZ eT E
  obtain ⟨_, _, ⟨T1, L1, k1, n1⟩, -, X1, ⟨Lc1, hQ1, l1, y1, z1⟩, st1⟩ := X.virtualBack hx hown (mvT hZ w1) (mvT hZ w2) nf (mvT hZ w4) (mvT hZ w3) hy (backOf (W := W) hM hZ w5 w6 hroom.1 hroom.2.1) qa qc (g := mkF m pc Ls (argsL.reverse ++ .ref b :: rest)) rfl (hsz.trans hml.symm) (Steps.refl _) (argsL := argsL) (rest := rest) hlen rfl (by show 2 * 0 + _ ≤ _; rw [Nat.mul_zero, Nat.zero_add]; exact Nat.le_of_eq hW) (hb hby hd) (fun _ _ => ⟨rfl, eT, hroom.2.2.1, hroom.2.2.2⟩)
  dsimp only [Pt.U, Pt.locs, Pt.cells, Pt.slots] at X1 l1 y1 z1 st1 hQ1
  subst l1 y1 z1
  exact ⟨_, _, _, X1, hQ1, fun _ k => st1.trans k⟩
end OwnCalls
end Jvm.RoadKit
namespace Jvm.Pilot.@@N@@
open Jvm Jvm.ClassFile Sem Op Lib Jvm.Free Jvm.Stand Jvm.LawKit Jvm.RoadKit Bundle Jvm.Pilot.@@N@@.Jvm.D
theorem ww {Z : State} {a0 : Array Value} (hw : ∀ d ∈ tables_1, d.before a0 Z = true) (i : Nat) {d : Jvm.Cond} (h : tables_1[i]? = some d) : d.before a0 Z = true := hw d (List.mem_of_getElem? h)
def QLaw (n0 : Nat) (v : Option Value) (h : Heap) (L : List Loc) : Prop := v = some (.int (1 : Int32)) ∧ Fr n0 L

def own_unit (k : Int32) (w0 w1 w2 w3 w4 : Addr) : Addr := if k = (0 : Int32) then w0 else if k = (1 : Int32) then w1 else if k = (2 : Int32) then w2 else if k = (3 : Int32) then w3 else w4
def own_anch (k : Int32) (w0 w1 w2 : Addr) : Addr := if k = (0 : Int32) then w0 else if k = (1 : Int32) then w1 else w2
theorem own_r2 (t : Int32) (h0 : 0 ≤ t.toInt) (h1 : t.toInt < 2) : t = (0 : Int32) ∨ t = (1 : Int32) := by
  have h : t.toInt = 0 ∨ t.toInt = 1 := by omega
  rcases h with h | h <;> simp [← Int32.toInt_inj, h]
theorem own_s2 (x : Int32) : x &&& (1 : Int32) = (0 : Int32) ∨ x &&& (1 : Int32) = (1 : Int32) := own_r2 _ (c_and x 1 (by decide)).1 (by have h := (c_and x 1 (by decide)).2; have e : (1 : Int32).toInt = 1 := (by decide); omega)
abbrev lc0 (x0 x1 : Int32) (x2 x3 x4 x5 : Int64) : Array Slot := #[.val (.int x0), .val (.int x1), .val (.long x2), .second, .val (.long x3), .second, .val (.long x4), .second, .val (.long x5), .second, .unset, .unset, .unset, .unset, .unset, .unset, .unset, .unset, .unset, .unset, .unset, .unset, .unset, .unset, .unset, .unset]
abbrev lc1 (x0 x1 : Int32) (x2 x3 x4 x5 : Int64) (x6 : Int32) : Array Slot := #[.val (.int x0), .val (.int x1), .val (.long x2), .second, .val (.long x3), .second, .val (.long x4), .second, .val (.long x5), .second, .val (.int x6), .unset, .unset, .unset, .unset, .unset, .unset, .unset, .unset, .unset, .unset, .unset, .unset, .unset, .unset, .unset]
abbrev lc2 (x0 x1 : Int32) (x2 x3 x4 x5 : Int64) (x6 x7 : Int32) : Array Slot := #[.val (.int x0), .val (.int x1), .val (.long x2), .second, .val (.long x3), .second, .val (.long x4), .second, .val (.long x5), .second, .val (.int x6), .val (.int x7), .unset, .unset, .unset, .unset, .unset, .unset, .unset, .unset, .unset, .unset, .unset, .unset, .unset, .unset]
abbrev lc3 (x0 x1 : Int32) (x2 x3 x4 x5 : Int64) (x6 x7 x8 : Int32) : Array Slot := #[.val (.int x0), .val (.int x1), .val (.long x2), .second, .val (.long x3), .second, .val (.long x4), .second, .val (.long x5), .second, .val (.int x6), .val (.int x7), .val (.int x8), .unset, .unset, .unset, .unset, .unset, .unset, .unset, .unset, .unset, .unset, .unset, .unset, .unset]
abbrev lc4 (x0 x1 : Int32) (x2 x3 x4 x5 : Int64) (x6 x7 x8 x9 : Int32) : Array Slot := #[.val (.int x0), .val (.int x1), .val (.long x2), .second, .val (.long x3), .second, .val (.long x4), .second, .val (.long x5), .second, .val (.int x6), .val (.int x7), .val (.int x8), .val (.int x9), .unset, .unset, .unset, .unset, .unset, .unset, .unset, .unset, .unset, .unset, .unset, .unset]
abbrev lc5 (x0 x1 : Int32) (x2 x3 x4 x5 : Int64) (x6 x7 x8 x9 : Int32) : Array Slot := #[.val (.int x0), .val (.int x1), .val (.long x2), .second, .val (.long x3), .second, .val (.long x4), .second, .val (.long x5), .second, .val (.int x6), .val (.int x7), .val (.int x8), .val (.int x9), .val .null, .unset, .unset, .unset, .unset, .unset, .unset, .unset, .unset, .unset, .unset, .unset]
abbrev lc6 (x0 x1 : Int32) (x2 x3 x4 x5 : Int64) (x6 x7 x8 x9 : Int32) : Array Slot := #[.val (.int x0), .val (.int x1), .val (.long x2), .second, .val (.long x3), .second, .val (.long x4), .second, .val (.long x5), .second, .val (.int x6), .val (.int x7), .val (.int x8), .val (.int x9), .val .null, .val .null, .unset, .unset, .unset, .unset, .unset, .unset, .unset, .unset, .unset, .unset]
abbrev lc7 (x0 x1 : Int32) (x2 x3 x4 x5 : Int64) (x6 x7 x8 x9 : Int32) : Array Slot := #[.val (.int x0), .val (.int x1), .val (.long x2), .second, .val (.long x3), .second, .val (.long x4), .second, .val (.long x5), .second, .val (.int x6), .val (.int x7), .val (.int x8), .val (.int x9), .val .null, .val .null, .val .null, .unset, .unset, .unset, .unset, .unset, .unset, .unset, .unset, .unset]
abbrev lc8 (x0 x1 : Int32) (x2 x3 x4 x5 : Int64) (x6 x7 x8 x9 : Int32) : Array Slot := #[.val (.int x0), .val (.int x1), .val (.long x2), .second, .val (.long x3), .second, .val (.long x4), .second, .val (.long x5), .second, .val (.int x6), .val (.int x7), .val (.int x8), .val (.int x9), .val .null, .val .null, .val .null, .val .null, .unset, .unset, .unset, .unset, .unset, .unset, .unset, .unset]
theorem d1_0 : decode method_2_code 0 = .ok (.iload_n 0, 1) := by decide +kernel
theorem d1_1 : decode method_2_code 1 = .ok (.ldc 7, 2) := by decide +kernel
abbrev lc9 (x0 : Int32) : Array Slot := #[.val (.int x0), .unset]
theorem d1_3 : decode method_2_code 3 = .ok (.iand, 1) := by decide +kernel
theorem d1_4 : decode method_2_code 4 = .ok (.iconst 5, 1) := by decide +kernel
theorem d1_5 : decode method_2_code 5 = .ok (.irem, 1) := by decide +kernel
theorem d1_6 : decode method_2_code 6 = .ok (.istore_n 1, 1) := by decide +kernel
abbrev lc10 (x0 x1 : Int32) : Array Slot := #[.val (.int x0), .val (.int x1)]
theorem d1_7 : decode method_2_code 7 = .ok (.iload_n 1, 1) := by decide +kernel
theorem d1_8 : decode method_2_code 8 = .ok (.ifCond .ne 7, 3) := by decide +kernel
theorem d1_11 : decode method_2_code 11 = .ok (.getstatic 8, 3) := by decide +kernel
theorem d1_14 : decode method_2_code 14 = .ok (.areturn, 1) := by decide +kernel
theorem d1_15 : decode method_2_code 15 = .ok (.iload_n 1, 1) := by decide +kernel
theorem d1_16 : decode method_2_code 16 = .ok (.iconst 1, 1) := by decide +kernel
theorem d1_17 : decode method_2_code 17 = .ok (.if_icmp .ne 7, 3) := by decide +kernel
theorem d1_20 : decode method_2_code 20 = .ok (.getstatic 14, 3) := by decide +kernel
theorem d1_23 : decode method_2_code 23 = .ok (.areturn, 1) := by decide +kernel
theorem d1_24 : decode method_2_code 24 = .ok (.iload_n 1, 1) := by decide +kernel
theorem d1_25 : decode method_2_code 25 = .ok (.iconst 2, 1) := by decide +kernel
theorem d1_26 : decode method_2_code 26 = .ok (.if_icmp .ne 7, 3) := by decide +kernel
theorem d1_29 : decode method_2_code 29 = .ok (.getstatic 17, 3) := by decide +kernel
theorem d1_32 : decode method_2_code 32 = .ok (.areturn, 1) := by decide +kernel
theorem d1_33 : decode method_2_code 33 = .ok (.iload_n 1, 1) := by decide +kernel
theorem d1_34 : decode method_2_code 34 = .ok (.iconst 3, 1) := by decide +kernel
theorem d1_35 : decode method_2_code 35 = .ok (.if_icmp .ne 7, 3) := by decide +kernel
theorem d1_38 : decode method_2_code 38 = .ok (.getstatic 20, 3) := by decide +kernel
theorem d1_41 : decode method_2_code 41 = .ok (.areturn, 1) := by decide +kernel
theorem d1_42 : decode method_2_code 42 = .ok (.getstatic 23, 3) := by decide +kernel
theorem d1_45 : decode method_2_code 45 = .ok (.areturn, 1) := by decide +kernel
theorem ef_0 (m : MethodId) (x0 : Int32) : entryFrame m #[(.int x0)] 2 = mkF m 0 #[.val (.int x0), .unset] [] := by first | (simp [entryFrame, mkF, argsToLocals, Value.category, maxLocals]; done) | rfl
theorem pn_0 : plainName "com/example/time_aware_ranking/timeawareranking/CalendarIntervalIsBoundedPinLaw" = true := by first | (simp [plainName, overriddenIn]; done) | decide +kernel
theorem pd_0 : parseMethodDescriptor "(I)Lcom/example/time_aware_ranking/timeawareranking/CalendarUnit;" = some ⟨[.int], some (.object "com/example/time_aware_ranking/timeawareranking/CalendarUnit")⟩ := by decide +kernel
abbrev lc11 (x0 x1 : Int32) (x2 x3 x4 x5 : Int64) (x6 x7 x8 x9 : Int32) (x10 : Addr) : Array Slot := #[.val (.int x0), .val (.int x1), .val (.long x2), .second, .val (.long x3), .second, .val (.long x4), .second, .val (.long x5), .second, .val (.int x6), .val (.int x7), .val (.int x8), .val (.int x9), .val .null, .val .null, .val .null, .val .null, .val (.ref x10), .unset, .unset, .unset, .unset, .unset, .unset, .unset]
theorem d2_0 : decode method_3_code 0 = .ok (.iload_n 0, 1) := by decide +kernel
theorem d2_1 : decode method_3_code 1 = .ok (.iconst 3, 1) := by decide +kernel
theorem d2_2 : decode method_3_code 2 = .ok (.iand, 1) := by decide +kernel
theorem d2_3 : decode method_3_code 3 = .ok (.istore_n 1, 1) := by decide +kernel
theorem d2_4 : decode method_3_code 4 = .ok (.iload_n 1, 1) := by decide +kernel
theorem d2_5 : decode method_3_code 5 = .ok (.ifCond .ne 7, 3) := by decide +kernel
theorem d2_8 : decode method_3_code 8 = .ok (.getstatic 26, 3) := by decide +kernel
theorem d2_11 : decode method_3_code 11 = .ok (.areturn, 1) := by decide +kernel
theorem d2_12 : decode method_3_code 12 = .ok (.iload_n 1, 1) := by decide +kernel
theorem d2_13 : decode method_3_code 13 = .ok (.iconst 1, 1) := by decide +kernel
theorem d2_14 : decode method_3_code 14 = .ok (.if_icmp .ne 7, 3) := by decide +kernel
theorem d2_17 : decode method_3_code 17 = .ok (.getstatic 32, 3) := by decide +kernel
theorem d2_20 : decode method_3_code 20 = .ok (.areturn, 1) := by decide +kernel
theorem d2_21 : decode method_3_code 21 = .ok (.getstatic 35, 3) := by decide +kernel
theorem d2_24 : decode method_3_code 24 = .ok (.areturn, 1) := by decide +kernel
theorem pd_1 : parseMethodDescriptor "(I)Lcom/example/time_aware_ranking/timeawareranking/CalendarInterval$Anchor;" = some ⟨[.int], some (.object "com/example/time_aware_ranking/timeawareranking/CalendarInterval$Anchor")⟩ := by decide +kernel
theorem d3_0 : decode prog_3_method_2_code 0 = .ok (.aload_n 0, 1) := by decide +kernel
theorem d3_1 : decode prog_3_method_2_code 1 = .ok (.invokespecial 1, 3) := by decide +kernel
abbrev lc12 (x0 x1 x2 : Addr) : Array Slot := #[.val (.ref x0), .val (.ref x1), .val .null, .val .null, .val (.ref x2)]
theorem d4_0 : decode jdk_30_method_1_code 0 = .ok (.aload_n 0, 1) := by decide +kernel
theorem d4_1 : decode jdk_30_method_1_code 1 = .ok (.invokespecial 1, 3) := by decide +kernel
abbrev lc13 (x0 : Addr) : Array Slot := #[.val (.ref x0)]
theorem d4_4 : decode jdk_30_method_1_code 4 = .ok (.return_, 1) := by decide +kernel
theorem ef_1 (m : MethodId) (x0 : Addr) : entryFrame m #[(.ref x0)] 1 = mkF m 0 #[.val (.ref x0)] [] := by first | (simp [entryFrame, mkF, argsToLocals, Value.category, maxLocals]; done) | rfl
theorem pn_1 : plainName "java/lang/Record" = true := by first | (simp [plainName, overriddenIn]; done) | decide +kernel
theorem pd_2 : parseMethodDescriptor "()V" = some ⟨[], none⟩ := by decide +kernel
theorem d3_4 : decode prog_3_method_2_code 4 = .ok (.aload_n 0, 1) := by decide +kernel
theorem d3_5 : decode prog_3_method_2_code 5 = .ok (.aload_n 1, 1) := by decide +kernel
theorem d3_6 : decode prog_3_method_2_code 6 = .ok (.putfield 7, 3) := by decide +kernel
theorem d3_9 : decode prog_3_method_2_code 9 = .ok (.aload_n 0, 1) := by decide +kernel
theorem d3_10 : decode prog_3_method_2_code 10 = .ok (.aload_n 2, 1) := by decide +kernel
theorem d3_11 : decode prog_3_method_2_code 11 = .ok (.putfield 13, 3) := by decide +kernel
theorem d3_14 : decode prog_3_method_2_code 14 = .ok (.aload_n 0, 1) := by decide +kernel
theorem d3_15 : decode prog_3_method_2_code 15 = .ok (.aload_n 3, 1) := by decide +kernel
theorem d3_16 : decode prog_3_method_2_code 16 = .ok (.putfield 17, 3) := by decide +kernel
theorem d3_19 : decode prog_3_method_2_code 19 = .ok (.aload_n 0, 1) := by decide +kernel
theorem d3_20 : decode prog_3_method_2_code 20 = .ok (.aload 4, 2) := by decide +kernel
theorem d3_22 : decode prog_3_method_2_code 22 = .ok (.putfield 20, 3) := by decide +kernel
theorem d3_25 : decode prog_3_method_2_code 25 = .ok (.return_, 1) := by decide +kernel
theorem ef_2 (m : MethodId) (x0 x1 x4 : Addr) : entryFrame m #[(.ref x0), (.ref x1), .null, .null, (.ref x4)] 5 = mkF m 0 #[.val (.ref x0), .val (.ref x1), .val .null, .val .null, .val (.ref x4)] [] := by first | (simp [entryFrame, mkF, argsToLocals, Value.category, maxLocals]; done) | rfl
theorem pn_2 : plainName "com/example/time_aware_ranking/timeawareranking/CalendarInterval" = true := by first | (simp [plainName, overriddenIn]; done) | decide +kernel
theorem pd_3 : parseMethodDescriptor "(Lcom/example/time_aware_ranking/timeawareranking/CalendarUnit;Ljava/lang/Long;Ljava/lang/Long;Lcom/example/time_aware_ranking/timeawareranking/CalendarInterval$Anchor;)V" = some ⟨[(.object "com/example/time_aware_ranking/timeawareranking/CalendarUnit"), (.object "java/lang/Long"), (.object "java/lang/Long"), (.object "com/example/time_aware_ranking/timeawareranking/CalendarInterval$Anchor")], none⟩ := by decide +kernel
abbrev lc14 (x0 x1 : Int32) (x2 x3 x4 x5 : Int64) (x6 x7 x8 x9 : Int32) (x10 x11 : Addr) : Array Slot := #[.val (.int x0), .val (.int x1), .val (.long x2), .second, .val (.long x3), .second, .val (.long x4), .second, .val (.long x5), .second, .val (.int x6), .val (.int x7), .val (.int x8), .val (.int x9), .val .null, .val .null, .val .null, .val .null, .val (.ref x10), .val (.ref x11), .unset, .unset, .unset, .unset, .unset, .unset]
abbrev lc15 (x0 x1 : Int32) (x2 x3 x4 x5 : Int64) (x6 x7 x8 x9 : Int32) (x10 x11 x12 : Addr) : Array Slot := #[.val (.int x0), .val (.int x1), .val (.long x2), .second, .val (.long x3), .second, .val (.long x4), .second, .val (.long x5), .second, .val (.int x6), .val (.int x7), .val (.int x8), .val (.int x9), .val .null, .val .null, .val .null, .val .null, .val (.ref x10), .val (.ref x11), .val (.ref x12), .unset, .unset, .unset, .unset, .unset]
theorem d6_0 : decode prog_3_method_19_code 0 = .ok (.aload_n 0, 1) := by decide +kernel
theorem d6_1 : decode prog_3_method_19_code 1 = .ok (.getfield 13, 3) := by decide +kernel
theorem d6_4 : decode prog_3_method_19_code 4 = .ok (.ifnull 14, 3) := by decide +kernel
theorem d6_18 : decode prog_3_method_19_code 18 = .ok (.iconst 0, 1) := by decide +kernel
theorem d6_19 : decode prog_3_method_19_code 19 = .ok (.ireturn, 1) := by decide +kernel
theorem pd_4 : parseMethodDescriptor "()Z" = some ⟨[], some .boolean⟩ := by decide +kernel
abbrev lc16 (x0 x1 : Int32) (x2 x3 x4 x5 : Int64) (x6 x7 x8 x9 : Int32) (x10 x11 x12 : Addr) (x13 : Int32) : Array Slot := #[.val (.int x0), .val (.int x1), .val (.long x2), .second, .val (.long x3), .second, .val (.long x4), .second, .val (.long x5), .second, .val (.int x6), .val (.int x7), .val (.int x8), .val (.int x9), .val .null, .val .null, .val .null, .val .null, .val (.ref x10), .val (.ref x11), .val (.ref x12), .val (.int x13), .unset, .unset, .unset, .unset]
abbrev lc17 (x0 x1 : Int32) (x2 x3 x4 x5 : Int64) (x6 x7 x8 x9 : Int32) (x10 x11 x12 : Addr) (x13 x14 : Int32) : Array Slot := #[.val (.int x0), .val (.int x1), .val (.long x2), .second, .val (.long x3), .second, .val (.long x4), .second, .val (.long x5), .second, .val (.int x6), .val (.int x7), .val (.int x8), .val (.int x9), .val .null, .val .null, .val .null, .val .null, .val (.ref x10), .val (.ref x11), .val (.ref x12), .val (.int x13), .val (.int x14), .unset, .unset, .unset]
theorem d7_0 : decode prog_3_method_17_code 0 = .ok (.aload_n 0, 1) := by decide +kernel
theorem d7_1 : decode prog_3_method_17_code 1 = .ok (.getfield 13, 3) := by decide +kernel
abbrev lc18 (x0 x1 : Addr) : Array Slot := #[.val (.ref x0), .val (.ref x1), .unset, .unset]
theorem d7_4 : decode prog_3_method_17_code 4 = .ok (.ifnull 28, 3) := by decide +kernel
theorem d7_32 : decode prog_3_method_17_code 32 = .ok (.aload_n 1, 1) := by decide +kernel
theorem d7_33 : decode prog_3_method_17_code 33 = .ok (.getfield 13, 3) := by decide +kernel
theorem d7_36 : decode prog_3_method_17_code 36 = .ok (.goto 7, 3) := by decide +kernel
theorem d7_43 : decode prog_3_method_17_code 43 = .ok (.astore_n 2, 1) := by decide +kernel
abbrev lc19 (x0 x1 : Addr) : Array Slot := #[.val (.ref x0), .val (.ref x1), .val .null, .unset]
theorem d7_44 : decode prog_3_method_17_code 44 = .ok (.aload_n 0, 1) := by decide +kernel
theorem d7_45 : decode prog_3_method_17_code 45 = .ok (.getfield 17, 3) := by decide +kernel
theorem d7_48 : decode prog_3_method_17_code 48 = .ok (.ifnull 28, 3) := by decide +kernel
theorem d7_76 : decode prog_3_method_17_code 76 = .ok (.aload_n 1, 1) := by decide +kernel
theorem d7_77 : decode prog_3_method_17_code 77 = .ok (.getfield 17, 3) := by decide +kernel
theorem d7_80 : decode prog_3_method_17_code 80 = .ok (.goto 7, 3) := by decide +kernel
theorem d7_87 : decode prog_3_method_17_code 87 = .ok (.astore_n 3, 1) := by decide +kernel
abbrev lc20 (x0 x1 : Addr) : Array Slot := #[.val (.ref x0), .val (.ref x1), .val .null, .val .null]
theorem d7_88 : decode prog_3_method_17_code 88 = .ok (.new 8, 3) := by decide +kernel
theorem d7_91 : decode prog_3_method_17_code 91 = .ok (.dup, 1) := by decide +kernel
theorem d7_92 : decode prog_3_method_17_code 92 = .ok (.aload_n 0, 1) := by decide +kernel
theorem d7_93 : decode prog_3_method_17_code 93 = .ok (.getfield 7, 3) := by decide +kernel
theorem d7_96 : decode prog_3_method_17_code 96 = .ok (.aload_n 2, 1) := by decide +kernel
theorem d7_97 : decode prog_3_method_17_code 97 = .ok (.aload_n 3, 1) := by decide +kernel
theorem d7_98 : decode prog_3_method_17_code 98 = .ok (.invokespecial 38, 3) := by decide +kernel
theorem d8_0 : decode prog_3_method_1_code 0 = .ok (.aload_n 0, 1) := by decide +kernel
theorem d8_1 : decode prog_3_method_1_code 1 = .ok (.aload_n 1, 1) := by decide +kernel
theorem d8_2 : decode prog_3_method_1_code 2 = .ok (.aload_n 2, 1) := by decide +kernel
theorem d8_3 : decode prog_3_method_1_code 3 = .ok (.aload_n 3, 1) := by decide +kernel
theorem d8_4 : decode prog_3_method_1_code 4 = .ok (.getstatic 24, 3) := by decide +kernel
theorem d8_7 : decode prog_3_method_1_code 7 = .ok (.invokespecial 29, 3) := by decide +kernel
theorem d8_10 : decode prog_3_method_1_code 10 = .ok (.return_, 1) := by decide +kernel
theorem ef_3 (m : MethodId) (x0 x1 : Addr) : entryFrame m #[(.ref x0), (.ref x1), .null, .null] 4 = mkF m 0 #[.val (.ref x0), .val (.ref x1), .val .null, .val .null] [] := by first | (simp [entryFrame, mkF, argsToLocals, Value.category, maxLocals]; done) | rfl
theorem pd_5 : parseMethodDescriptor "(Lcom/example/time_aware_ranking/timeawareranking/CalendarUnit;Ljava/lang/Long;Ljava/lang/Long;)V" = some ⟨[(.object "com/example/time_aware_ranking/timeawareranking/CalendarUnit"), (.object "java/lang/Long"), (.object "java/lang/Long")], none⟩ := by decide +kernel
theorem d7_101 : decode prog_3_method_17_code 101 = .ok (.areturn, 1) := by decide +kernel
theorem ef_4 (m : MethodId) (x0 x1 : Addr) : entryFrame m #[(.ref x0), (.ref x1)] 4 = mkF m 0 #[.val (.ref x0), .val (.ref x1), .unset, .unset] [] := by first | (simp [entryFrame, mkF, argsToLocals, Value.category, maxLocals]; done) | rfl
theorem pd_6 : parseMethodDescriptor "(Lcom/example/time_aware_ranking/timeawareranking/CalendarInterval;)Lcom/example/time_aware_ranking/timeawareranking/CalendarInterval;" = some ⟨[(.object "com/example/time_aware_ranking/timeawareranking/CalendarInterval")], some (.object "com/example/time_aware_ranking/timeawareranking/CalendarInterval")⟩ := by decide +kernel
abbrev lc21 (x0 x1 : Int32) (x2 x3 x4 x5 : Int64) (x6 x7 x8 x9 : Int32) (x10 x11 x12 : Addr) (x13 x14 x15 : Int32) : Array Slot := #[.val (.int x0), .val (.int x1), .val (.long x2), .second, .val (.long x3), .second, .val (.long x4), .second, .val (.long x5), .second, .val (.int x6), .val (.int x7), .val (.int x8), .val (.int x9), .val .null, .val .null, .val .null, .val .null, .val (.ref x10), .val (.ref x11), .val (.ref x12), .val (.int x13), .val (.int x14), .val (.int x15), .unset, .unset]
theorem d9_0 : decode prog_3_method_12_code 0 = .ok (.new 8, 3) := by decide +kernel
theorem d9_3 : decode prog_3_method_12_code 3 = .ok (.dup, 1) := by decide +kernel
theorem d9_4 : decode prog_3_method_12_code 4 = .ok (.aload_n 0, 1) := by decide +kernel
theorem d9_5 : decode prog_3_method_12_code 5 = .ok (.getfield 7, 3) := by decide +kernel
theorem d9_8 : decode prog_3_method_12_code 8 = .ok (.aload_n 0, 1) := by decide +kernel
theorem d9_9 : decode prog_3_method_12_code 9 = .ok (.getfield 13, 3) := by decide +kernel
theorem d9_12 : decode prog_3_method_12_code 12 = .ok (.aconst_null, 1) := by decide +kernel
theorem d9_13 : decode prog_3_method_12_code 13 = .ok (.invokespecial 38, 3) := by decide +kernel
theorem d9_16 : decode prog_3_method_12_code 16 = .ok (.areturn, 1) := by decide +kernel
theorem pd_7 : parseMethodDescriptor "()Lcom/example/time_aware_ranking/timeawareranking/CalendarInterval;" = some ⟨[], some (.object "com/example/time_aware_ranking/timeawareranking/CalendarInterval")⟩ := by decide +kernel
abbrev lc22 (x0 x1 : Int32) (x2 x3 x4 x5 : Int64) (x6 x7 x8 x9 : Int32) (x10 x11 x12 : Addr) (x13 x14 x15 x16 : Int32) : Array Slot := #[.val (.int x0), .val (.int x1), .val (.long x2), .second, .val (.long x3), .second, .val (.long x4), .second, .val (.long x5), .second, .val (.int x6), .val (.int x7), .val (.int x8), .val (.int x9), .val .null, .val .null, .val .null, .val .null, .val (.ref x10), .val (.ref x11), .val (.ref x12), .val (.int x13), .val (.int x14), .val (.int x15), .val (.int x16), .unset]
theorem d10_0 : decode prog_3_method_11_code 0 = .ok (.new 8, 3) := by decide +kernel
theorem d10_3 : decode prog_3_method_11_code 3 = .ok (.dup, 1) := by decide +kernel
theorem d10_4 : decode prog_3_method_11_code 4 = .ok (.aload_n 0, 1) := by decide +kernel
theorem d10_5 : decode prog_3_method_11_code 5 = .ok (.getfield 7, 3) := by decide +kernel
theorem d10_8 : decode prog_3_method_11_code 8 = .ok (.aconst_null, 1) := by decide +kernel
theorem d10_9 : decode prog_3_method_11_code 9 = .ok (.aload_n 0, 1) := by decide +kernel
theorem d10_10 : decode prog_3_method_11_code 10 = .ok (.getfield 17, 3) := by decide +kernel
theorem d10_13 : decode prog_3_method_11_code 13 = .ok (.invokespecial 38, 3) := by decide +kernel
theorem d10_16 : decode prog_3_method_11_code 16 = .ok (.areturn, 1) := by decide +kernel
abbrev lc23 (x0 x1 : Int32) (x2 x3 x4 x5 : Int64) (x6 x7 x8 x9 : Int32) (x10 x11 x12 : Addr) (x13 x14 x15 x16 x17 : Int32) : Array Slot := #[.val (.int x0), .val (.int x1), .val (.long x2), .second, .val (.long x3), .second, .val (.long x4), .second, .val (.long x5), .second, .val (.int x6), .val (.int x7), .val (.int x8), .val (.int x9), .val .null, .val .null, .val .null, .val .null, .val (.ref x10), .val (.ref x11), .val (.ref x12), .val (.int x13), .val (.int x14), .val (.int x15), .val (.int x16), .val (.int x17)]
theorem ef_5 (m : MethodId) (x0 x1 : Int32) (x2 x3 x4 x5 : Int64) : entryFrame m #[(.int x0), (.int x1), (.long x2), (.long x3), (.long x4), (.long x5)] maxLocals = mkF m 0 #[.val (.int x0), .val (.int x1), .val (.long x2), .second, .val (.long x3), .second, .val (.long x4), .second, .val (.long x5), .second, .unset, .unset, .unset, .unset, .unset, .unset, .unset, .unset, .unset, .unset, .unset, .unset, .unset, .unset, .unset, .unset] [] := by first | (simp [entryFrame, mkF, argsToLocals, Value.category, maxLocals]; done) | rfl
theorem d11_0 : decode jdk_35_method_24_code 0 = .ok (.sipush 128, 3) := by decide +kernel
theorem d11_3 : decode jdk_35_method_24_code 3 = .ok (.istore_n 2, 1) := by decide +kernel
abbrev lc24 (x0 : Int64) (x1 : Int32) : Array Slot := #[.val (.long x0), .second, .val (.int x1)]
theorem d11_4 : decode jdk_35_method_24_code 4 = .ok (.lload_n 0, 1) := by decide +kernel
theorem d11_5 : decode jdk_35_method_24_code 5 = .ok (.ldc2_w 230, 3) := by decide +kernel
theorem d11_8 : decode jdk_35_method_24_code 8 = .ok (.lcmp, 1) := by decide +kernel
theorem d11_9 : decode jdk_35_method_24_code 9 = .ok (.ifCond .lt 22, 3) := by decide +kernel
theorem d11_31 : decode jdk_35_method_24_code 31 = .ok (.new 1, 3) := by decide +kernel
theorem d11_34 : decode jdk_35_method_24_code 34 = .ok (.dup, 1) := by decide +kernel
theorem d11_35 : decode jdk_35_method_24_code 35 = .ok (.lload_n 0, 1) := by decide +kernel
theorem d11_36 : decode jdk_35_method_24_code 36 = .ok (.invokespecial 240, 3) := by decide +kernel
theorem d12_0 : decode jdk_35_method_26_code 0 = .ok (.aload_n 0, 1) := by decide +kernel
theorem d12_1 : decode jdk_35_method_26_code 1 = .ok (.invokespecial 270, 3) := by decide +kernel
abbrev lc25 (x0 : Addr) (x1 : Int64) : Array Slot := #[.val (.ref x0), .val (.long x1), .second]
theorem d13_0 : decode jdk_18_method_1_code 0 = .ok (.aload_n 0, 1) := by decide +kernel
theorem d13_1 : decode jdk_18_method_1_code 1 = .ok (.invokespecial 1, 3) := by decide +kernel
theorem d13_4 : decode jdk_18_method_1_code 4 = .ok (.return_, 1) := by decide +kernel
theorem pn_3 : plainName "java/lang/Number" = true := by first | (simp [plainName, overriddenIn]; done) | decide +kernel
theorem d12_4 : decode jdk_35_method_26_code 4 = .ok (.aload_n 0, 1) := by decide +kernel
theorem d12_5 : decode jdk_35_method_26_code 5 = .ok (.lload_n 1, 1) := by decide +kernel
theorem d12_6 : decode jdk_35_method_26_code 6 = .ok (.putfield 273, 3) := by decide +kernel
theorem d12_9 : decode jdk_35_method_26_code 9 = .ok (.return_, 1) := by decide +kernel
theorem ef_6 (m : MethodId) (x0 : Addr) (x1 : Int64) : entryFrame m #[(.ref x0), (.long x1)] 3 = mkF m 0 #[.val (.ref x0), .val (.long x1), .second] [] := by first | (simp [entryFrame, mkF, argsToLocals, Value.category, maxLocals]; done) | rfl
theorem pn_4 : plainName "java/lang/Long" = true := by first | (simp [plainName, overriddenIn]; done) | decide +kernel
theorem pd_8 : parseMethodDescriptor "(J)V" = some ⟨[.long], none⟩ := by decide +kernel
theorem d11_39 : decode jdk_35_method_24_code 39 = .ok (.areturn, 1) := by decide +kernel
theorem d11_12 : decode jdk_35_method_24_code 12 = .ok (.lload_n 0, 1) := by decide +kernel
theorem d11_13 : decode jdk_35_method_24_code 13 = .ok (.ldc2_w 232, 3) := by decide +kernel
theorem d11_16 : decode jdk_35_method_24_code 16 = .ok (.lcmp, 1) := by decide +kernel
theorem d11_17 : decode jdk_35_method_24_code 17 = .ok (.ifCond .gt 14, 3) := by decide +kernel
theorem d11_20 : decode jdk_35_method_24_code 20 = .ok (.getstatic 234, 3) := by decide +kernel
theorem d11_23 : decode jdk_35_method_24_code 23 = .ok (.lload_n 0, 1) := by decide +kernel
theorem d11_24 : decode jdk_35_method_24_code 24 = .ok (.l2i, 1) := by decide +kernel
theorem d11_25 : decode jdk_35_method_24_code 25 = .ok (.sipush 128, 3) := by decide +kernel
theorem d11_28 : decode jdk_35_method_24_code 28 = .ok (.iadd, 1) := by decide +kernel
theorem d11_29 : decode jdk_35_method_24_code 29 = .ok (.aaload, 1) := by decide +kernel
theorem d11_30 : decode jdk_35_method_24_code 30 = .ok (.areturn, 1) := by decide +kernel
theorem ef_7 (m : MethodId) (x0 : Int64) : entryFrame m #[(.long x0)] 3 = mkF m 0 #[.val (.long x0), .second, .unset] [] := by first | (simp [entryFrame, mkF, argsToLocals, Value.category, maxLocals]; done) | rfl
abbrev lc26 (x0 : Int64) : Array Slot := #[.val (.long x0), .second, .unset]
theorem pd_9 : parseMethodDescriptor "(J)Ljava/lang/Long;" = some ⟨[.long], some (.object "java/lang/Long")⟩ := by decide +kernel
abbrev lc27 (x0 x1 : Int32) (x2 x3 x4 x5 : Int64) (x6 x7 x8 x9 : Int32) (x10 : Addr) : Array Slot := #[.val (.int x0), .val (.int x1), .val (.long x2), .second, .val (.long x3), .second, .val (.long x4), .second, .val (.long x5), .second, .val (.int x6), .val (.int x7), .val (.int x8), .val (.int x9), .val .null, .val .null, .val .null, .val (.ref x10), .unset, .unset, .unset, .unset, .unset, .unset, .unset, .unset]
abbrev lc28 (x0 x1 : Int32) (x2 x3 x4 x5 : Int64) (x6 x7 x8 x9 : Int32) (x10 x11 : Addr) : Array Slot := #[.val (.int x0), .val (.int x1), .val (.long x2), .second, .val (.long x3), .second, .val (.long x4), .second, .val (.long x5), .second, .val (.int x6), .val (.int x7), .val (.int x8), .val (.int x9), .val .null, .val .null, .val .null, .val (.ref x10), .val (.ref x11), .unset, .unset, .unset, .unset, .unset, .unset, .unset]
abbrev lc29 (x0 x1 : Int32) (x2 x3 x4 x5 : Int64) (x6 x7 x8 x9 : Int32) (x10 x11 x12 : Addr) : Array Slot := #[.val (.int x0), .val (.int x1), .val (.long x2), .second, .val (.long x3), .second, .val (.long x4), .second, .val (.long x5), .second, .val (.int x6), .val (.int x7), .val (.int x8), .val (.int x9), .val .null, .val .null, .val .null, .val (.ref x10), .val (.ref x11), .val (.ref x12), .unset, .unset, .unset, .unset, .unset, .unset]
abbrev lc30 (x0 x1 x2 x3 : Addr) : Array Slot := #[.val (.ref x0), .val (.ref x1), .val .null, .val (.ref x2), .val (.ref x3)]
theorem ef_8 (m : MethodId) (x0 x1 x3 x4 : Addr) : entryFrame m #[(.ref x0), (.ref x1), .null, (.ref x3), (.ref x4)] 5 = mkF m 0 #[.val (.ref x0), .val (.ref x1), .val .null, .val (.ref x3), .val (.ref x4)] [] := by first | (simp [entryFrame, mkF, argsToLocals, Value.category, maxLocals]; done) | rfl
abbrev lc31 (x0 x1 : Int32) (x2 x3 x4 x5 : Int64) (x6 x7 x8 x9 : Int32) (x10 x11 x12 x13 : Addr) : Array Slot := #[.val (.int x0), .val (.int x1), .val (.long x2), .second, .val (.long x3), .second, .val (.long x4), .second, .val (.long x5), .second, .val (.int x6), .val (.int x7), .val (.int x8), .val (.int x9), .val .null, .val .null, .val .null, .val (.ref x10), .val (.ref x11), .val (.ref x12), .val (.ref x13), .unset, .unset, .unset, .unset, .unset]
abbrev lc32 (x0 x1 : Int32) (x2 x3 x4 x5 : Int64) (x6 x7 x8 x9 : Int32) (x10 x11 x12 x13 : Addr) (x14 : Int32) : Array Slot := #[.val (.int x0), .val (.int x1), .val (.long x2), .second, .val (.long x3), .second, .val (.long x4), .second, .val (.long x5), .second, .val (.int x6), .val (.int x7), .val (.int x8), .val (.int x9), .val .null, .val .null, .val .null, .val (.ref x10), .val (.ref x11), .val (.ref x12), .val (.ref x13), .val (.int x14), .unset, .unset, .unset, .unset]
abbrev lc33 (x0 x1 : Int32) (x2 x3 x4 x5 : Int64) (x6 x7 x8 x9 : Int32) (x10 x11 x12 x13 : Addr) (x14 x15 : Int32) : Array Slot := #[.val (.int x0), .val (.int x1), .val (.long x2), .second, .val (.long x3), .second, .val (.long x4), .second, .val (.long x5), .second, .val (.int x6), .val (.int x7), .val (.int x8), .val (.int x9), .val .null, .val .null, .val .null, .val (.ref x10), .val (.ref x11), .val (.ref x12), .val (.ref x13), .val (.int x14), .val (.int x15), .unset, .unset, .unset]
abbrev lc34 (x0 x1 x2 : Addr) : Array Slot := #[.val (.ref x0), .val (.ref x1), .val .null, .val (.ref x2)]
theorem ef_9 (m : MethodId) (x0 x1 x3 : Addr) : entryFrame m #[(.ref x0), (.ref x1), .null, (.ref x3)] 4 = mkF m 0 #[.val (.ref x0), .val (.ref x1), .val .null, .val (.ref x3)] [] := by first | (simp [entryFrame, mkF, argsToLocals, Value.category, maxLocals]; done) | rfl
abbrev lc35 (x0 x1 : Int32) (x2 x3 x4 x5 : Int64) (x6 x7 x8 x9 : Int32) (x10 x11 x12 x13 : Addr) (x14 x15 x16 : Int32) : Array Slot := #[.val (.int x0), .val (.int x1), .val (.long x2), .second, .val (.long x3), .second, .val (.long x4), .second, .val (.long x5), .second, .val (.int x6), .val (.int x7), .val (.int x8), .val (.int x9), .val .null, .val .null, .val .null, .val (.ref x10), .val (.ref x11), .val (.ref x12), .val (.ref x13), .val (.int x14), .val (.int x15), .val (.int x16), .unset, .unset]
abbrev lc36 (x0 x1 : Int32) (x2 x3 x4 x5 : Int64) (x6 x7 x8 x9 : Int32) (x10 x11 x12 x13 : Addr) (x14 x15 x16 x17 : Int32) : Array Slot := #[.val (.int x0), .val (.int x1), .val (.long x2), .second, .val (.long x3), .second, .val (.long x4), .second, .val (.long x5), .second, .val (.int x6), .val (.int x7), .val (.int x8), .val (.int x9), .val .null, .val .null, .val .null, .val (.ref x10), .val (.ref x11), .val (.ref x12), .val (.ref x13), .val (.int x14), .val (.int x15), .val (.int x16), .val (.int x17), .unset]
abbrev lc37 (x0 x1 : Int32) (x2 x3 x4 x5 : Int64) (x6 x7 x8 x9 : Int32) (x10 x11 x12 x13 : Addr) (x14 x15 x16 x17 x18 : Int32) : Array Slot := #[.val (.int x0), .val (.int x1), .val (.long x2), .second, .val (.long x3), .second, .val (.long x4), .second, .val (.long x5), .second, .val (.int x6), .val (.int x7), .val (.int x8), .val (.int x9), .val .null, .val .null, .val .null, .val (.ref x10), .val (.ref x11), .val (.ref x12), .val (.ref x13), .val (.int x14), .val (.int x15), .val (.int x16), .val (.int x17), .val (.int x18)]
abbrev lc38 (x0 x1 : Int32) (x2 x3 x4 x5 : Int64) (x6 x7 x8 x9 : Int32) (x10 : Addr) : Array Slot := #[.val (.int x0), .val (.int x1), .val (.long x2), .second, .val (.long x3), .second, .val (.long x4), .second, .val (.long x5), .second, .val (.int x6), .val (.int x7), .val (.int x8), .val (.int x9), .val .null, .val .null, .val (.ref x10), .unset, .unset, .unset, .unset, .unset, .unset, .unset, .unset, .unset]
abbrev lc39 (x0 x1 : Int32) (x2 x3 x4 x5 : Int64) (x6 x7 x8 x9 : Int32) (x10 : Addr) : Array Slot := #[.val (.int x0), .val (.int x1), .val (.long x2), .second, .val (.long x3), .second, .val (.long x4), .second, .val (.long x5), .second, .val (.int x6), .val (.int x7), .val (.int x8), .val (.int x9), .val .null, .val .null, .val (.ref x10), .val .null, .unset, .unset, .unset, .unset, .unset, .unset, .unset, .unset]
abbrev lc40 (x0 x1 : Int32) (x2 x3 x4 x5 : Int64) (x6 x7 x8 x9 : Int32) (x10 x11 : Addr) : Array Slot := #[.val (.int x0), .val (.int x1), .val (.long x2), .second, .val (.long x3), .second, .val (.long x4), .second, .val (.long x5), .second, .val (.int x6), .val (.int x7), .val (.int x8), .val (.int x9), .val .null, .val .null, .val (.ref x10), .val .null, .val (.ref x11), .unset, .unset, .unset, .unset, .unset, .unset, .unset]
abbrev lc41 (x0 x1 : Int32) (x2 x3 x4 x5 : Int64) (x6 x7 x8 x9 : Int32) (x10 x11 x12 : Addr) : Array Slot := #[.val (.int x0), .val (.int x1), .val (.long x2), .second, .val (.long x3), .second, .val (.long x4), .second, .val (.long x5), .second, .val (.int x6), .val (.int x7), .val (.int x8), .val (.int x9), .val .null, .val .null, .val (.ref x10), .val .null, .val (.ref x11), .val (.ref x12), .unset, .unset, .unset, .unset, .unset, .unset]
abbrev lc42 (x0 x1 x2 x3 : Addr) : Array Slot := #[.val (.ref x0), .val (.ref x1), .val (.ref x2), .val .null, .val (.ref x3)]
theorem ef_10 (m : MethodId) (x0 x1 x2 x4 : Addr) : entryFrame m #[(.ref x0), (.ref x1), (.ref x2), .null, (.ref x4)] 5 = mkF m 0 #[.val (.ref x0), .val (.ref x1), .val (.ref x2), .val .null, .val (.ref x4)] [] := by first | (simp [entryFrame, mkF, argsToLocals, Value.category, maxLocals]; done) | rfl
abbrev lc43 (x0 x1 : Int32) (x2 x3 x4 x5 : Int64) (x6 x7 x8 x9 : Int32) (x10 x11 x12 x13 : Addr) : Array Slot := #[.val (.int x0), .val (.int x1), .val (.long x2), .second, .val (.long x3), .second, .val (.long x4), .second, .val (.long x5), .second, .val (.int x6), .val (.int x7), .val (.int x8), .val (.int x9), .val .null, .val .null, .val (.ref x10), .val .null, .val (.ref x11), .val (.ref x12), .val (.ref x13), .unset, .unset, .unset, .unset, .unset]
abbrev lc44 (x0 x1 : Int32) (x2 x3 x4 x5 : Int64) (x6 x7 x8 x9 : Int32) (x10 x11 x12 x13 : Addr) (x14 : Int32) : Array Slot := #[.val (.int x0), .val (.int x1), .val (.long x2), .second, .val (.long x3), .second, .val (.long x4), .second, .val (.long x5), .second, .val (.int x6), .val (.int x7), .val (.int x8), .val (.int x9), .val .null, .val .null, .val (.ref x10), .val .null, .val (.ref x11), .val (.ref x12), .val (.ref x13), .val (.int x14), .unset, .unset, .unset, .unset]
theorem d6_7 : decode prog_3_method_19_code 7 = .ok (.aload_n 0, 1) := by decide +kernel
theorem d6_8 : decode prog_3_method_19_code 8 = .ok (.getfield 17, 3) := by decide +kernel
theorem d6_11 : decode prog_3_method_19_code 11 = .ok (.ifnull 7, 3) := by decide +kernel
abbrev lc45 (x0 x1 : Int32) (x2 x3 x4 x5 : Int64) (x6 x7 x8 x9 : Int32) (x10 x11 x12 x13 : Addr) (x14 x15 : Int32) : Array Slot := #[.val (.int x0), .val (.int x1), .val (.long x2), .second, .val (.long x3), .second, .val (.long x4), .second, .val (.long x5), .second, .val (.int x6), .val (.int x7), .val (.int x8), .val (.int x9), .val .null, .val .null, .val (.ref x10), .val .null, .val (.ref x11), .val (.ref x12), .val (.ref x13), .val (.int x14), .val (.int x15), .unset, .unset, .unset]
abbrev lc46 (x0 x1 x2 : Addr) : Array Slot := #[.val (.ref x0), .val (.ref x1), .val (.ref x2), .unset]
abbrev lc47 (x0 x1 x2 : Addr) : Array Slot := #[.val (.ref x0), .val (.ref x1), .val (.ref x2), .val .null]
theorem ef_11 (m : MethodId) (x0 x1 x2 : Addr) : entryFrame m #[(.ref x0), (.ref x1), (.ref x2), .null] 4 = mkF m 0 #[.val (.ref x0), .val (.ref x1), .val (.ref x2), .val .null] [] := by first | (simp [entryFrame, mkF, argsToLocals, Value.category, maxLocals]; done) | rfl
abbrev lc48 (x0 x1 : Int32) (x2 x3 x4 x5 : Int64) (x6 x7 x8 x9 : Int32) (x10 x11 x12 x13 : Addr) (x14 x15 x16 : Int32) : Array Slot := #[.val (.int x0), .val (.int x1), .val (.long x2), .second, .val (.long x3), .second, .val (.long x4), .second, .val (.long x5), .second, .val (.int x6), .val (.int x7), .val (.int x8), .val (.int x9), .val .null, .val .null, .val (.ref x10), .val .null, .val (.ref x11), .val (.ref x12), .val (.ref x13), .val (.int x14), .val (.int x15), .val (.int x16), .unset, .unset]
abbrev lc49 (x0 x1 : Int32) (x2 x3 x4 x5 : Int64) (x6 x7 x8 x9 : Int32) (x10 x11 x12 x13 : Addr) (x14 x15 x16 x17 : Int32) : Array Slot := #[.val (.int x0), .val (.int x1), .val (.long x2), .second, .val (.long x3), .second, .val (.long x4), .second, .val (.long x5), .second, .val (.int x6), .val (.int x7), .val (.int x8), .val (.int x9), .val .null, .val .null, .val (.ref x10), .val .null, .val (.ref x11), .val (.ref x12), .val (.ref x13), .val (.int x14), .val (.int x15), .val (.int x16), .val (.int x17), .unset]
abbrev lc50 (x0 x1 : Int32) (x2 x3 x4 x5 : Int64) (x6 x7 x8 x9 : Int32) (x10 x11 x12 x13 : Addr) (x14 x15 x16 x17 x18 : Int32) : Array Slot := #[.val (.int x0), .val (.int x1), .val (.long x2), .second, .val (.long x3), .second, .val (.long x4), .second, .val (.long x5), .second, .val (.int x6), .val (.int x7), .val (.int x8), .val (.int x9), .val .null, .val .null, .val (.ref x10), .val .null, .val (.ref x11), .val (.ref x12), .val (.ref x13), .val (.int x14), .val (.int x15), .val (.int x16), .val (.int x17), .val (.int x18)]
abbrev lc51 (x0 x1 : Int32) (x2 x3 x4 x5 : Int64) (x6 x7 x8 x9 : Int32) (x10 x11 : Addr) : Array Slot := #[.val (.int x0), .val (.int x1), .val (.long x2), .second, .val (.long x3), .second, .val (.long x4), .second, .val (.long x5), .second, .val (.int x6), .val (.int x7), .val (.int x8), .val (.int x9), .val .null, .val .null, .val (.ref x10), .val (.ref x11), .unset, .unset, .unset, .unset, .unset, .unset, .unset, .unset]
abbrev lc52 (x0 x1 : Int32) (x2 x3 x4 x5 : Int64) (x6 x7 x8 x9 : Int32) (x10 x11 x12 : Addr) : Array Slot := #[.val (.int x0), .val (.int x1), .val (.long x2), .second, .val (.long x3), .second, .val (.long x4), .second, .val (.long x5), .second, .val (.int x6), .val (.int x7), .val (.int x8), .val (.int x9), .val .null, .val .null, .val (.ref x10), .val (.ref x11), .val (.ref x12), .unset, .unset, .unset, .unset, .unset, .unset, .unset]
abbrev lc53 (x0 x1 : Int32) (x2 x3 x4 x5 : Int64) (x6 x7 x8 x9 : Int32) (x10 x11 x12 x13 : Addr) : Array Slot := #[.val (.int x0), .val (.int x1), .val (.long x2), .second, .val (.long x3), .second, .val (.long x4), .second, .val (.long x5), .second, .val (.int x6), .val (.int x7), .val (.int x8), .val (.int x9), .val .null, .val .null, .val (.ref x10), .val (.ref x11), .val (.ref x12), .val (.ref x13), .unset, .unset, .unset, .unset, .unset, .unset]
abbrev lc54 (x0 x1 x2 x3 x4 : Addr) : Array Slot := #[.val (.ref x0), .val (.ref x1), .val (.ref x2), .val (.ref x3), .val (.ref x4)]
theorem ef_12 (m : MethodId) (x0 x1 x2 x3 x4 : Addr) : entryFrame m #[(.ref x0), (.ref x1), (.ref x2), (.ref x3), (.ref x4)] 5 = mkF m 0 #[.val (.ref x0), .val (.ref x1), .val (.ref x2), .val (.ref x3), .val (.ref x4)] [] := by first | (simp [entryFrame, mkF, argsToLocals, Value.category, maxLocals]; done) | rfl
abbrev lc55 (x0 x1 : Int32) (x2 x3 x4 x5 : Int64) (x6 x7 x8 x9 : Int32) (x10 x11 x12 x13 x14 : Addr) : Array Slot := #[.val (.int x0), .val (.int x1), .val (.long x2), .second, .val (.long x3), .second, .val (.long x4), .second, .val (.long x5), .second, .val (.int x6), .val (.int x7), .val (.int x8), .val (.int x9), .val .null, .val .null, .val (.ref x10), .val (.ref x11), .val (.ref x12), .val (.ref x13), .val (.ref x14), .unset, .unset, .unset, .unset, .unset]
abbrev lc56 (x0 x1 : Int32) (x2 x3 x4 x5 : Int64) (x6 x7 x8 x9 : Int32) (x10 x11 x12 x13 x14 : Addr) (x15 : Int32) : Array Slot := #[.val (.int x0), .val (.int x1), .val (.long x2), .second, .val (.long x3), .second, .val (.long x4), .second, .val (.long x5), .second, .val (.int x6), .val (.int x7), .val (.int x8), .val (.int x9), .val .null, .val .null, .val (.ref x10), .val (.ref x11), .val (.ref x12), .val (.ref x13), .val (.ref x14), .val (.int x15), .unset, .unset, .unset, .unset]
theorem d6_14 : decode prog_3_method_19_code 14 = .ok (.iconst 1, 1) := by decide +kernel
theorem d6_15 : decode prog_3_method_19_code 15 = .ok (.goto 4, 3) := by decide +kernel
abbrev lc57 (x0 x1 : Int32) (x2 x3 x4 x5 : Int64) (x6 x7 x8 x9 : Int32) (x10 x11 x12 x13 x14 : Addr) (x15 x16 : Int32) : Array Slot := #[.val (.int x0), .val (.int x1), .val (.long x2), .second, .val (.long x3), .second, .val (.long x4), .second, .val (.long x5), .second, .val (.int x6), .val (.int x7), .val (.int x8), .val (.int x9), .val .null, .val .null, .val (.ref x10), .val (.ref x11), .val (.ref x12), .val (.ref x13), .val (.ref x14), .val (.int x15), .val (.int x16), .unset, .unset, .unset]
abbrev lc58 (x0 x1 x2 x3 : Addr) : Array Slot := #[.val (.ref x0), .val (.ref x1), .val (.ref x2), .val (.ref x3)]
theorem ef_13 (m : MethodId) (x0 x1 x2 x3 : Addr) : entryFrame m #[(.ref x0), (.ref x1), (.ref x2), (.ref x3)] 4 = mkF m 0 #[.val (.ref x0), .val (.ref x1), .val (.ref x2), .val (.ref x3)] [] := by first | (simp [entryFrame, mkF, argsToLocals, Value.category, maxLocals]; done) | rfl
abbrev lc59 (x0 x1 : Int32) (x2 x3 x4 x5 : Int64) (x6 x7 x8 x9 : Int32) (x10 x11 x12 x13 x14 : Addr) (x15 x16 x17 : Int32) : Array Slot := #[.val (.int x0), .val (.int x1), .val (.long x2), .second, .val (.long x3), .second, .val (.long x4), .second, .val (.long x5), .second, .val (.int x6), .val (.int x7), .val (.int x8), .val (.int x9), .val .null, .val .null, .val (.ref x10), .val (.ref x11), .val (.ref x12), .val (.ref x13), .val (.ref x14), .val (.int x15), .val (.int x16), .val (.int x17), .unset, .unset]
abbrev lc60 (x0 x1 : Int32) (x2 x3 x4 x5 : Int64) (x6 x7 x8 x9 : Int32) (x10 x11 x12 x13 x14 : Addr) (x15 x16 x17 x18 : Int32) : Array Slot := #[.val (.int x0), .val (.int x1), .val (.long x2), .second, .val (.long x3), .second, .val (.long x4), .second, .val (.long x5), .second, .val (.int x6), .val (.int x7), .val (.int x8), .val (.int x9), .val .null, .val .null, .val (.ref x10), .val (.ref x11), .val (.ref x12), .val (.ref x13), .val (.ref x14), .val (.int x15), .val (.int x16), .val (.int x17), .val (.int x18), .unset]
abbrev lc61 (x0 x1 : Int32) (x2 x3 x4 x5 : Int64) (x6 x7 x8 x9 : Int32) (x10 x11 x12 x13 x14 : Addr) (x15 x16 x17 x18 x19 : Int32) : Array Slot := #[.val (.int x0), .val (.int x1), .val (.long x2), .second, .val (.long x3), .second, .val (.long x4), .second, .val (.long x5), .second, .val (.int x6), .val (.int x7), .val (.int x8), .val (.int x9), .val .null, .val .null, .val (.ref x10), .val (.ref x11), .val (.ref x12), .val (.ref x13), .val (.ref x14), .val (.int x15), .val (.int x16), .val (.int x17), .val (.int x18), .val (.int x19)]
abbrev lc62 (x0 x1 : Int32) (x2 x3 x4 x5 : Int64) (x6 x7 x8 x9 : Int32) (x10 : Addr) : Array Slot := #[.val (.int x0), .val (.int x1), .val (.long x2), .second, .val (.long x3), .second, .val (.long x4), .second, .val (.long x5), .second, .val (.int x6), .val (.int x7), .val (.int x8), .val (.int x9), .val .null, .val (.ref x10), .unset, .unset, .unset, .unset, .unset, .unset, .unset, .unset, .unset, .unset]
abbrev lc63 (x0 x1 : Int32) (x2 x3 x4 x5 : Int64) (x6 x7 x8 x9 : Int32) (x10 : Addr) : Array Slot := #[.val (.int x0), .val (.int x1), .val (.long x2), .second, .val (.long x3), .second, .val (.long x4), .second, .val (.long x5), .second, .val (.int x6), .val (.int x7), .val (.int x8), .val (.int x9), .val .null, .val (.ref x10), .val .null, .unset, .unset, .unset, .unset, .unset, .unset, .unset, .unset, .unset]
abbrev lc64 (x0 x1 : Int32) (x2 x3 x4 x5 : Int64) (x6 x7 x8 x9 : Int32) (x10 : Addr) : Array Slot := #[.val (.int x0), .val (.int x1), .val (.long x2), .second, .val (.long x3), .second, .val (.long x4), .second, .val (.long x5), .second, .val (.int x6), .val (.int x7), .val (.int x8), .val (.int x9), .val .null, .val (.ref x10), .val .null, .val .null, .unset, .unset, .unset, .unset, .unset, .unset, .unset, .unset]
abbrev lc65 (x0 x1 : Int32) (x2 x3 x4 x5 : Int64) (x6 x7 x8 x9 : Int32) (x10 x11 : Addr) : Array Slot := #[.val (.int x0), .val (.int x1), .val (.long x2), .second, .val (.long x3), .second, .val (.long x4), .second, .val (.long x5), .second, .val (.int x6), .val (.int x7), .val (.int x8), .val (.int x9), .val .null, .val (.ref x10), .val .null, .val .null, .val (.ref x11), .unset, .unset, .unset, .unset, .unset, .unset, .unset]
abbrev lc66 (x0 x1 : Int32) (x2 x3 x4 x5 : Int64) (x6 x7 x8 x9 : Int32) (x10 x11 x12 : Addr) : Array Slot := #[.val (.int x0), .val (.int x1), .val (.long x2), .second, .val (.long x3), .second, .val (.long x4), .second, .val (.long x5), .second, .val (.int x6), .val (.int x7), .val (.int x8), .val (.int x9), .val .null, .val (.ref x10), .val .null, .val .null, .val (.ref x11), .val (.ref x12), .unset, .unset, .unset, .unset, .unset, .unset]
abbrev lc67 (x0 x1 : Int32) (x2 x3 x4 x5 : Int64) (x6 x7 x8 x9 : Int32) (x10 x11 x12 x13 : Addr) : Array Slot := #[.val (.int x0), .val (.int x1), .val (.long x2), .second, .val (.long x3), .second, .val (.long x4), .second, .val (.long x5), .second, .val (.int x6), .val (.int x7), .val (.int x8), .val (.int x9), .val .null, .val (.ref x10), .val .null, .val .null, .val (.ref x11), .val (.ref x12), .val (.ref x13), .unset, .unset, .unset, .unset, .unset]
abbrev lc68 (x0 x1 : Int32) (x2 x3 x4 x5 : Int64) (x6 x7 x8 x9 : Int32) (x10 x11 x12 x13 : Addr) (x14 : Int32) : Array Slot := #[.val (.int x0), .val (.int x1), .val (.long x2), .second, .val (.long x3), .second, .val (.long x4), .second, .val (.long x5), .second, .val (.int x6), .val (.int x7), .val (.int x8), .val (.int x9), .val .null, .val (.ref x10), .val .null, .val .null, .val (.ref x11), .val (.ref x12), .val (.ref x13), .val (.int x14), .unset, .unset, .unset, .unset]
abbrev lc69 (x0 x1 : Int32) (x2 x3 x4 x5 : Int64) (x6 x7 x8 x9 : Int32) (x10 x11 x12 x13 : Addr) (x14 x15 : Int32) : Array Slot := #[.val (.int x0), .val (.int x1), .val (.long x2), .second, .val (.long x3), .second, .val (.long x4), .second, .val (.long x5), .second, .val (.int x6), .val (.int x7), .val (.int x8), .val (.int x9), .val .null, .val (.ref x10), .val .null, .val .null, .val (.ref x11), .val (.ref x12), .val (.ref x13), .val (.int x14), .val (.int x15), .unset, .unset, .unset]
theorem d7_51 : decode prog_3_method_17_code 51 = .ok (.aload_n 1, 1) := by decide +kernel
theorem d7_52 : decode prog_3_method_17_code 52 = .ok (.getfield 17, 3) := by decide +kernel
theorem d7_55 : decode prog_3_method_17_code 55 = .ok (.ifnull 28, 3) := by decide +kernel
theorem d7_83 : decode prog_3_method_17_code 83 = .ok (.aload_n 0, 1) := by decide +kernel
theorem d7_84 : decode prog_3_method_17_code 84 = .ok (.getfield 17, 3) := by decide +kernel
abbrev lc70 (x0 x1 : Int32) (x2 x3 x4 x5 : Int64) (x6 x7 x8 x9 : Int32) (x10 x11 x12 x13 : Addr) (x14 x15 x16 : Int32) : Array Slot := #[.val (.int x0), .val (.int x1), .val (.long x2), .second, .val (.long x3), .second, .val (.long x4), .second, .val (.long x5), .second, .val (.int x6), .val (.int x7), .val (.int x8), .val (.int x9), .val .null, .val (.ref x10), .val .null, .val .null, .val (.ref x11), .val (.ref x12), .val (.ref x13), .val (.int x14), .val (.int x15), .val (.int x16), .unset, .unset]
abbrev lc71 (x0 x1 : Int32) (x2 x3 x4 x5 : Int64) (x6 x7 x8 x9 : Int32) (x10 x11 x12 x13 : Addr) (x14 x15 x16 x17 : Int32) : Array Slot := #[.val (.int x0), .val (.int x1), .val (.long x2), .second, .val (.long x3), .second, .val (.long x4), .second, .val (.long x5), .second, .val (.int x6), .val (.int x7), .val (.int x8), .val (.int x9), .val .null, .val (.ref x10), .val .null, .val .null, .val (.ref x11), .val (.ref x12), .val (.ref x13), .val (.int x14), .val (.int x15), .val (.int x16), .val (.int x17), .unset]
abbrev lc72 (x0 x1 : Int32) (x2 x3 x4 x5 : Int64) (x6 x7 x8 x9 : Int32) (x10 x11 x12 x13 : Addr) (x14 x15 x16 x17 x18 : Int32) : Array Slot := #[.val (.int x0), .val (.int x1), .val (.long x2), .second, .val (.long x3), .second, .val (.long x4), .second, .val (.long x5), .second, .val (.int x6), .val (.int x7), .val (.int x8), .val (.int x9), .val .null, .val (.ref x10), .val .null, .val .null, .val (.ref x11), .val (.ref x12), .val (.ref x13), .val (.int x14), .val (.int x15), .val (.int x16), .val (.int x17), .val (.int x18)]
abbrev lc73 (x0 x1 : Int32) (x2 x3 x4 x5 : Int64) (x6 x7 x8 x9 : Int32) (x10 x11 : Addr) : Array Slot := #[.val (.int x0), .val (.int x1), .val (.long x2), .second, .val (.long x3), .second, .val (.long x4), .second, .val (.long x5), .second, .val (.int x6), .val (.int x7), .val (.int x8), .val (.int x9), .val .null, .val (.ref x10), .val .null, .val (.ref x11), .unset, .unset, .unset, .unset, .unset, .unset, .unset, .unset]
abbrev lc74 (x0 x1 : Int32) (x2 x3 x4 x5 : Int64) (x6 x7 x8 x9 : Int32) (x10 x11 x12 : Addr) : Array Slot := #[.val (.int x0), .val (.int x1), .val (.long x2), .second, .val (.long x3), .second, .val (.long x4), .second, .val (.long x5), .second, .val (.int x6), .val (.int x7), .val (.int x8), .val (.int x9), .val .null, .val (.ref x10), .val .null, .val (.ref x11), .val (.ref x12), .unset, .unset, .unset, .unset, .unset, .unset, .unset]
abbrev lc75 (x0 x1 : Int32) (x2 x3 x4 x5 : Int64) (x6 x7 x8 x9 : Int32) (x10 x11 x12 x13 : Addr) : Array Slot := #[.val (.int x0), .val (.int x1), .val (.long x2), .second, .val (.long x3), .second, .val (.long x4), .second, .val (.long x5), .second, .val (.int x6), .val (.int x7), .val (.int x8), .val (.int x9), .val .null, .val (.ref x10), .val .null, .val (.ref x11), .val (.ref x12), .val (.ref x13), .unset, .unset, .unset, .unset, .unset, .unset]
abbrev lc76 (x0 x1 : Int32) (x2 x3 x4 x5 : Int64) (x6 x7 x8 x9 : Int32) (x10 x11 x12 x13 x14 : Addr) : Array Slot := #[.val (.int x0), .val (.int x1), .val (.long x2), .second, .val (.long x3), .second, .val (.long x4), .second, .val (.long x5), .second, .val (.int x6), .val (.int x7), .val (.int x8), .val (.int x9), .val .null, .val (.ref x10), .val .null, .val (.ref x11), .val (.ref x12), .val (.ref x13), .val (.ref x14), .unset, .unset, .unset, .unset, .unset]
abbrev lc77 (x0 x1 : Int32) (x2 x3 x4 x5 : Int64) (x6 x7 x8 x9 : Int32) (x10 x11 x12 x13 x14 : Addr) (x15 : Int32) : Array Slot := #[.val (.int x0), .val (.int x1), .val (.long x2), .second, .val (.long x3), .second, .val (.long x4), .second, .val (.long x5), .second, .val (.int x6), .val (.int x7), .val (.int x8), .val (.int x9), .val .null, .val (.ref x10), .val .null, .val (.ref x11), .val (.ref x12), .val (.ref x13), .val (.ref x14), .val (.int x15), .unset, .unset, .unset, .unset]
abbrev lc78 (x0 x1 : Int32) (x2 x3 x4 x5 : Int64) (x6 x7 x8 x9 : Int32) (x10 x11 x12 x13 x14 : Addr) (x15 x16 : Int32) : Array Slot := #[.val (.int x0), .val (.int x1), .val (.long x2), .second, .val (.long x3), .second, .val (.long x4), .second, .val (.long x5), .second, .val (.int x6), .val (.int x7), .val (.int x8), .val (.int x9), .val .null, .val (.ref x10), .val .null, .val (.ref x11), .val (.ref x12), .val (.ref x13), .val (.ref x14), .val (.int x15), .val (.int x16), .unset, .unset, .unset]
theorem d7_58 : decode prog_3_method_17_code 58 = .ok (.aload_n 1, 1) := by decide +kernel
theorem d7_59 : decode prog_3_method_17_code 59 = .ok (.getfield 17, 3) := by decide +kernel
theorem d7_62 : decode prog_3_method_17_code 62 = .ok (.invokevirtual 45, 3) := by decide +kernel
theorem d14_0 : decode jdk_35_method_31_code 0 = .ok (.aload_n 0, 1) := by decide +kernel
theorem d14_1 : decode jdk_35_method_31_code 1 = .ok (.getfield 273, 3) := by decide +kernel
theorem d14_4 : decode jdk_35_method_31_code 4 = .ok (.lreturn, 1) := by decide +kernel
theorem pd_10 : parseMethodDescriptor "()J" = some ⟨[], some .long⟩ := by decide +kernel
theorem d7_65 : decode prog_3_method_17_code 65 = .ok (.aload_n 0, 1) := by decide +kernel
theorem d7_66 : decode prog_3_method_17_code 66 = .ok (.getfield 17, 3) := by decide +kernel
theorem d7_69 : decode prog_3_method_17_code 69 = .ok (.invokevirtual 45, 3) := by decide +kernel
theorem d7_72 : decode prog_3_method_17_code 72 = .ok (.lcmp, 1) := by decide +kernel
theorem d7_73 : decode prog_3_method_17_code 73 = .ok (.ifCond .ge 10, 3) := by decide +kernel
abbrev lc79 (x0 x1 : Int32) (x2 x3 x4 x5 : Int64) (x6 x7 x8 x9 : Int32) (x10 x11 x12 x13 x14 : Addr) (x15 x16 x17 : Int32) : Array Slot := #[.val (.int x0), .val (.int x1), .val (.long x2), .second, .val (.long x3), .second, .val (.long x4), .second, .val (.long x5), .second, .val (.int x6), .val (.int x7), .val (.int x8), .val (.int x9), .val .null, .val (.ref x10), .val .null, .val (.ref x11), .val (.ref x12), .val (.ref x13), .val (.ref x14), .val (.int x15), .val (.int x16), .val (.int x17), .unset, .unset]
abbrev lc80 (x0 x1 : Int32) (x2 x3 x4 x5 : Int64) (x6 x7 x8 x9 : Int32) (x10 x11 x12 x13 x14 : Addr) (x15 x16 x17 x18 : Int32) : Array Slot := #[.val (.int x0), .val (.int x1), .val (.long x2), .second, .val (.long x3), .second, .val (.long x4), .second, .val (.long x5), .second, .val (.int x6), .val (.int x7), .val (.int x8), .val (.int x9), .val .null, .val (.ref x10), .val .null, .val (.ref x11), .val (.ref x12), .val (.ref x13), .val (.ref x14), .val (.int x15), .val (.int x16), .val (.int x17), .val (.int x18), .unset]
abbrev lc81 (x0 x1 : Int32) (x2 x3 x4 x5 : Int64) (x6 x7 x8 x9 : Int32) (x10 x11 x12 x13 x14 : Addr) (x15 x16 x17 x18 x19 : Int32) : Array Slot := #[.val (.int x0), .val (.int x1), .val (.long x2), .second, .val (.long x3), .second, .val (.long x4), .second, .val (.long x5), .second, .val (.int x6), .val (.int x7), .val (.int x8), .val (.int x9), .val .null, .val (.ref x10), .val .null, .val (.ref x11), .val (.ref x12), .val (.ref x13), .val (.ref x14), .val (.int x15), .val (.int x16), .val (.int x17), .val (.int x18), .val (.int x19)]
abbrev lc82 (x0 x1 : Int32) (x2 x3 x4 x5 : Int64) (x6 x7 x8 x9 : Int32) (x10 x11 : Addr) : Array Slot := #[.val (.int x0), .val (.int x1), .val (.long x2), .second, .val (.long x3), .second, .val (.long x4), .second, .val (.long x5), .second, .val (.int x6), .val (.int x7), .val (.int x8), .val (.int x9), .val .null, .val (.ref x10), .val (.ref x11), .unset, .unset, .unset, .unset, .unset, .unset, .unset, .unset, .unset]
abbrev lc83 (x0 x1 : Int32) (x2 x3 x4 x5 : Int64) (x6 x7 x8 x9 : Int32) (x10 x11 : Addr) : Array Slot := #[.val (.int x0), .val (.int x1), .val (.long x2), .second, .val (.long x3), .second, .val (.long x4), .second, .val (.long x5), .second, .val (.int x6), .val (.int x7), .val (.int x8), .val (.int x9), .val .null, .val (.ref x10), .val (.ref x11), .val .null, .unset, .unset, .unset, .unset, .unset, .unset, .unset, .unset]
abbrev lc84 (x0 x1 : Int32) (x2 x3 x4 x5 : Int64) (x6 x7 x8 x9 : Int32) (x10 x11 x12 : Addr) : Array Slot := #[.val (.int x0), .val (.int x1), .val (.long x2), .second, .val (.long x3), .second, .val (.long x4), .second, .val (.long x5), .second, .val (.int x6), .val (.int x7), .val (.int x8), .val (.int x9), .val .null, .val (.ref x10), .val (.ref x11), .val .null, .val (.ref x12), .unset, .unset, .unset, .unset, .unset, .unset, .unset]
abbrev lc85 (x0 x1 : Int32) (x2 x3 x4 x5 : Int64) (x6 x7 x8 x9 : Int32) (x10 x11 x12 x13 : Addr) : Array Slot := #[.val (.int x0), .val (.int x1), .val (.long x2), .second, .val (.long x3), .second, .val (.long x4), .second, .val (.long x5), .second, .val (.int x6), .val (.int x7), .val (.int x8), .val (.int x9), .val .null, .val (.ref x10), .val (.ref x11), .val .null, .val (.ref x12), .val (.ref x13), .unset, .unset, .unset, .unset, .unset, .unset]
abbrev lc86 (x0 x1 : Int32) (x2 x3 x4 x5 : Int64) (x6 x7 x8 x9 : Int32) (x10 x11 x12 x13 x14 : Addr) : Array Slot := #[.val (.int x0), .val (.int x1), .val (.long x2), .second, .val (.long x3), .second, .val (.long x4), .second, .val (.long x5), .second, .val (.int x6), .val (.int x7), .val (.int x8), .val (.int x9), .val .null, .val (.ref x10), .val (.ref x11), .val .null, .val (.ref x12), .val (.ref x13), .val (.ref x14), .unset, .unset, .unset, .unset, .unset]
abbrev lc87 (x0 x1 : Int32) (x2 x3 x4 x5 : Int64) (x6 x7 x8 x9 : Int32) (x10 x11 x12 x13 x14 : Addr) (x15 : Int32) : Array Slot := #[.val (.int x0), .val (.int x1), .val (.long x2), .second, .val (.long x3), .second, .val (.long x4), .second, .val (.long x5), .second, .val (.int x6), .val (.int x7), .val (.int x8), .val (.int x9), .val .null, .val (.ref x10), .val (.ref x11), .val .null, .val (.ref x12), .val (.ref x13), .val (.ref x14), .val (.int x15), .unset, .unset, .unset, .unset]
abbrev lc88 (x0 x1 : Int32) (x2 x3 x4 x5 : Int64) (x6 x7 x8 x9 : Int32) (x10 x11 x12 x13 x14 : Addr) (x15 x16 : Int32) : Array Slot := #[.val (.int x0), .val (.int x1), .val (.long x2), .second, .val (.long x3), .second, .val (.long x4), .second, .val (.long x5), .second, .val (.int x6), .val (.int x7), .val (.int x8), .val (.int x9), .val .null, .val (.ref x10), .val (.ref x11), .val .null, .val (.ref x12), .val (.ref x13), .val (.ref x14), .val (.int x15), .val (.int x16), .unset, .unset, .unset]
abbrev lc89 (x0 x1 : Int32) (x2 x3 x4 x5 : Int64) (x6 x7 x8 x9 : Int32) (x10 x11 x12 x13 x14 : Addr) (x15 x16 x17 : Int32) : Array Slot := #[.val (.int x0), .val (.int x1), .val (.long x2), .second, .val (.long x3), .second, .val (.long x4), .second, .val (.long x5), .second, .val (.int x6), .val (.int x7), .val (.int x8), .val (.int x9), .val .null, .val (.ref x10), .val (.ref x11), .val .null, .val (.ref x12), .val (.ref x13), .val (.ref x14), .val (.int x15), .val (.int x16), .val (.int x17), .unset, .unset]
abbrev lc90 (x0 x1 : Int32) (x2 x3 x4 x5 : Int64) (x6 x7 x8 x9 : Int32) (x10 x11 x12 x13 x14 : Addr) (x15 x16 x17 x18 : Int32) : Array Slot := #[.val (.int x0), .val (.int x1), .val (.long x2), .second, .val (.long x3), .second, .val (.long x4), .second, .val (.long x5), .second, .val (.int x6), .val (.int x7), .val (.int x8), .val (.int x9), .val .null, .val (.ref x10), .val (.ref x11), .val .null, .val (.ref x12), .val (.ref x13), .val (.ref x14), .val (.int x15), .val (.int x16), .val (.int x17), .val (.int x18), .unset]
abbrev lc91 (x0 x1 : Int32) (x2 x3 x4 x5 : Int64) (x6 x7 x8 x9 : Int32) (x10 x11 x12 x13 x14 : Addr) (x15 x16 x17 x18 x19 : Int32) : Array Slot := #[.val (.int x0), .val (.int x1), .val (.long x2), .second, .val (.long x3), .second, .val (.long x4), .second, .val (.long x5), .second, .val (.int x6), .val (.int x7), .val (.int x8), .val (.int x9), .val .null, .val (.ref x10), .val (.ref x11), .val .null, .val (.ref x12), .val (.ref x13), .val (.ref x14), .val (.int x15), .val (.int x16), .val (.int x17), .val (.int x18), .val (.int x19)]
abbrev lc92 (x0 x1 : Int32) (x2 x3 x4 x5 : Int64) (x6 x7 x8 x9 : Int32) (x10 x11 x12 : Addr) : Array Slot := #[.val (.int x0), .val (.int x1), .val (.long x2), .second, .val (.long x3), .second, .val (.long x4), .second, .val (.long x5), .second, .val (.int x6), .val (.int x7), .val (.int x8), .val (.int x9), .val .null, .val (.ref x10), .val (.ref x11), .val (.ref x12), .unset, .unset, .unset, .unset, .unset, .unset, .unset, .unset]
abbrev lc93 (x0 x1 : Int32) (x2 x3 x4 x5 : Int64) (x6 x7 x8 x9 : Int32) (x10 x11 x12 x13 : Addr) : Array Slot := #[.val (.int x0), .val (.int x1), .val (.long x2), .second, .val (.long x3), .second, .val (.long x4), .second, .val (.long x5), .second, .val (.int x6), .val (.int x7), .val (.int x8), .val (.int x9), .val .null, .val (.ref x10), .val (.ref x11), .val (.ref x12), .val (.ref x13), .unset, .unset, .unset, .unset, .unset, .unset, .unset]
abbrev lc94 (x0 x1 : Int32) (x2 x3 x4 x5 : Int64) (x6 x7 x8 x9 : Int32) (x10 x11 x12 x13 x14 : Addr) : Array Slot := #[.val (.int x0), .val (.int x1), .val (.long x2), .second, .val (.long x3), .second, .val (.long x4), .second, .val (.long x5), .second, .val (.int x6), .val (.int x7), .val (.int x8), .val (.int x9), .val .null, .val (.ref x10), .val (.ref x11), .val (.ref x12), .val (.ref x13), .val (.ref x14), .unset, .unset, .unset, .unset, .unset, .unset]
abbrev lc95 (x0 x1 : Int32) (x2 x3 x4 x5 : Int64) (x6 x7 x8 x9 : Int32) (x10 x11 x12 x13 x14 x15 : Addr) : Array Slot := #[.val (.int x0), .val (.int x1), .val (.long x2), .second, .val (.long x3), .second, .val (.long x4), .second, .val (.long x5), .second, .val (.int x6), .val (.int x7), .val (.int x8), .val (.int x9), .val .null, .val (.ref x10), .val (.ref x11), .val (.ref x12), .val (.ref x13), .val (.ref x14), .val (.ref x15), .unset, .unset, .unset, .unset, .unset]
abbrev lc96 (x0 x1 : Int32) (x2 x3 x4 x5 : Int64) (x6 x7 x8 x9 : Int32) (x10 x11 x12 x13 x14 x15 : Addr) (x16 : Int32) : Array Slot := #[.val (.int x0), .val (.int x1), .val (.long x2), .second, .val (.long x3), .second, .val (.long x4), .second, .val (.long x5), .second, .val (.int x6), .val (.int x7), .val (.int x8), .val (.int x9), .val .null, .val (.ref x10), .val (.ref x11), .val (.ref x12), .val (.ref x13), .val (.ref x14), .val (.ref x15), .val (.int x16), .unset, .unset, .unset, .unset]
abbrev lc97 (x0 x1 : Int32) (x2 x3 x4 x5 : Int64) (x6 x7 x8 x9 : Int32) (x10 x11 x12 x13 x14 x15 : Addr) (x16 x17 : Int32) : Array Slot := #[.val (.int x0), .val (.int x1), .val (.long x2), .second, .val (.long x3), .second, .val (.long x4), .second, .val (.long x5), .second, .val (.int x6), .val (.int x7), .val (.int x8), .val (.int x9), .val .null, .val (.ref x10), .val (.ref x11), .val (.ref x12), .val (.ref x13), .val (.ref x14), .val (.ref x15), .val (.int x16), .val (.int x17), .unset, .unset, .unset]
abbrev lc98 (x0 x1 : Int32) (x2 x3 x4 x5 : Int64) (x6 x7 x8 x9 : Int32) (x10 x11 x12 x13 x14 x15 : Addr) (x16 x17 x18 : Int32) : Array Slot := #[.val (.int x0), .val (.int x1), .val (.long x2), .second, .val (.long x3), .second, .val (.long x4), .second, .val (.long x5), .second, .val (.int x6), .val (.int x7), .val (.int x8), .val (.int x9), .val .null, .val (.ref x10), .val (.ref x11), .val (.ref x12), .val (.ref x13), .val (.ref x14), .val (.ref x15), .val (.int x16), .val (.int x17), .val (.int x18), .unset, .unset]
abbrev lc99 (x0 x1 : Int32) (x2 x3 x4 x5 : Int64) (x6 x7 x8 x9 : Int32) (x10 x11 x12 x13 x14 x15 : Addr) (x16 x17 x18 x19 : Int32) : Array Slot := #[.val (.int x0), .val (.int x1), .val (.long x2), .second, .val (.long x3), .second, .val (.long x4), .second, .val (.long x5), .second, .val (.int x6), .val (.int x7), .val (.int x8), .val (.int x9), .val .null, .val (.ref x10), .val (.ref x11), .val (.ref x12), .val (.ref x13), .val (.ref x14), .val (.ref x15), .val (.int x16), .val (.int x17), .val (.int x18), .val (.int x19), .unset]
abbrev lc100 (x0 x1 : Int32) (x2 x3 x4 x5 : Int64) (x6 x7 x8 x9 : Int32) (x10 x11 x12 x13 x14 x15 : Addr) (x16 x17 x18 x19 x20 : Int32) : Array Slot := #[.val (.int x0), .val (.int x1), .val (.long x2), .second, .val (.long x3), .second, .val (.long x4), .second, .val (.long x5), .second, .val (.int x6), .val (.int x7), .val (.int x8), .val (.int x9), .val .null, .val (.ref x10), .val (.ref x11), .val (.ref x12), .val (.ref x13), .val (.ref x14), .val (.ref x15), .val (.int x16), .val (.int x17), .val (.int x18), .val (.int x19), .val (.int x20)]
abbrev lc101 (x0 x1 : Int32) (x2 x3 x4 x5 : Int64) (x6 x7 x8 x9 : Int32) (x10 : Addr) : Array Slot := #[.val (.int x0), .val (.int x1), .val (.long x2), .second, .val (.long x3), .second, .val (.long x4), .second, .val (.long x5), .second, .val (.int x6), .val (.int x7), .val (.int x8), .val (.int x9), .val (.ref x10), .unset, .unset, .unset, .unset, .unset, .unset, .unset, .unset, .unset, .unset, .unset]
abbrev lc102 (x0 x1 : Int32) (x2 x3 x4 x5 : Int64) (x6 x7 x8 x9 : Int32) (x10 : Addr) : Array Slot := #[.val (.int x0), .val (.int x1), .val (.long x2), .second, .val (.long x3), .second, .val (.long x4), .second, .val (.long x5), .second, .val (.int x6), .val (.int x7), .val (.int x8), .val (.int x9), .val (.ref x10), .val .null, .unset, .unset, .unset, .unset, .unset, .unset, .unset, .unset, .unset, .unset]
abbrev lc103 (x0 x1 : Int32) (x2 x3 x4 x5 : Int64) (x6 x7 x8 x9 : Int32) (x10 : Addr) : Array Slot := #[.val (.int x0), .val (.int x1), .val (.long x2), .second, .val (.long x3), .second, .val (.long x4), .second, .val (.long x5), .second, .val (.int x6), .val (.int x7), .val (.int x8), .val (.int x9), .val (.ref x10), .val .null, .val .null, .unset, .unset, .unset, .unset, .unset, .unset, .unset, .unset, .unset]
abbrev lc104 (x0 x1 : Int32) (x2 x3 x4 x5 : Int64) (x6 x7 x8 x9 : Int32) (x10 : Addr) : Array Slot := #[.val (.int x0), .val (.int x1), .val (.long x2), .second, .val (.long x3), .second, .val (.long x4), .second, .val (.long x5), .second, .val (.int x6), .val (.int x7), .val (.int x8), .val (.int x9), .val (.ref x10), .val .null, .val .null, .val .null, .unset, .unset, .unset, .unset, .unset, .unset, .unset, .unset]
abbrev lc105 (x0 x1 : Int32) (x2 x3 x4 x5 : Int64) (x6 x7 x8 x9 : Int32) (x10 x11 : Addr) : Array Slot := #[.val (.int x0), .val (.int x1), .val (.long x2), .second, .val (.long x3), .second, .val (.long x4), .second, .val (.long x5), .second, .val (.int x6), .val (.int x7), .val (.int x8), .val (.int x9), .val (.ref x10), .val .null, .val .null, .val .null, .val (.ref x11), .unset, .unset, .unset, .unset, .unset, .unset, .unset]
abbrev lc106 (x0 x1 : Int32) (x2 x3 x4 x5 : Int64) (x6 x7 x8 x9 : Int32) (x10 x11 x12 : Addr) : Array Slot := #[.val (.int x0), .val (.int x1), .val (.long x2), .second, .val (.long x3), .second, .val (.long x4), .second, .val (.long x5), .second, .val (.int x6), .val (.int x7), .val (.int x8), .val (.int x9), .val (.ref x10), .val .null, .val .null, .val .null, .val (.ref x11), .val (.ref x12), .unset, .unset, .unset, .unset, .unset, .unset]
abbrev lc107 (x0 x1 : Int32) (x2 x3 x4 x5 : Int64) (x6 x7 x8 x9 : Int32) (x10 x11 x12 x13 : Addr) : Array Slot := #[.val (.int x0), .val (.int x1), .val (.long x2), .second, .val (.long x3), .second, .val (.long x4), .second, .val (.long x5), .second, .val (.int x6), .val (.int x7), .val (.int x8), .val (.int x9), .val (.ref x10), .val .null, .val .null, .val .null, .val (.ref x11), .val (.ref x12), .val (.ref x13), .unset, .unset, .unset, .unset, .unset]
abbrev lc108 (x0 x1 : Int32) (x2 x3 x4 x5 : Int64) (x6 x7 x8 x9 : Int32) (x10 x11 x12 x13 : Addr) (x14 : Int32) : Array Slot := #[.val (.int x0), .val (.int x1), .val (.long x2), .second, .val (.long x3), .second, .val (.long x4), .second, .val (.long x5), .second, .val (.int x6), .val (.int x7), .val (.int x8), .val (.int x9), .val (.ref x10), .val .null, .val .null, .val .null, .val (.ref x11), .val (.ref x12), .val (.ref x13), .val (.int x14), .unset, .unset, .unset, .unset]
abbrev lc109 (x0 x1 : Int32) (x2 x3 x4 x5 : Int64) (x6 x7 x8 x9 : Int32) (x10 x11 x12 x13 : Addr) (x14 x15 : Int32) : Array Slot := #[.val (.int x0), .val (.int x1), .val (.long x2), .second, .val (.long x3), .second, .val (.long x4), .second, .val (.long x5), .second, .val (.int x6), .val (.int x7), .val (.int x8), .val (.int x9), .val (.ref x10), .val .null, .val .null, .val .null, .val (.ref x11), .val (.ref x12), .val (.ref x13), .val (.int x14), .val (.int x15), .unset, .unset, .unset]
theorem d7_7 : decode prog_3_method_17_code 7 = .ok (.aload_n 1, 1) := by decide +kernel
theorem d7_8 : decode prog_3_method_17_code 8 = .ok (.getfield 13, 3) := by decide +kernel
theorem d7_11 : decode prog_3_method_17_code 11 = .ok (.ifnull 28, 3) := by decide +kernel
theorem d7_39 : decode prog_3_method_17_code 39 = .ok (.aload_n 0, 1) := by decide +kernel
theorem d7_40 : decode prog_3_method_17_code 40 = .ok (.getfield 13, 3) := by decide +kernel
abbrev lc110 (x0 x1 : Int32) (x2 x3 x4 x5 : Int64) (x6 x7 x8 x9 : Int32) (x10 x11 x12 x13 : Addr) (x14 x15 x16 : Int32) : Array Slot := #[.val (.int x0), .val (.int x1), .val (.long x2), .second, .val (.long x3), .second, .val (.long x4), .second, .val (.long x5), .second, .val (.int x6), .val (.int x7), .val (.int x8), .val (.int x9), .val (.ref x10), .val .null, .val .null, .val .null, .val (.ref x11), .val (.ref x12), .val (.ref x13), .val (.int x14), .val (.int x15), .val (.int x16), .unset, .unset]
abbrev lc111 (x0 x1 : Int32) (x2 x3 x4 x5 : Int64) (x6 x7 x8 x9 : Int32) (x10 x11 x12 x13 : Addr) (x14 x15 x16 x17 : Int32) : Array Slot := #[.val (.int x0), .val (.int x1), .val (.long x2), .second, .val (.long x3), .second, .val (.long x4), .second, .val (.long x5), .second, .val (.int x6), .val (.int x7), .val (.int x8), .val (.int x9), .val (.ref x10), .val .null, .val .null, .val .null, .val (.ref x11), .val (.ref x12), .val (.ref x13), .val (.int x14), .val (.int x15), .val (.int x16), .val (.int x17), .unset]
abbrev lc112 (x0 x1 : Int32) (x2 x3 x4 x5 : Int64) (x6 x7 x8 x9 : Int32) (x10 x11 x12 x13 : Addr) (x14 x15 x16 x17 x18 : Int32) : Array Slot := #[.val (.int x0), .val (.int x1), .val (.long x2), .second, .val (.long x3), .second, .val (.long x4), .second, .val (.long x5), .second, .val (.int x6), .val (.int x7), .val (.int x8), .val (.int x9), .val (.ref x10), .val .null, .val .null, .val .null, .val (.ref x11), .val (.ref x12), .val (.ref x13), .val (.int x14), .val (.int x15), .val (.int x16), .val (.int x17), .val (.int x18)]
abbrev lc113 (x0 x1 : Int32) (x2 x3 x4 x5 : Int64) (x6 x7 x8 x9 : Int32) (x10 x11 : Addr) : Array Slot := #[.val (.int x0), .val (.int x1), .val (.long x2), .second, .val (.long x3), .second, .val (.long x4), .second, .val (.long x5), .second, .val (.int x6), .val (.int x7), .val (.int x8), .val (.int x9), .val (.ref x10), .val .null, .val .null, .val (.ref x11), .unset, .unset, .unset, .unset, .unset, .unset, .unset, .unset]
abbrev lc114 (x0 x1 : Int32) (x2 x3 x4 x5 : Int64) (x6 x7 x8 x9 : Int32) (x10 x11 x12 : Addr) : Array Slot := #[.val (.int x0), .val (.int x1), .val (.long x2), .second, .val (.long x3), .second, .val (.long x4), .second, .val (.long x5), .second, .val (.int x6), .val (.int x7), .val (.int x8), .val (.int x9), .val (.ref x10), .val .null, .val .null, .val (.ref x11), .val (.ref x12), .unset, .unset, .unset, .unset, .unset, .unset, .unset]
abbrev lc115 (x0 x1 : Int32) (x2 x3 x4 x5 : Int64) (x6 x7 x8 x9 : Int32) (x10 x11 x12 x13 : Addr) : Array Slot := #[.val (.int x0), .val (.int x1), .val (.long x2), .second, .val (.long x3), .second, .val (.long x4), .second, .val (.long x5), .second, .val (.int x6), .val (.int x7), .val (.int x8), .val (.int x9), .val (.ref x10), .val .null, .val .null, .val (.ref x11), .val (.ref x12), .val (.ref x13), .unset, .unset, .unset, .unset, .unset, .unset]
abbrev lc116 (x0 x1 : Int32) (x2 x3 x4 x5 : Int64) (x6 x7 x8 x9 : Int32) (x10 x11 x12 x13 x14 : Addr) : Array Slot := #[.val (.int x0), .val (.int x1), .val (.long x2), .second, .val (.long x3), .second, .val (.long x4), .second, .val (.long x5), .second, .val (.int x6), .val (.int x7), .val (.int x8), .val (.int x9), .val (.ref x10), .val .null, .val .null, .val (.ref x11), .val (.ref x12), .val (.ref x13), .val (.ref x14), .unset, .unset, .unset, .unset, .unset]
abbrev lc117 (x0 x1 : Int32) (x2 x3 x4 x5 : Int64) (x6 x7 x8 x9 : Int32) (x10 x11 x12 x13 x14 : Addr) (x15 : Int32) : Array Slot := #[.val (.int x0), .val (.int x1), .val (.long x2), .second, .val (.long x3), .second, .val (.long x4), .second, .val (.long x5), .second, .val (.int x6), .val (.int x7), .val (.int x8), .val (.int x9), .val (.ref x10), .val .null, .val .null, .val (.ref x11), .val (.ref x12), .val (.ref x13), .val (.ref x14), .val (.int x15), .unset, .unset, .unset, .unset]
abbrev lc118 (x0 x1 : Int32) (x2 x3 x4 x5 : Int64) (x6 x7 x8 x9 : Int32) (x10 x11 x12 x13 x14 : Addr) (x15 x16 : Int32) : Array Slot := #[.val (.int x0), .val (.int x1), .val (.long x2), .second, .val (.long x3), .second, .val (.long x4), .second, .val (.long x5), .second, .val (.int x6), .val (.int x7), .val (.int x8), .val (.int x9), .val (.ref x10), .val .null, .val .null, .val (.ref x11), .val (.ref x12), .val (.ref x13), .val (.ref x14), .val (.int x15), .val (.int x16), .unset, .unset, .unset]
abbrev lc119 (x0 x1 : Int32) (x2 x3 x4 x5 : Int64) (x6 x7 x8 x9 : Int32) (x10 x11 x12 x13 x14 : Addr) (x15 x16 x17 : Int32) : Array Slot := #[.val (.int x0), .val (.int x1), .val (.long x2), .second, .val (.long x3), .second, .val (.long x4), .second, .val (.long x5), .second, .val (.int x6), .val (.int x7), .val (.int x8), .val (.int x9), .val (.ref x10), .val .null, .val .null, .val (.ref x11), .val (.ref x12), .val (.ref x13), .val (.ref x14), .val (.int x15), .val (.int x16), .val (.int x17), .unset, .unset]
abbrev lc120 (x0 x1 : Int32) (x2 x3 x4 x5 : Int64) (x6 x7 x8 x9 : Int32) (x10 x11 x12 x13 x14 : Addr) (x15 x16 x17 x18 : Int32) : Array Slot := #[.val (.int x0), .val (.int x1), .val (.long x2), .second, .val (.long x3), .second, .val (.long x4), .second, .val (.long x5), .second, .val (.int x6), .val (.int x7), .val (.int x8), .val (.int x9), .val (.ref x10), .val .null, .val .null, .val (.ref x11), .val (.ref x12), .val (.ref x13), .val (.ref x14), .val (.int x15), .val (.int x16), .val (.int x17), .val (.int x18), .unset]
abbrev lc121 (x0 x1 : Int32) (x2 x3 x4 x5 : Int64) (x6 x7 x8 x9 : Int32) (x10 x11 x12 x13 x14 : Addr) (x15 x16 x17 x18 x19 : Int32) : Array Slot := #[.val (.int x0), .val (.int x1), .val (.long x2), .second, .val (.long x3), .second, .val (.long x4), .second, .val (.long x5), .second, .val (.int x6), .val (.int x7), .val (.int x8), .val (.int x9), .val (.ref x10), .val .null, .val .null, .val (.ref x11), .val (.ref x12), .val (.ref x13), .val (.ref x14), .val (.int x15), .val (.int x16), .val (.int x17), .val (.int x18), .val (.int x19)]
abbrev lc122 (x0 x1 : Int32) (x2 x3 x4 x5 : Int64) (x6 x7 x8 x9 : Int32) (x10 x11 : Addr) : Array Slot := #[.val (.int x0), .val (.int x1), .val (.long x2), .second, .val (.long x3), .second, .val (.long x4), .second, .val (.long x5), .second, .val (.int x6), .val (.int x7), .val (.int x8), .val (.int x9), .val (.ref x10), .val .null, .val (.ref x11), .unset, .unset, .unset, .unset, .unset, .unset, .unset, .unset, .unset]
abbrev lc123 (x0 x1 : Int32) (x2 x3 x4 x5 : Int64) (x6 x7 x8 x9 : Int32) (x10 x11 : Addr) : Array Slot := #[.val (.int x0), .val (.int x1), .val (.long x2), .second, .val (.long x3), .second, .val (.long x4), .second, .val (.long x5), .second, .val (.int x6), .val (.int x7), .val (.int x8), .val (.int x9), .val (.ref x10), .val .null, .val (.ref x11), .val .null, .unset, .unset, .unset, .unset, .unset, .unset, .unset, .unset]
abbrev lc124 (x0 x1 : Int32) (x2 x3 x4 x5 : Int64) (x6 x7 x8 x9 : Int32) (x10 x11 x12 : Addr) : Array Slot := #[.val (.int x0), .val (.int x1), .val (.long x2), .second, .val (.long x3), .second, .val (.long x4), .second, .val (.long x5), .second, .val (.int x6), .val (.int x7), .val (.int x8), .val (.int x9), .val (.ref x10), .val .null, .val (.ref x11), .val .null, .val (.ref x12), .unset, .unset, .unset, .unset, .unset, .unset, .unset]
abbrev lc125 (x0 x1 : Int32) (x2 x3 x4 x5 : Int64) (x6 x7 x8 x9 : Int32) (x10 x11 x12 x13 : Addr) : Array Slot := #[.val (.int x0), .val (.int x1), .val (.long x2), .second, .val (.long x3), .second, .val (.long x4), .second, .val (.long x5), .second, .val (.int x6), .val (.int x7), .val (.int x8), .val (.int x9), .val (.ref x10), .val .null, .val (.ref x11), .val .null, .val (.ref x12), .val (.ref x13), .unset, .unset, .unset, .unset, .unset, .unset]
abbrev lc126 (x0 x1 : Int32) (x2 x3 x4 x5 : Int64) (x6 x7 x8 x9 : Int32) (x10 x11 x12 x13 x14 : Addr) : Array Slot := #[.val (.int x0), .val (.int x1), .val (.long x2), .second, .val (.long x3), .second, .val (.long x4), .second, .val (.long x5), .second, .val (.int x6), .val (.int x7), .val (.int x8), .val (.int x9), .val (.ref x10), .val .null, .val (.ref x11), .val .null, .val (.ref x12), .val (.ref x13), .val (.ref x14), .unset, .unset, .unset, .unset, .unset]
abbrev lc127 (x0 x1 : Int32) (x2 x3 x4 x5 : Int64) (x6 x7 x8 x9 : Int32) (x10 x11 x12 x13 x14 : Addr) (x15 : Int32) : Array Slot := #[.val (.int x0), .val (.int x1), .val (.long x2), .second, .val (.long x3), .second, .val (.long x4), .second, .val (.long x5), .second, .val (.int x6), .val (.int x7), .val (.int x8), .val (.int x9), .val (.ref x10), .val .null, .val (.ref x11), .val .null, .val (.ref x12), .val (.ref x13), .val (.ref x14), .val (.int x15), .unset, .unset, .unset, .unset]
abbrev lc128 (x0 x1 : Int32) (x2 x3 x4 x5 : Int64) (x6 x7 x8 x9 : Int32) (x10 x11 x12 x13 x14 : Addr) (x15 x16 : Int32) : Array Slot := #[.val (.int x0), .val (.int x1), .val (.long x2), .second, .val (.long x3), .second, .val (.long x4), .second, .val (.long x5), .second, .val (.int x6), .val (.int x7), .val (.int x8), .val (.int x9), .val (.ref x10), .val .null, .val (.ref x11), .val .null, .val (.ref x12), .val (.ref x13), .val (.ref x14), .val (.int x15), .val (.int x16), .unset, .unset, .unset]
theorem d7_14 : decode prog_3_method_17_code 14 = .ok (.aload_n 1, 1) := by decide +kernel
theorem d7_15 : decode prog_3_method_17_code 15 = .ok (.getfield 13, 3) := by decide +kernel
theorem d7_18 : decode prog_3_method_17_code 18 = .ok (.invokevirtual 45, 3) := by decide +kernel
theorem d7_21 : decode prog_3_method_17_code 21 = .ok (.aload_n 0, 1) := by decide +kernel
theorem d7_22 : decode prog_3_method_17_code 22 = .ok (.getfield 13, 3) := by decide +kernel
theorem d7_25 : decode prog_3_method_17_code 25 = .ok (.invokevirtual 45, 3) := by decide +kernel
theorem d7_28 : decode prog_3_method_17_code 28 = .ok (.lcmp, 1) := by decide +kernel
theorem d7_29 : decode prog_3_method_17_code 29 = .ok (.ifCond .le 10, 3) := by decide +kernel
abbrev lc129 (x0 x1 : Int32) (x2 x3 x4 x5 : Int64) (x6 x7 x8 x9 : Int32) (x10 x11 x12 x13 x14 : Addr) (x15 x16 x17 : Int32) : Array Slot := #[.val (.int x0), .val (.int x1), .val (.long x2), .second, .val (.long x3), .second, .val (.long x4), .second, .val (.long x5), .second, .val (.int x6), .val (.int x7), .val (.int x8), .val (.int x9), .val (.ref x10), .val .null, .val (.ref x11), .val .null, .val (.ref x12), .val (.ref x13), .val (.ref x14), .val (.int x15), .val (.int x16), .val (.int x17), .unset, .unset]
abbrev lc130 (x0 x1 : Int32) (x2 x3 x4 x5 : Int64) (x6 x7 x8 x9 : Int32) (x10 x11 x12 x13 x14 : Addr) (x15 x16 x17 x18 : Int32) : Array Slot := #[.val (.int x0), .val (.int x1), .val (.long x2), .second, .val (.long x3), .second, .val (.long x4), .second, .val (.long x5), .second, .val (.int x6), .val (.int x7), .val (.int x8), .val (.int x9), .val (.ref x10), .val .null, .val (.ref x11), .val .null, .val (.ref x12), .val (.ref x13), .val (.ref x14), .val (.int x15), .val (.int x16), .val (.int x17), .val (.int x18), .unset]
abbrev lc131 (x0 x1 : Int32) (x2 x3 x4 x5 : Int64) (x6 x7 x8 x9 : Int32) (x10 x11 x12 x13 x14 : Addr) (x15 x16 x17 x18 x19 : Int32) : Array Slot := #[.val (.int x0), .val (.int x1), .val (.long x2), .second, .val (.long x3), .second, .val (.long x4), .second, .val (.long x5), .second, .val (.int x6), .val (.int x7), .val (.int x8), .val (.int x9), .val (.ref x10), .val .null, .val (.ref x11), .val .null, .val (.ref x12), .val (.ref x13), .val (.ref x14), .val (.int x15), .val (.int x16), .val (.int x17), .val (.int x18), .val (.int x19)]
abbrev lc132 (x0 x1 : Int32) (x2 x3 x4 x5 : Int64) (x6 x7 x8 x9 : Int32) (x10 x11 x12 : Addr) : Array Slot := #[.val (.int x0), .val (.int x1), .val (.long x2), .second, .val (.long x3), .second, .val (.long x4), .second, .val (.long x5), .second, .val (.int x6), .val (.int x7), .val (.int x8), .val (.int x9), .val (.ref x10), .val .null, .val (.ref x11), .val (.ref x12), .unset, .unset, .unset, .unset, .unset, .unset, .unset, .unset]
abbrev lc133 (x0 x1 : Int32) (x2 x3 x4 x5 : Int64) (x6 x7 x8 x9 : Int32) (x10 x11 x12 x13 : Addr) : Array Slot := #[.val (.int x0), .val (.int x1), .val (.long x2), .second, .val (.long x3), .second, .val (.long x4), .second, .val (.long x5), .second, .val (.int x6), .val (.int x7), .val (.int x8), .val (.int x9), .val (.ref x10), .val .null, .val (.ref x11), .val (.ref x12), .val (.ref x13), .unset, .unset, .unset, .unset, .unset, .unset, .unset]
abbrev lc134 (x0 x1 : Int32) (x2 x3 x4 x5 : Int64) (x6 x7 x8 x9 : Int32) (x10 x11 x12 x13 x14 : Addr) : Array Slot := #[.val (.int x0), .val (.int x1), .val (.long x2), .second, .val (.long x3), .second, .val (.long x4), .second, .val (.long x5), .second, .val (.int x6), .val (.int x7), .val (.int x8), .val (.int x9), .val (.ref x10), .val .null, .val (.ref x11), .val (.ref x12), .val (.ref x13), .val (.ref x14), .unset, .unset, .unset, .unset, .unset, .unset]
abbrev lc135 (x0 x1 : Int32) (x2 x3 x4 x5 : Int64) (x6 x7 x8 x9 : Int32) (x10 x11 x12 x13 x14 x15 : Addr) : Array Slot := #[.val (.int x0), .val (.int x1), .val (.long x2), .second, .val (.long x3), .second, .val (.long x4), .second, .val (.long x5), .second, .val (.int x6), .val (.int x7), .val (.int x8), .val (.int x9), .val (.ref x10), .val .null, .val (.ref x11), .val (.ref x12), .val (.ref x13), .val (.ref x14), .val (.ref x15), .unset, .unset, .unset, .unset, .unset]
abbrev lc136 (x0 x1 : Int32) (x2 x3 x4 x5 : Int64) (x6 x7 x8 x9 : Int32) (x10 x11 x12 x13 x14 x15 : Addr) (x16 : Int32) : Array Slot := #[.val (.int x0), .val (.int x1), .val (.long x2), .second, .val (.long x3), .second, .val (.long x4), .second, .val (.long x5), .second, .val (.int x6), .val (.int x7), .val (.int x8), .val (.int x9), .val (.ref x10), .val .null, .val (.ref x11), .val (.ref x12), .val (.ref x13), .val (.ref x14), .val (.ref x15), .val (.int x16), .unset, .unset, .unset, .unset]
abbrev lc137 (x0 x1 : Int32) (x2 x3 x4 x5 : Int64) (x6 x7 x8 x9 : Int32) (x10 x11 x12 x13 x14 x15 : Addr) (x16 x17 : Int32) : Array Slot := #[.val (.int x0), .val (.int x1), .val (.long x2), .second, .val (.long x3), .second, .val (.long x4), .second, .val (.long x5), .second, .val (.int x6), .val (.int x7), .val (.int x8), .val (.int x9), .val (.ref x10), .val .null, .val (.ref x11), .val (.ref x12), .val (.ref x13), .val (.ref x14), .val (.ref x15), .val (.int x16), .val (.int x17), .unset, .unset, .unset]
abbrev lc138 (x0 x1 : Int32) (x2 x3 x4 x5 : Int64) (x6 x7 x8 x9 : Int32) (x10 x11 x12 x13 x14 x15 : Addr) (x16 x17 x18 : Int32) : Array Slot := #[.val (.int x0), .val (.int x1), .val (.long x2), .second, .val (.long x3), .second, .val (.long x4), .second, .val (.long x5), .second, .val (.int x6), .val (.int x7), .val (.int x8), .val (.int x9), .val (.ref x10), .val .null, .val (.ref x11), .val (.ref x12), .val (.ref x13), .val (.ref x14), .val (.ref x15), .val (.int x16), .val (.int x17), .val (.int x18), .unset, .unset]
abbrev lc139 (x0 x1 : Int32) (x2 x3 x4 x5 : Int64) (x6 x7 x8 x9 : Int32) (x10 x11 x12 x13 x14 x15 : Addr) (x16 x17 x18 x19 : Int32) : Array Slot := #[.val (.int x0), .val (.int x1), .val (.long x2), .second, .val (.long x3), .second, .val (.long x4), .second, .val (.long x5), .second, .val (.int x6), .val (.int x7), .val (.int x8), .val (.int x9), .val (.ref x10), .val .null, .val (.ref x11), .val (.ref x12), .val (.ref x13), .val (.ref x14), .val (.ref x15), .val (.int x16), .val (.int x17), .val (.int x18), .val (.int x19), .unset]
abbrev lc140 (x0 x1 : Int32) (x2 x3 x4 x5 : Int64) (x6 x7 x8 x9 : Int32) (x10 x11 x12 x13 x14 x15 : Addr) (x16 x17 x18 x19 x20 : Int32) : Array Slot := #[.val (.int x0), .val (.int x1), .val (.long x2), .second, .val (.long x3), .second, .val (.long x4), .second, .val (.long x5), .second, .val (.int x6), .val (.int x7), .val (.int x8), .val (.int x9), .val (.ref x10), .val .null, .val (.ref x11), .val (.ref x12), .val (.ref x13), .val (.ref x14), .val (.ref x15), .val (.int x16), .val (.int x17), .val (.int x18), .val (.int x19), .val (.int x20)]
abbrev lc141 (x0 x1 : Int32) (x2 x3 x4 x5 : Int64) (x6 x7 x8 x9 : Int32) (x10 x11 : Addr) : Array Slot := #[.val (.int x0), .val (.int x1), .val (.long x2), .second, .val (.long x3), .second, .val (.long x4), .second, .val (.long x5), .second, .val (.int x6), .val (.int x7), .val (.int x8), .val (.int x9), .val (.ref x10), .val (.ref x11), .unset, .unset, .unset, .unset, .unset, .unset, .unset, .unset, .unset, .unset]
abbrev lc142 (x0 x1 : Int32) (x2 x3 x4 x5 : Int64) (x6 x7 x8 x9 : Int32) (x10 x11 : Addr) : Array Slot := #[.val (.int x0), .val (.int x1), .val (.long x2), .second, .val (.long x3), .second, .val (.long x4), .second, .val (.long x5), .second, .val (.int x6), .val (.int x7), .val (.int x8), .val (.int x9), .val (.ref x10), .val (.ref x11), .val .null, .unset, .unset, .unset, .unset, .unset, .unset, .unset, .unset, .unset]
abbrev lc143 (x0 x1 : Int32) (x2 x3 x4 x5 : Int64) (x6 x7 x8 x9 : Int32) (x10 x11 : Addr) : Array Slot := #[.val (.int x0), .val (.int x1), .val (.long x2), .second, .val (.long x3), .second, .val (.long x4), .second, .val (.long x5), .second, .val (.int x6), .val (.int x7), .val (.int x8), .val (.int x9), .val (.ref x10), .val (.ref x11), .val .null, .val .null, .unset, .unset, .unset, .unset, .unset, .unset, .unset, .unset]
abbrev lc144 (x0 x1 : Int32) (x2 x3 x4 x5 : Int64) (x6 x7 x8 x9 : Int32) (x10 x11 x12 : Addr) : Array Slot := #[.val (.int x0), .val (.int x1), .val (.long x2), .second, .val (.long x3), .second, .val (.long x4), .second, .val (.long x5), .second, .val (.int x6), .val (.int x7), .val (.int x8), .val (.int x9), .val (.ref x10), .val (.ref x11), .val .null, .val .null, .val (.ref x12), .unset, .unset, .unset, .unset, .unset, .unset, .unset]
abbrev lc145 (x0 x1 : Int32) (x2 x3 x4 x5 : Int64) (x6 x7 x8 x9 : Int32) (x10 x11 x12 x13 : Addr) : Array Slot := #[.val (.int x0), .val (.int x1), .val (.long x2), .second, .val (.long x3), .second, .val (.long x4), .second, .val (.long x5), .second, .val (.int x6), .val (.int x7), .val (.int x8), .val (.int x9), .val (.ref x10), .val (.ref x11), .val .null, .val .null, .val (.ref x12), .val (.ref x13), .unset, .unset, .unset, .unset, .unset, .unset]
abbrev lc146 (x0 x1 : Int32) (x2 x3 x4 x5 : Int64) (x6 x7 x8 x9 : Int32) (x10 x11 x12 x13 x14 : Addr) : Array Slot := #[.val (.int x0), .val (.int x1), .val (.long x2), .second, .val (.long x3), .second, .val (.long x4), .second, .val (.long x5), .second, .val (.int x6), .val (.int x7), .val (.int x8), .val (.int x9), .val (.ref x10), .val (.ref x11), .val .null, .val .null, .val (.ref x12), .val (.ref x13), .val (.ref x14), .unset, .unset, .unset, .unset, .unset]
abbrev lc147 (x0 x1 : Int32) (x2 x3 x4 x5 : Int64) (x6 x7 x8 x9 : Int32) (x10 x11 x12 x13 x14 : Addr) (x15 : Int32) : Array Slot := #[.val (.int x0), .val (.int x1), .val (.long x2), .second, .val (.long x3), .second, .val (.long x4), .second, .val (.long x5), .second, .val (.int x6), .val (.int x7), .val (.int x8), .val (.int x9), .val (.ref x10), .val (.ref x11), .val .null, .val .null, .val (.ref x12), .val (.ref x13), .val (.ref x14), .val (.int x15), .unset, .unset, .unset, .unset]
abbrev lc148 (x0 x1 : Int32) (x2 x3 x4 x5 : Int64) (x6 x7 x8 x9 : Int32) (x10 x11 x12 x13 x14 : Addr) (x15 x16 : Int32) : Array Slot := #[.val (.int x0), .val (.int x1), .val (.long x2), .second, .val (.long x3), .second, .val (.long x4), .second, .val (.long x5), .second, .val (.int x6), .val (.int x7), .val (.int x8), .val (.int x9), .val (.ref x10), .val (.ref x11), .val .null, .val .null, .val (.ref x12), .val (.ref x13), .val (.ref x14), .val (.int x15), .val (.int x16), .unset, .unset, .unset]
abbrev lc149 (x0 x1 : Int32) (x2 x3 x4 x5 : Int64) (x6 x7 x8 x9 : Int32) (x10 x11 x12 x13 x14 : Addr) (x15 x16 x17 : Int32) : Array Slot := #[.val (.int x0), .val (.int x1), .val (.long x2), .second, .val (.long x3), .second, .val (.long x4), .second, .val (.long x5), .second, .val (.int x6), .val (.int x7), .val (.int x8), .val (.int x9), .val (.ref x10), .val (.ref x11), .val .null, .val .null, .val (.ref x12), .val (.ref x13), .val (.ref x14), .val (.int x15), .val (.int x16), .val (.int x17), .unset, .unset]
abbrev lc150 (x0 x1 : Int32) (x2 x3 x4 x5 : Int64) (x6 x7 x8 x9 : Int32) (x10 x11 x12 x13 x14 : Addr) (x15 x16 x17 x18 : Int32) : Array Slot := #[.val (.int x0), .val (.int x1), .val (.long x2), .second, .val (.long x3), .second, .val (.long x4), .second, .val (.long x5), .second, .val (.int x6), .val (.int x7), .val (.int x8), .val (.int x9), .val (.ref x10), .val (.ref x11), .val .null, .val .null, .val (.ref x12), .val (.ref x13), .val (.ref x14), .val (.int x15), .val (.int x16), .val (.int x17), .val (.int x18), .unset]
abbrev lc151 (x0 x1 : Int32) (x2 x3 x4 x5 : Int64) (x6 x7 x8 x9 : Int32) (x10 x11 x12 x13 x14 : Addr) (x15 x16 x17 x18 x19 : Int32) : Array Slot := #[.val (.int x0), .val (.int x1), .val (.long x2), .second, .val (.long x3), .second, .val (.long x4), .second, .val (.long x5), .second, .val (.int x6), .val (.int x7), .val (.int x8), .val (.int x9), .val (.ref x10), .val (.ref x11), .val .null, .val .null, .val (.ref x12), .val (.ref x13), .val (.ref x14), .val (.int x15), .val (.int x16), .val (.int x17), .val (.int x18), .val (.int x19)]
abbrev lc152 (x0 x1 : Int32) (x2 x3 x4 x5 : Int64) (x6 x7 x8 x9 : Int32) (x10 x11 x12 : Addr) : Array Slot := #[.val (.int x0), .val (.int x1), .val (.long x2), .second, .val (.long x3), .second, .val (.long x4), .second, .val (.long x5), .second, .val (.int x6), .val (.int x7), .val (.int x8), .val (.int x9), .val (.ref x10), .val (.ref x11), .val .null, .val (.ref x12), .unset, .unset, .unset, .unset, .unset, .unset, .unset, .unset]
abbrev lc153 (x0 x1 : Int32) (x2 x3 x4 x5 : Int64) (x6 x7 x8 x9 : Int32) (x10 x11 x12 x13 : Addr) : Array Slot := #[.val (.int x0), .val (.int x1), .val (.long x2), .second, .val (.long x3), .second, .val (.long x4), .second, .val (.long x5), .second, .val (.int x6), .val (.int x7), .val (.int x8), .val (.int x9), .val (.ref x10), .val (.ref x11), .val .null, .val (.ref x12), .val (.ref x13), .unset, .unset, .unset, .unset, .unset, .unset, .unset]
abbrev lc154 (x0 x1 : Int32) (x2 x3 x4 x5 : Int64) (x6 x7 x8 x9 : Int32) (x10 x11 x12 x13 x14 : Addr) : Array Slot := #[.val (.int x0), .val (.int x1), .val (.long x2), .second, .val (.long x3), .second, .val (.long x4), .second, .val (.long x5), .second, .val (.int x6), .val (.int x7), .val (.int x8), .val (.int x9), .val (.ref x10), .val (.ref x11), .val .null, .val (.ref x12), .val (.ref x13), .val (.ref x14), .unset, .unset, .unset, .unset, .unset, .unset]
abbrev lc155 (x0 x1 : Int32) (x2 x3 x4 x5 : Int64) (x6 x7 x8 x9 : Int32) (x10 x11 x12 x13 x14 x15 : Addr) : Array Slot := #[.val (.int x0), .val (.int x1), .val (.long x2), .second, .val (.long x3), .second, .val (.long x4), .second, .val (.long x5), .second, .val (.int x6), .val (.int x7), .val (.int x8), .val (.int x9), .val (.ref x10), .val (.ref x11), .val .null, .val (.ref x12), .val (.ref x13), .val (.ref x14), .val (.ref x15), .unset, .unset, .unset, .unset, .unset]
abbrev lc156 (x0 x1 : Int32) (x2 x3 x4 x5 : Int64) (x6 x7 x8 x9 : Int32) (x10 x11 x12 x13 x14 x15 : Addr) (x16 : Int32) : Array Slot := #[.val (.int x0), .val (.int x1), .val (.long x2), .second, .val (.long x3), .second, .val (.long x4), .second, .val (.long x5), .second, .val (.int x6), .val (.int x7), .val (.int x8), .val (.int x9), .val (.ref x10), .val (.ref x11), .val .null, .val (.ref x12), .val (.ref x13), .val (.ref x14), .val (.ref x15), .val (.int x16), .unset, .unset, .unset, .unset]
abbrev lc157 (x0 x1 : Int32) (x2 x3 x4 x5 : Int64) (x6 x7 x8 x9 : Int32) (x10 x11 x12 x13 x14 x15 : Addr) (x16 x17 : Int32) : Array Slot := #[.val (.int x0), .val (.int x1), .val (.long x2), .second, .val (.long x3), .second, .val (.long x4), .second, .val (.long x5), .second, .val (.int x6), .val (.int x7), .val (.int x8), .val (.int x9), .val (.ref x10), .val (.ref x11), .val .null, .val (.ref x12), .val (.ref x13), .val (.ref x14), .val (.ref x15), .val (.int x16), .val (.int x17), .unset, .unset, .unset]
abbrev lc158 (x0 x1 : Int32) (x2 x3 x4 x5 : Int64) (x6 x7 x8 x9 : Int32) (x10 x11 x12 x13 x14 x15 : Addr) (x16 x17 x18 : Int32) : Array Slot := #[.val (.int x0), .val (.int x1), .val (.long x2), .second, .val (.long x3), .second, .val (.long x4), .second, .val (.long x5), .second, .val (.int x6), .val (.int x7), .val (.int x8), .val (.int x9), .val (.ref x10), .val (.ref x11), .val .null, .val (.ref x12), .val (.ref x13), .val (.ref x14), .val (.ref x15), .val (.int x16), .val (.int x17), .val (.int x18), .unset, .unset]
abbrev lc159 (x0 x1 : Int32) (x2 x3 x4 x5 : Int64) (x6 x7 x8 x9 : Int32) (x10 x11 x12 x13 x14 x15 : Addr) (x16 x17 x18 x19 : Int32) : Array Slot := #[.val (.int x0), .val (.int x1), .val (.long x2), .second, .val (.long x3), .second, .val (.long x4), .second, .val (.long x5), .second, .val (.int x6), .val (.int x7), .val (.int x8), .val (.int x9), .val (.ref x10), .val (.ref x11), .val .null, .val (.ref x12), .val (.ref x13), .val (.ref x14), .val (.ref x15), .val (.int x16), .val (.int x17), .val (.int x18), .val (.int x19), .unset]
abbrev lc160 (x0 x1 : Int32) (x2 x3 x4 x5 : Int64) (x6 x7 x8 x9 : Int32) (x10 x11 x12 x13 x14 x15 : Addr) (x16 x17 x18 x19 x20 : Int32) : Array Slot := #[.val (.int x0), .val (.int x1), .val (.long x2), .second, .val (.long x3), .second, .val (.long x4), .second, .val (.long x5), .second, .val (.int x6), .val (.int x7), .val (.int x8), .val (.int x9), .val (.ref x10), .val (.ref x11), .val .null, .val (.ref x12), .val (.ref x13), .val (.ref x14), .val (.ref x15), .val (.int x16), .val (.int x17), .val (.int x18), .val (.int x19), .val (.int x20)]
abbrev lc161 (x0 x1 : Int32) (x2 x3 x4 x5 : Int64) (x6 x7 x8 x9 : Int32) (x10 x11 x12 : Addr) : Array Slot := #[.val (.int x0), .val (.int x1), .val (.long x2), .second, .val (.long x3), .second, .val (.long x4), .second, .val (.long x5), .second, .val (.int x6), .val (.int x7), .val (.int x8), .val (.int x9), .val (.ref x10), .val (.ref x11), .val (.ref x12), .unset, .unset, .unset, .unset, .unset, .unset, .unset, .unset, .unset]
abbrev lc162 (x0 x1 : Int32) (x2 x3 x4 x5 : Int64) (x6 x7 x8 x9 : Int32) (x10 x11 x12 : Addr) : Array Slot := #[.val (.int x0), .val (.int x1), .val (.long x2), .second, .val (.long x3), .second, .val (.long x4), .second, .val (.long x5), .second, .val (.int x6), .val (.int x7), .val (.int x8), .val (.int x9), .val (.ref x10), .val (.ref x11), .val (.ref x12), .val .null, .unset, .unset, .unset, .unset, .unset, .unset, .unset, .unset]
abbrev lc163 (x0 x1 : Int32) (x2 x3 x4 x5 : Int64) (x6 x7 x8 x9 : Int32) (x10 x11 x12 x13 : Addr) : Array Slot := #[.val (.int x0), .val (.int x1), .val (.long x2), .second, .val (.long x3), .second, .val (.long x4), .second, .val (.long x5), .second, .val (.int x6), .val (.int x7), .val (.int x8), .val (.int x9), .val (.ref x10), .val (.ref x11), .val (.ref x12), .val .null, .val (.ref x13), .unset, .unset, .unset, .unset, .unset, .unset, .unset]
abbrev lc164 (x0 x1 : Int32) (x2 x3 x4 x5 : Int64) (x6 x7 x8 x9 : Int32) (x10 x11 x12 x13 x14 : Addr) : Array Slot := #[.val (.int x0), .val (.int x1), .val (.long x2), .second, .val (.long x3), .second, .val (.long x4), .second, .val (.long x5), .second, .val (.int x6), .val (.int x7), .val (.int x8), .val (.int x9), .val (.ref x10), .val (.ref x11), .val (.ref x12), .val .null, .val (.ref x13), .val (.ref x14), .unset, .unset, .unset, .unset, .unset, .unset]
abbrev lc165 (x0 x1 : Int32) (x2 x3 x4 x5 : Int64) (x6 x7 x8 x9 : Int32) (x10 x11 x12 x13 x14 x15 : Addr) : Array Slot := #[.val (.int x0), .val (.int x1), .val (.long x2), .second, .val (.long x3), .second, .val (.long x4), .second, .val (.long x5), .second, .val (.int x6), .val (.int x7), .val (.int x8), .val (.int x9), .val (.ref x10), .val (.ref x11), .val (.ref x12), .val .null, .val (.ref x13), .val (.ref x14), .val (.ref x15), .unset, .unset, .unset, .unset, .unset]
abbrev lc166 (x0 x1 : Int32) (x2 x3 x4 x5 : Int64) (x6 x7 x8 x9 : Int32) (x10 x11 x12 x13 x14 x15 : Addr) (x16 : Int32) : Array Slot := #[.val (.int x0), .val (.int x1), .val (.long x2), .second, .val (.long x3), .second, .val (.long x4), .second, .val (.long x5), .second, .val (.int x6), .val (.int x7), .val (.int x8), .val (.int x9), .val (.ref x10), .val (.ref x11), .val (.ref x12), .val .null, .val (.ref x13), .val (.ref x14), .val (.ref x15), .val (.int x16), .unset, .unset, .unset, .unset]
abbrev lc167 (x0 x1 : Int32) (x2 x3 x4 x5 : Int64) (x6 x7 x8 x9 : Int32) (x10 x11 x12 x13 x14 x15 : Addr) (x16 x17 : Int32) : Array Slot := #[.val (.int x0), .val (.int x1), .val (.long x2), .second, .val (.long x3), .second, .val (.long x4), .second, .val (.long x5), .second, .val (.int x6), .val (.int x7), .val (.int x8), .val (.int x9), .val (.ref x10), .val (.ref x11), .val (.ref x12), .val .null, .val (.ref x13), .val (.ref x14), .val (.ref x15), .val (.int x16), .val (.int x17), .unset, .unset, .unset]
abbrev lc168 (x0 x1 : Int32) (x2 x3 x4 x5 : Int64) (x6 x7 x8 x9 : Int32) (x10 x11 x12 x13 x14 x15 : Addr) (x16 x17 x18 : Int32) : Array Slot := #[.val (.int x0), .val (.int x1), .val (.long x2), .second, .val (.long x3), .second, .val (.long x4), .second, .val (.long x5), .second, .val (.int x6), .val (.int x7), .val (.int x8), .val (.int x9), .val (.ref x10), .val (.ref x11), .val (.ref x12), .val .null, .val (.ref x13), .val (.ref x14), .val (.ref x15), .val (.int x16), .val (.int x17), .val (.int x18), .unset, .unset]
abbrev lc169 (x0 x1 : Int32) (x2 x3 x4 x5 : Int64) (x6 x7 x8 x9 : Int32) (x10 x11 x12 x13 x14 x15 : Addr) (x16 x17 x18 x19 : Int32) : Array Slot := #[.val (.int x0), .val (.int x1), .val (.long x2), .second, .val (.long x3), .second, .val (.long x4), .second, .val (.long x5), .second, .val (.int x6), .val (.int x7), .val (.int x8), .val (.int x9), .val (.ref x10), .val (.ref x11), .val (.ref x12), .val .null, .val (.ref x13), .val (.ref x14), .val (.ref x15), .val (.int x16), .val (.int x17), .val (.int x18), .val (.int x19), .unset]
abbrev lc170 (x0 x1 : Int32) (x2 x3 x4 x5 : Int64) (x6 x7 x8 x9 : Int32) (x10 x11 x12 x13 x14 x15 : Addr) (x16 x17 x18 x19 x20 : Int32) : Array Slot := #[.val (.int x0), .val (.int x1), .val (.long x2), .second, .val (.long x3), .second, .val (.long x4), .second, .val (.long x5), .second, .val (.int x6), .val (.int x7), .val (.int x8), .val (.int x9), .val (.ref x10), .val (.ref x11), .val (.ref x12), .val .null, .val (.ref x13), .val (.ref x14), .val (.ref x15), .val (.int x16), .val (.int x17), .val (.int x18), .val (.int x19), .val (.int x20)]
abbrev lc171 (x0 x1 : Int32) (x2 x3 x4 x5 : Int64) (x6 x7 x8 x9 : Int32) (x10 x11 x12 x13 : Addr) : Array Slot := #[.val (.int x0), .val (.int x1), .val (.long x2), .second, .val (.long x3), .second, .val (.long x4), .second, .val (.long x5), .second, .val (.int x6), .val (.int x7), .val (.int x8), .val (.int x9), .val (.ref x10), .val (.ref x11), .val (.ref x12), .val (.ref x13), .unset, .unset, .unset, .unset, .unset, .unset, .unset, .unset]
abbrev lc172 (x0 x1 : Int32) (x2 x3 x4 x5 : Int64) (x6 x7 x8 x9 : Int32) (x10 x11 x12 x13 x14 : Addr) : Array Slot := #[.val (.int x0), .val (.int x1), .val (.long x2), .second, .val (.long x3), .second, .val (.long x4), .second, .val (.long x5), .second, .val (.int x6), .val (.int x7), .val (.int x8), .val (.int x9), .val (.ref x10), .val (.ref x11), .val (.ref x12), .val (.ref x13), .val (.ref x14), .unset, .unset, .unset, .unset, .unset, .unset, .unset]
abbrev lc173 (x0 x1 : Int32) (x2 x3 x4 x5 : Int64) (x6 x7 x8 x9 : Int32) (x10 x11 x12 x13 x14 x15 : Addr) : Array Slot := #[.val (.int x0), .val (.int x1), .val (.long x2), .second, .val (.long x3), .second, .val (.long x4), .second, .val (.long x5), .second, .val (.int x6), .val (.int x7), .val (.int x8), .val (.int x9), .val (.ref x10), .val (.ref x11), .val (.ref x12), .val (.ref x13), .val (.ref x14), .val (.ref x15), .unset, .unset, .unset, .unset, .unset, .unset]
abbrev lc174 (x0 x1 : Int32) (x2 x3 x4 x5 : Int64) (x6 x7 x8 x9 : Int32) (x10 x11 x12 x13 x14 x15 x16 : Addr) : Array Slot := #[.val (.int x0), .val (.int x1), .val (.long x2), .second, .val (.long x3), .second, .val (.long x4), .second, .val (.long x5), .second, .val (.int x6), .val (.int x7), .val (.int x8), .val (.int x9), .val (.ref x10), .val (.ref x11), .val (.ref x12), .val (.ref x13), .val (.ref x14), .val (.ref x15), .val (.ref x16), .unset, .unset, .unset, .unset, .unset]
abbrev lc175 (x0 x1 : Int32) (x2 x3 x4 x5 : Int64) (x6 x7 x8 x9 : Int32) (x10 x11 x12 x13 x14 x15 x16 : Addr) (x17 : Int32) : Array Slot := #[.val (.int x0), .val (.int x1), .val (.long x2), .second, .val (.long x3), .second, .val (.long x4), .second, .val (.long x5), .second, .val (.int x6), .val (.int x7), .val (.int x8), .val (.int x9), .val (.ref x10), .val (.ref x11), .val (.ref x12), .val (.ref x13), .val (.ref x14), .val (.ref x15), .val (.ref x16), .val (.int x17), .unset, .unset, .unset, .unset]
abbrev lc176 (x0 x1 : Int32) (x2 x3 x4 x5 : Int64) (x6 x7 x8 x9 : Int32) (x10 x11 x12 x13 x14 x15 x16 : Addr) (x17 x18 : Int32) : Array Slot := #[.val (.int x0), .val (.int x1), .val (.long x2), .second, .val (.long x3), .second, .val (.long x4), .second, .val (.long x5), .second, .val (.int x6), .val (.int x7), .val (.int x8), .val (.int x9), .val (.ref x10), .val (.ref x11), .val (.ref x12), .val (.ref x13), .val (.ref x14), .val (.ref x15), .val (.ref x16), .val (.int x17), .val (.int x18), .unset, .unset, .unset]
abbrev lc177 (x0 x1 : Int32) (x2 x3 x4 x5 : Int64) (x6 x7 x8 x9 : Int32) (x10 x11 x12 x13 x14 x15 x16 : Addr) (x17 x18 x19 : Int32) : Array Slot := #[.val (.int x0), .val (.int x1), .val (.long x2), .second, .val (.long x3), .second, .val (.long x4), .second, .val (.long x5), .second, .val (.int x6), .val (.int x7), .val (.int x8), .val (.int x9), .val (.ref x10), .val (.ref x11), .val (.ref x12), .val (.ref x13), .val (.ref x14), .val (.ref x15), .val (.ref x16), .val (.int x17), .val (.int x18), .val (.int x19), .unset, .unset]
abbrev lc178 (x0 x1 : Int32) (x2 x3 x4 x5 : Int64) (x6 x7 x8 x9 : Int32) (x10 x11 x12 x13 x14 x15 x16 : Addr) (x17 x18 x19 x20 : Int32) : Array Slot := #[.val (.int x0), .val (.int x1), .val (.long x2), .second, .val (.long x3), .second, .val (.long x4), .second, .val (.long x5), .second, .val (.int x6), .val (.int x7), .val (.int x8), .val (.int x9), .val (.ref x10), .val (.ref x11), .val (.ref x12), .val (.ref x13), .val (.ref x14), .val (.ref x15), .val (.ref x16), .val (.int x17), .val (.int x18), .val (.int x19), .val (.int x20), .unset]
abbrev lc179 (x0 x1 : Int32) (x2 x3 x4 x5 : Int64) (x6 x7 x8 x9 : Int32) (x10 x11 x12 x13 x14 x15 x16 : Addr) (x17 x18 x19 x20 x21 : Int32) : Array Slot := #[.val (.int x0), .val (.int x1), .val (.long x2), .second, .val (.long x3), .second, .val (.long x4), .second, .val (.long x5), .second, .val (.int x6), .val (.int x7), .val (.int x8), .val (.int x9), .val (.ref x10), .val (.ref x11), .val (.ref x12), .val (.ref x13), .val (.ref x14), .val (.ref x15), .val (.ref x16), .val (.int x17), .val (.int x18), .val (.int x19), .val (.int x20), .val (.int x21)]
abbrev zs0 : String := "com/example/time_aware_ranking/timeawareranking/CalendarUnit"
abbrev zs1 : String := "Lcom/example/time_aware_ranking/timeawareranking/CalendarUnit;"
abbrev zs2 : String := "com/example/time_aware_ranking/timeawareranking/CalendarIntervalIsBoundedPinLaw"
abbrev zs3 : String := "(I)Lcom/example/time_aware_ranking/timeawareranking/CalendarUnit;"
abbrev zs4 : String := "com/example/time_aware_ranking/timeawareranking/CalendarInterval$Anchor"
abbrev zs5 : String := "Lcom/example/time_aware_ranking/timeawareranking/CalendarInterval$Anchor;"
abbrev zs6 : String := "(I)Lcom/example/time_aware_ranking/timeawareranking/CalendarInterval$Anchor;"
abbrev zs7 : String := "java/lang/Record"
abbrev zs8 : String := "com/example/time_aware_ranking/timeawareranking/CalendarInterval"
abbrev zs9 : String := "Ljava/lang/Long;"
abbrev zs10 : String := "(Lcom/example/time_aware_ranking/timeawareranking/CalendarUnit;Ljava/lang/Long;Ljava/lang/Long;Lcom/example/time_aware_ranking/timeawareranking/CalendarInterval$Anchor;)V"
abbrev zs11 : String := "java/lang/Long"
abbrev zs12 : String := "isBounded"
abbrev zs13 : String := "(Lcom/example/time_aware_ranking/timeawareranking/CalendarUnit;Ljava/lang/Long;Ljava/lang/Long;)V"
abbrev zs14 : String := "intersect"
abbrev zs15 : String := "(Lcom/example/time_aware_ranking/timeawareranking/CalendarInterval;)Lcom/example/time_aware_ranking/timeawareranking/CalendarInterval;"
abbrev zs16 : String := "()Lcom/example/time_aware_ranking/timeawareranking/CalendarInterval;"
abbrev zs17 : String := "java/lang/Number"
abbrev zs18 : String := "(J)Ljava/lang/Long;"
abbrev zs19 : String := "java/lang/Long$LongCache"
abbrev zs20 : String := "[Ljava/lang/Long;"
abbrev zs21 : String := "longValue"
abbrev zm0 : MethodName := (⟨zs2, "unit", zs3⟩ : MethodName)
abbrev zm1 : MethodName := (⟨zs2, "anchor", zs6⟩ : MethodName)
abbrev zm2 : MethodName := (⟨zs7, "<init>", "()V"⟩ : MethodName)
abbrev zm3 : MethodName := (⟨zs8, "<init>", zs10⟩ : MethodName)
abbrev zm4 : MethodName := (⟨zs8, zs12, "()Z"⟩ : MethodName)
abbrev zm5 : MethodName := (⟨zs8, "<init>", zs13⟩ : MethodName)
abbrev zm6 : MethodName := (⟨zs8, zs14, zs15⟩ : MethodName)
abbrev zm7 : MethodName := (⟨zs8, "since", zs16⟩ : MethodName)
abbrev zm8 : MethodName := (⟨zs8, "until", zs16⟩ : MethodName)
abbrev zm9 : MethodName := (⟨zs17, "<init>", "()V"⟩ : MethodName)
abbrev zm10 : MethodName := (⟨zs11, "<init>", "(J)V"⟩ : MethodName)
abbrev zm11 : MethodName := (⟨zs11, "valueOf", zs18⟩ : MethodName)
abbrev zm12 : MethodName := (⟨zs11, zs21, "()J"⟩ : MethodName)
def Q1_0 (Z : State) (p1 : Int32) (a5 a8 a10 a12 a14 : Addr) (h0 : Heap) (n0 : Nat) (v : Option Value) (h : Heap) (L : List Loc) : Prop := v = some (.ref (own_unit ((p1 &&& (2147483647 : Int32)) % (5 : Int32)) a5 a8 a10 a12 a14)) ∧ Fr n0 L ∧ h = h0
set_option maxRecDepth 65536 in
set_option maxHeartbeats 40000000 in
theorem rm1_0 (l : Launch) (Z : State) (a0 : Array Value) (hw : ∀ d ∈ tables_1, d.before a0 Z = true) (ws : List Jvm.Cond) (p1 : Int32) (a5 a8 a10 a12 a14 : Addr) (h0 : Heap) (n0 : Nat) (Z0 : n0 ≤ h0.size) (hc3 : ((p1 &&& (2147483647 : Int32)) % (5 : Int32)) = (0 : Int32)) (F6 : Sta Z h0 zs0 "DAY" zs1 (.ref a5)) (F9 : Sta Z h0 zs0 "MONTH" zs1 (.ref a8)) (F11 : Sta Z h0 zs0 "YEAR" zs1 (.ref a10)) (F13 : Sta Z h0 zs0 "DECADE" zs1 (.ref a12)) (F15 : Sta Z h0 zs0 "CENTURY" zs1 (.ref a14)) :
    MetFree l zm0 (head1 (Jvm.Cond.code zm0 method_2_code 2 (some (.object zs0)) :: ws) ({ frames := 0, cells := 0, slots := 0, locals := 0 } : Room)) (fun a U => a = #[(.int p1)] ∧ Z.Warmed39 U.vm ∧ U.heap = h0) (fun _ _ _ _ _ => True) (fun _ U o U' => ∃ v L, o = .returned v ∧ Q1_0 Z p1 a5 a8 a10 a12 a14 h0 n0 v U'.heap L ∧ FrameEnd U o U' L ({ frames := 0, cells := 0, slots := 0, locals := 0 } : Room).cells ({ frames := 0, cells := 0, slots := 0, locals := 0 } : Room).slots) := by
  refine MetFree.of_bodySF (plainFor_of_name pn_0) hisR ?_
  intro p e s m args below meth c s₁ Bd hml0 hP hK
  obtain ⟨rfl, hZ, hh⟩ := hP
  have hx := Bd.exec
  have hby := Bd.bytes
  have hml : c.maxLocals = 2 := hml0
  have hown : s.vm.findClass zs2 = some m.cls := findClass_of_methodNamed Bd.named
  have hnm := (name_of_methodNamed Bd.named Bd.method).1
  have X0 : Stand p l e ({ frames := 0, cells := 0, slots := 0, locals := 0 } : Room) s m #[(.int p1)] below meth c s₁ [] 0 0 := Stand.of_body Bd
  have e0 : s₁.heap = h0 := by rw [← hh, Bd.state]; rfl
  have N0 := Fr.nil n0
  refine own_pre (g' := mkF m 0 (lc9 p1) []) (ef_0 m p1) ?_
  refine own_go (U' := s₁.setTop (mkF m 7 (lc10 p1 ((p1 &&& (2147483647 : Int32)) % (5 : Int32))) [])) (fun t k => oiloadN X0 hx hby d1_0 rfl (X0.ldcInt hx hown (mvT hZ (ww hw 4 rfl)) (g := (mkF m 1 (lc9 p1) [(.int p1)])) rfl (hb hby d1_1) _ (oiand X0 hx hby d1_3 (oiconst X0 hx hby d1_4 (oirem X0 hx hby d1_5 (by decide) (oistoreN X0 hx hby d1_6 (lc10 p1 ((p1 &&& (2147483647 : Int32)) % (5 : Int32))) rfl k)))))) ?_
  obtain ⟨z2, hz2⟩ : ∃ z, z = ((p1 &&& (2147483647 : Int32)) % (5 : Int32)) := ⟨_, rfl⟩
  rw [← hz2]
  refine own_go (U' := s₁.setTop (mkF m 8 (lc10 p1 z2) [(.int z2)])) (fun t k => oiloadN X0 hx hby d1_7 rfl k) ?_
  have hs4 : z2 = (0 : Int32) := by rw [hz2]; exact hc3
  obtain ⟨T7, X7, e7, st7⟩ := getS2 X0 hx hZ hown (host := "") (Or.inl (ww hw 84 rfl)) Via.refl e0 F6 (g := (mkF m 11 (lc10 p1 z2) [])) rfl (hb hby d1_11)
  refine own_go (U' := T7.setTop (mkF m 14 (lc10 p1 z2) [(.ref a5)])) (fun t k => oifN X0 hx hby d1_8 ((if0 _ _).trans (teq hs4).2) (st7 _ k)) ?_
  obtain ⟨fs, hr, hrun, hended, hW, hsame⟩ := X7.leave (v := some (.ref a5)) (fun h => by rw [Bd.returns] at h; cases h)
  refine own_out ⟨_, _, ?_, hrun, hended, _, _, rfl, ?_, ⟨_, rfl⟩, hW, hsame.mono (by decide) (by decide)⟩
  · exact retOut X7 hx Bd.returns rfl (Or.inr (Or.inr (Or.inr (Or.inr ⟨rfl, rfl, rfl⟩)))) (hb hby d1_14) hr
  · show Q1_0 Z p1 a5 a8 a10 a12 a14 h0 n0 _ T7.heap _
    rw [e7]
    exact ⟨(by simp [own_unit, hc3]), N0, rfl⟩
def Q1_1 (Z : State) (p1 : Int32) (a7 a10 a12 a14 a16 : Addr) (h0 : Heap) (n0 : Nat) (v : Option Value) (h : Heap) (L : List Loc) : Prop := v = some (.ref (own_unit ((p1 &&& (2147483647 : Int32)) % (5 : Int32)) a10 a7 a12 a14 a16)) ∧ Fr n0 L ∧ h = h0
set_option maxRecDepth 65536 in
set_option maxHeartbeats 40000000 in
theorem rm1_1 (l : Launch) (Z : State) (a0 : Array Value) (hw : ∀ d ∈ tables_1, d.before a0 Z = true) (ws : List Jvm.Cond) (p1 : Int32) (a7 a10 a12 a14 a16 : Addr) (h0 : Heap) (n0 : Nat) (Z0 : n0 ≤ h0.size) (hc3 : ¬ (((p1 &&& (2147483647 : Int32)) % (5 : Int32)) = (0 : Int32))) (hc5 : ((p1 &&& (2147483647 : Int32)) % (5 : Int32)) = (1 : Int32)) (F8 : Sta Z h0 zs0 "MONTH" zs1 (.ref a7)) (F11 : Sta Z h0 zs0 "DAY" zs1 (.ref a10)) (F13 : Sta Z h0 zs0 "YEAR" zs1 (.ref a12)) (F15 : Sta Z h0 zs0 "DECADE" zs1 (.ref a14)) (F17 : Sta Z h0 zs0 "CENTURY" zs1 (.ref a16)) :
    MetFree l zm0 (head1 (Jvm.Cond.code zm0 method_2_code 2 (some (.object zs0)) :: ws) ({ frames := 0, cells := 0, slots := 0, locals := 0 } : Room)) (fun a U => a = #[(.int p1)] ∧ Z.Warmed39 U.vm ∧ U.heap = h0) (fun _ _ _ _ _ => True) (fun _ U o U' => ∃ v L, o = .returned v ∧ Q1_1 Z p1 a7 a10 a12 a14 a16 h0 n0 v U'.heap L ∧ FrameEnd U o U' L ({ frames := 0, cells := 0, slots := 0, locals := 0 } : Room).cells ({ frames := 0, cells := 0, slots := 0, locals := 0 } : Room).slots) := by
  refine MetFree.of_bodySF (plainFor_of_name pn_0) hisR ?_
  intro p e s m args below meth c s₁ Bd hml0 hP hK
  obtain ⟨rfl, hZ, hh⟩ := hP
  have hx := Bd.exec
  have hby := Bd.bytes
  have hml : c.maxLocals = 2 := hml0
  have hown : s.vm.findClass zs2 = some m.cls := findClass_of_methodNamed Bd.named
  have hnm := (name_of_methodNamed Bd.named Bd.method).1
  have X0 : Stand p l e ({ frames := 0, cells := 0, slots := 0, locals := 0 } : Room) s m #[(.int p1)] below meth c s₁ [] 0 0 := Stand.of_body Bd
  have e0 : s₁.heap = h0 := by rw [← hh, Bd.state]; rfl
  have N0 := Fr.nil n0
  refine own_pre (g' := mkF m 0 (lc9 p1) []) (ef_0 m p1) ?_
  refine own_go (U' := s₁.setTop (mkF m 7 (lc10 p1 ((p1 &&& (2147483647 : Int32)) % (5 : Int32))) [])) (fun t k => oiloadN X0 hx hby d1_0 rfl (X0.ldcInt hx hown (mvT hZ (ww hw 4 rfl)) (g := (mkF m 1 (lc9 p1) [(.int p1)])) rfl (hb hby d1_1) _ (oiand X0 hx hby d1_3 (oiconst X0 hx hby d1_4 (oirem X0 hx hby d1_5 (by decide) (oistoreN X0 hx hby d1_6 (lc10 p1 ((p1 &&& (2147483647 : Int32)) % (5 : Int32))) rfl k)))))) ?_
  obtain ⟨z2, hz2⟩ : ∃ z, z = ((p1 &&& (2147483647 : Int32)) % (5 : Int32)) := ⟨_, rfl⟩
  rw [← hz2]
  refine own_go (U' := s₁.setTop (mkF m 8 (lc10 p1 z2) [(.int z2)])) (fun t k => oiloadN X0 hx hby d1_7 rfl k) ?_
  have hs4 : ¬ (z2 = (0 : Int32)) := by rw [hz2]; exact hc3
  refine own_go (U' := s₁.setTop (mkF m 17 (lc10 p1 z2) [(.int 1), (.int z2)])) (fun t k => oifY (pc := 8) X0 hx hby d1_8 15 ((if0 _ _).trans (feq hs4).2) (by decide) (oiloadN X0 hx hby d1_15 rfl (oiconst X0 hx hby d1_16 k))) ?_
  have hs6 : z2 = (1 : Int32) := by rw [hz2]; exact hc5
  obtain ⟨T9, X9, e9, st9⟩ := getS2 X0 hx hZ hown (host := "") (Or.inl (ww hw 100 rfl)) Via.refl e0 F8 (g := (mkF m 20 (lc10 p1 z2) [])) rfl (hb hby d1_20)
  refine own_go (U' := T9.setTop (mkF m 23 (lc10 p1 z2) [(.ref a7)])) (fun t k => oicN X0 hx hby d1_17 (teq hs6).2 (st9 _ k)) ?_
  obtain ⟨fs, hr, hrun, hended, hW, hsame⟩ := X9.leave (v := some (.ref a7)) (fun h => by rw [Bd.returns] at h; cases h)
  refine own_out ⟨_, _, ?_, hrun, hended, _, _, rfl, ?_, ⟨_, rfl⟩, hW, hsame.mono (by decide) (by decide)⟩
  · exact retOut X9 hx Bd.returns rfl (Or.inr (Or.inr (Or.inr (Or.inr ⟨rfl, rfl, rfl⟩)))) (hb hby d1_23) hr
  · show Q1_1 Z p1 a7 a10 a12 a14 a16 h0 n0 _ T9.heap _
    rw [e9]
    exact ⟨(by simp [own_unit, hc3, hc5]), N0, rfl⟩
def Q1_2 (Z : State) (p1 : Int32) (a9 a12 a14 a16 a18 : Addr) (h0 : Heap) (n0 : Nat) (v : Option Value) (h : Heap) (L : List Loc) : Prop := v = some (.ref (own_unit ((p1 &&& (2147483647 : Int32)) % (5 : Int32)) a12 a14 a9 a16 a18)) ∧ Fr n0 L ∧ h = h0
set_option maxRecDepth 65536 in
set_option maxHeartbeats 40000000 in
theorem rm1_2 (l : Launch) (Z : State) (a0 : Array Value) (hw : ∀ d ∈ tables_1, d.before a0 Z = true) (ws : List Jvm.Cond) (p1 : Int32) (a9 a12 a14 a16 a18 : Addr) (h0 : Heap) (n0 : Nat) (Z0 : n0 ≤ h0.size) (hc3 : ¬ (((p1 &&& (2147483647 : Int32)) % (5 : Int32)) = (0 : Int32))) (hc5 : ¬ (((p1 &&& (2147483647 : Int32)) % (5 : Int32)) = (1 : Int32))) (hc7 : ((p1 &&& (2147483647 : Int32)) % (5 : Int32)) = (2 : Int32)) (F10 : Sta Z h0 zs0 "YEAR" zs1 (.ref a9)) (F13 : Sta Z h0 zs0 "DAY" zs1 (.ref a12)) (F15 : Sta Z h0 zs0 "MONTH" zs1 (.ref a14)) (F17 : Sta Z h0 zs0 "DECADE" zs1 (.ref a16)) (F19 : Sta Z h0 zs0 "CENTURY" zs1 (.ref a18)) :
    MetFree l zm0 (head1 (Jvm.Cond.code zm0 method_2_code 2 (some (.object zs0)) :: ws) ({ frames := 0, cells := 0, slots := 0, locals := 0 } : Room)) (fun a U => a = #[(.int p1)] ∧ Z.Warmed39 U.vm ∧ U.heap = h0) (fun _ _ _ _ _ => True) (fun _ U o U' => ∃ v L, o = .returned v ∧ Q1_2 Z p1 a9 a12 a14 a16 a18 h0 n0 v U'.heap L ∧ FrameEnd U o U' L ({ frames := 0, cells := 0, slots := 0, locals := 0 } : Room).cells ({ frames := 0, cells := 0, slots := 0, locals := 0 } : Room).slots) := by
  refine MetFree.of_bodySF (plainFor_of_name pn_0) hisR ?_
  intro p e s m args below meth c s₁ Bd hml0 hP hK
  obtain ⟨rfl, hZ, hh⟩ := hP
  have hx := Bd.exec
  have hby := Bd.bytes
  have hml : c.maxLocals = 2 := hml0
  have hown : s.vm.findClass zs2 = some m.cls := findClass_of_methodNamed Bd.named
  have hnm := (name_of_methodNamed Bd.named Bd.method).1
  have X0 : Stand p l e ({ frames := 0, cells := 0, slots := 0, locals := 0 } : Room) s m #[(.int p1)] below meth c s₁ [] 0 0 := Stand.of_body Bd
  have e0 : s₁.heap = h0 := by rw [← hh, Bd.state]; rfl
  have N0 := Fr.nil n0
  refine own_pre (g' := mkF m 0 (lc9 p1) []) (ef_0 m p1) ?_
  refine own_go (U' := s₁.setTop (mkF m 7 (lc10 p1 ((p1 &&& (2147483647 : Int32)) % (5 : Int32))) [])) (fun t k => oiloadN X0 hx hby d1_0 rfl (X0.ldcInt hx hown (mvT hZ (ww hw 4 rfl)) (g := (mkF m 1 (lc9 p1) [(.int p1)])) rfl (hb hby d1_1) _ (oiand X0 hx hby d1_3 (oiconst X0 hx hby d1_4 (oirem X0 hx hby d1_5 (by decide) (oistoreN X0 hx hby d1_6 (lc10 p1 ((p1 &&& (2147483647 : Int32)) % (5 : Int32))) rfl k)))))) ?_
  obtain ⟨z2, hz2⟩ : ∃ z, z = ((p1 &&& (2147483647 : Int32)) % (5 : Int32)) := ⟨_, rfl⟩
  rw [← hz2]
  refine own_go (U' := s₁.setTop (mkF m 8 (lc10 p1 z2) [(.int z2)])) (fun t k => oiloadN X0 hx hby d1_7 rfl k) ?_
  have hs4 : ¬ (z2 = (0 : Int32)) := by rw [hz2]; exact hc3
  refine own_go (U' := s₁.setTop (mkF m 17 (lc10 p1 z2) [(.int 1), (.int z2)])) (fun t k => oifY (pc := 8) X0 hx hby d1_8 15 ((if0 _ _).trans (feq hs4).2) (by decide) (oiloadN X0 hx hby d1_15 rfl (oiconst X0 hx hby d1_16 k))) ?_
  have hs6 : ¬ (z2 = (1 : Int32)) := by rw [hz2]; exact hc5
  refine own_go (U' := s₁.setTop (mkF m 26 (lc10 p1 z2) [(.int 2), (.int z2)])) (fun t k => oicY (pc := 17) X0 hx hby d1_17 24 (feq hs6).2 (by decide) (oiloadN X0 hx hby d1_24 rfl (oiconst X0 hx hby d1_25 k))) ?_
  have hs8 : z2 = (2 : Int32) := by rw [hz2]; exact hc7
  obtain ⟨T11, X11, e11, st11⟩ := getS2 X0 hx hZ hown (host := "") (Or.inl (ww hw 96 rfl)) Via.refl e0 F10 (g := (mkF m 29 (lc10 p1 z2) [])) rfl (hb hby d1_29)
  refine own_go (U' := T11.setTop (mkF m 32 (lc10 p1 z2) [(.ref a9)])) (fun t k => oicN X0 hx hby d1_26 (teq hs8).2 (st11 _ k)) ?_
  obtain ⟨fs, hr, hrun, hended, hW, hsame⟩ := X11.leave (v := some (.ref a9)) (fun h => by rw [Bd.returns] at h; cases h)
  refine own_out ⟨_, _, ?_, hrun, hended, _, _, rfl, ?_, ⟨_, rfl⟩, hW, hsame.mono (by decide) (by decide)⟩
  · exact retOut X11 hx Bd.returns rfl (Or.inr (Or.inr (Or.inr (Or.inr ⟨rfl, rfl, rfl⟩)))) (hb hby d1_32) hr
  · show Q1_2 Z p1 a9 a12 a14 a16 a18 h0 n0 _ T11.heap _
    rw [e11]
    exact ⟨(by simp [own_unit, hc3, hc5, hc7]), N0, rfl⟩
def Q1_3 (Z : State) (p1 : Int32) (a11 a14 a16 a18 a20 : Addr) (h0 : Heap) (n0 : Nat) (v : Option Value) (h : Heap) (L : List Loc) : Prop := v = some (.ref (own_unit ((p1 &&& (2147483647 : Int32)) % (5 : Int32)) a14 a16 a18 a11 a20)) ∧ Fr n0 L ∧ h = h0
set_option maxRecDepth 65536 in
set_option maxHeartbeats 40000000 in
theorem rm1_3 (l : Launch) (Z : State) (a0 : Array Value) (hw : ∀ d ∈ tables_1, d.before a0 Z = true) (ws : List Jvm.Cond) (p1 : Int32) (a11 a14 a16 a18 a20 : Addr) (h0 : Heap) (n0 : Nat) (Z0 : n0 ≤ h0.size) (hc3 : ¬ (((p1 &&& (2147483647 : Int32)) % (5 : Int32)) = (0 : Int32))) (hc5 : ¬ (((p1 &&& (2147483647 : Int32)) % (5 : Int32)) = (1 : Int32))) (hc7 : ¬ (((p1 &&& (2147483647 : Int32)) % (5 : Int32)) = (2 : Int32))) (hc9 : ((p1 &&& (2147483647 : Int32)) % (5 : Int32)) = (3 : Int32)) (F12 : Sta Z h0 zs0 "DECADE" zs1 (.ref a11)) (F15 : Sta Z h0 zs0 "DAY" zs1 (.ref a14)) (F17 : Sta Z h0 zs0 "MONTH" zs1 (.ref a16)) (F19 : Sta Z h0 zs0 "YEAR" zs1 (.ref a18)) (F21 : Sta Z h0 zs0 "CENTURY" zs1 (.ref a20)) :
    MetFree l zm0 (head1 (Jvm.Cond.code zm0 method_2_code 2 (some (.object zs0)) :: ws) ({ frames := 0, cells := 0, slots := 0, locals := 0 } : Room)) (fun a U => a = #[(.int p1)] ∧ Z.Warmed39 U.vm ∧ U.heap = h0) (fun _ _ _ _ _ => True) (fun _ U o U' => ∃ v L, o = .returned v ∧ Q1_3 Z p1 a11 a14 a16 a18 a20 h0 n0 v U'.heap L ∧ FrameEnd U o U' L ({ frames := 0, cells := 0, slots := 0, locals := 0 } : Room).cells ({ frames := 0, cells := 0, slots := 0, locals := 0 } : Room).slots) := by
  refine MetFree.of_bodySF (plainFor_of_name pn_0) hisR ?_
  intro p e s m args below meth c s₁ Bd hml0 hP hK
  obtain ⟨rfl, hZ, hh⟩ := hP
  have hx := Bd.exec
  have hby := Bd.bytes
  have hml : c.maxLocals = 2 := hml0
  have hown : s.vm.findClass zs2 = some m.cls := findClass_of_methodNamed Bd.named
  have hnm := (name_of_methodNamed Bd.named Bd.method).1
  have X0 : Stand p l e ({ frames := 0, cells := 0, slots := 0, locals := 0 } : Room) s m #[(.int p1)] below meth c s₁ [] 0 0 := Stand.of_body Bd
  have e0 : s₁.heap = h0 := by rw [← hh, Bd.state]; rfl
  have N0 := Fr.nil n0
  refine own_pre (g' := mkF m 0 (lc9 p1) []) (ef_0 m p1) ?_
  refine own_go (U' := s₁.setTop (mkF m 7 (lc10 p1 ((p1 &&& (2147483647 : Int32)) % (5 : Int32))) [])) (fun t k => oiloadN X0 hx hby d1_0 rfl (X0.ldcInt hx hown (mvT hZ (ww hw 4 rfl)) (g := (mkF m 1 (lc9 p1) [(.int p1)])) rfl (hb hby d1_1) _ (oiand X0 hx hby d1_3 (oiconst X0 hx hby d1_4 (oirem X0 hx hby d1_5 (by decide) (oistoreN X0 hx hby d1_6 (lc10 p1 ((p1 &&& (2147483647 : Int32)) % (5 : Int32))) rfl k)))))) ?_
  obtain ⟨z2, hz2⟩ : ∃ z, z = ((p1 &&& (2147483647 : Int32)) % (5 : Int32)) := ⟨_, rfl⟩
  rw [← hz2]
  refine own_go (U' := s₁.setTop (mkF m 8 (lc10 p1 z2) [(.int z2)])) (fun t k => oiloadN X0 hx hby d1_7 rfl k) ?_
  have hs4 : ¬ (z2 = (0 : Int32)) := by rw [hz2]; exact hc3
  refine own_go (U' := s₁.setTop (mkF m 17 (lc10 p1 z2) [(.int 1), (.int z2)])) (fun t k => oifY (pc := 8) X0 hx hby d1_8 15 ((if0 _ _).trans (feq hs4).2) (by decide) (oiloadN X0 hx hby d1_15 rfl (oiconst X0 hx hby d1_16 k))) ?_
  have hs6 : ¬ (z2 = (1 : Int32)) := by rw [hz2]; exact hc5
  refine own_go (U' := s₁.setTop (mkF m 26 (lc10 p1 z2) [(.int 2), (.int z2)])) (fun t k => oicY (pc := 17) X0 hx hby d1_17 24 (feq hs6).2 (by decide) (oiloadN X0 hx hby d1_24 rfl (oiconst X0 hx hby d1_25 k))) ?_
  have hs8 : ¬ (z2 = (2 : Int32)) := by rw [hz2]; exact hc7
  refine own_go (U' := s₁.setTop (mkF m 35 (lc10 p1 z2) [(.int 3), (.int z2)])) (fun t k => oicY (pc := 26) X0 hx hby d1_26 33 (feq hs8).2 (by decide) (oiloadN X0 hx hby d1_33 rfl (oiconst X0 hx hby d1_34 k))) ?_
  have hs10 : z2 = (3 : Int32) := by rw [hz2]; exact hc9
  obtain ⟨T13, X13, e13, st13⟩ := getS2 X0 hx hZ hown (host := "") (Or.inl (ww hw 5 rfl)) Via.refl e0 F12 (g := (mkF m 38 (lc10 p1 z2) [])) rfl (hb hby d1_38)
  refine own_go (U' := T13.setTop (mkF m 41 (lc10 p1 z2) [(.ref a11)])) (fun t k => oicN X0 hx hby d1_35 (teq hs10).2 (st13 _ k)) ?_
  obtain ⟨fs, hr, hrun, hended, hW, hsame⟩ := X13.leave (v := some (.ref a11)) (fun h => by rw [Bd.returns] at h; cases h)
  refine own_out ⟨_, _, ?_, hrun, hended, _, _, rfl, ?_, ⟨_, rfl⟩, hW, hsame.mono (by decide) (by decide)⟩
  · exact retOut X13 hx Bd.returns rfl (Or.inr (Or.inr (Or.inr (Or.inr ⟨rfl, rfl, rfl⟩)))) (hb hby d1_41) hr
  · show Q1_3 Z p1 a11 a14 a16 a18 a20 h0 n0 _ T13.heap _
    rw [e13]
    exact ⟨(by simp [own_unit, hc3, hc5, hc7, hc9]), N0, rfl⟩
def Q1_4 (Z : State) (p1 : Int32) (a11 a14 a16 a18 a20 : Addr) (h0 : Heap) (n0 : Nat) (v : Option Value) (h : Heap) (L : List Loc) : Prop := v = some (.ref (own_unit ((p1 &&& (2147483647 : Int32)) % (5 : Int32)) a14 a16 a18 a20 a11)) ∧ Fr n0 L ∧ h = h0
set_option maxRecDepth 65536 in
set_option maxHeartbeats 40000000 in
theorem rm1_4 (l : Launch) (Z : State) (a0 : Array Value) (hw : ∀ d ∈ tables_1, d.before a0 Z = true) (ws : List Jvm.Cond) (p1 : Int32) (a11 a14 a16 a18 a20 : Addr) (h0 : Heap) (n0 : Nat) (Z0 : n0 ≤ h0.size) (hc3 : ¬ (((p1 &&& (2147483647 : Int32)) % (5 : Int32)) = (0 : Int32))) (hc5 : ¬ (((p1 &&& (2147483647 : Int32)) % (5 : Int32)) = (1 : Int32))) (hc7 : ¬ (((p1 &&& (2147483647 : Int32)) % (5 : Int32)) = (2 : Int32))) (hc9 : ¬ (((p1 &&& (2147483647 : Int32)) % (5 : Int32)) = (3 : Int32))) (F12 : Sta Z h0 zs0 "CENTURY" zs1 (.ref a11)) (F15 : Sta Z h0 zs0 "DAY" zs1 (.ref a14)) (F17 : Sta Z h0 zs0 "MONTH" zs1 (.ref a16)) (F19 : Sta Z h0 zs0 "YEAR" zs1 (.ref a18)) (F21 : Sta Z h0 zs0 "DECADE" zs1 (.ref a20)) :
    MetFree l zm0 (head1 (Jvm.Cond.code zm0 method_2_code 2 (some (.object zs0)) :: ws) ({ frames := 0, cells := 0, slots := 0, locals := 0 } : Room)) (fun a U => a = #[(.int p1)] ∧ Z.Warmed39 U.vm ∧ U.heap = h0) (fun _ _ _ _ _ => True) (fun _ U o U' => ∃ v L, o = .returned v ∧ Q1_4 Z p1 a11 a14 a16 a18 a20 h0 n0 v U'.heap L ∧ FrameEnd U o U' L ({ frames := 0, cells := 0, slots := 0, locals := 0 } : Room).cells ({ frames := 0, cells := 0, slots := 0, locals := 0 } : Room).slots) := by
  refine MetFree.of_bodySF (plainFor_of_name pn_0) hisR ?_
  intro p e s m args below meth c s₁ Bd hml0 hP hK
  obtain ⟨rfl, hZ, hh⟩ := hP
  have hx := Bd.exec
  have hby := Bd.bytes
  have hml : c.maxLocals = 2 := hml0
  have hown : s.vm.findClass zs2 = some m.cls := findClass_of_methodNamed Bd.named
  have hnm := (name_of_methodNamed Bd.named Bd.method).1
  have X0 : Stand p l e ({ frames := 0, cells := 0, slots := 0, locals := 0 } : Room) s m #[(.int p1)] below meth c s₁ [] 0 0 := Stand.of_body Bd
  have e0 : s₁.heap = h0 := by rw [← hh, Bd.state]; rfl
  have N0 := Fr.nil n0
  refine own_pre (g' := mkF m 0 (lc9 p1) []) (ef_0 m p1) ?_
  refine own_go (U' := s₁.setTop (mkF m 7 (lc10 p1 ((p1 &&& (2147483647 : Int32)) % (5 : Int32))) [])) (fun t k => oiloadN X0 hx hby d1_0 rfl (X0.ldcInt hx hown (mvT hZ (ww hw 4 rfl)) (g := (mkF m 1 (lc9 p1) [(.int p1)])) rfl (hb hby d1_1) _ (oiand X0 hx hby d1_3 (oiconst X0 hx hby d1_4 (oirem X0 hx hby d1_5 (by decide) (oistoreN X0 hx hby d1_6 (lc10 p1 ((p1 &&& (2147483647 : Int32)) % (5 : Int32))) rfl k)))))) ?_
  obtain ⟨z2, hz2⟩ : ∃ z, z = ((p1 &&& (2147483647 : Int32)) % (5 : Int32)) := ⟨_, rfl⟩
  rw [← hz2]
  refine own_go (U' := s₁.setTop (mkF m 8 (lc10 p1 z2) [(.int z2)])) (fun t k => oiloadN X0 hx hby d1_7 rfl k) ?_
  have hs4 : ¬ (z2 = (0 : Int32)) := by rw [hz2]; exact hc3
  refine own_go (U' := s₁.setTop (mkF m 17 (lc10 p1 z2) [(.int 1), (.int z2)])) (fun t k => oifY (pc := 8) X0 hx hby d1_8 15 ((if0 _ _).trans (feq hs4).2) (by decide) (oiloadN X0 hx hby d1_15 rfl (oiconst X0 hx hby d1_16 k))) ?_
  have hs6 : ¬ (z2 = (1 : Int32)) := by rw [hz2]; exact hc5
  refine own_go (U' := s₁.setTop (mkF m 26 (lc10 p1 z2) [(.int 2), (.int z2)])) (fun t k => oicY (pc := 17) X0 hx hby d1_17 24 (feq hs6).2 (by decide) (oiloadN X0 hx hby d1_24 rfl (oiconst X0 hx hby d1_25 k))) ?_
  have hs8 : ¬ (z2 = (2 : Int32)) := by rw [hz2]; exact hc7
  refine own_go (U' := s₁.setTop (mkF m 35 (lc10 p1 z2) [(.int 3), (.int z2)])) (fun t k => oicY (pc := 26) X0 hx hby d1_26 33 (feq hs8).2 (by decide) (oiloadN X0 hx hby d1_33 rfl (oiconst X0 hx hby d1_34 k))) ?_
  have hs10 : ¬ (z2 = (3 : Int32)) := by rw [hz2]; exact hc9
  obtain ⟨T13, X13, e13, st13⟩ := getS2 X0 hx hZ hown (host := "") (Or.inl (ww hw 94 rfl)) Via.refl e0 F12 (g := (mkF m 42 (lc10 p1 z2) [])) rfl (hb hby d1_42)
  refine own_go (U' := T13.setTop (mkF m 45 (lc10 p1 z2) [(.ref a11)])) (fun t k => oicY (pc := 35) X0 hx hby d1_35 42 (feq hs10).2 (by decide) (st13 _ k)) ?_
  obtain ⟨fs, hr, hrun, hended, hW, hsame⟩ := X13.leave (v := some (.ref a11)) (fun h => by rw [Bd.returns] at h; cases h)
  refine own_out ⟨_, _, ?_, hrun, hended, _, _, rfl, ?_, ⟨_, rfl⟩, hW, hsame.mono (by decide) (by decide)⟩
  · exact retOut X13 hx Bd.returns rfl (Or.inr (Or.inr (Or.inr (Or.inr ⟨rfl, rfl, rfl⟩)))) (hb hby d1_45) hr
  · show Q1_4 Z p1 a11 a14 a16 a18 a20 h0 n0 _ T13.heap _
    rw [e13]
    exact ⟨(by simp [own_unit, hc3, hc5, hc7, hc9]), N0, rfl⟩
def Qmg1_5 (Z : State) (p1 : Int32) (a2 a4 a6 a8 a10 : Addr) (h0 : Heap) (n0 : Nat) (v : Option Value) (h : Heap) (L : List Loc) : Prop := v = some (.ref (own_unit ((p1 &&& (2147483647 : Int32)) % (5 : Int32)) a2 a4 a6 a8 a10)) ∧ Fr n0 L ∧ h = h0
theorem mg1_5 (l : Launch) (Z : State) (a0 : Array Value) (hw : ∀ d ∈ tables_1, d.before a0 Z = true) (ws : List Jvm.Cond) (p1 : Int32) (a2 a4 a6 a8 a10 : Addr) (h0 : Heap) (n0 : Nat) (Z0 : n0 ≤ h0.size) (F3 : Sta Z h0 zs0 "DAY" zs1 (.ref a2)) (F5 : Sta Z h0 zs0 "MONTH" zs1 (.ref a4)) (F7 : Sta Z h0 zs0 "YEAR" zs1 (.ref a6)) (F9 : Sta Z h0 zs0 "DECADE" zs1 (.ref a8)) (F11 : Sta Z h0 zs0 "CENTURY" zs1 (.ref a10)) :
    MetFree l zm0 (head1 (Jvm.Cond.code zm0 method_2_code 2 (some (.object zs0)) :: ws) ({ frames := 0, cells := 0, slots := 0, locals := 0 } : Room)) (fun a U => a = #[(.int p1)] ∧ Z.Warmed39 U.vm ∧ U.heap = h0) (fun _ _ _ _ _ => True) (fun _ U o U' => ∃ v L, o = .returned v ∧ Qmg1_5 Z p1 a2 a4 a6 a8 a10 h0 n0 v U'.heap L ∧ FrameEnd U o U' L ({ frames := 0, cells := 0, slots := 0, locals := 0 } : Room).cells ({ frames := 0, cells := 0, slots := 0, locals := 0 } : Room).slots) := by
  by_cases hm1 : ((p1 &&& (2147483647 : Int32)) % (5 : Int32)) = (0 : Int32)
  · exact rm1_0 l Z a0 hw ws p1 a2 a4 a6 a8 a10 h0 n0 Z0 hm1 F3 F5 F7 F9 F11
  · by_cases hm2 : ((p1 &&& (2147483647 : Int32)) % (5 : Int32)) = (1 : Int32)
    · exact rm1_1 l Z a0 hw ws p1 a4 a2 a6 a8 a10 h0 n0 Z0 hm1 hm2 F5 F3 F7 F9 F11
    · by_cases hm3 : ((p1 &&& (2147483647 : Int32)) % (5 : Int32)) = (2 : Int32)
      · exact rm1_2 l Z a0 hw ws p1 a6 a2 a4 a8 a10 h0 n0 Z0 hm1 hm2 hm3 F7 F3 F5 F9 F11
      · by_cases hm4 : ((p1 &&& (2147483647 : Int32)) % (5 : Int32)) = (3 : Int32)
        · exact rm1_3 l Z a0 hw ws p1 a8 a2 a4 a6 a10 h0 n0 Z0 hm1 hm2 hm3 hm4 F9 F3 F5 F7 F11
        · exact rm1_4 l Z a0 hw ws p1 a10 a2 a4 a6 a8 h0 n0 Z0 hm1 hm2 hm3 hm4 F11 F3 F5 F7 F9
def Q2_6 (Z : State) (p1 : Int32) (a5 a8 a10 : Addr) (h0 : Heap) (n0 : Nat) (v : Option Value) (h : Heap) (L : List Loc) : Prop := v = some (.ref (own_anch (p1 &&& (3 : Int32)) a5 a8 a10)) ∧ Fr n0 L ∧ h = h0
set_option maxRecDepth 65536 in
set_option maxHeartbeats 40000000 in
theorem rm2_6 (l : Launch) (Z : State) (a0 : Array Value) (hw : ∀ d ∈ tables_1, d.before a0 Z = true) (ws : List Jvm.Cond) (p1 : Int32) (a5 a8 a10 : Addr) (h0 : Heap) (n0 : Nat) (Z0 : n0 ≤ h0.size) (hc3 : (p1 &&& (3 : Int32)) = (0 : Int32)) (F6 : Sta Z h0 zs4 "FIRST" zs5 (.ref a5)) (F9 : Sta Z h0 zs4 "MIDDLE" zs5 (.ref a8)) (F11 : Sta Z h0 zs4 "LAST" zs5 (.ref a10)) :
    MetFree l zm1 (head1 (Jvm.Cond.code zm1 method_3_code 2 (some (.object zs4)) :: ws) ({ frames := 0, cells := 0, slots := 0, locals := 0 } : Room)) (fun a U => a = #[(.int p1)] ∧ Z.Warmed39 U.vm ∧ U.heap = h0) (fun _ _ _ _ _ => True) (fun _ U o U' => ∃ v L, o = .returned v ∧ Q2_6 Z p1 a5 a8 a10 h0 n0 v U'.heap L ∧ FrameEnd U o U' L ({ frames := 0, cells := 0, slots := 0, locals := 0 } : Room).cells ({ frames := 0, cells := 0, slots := 0, locals := 0 } : Room).slots) := by
  refine MetFree.of_bodySF (plainFor_of_name pn_0) hisR ?_
  intro p e s m args below meth c s₁ Bd hml0 hP hK
  obtain ⟨rfl, hZ, hh⟩ := hP
  have hx := Bd.exec
  have hby := Bd.bytes
  have hml : c.maxLocals = 2 := hml0
  have hown : s.vm.findClass zs2 = some m.cls := findClass_of_methodNamed Bd.named
  have hnm := (name_of_methodNamed Bd.named Bd.method).1
  have X0 : Stand p l e ({ frames := 0, cells := 0, slots := 0, locals := 0 } : Room) s m #[(.int p1)] below meth c s₁ [] 0 0 := Stand.of_body Bd
  have e0 : s₁.heap = h0 := by rw [← hh, Bd.state]; rfl
  have N0 := Fr.nil n0
  refine own_pre (g' := mkF m 0 (lc9 p1) []) (ef_0 m p1) ?_
  refine own_go (U' := s₁.setTop (mkF m 4 (lc10 p1 (p1 &&& (3 : Int32))) [])) (fun t k => oiloadN X0 hx hby d2_0 rfl (oiconst X0 hx hby d2_1 (oiand X0 hx hby d2_2 (oistoreN X0 hx hby d2_3 (lc10 p1 (p1 &&& (3 : Int32))) rfl k)))) ?_
  obtain ⟨z2, hz2⟩ : ∃ z, z = (p1 &&& (3 : Int32)) := ⟨_, rfl⟩
  rw [← hz2]
  refine own_go (U' := s₁.setTop (mkF m 5 (lc10 p1 z2) [(.int z2)])) (fun t k => oiloadN X0 hx hby d2_4 rfl k) ?_
  have hs4 : z2 = (0 : Int32) := by rw [hz2]; exact hc3
  obtain ⟨T7, X7, e7, st7⟩ := getS2 X0 hx hZ hown (host := "") (Or.inl (ww hw 14 rfl)) Via.refl e0 F6 (g := (mkF m 8 (lc10 p1 z2) [])) rfl (hb hby d2_8)
  refine own_go (U' := T7.setTop (mkF m 11 (lc10 p1 z2) [(.ref a5)])) (fun t k => oifN X0 hx hby d2_5 ((if0 _ _).trans (teq hs4).2) (st7 _ k)) ?_
  obtain ⟨fs, hr, hrun, hended, hW, hsame⟩ := X7.leave (v := some (.ref a5)) (fun h => by rw [Bd.returns] at h; cases h)
  refine own_out ⟨_, _, ?_, hrun, hended, _, _, rfl, ?_, ⟨_, rfl⟩, hW, hsame.mono (by decide) (by decide)⟩
  · exact retOut X7 hx Bd.returns rfl (Or.inr (Or.inr (Or.inr (Or.inr ⟨rfl, rfl, rfl⟩)))) (hb hby d2_11) hr
  · show Q2_6 Z p1 a5 a8 a10 h0 n0 _ T7.heap _
    rw [e7]
    exact ⟨(by simp [own_anch, hc3]), N0, rfl⟩
def Q2_7 (Z : State) (p1 : Int32) (a7 a10 a12 : Addr) (h0 : Heap) (n0 : Nat) (v : Option Value) (h : Heap) (L : List Loc) : Prop := v = some (.ref (own_anch (p1 &&& (3 : Int32)) a10 a7 a12)) ∧ Fr n0 L ∧ h = h0
set_option maxRecDepth 65536 in
set_option maxHeartbeats 40000000 in
theorem rm2_7 (l : Launch) (Z : State) (a0 : Array Value) (hw : ∀ d ∈ tables_1, d.before a0 Z = true) (ws : List Jvm.Cond) (p1 : Int32) (a7 a10 a12 : Addr) (h0 : Heap) (n0 : Nat) (Z0 : n0 ≤ h0.size) (hc3 : ¬ ((p1 &&& (3 : Int32)) = (0 : Int32))) (hc5 : (p1 &&& (3 : Int32)) = (1 : Int32)) (F8 : Sta Z h0 zs4 "MIDDLE" zs5 (.ref a7)) (F11 : Sta Z h0 zs4 "FIRST" zs5 (.ref a10)) (F13 : Sta Z h0 zs4 "LAST" zs5 (.ref a12)) :
    MetFree l zm1 (head1 (Jvm.Cond.code zm1 method_3_code 2 (some (.object zs4)) :: ws) ({ frames := 0, cells := 0, slots := 0, locals := 0 } : Room)) (fun a U => a = #[(.int p1)] ∧ Z.Warmed39 U.vm ∧ U.heap = h0) (fun _ _ _ _ _ => True) (fun _ U o U' => ∃ v L, o = .returned v ∧ Q2_7 Z p1 a7 a10 a12 h0 n0 v U'.heap L ∧ FrameEnd U o U' L ({ frames := 0, cells := 0, slots := 0, locals := 0 } : Room).cells ({ frames := 0, cells := 0, slots := 0, locals := 0 } : Room).slots) := by
  refine MetFree.of_bodySF (plainFor_of_name pn_0) hisR ?_
  intro p e s m args below meth c s₁ Bd hml0 hP hK
  obtain ⟨rfl, hZ, hh⟩ := hP
  have hx := Bd.exec
  have hby := Bd.bytes
  have hml : c.maxLocals = 2 := hml0
  have hown : s.vm.findClass zs2 = some m.cls := findClass_of_methodNamed Bd.named
  have hnm := (name_of_methodNamed Bd.named Bd.method).1
  have X0 : Stand p l e ({ frames := 0, cells := 0, slots := 0, locals := 0 } : Room) s m #[(.int p1)] below meth c s₁ [] 0 0 := Stand.of_body Bd
  have e0 : s₁.heap = h0 := by rw [← hh, Bd.state]; rfl
  have N0 := Fr.nil n0
  refine own_pre (g' := mkF m 0 (lc9 p1) []) (ef_0 m p1) ?_
  refine own_go (U' := s₁.setTop (mkF m 4 (lc10 p1 (p1 &&& (3 : Int32))) [])) (fun t k => oiloadN X0 hx hby d2_0 rfl (oiconst X0 hx hby d2_1 (oiand X0 hx hby d2_2 (oistoreN X0 hx hby d2_3 (lc10 p1 (p1 &&& (3 : Int32))) rfl k)))) ?_
  obtain ⟨z2, hz2⟩ : ∃ z, z = (p1 &&& (3 : Int32)) := ⟨_, rfl⟩
  rw [← hz2]
  refine own_go (U' := s₁.setTop (mkF m 5 (lc10 p1 z2) [(.int z2)])) (fun t k => oiloadN X0 hx hby d2_4 rfl k) ?_
  have hs4 : ¬ (z2 = (0 : Int32)) := by rw [hz2]; exact hc3
  refine own_go (U' := s₁.setTop (mkF m 14 (lc10 p1 z2) [(.int 1), (.int z2)])) (fun t k => oifY (pc := 5) X0 hx hby d2_5 12 ((if0 _ _).trans (feq hs4).2) (by decide) (oiloadN X0 hx hby d2_12 rfl (oiconst X0 hx hby d2_13 k))) ?_
  have hs6 : z2 = (1 : Int32) := by rw [hz2]; exact hc5
  obtain ⟨T9, X9, e9, st9⟩ := getS2 X0 hx hZ hown (host := "") (Or.inl (ww hw 88 rfl)) Via.refl e0 F8 (g := (mkF m 17 (lc10 p1 z2) [])) rfl (hb hby d2_17)
  refine own_go (U' := T9.setTop (mkF m 20 (lc10 p1 z2) [(.ref a7)])) (fun t k => oicN X0 hx hby d2_14 (teq hs6).2 (st9 _ k)) ?_
  obtain ⟨fs, hr, hrun, hended, hW, hsame⟩ := X9.leave (v := some (.ref a7)) (fun h => by rw [Bd.returns] at h; cases h)
  refine own_out ⟨_, _, ?_, hrun, hended, _, _, rfl, ?_, ⟨_, rfl⟩, hW, hsame.mono (by decide) (by decide)⟩
  · exact retOut X9 hx Bd.returns rfl (Or.inr (Or.inr (Or.inr (Or.inr ⟨rfl, rfl, rfl⟩)))) (hb hby d2_20) hr
  · show Q2_7 Z p1 a7 a10 a12 h0 n0 _ T9.heap _
    rw [e9]
    exact ⟨(by simp [own_anch, hc3, hc5]), N0, rfl⟩
def Q2_8 (Z : State) (p1 : Int32) (a7 a10 a12 : Addr) (h0 : Heap) (n0 : Nat) (v : Option Value) (h : Heap) (L : List Loc) : Prop := v = some (.ref (own_anch (p1 &&& (3 : Int32)) a10 a12 a7)) ∧ Fr n0 L ∧ h = h0
set_option maxRecDepth 65536 in
set_option maxHeartbeats 40000000 in
theorem rm2_8 (l : Launch) (Z : State) (a0 : Array Value) (hw : ∀ d ∈ tables_1, d.before a0 Z = true) (ws : List Jvm.Cond) (p1 : Int32) (a7 a10 a12 : Addr) (h0 : Heap) (n0 : Nat) (Z0 : n0 ≤ h0.size) (hc3 : ¬ ((p1 &&& (3 : Int32)) = (0 : Int32))) (hc5 : ¬ ((p1 &&& (3 : Int32)) = (1 : Int32))) (F8 : Sta Z h0 zs4 "LAST" zs5 (.ref a7)) (F11 : Sta Z h0 zs4 "FIRST" zs5 (.ref a10)) (F13 : Sta Z h0 zs4 "MIDDLE" zs5 (.ref a12)) :
    MetFree l zm1 (head1 (Jvm.Cond.code zm1 method_3_code 2 (some (.object zs4)) :: ws) ({ frames := 0, cells := 0, slots := 0, locals := 0 } : Room)) (fun a U => a = #[(.int p1)] ∧ Z.Warmed39 U.vm ∧ U.heap = h0) (fun _ _ _ _ _ => True) (fun _ U o U' => ∃ v L, o = .returned v ∧ Q2_8 Z p1 a7 a10 a12 h0 n0 v U'.heap L ∧ FrameEnd U o U' L ({ frames := 0, cells := 0, slots := 0, locals := 0 } : Room).cells ({ frames := 0, cells := 0, slots := 0, locals := 0 } : Room).slots) := by
  refine MetFree.of_bodySF (plainFor_of_name pn_0) hisR ?_
  intro p e s m args below meth c s₁ Bd hml0 hP hK
  obtain ⟨rfl, hZ, hh⟩ := hP
  have hx := Bd.exec
  have hby := Bd.bytes
  have hml : c.maxLocals = 2 := hml0
  have hown : s.vm.findClass zs2 = some m.cls := findClass_of_methodNamed Bd.named
  have hnm := (name_of_methodNamed Bd.named Bd.method).1
  have X0 : Stand p l e ({ frames := 0, cells := 0, slots := 0, locals := 0 } : Room) s m #[(.int p1)] below meth c s₁ [] 0 0 := Stand.of_body Bd
  have e0 : s₁.heap = h0 := by rw [← hh, Bd.state]; rfl
  have N0 := Fr.nil n0
  refine own_pre (g' := mkF m 0 (lc9 p1) []) (ef_0 m p1) ?_
  refine own_go (U' := s₁.setTop (mkF m 4 (lc10 p1 (p1 &&& (3 : Int32))) [])) (fun t k => oiloadN X0 hx hby d2_0 rfl (oiconst X0 hx hby d2_1 (oiand X0 hx hby d2_2 (oistoreN X0 hx hby d2_3 (lc10 p1 (p1 &&& (3 : Int32))) rfl k)))) ?_
  obtain ⟨z2, hz2⟩ : ∃ z, z = (p1 &&& (3 : Int32)) := ⟨_, rfl⟩
  rw [← hz2]
  refine own_go (U' := s₁.setTop (mkF m 5 (lc10 p1 z2) [(.int z2)])) (fun t k => oiloadN X0 hx hby d2_4 rfl k) ?_
  have hs4 : ¬ (z2 = (0 : Int32)) := by rw [hz2]; exact hc3
  refine own_go (U' := s₁.setTop (mkF m 14 (lc10 p1 z2) [(.int 1), (.int z2)])) (fun t k => oifY (pc := 5) X0 hx hby d2_5 12 ((if0 _ _).trans (feq hs4).2) (by decide) (oiloadN X0 hx hby d2_12 rfl (oiconst X0 hx hby d2_13 k))) ?_
  have hs6 : ¬ (z2 = (1 : Int32)) := by rw [hz2]; exact hc5
  obtain ⟨T9, X9, e9, st9⟩ := getS2 X0 hx hZ hown (host := "") (Or.inl (ww hw 86 rfl)) Via.refl e0 F8 (g := (mkF m 21 (lc10 p1 z2) [])) rfl (hb hby d2_21)
  refine own_go (U' := T9.setTop (mkF m 24 (lc10 p1 z2) [(.ref a7)])) (fun t k => oicY (pc := 14) X0 hx hby d2_14 21 (feq hs6).2 (by decide) (st9 _ k)) ?_
  obtain ⟨fs, hr, hrun, hended, hW, hsame⟩ := X9.leave (v := some (.ref a7)) (fun h => by rw [Bd.returns] at h; cases h)
  refine own_out ⟨_, _, ?_, hrun, hended, _, _, rfl, ?_, ⟨_, rfl⟩, hW, hsame.mono (by decide) (by decide)⟩
  · exact retOut X9 hx Bd.returns rfl (Or.inr (Or.inr (Or.inr (Or.inr ⟨rfl, rfl, rfl⟩)))) (hb hby d2_24) hr
  · show Q2_8 Z p1 a7 a10 a12 h0 n0 _ T9.heap _
    rw [e9]
    exact ⟨(by simp [own_anch, hc3, hc5]), N0, rfl⟩
def Qmg2_9 (Z : State) (p1 : Int32) (a2 a4 a6 : Addr) (h0 : Heap) (n0 : Nat) (v : Option Value) (h : Heap) (L : List Loc) : Prop := v = some (.ref (own_anch (p1 &&& (3 : Int32)) a2 a4 a6)) ∧ Fr n0 L ∧ h = h0
theorem mg2_9 (l : Launch) (Z : State) (a0 : Array Value) (hw : ∀ d ∈ tables_1, d.before a0 Z = true) (ws : List Jvm.Cond) (p1 : Int32) (a2 a4 a6 : Addr) (h0 : Heap) (n0 : Nat) (Z0 : n0 ≤ h0.size) (F3 : Sta Z h0 zs4 "FIRST" zs5 (.ref a2)) (F5 : Sta Z h0 zs4 "MIDDLE" zs5 (.ref a4)) (F7 : Sta Z h0 zs4 "LAST" zs5 (.ref a6)) :
    MetFree l zm1 (head1 (Jvm.Cond.code zm1 method_3_code 2 (some (.object zs4)) :: ws) ({ frames := 0, cells := 0, slots := 0, locals := 0 } : Room)) (fun a U => a = #[(.int p1)] ∧ Z.Warmed39 U.vm ∧ U.heap = h0) (fun _ _ _ _ _ => True) (fun _ U o U' => ∃ v L, o = .returned v ∧ Qmg2_9 Z p1 a2 a4 a6 h0 n0 v U'.heap L ∧ FrameEnd U o U' L ({ frames := 0, cells := 0, slots := 0, locals := 0 } : Room).cells ({ frames := 0, cells := 0, slots := 0, locals := 0 } : Room).slots) := by
  by_cases hm1 : (p1 &&& (3 : Int32)) = (0 : Int32)
  · exact rm2_6 l Z a0 hw ws p1 a2 a4 a6 h0 n0 Z0 hm1 F3 F5 F7
  · by_cases hm2 : (p1 &&& (3 : Int32)) = (1 : Int32)
    · exact rm2_7 l Z a0 hw ws p1 a4 a2 a6 h0 n0 Z0 hm1 hm2 F5 F3 F7
    · exact rm2_8 l Z a0 hw ws p1 a6 a2 a4 h0 n0 Z0 hm1 hm2 F7 F3 F5
def Q4_10 (Z : State) (a1 : Addr) (h0 : Heap) (n0 : Nat) (v : Option Value) (h : Heap) (L : List Loc) : Prop := v = none ∧ Fr n0 L ∧ h = h0
set_option maxRecDepth 65536 in
set_option maxHeartbeats 40000000 in
theorem rm4_10 (l : Launch) (Z : State) (a0 : Array Value) (hw : ∀ d ∈ tables_1, d.before a0 Z = true) (ws : List Jvm.Cond) (a1 : Addr) (h0 : Heap) (n0 : Nat) (Z0 : n0 ≤ h0.size) :
    MetFree l zm2 (head1 (Jvm.Cond.code zm2 jdk_30_method_1_code 1 none :: ws) ({ frames := 1, cells := 0, slots := 0, locals := 12 } : Room)) (fun a U => a = #[(.ref a1)] ∧ Z.Warmed39 U.vm ∧ U.heap = h0) (fun _ _ _ _ _ => True) (fun _ U o U' => ∃ v L, o = .returned v ∧ Q4_10 Z a1 h0 n0 v U'.heap L ∧ FrameEnd U o U' L ({ frames := 1, cells := 0, slots := 0, locals := 12 } : Room).cells ({ frames := 1, cells := 0, slots := 0, locals := 12 } : Room).slots) := by
  refine MetFree.of_bodySF (plainFor_of_name pn_1) hisR ?_
  intro p e s m args below meth c s₁ Bd hml0 hP hK
  obtain ⟨rfl, hZ, hh⟩ := hP
  have hx := Bd.exec
  have hby := Bd.bytes
  have hml : c.maxLocals = 1 := hml0
  have hown : s.vm.findClass zs7 = some m.cls := findClass_of_methodNamed Bd.named
  have hnm := (name_of_methodNamed Bd.named Bd.method).1
  have X0 : Stand p l e ({ frames := 1, cells := 0, slots := 0, locals := 12 } : Room) s m #[(.ref a1)] below meth c s₁ [] 0 0 := Stand.of_body Bd
  have e0 : s₁.heap = h0 := by rw [← hh, Bd.state]; rfl
  have N0 := Fr.nil n0
  refine own_pre (g' := mkF m 0 (lc13 a1) []) (ef_1 m a1) ?_
  obtain ⟨T2, X2, e2, st2⟩ := initO X0 hx hZ hown (ww hw 25 rfl) (ww hw 26 rfl) (ww hw 27 rfl) e0 (g := (mkF m 1 (lc13 a1) [(.ref a1)])) rfl (by rw [hml]; rfl) rfl (hb hby d4_1) (by decide) (W := 0) (by show 2 * 0 + _ ≤ _; exact Nat.le_of_eq rfl) (by decide)
  refine own_go (U' := T2.setTop (mkF m 4 (lc13 a1) [])) (fun t k => oaloadN X0 hx hby d4_0 rfl rfl (st2 _ k)) ?_
  obtain ⟨fs, hr, hrun, hended, hW, hsame⟩ := X2.leave (v := none) (fun _ => rfl)
  refine own_out ⟨_, _, ?_, hrun, hended, _, _, rfl, ?_, ⟨_, rfl⟩, hW, hsame.mono (by decide) (by decide)⟩
  · exact X2.returnOut hx Bd.returns (hb hby d4_4) hr
  · show Q4_10 Z a1 h0 n0 _ T2.heap _
    rw [e2]
    exact ⟨rfl, N0, rfl⟩
def Q3_11 (Z : State) (a1 a2 a3 : Addr) (h0 : Heap) (n0 : Nat) (v : Option Value) (h : Heap) (L : List Loc) : Prop := v = none ∧ Fr n0 L ∧ Keep h0 h [a1] ∧ Fld Z h a1 zs8 "unit" zs1 (.ref a2) ∧ Fld Z h a1 zs8 "first" zs9 .null ∧ Fld Z h a1 zs8 "last" zs9 .null ∧ Fld Z h a1 zs8 "anchor" zs5 (.ref a3)
set_option maxRecDepth 65536 in
set_option maxHeartbeats 40000000 in
theorem rm3_11 (l : Launch) (Z : State) (a0 : Array Value) (hw : ∀ d ∈ tables_1, d.before a0 Z = true) (ws : List Jvm.Cond) (a1 a2 a3 : Addr) (h0 : Heap) (n0 : Nat) (Z0 : n0 ≤ h0.size) (F6 : Fld Z h0 a1 zs8 "unit" zs1 .null) (F7 : Fld Z h0 a1 zs8 "first" zs9 .null) (F8 : Fld Z h0 a1 zs8 "last" zs9 .null) (F9 : Fld Z h0 a1 zs8 "anchor" zs5 .null) (F10 : Exa Z h0 a1 zs8) (g12 : n0 ≤ a1) :
    MetFree l zm3 (head1 (Jvm.Cond.code zm3 prog_3_method_2_code 5 none :: ws) ({ frames := 2, cells := 0, slots := 0, locals := 24 } : Room)) (fun a U => a = #[(.ref a1), (.ref a2), .null, .null, (.ref a3)] ∧ Z.Warmed39 U.vm ∧ U.heap = h0) (fun _ _ _ _ _ => True) (fun _ U o U' => ∃ v L, o = .returned v ∧ Q3_11 Z a1 a2 a3 h0 n0 v U'.heap L ∧ FrameEnd U o U' L ({ frames := 2, cells := 0, slots := 0, locals := 24 } : Room).cells ({ frames := 2, cells := 0, slots := 0, locals := 24 } : Room).slots) := by
  refine MetFree.of_bodySF (plainFor_of_name pn_2) hisR ?_
  intro p e s m args below meth c s₁ Bd hml0 hP hK
  obtain ⟨rfl, hZ, hh⟩ := hP
  have hx := Bd.exec
  have hby := Bd.bytes
  have hml : c.maxLocals = 5 := hml0
  have hown : s.vm.findClass zs8 = some m.cls := findClass_of_methodNamed Bd.named
  have hnm := (name_of_methodNamed Bd.named Bd.method).1
  have X0 : Stand p l e ({ frames := 2, cells := 0, slots := 0, locals := 24 } : Room) s m #[(.ref a1), (.ref a2), .null, .null, (.ref a3)] below meth c s₁ [] 0 0 := Stand.of_body Bd
  have e0 : s₁.heap = h0 := by rw [← hh, Bd.state]; rfl
  have N0 := Fr.nil n0
  refine own_pre (g' := mkF m 0 (lc12 a1 a2 a3) []) (ef_2 m a1 a2 a3) ?_
  obtain ⟨_, T4, L4, X4, hQ4, st4⟩ := ocallI X0 hx hZ zm2 rfl hown (ww hw 20 rfl) (ww hw 21 rfl) (by decide) (ww hw 24 rfl) (ww hw 23 rfl) e0 (rm4_10 l Z a0 hw [] a1 h0 n0 Z0 ) (st := [(.ref a1)]) rfl 0 rfl (by decide) (pc := 1) (Ls := (lc12 a1 a2 a3)) hml rfl (lenOf pd_2 rfl) d3_1 hby
  obtain ⟨rfl, N4q, e4⟩ := hQ4
  have N5 := Fr.app N0 N4q
  obtain ⟨T11, h11, X11, e11, W11, st11⟩ := putF X4 hx hZ hown (host := "") (Or.inl (ww hw 28 rfl)) Via.refl e4 F6 F10 (Or.inr ⟨(ww hw 29 rfl), rfl, hnm⟩) (ww hw 9 rfl) (ty := (.object zs0)) (by decide) rfl rfl (g := (mkF m 6 (lc12 a1 a2 a3) [(.ref a2), (.ref a1)])) rfl rfl (hb hby d3_6)
  have N13 := Fr.snoc X11 N5 g12
  have f14 : Fld Z h11 a1 zs8 "unit" zs1 (.ref a2) := Fld.same W11 F6
  have f15 : Fld Z h11 a1 zs8 "first" zs9 .null := (Fld.other W11 F7 (Or.inr (slot_ne (Or.inr (ww hw 31 rfl)) (Or.inr (ww hw 29 rfl)) (by decide) (t := (.object zs11)) (t' := (.object zs0)) (by decide) (by decide))))
  have f16 : Exa Z h11 a1 zs8 := (Exa.wr W11 F10)
  obtain ⟨T17, h17, X17, e17, W17, st17⟩ := putF X11 hx hZ hown (host := "") (Or.inl (ww hw 30 rfl)) Via.refl e11 f15 f16 (Or.inr ⟨(ww hw 31 rfl), rfl, hnm⟩) (ww hw 9 rfl) (ty := (.object zs11)) (by decide) rfl rfl (g := (mkF m 11 (lc12 a1 a2 a3) [.null, (.ref a1)])) rfl rfl (hb hby d3_11)
  have N18 := Fr.snoc X17 N13 g12
  have f19 : Fld Z h17 a1 zs8 "first" zs9 .null := Fld.same W17 f15
  have f20 : Fld Z h17 a1 zs8 "last" zs9 .null := (Fld.other W17 (Fld.other W11 F8 (Or.inr (slot_ne (Or.inr (ww hw 33 rfl)) (Or.inr (ww hw 29 rfl)) (by decide) (t := (.object zs11)) (t' := (.object zs0)) (by decide) (by decide)))) (Or.inr (slot_ne (Or.inr (ww hw 33 rfl)) (Or.inr (ww hw 31 rfl)) (by decide) (t := (.object zs11)) (t' := (.object zs11)) (by decide) (by decide))))
  have f21 : Exa Z h17 a1 zs8 := (Exa.wr W17 f16)
  obtain ⟨T22, h22, X22, e22, W22, st22⟩ := putF X17 hx hZ hown (host := "") (Or.inl (ww hw 32 rfl)) Via.refl e17 f20 f21 (Or.inr ⟨(ww hw 33 rfl), rfl, hnm⟩) (ww hw 9 rfl) (ty := (.object zs11)) (by decide) rfl rfl (g := (mkF m 16 (lc12 a1 a2 a3) [.null, (.ref a1)])) rfl rfl (hb hby d3_16)
  have N23 := Fr.snoc X22 N18 g12
  have f24 : Fld Z h22 a1 zs8 "last" zs9 .null := Fld.same W22 f20
  have f25 : Fld Z h22 a1 zs8 "anchor" zs5 .null := (Fld.other W22 (Fld.other W17 (Fld.other W11 F9 (Or.inr (slot_ne (Or.inr (ww hw 35 rfl)) (Or.inr (ww hw 29 rfl)) (by decide) (t := (.object zs4)) (t' := (.object zs0)) (by decide) (by decide)))) (Or.inr (slot_ne (Or.inr (ww hw 35 rfl)) (Or.inr (ww hw 31 rfl)) (by decide) (t := (.object zs4)) (t' := (.object zs11)) (by decide) (by decide)))) (Or.inr (slot_ne (Or.inr (ww hw 35 rfl)) (Or.inr (ww hw 33 rfl)) (by decide) (t := (.object zs4)) (t' := (.object zs11)) (by decide) (by decide))))
  have f26 : Exa Z h22 a1 zs8 := (Exa.wr W22 f21)
  obtain ⟨T27, h27, X27, e27, W27, st27⟩ := putF X22 hx hZ hown (host := "") (Or.inl (ww hw 34 rfl)) Via.refl e22 f25 f26 (Or.inr ⟨(ww hw 35 rfl), rfl, hnm⟩) (ww hw 9 rfl) (ty := (.object zs4)) (by decide) rfl rfl (g := (mkF m 22 (lc12 a1 a2 a3) [(.ref a3), (.ref a1)])) rfl rfl (hb hby d3_22)
  have N28 := Fr.snoc X27 N23 g12
  have f29 : Fld Z h27 a1 zs8 "anchor" zs5 (.ref a3) := Fld.same W27 f25
  refine own_go (U' := T27.setTop (mkF m 25 (lc12 a1 a2 a3) [])) (fun t k => oaloadN X0 hx hby d3_0 rfl rfl (st4 _ (oaloadN X4 hx hby d3_4 rfl rfl (oaloadN X4 hx hby d3_5 rfl rfl (st11 _ (oaloadN X11 hx hby d3_9 rfl rfl (oaloadN X11 hx hby d3_10 rfl rfl (st17 _ (oaloadN X17 hx hby d3_14 rfl rfl (oaloadN X17 hx hby d3_15 rfl rfl (st22 _ (oaloadN X22 hx hby d3_19 rfl rfl (oaload X22 hx hby d3_20 rfl rfl (st27 _ k)))))))))))))) ?_
  have f30 : Fld Z h27 a1 zs8 "unit" zs1 (.ref a2) := (Fld.other W27 (Fld.other W22 (Fld.other W17 f14 (Or.inr (slot_ne (Or.inr (ww hw 29 rfl)) (Or.inr (ww hw 31 rfl)) (by decide) (t := (.object zs0)) (t' := (.object zs11)) (by decide) (by decide)))) (Or.inr (slot_ne (Or.inr (ww hw 29 rfl)) (Or.inr (ww hw 33 rfl)) (by decide) (t := (.object zs0)) (t' := (.object zs11)) (by decide) (by decide)))) (Or.inr (slot_ne (Or.inr (ww hw 29 rfl)) (Or.inr (ww hw 35 rfl)) (by decide) (t := (.object zs0)) (t' := (.object zs4)) (by decide) (by decide))))
  have f31 : Fld Z h27 a1 zs8 "first" zs9 .null := (Fld.other W27 (Fld.other W22 f19 (Or.inr (slot_ne (Or.inr (ww hw 31 rfl)) (Or.inr (ww hw 33 rfl)) (by decide) (t := (.object zs11)) (t' := (.object zs11)) (by decide) (by decide)))) (Or.inr (slot_ne (Or.inr (ww hw 31 rfl)) (Or.inr (ww hw 35 rfl)) (by decide) (t := (.object zs11)) (t' := (.object zs4)) (by decide) (by decide))))
  have f32 : Fld Z h27 a1 zs8 "last" zs9 .null := (Fld.other W27 f24 (Or.inr (slot_ne (Or.inr (ww hw 33 rfl)) (Or.inr (ww hw 35 rfl)) (by decide) (t := (.object zs11)) (t' := (.object zs4)) (by decide) (by decide))))
  obtain ⟨fs, hr, hrun, hended, hW, hsame⟩ := X27.leave (v := none) (fun _ => rfl)
  refine own_out ⟨_, _, ?_, hrun, hended, _, _, rfl, ?_, ⟨_, rfl⟩, hW, hsame.mono (by decide) (by decide)⟩
  · exact X27.returnOut hx Bd.returns (hb hby d3_25) hr
  · show Q3_11 Z a1 a2 a3 h0 n0 _ T27.heap _
    rw [e27]
    exact ⟨rfl, N28, (((((Keep.refl h0 [a1]).wr W11 (Or.inl (List.mem_of_getElem? (i := 0) rfl))).wr W17 (Or.inl (List.mem_of_getElem? (i := 0) rfl))).wr W22 (Or.inl (List.mem_of_getElem? (i := 0) rfl))).wr W27 (Or.inl (List.mem_of_getElem? (i := 0) rfl))), f30, f31, f32, f29⟩
def Q6_12 (Z : State) (a1 : Addr) (h0 : Heap) (n0 : Nat) (v : Option Value) (h : Heap) (L : List Loc) : Prop := v = some (.int 0) ∧ Fr n0 L ∧ h = h0
set_option maxRecDepth 65536 in
set_option maxHeartbeats 40000000 in
theorem rm6_12 (l : Launch) (Z : State) (a0 : Array Value) (hw : ∀ d ∈ tables_1, d.before a0 Z = true) (ws : List Jvm.Cond) (a1 : Addr) (h0 : Heap) (n0 : Nat) (Z0 : n0 ≤ h0.size) (F2 : Fld Z h0 a1 zs8 "first" zs9 .null) :
    MetFree l zm4 (head1 (Jvm.Cond.code zm4 prog_3_method_19_code 1 (some .boolean) :: ws) ({ frames := 0, cells := 0, slots := 0, locals := 0 } : Room)) (fun a U => a = #[(.ref a1)] ∧ Z.Warmed39 U.vm ∧ U.heap = h0) (fun _ _ _ _ _ => True) (fun _ U o U' => ∃ v L, o = .returned v ∧ Q6_12 Z a1 h0 n0 v U'.heap L ∧ FrameEnd U o U' L ({ frames := 0, cells := 0, slots := 0, locals := 0 } : Room).cells ({ frames := 0, cells := 0, slots := 0, locals := 0 } : Room).slots) := by
  refine MetFree.of_bodySF (plainFor_of_name pn_2) hisR ?_
  intro p e s m args below meth c s₁ Bd hml0 hP hK
  obtain ⟨rfl, hZ, hh⟩ := hP
  have hx := Bd.exec
  have hby := Bd.bytes
  have hml : c.maxLocals = 1 := hml0
  have hown : s.vm.findClass zs8 = some m.cls := findClass_of_methodNamed Bd.named
  have hnm := (name_of_methodNamed Bd.named Bd.method).1
  have X0 : Stand p l e ({ frames := 0, cells := 0, slots := 0, locals := 0 } : Room) s m #[(.ref a1)] below meth c s₁ [] 0 0 := Stand.of_body Bd
  have e0 : s₁.heap = h0 := by rw [← hh, Bd.state]; rfl
  have N0 := Fr.nil n0
  refine own_pre (g' := mkF m 0 (lc13 a1) []) (ef_1 m a1) ?_
  obtain ⟨T3, X3, e3, st3⟩ := getF X0 hx hZ hown (host := "") (Or.inl (ww hw 30 rfl)) Via.refl e0 F2 (g := (mkF m 1 (lc13 a1) [(.ref a1)])) rfl rfl (hb hby d6_1)
  refine own_go (U' := T3.setTop (mkF m 19 (lc13 a1) [(.int 0)])) (fun t k => oaloadN X0 hx hby d6_0 rfl rfl (st3 _ (onlY (pc := 4) X3 hx hby d6_4 18 (by decide) (oiconst X3 hx hby d6_18 k)))) ?_
  obtain ⟨fs, hr, hrun, hended, hW, hsame⟩ := X3.leave (v := some (.int 0)) (fun h => by rw [Bd.returns] at h; cases h)
  refine own_out ⟨_, _, ?_, hrun, hended, _, _, rfl, ?_, ⟨_, rfl⟩, hW, hsame.mono (by decide) (by decide)⟩
  · exact retN X3 hx (t := .boolean) Bd.returns (by simp) (hb hby d6_19) hr
  · show Q6_12 Z a1 h0 n0 _ T3.heap _
    rw [e3]
    exact ⟨rfl, N0, rfl⟩
def Q8_13 (Z : State) (a1 a2 a3 : Addr) (h0 : Heap) (n0 : Nat) (v : Option Value) (h : Heap) (L : List Loc) : Prop := v = none ∧ Fr n0 L ∧ Keep h0 h [a1] ∧ Fld Z h a1 zs8 "unit" zs1 (.ref a2) ∧ Fld Z h a1 zs8 "first" zs9 .null ∧ Fld Z h a1 zs8 "last" zs9 .null ∧ Fld Z h a1 zs8 "anchor" zs5 (.ref a3)
set_option maxRecDepth 65536 in
set_option maxHeartbeats 40000000 in
theorem rm8_13 (l : Launch) (Z : State) (a0 : Array Value) (hw : ∀ d ∈ tables_1, d.before a0 Z = true) (ws : List Jvm.Cond) (a1 a2 a3 : Addr) (h0 : Heap) (n0 : Nat) (Z0 : n0 ≤ h0.size) (F4 : Sta Z h0 zs4 "MIDDLE" zs5 (.ref a3)) (F7 : Fld Z h0 a1 zs8 "unit" zs1 .null) (F8 : Fld Z h0 a1 zs8 "first" zs9 .null) (F9 : Fld Z h0 a1 zs8 "last" zs9 .null) (F10 : Fld Z h0 a1 zs8 "anchor" zs5 .null) (F11 : Exa Z h0 a1 zs8) (g12 : n0 ≤ a1) :
    MetFree l zm5 (head1 (Jvm.Cond.code zm5 prog_3_method_1_code 4 none :: ws) ({ frames := 3, cells := 0, slots := 0, locals := 40 } : Room)) (fun a U => a = #[(.ref a1), (.ref a2), .null, .null] ∧ Z.Warmed39 U.vm ∧ U.heap = h0) (fun _ _ _ _ _ => True) (fun _ U o U' => ∃ v L, o = .returned v ∧ Q8_13 Z a1 a2 a3 h0 n0 v U'.heap L ∧ FrameEnd U o U' L ({ frames := 3, cells := 0, slots := 0, locals := 40 } : Room).cells ({ frames := 3, cells := 0, slots := 0, locals := 40 } : Room).slots) := by
  refine MetFree.of_bodySF (plainFor_of_name pn_2) hisR ?_
  intro p e s m args below meth c s₁ Bd hml0 hP hK
  obtain ⟨rfl, hZ, hh⟩ := hP
  have hx := Bd.exec
  have hby := Bd.bytes
  have hml : c.maxLocals = 4 := hml0
  have hown : s.vm.findClass zs8 = some m.cls := findClass_of_methodNamed Bd.named
  have hnm := (name_of_methodNamed Bd.named Bd.method).1
  have X0 : Stand p l e ({ frames := 3, cells := 0, slots := 0, locals := 40 } : Room) s m #[(.ref a1), (.ref a2), .null, .null] below meth c s₁ [] 0 0 := Stand.of_body Bd
  have e0 : s₁.heap = h0 := by rw [← hh, Bd.state]; rfl
  have N0 := Fr.nil n0
  refine own_pre (g' := mkF m 0 (lc20 a1 a2) []) (ef_3 m a1 a2) ?_
  obtain ⟨T5, X5, e5, st5⟩ := getS2 X0 hx hZ hown (host := "") (Or.inl (ww hw 50 rfl)) Via.refl e0 F4 (g := (mkF m 4 (lc20 a1 a2) [.null, .null, (.ref a2), (.ref a1)])) rfl (hb hby d8_4)
  obtain ⟨_, T6, L6, X6, hQ6, st6⟩ := ocallI X5 hx hZ zm3 rfl hown (ww hw 52 rfl) (ww hw 18 rfl) (by decide) (ww hw 19 rfl) (ww hw 10 rfl) e5 (rm3_11 l Z a0 hw [] a1 a2 a3 h0 n0 Z0 F7 F8 F9 F10 F11 g12) (st := [(.ref a3), .null, .null, (.ref a2), (.ref a1)]) rfl 0 rfl (by decide) (pc := 7) (Ls := (lc20 a1 a2)) hml rfl (lenOf pd_3 rfl) d8_7 hby
  obtain ⟨rfl, N6q, K6, f13, f14, f15, f16⟩ := hQ6
  have N17 := Fr.app N0 N6q
  refine own_go (U' := T6.setTop (mkF m 10 (lc20 a1 a2) [])) (fun t k => oaloadN X0 hx hby d8_0 rfl rfl (oaloadN X0 hx hby d8_1 rfl rfl (oaloadN X0 hx hby d8_2 rfl rfl (oaloadN X0 hx hby d8_3 rfl rfl (st5 _ (st6 _ k)))))) ?_
  obtain ⟨fs, hr, hrun, hended, hW, hsame⟩ := X6.leave (v := none) (fun _ => rfl)
  refine own_out ⟨_, _, ?_, hrun, hended, _, _, rfl, ?_, ⟨_, rfl⟩, hW, hsame.mono (by decide) (by decide)⟩
  · exact X6.returnOut hx Bd.returns (hb hby d8_10) hr
  · show Q8_13 Z a1 a2 a3 h0 n0 _ T6.heap _
    exact ⟨rfl, N17, (Keep.trans (Keep.refl h0 [a1]) K6 (allS (Or.inl (List.mem_of_getElem? (i := 0) rfl)) all0)), f13, f14, f15, f16⟩
def Q7_14 (Z : State) (a1 a2 a16 a21 : Addr) (h0 : Heap) (n0 : Nat) (v : Option Value) (h : Heap) (L : List Loc) : Prop := ∃ b11 : Addr, v = some (.ref b11) ∧ Fr n0 L ∧ Keep h0 h [] ∧ h0.size ≤ b11 ∧ Exa Z h b11 zs8 ∧ Fld Z h b11 zs8 "unit" zs1 (.ref a16) ∧ Fld Z h b11 zs8 "first" zs9 .null ∧ Fld Z h b11 zs8 "last" zs9 .null ∧ Fld Z h b11 zs8 "anchor" zs5 (.ref a21)
set_option maxRecDepth 65536 in
set_option maxHeartbeats 40000000 in
theorem rm7_14 (l : Launch) (Z : State) (a0 : Array Value) (hw : ∀ d ∈ tables_1, d.before a0 Z = true) (ws : List Jvm.Cond) (a1 a2 a16 a21 : Addr) (h0 : Heap) (n0 : Nat) (Z0 : n0 ≤ h0.size) (F3 : Fld Z h0 a1 zs8 "first" zs9 .null) (F5 : Fld Z h0 a2 zs8 "first" zs9 .null) (F7 : Fld Z h0 a1 zs8 "last" zs9 .null) (F9 : Fld Z h0 a2 zs8 "last" zs9 .null) (F17 : Fld Z h0 a1 zs8 "unit" zs1 (.ref a16)) (F22 : Sta Z h0 zs4 "MIDDLE" zs5 (.ref a21)) :
    MetFree l zm6 (head1 (Jvm.Cond.code zm6 prog_3_method_17_code 4 (some (.object zs8)) :: ws) ({ frames := 4, cells := 1, slots := 4, locals := 56 } : Room)) (fun a U => a = #[(.ref a1), (.ref a2)] ∧ Z.Warmed39 U.vm ∧ U.heap = h0) (fun _ _ _ _ _ => True) (fun _ U o U' => ∃ v L, o = .returned v ∧ Q7_14 Z a1 a2 a16 a21 h0 n0 v U'.heap L ∧ FrameEnd U o U' L ({ frames := 4, cells := 1, slots := 4, locals := 56 } : Room).cells ({ frames := 4, cells := 1, slots := 4, locals := 56 } : Room).slots) := by
  refine MetFree.of_bodySF (plainFor_of_name pn_2) hisR ?_
  intro p e s m args below meth c s₁ Bd hml0 hP hK
  obtain ⟨rfl, hZ, hh⟩ := hP
  have hx := Bd.exec
  have hby := Bd.bytes
  have hml : c.maxLocals = 4 := hml0
  have hown : s.vm.findClass zs8 = some m.cls := findClass_of_methodNamed Bd.named
  have hnm := (name_of_methodNamed Bd.named Bd.method).1
  have X0 : Stand p l e ({ frames := 4, cells := 1, slots := 4, locals := 56 } : Room) s m #[(.ref a1), (.ref a2)] below meth c s₁ [] 0 0 := Stand.of_body Bd
  have e0 : s₁.heap = h0 := by rw [← hh, Bd.state]; rfl
  have N0 := Fr.nil n0
  refine own_pre (g' := mkF m 0 (lc18 a1 a2) []) (ef_4 m a1 a2) ?_
  obtain ⟨T4, X4, e4, st4⟩ := getF X0 hx hZ hown (host := "") (Or.inl (ww hw 30 rfl)) Via.refl e0 F3 (g := (mkF m 1 (lc18 a1 a2) [(.ref a1)])) rfl rfl (hb hby d7_1)
  obtain ⟨T6, X6, e6, st6⟩ := getF X4 hx hZ hown (host := "") (Or.inl (ww hw 30 rfl)) Via.refl e4 F5 (g := (mkF m 33 (lc18 a1 a2) [(.ref a2)])) rfl rfl (hb hby d7_33)
  obtain ⟨T8, X8, e8, st8⟩ := getF X6 hx hZ hown (host := "") (Or.inl (ww hw 32 rfl)) Via.refl e6 F7 (g := (mkF m 45 (lc19 a1 a2) [(.ref a1)])) rfl rfl (hb hby d7_45)
  obtain ⟨T10, X10, e10, st10⟩ := getF X8 hx hZ hown (host := "") (Or.inl (ww hw 32 rfl)) Via.refl e8 F9 (g := (mkF m 77 (lc19 a1 a2) [(.ref a2)])) rfl rfl (hb hby d7_77)
  obtain ⟨T11, h11, X11, e11, E11, A11, D11, -, st11⟩ := newO X10 hx hZ hown (ww hw 46 rfl) (ww hw 9 rfl) (ww hw 10 rfl) e10 (g := (mkF m 88 (lc20 a1 a2) [])) rfl (hb hby d7_88) (by decide) (by decide)
  obtain ⟨b11, g11⟩ : ∃ z, z = h0.size := ⟨_, rfl⟩
  rw [← g11] at A11 D11 st11
  have f12 : Fld Z h11 b11 zs8 "unit" zs1 .null := D11 (Or.inr (ww hw 29 rfl)) (ty := (.object zs0)) (by decide)
  have f13 : Fld Z h11 b11 zs8 "first" zs9 .null := D11 (Or.inr (ww hw 31 rfl)) (ty := (.object zs11)) (by decide)
  have f14 : Fld Z h11 b11 zs8 "last" zs9 .null := D11 (Or.inr (ww hw 33 rfl)) (ty := (.object zs11)) (by decide)
  have f15 : Fld Z h11 b11 zs8 "anchor" zs5 .null := D11 (Or.inr (ww hw 35 rfl)) (ty := (.object zs4)) (by decide)
  have f18 : Fld Z h11 a1 zs8 "unit" zs1 (.ref a16) := (Fld.ext E11 F17)
  obtain ⟨T19, X19, e19, st19⟩ := getF X11 hx hZ hown (host := "") (Or.inl (ww hw 28 rfl)) Via.refl e11 f18 (g := (mkF m 93 (lc20 a1 a2) [(.ref a1), (.ref b11), (.ref b11)])) rfl rfl (hb hby d7_93)
  have f23 : Sta Z h11 zs4 "MIDDLE" zs5 (.ref a21) := (Sta.ext E11 F22)
  have g24 : n0 ≤ b11 := Nat.le_trans Z0 (Nat.le_of_eq g11.symm)
  have Z_1 : n0 ≤ h11.size := Nat.le_trans Z0 E11.1
  obtain ⟨_, T20, L20, X20, hQ20, st20⟩ := ocallI X19 hx hZ zm5 rfl hown (ww hw 47 rfl) (ww hw 48 rfl) (by decide) (ww hw 49 rfl) (ww hw 10 rfl) e19 (rm8_13 l Z a0 hw [] b11 a16 a21 h11 n0 Z_1 f23 f12 f13 f14 f15 A11 g24) (st := [.null, .null, (.ref a16), (.ref b11), (.ref b11)]) rfl 1 rfl (by decide) (pc := 98) (Ls := (lc20 a1 a2)) hml rfl (lenOf pd_5 rfl) d7_98 hby
  obtain ⟨rfl, N20q, K20, f25, f26, f27, f28⟩ := hQ20
  have N29 := Fr.app N0 N20q
  refine own_go (U' := T20.setTop (mkF m 101 (lc20 a1 a2) [(.ref b11)])) (fun t k => oaloadN X0 hx hby d7_0 rfl rfl (st4 _ (onlY (pc := 4) X4 hx hby d7_4 32 (by decide) (oaloadN X4 hx hby d7_32 rfl rfl (st6 _ (ogoto (pc := 36) X6 hx hby d7_36 43 (by decide) (oastoreN X6 hx hby d7_43 (lc19 a1 a2) rfl rfl (oaloadN X6 hx hby d7_44 rfl rfl (st8 _ (onlY (pc := 48) X8 hx hby d7_48 76 (by decide) (oaloadN X8 hx hby d7_76 rfl rfl (st10 _ (ogoto (pc := 80) X10 hx hby d7_80 87 (by decide) (oastoreN X10 hx hby d7_87 (lc20 a1 a2) rfl rfl (st11 _ (odup X11 hx hby d7_91 rfl (oaloadN X11 hx hby d7_92 rfl rfl (st19 _ (oaloadN X19 hx hby d7_96 rfl rfl (oaloadN X19 hx hby d7_97 rfl rfl (st20 _ k))))))))))))))))))))) ?_
  have f30 : Exa Z T20.heap b11 zs8 := (A11.keep K20)
  obtain ⟨fs, hr, hrun, hended, hW, hsame⟩ := X20.leave (v := some (.ref b11)) (fun h => by rw [Bd.returns] at h; cases h)
  refine own_out ⟨_, _, ?_, hrun, hended, _, _, rfl, ?_, ⟨_, rfl⟩, hW, hsame.mono (by decide) (by decide)⟩
  · exact retOut X20 hx Bd.returns rfl (Or.inr (Or.inr (Or.inr (Or.inr ⟨rfl, rfl, rfl⟩)))) (hb hby d7_101) hr
  · show Q7_14 Z a1 a2 a16 a21 h0 n0 _ T20.heap _
    exact ⟨b11, rfl, N29, (Keep.trans ((Keep.refl h0 []).ext E11) K20 (allS (Or.inr (Nat.le_of_eq g11.symm)) all0)), (Nat.le_of_eq g11.symm), f30, f25, f26, f27, f28⟩
def Q9_15 (Z : State) (a1 a7 a15 : Addr) (h0 : Heap) (n0 : Nat) (v : Option Value) (h : Heap) (L : List Loc) : Prop := ∃ b2 : Addr, v = some (.ref b2) ∧ Fr n0 L ∧ Keep h0 h [] ∧ h0.size ≤ b2 ∧ Exa Z h b2 zs8 ∧ Fld Z h b2 zs8 "unit" zs1 (.ref a7) ∧ Fld Z h b2 zs8 "first" zs9 .null ∧ Fld Z h b2 zs8 "last" zs9 .null ∧ Fld Z h b2 zs8 "anchor" zs5 (.ref a15)
set_option maxRecDepth 65536 in
set_option maxHeartbeats 40000000 in
theorem rm9_15 (l : Launch) (Z : State) (a0 : Array Value) (hw : ∀ d ∈ tables_1, d.before a0 Z = true) (ws : List Jvm.Cond) (a1 a7 a15 : Addr) (h0 : Heap) (n0 : Nat) (Z0 : n0 ≤ h0.size) (F8 : Fld Z h0 a1 zs8 "unit" zs1 (.ref a7)) (F11 : Fld Z h0 a1 zs8 "first" zs9 .null) (F16 : Sta Z h0 zs4 "MIDDLE" zs5 (.ref a15)) :
    MetFree l zm7 (head1 (Jvm.Cond.code zm7 prog_3_method_12_code 1 (some (.object zs8)) :: ws) ({ frames := 4, cells := 1, slots := 4, locals := 56 } : Room)) (fun a U => a = #[(.ref a1)] ∧ Z.Warmed39 U.vm ∧ U.heap = h0) (fun _ _ _ _ _ => True) (fun _ U o U' => ∃ v L, o = .returned v ∧ Q9_15 Z a1 a7 a15 h0 n0 v U'.heap L ∧ FrameEnd U o U' L ({ frames := 4, cells := 1, slots := 4, locals := 56 } : Room).cells ({ frames := 4, cells := 1, slots := 4, locals := 56 } : Room).slots) := by
  refine MetFree.of_bodySF (plainFor_of_name pn_2) hisR ?_
  intro p e s m args below meth c s₁ Bd hml0 hP hK
  obtain ⟨rfl, hZ, hh⟩ := hP
  have hx := Bd.exec
  have hby := Bd.bytes
  have hml : c.maxLocals = 1 := hml0
  have hown : s.vm.findClass zs8 = some m.cls := findClass_of_methodNamed Bd.named
  have hnm := (name_of_methodNamed Bd.named Bd.method).1
  have X0 : Stand p l e ({ frames := 4, cells := 1, slots := 4, locals := 56 } : Room) s m #[(.ref a1)] below meth c s₁ [] 0 0 := Stand.of_body Bd
  have e0 : s₁.heap = h0 := by rw [← hh, Bd.state]; rfl
  have N0 := Fr.nil n0
  refine own_pre (g' := mkF m 0 (lc13 a1) []) (ef_1 m a1) ?_
  obtain ⟨T2, h2, X2, e2, E2, A2, D2, -, st2⟩ := newO X0 hx hZ hown (ww hw 46 rfl) (ww hw 9 rfl) (ww hw 10 rfl) e0 (g := (mkF m 0 (lc13 a1) [])) rfl (hb hby d9_0) (by decide) (by decide)
  obtain ⟨b2, g2⟩ : ∃ z, z = h0.size := ⟨_, rfl⟩
  rw [← g2] at A2 D2 st2
  have f3 : Fld Z h2 b2 zs8 "unit" zs1 .null := D2 (Or.inr (ww hw 29 rfl)) (ty := (.object zs0)) (by decide)
  have f4 : Fld Z h2 b2 zs8 "first" zs9 .null := D2 (Or.inr (ww hw 31 rfl)) (ty := (.object zs11)) (by decide)
  have f5 : Fld Z h2 b2 zs8 "last" zs9 .null := D2 (Or.inr (ww hw 33 rfl)) (ty := (.object zs11)) (by decide)
  have f6 : Fld Z h2 b2 zs8 "anchor" zs5 .null := D2 (Or.inr (ww hw 35 rfl)) (ty := (.object zs4)) (by decide)
  have f9 : Fld Z h2 a1 zs8 "unit" zs1 (.ref a7) := (Fld.ext E2 F8)
  obtain ⟨T10, X10, e10, st10⟩ := getF X2 hx hZ hown (host := "") (Or.inl (ww hw 28 rfl)) Via.refl e2 f9 (g := (mkF m 5 (lc13 a1) [(.ref a1), (.ref b2), (.ref b2)])) rfl rfl (hb hby d9_5)
  have f12 : Fld Z h2 a1 zs8 "first" zs9 .null := (Fld.ext E2 F11)
  obtain ⟨T13, X13, e13, st13⟩ := getF X10 hx hZ hown (host := "") (Or.inl (ww hw 30 rfl)) Via.refl e10 f12 (g := (mkF m 9 (lc13 a1) [(.ref a1), (.ref a7), (.ref b2), (.ref b2)])) rfl rfl (hb hby d9_9)
  have f17 : Sta Z h2 zs4 "MIDDLE" zs5 (.ref a15) := (Sta.ext E2 F16)
  have g18 : n0 ≤ b2 := Nat.le_trans Z0 (Nat.le_of_eq g2.symm)
  have Z_1 : n0 ≤ h2.size := Nat.le_trans Z0 E2.1
  obtain ⟨_, T14, L14, X14, hQ14, st14⟩ := ocallI X13 hx hZ zm5 rfl hown (ww hw 47 rfl) (ww hw 48 rfl) (by decide) (ww hw 49 rfl) (ww hw 10 rfl) e13 (rm8_13 l Z a0 hw [] b2 a7 a15 h2 n0 Z_1 f17 f3 f4 f5 f6 A2 g18) (st := [.null, .null, (.ref a7), (.ref b2), (.ref b2)]) rfl 1 rfl (by decide) (pc := 13) (Ls := (lc13 a1)) hml rfl (lenOf pd_5 rfl) d9_13 hby
  obtain ⟨rfl, N14q, K14, f19, f20, f21, f22⟩ := hQ14
  have N23 := Fr.app N0 N14q
  refine own_go (U' := T14.setTop (mkF m 16 (lc13 a1) [(.ref b2)])) (fun t k => st2 _ (odup X2 hx hby d9_3 rfl (oaloadN X2 hx hby d9_4 rfl rfl (st10 _ (oaloadN X10 hx hby d9_8 rfl rfl (st13 _ (onull X13 hx hby d9_12 (st14 _ k)))))))) ?_
  have f24 : Exa Z T14.heap b2 zs8 := (A2.keep K14)
  obtain ⟨fs, hr, hrun, hended, hW, hsame⟩ := X14.leave (v := some (.ref b2)) (fun h => by rw [Bd.returns] at h; cases h)
  refine own_out ⟨_, _, ?_, hrun, hended, _, _, rfl, ?_, ⟨_, rfl⟩, hW, hsame.mono (by decide) (by decide)⟩
  · exact retOut X14 hx Bd.returns rfl (Or.inr (Or.inr (Or.inr (Or.inr ⟨rfl, rfl, rfl⟩)))) (hb hby d9_16) hr
  · show Q9_15 Z a1 a7 a15 h0 n0 _ T14.heap _
    exact ⟨b2, rfl, N23, (Keep.trans ((Keep.refl h0 []).ext E2) K14 (allS (Or.inr (Nat.le_of_eq g2.symm)) all0)), (Nat.le_of_eq g2.symm), f24, f19, f20, f21, f22⟩
def Q10_16 (Z : State) (a1 a7 a15 : Addr) (h0 : Heap) (n0 : Nat) (v : Option Value) (h : Heap) (L : List Loc) : Prop := ∃ b2 : Addr, v = some (.ref b2) ∧ Fr n0 L ∧ Keep h0 h [] ∧ h0.size ≤ b2 ∧ Exa Z h b2 zs8 ∧ Fld Z h b2 zs8 "unit" zs1 (.ref a7) ∧ Fld Z h b2 zs8 "first" zs9 .null ∧ Fld Z h b2 zs8 "last" zs9 .null ∧ Fld Z h b2 zs8 "anchor" zs5 (.ref a15)
set_option maxRecDepth 65536 in
set_option maxHeartbeats 40000000 in
theorem rm10_16 (l : Launch) (Z : State) (a0 : Array Value) (hw : ∀ d ∈ tables_1, d.before a0 Z = true) (ws : List Jvm.Cond) (a1 a7 a15 : Addr) (h0 : Heap) (n0 : Nat) (Z0 : n0 ≤ h0.size) (F8 : Fld Z h0 a1 zs8 "unit" zs1 (.ref a7)) (F11 : Fld Z h0 a1 zs8 "last" zs9 .null) (F16 : Sta Z h0 zs4 "MIDDLE" zs5 (.ref a15)) :
    MetFree l zm8 (head1 (Jvm.Cond.code zm8 prog_3_method_11_code 1 (some (.object zs8)) :: ws) ({ frames := 4, cells := 1, slots := 4, locals := 56 } : Room)) (fun a U => a = #[(.ref a1)] ∧ Z.Warmed39 U.vm ∧ U.heap = h0) (fun _ _ _ _ _ => True) (fun _ U o U' => ∃ v L, o = .returned v ∧ Q10_16 Z a1 a7 a15 h0 n0 v U'.heap L ∧ FrameEnd U o U' L ({ frames := 4, cells := 1, slots := 4, locals := 56 } : Room).cells ({ frames := 4, cells := 1, slots := 4, locals := 56 } : Room).slots) := by
  refine MetFree.of_bodySF (plainFor_of_name pn_2) hisR ?_
  intro p e s m args below meth c s₁ Bd hml0 hP hK
  obtain ⟨rfl, hZ, hh⟩ := hP
  have hx := Bd.exec
  have hby := Bd.bytes
  have hml : c.maxLocals = 1 := hml0
  have hown : s.vm.findClass zs8 = some m.cls := findClass_of_methodNamed Bd.named
  have hnm := (name_of_methodNamed Bd.named Bd.method).1
  have X0 : Stand p l e ({ frames := 4, cells := 1, slots := 4, locals := 56 } : Room) s m #[(.ref a1)] below meth c s₁ [] 0 0 := Stand.of_body Bd
  have e0 : s₁.heap = h0 := by rw [← hh, Bd.state]; rfl
  have N0 := Fr.nil n0
  refine own_pre (g' := mkF m 0 (lc13 a1) []) (ef_1 m a1) ?_
  obtain ⟨T2, h2, X2, e2, E2, A2, D2, -, st2⟩ := newO X0 hx hZ hown (ww hw 46 rfl) (ww hw 9 rfl) (ww hw 10 rfl) e0 (g := (mkF m 0 (lc13 a1) [])) rfl (hb hby d10_0) (by decide) (by decide)
  obtain ⟨b2, g2⟩ : ∃ z, z = h0.size := ⟨_, rfl⟩
  rw [← g2] at A2 D2 st2
  have f3 : Fld Z h2 b2 zs8 "unit" zs1 .null := D2 (Or.inr (ww hw 29 rfl)) (ty := (.object zs0)) (by decide)
  have f4 : Fld Z h2 b2 zs8 "first" zs9 .null := D2 (Or.inr (ww hw 31 rfl)) (ty := (.object zs11)) (by decide)
  have f5 : Fld Z h2 b2 zs8 "last" zs9 .null := D2 (Or.inr (ww hw 33 rfl)) (ty := (.object zs11)) (by decide)
  have f6 : Fld Z h2 b2 zs8 "anchor" zs5 .null := D2 (Or.inr (ww hw 35 rfl)) (ty := (.object zs4)) (by decide)
  have f9 : Fld Z h2 a1 zs8 "unit" zs1 (.ref a7) := (Fld.ext E2 F8)
  obtain ⟨T10, X10, e10, st10⟩ := getF X2 hx hZ hown (host := "") (Or.inl (ww hw 28 rfl)) Via.refl e2 f9 (g := (mkF m 5 (lc13 a1) [(.ref a1), (.ref b2), (.ref b2)])) rfl rfl (hb hby d10_5)
  have f12 : Fld Z h2 a1 zs8 "last" zs9 .null := (Fld.ext E2 F11)
  obtain ⟨T13, X13, e13, st13⟩ := getF X10 hx hZ hown (host := "") (Or.inl (ww hw 32 rfl)) Via.refl e10 f12 (g := (mkF m 10 (lc13 a1) [(.ref a1), .null, (.ref a7), (.ref b2), (.ref b2)])) rfl rfl (hb hby d10_10)
  have f17 : Sta Z h2 zs4 "MIDDLE" zs5 (.ref a15) := (Sta.ext E2 F16)
  have g18 : n0 ≤ b2 := Nat.le_trans Z0 (Nat.le_of_eq g2.symm)
  have Z_1 : n0 ≤ h2.size := Nat.le_trans Z0 E2.1
  obtain ⟨_, T14, L14, X14, hQ14, st14⟩ := ocallI X13 hx hZ zm5 rfl hown (ww hw 47 rfl) (ww hw 48 rfl) (by decide) (ww hw 49 rfl) (ww hw 10 rfl) e13 (rm8_13 l Z a0 hw [] b2 a7 a15 h2 n0 Z_1 f17 f3 f4 f5 f6 A2 g18) (st := [.null, .null, (.ref a7), (.ref b2), (.ref b2)]) rfl 1 rfl (by decide) (pc := 13) (Ls := (lc13 a1)) hml rfl (lenOf pd_5 rfl) d10_13 hby
  obtain ⟨rfl, N14q, K14, f19, f20, f21, f22⟩ := hQ14
  have N23 := Fr.app N0 N14q
  refine own_go (U' := T14.setTop (mkF m 16 (lc13 a1) [(.ref b2)])) (fun t k => st2 _ (odup X2 hx hby d10_3 rfl (oaloadN X2 hx hby d10_4 rfl rfl (st10 _ (onull X10 hx hby d10_8 (oaloadN X10 hx hby d10_9 rfl rfl (st13 _ (st14 _ k)))))))) ?_
  have f24 : Exa Z T14.heap b2 zs8 := (A2.keep K14)
  obtain ⟨fs, hr, hrun, hended, hW, hsame⟩ := X14.leave (v := some (.ref b2)) (fun h => by rw [Bd.returns] at h; cases h)
  refine own_out ⟨_, _, ?_, hrun, hended, _, _, rfl, ?_, ⟨_, rfl⟩, hW, hsame.mono (by decide) (by decide)⟩
  · exact retOut X14 hx Bd.returns rfl (Or.inr (Or.inr (Or.inr (Or.inr ⟨rfl, rfl, rfl⟩)))) (hb hby d10_16) hr
  · show Q10_16 Z a1 a7 a15 h0 n0 _ T14.heap _
    exact ⟨b2, rfl, N23, (Keep.trans ((Keep.refl h0 []).ext E2) K14 (allS (Or.inr (Nat.le_of_eq g2.symm)) all0)), (Nat.le_of_eq g2.symm), f24, f19, f20, f21, f22⟩
def Q13_17 (Z : State) (a1 : Addr) (h0 : Heap) (n0 : Nat) (v : Option Value) (h : Heap) (L : List Loc) : Prop := v = none ∧ Fr n0 L ∧ h = h0
set_option maxRecDepth 65536 in
set_option maxHeartbeats 40000000 in
theorem rm13_17 (l : Launch) (Z : State) (a0 : Array Value) (hw : ∀ d ∈ tables_1, d.before a0 Z = true) (ws : List Jvm.Cond) (a1 : Addr) (h0 : Heap) (n0 : Nat) (Z0 : n0 ≤ h0.size) :
    MetFree l zm9 (head1 (Jvm.Cond.code zm9 jdk_18_method_1_code 1 none :: ws) ({ frames := 1, cells := 0, slots := 0, locals := 12 } : Room)) (fun a U => a = #[(.ref a1)] ∧ Z.Warmed39 U.vm ∧ U.heap = h0) (fun _ _ _ _ _ => True) (fun _ U o U' => ∃ v L, o = .returned v ∧ Q13_17 Z a1 h0 n0 v U'.heap L ∧ FrameEnd U o U' L ({ frames := 1, cells := 0, slots := 0, locals := 12 } : Room).cells ({ frames := 1, cells := 0, slots := 0, locals := 12 } : Room).slots) := by
  refine MetFree.of_bodySF (plainFor_of_name pn_3) hisR ?_
  intro p e s m args below meth c s₁ Bd hml0 hP hK
  obtain ⟨rfl, hZ, hh⟩ := hP
  have hx := Bd.exec
  have hby := Bd.bytes
  have hml : c.maxLocals = 1 := hml0
  have hown : s.vm.findClass zs17 = some m.cls := findClass_of_methodNamed Bd.named
  have hnm := (name_of_methodNamed Bd.named Bd.method).1
  have X0 : Stand p l e ({ frames := 1, cells := 0, slots := 0, locals := 12 } : Room) s m #[(.ref a1)] below meth c s₁ [] 0 0 := Stand.of_body Bd
  have e0 : s₁.heap = h0 := by rw [← hh, Bd.state]; rfl
  have N0 := Fr.nil n0
  refine own_pre (g' := mkF m 0 (lc13 a1) []) (ef_1 m a1) ?_
  obtain ⟨T2, X2, e2, st2⟩ := initO X0 hx hZ hown (ww hw 80 rfl) (ww hw 26 rfl) (ww hw 27 rfl) e0 (g := (mkF m 1 (lc13 a1) [(.ref a1)])) rfl (by rw [hml]; rfl) rfl (hb hby d13_1) (by decide) (W := 0) (by show 2 * 0 + _ ≤ _; exact Nat.le_of_eq rfl) (by decide)
  refine own_go (U' := T2.setTop (mkF m 4 (lc13 a1) [])) (fun t k => oaloadN X0 hx hby d13_0 rfl rfl (st2 _ k)) ?_
  obtain ⟨fs, hr, hrun, hended, hW, hsame⟩ := X2.leave (v := none) (fun _ => rfl)
  refine own_out ⟨_, _, ?_, hrun, hended, _, _, rfl, ?_, ⟨_, rfl⟩, hW, hsame.mono (by decide) (by decide)⟩
  · exact X2.returnOut hx Bd.returns (hb hby d13_4) hr
  · show Q13_17 Z a1 h0 n0 _ T2.heap _
    rw [e2]
    exact ⟨rfl, N0, rfl⟩
def Q12_18 (Z : State) (a1 : Addr) (q2 : Int64) (h0 : Heap) (n0 : Nat) (v : Option Value) (h : Heap) (L : List Loc) : Prop := v = none ∧ Fr n0 L ∧ Keep h0 h [a1] ∧ Fld Z h a1 zs11 "value" "J" (.long q2)
set_option maxRecDepth 65536 in
set_option maxHeartbeats 40000000 in
theorem rm12_18 (l : Launch) (Z : State) (a0 : Array Value) (hw : ∀ d ∈ tables_1, d.before a0 Z = true) (ws : List Jvm.Cond) (a1 : Addr) (q2 : Int64) (h0 : Heap) (n0 : Nat) (Z0 : n0 ≤ h0.size) (F5 : Fld Z h0 a1 zs11 "value" "J" (.long 0)) (F6 : Exa Z h0 a1 zs11) (g8 : n0 ≤ a1) :
    MetFree l zm10 (head1 (Jvm.Cond.code zm10 jdk_35_method_26_code 3 none :: ws) ({ frames := 2, cells := 0, slots := 0, locals := 24 } : Room)) (fun a U => a = #[(.ref a1), (.long q2)] ∧ Z.Warmed39 U.vm ∧ U.heap = h0) (fun _ _ _ _ _ => True) (fun _ U o U' => ∃ v L, o = .returned v ∧ Q12_18 Z a1 q2 h0 n0 v U'.heap L ∧ FrameEnd U o U' L ({ frames := 2, cells := 0, slots := 0, locals := 24 } : Room).cells ({ frames := 2, cells := 0, slots := 0, locals := 24 } : Room).slots) := by
  refine MetFree.of_bodySF (plainFor_of_name pn_4) hisR ?_
  intro p e s m args below meth c s₁ Bd hml0 hP hK
  obtain ⟨rfl, hZ, hh⟩ := hP
  have hx := Bd.exec
  have hby := Bd.bytes
  have hml : c.maxLocals = 3 := hml0
  have hown : s.vm.findClass zs11 = some m.cls := findClass_of_methodNamed Bd.named
  have hnm := (name_of_methodNamed Bd.named Bd.method).1
  have X0 : Stand p l e ({ frames := 2, cells := 0, slots := 0, locals := 24 } : Room) s m #[(.ref a1), (.long q2)] below meth c s₁ [] 0 0 := Stand.of_body Bd
  have e0 : s₁.heap = h0 := by rw [← hh, Bd.state]; rfl
  have N0 := Fr.nil n0
  refine own_pre (g' := mkF m 0 (lc25 a1 q2) []) (ef_6 m a1 q2) ?_
  obtain ⟨_, T3, L3, X3, hQ3, st3⟩ := ocallI X0 hx hZ zm9 rfl hown (ww hw 74 rfl) (ww hw 75 rfl) (by decide) (ww hw 79 rfl) (ww hw 78 rfl) e0 (rm13_17 l Z a0 hw [] a1 h0 n0 Z0 ) (st := [(.ref a1)]) rfl 0 rfl (by decide) (pc := 1) (Ls := (lc25 a1 q2)) hml rfl (lenOf pd_2 rfl) d12_1 hby
  obtain ⟨rfl, N3q, e3⟩ := hQ3
  have N4 := Fr.app N0 N3q
  obtain ⟨T7, h7, X7, e7, W7, st7⟩ := putF X3 hx hZ hown (host := "") (Or.inl (ww hw 81 rfl)) Via.refl e3 F5 F6 (Or.inr ⟨(ww hw 82 rfl), rfl, hnm⟩) (ww hw 69 rfl) (ty := .long) (by decide) rfl rfl (g := (mkF m 6 (lc25 a1 q2) [(.long q2), (.ref a1)])) rfl rfl (hb hby d12_6)
  have N9 := Fr.snoc X7 N4 g8
  have f10 : Fld Z h7 a1 zs11 "value" "J" (.long q2) := Fld.same W7 F5
  refine own_go (U' := T7.setTop (mkF m 9 (lc25 a1 q2) [])) (fun t k => oaloadN X0 hx hby d12_0 rfl rfl (st3 _ (oaloadN X3 hx hby d12_4 rfl rfl (olloadN X3 hx hby d12_5 rfl (st7 _ k))))) ?_
  obtain ⟨fs, hr, hrun, hended, hW, hsame⟩ := X7.leave (v := none) (fun _ => rfl)
  refine own_out ⟨_, _, ?_, hrun, hended, _, _, rfl, ?_, ⟨_, rfl⟩, hW, hsame.mono (by decide) (by decide)⟩
  · exact X7.returnOut hx Bd.returns (hb hby d12_9) hr
  · show Q12_18 Z a1 q2 h0 n0 _ T7.heap _
    rw [e7]
    exact ⟨rfl, N9, ((Keep.refl h0 [a1]).wr W7 (Or.inl (List.mem_of_getElem? (i := 0) rfl))), f10⟩
def Q11_19 (Z : State) (q1 : Int64) (h0 : Heap) (n0 : Nat) (v : Option Value) (h : Heap) (L : List Loc) : Prop := ∃ b3 : Addr, v = some (.ref b3) ∧ Fr n0 L ∧ Keep h0 h [] ∧ Exa Z h b3 zs11 ∧ Fld Z h b3 zs11 "value" "J" (.long q1)
set_option maxRecDepth 65536 in
set_option maxHeartbeats 40000000 in
theorem rm11_19 (l : Launch) (Z : State) (a0 : Array Value) (hw : ∀ d ∈ tables_1, d.before a0 Z = true) (ws : List Jvm.Cond) (q1 : Int64) (h0 : Heap) (n0 : Nat) (Z0 : n0 ≤ h0.size) (hc2 : q1 < (-128 : Int64)) :
    MetFree l zm11 (head1 (Jvm.Cond.code zm11 jdk_35_method_24_code 3 (some (.object zs11)) :: ws) ({ frames := 3, cells := 1, slots := 1, locals := 39 } : Room)) (fun a U => a = #[(.long q1)] ∧ Z.Warmed39 U.vm ∧ U.heap = h0) (fun _ _ _ _ _ => True) (fun _ U o U' => ∃ v L, o = .returned v ∧ Q11_19 Z q1 h0 n0 v U'.heap L ∧ FrameEnd U o U' L ({ frames := 3, cells := 1, slots := 1, locals := 39 } : Room).cells ({ frames := 3, cells := 1, slots := 1, locals := 39 } : Room).slots) := by
  refine MetFree.of_bodySF (plainFor_of_name pn_4) hisR ?_
  intro p e s m args below meth c s₁ Bd hml0 hP hK
  obtain ⟨rfl, hZ, hh⟩ := hP
  have hx := Bd.exec
  have hby := Bd.bytes
  have hml : c.maxLocals = 3 := hml0
  have hown : s.vm.findClass zs11 = some m.cls := findClass_of_methodNamed Bd.named
  have hnm := (name_of_methodNamed Bd.named Bd.method).1
  have X0 : Stand p l e ({ frames := 3, cells := 1, slots := 1, locals := 39 } : Room) s m #[(.long q1)] below meth c s₁ [] 0 0 := Stand.of_body Bd
  have e0 : s₁.heap = h0 := by rw [← hh, Bd.state]; rfl
  have N0 := Fr.nil n0
  refine own_pre (g' := mkF m 0 (lc26 q1) []) (ef_7 m q1) ?_
  refine own_go (U' := s₁.setTop (mkF m 9 (lc24 q1 128) [(.int (lcmpW q1 (-128 : Int64)))])) (fun t k => osipush X0 hx hby d11_0 (oistoreN X0 hx hby d11_3 (lc24 q1 128) rfl (olloadN X0 hx hby d11_4 rfl (X0.ldc2Long hx hown (mvT hZ (ww hw 67 rfl)) (g := (mkF m 5 (lc24 q1 128) [(.long q1)])) rfl (hb hby d11_5) _ (olcmp X0 hx hby d11_8 k))))) ?_
  obtain ⟨T3, h3, X3, e3, E3, A3, D3, -, st3⟩ := newO X0 hx hZ hown (ww hw 68 rfl) (ww hw 69 rfl) (ww hw 65 rfl) e0 (g := (mkF m 31 (lc24 q1 128) [])) rfl (hb hby d11_31) (by decide) (by decide)
  obtain ⟨b3, g3⟩ : ∃ z, z = h0.size := ⟨_, rfl⟩
  rw [← g3] at A3 D3 st3
  have f4 : Fld Z h3 b3 zs11 "value" "J" (.long 0) := D3 (Or.inr (ww hw 82 rfl)) (ty := .long) (by decide)
  have g6 : n0 ≤ b3 := Nat.le_trans Z0 (Nat.le_of_eq g3.symm)
  have Z_1 : n0 ≤ h3.size := Nat.le_trans Z0 E3.1
  obtain ⟨_, T5, L5, X5, hQ5, st5⟩ := ocallI X3 hx hZ zm10 rfl hown (ww hw 70 rfl) (ww hw 71 rfl) (by decide) (ww hw 73 rfl) (ww hw 65 rfl) e3 (rm12_18 l Z a0 hw [] b3 q1 h3 n0 Z_1 f4 A3 g6) (st := [(.long q1), (.ref b3), (.ref b3)]) rfl 1 rfl (by decide) (pc := 36) (Ls := (lc24 q1 128)) hml rfl (lenOf pd_8 rfl) d11_36 hby
  obtain ⟨rfl, N5q, K5, f7⟩ := hQ5
  have N8 := Fr.app N0 N5q
  refine own_go (U' := T5.setTop (mkF m 39 (lc24 q1 128) [(.ref b3)])) (fun t k => oifY (pc := 9) X0 hx hby d11_9 31 (own_ll_lt_t hc2) (by decide) (st3 _ (odup X3 hx hby d11_34 rfl (olloadN X3 hx hby d11_35 rfl (st5 _ k))))) ?_
  have f9 : Exa Z T5.heap b3 zs11 := (A3.keep K5)
  obtain ⟨fs, hr, hrun, hended, hW, hsame⟩ := X5.leave (v := some (.ref b3)) (fun h => by rw [Bd.returns] at h; cases h)
  refine own_out ⟨_, _, ?_, hrun, hended, _, _, rfl, ?_, ⟨_, rfl⟩, hW, hsame.mono (by decide) (by decide)⟩
  · exact retOut X5 hx Bd.returns rfl (Or.inr (Or.inr (Or.inr (Or.inr ⟨rfl, rfl, rfl⟩)))) (hb hby d11_39) hr
  · show Q11_19 Z q1 h0 n0 _ T5.heap _
    exact ⟨b3, rfl, N8, (Keep.trans ((Keep.refl h0 []).ext E3) K5 (allS (Or.inr (Nat.le_of_eq g3.symm)) all0)), f9, f7⟩
def Q11_20 (Z : State) (q1 : Int64) (h0 : Heap) (n0 : Nat) (v : Option Value) (h : Heap) (L : List Loc) : Prop := ∃ b4 : Addr, v = some (.ref b4) ∧ Fr n0 L ∧ Keep h0 h [] ∧ Exa Z h b4 zs11 ∧ Fld Z h b4 zs11 "value" "J" (.long q1)
set_option maxRecDepth 65536 in
set_option maxHeartbeats 40000000 in
theorem rm11_20 (l : Launch) (Z : State) (a0 : Array Value) (hw : ∀ d ∈ tables_1, d.before a0 Z = true) (ws : List Jvm.Cond) (q1 : Int64) (h0 : Heap) (n0 : Nat) (Z0 : n0 ≤ h0.size) (hc2 : ¬ (q1 < (-128 : Int64))) (hc3 : (127 : Int64) < q1) :
    MetFree l zm11 (head1 (Jvm.Cond.code zm11 jdk_35_method_24_code 3 (some (.object zs11)) :: ws) ({ frames := 3, cells := 1, slots := 1, locals := 39 } : Room)) (fun a U => a = #[(.long q1)] ∧ Z.Warmed39 U.vm ∧ U.heap = h0) (fun _ _ _ _ _ => True) (fun _ U o U' => ∃ v L, o = .returned v ∧ Q11_20 Z q1 h0 n0 v U'.heap L ∧ FrameEnd U o U' L ({ frames := 3, cells := 1, slots := 1, locals := 39 } : Room).cells ({ frames := 3, cells := 1, slots := 1, locals := 39 } : Room).slots) := by
  refine MetFree.of_bodySF (plainFor_of_name pn_4) hisR ?_
  intro p e s m args below meth c s₁ Bd hml0 hP hK
  obtain ⟨rfl, hZ, hh⟩ := hP
  have hx := Bd.exec
  have hby := Bd.bytes
  have hml : c.maxLocals = 3 := hml0
  have hown : s.vm.findClass zs11 = some m.cls := findClass_of_methodNamed Bd.named
  have hnm := (name_of_methodNamed Bd.named Bd.method).1
  have X0 : Stand p l e ({ frames := 3, cells := 1, slots := 1, locals := 39 } : Room) s m #[(.long q1)] below meth c s₁ [] 0 0 := Stand.of_body Bd
  have e0 : s₁.heap = h0 := by rw [← hh, Bd.state]; rfl
  have N0 := Fr.nil n0
  refine own_pre (g' := mkF m 0 (lc26 q1) []) (ef_7 m q1) ?_
  refine own_go (U' := s₁.setTop (mkF m 9 (lc24 q1 128) [(.int (lcmpW q1 (-128 : Int64)))])) (fun t k => osipush X0 hx hby d11_0 (oistoreN X0 hx hby d11_3 (lc24 q1 128) rfl (olloadN X0 hx hby d11_4 rfl (X0.ldc2Long hx hown (mvT hZ (ww hw 67 rfl)) (g := (mkF m 5 (lc24 q1 128) [(.long q1)])) rfl (hb hby d11_5) _ (olcmp X0 hx hby d11_8 k))))) ?_
  refine own_go (U' := s₁.setTop (mkF m 17 (lc24 q1 128) [(.int (lcmpW q1 (127 : Int64)))])) (fun t k => oifN X0 hx hby d11_9 (own_ll_lt_f hc2) (olloadN X0 hx hby d11_12 rfl (X0.ldc2Long hx hown (mvT hZ (ww hw 83 rfl)) (g := (mkF m 13 (lc24 q1 128) [(.long q1)])) rfl (hb hby d11_13) _ (olcmp X0 hx hby d11_16 k)))) ?_
  obtain ⟨T4, h4, X4, e4, E4, A4, D4, -, st4⟩ := newO X0 hx hZ hown (ww hw 68 rfl) (ww hw 69 rfl) (ww hw 65 rfl) e0 (g := (mkF m 31 (lc24 q1 128) [])) rfl (hb hby d11_31) (by decide) (by decide)
  obtain ⟨b4, g4⟩ : ∃ z, z = h0.size := ⟨_, rfl⟩
  rw [← g4] at A4 D4 st4
  have f5 : Fld Z h4 b4 zs11 "value" "J" (.long 0) := D4 (Or.inr (ww hw 82 rfl)) (ty := .long) (by decide)
  have g7 : n0 ≤ b4 := Nat.le_trans Z0 (Nat.le_of_eq g4.symm)
  have Z_1 : n0 ≤ h4.size := Nat.le_trans Z0 E4.1
  obtain ⟨_, T6, L6, X6, hQ6, st6⟩ := ocallI X4 hx hZ zm10 rfl hown (ww hw 70 rfl) (ww hw 71 rfl) (by decide) (ww hw 73 rfl) (ww hw 65 rfl) e4 (rm12_18 l Z a0 hw [] b4 q1 h4 n0 Z_1 f5 A4 g7) (st := [(.long q1), (.ref b4), (.ref b4)]) rfl 1 rfl (by decide) (pc := 36) (Ls := (lc24 q1 128)) hml rfl (lenOf pd_8 rfl) d11_36 hby
  obtain ⟨rfl, N6q, K6, f8⟩ := hQ6
  have N9 := Fr.app N0 N6q
  refine own_go (U' := T6.setTop (mkF m 39 (lc24 q1 128) [(.ref b4)])) (fun t k => oifY (pc := 17) X0 hx hby d11_17 31 (own_ll_gt_t hc3) (by decide) (st4 _ (odup X4 hx hby d11_34 rfl (olloadN X4 hx hby d11_35 rfl (st6 _ k))))) ?_
  have f10 : Exa Z T6.heap b4 zs11 := (A4.keep K6)
  obtain ⟨fs, hr, hrun, hended, hW, hsame⟩ := X6.leave (v := some (.ref b4)) (fun h => by rw [Bd.returns] at h; cases h)
  refine own_out ⟨_, _, ?_, hrun, hended, _, _, rfl, ?_, ⟨_, rfl⟩, hW, hsame.mono (by decide) (by decide)⟩
  · exact retOut X6 hx Bd.returns rfl (Or.inr (Or.inr (Or.inr (Or.inr ⟨rfl, rfl, rfl⟩)))) (hb hby d11_39) hr
  · show Q11_20 Z q1 h0 n0 _ T6.heap _
    exact ⟨b4, rfl, N9, (Keep.trans ((Keep.refl h0 []).ext E4) K6 (allS (Or.inr (Nat.le_of_eq g4.symm)) all0)), f10, f8⟩
def Q11_21 (Z : State) (q1 : Int64) (a4 : Addr) (h0 : Heap) (n0 : Nat) (v : Option Value) (h : Heap) (L : List Loc) : Prop := ∃ b10 : Addr, v = some (.ref b10) ∧ Fr n0 L ∧ Keep h0 h [] ∧ Exa Z h b10 zs11 ∧ Fld Z h b10 zs11 "value" "J" (.long q1)
set_option maxRecDepth 65536 in
set_option maxHeartbeats 40000000 in
theorem rm11_21 (l : Launch) (Z : State) (a0 : Array Value) (hw : ∀ d ∈ tables_1, d.before a0 Z = true) (ws : List Jvm.Cond) (q1 : Int64) (a4 : Addr) (h0 : Heap) (n0 : Nat) (Z0 : n0 ≤ h0.size) (hc2 : ¬ (q1 < (-128 : Int64))) (hc3 : ¬ ((127 : Int64) < q1)) (F5 : Sta Z h0 zs19 "cache" zs20 (.ref a4)) (F7 : own_LC Z h0 a4 n0) (hc8 : ¬ (((q1.toInt32) + (128 : Int32)) < (0 : Int32))) (hc9 : ((q1.toInt32) + (128 : Int32)) < (256 : Int32)) :
    MetFree l zm11 (head1 (Jvm.Cond.code zm11 jdk_35_method_24_code 3 (some (.object zs11)) :: ws) ({ frames := 3, cells := 1, slots := 1, locals := 39 } : Room)) (fun a U => a = #[(.long q1)] ∧ Z.Warmed39 U.vm ∧ U.heap = h0) (fun _ _ _ _ _ => True) (fun _ U o U' => ∃ v L, o = .returned v ∧ Q11_21 Z q1 a4 h0 n0 v U'.heap L ∧ FrameEnd U o U' L ({ frames := 3, cells := 1, slots := 1, locals := 39 } : Room).cells ({ frames := 3, cells := 1, slots := 1, locals := 39 } : Room).slots) := by
  refine MetFree.of_bodySF (plainFor_of_name pn_4) hisR ?_
  intro p e s m args below meth c s₁ Bd hml0 hP hK
  obtain ⟨rfl, hZ, hh⟩ := hP
  have hx := Bd.exec
  have hby := Bd.bytes
  have hml : c.maxLocals = 3 := hml0
  have hown : s.vm.findClass zs11 = some m.cls := findClass_of_methodNamed Bd.named
  have hnm := (name_of_methodNamed Bd.named Bd.method).1
  have X0 : Stand p l e ({ frames := 3, cells := 1, slots := 1, locals := 39 } : Room) s m #[(.long q1)] below meth c s₁ [] 0 0 := Stand.of_body Bd
  have e0 : s₁.heap = h0 := by rw [← hh, Bd.state]; rfl
  have N0 := Fr.nil n0
  refine own_pre (g' := mkF m 0 (lc26 q1) []) (ef_7 m q1) ?_
  refine own_go (U' := s₁.setTop (mkF m 9 (lc24 q1 128) [(.int (lcmpW q1 (-128 : Int64)))])) (fun t k => osipush X0 hx hby d11_0 (oistoreN X0 hx hby d11_3 (lc24 q1 128) rfl (olloadN X0 hx hby d11_4 rfl (X0.ldc2Long hx hown (mvT hZ (ww hw 67 rfl)) (g := (mkF m 5 (lc24 q1 128) [(.long q1)])) rfl (hb hby d11_5) _ (olcmp X0 hx hby d11_8 k))))) ?_
  refine own_go (U' := s₁.setTop (mkF m 17 (lc24 q1 128) [(.int (lcmpW q1 (127 : Int64)))])) (fun t k => oifN X0 hx hby d11_9 (own_ll_lt_f hc2) (olloadN X0 hx hby d11_12 rfl (X0.ldc2Long hx hown (mvT hZ (ww hw 83 rfl)) (g := (mkF m 13 (lc24 q1 128) [(.long q1)])) rfl (hb hby d11_13) _ (olcmp X0 hx hby d11_16 k)))) ?_
  obtain ⟨T6, X6, e6, st6⟩ := getS2 X0 hx hZ hown (host := "") (Or.inl (ww hw 98 rfl)) Via.refl e0 F5 (g := (mkF m 20 (lc24 q1 128) [])) rfl (hb hby d11_20)
  obtain ⟨cl10, Ar10, S10, -, M10⟩ := id F7
  obtain ⟨b10, hat10, -, E10, F10⟩ := M10 ((q1.toInt32) + (128 : Int32)) hc8 hc9
  have hin10 : ¬ (((q1.toInt32) + (128 : Int32)) < 0 ∨ cl10.slots.size ≤ (((q1.toInt32) + (128 : Int32))).toNatClampNeg) := inb_of S10 ⟨hc8, hc9⟩
  have f11 : Fld Z h0 b10 zs11 "value" "J" (.long q1) := by rw [own_lcq hc2 hc3] at F10; exact F10
  refine own_go (U' := T6.setTop (mkF m 30 (lc24 q1 128) [(.ref b10)])) (fun t k => oifN X0 hx hby d11_17 (own_ll_gt_f hc3) (st6 _ (olloadN X6 hx hby d11_23 rfl (ol2i X6 hx hby d11_24 (osipush X6 hx hby d11_25 (oiadd X6 hx hby d11_28 (X6.aaload hx (j := ((q1.toInt32) + (128 : Int32))) (v := (.ref b10)) (own_at e6 Ar10.1) (State.isArrayOf_alike hZ.alike Ar10.2.1) rfl Ar10.2.2 hin10 hat10 (g := (mkF m 29 (lc24 q1 128) [(.int ((q1.toInt32) + (128 : Int32))), (.ref a4)])) rfl rfl (hb hby d11_29) _ k))))))) ?_
  obtain ⟨fs, hr, hrun, hended, hW, hsame⟩ := X6.leave (v := some (.ref b10)) (fun h => by rw [Bd.returns] at h; cases h)
  refine own_out ⟨_, _, ?_, hrun, hended, _, _, rfl, ?_, ⟨_, rfl⟩, hW, hsame.mono (by decide) (by decide)⟩
  · exact retOut X6 hx Bd.returns rfl (Or.inr (Or.inr (Or.inr (Or.inr ⟨rfl, rfl, rfl⟩)))) (hb hby d11_30) hr
  · show Q11_21 Z q1 a4 h0 n0 _ T6.heap _
    rw [e6]
    exact ⟨b10, rfl, N0, (Keep.refl h0 []), E10, f11⟩
def Qmg11_22 (Z : State) (q1 : Int64) (a2 : Addr) (h0 : Heap) (n0 : Nat) (v : Option Value) (h : Heap) (L : List Loc) : Prop := ∃ b3 : Addr, v = some (.ref b3) ∧ Fr n0 L ∧ Keep h0 h [] ∧ Exa Z h b3 zs11 ∧ Fld Z h b3 zs11 "value" "J" (.long q1)
theorem mg11_22 (l : Launch) (Z : State) (a0 : Array Value) (hw : ∀ d ∈ tables_1, d.before a0 Z = true) (ws : List Jvm.Cond) (q1 : Int64) (a2 : Addr) (h0 : Heap) (n0 : Nat) (Z0 : n0 ≤ h0.size) (F3 : Sta Z h0 zs19 "cache" zs20 (.ref a2)) (F4 : own_LC Z h0 a2 n0) :
    MetFree l zm11 (head1 (Jvm.Cond.code zm11 jdk_35_method_24_code 3 (some (.object zs11)) :: ws) ({ frames := 3, cells := 1, slots := 1, locals := 39 } : Room)) (fun a U => a = #[(.long q1)] ∧ Z.Warmed39 U.vm ∧ U.heap = h0) (fun _ _ _ _ _ => True) (fun _ U o U' => ∃ v L, o = .returned v ∧ Qmg11_22 Z q1 a2 h0 n0 v U'.heap L ∧ FrameEnd U o U' L ({ frames := 3, cells := 1, slots := 1, locals := 39 } : Room).cells ({ frames := 3, cells := 1, slots := 1, locals := 39 } : Room).slots) := by
  by_cases hm1 : q1 < (-128 : Int64)
  · exact rm11_19 l Z a0 hw ws q1 h0 n0 Z0 hm1
  · by_cases hm2 : (127 : Int64) < q1
    · exact rm11_20 l Z a0 hw ws q1 h0 n0 Z0 hm1 hm2
    · exact rm11_21 l Z a0 hw ws q1 a2 h0 n0 Z0 hm1 hm2 F3 F4 (fun e => by have := Int32.lt_iff_toInt_lt.mp e; have : ¬ (q1).toInt < ((-128 : Int64)).toInt := fun e => hm1 (Int64.lt_iff_toInt_lt.mpr e); have : ¬ ((127 : Int64)).toInt < (q1).toInt := fun e => hm2 (Int64.lt_iff_toInt_lt.mpr e); have := rng64 q1; have := c_l2i q1; have := rng32 (q1.toInt32); have := (by decide : ((128 : Int32)).toInt = 128); have := c_iadd (q1.toInt32) (128 : Int32); have := rng32 ((q1.toInt32) + (128 : Int32)); have := (by decide : ((0 : Int32)).toInt = 0); have := (by decide : ((-128 : Int64)).toInt = -128); have := (by decide : ((127 : Int64)).toInt = 127); omega) (Int32.lt_iff_toInt_lt.mpr (by have : ¬ (q1).toInt < ((-128 : Int64)).toInt := fun e => hm1 (Int64.lt_iff_toInt_lt.mpr e); have : ¬ ((127 : Int64)).toInt < (q1).toInt := fun e => hm2 (Int64.lt_iff_toInt_lt.mpr e); have := rng64 q1; have := c_l2i q1; have := rng32 (q1.toInt32); have := (by decide : ((128 : Int32)).toInt = 128); have := c_iadd (q1.toInt32) (128 : Int32); have := rng32 ((q1.toInt32) + (128 : Int32)); have := (by decide : ((256 : Int32)).toInt = 256); have := (by decide : ((-128 : Int64)).toInt = -128); have := (by decide : ((127 : Int64)).toInt = 127); omega))
def Q3_23 (Z : State) (a1 a2 a3 a4 : Addr) (h0 : Heap) (n0 : Nat) (v : Option Value) (h : Heap) (L : List Loc) : Prop := v = none ∧ Fr n0 L ∧ Keep h0 h [a1] ∧ Fld Z h a1 zs8 "unit" zs1 (.ref a2) ∧ Fld Z h a1 zs8 "first" zs9 .null ∧ Fld Z h a1 zs8 "last" zs9 (.ref a3) ∧ Fld Z h a1 zs8 "anchor" zs5 (.ref a4)
set_option maxRecDepth 65536 in
set_option maxHeartbeats 40000000 in
theorem rm3_23 (l : Launch) (Z : State) (a0 : Array Value) (hw : ∀ d ∈ tables_1, d.before a0 Z = true) (ws : List Jvm.Cond) (a1 a2 a3 a4 : Addr) (h0 : Heap) (n0 : Nat) (Z0 : n0 ≤ h0.size) (F7 : Fld Z h0 a1 zs8 "unit" zs1 .null) (F8 : Fld Z h0 a1 zs8 "first" zs9 .null) (F9 : Fld Z h0 a1 zs8 "last" zs9 .null) (F10 : Fld Z h0 a1 zs8 "anchor" zs5 .null) (F11 : Exa Z h0 a1 zs8) (g13 : n0 ≤ a1) :
    MetFree l zm3 (head1 (Jvm.Cond.code zm3 prog_3_method_2_code 5 none :: ws) ({ frames := 2, cells := 0, slots := 0, locals := 24 } : Room)) (fun a U => a = #[(.ref a1), (.ref a2), .null, (.ref a3), (.ref a4)] ∧ Z.Warmed39 U.vm ∧ U.heap = h0) (fun _ _ _ _ _ => True) (fun _ U o U' => ∃ v L, o = .returned v ∧ Q3_23 Z a1 a2 a3 a4 h0 n0 v U'.heap L ∧ FrameEnd U o U' L ({ frames := 2, cells := 0, slots := 0, locals := 24 } : Room).cells ({ frames := 2, cells := 0, slots := 0, locals := 24 } : Room).slots) := by
  refine MetFree.of_bodySF (plainFor_of_name pn_2) hisR ?_
  intro p e s m args below meth c s₁ Bd hml0 hP hK
  obtain ⟨rfl, hZ, hh⟩ := hP
  have hx := Bd.exec
  have hby := Bd.bytes
  have hml : c.maxLocals = 5 := hml0
  have hown : s.vm.findClass zs8 = some m.cls := findClass_of_methodNamed Bd.named
  have hnm := (name_of_methodNamed Bd.named Bd.method).1
  have X0 : Stand p l e ({ frames := 2, cells := 0, slots := 0, locals := 24 } : Room) s m #[(.ref a1), (.ref a2), .null, (.ref a3), (.ref a4)] below meth c s₁ [] 0 0 := Stand.of_body Bd
  have e0 : s₁.heap = h0 := by rw [← hh, Bd.state]; rfl
  have N0 := Fr.nil n0
  refine own_pre (g' := mkF m 0 (lc30 a1 a2 a3 a4) []) (ef_8 m a1 a2 a3 a4) ?_
  obtain ⟨_, T5, L5, X5, hQ5, st5⟩ := ocallI X0 hx hZ zm2 rfl hown (ww hw 20 rfl) (ww hw 21 rfl) (by decide) (ww hw 24 rfl) (ww hw 23 rfl) e0 (rm4_10 l Z a0 hw [] a1 h0 n0 Z0 ) (st := [(.ref a1)]) rfl 0 rfl (by decide) (pc := 1) (Ls := (lc30 a1 a2 a3 a4)) hml rfl (lenOf pd_2 rfl) d3_1 hby
  obtain ⟨rfl, N5q, e5⟩ := hQ5
  have N6 := Fr.app N0 N5q
  obtain ⟨T12, h12, X12, e12, W12, st12⟩ := putF X5 hx hZ hown (host := "") (Or.inl (ww hw 28 rfl)) Via.refl e5 F7 F11 (Or.inr ⟨(ww hw 29 rfl), rfl, hnm⟩) (ww hw 9 rfl) (ty := (.object zs0)) (by decide) rfl rfl (g := (mkF m 6 (lc30 a1 a2 a3 a4) [(.ref a2), (.ref a1)])) rfl rfl (hb hby d3_6)
  have N14 := Fr.snoc X12 N6 g13
  have f15 : Fld Z h12 a1 zs8 "unit" zs1 (.ref a2) := Fld.same W12 F7
  have f16 : Fld Z h12 a1 zs8 "first" zs9 .null := (Fld.other W12 F8 (Or.inr (slot_ne (Or.inr (ww hw 31 rfl)) (Or.inr (ww hw 29 rfl)) (by decide) (t := (.object zs11)) (t' := (.object zs0)) (by decide) (by decide))))
  have f17 : Exa Z h12 a1 zs8 := (Exa.wr W12 F11)
  obtain ⟨T18, h18, X18, e18, W18, st18⟩ := putF X12 hx hZ hown (host := "") (Or.inl (ww hw 30 rfl)) Via.refl e12 f16 f17 (Or.inr ⟨(ww hw 31 rfl), rfl, hnm⟩) (ww hw 9 rfl) (ty := (.object zs11)) (by decide) rfl rfl (g := (mkF m 11 (lc30 a1 a2 a3 a4) [.null, (.ref a1)])) rfl rfl (hb hby d3_11)
  have N19 := Fr.snoc X18 N14 g13
  have f20 : Fld Z h18 a1 zs8 "first" zs9 .null := Fld.same W18 f16
  have f21 : Fld Z h18 a1 zs8 "last" zs9 .null := (Fld.other W18 (Fld.other W12 F9 (Or.inr (slot_ne (Or.inr (ww hw 33 rfl)) (Or.inr (ww hw 29 rfl)) (by decide) (t := (.object zs11)) (t' := (.object zs0)) (by decide) (by decide)))) (Or.inr (slot_ne (Or.inr (ww hw 33 rfl)) (Or.inr (ww hw 31 rfl)) (by decide) (t := (.object zs11)) (t' := (.object zs11)) (by decide) (by decide))))
  have f22 : Exa Z h18 a1 zs8 := (Exa.wr W18 f17)
  obtain ⟨T23, h23, X23, e23, W23, st23⟩ := putF X18 hx hZ hown (host := "") (Or.inl (ww hw 32 rfl)) Via.refl e18 f21 f22 (Or.inr ⟨(ww hw 33 rfl), rfl, hnm⟩) (ww hw 9 rfl) (ty := (.object zs11)) (by decide) rfl rfl (g := (mkF m 16 (lc30 a1 a2 a3 a4) [(.ref a3), (.ref a1)])) rfl rfl (hb hby d3_16)
  have N24 := Fr.snoc X23 N19 g13
  have f25 : Fld Z h23 a1 zs8 "last" zs9 (.ref a3) := Fld.same W23 f21
  have f26 : Fld Z h23 a1 zs8 "anchor" zs5 .null := (Fld.other W23 (Fld.other W18 (Fld.other W12 F10 (Or.inr (slot_ne (Or.inr (ww hw 35 rfl)) (Or.inr (ww hw 29 rfl)) (by decide) (t := (.object zs4)) (t' := (.object zs0)) (by decide) (by decide)))) (Or.inr (slot_ne (Or.inr (ww hw 35 rfl)) (Or.inr (ww hw 31 rfl)) (by decide) (t := (.object zs4)) (t' := (.object zs11)) (by decide) (by decide)))) (Or.inr (slot_ne (Or.inr (ww hw 35 rfl)) (Or.inr (ww hw 33 rfl)) (by decide) (t := (.object zs4)) (t' := (.object zs11)) (by decide) (by decide))))
  have f27 : Exa Z h23 a1 zs8 := (Exa.wr W23 f22)
  obtain ⟨T28, h28, X28, e28, W28, st28⟩ := putF X23 hx hZ hown (host := "") (Or.inl (ww hw 34 rfl)) Via.refl e23 f26 f27 (Or.inr ⟨(ww hw 35 rfl), rfl, hnm⟩) (ww hw 9 rfl) (ty := (.object zs4)) (by decide) rfl rfl (g := (mkF m 22 (lc30 a1 a2 a3 a4) [(.ref a4), (.ref a1)])) rfl rfl (hb hby d3_22)
  have N29 := Fr.snoc X28 N24 g13
  have f30 : Fld Z h28 a1 zs8 "anchor" zs5 (.ref a4) := Fld.same W28 f26
  refine own_go (U' := T28.setTop (mkF m 25 (lc30 a1 a2 a3 a4) [])) (fun t k => oaloadN X0 hx hby d3_0 rfl rfl (st5 _ (oaloadN X5 hx hby d3_4 rfl rfl (oaloadN X5 hx hby d3_5 rfl rfl (st12 _ (oaloadN X12 hx hby d3_9 rfl rfl (oaloadN X12 hx hby d3_10 rfl rfl (st18 _ (oaloadN X18 hx hby d3_14 rfl rfl (oaloadN X18 hx hby d3_15 rfl rfl (st23 _ (oaloadN X23 hx hby d3_19 rfl rfl (oaload X23 hx hby d3_20 rfl rfl (st28 _ k)))))))))))))) ?_
  have f31 : Fld Z h28 a1 zs8 "unit" zs1 (.ref a2) := (Fld.other W28 (Fld.other W23 (Fld.other W18 f15 (Or.inr (slot_ne (Or.inr (ww hw 29 rfl)) (Or.inr (ww hw 31 rfl)) (by decide) (t := (.object zs0)) (t' := (.object zs11)) (by decide) (by decide)))) (Or.inr (slot_ne (Or.inr (ww hw 29 rfl)) (Or.inr (ww hw 33 rfl)) (by decide) (t := (.object zs0)) (t' := (.object zs11)) (by decide) (by decide)))) (Or.inr (slot_ne (Or.inr (ww hw 29 rfl)) (Or.inr (ww hw 35 rfl)) (by decide) (t := (.object zs0)) (t' := (.object zs4)) (by decide) (by decide))))
  have f32 : Fld Z h28 a1 zs8 "first" zs9 .null := (Fld.other W28 (Fld.other W23 f20 (Or.inr (slot_ne (Or.inr (ww hw 31 rfl)) (Or.inr (ww hw 33 rfl)) (by decide) (t := (.object zs11)) (t' := (.object zs11)) (by decide) (by decide)))) (Or.inr (slot_ne (Or.inr (ww hw 31 rfl)) (Or.inr (ww hw 35 rfl)) (by decide) (t := (.object zs11)) (t' := (.object zs4)) (by decide) (by decide))))
  have f33 : Fld Z h28 a1 zs8 "last" zs9 (.ref a3) := (Fld.other W28 f25 (Or.inr (slot_ne (Or.inr (ww hw 33 rfl)) (Or.inr (ww hw 35 rfl)) (by decide) (t := (.object zs11)) (t' := (.object zs4)) (by decide) (by decide))))
  obtain ⟨fs, hr, hrun, hended, hW, hsame⟩ := X28.leave (v := none) (fun _ => rfl)
  refine own_out ⟨_, _, ?_, hrun, hended, _, _, rfl, ?_, ⟨_, rfl⟩, hW, hsame.mono (by decide) (by decide)⟩
  · exact X28.returnOut hx Bd.returns (hb hby d3_25) hr
  · show Q3_23 Z a1 a2 a3 a4 h0 n0 _ T28.heap _
    rw [e28]
    exact ⟨rfl, N29, (((((Keep.refl h0 [a1]).wr W12 (Or.inl (List.mem_of_getElem? (i := 0) rfl))).wr W18 (Or.inl (List.mem_of_getElem? (i := 0) rfl))).wr W23 (Or.inl (List.mem_of_getElem? (i := 0) rfl))).wr W28 (Or.inl (List.mem_of_getElem? (i := 0) rfl))), f31, f32, f33, f30⟩
def Q8_24 (Z : State) (a1 a2 a3 a4 : Addr) (h0 : Heap) (n0 : Nat) (v : Option Value) (h : Heap) (L : List Loc) : Prop := v = none ∧ Fr n0 L ∧ Keep h0 h [a1] ∧ Fld Z h a1 zs8 "unit" zs1 (.ref a2) ∧ Fld Z h a1 zs8 "first" zs9 .null ∧ Fld Z h a1 zs8 "last" zs9 (.ref a3) ∧ Fld Z h a1 zs8 "anchor" zs5 (.ref a4)
set_option maxRecDepth 65536 in
set_option maxHeartbeats 40000000 in
theorem rm8_24 (l : Launch) (Z : State) (a0 : Array Value) (hw : ∀ d ∈ tables_1, d.before a0 Z = true) (ws : List Jvm.Cond) (a1 a2 a3 a4 : Addr) (h0 : Heap) (n0 : Nat) (Z0 : n0 ≤ h0.size) (F5 : Sta Z h0 zs4 "MIDDLE" zs5 (.ref a4)) (F8 : Fld Z h0 a1 zs8 "unit" zs1 .null) (F9 : Fld Z h0 a1 zs8 "first" zs9 .null) (F10 : Fld Z h0 a1 zs8 "last" zs9 .null) (F11 : Fld Z h0 a1 zs8 "anchor" zs5 .null) (F12 : Exa Z h0 a1 zs8) (g13 : n0 ≤ a1) :
    MetFree l zm5 (head1 (Jvm.Cond.code zm5 prog_3_method_1_code 4 none :: ws) ({ frames := 3, cells := 0, slots := 0, locals := 40 } : Room)) (fun a U => a = #[(.ref a1), (.ref a2), .null, (.ref a3)] ∧ Z.Warmed39 U.vm ∧ U.heap = h0) (fun _ _ _ _ _ => True) (fun _ U o U' => ∃ v L, o = .returned v ∧ Q8_24 Z a1 a2 a3 a4 h0 n0 v U'.heap L ∧ FrameEnd U o U' L ({ frames := 3, cells := 0, slots := 0, locals := 40 } : Room).cells ({ frames := 3, cells := 0, slots := 0, locals := 40 } : Room).slots) := by
  refine MetFree.of_bodySF (plainFor_of_name pn_2) hisR ?_
  intro p e s m args below meth c s₁ Bd hml0 hP hK
  obtain ⟨rfl, hZ, hh⟩ := hP
  have hx := Bd.exec
  have hby := Bd.bytes
  have hml : c.maxLocals = 4 := hml0
  have hown : s.vm.findClass zs8 = some m.cls := findClass_of_methodNamed Bd.named
  have hnm := (name_of_methodNamed Bd.named Bd.method).1
  have X0 : Stand p l e ({ frames := 3, cells := 0, slots := 0, locals := 40 } : Room) s m #[(.ref a1), (.ref a2), .null, (.ref a3)] below meth c s₁ [] 0 0 := Stand.of_body Bd
  have e0 : s₁.heap = h0 := by rw [← hh, Bd.state]; rfl
  have N0 := Fr.nil n0
  refine own_pre (g' := mkF m 0 (lc34 a1 a2 a3) []) (ef_9 m a1 a2 a3) ?_
  obtain ⟨T6, X6, e6, st6⟩ := getS2 X0 hx hZ hown (host := "") (Or.inl (ww hw 50 rfl)) Via.refl e0 F5 (g := (mkF m 4 (lc34 a1 a2 a3) [(.ref a3), .null, (.ref a2), (.ref a1)])) rfl (hb hby d8_4)
  obtain ⟨_, T7, L7, X7, hQ7, st7⟩ := ocallI X6 hx hZ zm3 rfl hown (ww hw 52 rfl) (ww hw 18 rfl) (by decide) (ww hw 19 rfl) (ww hw 10 rfl) e6 (rm3_23 l Z a0 hw [] a1 a2 a3 a4 h0 n0 Z0 F8 F9 F10 F11 F12 g13) (st := [(.ref a4), (.ref a3), .null, (.ref a2), (.ref a1)]) rfl 0 rfl (by decide) (pc := 7) (Ls := (lc34 a1 a2 a3)) hml rfl (lenOf pd_3 rfl) d8_7 hby
  obtain ⟨rfl, N7q, K7, f14, f15, f16, f17⟩ := hQ7
  have N18 := Fr.app N0 N7q
  refine own_go (U' := T7.setTop (mkF m 10 (lc34 a1 a2 a3) [])) (fun t k => oaloadN X0 hx hby d8_0 rfl rfl (oaloadN X0 hx hby d8_1 rfl rfl (oaloadN X0 hx hby d8_2 rfl rfl (oaloadN X0 hx hby d8_3 rfl rfl (st6 _ (st7 _ k)))))) ?_
  obtain ⟨fs, hr, hrun, hended, hW, hsame⟩ := X7.leave (v := none) (fun _ => rfl)
  refine own_out ⟨_, _, ?_, hrun, hended, _, _, rfl, ?_, ⟨_, rfl⟩, hW, hsame.mono (by decide) (by decide)⟩
  · exact X7.returnOut hx Bd.returns (hb hby d8_10) hr
  · show Q8_24 Z a1 a2 a3 a4 h0 n0 _ T7.heap _
    exact ⟨rfl, N18, (Keep.trans (Keep.refl h0 [a1]) K7 (allS (Or.inl (List.mem_of_getElem? (i := 0) rfl)) all0)), f14, f15, f16, f17⟩
def Q7_25 (Z : State) (a1 a2 a9 a17 a22 : Addr) (h0 : Heap) (n0 : Nat) (v : Option Value) (h : Heap) (L : List Loc) : Prop := ∃ b12 : Addr, v = some (.ref b12) ∧ Fr n0 L ∧ Keep h0 h [] ∧ h0.size ≤ b12 ∧ Exa Z h b12 zs8 ∧ Fld Z h b12 zs8 "unit" zs1 (.ref a17) ∧ Fld Z h b12 zs8 "first" zs9 .null ∧ Fld Z h b12 zs8 "last" zs9 (.ref a9) ∧ Fld Z h b12 zs8 "anchor" zs5 (.ref a22)
set_option maxRecDepth 65536 in
set_option maxHeartbeats 40000000 in
theorem rm7_25 (l : Launch) (Z : State) (a0 : Array Value) (hw : ∀ d ∈ tables_1, d.before a0 Z = true) (ws : List Jvm.Cond) (a1 a2 a9 a17 a22 : Addr) (h0 : Heap) (n0 : Nat) (Z0 : n0 ≤ h0.size) (F3 : Fld Z h0 a1 zs8 "first" zs9 .null) (F5 : Fld Z h0 a2 zs8 "first" zs9 .null) (F7 : Fld Z h0 a1 zs8 "last" zs9 .null) (F10 : Fld Z h0 a2 zs8 "last" zs9 (.ref a9)) (F18 : Fld Z h0 a1 zs8 "unit" zs1 (.ref a17)) (F23 : Sta Z h0 zs4 "MIDDLE" zs5 (.ref a22)) :
    MetFree l zm6 (head1 (Jvm.Cond.code zm6 prog_3_method_17_code 4 (some (.object zs8)) :: ws) ({ frames := 4, cells := 1, slots := 4, locals := 56 } : Room)) (fun a U => a = #[(.ref a1), (.ref a2)] ∧ Z.Warmed39 U.vm ∧ U.heap = h0) (fun _ _ _ _ _ => True) (fun _ U o U' => ∃ v L, o = .returned v ∧ Q7_25 Z a1 a2 a9 a17 a22 h0 n0 v U'.heap L ∧ FrameEnd U o U' L ({ frames := 4, cells := 1, slots := 4, locals := 56 } : Room).cells ({ frames := 4, cells := 1, slots := 4, locals := 56 } : Room).slots) := by
  refine MetFree.of_bodySF (plainFor_of_name pn_2) hisR ?_
  intro p e s m args below meth c s₁ Bd hml0 hP hK
  obtain ⟨rfl, hZ, hh⟩ := hP
  have hx := Bd.exec
  have hby := Bd.bytes
  have hml : c.maxLocals = 4 := hml0
  have hown : s.vm.findClass zs8 = some m.cls := findClass_of_methodNamed Bd.named
  have hnm := (name_of_methodNamed Bd.named Bd.method).1
  have X0 : Stand p l e ({ frames := 4, cells := 1, slots := 4, locals := 56 } : Room) s m #[(.ref a1), (.ref a2)] below meth c s₁ [] 0 0 := Stand.of_body Bd
  have e0 : s₁.heap = h0 := by rw [← hh, Bd.state]; rfl
  have N0 := Fr.nil n0
  refine own_pre (g' := mkF m 0 (lc18 a1 a2) []) (ef_4 m a1 a2) ?_
  obtain ⟨T4, X4, e4, st4⟩ := getF X0 hx hZ hown (host := "") (Or.inl (ww hw 30 rfl)) Via.refl e0 F3 (g := (mkF m 1 (lc18 a1 a2) [(.ref a1)])) rfl rfl (hb hby d7_1)
  obtain ⟨T6, X6, e6, st6⟩ := getF X4 hx hZ hown (host := "") (Or.inl (ww hw 30 rfl)) Via.refl e4 F5 (g := (mkF m 33 (lc18 a1 a2) [(.ref a2)])) rfl rfl (hb hby d7_33)
  obtain ⟨T8, X8, e8, st8⟩ := getF X6 hx hZ hown (host := "") (Or.inl (ww hw 32 rfl)) Via.refl e6 F7 (g := (mkF m 45 (lc19 a1 a2) [(.ref a1)])) rfl rfl (hb hby d7_45)
  obtain ⟨T11, X11, e11, st11⟩ := getF X8 hx hZ hown (host := "") (Or.inl (ww hw 32 rfl)) Via.refl e8 F10 (g := (mkF m 77 (lc19 a1 a2) [(.ref a2)])) rfl rfl (hb hby d7_77)
  obtain ⟨T12, h12, X12, e12, E12, A12, D12, -, st12⟩ := newO X11 hx hZ hown (ww hw 46 rfl) (ww hw 9 rfl) (ww hw 10 rfl) e11 (g := (mkF m 88 (lc34 a1 a2 a9) [])) rfl (hb hby d7_88) (by decide) (by decide)
  obtain ⟨b12, g12⟩ : ∃ z, z = h0.size := ⟨_, rfl⟩
  rw [← g12] at A12 D12 st12
  have f13 : Fld Z h12 b12 zs8 "unit" zs1 .null := D12 (Or.inr (ww hw 29 rfl)) (ty := (.object zs0)) (by decide)
  have f14 : Fld Z h12 b12 zs8 "first" zs9 .null := D12 (Or.inr (ww hw 31 rfl)) (ty := (.object zs11)) (by decide)
  have f15 : Fld Z h12 b12 zs8 "last" zs9 .null := D12 (Or.inr (ww hw 33 rfl)) (ty := (.object zs11)) (by decide)
  have f16 : Fld Z h12 b12 zs8 "anchor" zs5 .null := D12 (Or.inr (ww hw 35 rfl)) (ty := (.object zs4)) (by decide)
  have f19 : Fld Z h12 a1 zs8 "unit" zs1 (.ref a17) := (Fld.ext E12 F18)
  obtain ⟨T20, X20, e20, st20⟩ := getF X12 hx hZ hown (host := "") (Or.inl (ww hw 28 rfl)) Via.refl e12 f19 (g := (mkF m 93 (lc34 a1 a2 a9) [(.ref a1), (.ref b12), (.ref b12)])) rfl rfl (hb hby d7_93)
  have f24 : Sta Z h12 zs4 "MIDDLE" zs5 (.ref a22) := (Sta.ext E12 F23)
  have g25 : n0 ≤ b12 := Nat.le_trans Z0 (Nat.le_of_eq g12.symm)
  have Z_1 : n0 ≤ h12.size := Nat.le_trans Z0 E12.1
  obtain ⟨_, T21, L21, X21, hQ21, st21⟩ := ocallI X20 hx hZ zm5 rfl hown (ww hw 47 rfl) (ww hw 48 rfl) (by decide) (ww hw 49 rfl) (ww hw 10 rfl) e20 (rm8_24 l Z a0 hw [] b12 a17 a9 a22 h12 n0 Z_1 f24 f13 f14 f15 f16 A12 g25) (st := [(.ref a9), .null, (.ref a17), (.ref b12), (.ref b12)]) rfl 1 rfl (by decide) (pc := 98) (Ls := (lc34 a1 a2 a9)) hml rfl (lenOf pd_5 rfl) d7_98 hby
  obtain ⟨rfl, N21q, K21, f26, f27, f28, f29⟩ := hQ21
  have N30 := Fr.app N0 N21q
  refine own_go (U' := T21.setTop (mkF m 101 (lc34 a1 a2 a9) [(.ref b12)])) (fun t k => oaloadN X0 hx hby d7_0 rfl rfl (st4 _ (onlY (pc := 4) X4 hx hby d7_4 32 (by decide) (oaloadN X4 hx hby d7_32 rfl rfl (st6 _ (ogoto (pc := 36) X6 hx hby d7_36 43 (by decide) (oastoreN X6 hx hby d7_43 (lc19 a1 a2) rfl rfl (oaloadN X6 hx hby d7_44 rfl rfl (st8 _ (onlY (pc := 48) X8 hx hby d7_48 76 (by decide) (oaloadN X8 hx hby d7_76 rfl rfl (st11 _ (ogoto (pc := 80) X11 hx hby d7_80 87 (by decide) (oastoreN X11 hx hby d7_87 (lc34 a1 a2 a9) rfl rfl (st12 _ (odup X12 hx hby d7_91 rfl (oaloadN X12 hx hby d7_92 rfl rfl (st20 _ (oaloadN X20 hx hby d7_96 rfl rfl (oaloadN X20 hx hby d7_97 rfl rfl (st21 _ k))))))))))))))))))))) ?_
  have f31 : Exa Z T21.heap b12 zs8 := (A12.keep K21)
  obtain ⟨fs, hr, hrun, hended, hW, hsame⟩ := X21.leave (v := some (.ref b12)) (fun h => by rw [Bd.returns] at h; cases h)
  refine own_out ⟨_, _, ?_, hrun, hended, _, _, rfl, ?_, ⟨_, rfl⟩, hW, hsame.mono (by decide) (by decide)⟩
  · exact retOut X21 hx Bd.returns rfl (Or.inr (Or.inr (Or.inr (Or.inr ⟨rfl, rfl, rfl⟩)))) (hb hby d7_101) hr
  · show Q7_25 Z a1 a2 a9 a17 a22 h0 n0 _ T21.heap _
    exact ⟨b12, rfl, N30, (Keep.trans ((Keep.refl h0 []).ext E12) K21 (allS (Or.inr (Nat.le_of_eq g12.symm)) all0)), (Nat.le_of_eq g12.symm), f31, f26, f27, f28, f29⟩
def Q3_26 (Z : State) (a1 a2 a3 a4 : Addr) (h0 : Heap) (n0 : Nat) (v : Option Value) (h : Heap) (L : List Loc) : Prop := v = none ∧ Fr n0 L ∧ Keep h0 h [a1] ∧ Fld Z h a1 zs8 "unit" zs1 (.ref a2) ∧ Fld Z h a1 zs8 "first" zs9 (.ref a3) ∧ Fld Z h a1 zs8 "last" zs9 .null ∧ Fld Z h a1 zs8 "anchor" zs5 (.ref a4)
set_option maxRecDepth 65536 in
set_option maxHeartbeats 40000000 in
theorem rm3_26 (l : Launch) (Z : State) (a0 : Array Value) (hw : ∀ d ∈ tables_1, d.before a0 Z = true) (ws : List Jvm.Cond) (a1 a2 a3 a4 : Addr) (h0 : Heap) (n0 : Nat) (Z0 : n0 ≤ h0.size) (F7 : Fld Z h0 a1 zs8 "unit" zs1 .null) (F8 : Fld Z h0 a1 zs8 "first" zs9 .null) (F9 : Fld Z h0 a1 zs8 "last" zs9 .null) (F10 : Fld Z h0 a1 zs8 "anchor" zs5 .null) (F11 : Exa Z h0 a1 zs8) (g13 : n0 ≤ a1) :
    MetFree l zm3 (head1 (Jvm.Cond.code zm3 prog_3_method_2_code 5 none :: ws) ({ frames := 2, cells := 0, slots := 0, locals := 24 } : Room)) (fun a U => a = #[(.ref a1), (.ref a2), (.ref a3), .null, (.ref a4)] ∧ Z.Warmed39 U.vm ∧ U.heap = h0) (fun _ _ _ _ _ => True) (fun _ U o U' => ∃ v L, o = .returned v ∧ Q3_26 Z a1 a2 a3 a4 h0 n0 v U'.heap L ∧ FrameEnd U o U' L ({ frames := 2, cells := 0, slots := 0, locals := 24 } : Room).cells ({ frames := 2, cells := 0, slots := 0, locals := 24 } : Room).slots) := by
  refine MetFree.of_bodySF (plainFor_of_name pn_2) hisR ?_
  intro p e s m args below meth c s₁ Bd hml0 hP hK
  obtain ⟨rfl, hZ, hh⟩ := hP
  have hx := Bd.exec
  have hby := Bd.bytes
  have hml : c.maxLocals = 5 := hml0
  have hown : s.vm.findClass zs8 = some m.cls := findClass_of_methodNamed Bd.named
  have hnm := (name_of_methodNamed Bd.named Bd.method).1
  have X0 : Stand p l e ({ frames := 2, cells := 0, slots := 0, locals := 24 } : Room) s m #[(.ref a1), (.ref a2), (.ref a3), .null, (.ref a4)] below meth c s₁ [] 0 0 := Stand.of_body Bd
  have e0 : s₁.heap = h0 := by rw [← hh, Bd.state]; rfl
  have N0 := Fr.nil n0
  refine own_pre (g' := mkF m 0 (lc42 a1 a2 a3 a4) []) (ef_10 m a1 a2 a3 a4) ?_
  obtain ⟨_, T5, L5, X5, hQ5, st5⟩ := ocallI X0 hx hZ zm2 rfl hown (ww hw 20 rfl) (ww hw 21 rfl) (by decide) (ww hw 24 rfl) (ww hw 23 rfl) e0 (rm4_10 l Z a0 hw [] a1 h0 n0 Z0 ) (st := [(.ref a1)]) rfl 0 rfl (by decide) (pc := 1) (Ls := (lc42 a1 a2 a3 a4)) hml rfl (lenOf pd_2 rfl) d3_1 hby
  obtain ⟨rfl, N5q, e5⟩ := hQ5
  have N6 := Fr.app N0 N5q
  obtain ⟨T12, h12, X12, e12, W12, st12⟩ := putF X5 hx hZ hown (host := "") (Or.inl (ww hw 28 rfl)) Via.refl e5 F7 F11 (Or.inr ⟨(ww hw 29 rfl), rfl, hnm⟩) (ww hw 9 rfl) (ty := (.object zs0)) (by decide) rfl rfl (g := (mkF m 6 (lc42 a1 a2 a3 a4) [(.ref a2), (.ref a1)])) rfl rfl (hb hby d3_6)
  have N14 := Fr.snoc X12 N6 g13
  have f15 : Fld Z h12 a1 zs8 "unit" zs1 (.ref a2) := Fld.same W12 F7
  have f16 : Fld Z h12 a1 zs8 "first" zs9 .null := (Fld.other W12 F8 (Or.inr (slot_ne (Or.inr (ww hw 31 rfl)) (Or.inr (ww hw 29 rfl)) (by decide) (t := (.object zs11)) (t' := (.object zs0)) (by decide) (by decide))))
  have f17 : Exa Z h12 a1 zs8 := (Exa.wr W12 F11)
  obtain ⟨T18, h18, X18, e18, W18, st18⟩ := putF X12 hx hZ hown (host := "") (Or.inl (ww hw 30 rfl)) Via.refl e12 f16 f17 (Or.inr ⟨(ww hw 31 rfl), rfl, hnm⟩) (ww hw 9 rfl) (ty := (.object zs11)) (by decide) rfl rfl (g := (mkF m 11 (lc42 a1 a2 a3 a4) [(.ref a3), (.ref a1)])) rfl rfl (hb hby d3_11)
  have N19 := Fr.snoc X18 N14 g13
  have f20 : Fld Z h18 a1 zs8 "first" zs9 (.ref a3) := Fld.same W18 f16
  have f21 : Fld Z h18 a1 zs8 "last" zs9 .null := (Fld.other W18 (Fld.other W12 F9 (Or.inr (slot_ne (Or.inr (ww hw 33 rfl)) (Or.inr (ww hw 29 rfl)) (by decide) (t := (.object zs11)) (t' := (.object zs0)) (by decide) (by decide)))) (Or.inr (slot_ne (Or.inr (ww hw 33 rfl)) (Or.inr (ww hw 31 rfl)) (by decide) (t := (.object zs11)) (t' := (.object zs11)) (by decide) (by decide))))
  have f22 : Exa Z h18 a1 zs8 := (Exa.wr W18 f17)
  obtain ⟨T23, h23, X23, e23, W23, st23⟩ := putF X18 hx hZ hown (host := "") (Or.inl (ww hw 32 rfl)) Via.refl e18 f21 f22 (Or.inr ⟨(ww hw 33 rfl), rfl, hnm⟩) (ww hw 9 rfl) (ty := (.object zs11)) (by decide) rfl rfl (g := (mkF m 16 (lc42 a1 a2 a3 a4) [.null, (.ref a1)])) rfl rfl (hb hby d3_16)
  have N24 := Fr.snoc X23 N19 g13
  have f25 : Fld Z h23 a1 zs8 "last" zs9 .null := Fld.same W23 f21
  have f26 : Fld Z h23 a1 zs8 "anchor" zs5 .null := (Fld.other W23 (Fld.other W18 (Fld.other W12 F10 (Or.inr (slot_ne (Or.inr (ww hw 35 rfl)) (Or.inr (ww hw 29 rfl)) (by decide) (t := (.object zs4)) (t' := (.object zs0)) (by decide) (by decide)))) (Or.inr (slot_ne (Or.inr (ww hw 35 rfl)) (Or.inr (ww hw 31 rfl)) (by decide) (t := (.object zs4)) (t' := (.object zs11)) (by decide) (by decide)))) (Or.inr (slot_ne (Or.inr (ww hw 35 rfl)) (Or.inr (ww hw 33 rfl)) (by decide) (t := (.object zs4)) (t' := (.object zs11)) (by decide) (by decide))))
  have f27 : Exa Z h23 a1 zs8 := (Exa.wr W23 f22)
  obtain ⟨T28, h28, X28, e28, W28, st28⟩ := putF X23 hx hZ hown (host := "") (Or.inl (ww hw 34 rfl)) Via.refl e23 f26 f27 (Or.inr ⟨(ww hw 35 rfl), rfl, hnm⟩) (ww hw 9 rfl) (ty := (.object zs4)) (by decide) rfl rfl (g := (mkF m 22 (lc42 a1 a2 a3 a4) [(.ref a4), (.ref a1)])) rfl rfl (hb hby d3_22)
  have N29 := Fr.snoc X28 N24 g13
  have f30 : Fld Z h28 a1 zs8 "anchor" zs5 (.ref a4) := Fld.same W28 f26
  refine own_go (U' := T28.setTop (mkF m 25 (lc42 a1 a2 a3 a4) [])) (fun t k => oaloadN X0 hx hby d3_0 rfl rfl (st5 _ (oaloadN X5 hx hby d3_4 rfl rfl (oaloadN X5 hx hby d3_5 rfl rfl (st12 _ (oaloadN X12 hx hby d3_9 rfl rfl (oaloadN X12 hx hby d3_10 rfl rfl (st18 _ (oaloadN X18 hx hby d3_14 rfl rfl (oaloadN X18 hx hby d3_15 rfl rfl (st23 _ (oaloadN X23 hx hby d3_19 rfl rfl (oaload X23 hx hby d3_20 rfl rfl (st28 _ k)))))))))))))) ?_
  have f31 : Fld Z h28 a1 zs8 "unit" zs1 (.ref a2) := (Fld.other W28 (Fld.other W23 (Fld.other W18 f15 (Or.inr (slot_ne (Or.inr (ww hw 29 rfl)) (Or.inr (ww hw 31 rfl)) (by decide) (t := (.object zs0)) (t' := (.object zs11)) (by decide) (by decide)))) (Or.inr (slot_ne (Or.inr (ww hw 29 rfl)) (Or.inr (ww hw 33 rfl)) (by decide) (t := (.object zs0)) (t' := (.object zs11)) (by decide) (by decide)))) (Or.inr (slot_ne (Or.inr (ww hw 29 rfl)) (Or.inr (ww hw 35 rfl)) (by decide) (t := (.object zs0)) (t' := (.object zs4)) (by decide) (by decide))))
  have f32 : Fld Z h28 a1 zs8 "first" zs9 (.ref a3) := (Fld.other W28 (Fld.other W23 f20 (Or.inr (slot_ne (Or.inr (ww hw 31 rfl)) (Or.inr (ww hw 33 rfl)) (by decide) (t := (.object zs11)) (t' := (.object zs11)) (by decide) (by decide)))) (Or.inr (slot_ne (Or.inr (ww hw 31 rfl)) (Or.inr (ww hw 35 rfl)) (by decide) (t := (.object zs11)) (t' := (.object zs4)) (by decide) (by decide))))
  have f33 : Fld Z h28 a1 zs8 "last" zs9 .null := (Fld.other W28 f25 (Or.inr (slot_ne (Or.inr (ww hw 33 rfl)) (Or.inr (ww hw 35 rfl)) (by decide) (t := (.object zs11)) (t' := (.object zs4)) (by decide) (by decide))))
  obtain ⟨fs, hr, hrun, hended, hW, hsame⟩ := X28.leave (v := none) (fun _ => rfl)
  refine own_out ⟨_, _, ?_, hrun, hended, _, _, rfl, ?_, ⟨_, rfl⟩, hW, hsame.mono (by decide) (by decide)⟩
  · exact X28.returnOut hx Bd.returns (hb hby d3_25) hr
  · show Q3_26 Z a1 a2 a3 a4 h0 n0 _ T28.heap _
    rw [e28]
    exact ⟨rfl, N29, (((((Keep.refl h0 [a1]).wr W12 (Or.inl (List.mem_of_getElem? (i := 0) rfl))).wr W18 (Or.inl (List.mem_of_getElem? (i := 0) rfl))).wr W23 (Or.inl (List.mem_of_getElem? (i := 0) rfl))).wr W28 (Or.inl (List.mem_of_getElem? (i := 0) rfl))), f31, f32, f33, f30⟩
def Q6_27 (Z : State) (a1 a2 : Addr) (h0 : Heap) (n0 : Nat) (v : Option Value) (h : Heap) (L : List Loc) : Prop := v = some (.int 0) ∧ Fr n0 L ∧ h = h0
set_option maxRecDepth 65536 in
set_option maxHeartbeats 40000000 in
theorem rm6_27 (l : Launch) (Z : State) (a0 : Array Value) (hw : ∀ d ∈ tables_1, d.before a0 Z = true) (ws : List Jvm.Cond) (a1 a2 : Addr) (h0 : Heap) (n0 : Nat) (Z0 : n0 ≤ h0.size) (F3 : Fld Z h0 a1 zs8 "first" zs9 (.ref a2)) (F5 : Fld Z h0 a1 zs8 "last" zs9 .null) :
    MetFree l zm4 (head1 (Jvm.Cond.code zm4 prog_3_method_19_code 1 (some .boolean) :: ws) ({ frames := 0, cells := 0, slots := 0, locals := 0 } : Room)) (fun a U => a = #[(.ref a1)] ∧ Z.Warmed39 U.vm ∧ U.heap = h0) (fun _ _ _ _ _ => True) (fun _ U o U' => ∃ v L, o = .returned v ∧ Q6_27 Z a1 a2 h0 n0 v U'.heap L ∧ FrameEnd U o U' L ({ frames := 0, cells := 0, slots := 0, locals := 0 } : Room).cells ({ frames := 0, cells := 0, slots := 0, locals := 0 } : Room).slots) := by
  refine MetFree.of_bodySF (plainFor_of_name pn_2) hisR ?_
  intro p e s m args below meth c s₁ Bd hml0 hP hK
  obtain ⟨rfl, hZ, hh⟩ := hP
  have hx := Bd.exec
  have hby := Bd.bytes
  have hml : c.maxLocals = 1 := hml0
  have hown : s.vm.findClass zs8 = some m.cls := findClass_of_methodNamed Bd.named
  have hnm := (name_of_methodNamed Bd.named Bd.method).1
  have X0 : Stand p l e ({ frames := 0, cells := 0, slots := 0, locals := 0 } : Room) s m #[(.ref a1)] below meth c s₁ [] 0 0 := Stand.of_body Bd
  have e0 : s₁.heap = h0 := by rw [← hh, Bd.state]; rfl
  have N0 := Fr.nil n0
  refine own_pre (g' := mkF m 0 (lc13 a1) []) (ef_1 m a1) ?_
  obtain ⟨T4, X4, e4, st4⟩ := getF X0 hx hZ hown (host := "") (Or.inl (ww hw 30 rfl)) Via.refl e0 F3 (g := (mkF m 1 (lc13 a1) [(.ref a1)])) rfl rfl (hb hby d6_1)
  obtain ⟨T6, X6, e6, st6⟩ := getF X4 hx hZ hown (host := "") (Or.inl (ww hw 32 rfl)) Via.refl e4 F5 (g := (mkF m 8 (lc13 a1) [(.ref a1)])) rfl rfl (hb hby d6_8)
  refine own_go (U' := T6.setTop (mkF m 19 (lc13 a1) [(.int 0)])) (fun t k => oaloadN X0 hx hby d6_0 rfl rfl (st4 _ (onlN X4 hx hby d6_4 (oaloadN X4 hx hby d6_7 rfl rfl (st6 _ (onlY (pc := 11) X6 hx hby d6_11 18 (by decide) (oiconst X6 hx hby d6_18 k))))))) ?_
  obtain ⟨fs, hr, hrun, hended, hW, hsame⟩ := X6.leave (v := some (.int 0)) (fun h => by rw [Bd.returns] at h; cases h)
  refine own_out ⟨_, _, ?_, hrun, hended, _, _, rfl, ?_, ⟨_, rfl⟩, hW, hsame.mono (by decide) (by decide)⟩
  · exact retN X6 hx (t := .boolean) Bd.returns (by simp) (hb hby d6_19) hr
  · show Q6_27 Z a1 a2 h0 n0 _ T6.heap _
    rw [e6]
    exact ⟨rfl, N0, rfl⟩
def Q8_28 (Z : State) (a1 a2 a3 a4 : Addr) (h0 : Heap) (n0 : Nat) (v : Option Value) (h : Heap) (L : List Loc) : Prop := v = none ∧ Fr n0 L ∧ Keep h0 h [a1] ∧ Fld Z h a1 zs8 "unit" zs1 (.ref a2) ∧ Fld Z h a1 zs8 "first" zs9 (.ref a3) ∧ Fld Z h a1 zs8 "last" zs9 .null ∧ Fld Z h a1 zs8 "anchor" zs5 (.ref a4)
set_option maxRecDepth 65536 in
set_option maxHeartbeats 40000000 in
theorem rm8_28 (l : Launch) (Z : State) (a0 : Array Value) (hw : ∀ d ∈ tables_1, d.before a0 Z = true) (ws : List Jvm.Cond) (a1 a2 a3 a4 : Addr) (h0 : Heap) (n0 : Nat) (Z0 : n0 ≤ h0.size) (F5 : Sta Z h0 zs4 "MIDDLE" zs5 (.ref a4)) (F8 : Fld Z h0 a1 zs8 "unit" zs1 .null) (F9 : Fld Z h0 a1 zs8 "first" zs9 .null) (F10 : Fld Z h0 a1 zs8 "last" zs9 .null) (F11 : Fld Z h0 a1 zs8 "anchor" zs5 .null) (F12 : Exa Z h0 a1 zs8) (g13 : n0 ≤ a1) :
    MetFree l zm5 (head1 (Jvm.Cond.code zm5 prog_3_method_1_code 4 none :: ws) ({ frames := 3, cells := 0, slots := 0, locals := 40 } : Room)) (fun a U => a = #[(.ref a1), (.ref a2), (.ref a3), .null] ∧ Z.Warmed39 U.vm ∧ U.heap = h0) (fun _ _ _ _ _ => True) (fun _ U o U' => ∃ v L, o = .returned v ∧ Q8_28 Z a1 a2 a3 a4 h0 n0 v U'.heap L ∧ FrameEnd U o U' L ({ frames := 3, cells := 0, slots := 0, locals := 40 } : Room).cells ({ frames := 3, cells := 0, slots := 0, locals := 40 } : Room).slots) := by
  refine MetFree.of_bodySF (plainFor_of_name pn_2) hisR ?_
  intro p e s m args below meth c s₁ Bd hml0 hP hK
  obtain ⟨rfl, hZ, hh⟩ := hP
  have hx := Bd.exec
  have hby := Bd.bytes
  have hml : c.maxLocals = 4 := hml0
  have hown : s.vm.findClass zs8 = some m.cls := findClass_of_methodNamed Bd.named
  have hnm := (name_of_methodNamed Bd.named Bd.method).1
  have X0 : Stand p l e ({ frames := 3, cells := 0, slots := 0, locals := 40 } : Room) s m #[(.ref a1), (.ref a2), (.ref a3), .null] below meth c s₁ [] 0 0 := Stand.of_body Bd
  have e0 : s₁.heap = h0 := by rw [← hh, Bd.state]; rfl
  have N0 := Fr.nil n0
  refine own_pre (g' := mkF m 0 (lc47 a1 a2 a3) []) (ef_11 m a1 a2 a3) ?_
  obtain ⟨T6, X6, e6, st6⟩ := getS2 X0 hx hZ hown (host := "") (Or.inl (ww hw 50 rfl)) Via.refl e0 F5 (g := (mkF m 4 (lc47 a1 a2 a3) [.null, (.ref a3), (.ref a2), (.ref a1)])) rfl (hb hby d8_4)
  obtain ⟨_, T7, L7, X7, hQ7, st7⟩ := ocallI X6 hx hZ zm3 rfl hown (ww hw 52 rfl) (ww hw 18 rfl) (by decide) (ww hw 19 rfl) (ww hw 10 rfl) e6 (rm3_26 l Z a0 hw [] a1 a2 a3 a4 h0 n0 Z0 F8 F9 F10 F11 F12 g13) (st := [(.ref a4), .null, (.ref a3), (.ref a2), (.ref a1)]) rfl 0 rfl (by decide) (pc := 7) (Ls := (lc47 a1 a2 a3)) hml rfl (lenOf pd_3 rfl) d8_7 hby
  obtain ⟨rfl, N7q, K7, f14, f15, f16, f17⟩ := hQ7
  have N18 := Fr.app N0 N7q
  refine own_go (U' := T7.setTop (mkF m 10 (lc47 a1 a2 a3) [])) (fun t k => oaloadN X0 hx hby d8_0 rfl rfl (oaloadN X0 hx hby d8_1 rfl rfl (oaloadN X0 hx hby d8_2 rfl rfl (oaloadN X0 hx hby d8_3 rfl rfl (st6 _ (st7 _ k)))))) ?_
  obtain ⟨fs, hr, hrun, hended, hW, hsame⟩ := X7.leave (v := none) (fun _ => rfl)
  refine own_out ⟨_, _, ?_, hrun, hended, _, _, rfl, ?_, ⟨_, rfl⟩, hW, hsame.mono (by decide) (by decide)⟩
  · exact X7.returnOut hx Bd.returns (hb hby d8_10) hr
  · show Q8_28 Z a1 a2 a3 a4 h0 n0 _ T7.heap _
    exact ⟨rfl, N18, (Keep.trans (Keep.refl h0 [a1]) K7 (allS (Or.inl (List.mem_of_getElem? (i := 0) rfl)) all0)), f14, f15, f16, f17⟩
def Q7_29 (Z : State) (a1 a2 a5 a17 a22 : Addr) (h0 : Heap) (n0 : Nat) (v : Option Value) (h : Heap) (L : List Loc) : Prop := ∃ b12 : Addr, v = some (.ref b12) ∧ Fr n0 L ∧ Keep h0 h [] ∧ h0.size ≤ b12 ∧ Exa Z h b12 zs8 ∧ Fld Z h b12 zs8 "unit" zs1 (.ref a17) ∧ Fld Z h b12 zs8 "first" zs9 (.ref a5) ∧ Fld Z h b12 zs8 "last" zs9 .null ∧ Fld Z h b12 zs8 "anchor" zs5 (.ref a22)
set_option maxRecDepth 65536 in
set_option maxHeartbeats 40000000 in
theorem rm7_29 (l : Launch) (Z : State) (a0 : Array Value) (hw : ∀ d ∈ tables_1, d.before a0 Z = true) (ws : List Jvm.Cond) (a1 a2 a5 a17 a22 : Addr) (h0 : Heap) (n0 : Nat) (Z0 : n0 ≤ h0.size) (F3 : Fld Z h0 a1 zs8 "first" zs9 .null) (F6 : Fld Z h0 a2 zs8 "first" zs9 (.ref a5)) (F8 : Fld Z h0 a1 zs8 "last" zs9 .null) (F10 : Fld Z h0 a2 zs8 "last" zs9 .null) (F18 : Fld Z h0 a1 zs8 "unit" zs1 (.ref a17)) (F23 : Sta Z h0 zs4 "MIDDLE" zs5 (.ref a22)) :
    MetFree l zm6 (head1 (Jvm.Cond.code zm6 prog_3_method_17_code 4 (some (.object zs8)) :: ws) ({ frames := 4, cells := 1, slots := 4, locals := 56 } : Room)) (fun a U => a = #[(.ref a1), (.ref a2)] ∧ Z.Warmed39 U.vm ∧ U.heap = h0) (fun _ _ _ _ _ => True) (fun _ U o U' => ∃ v L, o = .returned v ∧ Q7_29 Z a1 a2 a5 a17 a22 h0 n0 v U'.heap L ∧ FrameEnd U o U' L ({ frames := 4, cells := 1, slots := 4, locals := 56 } : Room).cells ({ frames := 4, cells := 1, slots := 4, locals := 56 } : Room).slots) := by
  refine MetFree.of_bodySF (plainFor_of_name pn_2) hisR ?_
  intro p e s m args below meth c s₁ Bd hml0 hP hK
  obtain ⟨rfl, hZ, hh⟩ := hP
  have hx := Bd.exec
  have hby := Bd.bytes
  have hml : c.maxLocals = 4 := hml0
  have hown : s.vm.findClass zs8 = some m.cls := findClass_of_methodNamed Bd.named
  have hnm := (name_of_methodNamed Bd.named Bd.method).1
  have X0 : Stand p l e ({ frames := 4, cells := 1, slots := 4, locals := 56 } : Room) s m #[(.ref a1), (.ref a2)] below meth c s₁ [] 0 0 := Stand.of_body Bd
  have e0 : s₁.heap = h0 := by rw [← hh, Bd.state]; rfl
  have N0 := Fr.nil n0
  refine own_pre (g' := mkF m 0 (lc18 a1 a2) []) (ef_4 m a1 a2) ?_
  obtain ⟨T4, X4, e4, st4⟩ := getF X0 hx hZ hown (host := "") (Or.inl (ww hw 30 rfl)) Via.refl e0 F3 (g := (mkF m 1 (lc18 a1 a2) [(.ref a1)])) rfl rfl (hb hby d7_1)
  obtain ⟨T7, X7, e7, st7⟩ := getF X4 hx hZ hown (host := "") (Or.inl (ww hw 30 rfl)) Via.refl e4 F6 (g := (mkF m 33 (lc18 a1 a2) [(.ref a2)])) rfl rfl (hb hby d7_33)
  obtain ⟨T9, X9, e9, st9⟩ := getF X7 hx hZ hown (host := "") (Or.inl (ww hw 32 rfl)) Via.refl e7 F8 (g := (mkF m 45 (lc46 a1 a2 a5) [(.ref a1)])) rfl rfl (hb hby d7_45)
  obtain ⟨T11, X11, e11, st11⟩ := getF X9 hx hZ hown (host := "") (Or.inl (ww hw 32 rfl)) Via.refl e9 F10 (g := (mkF m 77 (lc46 a1 a2 a5) [(.ref a2)])) rfl rfl (hb hby d7_77)
  obtain ⟨T12, h12, X12, e12, E12, A12, D12, -, st12⟩ := newO X11 hx hZ hown (ww hw 46 rfl) (ww hw 9 rfl) (ww hw 10 rfl) e11 (g := (mkF m 88 (lc47 a1 a2 a5) [])) rfl (hb hby d7_88) (by decide) (by decide)
  obtain ⟨b12, g12⟩ : ∃ z, z = h0.size := ⟨_, rfl⟩
  rw [← g12] at A12 D12 st12
  have f13 : Fld Z h12 b12 zs8 "unit" zs1 .null := D12 (Or.inr (ww hw 29 rfl)) (ty := (.object zs0)) (by decide)
  have f14 : Fld Z h12 b12 zs8 "first" zs9 .null := D12 (Or.inr (ww hw 31 rfl)) (ty := (.object zs11)) (by decide)
  have f15 : Fld Z h12 b12 zs8 "last" zs9 .null := D12 (Or.inr (ww hw 33 rfl)) (ty := (.object zs11)) (by decide)
  have f16 : Fld Z h12 b12 zs8 "anchor" zs5 .null := D12 (Or.inr (ww hw 35 rfl)) (ty := (.object zs4)) (by decide)
  have f19 : Fld Z h12 a1 zs8 "unit" zs1 (.ref a17) := (Fld.ext E12 F18)
  obtain ⟨T20, X20, e20, st20⟩ := getF X12 hx hZ hown (host := "") (Or.inl (ww hw 28 rfl)) Via.refl e12 f19 (g := (mkF m 93 (lc47 a1 a2 a5) [(.ref a1), (.ref b12), (.ref b12)])) rfl rfl (hb hby d7_93)
  have f24 : Sta Z h12 zs4 "MIDDLE" zs5 (.ref a22) := (Sta.ext E12 F23)
  have g25 : n0 ≤ b12 := Nat.le_trans Z0 (Nat.le_of_eq g12.symm)
  have Z_1 : n0 ≤ h12.size := Nat.le_trans Z0 E12.1
  obtain ⟨_, T21, L21, X21, hQ21, st21⟩ := ocallI X20 hx hZ zm5 rfl hown (ww hw 47 rfl) (ww hw 48 rfl) (by decide) (ww hw 49 rfl) (ww hw 10 rfl) e20 (rm8_28 l Z a0 hw [] b12 a17 a5 a22 h12 n0 Z_1 f24 f13 f14 f15 f16 A12 g25) (st := [.null, (.ref a5), (.ref a17), (.ref b12), (.ref b12)]) rfl 1 rfl (by decide) (pc := 98) (Ls := (lc47 a1 a2 a5)) hml rfl (lenOf pd_5 rfl) d7_98 hby
  obtain ⟨rfl, N21q, K21, f26, f27, f28, f29⟩ := hQ21
  have N30 := Fr.app N0 N21q
  refine own_go (U' := T21.setTop (mkF m 101 (lc47 a1 a2 a5) [(.ref b12)])) (fun t k => oaloadN X0 hx hby d7_0 rfl rfl (st4 _ (onlY (pc := 4) X4 hx hby d7_4 32 (by decide) (oaloadN X4 hx hby d7_32 rfl rfl (st7 _ (ogoto (pc := 36) X7 hx hby d7_36 43 (by decide) (oastoreN X7 hx hby d7_43 (lc46 a1 a2 a5) rfl rfl (oaloadN X7 hx hby d7_44 rfl rfl (st9 _ (onlY (pc := 48) X9 hx hby d7_48 76 (by decide) (oaloadN X9 hx hby d7_76 rfl rfl (st11 _ (ogoto (pc := 80) X11 hx hby d7_80 87 (by decide) (oastoreN X11 hx hby d7_87 (lc47 a1 a2 a5) rfl rfl (st12 _ (odup X12 hx hby d7_91 rfl (oaloadN X12 hx hby d7_92 rfl rfl (st20 _ (oaloadN X20 hx hby d7_96 rfl rfl (oaloadN X20 hx hby d7_97 rfl rfl (st21 _ k))))))))))))))))))))) ?_
  have f31 : Exa Z T21.heap b12 zs8 := (A12.keep K21)
  obtain ⟨fs, hr, hrun, hended, hW, hsame⟩ := X21.leave (v := some (.ref b12)) (fun h => by rw [Bd.returns] at h; cases h)
  refine own_out ⟨_, _, ?_, hrun, hended, _, _, rfl, ?_, ⟨_, rfl⟩, hW, hsame.mono (by decide) (by decide)⟩
  · exact retOut X21 hx Bd.returns rfl (Or.inr (Or.inr (Or.inr (Or.inr ⟨rfl, rfl, rfl⟩)))) (hb hby d7_101) hr
  · show Q7_29 Z a1 a2 a5 a17 a22 h0 n0 _ T21.heap _
    exact ⟨b12, rfl, N30, (Keep.trans ((Keep.refl h0 []).ext E12) K21 (allS (Or.inr (Nat.le_of_eq g12.symm)) all0)), (Nat.le_of_eq g12.symm), f31, f26, f27, f28, f29⟩
def Q3_30 (Z : State) (a1 a2 a3 a4 a5 : Addr) (h0 : Heap) (n0 : Nat) (v : Option Value) (h : Heap) (L : List Loc) : Prop := v = none ∧ Fr n0 L ∧ Keep h0 h [a1] ∧ Fld Z h a1 zs8 "unit" zs1 (.ref a2) ∧ Fld Z h a1 zs8 "first" zs9 (.ref a3) ∧ Fld Z h a1 zs8 "last" zs9 (.ref a4) ∧ Fld Z h a1 zs8 "anchor" zs5 (.ref a5)
set_option maxRecDepth 65536 in
set_option maxHeartbeats 40000000 in
theorem rm3_30 (l : Launch) (Z : State) (a0 : Array Value) (hw : ∀ d ∈ tables_1, d.before a0 Z = true) (ws : List Jvm.Cond) (a1 a2 a3 a4 a5 : Addr) (h0 : Heap) (n0 : Nat) (Z0 : n0 ≤ h0.size) (F8 : Fld Z h0 a1 zs8 "unit" zs1 .null) (F9 : Fld Z h0 a1 zs8 "first" zs9 .null) (F10 : Fld Z h0 a1 zs8 "last" zs9 .null) (F11 : Fld Z h0 a1 zs8 "anchor" zs5 .null) (F12 : Exa Z h0 a1 zs8) (g14 : n0 ≤ a1) :
    MetFree l zm3 (head1 (Jvm.Cond.code zm3 prog_3_method_2_code 5 none :: ws) ({ frames := 2, cells := 0, slots := 0, locals := 24 } : Room)) (fun a U => a = #[(.ref a1), (.ref a2), (.ref a3), (.ref a4), (.ref a5)] ∧ Z.Warmed39 U.vm ∧ U.heap = h0) (fun _ _ _ _ _ => True) (fun _ U o U' => ∃ v L, o = .returned v ∧ Q3_30 Z a1 a2 a3 a4 a5 h0 n0 v U'.heap L ∧ FrameEnd U o U' L ({ frames := 2, cells := 0, slots := 0, locals := 24 } : Room).cells ({ frames := 2, cells := 0, slots := 0, locals := 24 } : Room).slots) := by
  refine MetFree.of_bodySF (plainFor_of_name pn_2) hisR ?_
  intro p e s m args below meth c s₁ Bd hml0 hP hK
  obtain ⟨rfl, hZ, hh⟩ := hP
  have hx := Bd.exec
  have hby := Bd.bytes
  have hml : c.maxLocals = 5 := hml0
  have hown : s.vm.findClass zs8 = some m.cls := findClass_of_methodNamed Bd.named
  have hnm := (name_of_methodNamed Bd.named Bd.method).1
  have X0 : Stand p l e ({ frames := 2, cells := 0, slots := 0, locals := 24 } : Room) s m #[(.ref a1), (.ref a2), (.ref a3), (.ref a4), (.ref a5)] below meth c s₁ [] 0 0 := Stand.of_body Bd
  have e0 : s₁.heap = h0 := by rw [← hh, Bd.state]; rfl
  have N0 := Fr.nil n0
  refine own_pre (g' := mkF m 0 (lc54 a1 a2 a3 a4 a5) []) (ef_12 m a1 a2 a3 a4 a5) ?_
  obtain ⟨_, T6, L6, X6, hQ6, st6⟩ := ocallI X0 hx hZ zm2 rfl hown (ww hw 20 rfl) (ww hw 21 rfl) (by decide) (ww hw 24 rfl) (ww hw 23 rfl) e0 (rm4_10 l Z a0 hw [] a1 h0 n0 Z0 ) (st := [(.ref a1)]) rfl 0 rfl (by decide) (pc := 1) (Ls := (lc54 a1 a2 a3 a4 a5)) hml rfl (lenOf pd_2 rfl) d3_1 hby
  obtain ⟨rfl, N6q, e6⟩ := hQ6
  have N7 := Fr.app N0 N6q
  obtain ⟨T13, h13, X13, e13, W13, st13⟩ := putF X6 hx hZ hown (host := "") (Or.inl (ww hw 28 rfl)) Via.refl e6 F8 F12 (Or.inr ⟨(ww hw 29 rfl), rfl, hnm⟩) (ww hw 9 rfl) (ty := (.object zs0)) (by decide) rfl rfl (g := (mkF m 6 (lc54 a1 a2 a3 a4 a5) [(.ref a2), (.ref a1)])) rfl rfl (hb hby d3_6)
  have N15 := Fr.snoc X13 N7 g14
  have f16 : Fld Z h13 a1 zs8 "unit" zs1 (.ref a2) := Fld.same W13 F8
  have f17 : Fld Z h13 a1 zs8 "first" zs9 .null := (Fld.other W13 F9 (Or.inr (slot_ne (Or.inr (ww hw 31 rfl)) (Or.inr (ww hw 29 rfl)) (by decide) (t := (.object zs11)) (t' := (.object zs0)) (by decide) (by decide))))
  have f18 : Exa Z h13 a1 zs8 := (Exa.wr W13 F12)
  obtain ⟨T19, h19, X19, e19, W19, st19⟩ := putF X13 hx hZ hown (host := "") (Or.inl (ww hw 30 rfl)) Via.refl e13 f17 f18 (Or.inr ⟨(ww hw 31 rfl), rfl, hnm⟩) (ww hw 9 rfl) (ty := (.object zs11)) (by decide) rfl rfl (g := (mkF m 11 (lc54 a1 a2 a3 a4 a5) [(.ref a3), (.ref a1)])) rfl rfl (hb hby d3_11)
  have N20 := Fr.snoc X19 N15 g14
  have f21 : Fld Z h19 a1 zs8 "first" zs9 (.ref a3) := Fld.same W19 f17
  have f22 : Fld Z h19 a1 zs8 "last" zs9 .null := (Fld.other W19 (Fld.other W13 F10 (Or.inr (slot_ne (Or.inr (ww hw 33 rfl)) (Or.inr (ww hw 29 rfl)) (by decide) (t := (.object zs11)) (t' := (.object zs0)) (by decide) (by decide)))) (Or.inr (slot_ne (Or.inr (ww hw 33 rfl)) (Or.inr (ww hw 31 rfl)) (by decide) (t := (.object zs11)) (t' := (.object zs11)) (by decide) (by decide))))
  have f23 : Exa Z h19 a1 zs8 := (Exa.wr W19 f18)
  obtain ⟨T24, h24, X24, e24, W24, st24⟩ := putF X19 hx hZ hown (host := "") (Or.inl (ww hw 32 rfl)) Via.refl e19 f22 f23 (Or.inr ⟨(ww hw 33 rfl), rfl, hnm⟩) (ww hw 9 rfl) (ty := (.object zs11)) (by decide) rfl rfl (g := (mkF m 16 (lc54 a1 a2 a3 a4 a5) [(.ref a4), (.ref a1)])) rfl rfl (hb hby d3_16)
  have N25 := Fr.snoc X24 N20 g14
  have f26 : Fld Z h24 a1 zs8 "last" zs9 (.ref a4) := Fld.same W24 f22
  have f27 : Fld Z h24 a1 zs8 "anchor" zs5 .null := (Fld.other W24 (Fld.other W19 (Fld.other W13 F11 (Or.inr (slot_ne (Or.inr (ww hw 35 rfl)) (Or.inr (ww hw 29 rfl)) (by decide) (t := (.object zs4)) (t' := (.object zs0)) (by decide) (by decide)))) (Or.inr (slot_ne (Or.inr (ww hw 35 rfl)) (Or.inr (ww hw 31 rfl)) (by decide) (t := (.object zs4)) (t' := (.object zs11)) (by decide) (by decide)))) (Or.inr (slot_ne (Or.inr (ww hw 35 rfl)) (Or.inr (ww hw 33 rfl)) (by decide) (t := (.object zs4)) (t' := (.object zs11)) (by decide) (by decide))))
  have f28 : Exa Z h24 a1 zs8 := (Exa.wr W24 f23)
  obtain ⟨T29, h29, X29, e29, W29, st29⟩ := putF X24 hx hZ hown (host := "") (Or.inl (ww hw 34 rfl)) Via.refl e24 f27 f28 (Or.inr ⟨(ww hw 35 rfl), rfl, hnm⟩) (ww hw 9 rfl) (ty := (.object zs4)) (by decide) rfl rfl (g := (mkF m 22 (lc54 a1 a2 a3 a4 a5) [(.ref a5), (.ref a1)])) rfl rfl (hb hby d3_22)
  have N30 := Fr.snoc X29 N25 g14
  have f31 : Fld Z h29 a1 zs8 "anchor" zs5 (.ref a5) := Fld.same W29 f27
  refine own_go (U' := T29.setTop (mkF m 25 (lc54 a1 a2 a3 a4 a5) [])) (fun t k => oaloadN X0 hx hby d3_0 rfl rfl (st6 _ (oaloadN X6 hx hby d3_4 rfl rfl (oaloadN X6 hx hby d3_5 rfl rfl (st13 _ (oaloadN X13 hx hby d3_9 rfl rfl (oaloadN X13 hx hby d3_10 rfl rfl (st19 _ (oaloadN X19 hx hby d3_14 rfl rfl (oaloadN X19 hx hby d3_15 rfl rfl (st24 _ (oaloadN X24 hx hby d3_19 rfl rfl (oaload X24 hx hby d3_20 rfl rfl (st29 _ k)))))))))))))) ?_
  have f32 : Fld Z h29 a1 zs8 "unit" zs1 (.ref a2) := (Fld.other W29 (Fld.other W24 (Fld.other W19 f16 (Or.inr (slot_ne (Or.inr (ww hw 29 rfl)) (Or.inr (ww hw 31 rfl)) (by decide) (t := (.object zs0)) (t' := (.object zs11)) (by decide) (by decide)))) (Or.inr (slot_ne (Or.inr (ww hw 29 rfl)) (Or.inr (ww hw 33 rfl)) (by decide) (t := (.object zs0)) (t' := (.object zs11)) (by decide) (by decide)))) (Or.inr (slot_ne (Or.inr (ww hw 29 rfl)) (Or.inr (ww hw 35 rfl)) (by decide) (t := (.object zs0)) (t' := (.object zs4)) (by decide) (by decide))))
  have f33 : Fld Z h29 a1 zs8 "first" zs9 (.ref a3) := (Fld.other W29 (Fld.other W24 f21 (Or.inr (slot_ne (Or.inr (ww hw 31 rfl)) (Or.inr (ww hw 33 rfl)) (by decide) (t := (.object zs11)) (t' := (.object zs11)) (by decide) (by decide)))) (Or.inr (slot_ne (Or.inr (ww hw 31 rfl)) (Or.inr (ww hw 35 rfl)) (by decide) (t := (.object zs11)) (t' := (.object zs4)) (by decide) (by decide))))
  have f34 : Fld Z h29 a1 zs8 "last" zs9 (.ref a4) := (Fld.other W29 f26 (Or.inr (slot_ne (Or.inr (ww hw 33 rfl)) (Or.inr (ww hw 35 rfl)) (by decide) (t := (.object zs11)) (t' := (.object zs4)) (by decide) (by decide))))
  obtain ⟨fs, hr, hrun, hended, hW, hsame⟩ := X29.leave (v := none) (fun _ => rfl)
  refine own_out ⟨_, _, ?_, hrun, hended, _, _, rfl, ?_, ⟨_, rfl⟩, hW, hsame.mono (by decide) (by decide)⟩
  · exact X29.returnOut hx Bd.returns (hb hby d3_25) hr
  · show Q3_30 Z a1 a2 a3 a4 a5 h0 n0 _ T29.heap _
    rw [e29]
    exact ⟨rfl, N30, (((((Keep.refl h0 [a1]).wr W13 (Or.inl (List.mem_of_getElem? (i := 0) rfl))).wr W19 (Or.inl (List.mem_of_getElem? (i := 0) rfl))).wr W24 (Or.inl (List.mem_of_getElem? (i := 0) rfl))).wr W29 (Or.inl (List.mem_of_getElem? (i := 0) rfl))), f32, f33, f34, f31⟩
def Q6_31 (Z : State) (a1 a2 a5 : Addr) (h0 : Heap) (n0 : Nat) (v : Option Value) (h : Heap) (L : List Loc) : Prop := v = some (.int 1) ∧ Fr n0 L ∧ h = h0
set_option maxRecDepth 65536 in
set_option maxHeartbeats 40000000 in
theorem rm6_31 (l : Launch) (Z : State) (a0 : Array Value) (hw : ∀ d ∈ tables_1, d.before a0 Z = true) (ws : List Jvm.Cond) (a1 a2 a5 : Addr) (h0 : Heap) (n0 : Nat) (Z0 : n0 ≤ h0.size) (F3 : Fld Z h0 a1 zs8 "first" zs9 (.ref a2)) (F6 : Fld Z h0 a1 zs8 "last" zs9 (.ref a5)) :
    MetFree l zm4 (head1 (Jvm.Cond.code zm4 prog_3_method_19_code 1 (some .boolean) :: ws) ({ frames := 0, cells := 0, slots := 0, locals := 0 } : Room)) (fun a U => a = #[(.ref a1)] ∧ Z.Warmed39 U.vm ∧ U.heap = h0) (fun _ _ _ _ _ => True) (fun _ U o U' => ∃ v L, o = .returned v ∧ Q6_31 Z a1 a2 a5 h0 n0 v U'.heap L ∧ FrameEnd U o U' L ({ frames := 0, cells := 0, slots := 0, locals := 0 } : Room).cells ({ frames := 0, cells := 0, slots := 0, locals := 0 } : Room).slots) := by
  refine MetFree.of_bodySF (plainFor_of_name pn_2) hisR ?_
  intro p e s m args below meth c s₁ Bd hml0 hP hK
  obtain ⟨rfl, hZ, hh⟩ := hP
  have hx := Bd.exec
  have hby := Bd.bytes
  have hml : c.maxLocals = 1 := hml0
  have hown : s.vm.findClass zs8 = some m.cls := findClass_of_methodNamed Bd.named
  have hnm := (name_of_methodNamed Bd.named Bd.method).1
  have X0 : Stand p l e ({ frames := 0, cells := 0, slots := 0, locals := 0 } : Room) s m #[(.ref a1)] below meth c s₁ [] 0 0 := Stand.of_body Bd
  have e0 : s₁.heap = h0 := by rw [← hh, Bd.state]; rfl
  have N0 := Fr.nil n0
  refine own_pre (g' := mkF m 0 (lc13 a1) []) (ef_1 m a1) ?_
  obtain ⟨T4, X4, e4, st4⟩ := getF X0 hx hZ hown (host := "") (Or.inl (ww hw 30 rfl)) Via.refl e0 F3 (g := (mkF m 1 (lc13 a1) [(.ref a1)])) rfl rfl (hb hby d6_1)
  obtain ⟨T7, X7, e7, st7⟩ := getF X4 hx hZ hown (host := "") (Or.inl (ww hw 32 rfl)) Via.refl e4 F6 (g := (mkF m 8 (lc13 a1) [(.ref a1)])) rfl rfl (hb hby d6_8)
  refine own_go (U' := T7.setTop (mkF m 19 (lc13 a1) [(.int 1)])) (fun t k => oaloadN X0 hx hby d6_0 rfl rfl (st4 _ (onlN X4 hx hby d6_4 (oaloadN X4 hx hby d6_7 rfl rfl (st7 _ (onlN X7 hx hby d6_11 (oiconst X7 hx hby d6_14 (ogoto (pc := 15) X7 hx hby d6_15 19 (by decide) k)))))))) ?_
  obtain ⟨fs, hr, hrun, hended, hW, hsame⟩ := X7.leave (v := some (.int 1)) (fun h => by rw [Bd.returns] at h; cases h)
  refine own_out ⟨_, _, ?_, hrun, hended, _, _, rfl, ?_, ⟨_, rfl⟩, hW, hsame.mono (by decide) (by decide)⟩
  · exact retN X7 hx (t := .boolean) Bd.returns (by simp) (hb hby d6_19) hr
  · show Q6_31 Z a1 a2 a5 h0 n0 _ T7.heap _
    rw [e7]
    exact ⟨rfl, N0, rfl⟩
def Q8_32 (Z : State) (a1 a2 a3 a4 a5 : Addr) (h0 : Heap) (n0 : Nat) (v : Option Value) (h : Heap) (L : List Loc) : Prop := v = none ∧ Fr n0 L ∧ Keep h0 h [a1] ∧ Fld Z h a1 zs8 "unit" zs1 (.ref a2) ∧ Fld Z h a1 zs8 "first" zs9 (.ref a3) ∧ Fld Z h a1 zs8 "last" zs9 (.ref a4) ∧ Fld Z h a1 zs8 "anchor" zs5 (.ref a5)
set_option maxRecDepth 65536 in
set_option maxHeartbeats 40000000 in
theorem rm8_32 (l : Launch) (Z : State) (a0 : Array Value) (hw : ∀ d ∈ tables_1, d.before a0 Z = true) (ws : List Jvm.Cond) (a1 a2 a3 a4 a5 : Addr) (h0 : Heap) (n0 : Nat) (Z0 : n0 ≤ h0.size) (F6 : Sta Z h0 zs4 "MIDDLE" zs5 (.ref a5)) (F9 : Fld Z h0 a1 zs8 "unit" zs1 .null) (F10 : Fld Z h0 a1 zs8 "first" zs9 .null) (F11 : Fld Z h0 a1 zs8 "last" zs9 .null) (F12 : Fld Z h0 a1 zs8 "anchor" zs5 .null) (F13 : Exa Z h0 a1 zs8) (g14 : n0 ≤ a1) :
    MetFree l zm5 (head1 (Jvm.Cond.code zm5 prog_3_method_1_code 4 none :: ws) ({ frames := 3, cells := 0, slots := 0, locals := 40 } : Room)) (fun a U => a = #[(.ref a1), (.ref a2), (.ref a3), (.ref a4)] ∧ Z.Warmed39 U.vm ∧ U.heap = h0) (fun _ _ _ _ _ => True) (fun _ U o U' => ∃ v L, o = .returned v ∧ Q8_32 Z a1 a2 a3 a4 a5 h0 n0 v U'.heap L ∧ FrameEnd U o U' L ({ frames := 3, cells := 0, slots := 0, locals := 40 } : Room).cells ({ frames := 3, cells := 0, slots := 0, locals := 40 } : Room).slots) := by
  refine MetFree.of_bodySF (plainFor_of_name pn_2) hisR ?_
  intro p e s m args below meth c s₁ Bd hml0 hP hK
  obtain ⟨rfl, hZ, hh⟩ := hP
  have hx := Bd.exec
  have hby := Bd.bytes
  have hml : c.maxLocals = 4 := hml0
  have hown : s.vm.findClass zs8 = some m.cls := findClass_of_methodNamed Bd.named
  have hnm := (name_of_methodNamed Bd.named Bd.method).1
  have X0 : Stand p l e ({ frames := 3, cells := 0, slots := 0, locals := 40 } : Room) s m #[(.ref a1), (.ref a2), (.ref a3), (.ref a4)] below meth c s₁ [] 0 0 := Stand.of_body Bd
  have e0 : s₁.heap = h0 := by rw [← hh, Bd.state]; rfl
  have N0 := Fr.nil n0
  refine own_pre (g' := mkF m 0 (lc58 a1 a2 a3 a4) []) (ef_13 m a1 a2 a3 a4) ?_
  obtain ⟨T7, X7, e7, st7⟩ := getS2 X0 hx hZ hown (host := "") (Or.inl (ww hw 50 rfl)) Via.refl e0 F6 (g := (mkF m 4 (lc58 a1 a2 a3 a4) [(.ref a4), (.ref a3), (.ref a2), (.ref a1)])) rfl (hb hby d8_4)
  obtain ⟨_, T8, L8, X8, hQ8, st8⟩ := ocallI X7 hx hZ zm3 rfl hown (ww hw 52 rfl) (ww hw 18 rfl) (by decide) (ww hw 19 rfl) (ww hw 10 rfl) e7 (rm3_30 l Z a0 hw [] a1 a2 a3 a4 a5 h0 n0 Z0 F9 F10 F11 F12 F13 g14) (st := [(.ref a5), (.ref a4), (.ref a3), (.ref a2), (.ref a1)]) rfl 0 rfl (by decide) (pc := 7) (Ls := (lc58 a1 a2 a3 a4)) hml rfl (lenOf pd_3 rfl) d8_7 hby
  obtain ⟨rfl, N8q, K8, f15, f16, f17, f18⟩ := hQ8
  have N19 := Fr.app N0 N8q
  refine own_go (U' := T8.setTop (mkF m 10 (lc58 a1 a2 a3 a4) [])) (fun t k => oaloadN X0 hx hby d8_0 rfl rfl (oaloadN X0 hx hby d8_1 rfl rfl (oaloadN X0 hx hby d8_2 rfl rfl (oaloadN X0 hx hby d8_3 rfl rfl (st7 _ (st8 _ k)))))) ?_
  obtain ⟨fs, hr, hrun, hended, hW, hsame⟩ := X8.leave (v := none) (fun _ => rfl)
  refine own_out ⟨_, _, ?_, hrun, hended, _, _, rfl, ?_, ⟨_, rfl⟩, hW, hsame.mono (by decide) (by decide)⟩
  · exact X8.returnOut hx Bd.returns (hb hby d8_10) hr
  · show Q8_32 Z a1 a2 a3 a4 a5 h0 n0 _ T8.heap _
    exact ⟨rfl, N19, (Keep.trans (Keep.refl h0 [a1]) K8 (allS (Or.inl (List.mem_of_getElem? (i := 0) rfl)) all0)), f15, f16, f17, f18⟩
def Q7_33 (Z : State) (a1 a2 a5 a10 a18 a23 : Addr) (h0 : Heap) (n0 : Nat) (v : Option Value) (h : Heap) (L : List Loc) : Prop := ∃ b13 : Addr, v = some (.ref b13) ∧ Fr n0 L ∧ Keep h0 h [] ∧ h0.size ≤ b13 ∧ Exa Z h b13 zs8 ∧ Fld Z h b13 zs8 "unit" zs1 (.ref a18) ∧ Fld Z h b13 zs8 "first" zs9 (.ref a5) ∧ Fld Z h b13 zs8 "last" zs9 (.ref a10) ∧ Fld Z h b13 zs8 "anchor" zs5 (.ref a23)
set_option maxRecDepth 65536 in
set_option maxHeartbeats 40000000 in
theorem rm7_33 (l : Launch) (Z : State) (a0 : Array Value) (hw : ∀ d ∈ tables_1, d.before a0 Z = true) (ws : List Jvm.Cond) (a1 a2 a5 a10 a18 a23 : Addr) (h0 : Heap) (n0 : Nat) (Z0 : n0 ≤ h0.size) (F3 : Fld Z h0 a1 zs8 "first" zs9 .null) (F6 : Fld Z h0 a2 zs8 "first" zs9 (.ref a5)) (F8 : Fld Z h0 a1 zs8 "last" zs9 .null) (F11 : Fld Z h0 a2 zs8 "last" zs9 (.ref a10)) (F19 : Fld Z h0 a1 zs8 "unit" zs1 (.ref a18)) (F24 : Sta Z h0 zs4 "MIDDLE" zs5 (.ref a23)) :
    MetFree l zm6 (head1 (Jvm.Cond.code zm6 prog_3_method_17_code 4 (some (.object zs8)) :: ws) ({ frames := 4, cells := 1, slots := 4, locals := 56 } : Room)) (fun a U => a = #[(.ref a1), (.ref a2)] ∧ Z.Warmed39 U.vm ∧ U.heap = h0) (fun _ _ _ _ _ => True) (fun _ U o U' => ∃ v L, o = .returned v ∧ Q7_33 Z a1 a2 a5 a10 a18 a23 h0 n0 v U'.heap L ∧ FrameEnd U o U' L ({ frames := 4, cells := 1, slots := 4, locals := 56 } : Room).cells ({ frames := 4, cells := 1, slots := 4, locals := 56 } : Room).slots) := by
  refine MetFree.of_bodySF (plainFor_of_name pn_2) hisR ?_
  intro p e s m args below meth c s₁ Bd hml0 hP hK
  obtain ⟨rfl, hZ, hh⟩ := hP
  have hx := Bd.exec
  have hby := Bd.bytes
  have hml : c.maxLocals = 4 := hml0
  have hown : s.vm.findClass zs8 = some m.cls := findClass_of_methodNamed Bd.named
  have hnm := (name_of_methodNamed Bd.named Bd.method).1
  have X0 : Stand p l e ({ frames := 4, cells := 1, slots := 4, locals := 56 } : Room) s m #[(.ref a1), (.ref a2)] below meth c s₁ [] 0 0 := Stand.of_body Bd
  have e0 : s₁.heap = h0 := by rw [← hh, Bd.state]; rfl
  have N0 := Fr.nil n0
  refine own_pre (g' := mkF m 0 (lc18 a1 a2) []) (ef_4 m a1 a2) ?_
  obtain ⟨T4, X4, e4, st4⟩ := getF X0 hx hZ hown (host := "") (Or.inl (ww hw 30 rfl)) Via.refl e0 F3 (g := (mkF m 1 (lc18 a1 a2) [(.ref a1)])) rfl rfl (hb hby d7_1)
  obtain ⟨T7, X7, e7, st7⟩ := getF X4 hx hZ hown (host := "") (Or.inl (ww hw 30 rfl)) Via.refl e4 F6 (g := (mkF m 33 (lc18 a1 a2) [(.ref a2)])) rfl rfl (hb hby d7_33)
  obtain ⟨T9, X9, e9, st9⟩ := getF X7 hx hZ hown (host := "") (Or.inl (ww hw 32 rfl)) Via.refl e7 F8 (g := (mkF m 45 (lc46 a1 a2 a5) [(.ref a1)])) rfl rfl (hb hby d7_45)
  obtain ⟨T12, X12, e12, st12⟩ := getF X9 hx hZ hown (host := "") (Or.inl (ww hw 32 rfl)) Via.refl e9 F11 (g := (mkF m 77 (lc46 a1 a2 a5) [(.ref a2)])) rfl rfl (hb hby d7_77)
  obtain ⟨T13, h13, X13, e13, E13, A13, D13, -, st13⟩ := newO X12 hx hZ hown (ww hw 46 rfl) (ww hw 9 rfl) (ww hw 10 rfl) e12 (g := (mkF m 88 (lc58 a1 a2 a5 a10) [])) rfl (hb hby d7_88) (by decide) (by decide)
  obtain ⟨b13, g13⟩ : ∃ z, z = h0.size := ⟨_, rfl⟩
  rw [← g13] at A13 D13 st13
  have f14 : Fld Z h13 b13 zs8 "unit" zs1 .null := D13 (Or.inr (ww hw 29 rfl)) (ty := (.object zs0)) (by decide)
  have f15 : Fld Z h13 b13 zs8 "first" zs9 .null := D13 (Or.inr (ww hw 31 rfl)) (ty := (.object zs11)) (by decide)
  have f16 : Fld Z h13 b13 zs8 "last" zs9 .null := D13 (Or.inr (ww hw 33 rfl)) (ty := (.object zs11)) (by decide)
  have f17 : Fld Z h13 b13 zs8 "anchor" zs5 .null := D13 (Or.inr (ww hw 35 rfl)) (ty := (.object zs4)) (by decide)
  have f20 : Fld Z h13 a1 zs8 "unit" zs1 (.ref a18) := (Fld.ext E13 F19)
  obtain ⟨T21, X21, e21, st21⟩ := getF X13 hx hZ hown (host := "") (Or.inl (ww hw 28 rfl)) Via.refl e13 f20 (g := (mkF m 93 (lc58 a1 a2 a5 a10) [(.ref a1), (.ref b13), (.ref b13)])) rfl rfl (hb hby d7_93)
  have f25 : Sta Z h13 zs4 "MIDDLE" zs5 (.ref a23) := (Sta.ext E13 F24)
  have g26 : n0 ≤ b13 := Nat.le_trans Z0 (Nat.le_of_eq g13.symm)
  have Z_1 : n0 ≤ h13.size := Nat.le_trans Z0 E13.1
  obtain ⟨_, T22, L22, X22, hQ22, st22⟩ := ocallI X21 hx hZ zm5 rfl hown (ww hw 47 rfl) (ww hw 48 rfl) (by decide) (ww hw 49 rfl) (ww hw 10 rfl) e21 (rm8_32 l Z a0 hw [] b13 a18 a5 a10 a23 h13 n0 Z_1 f25 f14 f15 f16 f17 A13 g26) (st := [(.ref a10), (.ref a5), (.ref a18), (.ref b13), (.ref b13)]) rfl 1 rfl (by decide) (pc := 98) (Ls := (lc58 a1 a2 a5 a10)) hml rfl (lenOf pd_5 rfl) d7_98 hby
  obtain ⟨rfl, N22q, K22, f27, f28, f29, f30⟩ := hQ22
  have N31 := Fr.app N0 N22q
  refine own_go (U' := T22.setTop (mkF m 101 (lc58 a1 a2 a5 a10) [(.ref b13)])) (fun t k => oaloadN X0 hx hby d7_0 rfl rfl (st4 _ (onlY (pc := 4) X4 hx hby d7_4 32 (by decide) (oaloadN X4 hx hby d7_32 rfl rfl (st7 _ (ogoto (pc := 36) X7 hx hby d7_36 43 (by decide) (oastoreN X7 hx hby d7_43 (lc46 a1 a2 a5) rfl rfl (oaloadN X7 hx hby d7_44 rfl rfl (st9 _ (onlY (pc := 48) X9 hx hby d7_48 76 (by decide) (oaloadN X9 hx hby d7_76 rfl rfl (st12 _ (ogoto (pc := 80) X12 hx hby d7_80 87 (by decide) (oastoreN X12 hx hby d7_87 (lc58 a1 a2 a5 a10) rfl rfl (st13 _ (odup X13 hx hby d7_91 rfl (oaloadN X13 hx hby d7_92 rfl rfl (st21 _ (oaloadN X21 hx hby d7_96 rfl rfl (oaloadN X21 hx hby d7_97 rfl rfl (st22 _ k))))))))))))))))))))) ?_
  have f32 : Exa Z T22.heap b13 zs8 := (A13.keep K22)
  obtain ⟨fs, hr, hrun, hended, hW, hsame⟩ := X22.leave (v := some (.ref b13)) (fun h => by rw [Bd.returns] at h; cases h)
  refine own_out ⟨_, _, ?_, hrun, hended, _, _, rfl, ?_, ⟨_, rfl⟩, hW, hsame.mono (by decide) (by decide)⟩
  · exact retOut X22 hx Bd.returns rfl (Or.inr (Or.inr (Or.inr (Or.inr ⟨rfl, rfl, rfl⟩)))) (hb hby d7_101) hr
  · show Q7_33 Z a1 a2 a5 a10 a18 a23 h0 n0 _ T22.heap _
    exact ⟨b13, rfl, N31, (Keep.trans ((Keep.refl h0 []).ext E13) K22 (allS (Or.inr (Nat.le_of_eq g13.symm)) all0)), (Nat.le_of_eq g13.symm), f32, f27, f28, f29, f30⟩
def Q7_34 (Z : State) (a1 a2 a7 a18 a23 : Addr) (h0 : Heap) (n0 : Nat) (v : Option Value) (h : Heap) (L : List Loc) : Prop := ∃ b13 : Addr, v = some (.ref b13) ∧ Fr n0 L ∧ Keep h0 h [] ∧ h0.size ≤ b13 ∧ Exa Z h b13 zs8 ∧ Fld Z h b13 zs8 "unit" zs1 (.ref a18) ∧ Fld Z h b13 zs8 "first" zs9 .null ∧ Fld Z h b13 zs8 "last" zs9 (.ref a7) ∧ Fld Z h b13 zs8 "anchor" zs5 (.ref a23)
set_option maxRecDepth 65536 in
set_option maxHeartbeats 40000000 in
theorem rm7_34 (l : Launch) (Z : State) (a0 : Array Value) (hw : ∀ d ∈ tables_1, d.before a0 Z = true) (ws : List Jvm.Cond) (a1 a2 a7 a18 a23 : Addr) (h0 : Heap) (n0 : Nat) (Z0 : n0 ≤ h0.size) (F3 : Fld Z h0 a1 zs8 "first" zs9 .null) (F5 : Fld Z h0 a2 zs8 "first" zs9 .null) (F8 : Fld Z h0 a1 zs8 "last" zs9 (.ref a7)) (F10 : Fld Z h0 a2 zs8 "last" zs9 .null) (F19 : Fld Z h0 a1 zs8 "unit" zs1 (.ref a18)) (F24 : Sta Z h0 zs4 "MIDDLE" zs5 (.ref a23)) :
    MetFree l zm6 (head1 (Jvm.Cond.code zm6 prog_3_method_17_code 4 (some (.object zs8)) :: ws) ({ frames := 4, cells := 1, slots := 4, locals := 56 } : Room)) (fun a U => a = #[(.ref a1), (.ref a2)] ∧ Z.Warmed39 U.vm ∧ U.heap = h0) (fun _ _ _ _ _ => True) (fun _ U o U' => ∃ v L, o = .returned v ∧ Q7_34 Z a1 a2 a7 a18 a23 h0 n0 v U'.heap L ∧ FrameEnd U o U' L ({ frames := 4, cells := 1, slots := 4, locals := 56 } : Room).cells ({ frames := 4, cells := 1, slots := 4, locals := 56 } : Room).slots) := by
  refine MetFree.of_bodySF (plainFor_of_name pn_2) hisR ?_
  intro p e s m args below meth c s₁ Bd hml0 hP hK
  obtain ⟨rfl, hZ, hh⟩ := hP
  have hx := Bd.exec
  have hby := Bd.bytes
  have hml : c.maxLocals = 4 := hml0
  have hown : s.vm.findClass zs8 = some m.cls := findClass_of_methodNamed Bd.named
  have hnm := (name_of_methodNamed Bd.named Bd.method).1
  have X0 : Stand p l e ({ frames := 4, cells := 1, slots := 4, locals := 56 } : Room) s m #[(.ref a1), (.ref a2)] below meth c s₁ [] 0 0 := Stand.of_body Bd
  have e0 : s₁.heap = h0 := by rw [← hh, Bd.state]; rfl
  have N0 := Fr.nil n0
  refine own_pre (g' := mkF m 0 (lc18 a1 a2) []) (ef_4 m a1 a2) ?_
  obtain ⟨T4, X4, e4, st4⟩ := getF X0 hx hZ hown (host := "") (Or.inl (ww hw 30 rfl)) Via.refl e0 F3 (g := (mkF m 1 (lc18 a1 a2) [(.ref a1)])) rfl rfl (hb hby d7_1)
  obtain ⟨T6, X6, e6, st6⟩ := getF X4 hx hZ hown (host := "") (Or.inl (ww hw 30 rfl)) Via.refl e4 F5 (g := (mkF m 33 (lc18 a1 a2) [(.ref a2)])) rfl rfl (hb hby d7_33)
  obtain ⟨T9, X9, e9, st9⟩ := getF X6 hx hZ hown (host := "") (Or.inl (ww hw 32 rfl)) Via.refl e6 F8 (g := (mkF m 45 (lc19 a1 a2) [(.ref a1)])) rfl rfl (hb hby d7_45)
  obtain ⟨T11, X11, e11, st11⟩ := getF X9 hx hZ hown (host := "") (Or.inl (ww hw 32 rfl)) Via.refl e9 F10 (g := (mkF m 52 (lc19 a1 a2) [(.ref a2)])) rfl rfl (hb hby d7_52)
  obtain ⟨T12, X12, e12, st12⟩ := getF X11 hx hZ hown (host := "") (Or.inl (ww hw 32 rfl)) Via.refl e11 F8 (g := (mkF m 84 (lc19 a1 a2) [(.ref a1)])) rfl rfl (hb hby d7_84)
  obtain ⟨T13, h13, X13, e13, E13, A13, D13, -, st13⟩ := newO X12 hx hZ hown (ww hw 46 rfl) (ww hw 9 rfl) (ww hw 10 rfl) e12 (g := (mkF m 88 (lc34 a1 a2 a7) [])) rfl (hb hby d7_88) (by decide) (by decide)
  obtain ⟨b13, g13⟩ : ∃ z, z = h0.size := ⟨_, rfl⟩
  rw [← g13] at A13 D13 st13
  have f14 : Fld Z h13 b13 zs8 "unit" zs1 .null := D13 (Or.inr (ww hw 29 rfl)) (ty := (.object zs0)) (by decide)
  have f15 : Fld Z h13 b13 zs8 "first" zs9 .null := D13 (Or.inr (ww hw 31 rfl)) (ty := (.object zs11)) (by decide)
  have f16 : Fld Z h13 b13 zs8 "last" zs9 .null := D13 (Or.inr (ww hw 33 rfl)) (ty := (.object zs11)) (by decide)
  have f17 : Fld Z h13 b13 zs8 "anchor" zs5 .null := D13 (Or.inr (ww hw 35 rfl)) (ty := (.object zs4)) (by decide)
  have f20 : Fld Z h13 a1 zs8 "unit" zs1 (.ref a18) := (Fld.ext E13 F19)
  obtain ⟨T21, X21, e21, st21⟩ := getF X13 hx hZ hown (host := "") (Or.inl (ww hw 28 rfl)) Via.refl e13 f20 (g := (mkF m 93 (lc34 a1 a2 a7) [(.ref a1), (.ref b13), (.ref b13)])) rfl rfl (hb hby d7_93)
  have f25 : Sta Z h13 zs4 "MIDDLE" zs5 (.ref a23) := (Sta.ext E13 F24)
  have g26 : n0 ≤ b13 := Nat.le_trans Z0 (Nat.le_of_eq g13.symm)
  have Z_1 : n0 ≤ h13.size := Nat.le_trans Z0 E13.1
  obtain ⟨_, T22, L22, X22, hQ22, st22⟩ := ocallI X21 hx hZ zm5 rfl hown (ww hw 47 rfl) (ww hw 48 rfl) (by decide) (ww hw 49 rfl) (ww hw 10 rfl) e21 (rm8_24 l Z a0 hw [] b13 a18 a7 a23 h13 n0 Z_1 f25 f14 f15 f16 f17 A13 g26) (st := [(.ref a7), .null, (.ref a18), (.ref b13), (.ref b13)]) rfl 1 rfl (by decide) (pc := 98) (Ls := (lc34 a1 a2 a7)) hml rfl (lenOf pd_5 rfl) d7_98 hby
  obtain ⟨rfl, N22q, K22, f27, f28, f29, f30⟩ := hQ22
  have N31 := Fr.app N0 N22q
  refine own_go (U' := T22.setTop (mkF m 101 (lc34 a1 a2 a7) [(.ref b13)])) (fun t k => oaloadN X0 hx hby d7_0 rfl rfl (st4 _ (onlY (pc := 4) X4 hx hby d7_4 32 (by decide) (oaloadN X4 hx hby d7_32 rfl rfl (st6 _ (ogoto (pc := 36) X6 hx hby d7_36 43 (by decide) (oastoreN X6 hx hby d7_43 (lc19 a1 a2) rfl rfl (oaloadN X6 hx hby d7_44 rfl rfl (st9 _ (onlN X9 hx hby d7_48 (oaloadN X9 hx hby d7_51 rfl rfl (st11 _ (onlY (pc := 55) X11 hx hby d7_55 83 (by decide) (oaloadN X11 hx hby d7_83 rfl rfl (st12 _ (oastoreN X12 hx hby d7_87 (lc34 a1 a2 a7) rfl rfl (st13 _ (odup X13 hx hby d7_91 rfl (oaloadN X13 hx hby d7_92 rfl rfl (st21 _ (oaloadN X21 hx hby d7_96 rfl rfl (oaloadN X21 hx hby d7_97 rfl rfl (st22 _ k))))))))))))))))))))))) ?_
  have f32 : Exa Z T22.heap b13 zs8 := (A13.keep K22)
  obtain ⟨fs, hr, hrun, hended, hW, hsame⟩ := X22.leave (v := some (.ref b13)) (fun h => by rw [Bd.returns] at h; cases h)
  refine own_out ⟨_, _, ?_, hrun, hended, _, _, rfl, ?_, ⟨_, rfl⟩, hW, hsame.mono (by decide) (by decide)⟩
  · exact retOut X22 hx Bd.returns rfl (Or.inr (Or.inr (Or.inr (Or.inr ⟨rfl, rfl, rfl⟩)))) (hb hby d7_101) hr
  · show Q7_34 Z a1 a2 a7 a18 a23 h0 n0 _ T22.heap _
    exact ⟨b13, rfl, N31, (Keep.trans ((Keep.refl h0 []).ext E13) K22 (allS (Or.inr (Nat.le_of_eq g13.symm)) all0)), (Nat.le_of_eq g13.symm), f32, f27, f28, f29, f30⟩
def Q10_35 (Z : State) (a1 a7 a11 a16 : Addr) (h0 : Heap) (n0 : Nat) (v : Option Value) (h : Heap) (L : List Loc) : Prop := ∃ b2 : Addr, v = some (.ref b2) ∧ Fr n0 L ∧ Keep h0 h [] ∧ h0.size ≤ b2 ∧ Exa Z h b2 zs8 ∧ Fld Z h b2 zs8 "unit" zs1 (.ref a7) ∧ Fld Z h b2 zs8 "first" zs9 .null ∧ Fld Z h b2 zs8 "last" zs9 (.ref a11) ∧ Fld Z h b2 zs8 "anchor" zs5 (.ref a16)
set_option maxRecDepth 65536 in
set_option maxHeartbeats 40000000 in
theorem rm10_35 (l : Launch) (Z : State) (a0 : Array Value) (hw : ∀ d ∈ tables_1, d.before a0 Z = true) (ws : List Jvm.Cond) (a1 a7 a11 a16 : Addr) (h0 : Heap) (n0 : Nat) (Z0 : n0 ≤ h0.size) (F8 : Fld Z h0 a1 zs8 "unit" zs1 (.ref a7)) (F12 : Fld Z h0 a1 zs8 "last" zs9 (.ref a11)) (F17 : Sta Z h0 zs4 "MIDDLE" zs5 (.ref a16)) :
    MetFree l zm8 (head1 (Jvm.Cond.code zm8 prog_3_method_11_code 1 (some (.object zs8)) :: ws) ({ frames := 4, cells := 1, slots := 4, locals := 56 } : Room)) (fun a U => a = #[(.ref a1)] ∧ Z.Warmed39 U.vm ∧ U.heap = h0) (fun _ _ _ _ _ => True) (fun _ U o U' => ∃ v L, o = .returned v ∧ Q10_35 Z a1 a7 a11 a16 h0 n0 v U'.heap L ∧ FrameEnd U o U' L ({ frames := 4, cells := 1, slots := 4, locals := 56 } : Room).cells ({ frames := 4, cells := 1, slots := 4, locals := 56 } : Room).slots) := by
  refine MetFree.of_bodySF (plainFor_of_name pn_2) hisR ?_
  intro p e s m args below meth c s₁ Bd hml0 hP hK
  obtain ⟨rfl, hZ, hh⟩ := hP
  have hx := Bd.exec
  have hby := Bd.bytes
  have hml : c.maxLocals = 1 := hml0
  have hown : s.vm.findClass zs8 = some m.cls := findClass_of_methodNamed Bd.named
  have hnm := (name_of_methodNamed Bd.named Bd.method).1
  have X0 : Stand p l e ({ frames := 4, cells := 1, slots := 4, locals := 56 } : Room) s m #[(.ref a1)] below meth c s₁ [] 0 0 := Stand.of_body Bd
  have e0 : s₁.heap = h0 := by rw [← hh, Bd.state]; rfl
  have N0 := Fr.nil n0
  refine own_pre (g' := mkF m 0 (lc13 a1) []) (ef_1 m a1) ?_
  obtain ⟨T2, h2, X2, e2, E2, A2, D2, -, st2⟩ := newO X0 hx hZ hown (ww hw 46 rfl) (ww hw 9 rfl) (ww hw 10 rfl) e0 (g := (mkF m 0 (lc13 a1) [])) rfl (hb hby d10_0) (by decide) (by decide)
  obtain ⟨b2, g2⟩ : ∃ z, z = h0.size := ⟨_, rfl⟩
  rw [← g2] at A2 D2 st2
  have f3 : Fld Z h2 b2 zs8 "unit" zs1 .null := D2 (Or.inr (ww hw 29 rfl)) (ty := (.object zs0)) (by decide)
  have f4 : Fld Z h2 b2 zs8 "first" zs9 .null := D2 (Or.inr (ww hw 31 rfl)) (ty := (.object zs11)) (by decide)
  have f5 : Fld Z h2 b2 zs8 "last" zs9 .null := D2 (Or.inr (ww hw 33 rfl)) (ty := (.object zs11)) (by decide)
  have f6 : Fld Z h2 b2 zs8 "anchor" zs5 .null := D2 (Or.inr (ww hw 35 rfl)) (ty := (.object zs4)) (by decide)
  have f9 : Fld Z h2 a1 zs8 "unit" zs1 (.ref a7) := (Fld.ext E2 F8)
  obtain ⟨T10, X10, e10, st10⟩ := getF X2 hx hZ hown (host := "") (Or.inl (ww hw 28 rfl)) Via.refl e2 f9 (g := (mkF m 5 (lc13 a1) [(.ref a1), (.ref b2), (.ref b2)])) rfl rfl (hb hby d10_5)
  have f13 : Fld Z h2 a1 zs8 "last" zs9 (.ref a11) := (Fld.ext E2 F12)
  obtain ⟨T14, X14, e14, st14⟩ := getF X10 hx hZ hown (host := "") (Or.inl (ww hw 32 rfl)) Via.refl e10 f13 (g := (mkF m 10 (lc13 a1) [(.ref a1), .null, (.ref a7), (.ref b2), (.ref b2)])) rfl rfl (hb hby d10_10)
  have f18 : Sta Z h2 zs4 "MIDDLE" zs5 (.ref a16) := (Sta.ext E2 F17)
  have g19 : n0 ≤ b2 := Nat.le_trans Z0 (Nat.le_of_eq g2.symm)
  have Z_1 : n0 ≤ h2.size := Nat.le_trans Z0 E2.1
  obtain ⟨_, T15, L15, X15, hQ15, st15⟩ := ocallI X14 hx hZ zm5 rfl hown (ww hw 47 rfl) (ww hw 48 rfl) (by decide) (ww hw 49 rfl) (ww hw 10 rfl) e14 (rm8_24 l Z a0 hw [] b2 a7 a11 a16 h2 n0 Z_1 f18 f3 f4 f5 f6 A2 g19) (st := [(.ref a11), .null, (.ref a7), (.ref b2), (.ref b2)]) rfl 1 rfl (by decide) (pc := 13) (Ls := (lc13 a1)) hml rfl (lenOf pd_5 rfl) d10_13 hby
  obtain ⟨rfl, N15q, K15, f20, f21, f22, f23⟩ := hQ15
  have N24 := Fr.app N0 N15q
  refine own_go (U' := T15.setTop (mkF m 16 (lc13 a1) [(.ref b2)])) (fun t k => st2 _ (odup X2 hx hby d10_3 rfl (oaloadN X2 hx hby d10_4 rfl rfl (st10 _ (onull X10 hx hby d10_8 (oaloadN X10 hx hby d10_9 rfl rfl (st14 _ (st15 _ k)))))))) ?_
  have f25 : Exa Z T15.heap b2 zs8 := (A2.keep K15)
  obtain ⟨fs, hr, hrun, hended, hW, hsame⟩ := X15.leave (v := some (.ref b2)) (fun h => by rw [Bd.returns] at h; cases h)
  refine own_out ⟨_, _, ?_, hrun, hended, _, _, rfl, ?_, ⟨_, rfl⟩, hW, hsame.mono (by decide) (by decide)⟩
  · exact retOut X15 hx Bd.returns rfl (Or.inr (Or.inr (Or.inr (Or.inr ⟨rfl, rfl, rfl⟩)))) (hb hby d10_16) hr
  · show Q10_35 Z a1 a7 a11 a16 h0 n0 _ T15.heap _
    exact ⟨b2, rfl, N24, (Keep.trans ((Keep.refl h0 []).ext E2) K15 (allS (Or.inr (Nat.le_of_eq g2.symm)) all0)), (Nat.le_of_eq g2.symm), f25, f20, f21, f22, f23⟩
def Q14_36 (Z : State) (a1 : Addr) (q2 : Int64) (h0 : Heap) (n0 : Nat) (v : Option Value) (h : Heap) (L : List Loc) : Prop := v = some (.long q2) ∧ Fr n0 L ∧ h = h0
set_option maxRecDepth 65536 in
set_option maxHeartbeats 40000000 in
theorem rm14_36 (l : Launch) (Z : State) (a0 : Array Value) (hw : ∀ d ∈ tables_1, d.before a0 Z = true) (ws : List Jvm.Cond) (a1 : Addr) (q2 : Int64) (h0 : Heap) (n0 : Nat) (Z0 : n0 ≤ h0.size) (F3 : Fld Z h0 a1 zs11 "value" "J" (.long q2)) :
    MetFree l zm12 (head1 (Jvm.Cond.code zm12 jdk_35_method_31_code 1 (some .long) :: ws) ({ frames := 0, cells := 0, slots := 0, locals := 0 } : Room)) (fun a U => a = #[(.ref a1)] ∧ Z.Warmed39 U.vm ∧ U.heap = h0) (fun _ _ _ _ _ => True) (fun _ U o U' => ∃ v L, o = .returned v ∧ Q14_36 Z a1 q2 h0 n0 v U'.heap L ∧ FrameEnd U o U' L ({ frames := 0, cells := 0, slots := 0, locals := 0 } : Room).cells ({ frames := 0, cells := 0, slots := 0, locals := 0 } : Room).slots) := by
  refine MetFree.of_bodySF (plainFor_of_name pn_4) hisR ?_
  intro p e s m args below meth c s₁ Bd hml0 hP hK
  obtain ⟨rfl, hZ, hh⟩ := hP
  have hx := Bd.exec
  have hby := Bd.bytes
  have hml : c.maxLocals = 1 := hml0
  have hown : s.vm.findClass zs11 = some m.cls := findClass_of_methodNamed Bd.named
  have hnm := (name_of_methodNamed Bd.named Bd.method).1
  have X0 : Stand p l e ({ frames := 0, cells := 0, slots := 0, locals := 0 } : Room) s m #[(.ref a1)] below meth c s₁ [] 0 0 := Stand.of_body Bd
  have e0 : s₁.heap = h0 := by rw [← hh, Bd.state]; rfl
  have N0 := Fr.nil n0
  refine own_pre (g' := mkF m 0 (lc13 a1) []) (ef_1 m a1) ?_
  obtain ⟨T4, X4, e4, st4⟩ := getF X0 hx hZ hown (host := "") (Or.inl (ww hw 81 rfl)) Via.refl e0 F3 (g := (mkF m 1 (lc13 a1) [(.ref a1)])) rfl rfl (hb hby d14_1)
  refine own_go (U' := T4.setTop (mkF m 4 (lc13 a1) [(.long q2)])) (fun t k => oaloadN X0 hx hby d14_0 rfl rfl (st4 _ k)) ?_
  obtain ⟨fs, hr, hrun, hended, hW, hsame⟩ := X4.leave (v := some (.long q2)) (fun h => by rw [Bd.returns] at h; cases h)
  refine own_out ⟨_, _, ?_, hrun, hended, _, _, rfl, ?_, ⟨_, rfl⟩, hW, hsame.mono (by decide) (by decide)⟩
  · exact retOut X4 hx Bd.returns rfl (Or.inr (Or.inl ⟨rfl, rfl, _, rfl⟩)) (hb hby d14_4) hr
  · show Q14_36 Z a1 q2 h0 n0 _ T4.heap _
    rw [e4]
    exact ⟨rfl, N0, rfl⟩
def Q7_37 (Z : State) (a1 a2 a7 a10 : Addr) (q16 q22 : Int64) (a32 a37 : Addr) (h0 : Heap) (n0 : Nat) (v : Option Value) (h : Heap) (L : List Loc) : Prop := ∃ b27 : Addr, v = some (.ref b27) ∧ Fr n0 L ∧ Keep h0 h [] ∧ h0.size ≤ b27 ∧ Exa Z h b27 zs8 ∧ Fld Z h b27 zs8 "unit" zs1 (.ref a32) ∧ Fld Z h b27 zs8 "first" zs9 .null ∧ Fld Z h b27 zs8 "last" zs9 (.ref a10) ∧ Fld Z h b27 zs8 "anchor" zs5 (.ref a37)
set_option maxRecDepth 65536 in
set_option maxHeartbeats 40000000 in
theorem rm7_37 (l : Launch) (Z : State) (a0 : Array Value) (hw : ∀ d ∈ tables_1, d.before a0 Z = true) (ws : List Jvm.Cond) (a1 a2 a7 a10 : Addr) (q16 q22 : Int64) (a32 a37 : Addr) (h0 : Heap) (n0 : Nat) (Z0 : n0 ≤ h0.size) (F3 : Fld Z h0 a1 zs8 "first" zs9 .null) (F5 : Fld Z h0 a2 zs8 "first" zs9 .null) (F8 : Fld Z h0 a1 zs8 "last" zs9 (.ref a7)) (F11 : Fld Z h0 a2 zs8 "last" zs9 (.ref a10)) (F15 : Exa Z h0 a10 zs11) (F17 : Fld Z h0 a10 zs11 "value" "J" (.long q16)) (F21 : Exa Z h0 a7 zs11) (F23 : Fld Z h0 a7 zs11 "value" "J" (.long q22)) (hc25 : q16 < q22) (F33 : Fld Z h0 a1 zs8 "unit" zs1 (.ref a32)) (F38 : Sta Z h0 zs4 "MIDDLE" zs5 (.ref a37)) :
    MetFree l zm6 (head1 (Jvm.Cond.code zm6 prog_3_method_17_code 4 (some (.object zs8)) :: ws) ({ frames := 4, cells := 1, slots := 4, locals := 56 } : Room)) (fun a U => a = #[(.ref a1), (.ref a2)] ∧ Z.Warmed39 U.vm ∧ U.heap = h0) (fun _ _ _ _ _ => True) (fun _ U o U' => ∃ v L, o = .returned v ∧ Q7_37 Z a1 a2 a7 a10 q16 q22 a32 a37 h0 n0 v U'.heap L ∧ FrameEnd U o U' L ({ frames := 4, cells := 1, slots := 4, locals := 56 } : Room).cells ({ frames := 4, cells := 1, slots := 4, locals := 56 } : Room).slots) := by
  refine MetFree.of_bodySF (plainFor_of_name pn_2) hisR ?_
  intro p e s m args below meth c s₁ Bd hml0 hP hK
  obtain ⟨rfl, hZ, hh⟩ := hP
  have hx := Bd.exec
  have hby := Bd.bytes
  have hml : c.maxLocals = 4 := hml0
  have hown : s.vm.findClass zs8 = some m.cls := findClass_of_methodNamed Bd.named
  have hnm := (name_of_methodNamed Bd.named Bd.method).1
  have X0 : Stand p l e ({ frames := 4, cells := 1, slots := 4, locals := 56 } : Room) s m #[(.ref a1), (.ref a2)] below meth c s₁ [] 0 0 := Stand.of_body Bd
  have e0 : s₁.heap = h0 := by rw [← hh, Bd.state]; rfl
  have N0 := Fr.nil n0
  refine own_pre (g' := mkF m 0 (lc18 a1 a2) []) (ef_4 m a1 a2) ?_
  obtain ⟨T4, X4, e4, st4⟩ := getF X0 hx hZ hown (host := "") (Or.inl (ww hw 30 rfl)) Via.refl e0 F3 (g := (mkF m 1 (lc18 a1 a2) [(.ref a1)])) rfl rfl (hb hby d7_1)
  obtain ⟨T6, X6, e6, st6⟩ := getF X4 hx hZ hown (host := "") (Or.inl (ww hw 30 rfl)) Via.refl e4 F5 (g := (mkF m 33 (lc18 a1 a2) [(.ref a2)])) rfl rfl (hb hby d7_33)
  obtain ⟨T9, X9, e9, st9⟩ := getF X6 hx hZ hown (host := "") (Or.inl (ww hw 32 rfl)) Via.refl e6 F8 (g := (mkF m 45 (lc19 a1 a2) [(.ref a1)])) rfl rfl (hb hby d7_45)
  obtain ⟨T12, X12, e12, st12⟩ := getF X9 hx hZ hown (host := "") (Or.inl (ww hw 32 rfl)) Via.refl e9 F11 (g := (mkF m 52 (lc19 a1 a2) [(.ref a2)])) rfl rfl (hb hby d7_52)
  obtain ⟨T13, X13, e13, st13⟩ := getF X12 hx hZ hown (host := "") (Or.inl (ww hw 32 rfl)) Via.refl e12 F11 (g := (mkF m 59 (lc19 a1 a2) [(.ref a2)])) rfl rfl (hb hby d7_59)
  obtain ⟨_, T14, L14, X14, hQ14, st14⟩ := ocallV X13 hx hZ zm12 zm12 hown (ww hw 89 rfl) (ww hw 90 rfl) (notFace_of_selects (args := #[]) (mvT hZ (ww hw 92 rfl))) (ww hw 92 rfl) (ww hw 91 rfl) (by decide) (ww hw 93 rfl) (ww hw 65 rfl) e13 F15 (rm14_36 l Z a0 hw [] a10 q16 h0 n0 Z0 F17) (st := [(.ref a10)]) rfl 0 rfl (by decide) (pc := 62) (Ls := (lc19 a1 a2)) hml rfl (lenOf pd_10 rfl) d7_62 hby
  obtain ⟨rfl, N14q, e14⟩ := hQ14
  have N18 := Fr.app N0 N14q
  obtain ⟨T19, X19, e19, st19⟩ := getF X14 hx hZ hown (host := "") (Or.inl (ww hw 32 rfl)) Via.refl e14 F8 (g := (mkF m 66 (lc19 a1 a2) [(.ref a1), (.long q16)])) rfl rfl (hb hby d7_66)
  obtain ⟨_, T20, L20, X20, hQ20, st20⟩ := ocallV X19 hx hZ zm12 zm12 hown (ww hw 89 rfl) (ww hw 90 rfl) (notFace_of_selects (args := #[]) (mvT hZ (ww hw 92 rfl))) (ww hw 92 rfl) (ww hw 91 rfl) (by decide) (ww hw 93 rfl) (ww hw 65 rfl) e19 F21 (rm14_36 l Z a0 hw [] a7 q22 h0 n0 Z0 F23) (st := [(.ref a7), (.long q16)]) rfl 2 rfl (by decide) (pc := 69) (Ls := (lc19 a1 a2)) hml rfl (lenOf pd_10 rfl) d7_69 hby
  obtain ⟨rfl, N20q, e20⟩ := hQ20
  have N24 := Fr.app N18 N20q
  refine own_go (U' := T20.setTop (mkF m 73 (lc19 a1 a2) [(.int (lcmpW q16 q22))])) (fun t k => oaloadN X0 hx hby d7_0 rfl rfl (st4 _ (onlY (pc := 4) X4 hx hby d7_4 32 (by decide) (oaloadN X4 hx hby d7_32 rfl rfl (st6 _ (ogoto (pc := 36) X6 hx hby d7_36 43 (by decide) (oastoreN X6 hx hby d7_43 (lc19 a1 a2) rfl rfl (oaloadN X6 hx hby d7_44 rfl rfl (st9 _ (onlN X9 hx hby d7_48 (oaloadN X9 hx hby d7_51 rfl rfl (st12 _ (onlN X12 hx hby d7_55 (oaloadN X12 hx hby d7_58 rfl rfl (st13 _ (st14 _ (oaloadN X14 hx hby d7_65 rfl rfl (st19 _ (st20 _ (olcmp X20 hx hby d7_72 k)))))))))))))))))))) ?_
  obtain ⟨T26, X26, e26, st26⟩ := getF X20 hx hZ hown (host := "") (Or.inl (ww hw 32 rfl)) Via.refl e20 F11 (g := (mkF m 77 (lc19 a1 a2) [(.ref a2)])) rfl rfl (hb hby d7_77)
  obtain ⟨T27, h27, X27, e27, E27, A27, D27, -, st27⟩ := newO X26 hx hZ hown (ww hw 46 rfl) (ww hw 9 rfl) (ww hw 10 rfl) e26 (g := (mkF m 88 (lc34 a1 a2 a10) [])) rfl (hb hby d7_88) (by decide) (by decide)
  obtain ⟨b27, g27⟩ : ∃ z, z = h0.size := ⟨_, rfl⟩
  rw [← g27] at A27 D27 st27
  have f28 : Fld Z h27 b27 zs8 "unit" zs1 .null := D27 (Or.inr (ww hw 29 rfl)) (ty := (.object zs0)) (by decide)
  have f29 : Fld Z h27 b27 zs8 "first" zs9 .null := D27 (Or.inr (ww hw 31 rfl)) (ty := (.object zs11)) (by decide)
  have f30 : Fld Z h27 b27 zs8 "last" zs9 .null := D27 (Or.inr (ww hw 33 rfl)) (ty := (.object zs11)) (by decide)
  have f31 : Fld Z h27 b27 zs8 "anchor" zs5 .null := D27 (Or.inr (ww hw 35 rfl)) (ty := (.object zs4)) (by decide)
  have f34 : Fld Z h27 a1 zs8 "unit" zs1 (.ref a32) := (Fld.ext E27 F33)
  obtain ⟨T35, X35, e35, st35⟩ := getF X27 hx hZ hown (host := "") (Or.inl (ww hw 28 rfl)) Via.refl e27 f34 (g := (mkF m 93 (lc34 a1 a2 a10) [(.ref a1), (.ref b27), (.ref b27)])) rfl rfl (hb hby d7_93)
  have f39 : Sta Z h27 zs4 "MIDDLE" zs5 (.ref a37) := (Sta.ext E27 F38)
  have g40 : n0 ≤ b27 := Nat.le_trans Z0 (Nat.le_of_eq g27.symm)
  have Z_1 : n0 ≤ h27.size := Nat.le_trans Z0 E27.1
  obtain ⟨_, T36, L36, X36, hQ36, st36⟩ := ocallI X35 hx hZ zm5 rfl hown (ww hw 47 rfl) (ww hw 48 rfl) (by decide) (ww hw 49 rfl) (ww hw 10 rfl) e35 (rm8_24 l Z a0 hw [] b27 a32 a10 a37 h27 n0 Z_1 f39 f28 f29 f30 f31 A27 g40) (st := [(.ref a10), .null, (.ref a32), (.ref b27), (.ref b27)]) rfl 1 rfl (by decide) (pc := 98) (Ls := (lc34 a1 a2 a10)) hml rfl (lenOf pd_5 rfl) d7_98 hby
  obtain ⟨rfl, N36q, K36, f41, f42, f43, f44⟩ := hQ36
  have N45 := Fr.app N24 N36q
  refine own_go (U' := T36.setTop (mkF m 101 (lc34 a1 a2 a10) [(.ref b27)])) (fun t k => oifN X20 hx hby d7_73 (own_ll_ge_f hc25) (oaloadN X20 hx hby d7_76 rfl rfl (st26 _ (ogoto (pc := 80) X26 hx hby d7_80 87 (by decide) (oastoreN X26 hx hby d7_87 (lc34 a1 a2 a10) rfl rfl (st27 _ (odup X27 hx hby d7_91 rfl (oaloadN X27 hx hby d7_92 rfl rfl (st35 _ (oaloadN X35 hx hby d7_96 rfl rfl (oaloadN X35 hx hby d7_97 rfl rfl (st36 _ k)))))))))))) ?_
  have f46 : Exa Z T36.heap b27 zs8 := (A27.keep K36)
  obtain ⟨fs, hr, hrun, hended, hW, hsame⟩ := X36.leave (v := some (.ref b27)) (fun h => by rw [Bd.returns] at h; cases h)
  refine own_out ⟨_, _, ?_, hrun, hended, _, _, rfl, ?_, ⟨_, rfl⟩, hW, hsame.mono (by decide) (by decide)⟩
  · exact retOut X36 hx Bd.returns rfl (Or.inr (Or.inr (Or.inr (Or.inr ⟨rfl, rfl, rfl⟩)))) (hb hby d7_101) hr
  · show Q7_37 Z a1 a2 a7 a10 q16 q22 a32 a37 h0 n0 _ T36.heap _
    exact ⟨b27, rfl, N45, (Keep.trans ((Keep.refl h0 []).ext E27) K36 (allS (Or.inr (Nat.le_of_eq g27.symm)) all0)), (Nat.le_of_eq g27.symm), f46, f41, f42, f43, f44⟩
def Q7_38 (Z : State) (a1 a2 a7 a10 : Addr) (q16 q22 : Int64) (a32 a37 : Addr) (h0 : Heap) (n0 : Nat) (v : Option Value) (h : Heap) (L : List Loc) : Prop := ∃ b27 : Addr, v = some (.ref b27) ∧ Fr n0 L ∧ Keep h0 h [] ∧ h0.size ≤ b27 ∧ Exa Z h b27 zs8 ∧ Fld Z h b27 zs8 "unit" zs1 (.ref a32) ∧ Fld Z h b27 zs8 "first" zs9 .null ∧ Fld Z h b27 zs8 "last" zs9 (.ref a7) ∧ Fld Z h b27 zs8 "anchor" zs5 (.ref a37)
set_option maxRecDepth 65536 in
set_option maxHeartbeats 40000000 in
theorem rm7_38 (l : Launch) (Z : State) (a0 : Array Value) (hw : ∀ d ∈ tables_1, d.before a0 Z = true) (ws : List Jvm.Cond) (a1 a2 a7 a10 : Addr) (q16 q22 : Int64) (a32 a37 : Addr) (h0 : Heap) (n0 : Nat) (Z0 : n0 ≤ h0.size) (F3 : Fld Z h0 a1 zs8 "first" zs9 .null) (F5 : Fld Z h0 a2 zs8 "first" zs9 .null) (F8 : Fld Z h0 a1 zs8 "last" zs9 (.ref a7)) (F11 : Fld Z h0 a2 zs8 "last" zs9 (.ref a10)) (F15 : Exa Z h0 a10 zs11) (F17 : Fld Z h0 a10 zs11 "value" "J" (.long q16)) (F21 : Exa Z h0 a7 zs11) (F23 : Fld Z h0 a7 zs11 "value" "J" (.long q22)) (hc25 : ¬ (q16 < q22)) (F33 : Fld Z h0 a1 zs8 "unit" zs1 (.ref a32)) (F38 : Sta Z h0 zs4 "MIDDLE" zs5 (.ref a37)) :
    MetFree l zm6 (head1 (Jvm.Cond.code zm6 prog_3_method_17_code 4 (some (.object zs8)) :: ws) ({ frames := 4, cells := 1, slots := 4, locals := 56 } : Room)) (fun a U => a = #[(.ref a1), (.ref a2)] ∧ Z.Warmed39 U.vm ∧ U.heap = h0) (fun _ _ _ _ _ => True) (fun _ U o U' => ∃ v L, o = .returned v ∧ Q7_38 Z a1 a2 a7 a10 q16 q22 a32 a37 h0 n0 v U'.heap L ∧ FrameEnd U o U' L ({ frames := 4, cells := 1, slots := 4, locals := 56 } : Room).cells ({ frames := 4, cells := 1, slots := 4, locals := 56 } : Room).slots) := by
  refine MetFree.of_bodySF (plainFor_of_name pn_2) hisR ?_
  intro p e s m args below meth c s₁ Bd hml0 hP hK
  obtain ⟨rfl, hZ, hh⟩ := hP
  have hx := Bd.exec
  have hby := Bd.bytes
  have hml : c.maxLocals = 4 := hml0
  have hown : s.vm.findClass zs8 = some m.cls := findClass_of_methodNamed Bd.named
  have hnm := (name_of_methodNamed Bd.named Bd.method).1
  have X0 : Stand p l e ({ frames := 4, cells := 1, slots := 4, locals := 56 } : Room) s m #[(.ref a1), (.ref a2)] below meth c s₁ [] 0 0 := Stand.of_body Bd
  have e0 : s₁.heap = h0 := by rw [← hh, Bd.state]; rfl
  have N0 := Fr.nil n0
  refine own_pre (g' := mkF m 0 (lc18 a1 a2) []) (ef_4 m a1 a2) ?_
  obtain ⟨T4, X4, e4, st4⟩ := getF X0 hx hZ hown (host := "") (Or.inl (ww hw 30 rfl)) Via.refl e0 F3 (g := (mkF m 1 (lc18 a1 a2) [(.ref a1)])) rfl rfl (hb hby d7_1)
  obtain ⟨T6, X6, e6, st6⟩ := getF X4 hx hZ hown (host := "") (Or.inl (ww hw 30 rfl)) Via.refl e4 F5 (g := (mkF m 33 (lc18 a1 a2) [(.ref a2)])) rfl rfl (hb hby d7_33)
  obtain ⟨T9, X9, e9, st9⟩ := getF X6 hx hZ hown (host := "") (Or.inl (ww hw 32 rfl)) Via.refl e6 F8 (g := (mkF m 45 (lc19 a1 a2) [(.ref a1)])) rfl rfl (hb hby d7_45)
  obtain ⟨T12, X12, e12, st12⟩ := getF X9 hx hZ hown (host := "") (Or.inl (ww hw 32 rfl)) Via.refl e9 F11 (g := (mkF m 52 (lc19 a1 a2) [(.ref a2)])) rfl rfl (hb hby d7_52)
  obtain ⟨T13, X13, e13, st13⟩ := getF X12 hx hZ hown (host := "") (Or.inl (ww hw 32 rfl)) Via.refl e12 F11 (g := (mkF m 59 (lc19 a1 a2) [(.ref a2)])) rfl rfl (hb hby d7_59)
  obtain ⟨_, T14, L14, X14, hQ14, st14⟩ := ocallV X13 hx hZ zm12 zm12 hown (ww hw 89 rfl) (ww hw 90 rfl) (notFace_of_selects (args := #[]) (mvT hZ (ww hw 92 rfl))) (ww hw 92 rfl) (ww hw 91 rfl) (by decide) (ww hw 93 rfl) (ww hw 65 rfl) e13 F15 (rm14_36 l Z a0 hw [] a10 q16 h0 n0 Z0 F17) (st := [(.ref a10)]) rfl 0 rfl (by decide) (pc := 62) (Ls := (lc19 a1 a2)) hml rfl (lenOf pd_10 rfl) d7_62 hby
  obtain ⟨rfl, N14q, e14⟩ := hQ14
  have N18 := Fr.app N0 N14q
  obtain ⟨T19, X19, e19, st19⟩ := getF X14 hx hZ hown (host := "") (Or.inl (ww hw 32 rfl)) Via.refl e14 F8 (g := (mkF m 66 (lc19 a1 a2) [(.ref a1), (.long q16)])) rfl rfl (hb hby d7_66)
  obtain ⟨_, T20, L20, X20, hQ20, st20⟩ := ocallV X19 hx hZ zm12 zm12 hown (ww hw 89 rfl) (ww hw 90 rfl) (notFace_of_selects (args := #[]) (mvT hZ (ww hw 92 rfl))) (ww hw 92 rfl) (ww hw 91 rfl) (by decide) (ww hw 93 rfl) (ww hw 65 rfl) e19 F21 (rm14_36 l Z a0 hw [] a7 q22 h0 n0 Z0 F23) (st := [(.ref a7), (.long q16)]) rfl 2 rfl (by decide) (pc := 69) (Ls := (lc19 a1 a2)) hml rfl (lenOf pd_10 rfl) d7_69 hby
  obtain ⟨rfl, N20q, e20⟩ := hQ20
  have N24 := Fr.app N18 N20q
  refine own_go (U' := T20.setTop (mkF m 73 (lc19 a1 a2) [(.int (lcmpW q16 q22))])) (fun t k => oaloadN X0 hx hby d7_0 rfl rfl (st4 _ (onlY (pc := 4) X4 hx hby d7_4 32 (by decide) (oaloadN X4 hx hby d7_32 rfl rfl (st6 _ (ogoto (pc := 36) X6 hx hby d7_36 43 (by decide) (oastoreN X6 hx hby d7_43 (lc19 a1 a2) rfl rfl (oaloadN X6 hx hby d7_44 rfl rfl (st9 _ (onlN X9 hx hby d7_48 (oaloadN X9 hx hby d7_51 rfl rfl (st12 _ (onlN X12 hx hby d7_55 (oaloadN X12 hx hby d7_58 rfl rfl (st13 _ (st14 _ (oaloadN X14 hx hby d7_65 rfl rfl (st19 _ (st20 _ (olcmp X20 hx hby d7_72 k)))))))))))))))))))) ?_
  obtain ⟨T26, X26, e26, st26⟩ := getF X20 hx hZ hown (host := "") (Or.inl (ww hw 32 rfl)) Via.refl e20 F8 (g := (mkF m 84 (lc19 a1 a2) [(.ref a1)])) rfl rfl (hb hby d7_84)
  obtain ⟨T27, h27, X27, e27, E27, A27, D27, -, st27⟩ := newO X26 hx hZ hown (ww hw 46 rfl) (ww hw 9 rfl) (ww hw 10 rfl) e26 (g := (mkF m 88 (lc34 a1 a2 a7) [])) rfl (hb hby d7_88) (by decide) (by decide)
  obtain ⟨b27, g27⟩ : ∃ z, z = h0.size := ⟨_, rfl⟩
  rw [← g27] at A27 D27 st27
  have f28 : Fld Z h27 b27 zs8 "unit" zs1 .null := D27 (Or.inr (ww hw 29 rfl)) (ty := (.object zs0)) (by decide)
  have f29 : Fld Z h27 b27 zs8 "first" zs9 .null := D27 (Or.inr (ww hw 31 rfl)) (ty := (.object zs11)) (by decide)
  have f30 : Fld Z h27 b27 zs8 "last" zs9 .null := D27 (Or.inr (ww hw 33 rfl)) (ty := (.object zs11)) (by decide)
  have f31 : Fld Z h27 b27 zs8 "anchor" zs5 .null := D27 (Or.inr (ww hw 35 rfl)) (ty := (.object zs4)) (by decide)
  have f34 : Fld Z h27 a1 zs8 "unit" zs1 (.ref a32) := (Fld.ext E27 F33)
  obtain ⟨T35, X35, e35, st35⟩ := getF X27 hx hZ hown (host := "") (Or.inl (ww hw 28 rfl)) Via.refl e27 f34 (g := (mkF m 93 (lc34 a1 a2 a7) [(.ref a1), (.ref b27), (.ref b27)])) rfl rfl (hb hby d7_93)
  have f39 : Sta Z h27 zs4 "MIDDLE" zs5 (.ref a37) := (Sta.ext E27 F38)
  have g40 : n0 ≤ b27 := Nat.le_trans Z0 (Nat.le_of_eq g27.symm)
  have Z_1 : n0 ≤ h27.size := Nat.le_trans Z0 E27.1
  obtain ⟨_, T36, L36, X36, hQ36, st36⟩ := ocallI X35 hx hZ zm5 rfl hown (ww hw 47 rfl) (ww hw 48 rfl) (by decide) (ww hw 49 rfl) (ww hw 10 rfl) e35 (rm8_24 l Z a0 hw [] b27 a32 a7 a37 h27 n0 Z_1 f39 f28 f29 f30 f31 A27 g40) (st := [(.ref a7), .null, (.ref a32), (.ref b27), (.ref b27)]) rfl 1 rfl (by decide) (pc := 98) (Ls := (lc34 a1 a2 a7)) hml rfl (lenOf pd_5 rfl) d7_98 hby
  obtain ⟨rfl, N36q, K36, f41, f42, f43, f44⟩ := hQ36
  have N45 := Fr.app N24 N36q
  refine own_go (U' := T36.setTop (mkF m 101 (lc34 a1 a2 a7) [(.ref b27)])) (fun t k => oifY (pc := 73) X20 hx hby d7_73 83 (own_ll_ge_t hc25) (by decide) (oaloadN X20 hx hby d7_83 rfl rfl (st26 _ (oastoreN X26 hx hby d7_87 (lc34 a1 a2 a7) rfl rfl (st27 _ (odup X27 hx hby d7_91 rfl (oaloadN X27 hx hby d7_92 rfl rfl (st35 _ (oaloadN X35 hx hby d7_96 rfl rfl (oaloadN X35 hx hby d7_97 rfl rfl (st36 _ k))))))))))) ?_
  have f46 : Exa Z T36.heap b27 zs8 := (A27.keep K36)
  obtain ⟨fs, hr, hrun, hended, hW, hsame⟩ := X36.leave (v := some (.ref b27)) (fun h => by rw [Bd.returns] at h; cases h)
  refine own_out ⟨_, _, ?_, hrun, hended, _, _, rfl, ?_, ⟨_, rfl⟩, hW, hsame.mono (by decide) (by decide)⟩
  · exact retOut X36 hx Bd.returns rfl (Or.inr (Or.inr (Or.inr (Or.inr ⟨rfl, rfl, rfl⟩)))) (hb hby d7_101) hr
  · show Q7_38 Z a1 a2 a7 a10 q16 q22 a32 a37 h0 n0 _ T36.heap _
    exact ⟨b27, rfl, N45, (Keep.trans ((Keep.refl h0 []).ext E27) K36 (allS (Or.inr (Nat.le_of_eq g27.symm)) all0)), (Nat.le_of_eq g27.symm), f46, f41, f42, f43, f44⟩
def Q7_39 (Z : State) (a1 a2 a5 a8 a19 a24 : Addr) (h0 : Heap) (n0 : Nat) (v : Option Value) (h : Heap) (L : List Loc) : Prop := ∃ b14 : Addr, v = some (.ref b14) ∧ Fr n0 L ∧ Keep h0 h [] ∧ h0.size ≤ b14 ∧ Exa Z h b14 zs8 ∧ Fld Z h b14 zs8 "unit" zs1 (.ref a19) ∧ Fld Z h b14 zs8 "first" zs9 (.ref a5) ∧ Fld Z h b14 zs8 "last" zs9 (.ref a8) ∧ Fld Z h b14 zs8 "anchor" zs5 (.ref a24)
set_option maxRecDepth 65536 in
set_option maxHeartbeats 40000000 in
theorem rm7_39 (l : Launch) (Z : State) (a0 : Array Value) (hw : ∀ d ∈ tables_1, d.before a0 Z = true) (ws : List Jvm.Cond) (a1 a2 a5 a8 a19 a24 : Addr) (h0 : Heap) (n0 : Nat) (Z0 : n0 ≤ h0.size) (F3 : Fld Z h0 a1 zs8 "first" zs9 .null) (F6 : Fld Z h0 a2 zs8 "first" zs9 (.ref a5)) (F9 : Fld Z h0 a1 zs8 "last" zs9 (.ref a8)) (F11 : Fld Z h0 a2 zs8 "last" zs9 .null) (F20 : Fld Z h0 a1 zs8 "unit" zs1 (.ref a19)) (F25 : Sta Z h0 zs4 "MIDDLE" zs5 (.ref a24)) :
    MetFree l zm6 (head1 (Jvm.Cond.code zm6 prog_3_method_17_code 4 (some (.object zs8)) :: ws) ({ frames := 4, cells := 1, slots := 4, locals := 56 } : Room)) (fun a U => a = #[(.ref a1), (.ref a2)] ∧ Z.Warmed39 U.vm ∧ U.heap = h0) (fun _ _ _ _ _ => True) (fun _ U o U' => ∃ v L, o = .returned v ∧ Q7_39 Z a1 a2 a5 a8 a19 a24 h0 n0 v U'.heap L ∧ FrameEnd U o U' L ({ frames := 4, cells := 1, slots := 4, locals := 56 } : Room).cells ({ frames := 4, cells := 1, slots := 4, locals := 56 } : Room).slots) := by
  refine MetFree.of_bodySF (plainFor_of_name pn_2) hisR ?_
  intro p e s m args below meth c s₁ Bd hml0 hP hK
  obtain ⟨rfl, hZ, hh⟩ := hP
  have hx := Bd.exec
  have hby := Bd.bytes
  have hml : c.maxLocals = 4 := hml0
  have hown : s.vm.findClass zs8 = some m.cls := findClass_of_methodNamed Bd.named
  have hnm := (name_of_methodNamed Bd.named Bd.method).1
  have X0 : Stand p l e ({ frames := 4, cells := 1, slots := 4, locals := 56 } : Room) s m #[(.ref a1), (.ref a2)] below meth c s₁ [] 0 0 := Stand.of_body Bd
  have e0 : s₁.heap = h0 := by rw [← hh, Bd.state]; rfl
  have N0 := Fr.nil n0
  refine own_pre (g' := mkF m 0 (lc18 a1 a2) []) (ef_4 m a1 a2) ?_
  obtain ⟨T4, X4, e4, st4⟩ := getF X0 hx hZ hown (host := "") (Or.inl (ww hw 30 rfl)) Via.refl e0 F3 (g := (mkF m 1 (lc18 a1 a2) [(.ref a1)])) rfl rfl (hb hby d7_1)
  obtain ⟨T7, X7, e7, st7⟩ := getF X4 hx hZ hown (host := "") (Or.inl (ww hw 30 rfl)) Via.refl e4 F6 (g := (mkF m 33 (lc18 a1 a2) [(.ref a2)])) rfl rfl (hb hby d7_33)
  obtain ⟨T10, X10, e10, st10⟩ := getF X7 hx hZ hown (host := "") (Or.inl (ww hw 32 rfl)) Via.refl e7 F9 (g := (mkF m 45 (lc46 a1 a2 a5) [(.ref a1)])) rfl rfl (hb hby d7_45)
  obtain ⟨T12, X12, e12, st12⟩ := getF X10 hx hZ hown (host := "") (Or.inl (ww hw 32 rfl)) Via.refl e10 F11 (g := (mkF m 52 (lc46 a1 a2 a5) [(.ref a2)])) rfl rfl (hb hby d7_52)
  obtain ⟨T13, X13, e13, st13⟩ := getF X12 hx hZ hown (host := "") (Or.inl (ww hw 32 rfl)) Via.refl e12 F9 (g := (mkF m 84 (lc46 a1 a2 a5) [(.ref a1)])) rfl rfl (hb hby d7_84)
  obtain ⟨T14, h14, X14, e14, E14, A14, D14, -, st14⟩ := newO X13 hx hZ hown (ww hw 46 rfl) (ww hw 9 rfl) (ww hw 10 rfl) e13 (g := (mkF m 88 (lc58 a1 a2 a5 a8) [])) rfl (hb hby d7_88) (by decide) (by decide)
  obtain ⟨b14, g14⟩ : ∃ z, z = h0.size := ⟨_, rfl⟩
  rw [← g14] at A14 D14 st14
  have f15 : Fld Z h14 b14 zs8 "unit" zs1 .null := D14 (Or.inr (ww hw 29 rfl)) (ty := (.object zs0)) (by decide)
  have f16 : Fld Z h14 b14 zs8 "first" zs9 .null := D14 (Or.inr (ww hw 31 rfl)) (ty := (.object zs11)) (by decide)
  have f17 : Fld Z h14 b14 zs8 "last" zs9 .null := D14 (Or.inr (ww hw 33 rfl)) (ty := (.object zs11)) (by decide)
  have f18 : Fld Z h14 b14 zs8 "anchor" zs5 .null := D14 (Or.inr (ww hw 35 rfl)) (ty := (.object zs4)) (by decide)
  have f21 : Fld Z h14 a1 zs8 "unit" zs1 (.ref a19) := (Fld.ext E14 F20)
  obtain ⟨T22, X22, e22, st22⟩ := getF X14 hx hZ hown (host := "") (Or.inl (ww hw 28 rfl)) Via.refl e14 f21 (g := (mkF m 93 (lc58 a1 a2 a5 a8) [(.ref a1), (.ref b14), (.ref b14)])) rfl rfl (hb hby d7_93)
  have f26 : Sta Z h14 zs4 "MIDDLE" zs5 (.ref a24) := (Sta.ext E14 F25)
  have g27 : n0 ≤ b14 := Nat.le_trans Z0 (Nat.le_of_eq g14.symm)
  have Z_1 : n0 ≤ h14.size := Nat.le_trans Z0 E14.1
  obtain ⟨_, T23, L23, X23, hQ23, st23⟩ := ocallI X22 hx hZ zm5 rfl hown (ww hw 47 rfl) (ww hw 48 rfl) (by decide) (ww hw 49 rfl) (ww hw 10 rfl) e22 (rm8_32 l Z a0 hw [] b14 a19 a5 a8 a24 h14 n0 Z_1 f26 f15 f16 f17 f18 A14 g27) (st := [(.ref a8), (.ref a5), (.ref a19), (.ref b14), (.ref b14)]) rfl 1 rfl (by decide) (pc := 98) (Ls := (lc58 a1 a2 a5 a8)) hml rfl (lenOf pd_5 rfl) d7_98 hby
  obtain ⟨rfl, N23q, K23, f28, f29, f30, f31⟩ := hQ23
  have N32 := Fr.app N0 N23q
  refine own_go (U' := T23.setTop (mkF m 101 (lc58 a1 a2 a5 a8) [(.ref b14)])) (fun t k => oaloadN X0 hx hby d7_0 rfl rfl (st4 _ (onlY (pc := 4) X4 hx hby d7_4 32 (by decide) (oaloadN X4 hx hby d7_32 rfl rfl (st7 _ (ogoto (pc := 36) X7 hx hby d7_36 43 (by decide) (oastoreN X7 hx hby d7_43 (lc46 a1 a2 a5) rfl rfl (oaloadN X7 hx hby d7_44 rfl rfl (st10 _ (onlN X10 hx hby d7_48 (oaloadN X10 hx hby d7_51 rfl rfl (st12 _ (onlY (pc := 55) X12 hx hby d7_55 83 (by decide) (oaloadN X12 hx hby d7_83 rfl rfl (st13 _ (oastoreN X13 hx hby d7_87 (lc58 a1 a2 a5 a8) rfl rfl (st14 _ (odup X14 hx hby d7_91 rfl (oaloadN X14 hx hby d7_92 rfl rfl (st22 _ (oaloadN X22 hx hby d7_96 rfl rfl (oaloadN X22 hx hby d7_97 rfl rfl (st23 _ k))))))))))))))))))))))) ?_
  have f33 : Exa Z T23.heap b14 zs8 := (A14.keep K23)
  obtain ⟨fs, hr, hrun, hended, hW, hsame⟩ := X23.leave (v := some (.ref b14)) (fun h => by rw [Bd.returns] at h; cases h)
  refine own_out ⟨_, _, ?_, hrun, hended, _, _, rfl, ?_, ⟨_, rfl⟩, hW, hsame.mono (by decide) (by decide)⟩
  · exact retOut X23 hx Bd.returns rfl (Or.inr (Or.inr (Or.inr (Or.inr ⟨rfl, rfl, rfl⟩)))) (hb hby d7_101) hr
  · show Q7_39 Z a1 a2 a5 a8 a19 a24 h0 n0 _ T23.heap _
    exact ⟨b14, rfl, N32, (Keep.trans ((Keep.refl h0 []).ext E14) K23 (allS (Or.inr (Nat.le_of_eq g14.symm)) all0)), (Nat.le_of_eq g14.symm), f33, f28, f29, f30, f31⟩
def Q7_40 (Z : State) (a1 a2 a5 a8 a11 : Addr) (q17 q23 : Int64) (a33 a38 : Addr) (h0 : Heap) (n0 : Nat) (v : Option Value) (h : Heap) (L : List Loc) : Prop := ∃ b28 : Addr, v = some (.ref b28) ∧ Fr n0 L ∧ Keep h0 h [] ∧ h0.size ≤ b28 ∧ Exa Z h b28 zs8 ∧ Fld Z h b28 zs8 "unit" zs1 (.ref a33) ∧ Fld Z h b28 zs8 "first" zs9 (.ref a5) ∧ Fld Z h b28 zs8 "last" zs9 (.ref a11) ∧ Fld Z h b28 zs8 "anchor" zs5 (.ref a38)
set_option maxRecDepth 65536 in
set_option maxHeartbeats 40000000 in
theorem rm7_40 (l : Launch) (Z : State) (a0 : Array Value) (hw : ∀ d ∈ tables_1, d.before a0 Z = true) (ws : List Jvm.Cond) (a1 a2 a5 a8 a11 : Addr) (q17 q23 : Int64) (a33 a38 : Addr) (h0 : Heap) (n0 : Nat) (Z0 : n0 ≤ h0.size) (F3 : Fld Z h0 a1 zs8 "first" zs9 .null) (F6 : Fld Z h0 a2 zs8 "first" zs9 (.ref a5)) (F9 : Fld Z h0 a1 zs8 "last" zs9 (.ref a8)) (F12 : Fld Z h0 a2 zs8 "last" zs9 (.ref a11)) (F16 : Exa Z h0 a11 zs11) (F18 : Fld Z h0 a11 zs11 "value" "J" (.long q17)) (F22 : Exa Z h0 a8 zs11) (F24 : Fld Z h0 a8 zs11 "value" "J" (.long q23)) (hc26 : q17 < q23) (F34 : Fld Z h0 a1 zs8 "unit" zs1 (.ref a33)) (F39 : Sta Z h0 zs4 "MIDDLE" zs5 (.ref a38)) :
    MetFree l zm6 (head1 (Jvm.Cond.code zm6 prog_3_method_17_code 4 (some (.object zs8)) :: ws) ({ frames := 4, cells := 1, slots := 4, locals := 56 } : Room)) (fun a U => a = #[(.ref a1), (.ref a2)] ∧ Z.Warmed39 U.vm ∧ U.heap = h0) (fun _ _ _ _ _ => True) (fun _ U o U' => ∃ v L, o = .returned v ∧ Q7_40 Z a1 a2 a5 a8 a11 q17 q23 a33 a38 h0 n0 v U'.heap L ∧ FrameEnd U o U' L ({ frames := 4, cells := 1, slots := 4, locals := 56 } : Room).cells ({ frames := 4, cells := 1, slots := 4, locals := 56 } : Room).slots) := by
  refine MetFree.of_bodySF (plainFor_of_name pn_2) hisR ?_
  intro p e s m args below meth c s₁ Bd hml0 hP hK
  obtain ⟨rfl, hZ, hh⟩ := hP
  have hx := Bd.exec
  have hby := Bd.bytes
  have hml : c.maxLocals = 4 := hml0
  have hown : s.vm.findClass zs8 = some m.cls := findClass_of_methodNamed Bd.named
  have hnm := (name_of_methodNamed Bd.named Bd.method).1
  have X0 : Stand p l e ({ frames := 4, cells := 1, slots := 4, locals := 56 } : Room) s m #[(.ref a1), (.ref a2)] below meth c s₁ [] 0 0 := Stand.of_body Bd
  have e0 : s₁.heap = h0 := by rw [← hh, Bd.state]; rfl
  have N0 := Fr.nil n0
  refine own_pre (g' := mkF m 0 (lc18 a1 a2) []) (ef_4 m a1 a2) ?_
  obtain ⟨T4, X4, e4, st4⟩ := getF X0 hx hZ hown (host := "") (Or.inl (ww hw 30 rfl)) Via.refl e0 F3 (g := (mkF m 1 (lc18 a1 a2) [(.ref a1)])) rfl rfl (hb hby d7_1)
  obtain ⟨T7, X7, e7, st7⟩ := getF X4 hx hZ hown (host := "") (Or.inl (ww hw 30 rfl)) Via.refl e4 F6 (g := (mkF m 33 (lc18 a1 a2) [(.ref a2)])) rfl rfl (hb hby d7_33)
  obtain ⟨T10, X10, e10, st10⟩ := getF X7 hx hZ hown (host := "") (Or.inl (ww hw 32 rfl)) Via.refl e7 F9 (g := (mkF m 45 (lc46 a1 a2 a5) [(.ref a1)])) rfl rfl (hb hby d7_45)
  obtain ⟨T13, X13, e13, st13⟩ := getF X10 hx hZ hown (host := "") (Or.inl (ww hw 32 rfl)) Via.refl e10 F12 (g := (mkF m 52 (lc46 a1 a2 a5) [(.ref a2)])) rfl rfl (hb hby d7_52)
  obtain ⟨T14, X14, e14, st14⟩ := getF X13 hx hZ hown (host := "") (Or.inl (ww hw 32 rfl)) Via.refl e13 F12 (g := (mkF m 59 (lc46 a1 a2 a5) [(.ref a2)])) rfl rfl (hb hby d7_59)
  obtain ⟨_, T15, L15, X15, hQ15, st15⟩ := ocallV X14 hx hZ zm12 zm12 hown (ww hw 89 rfl) (ww hw 90 rfl) (notFace_of_selects (args := #[]) (mvT hZ (ww hw 92 rfl))) (ww hw 92 rfl) (ww hw 91 rfl) (by decide) (ww hw 93 rfl) (ww hw 65 rfl) e14 F16 (rm14_36 l Z a0 hw [] a11 q17 h0 n0 Z0 F18) (st := [(.ref a11)]) rfl 0 rfl (by decide) (pc := 62) (Ls := (lc46 a1 a2 a5)) hml rfl (lenOf pd_10 rfl) d7_62 hby
  obtain ⟨rfl, N15q, e15⟩ := hQ15
  have N19 := Fr.app N0 N15q
  obtain ⟨T20, X20, e20, st20⟩ := getF X15 hx hZ hown (host := "") (Or.inl (ww hw 32 rfl)) Via.refl e15 F9 (g := (mkF m 66 (lc46 a1 a2 a5) [(.ref a1), (.long q17)])) rfl rfl (hb hby d7_66)
  obtain ⟨_, T21, L21, X21, hQ21, st21⟩ := ocallV X20 hx hZ zm12 zm12 hown (ww hw 89 rfl) (ww hw 90 rfl) (notFace_of_selects (args := #[]) (mvT hZ (ww hw 92 rfl))) (ww hw 92 rfl) (ww hw 91 rfl) (by decide) (ww hw 93 rfl) (ww hw 65 rfl) e20 F22 (rm14_36 l Z a0 hw [] a8 q23 h0 n0 Z0 F24) (st := [(.ref a8), (.long q17)]) rfl 2 rfl (by decide) (pc := 69) (Ls := (lc46 a1 a2 a5)) hml rfl (lenOf pd_10 rfl) d7_69 hby
  obtain ⟨rfl, N21q, e21⟩ := hQ21
  have N25 := Fr.app N19 N21q
  refine own_go (U' := T21.setTop (mkF m 73 (lc46 a1 a2 a5) [(.int (lcmpW q17 q23))])) (fun t k => oaloadN X0 hx hby d7_0 rfl rfl (st4 _ (onlY (pc := 4) X4 hx hby d7_4 32 (by decide) (oaloadN X4 hx hby d7_32 rfl rfl (st7 _ (ogoto (pc := 36) X7 hx hby d7_36 43 (by decide) (oastoreN X7 hx hby d7_43 (lc46 a1 a2 a5) rfl rfl (oaloadN X7 hx hby d7_44 rfl rfl (st10 _ (onlN X10 hx hby d7_48 (oaloadN X10 hx hby d7_51 rfl rfl (st13 _ (onlN X13 hx hby d7_55 (oaloadN X13 hx hby d7_58 rfl rfl (st14 _ (st15 _ (oaloadN X15 hx hby d7_65 rfl rfl (st20 _ (st21 _ (olcmp X21 hx hby d7_72 k)))))))))))))))))))) ?_
  obtain ⟨T27, X27, e27, st27⟩ := getF X21 hx hZ hown (host := "") (Or.inl (ww hw 32 rfl)) Via.refl e21 F12 (g := (mkF m 77 (lc46 a1 a2 a5) [(.ref a2)])) rfl rfl (hb hby d7_77)
  obtain ⟨T28, h28, X28, e28, E28, A28, D28, -, st28⟩ := newO X27 hx hZ hown (ww hw 46 rfl) (ww hw 9 rfl) (ww hw 10 rfl) e27 (g := (mkF m 88 (lc58 a1 a2 a5 a11) [])) rfl (hb hby d7_88) (by decide) (by decide)
  obtain ⟨b28, g28⟩ : ∃ z, z = h0.size := ⟨_, rfl⟩
  rw [← g28] at A28 D28 st28
  have f29 : Fld Z h28 b28 zs8 "unit" zs1 .null := D28 (Or.inr (ww hw 29 rfl)) (ty := (.object zs0)) (by decide)
  have f30 : Fld Z h28 b28 zs8 "first" zs9 .null := D28 (Or.inr (ww hw 31 rfl)) (ty := (.object zs11)) (by decide)
  have f31 : Fld Z h28 b28 zs8 "last" zs9 .null := D28 (Or.inr (ww hw 33 rfl)) (ty := (.object zs11)) (by decide)
  have f32 : Fld Z h28 b28 zs8 "anchor" zs5 .null := D28 (Or.inr (ww hw 35 rfl)) (ty := (.object zs4)) (by decide)
  have f35 : Fld Z h28 a1 zs8 "unit" zs1 (.ref a33) := (Fld.ext E28 F34)
  obtain ⟨T36, X36, e36, st36⟩ := getF X28 hx hZ hown (host := "") (Or.inl (ww hw 28 rfl)) Via.refl e28 f35 (g := (mkF m 93 (lc58 a1 a2 a5 a11) [(.ref a1), (.ref b28), (.ref b28)])) rfl rfl (hb hby d7_93)
  have f40 : Sta Z h28 zs4 "MIDDLE" zs5 (.ref a38) := (Sta.ext E28 F39)
  have g41 : n0 ≤ b28 := Nat.le_trans Z0 (Nat.le_of_eq g28.symm)
  have Z_1 : n0 ≤ h28.size := Nat.le_trans Z0 E28.1
  obtain ⟨_, T37, L37, X37, hQ37, st37⟩ := ocallI X36 hx hZ zm5 rfl hown (ww hw 47 rfl) (ww hw 48 rfl) (by decide) (ww hw 49 rfl) (ww hw 10 rfl) e36 (rm8_32 l Z a0 hw [] b28 a33 a5 a11 a38 h28 n0 Z_1 f40 f29 f30 f31 f32 A28 g41) (st := [(.ref a11), (.ref a5), (.ref a33), (.ref b28), (.ref b28)]) rfl 1 rfl (by decide) (pc := 98) (Ls := (lc58 a1 a2 a5 a11)) hml rfl (lenOf pd_5 rfl) d7_98 hby
  obtain ⟨rfl, N37q, K37, f42, f43, f44, f45⟩ := hQ37
  have N46 := Fr.app N25 N37q
  refine own_go (U' := T37.setTop (mkF m 101 (lc58 a1 a2 a5 a11) [(.ref b28)])) (fun t k => oifN X21 hx hby d7_73 (own_ll_ge_f hc26) (oaloadN X21 hx hby d7_76 rfl rfl (st27 _ (ogoto (pc := 80) X27 hx hby d7_80 87 (by decide) (oastoreN X27 hx hby d7_87 (lc58 a1 a2 a5 a11) rfl rfl (st28 _ (odup X28 hx hby d7_91 rfl (oaloadN X28 hx hby d7_92 rfl rfl (st36 _ (oaloadN X36 hx hby d7_96 rfl rfl (oaloadN X36 hx hby d7_97 rfl rfl (st37 _ k)))))))))))) ?_
  have f47 : Exa Z T37.heap b28 zs8 := (A28.keep K37)
  obtain ⟨fs, hr, hrun, hended, hW, hsame⟩ := X37.leave (v := some (.ref b28)) (fun h => by rw [Bd.returns] at h; cases h)
  refine own_out ⟨_, _, ?_, hrun, hended, _, _, rfl, ?_, ⟨_, rfl⟩, hW, hsame.mono (by decide) (by decide)⟩
  · exact retOut X37 hx Bd.returns rfl (Or.inr (Or.inr (Or.inr (Or.inr ⟨rfl, rfl, rfl⟩)))) (hb hby d7_101) hr
  · show Q7_40 Z a1 a2 a5 a8 a11 q17 q23 a33 a38 h0 n0 _ T37.heap _
    exact ⟨b28, rfl, N46, (Keep.trans ((Keep.refl h0 []).ext E28) K37 (allS (Or.inr (Nat.le_of_eq g28.symm)) all0)), (Nat.le_of_eq g28.symm), f47, f42, f43, f44, f45⟩
def Q7_41 (Z : State) (a1 a2 a5 a8 a11 : Addr) (q17 q23 : Int64) (a33 a38 : Addr) (h0 : Heap) (n0 : Nat) (v : Option Value) (h : Heap) (L : List Loc) : Prop := ∃ b28 : Addr, v = some (.ref b28) ∧ Fr n0 L ∧ Keep h0 h [] ∧ h0.size ≤ b28 ∧ Exa Z h b28 zs8 ∧ Fld Z h b28 zs8 "unit" zs1 (.ref a33) ∧ Fld Z h b28 zs8 "first" zs9 (.ref a5) ∧ Fld Z h b28 zs8 "last" zs9 (.ref a8) ∧ Fld Z h b28 zs8 "anchor" zs5 (.ref a38)
set_option maxRecDepth 65536 in
set_option maxHeartbeats 40000000 in
theorem rm7_41 (l : Launch) (Z : State) (a0 : Array Value) (hw : ∀ d ∈ tables_1, d.before a0 Z = true) (ws : List Jvm.Cond) (a1 a2 a5 a8 a11 : Addr) (q17 q23 : Int64) (a33 a38 : Addr) (h0 : Heap) (n0 : Nat) (Z0 : n0 ≤ h0.size) (F3 : Fld Z h0 a1 zs8 "first" zs9 .null) (F6 : Fld Z h0 a2 zs8 "first" zs9 (.ref a5)) (F9 : Fld Z h0 a1 zs8 "last" zs9 (.ref a8)) (F12 : Fld Z h0 a2 zs8 "last" zs9 (.ref a11)) (F16 : Exa Z h0 a11 zs11) (F18 : Fld Z h0 a11 zs11 "value" "J" (.long q17)) (F22 : Exa Z h0 a8 zs11) (F24 : Fld Z h0 a8 zs11 "value" "J" (.long q23)) (hc26 : ¬ (q17 < q23)) (F34 : Fld Z h0 a1 zs8 "unit" zs1 (.ref a33)) (F39 : Sta Z h0 zs4 "MIDDLE" zs5 (.ref a38)) :
    MetFree l zm6 (head1 (Jvm.Cond.code zm6 prog_3_method_17_code 4 (some (.object zs8)) :: ws) ({ frames := 4, cells := 1, slots := 4, locals := 56 } : Room)) (fun a U => a = #[(.ref a1), (.ref a2)] ∧ Z.Warmed39 U.vm ∧ U.heap = h0) (fun _ _ _ _ _ => True) (fun _ U o U' => ∃ v L, o = .returned v ∧ Q7_41 Z a1 a2 a5 a8 a11 q17 q23 a33 a38 h0 n0 v U'.heap L ∧ FrameEnd U o U' L ({ frames := 4, cells := 1, slots := 4, locals := 56 } : Room).cells ({ frames := 4, cells := 1, slots := 4, locals := 56 } : Room).slots) := by
  refine MetFree.of_bodySF (plainFor_of_name pn_2) hisR ?_
  intro p e s m args below meth c s₁ Bd hml0 hP hK
  obtain ⟨rfl, hZ, hh⟩ := hP
  have hx := Bd.exec
  have hby := Bd.bytes
  have hml : c.maxLocals = 4 := hml0
  have hown : s.vm.findClass zs8 = some m.cls := findClass_of_methodNamed Bd.named
  have hnm := (name_of_methodNamed Bd.named Bd.method).1
  have X0 : Stand p l e ({ frames := 4, cells := 1, slots := 4, locals := 56 } : Room) s m #[(.ref a1), (.ref a2)] below meth c s₁ [] 0 0 := Stand.of_body Bd
  have e0 : s₁.heap = h0 := by rw [← hh, Bd.state]; rfl
  have N0 := Fr.nil n0
  refine own_pre (g' := mkF m 0 (lc18 a1 a2) []) (ef_4 m a1 a2) ?_
  obtain ⟨T4, X4, e4, st4⟩ := getF X0 hx hZ hown (host := "") (Or.inl (ww hw 30 rfl)) Via.refl e0 F3 (g := (mkF m 1 (lc18 a1 a2) [(.ref a1)])) rfl rfl (hb hby d7_1)
  obtain ⟨T7, X7, e7, st7⟩ := getF X4 hx hZ hown (host := "") (Or.inl (ww hw 30 rfl)) Via.refl e4 F6 (g := (mkF m 33 (lc18 a1 a2) [(.ref a2)])) rfl rfl (hb hby d7_33)
  obtain ⟨T10, X10, e10, st10⟩ := getF X7 hx hZ hown (host := "") (Or.inl (ww hw 32 rfl)) Via.refl e7 F9 (g := (mkF m 45 (lc46 a1 a2 a5) [(.ref a1)])) rfl rfl (hb hby d7_45)
  obtain ⟨T13, X13, e13, st13⟩ := getF X10 hx hZ hown (host := "") (Or.inl (ww hw 32 rfl)) Via.refl e10 F12 (g := (mkF m 52 (lc46 a1 a2 a5) [(.ref a2)])) rfl rfl (hb hby d7_52)
  obtain ⟨T14, X14, e14, st14⟩ := getF X13 hx hZ hown (host := "") (Or.inl (ww hw 32 rfl)) Via.refl e13 F12 (g := (mkF m 59 (lc46 a1 a2 a5) [(.ref a2)])) rfl rfl (hb hby d7_59)
  obtain ⟨_, T15, L15, X15, hQ15, st15⟩ := ocallV X14 hx hZ zm12 zm12 hown (ww hw 89 rfl) (ww hw 90 rfl) (notFace_of_selects (args := #[]) (mvT hZ (ww hw 92 rfl))) (ww hw 92 rfl) (ww hw 91 rfl) (by decide) (ww hw 93 rfl) (ww hw 65 rfl) e14 F16 (rm14_36 l Z a0 hw [] a11 q17 h0 n0 Z0 F18) (st := [(.ref a11)]) rfl 0 rfl (by decide) (pc := 62) (Ls := (lc46 a1 a2 a5)) hml rfl (lenOf pd_10 rfl) d7_62 hby
  obtain ⟨rfl, N15q, e15⟩ := hQ15
  have N19 := Fr.app N0 N15q
  obtain ⟨T20, X20, e20, st20⟩ := getF X15 hx hZ hown (host := "") (Or.inl (ww hw 32 rfl)) Via.refl e15 F9 (g := (mkF m 66 (lc46 a1 a2 a5) [(.ref a1), (.long q17)])) rfl rfl (hb hby d7_66)
  obtain ⟨_, T21, L21, X21, hQ21, st21⟩ := ocallV X20 hx hZ zm12 zm12 hown (ww hw 89 rfl) (ww hw 90 rfl) (notFace_of_selects (args := #[]) (mvT hZ (ww hw 92 rfl))) (ww hw 92 rfl) (ww hw 91 rfl) (by decide) (ww hw 93 rfl) (ww hw 65 rfl) e20 F22 (rm14_36 l Z a0 hw [] a8 q23 h0 n0 Z0 F24) (st := [(.ref a8), (.long q17)]) rfl 2 rfl (by decide) (pc := 69) (Ls := (lc46 a1 a2 a5)) hml rfl (lenOf pd_10 rfl) d7_69 hby
  obtain ⟨rfl, N21q, e21⟩ := hQ21
  have N25 := Fr.app N19 N21q
  refine own_go (U' := T21.setTop (mkF m 73 (lc46 a1 a2 a5) [(.int (lcmpW q17 q23))])) (fun t k => oaloadN X0 hx hby d7_0 rfl rfl (st4 _ (onlY (pc := 4) X4 hx hby d7_4 32 (by decide) (oaloadN X4 hx hby d7_32 rfl rfl (st7 _ (ogoto (pc := 36) X7 hx hby d7_36 43 (by decide) (oastoreN X7 hx hby d7_43 (lc46 a1 a2 a5) rfl rfl (oaloadN X7 hx hby d7_44 rfl rfl (st10 _ (onlN X10 hx hby d7_48 (oaloadN X10 hx hby d7_51 rfl rfl (st13 _ (onlN X13 hx hby d7_55 (oaloadN X13 hx hby d7_58 rfl rfl (st14 _ (st15 _ (oaloadN X15 hx hby d7_65 rfl rfl (st20 _ (st21 _ (olcmp X21 hx hby d7_72 k)))))))))))))))))))) ?_
  obtain ⟨T27, X27, e27, st27⟩ := getF X21 hx hZ hown (host := "") (Or.inl (ww hw 32 rfl)) Via.refl e21 F9 (g := (mkF m 84 (lc46 a1 a2 a5) [(.ref a1)])) rfl rfl (hb hby d7_84)
  obtain ⟨T28, h28, X28, e28, E28, A28, D28, -, st28⟩ := newO X27 hx hZ hown (ww hw 46 rfl) (ww hw 9 rfl) (ww hw 10 rfl) e27 (g := (mkF m 88 (lc58 a1 a2 a5 a8) [])) rfl (hb hby d7_88) (by decide) (by decide)
  obtain ⟨b28, g28⟩ : ∃ z, z = h0.size := ⟨_, rfl⟩
  rw [← g28] at A28 D28 st28
  have f29 : Fld Z h28 b28 zs8 "unit" zs1 .null := D28 (Or.inr (ww hw 29 rfl)) (ty := (.object zs0)) (by decide)
  have f30 : Fld Z h28 b28 zs8 "first" zs9 .null := D28 (Or.inr (ww hw 31 rfl)) (ty := (.object zs11)) (by decide)
  have f31 : Fld Z h28 b28 zs8 "last" zs9 .null := D28 (Or.inr (ww hw 33 rfl)) (ty := (.object zs11)) (by decide)
  have f32 : Fld Z h28 b28 zs8 "anchor" zs5 .null := D28 (Or.inr (ww hw 35 rfl)) (ty := (.object zs4)) (by decide)
  have f35 : Fld Z h28 a1 zs8 "unit" zs1 (.ref a33) := (Fld.ext E28 F34)
  obtain ⟨T36, X36, e36, st36⟩ := getF X28 hx hZ hown (host := "") (Or.inl (ww hw 28 rfl)) Via.refl e28 f35 (g := (mkF m 93 (lc58 a1 a2 a5 a8) [(.ref a1), (.ref b28), (.ref b28)])) rfl rfl (hb hby d7_93)
  have f40 : Sta Z h28 zs4 "MIDDLE" zs5 (.ref a38) := (Sta.ext E28 F39)
  have g41 : n0 ≤ b28 := Nat.le_trans Z0 (Nat.le_of_eq g28.symm)
  have Z_1 : n0 ≤ h28.size := Nat.le_trans Z0 E28.1
  obtain ⟨_, T37, L37, X37, hQ37, st37⟩ := ocallI X36 hx hZ zm5 rfl hown (ww hw 47 rfl) (ww hw 48 rfl) (by decide) (ww hw 49 rfl) (ww hw 10 rfl) e36 (rm8_32 l Z a0 hw [] b28 a33 a5 a8 a38 h28 n0 Z_1 f40 f29 f30 f31 f32 A28 g41) (st := [(.ref a8), (.ref a5), (.ref a33), (.ref b28), (.ref b28)]) rfl 1 rfl (by decide) (pc := 98) (Ls := (lc58 a1 a2 a5 a8)) hml rfl (lenOf pd_5 rfl) d7_98 hby
  obtain ⟨rfl, N37q, K37, f42, f43, f44, f45⟩ := hQ37
  have N46 := Fr.app N25 N37q
  refine own_go (U' := T37.setTop (mkF m 101 (lc58 a1 a2 a5 a8) [(.ref b28)])) (fun t k => oifY (pc := 73) X21 hx hby d7_73 83 (own_ll_ge_t hc26) (by decide) (oaloadN X21 hx hby d7_83 rfl rfl (st27 _ (oastoreN X27 hx hby d7_87 (lc58 a1 a2 a5 a8) rfl rfl (st28 _ (odup X28 hx hby d7_91 rfl (oaloadN X28 hx hby d7_92 rfl rfl (st36 _ (oaloadN X36 hx hby d7_96 rfl rfl (oaloadN X36 hx hby d7_97 rfl rfl (st37 _ k))))))))))) ?_
  have f47 : Exa Z T37.heap b28 zs8 := (A28.keep K37)
  obtain ⟨fs, hr, hrun, hended, hW, hsame⟩ := X37.leave (v := some (.ref b28)) (fun h => by rw [Bd.returns] at h; cases h)
  refine own_out ⟨_, _, ?_, hrun, hended, _, _, rfl, ?_, ⟨_, rfl⟩, hW, hsame.mono (by decide) (by decide)⟩
  · exact retOut X37 hx Bd.returns rfl (Or.inr (Or.inr (Or.inr (Or.inr ⟨rfl, rfl, rfl⟩)))) (hb hby d7_101) hr
  · show Q7_41 Z a1 a2 a5 a8 a11 q17 q23 a33 a38 h0 n0 _ T37.heap _
    exact ⟨b28, rfl, N46, (Keep.trans ((Keep.refl h0 []).ext E28) K37 (allS (Or.inr (Nat.le_of_eq g28.symm)) all0)), (Nat.le_of_eq g28.symm), f47, f42, f43, f44, f45⟩
def Q7_42 (Z : State) (a1 a2 a3 a18 a23 : Addr) (h0 : Heap) (n0 : Nat) (v : Option Value) (h : Heap) (L : List Loc) : Prop := ∃ b13 : Addr, v = some (.ref b13) ∧ Fr n0 L ∧ Keep h0 h [] ∧ h0.size ≤ b13 ∧ Exa Z h b13 zs8 ∧ Fld Z h b13 zs8 "unit" zs1 (.ref a18) ∧ Fld Z h b13 zs8 "first" zs9 (.ref a3) ∧ Fld Z h b13 zs8 "last" zs9 .null ∧ Fld Z h b13 zs8 "anchor" zs5 (.ref a23)
set_option maxRecDepth 65536 in
set_option maxHeartbeats 40000000 in
theorem rm7_42 (l : Launch) (Z : State) (a0 : Array Value) (hw : ∀ d ∈ tables_1, d.before a0 Z = true) (ws : List Jvm.Cond) (a1 a2 a3 a18 a23 : Addr) (h0 : Heap) (n0 : Nat) (Z0 : n0 ≤ h0.size) (F4 : Fld Z h0 a1 zs8 "first" zs9 (.ref a3)) (F6 : Fld Z h0 a2 zs8 "first" zs9 .null) (F9 : Fld Z h0 a1 zs8 "last" zs9 .null) (F11 : Fld Z h0 a2 zs8 "last" zs9 .null) (F19 : Fld Z h0 a1 zs8 "unit" zs1 (.ref a18)) (F24 : Sta Z h0 zs4 "MIDDLE" zs5 (.ref a23)) :
    MetFree l zm6 (head1 (Jvm.Cond.code zm6 prog_3_method_17_code 4 (some (.object zs8)) :: ws) ({ frames := 4, cells := 1, slots := 4, locals := 56 } : Room)) (fun a U => a = #[(.ref a1), (.ref a2)] ∧ Z.Warmed39 U.vm ∧ U.heap = h0) (fun _ _ _ _ _ => True) (fun _ U o U' => ∃ v L, o = .returned v ∧ Q7_42 Z a1 a2 a3 a18 a23 h0 n0 v U'.heap L ∧ FrameEnd U o U' L ({ frames := 4, cells := 1, slots := 4, locals := 56 } : Room).cells ({ frames := 4, cells := 1, slots := 4, locals := 56 } : Room).slots) := by
  refine MetFree.of_bodySF (plainFor_of_name pn_2) hisR ?_
  intro p e s m args below meth c s₁ Bd hml0 hP hK
  obtain ⟨rfl, hZ, hh⟩ := hP
  have hx := Bd.exec
  have hby := Bd.bytes
  have hml : c.maxLocals = 4 := hml0
  have hown : s.vm.findClass zs8 = some m.cls := findClass_of_methodNamed Bd.named
  have hnm := (name_of_methodNamed Bd.named Bd.method).1
  have X0 : Stand p l e ({ frames := 4, cells := 1, slots := 4, locals := 56 } : Room) s m #[(.ref a1), (.ref a2)] below meth c s₁ [] 0 0 := Stand.of_body Bd
  have e0 : s₁.heap = h0 := by rw [← hh, Bd.state]; rfl
  have N0 := Fr.nil n0
  refine own_pre (g' := mkF m 0 (lc18 a1 a2) []) (ef_4 m a1 a2) ?_
  obtain ⟨T5, X5, e5, st5⟩ := getF X0 hx hZ hown (host := "") (Or.inl (ww hw 30 rfl)) Via.refl e0 F4 (g := (mkF m 1 (lc18 a1 a2) [(.ref a1)])) rfl rfl (hb hby d7_1)
  obtain ⟨T7, X7, e7, st7⟩ := getF X5 hx hZ hown (host := "") (Or.inl (ww hw 30 rfl)) Via.refl e5 F6 (g := (mkF m 8 (lc18 a1 a2) [(.ref a2)])) rfl rfl (hb hby d7_8)
  obtain ⟨T8, X8, e8, st8⟩ := getF X7 hx hZ hown (host := "") (Or.inl (ww hw 30 rfl)) Via.refl e7 F4 (g := (mkF m 40 (lc18 a1 a2) [(.ref a1)])) rfl rfl (hb hby d7_40)
  obtain ⟨T10, X10, e10, st10⟩ := getF X8 hx hZ hown (host := "") (Or.inl (ww hw 32 rfl)) Via.refl e8 F9 (g := (mkF m 45 (lc46 a1 a2 a3) [(.ref a1)])) rfl rfl (hb hby d7_45)
  obtain ⟨T12, X12, e12, st12⟩ := getF X10 hx hZ hown (host := "") (Or.inl (ww hw 32 rfl)) Via.refl e10 F11 (g := (mkF m 77 (lc46 a1 a2 a3) [(.ref a2)])) rfl rfl (hb hby d7_77)
  obtain ⟨T13, h13, X13, e13, E13, A13, D13, -, st13⟩ := newO X12 hx hZ hown (ww hw 46 rfl) (ww hw 9 rfl) (ww hw 10 rfl) e12 (g := (mkF m 88 (lc47 a1 a2 a3) [])) rfl (hb hby d7_88) (by decide) (by decide)
  obtain ⟨b13, g13⟩ : ∃ z, z = h0.size := ⟨_, rfl⟩
  rw [← g13] at A13 D13 st13
  have f14 : Fld Z h13 b13 zs8 "unit" zs1 .null := D13 (Or.inr (ww hw 29 rfl)) (ty := (.object zs0)) (by decide)
  have f15 : Fld Z h13 b13 zs8 "first" zs9 .null := D13 (Or.inr (ww hw 31 rfl)) (ty := (.object zs11)) (by decide)
  have f16 : Fld Z h13 b13 zs8 "last" zs9 .null := D13 (Or.inr (ww hw 33 rfl)) (ty := (.object zs11)) (by decide)
  have f17 : Fld Z h13 b13 zs8 "anchor" zs5 .null := D13 (Or.inr (ww hw 35 rfl)) (ty := (.object zs4)) (by decide)
  have f20 : Fld Z h13 a1 zs8 "unit" zs1 (.ref a18) := (Fld.ext E13 F19)
  obtain ⟨T21, X21, e21, st21⟩ := getF X13 hx hZ hown (host := "") (Or.inl (ww hw 28 rfl)) Via.refl e13 f20 (g := (mkF m 93 (lc47 a1 a2 a3) [(.ref a1), (.ref b13), (.ref b13)])) rfl rfl (hb hby d7_93)
  have f25 : Sta Z h13 zs4 "MIDDLE" zs5 (.ref a23) := (Sta.ext E13 F24)
  have g26 : n0 ≤ b13 := Nat.le_trans Z0 (Nat.le_of_eq g13.symm)
  have Z_1 : n0 ≤ h13.size := Nat.le_trans Z0 E13.1
  obtain ⟨_, T22, L22, X22, hQ22, st22⟩ := ocallI X21 hx hZ zm5 rfl hown (ww hw 47 rfl) (ww hw 48 rfl) (by decide) (ww hw 49 rfl) (ww hw 10 rfl) e21 (rm8_28 l Z a0 hw [] b13 a18 a3 a23 h13 n0 Z_1 f25 f14 f15 f16 f17 A13 g26) (st := [.null, (.ref a3), (.ref a18), (.ref b13), (.ref b13)]) rfl 1 rfl (by decide) (pc := 98) (Ls := (lc47 a1 a2 a3)) hml rfl (lenOf pd_5 rfl) d7_98 hby
  obtain ⟨rfl, N22q, K22, f27, f28, f29, f30⟩ := hQ22
  have N31 := Fr.app N0 N22q
  refine own_go (U' := T22.setTop (mkF m 101 (lc47 a1 a2 a3) [(.ref b13)])) (fun t k => oaloadN X0 hx hby d7_0 rfl rfl (st5 _ (onlN X5 hx hby d7_4 (oaloadN X5 hx hby d7_7 rfl rfl (st7 _ (onlY (pc := 11) X7 hx hby d7_11 39 (by decide) (oaloadN X7 hx hby d7_39 rfl rfl (st8 _ (oastoreN X8 hx hby d7_43 (lc46 a1 a2 a3) rfl rfl (oaloadN X8 hx hby d7_44 rfl rfl (st10 _ (onlY (pc := 48) X10 hx hby d7_48 76 (by decide) (oaloadN X10 hx hby d7_76 rfl rfl (st12 _ (ogoto (pc := 80) X12 hx hby d7_80 87 (by decide) (oastoreN X12 hx hby d7_87 (lc47 a1 a2 a3) rfl rfl (st13 _ (odup X13 hx hby d7_91 rfl (oaloadN X13 hx hby d7_92 rfl rfl (st21 _ (oaloadN X21 hx hby d7_96 rfl rfl (oaloadN X21 hx hby d7_97 rfl rfl (st22 _ k))))))))))))))))))))))) ?_
  have f32 : Exa Z T22.heap b13 zs8 := (A13.keep K22)
  obtain ⟨fs, hr, hrun, hended, hW, hsame⟩ := X22.leave (v := some (.ref b13)) (fun h => by rw [Bd.returns] at h; cases h)
  refine own_out ⟨_, _, ?_, hrun, hended, _, _, rfl, ?_, ⟨_, rfl⟩, hW, hsame.mono (by decide) (by decide)⟩
  · exact retOut X22 hx Bd.returns rfl (Or.inr (Or.inr (Or.inr (Or.inr ⟨rfl, rfl, rfl⟩)))) (hb hby d7_101) hr
  · show Q7_42 Z a1 a2 a3 a18 a23 h0 n0 _ T22.heap _
    exact ⟨b13, rfl, N31, (Keep.trans ((Keep.refl h0 []).ext E13) K22 (allS (Or.inr (Nat.le_of_eq g13.symm)) all0)), (Nat.le_of_eq g13.symm), f32, f27, f28, f29, f30⟩
def Q9_43 (Z : State) (a1 a7 a11 a16 : Addr) (h0 : Heap) (n0 : Nat) (v : Option Value) (h : Heap) (L : List Loc) : Prop := ∃ b2 : Addr, v = some (.ref b2) ∧ Fr n0 L ∧ Keep h0 h [] ∧ h0.size ≤ b2 ∧ Exa Z h b2 zs8 ∧ Fld Z h b2 zs8 "unit" zs1 (.ref a7) ∧ Fld Z h b2 zs8 "first" zs9 (.ref a11) ∧ Fld Z h b2 zs8 "last" zs9 .null ∧ Fld Z h b2 zs8 "anchor" zs5 (.ref a16)
set_option maxRecDepth 65536 in
set_option maxHeartbeats 40000000 in
theorem rm9_43 (l : Launch) (Z : State) (a0 : Array Value) (hw : ∀ d ∈ tables_1, d.before a0 Z = true) (ws : List Jvm.Cond) (a1 a7 a11 a16 : Addr) (h0 : Heap) (n0 : Nat) (Z0 : n0 ≤ h0.size) (F8 : Fld Z h0 a1 zs8 "unit" zs1 (.ref a7)) (F12 : Fld Z h0 a1 zs8 "first" zs9 (.ref a11)) (F17 : Sta Z h0 zs4 "MIDDLE" zs5 (.ref a16)) :
    MetFree l zm7 (head1 (Jvm.Cond.code zm7 prog_3_method_12_code 1 (some (.object zs8)) :: ws) ({ frames := 4, cells := 1, slots := 4, locals := 56 } : Room)) (fun a U => a = #[(.ref a1)] ∧ Z.Warmed39 U.vm ∧ U.heap = h0) (fun _ _ _ _ _ => True) (fun _ U o U' => ∃ v L, o = .returned v ∧ Q9_43 Z a1 a7 a11 a16 h0 n0 v U'.heap L ∧ FrameEnd U o U' L ({ frames := 4, cells := 1, slots := 4, locals := 56 } : Room).cells ({ frames := 4, cells := 1, slots := 4, locals := 56 } : Room).slots) := by
  refine MetFree.of_bodySF (plainFor_of_name pn_2) hisR ?_
  intro p e s m args below meth c s₁ Bd hml0 hP hK
  obtain ⟨rfl, hZ, hh⟩ := hP
  have hx := Bd.exec
  have hby := Bd.bytes
  have hml : c.maxLocals = 1 := hml0
  have hown : s.vm.findClass zs8 = some m.cls := findClass_of_methodNamed Bd.named
  have hnm := (name_of_methodNamed Bd.named Bd.method).1
  have X0 : Stand p l e ({ frames := 4, cells := 1, slots := 4, locals := 56 } : Room) s m #[(.ref a1)] below meth c s₁ [] 0 0 := Stand.of_body Bd
  have e0 : s₁.heap = h0 := by rw [← hh, Bd.state]; rfl
  have N0 := Fr.nil n0
  refine own_pre (g' := mkF m 0 (lc13 a1) []) (ef_1 m a1) ?_
  obtain ⟨T2, h2, X2, e2, E2, A2, D2, -, st2⟩ := newO X0 hx hZ hown (ww hw 46 rfl) (ww hw 9 rfl) (ww hw 10 rfl) e0 (g := (mkF m 0 (lc13 a1) [])) rfl (hb hby d9_0) (by decide) (by decide)
  obtain ⟨b2, g2⟩ : ∃ z, z = h0.size := ⟨_, rfl⟩
  rw [← g2] at A2 D2 st2
  have f3 : Fld Z h2 b2 zs8 "unit" zs1 .null := D2 (Or.inr (ww hw 29 rfl)) (ty := (.object zs0)) (by decide)
  have f4 : Fld Z h2 b2 zs8 "first" zs9 .null := D2 (Or.inr (ww hw 31 rfl)) (ty := (.object zs11)) (by decide)
  have f5 : Fld Z h2 b2 zs8 "last" zs9 .null := D2 (Or.inr (ww hw 33 rfl)) (ty := (.object zs11)) (by decide)
  have f6 : Fld Z h2 b2 zs8 "anchor" zs5 .null := D2 (Or.inr (ww hw 35 rfl)) (ty := (.object zs4)) (by decide)
  have f9 : Fld Z h2 a1 zs8 "unit" zs1 (.ref a7) := (Fld.ext E2 F8)
  obtain ⟨T10, X10, e10, st10⟩ := getF X2 hx hZ hown (host := "") (Or.inl (ww hw 28 rfl)) Via.refl e2 f9 (g := (mkF m 5 (lc13 a1) [(.ref a1), (.ref b2), (.ref b2)])) rfl rfl (hb hby d9_5)
  have f13 : Fld Z h2 a1 zs8 "first" zs9 (.ref a11) := (Fld.ext E2 F12)
  obtain ⟨T14, X14, e14, st14⟩ := getF X10 hx hZ hown (host := "") (Or.inl (ww hw 30 rfl)) Via.refl e10 f13 (g := (mkF m 9 (lc13 a1) [(.ref a1), (.ref a7), (.ref b2), (.ref b2)])) rfl rfl (hb hby d9_9)
  have f18 : Sta Z h2 zs4 "MIDDLE" zs5 (.ref a16) := (Sta.ext E2 F17)
  have g19 : n0 ≤ b2 := Nat.le_trans Z0 (Nat.le_of_eq g2.symm)
  have Z_1 : n0 ≤ h2.size := Nat.le_trans Z0 E2.1
  obtain ⟨_, T15, L15, X15, hQ15, st15⟩ := ocallI X14 hx hZ zm5 rfl hown (ww hw 47 rfl) (ww hw 48 rfl) (by decide) (ww hw 49 rfl) (ww hw 10 rfl) e14 (rm8_28 l Z a0 hw [] b2 a7 a11 a16 h2 n0 Z_1 f18 f3 f4 f5 f6 A2 g19) (st := [.null, (.ref a11), (.ref a7), (.ref b2), (.ref b2)]) rfl 1 rfl (by decide) (pc := 13) (Ls := (lc13 a1)) hml rfl (lenOf pd_5 rfl) d9_13 hby
  obtain ⟨rfl, N15q, K15, f20, f21, f22, f23⟩ := hQ15
  have N24 := Fr.app N0 N15q
  refine own_go (U' := T15.setTop (mkF m 16 (lc13 a1) [(.ref b2)])) (fun t k => st2 _ (odup X2 hx hby d9_3 rfl (oaloadN X2 hx hby d9_4 rfl rfl (st10 _ (oaloadN X10 hx hby d9_8 rfl rfl (st14 _ (onull X14 hx hby d9_12 (st15 _ k)))))))) ?_
  have f25 : Exa Z T15.heap b2 zs8 := (A2.keep K15)
  obtain ⟨fs, hr, hrun, hended, hW, hsame⟩ := X15.leave (v := some (.ref b2)) (fun h => by rw [Bd.returns] at h; cases h)
  refine own_out ⟨_, _, ?_, hrun, hended, _, _, rfl, ?_, ⟨_, rfl⟩, hW, hsame.mono (by decide) (by decide)⟩
  · exact retOut X15 hx Bd.returns rfl (Or.inr (Or.inr (Or.inr (Or.inr ⟨rfl, rfl, rfl⟩)))) (hb hby d9_16) hr
  · show Q9_43 Z a1 a7 a11 a16 h0 n0 _ T15.heap _
    exact ⟨b2, rfl, N24, (Keep.trans ((Keep.refl h0 []).ext E2) K15 (allS (Or.inr (Nat.le_of_eq g2.symm)) all0)), (Nat.le_of_eq g2.symm), f25, f20, f21, f22, f23⟩
def Q7_44 (Z : State) (a1 a2 a3 a11 a19 a24 : Addr) (h0 : Heap) (n0 : Nat) (v : Option Value) (h : Heap) (L : List Loc) : Prop := ∃ b14 : Addr, v = some (.ref b14) ∧ Fr n0 L ∧ Keep h0 h [] ∧ h0.size ≤ b14 ∧ Exa Z h b14 zs8 ∧ Fld Z h b14 zs8 "unit" zs1 (.ref a19) ∧ Fld Z h b14 zs8 "first" zs9 (.ref a3) ∧ Fld Z h b14 zs8 "last" zs9 (.ref a11) ∧ Fld Z h b14 zs8 "anchor" zs5 (.ref a24)
set_option maxRecDepth 65536 in
set_option maxHeartbeats 40000000 in
theorem rm7_44 (l : Launch) (Z : State) (a0 : Array Value) (hw : ∀ d ∈ tables_1, d.before a0 Z = true) (ws : List Jvm.Cond) (a1 a2 a3 a11 a19 a24 : Addr) (h0 : Heap) (n0 : Nat) (Z0 : n0 ≤ h0.size) (F4 : Fld Z h0 a1 zs8 "first" zs9 (.ref a3)) (F6 : Fld Z h0 a2 zs8 "first" zs9 .null) (F9 : Fld Z h0 a1 zs8 "last" zs9 .null) (F12 : Fld Z h0 a2 zs8 "last" zs9 (.ref a11)) (F20 : Fld Z h0 a1 zs8 "unit" zs1 (.ref a19)) (F25 : Sta Z h0 zs4 "MIDDLE" zs5 (.ref a24)) :
    MetFree l zm6 (head1 (Jvm.Cond.code zm6 prog_3_method_17_code 4 (some (.object zs8)) :: ws) ({ frames := 4, cells := 1, slots := 4, locals := 56 } : Room)) (fun a U => a = #[(.ref a1), (.ref a2)] ∧ Z.Warmed39 U.vm ∧ U.heap = h0) (fun _ _ _ _ _ => True) (fun _ U o U' => ∃ v L, o = .returned v ∧ Q7_44 Z a1 a2 a3 a11 a19 a24 h0 n0 v U'.heap L ∧ FrameEnd U o U' L ({ frames := 4, cells := 1, slots := 4, locals := 56 } : Room).cells ({ frames := 4, cells := 1, slots := 4, locals := 56 } : Room).slots) := by
  refine MetFree.of_bodySF (plainFor_of_name pn_2) hisR ?_
  intro p e s m args below meth c s₁ Bd hml0 hP hK
  obtain ⟨rfl, hZ, hh⟩ := hP
  have hx := Bd.exec
  have hby := Bd.bytes
  have hml : c.maxLocals = 4 := hml0
  have hown : s.vm.findClass zs8 = some m.cls := findClass_of_methodNamed Bd.named
  have hnm := (name_of_methodNamed Bd.named Bd.method).1
  have X0 : Stand p l e ({ frames := 4, cells := 1, slots := 4, locals := 56 } : Room) s m #[(.ref a1), (.ref a2)] below meth c s₁ [] 0 0 := Stand.of_body Bd
  have e0 : s₁.heap = h0 := by rw [← hh, Bd.state]; rfl
  have N0 := Fr.nil n0
  refine own_pre (g' := mkF m 0 (lc18 a1 a2) []) (ef_4 m a1 a2) ?_
  obtain ⟨T5, X5, e5, st5⟩ := getF X0 hx hZ hown (host := "") (Or.inl (ww hw 30 rfl)) Via.refl e0 F4 (g := (mkF m 1 (lc18 a1 a2) [(.ref a1)])) rfl rfl (hb hby d7_1)
  obtain ⟨T7, X7, e7, st7⟩ := getF X5 hx hZ hown (host := "") (Or.inl (ww hw 30 rfl)) Via.refl e5 F6 (g := (mkF m 8 (lc18 a1 a2) [(.ref a2)])) rfl rfl (hb hby d7_8)
  obtain ⟨T8, X8, e8, st8⟩ := getF X7 hx hZ hown (host := "") (Or.inl (ww hw 30 rfl)) Via.refl e7 F4 (g := (mkF m 40 (lc18 a1 a2) [(.ref a1)])) rfl rfl (hb hby d7_40)
  obtain ⟨T10, X10, e10, st10⟩ := getF X8 hx hZ hown (host := "") (Or.inl (ww hw 32 rfl)) Via.refl e8 F9 (g := (mkF m 45 (lc46 a1 a2 a3) [(.ref a1)])) rfl rfl (hb hby d7_45)
  obtain ⟨T13, X13, e13, st13⟩ := getF X10 hx hZ hown (host := "") (Or.inl (ww hw 32 rfl)) Via.refl e10 F12 (g := (mkF m 77 (lc46 a1 a2 a3) [(.ref a2)])) rfl rfl (hb hby d7_77)
  obtain ⟨T14, h14, X14, e14, E14, A14, D14, -, st14⟩ := newO X13 hx hZ hown (ww hw 46 rfl) (ww hw 9 rfl) (ww hw 10 rfl) e13 (g := (mkF m 88 (lc58 a1 a2 a3 a11) [])) rfl (hb hby d7_88) (by decide) (by decide)
  obtain ⟨b14, g14⟩ : ∃ z, z = h0.size := ⟨_, rfl⟩
  rw [← g14] at A14 D14 st14
  have f15 : Fld Z h14 b14 zs8 "unit" zs1 .null := D14 (Or.inr (ww hw 29 rfl)) (ty := (.object zs0)) (by decide)
  have f16 : Fld Z h14 b14 zs8 "first" zs9 .null := D14 (Or.inr (ww hw 31 rfl)) (ty := (.object zs11)) (by decide)
  have f17 : Fld Z h14 b14 zs8 "last" zs9 .null := D14 (Or.inr (ww hw 33 rfl)) (ty := (.object zs11)) (by decide)
  have f18 : Fld Z h14 b14 zs8 "anchor" zs5 .null := D14 (Or.inr (ww hw 35 rfl)) (ty := (.object zs4)) (by decide)
  have f21 : Fld Z h14 a1 zs8 "unit" zs1 (.ref a19) := (Fld.ext E14 F20)
  obtain ⟨T22, X22, e22, st22⟩ := getF X14 hx hZ hown (host := "") (Or.inl (ww hw 28 rfl)) Via.refl e14 f21 (g := (mkF m 93 (lc58 a1 a2 a3 a11) [(.ref a1), (.ref b14), (.ref b14)])) rfl rfl (hb hby d7_93)
  have f26 : Sta Z h14 zs4 "MIDDLE" zs5 (.ref a24) := (Sta.ext E14 F25)
  have g27 : n0 ≤ b14 := Nat.le_trans Z0 (Nat.le_of_eq g14.symm)
  have Z_1 : n0 ≤ h14.size := Nat.le_trans Z0 E14.1
  obtain ⟨_, T23, L23, X23, hQ23, st23⟩ := ocallI X22 hx hZ zm5 rfl hown (ww hw 47 rfl) (ww hw 48 rfl) (by decide) (ww hw 49 rfl) (ww hw 10 rfl) e22 (rm8_32 l Z a0 hw [] b14 a19 a3 a11 a24 h14 n0 Z_1 f26 f15 f16 f17 f18 A14 g27) (st := [(.ref a11), (.ref a3), (.ref a19), (.ref b14), (.ref b14)]) rfl 1 rfl (by decide) (pc := 98) (Ls := (lc58 a1 a2 a3 a11)) hml rfl (lenOf pd_5 rfl) d7_98 hby
  obtain ⟨rfl, N23q, K23, f28, f29, f30, f31⟩ := hQ23
  have N32 := Fr.app N0 N23q
  refine own_go (U' := T23.setTop (mkF m 101 (lc58 a1 a2 a3 a11) [(.ref b14)])) (fun t k => oaloadN X0 hx hby d7_0 rfl rfl (st5 _ (onlN X5 hx hby d7_4 (oaloadN X5 hx hby d7_7 rfl rfl (st7 _ (onlY (pc := 11) X7 hx hby d7_11 39 (by decide) (oaloadN X7 hx hby d7_39 rfl rfl (st8 _ (oastoreN X8 hx hby d7_43 (lc46 a1 a2 a3) rfl rfl (oaloadN X8 hx hby d7_44 rfl rfl (st10 _ (onlY (pc := 48) X10 hx hby d7_48 76 (by decide) (oaloadN X10 hx hby d7_76 rfl rfl (st13 _ (ogoto (pc := 80) X13 hx hby d7_80 87 (by decide) (oastoreN X13 hx hby d7_87 (lc58 a1 a2 a3 a11) rfl rfl (st14 _ (odup X14 hx hby d7_91 rfl (oaloadN X14 hx hby d7_92 rfl rfl (st22 _ (oaloadN X22 hx hby d7_96 rfl rfl (oaloadN X22 hx hby d7_97 rfl rfl (st23 _ k))))))))))))))))))))))) ?_
  have f33 : Exa Z T23.heap b14 zs8 := (A14.keep K23)
  obtain ⟨fs, hr, hrun, hended, hW, hsame⟩ := X23.leave (v := some (.ref b14)) (fun h => by rw [Bd.returns] at h; cases h)
  refine own_out ⟨_, _, ?_, hrun, hended, _, _, rfl, ?_, ⟨_, rfl⟩, hW, hsame.mono (by decide) (by decide)⟩
  · exact retOut X23 hx Bd.returns rfl (Or.inr (Or.inr (Or.inr (Or.inr ⟨rfl, rfl, rfl⟩)))) (hb hby d7_101) hr
  · show Q7_44 Z a1 a2 a3 a11 a19 a24 h0 n0 _ T23.heap _
    exact ⟨b14, rfl, N32, (Keep.trans ((Keep.refl h0 []).ext E14) K23 (allS (Or.inr (Nat.le_of_eq g14.symm)) all0)), (Nat.le_of_eq g14.symm), f33, f28, f29, f30, f31⟩
def Q7_45 (Z : State) (a1 a2 a3 a6 : Addr) (q12 q18 : Int64) (a32 a37 : Addr) (h0 : Heap) (n0 : Nat) (v : Option Value) (h : Heap) (L : List Loc) : Prop := ∃ b27 : Addr, v = some (.ref b27) ∧ Fr n0 L ∧ Keep h0 h [] ∧ h0.size ≤ b27 ∧ Exa Z h b27 zs8 ∧ Fld Z h b27 zs8 "unit" zs1 (.ref a32) ∧ Fld Z h b27 zs8 "first" zs9 (.ref a6) ∧ Fld Z h b27 zs8 "last" zs9 .null ∧ Fld Z h b27 zs8 "anchor" zs5 (.ref a37)
set_option maxRecDepth 65536 in
set_option maxHeartbeats 40000000 in
theorem rm7_45 (l : Launch) (Z : State) (a0 : Array Value) (hw : ∀ d ∈ tables_1, d.before a0 Z = true) (ws : List Jvm.Cond) (a1 a2 a3 a6 : Addr) (q12 q18 : Int64) (a32 a37 : Addr) (h0 : Heap) (n0 : Nat) (Z0 : n0 ≤ h0.size) (F4 : Fld Z h0 a1 zs8 "first" zs9 (.ref a3)) (F7 : Fld Z h0 a2 zs8 "first" zs9 (.ref a6)) (F11 : Exa Z h0 a6 zs11) (F13 : Fld Z h0 a6 zs11 "value" "J" (.long q12)) (F17 : Exa Z h0 a3 zs11) (F19 : Fld Z h0 a3 zs11 "value" "J" (.long q18)) (hc21 : q18 < q12) (F23 : Fld Z h0 a1 zs8 "last" zs9 .null) (F25 : Fld Z h0 a2 zs8 "last" zs9 .null) (F33 : Fld Z h0 a1 zs8 "unit" zs1 (.ref a32)) (F38 : Sta Z h0 zs4 "MIDDLE" zs5 (.ref a37)) :
    MetFree l zm6 (head1 (Jvm.Cond.code zm6 prog_3_method_17_code 4 (some (.object zs8)) :: ws) ({ frames := 4, cells := 1, slots := 4, locals := 56 } : Room)) (fun a U => a = #[(.ref a1), (.ref a2)] ∧ Z.Warmed39 U.vm ∧ U.heap = h0) (fun _ _ _ _ _ => True) (fun _ U o U' => ∃ v L, o = .returned v ∧ Q7_45 Z a1 a2 a3 a6 q12 q18 a32 a37 h0 n0 v U'.heap L ∧ FrameEnd U o U' L ({ frames := 4, cells := 1, slots := 4, locals := 56 } : Room).cells ({ frames := 4, cells := 1, slots := 4, locals := 56 } : Room).slots) := by
  refine MetFree.of_bodySF (plainFor_of_name pn_2) hisR ?_
  intro p e s m args below meth c s₁ Bd hml0 hP hK
  obtain ⟨rfl, hZ, hh⟩ := hP
  have hx := Bd.exec
  have hby := Bd.bytes
  have hml : c.maxLocals = 4 := hml0
  have hown : s.vm.findClass zs8 = some m.cls := findClass_of_methodNamed Bd.named
  have hnm := (name_of_methodNamed Bd.named Bd.method).1
  have X0 : Stand p l e ({ frames := 4, cells := 1, slots := 4, locals := 56 } : Room) s m #[(.ref a1), (.ref a2)] below meth c s₁ [] 0 0 := Stand.of_body Bd
  have e0 : s₁.heap = h0 := by rw [← hh, Bd.state]; rfl
  have N0 := Fr.nil n0
  refine own_pre (g' := mkF m 0 (lc18 a1 a2) []) (ef_4 m a1 a2) ?_
  obtain ⟨T5, X5, e5, st5⟩ := getF X0 hx hZ hown (host := "") (Or.inl (ww hw 30 rfl)) Via.refl e0 F4 (g := (mkF m 1 (lc18 a1 a2) [(.ref a1)])) rfl rfl (hb hby d7_1)
  obtain ⟨T8, X8, e8, st8⟩ := getF X5 hx hZ hown (host := "") (Or.inl (ww hw 30 rfl)) Via.refl e5 F7 (g := (mkF m 8 (lc18 a1 a2) [(.ref a2)])) rfl rfl (hb hby d7_8)
  obtain ⟨T9, X9, e9, st9⟩ := getF X8 hx hZ hown (host := "") (Or.inl (ww hw 30 rfl)) Via.refl e8 F7 (g := (mkF m 15 (lc18 a1 a2) [(.ref a2)])) rfl rfl (hb hby d7_15)
  obtain ⟨_, T10, L10, X10, hQ10, st10⟩ := ocallV X9 hx hZ zm12 zm12 hown (ww hw 89 rfl) (ww hw 90 rfl) (notFace_of_selects (args := #[]) (mvT hZ (ww hw 92 rfl))) (ww hw 92 rfl) (ww hw 91 rfl) (by decide) (ww hw 93 rfl) (ww hw 65 rfl) e9 F11 (rm14_36 l Z a0 hw [] a6 q12 h0 n0 Z0 F13) (st := [(.ref a6)]) rfl 0 rfl (by decide) (pc := 18) (Ls := (lc18 a1 a2)) hml rfl (lenOf pd_10 rfl) d7_18 hby
  obtain ⟨rfl, N10q, e10⟩ := hQ10
  have N14 := Fr.app N0 N10q
  obtain ⟨T15, X15, e15, st15⟩ := getF X10 hx hZ hown (host := "") (Or.inl (ww hw 30 rfl)) Via.refl e10 F4 (g := (mkF m 22 (lc18 a1 a2) [(.ref a1), (.long q12)])) rfl rfl (hb hby d7_22)
  obtain ⟨_, T16, L16, X16, hQ16, st16⟩ := ocallV X15 hx hZ zm12 zm12 hown (ww hw 89 rfl) (ww hw 90 rfl) (notFace_of_selects (args := #[]) (mvT hZ (ww hw 92 rfl))) (ww hw 92 rfl) (ww hw 91 rfl) (by decide) (ww hw 93 rfl) (ww hw 65 rfl) e15 F17 (rm14_36 l Z a0 hw [] a3 q18 h0 n0 Z0 F19) (st := [(.ref a3), (.long q12)]) rfl 2 rfl (by decide) (pc := 25) (Ls := (lc18 a1 a2)) hml rfl (lenOf pd_10 rfl) d7_25 hby
  obtain ⟨rfl, N16q, e16⟩ := hQ16
  have N20 := Fr.app N14 N16q
  refine own_go (U' := T16.setTop (mkF m 29 (lc18 a1 a2) [(.int (lcmpW q12 q18))])) (fun t k => oaloadN X0 hx hby d7_0 rfl rfl (st5 _ (onlN X5 hx hby d7_4 (oaloadN X5 hx hby d7_7 rfl rfl (st8 _ (onlN X8 hx hby d7_11 (oaloadN X8 hx hby d7_14 rfl rfl (st9 _ (st10 _ (oaloadN X10 hx hby d7_21 rfl rfl (st15 _ (st16 _ (olcmp X16 hx hby d7_28 k))))))))))))) ?_
  obtain ⟨T22, X22, e22, st22⟩ := getF X16 hx hZ hown (host := "") (Or.inl (ww hw 30 rfl)) Via.refl e16 F7 (g := (mkF m 33 (lc18 a1 a2) [(.ref a2)])) rfl rfl (hb hby d7_33)
  obtain ⟨T24, X24, e24, st24⟩ := getF X22 hx hZ hown (host := "") (Or.inl (ww hw 32 rfl)) Via.refl e22 F23 (g := (mkF m 45 (lc46 a1 a2 a6) [(.ref a1)])) rfl rfl (hb hby d7_45)
  obtain ⟨T26, X26, e26, st26⟩ := getF X24 hx hZ hown (host := "") (Or.inl (ww hw 32 rfl)) Via.refl e24 F25 (g := (mkF m 77 (lc46 a1 a2 a6) [(.ref a2)])) rfl rfl (hb hby d7_77)
  obtain ⟨T27, h27, X27, e27, E27, A27, D27, -, st27⟩ := newO X26 hx hZ hown (ww hw 46 rfl) (ww hw 9 rfl) (ww hw 10 rfl) e26 (g := (mkF m 88 (lc47 a1 a2 a6) [])) rfl (hb hby d7_88) (by decide) (by decide)
  obtain ⟨b27, g27⟩ : ∃ z, z = h0.size := ⟨_, rfl⟩
  rw [← g27] at A27 D27 st27
  have f28 : Fld Z h27 b27 zs8 "unit" zs1 .null := D27 (Or.inr (ww hw 29 rfl)) (ty := (.object zs0)) (by decide)
  have f29 : Fld Z h27 b27 zs8 "first" zs9 .null := D27 (Or.inr (ww hw 31 rfl)) (ty := (.object zs11)) (by decide)
  have f30 : Fld Z h27 b27 zs8 "last" zs9 .null := D27 (Or.inr (ww hw 33 rfl)) (ty := (.object zs11)) (by decide)
  have f31 : Fld Z h27 b27 zs8 "anchor" zs5 .null := D27 (Or.inr (ww hw 35 rfl)) (ty := (.object zs4)) (by decide)
  have f34 : Fld Z h27 a1 zs8 "unit" zs1 (.ref a32) := (Fld.ext E27 F33)
  obtain ⟨T35, X35, e35, st35⟩ := getF X27 hx hZ hown (host := "") (Or.inl (ww hw 28 rfl)) Via.refl e27 f34 (g := (mkF m 93 (lc47 a1 a2 a6) [(.ref a1), (.ref b27), (.ref b27)])) rfl rfl (hb hby d7_93)
  have f39 : Sta Z h27 zs4 "MIDDLE" zs5 (.ref a37) := (Sta.ext E27 F38)
  have g40 : n0 ≤ b27 := Nat.le_trans Z0 (Nat.le_of_eq g27.symm)
  have Z_1 : n0 ≤ h27.size := Nat.le_trans Z0 E27.1
  obtain ⟨_, T36, L36, X36, hQ36, st36⟩ := ocallI X35 hx hZ zm5 rfl hown (ww hw 47 rfl) (ww hw 48 rfl) (by decide) (ww hw 49 rfl) (ww hw 10 rfl) e35 (rm8_28 l Z a0 hw [] b27 a32 a6 a37 h27 n0 Z_1 f39 f28 f29 f30 f31 A27 g40) (st := [.null, (.ref a6), (.ref a32), (.ref b27), (.ref b27)]) rfl 1 rfl (by decide) (pc := 98) (Ls := (lc47 a1 a2 a6)) hml rfl (lenOf pd_5 rfl) d7_98 hby
  obtain ⟨rfl, N36q, K36, f41, f42, f43, f44⟩ := hQ36
  have N45 := Fr.app N20 N36q
  refine own_go (U' := T36.setTop (mkF m 101 (lc47 a1 a2 a6) [(.ref b27)])) (fun t k => oifN X16 hx hby d7_29 (own_ll_le_f hc21) (oaloadN X16 hx hby d7_32 rfl rfl (st22 _ (ogoto (pc := 36) X22 hx hby d7_36 43 (by decide) (oastoreN X22 hx hby d7_43 (lc46 a1 a2 a6) rfl rfl (oaloadN X22 hx hby d7_44 rfl rfl (st24 _ (onlY (pc := 48) X24 hx hby d7_48 76 (by decide) (oaloadN X24 hx hby d7_76 rfl rfl (st26 _ (ogoto (pc := 80) X26 hx hby d7_80 87 (by decide) (oastoreN X26 hx hby d7_87 (lc47 a1 a2 a6) rfl rfl (st27 _ (odup X27 hx hby d7_91 rfl (oaloadN X27 hx hby d7_92 rfl rfl (st35 _ (oaloadN X35 hx hby d7_96 rfl rfl (oaloadN X35 hx hby d7_97 rfl rfl (st36 _ k))))))))))))))))))) ?_
  have f46 : Exa Z T36.heap b27 zs8 := (A27.keep K36)
  obtain ⟨fs, hr, hrun, hended, hW, hsame⟩ := X36.leave (v := some (.ref b27)) (fun h => by rw [Bd.returns] at h; cases h)
  refine own_out ⟨_, _, ?_, hrun, hended, _, _, rfl, ?_, ⟨_, rfl⟩, hW, hsame.mono (by decide) (by decide)⟩
  · exact retOut X36 hx Bd.returns rfl (Or.inr (Or.inr (Or.inr (Or.inr ⟨rfl, rfl, rfl⟩)))) (hb hby d7_101) hr
  · show Q7_45 Z a1 a2 a3 a6 q12 q18 a32 a37 h0 n0 _ T36.heap _
    exact ⟨b27, rfl, N45, (Keep.trans ((Keep.refl h0 []).ext E27) K36 (allS (Or.inr (Nat.le_of_eq g27.symm)) all0)), (Nat.le_of_eq g27.symm), f46, f41, f42, f43, f44⟩
def Q7_46 (Z : State) (a1 a2 a3 a6 : Addr) (q12 q18 : Int64) (a32 a37 : Addr) (h0 : Heap) (n0 : Nat) (v : Option Value) (h : Heap) (L : List Loc) : Prop := ∃ b27 : Addr, v = some (.ref b27) ∧ Fr n0 L ∧ Keep h0 h [] ∧ h0.size ≤ b27 ∧ Exa Z h b27 zs8 ∧ Fld Z h b27 zs8 "unit" zs1 (.ref a32) ∧ Fld Z h b27 zs8 "first" zs9 (.ref a3) ∧ Fld Z h b27 zs8 "last" zs9 .null ∧ Fld Z h b27 zs8 "anchor" zs5 (.ref a37)
set_option maxRecDepth 65536 in
set_option maxHeartbeats 40000000 in
theorem rm7_46 (l : Launch) (Z : State) (a0 : Array Value) (hw : ∀ d ∈ tables_1, d.before a0 Z = true) (ws : List Jvm.Cond) (a1 a2 a3 a6 : Addr) (q12 q18 : Int64) (a32 a37 : Addr) (h0 : Heap) (n0 : Nat) (Z0 : n0 ≤ h0.size) (F4 : Fld Z h0 a1 zs8 "first" zs9 (.ref a3)) (F7 : Fld Z h0 a2 zs8 "first" zs9 (.ref a6)) (F11 : Exa Z h0 a6 zs11) (F13 : Fld Z h0 a6 zs11 "value" "J" (.long q12)) (F17 : Exa Z h0 a3 zs11) (F19 : Fld Z h0 a3 zs11 "value" "J" (.long q18)) (hc21 : ¬ (q18 < q12)) (F23 : Fld Z h0 a1 zs8 "last" zs9 .null) (F25 : Fld Z h0 a2 zs8 "last" zs9 .null) (F33 : Fld Z h0 a1 zs8 "unit" zs1 (.ref a32)) (F38 : Sta Z h0 zs4 "MIDDLE" zs5 (.ref a37)) :
    MetFree l zm6 (head1 (Jvm.Cond.code zm6 prog_3_method_17_code 4 (some (.object zs8)) :: ws) ({ frames := 4, cells := 1, slots := 4, locals := 56 } : Room)) (fun a U => a = #[(.ref a1), (.ref a2)] ∧ Z.Warmed39 U.vm ∧ U.heap = h0) (fun _ _ _ _ _ => True) (fun _ U o U' => ∃ v L, o = .returned v ∧ Q7_46 Z a1 a2 a3 a6 q12 q18 a32 a37 h0 n0 v U'.heap L ∧ FrameEnd U o U' L ({ frames := 4, cells := 1, slots := 4, locals := 56 } : Room).cells ({ frames := 4, cells := 1, slots := 4, locals := 56 } : Room).slots) := by
  refine MetFree.of_bodySF (plainFor_of_name pn_2) hisR ?_
  intro p e s m args below meth c s₁ Bd hml0 hP hK
  obtain ⟨rfl, hZ, hh⟩ := hP
  have hx := Bd.exec
  have hby := Bd.bytes
  have hml : c.maxLocals = 4 := hml0
  have hown : s.vm.findClass zs8 = some m.cls := findClass_of_methodNamed Bd.named
  have hnm := (name_of_methodNamed Bd.named Bd.method).1
  have X0 : Stand p l e ({ frames := 4, cells := 1, slots := 4, locals := 56 } : Room) s m #[(.ref a1), (.ref a2)] below meth c s₁ [] 0 0 := Stand.of_body Bd
  have e0 : s₁.heap = h0 := by rw [← hh, Bd.state]; rfl
  have N0 := Fr.nil n0
  refine own_pre (g' := mkF m 0 (lc18 a1 a2) []) (ef_4 m a1 a2) ?_
  obtain ⟨T5, X5, e5, st5⟩ := getF X0 hx hZ hown (host := "") (Or.inl (ww hw 30 rfl)) Via.refl e0 F4 (g := (mkF m 1 (lc18 a1 a2) [(.ref a1)])) rfl rfl (hb hby d7_1)
  obtain ⟨T8, X8, e8, st8⟩ := getF X5 hx hZ hown (host := "") (Or.inl (ww hw 30 rfl)) Via.refl e5 F7 (g := (mkF m 8 (lc18 a1 a2) [(.ref a2)])) rfl rfl (hb hby d7_8)
  obtain ⟨T9, X9, e9, st9⟩ := getF X8 hx hZ hown (host := "") (Or.inl (ww hw 30 rfl)) Via.refl e8 F7 (g := (mkF m 15 (lc18 a1 a2) [(.ref a2)])) rfl rfl (hb hby d7_15)
  obtain ⟨_, T10, L10, X10, hQ10, st10⟩ := ocallV X9 hx hZ zm12 zm12 hown (ww hw 89 rfl) (ww hw 90 rfl) (notFace_of_selects (args := #[]) (mvT hZ (ww hw 92 rfl))) (ww hw 92 rfl) (ww hw 91 rfl) (by decide) (ww hw 93 rfl) (ww hw 65 rfl) e9 F11 (rm14_36 l Z a0 hw [] a6 q12 h0 n0 Z0 F13) (st := [(.ref a6)]) rfl 0 rfl (by decide) (pc := 18) (Ls := (lc18 a1 a2)) hml rfl (lenOf pd_10 rfl) d7_18 hby
  obtain ⟨rfl, N10q, e10⟩ := hQ10
  have N14 := Fr.app N0 N10q
  obtain ⟨T15, X15, e15, st15⟩ := getF X10 hx hZ hown (host := "") (Or.inl (ww hw 30 rfl)) Via.refl e10 F4 (g := (mkF m 22 (lc18 a1 a2) [(.ref a1), (.long q12)])) rfl rfl (hb hby d7_22)
  obtain ⟨_, T16, L16, X16, hQ16, st16⟩ := ocallV X15 hx hZ zm12 zm12 hown (ww hw 89 rfl) (ww hw 90 rfl) (notFace_of_selects (args := #[]) (mvT hZ (ww hw 92 rfl))) (ww hw 92 rfl) (ww hw 91 rfl) (by decide) (ww hw 93 rfl) (ww hw 65 rfl) e15 F17 (rm14_36 l Z a0 hw [] a3 q18 h0 n0 Z0 F19) (st := [(.ref a3), (.long q12)]) rfl 2 rfl (by decide) (pc := 25) (Ls := (lc18 a1 a2)) hml rfl (lenOf pd_10 rfl) d7_25 hby
  obtain ⟨rfl, N16q, e16⟩ := hQ16
  have N20 := Fr.app N14 N16q
  refine own_go (U' := T16.setTop (mkF m 29 (lc18 a1 a2) [(.int (lcmpW q12 q18))])) (fun t k => oaloadN X0 hx hby d7_0 rfl rfl (st5 _ (onlN X5 hx hby d7_4 (oaloadN X5 hx hby d7_7 rfl rfl (st8 _ (onlN X8 hx hby d7_11 (oaloadN X8 hx hby d7_14 rfl rfl (st9 _ (st10 _ (oaloadN X10 hx hby d7_21 rfl rfl (st15 _ (st16 _ (olcmp X16 hx hby d7_28 k))))))))))))) ?_
  obtain ⟨T22, X22, e22, st22⟩ := getF X16 hx hZ hown (host := "") (Or.inl (ww hw 30 rfl)) Via.refl e16 F4 (g := (mkF m 40 (lc18 a1 a2) [(.ref a1)])) rfl rfl (hb hby d7_40)
  obtain ⟨T24, X24, e24, st24⟩ := getF X22 hx hZ hown (host := "") (Or.inl (ww hw 32 rfl)) Via.refl e22 F23 (g := (mkF m 45 (lc46 a1 a2 a3) [(.ref a1)])) rfl rfl (hb hby d7_45)
  obtain ⟨T26, X26, e26, st26⟩ := getF X24 hx hZ hown (host := "") (Or.inl (ww hw 32 rfl)) Via.refl e24 F25 (g := (mkF m 77 (lc46 a1 a2 a3) [(.ref a2)])) rfl rfl (hb hby d7_77)
  obtain ⟨T27, h27, X27, e27, E27, A27, D27, -, st27⟩ := newO X26 hx hZ hown (ww hw 46 rfl) (ww hw 9 rfl) (ww hw 10 rfl) e26 (g := (mkF m 88 (lc47 a1 a2 a3) [])) rfl (hb hby d7_88) (by decide) (by decide)
  obtain ⟨b27, g27⟩ : ∃ z, z = h0.size := ⟨_, rfl⟩
  rw [← g27] at A27 D27 st27
  have f28 : Fld Z h27 b27 zs8 "unit" zs1 .null := D27 (Or.inr (ww hw 29 rfl)) (ty := (.object zs0)) (by decide)
  have f29 : Fld Z h27 b27 zs8 "first" zs9 .null := D27 (Or.inr (ww hw 31 rfl)) (ty := (.object zs11)) (by decide)
  have f30 : Fld Z h27 b27 zs8 "last" zs9 .null := D27 (Or.inr (ww hw 33 rfl)) (ty := (.object zs11)) (by decide)
  have f31 : Fld Z h27 b27 zs8 "anchor" zs5 .null := D27 (Or.inr (ww hw 35 rfl)) (ty := (.object zs4)) (by decide)
  have f34 : Fld Z h27 a1 zs8 "unit" zs1 (.ref a32) := (Fld.ext E27 F33)
  obtain ⟨T35, X35, e35, st35⟩ := getF X27 hx hZ hown (host := "") (Or.inl (ww hw 28 rfl)) Via.refl e27 f34 (g := (mkF m 93 (lc47 a1 a2 a3) [(.ref a1), (.ref b27), (.ref b27)])) rfl rfl (hb hby d7_93)
  have f39 : Sta Z h27 zs4 "MIDDLE" zs5 (.ref a37) := (Sta.ext E27 F38)
  have g40 : n0 ≤ b27 := Nat.le_trans Z0 (Nat.le_of_eq g27.symm)
  have Z_1 : n0 ≤ h27.size := Nat.le_trans Z0 E27.1
  obtain ⟨_, T36, L36, X36, hQ36, st36⟩ := ocallI X35 hx hZ zm5 rfl hown (ww hw 47 rfl) (ww hw 48 rfl) (by decide) (ww hw 49 rfl) (ww hw 10 rfl) e35 (rm8_28 l Z a0 hw [] b27 a32 a3 a37 h27 n0 Z_1 f39 f28 f29 f30 f31 A27 g40) (st := [.null, (.ref a3), (.ref a32), (.ref b27), (.ref b27)]) rfl 1 rfl (by decide) (pc := 98) (Ls := (lc47 a1 a2 a3)) hml rfl (lenOf pd_5 rfl) d7_98 hby
  obtain ⟨rfl, N36q, K36, f41, f42, f43, f44⟩ := hQ36
  have N45 := Fr.app N20 N36q
  refine own_go (U' := T36.setTop (mkF m 101 (lc47 a1 a2 a3) [(.ref b27)])) (fun t k => oifY (pc := 29) X16 hx hby d7_29 39 (own_ll_le_t hc21) (by decide) (oaloadN X16 hx hby d7_39 rfl rfl (st22 _ (oastoreN X22 hx hby d7_43 (lc46 a1 a2 a3) rfl rfl (oaloadN X22 hx hby d7_44 rfl rfl (st24 _ (onlY (pc := 48) X24 hx hby d7_48 76 (by decide) (oaloadN X24 hx hby d7_76 rfl rfl (st26 _ (ogoto (pc := 80) X26 hx hby d7_80 87 (by decide) (oastoreN X26 hx hby d7_87 (lc47 a1 a2 a3) rfl rfl (st27 _ (odup X27 hx hby d7_91 rfl (oaloadN X27 hx hby d7_92 rfl rfl (st35 _ (oaloadN X35 hx hby d7_96 rfl rfl (oaloadN X35 hx hby d7_97 rfl rfl (st36 _ k)))))))))))))))))) ?_
  have f46 : Exa Z T36.heap b27 zs8 := (A27.keep K36)
  obtain ⟨fs, hr, hrun, hended, hW, hsame⟩ := X36.leave (v := some (.ref b27)) (fun h => by rw [Bd.returns] at h; cases h)
  refine own_out ⟨_, _, ?_, hrun, hended, _, _, rfl, ?_, ⟨_, rfl⟩, hW, hsame.mono (by decide) (by decide)⟩
  · exact retOut X36 hx Bd.returns rfl (Or.inr (Or.inr (Or.inr (Or.inr ⟨rfl, rfl, rfl⟩)))) (hb hby d7_101) hr
  · show Q7_46 Z a1 a2 a3 a6 q12 q18 a32 a37 h0 n0 _ T36.heap _
    exact ⟨b27, rfl, N45, (Keep.trans ((Keep.refl h0 []).ext E27) K36 (allS (Or.inr (Nat.le_of_eq g27.symm)) all0)), (Nat.le_of_eq g27.symm), f46, f41, f42, f43, f44⟩
def Q7_47 (Z : State) (a1 a2 a3 a6 : Addr) (q12 q18 : Int64) (a25 a33 a38 : Addr) (h0 : Heap) (n0 : Nat) (v : Option Value) (h : Heap) (L : List Loc) : Prop := ∃ b28 : Addr, v = some (.ref b28) ∧ Fr n0 L ∧ Keep h0 h [] ∧ h0.size ≤ b28 ∧ Exa Z h b28 zs8 ∧ Fld Z h b28 zs8 "unit" zs1 (.ref a33) ∧ Fld Z h b28 zs8 "first" zs9 (.ref a6) ∧ Fld Z h b28 zs8 "last" zs9 (.ref a25) ∧ Fld Z h b28 zs8 "anchor" zs5 (.ref a38)
set_option maxRecDepth 65536 in
set_option maxHeartbeats 40000000 in
theorem rm7_47 (l : Launch) (Z : State) (a0 : Array Value) (hw : ∀ d ∈ tables_1, d.before a0 Z = true) (ws : List Jvm.Cond) (a1 a2 a3 a6 : Addr) (q12 q18 : Int64) (a25 a33 a38 : Addr) (h0 : Heap) (n0 : Nat) (Z0 : n0 ≤ h0.size) (F4 : Fld Z h0 a1 zs8 "first" zs9 (.ref a3)) (F7 : Fld Z h0 a2 zs8 "first" zs9 (.ref a6)) (F11 : Exa Z h0 a6 zs11) (F13 : Fld Z h0 a6 zs11 "value" "J" (.long q12)) (F17 : Exa Z h0 a3 zs11) (F19 : Fld Z h0 a3 zs11 "value" "J" (.long q18)) (hc21 : q18 < q12) (F23 : Fld Z h0 a1 zs8 "last" zs9 .null) (F26 : Fld Z h0 a2 zs8 "last" zs9 (.ref a25)) (F34 : Fld Z h0 a1 zs8 "unit" zs1 (.ref a33)) (F39 : Sta Z h0 zs4 "MIDDLE" zs5 (.ref a38)) :
    MetFree l zm6 (head1 (Jvm.Cond.code zm6 prog_3_method_17_code 4 (some (.object zs8)) :: ws) ({ frames := 4, cells := 1, slots := 4, locals := 56 } : Room)) (fun a U => a = #[(.ref a1), (.ref a2)] ∧ Z.Warmed39 U.vm ∧ U.heap = h0) (fun _ _ _ _ _ => True) (fun _ U o U' => ∃ v L, o = .returned v ∧ Q7_47 Z a1 a2 a3 a6 q12 q18 a25 a33 a38 h0 n0 v U'.heap L ∧ FrameEnd U o U' L ({ frames := 4, cells := 1, slots := 4, locals := 56 } : Room).cells ({ frames := 4, cells := 1, slots := 4, locals := 56 } : Room).slots) := by
  refine MetFree.of_bodySF (plainFor_of_name pn_2) hisR ?_
  intro p e s m args below meth c s₁ Bd hml0 hP hK
  obtain ⟨rfl, hZ, hh⟩ := hP
  have hx := Bd.exec
  have hby := Bd.bytes
  have hml : c.maxLocals = 4 := hml0
  have hown : s.vm.findClass zs8 = some m.cls := findClass_of_methodNamed Bd.named
  have hnm := (name_of_methodNamed Bd.named Bd.method).1
  have X0 : Stand p l e ({ frames := 4, cells := 1, slots := 4, locals := 56 } : Room) s m #[(.ref a1), (.ref a2)] below meth c s₁ [] 0 0 := Stand.of_body Bd
  have e0 : s₁.heap = h0 := by rw [← hh, Bd.state]; rfl
  have N0 := Fr.nil n0
  refine own_pre (g' := mkF m 0 (lc18 a1 a2) []) (ef_4 m a1 a2) ?_
  obtain ⟨T5, X5, e5, st5⟩ := getF X0 hx hZ hown (host := "") (Or.inl (ww hw 30 rfl)) Via.refl e0 F4 (g := (mkF m 1 (lc18 a1 a2) [(.ref a1)])) rfl rfl (hb hby d7_1)
  obtain ⟨T8, X8, e8, st8⟩ := getF X5 hx hZ hown (host := "") (Or.inl (ww hw 30 rfl)) Via.refl e5 F7 (g := (mkF m 8 (lc18 a1 a2) [(.ref a2)])) rfl rfl (hb hby d7_8)
  obtain ⟨T9, X9, e9, st9⟩ := getF X8 hx hZ hown (host := "") (Or.inl (ww hw 30 rfl)) Via.refl e8 F7 (g := (mkF m 15 (lc18 a1 a2) [(.ref a2)])) rfl rfl (hb hby d7_15)
  obtain ⟨_, T10, L10, X10, hQ10, st10⟩ := ocallV X9 hx hZ zm12 zm12 hown (ww hw 89 rfl) (ww hw 90 rfl) (notFace_of_selects (args := #[]) (mvT hZ (ww hw 92 rfl))) (ww hw 92 rfl) (ww hw 91 rfl) (by decide) (ww hw 93 rfl) (ww hw 65 rfl) e9 F11 (rm14_36 l Z a0 hw [] a6 q12 h0 n0 Z0 F13) (st := [(.ref a6)]) rfl 0 rfl (by decide) (pc := 18) (Ls := (lc18 a1 a2)) hml rfl (lenOf pd_10 rfl) d7_18 hby
  obtain ⟨rfl, N10q, e10⟩ := hQ10
  have N14 := Fr.app N0 N10q
  obtain ⟨T15, X15, e15, st15⟩ := getF X10 hx hZ hown (host := "") (Or.inl (ww hw 30 rfl)) Via.refl e10 F4 (g := (mkF m 22 (lc18 a1 a2) [(.ref a1), (.long q12)])) rfl rfl (hb hby d7_22)
  obtain ⟨_, T16, L16, X16, hQ16, st16⟩ := ocallV X15 hx hZ zm12 zm12 hown (ww hw 89 rfl) (ww hw 90 rfl) (notFace_of_selects (args := #[]) (mvT hZ (ww hw 92 rfl))) (ww hw 92 rfl) (ww hw 91 rfl) (by decide) (ww hw 93 rfl) (ww hw 65 rfl) e15 F17 (rm14_36 l Z a0 hw [] a3 q18 h0 n0 Z0 F19) (st := [(.ref a3), (.long q12)]) rfl 2 rfl (by decide) (pc := 25) (Ls := (lc18 a1 a2)) hml rfl (lenOf pd_10 rfl) d7_25 hby
  obtain ⟨rfl, N16q, e16⟩ := hQ16
  have N20 := Fr.app N14 N16q
  refine own_go (U' := T16.setTop (mkF m 29 (lc18 a1 a2) [(.int (lcmpW q12 q18))])) (fun t k => oaloadN X0 hx hby d7_0 rfl rfl (st5 _ (onlN X5 hx hby d7_4 (oaloadN X5 hx hby d7_7 rfl rfl (st8 _ (onlN X8 hx hby d7_11 (oaloadN X8 hx hby d7_14 rfl rfl (st9 _ (st10 _ (oaloadN X10 hx hby d7_21 rfl rfl (st15 _ (st16 _ (olcmp X16 hx hby d7_28 k))))))))))))) ?_
  obtain ⟨T22, X22, e22, st22⟩ := getF X16 hx hZ hown (host := "") (Or.inl (ww hw 30 rfl)) Via.refl e16 F7 (g := (mkF m 33 (lc18 a1 a2) [(.ref a2)])) rfl rfl (hb hby d7_33)
  obtain ⟨T24, X24, e24, st24⟩ := getF X22 hx hZ hown (host := "") (Or.inl (ww hw 32 rfl)) Via.refl e22 F23 (g := (mkF m 45 (lc46 a1 a2 a6) [(.ref a1)])) rfl rfl (hb hby d7_45)
  obtain ⟨T27, X27, e27, st27⟩ := getF X24 hx hZ hown (host := "") (Or.inl (ww hw 32 rfl)) Via.refl e24 F26 (g := (mkF m 77 (lc46 a1 a2 a6) [(.ref a2)])) rfl rfl (hb hby d7_77)
  obtain ⟨T28, h28, X28, e28, E28, A28, D28, -, st28⟩ := newO X27 hx hZ hown (ww hw 46 rfl) (ww hw 9 rfl) (ww hw 10 rfl) e27 (g := (mkF m 88 (lc58 a1 a2 a6 a25) [])) rfl (hb hby d7_88) (by decide) (by decide)
  obtain ⟨b28, g28⟩ : ∃ z, z = h0.size := ⟨_, rfl⟩
  rw [← g28] at A28 D28 st28
  have f29 : Fld Z h28 b28 zs8 "unit" zs1 .null := D28 (Or.inr (ww hw 29 rfl)) (ty := (.object zs0)) (by decide)
  have f30 : Fld Z h28 b28 zs8 "first" zs9 .null := D28 (Or.inr (ww hw 31 rfl)) (ty := (.object zs11)) (by decide)
  have f31 : Fld Z h28 b28 zs8 "last" zs9 .null := D28 (Or.inr (ww hw 33 rfl)) (ty := (.object zs11)) (by decide)
  have f32 : Fld Z h28 b28 zs8 "anchor" zs5 .null := D28 (Or.inr (ww hw 35 rfl)) (ty := (.object zs4)) (by decide)
  have f35 : Fld Z h28 a1 zs8 "unit" zs1 (.ref a33) := (Fld.ext E28 F34)
  obtain ⟨T36, X36, e36, st36⟩ := getF X28 hx hZ hown (host := "") (Or.inl (ww hw 28 rfl)) Via.refl e28 f35 (g := (mkF m 93 (lc58 a1 a2 a6 a25) [(.ref a1), (.ref b28), (.ref b28)])) rfl rfl (hb hby d7_93)
  have f40 : Sta Z h28 zs4 "MIDDLE" zs5 (.ref a38) := (Sta.ext E28 F39)
  have g41 : n0 ≤ b28 := Nat.le_trans Z0 (Nat.le_of_eq g28.symm)
  have Z_1 : n0 ≤ h28.size := Nat.le_trans Z0 E28.1
  obtain ⟨_, T37, L37, X37, hQ37, st37⟩ := ocallI X36 hx hZ zm5 rfl hown (ww hw 47 rfl) (ww hw 48 rfl) (by decide) (ww hw 49 rfl) (ww hw 10 rfl) e36 (rm8_32 l Z a0 hw [] b28 a33 a6 a25 a38 h28 n0 Z_1 f40 f29 f30 f31 f32 A28 g41) (st := [(.ref a25), (.ref a6), (.ref a33), (.ref b28), (.ref b28)]) rfl 1 rfl (by decide) (pc := 98) (Ls := (lc58 a1 a2 a6 a25)) hml rfl (lenOf pd_5 rfl) d7_98 hby
  obtain ⟨rfl, N37q, K37, f42, f43, f44, f45⟩ := hQ37
  have N46 := Fr.app N20 N37q
  refine own_go (U' := T37.setTop (mkF m 101 (lc58 a1 a2 a6 a25) [(.ref b28)])) (fun t k => oifN X16 hx hby d7_29 (own_ll_le_f hc21) (oaloadN X16 hx hby d7_32 rfl rfl (st22 _ (ogoto (pc := 36) X22 hx hby d7_36 43 (by decide) (oastoreN X22 hx hby d7_43 (lc46 a1 a2 a6) rfl rfl (oaloadN X22 hx hby d7_44 rfl rfl (st24 _ (onlY (pc := 48) X24 hx hby d7_48 76 (by decide) (oaloadN X24 hx hby d7_76 rfl rfl (st27 _ (ogoto (pc := 80) X27 hx hby d7_80 87 (by decide) (oastoreN X27 hx hby d7_87 (lc58 a1 a2 a6 a25) rfl rfl (st28 _ (odup X28 hx hby d7_91 rfl (oaloadN X28 hx hby d7_92 rfl rfl (st36 _ (oaloadN X36 hx hby d7_96 rfl rfl (oaloadN X36 hx hby d7_97 rfl rfl (st37 _ k))))))))))))))))))) ?_
  have f47 : Exa Z T37.heap b28 zs8 := (A28.keep K37)
  obtain ⟨fs, hr, hrun, hended, hW, hsame⟩ := X37.leave (v := some (.ref b28)) (fun h => by rw [Bd.returns] at h; cases h)
  refine own_out ⟨_, _, ?_, hrun, hended, _, _, rfl, ?_, ⟨_, rfl⟩, hW, hsame.mono (by decide) (by decide)⟩
  · exact retOut X37 hx Bd.returns rfl (Or.inr (Or.inr (Or.inr (Or.inr ⟨rfl, rfl, rfl⟩)))) (hb hby d7_101) hr
  · show Q7_47 Z a1 a2 a3 a6 q12 q18 a25 a33 a38 h0 n0 _ T37.heap _
    exact ⟨b28, rfl, N46, (Keep.trans ((Keep.refl h0 []).ext E28) K37 (allS (Or.inr (Nat.le_of_eq g28.symm)) all0)), (Nat.le_of_eq g28.symm), f47, f42, f43, f44, f45⟩
def Q7_48 (Z : State) (a1 a2 a3 a6 : Addr) (q12 q18 : Int64) (a25 a33 a38 : Addr) (h0 : Heap) (n0 : Nat) (v : Option Value) (h : Heap) (L : List Loc) : Prop := ∃ b28 : Addr, v = some (.ref b28) ∧ Fr n0 L ∧ Keep h0 h [] ∧ h0.size ≤ b28 ∧ Exa Z h b28 zs8 ∧ Fld Z h b28 zs8 "unit" zs1 (.ref a33) ∧ Fld Z h b28 zs8 "first" zs9 (.ref a3) ∧ Fld Z h b28 zs8 "last" zs9 (.ref a25) ∧ Fld Z h b28 zs8 "anchor" zs5 (.ref a38)
set_option maxRecDepth 65536 in
set_option maxHeartbeats 40000000 in
theorem rm7_48 (l : Launch) (Z : State) (a0 : Array Value) (hw : ∀ d ∈ tables_1, d.before a0 Z = true) (ws : List Jvm.Cond) (a1 a2 a3 a6 : Addr) (q12 q18 : Int64) (a25 a33 a38 : Addr) (h0 : Heap) (n0 : Nat) (Z0 : n0 ≤ h0.size) (F4 : Fld Z h0 a1 zs8 "first" zs9 (.ref a3)) (F7 : Fld Z h0 a2 zs8 "first" zs9 (.ref a6)) (F11 : Exa Z h0 a6 zs11) (F13 : Fld Z h0 a6 zs11 "value" "J" (.long q12)) (F17 : Exa Z h0 a3 zs11) (F19 : Fld Z h0 a3 zs11 "value" "J" (.long q18)) (hc21 : ¬ (q18 < q12)) (F23 : Fld Z h0 a1 zs8 "last" zs9 .null) (F26 : Fld Z h0 a2 zs8 "last" zs9 (.ref a25)) (F34 : Fld Z h0 a1 zs8 "unit" zs1 (.ref a33)) (F39 : Sta Z h0 zs4 "MIDDLE" zs5 (.ref a38)) :
    MetFree l zm6 (head1 (Jvm.Cond.code zm6 prog_3_method_17_code 4 (some (.object zs8)) :: ws) ({ frames := 4, cells := 1, slots := 4, locals := 56 } : Room)) (fun a U => a = #[(.ref a1), (.ref a2)] ∧ Z.Warmed39 U.vm ∧ U.heap = h0) (fun _ _ _ _ _ => True) (fun _ U o U' => ∃ v L, o = .returned v ∧ Q7_48 Z a1 a2 a3 a6 q12 q18 a25 a33 a38 h0 n0 v U'.heap L ∧ FrameEnd U o U' L ({ frames := 4, cells := 1, slots := 4, locals := 56 } : Room).cells ({ frames := 4, cells := 1, slots := 4, locals := 56 } : Room).slots) := by
  refine MetFree.of_bodySF (plainFor_of_name pn_2) hisR ?_
  intro p e s m args below meth c s₁ Bd hml0 hP hK
  obtain ⟨rfl, hZ, hh⟩ := hP
  have hx := Bd.exec
  have hby := Bd.bytes
  have hml : c.maxLocals = 4 := hml0
  have hown : s.vm.findClass zs8 = some m.cls := findClass_of_methodNamed Bd.named
  have hnm := (name_of_methodNamed Bd.named Bd.method).1
  have X0 : Stand p l e ({ frames := 4, cells := 1, slots := 4, locals := 56 } : Room) s m #[(.ref a1), (.ref a2)] below meth c s₁ [] 0 0 := Stand.of_body Bd
  have e0 : s₁.heap = h0 := by rw [← hh, Bd.state]; rfl
  have N0 := Fr.nil n0
  refine own_pre (g' := mkF m 0 (lc18 a1 a2) []) (ef_4 m a1 a2) ?_
  obtain ⟨T5, X5, e5, st5⟩ := getF X0 hx hZ hown (host := "") (Or.inl (ww hw 30 rfl)) Via.refl e0 F4 (g := (mkF m 1 (lc18 a1 a2) [(.ref a1)])) rfl rfl (hb hby d7_1)
  obtain ⟨T8, X8, e8, st8⟩ := getF X5 hx hZ hown (host := "") (Or.inl (ww hw 30 rfl)) Via.refl e5 F7 (g := (mkF m 8 (lc18 a1 a2) [(.ref a2)])) rfl rfl (hb hby d7_8)
  obtain ⟨T9, X9, e9, st9⟩ := getF X8 hx hZ hown (host := "") (Or.inl (ww hw 30 rfl)) Via.refl e8 F7 (g := (mkF m 15 (lc18 a1 a2) [(.ref a2)])) rfl rfl (hb hby d7_15)
  obtain ⟨_, T10, L10, X10, hQ10, st10⟩ := ocallV X9 hx hZ zm12 zm12 hown (ww hw 89 rfl) (ww hw 90 rfl) (notFace_of_selects (args := #[]) (mvT hZ (ww hw 92 rfl))) (ww hw 92 rfl) (ww hw 91 rfl) (by decide) (ww hw 93 rfl) (ww hw 65 rfl) e9 F11 (rm14_36 l Z a0 hw [] a6 q12 h0 n0 Z0 F13) (st := [(.ref a6)]) rfl 0 rfl (by decide) (pc := 18) (Ls := (lc18 a1 a2)) hml rfl (lenOf pd_10 rfl) d7_18 hby
  obtain ⟨rfl, N10q, e10⟩ := hQ10
  have N14 := Fr.app N0 N10q
  obtain ⟨T15, X15, e15, st15⟩ := getF X10 hx hZ hown (host := "") (Or.inl (ww hw 30 rfl)) Via.refl e10 F4 (g := (mkF m 22 (lc18 a1 a2) [(.ref a1), (.long q12)])) rfl rfl (hb hby d7_22)
  obtain ⟨_, T16, L16, X16, hQ16, st16⟩ := ocallV X15 hx hZ zm12 zm12 hown (ww hw 89 rfl) (ww hw 90 rfl) (notFace_of_selects (args := #[]) (mvT hZ (ww hw 92 rfl))) (ww hw 92 rfl) (ww hw 91 rfl) (by decide) (ww hw 93 rfl) (ww hw 65 rfl) e15 F17 (rm14_36 l Z a0 hw [] a3 q18 h0 n0 Z0 F19) (st := [(.ref a3), (.long q12)]) rfl 2 rfl (by decide) (pc := 25) (Ls := (lc18 a1 a2)) hml rfl (lenOf pd_10 rfl) d7_25 hby
  obtain ⟨rfl, N16q, e16⟩ := hQ16
  have N20 := Fr.app N14 N16q
  refine own_go (U' := T16.setTop (mkF m 29 (lc18 a1 a2) [(.int (lcmpW q12 q18))])) (fun t k => oaloadN X0 hx hby d7_0 rfl rfl (st5 _ (onlN X5 hx hby d7_4 (oaloadN X5 hx hby d7_7 rfl rfl (st8 _ (onlN X8 hx hby d7_11 (oaloadN X8 hx hby d7_14 rfl rfl (st9 _ (st10 _ (oaloadN X10 hx hby d7_21 rfl rfl (st15 _ (st16 _ (olcmp X16 hx hby d7_28 k))))))))))))) ?_
  obtain ⟨T22, X22, e22, st22⟩ := getF X16 hx hZ hown (host := "") (Or.inl (ww hw 30 rfl)) Via.refl e16 F4 (g := (mkF m 40 (lc18 a1 a2) [(.ref a1)])) rfl rfl (hb hby d7_40)
  obtain ⟨T24, X24, e24, st24⟩ := getF X22 hx hZ hown (host := "") (Or.inl (ww hw 32 rfl)) Via.refl e22 F23 (g := (mkF m 45 (lc46 a1 a2 a3) [(.ref a1)])) rfl rfl (hb hby d7_45)
  obtain ⟨T27, X27, e27, st27⟩ := getF X24 hx hZ hown (host := "") (Or.inl (ww hw 32 rfl)) Via.refl e24 F26 (g := (mkF m 77 (lc46 a1 a2 a3) [(.ref a2)])) rfl rfl (hb hby d7_77)
  obtain ⟨T28, h28, X28, e28, E28, A28, D28, -, st28⟩ := newO X27 hx hZ hown (ww hw 46 rfl) (ww hw 9 rfl) (ww hw 10 rfl) e27 (g := (mkF m 88 (lc58 a1 a2 a3 a25) [])) rfl (hb hby d7_88) (by decide) (by decide)
  obtain ⟨b28, g28⟩ : ∃ z, z = h0.size := ⟨_, rfl⟩
  rw [← g28] at A28 D28 st28
  have f29 : Fld Z h28 b28 zs8 "unit" zs1 .null := D28 (Or.inr (ww hw 29 rfl)) (ty := (.object zs0)) (by decide)
  have f30 : Fld Z h28 b28 zs8 "first" zs9 .null := D28 (Or.inr (ww hw 31 rfl)) (ty := (.object zs11)) (by decide)
  have f31 : Fld Z h28 b28 zs8 "last" zs9 .null := D28 (Or.inr (ww hw 33 rfl)) (ty := (.object zs11)) (by decide)
  have f32 : Fld Z h28 b28 zs8 "anchor" zs5 .null := D28 (Or.inr (ww hw 35 rfl)) (ty := (.object zs4)) (by decide)
  have f35 : Fld Z h28 a1 zs8 "unit" zs1 (.ref a33) := (Fld.ext E28 F34)
  obtain ⟨T36, X36, e36, st36⟩ := getF X28 hx hZ hown (host := "") (Or.inl (ww hw 28 rfl)) Via.refl e28 f35 (g := (mkF m 93 (lc58 a1 a2 a3 a25) [(.ref a1), (.ref b28), (.ref b28)])) rfl rfl (hb hby d7_93)
  have f40 : Sta Z h28 zs4 "MIDDLE" zs5 (.ref a38) := (Sta.ext E28 F39)
  have g41 : n0 ≤ b28 := Nat.le_trans Z0 (Nat.le_of_eq g28.symm)
  have Z_1 : n0 ≤ h28.size := Nat.le_trans Z0 E28.1
  obtain ⟨_, T37, L37, X37, hQ37, st37⟩ := ocallI X36 hx hZ zm5 rfl hown (ww hw 47 rfl) (ww hw 48 rfl) (by decide) (ww hw 49 rfl) (ww hw 10 rfl) e36 (rm8_32 l Z a0 hw [] b28 a33 a3 a25 a38 h28 n0 Z_1 f40 f29 f30 f31 f32 A28 g41) (st := [(.ref a25), (.ref a3), (.ref a33), (.ref b28), (.ref b28)]) rfl 1 rfl (by decide) (pc := 98) (Ls := (lc58 a1 a2 a3 a25)) hml rfl (lenOf pd_5 rfl) d7_98 hby
  obtain ⟨rfl, N37q, K37, f42, f43, f44, f45⟩ := hQ37
  have N46 := Fr.app N20 N37q
  refine own_go (U' := T37.setTop (mkF m 101 (lc58 a1 a2 a3 a25) [(.ref b28)])) (fun t k => oifY (pc := 29) X16 hx hby d7_29 39 (own_ll_le_t hc21) (by decide) (oaloadN X16 hx hby d7_39 rfl rfl (st22 _ (oastoreN X22 hx hby d7_43 (lc46 a1 a2 a3) rfl rfl (oaloadN X22 hx hby d7_44 rfl rfl (st24 _ (onlY (pc := 48) X24 hx hby d7_48 76 (by decide) (oaloadN X24 hx hby d7_76 rfl rfl (st27 _ (ogoto (pc := 80) X27 hx hby d7_80 87 (by decide) (oastoreN X27 hx hby d7_87 (lc58 a1 a2 a3 a25) rfl rfl (st28 _ (odup X28 hx hby d7_91 rfl (oaloadN X28 hx hby d7_92 rfl rfl (st36 _ (oaloadN X36 hx hby d7_96 rfl rfl (oaloadN X36 hx hby d7_97 rfl rfl (st37 _ k)))))))))))))))))) ?_
  have f47 : Exa Z T37.heap b28 zs8 := (A28.keep K37)
  obtain ⟨fs, hr, hrun, hended, hW, hsame⟩ := X37.leave (v := some (.ref b28)) (fun h => by rw [Bd.returns] at h; cases h)
  refine own_out ⟨_, _, ?_, hrun, hended, _, _, rfl, ?_, ⟨_, rfl⟩, hW, hsame.mono (by decide) (by decide)⟩
  · exact retOut X37 hx Bd.returns rfl (Or.inr (Or.inr (Or.inr (Or.inr ⟨rfl, rfl, rfl⟩)))) (hb hby d7_101) hr
  · show Q7_48 Z a1 a2 a3 a6 q12 q18 a25 a33 a38 h0 n0 _ T37.heap _
    exact ⟨b28, rfl, N46, (Keep.trans ((Keep.refl h0 []).ext E28) K37 (allS (Or.inr (Nat.le_of_eq g28.symm)) all0)), (Nat.le_of_eq g28.symm), f47, f42, f43, f44, f45⟩
def Q7_49 (Z : State) (a1 a2 a3 a9 a20 a25 : Addr) (h0 : Heap) (n0 : Nat) (v : Option Value) (h : Heap) (L : List Loc) : Prop := ∃ b15 : Addr, v = some (.ref b15) ∧ Fr n0 L ∧ Keep h0 h [] ∧ h0.size ≤ b15 ∧ Exa Z h b15 zs8 ∧ Fld Z h b15 zs8 "unit" zs1 (.ref a20) ∧ Fld Z h b15 zs8 "first" zs9 (.ref a3) ∧ Fld Z h b15 zs8 "last" zs9 (.ref a9) ∧ Fld Z h b15 zs8 "anchor" zs5 (.ref a25)
set_option maxRecDepth 65536 in
set_option maxHeartbeats 40000000 in
theorem rm7_49 (l : Launch) (Z : State) (a0 : Array Value) (hw : ∀ d ∈ tables_1, d.before a0 Z = true) (ws : List Jvm.Cond) (a1 a2 a3 a9 a20 a25 : Addr) (h0 : Heap) (n0 : Nat) (Z0 : n0 ≤ h0.size) (F4 : Fld Z h0 a1 zs8 "first" zs9 (.ref a3)) (F6 : Fld Z h0 a2 zs8 "first" zs9 .null) (F10 : Fld Z h0 a1 zs8 "last" zs9 (.ref a9)) (F12 : Fld Z h0 a2 zs8 "last" zs9 .null) (F21 : Fld Z h0 a1 zs8 "unit" zs1 (.ref a20)) (F26 : Sta Z h0 zs4 "MIDDLE" zs5 (.ref a25)) :
    MetFree l zm6 (head1 (Jvm.Cond.code zm6 prog_3_method_17_code 4 (some (.object zs8)) :: ws) ({ frames := 4, cells := 1, slots := 4, locals := 56 } : Room)) (fun a U => a = #[(.ref a1), (.ref a2)] ∧ Z.Warmed39 U.vm ∧ U.heap = h0) (fun _ _ _ _ _ => True) (fun _ U o U' => ∃ v L, o = .returned v ∧ Q7_49 Z a1 a2 a3 a9 a20 a25 h0 n0 v U'.heap L ∧ FrameEnd U o U' L ({ frames := 4, cells := 1, slots := 4, locals := 56 } : Room).cells ({ frames := 4, cells := 1, slots := 4, locals := 56 } : Room).slots) := by
  refine MetFree.of_bodySF (plainFor_of_name pn_2) hisR ?_
  intro p e s m args below meth c s₁ Bd hml0 hP hK
  obtain ⟨rfl, hZ, hh⟩ := hP
  have hx := Bd.exec
  have hby := Bd.bytes
  have hml : c.maxLocals = 4 := hml0
  have hown : s.vm.findClass zs8 = some m.cls := findClass_of_methodNamed Bd.named
  have hnm := (name_of_methodNamed Bd.named Bd.method).1
  have X0 : Stand p l e ({ frames := 4, cells := 1, slots := 4, locals := 56 } : Room) s m #[(.ref a1), (.ref a2)] below meth c s₁ [] 0 0 := Stand.of_body Bd
  have e0 : s₁.heap = h0 := by rw [← hh, Bd.state]; rfl
  have N0 := Fr.nil n0
  refine own_pre (g' := mkF m 0 (lc18 a1 a2) []) (ef_4 m a1 a2) ?_
  obtain ⟨T5, X5, e5, st5⟩ := getF X0 hx hZ hown (host := "") (Or.inl (ww hw 30 rfl)) Via.refl e0 F4 (g := (mkF m 1 (lc18 a1 a2) [(.ref a1)])) rfl rfl (hb hby d7_1)
  obtain ⟨T7, X7, e7, st7⟩ := getF X5 hx hZ hown (host := "") (Or.inl (ww hw 30 rfl)) Via.refl e5 F6 (g := (mkF m 8 (lc18 a1 a2) [(.ref a2)])) rfl rfl (hb hby d7_8)
  obtain ⟨T8, X8, e8, st8⟩ := getF X7 hx hZ hown (host := "") (Or.inl (ww hw 30 rfl)) Via.refl e7 F4 (g := (mkF m 40 (lc18 a1 a2) [(.ref a1)])) rfl rfl (hb hby d7_40)
  obtain ⟨T11, X11, e11, st11⟩ := getF X8 hx hZ hown (host := "") (Or.inl (ww hw 32 rfl)) Via.refl e8 F10 (g := (mkF m 45 (lc46 a1 a2 a3) [(.ref a1)])) rfl rfl (hb hby d7_45)
  obtain ⟨T13, X13, e13, st13⟩ := getF X11 hx hZ hown (host := "") (Or.inl (ww hw 32 rfl)) Via.refl e11 F12 (g := (mkF m 52 (lc46 a1 a2 a3) [(.ref a2)])) rfl rfl (hb hby d7_52)
  obtain ⟨T14, X14, e14, st14⟩ := getF X13 hx hZ hown (host := "") (Or.inl (ww hw 32 rfl)) Via.refl e13 F10 (g := (mkF m 84 (lc46 a1 a2 a3) [(.ref a1)])) rfl rfl (hb hby d7_84)
  obtain ⟨T15, h15, X15, e15, E15, A15, D15, -, st15⟩ := newO X14 hx hZ hown (ww hw 46 rfl) (ww hw 9 rfl) (ww hw 10 rfl) e14 (g := (mkF m 88 (lc58 a1 a2 a3 a9) [])) rfl (hb hby d7_88) (by decide) (by decide)
  obtain ⟨b15, g15⟩ : ∃ z, z = h0.size := ⟨_, rfl⟩
  rw [← g15] at A15 D15 st15
  have f16 : Fld Z h15 b15 zs8 "unit" zs1 .null := D15 (Or.inr (ww hw 29 rfl)) (ty := (.object zs0)) (by decide)
  have f17 : Fld Z h15 b15 zs8 "first" zs9 .null := D15 (Or.inr (ww hw 31 rfl)) (ty := (.object zs11)) (by decide)
  have f18 : Fld Z h15 b15 zs8 "last" zs9 .null := D15 (Or.inr (ww hw 33 rfl)) (ty := (.object zs11)) (by decide)
  have f19 : Fld Z h15 b15 zs8 "anchor" zs5 .null := D15 (Or.inr (ww hw 35 rfl)) (ty := (.object zs4)) (by decide)
  have f22 : Fld Z h15 a1 zs8 "unit" zs1 (.ref a20) := (Fld.ext E15 F21)
  obtain ⟨T23, X23, e23, st23⟩ := getF X15 hx hZ hown (host := "") (Or.inl (ww hw 28 rfl)) Via.refl e15 f22 (g := (mkF m 93 (lc58 a1 a2 a3 a9) [(.ref a1), (.ref b15), (.ref b15)])) rfl rfl (hb hby d7_93)
  have f27 : Sta Z h15 zs4 "MIDDLE" zs5 (.ref a25) := (Sta.ext E15 F26)
  have g28 : n0 ≤ b15 := Nat.le_trans Z0 (Nat.le_of_eq g15.symm)
  have Z_1 : n0 ≤ h15.size := Nat.le_trans Z0 E15.1
  obtain ⟨_, T24, L24, X24, hQ24, st24⟩ := ocallI X23 hx hZ zm5 rfl hown (ww hw 47 rfl) (ww hw 48 rfl) (by decide) (ww hw 49 rfl) (ww hw 10 rfl) e23 (rm8_32 l Z a0 hw [] b15 a20 a3 a9 a25 h15 n0 Z_1 f27 f16 f17 f18 f19 A15 g28) (st := [(.ref a9), (.ref a3), (.ref a20), (.ref b15), (.ref b15)]) rfl 1 rfl (by decide) (pc := 98) (Ls := (lc58 a1 a2 a3 a9)) hml rfl (lenOf pd_5 rfl) d7_98 hby
  obtain ⟨rfl, N24q, K24, f29, f30, f31, f32⟩ := hQ24
  have N33 := Fr.app N0 N24q
  refine own_go (U' := T24.setTop (mkF m 101 (lc58 a1 a2 a3 a9) [(.ref b15)])) (fun t k => oaloadN X0 hx hby d7_0 rfl rfl (st5 _ (onlN X5 hx hby d7_4 (oaloadN X5 hx hby d7_7 rfl rfl (st7 _ (onlY (pc := 11) X7 hx hby d7_11 39 (by decide) (oaloadN X7 hx hby d7_39 rfl rfl (st8 _ (oastoreN X8 hx hby d7_43 (lc46 a1 a2 a3) rfl rfl (oaloadN X8 hx hby d7_44 rfl rfl (st11 _ (onlN X11 hx hby d7_48 (oaloadN X11 hx hby d7_51 rfl rfl (st13 _ (onlY (pc := 55) X13 hx hby d7_55 83 (by decide) (oaloadN X13 hx hby d7_83 rfl rfl (st14 _ (oastoreN X14 hx hby d7_87 (lc58 a1 a2 a3 a9) rfl rfl (st15 _ (odup X15 hx hby d7_91 rfl (oaloadN X15 hx hby d7_92 rfl rfl (st23 _ (oaloadN X23 hx hby d7_96 rfl rfl (oaloadN X23 hx hby d7_97 rfl rfl (st24 _ k))))))))))))))))))))))))) ?_
  have f34 : Exa Z T24.heap b15 zs8 := (A15.keep K24)
  obtain ⟨fs, hr, hrun, hended, hW, hsame⟩ := X24.leave (v := some (.ref b15)) (fun h => by rw [Bd.returns] at h; cases h)
  refine own_out ⟨_, _, ?_, hrun, hended, _, _, rfl, ?_, ⟨_, rfl⟩, hW, hsame.mono (by decide) (by decide)⟩
  · exact retOut X24 hx Bd.returns rfl (Or.inr (Or.inr (Or.inr (Or.inr ⟨rfl, rfl, rfl⟩)))) (hb hby d7_101) hr
  · show Q7_49 Z a1 a2 a3 a9 a20 a25 h0 n0 _ T24.heap _
    exact ⟨b15, rfl, N33, (Keep.trans ((Keep.refl h0 []).ext E15) K24 (allS (Or.inr (Nat.le_of_eq g15.symm)) all0)), (Nat.le_of_eq g15.symm), f34, f29, f30, f31, f32⟩
def Q7_50 (Z : State) (a1 a2 a3 a9 a12 : Addr) (q18 q24 : Int64) (a34 a39 : Addr) (h0 : Heap) (n0 : Nat) (v : Option Value) (h : Heap) (L : List Loc) : Prop := ∃ b29 : Addr, v = some (.ref b29) ∧ Fr n0 L ∧ Keep h0 h [] ∧ h0.size ≤ b29 ∧ Exa Z h b29 zs8 ∧ Fld Z h b29 zs8 "unit" zs1 (.ref a34) ∧ Fld Z h b29 zs8 "first" zs9 (.ref a3) ∧ Fld Z h b29 zs8 "last" zs9 (.ref a12) ∧ Fld Z h b29 zs8 "anchor" zs5 (.ref a39)
set_option maxRecDepth 65536 in
set_option maxHeartbeats 40000000 in
theorem rm7_50 (l : Launch) (Z : State) (a0 : Array Value) (hw : ∀ d ∈ tables_1, d.before a0 Z = true) (ws : List Jvm.Cond) (a1 a2 a3 a9 a12 : Addr) (q18 q24 : Int64) (a34 a39 : Addr) (h0 : Heap) (n0 : Nat) (Z0 : n0 ≤ h0.size) (F4 : Fld Z h0 a1 zs8 "first" zs9 (.ref a3)) (F6 : Fld Z h0 a2 zs8 "first" zs9 .null) (F10 : Fld Z h0 a1 zs8 "last" zs9 (.ref a9)) (F13 : Fld Z h0 a2 zs8 "last" zs9 (.ref a12)) (F17 : Exa Z h0 a12 zs11) (F19 : Fld Z h0 a12 zs11 "value" "J" (.long q18)) (F23 : Exa Z h0 a9 zs11) (F25 : Fld Z h0 a9 zs11 "value" "J" (.long q24)) (hc27 : q18 < q24) (F35 : Fld Z h0 a1 zs8 "unit" zs1 (.ref a34)) (F40 : Sta Z h0 zs4 "MIDDLE" zs5 (.ref a39)) :
    MetFree l zm6 (head1 (Jvm.Cond.code zm6 prog_3_method_17_code 4 (some (.object zs8)) :: ws) ({ frames := 4, cells := 1, slots := 4, locals := 56 } : Room)) (fun a U => a = #[(.ref a1), (.ref a2)] ∧ Z.Warmed39 U.vm ∧ U.heap = h0) (fun _ _ _ _ _ => True) (fun _ U o U' => ∃ v L, o = .returned v ∧ Q7_50 Z a1 a2 a3 a9 a12 q18 q24 a34 a39 h0 n0 v U'.heap L ∧ FrameEnd U o U' L ({ frames := 4, cells := 1, slots := 4, locals := 56 } : Room).cells ({ frames := 4, cells := 1, slots := 4, locals := 56 } : Room).slots) := by
  refine MetFree.of_bodySF (plainFor_of_name pn_2) hisR ?_
  intro p e s m args below meth c s₁ Bd hml0 hP hK
  obtain ⟨rfl, hZ, hh⟩ := hP
  have hx := Bd.exec
  have hby := Bd.bytes
  have hml : c.maxLocals = 4 := hml0
  have hown : s.vm.findClass zs8 = some m.cls := findClass_of_methodNamed Bd.named
  have hnm := (name_of_methodNamed Bd.named Bd.method).1
  have X0 : Stand p l e ({ frames := 4, cells := 1, slots := 4, locals := 56 } : Room) s m #[(.ref a1), (.ref a2)] below meth c s₁ [] 0 0 := Stand.of_body Bd
  have e0 : s₁.heap = h0 := by rw [← hh, Bd.state]; rfl
  have N0 := Fr.nil n0
  refine own_pre (g' := mkF m 0 (lc18 a1 a2) []) (ef_4 m a1 a2) ?_
  obtain ⟨T5, X5, e5, st5⟩ := getF X0 hx hZ hown (host := "") (Or.inl (ww hw 30 rfl)) Via.refl e0 F4 (g := (mkF m 1 (lc18 a1 a2) [(.ref a1)])) rfl rfl (hb hby d7_1)
  obtain ⟨T7, X7, e7, st7⟩ := getF X5 hx hZ hown (host := "") (Or.inl (ww hw 30 rfl)) Via.refl e5 F6 (g := (mkF m 8 (lc18 a1 a2) [(.ref a2)])) rfl rfl (hb hby d7_8)
  obtain ⟨T8, X8, e8, st8⟩ := getF X7 hx hZ hown (host := "") (Or.inl (ww hw 30 rfl)) Via.refl e7 F4 (g := (mkF m 40 (lc18 a1 a2) [(.ref a1)])) rfl rfl (hb hby d7_40)
  obtain ⟨T11, X11, e11, st11⟩ := getF X8 hx hZ hown (host := "") (Or.inl (ww hw 32 rfl)) Via.refl e8 F10 (g := (mkF m 45 (lc46 a1 a2 a3) [(.ref a1)])) rfl rfl (hb hby d7_45)
  obtain ⟨T14, X14, e14, st14⟩ := getF X11 hx hZ hown (host := "") (Or.inl (ww hw 32 rfl)) Via.refl e11 F13 (g := (mkF m 52 (lc46 a1 a2 a3) [(.ref a2)])) rfl rfl (hb hby d7_52)
  obtain ⟨T15, X15, e15, st15⟩ := getF X14 hx hZ hown (host := "") (Or.inl (ww hw 32 rfl)) Via.refl e14 F13 (g := (mkF m 59 (lc46 a1 a2 a3) [(.ref a2)])) rfl rfl (hb hby d7_59)
  obtain ⟨_, T16, L16, X16, hQ16, st16⟩ := ocallV X15 hx hZ zm12 zm12 hown (ww hw 89 rfl) (ww hw 90 rfl) (notFace_of_selects (args := #[]) (mvT hZ (ww hw 92 rfl))) (ww hw 92 rfl) (ww hw 91 rfl) (by decide) (ww hw 93 rfl) (ww hw 65 rfl) e15 F17 (rm14_36 l Z a0 hw [] a12 q18 h0 n0 Z0 F19) (st := [(.ref a12)]) rfl 0 rfl (by decide) (pc := 62) (Ls := (lc46 a1 a2 a3)) hml rfl (lenOf pd_10 rfl) d7_62 hby
  obtain ⟨rfl, N16q, e16⟩ := hQ16
  have N20 := Fr.app N0 N16q
  obtain ⟨T21, X21, e21, st21⟩ := getF X16 hx hZ hown (host := "") (Or.inl (ww hw 32 rfl)) Via.refl e16 F10 (g := (mkF m 66 (lc46 a1 a2 a3) [(.ref a1), (.long q18)])) rfl rfl (hb hby d7_66)
  obtain ⟨_, T22, L22, X22, hQ22, st22⟩ := ocallV X21 hx hZ zm12 zm12 hown (ww hw 89 rfl) (ww hw 90 rfl) (notFace_of_selects (args := #[]) (mvT hZ (ww hw 92 rfl))) (ww hw 92 rfl) (ww hw 91 rfl) (by decide) (ww hw 93 rfl) (ww hw 65 rfl) e21 F23 (rm14_36 l Z a0 hw [] a9 q24 h0 n0 Z0 F25) (st := [(.ref a9), (.long q18)]) rfl 2 rfl (by decide) (pc := 69) (Ls := (lc46 a1 a2 a3)) hml rfl (lenOf pd_10 rfl) d7_69 hby
  obtain ⟨rfl, N22q, e22⟩ := hQ22
  have N26 := Fr.app N20 N22q
  refine own_go (U' := T22.setTop (mkF m 73 (lc46 a1 a2 a3) [(.int (lcmpW q18 q24))])) (fun t k => oaloadN X0 hx hby d7_0 rfl rfl (st5 _ (onlN X5 hx hby d7_4 (oaloadN X5 hx hby d7_7 rfl rfl (st7 _ (onlY (pc := 11) X7 hx hby d7_11 39 (by decide) (oaloadN X7 hx hby d7_39 rfl rfl (st8 _ (oastoreN X8 hx hby d7_43 (lc46 a1 a2 a3) rfl rfl (oaloadN X8 hx hby d7_44 rfl rfl (st11 _ (onlN X11 hx hby d7_48 (oaloadN X11 hx hby d7_51 rfl rfl (st14 _ (onlN X14 hx hby d7_55 (oaloadN X14 hx hby d7_58 rfl rfl (st15 _ (st16 _ (oaloadN X16 hx hby d7_65 rfl rfl (st21 _ (st22 _ (olcmp X22 hx hby d7_72 k)))))))))))))))))))))) ?_
  obtain ⟨T28, X28, e28, st28⟩ := getF X22 hx hZ hown (host := "") (Or.inl (ww hw 32 rfl)) Via.refl e22 F13 (g := (mkF m 77 (lc46 a1 a2 a3) [(.ref a2)])) rfl rfl (hb hby d7_77)
  obtain ⟨T29, h29, X29, e29, E29, A29, D29, -, st29⟩ := newO X28 hx hZ hown (ww hw 46 rfl) (ww hw 9 rfl) (ww hw 10 rfl) e28 (g := (mkF m 88 (lc58 a1 a2 a3 a12) [])) rfl (hb hby d7_88) (by decide) (by decide)
  obtain ⟨b29, g29⟩ : ∃ z, z = h0.size := ⟨_, rfl⟩
  rw [← g29] at A29 D29 st29
  have f30 : Fld Z h29 b29 zs8 "unit" zs1 .null := D29 (Or.inr (ww hw 29 rfl)) (ty := (.object zs0)) (by decide)
  have f31 : Fld Z h29 b29 zs8 "first" zs9 .null := D29 (Or.inr (ww hw 31 rfl)) (ty := (.object zs11)) (by decide)
  have f32 : Fld Z h29 b29 zs8 "last" zs9 .null := D29 (Or.inr (ww hw 33 rfl)) (ty := (.object zs11)) (by decide)
  have f33 : Fld Z h29 b29 zs8 "anchor" zs5 .null := D29 (Or.inr (ww hw 35 rfl)) (ty := (.object zs4)) (by decide)
  have f36 : Fld Z h29 a1 zs8 "unit" zs1 (.ref a34) := (Fld.ext E29 F35)
  obtain ⟨T37, X37, e37, st37⟩ := getF X29 hx hZ hown (host := "") (Or.inl (ww hw 28 rfl)) Via.refl e29 f36 (g := (mkF m 93 (lc58 a1 a2 a3 a12) [(.ref a1), (.ref b29), (.ref b29)])) rfl rfl (hb hby d7_93)
  have f41 : Sta Z h29 zs4 "MIDDLE" zs5 (.ref a39) := (Sta.ext E29 F40)
  have g42 : n0 ≤ b29 := Nat.le_trans Z0 (Nat.le_of_eq g29.symm)
  have Z_1 : n0 ≤ h29.size := Nat.le_trans Z0 E29.1
  obtain ⟨_, T38, L38, X38, hQ38, st38⟩ := ocallI X37 hx hZ zm5 rfl hown (ww hw 47 rfl) (ww hw 48 rfl) (by decide) (ww hw 49 rfl) (ww hw 10 rfl) e37 (rm8_32 l Z a0 hw [] b29 a34 a3 a12 a39 h29 n0 Z_1 f41 f30 f31 f32 f33 A29 g42) (st := [(.ref a12), (.ref a3), (.ref a34), (.ref b29), (.ref b29)]) rfl 1 rfl (by decide) (pc := 98) (Ls := (lc58 a1 a2 a3 a12)) hml rfl (lenOf pd_5 rfl) d7_98 hby
  obtain ⟨rfl, N38q, K38, f43, f44, f45, f46⟩ := hQ38
  have N47 := Fr.app N26 N38q
  refine own_go (U' := T38.setTop (mkF m 101 (lc58 a1 a2 a3 a12) [(.ref b29)])) (fun t k => oifN X22 hx hby d7_73 (own_ll_ge_f hc27) (oaloadN X22 hx hby d7_76 rfl rfl (st28 _ (ogoto (pc := 80) X28 hx hby d7_80 87 (by decide) (oastoreN X28 hx hby d7_87 (lc58 a1 a2 a3 a12) rfl rfl (st29 _ (odup X29 hx hby d7_91 rfl (oaloadN X29 hx hby d7_92 rfl rfl (st37 _ (oaloadN X37 hx hby d7_96 rfl rfl (oaloadN X37 hx hby d7_97 rfl rfl (st38 _ k)))))))))))) ?_
  have f48 : Exa Z T38.heap b29 zs8 := (A29.keep K38)
  obtain ⟨fs, hr, hrun, hended, hW, hsame⟩ := X38.leave (v := some (.ref b29)) (fun h => by rw [Bd.returns] at h; cases h)
  refine own_out ⟨_, _, ?_, hrun, hended, _, _, rfl, ?_, ⟨_, rfl⟩, hW, hsame.mono (by decide) (by decide)⟩
  · exact retOut X38 hx Bd.returns rfl (Or.inr (Or.inr (Or.inr (Or.inr ⟨rfl, rfl, rfl⟩)))) (hb hby d7_101) hr
  · show Q7_50 Z a1 a2 a3 a9 a12 q18 q24 a34 a39 h0 n0 _ T38.heap _
    exact ⟨b29, rfl, N47, (Keep.trans ((Keep.refl h0 []).ext E29) K38 (allS (Or.inr (Nat.le_of_eq g29.symm)) all0)), (Nat.le_of_eq g29.symm), f48, f43, f44, f45, f46⟩
def Q7_51 (Z : State) (a1 a2 a3 a9 a12 : Addr) (q18 q24 : Int64) (a34 a39 : Addr) (h0 : Heap) (n0 : Nat) (v : Option Value) (h : Heap) (L : List Loc) : Prop := ∃ b29 : Addr, v = some (.ref b29) ∧ Fr n0 L ∧ Keep h0 h [] ∧ h0.size ≤ b29 ∧ Exa Z h b29 zs8 ∧ Fld Z h b29 zs8 "unit" zs1 (.ref a34) ∧ Fld Z h b29 zs8 "first" zs9 (.ref a3) ∧ Fld Z h b29 zs8 "last" zs9 (.ref a9) ∧ Fld Z h b29 zs8 "anchor" zs5 (.ref a39)
set_option maxRecDepth 65536 in
set_option maxHeartbeats 40000000 in
theorem rm7_51 (l : Launch) (Z : State) (a0 : Array Value) (hw : ∀ d ∈ tables_1, d.before a0 Z = true) (ws : List Jvm.Cond) (a1 a2 a3 a9 a12 : Addr) (q18 q24 : Int64) (a34 a39 : Addr) (h0 : Heap) (n0 : Nat) (Z0 : n0 ≤ h0.size) (F4 : Fld Z h0 a1 zs8 "first" zs9 (.ref a3)) (F6 : Fld Z h0 a2 zs8 "first" zs9 .null) (F10 : Fld Z h0 a1 zs8 "last" zs9 (.ref a9)) (F13 : Fld Z h0 a2 zs8 "last" zs9 (.ref a12)) (F17 : Exa Z h0 a12 zs11) (F19 : Fld Z h0 a12 zs11 "value" "J" (.long q18)) (F23 : Exa Z h0 a9 zs11) (F25 : Fld Z h0 a9 zs11 "value" "J" (.long q24)) (hc27 : ¬ (q18 < q24)) (F35 : Fld Z h0 a1 zs8 "unit" zs1 (.ref a34)) (F40 : Sta Z h0 zs4 "MIDDLE" zs5 (.ref a39)) :
    MetFree l zm6 (head1 (Jvm.Cond.code zm6 prog_3_method_17_code 4 (some (.object zs8)) :: ws) ({ frames := 4, cells := 1, slots := 4, locals := 56 } : Room)) (fun a U => a = #[(.ref a1), (.ref a2)] ∧ Z.Warmed39 U.vm ∧ U.heap = h0) (fun _ _ _ _ _ => True) (fun _ U o U' => ∃ v L, o = .returned v ∧ Q7_51 Z a1 a2 a3 a9 a12 q18 q24 a34 a39 h0 n0 v U'.heap L ∧ FrameEnd U o U' L ({ frames := 4, cells := 1, slots := 4, locals := 56 } : Room).cells ({ frames := 4, cells := 1, slots := 4, locals := 56 } : Room).slots) := by
  refine MetFree.of_bodySF (plainFor_of_name pn_2) hisR ?_
  intro p e s m args below meth c s₁ Bd hml0 hP hK
  obtain ⟨rfl, hZ, hh⟩ := hP
  have hx := Bd.exec
  have hby := Bd.bytes
  have hml : c.maxLocals = 4 := hml0
  have hown : s.vm.findClass zs8 = some m.cls := findClass_of_methodNamed Bd.named
  have hnm := (name_of_methodNamed Bd.named Bd.method).1
  have X0 : Stand p l e ({ frames := 4, cells := 1, slots := 4, locals := 56 } : Room) s m #[(.ref a1), (.ref a2)] below meth c s₁ [] 0 0 := Stand.of_body Bd
  have e0 : s₁.heap = h0 := by rw [← hh, Bd.state]; rfl
  have N0 := Fr.nil n0
  refine own_pre (g' := mkF m 0 (lc18 a1 a2) []) (ef_4 m a1 a2) ?_
  obtain ⟨T5, X5, e5, st5⟩ := getF X0 hx hZ hown (host := "") (Or.inl (ww hw 30 rfl)) Via.refl e0 F4 (g := (mkF m 1 (lc18 a1 a2) [(.ref a1)])) rfl rfl (hb hby d7_1)
  obtain ⟨T7, X7, e7, st7⟩ := getF X5 hx hZ hown (host := "") (Or.inl (ww hw 30 rfl)) Via.refl e5 F6 (g := (mkF m 8 (lc18 a1 a2) [(.ref a2)])) rfl rfl (hb hby d7_8)
  obtain ⟨T8, X8, e8, st8⟩ := getF X7 hx hZ hown (host := "") (Or.inl (ww hw 30 rfl)) Via.refl e7 F4 (g := (mkF m 40 (lc18 a1 a2) [(.ref a1)])) rfl rfl (hb hby d7_40)
  obtain ⟨T11, X11, e11, st11⟩ := getF X8 hx hZ hown (host := "") (Or.inl (ww hw 32 rfl)) Via.refl e8 F10 (g := (mkF m 45 (lc46 a1 a2 a3) [(.ref a1)])) rfl rfl (hb hby d7_45)
  obtain ⟨T14, X14, e14, st14⟩ := getF X11 hx hZ hown (host := "") (Or.inl (ww hw 32 rfl)) Via.refl e11 F13 (g := (mkF m 52 (lc46 a1 a2 a3) [(.ref a2)])) rfl rfl (hb hby d7_52)
  obtain ⟨T15, X15, e15, st15⟩ := getF X14 hx hZ hown (host := "") (Or.inl (ww hw 32 rfl)) Via.refl e14 F13 (g := (mkF m 59 (lc46 a1 a2 a3) [(.ref a2)])) rfl rfl (hb hby d7_59)
  obtain ⟨_, T16, L16, X16, hQ16, st16⟩ := ocallV X15 hx hZ zm12 zm12 hown (ww hw 89 rfl) (ww hw 90 rfl) (notFace_of_selects (args := #[]) (mvT hZ (ww hw 92 rfl))) (ww hw 92 rfl) (ww hw 91 rfl) (by decide) (ww hw 93 rfl) (ww hw 65 rfl) e15 F17 (rm14_36 l Z a0 hw [] a12 q18 h0 n0 Z0 F19) (st := [(.ref a12)]) rfl 0 rfl (by decide) (pc := 62) (Ls := (lc46 a1 a2 a3)) hml rfl (lenOf pd_10 rfl) d7_62 hby
  obtain ⟨rfl, N16q, e16⟩ := hQ16
  have N20 := Fr.app N0 N16q
  obtain ⟨T21, X21, e21, st21⟩ := getF X16 hx hZ hown (host := "") (Or.inl (ww hw 32 rfl)) Via.refl e16 F10 (g := (mkF m 66 (lc46 a1 a2 a3) [(.ref a1), (.long q18)])) rfl rfl (hb hby d7_66)
  obtain ⟨_, T22, L22, X22, hQ22, st22⟩ := ocallV X21 hx hZ zm12 zm12 hown (ww hw 89 rfl) (ww hw 90 rfl) (notFace_of_selects (args := #[]) (mvT hZ (ww hw 92 rfl))) (ww hw 92 rfl) (ww hw 91 rfl) (by decide) (ww hw 93 rfl) (ww hw 65 rfl) e21 F23 (rm14_36 l Z a0 hw [] a9 q24 h0 n0 Z0 F25) (st := [(.ref a9), (.long q18)]) rfl 2 rfl (by decide) (pc := 69) (Ls := (lc46 a1 a2 a3)) hml rfl (lenOf pd_10 rfl) d7_69 hby
  obtain ⟨rfl, N22q, e22⟩ := hQ22
  have N26 := Fr.app N20 N22q
  refine own_go (U' := T22.setTop (mkF m 73 (lc46 a1 a2 a3) [(.int (lcmpW q18 q24))])) (fun t k => oaloadN X0 hx hby d7_0 rfl rfl (st5 _ (onlN X5 hx hby d7_4 (oaloadN X5 hx hby d7_7 rfl rfl (st7 _ (onlY (pc := 11) X7 hx hby d7_11 39 (by decide) (oaloadN X7 hx hby d7_39 rfl rfl (st8 _ (oastoreN X8 hx hby d7_43 (lc46 a1 a2 a3) rfl rfl (oaloadN X8 hx hby d7_44 rfl rfl (st11 _ (onlN X11 hx hby d7_48 (oaloadN X11 hx hby d7_51 rfl rfl (st14 _ (onlN X14 hx hby d7_55 (oaloadN X14 hx hby d7_58 rfl rfl (st15 _ (st16 _ (oaloadN X16 hx hby d7_65 rfl rfl (st21 _ (st22 _ (olcmp X22 hx hby d7_72 k)))))))))))))))))))))) ?_
  obtain ⟨T28, X28, e28, st28⟩ := getF X22 hx hZ hown (host := "") (Or.inl (ww hw 32 rfl)) Via.refl e22 F10 (g := (mkF m 84 (lc46 a1 a2 a3) [(.ref a1)])) rfl rfl (hb hby d7_84)
  obtain ⟨T29, h29, X29, e29, E29, A29, D29, -, st29⟩ := newO X28 hx hZ hown (ww hw 46 rfl) (ww hw 9 rfl) (ww hw 10 rfl) e28 (g := (mkF m 88 (lc58 a1 a2 a3 a9) [])) rfl (hb hby d7_88) (by decide) (by decide)
  obtain ⟨b29, g29⟩ : ∃ z, z = h0.size := ⟨_, rfl⟩
  rw [← g29] at A29 D29 st29
  have f30 : Fld Z h29 b29 zs8 "unit" zs1 .null := D29 (Or.inr (ww hw 29 rfl)) (ty := (.object zs0)) (by decide)
  have f31 : Fld Z h29 b29 zs8 "first" zs9 .null := D29 (Or.inr (ww hw 31 rfl)) (ty := (.object zs11)) (by decide)
  have f32 : Fld Z h29 b29 zs8 "last" zs9 .null := D29 (Or.inr (ww hw 33 rfl)) (ty := (.object zs11)) (by decide)
  have f33 : Fld Z h29 b29 zs8 "anchor" zs5 .null := D29 (Or.inr (ww hw 35 rfl)) (ty := (.object zs4)) (by decide)
  have f36 : Fld Z h29 a1 zs8 "unit" zs1 (.ref a34) := (Fld.ext E29 F35)
  obtain ⟨T37, X37, e37, st37⟩ := getF X29 hx hZ hown (host := "") (Or.inl (ww hw 28 rfl)) Via.refl e29 f36 (g := (mkF m 93 (lc58 a1 a2 a3 a9) [(.ref a1), (.ref b29), (.ref b29)])) rfl rfl (hb hby d7_93)
  have f41 : Sta Z h29 zs4 "MIDDLE" zs5 (.ref a39) := (Sta.ext E29 F40)
  have g42 : n0 ≤ b29 := Nat.le_trans Z0 (Nat.le_of_eq g29.symm)
  have Z_1 : n0 ≤ h29.size := Nat.le_trans Z0 E29.1
  obtain ⟨_, T38, L38, X38, hQ38, st38⟩ := ocallI X37 hx hZ zm5 rfl hown (ww hw 47 rfl) (ww hw 48 rfl) (by decide) (ww hw 49 rfl) (ww hw 10 rfl) e37 (rm8_32 l Z a0 hw [] b29 a34 a3 a9 a39 h29 n0 Z_1 f41 f30 f31 f32 f33 A29 g42) (st := [(.ref a9), (.ref a3), (.ref a34), (.ref b29), (.ref b29)]) rfl 1 rfl (by decide) (pc := 98) (Ls := (lc58 a1 a2 a3 a9)) hml rfl (lenOf pd_5 rfl) d7_98 hby
  obtain ⟨rfl, N38q, K38, f43, f44, f45, f46⟩ := hQ38
  have N47 := Fr.app N26 N38q
  refine own_go (U' := T38.setTop (mkF m 101 (lc58 a1 a2 a3 a9) [(.ref b29)])) (fun t k => oifY (pc := 73) X22 hx hby d7_73 83 (own_ll_ge_t hc27) (by decide) (oaloadN X22 hx hby d7_83 rfl rfl (st28 _ (oastoreN X28 hx hby d7_87 (lc58 a1 a2 a3 a9) rfl rfl (st29 _ (odup X29 hx hby d7_91 rfl (oaloadN X29 hx hby d7_92 rfl rfl (st37 _ (oaloadN X37 hx hby d7_96 rfl rfl (oaloadN X37 hx hby d7_97 rfl rfl (st38 _ k))))))))))) ?_
  have f48 : Exa Z T38.heap b29 zs8 := (A29.keep K38)
  obtain ⟨fs, hr, hrun, hended, hW, hsame⟩ := X38.leave (v := some (.ref b29)) (fun h => by rw [Bd.returns] at h; cases h)
  refine own_out ⟨_, _, ?_, hrun, hended, _, _, rfl, ?_, ⟨_, rfl⟩, hW, hsame.mono (by decide) (by decide)⟩
  · exact retOut X38 hx Bd.returns rfl (Or.inr (Or.inr (Or.inr (Or.inr ⟨rfl, rfl, rfl⟩)))) (hb hby d7_101) hr
  · show Q7_51 Z a1 a2 a3 a9 a12 q18 q24 a34 a39 h0 n0 _ T38.heap _
    exact ⟨b29, rfl, N47, (Keep.trans ((Keep.refl h0 []).ext E29) K38 (allS (Or.inr (Nat.le_of_eq g29.symm)) all0)), (Nat.le_of_eq g29.symm), f48, f43, f44, f45, f46⟩
def Q7_52 (Z : State) (a1 a2 a3 a6 : Addr) (q12 q18 : Int64) (a23 a34 a39 : Addr) (h0 : Heap) (n0 : Nat) (v : Option Value) (h : Heap) (L : List Loc) : Prop := ∃ b29 : Addr, v = some (.ref b29) ∧ Fr n0 L ∧ Keep h0 h [] ∧ h0.size ≤ b29 ∧ Exa Z h b29 zs8 ∧ Fld Z h b29 zs8 "unit" zs1 (.ref a34) ∧ Fld Z h b29 zs8 "first" zs9 (.ref a6) ∧ Fld Z h b29 zs8 "last" zs9 (.ref a23) ∧ Fld Z h b29 zs8 "anchor" zs5 (.ref a39)
set_option maxRecDepth 65536 in
set_option maxHeartbeats 40000000 in
theorem rm7_52 (l : Launch) (Z : State) (a0 : Array Value) (hw : ∀ d ∈ tables_1, d.before a0 Z = true) (ws : List Jvm.Cond) (a1 a2 a3 a6 : Addr) (q12 q18 : Int64) (a23 a34 a39 : Addr) (h0 : Heap) (n0 : Nat) (Z0 : n0 ≤ h0.size) (F4 : Fld Z h0 a1 zs8 "first" zs9 (.ref a3)) (F7 : Fld Z h0 a2 zs8 "first" zs9 (.ref a6)) (F11 : Exa Z h0 a6 zs11) (F13 : Fld Z h0 a6 zs11 "value" "J" (.long q12)) (F17 : Exa Z h0 a3 zs11) (F19 : Fld Z h0 a3 zs11 "value" "J" (.long q18)) (hc21 : q18 < q12) (F24 : Fld Z h0 a1 zs8 "last" zs9 (.ref a23)) (F26 : Fld Z h0 a2 zs8 "last" zs9 .null) (F35 : Fld Z h0 a1 zs8 "unit" zs1 (.ref a34)) (F40 : Sta Z h0 zs4 "MIDDLE" zs5 (.ref a39)) :
    MetFree l zm6 (head1 (Jvm.Cond.code zm6 prog_3_method_17_code 4 (some (.object zs8)) :: ws) ({ frames := 4, cells := 1, slots := 4, locals := 56 } : Room)) (fun a U => a = #[(.ref a1), (.ref a2)] ∧ Z.Warmed39 U.vm ∧ U.heap = h0) (fun _ _ _ _ _ => True) (fun _ U o U' => ∃ v L, o = .returned v ∧ Q7_52 Z a1 a2 a3 a6 q12 q18 a23 a34 a39 h0 n0 v U'.heap L ∧ FrameEnd U o U' L ({ frames := 4, cells := 1, slots := 4, locals := 56 } : Room).cells ({ frames := 4, cells := 1, slots := 4, locals := 56 } : Room).slots) := by
  refine MetFree.of_bodySF (plainFor_of_name pn_2) hisR ?_
  intro p e s m args below meth c s₁ Bd hml0 hP hK
  obtain ⟨rfl, hZ, hh⟩ := hP
  have hx := Bd.exec
  have hby := Bd.bytes
  have hml : c.maxLocals = 4 := hml0
  have hown : s.vm.findClass zs8 = some m.cls := findClass_of_methodNamed Bd.named
  have hnm := (name_of_methodNamed Bd.named Bd.method).1
  have X0 : Stand p l e ({ frames := 4, cells := 1, slots := 4, locals := 56 } : Room) s m #[(.ref a1), (.ref a2)] below meth c s₁ [] 0 0 := Stand.of_body Bd
  have e0 : s₁.heap = h0 := by rw [← hh, Bd.state]; rfl
  have N0 := Fr.nil n0
  refine own_pre (g' := mkF m 0 (lc18 a1 a2) []) (ef_4 m a1 a2) ?_
  obtain ⟨T5, X5, e5, st5⟩ := getF X0 hx hZ hown (host := "") (Or.inl (ww hw 30 rfl)) Via.refl e0 F4 (g := (mkF m 1 (lc18 a1 a2) [(.ref a1)])) rfl rfl (hb hby d7_1)
  obtain ⟨T8, X8, e8, st8⟩ := getF X5 hx hZ hown (host := "") (Or.inl (ww hw 30 rfl)) Via.refl e5 F7 (g := (mkF m 8 (lc18 a1 a2) [(.ref a2)])) rfl rfl (hb hby d7_8)
  obtain ⟨T9, X9, e9, st9⟩ := getF X8 hx hZ hown (host := "") (Or.inl (ww hw 30 rfl)) Via.refl e8 F7 (g := (mkF m 15 (lc18 a1 a2) [(.ref a2)])) rfl rfl (hb hby d7_15)
  obtain ⟨_, T10, L10, X10, hQ10, st10⟩ := ocallV X9 hx hZ zm12 zm12 hown (ww hw 89 rfl) (ww hw 90 rfl) (notFace_of_selects (args := #[]) (mvT hZ (ww hw 92 rfl))) (ww hw 92 rfl) (ww hw 91 rfl) (by decide) (ww hw 93 rfl) (ww hw 65 rfl) e9 F11 (rm14_36 l Z a0 hw [] a6 q12 h0 n0 Z0 F13) (st := [(.ref a6)]) rfl 0 rfl (by decide) (pc := 18) (Ls := (lc18 a1 a2)) hml rfl (lenOf pd_10 rfl) d7_18 hby
  obtain ⟨rfl, N10q, e10⟩ := hQ10
  have N14 := Fr.app N0 N10q
  obtain ⟨T15, X15, e15, st15⟩ := getF X10 hx hZ hown (host := "") (Or.inl (ww hw 30 rfl)) Via.refl e10 F4 (g := (mkF m 22 (lc18 a1 a2) [(.ref a1), (.long q12)])) rfl rfl (hb hby d7_22)
  obtain ⟨_, T16, L16, X16, hQ16, st16⟩ := ocallV X15 hx hZ zm12 zm12 hown (ww hw 89 rfl) (ww hw 90 rfl) (notFace_of_selects (args := #[]) (mvT hZ (ww hw 92 rfl))) (ww hw 92 rfl) (ww hw 91 rfl) (by decide) (ww hw 93 rfl) (ww hw 65 rfl) e15 F17 (rm14_36 l Z a0 hw [] a3 q18 h0 n0 Z0 F19) (st := [(.ref a3), (.long q12)]) rfl 2 rfl (by decide) (pc := 25) (Ls := (lc18 a1 a2)) hml rfl (lenOf pd_10 rfl) d7_25 hby
  obtain ⟨rfl, N16q, e16⟩ := hQ16
  have N20 := Fr.app N14 N16q
  refine own_go (U' := T16.setTop (mkF m 29 (lc18 a1 a2) [(.int (lcmpW q12 q18))])) (fun t k => oaloadN X0 hx hby d7_0 rfl rfl (st5 _ (onlN X5 hx hby d7_4 (oaloadN X5 hx hby d7_7 rfl rfl (st8 _ (onlN X8 hx hby d7_11 (oaloadN X8 hx hby d7_14 rfl rfl (st9 _ (st10 _ (oaloadN X10 hx hby d7_21 rfl rfl (st15 _ (st16 _ (olcmp X16 hx hby d7_28 k))))))))))))) ?_
  obtain ⟨T22, X22, e22, st22⟩ := getF X16 hx hZ hown (host := "") (Or.inl (ww hw 30 rfl)) Via.refl e16 F7 (g := (mkF m 33 (lc18 a1 a2) [(.ref a2)])) rfl rfl (hb hby d7_33)
  obtain ⟨T25, X25, e25, st25⟩ := getF X22 hx hZ hown (host := "") (Or.inl (ww hw 32 rfl)) Via.refl e22 F24 (g := (mkF m 45 (lc46 a1 a2 a6) [(.ref a1)])) rfl rfl (hb hby d7_45)
  obtain ⟨T27, X27, e27, st27⟩ := getF X25 hx hZ hown (host := "") (Or.inl (ww hw 32 rfl)) Via.refl e25 F26 (g := (mkF m 52 (lc46 a1 a2 a6) [(.ref a2)])) rfl rfl (hb hby d7_52)
  obtain ⟨T28, X28, e28, st28⟩ := getF X27 hx hZ hown (host := "") (Or.inl (ww hw 32 rfl)) Via.refl e27 F24 (g := (mkF m 84 (lc46 a1 a2 a6) [(.ref a1)])) rfl rfl (hb hby d7_84)
  obtain ⟨T29, h29, X29, e29, E29, A29, D29, -, st29⟩ := newO X28 hx hZ hown (ww hw 46 rfl) (ww hw 9 rfl) (ww hw 10 rfl) e28 (g := (mkF m 88 (lc58 a1 a2 a6 a23) [])) rfl (hb hby d7_88) (by decide) (by decide)
  obtain ⟨b29, g29⟩ : ∃ z, z = h0.size := ⟨_, rfl⟩
  rw [← g29] at A29 D29 st29
  have f30 : Fld Z h29 b29 zs8 "unit" zs1 .null := D29 (Or.inr (ww hw 29 rfl)) (ty := (.object zs0)) (by decide)
  have f31 : Fld Z h29 b29 zs8 "first" zs9 .null := D29 (Or.inr (ww hw 31 rfl)) (ty := (.object zs11)) (by decide)
  have f32 : Fld Z h29 b29 zs8 "last" zs9 .null := D29 (Or.inr (ww hw 33 rfl)) (ty := (.object zs11)) (by decide)
  have f33 : Fld Z h29 b29 zs8 "anchor" zs5 .null := D29 (Or.inr (ww hw 35 rfl)) (ty := (.object zs4)) (by decide)
  have f36 : Fld Z h29 a1 zs8 "unit" zs1 (.ref a34) := (Fld.ext E29 F35)
  obtain ⟨T37, X37, e37, st37⟩ := getF X29 hx hZ hown (host := "") (Or.inl (ww hw 28 rfl)) Via.refl e29 f36 (g := (mkF m 93 (lc58 a1 a2 a6 a23) [(.ref a1), (.ref b29), (.ref b29)])) rfl rfl (hb hby d7_93)
  have f41 : Sta Z h29 zs4 "MIDDLE" zs5 (.ref a39) := (Sta.ext E29 F40)
  have g42 : n0 ≤ b29 := Nat.le_trans Z0 (Nat.le_of_eq g29.symm)
  have Z_1 : n0 ≤ h29.size := Nat.le_trans Z0 E29.1
  obtain ⟨_, T38, L38, X38, hQ38, st38⟩ := ocallI X37 hx hZ zm5 rfl hown (ww hw 47 rfl) (ww hw 48 rfl) (by decide) (ww hw 49 rfl) (ww hw 10 rfl) e37 (rm8_32 l Z a0 hw [] b29 a34 a6 a23 a39 h29 n0 Z_1 f41 f30 f31 f32 f33 A29 g42) (st := [(.ref a23), (.ref a6), (.ref a34), (.ref b29), (.ref b29)]) rfl 1 rfl (by decide) (pc := 98) (Ls := (lc58 a1 a2 a6 a23)) hml rfl (lenOf pd_5 rfl) d7_98 hby
  obtain ⟨rfl, N38q, K38, f43, f44, f45, f46⟩ := hQ38
  have N47 := Fr.app N20 N38q
  refine own_go (U' := T38.setTop (mkF m 101 (lc58 a1 a2 a6 a23) [(.ref b29)])) (fun t k => oifN X16 hx hby d7_29 (own_ll_le_f hc21) (oaloadN X16 hx hby d7_32 rfl rfl (st22 _ (ogoto (pc := 36) X22 hx hby d7_36 43 (by decide) (oastoreN X22 hx hby d7_43 (lc46 a1 a2 a6) rfl rfl (oaloadN X22 hx hby d7_44 rfl rfl (st25 _ (onlN X25 hx hby d7_48 (oaloadN X25 hx hby d7_51 rfl rfl (st27 _ (onlY (pc := 55) X27 hx hby d7_55 83 (by decide) (oaloadN X27 hx hby d7_83 rfl rfl (st28 _ (oastoreN X28 hx hby d7_87 (lc58 a1 a2 a6 a23) rfl rfl (st29 _ (odup X29 hx hby d7_91 rfl (oaloadN X29 hx hby d7_92 rfl rfl (st37 _ (oaloadN X37 hx hby d7_96 rfl rfl (oaloadN X37 hx hby d7_97 rfl rfl (st38 _ k))))))))))))))))))))) ?_
  have f48 : Exa Z T38.heap b29 zs8 := (A29.keep K38)
  obtain ⟨fs, hr, hrun, hended, hW, hsame⟩ := X38.leave (v := some (.ref b29)) (fun h => by rw [Bd.returns] at h; cases h)
  refine own_out ⟨_, _, ?_, hrun, hended, _, _, rfl, ?_, ⟨_, rfl⟩, hW, hsame.mono (by decide) (by decide)⟩
  · exact retOut X38 hx Bd.returns rfl (Or.inr (Or.inr (Or.inr (Or.inr ⟨rfl, rfl, rfl⟩)))) (hb hby d7_101) hr
  · show Q7_52 Z a1 a2 a3 a6 q12 q18 a23 a34 a39 h0 n0 _ T38.heap _
    exact ⟨b29, rfl, N47, (Keep.trans ((Keep.refl h0 []).ext E29) K38 (allS (Or.inr (Nat.le_of_eq g29.symm)) all0)), (Nat.le_of_eq g29.symm), f48, f43, f44, f45, f46⟩
def Q7_53 (Z : State) (a1 a2 a3 a6 : Addr) (q12 q18 : Int64) (a23 a34 a39 : Addr) (h0 : Heap) (n0 : Nat) (v : Option Value) (h : Heap) (L : List Loc) : Prop := ∃ b29 : Addr, v = some (.ref b29) ∧ Fr n0 L ∧ Keep h0 h [] ∧ h0.size ≤ b29 ∧ Exa Z h b29 zs8 ∧ Fld Z h b29 zs8 "unit" zs1 (.ref a34) ∧ Fld Z h b29 zs8 "first" zs9 (.ref a3) ∧ Fld Z h b29 zs8 "last" zs9 (.ref a23) ∧ Fld Z h b29 zs8 "anchor" zs5 (.ref a39)
set_option maxRecDepth 65536 in
set_option maxHeartbeats 40000000 in
theorem rm7_53 (l : Launch) (Z : State) (a0 : Array Value) (hw : ∀ d ∈ tables_1, d.before a0 Z = true) (ws : List Jvm.Cond) (a1 a2 a3 a6 : Addr) (q12 q18 : Int64) (a23 a34 a39 : Addr) (h0 : Heap) (n0 : Nat) (Z0 : n0 ≤ h0.size) (F4 : Fld Z h0 a1 zs8 "first" zs9 (.ref a3)) (F7 : Fld Z h0 a2 zs8 "first" zs9 (.ref a6)) (F11 : Exa Z h0 a6 zs11) (F13 : Fld Z h0 a6 zs11 "value" "J" (.long q12)) (F17 : Exa Z h0 a3 zs11) (F19 : Fld Z h0 a3 zs11 "value" "J" (.long q18)) (hc21 : ¬ (q18 < q12)) (F24 : Fld Z h0 a1 zs8 "last" zs9 (.ref a23)) (F26 : Fld Z h0 a2 zs8 "last" zs9 .null) (F35 : Fld Z h0 a1 zs8 "unit" zs1 (.ref a34)) (F40 : Sta Z h0 zs4 "MIDDLE" zs5 (.ref a39)) :
    MetFree l zm6 (head1 (Jvm.Cond.code zm6 prog_3_method_17_code 4 (some (.object zs8)) :: ws) ({ frames := 4, cells := 1, slots := 4, locals := 56 } : Room)) (fun a U => a = #[(.ref a1), (.ref a2)] ∧ Z.Warmed39 U.vm ∧ U.heap = h0) (fun _ _ _ _ _ => True) (fun _ U o U' => ∃ v L, o = .returned v ∧ Q7_53 Z a1 a2 a3 a6 q12 q18 a23 a34 a39 h0 n0 v U'.heap L ∧ FrameEnd U o U' L ({ frames := 4, cells := 1, slots := 4, locals := 56 } : Room).cells ({ frames := 4, cells := 1, slots := 4, locals := 56 } : Room).slots) := by
  refine MetFree.of_bodySF (plainFor_of_name pn_2) hisR ?_
  intro p e s m args below meth c s₁ Bd hml0 hP hK
  obtain ⟨rfl, hZ, hh⟩ := hP
  have hx := Bd.exec
  have hby := Bd.bytes
  have hml : c.maxLocals = 4 := hml0
  have hown : s.vm.findClass zs8 = some m.cls := findClass_of_methodNamed Bd.named
  have hnm := (name_of_methodNamed Bd.named Bd.method).1
  have X0 : Stand p l e ({ frames := 4, cells := 1, slots := 4, locals := 56 } : Room) s m #[(.ref a1), (.ref a2)] below meth c s₁ [] 0 0 := Stand.of_body Bd
  have e0 : s₁.heap = h0 := by rw [← hh, Bd.state]; rfl
  have N0 := Fr.nil n0
  refine own_pre (g' := mkF m 0 (lc18 a1 a2) []) (ef_4 m a1 a2) ?_
  obtain ⟨T5, X5, e5, st5⟩ := getF X0 hx hZ hown (host := "") (Or.inl (ww hw 30 rfl)) Via.refl e0 F4 (g := (mkF m 1 (lc18 a1 a2) [(.ref a1)])) rfl rfl (hb hby d7_1)
  obtain ⟨T8, X8, e8, st8⟩ := getF X5 hx hZ hown (host := "") (Or.inl (ww hw 30 rfl)) Via.refl e5 F7 (g := (mkF m 8 (lc18 a1 a2) [(.ref a2)])) rfl rfl (hb hby d7_8)
  obtain ⟨T9, X9, e9, st9⟩ := getF X8 hx hZ hown (host := "") (Or.inl (ww hw 30 rfl)) Via.refl e8 F7 (g := (mkF m 15 (lc18 a1 a2) [(.ref a2)])) rfl rfl (hb hby d7_15)
  obtain ⟨_, T10, L10, X10, hQ10, st10⟩ := ocallV X9 hx hZ zm12 zm12 hown (ww hw 89 rfl) (ww hw 90 rfl) (notFace_of_selects (args := #[]) (mvT hZ (ww hw 92 rfl))) (ww hw 92 rfl) (ww hw 91 rfl) (by decide) (ww hw 93 rfl) (ww hw 65 rfl) e9 F11 (rm14_36 l Z a0 hw [] a6 q12 h0 n0 Z0 F13) (st := [(.ref a6)]) rfl 0 rfl (by decide) (pc := 18) (Ls := (lc18 a1 a2)) hml rfl (lenOf pd_10 rfl) d7_18 hby
  obtain ⟨rfl, N10q, e10⟩ := hQ10
  have N14 := Fr.app N0 N10q
  obtain ⟨T15, X15, e15, st15⟩ := getF X10 hx hZ hown (host := "") (Or.inl (ww hw 30 rfl)) Via.refl e10 F4 (g := (mkF m 22 (lc18 a1 a2) [(.ref a1), (.long q12)])) rfl rfl (hb hby d7_22)
  obtain ⟨_, T16, L16, X16, hQ16, st16⟩ := ocallV X15 hx hZ zm12 zm12 hown (ww hw 89 rfl) (ww hw 90 rfl) (notFace_of_selects (args := #[]) (mvT hZ (ww hw 92 rfl))) (ww hw 92 rfl) (ww hw 91 rfl) (by decide) (ww hw 93 rfl) (ww hw 65 rfl) e15 F17 (rm14_36 l Z a0 hw [] a3 q18 h0 n0 Z0 F19) (st := [(.ref a3), (.long q12)]) rfl 2 rfl (by decide) (pc := 25) (Ls := (lc18 a1 a2)) hml rfl (lenOf pd_10 rfl) d7_25 hby
  obtain ⟨rfl, N16q, e16⟩ := hQ16
  have N20 := Fr.app N14 N16q
  refine own_go (U' := T16.setTop (mkF m 29 (lc18 a1 a2) [(.int (lcmpW q12 q18))])) (fun t k => oaloadN X0 hx hby d7_0 rfl rfl (st5 _ (onlN X5 hx hby d7_4 (oaloadN X5 hx hby d7_7 rfl rfl (st8 _ (onlN X8 hx hby d7_11 (oaloadN X8 hx hby d7_14 rfl rfl (st9 _ (st10 _ (oaloadN X10 hx hby d7_21 rfl rfl (st15 _ (st16 _ (olcmp X16 hx hby d7_28 k))))))))))))) ?_
  obtain ⟨T22, X22, e22, st22⟩ := getF X16 hx hZ hown (host := "") (Or.inl (ww hw 30 rfl)) Via.refl e16 F4 (g := (mkF m 40 (lc18 a1 a2) [(.ref a1)])) rfl rfl (hb hby d7_40)
  obtain ⟨T25, X25, e25, st25⟩ := getF X22 hx hZ hown (host := "") (Or.inl (ww hw 32 rfl)) Via.refl e22 F24 (g := (mkF m 45 (lc46 a1 a2 a3) [(.ref a1)])) rfl rfl (hb hby d7_45)
  obtain ⟨T27, X27, e27, st27⟩ := getF X25 hx hZ hown (host := "") (Or.inl (ww hw 32 rfl)) Via.refl e25 F26 (g := (mkF m 52 (lc46 a1 a2 a3) [(.ref a2)])) rfl rfl (hb hby d7_52)
  obtain ⟨T28, X28, e28, st28⟩ := getF X27 hx hZ hown (host := "") (Or.inl (ww hw 32 rfl)) Via.refl e27 F24 (g := (mkF m 84 (lc46 a1 a2 a3) [(.ref a1)])) rfl rfl (hb hby d7_84)
  obtain ⟨T29, h29, X29, e29, E29, A29, D29, -, st29⟩ := newO X28 hx hZ hown (ww hw 46 rfl) (ww hw 9 rfl) (ww hw 10 rfl) e28 (g := (mkF m 88 (lc58 a1 a2 a3 a23) [])) rfl (hb hby d7_88) (by decide) (by decide)
  obtain ⟨b29, g29⟩ : ∃ z, z = h0.size := ⟨_, rfl⟩
  rw [← g29] at A29 D29 st29
  have f30 : Fld Z h29 b29 zs8 "unit" zs1 .null := D29 (Or.inr (ww hw 29 rfl)) (ty := (.object zs0)) (by decide)
  have f31 : Fld Z h29 b29 zs8 "first" zs9 .null := D29 (Or.inr (ww hw 31 rfl)) (ty := (.object zs11)) (by decide)
  have f32 : Fld Z h29 b29 zs8 "last" zs9 .null := D29 (Or.inr (ww hw 33 rfl)) (ty := (.object zs11)) (by decide)
  have f33 : Fld Z h29 b29 zs8 "anchor" zs5 .null := D29 (Or.inr (ww hw 35 rfl)) (ty := (.object zs4)) (by decide)
  have f36 : Fld Z h29 a1 zs8 "unit" zs1 (.ref a34) := (Fld.ext E29 F35)
  obtain ⟨T37, X37, e37, st37⟩ := getF X29 hx hZ hown (host := "") (Or.inl (ww hw 28 rfl)) Via.refl e29 f36 (g := (mkF m 93 (lc58 a1 a2 a3 a23) [(.ref a1), (.ref b29), (.ref b29)])) rfl rfl (hb hby d7_93)
  have f41 : Sta Z h29 zs4 "MIDDLE" zs5 (.ref a39) := (Sta.ext E29 F40)
  have g42 : n0 ≤ b29 := Nat.le_trans Z0 (Nat.le_of_eq g29.symm)
  have Z_1 : n0 ≤ h29.size := Nat.le_trans Z0 E29.1
  obtain ⟨_, T38, L38, X38, hQ38, st38⟩ := ocallI X37 hx hZ zm5 rfl hown (ww hw 47 rfl) (ww hw 48 rfl) (by decide) (ww hw 49 rfl) (ww hw 10 rfl) e37 (rm8_32 l Z a0 hw [] b29 a34 a3 a23 a39 h29 n0 Z_1 f41 f30 f31 f32 f33 A29 g42) (st := [(.ref a23), (.ref a3), (.ref a34), (.ref b29), (.ref b29)]) rfl 1 rfl (by decide) (pc := 98) (Ls := (lc58 a1 a2 a3 a23)) hml rfl (lenOf pd_5 rfl) d7_98 hby
  obtain ⟨rfl, N38q, K38, f43, f44, f45, f46⟩ := hQ38
  have N47 := Fr.app N20 N38q
  refine own_go (U' := T38.setTop (mkF m 101 (lc58 a1 a2 a3 a23) [(.ref b29)])) (fun t k => oifY (pc := 29) X16 hx hby d7_29 39 (own_ll_le_t hc21) (by decide) (oaloadN X16 hx hby d7_39 rfl rfl (st22 _ (oastoreN X22 hx hby d7_43 (lc46 a1 a2 a3) rfl rfl (oaloadN X22 hx hby d7_44 rfl rfl (st25 _ (onlN X25 hx hby d7_48 (oaloadN X25 hx hby d7_51 rfl rfl (st27 _ (onlY (pc := 55) X27 hx hby d7_55 83 (by decide) (oaloadN X27 hx hby d7_83 rfl rfl (st28 _ (oastoreN X28 hx hby d7_87 (lc58 a1 a2 a3 a23) rfl rfl (st29 _ (odup X29 hx hby d7_91 rfl (oaloadN X29 hx hby d7_92 rfl rfl (st37 _ (oaloadN X37 hx hby d7_96 rfl rfl (oaloadN X37 hx hby d7_97 rfl rfl (st38 _ k)))))))))))))))))))) ?_
  have f48 : Exa Z T38.heap b29 zs8 := (A29.keep K38)
  obtain ⟨fs, hr, hrun, hended, hW, hsame⟩ := X38.leave (v := some (.ref b29)) (fun h => by rw [Bd.returns] at h; cases h)
  refine own_out ⟨_, _, ?_, hrun, hended, _, _, rfl, ?_, ⟨_, rfl⟩, hW, hsame.mono (by decide) (by decide)⟩
  · exact retOut X38 hx Bd.returns rfl (Or.inr (Or.inr (Or.inr (Or.inr ⟨rfl, rfl, rfl⟩)))) (hb hby d7_101) hr
  · show Q7_53 Z a1 a2 a3 a6 q12 q18 a23 a34 a39 h0 n0 _ T38.heap _
    exact ⟨b29, rfl, N47, (Keep.trans ((Keep.refl h0 []).ext E29) K38 (allS (Or.inr (Nat.le_of_eq g29.symm)) all0)), (Nat.le_of_eq g29.symm), f48, f43, f44, f45, f46⟩
def Q7_54 (Z : State) (a1 a2 a3 a6 : Addr) (q12 q18 : Int64) (a23 a26 : Addr) (q32 q38 : Int64) (a48 a53 : Addr) (h0 : Heap) (n0 : Nat) (v : Option Value) (h : Heap) (L : List Loc) : Prop := ∃ b43 : Addr, v = some (.ref b43) ∧ Fr n0 L ∧ Keep h0 h [] ∧ h0.size ≤ b43 ∧ Exa Z h b43 zs8 ∧ Fld Z h b43 zs8 "unit" zs1 (.ref a48) ∧ Fld Z h b43 zs8 "first" zs9 (.ref a6) ∧ Fld Z h b43 zs8 "last" zs9 (.ref a26) ∧ Fld Z h b43 zs8 "anchor" zs5 (.ref a53)
set_option maxRecDepth 65536 in
set_option maxHeartbeats 40000000 in
theorem rm7_54 (l : Launch) (Z : State) (a0 : Array Value) (hw : ∀ d ∈ tables_1, d.before a0 Z = true) (ws : List Jvm.Cond) (a1 a2 a3 a6 : Addr) (q12 q18 : Int64) (a23 a26 : Addr) (q32 q38 : Int64) (a48 a53 : Addr) (h0 : Heap) (n0 : Nat) (Z0 : n0 ≤ h0.size) (F4 : Fld Z h0 a1 zs8 "first" zs9 (.ref a3)) (F7 : Fld Z h0 a2 zs8 "first" zs9 (.ref a6)) (F11 : Exa Z h0 a6 zs11) (F13 : Fld Z h0 a6 zs11 "value" "J" (.long q12)) (F17 : Exa Z h0 a3 zs11) (F19 : Fld Z h0 a3 zs11 "value" "J" (.long q18)) (hc21 : q18 < q12) (F24 : Fld Z h0 a1 zs8 "last" zs9 (.ref a23)) (F27 : Fld Z h0 a2 zs8 "last" zs9 (.ref a26)) (F31 : Exa Z h0 a26 zs11) (F33 : Fld Z h0 a26 zs11 "value" "J" (.long q32)) (F37 : Exa Z h0 a23 zs11) (F39 : Fld Z h0 a23 zs11 "value" "J" (.long q38)) (hc41 : q32 < q38) (F49 : Fld Z h0 a1 zs8 "unit" zs1 (.ref a48)) (F54 : Sta Z h0 zs4 "MIDDLE" zs5 (.ref a53)) :
    MetFree l zm6 (head1 (Jvm.Cond.code zm6 prog_3_method_17_code 4 (some (.object zs8)) :: ws) ({ frames := 4, cells := 1, slots := 4, locals := 56 } : Room)) (fun a U => a = #[(.ref a1), (.ref a2)] ∧ Z.Warmed39 U.vm ∧ U.heap = h0) (fun _ _ _ _ _ => True) (fun _ U o U' => ∃ v L, o = .returned v ∧ Q7_54 Z a1 a2 a3 a6 q12 q18 a23 a26 q32 q38 a48 a53 h0 n0 v U'.heap L ∧ FrameEnd U o U' L ({ frames := 4, cells := 1, slots := 4, locals := 56 } : Room).cells ({ frames := 4, cells := 1, slots := 4, locals := 56 } : Room).slots) := by
  refine MetFree.of_bodySF (plainFor_of_name pn_2) hisR ?_
  intro p e s m args below meth c s₁ Bd hml0 hP hK
  obtain ⟨rfl, hZ, hh⟩ := hP
  have hx := Bd.exec
  have hby := Bd.bytes
  have hml : c.maxLocals = 4 := hml0
  have hown : s.vm.findClass zs8 = some m.cls := findClass_of_methodNamed Bd.named
  have hnm := (name_of_methodNamed Bd.named Bd.method).1
  have X0 : Stand p l e ({ frames := 4, cells := 1, slots := 4, locals := 56 } : Room) s m #[(.ref a1), (.ref a2)] below meth c s₁ [] 0 0 := Stand.of_body Bd
  have e0 : s₁.heap = h0 := by rw [← hh, Bd.state]; rfl
  have N0 := Fr.nil n0
  refine own_pre (g' := mkF m 0 (lc18 a1 a2) []) (ef_4 m a1 a2) ?_
  obtain ⟨T5, X5, e5, st5⟩ := getF X0 hx hZ hown (host := "") (Or.inl (ww hw 30 rfl)) Via.refl e0 F4 (g := (mkF m 1 (lc18 a1 a2) [(.ref a1)])) rfl rfl (hb hby d7_1)
  obtain ⟨T8, X8, e8, st8⟩ := getF X5 hx hZ hown (host := "") (Or.inl (ww hw 30 rfl)) Via.refl e5 F7 (g := (mkF m 8 (lc18 a1 a2) [(.ref a2)])) rfl rfl (hb hby d7_8)
  obtain ⟨T9, X9, e9, st9⟩ := getF X8 hx hZ hown (host := "") (Or.inl (ww hw 30 rfl)) Via.refl e8 F7 (g := (mkF m 15 (lc18 a1 a2) [(.ref a2)])) rfl rfl (hb hby d7_15)
  obtain ⟨_, T10, L10, X10, hQ10, st10⟩ := ocallV X9 hx hZ zm12 zm12 hown (ww hw 89 rfl) (ww hw 90 rfl) (notFace_of_selects (args := #[]) (mvT hZ (ww hw 92 rfl))) (ww hw 92 rfl) (ww hw 91 rfl) (by decide) (ww hw 93 rfl) (ww hw 65 rfl) e9 F11 (rm14_36 l Z a0 hw [] a6 q12 h0 n0 Z0 F13) (st := [(.ref a6)]) rfl 0 rfl (by decide) (pc := 18) (Ls := (lc18 a1 a2)) hml rfl (lenOf pd_10 rfl) d7_18 hby
  obtain ⟨rfl, N10q, e10⟩ := hQ10
  have N14 := Fr.app N0 N10q
  obtain ⟨T15, X15, e15, st15⟩ := getF X10 hx hZ hown (host := "") (Or.inl (ww hw 30 rfl)) Via.refl e10 F4 (g := (mkF m 22 (lc18 a1 a2) [(.ref a1), (.long q12)])) rfl rfl (hb hby d7_22)
  obtain ⟨_, T16, L16, X16, hQ16, st16⟩ := ocallV X15 hx hZ zm12 zm12 hown (ww hw 89 rfl) (ww hw 90 rfl) (notFace_of_selects (args := #[]) (mvT hZ (ww hw 92 rfl))) (ww hw 92 rfl) (ww hw 91 rfl) (by decide) (ww hw 93 rfl) (ww hw 65 rfl) e15 F17 (rm14_36 l Z a0 hw [] a3 q18 h0 n0 Z0 F19) (st := [(.ref a3), (.long q12)]) rfl 2 rfl (by decide) (pc := 25) (Ls := (lc18 a1 a2)) hml rfl (lenOf pd_10 rfl) d7_25 hby
  obtain ⟨rfl, N16q, e16⟩ := hQ16
  have N20 := Fr.app N14 N16q
  refine own_go (U' := T16.setTop (mkF m 29 (lc18 a1 a2) [(.int (lcmpW q12 q18))])) (fun t k => oaloadN X0 hx hby d7_0 rfl rfl (st5 _ (onlN X5 hx hby d7_4 (oaloadN X5 hx hby d7_7 rfl rfl (st8 _ (onlN X8 hx hby d7_11 (oaloadN X8 hx hby d7_14 rfl rfl (st9 _ (st10 _ (oaloadN X10 hx hby d7_21 rfl rfl (st15 _ (st16 _ (olcmp X16 hx hby d7_28 k))))))))))))) ?_
  obtain ⟨T22, X22, e22, st22⟩ := getF X16 hx hZ hown (host := "") (Or.inl (ww hw 30 rfl)) Via.refl e16 F7 (g := (mkF m 33 (lc18 a1 a2) [(.ref a2)])) rfl rfl (hb hby d7_33)
  obtain ⟨T25, X25, e25, st25⟩ := getF X22 hx hZ hown (host := "") (Or.inl (ww hw 32 rfl)) Via.refl e22 F24 (g := (mkF m 45 (lc46 a1 a2 a6) [(.ref a1)])) rfl rfl (hb hby d7_45)
  obtain ⟨T28, X28, e28, st28⟩ := getF X25 hx hZ hown (host := "") (Or.inl (ww hw 32 rfl)) Via.refl e25 F27 (g := (mkF m 52 (lc46 a1 a2 a6) [(.ref a2)])) rfl rfl (hb hby d7_52)
  obtain ⟨T29, X29, e29, st29⟩ := getF X28 hx hZ hown (host := "") (Or.inl (ww hw 32 rfl)) Via.refl e28 F27 (g := (mkF m 59 (lc46 a1 a2 a6) [(.ref a2)])) rfl rfl (hb hby d7_59)
  obtain ⟨_, T30, L30, X30, hQ30, st30⟩ := ocallV X29 hx hZ zm12 zm12 hown (ww hw 89 rfl) (ww hw 90 rfl) (notFace_of_selects (args := #[]) (mvT hZ (ww hw 92 rfl))) (ww hw 92 rfl) (ww hw 91 rfl) (by decide) (ww hw 93 rfl) (ww hw 65 rfl) e29 F31 (rm14_36 l Z a0 hw [] a26 q32 h0 n0 Z0 F33) (st := [(.ref a26)]) rfl 0 rfl (by decide) (pc := 62) (Ls := (lc46 a1 a2 a6)) hml rfl (lenOf pd_10 rfl) d7_62 hby
  obtain ⟨rfl, N30q, e30⟩ := hQ30
  have N34 := Fr.app N20 N30q
  obtain ⟨T35, X35, e35, st35⟩ := getF X30 hx hZ hown (host := "") (Or.inl (ww hw 32 rfl)) Via.refl e30 F24 (g := (mkF m 66 (lc46 a1 a2 a6) [(.ref a1), (.long q32)])) rfl rfl (hb hby d7_66)
  obtain ⟨_, T36, L36, X36, hQ36, st36⟩ := ocallV X35 hx hZ zm12 zm12 hown (ww hw 89 rfl) (ww hw 90 rfl) (notFace_of_selects (args := #[]) (mvT hZ (ww hw 92 rfl))) (ww hw 92 rfl) (ww hw 91 rfl) (by decide) (ww hw 93 rfl) (ww hw 65 rfl) e35 F37 (rm14_36 l Z a0 hw [] a23 q38 h0 n0 Z0 F39) (st := [(.ref a23), (.long q32)]) rfl 2 rfl (by decide) (pc := 69) (Ls := (lc46 a1 a2 a6)) hml rfl (lenOf pd_10 rfl) d7_69 hby
  obtain ⟨rfl, N36q, e36⟩ := hQ36
  have N40 := Fr.app N34 N36q
  refine own_go (U' := T36.setTop (mkF m 73 (lc46 a1 a2 a6) [(.int (lcmpW q32 q38))])) (fun t k => oifN X16 hx hby d7_29 (own_ll_le_f hc21) (oaloadN X16 hx hby d7_32 rfl rfl (st22 _ (ogoto (pc := 36) X22 hx hby d7_36 43 (by decide) (oastoreN X22 hx hby d7_43 (lc46 a1 a2 a6) rfl rfl (oaloadN X22 hx hby d7_44 rfl rfl (st25 _ (onlN X25 hx hby d7_48 (oaloadN X25 hx hby d7_51 rfl rfl (st28 _ (onlN X28 hx hby d7_55 (oaloadN X28 hx hby d7_58 rfl rfl (st29 _ (st30 _ (oaloadN X30 hx hby d7_65 rfl rfl (st35 _ (st36 _ (olcmp X36 hx hby d7_72 k)))))))))))))))))) ?_
  obtain ⟨T42, X42, e42, st42⟩ := getF X36 hx hZ hown (host := "") (Or.inl (ww hw 32 rfl)) Via.refl e36 F27 (g := (mkF m 77 (lc46 a1 a2 a6) [(.ref a2)])) rfl rfl (hb hby d7_77)
  obtain ⟨T43, h43, X43, e43, E43, A43, D43, -, st43⟩ := newO X42 hx hZ hown (ww hw 46 rfl) (ww hw 9 rfl) (ww hw 10 rfl) e42 (g := (mkF m 88 (lc58 a1 a2 a6 a26) [])) rfl (hb hby d7_88) (by decide) (by decide)
  obtain ⟨b43, g43⟩ : ∃ z, z = h0.size := ⟨_, rfl⟩
  rw [← g43] at A43 D43 st43
  have f44 : Fld Z h43 b43 zs8 "unit" zs1 .null := D43 (Or.inr (ww hw 29 rfl)) (ty := (.object zs0)) (by decide)
  have f45 : Fld Z h43 b43 zs8 "first" zs9 .null := D43 (Or.inr (ww hw 31 rfl)) (ty := (.object zs11)) (by decide)
  have f46 : Fld Z h43 b43 zs8 "last" zs9 .null := D43 (Or.inr (ww hw 33 rfl)) (ty := (.object zs11)) (by decide)
  have f47 : Fld Z h43 b43 zs8 "anchor" zs5 .null := D43 (Or.inr (ww hw 35 rfl)) (ty := (.object zs4)) (by decide)
  have f50 : Fld Z h43 a1 zs8 "unit" zs1 (.ref a48) := (Fld.ext E43 F49)
  obtain ⟨T51, X51, e51, st51⟩ := getF X43 hx hZ hown (host := "") (Or.inl (ww hw 28 rfl)) Via.refl e43 f50 (g := (mkF m 93 (lc58 a1 a2 a6 a26) [(.ref a1), (.ref b43), (.ref b43)])) rfl rfl (hb hby d7_93)
  have f55 : Sta Z h43 zs4 "MIDDLE" zs5 (.ref a53) := (Sta.ext E43 F54)
  have g56 : n0 ≤ b43 := Nat.le_trans Z0 (Nat.le_of_eq g43.symm)
  have Z_1 : n0 ≤ h43.size := Nat.le_trans Z0 E43.1
  obtain ⟨_, T52, L52, X52, hQ52, st52⟩ := ocallI X51 hx hZ zm5 rfl hown (ww hw 47 rfl) (ww hw 48 rfl) (by decide) (ww hw 49 rfl) (ww hw 10 rfl) e51 (rm8_32 l Z a0 hw [] b43 a48 a6 a26 a53 h43 n0 Z_1 f55 f44 f45 f46 f47 A43 g56) (st := [(.ref a26), (.ref a6), (.ref a48), (.ref b43), (.ref b43)]) rfl 1 rfl (by decide) (pc := 98) (Ls := (lc58 a1 a2 a6 a26)) hml rfl (lenOf pd_5 rfl) d7_98 hby
  obtain ⟨rfl, N52q, K52, f57, f58, f59, f60⟩ := hQ52
  have N61 := Fr.app N40 N52q
  refine own_go (U' := T52.setTop (mkF m 101 (lc58 a1 a2 a6 a26) [(.ref b43)])) (fun t k => oifN X36 hx hby d7_73 (own_ll_ge_f hc41) (oaloadN X36 hx hby d7_76 rfl rfl (st42 _ (ogoto (pc := 80) X42 hx hby d7_80 87 (by decide) (oastoreN X42 hx hby d7_87 (lc58 a1 a2 a6 a26) rfl rfl (st43 _ (odup X43 hx hby d7_91 rfl (oaloadN X43 hx hby d7_92 rfl rfl (st51 _ (oaloadN X51 hx hby d7_96 rfl rfl (oaloadN X51 hx hby d7_97 rfl rfl (st52 _ k)))))))))))) ?_
  have f62 : Exa Z T52.heap b43 zs8 := (A43.keep K52)
  obtain ⟨fs, hr, hrun, hended, hW, hsame⟩ := X52.leave (v := some (.ref b43)) (fun h => by rw [Bd.returns] at h; cases h)
  refine own_out ⟨_, _, ?_, hrun, hended, _, _, rfl, ?_, ⟨_, rfl⟩, hW, hsame.mono (by decide) (by decide)⟩
  · exact retOut X52 hx Bd.returns rfl (Or.inr (Or.inr (Or.inr (Or.inr ⟨rfl, rfl, rfl⟩)))) (hb hby d7_101) hr
  · show Q7_54 Z a1 a2 a3 a6 q12 q18 a23 a26 q32 q38 a48 a53 h0 n0 _ T52.heap _
    exact ⟨b43, rfl, N61, (Keep.trans ((Keep.refl h0 []).ext E43) K52 (allS (Or.inr (Nat.le_of_eq g43.symm)) all0)), (Nat.le_of_eq g43.symm), f62, f57, f58, f59, f60⟩
def Q7_55 (Z : State) (a1 a2 a3 a6 : Addr) (q12 q18 : Int64) (a23 a26 : Addr) (q32 q38 : Int64) (a48 a53 : Addr) (h0 : Heap) (n0 : Nat) (v : Option Value) (h : Heap) (L : List Loc) : Prop := ∃ b43 : Addr, v = some (.ref b43) ∧ Fr n0 L ∧ Keep h0 h [] ∧ h0.size ≤ b43 ∧ Exa Z h b43 zs8 ∧ Fld Z h b43 zs8 "unit" zs1 (.ref a48) ∧ Fld Z h b43 zs8 "first" zs9 (.ref a6) ∧ Fld Z h b43 zs8 "last" zs9 (.ref a23) ∧ Fld Z h b43 zs8 "anchor" zs5 (.ref a53)
set_option maxRecDepth 65536 in
set_option maxHeartbeats 40000000 in
theorem rm7_55 (l : Launch) (Z : State) (a0 : Array Value) (hw : ∀ d ∈ tables_1, d.before a0 Z = true) (ws : List Jvm.Cond) (a1 a2 a3 a6 : Addr) (q12 q18 : Int64) (a23 a26 : Addr) (q32 q38 : Int64) (a48 a53 : Addr) (h0 : Heap) (n0 : Nat) (Z0 : n0 ≤ h0.size) (F4 : Fld Z h0 a1 zs8 "first" zs9 (.ref a3)) (F7 : Fld Z h0 a2 zs8 "first" zs9 (.ref a6)) (F11 : Exa Z h0 a6 zs11) (F13 : Fld Z h0 a6 zs11 "value" "J" (.long q12)) (F17 : Exa Z h0 a3 zs11) (F19 : Fld Z h0 a3 zs11 "value" "J" (.long q18)) (hc21 : q18 < q12) (F24 : Fld Z h0 a1 zs8 "last" zs9 (.ref a23)) (F27 : Fld Z h0 a2 zs8 "last" zs9 (.ref a26)) (F31 : Exa Z h0 a26 zs11) (F33 : Fld Z h0 a26 zs11 "value" "J" (.long q32)) (F37 : Exa Z h0 a23 zs11) (F39 : Fld Z h0 a23 zs11 "value" "J" (.long q38)) (hc41 : ¬ (q32 < q38)) (F49 : Fld Z h0 a1 zs8 "unit" zs1 (.ref a48)) (F54 : Sta Z h0 zs4 "MIDDLE" zs5 (.ref a53)) :
    MetFree l zm6 (head1 (Jvm.Cond.code zm6 prog_3_method_17_code 4 (some (.object zs8)) :: ws) ({ frames := 4, cells := 1, slots := 4, locals := 56 } : Room)) (fun a U => a = #[(.ref a1), (.ref a2)] ∧ Z.Warmed39 U.vm ∧ U.heap = h0) (fun _ _ _ _ _ => True) (fun _ U o U' => ∃ v L, o = .returned v ∧ Q7_55 Z a1 a2 a3 a6 q12 q18 a23 a26 q32 q38 a48 a53 h0 n0 v U'.heap L ∧ FrameEnd U o U' L ({ frames := 4, cells := 1, slots := 4, locals := 56 } : Room).cells ({ frames := 4, cells := 1, slots := 4, locals := 56 } : Room).slots) := by
  refine MetFree.of_bodySF (plainFor_of_name pn_2) hisR ?_
  intro p e s m args below meth c s₁ Bd hml0 hP hK
  obtain ⟨rfl, hZ, hh⟩ := hP
  have hx := Bd.exec
  have hby := Bd.bytes
  have hml : c.maxLocals = 4 := hml0
  have hown : s.vm.findClass zs8 = some m.cls := findClass_of_methodNamed Bd.named
  have hnm := (name_of_methodNamed Bd.named Bd.method).1
  have X0 : Stand p l e ({ frames := 4, cells := 1, slots := 4, locals := 56 } : Room) s m #[(.ref a1), (.ref a2)] below meth c s₁ [] 0 0 := Stand.of_body Bd
  have e0 : s₁.heap = h0 := by rw [← hh, Bd.state]; rfl
  have N0 := Fr.nil n0
  refine own_pre (g' := mkF m 0 (lc18 a1 a2) []) (ef_4 m a1 a2) ?_
  obtain ⟨T5, X5, e5, st5⟩ := getF X0 hx hZ hown (host := "") (Or.inl (ww hw 30 rfl)) Via.refl e0 F4 (g := (mkF m 1 (lc18 a1 a2) [(.ref a1)])) rfl rfl (hb hby d7_1)
  obtain ⟨T8, X8, e8, st8⟩ := getF X5 hx hZ hown (host := "") (Or.inl (ww hw 30 rfl)) Via.refl e5 F7 (g := (mkF m 8 (lc18 a1 a2) [(.ref a2)])) rfl rfl (hb hby d7_8)
  obtain ⟨T9, X9, e9, st9⟩ := getF X8 hx hZ hown (host := "") (Or.inl (ww hw 30 rfl)) Via.refl e8 F7 (g := (mkF m 15 (lc18 a1 a2) [(.ref a2)])) rfl rfl (hb hby d7_15)
  obtain ⟨_, T10, L10, X10, hQ10, st10⟩ := ocallV X9 hx hZ zm12 zm12 hown (ww hw 89 rfl) (ww hw 90 rfl) (notFace_of_selects (args := #[]) (mvT hZ (ww hw 92 rfl))) (ww hw 92 rfl) (ww hw 91 rfl) (by decide) (ww hw 93 rfl) (ww hw 65 rfl) e9 F11 (rm14_36 l Z a0 hw [] a6 q12 h0 n0 Z0 F13) (st := [(.ref a6)]) rfl 0 rfl (by decide) (pc := 18) (Ls := (lc18 a1 a2)) hml rfl (lenOf pd_10 rfl) d7_18 hby
  obtain ⟨rfl, N10q, e10⟩ := hQ10
  have N14 := Fr.app N0 N10q
  obtain ⟨T15, X15, e15, st15⟩ := getF X10 hx hZ hown (host := "") (Or.inl (ww hw 30 rfl)) Via.refl e10 F4 (g := (mkF m 22 (lc18 a1 a2) [(.ref a1), (.long q12)])) rfl rfl (hb hby d7_22)
  obtain ⟨_, T16, L16, X16, hQ16, st16⟩ := ocallV X15 hx hZ zm12 zm12 hown (ww hw 89 rfl) (ww hw 90 rfl) (notFace_of_selects (args := #[]) (mvT hZ (ww hw 92 rfl))) (ww hw 92 rfl) (ww hw 91 rfl) (by decide) (ww hw 93 rfl) (ww hw 65 rfl) e15 F17 (rm14_36 l Z a0 hw [] a3 q18 h0 n0 Z0 F19) (st := [(.ref a3), (.long q12)]) rfl 2 rfl (by decide) (pc := 25) (Ls := (lc18 a1 a2)) hml rfl (lenOf pd_10 rfl) d7_25 hby
  obtain ⟨rfl, N16q, e16⟩ := hQ16
  have N20 := Fr.app N14 N16q
  refine own_go (U' := T16.setTop (mkF m 29 (lc18 a1 a2) [(.int (lcmpW q12 q18))])) (fun t k => oaloadN X0 hx hby d7_0 rfl rfl (st5 _ (onlN X5 hx hby d7_4 (oaloadN X5 hx hby d7_7 rfl rfl (st8 _ (onlN X8 hx hby d7_11 (oaloadN X8 hx hby d7_14 rfl rfl (st9 _ (st10 _ (oaloadN X10 hx hby d7_21 rfl rfl (st15 _ (st16 _ (olcmp X16 hx hby d7_28 k))))))))))))) ?_
  obtain ⟨T22, X22, e22, st22⟩ := getF X16 hx hZ hown (host := "") (Or.inl (ww hw 30 rfl)) Via.refl e16 F7 (g := (mkF m 33 (lc18 a1 a2) [(.ref a2)])) rfl rfl (hb hby d7_33)
  obtain ⟨T25, X25, e25, st25⟩ := getF X22 hx hZ hown (host := "") (Or.inl (ww hw 32 rfl)) Via.refl e22 F24 (g := (mkF m 45 (lc46 a1 a2 a6) [(.ref a1)])) rfl rfl (hb hby d7_45)
  obtain ⟨T28, X28, e28, st28⟩ := getF X25 hx hZ hown (host := "") (Or.inl (ww hw 32 rfl)) Via.refl e25 F27 (g := (mkF m 52 (lc46 a1 a2 a6) [(.ref a2)])) rfl rfl (hb hby d7_52)
  obtain ⟨T29, X29, e29, st29⟩ := getF X28 hx hZ hown (host := "") (Or.inl (ww hw 32 rfl)) Via.refl e28 F27 (g := (mkF m 59 (lc46 a1 a2 a6) [(.ref a2)])) rfl rfl (hb hby d7_59)
  obtain ⟨_, T30, L30, X30, hQ30, st30⟩ := ocallV X29 hx hZ zm12 zm12 hown (ww hw 89 rfl) (ww hw 90 rfl) (notFace_of_selects (args := #[]) (mvT hZ (ww hw 92 rfl))) (ww hw 92 rfl) (ww hw 91 rfl) (by decide) (ww hw 93 rfl) (ww hw 65 rfl) e29 F31 (rm14_36 l Z a0 hw [] a26 q32 h0 n0 Z0 F33) (st := [(.ref a26)]) rfl 0 rfl (by decide) (pc := 62) (Ls := (lc46 a1 a2 a6)) hml rfl (lenOf pd_10 rfl) d7_62 hby
  obtain ⟨rfl, N30q, e30⟩ := hQ30
  have N34 := Fr.app N20 N30q
  obtain ⟨T35, X35, e35, st35⟩ := getF X30 hx hZ hown (host := "") (Or.inl (ww hw 32 rfl)) Via.refl e30 F24 (g := (mkF m 66 (lc46 a1 a2 a6) [(.ref a1), (.long q32)])) rfl rfl (hb hby d7_66)
  obtain ⟨_, T36, L36, X36, hQ36, st36⟩ := ocallV X35 hx hZ zm12 zm12 hown (ww hw 89 rfl) (ww hw 90 rfl) (notFace_of_selects (args := #[]) (mvT hZ (ww hw 92 rfl))) (ww hw 92 rfl) (ww hw 91 rfl) (by decide) (ww hw 93 rfl) (ww hw 65 rfl) e35 F37 (rm14_36 l Z a0 hw [] a23 q38 h0 n0 Z0 F39) (st := [(.ref a23), (.long q32)]) rfl 2 rfl (by decide) (pc := 69) (Ls := (lc46 a1 a2 a6)) hml rfl (lenOf pd_10 rfl) d7_69 hby
  obtain ⟨rfl, N36q, e36⟩ := hQ36
  have N40 := Fr.app N34 N36q
  refine own_go (U' := T36.setTop (mkF m 73 (lc46 a1 a2 a6) [(.int (lcmpW q32 q38))])) (fun t k => oifN X16 hx hby d7_29 (own_ll_le_f hc21) (oaloadN X16 hx hby d7_32 rfl rfl (st22 _ (ogoto (pc := 36) X22 hx hby d7_36 43 (by decide) (oastoreN X22 hx hby d7_43 (lc46 a1 a2 a6) rfl rfl (oaloadN X22 hx hby d7_44 rfl rfl (st25 _ (onlN X25 hx hby d7_48 (oaloadN X25 hx hby d7_51 rfl rfl (st28 _ (onlN X28 hx hby d7_55 (oaloadN X28 hx hby d7_58 rfl rfl (st29 _ (st30 _ (oaloadN X30 hx hby d7_65 rfl rfl (st35 _ (st36 _ (olcmp X36 hx hby d7_72 k)))))))))))))))))) ?_
  obtain ⟨T42, X42, e42, st42⟩ := getF X36 hx hZ hown (host := "") (Or.inl (ww hw 32 rfl)) Via.refl e36 F24 (g := (mkF m 84 (lc46 a1 a2 a6) [(.ref a1)])) rfl rfl (hb hby d7_84)
  obtain ⟨T43, h43, X43, e43, E43, A43, D43, -, st43⟩ := newO X42 hx hZ hown (ww hw 46 rfl) (ww hw 9 rfl) (ww hw 10 rfl) e42 (g := (mkF m 88 (lc58 a1 a2 a6 a23) [])) rfl (hb hby d7_88) (by decide) (by decide)
  obtain ⟨b43, g43⟩ : ∃ z, z = h0.size := ⟨_, rfl⟩
  rw [← g43] at A43 D43 st43
  have f44 : Fld Z h43 b43 zs8 "unit" zs1 .null := D43 (Or.inr (ww hw 29 rfl)) (ty := (.object zs0)) (by decide)
  have f45 : Fld Z h43 b43 zs8 "first" zs9 .null := D43 (Or.inr (ww hw 31 rfl)) (ty := (.object zs11)) (by decide)
  have f46 : Fld Z h43 b43 zs8 "last" zs9 .null := D43 (Or.inr (ww hw 33 rfl)) (ty := (.object zs11)) (by decide)
  have f47 : Fld Z h43 b43 zs8 "anchor" zs5 .null := D43 (Or.inr (ww hw 35 rfl)) (ty := (.object zs4)) (by decide)
  have f50 : Fld Z h43 a1 zs8 "unit" zs1 (.ref a48) := (Fld.ext E43 F49)
  obtain ⟨T51, X51, e51, st51⟩ := getF X43 hx hZ hown (host := "") (Or.inl (ww hw 28 rfl)) Via.refl e43 f50 (g := (mkF m 93 (lc58 a1 a2 a6 a23) [(.ref a1), (.ref b43), (.ref b43)])) rfl rfl (hb hby d7_93)
  have f55 : Sta Z h43 zs4 "MIDDLE" zs5 (.ref a53) := (Sta.ext E43 F54)
  have g56 : n0 ≤ b43 := Nat.le_trans Z0 (Nat.le_of_eq g43.symm)
  have Z_1 : n0 ≤ h43.size := Nat.le_trans Z0 E43.1
  obtain ⟨_, T52, L52, X52, hQ52, st52⟩ := ocallI X51 hx hZ zm5 rfl hown (ww hw 47 rfl) (ww hw 48 rfl) (by decide) (ww hw 49 rfl) (ww hw 10 rfl) e51 (rm8_32 l Z a0 hw [] b43 a48 a6 a23 a53 h43 n0 Z_1 f55 f44 f45 f46 f47 A43 g56) (st := [(.ref a23), (.ref a6), (.ref a48), (.ref b43), (.ref b43)]) rfl 1 rfl (by decide) (pc := 98) (Ls := (lc58 a1 a2 a6 a23)) hml rfl (lenOf pd_5 rfl) d7_98 hby
  obtain ⟨rfl, N52q, K52, f57, f58, f59, f60⟩ := hQ52
  have N61 := Fr.app N40 N52q
  refine own_go (U' := T52.setTop (mkF m 101 (lc58 a1 a2 a6 a23) [(.ref b43)])) (fun t k => oifY (pc := 73) X36 hx hby d7_73 83 (own_ll_ge_t hc41) (by decide) (oaloadN X36 hx hby d7_83 rfl rfl (st42 _ (oastoreN X42 hx hby d7_87 (lc58 a1 a2 a6 a23) rfl rfl (st43 _ (odup X43 hx hby d7_91 rfl (oaloadN X43 hx hby d7_92 rfl rfl (st51 _ (oaloadN X51 hx hby d7_96 rfl rfl (oaloadN X51 hx hby d7_97 rfl rfl (st52 _ k))))))))))) ?_
  have f62 : Exa Z T52.heap b43 zs8 := (A43.keep K52)
  obtain ⟨fs, hr, hrun, hended, hW, hsame⟩ := X52.leave (v := some (.ref b43)) (fun h => by rw [Bd.returns] at h; cases h)
  refine own_out ⟨_, _, ?_, hrun, hended, _, _, rfl, ?_, ⟨_, rfl⟩, hW, hsame.mono (by decide) (by decide)⟩
  · exact retOut X52 hx Bd.returns rfl (Or.inr (Or.inr (Or.inr (Or.inr ⟨rfl, rfl, rfl⟩)))) (hb hby d7_101) hr
  · show Q7_55 Z a1 a2 a3 a6 q12 q18 a23 a26 q32 q38 a48 a53 h0 n0 _ T52.heap _
    exact ⟨b43, rfl, N61, (Keep.trans ((Keep.refl h0 []).ext E43) K52 (allS (Or.inr (Nat.le_of_eq g43.symm)) all0)), (Nat.le_of_eq g43.symm), f62, f57, f58, f59, f60⟩
def Q7_56 (Z : State) (a1 a2 a3 a6 : Addr) (q12 q18 : Int64) (a23 a26 : Addr) (q32 q38 : Int64) (a48 a53 : Addr) (h0 : Heap) (n0 : Nat) (v : Option Value) (h : Heap) (L : List Loc) : Prop := ∃ b43 : Addr, v = some (.ref b43) ∧ Fr n0 L ∧ Keep h0 h [] ∧ h0.size ≤ b43 ∧ Exa Z h b43 zs8 ∧ Fld Z h b43 zs8 "unit" zs1 (.ref a48) ∧ Fld Z h b43 zs8 "first" zs9 (.ref a3) ∧ Fld Z h b43 zs8 "last" zs9 (.ref a26) ∧ Fld Z h b43 zs8 "anchor" zs5 (.ref a53)
set_option maxRecDepth 65536 in
set_option maxHeartbeats 40000000 in
theorem rm7_56 (l : Launch) (Z : State) (a0 : Array Value) (hw : ∀ d ∈ tables_1, d.before a0 Z = true) (ws : List Jvm.Cond) (a1 a2 a3 a6 : Addr) (q12 q18 : Int64) (a23 a26 : Addr) (q32 q38 : Int64) (a48 a53 : Addr) (h0 : Heap) (n0 : Nat) (Z0 : n0 ≤ h0.size) (F4 : Fld Z h0 a1 zs8 "first" zs9 (.ref a3)) (F7 : Fld Z h0 a2 zs8 "first" zs9 (.ref a6)) (F11 : Exa Z h0 a6 zs11) (F13 : Fld Z h0 a6 zs11 "value" "J" (.long q12)) (F17 : Exa Z h0 a3 zs11) (F19 : Fld Z h0 a3 zs11 "value" "J" (.long q18)) (hc21 : ¬ (q18 < q12)) (F24 : Fld Z h0 a1 zs8 "last" zs9 (.ref a23)) (F27 : Fld Z h0 a2 zs8 "last" zs9 (.ref a26)) (F31 : Exa Z h0 a26 zs11) (F33 : Fld Z h0 a26 zs11 "value" "J" (.long q32)) (F37 : Exa Z h0 a23 zs11) (F39 : Fld Z h0 a23 zs11 "value" "J" (.long q38)) (hc41 : q32 < q38) (F49 : Fld Z h0 a1 zs8 "unit" zs1 (.ref a48)) (F54 : Sta Z h0 zs4 "MIDDLE" zs5 (.ref a53)) :
    MetFree l zm6 (head1 (Jvm.Cond.code zm6 prog_3_method_17_code 4 (some (.object zs8)) :: ws) ({ frames := 4, cells := 1, slots := 4, locals := 56 } : Room)) (fun a U => a = #[(.ref a1), (.ref a2)] ∧ Z.Warmed39 U.vm ∧ U.heap = h0) (fun _ _ _ _ _ => True) (fun _ U o U' => ∃ v L, o = .returned v ∧ Q7_56 Z a1 a2 a3 a6 q12 q18 a23 a26 q32 q38 a48 a53 h0 n0 v U'.heap L ∧ FrameEnd U o U' L ({ frames := 4, cells := 1, slots := 4, locals := 56 } : Room).cells ({ frames := 4, cells := 1, slots := 4, locals := 56 } : Room).slots) := by
  refine MetFree.of_bodySF (plainFor_of_name pn_2) hisR ?_
  intro p e s m args below meth c s₁ Bd hml0 hP hK
  obtain ⟨rfl, hZ, hh⟩ := hP
  have hx := Bd.exec
  have hby := Bd.bytes
  have hml : c.maxLocals = 4 := hml0
  have hown : s.vm.findClass zs8 = some m.cls := findClass_of_methodNamed Bd.named
  have hnm := (name_of_methodNamed Bd.named Bd.method).1
  have X0 : Stand p l e ({ frames := 4, cells := 1, slots := 4, locals := 56 } : Room) s m #[(.ref a1), (.ref a2)] below meth c s₁ [] 0 0 := Stand.of_body Bd
  have e0 : s₁.heap = h0 := by rw [← hh, Bd.state]; rfl
  have N0 := Fr.nil n0
  refine own_pre (g' := mkF m 0 (lc18 a1 a2) []) (ef_4 m a1 a2) ?_
  obtain ⟨T5, X5, e5, st5⟩ := getF X0 hx hZ hown (host := "") (Or.inl (ww hw 30 rfl)) Via.refl e0 F4 (g := (mkF m 1 (lc18 a1 a2) [(.ref a1)])) rfl rfl (hb hby d7_1)
  obtain ⟨T8, X8, e8, st8⟩ := getF X5 hx hZ hown (host := "") (Or.inl (ww hw 30 rfl)) Via.refl e5 F7 (g := (mkF m 8 (lc18 a1 a2) [(.ref a2)])) rfl rfl (hb hby d7_8)
  obtain ⟨T9, X9, e9, st9⟩ := getF X8 hx hZ hown (host := "") (Or.inl (ww hw 30 rfl)) Via.refl e8 F7 (g := (mkF m 15 (lc18 a1 a2) [(.ref a2)])) rfl rfl (hb hby d7_15)
  obtain ⟨_, T10, L10, X10, hQ10, st10⟩ := ocallV X9 hx hZ zm12 zm12 hown (ww hw 89 rfl) (ww hw 90 rfl) (notFace_of_selects (args := #[]) (mvT hZ (ww hw 92 rfl))) (ww hw 92 rfl) (ww hw 91 rfl) (by decide) (ww hw 93 rfl) (ww hw 65 rfl) e9 F11 (rm14_36 l Z a0 hw [] a6 q12 h0 n0 Z0 F13) (st := [(.ref a6)]) rfl 0 rfl (by decide) (pc := 18) (Ls := (lc18 a1 a2)) hml rfl (lenOf pd_10 rfl) d7_18 hby
  obtain ⟨rfl, N10q, e10⟩ := hQ10
  have N14 := Fr.app N0 N10q
  obtain ⟨T15, X15, e15, st15⟩ := getF X10 hx hZ hown (host := "") (Or.inl (ww hw 30 rfl)) Via.refl e10 F4 (g := (mkF m 22 (lc18 a1 a2) [(.ref a1), (.long q12)])) rfl rfl (hb hby d7_22)
  obtain ⟨_, T16, L16, X16, hQ16, st16⟩ := ocallV X15 hx hZ zm12 zm12 hown (ww hw 89 rfl) (ww hw 90 rfl) (notFace_of_selects (args := #[]) (mvT hZ (ww hw 92 rfl))) (ww hw 92 rfl) (ww hw 91 rfl) (by decide) (ww hw 93 rfl) (ww hw 65 rfl) e15 F17 (rm14_36 l Z a0 hw [] a3 q18 h0 n0 Z0 F19) (st := [(.ref a3), (.long q12)]) rfl 2 rfl (by decide) (pc := 25) (Ls := (lc18 a1 a2)) hml rfl (lenOf pd_10 rfl) d7_25 hby
  obtain ⟨rfl, N16q, e16⟩ := hQ16
  have N20 := Fr.app N14 N16q
  refine own_go (U' := T16.setTop (mkF m 29 (lc18 a1 a2) [(.int (lcmpW q12 q18))])) (fun t k => oaloadN X0 hx hby d7_0 rfl rfl (st5 _ (onlN X5 hx hby d7_4 (oaloadN X5 hx hby d7_7 rfl rfl (st8 _ (onlN X8 hx hby d7_11 (oaloadN X8 hx hby d7_14 rfl rfl (st9 _ (st10 _ (oaloadN X10 hx hby d7_21 rfl rfl (st15 _ (st16 _ (olcmp X16 hx hby d7_28 k))))))))))))) ?_
  obtain ⟨T22, X22, e22, st22⟩ := getF X16 hx hZ hown (host := "") (Or.inl (ww hw 30 rfl)) Via.refl e16 F4 (g := (mkF m 40 (lc18 a1 a2) [(.ref a1)])) rfl rfl (hb hby d7_40)
  obtain ⟨T25, X25, e25, st25⟩ := getF X22 hx hZ hown (host := "") (Or.inl (ww hw 32 rfl)) Via.refl e22 F24 (g := (mkF m 45 (lc46 a1 a2 a3) [(.ref a1)])) rfl rfl (hb hby d7_45)
  obtain ⟨T28, X28, e28, st28⟩ := getF X25 hx hZ hown (host := "") (Or.inl (ww hw 32 rfl)) Via.refl e25 F27 (g := (mkF m 52 (lc46 a1 a2 a3) [(.ref a2)])) rfl rfl (hb hby d7_52)
  obtain ⟨T29, X29, e29, st29⟩ := getF X28 hx hZ hown (host := "") (Or.inl (ww hw 32 rfl)) Via.refl e28 F27 (g := (mkF m 59 (lc46 a1 a2 a3) [(.ref a2)])) rfl rfl (hb hby d7_59)
  obtain ⟨_, T30, L30, X30, hQ30, st30⟩ := ocallV X29 hx hZ zm12 zm12 hown (ww hw 89 rfl) (ww hw 90 rfl) (notFace_of_selects (args := #[]) (mvT hZ (ww hw 92 rfl))) (ww hw 92 rfl) (ww hw 91 rfl) (by decide) (ww hw 93 rfl) (ww hw 65 rfl) e29 F31 (rm14_36 l Z a0 hw [] a26 q32 h0 n0 Z0 F33) (st := [(.ref a26)]) rfl 0 rfl (by decide) (pc := 62) (Ls := (lc46 a1 a2 a3)) hml rfl (lenOf pd_10 rfl) d7_62 hby
  obtain ⟨rfl, N30q, e30⟩ := hQ30
  have N34 := Fr.app N20 N30q
  obtain ⟨T35, X35, e35, st35⟩ := getF X30 hx hZ hown (host := "") (Or.inl (ww hw 32 rfl)) Via.refl e30 F24 (g := (mkF m 66 (lc46 a1 a2 a3) [(.ref a1), (.long q32)])) rfl rfl (hb hby d7_66)
  obtain ⟨_, T36, L36, X36, hQ36, st36⟩ := ocallV X35 hx hZ zm12 zm12 hown (ww hw 89 rfl) (ww hw 90 rfl) (notFace_of_selects (args := #[]) (mvT hZ (ww hw 92 rfl))) (ww hw 92 rfl) (ww hw 91 rfl) (by decide) (ww hw 93 rfl) (ww hw 65 rfl) e35 F37 (rm14_36 l Z a0 hw [] a23 q38 h0 n0 Z0 F39) (st := [(.ref a23), (.long q32)]) rfl 2 rfl (by decide) (pc := 69) (Ls := (lc46 a1 a2 a3)) hml rfl (lenOf pd_10 rfl) d7_69 hby
  obtain ⟨rfl, N36q, e36⟩ := hQ36
  have N40 := Fr.app N34 N36q
  refine own_go (U' := T36.setTop (mkF m 73 (lc46 a1 a2 a3) [(.int (lcmpW q32 q38))])) (fun t k => oifY (pc := 29) X16 hx hby d7_29 39 (own_ll_le_t hc21) (by decide) (oaloadN X16 hx hby d7_39 rfl rfl (st22 _ (oastoreN X22 hx hby d7_43 (lc46 a1 a2 a3) rfl rfl (oaloadN X22 hx hby d7_44 rfl rfl (st25 _ (onlN X25 hx hby d7_48 (oaloadN X25 hx hby d7_51 rfl rfl (st28 _ (onlN X28 hx hby d7_55 (oaloadN X28 hx hby d7_58 rfl rfl (st29 _ (st30 _ (oaloadN X30 hx hby d7_65 rfl rfl (st35 _ (st36 _ (olcmp X36 hx hby d7_72 k))))))))))))))))) ?_
  obtain ⟨T42, X42, e42, st42⟩ := getF X36 hx hZ hown (host := "") (Or.inl (ww hw 32 rfl)) Via.refl e36 F27 (g := (mkF m 77 (lc46 a1 a2 a3) [(.ref a2)])) rfl rfl (hb hby d7_77)
  obtain ⟨T43, h43, X43, e43, E43, A43, D43, -, st43⟩ := newO X42 hx hZ hown (ww hw 46 rfl) (ww hw 9 rfl) (ww hw 10 rfl) e42 (g := (mkF m 88 (lc58 a1 a2 a3 a26) [])) rfl (hb hby d7_88) (by decide) (by decide)
  obtain ⟨b43, g43⟩ : ∃ z, z = h0.size := ⟨_, rfl⟩
  rw [← g43] at A43 D43 st43
  have f44 : Fld Z h43 b43 zs8 "unit" zs1 .null := D43 (Or.inr (ww hw 29 rfl)) (ty := (.object zs0)) (by decide)
  have f45 : Fld Z h43 b43 zs8 "first" zs9 .null := D43 (Or.inr (ww hw 31 rfl)) (ty := (.object zs11)) (by decide)
  have f46 : Fld Z h43 b43 zs8 "last" zs9 .null := D43 (Or.inr (ww hw 33 rfl)) (ty := (.object zs11)) (by decide)
  have f47 : Fld Z h43 b43 zs8 "anchor" zs5 .null := D43 (Or.inr (ww hw 35 rfl)) (ty := (.object zs4)) (by decide)
  have f50 : Fld Z h43 a1 zs8 "unit" zs1 (.ref a48) := (Fld.ext E43 F49)
  obtain ⟨T51, X51, e51, st51⟩ := getF X43 hx hZ hown (host := "") (Or.inl (ww hw 28 rfl)) Via.refl e43 f50 (g := (mkF m 93 (lc58 a1 a2 a3 a26) [(.ref a1), (.ref b43), (.ref b43)])) rfl rfl (hb hby d7_93)
  have f55 : Sta Z h43 zs4 "MIDDLE" zs5 (.ref a53) := (Sta.ext E43 F54)
  have g56 : n0 ≤ b43 := Nat.le_trans Z0 (Nat.le_of_eq g43.symm)
  have Z_1 : n0 ≤ h43.size := Nat.le_trans Z0 E43.1
  obtain ⟨_, T52, L52, X52, hQ52, st52⟩ := ocallI X51 hx hZ zm5 rfl hown (ww hw 47 rfl) (ww hw 48 rfl) (by decide) (ww hw 49 rfl) (ww hw 10 rfl) e51 (rm8_32 l Z a0 hw [] b43 a48 a3 a26 a53 h43 n0 Z_1 f55 f44 f45 f46 f47 A43 g56) (st := [(.ref a26), (.ref a3), (.ref a48), (.ref b43), (.ref b43)]) rfl 1 rfl (by decide) (pc := 98) (Ls := (lc58 a1 a2 a3 a26)) hml rfl (lenOf pd_5 rfl) d7_98 hby
  obtain ⟨rfl, N52q, K52, f57, f58, f59, f60⟩ := hQ52
  have N61 := Fr.app N40 N52q
  refine own_go (U' := T52.setTop (mkF m 101 (lc58 a1 a2 a3 a26) [(.ref b43)])) (fun t k => oifN X36 hx hby d7_73 (own_ll_ge_f hc41) (oaloadN X36 hx hby d7_76 rfl rfl (st42 _ (ogoto (pc := 80) X42 hx hby d7_80 87 (by decide) (oastoreN X42 hx hby d7_87 (lc58 a1 a2 a3 a26) rfl rfl (st43 _ (odup X43 hx hby d7_91 rfl (oaloadN X43 hx hby d7_92 rfl rfl (st51 _ (oaloadN X51 hx hby d7_96 rfl rfl (oaloadN X51 hx hby d7_97 rfl rfl (st52 _ k)))))))))))) ?_
  have f62 : Exa Z T52.heap b43 zs8 := (A43.keep K52)
  obtain ⟨fs, hr, hrun, hended, hW, hsame⟩ := X52.leave (v := some (.ref b43)) (fun h => by rw [Bd.returns] at h; cases h)
  refine own_out ⟨_, _, ?_, hrun, hended, _, _, rfl, ?_, ⟨_, rfl⟩, hW, hsame.mono (by decide) (by decide)⟩
  · exact retOut X52 hx Bd.returns rfl (Or.inr (Or.inr (Or.inr (Or.inr ⟨rfl, rfl, rfl⟩)))) (hb hby d7_101) hr
  · show Q7_56 Z a1 a2 a3 a6 q12 q18 a23 a26 q32 q38 a48 a53 h0 n0 _ T52.heap _
    exact ⟨b43, rfl, N61, (Keep.trans ((Keep.refl h0 []).ext E43) K52 (allS (Or.inr (Nat.le_of_eq g43.symm)) all0)), (Nat.le_of_eq g43.symm), f62, f57, f58, f59, f60⟩
def Q7_57 (Z : State) (a1 a2 a3 a6 : Addr) (q12 q18 : Int64) (a23 a26 : Addr) (q32 q38 : Int64) (a48 a53 : Addr) (h0 : Heap) (n0 : Nat) (v : Option Value) (h : Heap) (L : List Loc) : Prop := ∃ b43 : Addr, v = some (.ref b43) ∧ Fr n0 L ∧ Keep h0 h [] ∧ h0.size ≤ b43 ∧ Exa Z h b43 zs8 ∧ Fld Z h b43 zs8 "unit" zs1 (.ref a48) ∧ Fld Z h b43 zs8 "first" zs9 (.ref a3) ∧ Fld Z h b43 zs8 "last" zs9 (.ref a23) ∧ Fld Z h b43 zs8 "anchor" zs5 (.ref a53)
set_option maxRecDepth 65536 in
set_option maxHeartbeats 40000000 in
theorem rm7_57 (l : Launch) (Z : State) (a0 : Array Value) (hw : ∀ d ∈ tables_1, d.before a0 Z = true) (ws : List Jvm.Cond) (a1 a2 a3 a6 : Addr) (q12 q18 : Int64) (a23 a26 : Addr) (q32 q38 : Int64) (a48 a53 : Addr) (h0 : Heap) (n0 : Nat) (Z0 : n0 ≤ h0.size) (F4 : Fld Z h0 a1 zs8 "first" zs9 (.ref a3)) (F7 : Fld Z h0 a2 zs8 "first" zs9 (.ref a6)) (F11 : Exa Z h0 a6 zs11) (F13 : Fld Z h0 a6 zs11 "value" "J" (.long q12)) (F17 : Exa Z h0 a3 zs11) (F19 : Fld Z h0 a3 zs11 "value" "J" (.long q18)) (hc21 : ¬ (q18 < q12)) (F24 : Fld Z h0 a1 zs8 "last" zs9 (.ref a23)) (F27 : Fld Z h0 a2 zs8 "last" zs9 (.ref a26)) (F31 : Exa Z h0 a26 zs11) (F33 : Fld Z h0 a26 zs11 "value" "J" (.long q32)) (F37 : Exa Z h0 a23 zs11) (F39 : Fld Z h0 a23 zs11 "value" "J" (.long q38)) (hc41 : ¬ (q32 < q38)) (F49 : Fld Z h0 a1 zs8 "unit" zs1 (.ref a48)) (F54 : Sta Z h0 zs4 "MIDDLE" zs5 (.ref a53)) :
    MetFree l zm6 (head1 (Jvm.Cond.code zm6 prog_3_method_17_code 4 (some (.object zs8)) :: ws) ({ frames := 4, cells := 1, slots := 4, locals := 56 } : Room)) (fun a U => a = #[(.ref a1), (.ref a2)] ∧ Z.Warmed39 U.vm ∧ U.heap = h0) (fun _ _ _ _ _ => True) (fun _ U o U' => ∃ v L, o = .returned v ∧ Q7_57 Z a1 a2 a3 a6 q12 q18 a23 a26 q32 q38 a48 a53 h0 n0 v U'.heap L ∧ FrameEnd U o U' L ({ frames := 4, cells := 1, slots := 4, locals := 56 } : Room).cells ({ frames := 4, cells := 1, slots := 4, locals := 56 } : Room).slots) := by
  refine MetFree.of_bodySF (plainFor_of_name pn_2) hisR ?_
  intro p e s m args below meth c s₁ Bd hml0 hP hK
  obtain ⟨rfl, hZ, hh⟩ := hP
  have hx := Bd.exec
  have hby := Bd.bytes
  have hml : c.maxLocals = 4 := hml0
  have hown : s.vm.findClass zs8 = some m.cls := findClass_of_methodNamed Bd.named
  have hnm := (name_of_methodNamed Bd.named Bd.method).1
  have X0 : Stand p l e ({ frames := 4, cells := 1, slots := 4, locals := 56 } : Room) s m #[(.ref a1), (.ref a2)] below meth c s₁ [] 0 0 := Stand.of_body Bd
  have e0 : s₁.heap = h0 := by rw [← hh, Bd.state]; rfl
  have N0 := Fr.nil n0
  refine own_pre (g' := mkF m 0 (lc18 a1 a2) []) (ef_4 m a1 a2) ?_
  obtain ⟨T5, X5, e5, st5⟩ := getF X0 hx hZ hown (host := "") (Or.inl (ww hw 30 rfl)) Via.refl e0 F4 (g := (mkF m 1 (lc18 a1 a2) [(.ref a1)])) rfl rfl (hb hby d7_1)
  obtain ⟨T8, X8, e8, st8⟩ := getF X5 hx hZ hown (host := "") (Or.inl (ww hw 30 rfl)) Via.refl e5 F7 (g := (mkF m 8 (lc18 a1 a2) [(.ref a2)])) rfl rfl (hb hby d7_8)
  obtain ⟨T9, X9, e9, st9⟩ := getF X8 hx hZ hown (host := "") (Or.inl (ww hw 30 rfl)) Via.refl e8 F7 (g := (mkF m 15 (lc18 a1 a2) [(.ref a2)])) rfl rfl (hb hby d7_15)
  obtain ⟨_, T10, L10, X10, hQ10, st10⟩ := ocallV X9 hx hZ zm12 zm12 hown (ww hw 89 rfl) (ww hw 90 rfl) (notFace_of_selects (args := #[]) (mvT hZ (ww hw 92 rfl))) (ww hw 92 rfl) (ww hw 91 rfl) (by decide) (ww hw 93 rfl) (ww hw 65 rfl) e9 F11 (rm14_36 l Z a0 hw [] a6 q12 h0 n0 Z0 F13) (st := [(.ref a6)]) rfl 0 rfl (by decide) (pc := 18) (Ls := (lc18 a1 a2)) hml rfl (lenOf pd_10 rfl) d7_18 hby
  obtain ⟨rfl, N10q, e10⟩ := hQ10
  have N14 := Fr.app N0 N10q
  obtain ⟨T15, X15, e15, st15⟩ := getF X10 hx hZ hown (host := "") (Or.inl (ww hw 30 rfl)) Via.refl e10 F4 (g := (mkF m 22 (lc18 a1 a2) [(.ref a1), (.long q12)])) rfl rfl (hb hby d7_22)
  obtain ⟨_, T16, L16, X16, hQ16, st16⟩ := ocallV X15 hx hZ zm12 zm12 hown (ww hw 89 rfl) (ww hw 90 rfl) (notFace_of_selects (args := #[]) (mvT hZ (ww hw 92 rfl))) (ww hw 92 rfl) (ww hw 91 rfl) (by decide) (ww hw 93 rfl) (ww hw 65 rfl) e15 F17 (rm14_36 l Z a0 hw [] a3 q18 h0 n0 Z0 F19) (st := [(.ref a3), (.long q12)]) rfl 2 rfl (by decide) (pc := 25) (Ls := (lc18 a1 a2)) hml rfl (lenOf pd_10 rfl) d7_25 hby
  obtain ⟨rfl, N16q, e16⟩ := hQ16
  have N20 := Fr.app N14 N16q
  refine own_go (U' := T16.setTop (mkF m 29 (lc18 a1 a2) [(.int (lcmpW q12 q18))])) (fun t k => oaloadN X0 hx hby d7_0 rfl rfl (st5 _ (onlN X5 hx hby d7_4 (oaloadN X5 hx hby d7_7 rfl rfl (st8 _ (onlN X8 hx hby d7_11 (oaloadN X8 hx hby d7_14 rfl rfl (st9 _ (st10 _ (oaloadN X10 hx hby d7_21 rfl rfl (st15 _ (st16 _ (olcmp X16 hx hby d7_28 k))))))))))))) ?_
  obtain ⟨T22, X22, e22, st22⟩ := getF X16 hx hZ hown (host := "") (Or.inl (ww hw 30 rfl)) Via.refl e16 F4 (g := (mkF m 40 (lc18 a1 a2) [(.ref a1)])) rfl rfl (hb hby d7_40)
  obtain ⟨T25, X25, e25, st25⟩ := getF X22 hx hZ hown (host := "") (Or.inl (ww hw 32 rfl)) Via.refl e22 F24 (g := (mkF m 45 (lc46 a1 a2 a3) [(.ref a1)])) rfl rfl (hb hby d7_45)
  obtain ⟨T28, X28, e28, st28⟩ := getF X25 hx hZ hown (host := "") (Or.inl (ww hw 32 rfl)) Via.refl e25 F27 (g := (mkF m 52 (lc46 a1 a2 a3) [(.ref a2)])) rfl rfl (hb hby d7_52)
  obtain ⟨T29, X29, e29, st29⟩ := getF X28 hx hZ hown (host := "") (Or.inl (ww hw 32 rfl)) Via.refl e28 F27 (g := (mkF m 59 (lc46 a1 a2 a3) [(.ref a2)])) rfl rfl (hb hby d7_59)
  obtain ⟨_, T30, L30, X30, hQ30, st30⟩ := ocallV X29 hx hZ zm12 zm12 hown (ww hw 89 rfl) (ww hw 90 rfl) (notFace_of_selects (args := #[]) (mvT hZ (ww hw 92 rfl))) (ww hw 92 rfl) (ww hw 91 rfl) (by decide) (ww hw 93 rfl) (ww hw 65 rfl) e29 F31 (rm14_36 l Z a0 hw [] a26 q32 h0 n0 Z0 F33) (st := [(.ref a26)]) rfl 0 rfl (by decide) (pc := 62) (Ls := (lc46 a1 a2 a3)) hml rfl (lenOf pd_10 rfl) d7_62 hby
  obtain ⟨rfl, N30q, e30⟩ := hQ30
  have N34 := Fr.app N20 N30q
  obtain ⟨T35, X35, e35, st35⟩ := getF X30 hx hZ hown (host := "") (Or.inl (ww hw 32 rfl)) Via.refl e30 F24 (g := (mkF m 66 (lc46 a1 a2 a3) [(.ref a1), (.long q32)])) rfl rfl (hb hby d7_66)
  obtain ⟨_, T36, L36, X36, hQ36, st36⟩ := ocallV X35 hx hZ zm12 zm12 hown (ww hw 89 rfl) (ww hw 90 rfl) (notFace_of_selects (args := #[]) (mvT hZ (ww hw 92 rfl))) (ww hw 92 rfl) (ww hw 91 rfl) (by decide) (ww hw 93 rfl) (ww hw 65 rfl) e35 F37 (rm14_36 l Z a0 hw [] a23 q38 h0 n0 Z0 F39) (st := [(.ref a23), (.long q32)]) rfl 2 rfl (by decide) (pc := 69) (Ls := (lc46 a1 a2 a3)) hml rfl (lenOf pd_10 rfl) d7_69 hby
  obtain ⟨rfl, N36q, e36⟩ := hQ36
  have N40 := Fr.app N34 N36q
  refine own_go (U' := T36.setTop (mkF m 73 (lc46 a1 a2 a3) [(.int (lcmpW q32 q38))])) (fun t k => oifY (pc := 29) X16 hx hby d7_29 39 (own_ll_le_t hc21) (by decide) (oaloadN X16 hx hby d7_39 rfl rfl (st22 _ (oastoreN X22 hx hby d7_43 (lc46 a1 a2 a3) rfl rfl (oaloadN X22 hx hby d7_44 rfl rfl (st25 _ (onlN X25 hx hby d7_48 (oaloadN X25 hx hby d7_51 rfl rfl (st28 _ (onlN X28 hx hby d7_55 (oaloadN X28 hx hby d7_58 rfl rfl (st29 _ (st30 _ (oaloadN X30 hx hby d7_65 rfl rfl (st35 _ (st36 _ (olcmp X36 hx hby d7_72 k))))))))))))))))) ?_
  obtain ⟨T42, X42, e42, st42⟩ := getF X36 hx hZ hown (host := "") (Or.inl (ww hw 32 rfl)) Via.refl e36 F24 (g := (mkF m 84 (lc46 a1 a2 a3) [(.ref a1)])) rfl rfl (hb hby d7_84)
  obtain ⟨T43, h43, X43, e43, E43, A43, D43, -, st43⟩ := newO X42 hx hZ hown (ww hw 46 rfl) (ww hw 9 rfl) (ww hw 10 rfl) e42 (g := (mkF m 88 (lc58 a1 a2 a3 a23) [])) rfl (hb hby d7_88) (by decide) (by decide)
  obtain ⟨b43, g43⟩ : ∃ z, z = h0.size := ⟨_, rfl⟩
  rw [← g43] at A43 D43 st43
  have f44 : Fld Z h43 b43 zs8 "unit" zs1 .null := D43 (Or.inr (ww hw 29 rfl)) (ty := (.object zs0)) (by decide)
  have f45 : Fld Z h43 b43 zs8 "first" zs9 .null := D43 (Or.inr (ww hw 31 rfl)) (ty := (.object zs11)) (by decide)
  have f46 : Fld Z h43 b43 zs8 "last" zs9 .null := D43 (Or.inr (ww hw 33 rfl)) (ty := (.object zs11)) (by decide)
  have f47 : Fld Z h43 b43 zs8 "anchor" zs5 .null := D43 (Or.inr (ww hw 35 rfl)) (ty := (.object zs4)) (by decide)
  have f50 : Fld Z h43 a1 zs8 "unit" zs1 (.ref a48) := (Fld.ext E43 F49)
  obtain ⟨T51, X51, e51, st51⟩ := getF X43 hx hZ hown (host := "") (Or.inl (ww hw 28 rfl)) Via.refl e43 f50 (g := (mkF m 93 (lc58 a1 a2 a3 a23) [(.ref a1), (.ref b43), (.ref b43)])) rfl rfl (hb hby d7_93)
  have f55 : Sta Z h43 zs4 "MIDDLE" zs5 (.ref a53) := (Sta.ext E43 F54)
  have g56 : n0 ≤ b43 := Nat.le_trans Z0 (Nat.le_of_eq g43.symm)
  have Z_1 : n0 ≤ h43.size := Nat.le_trans Z0 E43.1
  obtain ⟨_, T52, L52, X52, hQ52, st52⟩ := ocallI X51 hx hZ zm5 rfl hown (ww hw 47 rfl) (ww hw 48 rfl) (by decide) (ww hw 49 rfl) (ww hw 10 rfl) e51 (rm8_32 l Z a0 hw [] b43 a48 a3 a23 a53 h43 n0 Z_1 f55 f44 f45 f46 f47 A43 g56) (st := [(.ref a23), (.ref a3), (.ref a48), (.ref b43), (.ref b43)]) rfl 1 rfl (by decide) (pc := 98) (Ls := (lc58 a1 a2 a3 a23)) hml rfl (lenOf pd_5 rfl) d7_98 hby
  obtain ⟨rfl, N52q, K52, f57, f58, f59, f60⟩ := hQ52
  have N61 := Fr.app N40 N52q
  refine own_go (U' := T52.setTop (mkF m 101 (lc58 a1 a2 a3 a23) [(.ref b43)])) (fun t k => oifY (pc := 73) X36 hx hby d7_73 83 (own_ll_ge_t hc41) (by decide) (oaloadN X36 hx hby d7_83 rfl rfl (st42 _ (oastoreN X42 hx hby d7_87 (lc58 a1 a2 a3 a23) rfl rfl (st43 _ (odup X43 hx hby d7_91 rfl (oaloadN X43 hx hby d7_92 rfl rfl (st51 _ (oaloadN X51 hx hby d7_96 rfl rfl (oaloadN X51 hx hby d7_97 rfl rfl (st52 _ k))))))))))) ?_
  have f62 : Exa Z T52.heap b43 zs8 := (A43.keep K52)
  obtain ⟨fs, hr, hrun, hended, hW, hsame⟩ := X52.leave (v := some (.ref b43)) (fun h => by rw [Bd.returns] at h; cases h)
  refine own_out ⟨_, _, ?_, hrun, hended, _, _, rfl, ?_, ⟨_, rfl⟩, hW, hsame.mono (by decide) (by decide)⟩
  · exact retOut X52 hx Bd.returns rfl (Or.inr (Or.inr (Or.inr (Or.inr ⟨rfl, rfl, rfl⟩)))) (hb hby d7_101) hr
  · show Q7_57 Z a1 a2 a3 a6 q12 q18 a23 a26 q32 q38 a48 a53 h0 n0 _ T52.heap _
    exact ⟨b43, rfl, N61, (Keep.trans ((Keep.refl h0 []).ext E43) K52 (allS (Or.inr (Nat.le_of_eq g43.symm)) all0)), (Nat.le_of_eq g43.symm), f62, f57, f58, f59, f60⟩
set_option maxRecDepth 65536 in
set_option maxHeartbeats 40000000 in
theorem law_all (l : Launch) (Z : State) (a0 : Array Value) (hw : ∀ d ∈ tables_1, d.before a0 Z = true) (ws : List Jvm.Cond) (i0 i1 : Int32) (i2 i3 i4 i5 : Int64) (w0 w1 w2 w3 w4 w5 w6 w7 w8 : Addr) (h0 : Heap) (n0 : Nat) (Z0 : n0 ≤ h0.size) (S0 : Sta Z h0 "com/example/time_aware_ranking/timeawareranking/CalendarUnit" "DECADE" "Lcom/example/time_aware_ranking/timeawareranking/CalendarUnit;" (.ref w0)) (S1 : Exa Z h0 w0 "com/example/time_aware_ranking/timeawareranking/CalendarUnit") (S2 : Sta Z h0 "com/example/time_aware_ranking/timeawareranking/CalendarInterval$Anchor" "FIRST" "Lcom/example/time_aware_ranking/timeawareranking/CalendarInterval$Anchor;" (.ref w1)) (S3 : Exa Z h0 w1 "com/example/time_aware_ranking/timeawareranking/CalendarInterval$Anchor") (S4 : Sta Z h0 "com/example/time_aware_ranking/timeawareranking/CalendarInterval$Anchor" "MIDDLE" "Lcom/example/time_aware_ranking/timeawareranking/CalendarInterval$Anchor;" (.ref w2)) (S5 : Exa Z h0 w2 "com/example/time_aware_ranking/timeawareranking/CalendarInterval$Anchor") (S6 : Sta Z h0 "com/example/time_aware_ranking/timeawareranking/CalendarUnit" "DAY" "Lcom/example/time_aware_ranking/timeawareranking/CalendarUnit;" (.ref w3)) (S7 : Exa Z h0 w3 "com/example/time_aware_ranking/timeawareranking/CalendarUnit") (S8 : Sta Z h0 "com/example/time_aware_ranking/timeawareranking/CalendarInterval$Anchor" "LAST" "Lcom/example/time_aware_ranking/timeawareranking/CalendarInterval$Anchor;" (.ref w4)) (S9 : Exa Z h0 w4 "com/example/time_aware_ranking/timeawareranking/CalendarInterval$Anchor") (S10 : Sta Z h0 "com/example/time_aware_ranking/timeawareranking/CalendarUnit" "CENTURY" "Lcom/example/time_aware_ranking/timeawareranking/CalendarUnit;" (.ref w5)) (S11 : Exa Z h0 w5 "com/example/time_aware_ranking/timeawareranking/CalendarUnit") (S12 : Sta Z h0 "com/example/time_aware_ranking/timeawareranking/CalendarUnit" "YEAR" "Lcom/example/time_aware_ranking/timeawareranking/CalendarUnit;" (.ref w6)) (S13 : Exa Z h0 w6 "com/example/time_aware_ranking/timeawareranking/CalendarUnit") (S14 : Sta Z h0 "com/example/time_aware_ranking/timeawareranking/CalendarUnit" "MONTH" "Lcom/example/time_aware_ranking/timeawareranking/CalendarUnit;" (.ref w7)) (S15 : Exa Z h0 w7 "com/example/time_aware_ranking/timeawareranking/CalendarUnit") (S16 : Sta Z h0 "java/lang/Long$LongCache" "cache" "[Ljava/lang/Long;" (.ref w8)) (S17 : Exa Z h0 w8 "[Ljava/lang/Long;") (S18 : own_LC Z h0 w8 n0) :
    MetFree l x (head1 (Jvm.Cond.code x code maxLocals ret :: ws) room_1) (fun a U => a = #[(.int i0), (.int i1), (.long i2), (.long i3), (.long i4), (.long i5)] ∧ Z.Warmed39 U.vm ∧ U.heap = h0) (fun _ _ _ _ _ => True) (fun _ U o U' => ∃ v L, o = .returned v ∧ QLaw n0 v U'.heap L ∧ FrameEnd U o U' L room_1.cells room_1.slots) := by
  refine MetFree.of_bodySF (plainFor_of_name pn_0) hisR ?_
  intro p e s m args below meth c s₁ Bd hml0 hP hK
  obtain ⟨rfl, hZ, hh⟩ := hP
  have hx := Bd.exec
  have hby := Bd.bytes
  have hml : c.maxLocals = 26 := hml0
  have hown : s.vm.findClass zs2 = some m.cls := findClass_of_methodNamed Bd.named
  have hnm := (name_of_methodNamed Bd.named Bd.method).1
  have X0 : Stand p l e room_1 s m #[(.int i0), (.int i1), (.long i2), (.long i3), (.long i4), (.long i5)] below meth c s₁ [] 0 0 := Stand.of_body Bd
  have e0 : s₁.heap = h0 := by rw [← hh, Bd.state]; rfl
  have N0 := Fr.nil n0
  refine own_pre (g' := mkF m 0 (lc0 i0 i1 i2 i3 i4 i5) []) (ef_5 m i0 i1 i2 i3 i4 i5) ?_
  refine own_go (U' := s₁.setTop (mkF m 3 (lc0 i0 i1 i2 i3 i4 i5) [(.int (i0 &&& (1 : Int32)))])) (fun t k => oiloadN X0 hx hby at_0 rfl (oiconst X0 hx hby at_1 (oiand X0 hx hby at_2 k))) ?_
  rcases own_s2 i0 with hk1 | hk1
  · have hv0 : (i0 &&& (1 : Int32)) = (0 : Int32) := hk1
    rw [hv0]
    refine own_go (U' := s₁.setTop (mkF m 16 (lc1 i0 i1 i2 i3 i4 i5 0) [(.int (i0 &&& (2 : Int32)))])) (fun t k => oifY (pc := 3) X0 hx hby at_3 10 (by decide) (by decide) (oiconst X0 hx hby at_10 (oistore X0 hx hby at_11 (lc1 i0 i1 i2 i3 i4 i5 0) rfl (oiloadN X0 hx hby at_13 rfl (oiconst X0 hx hby at_14 (oiand X0 hx hby at_15 k)))))) ?_
    by_cases hk2 : (i0 &&& (2 : Int32)) = (0 : Int32)
    · have hc1 : (i0 &&& (2 : Int32)) = (0 : Int32) := hk2
      refine own_go (U' := s₁.setTop (mkF m 29 (lc2 i0 i1 i2 i3 i4 i5 0 0) [(.int (i0 &&& (4 : Int32)))])) (fun t k => oifY (pc := 16) X0 hx hby at_16 23 ((if0 _ _).trans (teq hc1).1) (by decide) (oiconst X0 hx hby at_23 (oistore X0 hx hby at_24 (lc2 i0 i1 i2 i3 i4 i5 0 0) rfl (oiloadN X0 hx hby at_26 rfl (oiconst X0 hx hby at_27 (oiand X0 hx hby at_28 k)))))) ?_
      by_cases hk3 : (i0 &&& (4 : Int32)) = (0 : Int32)
      · have hc2 : (i0 &&& (4 : Int32)) = (0 : Int32) := hk3
        refine own_go (U' := s₁.setTop (mkF m 43 (lc3 i0 i1 i2 i3 i4 i5 0 0 0) [(.int (i0 &&& (8 : Int32)))])) (fun t k => oifY (pc := 29) X0 hx hby at_29 36 ((if0 _ _).trans (teq hc2).1) (by decide) (oiconst X0 hx hby at_36 (oistore X0 hx hby at_37 (lc3 i0 i1 i2 i3 i4 i5 0 0 0) rfl (oiloadN X0 hx hby at_39 rfl (obipush X0 hx hby at_40 (oiand X0 hx hby at_42 k)))))) ?_
        by_cases hk4 : (i0 &&& (8 : Int32)) = (0 : Int32)
        · have hc3 : (i0 &&& (8 : Int32)) = (0 : Int32) := hk4
          refine own_go (U' := s₁.setTop (mkF m 55 (lc4 i0 i1 i2 i3 i4 i5 0 0 0 0) [(.int 0)])) (fun t k => oifY (pc := 43) X0 hx hby at_43 50 ((if0 _ _).trans (teq hc3).1) (by decide) (oiconst X0 hx hby at_50 (oistore X0 hx hby at_51 (lc4 i0 i1 i2 i3 i4 i5 0 0 0 0) rfl (oiload X0 hx hby at_53 rfl k)))) ?_
          refine own_go (U' := s₁.setTop (mkF m 70 (lc5 i0 i1 i2 i3 i4 i5 0 0 0 0) [(.int 0)])) (fun t k => oifY (pc := 55) X0 hx hby at_55 65 (by decide) (by decide) (onull X0 hx hby at_65 (oastore X0 hx hby at_66 (lc5 i0 i1 i2 i3 i4 i5 0 0 0 0) rfl rfl (oiload X0 hx hby at_68 rfl k)))) ?_
          refine own_go (U' := s₁.setTop (mkF m 86 (lc6 i0 i1 i2 i3 i4 i5 0 0 0 0) [(.int 0)])) (fun t k => oifY (pc := 70) X0 hx hby at_70 81 (by decide) (by decide) (onull X0 hx hby at_81 (oastore X0 hx hby at_82 (lc6 i0 i1 i2 i3 i4 i5 0 0 0 0) rfl rfl (oiload X0 hx hby at_84 rfl k)))) ?_
          refine own_go (U' := s₁.setTop (mkF m 102 (lc7 i0 i1 i2 i3 i4 i5 0 0 0 0) [(.int 0)])) (fun t k => oifY (pc := 86) X0 hx hby at_86 97 (by decide) (by decide) (onull X0 hx hby at_97 (oastore X0 hx hby at_98 (lc7 i0 i1 i2 i3 i4 i5 0 0 0 0) rfl rfl (oiload X0 hx hby at_100 rfl k)))) ?_
          obtain ⟨_, Tr1, Lr1, Xr1, hQr1, str1⟩ := ocallS X0 hx hZ zm0 hown (ww hw 0 rfl) (ww hw 1 rfl) (by decide) (ww hw 3 rfl) (ww hw 2 rfl) e0 (mg1_5 l Z a0 hw [] i1 w3 w7 w6 w0 w5 h0 n0 Z0 S6 S14 S12 S0 S10) (st := [(.int i1)]) rfl 0 rfl (by decide) (pc := 117) (Ls := (lc8 i0 i1 i2 i3 i4 i5 0 0 0 0)) hml rfl (lenOf pd_0 rfl) at_117 hby
          obtain ⟨rfl, Nr1q, er1⟩ := hQr1
          refine own_go (U' := Tr1.setTop (mkF m 120 (lc8 i0 i1 i2 i3 i4 i5 0 0 0 0) [(.ref (own_unit ((i1 &&& (2147483647 : Int32)) % (5 : Int32)) w3 w7 w6 w0 w5))])) (fun t k => oifY (pc := 102) X0 hx hby at_102 113 (by decide) (by decide) (onull X0 hx hby at_113 (oastore X0 hx hby at_114 (lc8 i0 i1 i2 i3 i4 i5 0 0 0 0) rfl rfl (oiloadN X0 hx hby at_116 rfl (str1 _ k))))) ?_
          obtain ⟨u1, hu1⟩ : ∃ z, z = (own_unit ((i1 &&& (2147483647 : Int32)) % (5 : Int32)) w3 w7 w6 w0 w5) := ⟨_, rfl⟩
          rw [← hu1]
          have N1 := Fr.app N0 Nr1q
          obtain ⟨Tr2, hr2, Xr2, er2, Er2, Ar2, Dr2, -, str2⟩ := newO Xr1 hx hZ hown (ww hw 8 rfl) (ww hw 9 rfl) (ww hw 10 rfl) er1 (g := (mkF m 122 (lc11 i0 i1 i2 i3 i4 i5 0 0 0 0 u1) [])) rfl (hb hby at_122) (by decide) (by decide)
          obtain ⟨br2, gr2⟩ : ∃ z, z = h0.size := ⟨_, rfl⟩
          rw [← gr2] at Ar2 Dr2 str2
          have f1 : Fld Z hr2 br2 zs8 "unit" zs1 .null := Dr2 (Or.inr (ww hw 29 rfl)) (ty := (.object zs0)) (by decide)
          have f2 : Fld Z hr2 br2 zs8 "first" zs9 .null := Dr2 (Or.inr (ww hw 31 rfl)) (ty := (.object zs11)) (by decide)
          have f3 : Fld Z hr2 br2 zs8 "last" zs9 .null := Dr2 (Or.inr (ww hw 33 rfl)) (ty := (.object zs11)) (by decide)
          have f4 : Fld Z hr2 br2 zs8 "anchor" zs5 .null := Dr2 (Or.inr (ww hw 35 rfl)) (ty := (.object zs4)) (by decide)
          have f5 : Sta Z hr2 zs4 "FIRST" zs5 (.ref w1) := (Sta.ext Er2 S2)
          have f6 : Sta Z hr2 zs4 "MIDDLE" zs5 (.ref w2) := (Sta.ext Er2 S4)
          have f7 : Sta Z hr2 zs4 "LAST" zs5 (.ref w4) := (Sta.ext Er2 S8)
          have Z_1 : n0 ≤ hr2.size := Nat.le_trans Z0 Er2.1
          obtain ⟨_, Tr3, Lr3, Xr3, hQr3, str3⟩ := ocallS Xr2 hx hZ zm1 hown (ww hw 11 rfl) (ww hw 12 rfl) (by decide) (ww hw 13 rfl) (ww hw 2 rfl) er2 (mg2_9 l Z a0 hw [] ((i0.toUInt32 >>> ((4 : Int32) &&& 31).toUInt32).toInt32) w1 w2 w4 hr2 n0 Z_1 f5 f6 f7) (st := [(.int ((i0.toUInt32 >>> ((4 : Int32) &&& 31).toUInt32).toInt32)), .null, .null, (.ref u1), (.ref br2), (.ref br2)]) rfl 5 rfl (by decide) (pc := 135) (Ls := (lc11 i0 i1 i2 i3 i4 i5 0 0 0 0 u1)) hml rfl (lenOf pd_1 rfl) at_135 hby
          obtain ⟨rfl, Nr3q, er3⟩ := hQr3
          refine own_go (U' := Tr3.setTop (mkF m 138 (lc11 i0 i1 i2 i3 i4 i5 0 0 0 0 u1) [(.ref (own_anch (((i0.toUInt32 >>> ((4 : Int32) &&& 31).toUInt32).toInt32) &&& (3 : Int32)) w1 w2 w4)), .null, .null, (.ref u1), (.ref br2), (.ref br2)])) (fun t k => oastore Xr1 hx hby at_120 (lc11 i0 i1 i2 i3 i4 i5 0 0 0 0 u1) rfl rfl (str2 _ (odup Xr2 hx hby at_125 rfl (oaload Xr2 hx hby at_126 rfl rfl (oaload Xr2 hx hby at_128 rfl rfl (oaload Xr2 hx hby at_130 rfl rfl (oiloadN Xr2 hx hby at_132 rfl (oiconst Xr2 hx hby at_133 (oiushr Xr2 hx hby at_134 (str3 _ k)))))))))) ?_
          obtain ⟨u2, hu2⟩ : ∃ z, z = (own_anch (((i0.toUInt32 >>> ((4 : Int32) &&& 31).toUInt32).toInt32) &&& (3 : Int32)) w1 w2 w4) := ⟨_, rfl⟩
          rw [← hu2]
          have N2 := Fr.app N1 Nr3q
          have g1 : n0 ≤ br2 := Nat.le_trans Z0 (Nat.le_of_eq gr2.symm)
          obtain ⟨_, Tr4, Lr4, Xr4, hQr4, str4⟩ := ocallI Xr3 hx hZ zm3 rfl hown (ww hw 17 rfl) (ww hw 18 rfl) (by decide) (ww hw 19 rfl) (ww hw 10 rfl) er3 (rm3_11 l Z a0 hw [] br2 u1 u2 hr2 n0 Z_1 f1 f2 f3 f4 Ar2 g1) (st := [(.ref u2), .null, .null, (.ref u1), (.ref br2), (.ref br2)]) rfl 1 rfl (by decide) (pc := 138) (Ls := (lc11 i0 i1 i2 i3 i4 i5 0 0 0 0 u1)) hml rfl (lenOf pd_3 rfl) at_138 hby
          obtain ⟨rfl, Nr4q, Kr4, f8, f9, f10, f11⟩ := hQr4
          have N3 := Fr.app N2 Nr4q
          obtain ⟨Tr5, hr5, Xr5, er5, Er5, Ar5, Dr5, -, str5⟩ := newO Xr4 hx hZ hown (ww hw 8 rfl) (ww hw 9 rfl) (ww hw 10 rfl) rfl (g := (mkF m 143 (lc14 i0 i1 i2 i3 i4 i5 0 0 0 0 u1 br2) [])) rfl (hb hby at_143) (by decide) (by decide)
          obtain ⟨br5, gr5⟩ : ∃ z, z = Tr4.heap.size := ⟨_, rfl⟩
          rw [← gr5] at Ar5 Dr5 str5
          have f12 : Fld Z hr5 br5 zs8 "unit" zs1 .null := Dr5 (Or.inr (ww hw 29 rfl)) (ty := (.object zs0)) (by decide)
          have f13 : Fld Z hr5 br5 zs8 "first" zs9 .null := Dr5 (Or.inr (ww hw 31 rfl)) (ty := (.object zs11)) (by decide)
          have f14 : Fld Z hr5 br5 zs8 "last" zs9 .null := Dr5 (Or.inr (ww hw 33 rfl)) (ty := (.object zs11)) (by decide)
          have f15 : Fld Z hr5 br5 zs8 "anchor" zs5 .null := Dr5 (Or.inr (ww hw 35 rfl)) (ty := (.object zs4)) (by decide)
          have f16 : Sta Z hr5 zs4 "FIRST" zs5 (.ref w1) := (Sta.ext Er5 (own_staK f5 Kr4 (allS (own_nsE Ar2) all0)))
          have f17 : Sta Z hr5 zs4 "MIDDLE" zs5 (.ref w2) := (Sta.ext Er5 (own_staK f6 Kr4 (allS (own_nsE Ar2) all0)))
          have f18 : Sta Z hr5 zs4 "LAST" zs5 (.ref w4) := (Sta.ext Er5 (own_staK f7 Kr4 (allS (own_nsE Ar2) all0)))
          have Z_2 : n0 ≤ Tr4.heap.size := Nat.le_trans Z_1 Kr4.1
          have Z_3 : n0 ≤ hr5.size := Nat.le_trans Z_2 Er5.1
          obtain ⟨_, Tr6, Lr6, Xr6, hQr6, str6⟩ := ocallS Xr5 hx hZ zm1 hown (ww hw 11 rfl) (ww hw 12 rfl) (by decide) (ww hw 13 rfl) (ww hw 2 rfl) er5 (mg2_9 l Z a0 hw [] ((i0.toUInt32 >>> ((6 : Int32) &&& 31).toUInt32).toInt32) w1 w2 w4 hr5 n0 Z_3 f16 f17 f18) (st := [(.int ((i0.toUInt32 >>> ((6 : Int32) &&& 31).toUInt32).toInt32)), .null, .null, (.ref u1), (.ref br5), (.ref br5)]) rfl 5 rfl (by decide) (pc := 157) (Ls := (lc14 i0 i1 i2 i3 i4 i5 0 0 0 0 u1 br2)) hml rfl (lenOf pd_1 rfl) at_157 hby
          obtain ⟨rfl, Nr6q, er6⟩ := hQr6
          refine own_go (U' := Tr6.setTop (mkF m 160 (lc14 i0 i1 i2 i3 i4 i5 0 0 0 0 u1 br2) [(.ref (own_anch (((i0.toUInt32 >>> ((6 : Int32) &&& 31).toUInt32).toInt32) &&& (3 : Int32)) w1 w2 w4)), .null, .null, (.ref u1), (.ref br5), (.ref br5)])) (fun t k => str4 _ (oastore Xr4 hx hby at_141 (lc14 i0 i1 i2 i3 i4 i5 0 0 0 0 u1 br2) rfl rfl (str5 _ (odup Xr5 hx hby at_146 rfl (oaload Xr5 hx hby at_147 rfl rfl (oaload Xr5 hx hby at_149 rfl rfl (oaload Xr5 hx hby at_151 rfl rfl (oiloadN Xr5 hx hby at_153 rfl (obipush Xr5 hx hby at_154 (oiushr Xr5 hx hby at_156 (str6 _ k))))))))))) ?_
          obtain ⟨u3, hu3⟩ : ∃ z, z = (own_anch (((i0.toUInt32 >>> ((6 : Int32) &&& 31).toUInt32).toInt32) &&& (3 : Int32)) w1 w2 w4) := ⟨_, rfl⟩
          rw [← hu3]
          have N4 := Fr.app N3 Nr6q
          have g2 : n0 ≤ br5 := Nat.le_trans Z_2 (Nat.le_of_eq gr5.symm)
          obtain ⟨_, Tr7, Lr7, Xr7, hQr7, str7⟩ := ocallI Xr6 hx hZ zm3 rfl hown (ww hw 17 rfl) (ww hw 18 rfl) (by decide) (ww hw 19 rfl) (ww hw 10 rfl) er6 (rm3_11 l Z a0 hw [] br5 u1 u3 hr5 n0 Z_3 f12 f13 f14 f15 Ar5 g2) (st := [(.ref u3), .null, .null, (.ref u1), (.ref br5), (.ref br5)]) rfl 1 rfl (by decide) (pc := 160) (Ls := (lc14 i0 i1 i2 i3 i4 i5 0 0 0 0 u1 br2)) hml rfl (lenOf pd_3 rfl) at_160 hby
          obtain ⟨rfl, Nr7q, Kr7, f19, f20, f21, f22⟩ := hQr7
          have N5 := Fr.app N4 Nr7q
          have f23 : Exa Z Tr7.heap br2 zs8 := ((Exa.ext Er5 (Ar2.keep Kr4)).keep Kr7)
          have ne1 : br2 ≠ br5 := Nat.ne_of_lt (Nat.lt_of_lt_of_le (f8.lt) (Nat.le_of_eq gr5.symm))
          have f24 : Fld Z Tr7.heap br2 zs8 "first" zs9 .null := ((Fld.ext Er5 f9).keep Kr7 (ninS ne1 nin0))
          have Z_4 : n0 ≤ Tr7.heap.size := Nat.le_trans Z_3 Kr7.1
          obtain ⟨_, Tr8, Lr8, Xr8, hQr8, str8⟩ := ocallV Xr7 hx hZ zm4 zm4 hown (ww hw 36 rfl) (ww hw 37 rfl) (notFace_of_selects (args := #[]) (mvT hZ (ww hw 39 rfl))) (ww hw 39 rfl) (ww hw 38 rfl) (by decide) (ww hw 40 rfl) (ww hw 10 rfl) rfl f23 (rm6_12 l Z a0 hw [] br2 Tr7.heap n0 Z_4 f24) (st := [(.ref br2)]) rfl 0 rfl (by decide) (pc := 167) (Ls := (lc15 i0 i1 i2 i3 i4 i5 0 0 0 0 u1 br2 br5)) hml rfl (lenOf pd_4 rfl) at_167 hby
          obtain ⟨rfl, Nr8q, er8⟩ := hQr8
          have N6 := Fr.app N5 Nr8q
          refine own_go (U' := Tr8.setTop (mkF m 172 (lc15 i0 i1 i2 i3 i4 i5 0 0 0 0 u1 br2 br5) [(.int 0), (.int 0)])) (fun t k => str7 _ (oastore Xr7 hx hby at_163 (lc15 i0 i1 i2 i3 i4 i5 0 0 0 0 u1 br2 br5) rfl rfl (oaload Xr7 hx hby at_165 rfl rfl (str8 _ (oiload Xr8 hx hby at_170 rfl k))))) ?_
          refine own_go (U' := Tr8.setTop (mkF m 185 (lc15 i0 i1 i2 i3 i4 i5 0 0 0 0 u1 br2 br5) [(.int 0), (.int 0)])) (fun t k => oifY (pc := 172) Xr8 hx hby at_172 184 (by decide) (by decide) (oiconst Xr8 hx hby at_184 k)) ?_
          have f25 : Exa Z Tr7.heap br5 zs8 := (Ar5.keep Kr7)
          obtain ⟨_, Tr9, Lr9, Xr9, hQr9, str9⟩ := ocallV Xr8 hx hZ zm4 zm4 hown (ww hw 36 rfl) (ww hw 37 rfl) (notFace_of_selects (args := #[]) (mvT hZ (ww hw 39 rfl))) (ww hw 39 rfl) (ww hw 38 rfl) (by decide) (ww hw 40 rfl) (ww hw 10 rfl) er8 f25 (rm6_12 l Z a0 hw [] br5 Tr7.heap n0 Z_4 f20) (st := [(.ref br5)]) rfl 0 rfl (by decide) (pc := 197) (Ls := (lc16 i0 i1 i2 i3 i4 i5 0 0 0 0 u1 br2 br5 1)) hml rfl (lenOf pd_4 rfl) at_197 hby
          obtain ⟨rfl, Nr9q, er9⟩ := hQr9
          have N7 := Fr.app N6 Nr9q
          refine own_go (U' := Tr9.setTop (mkF m 202 (lc16 i0 i1 i2 i3 i4 i5 0 0 0 0 u1 br2 br5 1) [(.int 0), (.int 0)])) (fun t k => oicN Xr8 hx hby at_185 (by decide) (oiconst Xr8 hx hby at_188 (ogoto (pc := 189) Xr8 hx hby at_189 193 (by decide) (oistore Xr8 hx hby at_193 (lc16 i0 i1 i2 i3 i4 i5 0 0 0 0 u1 br2 br5 1) rfl (oaload Xr8 hx hby at_195 rfl rfl (str9 _ (oiload Xr9 hx hby at_200 rfl k))))))) ?_
          refine own_go (U' := Tr9.setTop (mkF m 215 (lc16 i0 i1 i2 i3 i4 i5 0 0 0 0 u1 br2 br5 1) [(.int 0), (.int 0)])) (fun t k => oifY (pc := 202) Xr9 hx hby at_202 214 (by decide) (by decide) (oiconst Xr9 hx hby at_214 k)) ?_
          have f26 : Fld Z Tr7.heap br2 zs8 "last" zs9 .null := ((Fld.ext Er5 f10).keep Kr7 (ninS ne1 nin0))
          have f27 : Fld Z Tr7.heap br2 zs8 "unit" zs1 (.ref u1) := ((Fld.ext Er5 f8).keep Kr7 (ninS ne1 nin0))
          have f28 : Sta Z Tr7.heap zs4 "MIDDLE" zs5 (.ref w2) := (own_staK f17 Kr7 (allS (own_nsF f12) all0))
          obtain ⟨_, Tr10, Lr10, Xr10, hQr10, str10⟩ := ocallV Xr9 hx hZ zm6 zm6 hown (ww hw 41 rfl) (ww hw 42 rfl) (notFace_of_selects (args := #[]) (mvT hZ (ww hw 44 rfl))) (ww hw 44 rfl) (ww hw 43 rfl) (by decide) (ww hw 45 rfl) (ww hw 10 rfl) er9 f23 (rm7_14 l Z a0 hw [] br2 br5 u1 w2 Tr7.heap n0 Z_4 f24 f20 f26 f21 f27 f28) (st := [(.ref br5), (.ref br2)]) rfl 0 rfl (by decide) (pc := 229) (Ls := (lc17 i0 i1 i2 i3 i4 i5 0 0 0 0 u1 br2 br5 1 1)) hml rfl (lenOf pd_6 rfl) at_229 hby
          obtain ⟨b1, rfl, Nr10q, Kr10, sz1, f29, f30, f31, f32, f33⟩ := hQr10
          have N8 := Fr.app N7 Nr10q
          have Z_5 : n0 ≤ Tr10.heap.size := Nat.le_trans Z_4 Kr10.1
          obtain ⟨_, Tr11, Lr11, Xr11, hQr11, str11⟩ := ocallV Xr10 hx hZ zm4 zm4 hown (ww hw 36 rfl) (ww hw 37 rfl) (notFace_of_selects (args := #[]) (mvT hZ (ww hw 39 rfl))) (ww hw 39 rfl) (ww hw 38 rfl) (by decide) (ww hw 40 rfl) (ww hw 10 rfl) rfl f29 (rm6_12 l Z a0 hw [] b1 Tr10.heap n0 Z_5 f31) (st := [(.ref b1)]) rfl 0 rfl (by decide) (pc := 232) (Ls := (lc17 i0 i1 i2 i3 i4 i5 0 0 0 0 u1 br2 br5 1 1)) hml rfl (lenOf pd_4 rfl) at_232 hby
          obtain ⟨rfl, Nr11q, er11⟩ := hQr11
          have N9 := Fr.app N8 Nr11q
          refine own_go (U' := Tr11.setTop (mkF m 237 (lc17 i0 i1 i2 i3 i4 i5 0 0 0 0 u1 br2 br5 1 1) [(.int 0), (.int 0)])) (fun t k => oicN Xr9 hx hby at_215 (by decide) (oiconst Xr9 hx hby at_218 (ogoto (pc := 219) Xr9 hx hby at_219 223 (by decide) (oistore Xr9 hx hby at_223 (lc17 i0 i1 i2 i3 i4 i5 0 0 0 0 u1 br2 br5 1 1) rfl (oaload Xr9 hx hby at_225 rfl rfl (oaload Xr9 hx hby at_227 rfl rfl (str10 _ (str11 _ (oiload Xr11 hx hby at_235 rfl k))))))))) ?_
          refine own_go (U' := Tr11.setTop (mkF m 242 (lc17 i0 i1 i2 i3 i4 i5 0 0 0 0 u1 br2 br5 1 1) [(.int 0), (.int 0)])) (fun t k => oifN Xr11 hx hby at_237 (by decide) (oiload Xr11 hx hby at_240 rfl k)) ?_
          refine own_go (U' := Tr11.setTop (mkF m 260 (lc17 i0 i1 i2 i3 i4 i5 0 0 0 0 u1 br2 br5 1 1) [(.int 0), (.int 0)])) (fun t k => oifY (pc := 242) Xr11 hx hby at_242 259 (by decide) (by decide) (oiconst Xr11 hx hby at_259 k)) ?_
          have f34 : Exa Z Tr10.heap br2 zs8 := (f23.keep Kr10)
          have f35 : Fld Z Tr10.heap br2 zs8 "unit" zs1 (.ref u1) := (f27.keep Kr10 nin0)
          have f36 : Fld Z Tr10.heap br2 zs8 "first" zs9 .null := (f24.keep Kr10 nin0)
          have f37 : Sta Z Tr10.heap zs4 "MIDDLE" zs5 (.ref w2) := (own_staK f28 Kr10 all0)
          obtain ⟨_, Tr12, Lr12, Xr12, hQr12, str12⟩ := ocallV Xr11 hx hZ zm7 zm7 hown (ww hw 53 rfl) (ww hw 54 rfl) (notFace_of_selects (args := #[]) (mvT hZ (ww hw 56 rfl))) (ww hw 56 rfl) (ww hw 55 rfl) (by decide) (ww hw 57 rfl) (ww hw 10 rfl) er11 f34 (rm9_15 l Z a0 hw [] br2 u1 w2 Tr10.heap n0 Z_5 f35 f36 f37) (st := [(.ref br2)]) rfl 0 rfl (by decide) (pc := 272) (Ls := (lc21 i0 i1 i2 i3 i4 i5 0 0 0 0 u1 br2 br5 1 1 1)) hml rfl (lenOf pd_7 rfl) at_272 hby
          obtain ⟨b2, rfl, Nr12q, Kr12, sz2, f38, f39, f40, f41, f42⟩ := hQr12
          have N10 := Fr.app N9 Nr12q
          have Z_6 : n0 ≤ Tr12.heap.size := Nat.le_trans Z_5 Kr12.1
          obtain ⟨_, Tr13, Lr13, Xr13, hQr13, str13⟩ := ocallV Xr12 hx hZ zm4 zm4 hown (ww hw 36 rfl) (ww hw 37 rfl) (notFace_of_selects (args := #[]) (mvT hZ (ww hw 39 rfl))) (ww hw 39 rfl) (ww hw 38 rfl) (by decide) (ww hw 40 rfl) (ww hw 10 rfl) rfl f38 (rm6_12 l Z a0 hw [] b2 Tr12.heap n0 Z_6 f40) (st := [(.ref b2)]) rfl 0 rfl (by decide) (pc := 275) (Ls := (lc21 i0 i1 i2 i3 i4 i5 0 0 0 0 u1 br2 br5 1 1 1)) hml rfl (lenOf pd_4 rfl) at_275 hby
          obtain ⟨rfl, Nr13q, er13⟩ := hQr13
          have N11 := Fr.app N10 Nr13q
          refine own_go (U' := Tr13.setTop (mkF m 278 (lc21 i0 i1 i2 i3 i4 i5 0 0 0 0 u1 br2 br5 1 1 1) [(.int 0)])) (fun t k => oicN Xr11 hx hby at_260 (by decide) (oiconst Xr11 hx hby at_263 (ogoto (pc := 264) Xr11 hx hby at_264 268 (by decide) (oistore Xr11 hx hby at_268 (lc21 i0 i1 i2 i3 i4 i5 0 0 0 0 u1 br2 br5 1 1 1) rfl (oaload Xr11 hx hby at_270 rfl rfl (str12 _ (str13 _ k))))))) ?_
          have f43 : Exa Z Tr12.heap br2 zs8 := (f34.keep Kr12)
          have f44 : Fld Z Tr12.heap br2 zs8 "unit" zs1 (.ref u1) := (f35.keep Kr12 nin0)
          have f45 : Fld Z Tr12.heap br2 zs8 "last" zs9 .null := ((f26.keep Kr10 nin0).keep Kr12 nin0)
          have f46 : Sta Z Tr12.heap zs4 "MIDDLE" zs5 (.ref w2) := (own_staK f37 Kr12 all0)
          obtain ⟨_, Tr14, Lr14, Xr14, hQr14, str14⟩ := ocallV Xr13 hx hZ zm8 zm8 hown (ww hw 58 rfl) (ww hw 59 rfl) (notFace_of_selects (args := #[]) (mvT hZ (ww hw 61 rfl))) (ww hw 61 rfl) (ww hw 60 rfl) (by decide) (ww hw 62 rfl) (ww hw 10 rfl) er13 f43 (rm10_16 l Z a0 hw [] br2 u1 w2 Tr12.heap n0 Z_6 f44 f45 f46) (st := [(.ref br2)]) rfl 0 rfl (by decide) (pc := 290) (Ls := (lc22 i0 i1 i2 i3 i4 i5 0 0 0 0 u1 br2 br5 1 1 1 1)) hml rfl (lenOf pd_7 rfl) at_290 hby
          obtain ⟨b3, rfl, Nr14q, Kr14, sz3, f47, f48, f49, f50, f51⟩ := hQr14
          have N12 := Fr.app N11 Nr14q
          have Z_7 : n0 ≤ Tr14.heap.size := Nat.le_trans Z_6 Kr14.1
          obtain ⟨_, Tr15, Lr15, Xr15, hQr15, str15⟩ := ocallV Xr14 hx hZ zm4 zm4 hown (ww hw 36 rfl) (ww hw 37 rfl) (notFace_of_selects (args := #[]) (mvT hZ (ww hw 39 rfl))) (ww hw 39 rfl) (ww hw 38 rfl) (by decide) (ww hw 40 rfl) (ww hw 10 rfl) rfl f47 (rm6_12 l Z a0 hw [] b3 Tr14.heap n0 Z_7 f49) (st := [(.ref b3)]) rfl 0 rfl (by decide) (pc := 293) (Ls := (lc22 i0 i1 i2 i3 i4 i5 0 0 0 0 u1 br2 br5 1 1 1 1)) hml rfl (lenOf pd_4 rfl) at_293 hby
          obtain ⟨rfl, Nr15q, er15⟩ := hQr15
          have N13 := Fr.app N12 Nr15q
          refine own_go (U' := Tr15.setTop (mkF m 296 (lc22 i0 i1 i2 i3 i4 i5 0 0 0 0 u1 br2 br5 1 1 1 1) [(.int 0)])) (fun t k => oifN Xr13 hx hby at_278 (by decide) (oiconst Xr13 hx hby at_281 (ogoto (pc := 282) Xr13 hx hby at_282 286 (by decide) (oistore Xr13 hx hby at_286 (lc22 i0 i1 i2 i3 i4 i5 0 0 0 0 u1 br2 br5 1 1 1 1) rfl (oaload Xr13 hx hby at_288 rfl rfl (str14 _ (str15 _ k))))))) ?_
          refine own_go (U' := Tr15.setTop (mkF m 308 (lc23 i0 i1 i2 i3 i4 i5 0 0 0 0 u1 br2 br5 1 1 1 1 1) [(.int 1)])) (fun t k => oifN Xr15 hx hby at_296 (by decide) (oiconst Xr15 hx hby at_299 (ogoto (pc := 300) Xr15 hx hby at_300 304 (by decide) (oistore Xr15 hx hby at_304 (lc23 i0 i1 i2 i3 i4 i5 0 0 0 0 u1 br2 br5 1 1 1 1 1) rfl (oiload Xr15 hx hby at_306 rfl k))))) ?_
          refine own_go (U' := Tr15.setTop (mkF m 313 (lc23 i0 i1 i2 i3 i4 i5 0 0 0 0 u1 br2 br5 1 1 1 1 1) [(.int 1)])) (fun t k => oifN Xr15 hx hby at_308 (by decide) (oiload Xr15 hx hby at_311 rfl k)) ?_
          refine own_go (U' := Tr15.setTop (mkF m 318 (lc23 i0 i1 i2 i3 i4 i5 0 0 0 0 u1 br2 br5 1 1 1 1 1) [(.int 1)])) (fun t k => oifN Xr15 hx hby at_313 (by decide) (oiload Xr15 hx hby at_316 rfl k)) ?_
          refine own_go (U' := Tr15.setTop (mkF m 323 (lc23 i0 i1 i2 i3 i4 i5 0 0 0 0 u1 br2 br5 1 1 1 1 1) [(.int 1)])) (fun t k => oifN Xr15 hx hby at_318 (by decide) (oiload Xr15 hx hby at_321 rfl k)) ?_
          refine own_go (U' := Tr15.setTop (mkF m 328 (lc23 i0 i1 i2 i3 i4 i5 0 0 0 0 u1 br2 br5 1 1 1 1 1) [(.int 1)])) (fun t k => oifN Xr15 hx hby at_323 (by decide) (oiload Xr15 hx hby at_326 rfl k)) ?_
          refine own_go (U' := Tr15.setTop (mkF m 336 (lc23 i0 i1 i2 i3 i4 i5 0 0 0 0 u1 br2 br5 1 1 1 1 1) [(.int 1)])) (fun t k => oifN Xr15 hx hby at_328 (by decide) (oiconst Xr15 hx hby at_331 (ogoto (pc := 332) Xr15 hx hby at_332 336 (by decide) k))) ?_
          obtain ⟨fs, hr, hrun, hended, hW, hsame⟩ := Xr15.leave (v := some (.int 1)) (fun h => by rw [Bd.returns] at h; cases h)
          refine own_out ⟨_, _, ?_, hrun, hended, _, _, rfl, ?_, ⟨_, rfl⟩, hW, hsame.mono (by decide) (by decide)⟩
          · exact retN Xr15 hx (t := .boolean) Bd.returns (by simp) (hb hby at_336) hr
          · exact ⟨rfl, N13⟩
        · have hc4 : ¬ ((i0 &&& (8 : Int32)) = (0 : Int32)) := hk4
          refine own_go (U' := s₁.setTop (mkF m 55 (lc4 i0 i1 i2 i3 i4 i5 0 0 0 1) [(.int 0)])) (fun t k => oifN X0 hx hby at_43 ((if0 _ _).trans (feq hc4).1) (oiconst X0 hx hby at_46 (ogoto (pc := 47) X0 hx hby at_47 51 (by decide) (oistore X0 hx hby at_51 (lc4 i0 i1 i2 i3 i4 i5 0 0 0 1) rfl (oiload X0 hx hby at_53 rfl k))))) ?_
          refine own_go (U' := s₁.setTop (mkF m 70 (lc5 i0 i1 i2 i3 i4 i5 0 0 0 1) [(.int 0)])) (fun t k => oifY (pc := 55) X0 hx hby at_55 65 (by decide) (by decide) (onull X0 hx hby at_65 (oastore X0 hx hby at_66 (lc5 i0 i1 i2 i3 i4 i5 0 0 0 1) rfl rfl (oiload X0 hx hby at_68 rfl k)))) ?_
          refine own_go (U' := s₁.setTop (mkF m 86 (lc6 i0 i1 i2 i3 i4 i5 0 0 0 1) [(.int 0)])) (fun t k => oifY (pc := 70) X0 hx hby at_70 81 (by decide) (by decide) (onull X0 hx hby at_81 (oastore X0 hx hby at_82 (lc6 i0 i1 i2 i3 i4 i5 0 0 0 1) rfl rfl (oiload X0 hx hby at_84 rfl k)))) ?_
          refine own_go (U' := s₁.setTop (mkF m 102 (lc7 i0 i1 i2 i3 i4 i5 0 0 0 1) [(.int 1)])) (fun t k => oifY (pc := 86) X0 hx hby at_86 97 (by decide) (by decide) (onull X0 hx hby at_97 (oastore X0 hx hby at_98 (lc7 i0 i1 i2 i3 i4 i5 0 0 0 1) rfl rfl (oiload X0 hx hby at_100 rfl k)))) ?_
          obtain ⟨_, Tr1, Lr1, Xr1, hQr1, str1⟩ := ocallS X0 hx hZ zm11 hown (ww hw 63 rfl) (ww hw 64 rfl) (by decide) (ww hw 66 rfl) (ww hw 65 rfl) e0 (mg11_22 l Z a0 hw [] i5 w8 h0 n0 Z0 S16 S18) (st := [(.long i5)]) rfl 0 rfl (by decide) (pc := 107) (Ls := (lc7 i0 i1 i2 i3 i4 i5 0 0 0 1)) hml rfl (lenOf pd_9 rfl) at_107 hby
          obtain ⟨b1, rfl, Nr1q, Kr1, f1, f2⟩ := hQr1
          have N1 := Fr.app N0 Nr1q
          have f3 : Sta Z Tr1.heap zs0 "DAY" zs1 (.ref w3) := (own_staK S6 Kr1 all0)
          have f4 : Sta Z Tr1.heap zs0 "MONTH" zs1 (.ref w7) := (own_staK S14 Kr1 all0)
          have f5 : Sta Z Tr1.heap zs0 "YEAR" zs1 (.ref w6) := (own_staK S12 Kr1 all0)
          have f6 : Sta Z Tr1.heap zs0 "DECADE" zs1 (.ref w0) := (own_staK S0 Kr1 all0)
          have f7 : Sta Z Tr1.heap zs0 "CENTURY" zs1 (.ref w5) := (own_staK S10 Kr1 all0)
          have Z_1 : n0 ≤ Tr1.heap.size := Nat.le_trans Z0 Kr1.1
          obtain ⟨_, Tr2, Lr2, Xr2, hQr2, str2⟩ := ocallS Xr1 hx hZ zm0 hown (ww hw 0 rfl) (ww hw 1 rfl) (by decide) (ww hw 3 rfl) (ww hw 2 rfl) rfl (mg1_5 l Z a0 hw [] i1 w3 w7 w6 w0 w5 Tr1.heap n0 Z_1 f3 f4 f5 f6 f7) (st := [(.int i1)]) rfl 0 rfl (by decide) (pc := 117) (Ls := (lc27 i0 i1 i2 i3 i4 i5 0 0 0 1 b1)) hml rfl (lenOf pd_0 rfl) at_117 hby
          obtain ⟨rfl, Nr2q, er2⟩ := hQr2
          refine own_go (U' := Tr2.setTop (mkF m 120 (lc27 i0 i1 i2 i3 i4 i5 0 0 0 1 b1) [(.ref (own_unit ((i1 &&& (2147483647 : Int32)) % (5 : Int32)) w3 w7 w6 w0 w5))])) (fun t k => oifN X0 hx hby at_102 (by decide) (olload X0 hx hby at_105 rfl (str1 _ (ogoto (pc := 110) Xr1 hx hby at_110 114 (by decide) (oastore Xr1 hx hby at_114 (lc27 i0 i1 i2 i3 i4 i5 0 0 0 1 b1) rfl rfl (oiloadN Xr1 hx hby at_116 rfl (str2 _ k))))))) ?_
          obtain ⟨u1, hu1⟩ : ∃ z, z = (own_unit ((i1 &&& (2147483647 : Int32)) % (5 : Int32)) w3 w7 w6 w0 w5) := ⟨_, rfl⟩
          rw [← hu1]
          have N2 := Fr.app N1 Nr2q
          obtain ⟨Tr3, hr3, Xr3, er3, Er3, Ar3, Dr3, -, str3⟩ := newO Xr2 hx hZ hown (ww hw 8 rfl) (ww hw 9 rfl) (ww hw 10 rfl) er2 (g := (mkF m 122 (lc28 i0 i1 i2 i3 i4 i5 0 0 0 1 b1 u1) [])) rfl (hb hby at_122) (by decide) (by decide)
          obtain ⟨br3, gr3⟩ : ∃ z, z = Tr1.heap.size := ⟨_, rfl⟩
          rw [← gr3] at Ar3 Dr3 str3
          have f8 : Fld Z hr3 br3 zs8 "unit" zs1 .null := Dr3 (Or.inr (ww hw 29 rfl)) (ty := (.object zs0)) (by decide)
          have f9 : Fld Z hr3 br3 zs8 "first" zs9 .null := Dr3 (Or.inr (ww hw 31 rfl)) (ty := (.object zs11)) (by decide)
          have f10 : Fld Z hr3 br3 zs8 "last" zs9 .null := Dr3 (Or.inr (ww hw 33 rfl)) (ty := (.object zs11)) (by decide)
          have f11 : Fld Z hr3 br3 zs8 "anchor" zs5 .null := Dr3 (Or.inr (ww hw 35 rfl)) (ty := (.object zs4)) (by decide)
          have f12 : Sta Z hr3 zs4 "FIRST" zs5 (.ref w1) := (Sta.ext Er3 (own_staK S2 Kr1 all0))
          have f13 : Sta Z hr3 zs4 "MIDDLE" zs5 (.ref w2) := (Sta.ext Er3 (own_staK S4 Kr1 all0))
          have f14 : Sta Z hr3 zs4 "LAST" zs5 (.ref w4) := (Sta.ext Er3 (own_staK S8 Kr1 all0))
          have Z_2 : n0 ≤ hr3.size := Nat.le_trans Z_1 Er3.1
          obtain ⟨_, Tr4, Lr4, Xr4, hQr4, str4⟩ := ocallS Xr3 hx hZ zm1 hown (ww hw 11 rfl) (ww hw 12 rfl) (by decide) (ww hw 13 rfl) (ww hw 2 rfl) er3 (mg2_9 l Z a0 hw [] ((i0.toUInt32 >>> ((4 : Int32) &&& 31).toUInt32).toInt32) w1 w2 w4 hr3 n0 Z_2 f12 f13 f14) (st := [(.int ((i0.toUInt32 >>> ((4 : Int32) &&& 31).toUInt32).toInt32)), .null, .null, (.ref u1), (.ref br3), (.ref br3)]) rfl 5 rfl (by decide) (pc := 135) (Ls := (lc28 i0 i1 i2 i3 i4 i5 0 0 0 1 b1 u1)) hml rfl (lenOf pd_1 rfl) at_135 hby
          obtain ⟨rfl, Nr4q, er4⟩ := hQr4
          refine own_go (U' := Tr4.setTop (mkF m 138 (lc28 i0 i1 i2 i3 i4 i5 0 0 0 1 b1 u1) [(.ref (own_anch (((i0.toUInt32 >>> ((4 : Int32) &&& 31).toUInt32).toInt32) &&& (3 : Int32)) w1 w2 w4)), .null, .null, (.ref u1), (.ref br3), (.ref br3)])) (fun t k => oastore Xr2 hx hby at_120 (lc28 i0 i1 i2 i3 i4 i5 0 0 0 1 b1 u1) rfl rfl (str3 _ (odup Xr3 hx hby at_125 rfl (oaload Xr3 hx hby at_126 rfl rfl (oaload Xr3 hx hby at_128 rfl rfl (oaload Xr3 hx hby at_130 rfl rfl (oiloadN Xr3 hx hby at_132 rfl (oiconst Xr3 hx hby at_133 (oiushr Xr3 hx hby at_134 (str4 _ k)))))))))) ?_
          obtain ⟨u2, hu2⟩ : ∃ z, z = (own_anch (((i0.toUInt32 >>> ((4 : Int32) &&& 31).toUInt32).toInt32) &&& (3 : Int32)) w1 w2 w4) := ⟨_, rfl⟩
          rw [← hu2]
          have N3 := Fr.app N2 Nr4q
          have g1 : n0 ≤ br3 := Nat.le_trans Z_1 (Nat.le_of_eq gr3.symm)
          obtain ⟨_, Tr5, Lr5, Xr5, hQr5, str5⟩ := ocallI Xr4 hx hZ zm3 rfl hown (ww hw 17 rfl) (ww hw 18 rfl) (by decide) (ww hw 19 rfl) (ww hw 10 rfl) er4 (rm3_11 l Z a0 hw [] br3 u1 u2 hr3 n0 Z_2 f8 f9 f10 f11 Ar3 g1) (st := [(.ref u2), .null, .null, (.ref u1), (.ref br3), (.ref br3)]) rfl 1 rfl (by decide) (pc := 138) (Ls := (lc28 i0 i1 i2 i3 i4 i5 0 0 0 1 b1 u1)) hml rfl (lenOf pd_3 rfl) at_138 hby
          obtain ⟨rfl, Nr5q, Kr5, f15, f16, f17, f18⟩ := hQr5
          have N4 := Fr.app N3 Nr5q
          obtain ⟨Tr6, hr6, Xr6, er6, Er6, Ar6, Dr6, -, str6⟩ := newO Xr5 hx hZ hown (ww hw 8 rfl) (ww hw 9 rfl) (ww hw 10 rfl) rfl (g := (mkF m 143 (lc29 i0 i1 i2 i3 i4 i5 0 0 0 1 b1 u1 br3) [])) rfl (hb hby at_143) (by decide) (by decide)
          obtain ⟨br6, gr6⟩ : ∃ z, z = Tr5.heap.size := ⟨_, rfl⟩
          rw [← gr6] at Ar6 Dr6 str6
          have f19 : Fld Z hr6 br6 zs8 "unit" zs1 .null := Dr6 (Or.inr (ww hw 29 rfl)) (ty := (.object zs0)) (by decide)
          have f20 : Fld Z hr6 br6 zs8 "first" zs9 .null := Dr6 (Or.inr (ww hw 31 rfl)) (ty := (.object zs11)) (by decide)
          have f21 : Fld Z hr6 br6 zs8 "last" zs9 .null := Dr6 (Or.inr (ww hw 33 rfl)) (ty := (.object zs11)) (by decide)
          have f22 : Fld Z hr6 br6 zs8 "anchor" zs5 .null := Dr6 (Or.inr (ww hw 35 rfl)) (ty := (.object zs4)) (by decide)
          have f23 : Sta Z hr6 zs4 "FIRST" zs5 (.ref w1) := (Sta.ext Er6 (own_staK f12 Kr5 (allS (own_nsE Ar3) all0)))
          have f24 : Sta Z hr6 zs4 "MIDDLE" zs5 (.ref w2) := (Sta.ext Er6 (own_staK f13 Kr5 (allS (own_nsE Ar3) all0)))
          have f25 : Sta Z hr6 zs4 "LAST" zs5 (.ref w4) := (Sta.ext Er6 (own_staK f14 Kr5 (allS (own_nsE Ar3) all0)))
          have Z_3 : n0 ≤ Tr5.heap.size := Nat.le_trans Z_2 Kr5.1
          have Z_4 : n0 ≤ hr6.size := Nat.le_trans Z_3 Er6.1
          obtain ⟨_, Tr7, Lr7, Xr7, hQr7, str7⟩ := ocallS Xr6 hx hZ zm1 hown (ww hw 11 rfl) (ww hw 12 rfl) (by decide) (ww hw 13 rfl) (ww hw 2 rfl) er6 (mg2_9 l Z a0 hw [] ((i0.toUInt32 >>> ((6 : Int32) &&& 31).toUInt32).toInt32) w1 w2 w4 hr6 n0 Z_4 f23 f24 f25) (st := [(.int ((i0.toUInt32 >>> ((6 : Int32) &&& 31).toUInt32).toInt32)), (.ref b1), .null, (.ref u1), (.ref br6), (.ref br6)]) rfl 5 rfl (by decide) (pc := 157) (Ls := (lc29 i0 i1 i2 i3 i4 i5 0 0 0 1 b1 u1 br3)) hml rfl (lenOf pd_1 rfl) at_157 hby
          obtain ⟨rfl, Nr7q, er7⟩ := hQr7
          refine own_go (U' := Tr7.setTop (mkF m 160 (lc29 i0 i1 i2 i3 i4 i5 0 0 0 1 b1 u1 br3) [(.ref (own_anch (((i0.toUInt32 >>> ((6 : Int32) &&& 31).toUInt32).toInt32) &&& (3 : Int32)) w1 w2 w4)), (.ref b1), .null, (.ref u1), (.ref br6), (.ref br6)])) (fun t k => str5 _ (oastore Xr5 hx hby at_141 (lc29 i0 i1 i2 i3 i4 i5 0 0 0 1 b1 u1 br3) rfl rfl (str6 _ (odup Xr6 hx hby at_146 rfl (oaload Xr6 hx hby at_147 rfl rfl (oaload Xr6 hx hby at_149 rfl rfl (oaload Xr6 hx hby at_151 rfl rfl (oiloadN Xr6 hx hby at_153 rfl (obipush Xr6 hx hby at_154 (oiushr Xr6 hx hby at_156 (str7 _ k))))))))))) ?_
          obtain ⟨u3, hu3⟩ : ∃ z, z = (own_anch (((i0.toUInt32 >>> ((6 : Int32) &&& 31).toUInt32).toInt32) &&& (3 : Int32)) w1 w2 w4) := ⟨_, rfl⟩
          rw [← hu3]
          have N5 := Fr.app N4 Nr7q
          have g2 : n0 ≤ br6 := Nat.le_trans Z_3 (Nat.le_of_eq gr6.symm)
          obtain ⟨_, Tr8, Lr8, Xr8, hQr8, str8⟩ := ocallI Xr7 hx hZ zm3 rfl hown (ww hw 17 rfl) (ww hw 18 rfl) (by decide) (ww hw 19 rfl) (ww hw 10 rfl) er7 (rm3_23 l Z a0 hw [] br6 u1 b1 u3 hr6 n0 Z_4 f19 f20 f21 f22 Ar6 g2) (st := [(.ref u3), (.ref b1), .null, (.ref u1), (.ref br6), (.ref br6)]) rfl 1 rfl (by decide) (pc := 160) (Ls := (lc29 i0 i1 i2 i3 i4 i5 0 0 0 1 b1 u1 br3)) hml rfl (lenOf pd_3 rfl) at_160 hby
          obtain ⟨rfl, Nr8q, Kr8, f26, f27, f28, f29⟩ := hQr8
          have N6 := Fr.app N5 Nr8q
          have f30 : Exa Z Tr8.heap br3 zs8 := ((Exa.ext Er6 (Ar3.keep Kr5)).keep Kr8)
          have ne1 : br3 ≠ br6 := Nat.ne_of_lt (Nat.lt_of_lt_of_le (f15.lt) (Nat.le_of_eq gr6.symm))
          have f31 : Fld Z Tr8.heap br3 zs8 "first" zs9 .null := ((Fld.ext Er6 f16).keep Kr8 (ninS ne1 nin0))
          have Z_5 : n0 ≤ Tr8.heap.size := Nat.le_trans Z_4 Kr8.1
          obtain ⟨_, Tr9, Lr9, Xr9, hQr9, str9⟩ := ocallV Xr8 hx hZ zm4 zm4 hown (ww hw 36 rfl) (ww hw 37 rfl) (notFace_of_selects (args := #[]) (mvT hZ (ww hw 39 rfl))) (ww hw 39 rfl) (ww hw 38 rfl) (by decide) (ww hw 40 rfl) (ww hw 10 rfl) rfl f30 (rm6_12 l Z a0 hw [] br3 Tr8.heap n0 Z_5 f31) (st := [(.ref br3)]) rfl 0 rfl (by decide) (pc := 167) (Ls := (lc31 i0 i1 i2 i3 i4 i5 0 0 0 1 b1 u1 br3 br6)) hml rfl (lenOf pd_4 rfl) at_167 hby
          obtain ⟨rfl, Nr9q, er9⟩ := hQr9
          have N7 := Fr.app N6 Nr9q
          refine own_go (U' := Tr9.setTop (mkF m 172 (lc31 i0 i1 i2 i3 i4 i5 0 0 0 1 b1 u1 br3 br6) [(.int 0), (.int 0)])) (fun t k => str8 _ (oastore Xr8 hx hby at_163 (lc31 i0 i1 i2 i3 i4 i5 0 0 0 1 b1 u1 br3 br6) rfl rfl (oaload Xr8 hx hby at_165 rfl rfl (str9 _ (oiload Xr9 hx hby at_170 rfl k))))) ?_
          refine own_go (U' := Tr9.setTop (mkF m 185 (lc31 i0 i1 i2 i3 i4 i5 0 0 0 1 b1 u1 br3 br6) [(.int 0), (.int 0)])) (fun t k => oifY (pc := 172) Xr9 hx hby at_172 184 (by decide) (by decide) (oiconst Xr9 hx hby at_184 k)) ?_
          have f32 : Exa Z Tr8.heap br6 zs8 := (Ar6.keep Kr8)
          obtain ⟨_, Tr10, Lr10, Xr10, hQr10, str10⟩ := ocallV Xr9 hx hZ zm4 zm4 hown (ww hw 36 rfl) (ww hw 37 rfl) (notFace_of_selects (args := #[]) (mvT hZ (ww hw 39 rfl))) (ww hw 39 rfl) (ww hw 38 rfl) (by decide) (ww hw 40 rfl) (ww hw 10 rfl) er9 f32 (rm6_12 l Z a0 hw [] br6 Tr8.heap n0 Z_5 f27) (st := [(.ref br6)]) rfl 0 rfl (by decide) (pc := 197) (Ls := (lc32 i0 i1 i2 i3 i4 i5 0 0 0 1 b1 u1 br3 br6 1)) hml rfl (lenOf pd_4 rfl) at_197 hby
          obtain ⟨rfl, Nr10q, er10⟩ := hQr10
          have N8 := Fr.app N7 Nr10q
          refine own_go (U' := Tr10.setTop (mkF m 202 (lc32 i0 i1 i2 i3 i4 i5 0 0 0 1 b1 u1 br3 br6 1) [(.int 0), (.int 0)])) (fun t k => oicN Xr9 hx hby at_185 (by decide) (oiconst Xr9 hx hby at_188 (ogoto (pc := 189) Xr9 hx hby at_189 193 (by decide) (oistore Xr9 hx hby at_193 (lc32 i0 i1 i2 i3 i4 i5 0 0 0 1 b1 u1 br3 br6 1) rfl (oaload Xr9 hx hby at_195 rfl rfl (str10 _ (oiload Xr10 hx hby at_200 rfl k))))))) ?_
          refine own_go (U' := Tr10.setTop (mkF m 215 (lc32 i0 i1 i2 i3 i4 i5 0 0 0 1 b1 u1 br3 br6 1) [(.int 0), (.int 0)])) (fun t k => oifY (pc := 202) Xr10 hx hby at_202 214 (by decide) (by decide) (oiconst Xr10 hx hby at_214 k)) ?_
          have f33 : Fld Z Tr8.heap br3 zs8 "last" zs9 .null := ((Fld.ext Er6 f17).keep Kr8 (ninS ne1 nin0))
          have f34 : Fld Z Tr8.heap br3 zs8 "unit" zs1 (.ref u1) := ((Fld.ext Er6 f15).keep Kr8 (ninS ne1 nin0))
          have f35 : Sta Z Tr8.heap zs4 "MIDDLE" zs5 (.ref w2) := (own_staK f24 Kr8 (allS (own_nsF f19) all0))
          obtain ⟨_, Tr11, Lr11, Xr11, hQr11, str11⟩ := ocallV Xr10 hx hZ zm6 zm6 hown (ww hw 41 rfl) (ww hw 42 rfl) (notFace_of_selects (args := #[]) (mvT hZ (ww hw 44 rfl))) (ww hw 44 rfl) (ww hw 43 rfl) (by decide) (ww hw 45 rfl) (ww hw 10 rfl) er10 f30 (rm7_25 l Z a0 hw [] br3 br6 b1 u1 w2 Tr8.heap n0 Z_5 f31 f27 f33 f28 f34 f35) (st := [(.ref br6), (.ref br3)]) rfl 0 rfl (by decide) (pc := 229) (Ls := (lc33 i0 i1 i2 i3 i4 i5 0 0 0 1 b1 u1 br3 br6 1 1)) hml rfl (lenOf pd_6 rfl) at_229 hby
          obtain ⟨b2, rfl, Nr11q, Kr11, sz1, f36, f37, f38, f39, f40⟩ := hQr11
          have N9 := Fr.app N8 Nr11q
          have Z_6 : n0 ≤ Tr11.heap.size := Nat.le_trans Z_5 Kr11.1
          obtain ⟨_, Tr12, Lr12, Xr12, hQr12, str12⟩ := ocallV Xr11 hx hZ zm4 zm4 hown (ww hw 36 rfl) (ww hw 37 rfl) (notFace_of_selects (args := #[]) (mvT hZ (ww hw 39 rfl))) (ww hw 39 rfl) (ww hw 38 rfl) (by decide) (ww hw 40 rfl) (ww hw 10 rfl) rfl f36 (rm6_12 l Z a0 hw [] b2 Tr11.heap n0 Z_6 f38) (st := [(.ref b2)]) rfl 0 rfl (by decide) (pc := 232) (Ls := (lc33 i0 i1 i2 i3 i4 i5 0 0 0 1 b1 u1 br3 br6 1 1)) hml rfl (lenOf pd_4 rfl) at_232 hby
          obtain ⟨rfl, Nr12q, er12⟩ := hQr12
          have N10 := Fr.app N9 Nr12q
          refine own_go (U' := Tr12.setTop (mkF m 237 (lc33 i0 i1 i2 i3 i4 i5 0 0 0 1 b1 u1 br3 br6 1 1) [(.int 0), (.int 0)])) (fun t k => oicN Xr10 hx hby at_215 (by decide) (oiconst Xr10 hx hby at_218 (ogoto (pc := 219) Xr10 hx hby at_219 223 (by decide) (oistore Xr10 hx hby at_223 (lc33 i0 i1 i2 i3 i4 i5 0 0 0 1 b1 u1 br3 br6 1 1) rfl (oaload Xr10 hx hby at_225 rfl rfl (oaload Xr10 hx hby at_227 rfl rfl (str11 _ (str12 _ (oiload Xr12 hx hby at_235 rfl k))))))))) ?_
          refine own_go (U' := Tr12.setTop (mkF m 242 (lc33 i0 i1 i2 i3 i4 i5 0 0 0 1 b1 u1 br3 br6 1 1) [(.int 0), (.int 0)])) (fun t k => oifN Xr12 hx hby at_237 (by decide) (oiload Xr12 hx hby at_240 rfl k)) ?_
          refine own_go (U' := Tr12.setTop (mkF m 260 (lc33 i0 i1 i2 i3 i4 i5 0 0 0 1 b1 u1 br3 br6 1 1) [(.int 0), (.int 0)])) (fun t k => oifY (pc := 242) Xr12 hx hby at_242 259 (by decide) (by decide) (oiconst Xr12 hx hby at_259 k)) ?_
          have f41 : Exa Z Tr11.heap br3 zs8 := (f30.keep Kr11)
          have f42 : Fld Z Tr11.heap br3 zs8 "unit" zs1 (.ref u1) := (f34.keep Kr11 nin0)
          have f43 : Fld Z Tr11.heap br3 zs8 "first" zs9 .null := (f31.keep Kr11 nin0)
          have f44 : Sta Z Tr11.heap zs4 "MIDDLE" zs5 (.ref w2) := (own_staK f35 Kr11 all0)
          obtain ⟨_, Tr13, Lr13, Xr13, hQr13, str13⟩ := ocallV Xr12 hx hZ zm7 zm7 hown (ww hw 53 rfl) (ww hw 54 rfl) (notFace_of_selects (args := #[]) (mvT hZ (ww hw 56 rfl))) (ww hw 56 rfl) (ww hw 55 rfl) (by decide) (ww hw 57 rfl) (ww hw 10 rfl) er12 f41 (rm9_15 l Z a0 hw [] br3 u1 w2 Tr11.heap n0 Z_6 f42 f43 f44) (st := [(.ref br3)]) rfl 0 rfl (by decide) (pc := 272) (Ls := (lc35 i0 i1 i2 i3 i4 i5 0 0 0 1 b1 u1 br3 br6 1 1 1)) hml rfl (lenOf pd_7 rfl) at_272 hby
          obtain ⟨b3, rfl, Nr13q, Kr13, sz2, f45, f46, f47, f48, f49⟩ := hQr13
          have N11 := Fr.app N10 Nr13q
          have Z_7 : n0 ≤ Tr13.heap.size := Nat.le_trans Z_6 Kr13.1
          obtain ⟨_, Tr14, Lr14, Xr14, hQr14, str14⟩ := ocallV Xr13 hx hZ zm4 zm4 hown (ww hw 36 rfl) (ww hw 37 rfl) (notFace_of_selects (args := #[]) (mvT hZ (ww hw 39 rfl))) (ww hw 39 rfl) (ww hw 38 rfl) (by decide) (ww hw 40 rfl) (ww hw 10 rfl) rfl f45 (rm6_12 l Z a0 hw [] b3 Tr13.heap n0 Z_7 f47) (st := [(.ref b3)]) rfl 0 rfl (by decide) (pc := 275) (Ls := (lc35 i0 i1 i2 i3 i4 i5 0 0 0 1 b1 u1 br3 br6 1 1 1)) hml rfl (lenOf pd_4 rfl) at_275 hby
          obtain ⟨rfl, Nr14q, er14⟩ := hQr14
          have N12 := Fr.app N11 Nr14q
          refine own_go (U' := Tr14.setTop (mkF m 278 (lc35 i0 i1 i2 i3 i4 i5 0 0 0 1 b1 u1 br3 br6 1 1 1) [(.int 0)])) (fun t k => oicN Xr12 hx hby at_260 (by decide) (oiconst Xr12 hx hby at_263 (ogoto (pc := 264) Xr12 hx hby at_264 268 (by decide) (oistore Xr12 hx hby at_268 (lc35 i0 i1 i2 i3 i4 i5 0 0 0 1 b1 u1 br3 br6 1 1 1) rfl (oaload Xr12 hx hby at_270 rfl rfl (str13 _ (str14 _ k))))))) ?_
          have f50 : Exa Z Tr13.heap br3 zs8 := (f41.keep Kr13)
          have f51 : Fld Z Tr13.heap br3 zs8 "unit" zs1 (.ref u1) := (f42.keep Kr13 nin0)
          have f52 : Fld Z Tr13.heap br3 zs8 "last" zs9 .null := ((f33.keep Kr11 nin0).keep Kr13 nin0)
          have f53 : Sta Z Tr13.heap zs4 "MIDDLE" zs5 (.ref w2) := (own_staK f44 Kr13 all0)
          obtain ⟨_, Tr15, Lr15, Xr15, hQr15, str15⟩ := ocallV Xr14 hx hZ zm8 zm8 hown (ww hw 58 rfl) (ww hw 59 rfl) (notFace_of_selects (args := #[]) (mvT hZ (ww hw 61 rfl))) (ww hw 61 rfl) (ww hw 60 rfl) (by decide) (ww hw 62 rfl) (ww hw 10 rfl) er14 f50 (rm10_16 l Z a0 hw [] br3 u1 w2 Tr13.heap n0 Z_7 f51 f52 f53) (st := [(.ref br3)]) rfl 0 rfl (by decide) (pc := 290) (Ls := (lc36 i0 i1 i2 i3 i4 i5 0 0 0 1 b1 u1 br3 br6 1 1 1 1)) hml rfl (lenOf pd_7 rfl) at_290 hby
          obtain ⟨b4, rfl, Nr15q, Kr15, sz3, f54, f55, f56, f57, f58⟩ := hQr15
          have N13 := Fr.app N12 Nr15q
          have Z_8 : n0 ≤ Tr15.heap.size := Nat.le_trans Z_7 Kr15.1
          obtain ⟨_, Tr16, Lr16, Xr16, hQr16, str16⟩ := ocallV Xr15 hx hZ zm4 zm4 hown (ww hw 36 rfl) (ww hw 37 rfl) (notFace_of_selects (args := #[]) (mvT hZ (ww hw 39 rfl))) (ww hw 39 rfl) (ww hw 38 rfl) (by decide) (ww hw 40 rfl) (ww hw 10 rfl) rfl f54 (rm6_12 l Z a0 hw [] b4 Tr15.heap n0 Z_8 f56) (st := [(.ref b4)]) rfl 0 rfl (by decide) (pc := 293) (Ls := (lc36 i0 i1 i2 i3 i4 i5 0 0 0 1 b1 u1 br3 br6 1 1 1 1)) hml rfl (lenOf pd_4 rfl) at_293 hby
          obtain ⟨rfl, Nr16q, er16⟩ := hQr16
          have N14 := Fr.app N13 Nr16q
          refine own_go (U' := Tr16.setTop (mkF m 296 (lc36 i0 i1 i2 i3 i4 i5 0 0 0 1 b1 u1 br3 br6 1 1 1 1) [(.int 0)])) (fun t k => oifN Xr14 hx hby at_278 (by decide) (oiconst Xr14 hx hby at_281 (ogoto (pc := 282) Xr14 hx hby at_282 286 (by decide) (oistore Xr14 hx hby at_286 (lc36 i0 i1 i2 i3 i4 i5 0 0 0 1 b1 u1 br3 br6 1 1 1 1) rfl (oaload Xr14 hx hby at_288 rfl rfl (str15 _ (str16 _ k))))))) ?_
          refine own_go (U' := Tr16.setTop (mkF m 308 (lc37 i0 i1 i2 i3 i4 i5 0 0 0 1 b1 u1 br3 br6 1 1 1 1 1) [(.int 1)])) (fun t k => oifN Xr16 hx hby at_296 (by decide) (oiconst Xr16 hx hby at_299 (ogoto (pc := 300) Xr16 hx hby at_300 304 (by decide) (oistore Xr16 hx hby at_304 (lc37 i0 i1 i2 i3 i4 i5 0 0 0 1 b1 u1 br3 br6 1 1 1 1 1) rfl (oiload Xr16 hx hby at_306 rfl k))))) ?_
          refine own_go (U' := Tr16.setTop (mkF m 313 (lc37 i0 i1 i2 i3 i4 i5 0 0 0 1 b1 u1 br3 br6 1 1 1 1 1) [(.int 1)])) (fun t k => oifN Xr16 hx hby at_308 (by decide) (oiload Xr16 hx hby at_311 rfl k)) ?_
          refine own_go (U' := Tr16.setTop (mkF m 318 (lc37 i0 i1 i2 i3 i4 i5 0 0 0 1 b1 u1 br3 br6 1 1 1 1 1) [(.int 1)])) (fun t k => oifN Xr16 hx hby at_313 (by decide) (oiload Xr16 hx hby at_316 rfl k)) ?_
          refine own_go (U' := Tr16.setTop (mkF m 323 (lc37 i0 i1 i2 i3 i4 i5 0 0 0 1 b1 u1 br3 br6 1 1 1 1 1) [(.int 1)])) (fun t k => oifN Xr16 hx hby at_318 (by decide) (oiload Xr16 hx hby at_321 rfl k)) ?_
          refine own_go (U' := Tr16.setTop (mkF m 328 (lc37 i0 i1 i2 i3 i4 i5 0 0 0 1 b1 u1 br3 br6 1 1 1 1 1) [(.int 1)])) (fun t k => oifN Xr16 hx hby at_323 (by decide) (oiload Xr16 hx hby at_326 rfl k)) ?_
          refine own_go (U' := Tr16.setTop (mkF m 336 (lc37 i0 i1 i2 i3 i4 i5 0 0 0 1 b1 u1 br3 br6 1 1 1 1 1) [(.int 1)])) (fun t k => oifN Xr16 hx hby at_328 (by decide) (oiconst Xr16 hx hby at_331 (ogoto (pc := 332) Xr16 hx hby at_332 336 (by decide) k))) ?_
          obtain ⟨fs, hr, hrun, hended, hW, hsame⟩ := Xr16.leave (v := some (.int 1)) (fun h => by rw [Bd.returns] at h; cases h)
          refine own_out ⟨_, _, ?_, hrun, hended, _, _, rfl, ?_, ⟨_, rfl⟩, hW, hsame.mono (by decide) (by decide)⟩
          · exact retN Xr16 hx (t := .boolean) Bd.returns (by simp) (hb hby at_336) hr
          · exact ⟨rfl, N14⟩
      · have hc5 : ¬ ((i0 &&& (4 : Int32)) = (0 : Int32)) := hk3
        refine own_go (U' := s₁.setTop (mkF m 43 (lc3 i0 i1 i2 i3 i4 i5 0 0 1) [(.int (i0 &&& (8 : Int32)))])) (fun t k => oifN X0 hx hby at_29 ((if0 _ _).trans (feq hc5).1) (oiconst X0 hx hby at_32 (ogoto (pc := 33) X0 hx hby at_33 37 (by decide) (oistore X0 hx hby at_37 (lc3 i0 i1 i2 i3 i4 i5 0 0 1) rfl (oiloadN X0 hx hby at_39 rfl (obipush X0 hx hby at_40 (oiand X0 hx hby at_42 k))))))) ?_
        by_cases hk5 : (i0 &&& (8 : Int32)) = (0 : Int32)
        · have hc3 : (i0 &&& (8 : Int32)) = (0 : Int32) := hk5
          refine own_go (U' := s₁.setTop (mkF m 55 (lc4 i0 i1 i2 i3 i4 i5 0 0 1 0) [(.int 0)])) (fun t k => oifY (pc := 43) X0 hx hby at_43 50 ((if0 _ _).trans (teq hc3).1) (by decide) (oiconst X0 hx hby at_50 (oistore X0 hx hby at_51 (lc4 i0 i1 i2 i3 i4 i5 0 0 1 0) rfl (oiload X0 hx hby at_53 rfl k)))) ?_
          refine own_go (U' := s₁.setTop (mkF m 70 (lc5 i0 i1 i2 i3 i4 i5 0 0 1 0) [(.int 0)])) (fun t k => oifY (pc := 55) X0 hx hby at_55 65 (by decide) (by decide) (onull X0 hx hby at_65 (oastore X0 hx hby at_66 (lc5 i0 i1 i2 i3 i4 i5 0 0 1 0) rfl rfl (oiload X0 hx hby at_68 rfl k)))) ?_
          refine own_go (U' := s₁.setTop (mkF m 86 (lc6 i0 i1 i2 i3 i4 i5 0 0 1 0) [(.int 1)])) (fun t k => oifY (pc := 70) X0 hx hby at_70 81 (by decide) (by decide) (onull X0 hx hby at_81 (oastore X0 hx hby at_82 (lc6 i0 i1 i2 i3 i4 i5 0 0 1 0) rfl rfl (oiload X0 hx hby at_84 rfl k)))) ?_
          obtain ⟨_, Tr1, Lr1, Xr1, hQr1, str1⟩ := ocallS X0 hx hZ zm11 hown (ww hw 63 rfl) (ww hw 64 rfl) (by decide) (ww hw 66 rfl) (ww hw 65 rfl) e0 (mg11_22 l Z a0 hw [] i4 w8 h0 n0 Z0 S16 S18) (st := [(.long i4)]) rfl 0 rfl (by decide) (pc := 91) (Ls := (lc6 i0 i1 i2 i3 i4 i5 0 0 1 0)) hml rfl (lenOf pd_9 rfl) at_91 hby
          obtain ⟨b1, rfl, Nr1q, Kr1, f1, f2⟩ := hQr1
          have N1 := Fr.app N0 Nr1q
          refine own_go (U' := Tr1.setTop (mkF m 102 (lc38 i0 i1 i2 i3 i4 i5 0 0 1 0 b1) [(.int 0)])) (fun t k => oifN X0 hx hby at_86 (by decide) (olload X0 hx hby at_89 rfl (str1 _ (ogoto (pc := 94) Xr1 hx hby at_94 98 (by decide) (oastore Xr1 hx hby at_98 (lc38 i0 i1 i2 i3 i4 i5 0 0 1 0 b1) rfl rfl (oiload Xr1 hx hby at_100 rfl k)))))) ?_
          have f3 : Sta Z Tr1.heap zs0 "DAY" zs1 (.ref w3) := (own_staK S6 Kr1 all0)
          have f4 : Sta Z Tr1.heap zs0 "MONTH" zs1 (.ref w7) := (own_staK S14 Kr1 all0)
          have f5 : Sta Z Tr1.heap zs0 "YEAR" zs1 (.ref w6) := (own_staK S12 Kr1 all0)
          have f6 : Sta Z Tr1.heap zs0 "DECADE" zs1 (.ref w0) := (own_staK S0 Kr1 all0)
          have f7 : Sta Z Tr1.heap zs0 "CENTURY" zs1 (.ref w5) := (own_staK S10 Kr1 all0)
          have Z_1 : n0 ≤ Tr1.heap.size := Nat.le_trans Z0 Kr1.1
          obtain ⟨_, Tr2, Lr2, Xr2, hQr2, str2⟩ := ocallS Xr1 hx hZ zm0 hown (ww hw 0 rfl) (ww hw 1 rfl) (by decide) (ww hw 3 rfl) (ww hw 2 rfl) rfl (mg1_5 l Z a0 hw [] i1 w3 w7 w6 w0 w5 Tr1.heap n0 Z_1 f3 f4 f5 f6 f7) (st := [(.int i1)]) rfl 0 rfl (by decide) (pc := 117) (Ls := (lc39 i0 i1 i2 i3 i4 i5 0 0 1 0 b1)) hml rfl (lenOf pd_0 rfl) at_117 hby
          obtain ⟨rfl, Nr2q, er2⟩ := hQr2
          refine own_go (U' := Tr2.setTop (mkF m 120 (lc39 i0 i1 i2 i3 i4 i5 0 0 1 0 b1) [(.ref (own_unit ((i1 &&& (2147483647 : Int32)) % (5 : Int32)) w3 w7 w6 w0 w5))])) (fun t k => oifY (pc := 102) Xr1 hx hby at_102 113 (by decide) (by decide) (onull Xr1 hx hby at_113 (oastore Xr1 hx hby at_114 (lc39 i0 i1 i2 i3 i4 i5 0 0 1 0 b1) rfl rfl (oiloadN Xr1 hx hby at_116 rfl (str2 _ k))))) ?_
          obtain ⟨u1, hu1⟩ : ∃ z, z = (own_unit ((i1 &&& (2147483647 : Int32)) % (5 : Int32)) w3 w7 w6 w0 w5) := ⟨_, rfl⟩
          rw [← hu1]
          have N2 := Fr.app N1 Nr2q
          obtain ⟨Tr3, hr3, Xr3, er3, Er3, Ar3, Dr3, -, str3⟩ := newO Xr2 hx hZ hown (ww hw 8 rfl) (ww hw 9 rfl) (ww hw 10 rfl) er2 (g := (mkF m 122 (lc40 i0 i1 i2 i3 i4 i5 0 0 1 0 b1 u1) [])) rfl (hb hby at_122) (by decide) (by decide)
          obtain ⟨br3, gr3⟩ : ∃ z, z = Tr1.heap.size := ⟨_, rfl⟩
          rw [← gr3] at Ar3 Dr3 str3
          have f8 : Fld Z hr3 br3 zs8 "unit" zs1 .null := Dr3 (Or.inr (ww hw 29 rfl)) (ty := (.object zs0)) (by decide)
          have f9 : Fld Z hr3 br3 zs8 "first" zs9 .null := Dr3 (Or.inr (ww hw 31 rfl)) (ty := (.object zs11)) (by decide)
          have f10 : Fld Z hr3 br3 zs8 "last" zs9 .null := Dr3 (Or.inr (ww hw 33 rfl)) (ty := (.object zs11)) (by decide)
          have f11 : Fld Z hr3 br3 zs8 "anchor" zs5 .null := Dr3 (Or.inr (ww hw 35 rfl)) (ty := (.object zs4)) (by decide)
          have f12 : Sta Z hr3 zs4 "FIRST" zs5 (.ref w1) := (Sta.ext Er3 (own_staK S2 Kr1 all0))
          have f13 : Sta Z hr3 zs4 "MIDDLE" zs5 (.ref w2) := (Sta.ext Er3 (own_staK S4 Kr1 all0))
          have f14 : Sta Z hr3 zs4 "LAST" zs5 (.ref w4) := (Sta.ext Er3 (own_staK S8 Kr1 all0))
          have Z_2 : n0 ≤ hr3.size := Nat.le_trans Z_1 Er3.1
          obtain ⟨_, Tr4, Lr4, Xr4, hQr4, str4⟩ := ocallS Xr3 hx hZ zm1 hown (ww hw 11 rfl) (ww hw 12 rfl) (by decide) (ww hw 13 rfl) (ww hw 2 rfl) er3 (mg2_9 l Z a0 hw [] ((i0.toUInt32 >>> ((4 : Int32) &&& 31).toUInt32).toInt32) w1 w2 w4 hr3 n0 Z_2 f12 f13 f14) (st := [(.int ((i0.toUInt32 >>> ((4 : Int32) &&& 31).toUInt32).toInt32)), .null, .null, (.ref u1), (.ref br3), (.ref br3)]) rfl 5 rfl (by decide) (pc := 135) (Ls := (lc40 i0 i1 i2 i3 i4 i5 0 0 1 0 b1 u1)) hml rfl (lenOf pd_1 rfl) at_135 hby
          obtain ⟨rfl, Nr4q, er4⟩ := hQr4
          refine own_go (U' := Tr4.setTop (mkF m 138 (lc40 i0 i1 i2 i3 i4 i5 0 0 1 0 b1 u1) [(.ref (own_anch (((i0.toUInt32 >>> ((4 : Int32) &&& 31).toUInt32).toInt32) &&& (3 : Int32)) w1 w2 w4)), .null, .null, (.ref u1), (.ref br3), (.ref br3)])) (fun t k => oastore Xr2 hx hby at_120 (lc40 i0 i1 i2 i3 i4 i5 0 0 1 0 b1 u1) rfl rfl (str3 _ (odup Xr3 hx hby at_125 rfl (oaload Xr3 hx hby at_126 rfl rfl (oaload Xr3 hx hby at_128 rfl rfl (oaload Xr3 hx hby at_130 rfl rfl (oiloadN Xr3 hx hby at_132 rfl (oiconst Xr3 hx hby at_133 (oiushr Xr3 hx hby at_134 (str4 _ k)))))))))) ?_
          obtain ⟨u2, hu2⟩ : ∃ z, z = (own_anch (((i0.toUInt32 >>> ((4 : Int32) &&& 31).toUInt32).toInt32) &&& (3 : Int32)) w1 w2 w4) := ⟨_, rfl⟩
          rw [← hu2]
          have N3 := Fr.app N2 Nr4q
          have g1 : n0 ≤ br3 := Nat.le_trans Z_1 (Nat.le_of_eq gr3.symm)
          obtain ⟨_, Tr5, Lr5, Xr5, hQr5, str5⟩ := ocallI Xr4 hx hZ zm3 rfl hown (ww hw 17 rfl) (ww hw 18 rfl) (by decide) (ww hw 19 rfl) (ww hw 10 rfl) er4 (rm3_11 l Z a0 hw [] br3 u1 u2 hr3 n0 Z_2 f8 f9 f10 f11 Ar3 g1) (st := [(.ref u2), .null, .null, (.ref u1), (.ref br3), (.ref br3)]) rfl 1 rfl (by decide) (pc := 138) (Ls := (lc40 i0 i1 i2 i3 i4 i5 0 0 1 0 b1 u1)) hml rfl (lenOf pd_3 rfl) at_138 hby
          obtain ⟨rfl, Nr5q, Kr5, f15, f16, f17, f18⟩ := hQr5
          have N4 := Fr.app N3 Nr5q
          obtain ⟨Tr6, hr6, Xr6, er6, Er6, Ar6, Dr6, -, str6⟩ := newO Xr5 hx hZ hown (ww hw 8 rfl) (ww hw 9 rfl) (ww hw 10 rfl) rfl (g := (mkF m 143 (lc41 i0 i1 i2 i3 i4 i5 0 0 1 0 b1 u1 br3) [])) rfl (hb hby at_143) (by decide) (by decide)
          obtain ⟨br6, gr6⟩ : ∃ z, z = Tr5.heap.size := ⟨_, rfl⟩
          rw [← gr6] at Ar6 Dr6 str6
          have f19 : Fld Z hr6 br6 zs8 "unit" zs1 .null := Dr6 (Or.inr (ww hw 29 rfl)) (ty := (.object zs0)) (by decide)
          have f20 : Fld Z hr6 br6 zs8 "first" zs9 .null := Dr6 (Or.inr (ww hw 31 rfl)) (ty := (.object zs11)) (by decide)
          have f21 : Fld Z hr6 br6 zs8 "last" zs9 .null := Dr6 (Or.inr (ww hw 33 rfl)) (ty := (.object zs11)) (by decide)
          have f22 : Fld Z hr6 br6 zs8 "anchor" zs5 .null := Dr6 (Or.inr (ww hw 35 rfl)) (ty := (.object zs4)) (by decide)
          have f23 : Sta Z hr6 zs4 "FIRST" zs5 (.ref w1) := (Sta.ext Er6 (own_staK f12 Kr5 (allS (own_nsE Ar3) all0)))
          have f24 : Sta Z hr6 zs4 "MIDDLE" zs5 (.ref w2) := (Sta.ext Er6 (own_staK f13 Kr5 (allS (own_nsE Ar3) all0)))
          have f25 : Sta Z hr6 zs4 "LAST" zs5 (.ref w4) := (Sta.ext Er6 (own_staK f14 Kr5 (allS (own_nsE Ar3) all0)))
          have Z_3 : n0 ≤ Tr5.heap.size := Nat.le_trans Z_2 Kr5.1
          have Z_4 : n0 ≤ hr6.size := Nat.le_trans Z_3 Er6.1
          obtain ⟨_, Tr7, Lr7, Xr7, hQr7, str7⟩ := ocallS Xr6 hx hZ zm1 hown (ww hw 11 rfl) (ww hw 12 rfl) (by decide) (ww hw 13 rfl) (ww hw 2 rfl) er6 (mg2_9 l Z a0 hw [] ((i0.toUInt32 >>> ((6 : Int32) &&& 31).toUInt32).toInt32) w1 w2 w4 hr6 n0 Z_4 f23 f24 f25) (st := [(.int ((i0.toUInt32 >>> ((6 : Int32) &&& 31).toUInt32).toInt32)), .null, (.ref b1), (.ref u1), (.ref br6), (.ref br6)]) rfl 5 rfl (by decide) (pc := 157) (Ls := (lc41 i0 i1 i2 i3 i4 i5 0 0 1 0 b1 u1 br3)) hml rfl (lenOf pd_1 rfl) at_157 hby
          obtain ⟨rfl, Nr7q, er7⟩ := hQr7
          refine own_go (U' := Tr7.setTop (mkF m 160 (lc41 i0 i1 i2 i3 i4 i5 0 0 1 0 b1 u1 br3) [(.ref (own_anch (((i0.toUInt32 >>> ((6 : Int32) &&& 31).toUInt32).toInt32) &&& (3 : Int32)) w1 w2 w4)), .null, (.ref b1), (.ref u1), (.ref br6), (.ref br6)])) (fun t k => str5 _ (oastore Xr5 hx hby at_141 (lc41 i0 i1 i2 i3 i4 i5 0 0 1 0 b1 u1 br3) rfl rfl (str6 _ (odup Xr6 hx hby at_146 rfl (oaload Xr6 hx hby at_147 rfl rfl (oaload Xr6 hx hby at_149 rfl rfl (oaload Xr6 hx hby at_151 rfl rfl (oiloadN Xr6 hx hby at_153 rfl (obipush Xr6 hx hby at_154 (oiushr Xr6 hx hby at_156 (str7 _ k))))))))))) ?_
          obtain ⟨u3, hu3⟩ : ∃ z, z = (own_anch (((i0.toUInt32 >>> ((6 : Int32) &&& 31).toUInt32).toInt32) &&& (3 : Int32)) w1 w2 w4) := ⟨_, rfl⟩
          rw [← hu3]
          have N5 := Fr.app N4 Nr7q
          have g2 : n0 ≤ br6 := Nat.le_trans Z_3 (Nat.le_of_eq gr6.symm)
          obtain ⟨_, Tr8, Lr8, Xr8, hQr8, str8⟩ := ocallI Xr7 hx hZ zm3 rfl hown (ww hw 17 rfl) (ww hw 18 rfl) (by decide) (ww hw 19 rfl) (ww hw 10 rfl) er7 (rm3_26 l Z a0 hw [] br6 u1 b1 u3 hr6 n0 Z_4 f19 f20 f21 f22 Ar6 g2) (st := [(.ref u3), .null, (.ref b1), (.ref u1), (.ref br6), (.ref br6)]) rfl 1 rfl (by decide) (pc := 160) (Ls := (lc41 i0 i1 i2 i3 i4 i5 0 0 1 0 b1 u1 br3)) hml rfl (lenOf pd_3 rfl) at_160 hby
          obtain ⟨rfl, Nr8q, Kr8, f26, f27, f28, f29⟩ := hQr8
          have N6 := Fr.app N5 Nr8q
          have f30 : Exa Z Tr8.heap br3 zs8 := ((Exa.ext Er6 (Ar3.keep Kr5)).keep Kr8)
          have ne1 : br3 ≠ br6 := Nat.ne_of_lt (Nat.lt_of_lt_of_le (f15.lt) (Nat.le_of_eq gr6.symm))
          have f31 : Fld Z Tr8.heap br3 zs8 "first" zs9 .null := ((Fld.ext Er6 f16).keep Kr8 (ninS ne1 nin0))
          have Z_5 : n0 ≤ Tr8.heap.size := Nat.le_trans Z_4 Kr8.1
          obtain ⟨_, Tr9, Lr9, Xr9, hQr9, str9⟩ := ocallV Xr8 hx hZ zm4 zm4 hown (ww hw 36 rfl) (ww hw 37 rfl) (notFace_of_selects (args := #[]) (mvT hZ (ww hw 39 rfl))) (ww hw 39 rfl) (ww hw 38 rfl) (by decide) (ww hw 40 rfl) (ww hw 10 rfl) rfl f30 (rm6_12 l Z a0 hw [] br3 Tr8.heap n0 Z_5 f31) (st := [(.ref br3)]) rfl 0 rfl (by decide) (pc := 167) (Ls := (lc43 i0 i1 i2 i3 i4 i5 0 0 1 0 b1 u1 br3 br6)) hml rfl (lenOf pd_4 rfl) at_167 hby
          obtain ⟨rfl, Nr9q, er9⟩ := hQr9
          have N7 := Fr.app N6 Nr9q
          refine own_go (U' := Tr9.setTop (mkF m 172 (lc43 i0 i1 i2 i3 i4 i5 0 0 1 0 b1 u1 br3 br6) [(.int 0), (.int 0)])) (fun t k => str8 _ (oastore Xr8 hx hby at_163 (lc43 i0 i1 i2 i3 i4 i5 0 0 1 0 b1 u1 br3 br6) rfl rfl (oaload Xr8 hx hby at_165 rfl rfl (str9 _ (oiload Xr9 hx hby at_170 rfl k))))) ?_
          refine own_go (U' := Tr9.setTop (mkF m 185 (lc43 i0 i1 i2 i3 i4 i5 0 0 1 0 b1 u1 br3 br6) [(.int 0), (.int 0)])) (fun t k => oifY (pc := 172) Xr9 hx hby at_172 184 (by decide) (by decide) (oiconst Xr9 hx hby at_184 k)) ?_
          have f32 : Exa Z Tr8.heap br6 zs8 := (Ar6.keep Kr8)
          obtain ⟨_, Tr10, Lr10, Xr10, hQr10, str10⟩ := ocallV Xr9 hx hZ zm4 zm4 hown (ww hw 36 rfl) (ww hw 37 rfl) (notFace_of_selects (args := #[]) (mvT hZ (ww hw 39 rfl))) (ww hw 39 rfl) (ww hw 38 rfl) (by decide) (ww hw 40 rfl) (ww hw 10 rfl) er9 f32 (rm6_27 l Z a0 hw [] br6 b1 Tr8.heap n0 Z_5 f27 f28) (st := [(.ref br6)]) rfl 0 rfl (by decide) (pc := 197) (Ls := (lc44 i0 i1 i2 i3 i4 i5 0 0 1 0 b1 u1 br3 br6 1)) hml rfl (lenOf pd_4 rfl) at_197 hby
          obtain ⟨rfl, Nr10q, er10⟩ := hQr10
          have N8 := Fr.app N7 Nr10q
          refine own_go (U' := Tr10.setTop (mkF m 202 (lc44 i0 i1 i2 i3 i4 i5 0 0 1 0 b1 u1 br3 br6 1) [(.int 1), (.int 0)])) (fun t k => oicN Xr9 hx hby at_185 (by decide) (oiconst Xr9 hx hby at_188 (ogoto (pc := 189) Xr9 hx hby at_189 193 (by decide) (oistore Xr9 hx hby at_193 (lc44 i0 i1 i2 i3 i4 i5 0 0 1 0 b1 u1 br3 br6 1) rfl (oaload Xr9 hx hby at_195 rfl rfl (str10 _ (oiload Xr10 hx hby at_200 rfl k))))))) ?_
          refine own_go (U' := Tr10.setTop (mkF m 207 (lc44 i0 i1 i2 i3 i4 i5 0 0 1 0 b1 u1 br3 br6 1) [(.int 0), (.int 0)])) (fun t k => oifN Xr10 hx hby at_202 (by decide) (oiload Xr10 hx hby at_205 rfl k)) ?_
          refine own_go (U' := Tr10.setTop (mkF m 215 (lc44 i0 i1 i2 i3 i4 i5 0 0 1 0 b1 u1 br3 br6 1) [(.int 0), (.int 0)])) (fun t k => oifY (pc := 207) Xr10 hx hby at_207 214 (by decide) (by decide) (oiconst Xr10 hx hby at_214 k)) ?_
          have f33 : Fld Z Tr8.heap br3 zs8 "last" zs9 .null := ((Fld.ext Er6 f17).keep Kr8 (ninS ne1 nin0))
          have f34 : Fld Z Tr8.heap br3 zs8 "unit" zs1 (.ref u1) := ((Fld.ext Er6 f15).keep Kr8 (ninS ne1 nin0))
          have f35 : Sta Z Tr8.heap zs4 "MIDDLE" zs5 (.ref w2) := (own_staK f24 Kr8 (allS (own_nsF f19) all0))
          obtain ⟨_, Tr11, Lr11, Xr11, hQr11, str11⟩ := ocallV Xr10 hx hZ zm6 zm6 hown (ww hw 41 rfl) (ww hw 42 rfl) (notFace_of_selects (args := #[]) (mvT hZ (ww hw 44 rfl))) (ww hw 44 rfl) (ww hw 43 rfl) (by decide) (ww hw 45 rfl) (ww hw 10 rfl) er10 f30 (rm7_29 l Z a0 hw [] br3 br6 b1 u1 w2 Tr8.heap n0 Z_5 f31 f27 f33 f28 f34 f35) (st := [(.ref br6), (.ref br3)]) rfl 0 rfl (by decide) (pc := 229) (Ls := (lc45 i0 i1 i2 i3 i4 i5 0 0 1 0 b1 u1 br3 br6 1 1)) hml rfl (lenOf pd_6 rfl) at_229 hby
          obtain ⟨b2, rfl, Nr11q, Kr11, sz1, f36, f37, f38, f39, f40⟩ := hQr11
          have N9 := Fr.app N8 Nr11q
          have Z_6 : n0 ≤ Tr11.heap.size := Nat.le_trans Z_5 Kr11.1
          obtain ⟨_, Tr12, Lr12, Xr12, hQr12, str12⟩ := ocallV Xr11 hx hZ zm4 zm4 hown (ww hw 36 rfl) (ww hw 37 rfl) (notFace_of_selects (args := #[]) (mvT hZ (ww hw 39 rfl))) (ww hw 39 rfl) (ww hw 38 rfl) (by decide) (ww hw 40 rfl) (ww hw 10 rfl) rfl f36 (rm6_27 l Z a0 hw [] b2 b1 Tr11.heap n0 Z_6 f38 f39) (st := [(.ref b2)]) rfl 0 rfl (by decide) (pc := 232) (Ls := (lc45 i0 i1 i2 i3 i4 i5 0 0 1 0 b1 u1 br3 br6 1 1)) hml rfl (lenOf pd_4 rfl) at_232 hby
          obtain ⟨rfl, Nr12q, er12⟩ := hQr12
          have N10 := Fr.app N9 Nr12q
          refine own_go (U' := Tr12.setTop (mkF m 237 (lc45 i0 i1 i2 i3 i4 i5 0 0 1 0 b1 u1 br3 br6 1 1) [(.int 0), (.int 0)])) (fun t k => oicN Xr10 hx hby at_215 (by decide) (oiconst Xr10 hx hby at_218 (ogoto (pc := 219) Xr10 hx hby at_219 223 (by decide) (oistore Xr10 hx hby at_223 (lc45 i0 i1 i2 i3 i4 i5 0 0 1 0 b1 u1 br3 br6 1 1) rfl (oaload Xr10 hx hby at_225 rfl rfl (oaload Xr10 hx hby at_227 rfl rfl (str11 _ (str12 _ (oiload Xr12 hx hby at_235 rfl k))))))))) ?_
          refine own_go (U' := Tr12.setTop (mkF m 242 (lc45 i0 i1 i2 i3 i4 i5 0 0 1 0 b1 u1 br3 br6 1 1) [(.int 1), (.int 0)])) (fun t k => oifN Xr12 hx hby at_237 (by decide) (oiload Xr12 hx hby at_240 rfl k)) ?_
          refine own_go (U' := Tr12.setTop (mkF m 247 (lc45 i0 i1 i2 i3 i4 i5 0 0 1 0 b1 u1 br3 br6 1 1) [(.int 0), (.int 0)])) (fun t k => oifN Xr12 hx hby at_242 (by decide) (oiload Xr12 hx hby at_245 rfl k)) ?_
          refine own_go (U' := Tr12.setTop (mkF m 252 (lc45 i0 i1 i2 i3 i4 i5 0 0 1 0 b1 u1 br3 br6 1 1) [(.int 0), (.int 0)])) (fun t k => oifN Xr12 hx hby at_247 (by decide) (oiload Xr12 hx hby at_250 rfl k)) ?_
          refine own_go (U' := Tr12.setTop (mkF m 260 (lc45 i0 i1 i2 i3 i4 i5 0 0 1 0 b1 u1 br3 br6 1 1) [(.int 0), (.int 0)])) (fun t k => oifY (pc := 252) Xr12 hx hby at_252 259 (by decide) (by decide) (oiconst Xr12 hx hby at_259 k)) ?_
          have f41 : Exa Z Tr11.heap br3 zs8 := (f30.keep Kr11)
          have f42 : Fld Z Tr11.heap br3 zs8 "unit" zs1 (.ref u1) := (f34.keep Kr11 nin0)
          have f43 : Fld Z Tr11.heap br3 zs8 "first" zs9 .null := (f31.keep Kr11 nin0)
          have f44 : Sta Z Tr11.heap zs4 "MIDDLE" zs5 (.ref w2) := (own_staK f35 Kr11 all0)
          obtain ⟨_, Tr13, Lr13, Xr13, hQr13, str13⟩ := ocallV Xr12 hx hZ zm7 zm7 hown (ww hw 53 rfl) (ww hw 54 rfl) (notFace_of_selects (args := #[]) (mvT hZ (ww hw 56 rfl))) (ww hw 56 rfl) (ww hw 55 rfl) (by decide) (ww hw 57 rfl) (ww hw 10 rfl) er12 f41 (rm9_15 l Z a0 hw [] br3 u1 w2 Tr11.heap n0 Z_6 f42 f43 f44) (st := [(.ref br3)]) rfl 0 rfl (by decide) (pc := 272) (Ls := (lc48 i0 i1 i2 i3 i4 i5 0 0 1 0 b1 u1 br3 br6 1 1 1)) hml rfl (lenOf pd_7 rfl) at_272 hby
          obtain ⟨b3, rfl, Nr13q, Kr13, sz2, f45, f46, f47, f48, f49⟩ := hQr13
          have N11 := Fr.app N10 Nr13q
          have Z_7 : n0 ≤ Tr13.heap.size := Nat.le_trans Z_6 Kr13.1
          obtain ⟨_, Tr14, Lr14, Xr14, hQr14, str14⟩ := ocallV Xr13 hx hZ zm4 zm4 hown (ww hw 36 rfl) (ww hw 37 rfl) (notFace_of_selects (args := #[]) (mvT hZ (ww hw 39 rfl))) (ww hw 39 rfl) (ww hw 38 rfl) (by decide) (ww hw 40 rfl) (ww hw 10 rfl) rfl f45 (rm6_12 l Z a0 hw [] b3 Tr13.heap n0 Z_7 f47) (st := [(.ref b3)]) rfl 0 rfl (by decide) (pc := 275) (Ls := (lc48 i0 i1 i2 i3 i4 i5 0 0 1 0 b1 u1 br3 br6 1 1 1)) hml rfl (lenOf pd_4 rfl) at_275 hby
          obtain ⟨rfl, Nr14q, er14⟩ := hQr14
          have N12 := Fr.app N11 Nr14q
          refine own_go (U' := Tr14.setTop (mkF m 278 (lc48 i0 i1 i2 i3 i4 i5 0 0 1 0 b1 u1 br3 br6 1 1 1) [(.int 0)])) (fun t k => oicN Xr12 hx hby at_260 (by decide) (oiconst Xr12 hx hby at_263 (ogoto (pc := 264) Xr12 hx hby at_264 268 (by decide) (oistore Xr12 hx hby at_268 (lc48 i0 i1 i2 i3 i4 i5 0 0 1 0 b1 u1 br3 br6 1 1 1) rfl (oaload Xr12 hx hby at_270 rfl rfl (str13 _ (str14 _ k))))))) ?_
          have f50 : Exa Z Tr13.heap br3 zs8 := (f41.keep Kr13)
          have f51 : Fld Z Tr13.heap br3 zs8 "unit" zs1 (.ref u1) := (f42.keep Kr13 nin0)
          have f52 : Fld Z Tr13.heap br3 zs8 "last" zs9 .null := ((f33.keep Kr11 nin0).keep Kr13 nin0)
          have f53 : Sta Z Tr13.heap zs4 "MIDDLE" zs5 (.ref w2) := (own_staK f44 Kr13 all0)
          obtain ⟨_, Tr15, Lr15, Xr15, hQr15, str15⟩ := ocallV Xr14 hx hZ zm8 zm8 hown (ww hw 58 rfl) (ww hw 59 rfl) (notFace_of_selects (args := #[]) (mvT hZ (ww hw 61 rfl))) (ww hw 61 rfl) (ww hw 60 rfl) (by decide) (ww hw 62 rfl) (ww hw 10 rfl) er14 f50 (rm10_16 l Z a0 hw [] br3 u1 w2 Tr13.heap n0 Z_7 f51 f52 f53) (st := [(.ref br3)]) rfl 0 rfl (by decide) (pc := 290) (Ls := (lc49 i0 i1 i2 i3 i4 i5 0 0 1 0 b1 u1 br3 br6 1 1 1 1)) hml rfl (lenOf pd_7 rfl) at_290 hby
          obtain ⟨b4, rfl, Nr15q, Kr15, sz3, f54, f55, f56, f57, f58⟩ := hQr15
          have N13 := Fr.app N12 Nr15q
          have Z_8 : n0 ≤ Tr15.heap.size := Nat.le_trans Z_7 Kr15.1
          obtain ⟨_, Tr16, Lr16, Xr16, hQr16, str16⟩ := ocallV Xr15 hx hZ zm4 zm4 hown (ww hw 36 rfl) (ww hw 37 rfl) (notFace_of_selects (args := #[]) (mvT hZ (ww hw 39 rfl))) (ww hw 39 rfl) (ww hw 38 rfl) (by decide) (ww hw 40 rfl) (ww hw 10 rfl) rfl f54 (rm6_12 l Z a0 hw [] b4 Tr15.heap n0 Z_8 f56) (st := [(.ref b4)]) rfl 0 rfl (by decide) (pc := 293) (Ls := (lc49 i0 i1 i2 i3 i4 i5 0 0 1 0 b1 u1 br3 br6 1 1 1 1)) hml rfl (lenOf pd_4 rfl) at_293 hby
          obtain ⟨rfl, Nr16q, er16⟩ := hQr16
          have N14 := Fr.app N13 Nr16q
          refine own_go (U' := Tr16.setTop (mkF m 296 (lc49 i0 i1 i2 i3 i4 i5 0 0 1 0 b1 u1 br3 br6 1 1 1 1) [(.int 0)])) (fun t k => oifN Xr14 hx hby at_278 (by decide) (oiconst Xr14 hx hby at_281 (ogoto (pc := 282) Xr14 hx hby at_282 286 (by decide) (oistore Xr14 hx hby at_286 (lc49 i0 i1 i2 i3 i4 i5 0 0 1 0 b1 u1 br3 br6 1 1 1 1) rfl (oaload Xr14 hx hby at_288 rfl rfl (str15 _ (str16 _ k))))))) ?_
          refine own_go (U' := Tr16.setTop (mkF m 308 (lc50 i0 i1 i2 i3 i4 i5 0 0 1 0 b1 u1 br3 br6 1 1 1 1 1) [(.int 1)])) (fun t k => oifN Xr16 hx hby at_296 (by decide) (oiconst Xr16 hx hby at_299 (ogoto (pc := 300) Xr16 hx hby at_300 304 (by decide) (oistore Xr16 hx hby at_304 (lc50 i0 i1 i2 i3 i4 i5 0 0 1 0 b1 u1 br3 br6 1 1 1 1 1) rfl (oiload Xr16 hx hby at_306 rfl k))))) ?_
          refine own_go (U' := Tr16.setTop (mkF m 313 (lc50 i0 i1 i2 i3 i4 i5 0 0 1 0 b1 u1 br3 br6 1 1 1 1 1) [(.int 1)])) (fun t k => oifN Xr16 hx hby at_308 (by decide) (oiload Xr16 hx hby at_311 rfl k)) ?_
          refine own_go (U' := Tr16.setTop (mkF m 318 (lc50 i0 i1 i2 i3 i4 i5 0 0 1 0 b1 u1 br3 br6 1 1 1 1 1) [(.int 1)])) (fun t k => oifN Xr16 hx hby at_313 (by decide) (oiload Xr16 hx hby at_316 rfl k)) ?_
          refine own_go (U' := Tr16.setTop (mkF m 323 (lc50 i0 i1 i2 i3 i4 i5 0 0 1 0 b1 u1 br3 br6 1 1 1 1 1) [(.int 1)])) (fun t k => oifN Xr16 hx hby at_318 (by decide) (oiload Xr16 hx hby at_321 rfl k)) ?_
          refine own_go (U' := Tr16.setTop (mkF m 328 (lc50 i0 i1 i2 i3 i4 i5 0 0 1 0 b1 u1 br3 br6 1 1 1 1 1) [(.int 1)])) (fun t k => oifN Xr16 hx hby at_323 (by decide) (oiload Xr16 hx hby at_326 rfl k)) ?_
          refine own_go (U' := Tr16.setTop (mkF m 336 (lc50 i0 i1 i2 i3 i4 i5 0 0 1 0 b1 u1 br3 br6 1 1 1 1 1) [(.int 1)])) (fun t k => oifN Xr16 hx hby at_328 (by decide) (oiconst Xr16 hx hby at_331 (ogoto (pc := 332) Xr16 hx hby at_332 336 (by decide) k))) ?_
          obtain ⟨fs, hr, hrun, hended, hW, hsame⟩ := Xr16.leave (v := some (.int 1)) (fun h => by rw [Bd.returns] at h; cases h)
          refine own_out ⟨_, _, ?_, hrun, hended, _, _, rfl, ?_, ⟨_, rfl⟩, hW, hsame.mono (by decide) (by decide)⟩
          · exact retN Xr16 hx (t := .boolean) Bd.returns (by simp) (hb hby at_336) hr
          · exact ⟨rfl, N14⟩
        · have hc4 : ¬ ((i0 &&& (8 : Int32)) = (0 : Int32)) := hk5
          refine own_go (U' := s₁.setTop (mkF m 55 (lc4 i0 i1 i2 i3 i4 i5 0 0 1 1) [(.int 0)])) (fun t k => oifN X0 hx hby at_43 ((if0 _ _).trans (feq hc4).1) (oiconst X0 hx hby at_46 (ogoto (pc := 47) X0 hx hby at_47 51 (by decide) (oistore X0 hx hby at_51 (lc4 i0 i1 i2 i3 i4 i5 0 0 1 1) rfl (oiload X0 hx hby at_53 rfl k))))) ?_
          refine own_go (U' := s₁.setTop (mkF m 70 (lc5 i0 i1 i2 i3 i4 i5 0 0 1 1) [(.int 0)])) (fun t k => oifY (pc := 55) X0 hx hby at_55 65 (by decide) (by decide) (onull X0 hx hby at_65 (oastore X0 hx hby at_66 (lc5 i0 i1 i2 i3 i4 i5 0 0 1 1) rfl rfl (oiload X0 hx hby at_68 rfl k)))) ?_
          refine own_go (U' := s₁.setTop (mkF m 86 (lc6 i0 i1 i2 i3 i4 i5 0 0 1 1) [(.int 1)])) (fun t k => oifY (pc := 70) X0 hx hby at_70 81 (by decide) (by decide) (onull X0 hx hby at_81 (oastore X0 hx hby at_82 (lc6 i0 i1 i2 i3 i4 i5 0 0 1 1) rfl rfl (oiload X0 hx hby at_84 rfl k)))) ?_
          obtain ⟨_, Tr1, Lr1, Xr1, hQr1, str1⟩ := ocallS X0 hx hZ zm11 hown (ww hw 63 rfl) (ww hw 64 rfl) (by decide) (ww hw 66 rfl) (ww hw 65 rfl) e0 (mg11_22 l Z a0 hw [] i4 w8 h0 n0 Z0 S16 S18) (st := [(.long i4)]) rfl 0 rfl (by decide) (pc := 91) (Ls := (lc6 i0 i1 i2 i3 i4 i5 0 0 1 1)) hml rfl (lenOf pd_9 rfl) at_91 hby
          obtain ⟨b1, rfl, Nr1q, Kr1, f1, f2⟩ := hQr1
          have N1 := Fr.app N0 Nr1q
          refine own_go (U' := Tr1.setTop (mkF m 102 (lc38 i0 i1 i2 i3 i4 i5 0 0 1 1 b1) [(.int 1)])) (fun t k => oifN X0 hx hby at_86 (by decide) (olload X0 hx hby at_89 rfl (str1 _ (ogoto (pc := 94) Xr1 hx hby at_94 98 (by decide) (oastore Xr1 hx hby at_98 (lc38 i0 i1 i2 i3 i4 i5 0 0 1 1 b1) rfl rfl (oiload Xr1 hx hby at_100 rfl k)))))) ?_
          have f3 : Sta Z Tr1.heap zs19 "cache" zs20 (.ref w8) := (own_staK S16 Kr1 all0)
          have f4 : own_LC Z Tr1.heap w8 n0 := (S18.keep Kr1 all0)
          have Z_1 : n0 ≤ Tr1.heap.size := Nat.le_trans Z0 Kr1.1
          obtain ⟨_, Tr2, Lr2, Xr2, hQr2, str2⟩ := ocallS Xr1 hx hZ zm11 hown (ww hw 63 rfl) (ww hw 64 rfl) (by decide) (ww hw 66 rfl) (ww hw 65 rfl) rfl (mg11_22 l Z a0 hw [] i5 w8 Tr1.heap n0 Z_1 f3 f4) (st := [(.long i5)]) rfl 0 rfl (by decide) (pc := 107) (Ls := (lc38 i0 i1 i2 i3 i4 i5 0 0 1 1 b1)) hml rfl (lenOf pd_9 rfl) at_107 hby
          obtain ⟨b2, rfl, Nr2q, Kr2, f5, f6⟩ := hQr2
          have N2 := Fr.app N1 Nr2q
          have f7 : Sta Z Tr2.heap zs0 "DAY" zs1 (.ref w3) := (own_staK (own_staK S6 Kr1 all0) Kr2 all0)
          have f8 : Sta Z Tr2.heap zs0 "MONTH" zs1 (.ref w7) := (own_staK (own_staK S14 Kr1 all0) Kr2 all0)
          have f9 : Sta Z Tr2.heap zs0 "YEAR" zs1 (.ref w6) := (own_staK (own_staK S12 Kr1 all0) Kr2 all0)
          have f10 : Sta Z Tr2.heap zs0 "DECADE" zs1 (.ref w0) := (own_staK (own_staK S0 Kr1 all0) Kr2 all0)
          have f11 : Sta Z Tr2.heap zs0 "CENTURY" zs1 (.ref w5) := (own_staK (own_staK S10 Kr1 all0) Kr2 all0)
          have Z_2 : n0 ≤ Tr2.heap.size := Nat.le_trans Z_1 Kr2.1
          obtain ⟨_, Tr3, Lr3, Xr3, hQr3, str3⟩ := ocallS Xr2 hx hZ zm0 hown (ww hw 0 rfl) (ww hw 1 rfl) (by decide) (ww hw 3 rfl) (ww hw 2 rfl) rfl (mg1_5 l Z a0 hw [] i1 w3 w7 w6 w0 w5 Tr2.heap n0 Z_2 f7 f8 f9 f10 f11) (st := [(.int i1)]) rfl 0 rfl (by decide) (pc := 117) (Ls := (lc51 i0 i1 i2 i3 i4 i5 0 0 1 1 b1 b2)) hml rfl (lenOf pd_0 rfl) at_117 hby
          obtain ⟨rfl, Nr3q, er3⟩ := hQr3
          refine own_go (U' := Tr3.setTop (mkF m 120 (lc51 i0 i1 i2 i3 i4 i5 0 0 1 1 b1 b2) [(.ref (own_unit ((i1 &&& (2147483647 : Int32)) % (5 : Int32)) w3 w7 w6 w0 w5))])) (fun t k => oifN Xr1 hx hby at_102 (by decide) (olload Xr1 hx hby at_105 rfl (str2 _ (ogoto (pc := 110) Xr2 hx hby at_110 114 (by decide) (oastore Xr2 hx hby at_114 (lc51 i0 i1 i2 i3 i4 i5 0 0 1 1 b1 b2) rfl rfl (oiloadN Xr2 hx hby at_116 rfl (str3 _ k))))))) ?_
          obtain ⟨u1, hu1⟩ : ∃ z, z = (own_unit ((i1 &&& (2147483647 : Int32)) % (5 : Int32)) w3 w7 w6 w0 w5) := ⟨_, rfl⟩
          rw [← hu1]
          have N3 := Fr.app N2 Nr3q
          obtain ⟨Tr4, hr4, Xr4, er4, Er4, Ar4, Dr4, -, str4⟩ := newO Xr3 hx hZ hown (ww hw 8 rfl) (ww hw 9 rfl) (ww hw 10 rfl) er3 (g := (mkF m 122 (lc52 i0 i1 i2 i3 i4 i5 0 0 1 1 b1 b2 u1) [])) rfl (hb hby at_122) (by decide) (by decide)
          obtain ⟨br4, gr4⟩ : ∃ z, z = Tr2.heap.size := ⟨_, rfl⟩
          rw [← gr4] at Ar4 Dr4 str4
          have f12 : Fld Z hr4 br4 zs8 "unit" zs1 .null := Dr4 (Or.inr (ww hw 29 rfl)) (ty := (.object zs0)) (by decide)
          have f13 : Fld Z hr4 br4 zs8 "first" zs9 .null := Dr4 (Or.inr (ww hw 31 rfl)) (ty := (.object zs11)) (by decide)
          have f14 : Fld Z hr4 br4 zs8 "last" zs9 .null := Dr4 (Or.inr (ww hw 33 rfl)) (ty := (.object zs11)) (by decide)
          have f15 : Fld Z hr4 br4 zs8 "anchor" zs5 .null := Dr4 (Or.inr (ww hw 35 rfl)) (ty := (.object zs4)) (by decide)
          have f16 : Sta Z hr4 zs4 "FIRST" zs5 (.ref w1) := (Sta.ext Er4 (own_staK (own_staK S2 Kr1 all0) Kr2 all0))
          have f17 : Sta Z hr4 zs4 "MIDDLE" zs5 (.ref w2) := (Sta.ext Er4 (own_staK (own_staK S4 Kr1 all0) Kr2 all0))
          have f18 : Sta Z hr4 zs4 "LAST" zs5 (.ref w4) := (Sta.ext Er4 (own_staK (own_staK S8 Kr1 all0) Kr2 all0))
          have Z_3 : n0 ≤ hr4.size := Nat.le_trans Z_2 Er4.1
          obtain ⟨_, Tr5, Lr5, Xr5, hQr5, str5⟩ := ocallS Xr4 hx hZ zm1 hown (ww hw 11 rfl) (ww hw 12 rfl) (by decide) (ww hw 13 rfl) (ww hw 2 rfl) er4 (mg2_9 l Z a0 hw [] ((i0.toUInt32 >>> ((4 : Int32) &&& 31).toUInt32).toInt32) w1 w2 w4 hr4 n0 Z_3 f16 f17 f18) (st := [(.int ((i0.toUInt32 >>> ((4 : Int32) &&& 31).toUInt32).toInt32)), .null, .null, (.ref u1), (.ref br4), (.ref br4)]) rfl 5 rfl (by decide) (pc := 135) (Ls := (lc52 i0 i1 i2 i3 i4 i5 0 0 1 1 b1 b2 u1)) hml rfl (lenOf pd_1 rfl) at_135 hby
          obtain ⟨rfl, Nr5q, er5⟩ := hQr5
          refine own_go (U' := Tr5.setTop (mkF m 138 (lc52 i0 i1 i2 i3 i4 i5 0 0 1 1 b1 b2 u1) [(.ref (own_anch (((i0.toUInt32 >>> ((4 : Int32) &&& 31).toUInt32).toInt32) &&& (3 : Int32)) w1 w2 w4)), .null, .null, (.ref u1), (.ref br4), (.ref br4)])) (fun t k => oastore Xr3 hx hby at_120 (lc52 i0 i1 i2 i3 i4 i5 0 0 1 1 b1 b2 u1) rfl rfl (str4 _ (odup Xr4 hx hby at_125 rfl (oaload Xr4 hx hby at_126 rfl rfl (oaload Xr4 hx hby at_128 rfl rfl (oaload Xr4 hx hby at_130 rfl rfl (oiloadN Xr4 hx hby at_132 rfl (oiconst Xr4 hx hby at_133 (oiushr Xr4 hx hby at_134 (str5 _ k)))))))))) ?_
          obtain ⟨u2, hu2⟩ : ∃ z, z = (own_anch (((i0.toUInt32 >>> ((4 : Int32) &&& 31).toUInt32).toInt32) &&& (3 : Int32)) w1 w2 w4) := ⟨_, rfl⟩
          rw [← hu2]
          have N4 := Fr.app N3 Nr5q
          have g1 : n0 ≤ br4 := Nat.le_trans Z_2 (Nat.le_of_eq gr4.symm)
          obtain ⟨_, Tr6, Lr6, Xr6, hQr6, str6⟩ := ocallI Xr5 hx hZ zm3 rfl hown (ww hw 17 rfl) (ww hw 18 rfl) (by decide) (ww hw 19 rfl) (ww hw 10 rfl) er5 (rm3_11 l Z a0 hw [] br4 u1 u2 hr4 n0 Z_3 f12 f13 f14 f15 Ar4 g1) (st := [(.ref u2), .null, .null, (.ref u1), (.ref br4), (.ref br4)]) rfl 1 rfl (by decide) (pc := 138) (Ls := (lc52 i0 i1 i2 i3 i4 i5 0 0 1 1 b1 b2 u1)) hml rfl (lenOf pd_3 rfl) at_138 hby
          obtain ⟨rfl, Nr6q, Kr6, f19, f20, f21, f22⟩ := hQr6
          have N5 := Fr.app N4 Nr6q
          obtain ⟨Tr7, hr7, Xr7, er7, Er7, Ar7, Dr7, -, str7⟩ := newO Xr6 hx hZ hown (ww hw 8 rfl) (ww hw 9 rfl) (ww hw 10 rfl) rfl (g := (mkF m 143 (lc53 i0 i1 i2 i3 i4 i5 0 0 1 1 b1 b2 u1 br4) [])) rfl (hb hby at_143) (by decide) (by decide)
          obtain ⟨br7, gr7⟩ : ∃ z, z = Tr6.heap.size := ⟨_, rfl⟩
          rw [← gr7] at Ar7 Dr7 str7
          have f23 : Fld Z hr7 br7 zs8 "unit" zs1 .null := Dr7 (Or.inr (ww hw 29 rfl)) (ty := (.object zs0)) (by decide)
          have f24 : Fld Z hr7 br7 zs8 "first" zs9 .null := Dr7 (Or.inr (ww hw 31 rfl)) (ty := (.object zs11)) (by decide)
          have f25 : Fld Z hr7 br7 zs8 "last" zs9 .null := Dr7 (Or.inr (ww hw 33 rfl)) (ty := (.object zs11)) (by decide)
          have f26 : Fld Z hr7 br7 zs8 "anchor" zs5 .null := Dr7 (Or.inr (ww hw 35 rfl)) (ty := (.object zs4)) (by decide)
          have f27 : Sta Z hr7 zs4 "FIRST" zs5 (.ref w1) := (Sta.ext Er7 (own_staK f16 Kr6 (allS (own_nsE Ar4) all0)))
          have f28 : Sta Z hr7 zs4 "MIDDLE" zs5 (.ref w2) := (Sta.ext Er7 (own_staK f17 Kr6 (allS (own_nsE Ar4) all0)))
          have f29 : Sta Z hr7 zs4 "LAST" zs5 (.ref w4) := (Sta.ext Er7 (own_staK f18 Kr6 (allS (own_nsE Ar4) all0)))
          have Z_4 : n0 ≤ Tr6.heap.size := Nat.le_trans Z_3 Kr6.1
          have Z_5 : n0 ≤ hr7.size := Nat.le_trans Z_4 Er7.1
          obtain ⟨_, Tr8, Lr8, Xr8, hQr8, str8⟩ := ocallS Xr7 hx hZ zm1 hown (ww hw 11 rfl) (ww hw 12 rfl) (by decide) (ww hw 13 rfl) (ww hw 2 rfl) er7 (mg2_9 l Z a0 hw [] ((i0.toUInt32 >>> ((6 : Int32) &&& 31).toUInt32).toInt32) w1 w2 w4 hr7 n0 Z_5 f27 f28 f29) (st := [(.int ((i0.toUInt32 >>> ((6 : Int32) &&& 31).toUInt32).toInt32)), (.ref b2), (.ref b1), (.ref u1), (.ref br7), (.ref br7)]) rfl 5 rfl (by decide) (pc := 157) (Ls := (lc53 i0 i1 i2 i3 i4 i5 0 0 1 1 b1 b2 u1 br4)) hml rfl (lenOf pd_1 rfl) at_157 hby
          obtain ⟨rfl, Nr8q, er8⟩ := hQr8
          refine own_go (U' := Tr8.setTop (mkF m 160 (lc53 i0 i1 i2 i3 i4 i5 0 0 1 1 b1 b2 u1 br4) [(.ref (own_anch (((i0.toUInt32 >>> ((6 : Int32) &&& 31).toUInt32).toInt32) &&& (3 : Int32)) w1 w2 w4)), (.ref b2), (.ref b1), (.ref u1), (.ref br7), (.ref br7)])) (fun t k => str6 _ (oastore Xr6 hx hby at_141 (lc53 i0 i1 i2 i3 i4 i5 0 0 1 1 b1 b2 u1 br4) rfl rfl (str7 _ (odup Xr7 hx hby at_146 rfl (oaload Xr7 hx hby at_147 rfl rfl (oaload Xr7 hx hby at_149 rfl rfl (oaload Xr7 hx hby at_151 rfl rfl (oiloadN Xr7 hx hby at_153 rfl (obipush Xr7 hx hby at_154 (oiushr Xr7 hx hby at_156 (str8 _ k))))))))))) ?_
          obtain ⟨u3, hu3⟩ : ∃ z, z = (own_anch (((i0.toUInt32 >>> ((6 : Int32) &&& 31).toUInt32).toInt32) &&& (3 : Int32)) w1 w2 w4) := ⟨_, rfl⟩
          rw [← hu3]
          have N6 := Fr.app N5 Nr8q
          have g2 : n0 ≤ br7 := Nat.le_trans Z_4 (Nat.le_of_eq gr7.symm)
          obtain ⟨_, Tr9, Lr9, Xr9, hQr9, str9⟩ := ocallI Xr8 hx hZ zm3 rfl hown (ww hw 17 rfl) (ww hw 18 rfl) (by decide) (ww hw 19 rfl) (ww hw 10 rfl) er8 (rm3_30 l Z a0 hw [] br7 u1 b1 b2 u3 hr7 n0 Z_5 f23 f24 f25 f26 Ar7 g2) (st := [(.ref u3), (.ref b2), (.ref b1), (.ref u1), (.ref br7), (.ref br7)]) rfl 1 rfl (by decide) (pc := 160) (Ls := (lc53 i0 i1 i2 i3 i4 i5 0 0 1 1 b1 b2 u1 br4)) hml rfl (lenOf pd_3 rfl) at_160 hby
          obtain ⟨rfl, Nr9q, Kr9, f30, f31, f32, f33⟩ := hQr9
          have N7 := Fr.app N6 Nr9q
          have f34 : Exa Z Tr9.heap br4 zs8 := ((Exa.ext Er7 (Ar4.keep Kr6)).keep Kr9)
          have ne1 : br4 ≠ br7 := Nat.ne_of_lt (Nat.lt_of_lt_of_le (f19.lt) (Nat.le_of_eq gr7.symm))
          have f35 : Fld Z Tr9.heap br4 zs8 "first" zs9 .null := ((Fld.ext Er7 f20).keep Kr9 (ninS ne1 nin0))
          have Z_6 : n0 ≤ Tr9.heap.size := Nat.le_trans Z_5 Kr9.1
          obtain ⟨_, Tr10, Lr10, Xr10, hQr10, str10⟩ := ocallV Xr9 hx hZ zm4 zm4 hown (ww hw 36 rfl) (ww hw 37 rfl) (notFace_of_selects (args := #[]) (mvT hZ (ww hw 39 rfl))) (ww hw 39 rfl) (ww hw 38 rfl) (by decide) (ww hw 40 rfl) (ww hw 10 rfl) rfl f34 (rm6_12 l Z a0 hw [] br4 Tr9.heap n0 Z_6 f35) (st := [(.ref br4)]) rfl 0 rfl (by decide) (pc := 167) (Ls := (lc55 i0 i1 i2 i3 i4 i5 0 0 1 1 b1 b2 u1 br4 br7)) hml rfl (lenOf pd_4 rfl) at_167 hby
          obtain ⟨rfl, Nr10q, er10⟩ := hQr10
          have N8 := Fr.app N7 Nr10q
          refine own_go (U' := Tr10.setTop (mkF m 172 (lc55 i0 i1 i2 i3 i4 i5 0 0 1 1 b1 b2 u1 br4 br7) [(.int 0), (.int 0)])) (fun t k => str9 _ (oastore Xr9 hx hby at_163 (lc55 i0 i1 i2 i3 i4 i5 0 0 1 1 b1 b2 u1 br4 br7) rfl rfl (oaload Xr9 hx hby at_165 rfl rfl (str10 _ (oiload Xr10 hx hby at_170 rfl k))))) ?_
          refine own_go (U' := Tr10.setTop (mkF m 185 (lc55 i0 i1 i2 i3 i4 i5 0 0 1 1 b1 b2 u1 br4 br7) [(.int 0), (.int 0)])) (fun t k => oifY (pc := 172) Xr10 hx hby at_172 184 (by decide) (by decide) (oiconst Xr10 hx hby at_184 k)) ?_
          have f36 : Exa Z Tr9.heap br7 zs8 := (Ar7.keep Kr9)
          obtain ⟨_, Tr11, Lr11, Xr11, hQr11, str11⟩ := ocallV Xr10 hx hZ zm4 zm4 hown (ww hw 36 rfl) (ww hw 37 rfl) (notFace_of_selects (args := #[]) (mvT hZ (ww hw 39 rfl))) (ww hw 39 rfl) (ww hw 38 rfl) (by decide) (ww hw 40 rfl) (ww hw 10 rfl) er10 f36 (rm6_31 l Z a0 hw [] br7 b1 b2 Tr9.heap n0 Z_6 f31 f32) (st := [(.ref br7)]) rfl 0 rfl (by decide) (pc := 197) (Ls := (lc56 i0 i1 i2 i3 i4 i5 0 0 1 1 b1 b2 u1 br4 br7 1)) hml rfl (lenOf pd_4 rfl) at_197 hby
          obtain ⟨rfl, Nr11q, er11⟩ := hQr11
          have N9 := Fr.app N8 Nr11q
          refine own_go (U' := Tr11.setTop (mkF m 202 (lc56 i0 i1 i2 i3 i4 i5 0 0 1 1 b1 b2 u1 br4 br7 1) [(.int 1), (.int 1)])) (fun t k => oicN Xr10 hx hby at_185 (by decide) (oiconst Xr10 hx hby at_188 (ogoto (pc := 189) Xr10 hx hby at_189 193 (by decide) (oistore Xr10 hx hby at_193 (lc56 i0 i1 i2 i3 i4 i5 0 0 1 1 b1 b2 u1 br4 br7 1) rfl (oaload Xr10 hx hby at_195 rfl rfl (str11 _ (oiload Xr11 hx hby at_200 rfl k))))))) ?_
          refine own_go (U' := Tr11.setTop (mkF m 207 (lc56 i0 i1 i2 i3 i4 i5 0 0 1 1 b1 b2 u1 br4 br7 1) [(.int 1), (.int 1)])) (fun t k => oifN Xr11 hx hby at_202 (by decide) (oiload Xr11 hx hby at_205 rfl k)) ?_
          refine own_go (U' := Tr11.setTop (mkF m 215 (lc56 i0 i1 i2 i3 i4 i5 0 0 1 1 b1 b2 u1 br4 br7 1) [(.int 1), (.int 1)])) (fun t k => oifN Xr11 hx hby at_207 (by decide) (oiconst Xr11 hx hby at_210 (ogoto (pc := 211) Xr11 hx hby at_211 215 (by decide) k))) ?_
          have f37 : Fld Z Tr9.heap br4 zs8 "last" zs9 .null := ((Fld.ext Er7 f21).keep Kr9 (ninS ne1 nin0))
          have f38 : Fld Z Tr9.heap br4 zs8 "unit" zs1 (.ref u1) := ((Fld.ext Er7 f19).keep Kr9 (ninS ne1 nin0))
          have f39 : Sta Z Tr9.heap zs4 "MIDDLE" zs5 (.ref w2) := (own_staK f28 Kr9 (allS (own_nsF f23) all0))
          obtain ⟨_, Tr12, Lr12, Xr12, hQr12, str12⟩ := ocallV Xr11 hx hZ zm6 zm6 hown (ww hw 41 rfl) (ww hw 42 rfl) (notFace_of_selects (args := #[]) (mvT hZ (ww hw 44 rfl))) (ww hw 44 rfl) (ww hw 43 rfl) (by decide) (ww hw 45 rfl) (ww hw 10 rfl) er11 f34 (rm7_33 l Z a0 hw [] br4 br7 b1 b2 u1 w2 Tr9.heap n0 Z_6 f35 f31 f37 f32 f38 f39) (st := [(.ref br7), (.ref br4)]) rfl 0 rfl (by decide) (pc := 229) (Ls := (lc57 i0 i1 i2 i3 i4 i5 0 0 1 1 b1 b2 u1 br4 br7 1 1)) hml rfl (lenOf pd_6 rfl) at_229 hby
          obtain ⟨b3, rfl, Nr12q, Kr12, sz1, f40, f41, f42, f43, f44⟩ := hQr12
          have N10 := Fr.app N9 Nr12q
          have Z_7 : n0 ≤ Tr12.heap.size := Nat.le_trans Z_6 Kr12.1
          obtain ⟨_, Tr13, Lr13, Xr13, hQr13, str13⟩ := ocallV Xr12 hx hZ zm4 zm4 hown (ww hw 36 rfl) (ww hw 37 rfl) (notFace_of_selects (args := #[]) (mvT hZ (ww hw 39 rfl))) (ww hw 39 rfl) (ww hw 38 rfl) (by decide) (ww hw 40 rfl) (ww hw 10 rfl) rfl f40 (rm6_31 l Z a0 hw [] b3 b1 b2 Tr12.heap n0 Z_7 f42 f43) (st := [(.ref b3)]) rfl 0 rfl (by decide) (pc := 232) (Ls := (lc57 i0 i1 i2 i3 i4 i5 0 0 1 1 b1 b2 u1 br4 br7 1 1)) hml rfl (lenOf pd_4 rfl) at_232 hby
          obtain ⟨rfl, Nr13q, er13⟩ := hQr13
          have N11 := Fr.app N10 Nr13q
          refine own_go (U' := Tr13.setTop (mkF m 237 (lc57 i0 i1 i2 i3 i4 i5 0 0 1 1 b1 b2 u1 br4 br7 1 1) [(.int 0), (.int 1)])) (fun t k => oicN Xr11 hx hby at_215 (by decide) (oiconst Xr11 hx hby at_218 (ogoto (pc := 219) Xr11 hx hby at_219 223 (by decide) (oistore Xr11 hx hby at_223 (lc57 i0 i1 i2 i3 i4 i5 0 0 1 1 b1 b2 u1 br4 br7 1 1) rfl (oaload Xr11 hx hby at_225 rfl rfl (oaload Xr11 hx hby at_227 rfl rfl (str12 _ (str13 _ (oiload Xr13 hx hby at_235 rfl k))))))))) ?_
          refine own_go (U' := Tr13.setTop (mkF m 242 (lc57 i0 i1 i2 i3 i4 i5 0 0 1 1 b1 b2 u1 br4 br7 1 1) [(.int 1), (.int 1)])) (fun t k => oifN Xr13 hx hby at_237 (by decide) (oiload Xr13 hx hby at_240 rfl k)) ?_
          refine own_go (U' := Tr13.setTop (mkF m 247 (lc57 i0 i1 i2 i3 i4 i5 0 0 1 1 b1 b2 u1 br4 br7 1 1) [(.int 0), (.int 1)])) (fun t k => oifN Xr13 hx hby at_242 (by decide) (oiload Xr13 hx hby at_245 rfl k)) ?_
          refine own_go (U' := Tr13.setTop (mkF m 252 (lc57 i0 i1 i2 i3 i4 i5 0 0 1 1 b1 b2 u1 br4 br7 1 1) [(.int 1), (.int 1)])) (fun t k => oifN Xr13 hx hby at_247 (by decide) (oiload Xr13 hx hby at_250 rfl k)) ?_
          refine own_go (U' := Tr13.setTop (mkF m 260 (lc57 i0 i1 i2 i3 i4 i5 0 0 1 1 b1 b2 u1 br4 br7 1 1) [(.int 1), (.int 1)])) (fun t k => oifN Xr13 hx hby at_252 (by decide) (oiconst Xr13 hx hby at_255 (ogoto (pc := 256) Xr13 hx hby at_256 260 (by decide) k))) ?_
          have f45 : Exa Z Tr12.heap br4 zs8 := (f34.keep Kr12)
          have f46 : Fld Z Tr12.heap br4 zs8 "unit" zs1 (.ref u1) := (f38.keep Kr12 nin0)
          have f47 : Fld Z Tr12.heap br4 zs8 "first" zs9 .null := (f35.keep Kr12 nin0)
          have f48 : Sta Z Tr12.heap zs4 "MIDDLE" zs5 (.ref w2) := (own_staK f39 Kr12 all0)
          obtain ⟨_, Tr14, Lr14, Xr14, hQr14, str14⟩ := ocallV Xr13 hx hZ zm7 zm7 hown (ww hw 53 rfl) (ww hw 54 rfl) (notFace_of_selects (args := #[]) (mvT hZ (ww hw 56 rfl))) (ww hw 56 rfl) (ww hw 55 rfl) (by decide) (ww hw 57 rfl) (ww hw 10 rfl) er13 f45 (rm9_15 l Z a0 hw [] br4 u1 w2 Tr12.heap n0 Z_7 f46 f47 f48) (st := [(.ref br4)]) rfl 0 rfl (by decide) (pc := 272) (Ls := (lc59 i0 i1 i2 i3 i4 i5 0 0 1 1 b1 b2 u1 br4 br7 1 1 1)) hml rfl (lenOf pd_7 rfl) at_272 hby
          obtain ⟨b4, rfl, Nr14q, Kr14, sz2, f49, f50, f51, f52, f53⟩ := hQr14
          have N12 := Fr.app N11 Nr14q
          have Z_8 : n0 ≤ Tr14.heap.size := Nat.le_trans Z_7 Kr14.1
          obtain ⟨_, Tr15, Lr15, Xr15, hQr15, str15⟩ := ocallV Xr14 hx hZ zm4 zm4 hown (ww hw 36 rfl) (ww hw 37 rfl) (notFace_of_selects (args := #[]) (mvT hZ (ww hw 39 rfl))) (ww hw 39 rfl) (ww hw 38 rfl) (by decide) (ww hw 40 rfl) (ww hw 10 rfl) rfl f49 (rm6_12 l Z a0 hw [] b4 Tr14.heap n0 Z_8 f51) (st := [(.ref b4)]) rfl 0 rfl (by decide) (pc := 275) (Ls := (lc59 i0 i1 i2 i3 i4 i5 0 0 1 1 b1 b2 u1 br4 br7 1 1 1)) hml rfl (lenOf pd_4 rfl) at_275 hby
          obtain ⟨rfl, Nr15q, er15⟩ := hQr15
          have N13 := Fr.app N12 Nr15q
          refine own_go (U' := Tr15.setTop (mkF m 278 (lc59 i0 i1 i2 i3 i4 i5 0 0 1 1 b1 b2 u1 br4 br7 1 1 1) [(.int 0)])) (fun t k => oicN Xr13 hx hby at_260 (by decide) (oiconst Xr13 hx hby at_263 (ogoto (pc := 264) Xr13 hx hby at_264 268 (by decide) (oistore Xr13 hx hby at_268 (lc59 i0 i1 i2 i3 i4 i5 0 0 1 1 b1 b2 u1 br4 br7 1 1 1) rfl (oaload Xr13 hx hby at_270 rfl rfl (str14 _ (str15 _ k))))))) ?_
          have f54 : Exa Z Tr14.heap br4 zs8 := (f45.keep Kr14)
          have f55 : Fld Z Tr14.heap br4 zs8 "unit" zs1 (.ref u1) := (f46.keep Kr14 nin0)
          have f56 : Fld Z Tr14.heap br4 zs8 "last" zs9 .null := ((f37.keep Kr12 nin0).keep Kr14 nin0)
          have f57 : Sta Z Tr14.heap zs4 "MIDDLE" zs5 (.ref w2) := (own_staK f48 Kr14 all0)
          obtain ⟨_, Tr16, Lr16, Xr16, hQr16, str16⟩ := ocallV Xr15 hx hZ zm8 zm8 hown (ww hw 58 rfl) (ww hw 59 rfl) (notFace_of_selects (args := #[]) (mvT hZ (ww hw 61 rfl))) (ww hw 61 rfl) (ww hw 60 rfl) (by decide) (ww hw 62 rfl) (ww hw 10 rfl) er15 f54 (rm10_16 l Z a0 hw [] br4 u1 w2 Tr14.heap n0 Z_8 f55 f56 f57) (st := [(.ref br4)]) rfl 0 rfl (by decide) (pc := 290) (Ls := (lc60 i0 i1 i2 i3 i4 i5 0 0 1 1 b1 b2 u1 br4 br7 1 1 1 1)) hml rfl (lenOf pd_7 rfl) at_290 hby
          obtain ⟨b5, rfl, Nr16q, Kr16, sz3, f58, f59, f60, f61, f62⟩ := hQr16
          have N14 := Fr.app N13 Nr16q
          have Z_9 : n0 ≤ Tr16.heap.size := Nat.le_trans Z_8 Kr16.1
          obtain ⟨_, Tr17, Lr17, Xr17, hQr17, str17⟩ := ocallV Xr16 hx hZ zm4 zm4 hown (ww hw 36 rfl) (ww hw 37 rfl) (notFace_of_selects (args := #[]) (mvT hZ (ww hw 39 rfl))) (ww hw 39 rfl) (ww hw 38 rfl) (by decide) (ww hw 40 rfl) (ww hw 10 rfl) rfl f58 (rm6_12 l Z a0 hw [] b5 Tr16.heap n0 Z_9 f60) (st := [(.ref b5)]) rfl 0 rfl (by decide) (pc := 293) (Ls := (lc60 i0 i1 i2 i3 i4 i5 0 0 1 1 b1 b2 u1 br4 br7 1 1 1 1)) hml rfl (lenOf pd_4 rfl) at_293 hby
          obtain ⟨rfl, Nr17q, er17⟩ := hQr17
          have N15 := Fr.app N14 Nr17q
          refine own_go (U' := Tr17.setTop (mkF m 296 (lc60 i0 i1 i2 i3 i4 i5 0 0 1 1 b1 b2 u1 br4 br7 1 1 1 1) [(.int 0)])) (fun t k => oifN Xr15 hx hby at_278 (by decide) (oiconst Xr15 hx hby at_281 (ogoto (pc := 282) Xr15 hx hby at_282 286 (by decide) (oistore Xr15 hx hby at_286 (lc60 i0 i1 i2 i3 i4 i5 0 0 1 1 b1 b2 u1 br4 br7 1 1 1 1) rfl (oaload Xr15 hx hby at_288 rfl rfl (str16 _ (str17 _ k))))))) ?_
          refine own_go (U' := Tr17.setTop (mkF m 308 (lc61 i0 i1 i2 i3 i4 i5 0 0 1 1 b1 b2 u1 br4 br7 1 1 1 1 1) [(.int 1)])) (fun t k => oifN Xr17 hx hby at_296 (by decide) (oiconst Xr17 hx hby at_299 (ogoto (pc := 300) Xr17 hx hby at_300 304 (by decide) (oistore Xr17 hx hby at_304 (lc61 i0 i1 i2 i3 i4 i5 0 0 1 1 b1 b2 u1 br4 br7 1 1 1 1 1) rfl (oiload Xr17 hx hby at_306 rfl k))))) ?_
          refine own_go (U' := Tr17.setTop (mkF m 313 (lc61 i0 i1 i2 i3 i4 i5 0 0 1 1 b1 b2 u1 br4 br7 1 1 1 1 1) [(.int 1)])) (fun t k => oifN Xr17 hx hby at_308 (by decide) (oiload Xr17 hx hby at_311 rfl k)) ?_
          refine own_go (U' := Tr17.setTop (mkF m 318 (lc61 i0 i1 i2 i3 i4 i5 0 0 1 1 b1 b2 u1 br4 br7 1 1 1 1 1) [(.int 1)])) (fun t k => oifN Xr17 hx hby at_313 (by decide) (oiload Xr17 hx hby at_316 rfl k)) ?_
          refine own_go (U' := Tr17.setTop (mkF m 323 (lc61 i0 i1 i2 i3 i4 i5 0 0 1 1 b1 b2 u1 br4 br7 1 1 1 1 1) [(.int 1)])) (fun t k => oifN Xr17 hx hby at_318 (by decide) (oiload Xr17 hx hby at_321 rfl k)) ?_
          refine own_go (U' := Tr17.setTop (mkF m 328 (lc61 i0 i1 i2 i3 i4 i5 0 0 1 1 b1 b2 u1 br4 br7 1 1 1 1 1) [(.int 1)])) (fun t k => oifN Xr17 hx hby at_323 (by decide) (oiload Xr17 hx hby at_326 rfl k)) ?_
          refine own_go (U' := Tr17.setTop (mkF m 336 (lc61 i0 i1 i2 i3 i4 i5 0 0 1 1 b1 b2 u1 br4 br7 1 1 1 1 1) [(.int 1)])) (fun t k => oifN Xr17 hx hby at_328 (by decide) (oiconst Xr17 hx hby at_331 (ogoto (pc := 332) Xr17 hx hby at_332 336 (by decide) k))) ?_
          obtain ⟨fs, hr, hrun, hended, hW, hsame⟩ := Xr17.leave (v := some (.int 1)) (fun h => by rw [Bd.returns] at h; cases h)
          refine own_out ⟨_, _, ?_, hrun, hended, _, _, rfl, ?_, ⟨_, rfl⟩, hW, hsame.mono (by decide) (by decide)⟩
          · exact retN Xr17 hx (t := .boolean) Bd.returns (by simp) (hb hby at_336) hr
          · exact ⟨rfl, N15⟩
    · have hc6 : ¬ ((i0 &&& (2 : Int32)) = (0 : Int32)) := hk2
      refine own_go (U' := s₁.setTop (mkF m 29 (lc2 i0 i1 i2 i3 i4 i5 0 1) [(.int (i0 &&& (4 : Int32)))])) (fun t k => oifN X0 hx hby at_16 ((if0 _ _).trans (feq hc6).1) (oiconst X0 hx hby at_19 (ogoto (pc := 20) X0 hx hby at_20 24 (by decide) (oistore X0 hx hby at_24 (lc2 i0 i1 i2 i3 i4 i5 0 1) rfl (oiloadN X0 hx hby at_26 rfl (oiconst X0 hx hby at_27 (oiand X0 hx hby at_28 k))))))) ?_
      by_cases hk6 : (i0 &&& (4 : Int32)) = (0 : Int32)
      · have hc2 : (i0 &&& (4 : Int32)) = (0 : Int32) := hk6
        refine own_go (U' := s₁.setTop (mkF m 43 (lc3 i0 i1 i2 i3 i4 i5 0 1 0) [(.int (i0 &&& (8 : Int32)))])) (fun t k => oifY (pc := 29) X0 hx hby at_29 36 ((if0 _ _).trans (teq hc2).1) (by decide) (oiconst X0 hx hby at_36 (oistore X0 hx hby at_37 (lc3 i0 i1 i2 i3 i4 i5 0 1 0) rfl (oiloadN X0 hx hby at_39 rfl (obipush X0 hx hby at_40 (oiand X0 hx hby at_42 k)))))) ?_
        by_cases hk7 : (i0 &&& (8 : Int32)) = (0 : Int32)
        · have hc3 : (i0 &&& (8 : Int32)) = (0 : Int32) := hk7
          refine own_go (U' := s₁.setTop (mkF m 55 (lc4 i0 i1 i2 i3 i4 i5 0 1 0 0) [(.int 0)])) (fun t k => oifY (pc := 43) X0 hx hby at_43 50 ((if0 _ _).trans (teq hc3).1) (by decide) (oiconst X0 hx hby at_50 (oistore X0 hx hby at_51 (lc4 i0 i1 i2 i3 i4 i5 0 1 0 0) rfl (oiload X0 hx hby at_53 rfl k)))) ?_
          refine own_go (U' := s₁.setTop (mkF m 70 (lc5 i0 i1 i2 i3 i4 i5 0 1 0 0) [(.int 1)])) (fun t k => oifY (pc := 55) X0 hx hby at_55 65 (by decide) (by decide) (onull X0 hx hby at_65 (oastore X0 hx hby at_66 (lc5 i0 i1 i2 i3 i4 i5 0 1 0 0) rfl rfl (oiload X0 hx hby at_68 rfl k)))) ?_
          obtain ⟨_, Tr1, Lr1, Xr1, hQr1, str1⟩ := ocallS X0 hx hZ zm11 hown (ww hw 63 rfl) (ww hw 64 rfl) (by decide) (ww hw 66 rfl) (ww hw 65 rfl) e0 (mg11_22 l Z a0 hw [] i3 w8 h0 n0 Z0 S16 S18) (st := [(.long i3)]) rfl 0 rfl (by decide) (pc := 75) (Ls := (lc5 i0 i1 i2 i3 i4 i5 0 1 0 0)) hml rfl (lenOf pd_9 rfl) at_75 hby
          obtain ⟨b1, rfl, Nr1q, Kr1, f1, f2⟩ := hQr1
          have N1 := Fr.app N0 Nr1q
          refine own_go (U' := Tr1.setTop (mkF m 86 (lc62 i0 i1 i2 i3 i4 i5 0 1 0 0 b1) [(.int 0)])) (fun t k => oifN X0 hx hby at_70 (by decide) (olload X0 hx hby at_73 rfl (str1 _ (ogoto (pc := 78) Xr1 hx hby at_78 82 (by decide) (oastore Xr1 hx hby at_82 (lc62 i0 i1 i2 i3 i4 i5 0 1 0 0 b1) rfl rfl (oiload Xr1 hx hby at_84 rfl k)))))) ?_
          refine own_go (U' := Tr1.setTop (mkF m 102 (lc63 i0 i1 i2 i3 i4 i5 0 1 0 0 b1) [(.int 0)])) (fun t k => oifY (pc := 86) Xr1 hx hby at_86 97 (by decide) (by decide) (onull Xr1 hx hby at_97 (oastore Xr1 hx hby at_98 (lc63 i0 i1 i2 i3 i4 i5 0 1 0 0 b1) rfl rfl (oiload Xr1 hx hby at_100 rfl k)))) ?_
          have f3 : Sta Z Tr1.heap zs0 "DAY" zs1 (.ref w3) := (own_staK S6 Kr1 all0)
          have f4 : Sta Z Tr1.heap zs0 "MONTH" zs1 (.ref w7) := (own_staK S14 Kr1 all0)
          have f5 : Sta Z Tr1.heap zs0 "YEAR" zs1 (.ref w6) := (own_staK S12 Kr1 all0)
          have f6 : Sta Z Tr1.heap zs0 "DECADE" zs1 (.ref w0) := (own_staK S0 Kr1 all0)
          have f7 : Sta Z Tr1.heap zs0 "CENTURY" zs1 (.ref w5) := (own_staK S10 Kr1 all0)
          have Z_1 : n0 ≤ Tr1.heap.size := Nat.le_trans Z0 Kr1.1
          obtain ⟨_, Tr2, Lr2, Xr2, hQr2, str2⟩ := ocallS Xr1 hx hZ zm0 hown (ww hw 0 rfl) (ww hw 1 rfl) (by decide) (ww hw 3 rfl) (ww hw 2 rfl) rfl (mg1_5 l Z a0 hw [] i1 w3 w7 w6 w0 w5 Tr1.heap n0 Z_1 f3 f4 f5 f6 f7) (st := [(.int i1)]) rfl 0 rfl (by decide) (pc := 117) (Ls := (lc64 i0 i1 i2 i3 i4 i5 0 1 0 0 b1)) hml rfl (lenOf pd_0 rfl) at_117 hby
          obtain ⟨rfl, Nr2q, er2⟩ := hQr2
          refine own_go (U' := Tr2.setTop (mkF m 120 (lc64 i0 i1 i2 i3 i4 i5 0 1 0 0 b1) [(.ref (own_unit ((i1 &&& (2147483647 : Int32)) % (5 : Int32)) w3 w7 w6 w0 w5))])) (fun t k => oifY (pc := 102) Xr1 hx hby at_102 113 (by decide) (by decide) (onull Xr1 hx hby at_113 (oastore Xr1 hx hby at_114 (lc64 i0 i1 i2 i3 i4 i5 0 1 0 0 b1) rfl rfl (oiloadN Xr1 hx hby at_116 rfl (str2 _ k))))) ?_
          obtain ⟨u1, hu1⟩ : ∃ z, z = (own_unit ((i1 &&& (2147483647 : Int32)) % (5 : Int32)) w3 w7 w6 w0 w5) := ⟨_, rfl⟩
          rw [← hu1]
          have N2 := Fr.app N1 Nr2q
          obtain ⟨Tr3, hr3, Xr3, er3, Er3, Ar3, Dr3, -, str3⟩ := newO Xr2 hx hZ hown (ww hw 8 rfl) (ww hw 9 rfl) (ww hw 10 rfl) er2 (g := (mkF m 122 (lc65 i0 i1 i2 i3 i4 i5 0 1 0 0 b1 u1) [])) rfl (hb hby at_122) (by decide) (by decide)
          obtain ⟨br3, gr3⟩ : ∃ z, z = Tr1.heap.size := ⟨_, rfl⟩
          rw [← gr3] at Ar3 Dr3 str3
          have f8 : Fld Z hr3 br3 zs8 "unit" zs1 .null := Dr3 (Or.inr (ww hw 29 rfl)) (ty := (.object zs0)) (by decide)
          have f9 : Fld Z hr3 br3 zs8 "first" zs9 .null := Dr3 (Or.inr (ww hw 31 rfl)) (ty := (.object zs11)) (by decide)
          have f10 : Fld Z hr3 br3 zs8 "last" zs9 .null := Dr3 (Or.inr (ww hw 33 rfl)) (ty := (.object zs11)) (by decide)
          have f11 : Fld Z hr3 br3 zs8 "anchor" zs5 .null := Dr3 (Or.inr (ww hw 35 rfl)) (ty := (.object zs4)) (by decide)
          have f12 : Sta Z hr3 zs4 "FIRST" zs5 (.ref w1) := (Sta.ext Er3 (own_staK S2 Kr1 all0))
          have f13 : Sta Z hr3 zs4 "MIDDLE" zs5 (.ref w2) := (Sta.ext Er3 (own_staK S4 Kr1 all0))
          have f14 : Sta Z hr3 zs4 "LAST" zs5 (.ref w4) := (Sta.ext Er3 (own_staK S8 Kr1 all0))
          have Z_2 : n0 ≤ hr3.size := Nat.le_trans Z_1 Er3.1
          obtain ⟨_, Tr4, Lr4, Xr4, hQr4, str4⟩ := ocallS Xr3 hx hZ zm1 hown (ww hw 11 rfl) (ww hw 12 rfl) (by decide) (ww hw 13 rfl) (ww hw 2 rfl) er3 (mg2_9 l Z a0 hw [] ((i0.toUInt32 >>> ((4 : Int32) &&& 31).toUInt32).toInt32) w1 w2 w4 hr3 n0 Z_2 f12 f13 f14) (st := [(.int ((i0.toUInt32 >>> ((4 : Int32) &&& 31).toUInt32).toInt32)), (.ref b1), .null, (.ref u1), (.ref br3), (.ref br3)]) rfl 5 rfl (by decide) (pc := 135) (Ls := (lc65 i0 i1 i2 i3 i4 i5 0 1 0 0 b1 u1)) hml rfl (lenOf pd_1 rfl) at_135 hby
          obtain ⟨rfl, Nr4q, er4⟩ := hQr4
          refine own_go (U' := Tr4.setTop (mkF m 138 (lc65 i0 i1 i2 i3 i4 i5 0 1 0 0 b1 u1) [(.ref (own_anch (((i0.toUInt32 >>> ((4 : Int32) &&& 31).toUInt32).toInt32) &&& (3 : Int32)) w1 w2 w4)), (.ref b1), .null, (.ref u1), (.ref br3), (.ref br3)])) (fun t k => oastore Xr2 hx hby at_120 (lc65 i0 i1 i2 i3 i4 i5 0 1 0 0 b1 u1) rfl rfl (str3 _ (odup Xr3 hx hby at_125 rfl (oaload Xr3 hx hby at_126 rfl rfl (oaload Xr3 hx hby at_128 rfl rfl (oaload Xr3 hx hby at_130 rfl rfl (oiloadN Xr3 hx hby at_132 rfl (oiconst Xr3 hx hby at_133 (oiushr Xr3 hx hby at_134 (str4 _ k)))))))))) ?_
          obtain ⟨u2, hu2⟩ : ∃ z, z = (own_anch (((i0.toUInt32 >>> ((4 : Int32) &&& 31).toUInt32).toInt32) &&& (3 : Int32)) w1 w2 w4) := ⟨_, rfl⟩
          rw [← hu2]
          have N3 := Fr.app N2 Nr4q
          have g1 : n0 ≤ br3 := Nat.le_trans Z_1 (Nat.le_of_eq gr3.symm)
          obtain ⟨_, Tr5, Lr5, Xr5, hQr5, str5⟩ := ocallI Xr4 hx hZ zm3 rfl hown (ww hw 17 rfl) (ww hw 18 rfl) (by decide) (ww hw 19 rfl) (ww hw 10 rfl) er4 (rm3_23 l Z a0 hw [] br3 u1 b1 u2 hr3 n0 Z_2 f8 f9 f10 f11 Ar3 g1) (st := [(.ref u2), (.ref b1), .null, (.ref u1), (.ref br3), (.ref br3)]) rfl 1 rfl (by decide) (pc := 138) (Ls := (lc65 i0 i1 i2 i3 i4 i5 0 1 0 0 b1 u1)) hml rfl (lenOf pd_3 rfl) at_138 hby
          obtain ⟨rfl, Nr5q, Kr5, f15, f16, f17, f18⟩ := hQr5
          have N4 := Fr.app N3 Nr5q
          obtain ⟨Tr6, hr6, Xr6, er6, Er6, Ar6, Dr6, -, str6⟩ := newO Xr5 hx hZ hown (ww hw 8 rfl) (ww hw 9 rfl) (ww hw 10 rfl) rfl (g := (mkF m 143 (lc66 i0 i1 i2 i3 i4 i5 0 1 0 0 b1 u1 br3) [])) rfl (hb hby at_143) (by decide) (by decide)
          obtain ⟨br6, gr6⟩ : ∃ z, z = Tr5.heap.size := ⟨_, rfl⟩
          rw [← gr6] at Ar6 Dr6 str6
          have f19 : Fld Z hr6 br6 zs8 "unit" zs1 .null := Dr6 (Or.inr (ww hw 29 rfl)) (ty := (.object zs0)) (by decide)
          have f20 : Fld Z hr6 br6 zs8 "first" zs9 .null := Dr6 (Or.inr (ww hw 31 rfl)) (ty := (.object zs11)) (by decide)
          have f21 : Fld Z hr6 br6 zs8 "last" zs9 .null := Dr6 (Or.inr (ww hw 33 rfl)) (ty := (.object zs11)) (by decide)
          have f22 : Fld Z hr6 br6 zs8 "anchor" zs5 .null := Dr6 (Or.inr (ww hw 35 rfl)) (ty := (.object zs4)) (by decide)
          have f23 : Sta Z hr6 zs4 "FIRST" zs5 (.ref w1) := (Sta.ext Er6 (own_staK f12 Kr5 (allS (own_nsE Ar3) all0)))
          have f24 : Sta Z hr6 zs4 "MIDDLE" zs5 (.ref w2) := (Sta.ext Er6 (own_staK f13 Kr5 (allS (own_nsE Ar3) all0)))
          have f25 : Sta Z hr6 zs4 "LAST" zs5 (.ref w4) := (Sta.ext Er6 (own_staK f14 Kr5 (allS (own_nsE Ar3) all0)))
          have Z_3 : n0 ≤ Tr5.heap.size := Nat.le_trans Z_2 Kr5.1
          have Z_4 : n0 ≤ hr6.size := Nat.le_trans Z_3 Er6.1
          obtain ⟨_, Tr7, Lr7, Xr7, hQr7, str7⟩ := ocallS Xr6 hx hZ zm1 hown (ww hw 11 rfl) (ww hw 12 rfl) (by decide) (ww hw 13 rfl) (ww hw 2 rfl) er6 (mg2_9 l Z a0 hw [] ((i0.toUInt32 >>> ((6 : Int32) &&& 31).toUInt32).toInt32) w1 w2 w4 hr6 n0 Z_4 f23 f24 f25) (st := [(.int ((i0.toUInt32 >>> ((6 : Int32) &&& 31).toUInt32).toInt32)), .null, .null, (.ref u1), (.ref br6), (.ref br6)]) rfl 5 rfl (by decide) (pc := 157) (Ls := (lc66 i0 i1 i2 i3 i4 i5 0 1 0 0 b1 u1 br3)) hml rfl (lenOf pd_1 rfl) at_157 hby
          obtain ⟨rfl, Nr7q, er7⟩ := hQr7
          refine own_go (U' := Tr7.setTop (mkF m 160 (lc66 i0 i1 i2 i3 i4 i5 0 1 0 0 b1 u1 br3) [(.ref (own_anch (((i0.toUInt32 >>> ((6 : Int32) &&& 31).toUInt32).toInt32) &&& (3 : Int32)) w1 w2 w4)), .null, .null, (.ref u1), (.ref br6), (.ref br6)])) (fun t k => str5 _ (oastore Xr5 hx hby at_141 (lc66 i0 i1 i2 i3 i4 i5 0 1 0 0 b1 u1 br3) rfl rfl (str6 _ (odup Xr6 hx hby at_146 rfl (oaload Xr6 hx hby at_147 rfl rfl (oaload Xr6 hx hby at_149 rfl rfl (oaload Xr6 hx hby at_151 rfl rfl (oiloadN Xr6 hx hby at_153 rfl (obipush Xr6 hx hby at_154 (oiushr Xr6 hx hby at_156 (str7 _ k))))))))))) ?_
          obtain ⟨u3, hu3⟩ : ∃ z, z = (own_anch (((i0.toUInt32 >>> ((6 : Int32) &&& 31).toUInt32).toInt32) &&& (3 : Int32)) w1 w2 w4) := ⟨_, rfl⟩
          rw [← hu3]
          have N5 := Fr.app N4 Nr7q
          have g2 : n0 ≤ br6 := Nat.le_trans Z_3 (Nat.le_of_eq gr6.symm)
          obtain ⟨_, Tr8, Lr8, Xr8, hQr8, str8⟩ := ocallI Xr7 hx hZ zm3 rfl hown (ww hw 17 rfl) (ww hw 18 rfl) (by decide) (ww hw 19 rfl) (ww hw 10 rfl) er7 (rm3_11 l Z a0 hw [] br6 u1 u3 hr6 n0 Z_4 f19 f20 f21 f22 Ar6 g2) (st := [(.ref u3), .null, .null, (.ref u1), (.ref br6), (.ref br6)]) rfl 1 rfl (by decide) (pc := 160) (Ls := (lc66 i0 i1 i2 i3 i4 i5 0 1 0 0 b1 u1 br3)) hml rfl (lenOf pd_3 rfl) at_160 hby
          obtain ⟨rfl, Nr8q, Kr8, f26, f27, f28, f29⟩ := hQr8
          have N6 := Fr.app N5 Nr8q
          have f30 : Exa Z Tr8.heap br3 zs8 := ((Exa.ext Er6 (Ar3.keep Kr5)).keep Kr8)
          have ne1 : br3 ≠ br6 := Nat.ne_of_lt (Nat.lt_of_lt_of_le (f15.lt) (Nat.le_of_eq gr6.symm))
          have f31 : Fld Z Tr8.heap br3 zs8 "first" zs9 .null := ((Fld.ext Er6 f16).keep Kr8 (ninS ne1 nin0))
          have Z_5 : n0 ≤ Tr8.heap.size := Nat.le_trans Z_4 Kr8.1
          obtain ⟨_, Tr9, Lr9, Xr9, hQr9, str9⟩ := ocallV Xr8 hx hZ zm4 zm4 hown (ww hw 36 rfl) (ww hw 37 rfl) (notFace_of_selects (args := #[]) (mvT hZ (ww hw 39 rfl))) (ww hw 39 rfl) (ww hw 38 rfl) (by decide) (ww hw 40 rfl) (ww hw 10 rfl) rfl f30 (rm6_12 l Z a0 hw [] br3 Tr8.heap n0 Z_5 f31) (st := [(.ref br3)]) rfl 0 rfl (by decide) (pc := 167) (Ls := (lc67 i0 i1 i2 i3 i4 i5 0 1 0 0 b1 u1 br3 br6)) hml rfl (lenOf pd_4 rfl) at_167 hby
          obtain ⟨rfl, Nr9q, er9⟩ := hQr9
          have N7 := Fr.app N6 Nr9q
          refine own_go (U' := Tr9.setTop (mkF m 172 (lc67 i0 i1 i2 i3 i4 i5 0 1 0 0 b1 u1 br3 br6) [(.int 0), (.int 0)])) (fun t k => str8 _ (oastore Xr8 hx hby at_163 (lc67 i0 i1 i2 i3 i4 i5 0 1 0 0 b1 u1 br3 br6) rfl rfl (oaload Xr8 hx hby at_165 rfl rfl (str9 _ (oiload Xr9 hx hby at_170 rfl k))))) ?_
          refine own_go (U' := Tr9.setTop (mkF m 185 (lc67 i0 i1 i2 i3 i4 i5 0 1 0 0 b1 u1 br3 br6) [(.int 0), (.int 0)])) (fun t k => oifY (pc := 172) Xr9 hx hby at_172 184 (by decide) (by decide) (oiconst Xr9 hx hby at_184 k)) ?_
          have f32 : Exa Z Tr8.heap br6 zs8 := (Ar6.keep Kr8)
          obtain ⟨_, Tr10, Lr10, Xr10, hQr10, str10⟩ := ocallV Xr9 hx hZ zm4 zm4 hown (ww hw 36 rfl) (ww hw 37 rfl) (notFace_of_selects (args := #[]) (mvT hZ (ww hw 39 rfl))) (ww hw 39 rfl) (ww hw 38 rfl) (by decide) (ww hw 40 rfl) (ww hw 10 rfl) er9 f32 (rm6_12 l Z a0 hw [] br6 Tr8.heap n0 Z_5 f27) (st := [(.ref br6)]) rfl 0 rfl (by decide) (pc := 197) (Ls := (lc68 i0 i1 i2 i3 i4 i5 0 1 0 0 b1 u1 br3 br6 1)) hml rfl (lenOf pd_4 rfl) at_197 hby
          obtain ⟨rfl, Nr10q, er10⟩ := hQr10
          have N8 := Fr.app N7 Nr10q
          refine own_go (U' := Tr10.setTop (mkF m 202 (lc68 i0 i1 i2 i3 i4 i5 0 1 0 0 b1 u1 br3 br6 1) [(.int 0), (.int 0)])) (fun t k => oicN Xr9 hx hby at_185 (by decide) (oiconst Xr9 hx hby at_188 (ogoto (pc := 189) Xr9 hx hby at_189 193 (by decide) (oistore Xr9 hx hby at_193 (lc68 i0 i1 i2 i3 i4 i5 0 1 0 0 b1 u1 br3 br6 1) rfl (oaload Xr9 hx hby at_195 rfl rfl (str10 _ (oiload Xr10 hx hby at_200 rfl k))))))) ?_
          refine own_go (U' := Tr10.setTop (mkF m 215 (lc68 i0 i1 i2 i3 i4 i5 0 1 0 0 b1 u1 br3 br6 1) [(.int 0), (.int 0)])) (fun t k => oifY (pc := 202) Xr10 hx hby at_202 214 (by decide) (by decide) (oiconst Xr10 hx hby at_214 k)) ?_
          have f33 : Fld Z Tr8.heap br3 zs8 "last" zs9 (.ref b1) := ((Fld.ext Er6 f17).keep Kr8 (ninS ne1 nin0))
          have f34 : Fld Z Tr8.heap br3 zs8 "unit" zs1 (.ref u1) := ((Fld.ext Er6 f15).keep Kr8 (ninS ne1 nin0))
          have f35 : Sta Z Tr8.heap zs4 "MIDDLE" zs5 (.ref w2) := (own_staK f24 Kr8 (allS (own_nsF f19) all0))
          obtain ⟨_, Tr11, Lr11, Xr11, hQr11, str11⟩ := ocallV Xr10 hx hZ zm6 zm6 hown (ww hw 41 rfl) (ww hw 42 rfl) (notFace_of_selects (args := #[]) (mvT hZ (ww hw 44 rfl))) (ww hw 44 rfl) (ww hw 43 rfl) (by decide) (ww hw 45 rfl) (ww hw 10 rfl) er10 f30 (rm7_34 l Z a0 hw [] br3 br6 b1 u1 w2 Tr8.heap n0 Z_5 f31 f27 f33 f28 f34 f35) (st := [(.ref br6), (.ref br3)]) rfl 0 rfl (by decide) (pc := 229) (Ls := (lc69 i0 i1 i2 i3 i4 i5 0 1 0 0 b1 u1 br3 br6 1 1)) hml rfl (lenOf pd_6 rfl) at_229 hby
          obtain ⟨b2, rfl, Nr11q, Kr11, sz1, f36, f37, f38, f39, f40⟩ := hQr11
          have N9 := Fr.app N8 Nr11q
          have Z_6 : n0 ≤ Tr11.heap.size := Nat.le_trans Z_5 Kr11.1
          obtain ⟨_, Tr12, Lr12, Xr12, hQr12, str12⟩ := ocallV Xr11 hx hZ zm4 zm4 hown (ww hw 36 rfl) (ww hw 37 rfl) (notFace_of_selects (args := #[]) (mvT hZ (ww hw 39 rfl))) (ww hw 39 rfl) (ww hw 38 rfl) (by decide) (ww hw 40 rfl) (ww hw 10 rfl) rfl f36 (rm6_12 l Z a0 hw [] b2 Tr11.heap n0 Z_6 f38) (st := [(.ref b2)]) rfl 0 rfl (by decide) (pc := 232) (Ls := (lc69 i0 i1 i2 i3 i4 i5 0 1 0 0 b1 u1 br3 br6 1 1)) hml rfl (lenOf pd_4 rfl) at_232 hby
          obtain ⟨rfl, Nr12q, er12⟩ := hQr12
          have N10 := Fr.app N9 Nr12q
          refine own_go (U' := Tr12.setTop (mkF m 237 (lc69 i0 i1 i2 i3 i4 i5 0 1 0 0 b1 u1 br3 br6 1 1) [(.int 0), (.int 0)])) (fun t k => oicN Xr10 hx hby at_215 (by decide) (oiconst Xr10 hx hby at_218 (ogoto (pc := 219) Xr10 hx hby at_219 223 (by decide) (oistore Xr10 hx hby at_223 (lc69 i0 i1 i2 i3 i4 i5 0 1 0 0 b1 u1 br3 br6 1 1) rfl (oaload Xr10 hx hby at_225 rfl rfl (oaload Xr10 hx hby at_227 rfl rfl (str11 _ (str12 _ (oiload Xr12 hx hby at_235 rfl k))))))))) ?_
          refine own_go (U' := Tr12.setTop (mkF m 242 (lc69 i0 i1 i2 i3 i4 i5 0 1 0 0 b1 u1 br3 br6 1 1) [(.int 0), (.int 0)])) (fun t k => oifN Xr12 hx hby at_237 (by decide) (oiload Xr12 hx hby at_240 rfl k)) ?_
          refine own_go (U' := Tr12.setTop (mkF m 260 (lc69 i0 i1 i2 i3 i4 i5 0 1 0 0 b1 u1 br3 br6 1 1) [(.int 0), (.int 0)])) (fun t k => oifY (pc := 242) Xr12 hx hby at_242 259 (by decide) (by decide) (oiconst Xr12 hx hby at_259 k)) ?_
          have f41 : Exa Z Tr11.heap br3 zs8 := (f30.keep Kr11)
          have f42 : Fld Z Tr11.heap br3 zs8 "unit" zs1 (.ref u1) := (f34.keep Kr11 nin0)
          have f43 : Fld Z Tr11.heap br3 zs8 "first" zs9 .null := (f31.keep Kr11 nin0)
          have f44 : Sta Z Tr11.heap zs4 "MIDDLE" zs5 (.ref w2) := (own_staK f35 Kr11 all0)
          obtain ⟨_, Tr13, Lr13, Xr13, hQr13, str13⟩ := ocallV Xr12 hx hZ zm7 zm7 hown (ww hw 53 rfl) (ww hw 54 rfl) (notFace_of_selects (args := #[]) (mvT hZ (ww hw 56 rfl))) (ww hw 56 rfl) (ww hw 55 rfl) (by decide) (ww hw 57 rfl) (ww hw 10 rfl) er12 f41 (rm9_15 l Z a0 hw [] br3 u1 w2 Tr11.heap n0 Z_6 f42 f43 f44) (st := [(.ref br3)]) rfl 0 rfl (by decide) (pc := 272) (Ls := (lc70 i0 i1 i2 i3 i4 i5 0 1 0 0 b1 u1 br3 br6 1 1 1)) hml rfl (lenOf pd_7 rfl) at_272 hby
          obtain ⟨b3, rfl, Nr13q, Kr13, sz2, f45, f46, f47, f48, f49⟩ := hQr13
          have N11 := Fr.app N10 Nr13q
          have Z_7 : n0 ≤ Tr13.heap.size := Nat.le_trans Z_6 Kr13.1
          obtain ⟨_, Tr14, Lr14, Xr14, hQr14, str14⟩ := ocallV Xr13 hx hZ zm4 zm4 hown (ww hw 36 rfl) (ww hw 37 rfl) (notFace_of_selects (args := #[]) (mvT hZ (ww hw 39 rfl))) (ww hw 39 rfl) (ww hw 38 rfl) (by decide) (ww hw 40 rfl) (ww hw 10 rfl) rfl f45 (rm6_12 l Z a0 hw [] b3 Tr13.heap n0 Z_7 f47) (st := [(.ref b3)]) rfl 0 rfl (by decide) (pc := 275) (Ls := (lc70 i0 i1 i2 i3 i4 i5 0 1 0 0 b1 u1 br3 br6 1 1 1)) hml rfl (lenOf pd_4 rfl) at_275 hby
          obtain ⟨rfl, Nr14q, er14⟩ := hQr14
          have N12 := Fr.app N11 Nr14q
          refine own_go (U' := Tr14.setTop (mkF m 278 (lc70 i0 i1 i2 i3 i4 i5 0 1 0 0 b1 u1 br3 br6 1 1 1) [(.int 0)])) (fun t k => oicN Xr12 hx hby at_260 (by decide) (oiconst Xr12 hx hby at_263 (ogoto (pc := 264) Xr12 hx hby at_264 268 (by decide) (oistore Xr12 hx hby at_268 (lc70 i0 i1 i2 i3 i4 i5 0 1 0 0 b1 u1 br3 br6 1 1 1) rfl (oaload Xr12 hx hby at_270 rfl rfl (str13 _ (str14 _ k))))))) ?_
          have f50 : Exa Z Tr13.heap br3 zs8 := (f41.keep Kr13)
          have f51 : Fld Z Tr13.heap br3 zs8 "unit" zs1 (.ref u1) := (f42.keep Kr13 nin0)
          have f52 : Fld Z Tr13.heap br3 zs8 "last" zs9 (.ref b1) := ((f33.keep Kr11 nin0).keep Kr13 nin0)
          have f53 : Sta Z Tr13.heap zs4 "MIDDLE" zs5 (.ref w2) := (own_staK f44 Kr13 all0)
          obtain ⟨_, Tr15, Lr15, Xr15, hQr15, str15⟩ := ocallV Xr14 hx hZ zm8 zm8 hown (ww hw 58 rfl) (ww hw 59 rfl) (notFace_of_selects (args := #[]) (mvT hZ (ww hw 61 rfl))) (ww hw 61 rfl) (ww hw 60 rfl) (by decide) (ww hw 62 rfl) (ww hw 10 rfl) er14 f50 (rm10_35 l Z a0 hw [] br3 u1 b1 w2 Tr13.heap n0 Z_7 f51 f52 f53) (st := [(.ref br3)]) rfl 0 rfl (by decide) (pc := 290) (Ls := (lc71 i0 i1 i2 i3 i4 i5 0 1 0 0 b1 u1 br3 br6 1 1 1 1)) hml rfl (lenOf pd_7 rfl) at_290 hby
          obtain ⟨b4, rfl, Nr15q, Kr15, sz3, f54, f55, f56, f57, f58⟩ := hQr15
          have N13 := Fr.app N12 Nr15q
          have Z_8 : n0 ≤ Tr15.heap.size := Nat.le_trans Z_7 Kr15.1
          obtain ⟨_, Tr16, Lr16, Xr16, hQr16, str16⟩ := ocallV Xr15 hx hZ zm4 zm4 hown (ww hw 36 rfl) (ww hw 37 rfl) (notFace_of_selects (args := #[]) (mvT hZ (ww hw 39 rfl))) (ww hw 39 rfl) (ww hw 38 rfl) (by decide) (ww hw 40 rfl) (ww hw 10 rfl) rfl f54 (rm6_12 l Z a0 hw [] b4 Tr15.heap n0 Z_8 f56) (st := [(.ref b4)]) rfl 0 rfl (by decide) (pc := 293) (Ls := (lc71 i0 i1 i2 i3 i4 i5 0 1 0 0 b1 u1 br3 br6 1 1 1 1)) hml rfl (lenOf pd_4 rfl) at_293 hby
          obtain ⟨rfl, Nr16q, er16⟩ := hQr16
          have N14 := Fr.app N13 Nr16q
          refine own_go (U' := Tr16.setTop (mkF m 296 (lc71 i0 i1 i2 i3 i4 i5 0 1 0 0 b1 u1 br3 br6 1 1 1 1) [(.int 0)])) (fun t k => oifN Xr14 hx hby at_278 (by decide) (oiconst Xr14 hx hby at_281 (ogoto (pc := 282) Xr14 hx hby at_282 286 (by decide) (oistore Xr14 hx hby at_286 (lc71 i0 i1 i2 i3 i4 i5 0 1 0 0 b1 u1 br3 br6 1 1 1 1) rfl (oaload Xr14 hx hby at_288 rfl rfl (str15 _ (str16 _ k))))))) ?_
          refine own_go (U' := Tr16.setTop (mkF m 308 (lc72 i0 i1 i2 i3 i4 i5 0 1 0 0 b1 u1 br3 br6 1 1 1 1 1) [(.int 1)])) (fun t k => oifN Xr16 hx hby at_296 (by decide) (oiconst Xr16 hx hby at_299 (ogoto (pc := 300) Xr16 hx hby at_300 304 (by decide) (oistore Xr16 hx hby at_304 (lc72 i0 i1 i2 i3 i4 i5 0 1 0 0 b1 u1 br3 br6 1 1 1 1 1) rfl (oiload Xr16 hx hby at_306 rfl k))))) ?_
          refine own_go (U' := Tr16.setTop (mkF m 313 (lc72 i0 i1 i2 i3 i4 i5 0 1 0 0 b1 u1 br3 br6 1 1 1 1 1) [(.int 1)])) (fun t k => oifN Xr16 hx hby at_308 (by decide) (oiload Xr16 hx hby at_311 rfl k)) ?_
          refine own_go (U' := Tr16.setTop (mkF m 318 (lc72 i0 i1 i2 i3 i4 i5 0 1 0 0 b1 u1 br3 br6 1 1 1 1 1) [(.int 1)])) (fun t k => oifN Xr16 hx hby at_313 (by decide) (oiload Xr16 hx hby at_316 rfl k)) ?_
          refine own_go (U' := Tr16.setTop (mkF m 323 (lc72 i0 i1 i2 i3 i4 i5 0 1 0 0 b1 u1 br3 br6 1 1 1 1 1) [(.int 1)])) (fun t k => oifN Xr16 hx hby at_318 (by decide) (oiload Xr16 hx hby at_321 rfl k)) ?_
          refine own_go (U' := Tr16.setTop (mkF m 328 (lc72 i0 i1 i2 i3 i4 i5 0 1 0 0 b1 u1 br3 br6 1 1 1 1 1) [(.int 1)])) (fun t k => oifN Xr16 hx hby at_323 (by decide) (oiload Xr16 hx hby at_326 rfl k)) ?_
          refine own_go (U' := Tr16.setTop (mkF m 336 (lc72 i0 i1 i2 i3 i4 i5 0 1 0 0 b1 u1 br3 br6 1 1 1 1 1) [(.int 1)])) (fun t k => oifN Xr16 hx hby at_328 (by decide) (oiconst Xr16 hx hby at_331 (ogoto (pc := 332) Xr16 hx hby at_332 336 (by decide) k))) ?_
          obtain ⟨fs, hr, hrun, hended, hW, hsame⟩ := Xr16.leave (v := some (.int 1)) (fun h => by rw [Bd.returns] at h; cases h)
          refine own_out ⟨_, _, ?_, hrun, hended, _, _, rfl, ?_, ⟨_, rfl⟩, hW, hsame.mono (by decide) (by decide)⟩
          · exact retN Xr16 hx (t := .boolean) Bd.returns (by simp) (hb hby at_336) hr
          · exact ⟨rfl, N14⟩
        · have hc4 : ¬ ((i0 &&& (8 : Int32)) = (0 : Int32)) := hk7
          refine own_go (U' := s₁.setTop (mkF m 55 (lc4 i0 i1 i2 i3 i4 i5 0 1 0 1) [(.int 0)])) (fun t k => oifN X0 hx hby at_43 ((if0 _ _).trans (feq hc4).1) (oiconst X0 hx hby at_46 (ogoto (pc := 47) X0 hx hby at_47 51 (by decide) (oistore X0 hx hby at_51 (lc4 i0 i1 i2 i3 i4 i5 0 1 0 1) rfl (oiload X0 hx hby at_53 rfl k))))) ?_
          refine own_go (U' := s₁.setTop (mkF m 70 (lc5 i0 i1 i2 i3 i4 i5 0 1 0 1) [(.int 1)])) (fun t k => oifY (pc := 55) X0 hx hby at_55 65 (by decide) (by decide) (onull X0 hx hby at_65 (oastore X0 hx hby at_66 (lc5 i0 i1 i2 i3 i4 i5 0 1 0 1) rfl rfl (oiload X0 hx hby at_68 rfl k)))) ?_
          obtain ⟨_, Tr1, Lr1, Xr1, hQr1, str1⟩ := ocallS X0 hx hZ zm11 hown (ww hw 63 rfl) (ww hw 64 rfl) (by decide) (ww hw 66 rfl) (ww hw 65 rfl) e0 (mg11_22 l Z a0 hw [] i3 w8 h0 n0 Z0 S16 S18) (st := [(.long i3)]) rfl 0 rfl (by decide) (pc := 75) (Ls := (lc5 i0 i1 i2 i3 i4 i5 0 1 0 1)) hml rfl (lenOf pd_9 rfl) at_75 hby
          obtain ⟨b1, rfl, Nr1q, Kr1, f1, f2⟩ := hQr1
          have N1 := Fr.app N0 Nr1q
          refine own_go (U' := Tr1.setTop (mkF m 86 (lc62 i0 i1 i2 i3 i4 i5 0 1 0 1 b1) [(.int 0)])) (fun t k => oifN X0 hx hby at_70 (by decide) (olload X0 hx hby at_73 rfl (str1 _ (ogoto (pc := 78) Xr1 hx hby at_78 82 (by decide) (oastore Xr1 hx hby at_82 (lc62 i0 i1 i2 i3 i4 i5 0 1 0 1 b1) rfl rfl (oiload Xr1 hx hby at_84 rfl k)))))) ?_
          refine own_go (U' := Tr1.setTop (mkF m 102 (lc63 i0 i1 i2 i3 i4 i5 0 1 0 1 b1) [(.int 1)])) (fun t k => oifY (pc := 86) Xr1 hx hby at_86 97 (by decide) (by decide) (onull Xr1 hx hby at_97 (oastore Xr1 hx hby at_98 (lc63 i0 i1 i2 i3 i4 i5 0 1 0 1 b1) rfl rfl (oiload Xr1 hx hby at_100 rfl k)))) ?_
          have f3 : Sta Z Tr1.heap zs19 "cache" zs20 (.ref w8) := (own_staK S16 Kr1 all0)
          have f4 : own_LC Z Tr1.heap w8 n0 := (S18.keep Kr1 all0)
          have Z_1 : n0 ≤ Tr1.heap.size := Nat.le_trans Z0 Kr1.1
          obtain ⟨_, Tr2, Lr2, Xr2, hQr2, str2⟩ := ocallS Xr1 hx hZ zm11 hown (ww hw 63 rfl) (ww hw 64 rfl) (by decide) (ww hw 66 rfl) (ww hw 65 rfl) rfl (mg11_22 l Z a0 hw [] i5 w8 Tr1.heap n0 Z_1 f3 f4) (st := [(.long i5)]) rfl 0 rfl (by decide) (pc := 107) (Ls := (lc63 i0 i1 i2 i3 i4 i5 0 1 0 1 b1)) hml rfl (lenOf pd_9 rfl) at_107 hby
          obtain ⟨b2, rfl, Nr2q, Kr2, f5, f6⟩ := hQr2
          have N2 := Fr.app N1 Nr2q
          have f7 : Sta Z Tr2.heap zs0 "DAY" zs1 (.ref w3) := (own_staK (own_staK S6 Kr1 all0) Kr2 all0)
          have f8 : Sta Z Tr2.heap zs0 "MONTH" zs1 (.ref w7) := (own_staK (own_staK S14 Kr1 all0) Kr2 all0)
          have f9 : Sta Z Tr2.heap zs0 "YEAR" zs1 (.ref w6) := (own_staK (own_staK S12 Kr1 all0) Kr2 all0)
          have f10 : Sta Z Tr2.heap zs0 "DECADE" zs1 (.ref w0) := (own_staK (own_staK S0 Kr1 all0) Kr2 all0)
          have f11 : Sta Z Tr2.heap zs0 "CENTURY" zs1 (.ref w5) := (own_staK (own_staK S10 Kr1 all0) Kr2 all0)
          have Z_2 : n0 ≤ Tr2.heap.size := Nat.le_trans Z_1 Kr2.1
          obtain ⟨_, Tr3, Lr3, Xr3, hQr3, str3⟩ := ocallS Xr2 hx hZ zm0 hown (ww hw 0 rfl) (ww hw 1 rfl) (by decide) (ww hw 3 rfl) (ww hw 2 rfl) rfl (mg1_5 l Z a0 hw [] i1 w3 w7 w6 w0 w5 Tr2.heap n0 Z_2 f7 f8 f9 f10 f11) (st := [(.int i1)]) rfl 0 rfl (by decide) (pc := 117) (Ls := (lc73 i0 i1 i2 i3 i4 i5 0 1 0 1 b1 b2)) hml rfl (lenOf pd_0 rfl) at_117 hby
          obtain ⟨rfl, Nr3q, er3⟩ := hQr3
          refine own_go (U' := Tr3.setTop (mkF m 120 (lc73 i0 i1 i2 i3 i4 i5 0 1 0 1 b1 b2) [(.ref (own_unit ((i1 &&& (2147483647 : Int32)) % (5 : Int32)) w3 w7 w6 w0 w5))])) (fun t k => oifN Xr1 hx hby at_102 (by decide) (olload Xr1 hx hby at_105 rfl (str2 _ (ogoto (pc := 110) Xr2 hx hby at_110 114 (by decide) (oastore Xr2 hx hby at_114 (lc73 i0 i1 i2 i3 i4 i5 0 1 0 1 b1 b2) rfl rfl (oiloadN Xr2 hx hby at_116 rfl (str3 _ k))))))) ?_
          obtain ⟨u1, hu1⟩ : ∃ z, z = (own_unit ((i1 &&& (2147483647 : Int32)) % (5 : Int32)) w3 w7 w6 w0 w5) := ⟨_, rfl⟩
          rw [← hu1]
          have N3 := Fr.app N2 Nr3q
          obtain ⟨Tr4, hr4, Xr4, er4, Er4, Ar4, Dr4, -, str4⟩ := newO Xr3 hx hZ hown (ww hw 8 rfl) (ww hw 9 rfl) (ww hw 10 rfl) er3 (g := (mkF m 122 (lc74 i0 i1 i2 i3 i4 i5 0 1 0 1 b1 b2 u1) [])) rfl (hb hby at_122) (by decide) (by decide)
          obtain ⟨br4, gr4⟩ : ∃ z, z = Tr2.heap.size := ⟨_, rfl⟩
          rw [← gr4] at Ar4 Dr4 str4
          have f12 : Fld Z hr4 br4 zs8 "unit" zs1 .null := Dr4 (Or.inr (ww hw 29 rfl)) (ty := (.object zs0)) (by decide)
          have f13 : Fld Z hr4 br4 zs8 "first" zs9 .null := Dr4 (Or.inr (ww hw 31 rfl)) (ty := (.object zs11)) (by decide)
          have f14 : Fld Z hr4 br4 zs8 "last" zs9 .null := Dr4 (Or.inr (ww hw 33 rfl)) (ty := (.object zs11)) (by decide)
          have f15 : Fld Z hr4 br4 zs8 "anchor" zs5 .null := Dr4 (Or.inr (ww hw 35 rfl)) (ty := (.object zs4)) (by decide)
          have f16 : Sta Z hr4 zs4 "FIRST" zs5 (.ref w1) := (Sta.ext Er4 (own_staK (own_staK S2 Kr1 all0) Kr2 all0))
          have f17 : Sta Z hr4 zs4 "MIDDLE" zs5 (.ref w2) := (Sta.ext Er4 (own_staK (own_staK S4 Kr1 all0) Kr2 all0))
          have f18 : Sta Z hr4 zs4 "LAST" zs5 (.ref w4) := (Sta.ext Er4 (own_staK (own_staK S8 Kr1 all0) Kr2 all0))
          have Z_3 : n0 ≤ hr4.size := Nat.le_trans Z_2 Er4.1
          obtain ⟨_, Tr5, Lr5, Xr5, hQr5, str5⟩ := ocallS Xr4 hx hZ zm1 hown (ww hw 11 rfl) (ww hw 12 rfl) (by decide) (ww hw 13 rfl) (ww hw 2 rfl) er4 (mg2_9 l Z a0 hw [] ((i0.toUInt32 >>> ((4 : Int32) &&& 31).toUInt32).toInt32) w1 w2 w4 hr4 n0 Z_3 f16 f17 f18) (st := [(.int ((i0.toUInt32 >>> ((4 : Int32) &&& 31).toUInt32).toInt32)), (.ref b1), .null, (.ref u1), (.ref br4), (.ref br4)]) rfl 5 rfl (by decide) (pc := 135) (Ls := (lc74 i0 i1 i2 i3 i4 i5 0 1 0 1 b1 b2 u1)) hml rfl (lenOf pd_1 rfl) at_135 hby
          obtain ⟨rfl, Nr5q, er5⟩ := hQr5
          refine own_go (U' := Tr5.setTop (mkF m 138 (lc74 i0 i1 i2 i3 i4 i5 0 1 0 1 b1 b2 u1) [(.ref (own_anch (((i0.toUInt32 >>> ((4 : Int32) &&& 31).toUInt32).toInt32) &&& (3 : Int32)) w1 w2 w4)), (.ref b1), .null, (.ref u1), (.ref br4), (.ref br4)])) (fun t k => oastore Xr3 hx hby at_120 (lc74 i0 i1 i2 i3 i4 i5 0 1 0 1 b1 b2 u1) rfl rfl (str4 _ (odup Xr4 hx hby at_125 rfl (oaload Xr4 hx hby at_126 rfl rfl (oaload Xr4 hx hby at_128 rfl rfl (oaload Xr4 hx hby at_130 rfl rfl (oiloadN Xr4 hx hby at_132 rfl (oiconst Xr4 hx hby at_133 (oiushr Xr4 hx hby at_134 (str5 _ k)))))))))) ?_
          obtain ⟨u2, hu2⟩ : ∃ z, z = (own_anch (((i0.toUInt32 >>> ((4 : Int32) &&& 31).toUInt32).toInt32) &&& (3 : Int32)) w1 w2 w4) := ⟨_, rfl⟩
          rw [← hu2]
          have N4 := Fr.app N3 Nr5q
          have g1 : n0 ≤ br4 := Nat.le_trans Z_2 (Nat.le_of_eq gr4.symm)
          obtain ⟨_, Tr6, Lr6, Xr6, hQr6, str6⟩ := ocallI Xr5 hx hZ zm3 rfl hown (ww hw 17 rfl) (ww hw 18 rfl) (by decide) (ww hw 19 rfl) (ww hw 10 rfl) er5 (rm3_23 l Z a0 hw [] br4 u1 b1 u2 hr4 n0 Z_3 f12 f13 f14 f15 Ar4 g1) (st := [(.ref u2), (.ref b1), .null, (.ref u1), (.ref br4), (.ref br4)]) rfl 1 rfl (by decide) (pc := 138) (Ls := (lc74 i0 i1 i2 i3 i4 i5 0 1 0 1 b1 b2 u1)) hml rfl (lenOf pd_3 rfl) at_138 hby
          obtain ⟨rfl, Nr6q, Kr6, f19, f20, f21, f22⟩ := hQr6
          have N5 := Fr.app N4 Nr6q
          obtain ⟨Tr7, hr7, Xr7, er7, Er7, Ar7, Dr7, -, str7⟩ := newO Xr6 hx hZ hown (ww hw 8 rfl) (ww hw 9 rfl) (ww hw 10 rfl) rfl (g := (mkF m 143 (lc75 i0 i1 i2 i3 i4 i5 0 1 0 1 b1 b2 u1 br4) [])) rfl (hb hby at_143) (by decide) (by decide)
          obtain ⟨br7, gr7⟩ : ∃ z, z = Tr6.heap.size := ⟨_, rfl⟩
          rw [← gr7] at Ar7 Dr7 str7
          have f23 : Fld Z hr7 br7 zs8 "unit" zs1 .null := Dr7 (Or.inr (ww hw 29 rfl)) (ty := (.object zs0)) (by decide)
          have f24 : Fld Z hr7 br7 zs8 "first" zs9 .null := Dr7 (Or.inr (ww hw 31 rfl)) (ty := (.object zs11)) (by decide)
          have f25 : Fld Z hr7 br7 zs8 "last" zs9 .null := Dr7 (Or.inr (ww hw 33 rfl)) (ty := (.object zs11)) (by decide)
          have f26 : Fld Z hr7 br7 zs8 "anchor" zs5 .null := Dr7 (Or.inr (ww hw 35 rfl)) (ty := (.object zs4)) (by decide)
          have f27 : Sta Z hr7 zs4 "FIRST" zs5 (.ref w1) := (Sta.ext Er7 (own_staK f16 Kr6 (allS (own_nsE Ar4) all0)))
          have f28 : Sta Z hr7 zs4 "MIDDLE" zs5 (.ref w2) := (Sta.ext Er7 (own_staK f17 Kr6 (allS (own_nsE Ar4) all0)))
          have f29 : Sta Z hr7 zs4 "LAST" zs5 (.ref w4) := (Sta.ext Er7 (own_staK f18 Kr6 (allS (own_nsE Ar4) all0)))
          have Z_4 : n0 ≤ Tr6.heap.size := Nat.le_trans Z_3 Kr6.1
          have Z_5 : n0 ≤ hr7.size := Nat.le_trans Z_4 Er7.1
          obtain ⟨_, Tr8, Lr8, Xr8, hQr8, str8⟩ := ocallS Xr7 hx hZ zm1 hown (ww hw 11 rfl) (ww hw 12 rfl) (by decide) (ww hw 13 rfl) (ww hw 2 rfl) er7 (mg2_9 l Z a0 hw [] ((i0.toUInt32 >>> ((6 : Int32) &&& 31).toUInt32).toInt32) w1 w2 w4 hr7 n0 Z_5 f27 f28 f29) (st := [(.int ((i0.toUInt32 >>> ((6 : Int32) &&& 31).toUInt32).toInt32)), (.ref b2), .null, (.ref u1), (.ref br7), (.ref br7)]) rfl 5 rfl (by decide) (pc := 157) (Ls := (lc75 i0 i1 i2 i3 i4 i5 0 1 0 1 b1 b2 u1 br4)) hml rfl (lenOf pd_1 rfl) at_157 hby
          obtain ⟨rfl, Nr8q, er8⟩ := hQr8
          refine own_go (U' := Tr8.setTop (mkF m 160 (lc75 i0 i1 i2 i3 i4 i5 0 1 0 1 b1 b2 u1 br4) [(.ref (own_anch (((i0.toUInt32 >>> ((6 : Int32) &&& 31).toUInt32).toInt32) &&& (3 : Int32)) w1 w2 w4)), (.ref b2), .null, (.ref u1), (.ref br7), (.ref br7)])) (fun t k => str6 _ (oastore Xr6 hx hby at_141 (lc75 i0 i1 i2 i3 i4 i5 0 1 0 1 b1 b2 u1 br4) rfl rfl (str7 _ (odup Xr7 hx hby at_146 rfl (oaload Xr7 hx hby at_147 rfl rfl (oaload Xr7 hx hby at_149 rfl rfl (oaload Xr7 hx hby at_151 rfl rfl (oiloadN Xr7 hx hby at_153 rfl (obipush Xr7 hx hby at_154 (oiushr Xr7 hx hby at_156 (str8 _ k))))))))))) ?_
          obtain ⟨u3, hu3⟩ : ∃ z, z = (own_anch (((i0.toUInt32 >>> ((6 : Int32) &&& 31).toUInt32).toInt32) &&& (3 : Int32)) w1 w2 w4) := ⟨_, rfl⟩
          rw [← hu3]
          have N6 := Fr.app N5 Nr8q
          have g2 : n0 ≤ br7 := Nat.le_trans Z_4 (Nat.le_of_eq gr7.symm)
          obtain ⟨_, Tr9, Lr9, Xr9, hQr9, str9⟩ := ocallI Xr8 hx hZ zm3 rfl hown (ww hw 17 rfl) (ww hw 18 rfl) (by decide) (ww hw 19 rfl) (ww hw 10 rfl) er8 (rm3_23 l Z a0 hw [] br7 u1 b2 u3 hr7 n0 Z_5 f23 f24 f25 f26 Ar7 g2) (st := [(.ref u3), (.ref b2), .null, (.ref u1), (.ref br7), (.ref br7)]) rfl 1 rfl (by decide) (pc := 160) (Ls := (lc75 i0 i1 i2 i3 i4 i5 0 1 0 1 b1 b2 u1 br4)) hml rfl (lenOf pd_3 rfl) at_160 hby
          obtain ⟨rfl, Nr9q, Kr9, f30, f31, f32, f33⟩ := hQr9
          have N7 := Fr.app N6 Nr9q
          have f34 : Exa Z Tr9.heap br4 zs8 := ((Exa.ext Er7 (Ar4.keep Kr6)).keep Kr9)
          have ne1 : br4 ≠ br7 := Nat.ne_of_lt (Nat.lt_of_lt_of_le (f19.lt) (Nat.le_of_eq gr7.symm))
          have f35 : Fld Z Tr9.heap br4 zs8 "first" zs9 .null := ((Fld.ext Er7 f20).keep Kr9 (ninS ne1 nin0))
          have Z_6 : n0 ≤ Tr9.heap.size := Nat.le_trans Z_5 Kr9.1
          obtain ⟨_, Tr10, Lr10, Xr10, hQr10, str10⟩ := ocallV Xr9 hx hZ zm4 zm4 hown (ww hw 36 rfl) (ww hw 37 rfl) (notFace_of_selects (args := #[]) (mvT hZ (ww hw 39 rfl))) (ww hw 39 rfl) (ww hw 38 rfl) (by decide) (ww hw 40 rfl) (ww hw 10 rfl) rfl f34 (rm6_12 l Z a0 hw [] br4 Tr9.heap n0 Z_6 f35) (st := [(.ref br4)]) rfl 0 rfl (by decide) (pc := 167) (Ls := (lc76 i0 i1 i2 i3 i4 i5 0 1 0 1 b1 b2 u1 br4 br7)) hml rfl (lenOf pd_4 rfl) at_167 hby
          obtain ⟨rfl, Nr10q, er10⟩ := hQr10
          have N8 := Fr.app N7 Nr10q
          refine own_go (U' := Tr10.setTop (mkF m 172 (lc76 i0 i1 i2 i3 i4 i5 0 1 0 1 b1 b2 u1 br4 br7) [(.int 0), (.int 0)])) (fun t k => str9 _ (oastore Xr9 hx hby at_163 (lc76 i0 i1 i2 i3 i4 i5 0 1 0 1 b1 b2 u1 br4 br7) rfl rfl (oaload Xr9 hx hby at_165 rfl rfl (str10 _ (oiload Xr10 hx hby at_170 rfl k))))) ?_
          refine own_go (U' := Tr10.setTop (mkF m 185 (lc76 i0 i1 i2 i3 i4 i5 0 1 0 1 b1 b2 u1 br4 br7) [(.int 0), (.int 0)])) (fun t k => oifY (pc := 172) Xr10 hx hby at_172 184 (by decide) (by decide) (oiconst Xr10 hx hby at_184 k)) ?_
          have f36 : Exa Z Tr9.heap br7 zs8 := (Ar7.keep Kr9)
          obtain ⟨_, Tr11, Lr11, Xr11, hQr11, str11⟩ := ocallV Xr10 hx hZ zm4 zm4 hown (ww hw 36 rfl) (ww hw 37 rfl) (notFace_of_selects (args := #[]) (mvT hZ (ww hw 39 rfl))) (ww hw 39 rfl) (ww hw 38 rfl) (by decide) (ww hw 40 rfl) (ww hw 10 rfl) er10 f36 (rm6_12 l Z a0 hw [] br7 Tr9.heap n0 Z_6 f31) (st := [(.ref br7)]) rfl 0 rfl (by decide) (pc := 197) (Ls := (lc77 i0 i1 i2 i3 i4 i5 0 1 0 1 b1 b2 u1 br4 br7 1)) hml rfl (lenOf pd_4 rfl) at_197 hby
          obtain ⟨rfl, Nr11q, er11⟩ := hQr11
          have N9 := Fr.app N8 Nr11q
          refine own_go (U' := Tr11.setTop (mkF m 202 (lc77 i0 i1 i2 i3 i4 i5 0 1 0 1 b1 b2 u1 br4 br7 1) [(.int 0), (.int 0)])) (fun t k => oicN Xr10 hx hby at_185 (by decide) (oiconst Xr10 hx hby at_188 (ogoto (pc := 189) Xr10 hx hby at_189 193 (by decide) (oistore Xr10 hx hby at_193 (lc77 i0 i1 i2 i3 i4 i5 0 1 0 1 b1 b2 u1 br4 br7 1) rfl (oaload Xr10 hx hby at_195 rfl rfl (str11 _ (oiload Xr11 hx hby at_200 rfl k))))))) ?_
          refine own_go (U' := Tr11.setTop (mkF m 215 (lc77 i0 i1 i2 i3 i4 i5 0 1 0 1 b1 b2 u1 br4 br7 1) [(.int 0), (.int 0)])) (fun t k => oifY (pc := 202) Xr11 hx hby at_202 214 (by decide) (by decide) (oiconst Xr11 hx hby at_214 k)) ?_
          have f37 : Fld Z Tr9.heap br4 zs8 "last" zs9 (.ref b1) := ((Fld.ext Er7 f21).keep Kr9 (ninS ne1 nin0))
          have f38 : Exa Z Tr9.heap b2 zs11 := ((Exa.ext Er7 ((Exa.ext Er4 f5).keep Kr6)).keep Kr9)
          have ne2 : b2 ≠ br4 := Nat.ne_of_lt (Nat.lt_of_lt_of_le (f6.lt) (Nat.le_of_eq gr4.symm))
          have ne3 : b2 ≠ br7 := Nat.ne_of_lt (Nat.lt_of_lt_of_le (Nat.lt_of_lt_of_le (Nat.lt_of_lt_of_le (f6.lt) Er4.1) Kr6.1) (Nat.le_of_eq gr7.symm))
          have f39 : Fld Z Tr9.heap b2 zs11 "value" "J" (.long i5) := ((Fld.ext Er7 ((Fld.ext Er4 f6).keep Kr6 (ninS ne2 nin0))).keep Kr9 (ninS ne3 nin0))
          have f40 : Exa Z Tr9.heap b1 zs11 := ((Exa.ext Er7 ((Exa.ext Er4 (f1.keep Kr2)).keep Kr6)).keep Kr9)
          have ne4 : b1 ≠ br4 := Nat.ne_of_lt (Nat.lt_of_lt_of_le (Nat.lt_of_lt_of_le (f2.lt) Kr2.1) (Nat.le_of_eq gr4.symm))
          have ne5 : b1 ≠ br7 := Nat.ne_of_lt (Nat.lt_of_lt_of_le (Nat.lt_of_lt_of_le (Nat.lt_of_lt_of_le (Nat.lt_of_lt_of_le (f2.lt) Kr2.1) Er4.1) Kr6.1) (Nat.le_of_eq gr7.symm))
          have f41 : Fld Z Tr9.heap b1 zs11 "value" "J" (.long i3) := ((Fld.ext Er7 ((Fld.ext Er4 (f2.keep Kr2 nin0)).keep Kr6 (ninS ne4 nin0))).keep Kr9 (ninS ne5 nin0))
          have f42 : Fld Z Tr9.heap br4 zs8 "unit" zs1 (.ref u1) := ((Fld.ext Er7 f19).keep Kr9 (ninS ne1 nin0))
          have f43 : Sta Z Tr9.heap zs4 "MIDDLE" zs5 (.ref w2) := (own_staK f28 Kr9 (allS (own_nsF f23) all0))
          by_cases hk8 : i5 < i3
          · have hc7 : i5 < i3 := hk8
            obtain ⟨_, Tr12, Lr12, Xr12, hQr12, str12⟩ := ocallV Xr11 hx hZ zm6 zm6 hown (ww hw 41 rfl) (ww hw 42 rfl) (notFace_of_selects (args := #[]) (mvT hZ (ww hw 44 rfl))) (ww hw 44 rfl) (ww hw 43 rfl) (by decide) (ww hw 45 rfl) (ww hw 10 rfl) er11 f34 (rm7_37 l Z a0 hw [] br4 br7 b1 b2 i5 i3 u1 w2 Tr9.heap n0 Z_6 f35 f31 f37 f32 f38 f39 f40 f41 hc7 f42 f43) (st := [(.ref br7), (.ref br4)]) rfl 0 rfl (by decide) (pc := 229) (Ls := (lc78 i0 i1 i2 i3 i4 i5 0 1 0 1 b1 b2 u1 br4 br7 1 1)) hml rfl (lenOf pd_6 rfl) at_229 hby
            obtain ⟨b3, rfl, Nr12q, Kr12, sz1, f44, f45, f46, f47, f48⟩ := hQr12
            have N10 := Fr.app N9 Nr12q
            have Z_7 : n0 ≤ Tr12.heap.size := Nat.le_trans Z_6 Kr12.1
            obtain ⟨_, Tr13, Lr13, Xr13, hQr13, str13⟩ := ocallV Xr12 hx hZ zm4 zm4 hown (ww hw 36 rfl) (ww hw 37 rfl) (notFace_of_selects (args := #[]) (mvT hZ (ww hw 39 rfl))) (ww hw 39 rfl) (ww hw 38 rfl) (by decide) (ww hw 40 rfl) (ww hw 10 rfl) rfl f44 (rm6_12 l Z a0 hw [] b3 Tr12.heap n0 Z_7 f46) (st := [(.ref b3)]) rfl 0 rfl (by decide) (pc := 232) (Ls := (lc78 i0 i1 i2 i3 i4 i5 0 1 0 1 b1 b2 u1 br4 br7 1 1)) hml rfl (lenOf pd_4 rfl) at_232 hby
            obtain ⟨rfl, Nr13q, er13⟩ := hQr13
            have N11 := Fr.app N10 Nr13q
            refine own_go (U' := Tr13.setTop (mkF m 237 (lc78 i0 i1 i2 i3 i4 i5 0 1 0 1 b1 b2 u1 br4 br7 1 1) [(.int 0), (.int 0)])) (fun t k => oicN Xr11 hx hby at_215 (by decide) (oiconst Xr11 hx hby at_218 (ogoto (pc := 219) Xr11 hx hby at_219 223 (by decide) (oistore Xr11 hx hby at_223 (lc78 i0 i1 i2 i3 i4 i5 0 1 0 1 b1 b2 u1 br4 br7 1 1) rfl (oaload Xr11 hx hby at_225 rfl rfl (oaload Xr11 hx hby at_227 rfl rfl (str12 _ (str13 _ (oiload Xr13 hx hby at_235 rfl k))))))))) ?_
            refine own_go (U' := Tr13.setTop (mkF m 242 (lc78 i0 i1 i2 i3 i4 i5 0 1 0 1 b1 b2 u1 br4 br7 1 1) [(.int 0), (.int 0)])) (fun t k => oifN Xr13 hx hby at_237 (by decide) (oiload Xr13 hx hby at_240 rfl k)) ?_
            refine own_go (U' := Tr13.setTop (mkF m 260 (lc78 i0 i1 i2 i3 i4 i5 0 1 0 1 b1 b2 u1 br4 br7 1 1) [(.int 0), (.int 0)])) (fun t k => oifY (pc := 242) Xr13 hx hby at_242 259 (by decide) (by decide) (oiconst Xr13 hx hby at_259 k)) ?_
            have f49 : Exa Z Tr12.heap br4 zs8 := (f34.keep Kr12)
            have f50 : Fld Z Tr12.heap br4 zs8 "unit" zs1 (.ref u1) := (f42.keep Kr12 nin0)
            have f51 : Fld Z Tr12.heap br4 zs8 "first" zs9 .null := (f35.keep Kr12 nin0)
            have f52 : Sta Z Tr12.heap zs4 "MIDDLE" zs5 (.ref w2) := (own_staK f43 Kr12 all0)
            obtain ⟨_, Tr14, Lr14, Xr14, hQr14, str14⟩ := ocallV Xr13 hx hZ zm7 zm7 hown (ww hw 53 rfl) (ww hw 54 rfl) (notFace_of_selects (args := #[]) (mvT hZ (ww hw 56 rfl))) (ww hw 56 rfl) (ww hw 55 rfl) (by decide) (ww hw 57 rfl) (ww hw 10 rfl) er13 f49 (rm9_15 l Z a0 hw [] br4 u1 w2 Tr12.heap n0 Z_7 f50 f51 f52) (st := [(.ref br4)]) rfl 0 rfl (by decide) (pc := 272) (Ls := (lc79 i0 i1 i2 i3 i4 i5 0 1 0 1 b1 b2 u1 br4 br7 1 1 1)) hml rfl (lenOf pd_7 rfl) at_272 hby
            obtain ⟨b4, rfl, Nr14q, Kr14, sz2, f53, f54, f55, f56, f57⟩ := hQr14
            have N12 := Fr.app N11 Nr14q
            have Z_8 : n0 ≤ Tr14.heap.size := Nat.le_trans Z_7 Kr14.1
            obtain ⟨_, Tr15, Lr15, Xr15, hQr15, str15⟩ := ocallV Xr14 hx hZ zm4 zm4 hown (ww hw 36 rfl) (ww hw 37 rfl) (notFace_of_selects (args := #[]) (mvT hZ (ww hw 39 rfl))) (ww hw 39 rfl) (ww hw 38 rfl) (by decide) (ww hw 40 rfl) (ww hw 10 rfl) rfl f53 (rm6_12 l Z a0 hw [] b4 Tr14.heap n0 Z_8 f55) (st := [(.ref b4)]) rfl 0 rfl (by decide) (pc := 275) (Ls := (lc79 i0 i1 i2 i3 i4 i5 0 1 0 1 b1 b2 u1 br4 br7 1 1 1)) hml rfl (lenOf pd_4 rfl) at_275 hby
            obtain ⟨rfl, Nr15q, er15⟩ := hQr15
            have N13 := Fr.app N12 Nr15q
            refine own_go (U' := Tr15.setTop (mkF m 278 (lc79 i0 i1 i2 i3 i4 i5 0 1 0 1 b1 b2 u1 br4 br7 1 1 1) [(.int 0)])) (fun t k => oicN Xr13 hx hby at_260 (by decide) (oiconst Xr13 hx hby at_263 (ogoto (pc := 264) Xr13 hx hby at_264 268 (by decide) (oistore Xr13 hx hby at_268 (lc79 i0 i1 i2 i3 i4 i5 0 1 0 1 b1 b2 u1 br4 br7 1 1 1) rfl (oaload Xr13 hx hby at_270 rfl rfl (str14 _ (str15 _ k))))))) ?_
            have f58 : Exa Z Tr14.heap br4 zs8 := (f49.keep Kr14)
            have f59 : Fld Z Tr14.heap br4 zs8 "unit" zs1 (.ref u1) := (f50.keep Kr14 nin0)
            have f60 : Fld Z Tr14.heap br4 zs8 "last" zs9 (.ref b1) := ((f37.keep Kr12 nin0).keep Kr14 nin0)
            have f61 : Sta Z Tr14.heap zs4 "MIDDLE" zs5 (.ref w2) := (own_staK f52 Kr14 all0)
            obtain ⟨_, Tr16, Lr16, Xr16, hQr16, str16⟩ := ocallV Xr15 hx hZ zm8 zm8 hown (ww hw 58 rfl) (ww hw 59 rfl) (notFace_of_selects (args := #[]) (mvT hZ (ww hw 61 rfl))) (ww hw 61 rfl) (ww hw 60 rfl) (by decide) (ww hw 62 rfl) (ww hw 10 rfl) er15 f58 (rm10_35 l Z a0 hw [] br4 u1 b1 w2 Tr14.heap n0 Z_8 f59 f60 f61) (st := [(.ref br4)]) rfl 0 rfl (by decide) (pc := 290) (Ls := (lc80 i0 i1 i2 i3 i4 i5 0 1 0 1 b1 b2 u1 br4 br7 1 1 1 1)) hml rfl (lenOf pd_7 rfl) at_290 hby
            obtain ⟨b5, rfl, Nr16q, Kr16, sz3, f62, f63, f64, f65, f66⟩ := hQr16
            have N14 := Fr.app N13 Nr16q
            have Z_9 : n0 ≤ Tr16.heap.size := Nat.le_trans Z_8 Kr16.1
            obtain ⟨_, Tr17, Lr17, Xr17, hQr17, str17⟩ := ocallV Xr16 hx hZ zm4 zm4 hown (ww hw 36 rfl) (ww hw 37 rfl) (notFace_of_selects (args := #[]) (mvT hZ (ww hw 39 rfl))) (ww hw 39 rfl) (ww hw 38 rfl) (by decide) (ww hw 40 rfl) (ww hw 10 rfl) rfl f62 (rm6_12 l Z a0 hw [] b5 Tr16.heap n0 Z_9 f64) (st := [(.ref b5)]) rfl 0 rfl (by decide) (pc := 293) (Ls := (lc80 i0 i1 i2 i3 i4 i5 0 1 0 1 b1 b2 u1 br4 br7 1 1 1 1)) hml rfl (lenOf pd_4 rfl) at_293 hby
            obtain ⟨rfl, Nr17q, er17⟩ := hQr17
            have N15 := Fr.app N14 Nr17q
            refine own_go (U' := Tr17.setTop (mkF m 296 (lc80 i0 i1 i2 i3 i4 i5 0 1 0 1 b1 b2 u1 br4 br7 1 1 1 1) [(.int 0)])) (fun t k => oifN Xr15 hx hby at_278 (by decide) (oiconst Xr15 hx hby at_281 (ogoto (pc := 282) Xr15 hx hby at_282 286 (by decide) (oistore Xr15 hx hby at_286 (lc80 i0 i1 i2 i3 i4 i5 0 1 0 1 b1 b2 u1 br4 br7 1 1 1 1) rfl (oaload Xr15 hx hby at_288 rfl rfl (str16 _ (str17 _ k))))))) ?_
            refine own_go (U' := Tr17.setTop (mkF m 308 (lc81 i0 i1 i2 i3 i4 i5 0 1 0 1 b1 b2 u1 br4 br7 1 1 1 1 1) [(.int 1)])) (fun t k => oifN Xr17 hx hby at_296 (by decide) (oiconst Xr17 hx hby at_299 (ogoto (pc := 300) Xr17 hx hby at_300 304 (by decide) (oistore Xr17 hx hby at_304 (lc81 i0 i1 i2 i3 i4 i5 0 1 0 1 b1 b2 u1 br4 br7 1 1 1 1 1) rfl (oiload Xr17 hx hby at_306 rfl k))))) ?_
            refine own_go (U' := Tr17.setTop (mkF m 313 (lc81 i0 i1 i2 i3 i4 i5 0 1 0 1 b1 b2 u1 br4 br7 1 1 1 1 1) [(.int 1)])) (fun t k => oifN Xr17 hx hby at_308 (by decide) (oiload Xr17 hx hby at_311 rfl k)) ?_
            refine own_go (U' := Tr17.setTop (mkF m 318 (lc81 i0 i1 i2 i3 i4 i5 0 1 0 1 b1 b2 u1 br4 br7 1 1 1 1 1) [(.int 1)])) (fun t k => oifN Xr17 hx hby at_313 (by decide) (oiload Xr17 hx hby at_316 rfl k)) ?_
            refine own_go (U' := Tr17.setTop (mkF m 323 (lc81 i0 i1 i2 i3 i4 i5 0 1 0 1 b1 b2 u1 br4 br7 1 1 1 1 1) [(.int 1)])) (fun t k => oifN Xr17 hx hby at_318 (by decide) (oiload Xr17 hx hby at_321 rfl k)) ?_
            refine own_go (U' := Tr17.setTop (mkF m 328 (lc81 i0 i1 i2 i3 i4 i5 0 1 0 1 b1 b2 u1 br4 br7 1 1 1 1 1) [(.int 1)])) (fun t k => oifN Xr17 hx hby at_323 (by decide) (oiload Xr17 hx hby at_326 rfl k)) ?_
            refine own_go (U' := Tr17.setTop (mkF m 336 (lc81 i0 i1 i2 i3 i4 i5 0 1 0 1 b1 b2 u1 br4 br7 1 1 1 1 1) [(.int 1)])) (fun t k => oifN Xr17 hx hby at_328 (by decide) (oiconst Xr17 hx hby at_331 (ogoto (pc := 332) Xr17 hx hby at_332 336 (by decide) k))) ?_
            obtain ⟨fs, hr, hrun, hended, hW, hsame⟩ := Xr17.leave (v := some (.int 1)) (fun h => by rw [Bd.returns] at h; cases h)
            refine own_out ⟨_, _, ?_, hrun, hended, _, _, rfl, ?_, ⟨_, rfl⟩, hW, hsame.mono (by decide) (by decide)⟩
            · exact retN Xr17 hx (t := .boolean) Bd.returns (by simp) (hb hby at_336) hr
            · exact ⟨rfl, N15⟩
          · have hc8 : ¬ (i5 < i3) := hk8
            obtain ⟨_, Tr12, Lr12, Xr12, hQr12, str12⟩ := ocallV Xr11 hx hZ zm6 zm6 hown (ww hw 41 rfl) (ww hw 42 rfl) (notFace_of_selects (args := #[]) (mvT hZ (ww hw 44 rfl))) (ww hw 44 rfl) (ww hw 43 rfl) (by decide) (ww hw 45 rfl) (ww hw 10 rfl) er11 f34 (rm7_38 l Z a0 hw [] br4 br7 b1 b2 i5 i3 u1 w2 Tr9.heap n0 Z_6 f35 f31 f37 f32 f38 f39 f40 f41 hc8 f42 f43) (st := [(.ref br7), (.ref br4)]) rfl 0 rfl (by decide) (pc := 229) (Ls := (lc78 i0 i1 i2 i3 i4 i5 0 1 0 1 b1 b2 u1 br4 br7 1 1)) hml rfl (lenOf pd_6 rfl) at_229 hby
            obtain ⟨b3, rfl, Nr12q, Kr12, sz1, f44, f45, f46, f47, f48⟩ := hQr12
            have N10 := Fr.app N9 Nr12q
            have Z_7 : n0 ≤ Tr12.heap.size := Nat.le_trans Z_6 Kr12.1
            obtain ⟨_, Tr13, Lr13, Xr13, hQr13, str13⟩ := ocallV Xr12 hx hZ zm4 zm4 hown (ww hw 36 rfl) (ww hw 37 rfl) (notFace_of_selects (args := #[]) (mvT hZ (ww hw 39 rfl))) (ww hw 39 rfl) (ww hw 38 rfl) (by decide) (ww hw 40 rfl) (ww hw 10 rfl) rfl f44 (rm6_12 l Z a0 hw [] b3 Tr12.heap n0 Z_7 f46) (st := [(.ref b3)]) rfl 0 rfl (by decide) (pc := 232) (Ls := (lc78 i0 i1 i2 i3 i4 i5 0 1 0 1 b1 b2 u1 br4 br7 1 1)) hml rfl (lenOf pd_4 rfl) at_232 hby
            obtain ⟨rfl, Nr13q, er13⟩ := hQr13
            have N11 := Fr.app N10 Nr13q
            refine own_go (U' := Tr13.setTop (mkF m 237 (lc78 i0 i1 i2 i3 i4 i5 0 1 0 1 b1 b2 u1 br4 br7 1 1) [(.int 0), (.int 0)])) (fun t k => oicN Xr11 hx hby at_215 (by decide) (oiconst Xr11 hx hby at_218 (ogoto (pc := 219) Xr11 hx hby at_219 223 (by decide) (oistore Xr11 hx hby at_223 (lc78 i0 i1 i2 i3 i4 i5 0 1 0 1 b1 b2 u1 br4 br7 1 1) rfl (oaload Xr11 hx hby at_225 rfl rfl (oaload Xr11 hx hby at_227 rfl rfl (str12 _ (str13 _ (oiload Xr13 hx hby at_235 rfl k))))))))) ?_
            refine own_go (U' := Tr13.setTop (mkF m 242 (lc78 i0 i1 i2 i3 i4 i5 0 1 0 1 b1 b2 u1 br4 br7 1 1) [(.int 0), (.int 0)])) (fun t k => oifN Xr13 hx hby at_237 (by decide) (oiload Xr13 hx hby at_240 rfl k)) ?_
            refine own_go (U' := Tr13.setTop (mkF m 260 (lc78 i0 i1 i2 i3 i4 i5 0 1 0 1 b1 b2 u1 br4 br7 1 1) [(.int 0), (.int 0)])) (fun t k => oifY (pc := 242) Xr13 hx hby at_242 259 (by decide) (by decide) (oiconst Xr13 hx hby at_259 k)) ?_
            have f49 : Exa Z Tr12.heap br4 zs8 := (f34.keep Kr12)
            have f50 : Fld Z Tr12.heap br4 zs8 "unit" zs1 (.ref u1) := (f42.keep Kr12 nin0)
            have f51 : Fld Z Tr12.heap br4 zs8 "first" zs9 .null := (f35.keep Kr12 nin0)
            have f52 : Sta Z Tr12.heap zs4 "MIDDLE" zs5 (.ref w2) := (own_staK f43 Kr12 all0)
            obtain ⟨_, Tr14, Lr14, Xr14, hQr14, str14⟩ := ocallV Xr13 hx hZ zm7 zm7 hown (ww hw 53 rfl) (ww hw 54 rfl) (notFace_of_selects (args := #[]) (mvT hZ (ww hw 56 rfl))) (ww hw 56 rfl) (ww hw 55 rfl) (by decide) (ww hw 57 rfl) (ww hw 10 rfl) er13 f49 (rm9_15 l Z a0 hw [] br4 u1 w2 Tr12.heap n0 Z_7 f50 f51 f52) (st := [(.ref br4)]) rfl 0 rfl (by decide) (pc := 272) (Ls := (lc79 i0 i1 i2 i3 i4 i5 0 1 0 1 b1 b2 u1 br4 br7 1 1 1)) hml rfl (lenOf pd_7 rfl) at_272 hby
            obtain ⟨b4, rfl, Nr14q, Kr14, sz2, f53, f54, f55, f56, f57⟩ := hQr14
            have N12 := Fr.app N11 Nr14q
            have Z_8 : n0 ≤ Tr14.heap.size := Nat.le_trans Z_7 Kr14.1
            obtain ⟨_, Tr15, Lr15, Xr15, hQr15, str15⟩ := ocallV Xr14 hx hZ zm4 zm4 hown (ww hw 36 rfl) (ww hw 37 rfl) (notFace_of_selects (args := #[]) (mvT hZ (ww hw 39 rfl))) (ww hw 39 rfl) (ww hw 38 rfl) (by decide) (ww hw 40 rfl) (ww hw 10 rfl) rfl f53 (rm6_12 l Z a0 hw [] b4 Tr14.heap n0 Z_8 f55) (st := [(.ref b4)]) rfl 0 rfl (by decide) (pc := 275) (Ls := (lc79 i0 i1 i2 i3 i4 i5 0 1 0 1 b1 b2 u1 br4 br7 1 1 1)) hml rfl (lenOf pd_4 rfl) at_275 hby
            obtain ⟨rfl, Nr15q, er15⟩ := hQr15
            have N13 := Fr.app N12 Nr15q
            refine own_go (U' := Tr15.setTop (mkF m 278 (lc79 i0 i1 i2 i3 i4 i5 0 1 0 1 b1 b2 u1 br4 br7 1 1 1) [(.int 0)])) (fun t k => oicN Xr13 hx hby at_260 (by decide) (oiconst Xr13 hx hby at_263 (ogoto (pc := 264) Xr13 hx hby at_264 268 (by decide) (oistore Xr13 hx hby at_268 (lc79 i0 i1 i2 i3 i4 i5 0 1 0 1 b1 b2 u1 br4 br7 1 1 1) rfl (oaload Xr13 hx hby at_270 rfl rfl (str14 _ (str15 _ k))))))) ?_
            have f58 : Exa Z Tr14.heap br4 zs8 := (f49.keep Kr14)
            have f59 : Fld Z Tr14.heap br4 zs8 "unit" zs1 (.ref u1) := (f50.keep Kr14 nin0)
            have f60 : Fld Z Tr14.heap br4 zs8 "last" zs9 (.ref b1) := ((f37.keep Kr12 nin0).keep Kr14 nin0)
            have f61 : Sta Z Tr14.heap zs4 "MIDDLE" zs5 (.ref w2) := (own_staK f52 Kr14 all0)
            obtain ⟨_, Tr16, Lr16, Xr16, hQr16, str16⟩ := ocallV Xr15 hx hZ zm8 zm8 hown (ww hw 58 rfl) (ww hw 59 rfl) (notFace_of_selects (args := #[]) (mvT hZ (ww hw 61 rfl))) (ww hw 61 rfl) (ww hw 60 rfl) (by decide) (ww hw 62 rfl) (ww hw 10 rfl) er15 f58 (rm10_35 l Z a0 hw [] br4 u1 b1 w2 Tr14.heap n0 Z_8 f59 f60 f61) (st := [(.ref br4)]) rfl 0 rfl (by decide) (pc := 290) (Ls := (lc80 i0 i1 i2 i3 i4 i5 0 1 0 1 b1 b2 u1 br4 br7 1 1 1 1)) hml rfl (lenOf pd_7 rfl) at_290 hby
            obtain ⟨b5, rfl, Nr16q, Kr16, sz3, f62, f63, f64, f65, f66⟩ := hQr16
            have N14 := Fr.app N13 Nr16q
            have Z_9 : n0 ≤ Tr16.heap.size := Nat.le_trans Z_8 Kr16.1
            obtain ⟨_, Tr17, Lr17, Xr17, hQr17, str17⟩ := ocallV Xr16 hx hZ zm4 zm4 hown (ww hw 36 rfl) (ww hw 37 rfl) (notFace_of_selects (args := #[]) (mvT hZ (ww hw 39 rfl))) (ww hw 39 rfl) (ww hw 38 rfl) (by decide) (ww hw 40 rfl) (ww hw 10 rfl) rfl f62 (rm6_12 l Z a0 hw [] b5 Tr16.heap n0 Z_9 f64) (st := [(.ref b5)]) rfl 0 rfl (by decide) (pc := 293) (Ls := (lc80 i0 i1 i2 i3 i4 i5 0 1 0 1 b1 b2 u1 br4 br7 1 1 1 1)) hml rfl (lenOf pd_4 rfl) at_293 hby
            obtain ⟨rfl, Nr17q, er17⟩ := hQr17
            have N15 := Fr.app N14 Nr17q
            refine own_go (U' := Tr17.setTop (mkF m 296 (lc80 i0 i1 i2 i3 i4 i5 0 1 0 1 b1 b2 u1 br4 br7 1 1 1 1) [(.int 0)])) (fun t k => oifN Xr15 hx hby at_278 (by decide) (oiconst Xr15 hx hby at_281 (ogoto (pc := 282) Xr15 hx hby at_282 286 (by decide) (oistore Xr15 hx hby at_286 (lc80 i0 i1 i2 i3 i4 i5 0 1 0 1 b1 b2 u1 br4 br7 1 1 1 1) rfl (oaload Xr15 hx hby at_288 rfl rfl (str16 _ (str17 _ k))))))) ?_
            refine own_go (U' := Tr17.setTop (mkF m 308 (lc81 i0 i1 i2 i3 i4 i5 0 1 0 1 b1 b2 u1 br4 br7 1 1 1 1 1) [(.int 1)])) (fun t k => oifN Xr17 hx hby at_296 (by decide) (oiconst Xr17 hx hby at_299 (ogoto (pc := 300) Xr17 hx hby at_300 304 (by decide) (oistore Xr17 hx hby at_304 (lc81 i0 i1 i2 i3 i4 i5 0 1 0 1 b1 b2 u1 br4 br7 1 1 1 1 1) rfl (oiload Xr17 hx hby at_306 rfl k))))) ?_
            refine own_go (U' := Tr17.setTop (mkF m 313 (lc81 i0 i1 i2 i3 i4 i5 0 1 0 1 b1 b2 u1 br4 br7 1 1 1 1 1) [(.int 1)])) (fun t k => oifN Xr17 hx hby at_308 (by decide) (oiload Xr17 hx hby at_311 rfl k)) ?_
            refine own_go (U' := Tr17.setTop (mkF m 318 (lc81 i0 i1 i2 i3 i4 i5 0 1 0 1 b1 b2 u1 br4 br7 1 1 1 1 1) [(.int 1)])) (fun t k => oifN Xr17 hx hby at_313 (by decide) (oiload Xr17 hx hby at_316 rfl k)) ?_
            refine own_go (U' := Tr17.setTop (mkF m 323 (lc81 i0 i1 i2 i3 i4 i5 0 1 0 1 b1 b2 u1 br4 br7 1 1 1 1 1) [(.int 1)])) (fun t k => oifN Xr17 hx hby at_318 (by decide) (oiload Xr17 hx hby at_321 rfl k)) ?_
            refine own_go (U' := Tr17.setTop (mkF m 328 (lc81 i0 i1 i2 i3 i4 i5 0 1 0 1 b1 b2 u1 br4 br7 1 1 1 1 1) [(.int 1)])) (fun t k => oifN Xr17 hx hby at_323 (by decide) (oiload Xr17 hx hby at_326 rfl k)) ?_
            refine own_go (U' := Tr17.setTop (mkF m 336 (lc81 i0 i1 i2 i3 i4 i5 0 1 0 1 b1 b2 u1 br4 br7 1 1 1 1 1) [(.int 1)])) (fun t k => oifN Xr17 hx hby at_328 (by decide) (oiconst Xr17 hx hby at_331 (ogoto (pc := 332) Xr17 hx hby at_332 336 (by decide) k))) ?_
            obtain ⟨fs, hr, hrun, hended, hW, hsame⟩ := Xr17.leave (v := some (.int 1)) (fun h => by rw [Bd.returns] at h; cases h)
            refine own_out ⟨_, _, ?_, hrun, hended, _, _, rfl, ?_, ⟨_, rfl⟩, hW, hsame.mono (by decide) (by decide)⟩
            · exact retN Xr17 hx (t := .boolean) Bd.returns (by simp) (hb hby at_336) hr
            · exact ⟨rfl, N15⟩
      · have hc5 : ¬ ((i0 &&& (4 : Int32)) = (0 : Int32)) := hk6
        refine own_go (U' := s₁.setTop (mkF m 43 (lc3 i0 i1 i2 i3 i4 i5 0 1 1) [(.int (i0 &&& (8 : Int32)))])) (fun t k => oifN X0 hx hby at_29 ((if0 _ _).trans (feq hc5).1) (oiconst X0 hx hby at_32 (ogoto (pc := 33) X0 hx hby at_33 37 (by decide) (oistore X0 hx hby at_37 (lc3 i0 i1 i2 i3 i4 i5 0 1 1) rfl (oiloadN X0 hx hby at_39 rfl (obipush X0 hx hby at_40 (oiand X0 hx hby at_42 k))))))) ?_
        by_cases hk9 : (i0 &&& (8 : Int32)) = (0 : Int32)
        · have hc3 : (i0 &&& (8 : Int32)) = (0 : Int32) := hk9
          refine own_go (U' := s₁.setTop (mkF m 55 (lc4 i0 i1 i2 i3 i4 i5 0 1 1 0) [(.int 0)])) (fun t k => oifY (pc := 43) X0 hx hby at_43 50 ((if0 _ _).trans (teq hc3).1) (by decide) (oiconst X0 hx hby at_50 (oistore X0 hx hby at_51 (lc4 i0 i1 i2 i3 i4 i5 0 1 1 0) rfl (oiload X0 hx hby at_53 rfl k)))) ?_
          refine own_go (U' := s₁.setTop (mkF m 70 (lc5 i0 i1 i2 i3 i4 i5 0 1 1 0) [(.int 1)])) (fun t k => oifY (pc := 55) X0 hx hby at_55 65 (by decide) (by decide) (onull X0 hx hby at_65 (oastore X0 hx hby at_66 (lc5 i0 i1 i2 i3 i4 i5 0 1 1 0) rfl rfl (oiload X0 hx hby at_68 rfl k)))) ?_
          obtain ⟨_, Tr1, Lr1, Xr1, hQr1, str1⟩ := ocallS X0 hx hZ zm11 hown (ww hw 63 rfl) (ww hw 64 rfl) (by decide) (ww hw 66 rfl) (ww hw 65 rfl) e0 (mg11_22 l Z a0 hw [] i3 w8 h0 n0 Z0 S16 S18) (st := [(.long i3)]) rfl 0 rfl (by decide) (pc := 75) (Ls := (lc5 i0 i1 i2 i3 i4 i5 0 1 1 0)) hml rfl (lenOf pd_9 rfl) at_75 hby
          obtain ⟨b1, rfl, Nr1q, Kr1, f1, f2⟩ := hQr1
          have N1 := Fr.app N0 Nr1q
          refine own_go (U' := Tr1.setTop (mkF m 86 (lc62 i0 i1 i2 i3 i4 i5 0 1 1 0 b1) [(.int 1)])) (fun t k => oifN X0 hx hby at_70 (by decide) (olload X0 hx hby at_73 rfl (str1 _ (ogoto (pc := 78) Xr1 hx hby at_78 82 (by decide) (oastore Xr1 hx hby at_82 (lc62 i0 i1 i2 i3 i4 i5 0 1 1 0 b1) rfl rfl (oiload Xr1 hx hby at_84 rfl k)))))) ?_
          have f3 : Sta Z Tr1.heap zs19 "cache" zs20 (.ref w8) := (own_staK S16 Kr1 all0)
          have f4 : own_LC Z Tr1.heap w8 n0 := (S18.keep Kr1 all0)
          have Z_1 : n0 ≤ Tr1.heap.size := Nat.le_trans Z0 Kr1.1
          obtain ⟨_, Tr2, Lr2, Xr2, hQr2, str2⟩ := ocallS Xr1 hx hZ zm11 hown (ww hw 63 rfl) (ww hw 64 rfl) (by decide) (ww hw 66 rfl) (ww hw 65 rfl) rfl (mg11_22 l Z a0 hw [] i4 w8 Tr1.heap n0 Z_1 f3 f4) (st := [(.long i4)]) rfl 0 rfl (by decide) (pc := 91) (Ls := (lc62 i0 i1 i2 i3 i4 i5 0 1 1 0 b1)) hml rfl (lenOf pd_9 rfl) at_91 hby
          obtain ⟨b2, rfl, Nr2q, Kr2, f5, f6⟩ := hQr2
          have N2 := Fr.app N1 Nr2q
          refine own_go (U' := Tr2.setTop (mkF m 102 (lc82 i0 i1 i2 i3 i4 i5 0 1 1 0 b1 b2) [(.int 0)])) (fun t k => oifN Xr1 hx hby at_86 (by decide) (olload Xr1 hx hby at_89 rfl (str2 _ (ogoto (pc := 94) Xr2 hx hby at_94 98 (by decide) (oastore Xr2 hx hby at_98 (lc82 i0 i1 i2 i3 i4 i5 0 1 1 0 b1 b2) rfl rfl (oiload Xr2 hx hby at_100 rfl k)))))) ?_
          have f7 : Sta Z Tr2.heap zs0 "DAY" zs1 (.ref w3) := (own_staK (own_staK S6 Kr1 all0) Kr2 all0)
          have f8 : Sta Z Tr2.heap zs0 "MONTH" zs1 (.ref w7) := (own_staK (own_staK S14 Kr1 all0) Kr2 all0)
          have f9 : Sta Z Tr2.heap zs0 "YEAR" zs1 (.ref w6) := (own_staK (own_staK S12 Kr1 all0) Kr2 all0)
          have f10 : Sta Z Tr2.heap zs0 "DECADE" zs1 (.ref w0) := (own_staK (own_staK S0 Kr1 all0) Kr2 all0)
          have f11 : Sta Z Tr2.heap zs0 "CENTURY" zs1 (.ref w5) := (own_staK (own_staK S10 Kr1 all0) Kr2 all0)
          have Z_2 : n0 ≤ Tr2.heap.size := Nat.le_trans Z_1 Kr2.1
          obtain ⟨_, Tr3, Lr3, Xr3, hQr3, str3⟩ := ocallS Xr2 hx hZ zm0 hown (ww hw 0 rfl) (ww hw 1 rfl) (by decide) (ww hw 3 rfl) (ww hw 2 rfl) rfl (mg1_5 l Z a0 hw [] i1 w3 w7 w6 w0 w5 Tr2.heap n0 Z_2 f7 f8 f9 f10 f11) (st := [(.int i1)]) rfl 0 rfl (by decide) (pc := 117) (Ls := (lc83 i0 i1 i2 i3 i4 i5 0 1 1 0 b1 b2)) hml rfl (lenOf pd_0 rfl) at_117 hby
          obtain ⟨rfl, Nr3q, er3⟩ := hQr3
          refine own_go (U' := Tr3.setTop (mkF m 120 (lc83 i0 i1 i2 i3 i4 i5 0 1 1 0 b1 b2) [(.ref (own_unit ((i1 &&& (2147483647 : Int32)) % (5 : Int32)) w3 w7 w6 w0 w5))])) (fun t k => oifY (pc := 102) Xr2 hx hby at_102 113 (by decide) (by decide) (onull Xr2 hx hby at_113 (oastore Xr2 hx hby at_114 (lc83 i0 i1 i2 i3 i4 i5 0 1 1 0 b1 b2) rfl rfl (oiloadN Xr2 hx hby at_116 rfl (str3 _ k))))) ?_
          obtain ⟨u1, hu1⟩ : ∃ z, z = (own_unit ((i1 &&& (2147483647 : Int32)) % (5 : Int32)) w3 w7 w6 w0 w5) := ⟨_, rfl⟩
          rw [← hu1]
          have N3 := Fr.app N2 Nr3q
          obtain ⟨Tr4, hr4, Xr4, er4, Er4, Ar4, Dr4, -, str4⟩ := newO Xr3 hx hZ hown (ww hw 8 rfl) (ww hw 9 rfl) (ww hw 10 rfl) er3 (g := (mkF m 122 (lc84 i0 i1 i2 i3 i4 i5 0 1 1 0 b1 b2 u1) [])) rfl (hb hby at_122) (by decide) (by decide)
          obtain ⟨br4, gr4⟩ : ∃ z, z = Tr2.heap.size := ⟨_, rfl⟩
          rw [← gr4] at Ar4 Dr4 str4
          have f12 : Fld Z hr4 br4 zs8 "unit" zs1 .null := Dr4 (Or.inr (ww hw 29 rfl)) (ty := (.object zs0)) (by decide)
          have f13 : Fld Z hr4 br4 zs8 "first" zs9 .null := Dr4 (Or.inr (ww hw 31 rfl)) (ty := (.object zs11)) (by decide)
          have f14 : Fld Z hr4 br4 zs8 "last" zs9 .null := Dr4 (Or.inr (ww hw 33 rfl)) (ty := (.object zs11)) (by decide)
          have f15 : Fld Z hr4 br4 zs8 "anchor" zs5 .null := Dr4 (Or.inr (ww hw 35 rfl)) (ty := (.object zs4)) (by decide)
          have f16 : Sta Z hr4 zs4 "FIRST" zs5 (.ref w1) := (Sta.ext Er4 (own_staK (own_staK S2 Kr1 all0) Kr2 all0))
          have f17 : Sta Z hr4 zs4 "MIDDLE" zs5 (.ref w2) := (Sta.ext Er4 (own_staK (own_staK S4 Kr1 all0) Kr2 all0))
          have f18 : Sta Z hr4 zs4 "LAST" zs5 (.ref w4) := (Sta.ext Er4 (own_staK (own_staK S8 Kr1 all0) Kr2 all0))
          have Z_3 : n0 ≤ hr4.size := Nat.le_trans Z_2 Er4.1
          obtain ⟨_, Tr5, Lr5, Xr5, hQr5, str5⟩ := ocallS Xr4 hx hZ zm1 hown (ww hw 11 rfl) (ww hw 12 rfl) (by decide) (ww hw 13 rfl) (ww hw 2 rfl) er4 (mg2_9 l Z a0 hw [] ((i0.toUInt32 >>> ((4 : Int32) &&& 31).toUInt32).toInt32) w1 w2 w4 hr4 n0 Z_3 f16 f17 f18) (st := [(.int ((i0.toUInt32 >>> ((4 : Int32) &&& 31).toUInt32).toInt32)), (.ref b1), .null, (.ref u1), (.ref br4), (.ref br4)]) rfl 5 rfl (by decide) (pc := 135) (Ls := (lc84 i0 i1 i2 i3 i4 i5 0 1 1 0 b1 b2 u1)) hml rfl (lenOf pd_1 rfl) at_135 hby
          obtain ⟨rfl, Nr5q, er5⟩ := hQr5
          refine own_go (U' := Tr5.setTop (mkF m 138 (lc84 i0 i1 i2 i3 i4 i5 0 1 1 0 b1 b2 u1) [(.ref (own_anch (((i0.toUInt32 >>> ((4 : Int32) &&& 31).toUInt32).toInt32) &&& (3 : Int32)) w1 w2 w4)), (.ref b1), .null, (.ref u1), (.ref br4), (.ref br4)])) (fun t k => oastore Xr3 hx hby at_120 (lc84 i0 i1 i2 i3 i4 i5 0 1 1 0 b1 b2 u1) rfl rfl (str4 _ (odup Xr4 hx hby at_125 rfl (oaload Xr4 hx hby at_126 rfl rfl (oaload Xr4 hx hby at_128 rfl rfl (oaload Xr4 hx hby at_130 rfl rfl (oiloadN Xr4 hx hby at_132 rfl (oiconst Xr4 hx hby at_133 (oiushr Xr4 hx hby at_134 (str5 _ k)))))))))) ?_
          obtain ⟨u2, hu2⟩ : ∃ z, z = (own_anch (((i0.toUInt32 >>> ((4 : Int32) &&& 31).toUInt32).toInt32) &&& (3 : Int32)) w1 w2 w4) := ⟨_, rfl⟩
          rw [← hu2]
          have N4 := Fr.app N3 Nr5q
          have g1 : n0 ≤ br4 := Nat.le_trans Z_2 (Nat.le_of_eq gr4.symm)
          obtain ⟨_, Tr6, Lr6, Xr6, hQr6, str6⟩ := ocallI Xr5 hx hZ zm3 rfl hown (ww hw 17 rfl) (ww hw 18 rfl) (by decide) (ww hw 19 rfl) (ww hw 10 rfl) er5 (rm3_23 l Z a0 hw [] br4 u1 b1 u2 hr4 n0 Z_3 f12 f13 f14 f15 Ar4 g1) (st := [(.ref u2), (.ref b1), .null, (.ref u1), (.ref br4), (.ref br4)]) rfl 1 rfl (by decide) (pc := 138) (Ls := (lc84 i0 i1 i2 i3 i4 i5 0 1 1 0 b1 b2 u1)) hml rfl (lenOf pd_3 rfl) at_138 hby
          obtain ⟨rfl, Nr6q, Kr6, f19, f20, f21, f22⟩ := hQr6
          have N5 := Fr.app N4 Nr6q
          obtain ⟨Tr7, hr7, Xr7, er7, Er7, Ar7, Dr7, -, str7⟩ := newO Xr6 hx hZ hown (ww hw 8 rfl) (ww hw 9 rfl) (ww hw 10 rfl) rfl (g := (mkF m 143 (lc85 i0 i1 i2 i3 i4 i5 0 1 1 0 b1 b2 u1 br4) [])) rfl (hb hby at_143) (by decide) (by decide)
          obtain ⟨br7, gr7⟩ : ∃ z, z = Tr6.heap.size := ⟨_, rfl⟩
          rw [← gr7] at Ar7 Dr7 str7
          have f23 : Fld Z hr7 br7 zs8 "unit" zs1 .null := Dr7 (Or.inr (ww hw 29 rfl)) (ty := (.object zs0)) (by decide)
          have f24 : Fld Z hr7 br7 zs8 "first" zs9 .null := Dr7 (Or.inr (ww hw 31 rfl)) (ty := (.object zs11)) (by decide)
          have f25 : Fld Z hr7 br7 zs8 "last" zs9 .null := Dr7 (Or.inr (ww hw 33 rfl)) (ty := (.object zs11)) (by decide)
          have f26 : Fld Z hr7 br7 zs8 "anchor" zs5 .null := Dr7 (Or.inr (ww hw 35 rfl)) (ty := (.object zs4)) (by decide)
          have f27 : Sta Z hr7 zs4 "FIRST" zs5 (.ref w1) := (Sta.ext Er7 (own_staK f16 Kr6 (allS (own_nsE Ar4) all0)))
          have f28 : Sta Z hr7 zs4 "MIDDLE" zs5 (.ref w2) := (Sta.ext Er7 (own_staK f17 Kr6 (allS (own_nsE Ar4) all0)))
          have f29 : Sta Z hr7 zs4 "LAST" zs5 (.ref w4) := (Sta.ext Er7 (own_staK f18 Kr6 (allS (own_nsE Ar4) all0)))
          have Z_4 : n0 ≤ Tr6.heap.size := Nat.le_trans Z_3 Kr6.1
          have Z_5 : n0 ≤ hr7.size := Nat.le_trans Z_4 Er7.1
          obtain ⟨_, Tr8, Lr8, Xr8, hQr8, str8⟩ := ocallS Xr7 hx hZ zm1 hown (ww hw 11 rfl) (ww hw 12 rfl) (by decide) (ww hw 13 rfl) (ww hw 2 rfl) er7 (mg2_9 l Z a0 hw [] ((i0.toUInt32 >>> ((6 : Int32) &&& 31).toUInt32).toInt32) w1 w2 w4 hr7 n0 Z_5 f27 f28 f29) (st := [(.int ((i0.toUInt32 >>> ((6 : Int32) &&& 31).toUInt32).toInt32)), .null, (.ref b2), (.ref u1), (.ref br7), (.ref br7)]) rfl 5 rfl (by decide) (pc := 157) (Ls := (lc85 i0 i1 i2 i3 i4 i5 0 1 1 0 b1 b2 u1 br4)) hml rfl (lenOf pd_1 rfl) at_157 hby
          obtain ⟨rfl, Nr8q, er8⟩ := hQr8
          refine own_go (U' := Tr8.setTop (mkF m 160 (lc85 i0 i1 i2 i3 i4 i5 0 1 1 0 b1 b2 u1 br4) [(.ref (own_anch (((i0.toUInt32 >>> ((6 : Int32) &&& 31).toUInt32).toInt32) &&& (3 : Int32)) w1 w2 w4)), .null, (.ref b2), (.ref u1), (.ref br7), (.ref br7)])) (fun t k => str6 _ (oastore Xr6 hx hby at_141 (lc85 i0 i1 i2 i3 i4 i5 0 1 1 0 b1 b2 u1 br4) rfl rfl (str7 _ (odup Xr7 hx hby at_146 rfl (oaload Xr7 hx hby at_147 rfl rfl (oaload Xr7 hx hby at_149 rfl rfl (oaload Xr7 hx hby at_151 rfl rfl (oiloadN Xr7 hx hby at_153 rfl (obipush Xr7 hx hby at_154 (oiushr Xr7 hx hby at_156 (str8 _ k))))))))))) ?_
          obtain ⟨u3, hu3⟩ : ∃ z, z = (own_anch (((i0.toUInt32 >>> ((6 : Int32) &&& 31).toUInt32).toInt32) &&& (3 : Int32)) w1 w2 w4) := ⟨_, rfl⟩
          rw [← hu3]
          have N6 := Fr.app N5 Nr8q
          have g2 : n0 ≤ br7 := Nat.le_trans Z_4 (Nat.le_of_eq gr7.symm)
          obtain ⟨_, Tr9, Lr9, Xr9, hQr9, str9⟩ := ocallI Xr8 hx hZ zm3 rfl hown (ww hw 17 rfl) (ww hw 18 rfl) (by decide) (ww hw 19 rfl) (ww hw 10 rfl) er8 (rm3_26 l Z a0 hw [] br7 u1 b2 u3 hr7 n0 Z_5 f23 f24 f25 f26 Ar7 g2) (st := [(.ref u3), .null, (.ref b2), (.ref u1), (.ref br7), (.ref br7)]) rfl 1 rfl (by decide) (pc := 160) (Ls := (lc85 i0 i1 i2 i3 i4 i5 0 1 1 0 b1 b2 u1 br4)) hml rfl (lenOf pd_3 rfl) at_160 hby
          obtain ⟨rfl, Nr9q, Kr9, f30, f31, f32, f33⟩ := hQr9
          have N7 := Fr.app N6 Nr9q
          have f34 : Exa Z Tr9.heap br4 zs8 := ((Exa.ext Er7 (Ar4.keep Kr6)).keep Kr9)
          have ne1 : br4 ≠ br7 := Nat.ne_of_lt (Nat.lt_of_lt_of_le (f19.lt) (Nat.le_of_eq gr7.symm))
          have f35 : Fld Z Tr9.heap br4 zs8 "first" zs9 .null := ((Fld.ext Er7 f20).keep Kr9 (ninS ne1 nin0))
          have Z_6 : n0 ≤ Tr9.heap.size := Nat.le_trans Z_5 Kr9.1
          obtain ⟨_, Tr10, Lr10, Xr10, hQr10, str10⟩ := ocallV Xr9 hx hZ zm4 zm4 hown (ww hw 36 rfl) (ww hw 37 rfl) (notFace_of_selects (args := #[]) (mvT hZ (ww hw 39 rfl))) (ww hw 39 rfl) (ww hw 38 rfl) (by decide) (ww hw 40 rfl) (ww hw 10 rfl) rfl f34 (rm6_12 l Z a0 hw [] br4 Tr9.heap n0 Z_6 f35) (st := [(.ref br4)]) rfl 0 rfl (by decide) (pc := 167) (Ls := (lc86 i0 i1 i2 i3 i4 i5 0 1 1 0 b1 b2 u1 br4 br7)) hml rfl (lenOf pd_4 rfl) at_167 hby
          obtain ⟨rfl, Nr10q, er10⟩ := hQr10
          have N8 := Fr.app N7 Nr10q
          refine own_go (U' := Tr10.setTop (mkF m 172 (lc86 i0 i1 i2 i3 i4 i5 0 1 1 0 b1 b2 u1 br4 br7) [(.int 0), (.int 0)])) (fun t k => str9 _ (oastore Xr9 hx hby at_163 (lc86 i0 i1 i2 i3 i4 i5 0 1 1 0 b1 b2 u1 br4 br7) rfl rfl (oaload Xr9 hx hby at_165 rfl rfl (str10 _ (oiload Xr10 hx hby at_170 rfl k))))) ?_
          refine own_go (U' := Tr10.setTop (mkF m 185 (lc86 i0 i1 i2 i3 i4 i5 0 1 1 0 b1 b2 u1 br4 br7) [(.int 0), (.int 0)])) (fun t k => oifY (pc := 172) Xr10 hx hby at_172 184 (by decide) (by decide) (oiconst Xr10 hx hby at_184 k)) ?_
          have f36 : Exa Z Tr9.heap br7 zs8 := (Ar7.keep Kr9)
          obtain ⟨_, Tr11, Lr11, Xr11, hQr11, str11⟩ := ocallV Xr10 hx hZ zm4 zm4 hown (ww hw 36 rfl) (ww hw 37 rfl) (notFace_of_selects (args := #[]) (mvT hZ (ww hw 39 rfl))) (ww hw 39 rfl) (ww hw 38 rfl) (by decide) (ww hw 40 rfl) (ww hw 10 rfl) er10 f36 (rm6_27 l Z a0 hw [] br7 b2 Tr9.heap n0 Z_6 f31 f32) (st := [(.ref br7)]) rfl 0 rfl (by decide) (pc := 197) (Ls := (lc87 i0 i1 i2 i3 i4 i5 0 1 1 0 b1 b2 u1 br4 br7 1)) hml rfl (lenOf pd_4 rfl) at_197 hby
          obtain ⟨rfl, Nr11q, er11⟩ := hQr11
          have N9 := Fr.app N8 Nr11q
          refine own_go (U' := Tr11.setTop (mkF m 202 (lc87 i0 i1 i2 i3 i4 i5 0 1 1 0 b1 b2 u1 br4 br7 1) [(.int 1), (.int 0)])) (fun t k => oicN Xr10 hx hby at_185 (by decide) (oiconst Xr10 hx hby at_188 (ogoto (pc := 189) Xr10 hx hby at_189 193 (by decide) (oistore Xr10 hx hby at_193 (lc87 i0 i1 i2 i3 i4 i5 0 1 1 0 b1 b2 u1 br4 br7 1) rfl (oaload Xr10 hx hby at_195 rfl rfl (str11 _ (oiload Xr11 hx hby at_200 rfl k))))))) ?_
          refine own_go (U' := Tr11.setTop (mkF m 207 (lc87 i0 i1 i2 i3 i4 i5 0 1 1 0 b1 b2 u1 br4 br7 1) [(.int 0), (.int 0)])) (fun t k => oifN Xr11 hx hby at_202 (by decide) (oiload Xr11 hx hby at_205 rfl k)) ?_
          refine own_go (U' := Tr11.setTop (mkF m 215 (lc87 i0 i1 i2 i3 i4 i5 0 1 1 0 b1 b2 u1 br4 br7 1) [(.int 0), (.int 0)])) (fun t k => oifY (pc := 207) Xr11 hx hby at_207 214 (by decide) (by decide) (oiconst Xr11 hx hby at_214 k)) ?_
          have f37 : Fld Z Tr9.heap br4 zs8 "last" zs9 (.ref b1) := ((Fld.ext Er7 f21).keep Kr9 (ninS ne1 nin0))
          have f38 : Fld Z Tr9.heap br4 zs8 "unit" zs1 (.ref u1) := ((Fld.ext Er7 f19).keep Kr9 (ninS ne1 nin0))
          have f39 : Sta Z Tr9.heap zs4 "MIDDLE" zs5 (.ref w2) := (own_staK f28 Kr9 (allS (own_nsF f23) all0))
          obtain ⟨_, Tr12, Lr12, Xr12, hQr12, str12⟩ := ocallV Xr11 hx hZ zm6 zm6 hown (ww hw 41 rfl) (ww hw 42 rfl) (notFace_of_selects (args := #[]) (mvT hZ (ww hw 44 rfl))) (ww hw 44 rfl) (ww hw 43 rfl) (by decide) (ww hw 45 rfl) (ww hw 10 rfl) er11 f34 (rm7_39 l Z a0 hw [] br4 br7 b2 b1 u1 w2 Tr9.heap n0 Z_6 f35 f31 f37 f32 f38 f39) (st := [(.ref br7), (.ref br4)]) rfl 0 rfl (by decide) (pc := 229) (Ls := (lc88 i0 i1 i2 i3 i4 i5 0 1 1 0 b1 b2 u1 br4 br7 1 1)) hml rfl (lenOf pd_6 rfl) at_229 hby
          obtain ⟨b3, rfl, Nr12q, Kr12, sz1, f40, f41, f42, f43, f44⟩ := hQr12
          have N10 := Fr.app N9 Nr12q
          have Z_7 : n0 ≤ Tr12.heap.size := Nat.le_trans Z_6 Kr12.1
          obtain ⟨_, Tr13, Lr13, Xr13, hQr13, str13⟩ := ocallV Xr12 hx hZ zm4 zm4 hown (ww hw 36 rfl) (ww hw 37 rfl) (notFace_of_selects (args := #[]) (mvT hZ (ww hw 39 rfl))) (ww hw 39 rfl) (ww hw 38 rfl) (by decide) (ww hw 40 rfl) (ww hw 10 rfl) rfl f40 (rm6_31 l Z a0 hw [] b3 b2 b1 Tr12.heap n0 Z_7 f42 f43) (st := [(.ref b3)]) rfl 0 rfl (by decide) (pc := 232) (Ls := (lc88 i0 i1 i2 i3 i4 i5 0 1 1 0 b1 b2 u1 br4 br7 1 1)) hml rfl (lenOf pd_4 rfl) at_232 hby
          obtain ⟨rfl, Nr13q, er13⟩ := hQr13
          have N11 := Fr.app N10 Nr13q
          refine own_go (U' := Tr13.setTop (mkF m 237 (lc88 i0 i1 i2 i3 i4 i5 0 1 1 0 b1 b2 u1 br4 br7 1 1) [(.int 0), (.int 1)])) (fun t k => oicN Xr11 hx hby at_215 (by decide) (oiconst Xr11 hx hby at_218 (ogoto (pc := 219) Xr11 hx hby at_219 223 (by decide) (oistore Xr11 hx hby at_223 (lc88 i0 i1 i2 i3 i4 i5 0 1 1 0 b1 b2 u1 br4 br7 1 1) rfl (oaload Xr11 hx hby at_225 rfl rfl (oaload Xr11 hx hby at_227 rfl rfl (str12 _ (str13 _ (oiload Xr13 hx hby at_235 rfl k))))))))) ?_
          refine own_go (U' := Tr13.setTop (mkF m 242 (lc88 i0 i1 i2 i3 i4 i5 0 1 1 0 b1 b2 u1 br4 br7 1 1) [(.int 1), (.int 1)])) (fun t k => oifN Xr13 hx hby at_237 (by decide) (oiload Xr13 hx hby at_240 rfl k)) ?_
          refine own_go (U' := Tr13.setTop (mkF m 247 (lc88 i0 i1 i2 i3 i4 i5 0 1 1 0 b1 b2 u1 br4 br7 1 1) [(.int 1), (.int 1)])) (fun t k => oifN Xr13 hx hby at_242 (by decide) (oiload Xr13 hx hby at_245 rfl k)) ?_
          refine own_go (U' := Tr13.setTop (mkF m 260 (lc88 i0 i1 i2 i3 i4 i5 0 1 1 0 b1 b2 u1 br4 br7 1 1) [(.int 1), (.int 1)])) (fun t k => oifY (pc := 247) Xr13 hx hby at_247 255 (by decide) (by decide) (oiconst Xr13 hx hby at_255 (ogoto (pc := 256) Xr13 hx hby at_256 260 (by decide) k))) ?_
          have f45 : Exa Z Tr12.heap br4 zs8 := (f34.keep Kr12)
          have f46 : Fld Z Tr12.heap br4 zs8 "unit" zs1 (.ref u1) := (f38.keep Kr12 nin0)
          have f47 : Fld Z Tr12.heap br4 zs8 "first" zs9 .null := (f35.keep Kr12 nin0)
          have f48 : Sta Z Tr12.heap zs4 "MIDDLE" zs5 (.ref w2) := (own_staK f39 Kr12 all0)
          obtain ⟨_, Tr14, Lr14, Xr14, hQr14, str14⟩ := ocallV Xr13 hx hZ zm7 zm7 hown (ww hw 53 rfl) (ww hw 54 rfl) (notFace_of_selects (args := #[]) (mvT hZ (ww hw 56 rfl))) (ww hw 56 rfl) (ww hw 55 rfl) (by decide) (ww hw 57 rfl) (ww hw 10 rfl) er13 f45 (rm9_15 l Z a0 hw [] br4 u1 w2 Tr12.heap n0 Z_7 f46 f47 f48) (st := [(.ref br4)]) rfl 0 rfl (by decide) (pc := 272) (Ls := (lc89 i0 i1 i2 i3 i4 i5 0 1 1 0 b1 b2 u1 br4 br7 1 1 1)) hml rfl (lenOf pd_7 rfl) at_272 hby
          obtain ⟨b4, rfl, Nr14q, Kr14, sz2, f49, f50, f51, f52, f53⟩ := hQr14
          have N12 := Fr.app N11 Nr14q
          have Z_8 : n0 ≤ Tr14.heap.size := Nat.le_trans Z_7 Kr14.1
          obtain ⟨_, Tr15, Lr15, Xr15, hQr15, str15⟩ := ocallV Xr14 hx hZ zm4 zm4 hown (ww hw 36 rfl) (ww hw 37 rfl) (notFace_of_selects (args := #[]) (mvT hZ (ww hw 39 rfl))) (ww hw 39 rfl) (ww hw 38 rfl) (by decide) (ww hw 40 rfl) (ww hw 10 rfl) rfl f49 (rm6_12 l Z a0 hw [] b4 Tr14.heap n0 Z_8 f51) (st := [(.ref b4)]) rfl 0 rfl (by decide) (pc := 275) (Ls := (lc89 i0 i1 i2 i3 i4 i5 0 1 1 0 b1 b2 u1 br4 br7 1 1 1)) hml rfl (lenOf pd_4 rfl) at_275 hby
          obtain ⟨rfl, Nr15q, er15⟩ := hQr15
          have N13 := Fr.app N12 Nr15q
          refine own_go (U' := Tr15.setTop (mkF m 278 (lc89 i0 i1 i2 i3 i4 i5 0 1 1 0 b1 b2 u1 br4 br7 1 1 1) [(.int 0)])) (fun t k => oicN Xr13 hx hby at_260 (by decide) (oiconst Xr13 hx hby at_263 (ogoto (pc := 264) Xr13 hx hby at_264 268 (by decide) (oistore Xr13 hx hby at_268 (lc89 i0 i1 i2 i3 i4 i5 0 1 1 0 b1 b2 u1 br4 br7 1 1 1) rfl (oaload Xr13 hx hby at_270 rfl rfl (str14 _ (str15 _ k))))))) ?_
          have f54 : Exa Z Tr14.heap br4 zs8 := (f45.keep Kr14)
          have f55 : Fld Z Tr14.heap br4 zs8 "unit" zs1 (.ref u1) := (f46.keep Kr14 nin0)
          have f56 : Fld Z Tr14.heap br4 zs8 "last" zs9 (.ref b1) := ((f37.keep Kr12 nin0).keep Kr14 nin0)
          have f57 : Sta Z Tr14.heap zs4 "MIDDLE" zs5 (.ref w2) := (own_staK f48 Kr14 all0)
          obtain ⟨_, Tr16, Lr16, Xr16, hQr16, str16⟩ := ocallV Xr15 hx hZ zm8 zm8 hown (ww hw 58 rfl) (ww hw 59 rfl) (notFace_of_selects (args := #[]) (mvT hZ (ww hw 61 rfl))) (ww hw 61 rfl) (ww hw 60 rfl) (by decide) (ww hw 62 rfl) (ww hw 10 rfl) er15 f54 (rm10_35 l Z a0 hw [] br4 u1 b1 w2 Tr14.heap n0 Z_8 f55 f56 f57) (st := [(.ref br4)]) rfl 0 rfl (by decide) (pc := 290) (Ls := (lc90 i0 i1 i2 i3 i4 i5 0 1 1 0 b1 b2 u1 br4 br7 1 1 1 1)) hml rfl (lenOf pd_7 rfl) at_290 hby
          obtain ⟨b5, rfl, Nr16q, Kr16, sz3, f58, f59, f60, f61, f62⟩ := hQr16
          have N14 := Fr.app N13 Nr16q
          have Z_9 : n0 ≤ Tr16.heap.size := Nat.le_trans Z_8 Kr16.1
          obtain ⟨_, Tr17, Lr17, Xr17, hQr17, str17⟩ := ocallV Xr16 hx hZ zm4 zm4 hown (ww hw 36 rfl) (ww hw 37 rfl) (notFace_of_selects (args := #[]) (mvT hZ (ww hw 39 rfl))) (ww hw 39 rfl) (ww hw 38 rfl) (by decide) (ww hw 40 rfl) (ww hw 10 rfl) rfl f58 (rm6_12 l Z a0 hw [] b5 Tr16.heap n0 Z_9 f60) (st := [(.ref b5)]) rfl 0 rfl (by decide) (pc := 293) (Ls := (lc90 i0 i1 i2 i3 i4 i5 0 1 1 0 b1 b2 u1 br4 br7 1 1 1 1)) hml rfl (lenOf pd_4 rfl) at_293 hby
          obtain ⟨rfl, Nr17q, er17⟩ := hQr17
          have N15 := Fr.app N14 Nr17q
          refine own_go (U' := Tr17.setTop (mkF m 296 (lc90 i0 i1 i2 i3 i4 i5 0 1 1 0 b1 b2 u1 br4 br7 1 1 1 1) [(.int 0)])) (fun t k => oifN Xr15 hx hby at_278 (by decide) (oiconst Xr15 hx hby at_281 (ogoto (pc := 282) Xr15 hx hby at_282 286 (by decide) (oistore Xr15 hx hby at_286 (lc90 i0 i1 i2 i3 i4 i5 0 1 1 0 b1 b2 u1 br4 br7 1 1 1 1) rfl (oaload Xr15 hx hby at_288 rfl rfl (str16 _ (str17 _ k))))))) ?_
          refine own_go (U' := Tr17.setTop (mkF m 308 (lc91 i0 i1 i2 i3 i4 i5 0 1 1 0 b1 b2 u1 br4 br7 1 1 1 1 1) [(.int 1)])) (fun t k => oifN Xr17 hx hby at_296 (by decide) (oiconst Xr17 hx hby at_299 (ogoto (pc := 300) Xr17 hx hby at_300 304 (by decide) (oistore Xr17 hx hby at_304 (lc91 i0 i1 i2 i3 i4 i5 0 1 1 0 b1 b2 u1 br4 br7 1 1 1 1 1) rfl (oiload Xr17 hx hby at_306 rfl k))))) ?_
          refine own_go (U' := Tr17.setTop (mkF m 313 (lc91 i0 i1 i2 i3 i4 i5 0 1 1 0 b1 b2 u1 br4 br7 1 1 1 1 1) [(.int 1)])) (fun t k => oifN Xr17 hx hby at_308 (by decide) (oiload Xr17 hx hby at_311 rfl k)) ?_
          refine own_go (U' := Tr17.setTop (mkF m 318 (lc91 i0 i1 i2 i3 i4 i5 0 1 1 0 b1 b2 u1 br4 br7 1 1 1 1 1) [(.int 1)])) (fun t k => oifN Xr17 hx hby at_313 (by decide) (oiload Xr17 hx hby at_316 rfl k)) ?_
          refine own_go (U' := Tr17.setTop (mkF m 323 (lc91 i0 i1 i2 i3 i4 i5 0 1 1 0 b1 b2 u1 br4 br7 1 1 1 1 1) [(.int 1)])) (fun t k => oifN Xr17 hx hby at_318 (by decide) (oiload Xr17 hx hby at_321 rfl k)) ?_
          refine own_go (U' := Tr17.setTop (mkF m 328 (lc91 i0 i1 i2 i3 i4 i5 0 1 1 0 b1 b2 u1 br4 br7 1 1 1 1 1) [(.int 1)])) (fun t k => oifN Xr17 hx hby at_323 (by decide) (oiload Xr17 hx hby at_326 rfl k)) ?_
          refine own_go (U' := Tr17.setTop (mkF m 336 (lc91 i0 i1 i2 i3 i4 i5 0 1 1 0 b1 b2 u1 br4 br7 1 1 1 1 1) [(.int 1)])) (fun t k => oifN Xr17 hx hby at_328 (by decide) (oiconst Xr17 hx hby at_331 (ogoto (pc := 332) Xr17 hx hby at_332 336 (by decide) k))) ?_
          obtain ⟨fs, hr, hrun, hended, hW, hsame⟩ := Xr17.leave (v := some (.int 1)) (fun h => by rw [Bd.returns] at h; cases h)
          refine own_out ⟨_, _, ?_, hrun, hended, _, _, rfl, ?_, ⟨_, rfl⟩, hW, hsame.mono (by decide) (by decide)⟩
          · exact retN Xr17 hx (t := .boolean) Bd.returns (by simp) (hb hby at_336) hr
          · exact ⟨rfl, N15⟩
        · have hc4 : ¬ ((i0 &&& (8 : Int32)) = (0 : Int32)) := hk9
          refine own_go (U' := s₁.setTop (mkF m 55 (lc4 i0 i1 i2 i3 i4 i5 0 1 1 1) [(.int 0)])) (fun t k => oifN X0 hx hby at_43 ((if0 _ _).trans (feq hc4).1) (oiconst X0 hx hby at_46 (ogoto (pc := 47) X0 hx hby at_47 51 (by decide) (oistore X0 hx hby at_51 (lc4 i0 i1 i2 i3 i4 i5 0 1 1 1) rfl (oiload X0 hx hby at_53 rfl k))))) ?_
          refine own_go (U' := s₁.setTop (mkF m 70 (lc5 i0 i1 i2 i3 i4 i5 0 1 1 1) [(.int 1)])) (fun t k => oifY (pc := 55) X0 hx hby at_55 65 (by decide) (by decide) (onull X0 hx hby at_65 (oastore X0 hx hby at_66 (lc5 i0 i1 i2 i3 i4 i5 0 1 1 1) rfl rfl (oiload X0 hx hby at_68 rfl k)))) ?_
          obtain ⟨_, Tr1, Lr1, Xr1, hQr1, str1⟩ := ocallS X0 hx hZ zm11 hown (ww hw 63 rfl) (ww hw 64 rfl) (by decide) (ww hw 66 rfl) (ww hw 65 rfl) e0 (mg11_22 l Z a0 hw [] i3 w8 h0 n0 Z0 S16 S18) (st := [(.long i3)]) rfl 0 rfl (by decide) (pc := 75) (Ls := (lc5 i0 i1 i2 i3 i4 i5 0 1 1 1)) hml rfl (lenOf pd_9 rfl) at_75 hby
          obtain ⟨b1, rfl, Nr1q, Kr1, f1, f2⟩ := hQr1
          have N1 := Fr.app N0 Nr1q
          refine own_go (U' := Tr1.setTop (mkF m 86 (lc62 i0 i1 i2 i3 i4 i5 0 1 1 1 b1) [(.int 1)])) (fun t k => oifN X0 hx hby at_70 (by decide) (olload X0 hx hby at_73 rfl (str1 _ (ogoto (pc := 78) Xr1 hx hby at_78 82 (by decide) (oastore Xr1 hx hby at_82 (lc62 i0 i1 i2 i3 i4 i5 0 1 1 1 b1) rfl rfl (oiload Xr1 hx hby at_84 rfl k)))))) ?_
          have f3 : Sta Z Tr1.heap zs19 "cache" zs20 (.ref w8) := (own_staK S16 Kr1 all0)
          have f4 : own_LC Z Tr1.heap w8 n0 := (S18.keep Kr1 all0)
          have Z_1 : n0 ≤ Tr1.heap.size := Nat.le_trans Z0 Kr1.1
          obtain ⟨_, Tr2, Lr2, Xr2, hQr2, str2⟩ := ocallS Xr1 hx hZ zm11 hown (ww hw 63 rfl) (ww hw 64 rfl) (by decide) (ww hw 66 rfl) (ww hw 65 rfl) rfl (mg11_22 l Z a0 hw [] i4 w8 Tr1.heap n0 Z_1 f3 f4) (st := [(.long i4)]) rfl 0 rfl (by decide) (pc := 91) (Ls := (lc62 i0 i1 i2 i3 i4 i5 0 1 1 1 b1)) hml rfl (lenOf pd_9 rfl) at_91 hby
          obtain ⟨b2, rfl, Nr2q, Kr2, f5, f6⟩ := hQr2
          have N2 := Fr.app N1 Nr2q
          refine own_go (U' := Tr2.setTop (mkF m 102 (lc82 i0 i1 i2 i3 i4 i5 0 1 1 1 b1 b2) [(.int 1)])) (fun t k => oifN Xr1 hx hby at_86 (by decide) (olload Xr1 hx hby at_89 rfl (str2 _ (ogoto (pc := 94) Xr2 hx hby at_94 98 (by decide) (oastore Xr2 hx hby at_98 (lc82 i0 i1 i2 i3 i4 i5 0 1 1 1 b1 b2) rfl rfl (oiload Xr2 hx hby at_100 rfl k)))))) ?_
          have f7 : Sta Z Tr2.heap zs19 "cache" zs20 (.ref w8) := (own_staK f3 Kr2 all0)
          have f8 : own_LC Z Tr2.heap w8 n0 := (f4.keep Kr2 all0)
          have Z_2 : n0 ≤ Tr2.heap.size := Nat.le_trans Z_1 Kr2.1
          obtain ⟨_, Tr3, Lr3, Xr3, hQr3, str3⟩ := ocallS Xr2 hx hZ zm11 hown (ww hw 63 rfl) (ww hw 64 rfl) (by decide) (ww hw 66 rfl) (ww hw 65 rfl) rfl (mg11_22 l Z a0 hw [] i5 w8 Tr2.heap n0 Z_2 f7 f8) (st := [(.long i5)]) rfl 0 rfl (by decide) (pc := 107) (Ls := (lc82 i0 i1 i2 i3 i4 i5 0 1 1 1 b1 b2)) hml rfl (lenOf pd_9 rfl) at_107 hby
          obtain ⟨b3, rfl, Nr3q, Kr3, f9, f10⟩ := hQr3
          have N3 := Fr.app N2 Nr3q
          have f11 : Sta Z Tr3.heap zs0 "DAY" zs1 (.ref w3) := (own_staK (own_staK (own_staK S6 Kr1 all0) Kr2 all0) Kr3 all0)
          have f12 : Sta Z Tr3.heap zs0 "MONTH" zs1 (.ref w7) := (own_staK (own_staK (own_staK S14 Kr1 all0) Kr2 all0) Kr3 all0)
          have f13 : Sta Z Tr3.heap zs0 "YEAR" zs1 (.ref w6) := (own_staK (own_staK (own_staK S12 Kr1 all0) Kr2 all0) Kr3 all0)
          have f14 : Sta Z Tr3.heap zs0 "DECADE" zs1 (.ref w0) := (own_staK (own_staK (own_staK S0 Kr1 all0) Kr2 all0) Kr3 all0)
          have f15 : Sta Z Tr3.heap zs0 "CENTURY" zs1 (.ref w5) := (own_staK (own_staK (own_staK S10 Kr1 all0) Kr2 all0) Kr3 all0)
          have Z_3 : n0 ≤ Tr3.heap.size := Nat.le_trans Z_2 Kr3.1
          obtain ⟨_, Tr4, Lr4, Xr4, hQr4, str4⟩ := ocallS Xr3 hx hZ zm0 hown (ww hw 0 rfl) (ww hw 1 rfl) (by decide) (ww hw 3 rfl) (ww hw 2 rfl) rfl (mg1_5 l Z a0 hw [] i1 w3 w7 w6 w0 w5 Tr3.heap n0 Z_3 f11 f12 f13 f14 f15) (st := [(.int i1)]) rfl 0 rfl (by decide) (pc := 117) (Ls := (lc92 i0 i1 i2 i3 i4 i5 0 1 1 1 b1 b2 b3)) hml rfl (lenOf pd_0 rfl) at_117 hby
          obtain ⟨rfl, Nr4q, er4⟩ := hQr4
          refine own_go (U' := Tr4.setTop (mkF m 120 (lc92 i0 i1 i2 i3 i4 i5 0 1 1 1 b1 b2 b3) [(.ref (own_unit ((i1 &&& (2147483647 : Int32)) % (5 : Int32)) w3 w7 w6 w0 w5))])) (fun t k => oifN Xr2 hx hby at_102 (by decide) (olload Xr2 hx hby at_105 rfl (str3 _ (ogoto (pc := 110) Xr3 hx hby at_110 114 (by decide) (oastore Xr3 hx hby at_114 (lc92 i0 i1 i2 i3 i4 i5 0 1 1 1 b1 b2 b3) rfl rfl (oiloadN Xr3 hx hby at_116 rfl (str4 _ k))))))) ?_
          obtain ⟨u1, hu1⟩ : ∃ z, z = (own_unit ((i1 &&& (2147483647 : Int32)) % (5 : Int32)) w3 w7 w6 w0 w5) := ⟨_, rfl⟩
          rw [← hu1]
          have N4 := Fr.app N3 Nr4q
          obtain ⟨Tr5, hr5, Xr5, er5, Er5, Ar5, Dr5, -, str5⟩ := newO Xr4 hx hZ hown (ww hw 8 rfl) (ww hw 9 rfl) (ww hw 10 rfl) er4 (g := (mkF m 122 (lc93 i0 i1 i2 i3 i4 i5 0 1 1 1 b1 b2 b3 u1) [])) rfl (hb hby at_122) (by decide) (by decide)
          obtain ⟨br5, gr5⟩ : ∃ z, z = Tr3.heap.size := ⟨_, rfl⟩
          rw [← gr5] at Ar5 Dr5 str5
          have f16 : Fld Z hr5 br5 zs8 "unit" zs1 .null := Dr5 (Or.inr (ww hw 29 rfl)) (ty := (.object zs0)) (by decide)
          have f17 : Fld Z hr5 br5 zs8 "first" zs9 .null := Dr5 (Or.inr (ww hw 31 rfl)) (ty := (.object zs11)) (by decide)
          have f18 : Fld Z hr5 br5 zs8 "last" zs9 .null := Dr5 (Or.inr (ww hw 33 rfl)) (ty := (.object zs11)) (by decide)
          have f19 : Fld Z hr5 br5 zs8 "anchor" zs5 .null := Dr5 (Or.inr (ww hw 35 rfl)) (ty := (.object zs4)) (by decide)
          have f20 : Sta Z hr5 zs4 "FIRST" zs5 (.ref w1) := (Sta.ext Er5 (own_staK (own_staK (own_staK S2 Kr1 all0) Kr2 all0) Kr3 all0))
          have f21 : Sta Z hr5 zs4 "MIDDLE" zs5 (.ref w2) := (Sta.ext Er5 (own_staK (own_staK (own_staK S4 Kr1 all0) Kr2 all0) Kr3 all0))
          have f22 : Sta Z hr5 zs4 "LAST" zs5 (.ref w4) := (Sta.ext Er5 (own_staK (own_staK (own_staK S8 Kr1 all0) Kr2 all0) Kr3 all0))
          have Z_4 : n0 ≤ hr5.size := Nat.le_trans Z_3 Er5.1
          obtain ⟨_, Tr6, Lr6, Xr6, hQr6, str6⟩ := ocallS Xr5 hx hZ zm1 hown (ww hw 11 rfl) (ww hw 12 rfl) (by decide) (ww hw 13 rfl) (ww hw 2 rfl) er5 (mg2_9 l Z a0 hw [] ((i0.toUInt32 >>> ((4 : Int32) &&& 31).toUInt32).toInt32) w1 w2 w4 hr5 n0 Z_4 f20 f21 f22) (st := [(.int ((i0.toUInt32 >>> ((4 : Int32) &&& 31).toUInt32).toInt32)), (.ref b1), .null, (.ref u1), (.ref br5), (.ref br5)]) rfl 5 rfl (by decide) (pc := 135) (Ls := (lc93 i0 i1 i2 i3 i4 i5 0 1 1 1 b1 b2 b3 u1)) hml rfl (lenOf pd_1 rfl) at_135 hby
          obtain ⟨rfl, Nr6q, er6⟩ := hQr6
          refine own_go (U' := Tr6.setTop (mkF m 138 (lc93 i0 i1 i2 i3 i4 i5 0 1 1 1 b1 b2 b3 u1) [(.ref (own_anch (((i0.toUInt32 >>> ((4 : Int32) &&& 31).toUInt32).toInt32) &&& (3 : Int32)) w1 w2 w4)), (.ref b1), .null, (.ref u1), (.ref br5), (.ref br5)])) (fun t k => oastore Xr4 hx hby at_120 (lc93 i0 i1 i2 i3 i4 i5 0 1 1 1 b1 b2 b3 u1) rfl rfl (str5 _ (odup Xr5 hx hby at_125 rfl (oaload Xr5 hx hby at_126 rfl rfl (oaload Xr5 hx hby at_128 rfl rfl (oaload Xr5 hx hby at_130 rfl rfl (oiloadN Xr5 hx hby at_132 rfl (oiconst Xr5 hx hby at_133 (oiushr Xr5 hx hby at_134 (str6 _ k)))))))))) ?_
          obtain ⟨u2, hu2⟩ : ∃ z, z = (own_anch (((i0.toUInt32 >>> ((4 : Int32) &&& 31).toUInt32).toInt32) &&& (3 : Int32)) w1 w2 w4) := ⟨_, rfl⟩
          rw [← hu2]
          have N5 := Fr.app N4 Nr6q
          have g1 : n0 ≤ br5 := Nat.le_trans Z_3 (Nat.le_of_eq gr5.symm)
          obtain ⟨_, Tr7, Lr7, Xr7, hQr7, str7⟩ := ocallI Xr6 hx hZ zm3 rfl hown (ww hw 17 rfl) (ww hw 18 rfl) (by decide) (ww hw 19 rfl) (ww hw 10 rfl) er6 (rm3_23 l Z a0 hw [] br5 u1 b1 u2 hr5 n0 Z_4 f16 f17 f18 f19 Ar5 g1) (st := [(.ref u2), (.ref b1), .null, (.ref u1), (.ref br5), (.ref br5)]) rfl 1 rfl (by decide) (pc := 138) (Ls := (lc93 i0 i1 i2 i3 i4 i5 0 1 1 1 b1 b2 b3 u1)) hml rfl (lenOf pd_3 rfl) at_138 hby
          obtain ⟨rfl, Nr7q, Kr7, f23, f24, f25, f26⟩ := hQr7
          have N6 := Fr.app N5 Nr7q
          obtain ⟨Tr8, hr8, Xr8, er8, Er8, Ar8, Dr8, -, str8⟩ := newO Xr7 hx hZ hown (ww hw 8 rfl) (ww hw 9 rfl) (ww hw 10 rfl) rfl (g := (mkF m 143 (lc94 i0 i1 i2 i3 i4 i5 0 1 1 1 b1 b2 b3 u1 br5) [])) rfl (hb hby at_143) (by decide) (by decide)
          obtain ⟨br8, gr8⟩ : ∃ z, z = Tr7.heap.size := ⟨_, rfl⟩
          rw [← gr8] at Ar8 Dr8 str8
          have f27 : Fld Z hr8 br8 zs8 "unit" zs1 .null := Dr8 (Or.inr (ww hw 29 rfl)) (ty := (.object zs0)) (by decide)
          have f28 : Fld Z hr8 br8 zs8 "first" zs9 .null := Dr8 (Or.inr (ww hw 31 rfl)) (ty := (.object zs11)) (by decide)
          have f29 : Fld Z hr8 br8 zs8 "last" zs9 .null := Dr8 (Or.inr (ww hw 33 rfl)) (ty := (.object zs11)) (by decide)
          have f30 : Fld Z hr8 br8 zs8 "anchor" zs5 .null := Dr8 (Or.inr (ww hw 35 rfl)) (ty := (.object zs4)) (by decide)
          have f31 : Sta Z hr8 zs4 "FIRST" zs5 (.ref w1) := (Sta.ext Er8 (own_staK f20 Kr7 (allS (own_nsE Ar5) all0)))
          have f32 : Sta Z hr8 zs4 "MIDDLE" zs5 (.ref w2) := (Sta.ext Er8 (own_staK f21 Kr7 (allS (own_nsE Ar5) all0)))
          have f33 : Sta Z hr8 zs4 "LAST" zs5 (.ref w4) := (Sta.ext Er8 (own_staK f22 Kr7 (allS (own_nsE Ar5) all0)))
          have Z_5 : n0 ≤ Tr7.heap.size := Nat.le_trans Z_4 Kr7.1
          have Z_6 : n0 ≤ hr8.size := Nat.le_trans Z_5 Er8.1
          obtain ⟨_, Tr9, Lr9, Xr9, hQr9, str9⟩ := ocallS Xr8 hx hZ zm1 hown (ww hw 11 rfl) (ww hw 12 rfl) (by decide) (ww hw 13 rfl) (ww hw 2 rfl) er8 (mg2_9 l Z a0 hw [] ((i0.toUInt32 >>> ((6 : Int32) &&& 31).toUInt32).toInt32) w1 w2 w4 hr8 n0 Z_6 f31 f32 f33) (st := [(.int ((i0.toUInt32 >>> ((6 : Int32) &&& 31).toUInt32).toInt32)), (.ref b3), (.ref b2), (.ref u1), (.ref br8), (.ref br8)]) rfl 5 rfl (by decide) (pc := 157) (Ls := (lc94 i0 i1 i2 i3 i4 i5 0 1 1 1 b1 b2 b3 u1 br5)) hml rfl (lenOf pd_1 rfl) at_157 hby
          obtain ⟨rfl, Nr9q, er9⟩ := hQr9
          refine own_go (U' := Tr9.setTop (mkF m 160 (lc94 i0 i1 i2 i3 i4 i5 0 1 1 1 b1 b2 b3 u1 br5) [(.ref (own_anch (((i0.toUInt32 >>> ((6 : Int32) &&& 31).toUInt32).toInt32) &&& (3 : Int32)) w1 w2 w4)), (.ref b3), (.ref b2), (.ref u1), (.ref br8), (.ref br8)])) (fun t k => str7 _ (oastore Xr7 hx hby at_141 (lc94 i0 i1 i2 i3 i4 i5 0 1 1 1 b1 b2 b3 u1 br5) rfl rfl (str8 _ (odup Xr8 hx hby at_146 rfl (oaload Xr8 hx hby at_147 rfl rfl (oaload Xr8 hx hby at_149 rfl rfl (oaload Xr8 hx hby at_151 rfl rfl (oiloadN Xr8 hx hby at_153 rfl (obipush Xr8 hx hby at_154 (oiushr Xr8 hx hby at_156 (str9 _ k))))))))))) ?_
          obtain ⟨u3, hu3⟩ : ∃ z, z = (own_anch (((i0.toUInt32 >>> ((6 : Int32) &&& 31).toUInt32).toInt32) &&& (3 : Int32)) w1 w2 w4) := ⟨_, rfl⟩
          rw [← hu3]
          have N7 := Fr.app N6 Nr9q
          have g2 : n0 ≤ br8 := Nat.le_trans Z_5 (Nat.le_of_eq gr8.symm)
          obtain ⟨_, Tr10, Lr10, Xr10, hQr10, str10⟩ := ocallI Xr9 hx hZ zm3 rfl hown (ww hw 17 rfl) (ww hw 18 rfl) (by decide) (ww hw 19 rfl) (ww hw 10 rfl) er9 (rm3_30 l Z a0 hw [] br8 u1 b2 b3 u3 hr8 n0 Z_6 f27 f28 f29 f30 Ar8 g2) (st := [(.ref u3), (.ref b3), (.ref b2), (.ref u1), (.ref br8), (.ref br8)]) rfl 1 rfl (by decide) (pc := 160) (Ls := (lc94 i0 i1 i2 i3 i4 i5 0 1 1 1 b1 b2 b3 u1 br5)) hml rfl (lenOf pd_3 rfl) at_160 hby
          obtain ⟨rfl, Nr10q, Kr10, f34, f35, f36, f37⟩ := hQr10
          have N8 := Fr.app N7 Nr10q
          have f38 : Exa Z Tr10.heap br5 zs8 := ((Exa.ext Er8 (Ar5.keep Kr7)).keep Kr10)
          have ne1 : br5 ≠ br8 := Nat.ne_of_lt (Nat.lt_of_lt_of_le (f23.lt) (Nat.le_of_eq gr8.symm))
          have f39 : Fld Z Tr10.heap br5 zs8 "first" zs9 .null := ((Fld.ext Er8 f24).keep Kr10 (ninS ne1 nin0))
          have Z_7 : n0 ≤ Tr10.heap.size := Nat.le_trans Z_6 Kr10.1
          obtain ⟨_, Tr11, Lr11, Xr11, hQr11, str11⟩ := ocallV Xr10 hx hZ zm4 zm4 hown (ww hw 36 rfl) (ww hw 37 rfl) (notFace_of_selects (args := #[]) (mvT hZ (ww hw 39 rfl))) (ww hw 39 rfl) (ww hw 38 rfl) (by decide) (ww hw 40 rfl) (ww hw 10 rfl) rfl f38 (rm6_12 l Z a0 hw [] br5 Tr10.heap n0 Z_7 f39) (st := [(.ref br5)]) rfl 0 rfl (by decide) (pc := 167) (Ls := (lc95 i0 i1 i2 i3 i4 i5 0 1 1 1 b1 b2 b3 u1 br5 br8)) hml rfl (lenOf pd_4 rfl) at_167 hby
          obtain ⟨rfl, Nr11q, er11⟩ := hQr11
          have N9 := Fr.app N8 Nr11q
          refine own_go (U' := Tr11.setTop (mkF m 172 (lc95 i0 i1 i2 i3 i4 i5 0 1 1 1 b1 b2 b3 u1 br5 br8) [(.int 0), (.int 0)])) (fun t k => str10 _ (oastore Xr10 hx hby at_163 (lc95 i0 i1 i2 i3 i4 i5 0 1 1 1 b1 b2 b3 u1 br5 br8) rfl rfl (oaload Xr10 hx hby at_165 rfl rfl (str11 _ (oiload Xr11 hx hby at_170 rfl k))))) ?_
          refine own_go (U' := Tr11.setTop (mkF m 185 (lc95 i0 i1 i2 i3 i4 i5 0 1 1 1 b1 b2 b3 u1 br5 br8) [(.int 0), (.int 0)])) (fun t k => oifY (pc := 172) Xr11 hx hby at_172 184 (by decide) (by decide) (oiconst Xr11 hx hby at_184 k)) ?_
          have f40 : Exa Z Tr10.heap br8 zs8 := (Ar8.keep Kr10)
          obtain ⟨_, Tr12, Lr12, Xr12, hQr12, str12⟩ := ocallV Xr11 hx hZ zm4 zm4 hown (ww hw 36 rfl) (ww hw 37 rfl) (notFace_of_selects (args := #[]) (mvT hZ (ww hw 39 rfl))) (ww hw 39 rfl) (ww hw 38 rfl) (by decide) (ww hw 40 rfl) (ww hw 10 rfl) er11 f40 (rm6_31 l Z a0 hw [] br8 b2 b3 Tr10.heap n0 Z_7 f35 f36) (st := [(.ref br8)]) rfl 0 rfl (by decide) (pc := 197) (Ls := (lc96 i0 i1 i2 i3 i4 i5 0 1 1 1 b1 b2 b3 u1 br5 br8 1)) hml rfl (lenOf pd_4 rfl) at_197 hby
          obtain ⟨rfl, Nr12q, er12⟩ := hQr12
          have N10 := Fr.app N9 Nr12q
          refine own_go (U' := Tr12.setTop (mkF m 202 (lc96 i0 i1 i2 i3 i4 i5 0 1 1 1 b1 b2 b3 u1 br5 br8 1) [(.int 1), (.int 1)])) (fun t k => oicN Xr11 hx hby at_185 (by decide) (oiconst Xr11 hx hby at_188 (ogoto (pc := 189) Xr11 hx hby at_189 193 (by decide) (oistore Xr11 hx hby at_193 (lc96 i0 i1 i2 i3 i4 i5 0 1 1 1 b1 b2 b3 u1 br5 br8 1) rfl (oaload Xr11 hx hby at_195 rfl rfl (str12 _ (oiload Xr12 hx hby at_200 rfl k))))))) ?_
          refine own_go (U' := Tr12.setTop (mkF m 207 (lc96 i0 i1 i2 i3 i4 i5 0 1 1 1 b1 b2 b3 u1 br5 br8 1) [(.int 1), (.int 1)])) (fun t k => oifN Xr12 hx hby at_202 (by decide) (oiload Xr12 hx hby at_205 rfl k)) ?_
          refine own_go (U' := Tr12.setTop (mkF m 215 (lc96 i0 i1 i2 i3 i4 i5 0 1 1 1 b1 b2 b3 u1 br5 br8 1) [(.int 1), (.int 1)])) (fun t k => oifN Xr12 hx hby at_207 (by decide) (oiconst Xr12 hx hby at_210 (ogoto (pc := 211) Xr12 hx hby at_211 215 (by decide) k))) ?_
          have f41 : Fld Z Tr10.heap br5 zs8 "last" zs9 (.ref b1) := ((Fld.ext Er8 f25).keep Kr10 (ninS ne1 nin0))
          have f42 : Exa Z Tr10.heap b3 zs11 := ((Exa.ext Er8 ((Exa.ext Er5 f9).keep Kr7)).keep Kr10)
          have ne2 : b3 ≠ br5 := Nat.ne_of_lt (Nat.lt_of_lt_of_le (f10.lt) (Nat.le_of_eq gr5.symm))
          have ne3 : b3 ≠ br8 := Nat.ne_of_lt (Nat.lt_of_lt_of_le (Nat.lt_of_lt_of_le (Nat.lt_of_lt_of_le (f10.lt) Er5.1) Kr7.1) (Nat.le_of_eq gr8.symm))
          have f43 : Fld Z Tr10.heap b3 zs11 "value" "J" (.long i5) := ((Fld.ext Er8 ((Fld.ext Er5 f10).keep Kr7 (ninS ne2 nin0))).keep Kr10 (ninS ne3 nin0))
          have f44 : Exa Z Tr10.heap b1 zs11 := ((Exa.ext Er8 ((Exa.ext Er5 ((f1.keep Kr2).keep Kr3)).keep Kr7)).keep Kr10)
          have ne4 : b1 ≠ br5 := Nat.ne_of_lt (Nat.lt_of_lt_of_le (Nat.lt_of_lt_of_le (Nat.lt_of_lt_of_le (f2.lt) Kr2.1) Kr3.1) (Nat.le_of_eq gr5.symm))
          have ne5 : b1 ≠ br8 := Nat.ne_of_lt (Nat.lt_of_lt_of_le (Nat.lt_of_lt_of_le (Nat.lt_of_lt_of_le (Nat.lt_of_lt_of_le (Nat.lt_of_lt_of_le (f2.lt) Kr2.1) Kr3.1) Er5.1) Kr7.1) (Nat.le_of_eq gr8.symm))
          have f45 : Fld Z Tr10.heap b1 zs11 "value" "J" (.long i3) := ((Fld.ext Er8 ((Fld.ext Er5 ((f2.keep Kr2 nin0).keep Kr3 nin0)).keep Kr7 (ninS ne4 nin0))).keep Kr10 (ninS ne5 nin0))
          have f46 : Fld Z Tr10.heap br5 zs8 "unit" zs1 (.ref u1) := ((Fld.ext Er8 f23).keep Kr10 (ninS ne1 nin0))
          have f47 : Sta Z Tr10.heap zs4 "MIDDLE" zs5 (.ref w2) := (own_staK f32 Kr10 (allS (own_nsF f27) all0))
          by_cases hk10 : i5 < i3
          · have hc7 : i5 < i3 := hk10
            obtain ⟨_, Tr13, Lr13, Xr13, hQr13, str13⟩ := ocallV Xr12 hx hZ zm6 zm6 hown (ww hw 41 rfl) (ww hw 42 rfl) (notFace_of_selects (args := #[]) (mvT hZ (ww hw 44 rfl))) (ww hw 44 rfl) (ww hw 43 rfl) (by decide) (ww hw 45 rfl) (ww hw 10 rfl) er12 f38 (rm7_40 l Z a0 hw [] br5 br8 b2 b1 b3 i5 i3 u1 w2 Tr10.heap n0 Z_7 f39 f35 f41 f36 f42 f43 f44 f45 hc7 f46 f47) (st := [(.ref br8), (.ref br5)]) rfl 0 rfl (by decide) (pc := 229) (Ls := (lc97 i0 i1 i2 i3 i4 i5 0 1 1 1 b1 b2 b3 u1 br5 br8 1 1)) hml rfl (lenOf pd_6 rfl) at_229 hby
            obtain ⟨b4, rfl, Nr13q, Kr13, sz1, f48, f49, f50, f51, f52⟩ := hQr13
            have N11 := Fr.app N10 Nr13q
            have Z_8 : n0 ≤ Tr13.heap.size := Nat.le_trans Z_7 Kr13.1
            obtain ⟨_, Tr14, Lr14, Xr14, hQr14, str14⟩ := ocallV Xr13 hx hZ zm4 zm4 hown (ww hw 36 rfl) (ww hw 37 rfl) (notFace_of_selects (args := #[]) (mvT hZ (ww hw 39 rfl))) (ww hw 39 rfl) (ww hw 38 rfl) (by decide) (ww hw 40 rfl) (ww hw 10 rfl) rfl f48 (rm6_31 l Z a0 hw [] b4 b2 b3 Tr13.heap n0 Z_8 f50 f51) (st := [(.ref b4)]) rfl 0 rfl (by decide) (pc := 232) (Ls := (lc97 i0 i1 i2 i3 i4 i5 0 1 1 1 b1 b2 b3 u1 br5 br8 1 1)) hml rfl (lenOf pd_4 rfl) at_232 hby
            obtain ⟨rfl, Nr14q, er14⟩ := hQr14
            have N12 := Fr.app N11 Nr14q
            refine own_go (U' := Tr14.setTop (mkF m 237 (lc97 i0 i1 i2 i3 i4 i5 0 1 1 1 b1 b2 b3 u1 br5 br8 1 1) [(.int 0), (.int 1)])) (fun t k => oicN Xr12 hx hby at_215 (by decide) (oiconst Xr12 hx hby at_218 (ogoto (pc := 219) Xr12 hx hby at_219 223 (by decide) (oistore Xr12 hx hby at_223 (lc97 i0 i1 i2 i3 i4 i5 0 1 1 1 b1 b2 b3 u1 br5 br8 1 1) rfl (oaload Xr12 hx hby at_225 rfl rfl (oaload Xr12 hx hby at_227 rfl rfl (str13 _ (str14 _ (oiload Xr14 hx hby at_235 rfl k))))))))) ?_
            refine own_go (U' := Tr14.setTop (mkF m 242 (lc97 i0 i1 i2 i3 i4 i5 0 1 1 1 b1 b2 b3 u1 br5 br8 1 1) [(.int 1), (.int 1)])) (fun t k => oifN Xr14 hx hby at_237 (by decide) (oiload Xr14 hx hby at_240 rfl k)) ?_
            refine own_go (U' := Tr14.setTop (mkF m 247 (lc97 i0 i1 i2 i3 i4 i5 0 1 1 1 b1 b2 b3 u1 br5 br8 1 1) [(.int 1), (.int 1)])) (fun t k => oifN Xr14 hx hby at_242 (by decide) (oiload Xr14 hx hby at_245 rfl k)) ?_
            refine own_go (U' := Tr14.setTop (mkF m 260 (lc97 i0 i1 i2 i3 i4 i5 0 1 1 1 b1 b2 b3 u1 br5 br8 1 1) [(.int 1), (.int 1)])) (fun t k => oifY (pc := 247) Xr14 hx hby at_247 255 (by decide) (by decide) (oiconst Xr14 hx hby at_255 (ogoto (pc := 256) Xr14 hx hby at_256 260 (by decide) k))) ?_
            have f53 : Exa Z Tr13.heap br5 zs8 := (f38.keep Kr13)
            have f54 : Fld Z Tr13.heap br5 zs8 "unit" zs1 (.ref u1) := (f46.keep Kr13 nin0)
            have f55 : Fld Z Tr13.heap br5 zs8 "first" zs9 .null := (f39.keep Kr13 nin0)
            have f56 : Sta Z Tr13.heap zs4 "MIDDLE" zs5 (.ref w2) := (own_staK f47 Kr13 all0)
            obtain ⟨_, Tr15, Lr15, Xr15, hQr15, str15⟩ := ocallV Xr14 hx hZ zm7 zm7 hown (ww hw 53 rfl) (ww hw 54 rfl) (notFace_of_selects (args := #[]) (mvT hZ (ww hw 56 rfl))) (ww hw 56 rfl) (ww hw 55 rfl) (by decide) (ww hw 57 rfl) (ww hw 10 rfl) er14 f53 (rm9_15 l Z a0 hw [] br5 u1 w2 Tr13.heap n0 Z_8 f54 f55 f56) (st := [(.ref br5)]) rfl 0 rfl (by decide) (pc := 272) (Ls := (lc98 i0 i1 i2 i3 i4 i5 0 1 1 1 b1 b2 b3 u1 br5 br8 1 1 1)) hml rfl (lenOf pd_7 rfl) at_272 hby
            obtain ⟨b5, rfl, Nr15q, Kr15, sz2, f57, f58, f59, f60, f61⟩ := hQr15
            have N13 := Fr.app N12 Nr15q
            have Z_9 : n0 ≤ Tr15.heap.size := Nat.le_trans Z_8 Kr15.1
            obtain ⟨_, Tr16, Lr16, Xr16, hQr16, str16⟩ := ocallV Xr15 hx hZ zm4 zm4 hown (ww hw 36 rfl) (ww hw 37 rfl) (notFace_of_selects (args := #[]) (mvT hZ (ww hw 39 rfl))) (ww hw 39 rfl) (ww hw 38 rfl) (by decide) (ww hw 40 rfl) (ww hw 10 rfl) rfl f57 (rm6_12 l Z a0 hw [] b5 Tr15.heap n0 Z_9 f59) (st := [(.ref b5)]) rfl 0 rfl (by decide) (pc := 275) (Ls := (lc98 i0 i1 i2 i3 i4 i5 0 1 1 1 b1 b2 b3 u1 br5 br8 1 1 1)) hml rfl (lenOf pd_4 rfl) at_275 hby
            obtain ⟨rfl, Nr16q, er16⟩ := hQr16
            have N14 := Fr.app N13 Nr16q
            refine own_go (U' := Tr16.setTop (mkF m 278 (lc98 i0 i1 i2 i3 i4 i5 0 1 1 1 b1 b2 b3 u1 br5 br8 1 1 1) [(.int 0)])) (fun t k => oicN Xr14 hx hby at_260 (by decide) (oiconst Xr14 hx hby at_263 (ogoto (pc := 264) Xr14 hx hby at_264 268 (by decide) (oistore Xr14 hx hby at_268 (lc98 i0 i1 i2 i3 i4 i5 0 1 1 1 b1 b2 b3 u1 br5 br8 1 1 1) rfl (oaload Xr14 hx hby at_270 rfl rfl (str15 _ (str16 _ k))))))) ?_
            have f62 : Exa Z Tr15.heap br5 zs8 := (f53.keep Kr15)
            have f63 : Fld Z Tr15.heap br5 zs8 "unit" zs1 (.ref u1) := (f54.keep Kr15 nin0)
            have f64 : Fld Z Tr15.heap br5 zs8 "last" zs9 (.ref b1) := ((f41.keep Kr13 nin0).keep Kr15 nin0)
            have f65 : Sta Z Tr15.heap zs4 "MIDDLE" zs5 (.ref w2) := (own_staK f56 Kr15 all0)
            obtain ⟨_, Tr17, Lr17, Xr17, hQr17, str17⟩ := ocallV Xr16 hx hZ zm8 zm8 hown (ww hw 58 rfl) (ww hw 59 rfl) (notFace_of_selects (args := #[]) (mvT hZ (ww hw 61 rfl))) (ww hw 61 rfl) (ww hw 60 rfl) (by decide) (ww hw 62 rfl) (ww hw 10 rfl) er16 f62 (rm10_35 l Z a0 hw [] br5 u1 b1 w2 Tr15.heap n0 Z_9 f63 f64 f65) (st := [(.ref br5)]) rfl 0 rfl (by decide) (pc := 290) (Ls := (lc99 i0 i1 i2 i3 i4 i5 0 1 1 1 b1 b2 b3 u1 br5 br8 1 1 1 1)) hml rfl (lenOf pd_7 rfl) at_290 hby
            obtain ⟨b6, rfl, Nr17q, Kr17, sz3, f66, f67, f68, f69, f70⟩ := hQr17
            have N15 := Fr.app N14 Nr17q
            have Z_10 : n0 ≤ Tr17.heap.size := Nat.le_trans Z_9 Kr17.1
            obtain ⟨_, Tr18, Lr18, Xr18, hQr18, str18⟩ := ocallV Xr17 hx hZ zm4 zm4 hown (ww hw 36 rfl) (ww hw 37 rfl) (notFace_of_selects (args := #[]) (mvT hZ (ww hw 39 rfl))) (ww hw 39 rfl) (ww hw 38 rfl) (by decide) (ww hw 40 rfl) (ww hw 10 rfl) rfl f66 (rm6_12 l Z a0 hw [] b6 Tr17.heap n0 Z_10 f68) (st := [(.ref b6)]) rfl 0 rfl (by decide) (pc := 293) (Ls := (lc99 i0 i1 i2 i3 i4 i5 0 1 1 1 b1 b2 b3 u1 br5 br8 1 1 1 1)) hml rfl (lenOf pd_4 rfl) at_293 hby
            obtain ⟨rfl, Nr18q, er18⟩ := hQr18
            have N16 := Fr.app N15 Nr18q
            refine own_go (U' := Tr18.setTop (mkF m 296 (lc99 i0 i1 i2 i3 i4 i5 0 1 1 1 b1 b2 b3 u1 br5 br8 1 1 1 1) [(.int 0)])) (fun t k => oifN Xr16 hx hby at_278 (by decide) (oiconst Xr16 hx hby at_281 (ogoto (pc := 282) Xr16 hx hby at_282 286 (by decide) (oistore Xr16 hx hby at_286 (lc99 i0 i1 i2 i3 i4 i5 0 1 1 1 b1 b2 b3 u1 br5 br8 1 1 1 1) rfl (oaload Xr16 hx hby at_288 rfl rfl (str17 _ (str18 _ k))))))) ?_
            refine own_go (U' := Tr18.setTop (mkF m 308 (lc100 i0 i1 i2 i3 i4 i5 0 1 1 1 b1 b2 b3 u1 br5 br8 1 1 1 1 1) [(.int 1)])) (fun t k => oifN Xr18 hx hby at_296 (by decide) (oiconst Xr18 hx hby at_299 (ogoto (pc := 300) Xr18 hx hby at_300 304 (by decide) (oistore Xr18 hx hby at_304 (lc100 i0 i1 i2 i3 i4 i5 0 1 1 1 b1 b2 b3 u1 br5 br8 1 1 1 1 1) rfl (oiload Xr18 hx hby at_306 rfl k))))) ?_
            refine own_go (U' := Tr18.setTop (mkF m 313 (lc100 i0 i1 i2 i3 i4 i5 0 1 1 1 b1 b2 b3 u1 br5 br8 1 1 1 1 1) [(.int 1)])) (fun t k => oifN Xr18 hx hby at_308 (by decide) (oiload Xr18 hx hby at_311 rfl k)) ?_
            refine own_go (U' := Tr18.setTop (mkF m 318 (lc100 i0 i1 i2 i3 i4 i5 0 1 1 1 b1 b2 b3 u1 br5 br8 1 1 1 1 1) [(.int 1)])) (fun t k => oifN Xr18 hx hby at_313 (by decide) (oiload Xr18 hx hby at_316 rfl k)) ?_
            refine own_go (U' := Tr18.setTop (mkF m 323 (lc100 i0 i1 i2 i3 i4 i5 0 1 1 1 b1 b2 b3 u1 br5 br8 1 1 1 1 1) [(.int 1)])) (fun t k => oifN Xr18 hx hby at_318 (by decide) (oiload Xr18 hx hby at_321 rfl k)) ?_
            refine own_go (U' := Tr18.setTop (mkF m 328 (lc100 i0 i1 i2 i3 i4 i5 0 1 1 1 b1 b2 b3 u1 br5 br8 1 1 1 1 1) [(.int 1)])) (fun t k => oifN Xr18 hx hby at_323 (by decide) (oiload Xr18 hx hby at_326 rfl k)) ?_
            refine own_go (U' := Tr18.setTop (mkF m 336 (lc100 i0 i1 i2 i3 i4 i5 0 1 1 1 b1 b2 b3 u1 br5 br8 1 1 1 1 1) [(.int 1)])) (fun t k => oifN Xr18 hx hby at_328 (by decide) (oiconst Xr18 hx hby at_331 (ogoto (pc := 332) Xr18 hx hby at_332 336 (by decide) k))) ?_
            obtain ⟨fs, hr, hrun, hended, hW, hsame⟩ := Xr18.leave (v := some (.int 1)) (fun h => by rw [Bd.returns] at h; cases h)
            refine own_out ⟨_, _, ?_, hrun, hended, _, _, rfl, ?_, ⟨_, rfl⟩, hW, hsame.mono (by decide) (by decide)⟩
            · exact retN Xr18 hx (t := .boolean) Bd.returns (by simp) (hb hby at_336) hr
            · exact ⟨rfl, N16⟩
          · have hc8 : ¬ (i5 < i3) := hk10
            obtain ⟨_, Tr13, Lr13, Xr13, hQr13, str13⟩ := ocallV Xr12 hx hZ zm6 zm6 hown (ww hw 41 rfl) (ww hw 42 rfl) (notFace_of_selects (args := #[]) (mvT hZ (ww hw 44 rfl))) (ww hw 44 rfl) (ww hw 43 rfl) (by decide) (ww hw 45 rfl) (ww hw 10 rfl) er12 f38 (rm7_41 l Z a0 hw [] br5 br8 b2 b1 b3 i5 i3 u1 w2 Tr10.heap n0 Z_7 f39 f35 f41 f36 f42 f43 f44 f45 hc8 f46 f47) (st := [(.ref br8), (.ref br5)]) rfl 0 rfl (by decide) (pc := 229) (Ls := (lc97 i0 i1 i2 i3 i4 i5 0 1 1 1 b1 b2 b3 u1 br5 br8 1 1)) hml rfl (lenOf pd_6 rfl) at_229 hby
            obtain ⟨b4, rfl, Nr13q, Kr13, sz1, f48, f49, f50, f51, f52⟩ := hQr13
            have N11 := Fr.app N10 Nr13q
            have Z_8 : n0 ≤ Tr13.heap.size := Nat.le_trans Z_7 Kr13.1
            obtain ⟨_, Tr14, Lr14, Xr14, hQr14, str14⟩ := ocallV Xr13 hx hZ zm4 zm4 hown (ww hw 36 rfl) (ww hw 37 rfl) (notFace_of_selects (args := #[]) (mvT hZ (ww hw 39 rfl))) (ww hw 39 rfl) (ww hw 38 rfl) (by decide) (ww hw 40 rfl) (ww hw 10 rfl) rfl f48 (rm6_31 l Z a0 hw [] b4 b2 b1 Tr13.heap n0 Z_8 f50 f51) (st := [(.ref b4)]) rfl 0 rfl (by decide) (pc := 232) (Ls := (lc97 i0 i1 i2 i3 i4 i5 0 1 1 1 b1 b2 b3 u1 br5 br8 1 1)) hml rfl (lenOf pd_4 rfl) at_232 hby
            obtain ⟨rfl, Nr14q, er14⟩ := hQr14
            have N12 := Fr.app N11 Nr14q
            refine own_go (U' := Tr14.setTop (mkF m 237 (lc97 i0 i1 i2 i3 i4 i5 0 1 1 1 b1 b2 b3 u1 br5 br8 1 1) [(.int 0), (.int 1)])) (fun t k => oicN Xr12 hx hby at_215 (by decide) (oiconst Xr12 hx hby at_218 (ogoto (pc := 219) Xr12 hx hby at_219 223 (by decide) (oistore Xr12 hx hby at_223 (lc97 i0 i1 i2 i3 i4 i5 0 1 1 1 b1 b2 b3 u1 br5 br8 1 1) rfl (oaload Xr12 hx hby at_225 rfl rfl (oaload Xr12 hx hby at_227 rfl rfl (str13 _ (str14 _ (oiload Xr14 hx hby at_235 rfl k))))))))) ?_
            refine own_go (U' := Tr14.setTop (mkF m 242 (lc97 i0 i1 i2 i3 i4 i5 0 1 1 1 b1 b2 b3 u1 br5 br8 1 1) [(.int 1), (.int 1)])) (fun t k => oifN Xr14 hx hby at_237 (by decide) (oiload Xr14 hx hby at_240 rfl k)) ?_
            refine own_go (U' := Tr14.setTop (mkF m 247 (lc97 i0 i1 i2 i3 i4 i5 0 1 1 1 b1 b2 b3 u1 br5 br8 1 1) [(.int 1), (.int 1)])) (fun t k => oifN Xr14 hx hby at_242 (by decide) (oiload Xr14 hx hby at_245 rfl k)) ?_
            refine own_go (U' := Tr14.setTop (mkF m 260 (lc97 i0 i1 i2 i3 i4 i5 0 1 1 1 b1 b2 b3 u1 br5 br8 1 1) [(.int 1), (.int 1)])) (fun t k => oifY (pc := 247) Xr14 hx hby at_247 255 (by decide) (by decide) (oiconst Xr14 hx hby at_255 (ogoto (pc := 256) Xr14 hx hby at_256 260 (by decide) k))) ?_
            have f53 : Exa Z Tr13.heap br5 zs8 := (f38.keep Kr13)
            have f54 : Fld Z Tr13.heap br5 zs8 "unit" zs1 (.ref u1) := (f46.keep Kr13 nin0)
            have f55 : Fld Z Tr13.heap br5 zs8 "first" zs9 .null := (f39.keep Kr13 nin0)
            have f56 : Sta Z Tr13.heap zs4 "MIDDLE" zs5 (.ref w2) := (own_staK f47 Kr13 all0)
            obtain ⟨_, Tr15, Lr15, Xr15, hQr15, str15⟩ := ocallV Xr14 hx hZ zm7 zm7 hown (ww hw 53 rfl) (ww hw 54 rfl) (notFace_of_selects (args := #[]) (mvT hZ (ww hw 56 rfl))) (ww hw 56 rfl) (ww hw 55 rfl) (by decide) (ww hw 57 rfl) (ww hw 10 rfl) er14 f53 (rm9_15 l Z a0 hw [] br5 u1 w2 Tr13.heap n0 Z_8 f54 f55 f56) (st := [(.ref br5)]) rfl 0 rfl (by decide) (pc := 272) (Ls := (lc98 i0 i1 i2 i3 i4 i5 0 1 1 1 b1 b2 b3 u1 br5 br8 1 1 1)) hml rfl (lenOf pd_7 rfl) at_272 hby
            obtain ⟨b5, rfl, Nr15q, Kr15, sz2, f57, f58, f59, f60, f61⟩ := hQr15
            have N13 := Fr.app N12 Nr15q
            have Z_9 : n0 ≤ Tr15.heap.size := Nat.le_trans Z_8 Kr15.1
            obtain ⟨_, Tr16, Lr16, Xr16, hQr16, str16⟩ := ocallV Xr15 hx hZ zm4 zm4 hown (ww hw 36 rfl) (ww hw 37 rfl) (notFace_of_selects (args := #[]) (mvT hZ (ww hw 39 rfl))) (ww hw 39 rfl) (ww hw 38 rfl) (by decide) (ww hw 40 rfl) (ww hw 10 rfl) rfl f57 (rm6_12 l Z a0 hw [] b5 Tr15.heap n0 Z_9 f59) (st := [(.ref b5)]) rfl 0 rfl (by decide) (pc := 275) (Ls := (lc98 i0 i1 i2 i3 i4 i5 0 1 1 1 b1 b2 b3 u1 br5 br8 1 1 1)) hml rfl (lenOf pd_4 rfl) at_275 hby
            obtain ⟨rfl, Nr16q, er16⟩ := hQr16
            have N14 := Fr.app N13 Nr16q
            refine own_go (U' := Tr16.setTop (mkF m 278 (lc98 i0 i1 i2 i3 i4 i5 0 1 1 1 b1 b2 b3 u1 br5 br8 1 1 1) [(.int 0)])) (fun t k => oicN Xr14 hx hby at_260 (by decide) (oiconst Xr14 hx hby at_263 (ogoto (pc := 264) Xr14 hx hby at_264 268 (by decide) (oistore Xr14 hx hby at_268 (lc98 i0 i1 i2 i3 i4 i5 0 1 1 1 b1 b2 b3 u1 br5 br8 1 1 1) rfl (oaload Xr14 hx hby at_270 rfl rfl (str15 _ (str16 _ k))))))) ?_
            have f62 : Exa Z Tr15.heap br5 zs8 := (f53.keep Kr15)
            have f63 : Fld Z Tr15.heap br5 zs8 "unit" zs1 (.ref u1) := (f54.keep Kr15 nin0)
            have f64 : Fld Z Tr15.heap br5 zs8 "last" zs9 (.ref b1) := ((f41.keep Kr13 nin0).keep Kr15 nin0)
            have f65 : Sta Z Tr15.heap zs4 "MIDDLE" zs5 (.ref w2) := (own_staK f56 Kr15 all0)
            obtain ⟨_, Tr17, Lr17, Xr17, hQr17, str17⟩ := ocallV Xr16 hx hZ zm8 zm8 hown (ww hw 58 rfl) (ww hw 59 rfl) (notFace_of_selects (args := #[]) (mvT hZ (ww hw 61 rfl))) (ww hw 61 rfl) (ww hw 60 rfl) (by decide) (ww hw 62 rfl) (ww hw 10 rfl) er16 f62 (rm10_35 l Z a0 hw [] br5 u1 b1 w2 Tr15.heap n0 Z_9 f63 f64 f65) (st := [(.ref br5)]) rfl 0 rfl (by decide) (pc := 290) (Ls := (lc99 i0 i1 i2 i3 i4 i5 0 1 1 1 b1 b2 b3 u1 br5 br8 1 1 1 1)) hml rfl (lenOf pd_7 rfl) at_290 hby
            obtain ⟨b6, rfl, Nr17q, Kr17, sz3, f66, f67, f68, f69, f70⟩ := hQr17
            have N15 := Fr.app N14 Nr17q
            have Z_10 : n0 ≤ Tr17.heap.size := Nat.le_trans Z_9 Kr17.1
            obtain ⟨_, Tr18, Lr18, Xr18, hQr18, str18⟩ := ocallV Xr17 hx hZ zm4 zm4 hown (ww hw 36 rfl) (ww hw 37 rfl) (notFace_of_selects (args := #[]) (mvT hZ (ww hw 39 rfl))) (ww hw 39 rfl) (ww hw 38 rfl) (by decide) (ww hw 40 rfl) (ww hw 10 rfl) rfl f66 (rm6_12 l Z a0 hw [] b6 Tr17.heap n0 Z_10 f68) (st := [(.ref b6)]) rfl 0 rfl (by decide) (pc := 293) (Ls := (lc99 i0 i1 i2 i3 i4 i5 0 1 1 1 b1 b2 b3 u1 br5 br8 1 1 1 1)) hml rfl (lenOf pd_4 rfl) at_293 hby
            obtain ⟨rfl, Nr18q, er18⟩ := hQr18
            have N16 := Fr.app N15 Nr18q
            refine own_go (U' := Tr18.setTop (mkF m 296 (lc99 i0 i1 i2 i3 i4 i5 0 1 1 1 b1 b2 b3 u1 br5 br8 1 1 1 1) [(.int 0)])) (fun t k => oifN Xr16 hx hby at_278 (by decide) (oiconst Xr16 hx hby at_281 (ogoto (pc := 282) Xr16 hx hby at_282 286 (by decide) (oistore Xr16 hx hby at_286 (lc99 i0 i1 i2 i3 i4 i5 0 1 1 1 b1 b2 b3 u1 br5 br8 1 1 1 1) rfl (oaload Xr16 hx hby at_288 rfl rfl (str17 _ (str18 _ k))))))) ?_
            refine own_go (U' := Tr18.setTop (mkF m 308 (lc100 i0 i1 i2 i3 i4 i5 0 1 1 1 b1 b2 b3 u1 br5 br8 1 1 1 1 1) [(.int 1)])) (fun t k => oifN Xr18 hx hby at_296 (by decide) (oiconst Xr18 hx hby at_299 (ogoto (pc := 300) Xr18 hx hby at_300 304 (by decide) (oistore Xr18 hx hby at_304 (lc100 i0 i1 i2 i3 i4 i5 0 1 1 1 b1 b2 b3 u1 br5 br8 1 1 1 1 1) rfl (oiload Xr18 hx hby at_306 rfl k))))) ?_
            refine own_go (U' := Tr18.setTop (mkF m 313 (lc100 i0 i1 i2 i3 i4 i5 0 1 1 1 b1 b2 b3 u1 br5 br8 1 1 1 1 1) [(.int 1)])) (fun t k => oifN Xr18 hx hby at_308 (by decide) (oiload Xr18 hx hby at_311 rfl k)) ?_
            refine own_go (U' := Tr18.setTop (mkF m 318 (lc100 i0 i1 i2 i3 i4 i5 0 1 1 1 b1 b2 b3 u1 br5 br8 1 1 1 1 1) [(.int 1)])) (fun t k => oifN Xr18 hx hby at_313 (by decide) (oiload Xr18 hx hby at_316 rfl k)) ?_
            refine own_go (U' := Tr18.setTop (mkF m 323 (lc100 i0 i1 i2 i3 i4 i5 0 1 1 1 b1 b2 b3 u1 br5 br8 1 1 1 1 1) [(.int 1)])) (fun t k => oifN Xr18 hx hby at_318 (by decide) (oiload Xr18 hx hby at_321 rfl k)) ?_
            refine own_go (U' := Tr18.setTop (mkF m 328 (lc100 i0 i1 i2 i3 i4 i5 0 1 1 1 b1 b2 b3 u1 br5 br8 1 1 1 1 1) [(.int 1)])) (fun t k => oifN Xr18 hx hby at_323 (by decide) (oiload Xr18 hx hby at_326 rfl k)) ?_
            refine own_go (U' := Tr18.setTop (mkF m 336 (lc100 i0 i1 i2 i3 i4 i5 0 1 1 1 b1 b2 b3 u1 br5 br8 1 1 1 1 1) [(.int 1)])) (fun t k => oifN Xr18 hx hby at_328 (by decide) (oiconst Xr18 hx hby at_331 (ogoto (pc := 332) Xr18 hx hby at_332 336 (by decide) k))) ?_
            obtain ⟨fs, hr, hrun, hended, hW, hsame⟩ := Xr18.leave (v := some (.int 1)) (fun h => by rw [Bd.returns] at h; cases h)
            refine own_out ⟨_, _, ?_, hrun, hended, _, _, rfl, ?_, ⟨_, rfl⟩, hW, hsame.mono (by decide) (by decide)⟩
            · exact retN Xr18 hx (t := .boolean) Bd.returns (by simp) (hb hby at_336) hr
            · exact ⟨rfl, N16⟩
  · have hv9 : (i0 &&& (1 : Int32)) = (1 : Int32) := hk1
    rw [hv9]
    refine own_go (U' := s₁.setTop (mkF m 16 (lc1 i0 i1 i2 i3 i4 i5 1) [(.int (i0 &&& (2 : Int32)))])) (fun t k => oifN X0 hx hby at_3 (by decide) (oiconst X0 hx hby at_6 (ogoto (pc := 7) X0 hx hby at_7 11 (by decide) (oistore X0 hx hby at_11 (lc1 i0 i1 i2 i3 i4 i5 1) rfl (oiloadN X0 hx hby at_13 rfl (oiconst X0 hx hby at_14 (oiand X0 hx hby at_15 k))))))) ?_
    by_cases hk11 : (i0 &&& (2 : Int32)) = (0 : Int32)
    · have hc1 : (i0 &&& (2 : Int32)) = (0 : Int32) := hk11
      refine own_go (U' := s₁.setTop (mkF m 29 (lc2 i0 i1 i2 i3 i4 i5 1 0) [(.int (i0 &&& (4 : Int32)))])) (fun t k => oifY (pc := 16) X0 hx hby at_16 23 ((if0 _ _).trans (teq hc1).1) (by decide) (oiconst X0 hx hby at_23 (oistore X0 hx hby at_24 (lc2 i0 i1 i2 i3 i4 i5 1 0) rfl (oiloadN X0 hx hby at_26 rfl (oiconst X0 hx hby at_27 (oiand X0 hx hby at_28 k)))))) ?_
      by_cases hk12 : (i0 &&& (4 : Int32)) = (0 : Int32)
      · have hc2 : (i0 &&& (4 : Int32)) = (0 : Int32) := hk12
        refine own_go (U' := s₁.setTop (mkF m 43 (lc3 i0 i1 i2 i3 i4 i5 1 0 0) [(.int (i0 &&& (8 : Int32)))])) (fun t k => oifY (pc := 29) X0 hx hby at_29 36 ((if0 _ _).trans (teq hc2).1) (by decide) (oiconst X0 hx hby at_36 (oistore X0 hx hby at_37 (lc3 i0 i1 i2 i3 i4 i5 1 0 0) rfl (oiloadN X0 hx hby at_39 rfl (obipush X0 hx hby at_40 (oiand X0 hx hby at_42 k)))))) ?_
        by_cases hk13 : (i0 &&& (8 : Int32)) = (0 : Int32)
        · have hc3 : (i0 &&& (8 : Int32)) = (0 : Int32) := hk13
          refine own_go (U' := s₁.setTop (mkF m 55 (lc4 i0 i1 i2 i3 i4 i5 1 0 0 0) [(.int 1)])) (fun t k => oifY (pc := 43) X0 hx hby at_43 50 ((if0 _ _).trans (teq hc3).1) (by decide) (oiconst X0 hx hby at_50 (oistore X0 hx hby at_51 (lc4 i0 i1 i2 i3 i4 i5 1 0 0 0) rfl (oiload X0 hx hby at_53 rfl k)))) ?_
          obtain ⟨_, Tr1, Lr1, Xr1, hQr1, str1⟩ := ocallS X0 hx hZ zm11 hown (ww hw 63 rfl) (ww hw 64 rfl) (by decide) (ww hw 66 rfl) (ww hw 65 rfl) e0 (mg11_22 l Z a0 hw [] i2 w8 h0 n0 Z0 S16 S18) (st := [(.long i2)]) rfl 0 rfl (by decide) (pc := 59) (Ls := (lc4 i0 i1 i2 i3 i4 i5 1 0 0 0)) hml rfl (lenOf pd_9 rfl) at_59 hby
          obtain ⟨b1, rfl, Nr1q, Kr1, f1, f2⟩ := hQr1
          have N1 := Fr.app N0 Nr1q
          refine own_go (U' := Tr1.setTop (mkF m 70 (lc101 i0 i1 i2 i3 i4 i5 1 0 0 0 b1) [(.int 0)])) (fun t k => oifN X0 hx hby at_55 (by decide) (olloadN X0 hx hby at_58 rfl (str1 _ (ogoto (pc := 62) Xr1 hx hby at_62 66 (by decide) (oastore Xr1 hx hby at_66 (lc101 i0 i1 i2 i3 i4 i5 1 0 0 0 b1) rfl rfl (oiload Xr1 hx hby at_68 rfl k)))))) ?_
          refine own_go (U' := Tr1.setTop (mkF m 86 (lc102 i0 i1 i2 i3 i4 i5 1 0 0 0 b1) [(.int 0)])) (fun t k => oifY (pc := 70) Xr1 hx hby at_70 81 (by decide) (by decide) (onull Xr1 hx hby at_81 (oastore Xr1 hx hby at_82 (lc102 i0 i1 i2 i3 i4 i5 1 0 0 0 b1) rfl rfl (oiload Xr1 hx hby at_84 rfl k)))) ?_
          refine own_go (U' := Tr1.setTop (mkF m 102 (lc103 i0 i1 i2 i3 i4 i5 1 0 0 0 b1) [(.int 0)])) (fun t k => oifY (pc := 86) Xr1 hx hby at_86 97 (by decide) (by decide) (onull Xr1 hx hby at_97 (oastore Xr1 hx hby at_98 (lc103 i0 i1 i2 i3 i4 i5 1 0 0 0 b1) rfl rfl (oiload Xr1 hx hby at_100 rfl k)))) ?_
          have f3 : Sta Z Tr1.heap zs0 "DAY" zs1 (.ref w3) := (own_staK S6 Kr1 all0)
          have f4 : Sta Z Tr1.heap zs0 "MONTH" zs1 (.ref w7) := (own_staK S14 Kr1 all0)
          have f5 : Sta Z Tr1.heap zs0 "YEAR" zs1 (.ref w6) := (own_staK S12 Kr1 all0)
          have f6 : Sta Z Tr1.heap zs0 "DECADE" zs1 (.ref w0) := (own_staK S0 Kr1 all0)
          have f7 : Sta Z Tr1.heap zs0 "CENTURY" zs1 (.ref w5) := (own_staK S10 Kr1 all0)
          have Z_1 : n0 ≤ Tr1.heap.size := Nat.le_trans Z0 Kr1.1
          obtain ⟨_, Tr2, Lr2, Xr2, hQr2, str2⟩ := ocallS Xr1 hx hZ zm0 hown (ww hw 0 rfl) (ww hw 1 rfl) (by decide) (ww hw 3 rfl) (ww hw 2 rfl) rfl (mg1_5 l Z a0 hw [] i1 w3 w7 w6 w0 w5 Tr1.heap n0 Z_1 f3 f4 f5 f6 f7) (st := [(.int i1)]) rfl 0 rfl (by decide) (pc := 117) (Ls := (lc104 i0 i1 i2 i3 i4 i5 1 0 0 0 b1)) hml rfl (lenOf pd_0 rfl) at_117 hby
          obtain ⟨rfl, Nr2q, er2⟩ := hQr2
          refine own_go (U' := Tr2.setTop (mkF m 120 (lc104 i0 i1 i2 i3 i4 i5 1 0 0 0 b1) [(.ref (own_unit ((i1 &&& (2147483647 : Int32)) % (5 : Int32)) w3 w7 w6 w0 w5))])) (fun t k => oifY (pc := 102) Xr1 hx hby at_102 113 (by decide) (by decide) (onull Xr1 hx hby at_113 (oastore Xr1 hx hby at_114 (lc104 i0 i1 i2 i3 i4 i5 1 0 0 0 b1) rfl rfl (oiloadN Xr1 hx hby at_116 rfl (str2 _ k))))) ?_
          obtain ⟨u1, hu1⟩ : ∃ z, z = (own_unit ((i1 &&& (2147483647 : Int32)) % (5 : Int32)) w3 w7 w6 w0 w5) := ⟨_, rfl⟩
          rw [← hu1]
          have N2 := Fr.app N1 Nr2q
          obtain ⟨Tr3, hr3, Xr3, er3, Er3, Ar3, Dr3, -, str3⟩ := newO Xr2 hx hZ hown (ww hw 8 rfl) (ww hw 9 rfl) (ww hw 10 rfl) er2 (g := (mkF m 122 (lc105 i0 i1 i2 i3 i4 i5 1 0 0 0 b1 u1) [])) rfl (hb hby at_122) (by decide) (by decide)
          obtain ⟨br3, gr3⟩ : ∃ z, z = Tr1.heap.size := ⟨_, rfl⟩
          rw [← gr3] at Ar3 Dr3 str3
          have f8 : Fld Z hr3 br3 zs8 "unit" zs1 .null := Dr3 (Or.inr (ww hw 29 rfl)) (ty := (.object zs0)) (by decide)
          have f9 : Fld Z hr3 br3 zs8 "first" zs9 .null := Dr3 (Or.inr (ww hw 31 rfl)) (ty := (.object zs11)) (by decide)
          have f10 : Fld Z hr3 br3 zs8 "last" zs9 .null := Dr3 (Or.inr (ww hw 33 rfl)) (ty := (.object zs11)) (by decide)
          have f11 : Fld Z hr3 br3 zs8 "anchor" zs5 .null := Dr3 (Or.inr (ww hw 35 rfl)) (ty := (.object zs4)) (by decide)
          have f12 : Sta Z hr3 zs4 "FIRST" zs5 (.ref w1) := (Sta.ext Er3 (own_staK S2 Kr1 all0))
          have f13 : Sta Z hr3 zs4 "MIDDLE" zs5 (.ref w2) := (Sta.ext Er3 (own_staK S4 Kr1 all0))
          have f14 : Sta Z hr3 zs4 "LAST" zs5 (.ref w4) := (Sta.ext Er3 (own_staK S8 Kr1 all0))
          have Z_2 : n0 ≤ hr3.size := Nat.le_trans Z_1 Er3.1
          obtain ⟨_, Tr4, Lr4, Xr4, hQr4, str4⟩ := ocallS Xr3 hx hZ zm1 hown (ww hw 11 rfl) (ww hw 12 rfl) (by decide) (ww hw 13 rfl) (ww hw 2 rfl) er3 (mg2_9 l Z a0 hw [] ((i0.toUInt32 >>> ((4 : Int32) &&& 31).toUInt32).toInt32) w1 w2 w4 hr3 n0 Z_2 f12 f13 f14) (st := [(.int ((i0.toUInt32 >>> ((4 : Int32) &&& 31).toUInt32).toInt32)), .null, (.ref b1), (.ref u1), (.ref br3), (.ref br3)]) rfl 5 rfl (by decide) (pc := 135) (Ls := (lc105 i0 i1 i2 i3 i4 i5 1 0 0 0 b1 u1)) hml rfl (lenOf pd_1 rfl) at_135 hby
          obtain ⟨rfl, Nr4q, er4⟩ := hQr4
          refine own_go (U' := Tr4.setTop (mkF m 138 (lc105 i0 i1 i2 i3 i4 i5 1 0 0 0 b1 u1) [(.ref (own_anch (((i0.toUInt32 >>> ((4 : Int32) &&& 31).toUInt32).toInt32) &&& (3 : Int32)) w1 w2 w4)), .null, (.ref b1), (.ref u1), (.ref br3), (.ref br3)])) (fun t k => oastore Xr2 hx hby at_120 (lc105 i0 i1 i2 i3 i4 i5 1 0 0 0 b1 u1) rfl rfl (str3 _ (odup Xr3 hx hby at_125 rfl (oaload Xr3 hx hby at_126 rfl rfl (oaload Xr3 hx hby at_128 rfl rfl (oaload Xr3 hx hby at_130 rfl rfl (oiloadN Xr3 hx hby at_132 rfl (oiconst Xr3 hx hby at_133 (oiushr Xr3 hx hby at_134 (str4 _ k)))))))))) ?_
          obtain ⟨u2, hu2⟩ : ∃ z, z = (own_anch (((i0.toUInt32 >>> ((4 : Int32) &&& 31).toUInt32).toInt32) &&& (3 : Int32)) w1 w2 w4) := ⟨_, rfl⟩
          rw [← hu2]
          have N3 := Fr.app N2 Nr4q
          have g1 : n0 ≤ br3 := Nat.le_trans Z_1 (Nat.le_of_eq gr3.symm)
          obtain ⟨_, Tr5, Lr5, Xr5, hQr5, str5⟩ := ocallI Xr4 hx hZ zm3 rfl hown (ww hw 17 rfl) (ww hw 18 rfl) (by decide) (ww hw 19 rfl) (ww hw 10 rfl) er4 (rm3_26 l Z a0 hw [] br3 u1 b1 u2 hr3 n0 Z_2 f8 f9 f10 f11 Ar3 g1) (st := [(.ref u2), .null, (.ref b1), (.ref u1), (.ref br3), (.ref br3)]) rfl 1 rfl (by decide) (pc := 138) (Ls := (lc105 i0 i1 i2 i3 i4 i5 1 0 0 0 b1 u1)) hml rfl (lenOf pd_3 rfl) at_138 hby
          obtain ⟨rfl, Nr5q, Kr5, f15, f16, f17, f18⟩ := hQr5
          have N4 := Fr.app N3 Nr5q
          obtain ⟨Tr6, hr6, Xr6, er6, Er6, Ar6, Dr6, -, str6⟩ := newO Xr5 hx hZ hown (ww hw 8 rfl) (ww hw 9 rfl) (ww hw 10 rfl) rfl (g := (mkF m 143 (lc106 i0 i1 i2 i3 i4 i5 1 0 0 0 b1 u1 br3) [])) rfl (hb hby at_143) (by decide) (by decide)
          obtain ⟨br6, gr6⟩ : ∃ z, z = Tr5.heap.size := ⟨_, rfl⟩
          rw [← gr6] at Ar6 Dr6 str6
          have f19 : Fld Z hr6 br6 zs8 "unit" zs1 .null := Dr6 (Or.inr (ww hw 29 rfl)) (ty := (.object zs0)) (by decide)
          have f20 : Fld Z hr6 br6 zs8 "first" zs9 .null := Dr6 (Or.inr (ww hw 31 rfl)) (ty := (.object zs11)) (by decide)
          have f21 : Fld Z hr6 br6 zs8 "last" zs9 .null := Dr6 (Or.inr (ww hw 33 rfl)) (ty := (.object zs11)) (by decide)
          have f22 : Fld Z hr6 br6 zs8 "anchor" zs5 .null := Dr6 (Or.inr (ww hw 35 rfl)) (ty := (.object zs4)) (by decide)
          have f23 : Sta Z hr6 zs4 "FIRST" zs5 (.ref w1) := (Sta.ext Er6 (own_staK f12 Kr5 (allS (own_nsE Ar3) all0)))
          have f24 : Sta Z hr6 zs4 "MIDDLE" zs5 (.ref w2) := (Sta.ext Er6 (own_staK f13 Kr5 (allS (own_nsE Ar3) all0)))
          have f25 : Sta Z hr6 zs4 "LAST" zs5 (.ref w4) := (Sta.ext Er6 (own_staK f14 Kr5 (allS (own_nsE Ar3) all0)))
          have Z_3 : n0 ≤ Tr5.heap.size := Nat.le_trans Z_2 Kr5.1
          have Z_4 : n0 ≤ hr6.size := Nat.le_trans Z_3 Er6.1
          obtain ⟨_, Tr7, Lr7, Xr7, hQr7, str7⟩ := ocallS Xr6 hx hZ zm1 hown (ww hw 11 rfl) (ww hw 12 rfl) (by decide) (ww hw 13 rfl) (ww hw 2 rfl) er6 (mg2_9 l Z a0 hw [] ((i0.toUInt32 >>> ((6 : Int32) &&& 31).toUInt32).toInt32) w1 w2 w4 hr6 n0 Z_4 f23 f24 f25) (st := [(.int ((i0.toUInt32 >>> ((6 : Int32) &&& 31).toUInt32).toInt32)), .null, .null, (.ref u1), (.ref br6), (.ref br6)]) rfl 5 rfl (by decide) (pc := 157) (Ls := (lc106 i0 i1 i2 i3 i4 i5 1 0 0 0 b1 u1 br3)) hml rfl (lenOf pd_1 rfl) at_157 hby
          obtain ⟨rfl, Nr7q, er7⟩ := hQr7
          refine own_go (U' := Tr7.setTop (mkF m 160 (lc106 i0 i1 i2 i3 i4 i5 1 0 0 0 b1 u1 br3) [(.ref (own_anch (((i0.toUInt32 >>> ((6 : Int32) &&& 31).toUInt32).toInt32) &&& (3 : Int32)) w1 w2 w4)), .null, .null, (.ref u1), (.ref br6), (.ref br6)])) (fun t k => str5 _ (oastore Xr5 hx hby at_141 (lc106 i0 i1 i2 i3 i4 i5 1 0 0 0 b1 u1 br3) rfl rfl (str6 _ (odup Xr6 hx hby at_146 rfl (oaload Xr6 hx hby at_147 rfl rfl (oaload Xr6 hx hby at_149 rfl rfl (oaload Xr6 hx hby at_151 rfl rfl (oiloadN Xr6 hx hby at_153 rfl (obipush Xr6 hx hby at_154 (oiushr Xr6 hx hby at_156 (str7 _ k))))))))))) ?_
          obtain ⟨u3, hu3⟩ : ∃ z, z = (own_anch (((i0.toUInt32 >>> ((6 : Int32) &&& 31).toUInt32).toInt32) &&& (3 : Int32)) w1 w2 w4) := ⟨_, rfl⟩
          rw [← hu3]
          have N5 := Fr.app N4 Nr7q
          have g2 : n0 ≤ br6 := Nat.le_trans Z_3 (Nat.le_of_eq gr6.symm)
          obtain ⟨_, Tr8, Lr8, Xr8, hQr8, str8⟩ := ocallI Xr7 hx hZ zm3 rfl hown (ww hw 17 rfl) (ww hw 18 rfl) (by decide) (ww hw 19 rfl) (ww hw 10 rfl) er7 (rm3_11 l Z a0 hw [] br6 u1 u3 hr6 n0 Z_4 f19 f20 f21 f22 Ar6 g2) (st := [(.ref u3), .null, .null, (.ref u1), (.ref br6), (.ref br6)]) rfl 1 rfl (by decide) (pc := 160) (Ls := (lc106 i0 i1 i2 i3 i4 i5 1 0 0 0 b1 u1 br3)) hml rfl (lenOf pd_3 rfl) at_160 hby
          obtain ⟨rfl, Nr8q, Kr8, f26, f27, f28, f29⟩ := hQr8
          have N6 := Fr.app N5 Nr8q
          have f30 : Exa Z Tr8.heap br3 zs8 := ((Exa.ext Er6 (Ar3.keep Kr5)).keep Kr8)
          have ne1 : br3 ≠ br6 := Nat.ne_of_lt (Nat.lt_of_lt_of_le (f15.lt) (Nat.le_of_eq gr6.symm))
          have f31 : Fld Z Tr8.heap br3 zs8 "first" zs9 (.ref b1) := ((Fld.ext Er6 f16).keep Kr8 (ninS ne1 nin0))
          have f32 : Fld Z Tr8.heap br3 zs8 "last" zs9 .null := ((Fld.ext Er6 f17).keep Kr8 (ninS ne1 nin0))
          have Z_5 : n0 ≤ Tr8.heap.size := Nat.le_trans Z_4 Kr8.1
          obtain ⟨_, Tr9, Lr9, Xr9, hQr9, str9⟩ := ocallV Xr8 hx hZ zm4 zm4 hown (ww hw 36 rfl) (ww hw 37 rfl) (notFace_of_selects (args := #[]) (mvT hZ (ww hw 39 rfl))) (ww hw 39 rfl) (ww hw 38 rfl) (by decide) (ww hw 40 rfl) (ww hw 10 rfl) rfl f30 (rm6_27 l Z a0 hw [] br3 b1 Tr8.heap n0 Z_5 f31 f32) (st := [(.ref br3)]) rfl 0 rfl (by decide) (pc := 167) (Ls := (lc107 i0 i1 i2 i3 i4 i5 1 0 0 0 b1 u1 br3 br6)) hml rfl (lenOf pd_4 rfl) at_167 hby
          obtain ⟨rfl, Nr9q, er9⟩ := hQr9
          have N7 := Fr.app N6 Nr9q
          refine own_go (U' := Tr9.setTop (mkF m 172 (lc107 i0 i1 i2 i3 i4 i5 1 0 0 0 b1 u1 br3 br6) [(.int 1), (.int 0)])) (fun t k => str8 _ (oastore Xr8 hx hby at_163 (lc107 i0 i1 i2 i3 i4 i5 1 0 0 0 b1 u1 br3 br6) rfl rfl (oaload Xr8 hx hby at_165 rfl rfl (str9 _ (oiload Xr9 hx hby at_170 rfl k))))) ?_
          refine own_go (U' := Tr9.setTop (mkF m 177 (lc107 i0 i1 i2 i3 i4 i5 1 0 0 0 b1 u1 br3 br6) [(.int 0), (.int 0)])) (fun t k => oifN Xr9 hx hby at_172 (by decide) (oiload Xr9 hx hby at_175 rfl k)) ?_
          refine own_go (U' := Tr9.setTop (mkF m 185 (lc107 i0 i1 i2 i3 i4 i5 1 0 0 0 b1 u1 br3 br6) [(.int 0), (.int 0)])) (fun t k => oifY (pc := 177) Xr9 hx hby at_177 184 (by decide) (by decide) (oiconst Xr9 hx hby at_184 k)) ?_
          have f33 : Exa Z Tr8.heap br6 zs8 := (Ar6.keep Kr8)
          obtain ⟨_, Tr10, Lr10, Xr10, hQr10, str10⟩ := ocallV Xr9 hx hZ zm4 zm4 hown (ww hw 36 rfl) (ww hw 37 rfl) (notFace_of_selects (args := #[]) (mvT hZ (ww hw 39 rfl))) (ww hw 39 rfl) (ww hw 38 rfl) (by decide) (ww hw 40 rfl) (ww hw 10 rfl) er9 f33 (rm6_12 l Z a0 hw [] br6 Tr8.heap n0 Z_5 f27) (st := [(.ref br6)]) rfl 0 rfl (by decide) (pc := 197) (Ls := (lc108 i0 i1 i2 i3 i4 i5 1 0 0 0 b1 u1 br3 br6 1)) hml rfl (lenOf pd_4 rfl) at_197 hby
          obtain ⟨rfl, Nr10q, er10⟩ := hQr10
          have N8 := Fr.app N7 Nr10q
          refine own_go (U' := Tr10.setTop (mkF m 202 (lc108 i0 i1 i2 i3 i4 i5 1 0 0 0 b1 u1 br3 br6 1) [(.int 0), (.int 0)])) (fun t k => oicN Xr9 hx hby at_185 (by decide) (oiconst Xr9 hx hby at_188 (ogoto (pc := 189) Xr9 hx hby at_189 193 (by decide) (oistore Xr9 hx hby at_193 (lc108 i0 i1 i2 i3 i4 i5 1 0 0 0 b1 u1 br3 br6 1) rfl (oaload Xr9 hx hby at_195 rfl rfl (str10 _ (oiload Xr10 hx hby at_200 rfl k))))))) ?_
          refine own_go (U' := Tr10.setTop (mkF m 215 (lc108 i0 i1 i2 i3 i4 i5 1 0 0 0 b1 u1 br3 br6 1) [(.int 0), (.int 0)])) (fun t k => oifY (pc := 202) Xr10 hx hby at_202 214 (by decide) (by decide) (oiconst Xr10 hx hby at_214 k)) ?_
          have f34 : Fld Z Tr8.heap br3 zs8 "unit" zs1 (.ref u1) := ((Fld.ext Er6 f15).keep Kr8 (ninS ne1 nin0))
          have f35 : Sta Z Tr8.heap zs4 "MIDDLE" zs5 (.ref w2) := (own_staK f24 Kr8 (allS (own_nsF f19) all0))
          obtain ⟨_, Tr11, Lr11, Xr11, hQr11, str11⟩ := ocallV Xr10 hx hZ zm6 zm6 hown (ww hw 41 rfl) (ww hw 42 rfl) (notFace_of_selects (args := #[]) (mvT hZ (ww hw 44 rfl))) (ww hw 44 rfl) (ww hw 43 rfl) (by decide) (ww hw 45 rfl) (ww hw 10 rfl) er10 f30 (rm7_42 l Z a0 hw [] br3 br6 b1 u1 w2 Tr8.heap n0 Z_5 f31 f27 f32 f28 f34 f35) (st := [(.ref br6), (.ref br3)]) rfl 0 rfl (by decide) (pc := 229) (Ls := (lc109 i0 i1 i2 i3 i4 i5 1 0 0 0 b1 u1 br3 br6 1 1)) hml rfl (lenOf pd_6 rfl) at_229 hby
          obtain ⟨b2, rfl, Nr11q, Kr11, sz1, f36, f37, f38, f39, f40⟩ := hQr11
          have N9 := Fr.app N8 Nr11q
          have Z_6 : n0 ≤ Tr11.heap.size := Nat.le_trans Z_5 Kr11.1
          obtain ⟨_, Tr12, Lr12, Xr12, hQr12, str12⟩ := ocallV Xr11 hx hZ zm4 zm4 hown (ww hw 36 rfl) (ww hw 37 rfl) (notFace_of_selects (args := #[]) (mvT hZ (ww hw 39 rfl))) (ww hw 39 rfl) (ww hw 38 rfl) (by decide) (ww hw 40 rfl) (ww hw 10 rfl) rfl f36 (rm6_27 l Z a0 hw [] b2 b1 Tr11.heap n0 Z_6 f38 f39) (st := [(.ref b2)]) rfl 0 rfl (by decide) (pc := 232) (Ls := (lc109 i0 i1 i2 i3 i4 i5 1 0 0 0 b1 u1 br3 br6 1 1)) hml rfl (lenOf pd_4 rfl) at_232 hby
          obtain ⟨rfl, Nr12q, er12⟩ := hQr12
          have N10 := Fr.app N9 Nr12q
          refine own_go (U' := Tr12.setTop (mkF m 237 (lc109 i0 i1 i2 i3 i4 i5 1 0 0 0 b1 u1 br3 br6 1 1) [(.int 1), (.int 0)])) (fun t k => oicN Xr10 hx hby at_215 (by decide) (oiconst Xr10 hx hby at_218 (ogoto (pc := 219) Xr10 hx hby at_219 223 (by decide) (oistore Xr10 hx hby at_223 (lc109 i0 i1 i2 i3 i4 i5 1 0 0 0 b1 u1 br3 br6 1 1) rfl (oaload Xr10 hx hby at_225 rfl rfl (oaload Xr10 hx hby at_227 rfl rfl (str11 _ (str12 _ (oiload Xr12 hx hby at_235 rfl k))))))))) ?_
          refine own_go (U' := Tr12.setTop (mkF m 247 (lc109 i0 i1 i2 i3 i4 i5 1 0 0 0 b1 u1 br3 br6 1 1) [(.int 0), (.int 0)])) (fun t k => oifY (pc := 237) Xr12 hx hby at_237 245 (by decide) (by decide) (oiload Xr12 hx hby at_245 rfl k)) ?_
          refine own_go (U' := Tr12.setTop (mkF m 252 (lc109 i0 i1 i2 i3 i4 i5 1 0 0 0 b1 u1 br3 br6 1 1) [(.int 0), (.int 0)])) (fun t k => oifN Xr12 hx hby at_247 (by decide) (oiload Xr12 hx hby at_250 rfl k)) ?_
          refine own_go (U' := Tr12.setTop (mkF m 260 (lc109 i0 i1 i2 i3 i4 i5 1 0 0 0 b1 u1 br3 br6 1 1) [(.int 0), (.int 0)])) (fun t k => oifY (pc := 252) Xr12 hx hby at_252 259 (by decide) (by decide) (oiconst Xr12 hx hby at_259 k)) ?_
          have f41 : Exa Z Tr11.heap br3 zs8 := (f30.keep Kr11)
          have f42 : Fld Z Tr11.heap br3 zs8 "unit" zs1 (.ref u1) := (f34.keep Kr11 nin0)
          have f43 : Fld Z Tr11.heap br3 zs8 "first" zs9 (.ref b1) := (f31.keep Kr11 nin0)
          have f44 : Sta Z Tr11.heap zs4 "MIDDLE" zs5 (.ref w2) := (own_staK f35 Kr11 all0)
          obtain ⟨_, Tr13, Lr13, Xr13, hQr13, str13⟩ := ocallV Xr12 hx hZ zm7 zm7 hown (ww hw 53 rfl) (ww hw 54 rfl) (notFace_of_selects (args := #[]) (mvT hZ (ww hw 56 rfl))) (ww hw 56 rfl) (ww hw 55 rfl) (by decide) (ww hw 57 rfl) (ww hw 10 rfl) er12 f41 (rm9_43 l Z a0 hw [] br3 u1 b1 w2 Tr11.heap n0 Z_6 f42 f43 f44) (st := [(.ref br3)]) rfl 0 rfl (by decide) (pc := 272) (Ls := (lc110 i0 i1 i2 i3 i4 i5 1 0 0 0 b1 u1 br3 br6 1 1 1)) hml rfl (lenOf pd_7 rfl) at_272 hby
          obtain ⟨b3, rfl, Nr13q, Kr13, sz2, f45, f46, f47, f48, f49⟩ := hQr13
          have N11 := Fr.app N10 Nr13q
          have Z_7 : n0 ≤ Tr13.heap.size := Nat.le_trans Z_6 Kr13.1
          obtain ⟨_, Tr14, Lr14, Xr14, hQr14, str14⟩ := ocallV Xr13 hx hZ zm4 zm4 hown (ww hw 36 rfl) (ww hw 37 rfl) (notFace_of_selects (args := #[]) (mvT hZ (ww hw 39 rfl))) (ww hw 39 rfl) (ww hw 38 rfl) (by decide) (ww hw 40 rfl) (ww hw 10 rfl) rfl f45 (rm6_27 l Z a0 hw [] b3 b1 Tr13.heap n0 Z_7 f47 f48) (st := [(.ref b3)]) rfl 0 rfl (by decide) (pc := 275) (Ls := (lc110 i0 i1 i2 i3 i4 i5 1 0 0 0 b1 u1 br3 br6 1 1 1)) hml rfl (lenOf pd_4 rfl) at_275 hby
          obtain ⟨rfl, Nr14q, er14⟩ := hQr14
          have N12 := Fr.app N11 Nr14q
          refine own_go (U' := Tr14.setTop (mkF m 278 (lc110 i0 i1 i2 i3 i4 i5 1 0 0 0 b1 u1 br3 br6 1 1 1) [(.int 0)])) (fun t k => oicN Xr12 hx hby at_260 (by decide) (oiconst Xr12 hx hby at_263 (ogoto (pc := 264) Xr12 hx hby at_264 268 (by decide) (oistore Xr12 hx hby at_268 (lc110 i0 i1 i2 i3 i4 i5 1 0 0 0 b1 u1 br3 br6 1 1 1) rfl (oaload Xr12 hx hby at_270 rfl rfl (str13 _ (str14 _ k))))))) ?_
          have f50 : Exa Z Tr13.heap br3 zs8 := (f41.keep Kr13)
          have f51 : Fld Z Tr13.heap br3 zs8 "unit" zs1 (.ref u1) := (f42.keep Kr13 nin0)
          have f52 : Fld Z Tr13.heap br3 zs8 "last" zs9 .null := ((f32.keep Kr11 nin0).keep Kr13 nin0)
          have f53 : Sta Z Tr13.heap zs4 "MIDDLE" zs5 (.ref w2) := (own_staK f44 Kr13 all0)
          obtain ⟨_, Tr15, Lr15, Xr15, hQr15, str15⟩ := ocallV Xr14 hx hZ zm8 zm8 hown (ww hw 58 rfl) (ww hw 59 rfl) (notFace_of_selects (args := #[]) (mvT hZ (ww hw 61 rfl))) (ww hw 61 rfl) (ww hw 60 rfl) (by decide) (ww hw 62 rfl) (ww hw 10 rfl) er14 f50 (rm10_16 l Z a0 hw [] br3 u1 w2 Tr13.heap n0 Z_7 f51 f52 f53) (st := [(.ref br3)]) rfl 0 rfl (by decide) (pc := 290) (Ls := (lc111 i0 i1 i2 i3 i4 i5 1 0 0 0 b1 u1 br3 br6 1 1 1 1)) hml rfl (lenOf pd_7 rfl) at_290 hby
          obtain ⟨b4, rfl, Nr15q, Kr15, sz3, f54, f55, f56, f57, f58⟩ := hQr15
          have N13 := Fr.app N12 Nr15q
          have Z_8 : n0 ≤ Tr15.heap.size := Nat.le_trans Z_7 Kr15.1
          obtain ⟨_, Tr16, Lr16, Xr16, hQr16, str16⟩ := ocallV Xr15 hx hZ zm4 zm4 hown (ww hw 36 rfl) (ww hw 37 rfl) (notFace_of_selects (args := #[]) (mvT hZ (ww hw 39 rfl))) (ww hw 39 rfl) (ww hw 38 rfl) (by decide) (ww hw 40 rfl) (ww hw 10 rfl) rfl f54 (rm6_12 l Z a0 hw [] b4 Tr15.heap n0 Z_8 f56) (st := [(.ref b4)]) rfl 0 rfl (by decide) (pc := 293) (Ls := (lc111 i0 i1 i2 i3 i4 i5 1 0 0 0 b1 u1 br3 br6 1 1 1 1)) hml rfl (lenOf pd_4 rfl) at_293 hby
          obtain ⟨rfl, Nr16q, er16⟩ := hQr16
          have N14 := Fr.app N13 Nr16q
          refine own_go (U' := Tr16.setTop (mkF m 296 (lc111 i0 i1 i2 i3 i4 i5 1 0 0 0 b1 u1 br3 br6 1 1 1 1) [(.int 0)])) (fun t k => oifN Xr14 hx hby at_278 (by decide) (oiconst Xr14 hx hby at_281 (ogoto (pc := 282) Xr14 hx hby at_282 286 (by decide) (oistore Xr14 hx hby at_286 (lc111 i0 i1 i2 i3 i4 i5 1 0 0 0 b1 u1 br3 br6 1 1 1 1) rfl (oaload Xr14 hx hby at_288 rfl rfl (str15 _ (str16 _ k))))))) ?_
          refine own_go (U' := Tr16.setTop (mkF m 308 (lc112 i0 i1 i2 i3 i4 i5 1 0 0 0 b1 u1 br3 br6 1 1 1 1 1) [(.int 1)])) (fun t k => oifN Xr16 hx hby at_296 (by decide) (oiconst Xr16 hx hby at_299 (ogoto (pc := 300) Xr16 hx hby at_300 304 (by decide) (oistore Xr16 hx hby at_304 (lc112 i0 i1 i2 i3 i4 i5 1 0 0 0 b1 u1 br3 br6 1 1 1 1 1) rfl (oiload Xr16 hx hby at_306 rfl k))))) ?_
          refine own_go (U' := Tr16.setTop (mkF m 313 (lc112 i0 i1 i2 i3 i4 i5 1 0 0 0 b1 u1 br3 br6 1 1 1 1 1) [(.int 1)])) (fun t k => oifN Xr16 hx hby at_308 (by decide) (oiload Xr16 hx hby at_311 rfl k)) ?_
          refine own_go (U' := Tr16.setTop (mkF m 318 (lc112 i0 i1 i2 i3 i4 i5 1 0 0 0 b1 u1 br3 br6 1 1 1 1 1) [(.int 1)])) (fun t k => oifN Xr16 hx hby at_313 (by decide) (oiload Xr16 hx hby at_316 rfl k)) ?_
          refine own_go (U' := Tr16.setTop (mkF m 323 (lc112 i0 i1 i2 i3 i4 i5 1 0 0 0 b1 u1 br3 br6 1 1 1 1 1) [(.int 1)])) (fun t k => oifN Xr16 hx hby at_318 (by decide) (oiload Xr16 hx hby at_321 rfl k)) ?_
          refine own_go (U' := Tr16.setTop (mkF m 328 (lc112 i0 i1 i2 i3 i4 i5 1 0 0 0 b1 u1 br3 br6 1 1 1 1 1) [(.int 1)])) (fun t k => oifN Xr16 hx hby at_323 (by decide) (oiload Xr16 hx hby at_326 rfl k)) ?_
          refine own_go (U' := Tr16.setTop (mkF m 336 (lc112 i0 i1 i2 i3 i4 i5 1 0 0 0 b1 u1 br3 br6 1 1 1 1 1) [(.int 1)])) (fun t k => oifN Xr16 hx hby at_328 (by decide) (oiconst Xr16 hx hby at_331 (ogoto (pc := 332) Xr16 hx hby at_332 336 (by decide) k))) ?_
          obtain ⟨fs, hr, hrun, hended, hW, hsame⟩ := Xr16.leave (v := some (.int 1)) (fun h => by rw [Bd.returns] at h; cases h)
          refine own_out ⟨_, _, ?_, hrun, hended, _, _, rfl, ?_, ⟨_, rfl⟩, hW, hsame.mono (by decide) (by decide)⟩
          · exact retN Xr16 hx (t := .boolean) Bd.returns (by simp) (hb hby at_336) hr
          · exact ⟨rfl, N14⟩
        · have hc4 : ¬ ((i0 &&& (8 : Int32)) = (0 : Int32)) := hk13
          refine own_go (U' := s₁.setTop (mkF m 55 (lc4 i0 i1 i2 i3 i4 i5 1 0 0 1) [(.int 1)])) (fun t k => oifN X0 hx hby at_43 ((if0 _ _).trans (feq hc4).1) (oiconst X0 hx hby at_46 (ogoto (pc := 47) X0 hx hby at_47 51 (by decide) (oistore X0 hx hby at_51 (lc4 i0 i1 i2 i3 i4 i5 1 0 0 1) rfl (oiload X0 hx hby at_53 rfl k))))) ?_
          obtain ⟨_, Tr1, Lr1, Xr1, hQr1, str1⟩ := ocallS X0 hx hZ zm11 hown (ww hw 63 rfl) (ww hw 64 rfl) (by decide) (ww hw 66 rfl) (ww hw 65 rfl) e0 (mg11_22 l Z a0 hw [] i2 w8 h0 n0 Z0 S16 S18) (st := [(.long i2)]) rfl 0 rfl (by decide) (pc := 59) (Ls := (lc4 i0 i1 i2 i3 i4 i5 1 0 0 1)) hml rfl (lenOf pd_9 rfl) at_59 hby
          obtain ⟨b1, rfl, Nr1q, Kr1, f1, f2⟩ := hQr1
          have N1 := Fr.app N0 Nr1q
          refine own_go (U' := Tr1.setTop (mkF m 70 (lc101 i0 i1 i2 i3 i4 i5 1 0 0 1 b1) [(.int 0)])) (fun t k => oifN X0 hx hby at_55 (by decide) (olloadN X0 hx hby at_58 rfl (str1 _ (ogoto (pc := 62) Xr1 hx hby at_62 66 (by decide) (oastore Xr1 hx hby at_66 (lc101 i0 i1 i2 i3 i4 i5 1 0 0 1 b1) rfl rfl (oiload Xr1 hx hby at_68 rfl k)))))) ?_
          refine own_go (U' := Tr1.setTop (mkF m 86 (lc102 i0 i1 i2 i3 i4 i5 1 0 0 1 b1) [(.int 0)])) (fun t k => oifY (pc := 70) Xr1 hx hby at_70 81 (by decide) (by decide) (onull Xr1 hx hby at_81 (oastore Xr1 hx hby at_82 (lc102 i0 i1 i2 i3 i4 i5 1 0 0 1 b1) rfl rfl (oiload Xr1 hx hby at_84 rfl k)))) ?_
          refine own_go (U' := Tr1.setTop (mkF m 102 (lc103 i0 i1 i2 i3 i4 i5 1 0 0 1 b1) [(.int 1)])) (fun t k => oifY (pc := 86) Xr1 hx hby at_86 97 (by decide) (by decide) (onull Xr1 hx hby at_97 (oastore Xr1 hx hby at_98 (lc103 i0 i1 i2 i3 i4 i5 1 0 0 1 b1) rfl rfl (oiload Xr1 hx hby at_100 rfl k)))) ?_
          have f3 : Sta Z Tr1.heap zs19 "cache" zs20 (.ref w8) := (own_staK S16 Kr1 all0)
          have f4 : own_LC Z Tr1.heap w8 n0 := (S18.keep Kr1 all0)
          have Z_1 : n0 ≤ Tr1.heap.size := Nat.le_trans Z0 Kr1.1
          obtain ⟨_, Tr2, Lr2, Xr2, hQr2, str2⟩ := ocallS Xr1 hx hZ zm11 hown (ww hw 63 rfl) (ww hw 64 rfl) (by decide) (ww hw 66 rfl) (ww hw 65 rfl) rfl (mg11_22 l Z a0 hw [] i5 w8 Tr1.heap n0 Z_1 f3 f4) (st := [(.long i5)]) rfl 0 rfl (by decide) (pc := 107) (Ls := (lc103 i0 i1 i2 i3 i4 i5 1 0 0 1 b1)) hml rfl (lenOf pd_9 rfl) at_107 hby
          obtain ⟨b2, rfl, Nr2q, Kr2, f5, f6⟩ := hQr2
          have N2 := Fr.app N1 Nr2q
          have f7 : Sta Z Tr2.heap zs0 "DAY" zs1 (.ref w3) := (own_staK (own_staK S6 Kr1 all0) Kr2 all0)
          have f8 : Sta Z Tr2.heap zs0 "MONTH" zs1 (.ref w7) := (own_staK (own_staK S14 Kr1 all0) Kr2 all0)
          have f9 : Sta Z Tr2.heap zs0 "YEAR" zs1 (.ref w6) := (own_staK (own_staK S12 Kr1 all0) Kr2 all0)
          have f10 : Sta Z Tr2.heap zs0 "DECADE" zs1 (.ref w0) := (own_staK (own_staK S0 Kr1 all0) Kr2 all0)
          have f11 : Sta Z Tr2.heap zs0 "CENTURY" zs1 (.ref w5) := (own_staK (own_staK S10 Kr1 all0) Kr2 all0)
          have Z_2 : n0 ≤ Tr2.heap.size := Nat.le_trans Z_1 Kr2.1
          obtain ⟨_, Tr3, Lr3, Xr3, hQr3, str3⟩ := ocallS Xr2 hx hZ zm0 hown (ww hw 0 rfl) (ww hw 1 rfl) (by decide) (ww hw 3 rfl) (ww hw 2 rfl) rfl (mg1_5 l Z a0 hw [] i1 w3 w7 w6 w0 w5 Tr2.heap n0 Z_2 f7 f8 f9 f10 f11) (st := [(.int i1)]) rfl 0 rfl (by decide) (pc := 117) (Ls := (lc113 i0 i1 i2 i3 i4 i5 1 0 0 1 b1 b2)) hml rfl (lenOf pd_0 rfl) at_117 hby
          obtain ⟨rfl, Nr3q, er3⟩ := hQr3
          refine own_go (U' := Tr3.setTop (mkF m 120 (lc113 i0 i1 i2 i3 i4 i5 1 0 0 1 b1 b2) [(.ref (own_unit ((i1 &&& (2147483647 : Int32)) % (5 : Int32)) w3 w7 w6 w0 w5))])) (fun t k => oifN Xr1 hx hby at_102 (by decide) (olload Xr1 hx hby at_105 rfl (str2 _ (ogoto (pc := 110) Xr2 hx hby at_110 114 (by decide) (oastore Xr2 hx hby at_114 (lc113 i0 i1 i2 i3 i4 i5 1 0 0 1 b1 b2) rfl rfl (oiloadN Xr2 hx hby at_116 rfl (str3 _ k))))))) ?_
          obtain ⟨u1, hu1⟩ : ∃ z, z = (own_unit ((i1 &&& (2147483647 : Int32)) % (5 : Int32)) w3 w7 w6 w0 w5) := ⟨_, rfl⟩
          rw [← hu1]
          have N3 := Fr.app N2 Nr3q
          obtain ⟨Tr4, hr4, Xr4, er4, Er4, Ar4, Dr4, -, str4⟩ := newO Xr3 hx hZ hown (ww hw 8 rfl) (ww hw 9 rfl) (ww hw 10 rfl) er3 (g := (mkF m 122 (lc114 i0 i1 i2 i3 i4 i5 1 0 0 1 b1 b2 u1) [])) rfl (hb hby at_122) (by decide) (by decide)
          obtain ⟨br4, gr4⟩ : ∃ z, z = Tr2.heap.size := ⟨_, rfl⟩
          rw [← gr4] at Ar4 Dr4 str4
          have f12 : Fld Z hr4 br4 zs8 "unit" zs1 .null := Dr4 (Or.inr (ww hw 29 rfl)) (ty := (.object zs0)) (by decide)
          have f13 : Fld Z hr4 br4 zs8 "first" zs9 .null := Dr4 (Or.inr (ww hw 31 rfl)) (ty := (.object zs11)) (by decide)
          have f14 : Fld Z hr4 br4 zs8 "last" zs9 .null := Dr4 (Or.inr (ww hw 33 rfl)) (ty := (.object zs11)) (by decide)
          have f15 : Fld Z hr4 br4 zs8 "anchor" zs5 .null := Dr4 (Or.inr (ww hw 35 rfl)) (ty := (.object zs4)) (by decide)
          have f16 : Sta Z hr4 zs4 "FIRST" zs5 (.ref w1) := (Sta.ext Er4 (own_staK (own_staK S2 Kr1 all0) Kr2 all0))
          have f17 : Sta Z hr4 zs4 "MIDDLE" zs5 (.ref w2) := (Sta.ext Er4 (own_staK (own_staK S4 Kr1 all0) Kr2 all0))
          have f18 : Sta Z hr4 zs4 "LAST" zs5 (.ref w4) := (Sta.ext Er4 (own_staK (own_staK S8 Kr1 all0) Kr2 all0))
          have Z_3 : n0 ≤ hr4.size := Nat.le_trans Z_2 Er4.1
          obtain ⟨_, Tr5, Lr5, Xr5, hQr5, str5⟩ := ocallS Xr4 hx hZ zm1 hown (ww hw 11 rfl) (ww hw 12 rfl) (by decide) (ww hw 13 rfl) (ww hw 2 rfl) er4 (mg2_9 l Z a0 hw [] ((i0.toUInt32 >>> ((4 : Int32) &&& 31).toUInt32).toInt32) w1 w2 w4 hr4 n0 Z_3 f16 f17 f18) (st := [(.int ((i0.toUInt32 >>> ((4 : Int32) &&& 31).toUInt32).toInt32)), .null, (.ref b1), (.ref u1), (.ref br4), (.ref br4)]) rfl 5 rfl (by decide) (pc := 135) (Ls := (lc114 i0 i1 i2 i3 i4 i5 1 0 0 1 b1 b2 u1)) hml rfl (lenOf pd_1 rfl) at_135 hby
          obtain ⟨rfl, Nr5q, er5⟩ := hQr5
          refine own_go (U' := Tr5.setTop (mkF m 138 (lc114 i0 i1 i2 i3 i4 i5 1 0 0 1 b1 b2 u1) [(.ref (own_anch (((i0.toUInt32 >>> ((4 : Int32) &&& 31).toUInt32).toInt32) &&& (3 : Int32)) w1 w2 w4)), .null, (.ref b1), (.ref u1), (.ref br4), (.ref br4)])) (fun t k => oastore Xr3 hx hby at_120 (lc114 i0 i1 i2 i3 i4 i5 1 0 0 1 b1 b2 u1) rfl rfl (str4 _ (odup Xr4 hx hby at_125 rfl (oaload Xr4 hx hby at_126 rfl rfl (oaload Xr4 hx hby at_128 rfl rfl (oaload Xr4 hx hby at_130 rfl rfl (oiloadN Xr4 hx hby at_132 rfl (oiconst Xr4 hx hby at_133 (oiushr Xr4 hx hby at_134 (str5 _ k)))))))))) ?_
          obtain ⟨u2, hu2⟩ : ∃ z, z = (own_anch (((i0.toUInt32 >>> ((4 : Int32) &&& 31).toUInt32).toInt32) &&& (3 : Int32)) w1 w2 w4) := ⟨_, rfl⟩
          rw [← hu2]
          have N4 := Fr.app N3 Nr5q
          have g1 : n0 ≤ br4 := Nat.le_trans Z_2 (Nat.le_of_eq gr4.symm)
          obtain ⟨_, Tr6, Lr6, Xr6, hQr6, str6⟩ := ocallI Xr5 hx hZ zm3 rfl hown (ww hw 17 rfl) (ww hw 18 rfl) (by decide) (ww hw 19 rfl) (ww hw 10 rfl) er5 (rm3_26 l Z a0 hw [] br4 u1 b1 u2 hr4 n0 Z_3 f12 f13 f14 f15 Ar4 g1) (st := [(.ref u2), .null, (.ref b1), (.ref u1), (.ref br4), (.ref br4)]) rfl 1 rfl (by decide) (pc := 138) (Ls := (lc114 i0 i1 i2 i3 i4 i5 1 0 0 1 b1 b2 u1)) hml rfl (lenOf pd_3 rfl) at_138 hby
          obtain ⟨rfl, Nr6q, Kr6, f19, f20, f21, f22⟩ := hQr6
          have N5 := Fr.app N4 Nr6q
          obtain ⟨Tr7, hr7, Xr7, er7, Er7, Ar7, Dr7, -, str7⟩ := newO Xr6 hx hZ hown (ww hw 8 rfl) (ww hw 9 rfl) (ww hw 10 rfl) rfl (g := (mkF m 143 (lc115 i0 i1 i2 i3 i4 i5 1 0 0 1 b1 b2 u1 br4) [])) rfl (hb hby at_143) (by decide) (by decide)
          obtain ⟨br7, gr7⟩ : ∃ z, z = Tr6.heap.size := ⟨_, rfl⟩
          rw [← gr7] at Ar7 Dr7 str7
          have f23 : Fld Z hr7 br7 zs8 "unit" zs1 .null := Dr7 (Or.inr (ww hw 29 rfl)) (ty := (.object zs0)) (by decide)
          have f24 : Fld Z hr7 br7 zs8 "first" zs9 .null := Dr7 (Or.inr (ww hw 31 rfl)) (ty := (.object zs11)) (by decide)
          have f25 : Fld Z hr7 br7 zs8 "last" zs9 .null := Dr7 (Or.inr (ww hw 33 rfl)) (ty := (.object zs11)) (by decide)
          have f26 : Fld Z hr7 br7 zs8 "anchor" zs5 .null := Dr7 (Or.inr (ww hw 35 rfl)) (ty := (.object zs4)) (by decide)
          have f27 : Sta Z hr7 zs4 "FIRST" zs5 (.ref w1) := (Sta.ext Er7 (own_staK f16 Kr6 (allS (own_nsE Ar4) all0)))
          have f28 : Sta Z hr7 zs4 "MIDDLE" zs5 (.ref w2) := (Sta.ext Er7 (own_staK f17 Kr6 (allS (own_nsE Ar4) all0)))
          have f29 : Sta Z hr7 zs4 "LAST" zs5 (.ref w4) := (Sta.ext Er7 (own_staK f18 Kr6 (allS (own_nsE Ar4) all0)))
          have Z_4 : n0 ≤ Tr6.heap.size := Nat.le_trans Z_3 Kr6.1
          have Z_5 : n0 ≤ hr7.size := Nat.le_trans Z_4 Er7.1
          obtain ⟨_, Tr8, Lr8, Xr8, hQr8, str8⟩ := ocallS Xr7 hx hZ zm1 hown (ww hw 11 rfl) (ww hw 12 rfl) (by decide) (ww hw 13 rfl) (ww hw 2 rfl) er7 (mg2_9 l Z a0 hw [] ((i0.toUInt32 >>> ((6 : Int32) &&& 31).toUInt32).toInt32) w1 w2 w4 hr7 n0 Z_5 f27 f28 f29) (st := [(.int ((i0.toUInt32 >>> ((6 : Int32) &&& 31).toUInt32).toInt32)), (.ref b2), .null, (.ref u1), (.ref br7), (.ref br7)]) rfl 5 rfl (by decide) (pc := 157) (Ls := (lc115 i0 i1 i2 i3 i4 i5 1 0 0 1 b1 b2 u1 br4)) hml rfl (lenOf pd_1 rfl) at_157 hby
          obtain ⟨rfl, Nr8q, er8⟩ := hQr8
          refine own_go (U' := Tr8.setTop (mkF m 160 (lc115 i0 i1 i2 i3 i4 i5 1 0 0 1 b1 b2 u1 br4) [(.ref (own_anch (((i0.toUInt32 >>> ((6 : Int32) &&& 31).toUInt32).toInt32) &&& (3 : Int32)) w1 w2 w4)), (.ref b2), .null, (.ref u1), (.ref br7), (.ref br7)])) (fun t k => str6 _ (oastore Xr6 hx hby at_141 (lc115 i0 i1 i2 i3 i4 i5 1 0 0 1 b1 b2 u1 br4) rfl rfl (str7 _ (odup Xr7 hx hby at_146 rfl (oaload Xr7 hx hby at_147 rfl rfl (oaload Xr7 hx hby at_149 rfl rfl (oaload Xr7 hx hby at_151 rfl rfl (oiloadN Xr7 hx hby at_153 rfl (obipush Xr7 hx hby at_154 (oiushr Xr7 hx hby at_156 (str8 _ k))))))))))) ?_
          obtain ⟨u3, hu3⟩ : ∃ z, z = (own_anch (((i0.toUInt32 >>> ((6 : Int32) &&& 31).toUInt32).toInt32) &&& (3 : Int32)) w1 w2 w4) := ⟨_, rfl⟩
          rw [← hu3]
          have N6 := Fr.app N5 Nr8q
          have g2 : n0 ≤ br7 := Nat.le_trans Z_4 (Nat.le_of_eq gr7.symm)
          obtain ⟨_, Tr9, Lr9, Xr9, hQr9, str9⟩ := ocallI Xr8 hx hZ zm3 rfl hown (ww hw 17 rfl) (ww hw 18 rfl) (by decide) (ww hw 19 rfl) (ww hw 10 rfl) er8 (rm3_23 l Z a0 hw [] br7 u1 b2 u3 hr7 n0 Z_5 f23 f24 f25 f26 Ar7 g2) (st := [(.ref u3), (.ref b2), .null, (.ref u1), (.ref br7), (.ref br7)]) rfl 1 rfl (by decide) (pc := 160) (Ls := (lc115 i0 i1 i2 i3 i4 i5 1 0 0 1 b1 b2 u1 br4)) hml rfl (lenOf pd_3 rfl) at_160 hby
          obtain ⟨rfl, Nr9q, Kr9, f30, f31, f32, f33⟩ := hQr9
          have N7 := Fr.app N6 Nr9q
          have f34 : Exa Z Tr9.heap br4 zs8 := ((Exa.ext Er7 (Ar4.keep Kr6)).keep Kr9)
          have ne1 : br4 ≠ br7 := Nat.ne_of_lt (Nat.lt_of_lt_of_le (f19.lt) (Nat.le_of_eq gr7.symm))
          have f35 : Fld Z Tr9.heap br4 zs8 "first" zs9 (.ref b1) := ((Fld.ext Er7 f20).keep Kr9 (ninS ne1 nin0))
          have f36 : Fld Z Tr9.heap br4 zs8 "last" zs9 .null := ((Fld.ext Er7 f21).keep Kr9 (ninS ne1 nin0))
          have Z_6 : n0 ≤ Tr9.heap.size := Nat.le_trans Z_5 Kr9.1
          obtain ⟨_, Tr10, Lr10, Xr10, hQr10, str10⟩ := ocallV Xr9 hx hZ zm4 zm4 hown (ww hw 36 rfl) (ww hw 37 rfl) (notFace_of_selects (args := #[]) (mvT hZ (ww hw 39 rfl))) (ww hw 39 rfl) (ww hw 38 rfl) (by decide) (ww hw 40 rfl) (ww hw 10 rfl) rfl f34 (rm6_27 l Z a0 hw [] br4 b1 Tr9.heap n0 Z_6 f35 f36) (st := [(.ref br4)]) rfl 0 rfl (by decide) (pc := 167) (Ls := (lc116 i0 i1 i2 i3 i4 i5 1 0 0 1 b1 b2 u1 br4 br7)) hml rfl (lenOf pd_4 rfl) at_167 hby
          obtain ⟨rfl, Nr10q, er10⟩ := hQr10
          have N8 := Fr.app N7 Nr10q
          refine own_go (U' := Tr10.setTop (mkF m 172 (lc116 i0 i1 i2 i3 i4 i5 1 0 0 1 b1 b2 u1 br4 br7) [(.int 1), (.int 0)])) (fun t k => str9 _ (oastore Xr9 hx hby at_163 (lc116 i0 i1 i2 i3 i4 i5 1 0 0 1 b1 b2 u1 br4 br7) rfl rfl (oaload Xr9 hx hby at_165 rfl rfl (str10 _ (oiload Xr10 hx hby at_170 rfl k))))) ?_
          refine own_go (U' := Tr10.setTop (mkF m 177 (lc116 i0 i1 i2 i3 i4 i5 1 0 0 1 b1 b2 u1 br4 br7) [(.int 0), (.int 0)])) (fun t k => oifN Xr10 hx hby at_172 (by decide) (oiload Xr10 hx hby at_175 rfl k)) ?_
          refine own_go (U' := Tr10.setTop (mkF m 185 (lc116 i0 i1 i2 i3 i4 i5 1 0 0 1 b1 b2 u1 br4 br7) [(.int 0), (.int 0)])) (fun t k => oifY (pc := 177) Xr10 hx hby at_177 184 (by decide) (by decide) (oiconst Xr10 hx hby at_184 k)) ?_
          have f37 : Exa Z Tr9.heap br7 zs8 := (Ar7.keep Kr9)
          obtain ⟨_, Tr11, Lr11, Xr11, hQr11, str11⟩ := ocallV Xr10 hx hZ zm4 zm4 hown (ww hw 36 rfl) (ww hw 37 rfl) (notFace_of_selects (args := #[]) (mvT hZ (ww hw 39 rfl))) (ww hw 39 rfl) (ww hw 38 rfl) (by decide) (ww hw 40 rfl) (ww hw 10 rfl) er10 f37 (rm6_12 l Z a0 hw [] br7 Tr9.heap n0 Z_6 f31) (st := [(.ref br7)]) rfl 0 rfl (by decide) (pc := 197) (Ls := (lc117 i0 i1 i2 i3 i4 i5 1 0 0 1 b1 b2 u1 br4 br7 1)) hml rfl (lenOf pd_4 rfl) at_197 hby
          obtain ⟨rfl, Nr11q, er11⟩ := hQr11
          have N9 := Fr.app N8 Nr11q
          refine own_go (U' := Tr11.setTop (mkF m 202 (lc117 i0 i1 i2 i3 i4 i5 1 0 0 1 b1 b2 u1 br4 br7 1) [(.int 0), (.int 0)])) (fun t k => oicN Xr10 hx hby at_185 (by decide) (oiconst Xr10 hx hby at_188 (ogoto (pc := 189) Xr10 hx hby at_189 193 (by decide) (oistore Xr10 hx hby at_193 (lc117 i0 i1 i2 i3 i4 i5 1 0 0 1 b1 b2 u1 br4 br7 1) rfl (oaload Xr10 hx hby at_195 rfl rfl (str11 _ (oiload Xr11 hx hby at_200 rfl k))))))) ?_
          refine own_go (U' := Tr11.setTop (mkF m 215 (lc117 i0 i1 i2 i3 i4 i5 1 0 0 1 b1 b2 u1 br4 br7 1) [(.int 0), (.int 0)])) (fun t k => oifY (pc := 202) Xr11 hx hby at_202 214 (by decide) (by decide) (oiconst Xr11 hx hby at_214 k)) ?_
          have f38 : Fld Z Tr9.heap br4 zs8 "unit" zs1 (.ref u1) := ((Fld.ext Er7 f19).keep Kr9 (ninS ne1 nin0))
          have f39 : Sta Z Tr9.heap zs4 "MIDDLE" zs5 (.ref w2) := (own_staK f28 Kr9 (allS (own_nsF f23) all0))
          obtain ⟨_, Tr12, Lr12, Xr12, hQr12, str12⟩ := ocallV Xr11 hx hZ zm6 zm6 hown (ww hw 41 rfl) (ww hw 42 rfl) (notFace_of_selects (args := #[]) (mvT hZ (ww hw 44 rfl))) (ww hw 44 rfl) (ww hw 43 rfl) (by decide) (ww hw 45 rfl) (ww hw 10 rfl) er11 f34 (rm7_44 l Z a0 hw [] br4 br7 b1 b2 u1 w2 Tr9.heap n0 Z_6 f35 f31 f36 f32 f38 f39) (st := [(.ref br7), (.ref br4)]) rfl 0 rfl (by decide) (pc := 229) (Ls := (lc118 i0 i1 i2 i3 i4 i5 1 0 0 1 b1 b2 u1 br4 br7 1 1)) hml rfl (lenOf pd_6 rfl) at_229 hby
          obtain ⟨b3, rfl, Nr12q, Kr12, sz1, f40, f41, f42, f43, f44⟩ := hQr12
          have N10 := Fr.app N9 Nr12q
          have Z_7 : n0 ≤ Tr12.heap.size := Nat.le_trans Z_6 Kr12.1
          obtain ⟨_, Tr13, Lr13, Xr13, hQr13, str13⟩ := ocallV Xr12 hx hZ zm4 zm4 hown (ww hw 36 rfl) (ww hw 37 rfl) (notFace_of_selects (args := #[]) (mvT hZ (ww hw 39 rfl))) (ww hw 39 rfl) (ww hw 38 rfl) (by decide) (ww hw 40 rfl) (ww hw 10 rfl) rfl f40 (rm6_31 l Z a0 hw [] b3 b1 b2 Tr12.heap n0 Z_7 f42 f43) (st := [(.ref b3)]) rfl 0 rfl (by decide) (pc := 232) (Ls := (lc118 i0 i1 i2 i3 i4 i5 1 0 0 1 b1 b2 u1 br4 br7 1 1)) hml rfl (lenOf pd_4 rfl) at_232 hby
          obtain ⟨rfl, Nr13q, er13⟩ := hQr13
          have N11 := Fr.app N10 Nr13q
          refine own_go (U' := Tr13.setTop (mkF m 237 (lc118 i0 i1 i2 i3 i4 i5 1 0 0 1 b1 b2 u1 br4 br7 1 1) [(.int 1), (.int 1)])) (fun t k => oicN Xr11 hx hby at_215 (by decide) (oiconst Xr11 hx hby at_218 (ogoto (pc := 219) Xr11 hx hby at_219 223 (by decide) (oistore Xr11 hx hby at_223 (lc118 i0 i1 i2 i3 i4 i5 1 0 0 1 b1 b2 u1 br4 br7 1 1) rfl (oaload Xr11 hx hby at_225 rfl rfl (oaload Xr11 hx hby at_227 rfl rfl (str12 _ (str13 _ (oiload Xr13 hx hby at_235 rfl k))))))))) ?_
          refine own_go (U' := Tr13.setTop (mkF m 247 (lc118 i0 i1 i2 i3 i4 i5 1 0 0 1 b1 b2 u1 br4 br7 1 1) [(.int 0), (.int 1)])) (fun t k => oifY (pc := 237) Xr13 hx hby at_237 245 (by decide) (by decide) (oiload Xr13 hx hby at_245 rfl k)) ?_
          refine own_go (U' := Tr13.setTop (mkF m 252 (lc118 i0 i1 i2 i3 i4 i5 1 0 0 1 b1 b2 u1 br4 br7 1 1) [(.int 1), (.int 1)])) (fun t k => oifN Xr13 hx hby at_247 (by decide) (oiload Xr13 hx hby at_250 rfl k)) ?_
          refine own_go (U' := Tr13.setTop (mkF m 260 (lc118 i0 i1 i2 i3 i4 i5 1 0 0 1 b1 b2 u1 br4 br7 1 1) [(.int 1), (.int 1)])) (fun t k => oifN Xr13 hx hby at_252 (by decide) (oiconst Xr13 hx hby at_255 (ogoto (pc := 256) Xr13 hx hby at_256 260 (by decide) k))) ?_
          have f45 : Exa Z Tr12.heap br4 zs8 := (f34.keep Kr12)
          have f46 : Fld Z Tr12.heap br4 zs8 "unit" zs1 (.ref u1) := (f38.keep Kr12 nin0)
          have f47 : Fld Z Tr12.heap br4 zs8 "first" zs9 (.ref b1) := (f35.keep Kr12 nin0)
          have f48 : Sta Z Tr12.heap zs4 "MIDDLE" zs5 (.ref w2) := (own_staK f39 Kr12 all0)
          obtain ⟨_, Tr14, Lr14, Xr14, hQr14, str14⟩ := ocallV Xr13 hx hZ zm7 zm7 hown (ww hw 53 rfl) (ww hw 54 rfl) (notFace_of_selects (args := #[]) (mvT hZ (ww hw 56 rfl))) (ww hw 56 rfl) (ww hw 55 rfl) (by decide) (ww hw 57 rfl) (ww hw 10 rfl) er13 f45 (rm9_43 l Z a0 hw [] br4 u1 b1 w2 Tr12.heap n0 Z_7 f46 f47 f48) (st := [(.ref br4)]) rfl 0 rfl (by decide) (pc := 272) (Ls := (lc119 i0 i1 i2 i3 i4 i5 1 0 0 1 b1 b2 u1 br4 br7 1 1 1)) hml rfl (lenOf pd_7 rfl) at_272 hby
          obtain ⟨b4, rfl, Nr14q, Kr14, sz2, f49, f50, f51, f52, f53⟩ := hQr14
          have N12 := Fr.app N11 Nr14q
          have Z_8 : n0 ≤ Tr14.heap.size := Nat.le_trans Z_7 Kr14.1
          obtain ⟨_, Tr15, Lr15, Xr15, hQr15, str15⟩ := ocallV Xr14 hx hZ zm4 zm4 hown (ww hw 36 rfl) (ww hw 37 rfl) (notFace_of_selects (args := #[]) (mvT hZ (ww hw 39 rfl))) (ww hw 39 rfl) (ww hw 38 rfl) (by decide) (ww hw 40 rfl) (ww hw 10 rfl) rfl f49 (rm6_27 l Z a0 hw [] b4 b1 Tr14.heap n0 Z_8 f51 f52) (st := [(.ref b4)]) rfl 0 rfl (by decide) (pc := 275) (Ls := (lc119 i0 i1 i2 i3 i4 i5 1 0 0 1 b1 b2 u1 br4 br7 1 1 1)) hml rfl (lenOf pd_4 rfl) at_275 hby
          obtain ⟨rfl, Nr15q, er15⟩ := hQr15
          have N13 := Fr.app N12 Nr15q
          refine own_go (U' := Tr15.setTop (mkF m 278 (lc119 i0 i1 i2 i3 i4 i5 1 0 0 1 b1 b2 u1 br4 br7 1 1 1) [(.int 0)])) (fun t k => oicN Xr13 hx hby at_260 (by decide) (oiconst Xr13 hx hby at_263 (ogoto (pc := 264) Xr13 hx hby at_264 268 (by decide) (oistore Xr13 hx hby at_268 (lc119 i0 i1 i2 i3 i4 i5 1 0 0 1 b1 b2 u1 br4 br7 1 1 1) rfl (oaload Xr13 hx hby at_270 rfl rfl (str14 _ (str15 _ k))))))) ?_
          have f54 : Exa Z Tr14.heap br4 zs8 := (f45.keep Kr14)
          have f55 : Fld Z Tr14.heap br4 zs8 "unit" zs1 (.ref u1) := (f46.keep Kr14 nin0)
          have f56 : Fld Z Tr14.heap br4 zs8 "last" zs9 .null := ((f36.keep Kr12 nin0).keep Kr14 nin0)
          have f57 : Sta Z Tr14.heap zs4 "MIDDLE" zs5 (.ref w2) := (own_staK f48 Kr14 all0)
          obtain ⟨_, Tr16, Lr16, Xr16, hQr16, str16⟩ := ocallV Xr15 hx hZ zm8 zm8 hown (ww hw 58 rfl) (ww hw 59 rfl) (notFace_of_selects (args := #[]) (mvT hZ (ww hw 61 rfl))) (ww hw 61 rfl) (ww hw 60 rfl) (by decide) (ww hw 62 rfl) (ww hw 10 rfl) er15 f54 (rm10_16 l Z a0 hw [] br4 u1 w2 Tr14.heap n0 Z_8 f55 f56 f57) (st := [(.ref br4)]) rfl 0 rfl (by decide) (pc := 290) (Ls := (lc120 i0 i1 i2 i3 i4 i5 1 0 0 1 b1 b2 u1 br4 br7 1 1 1 1)) hml rfl (lenOf pd_7 rfl) at_290 hby
          obtain ⟨b5, rfl, Nr16q, Kr16, sz3, f58, f59, f60, f61, f62⟩ := hQr16
          have N14 := Fr.app N13 Nr16q
          have Z_9 : n0 ≤ Tr16.heap.size := Nat.le_trans Z_8 Kr16.1
          obtain ⟨_, Tr17, Lr17, Xr17, hQr17, str17⟩ := ocallV Xr16 hx hZ zm4 zm4 hown (ww hw 36 rfl) (ww hw 37 rfl) (notFace_of_selects (args := #[]) (mvT hZ (ww hw 39 rfl))) (ww hw 39 rfl) (ww hw 38 rfl) (by decide) (ww hw 40 rfl) (ww hw 10 rfl) rfl f58 (rm6_12 l Z a0 hw [] b5 Tr16.heap n0 Z_9 f60) (st := [(.ref b5)]) rfl 0 rfl (by decide) (pc := 293) (Ls := (lc120 i0 i1 i2 i3 i4 i5 1 0 0 1 b1 b2 u1 br4 br7 1 1 1 1)) hml rfl (lenOf pd_4 rfl) at_293 hby
          obtain ⟨rfl, Nr17q, er17⟩ := hQr17
          have N15 := Fr.app N14 Nr17q
          refine own_go (U' := Tr17.setTop (mkF m 296 (lc120 i0 i1 i2 i3 i4 i5 1 0 0 1 b1 b2 u1 br4 br7 1 1 1 1) [(.int 0)])) (fun t k => oifN Xr15 hx hby at_278 (by decide) (oiconst Xr15 hx hby at_281 (ogoto (pc := 282) Xr15 hx hby at_282 286 (by decide) (oistore Xr15 hx hby at_286 (lc120 i0 i1 i2 i3 i4 i5 1 0 0 1 b1 b2 u1 br4 br7 1 1 1 1) rfl (oaload Xr15 hx hby at_288 rfl rfl (str16 _ (str17 _ k))))))) ?_
          refine own_go (U' := Tr17.setTop (mkF m 308 (lc121 i0 i1 i2 i3 i4 i5 1 0 0 1 b1 b2 u1 br4 br7 1 1 1 1 1) [(.int 1)])) (fun t k => oifN Xr17 hx hby at_296 (by decide) (oiconst Xr17 hx hby at_299 (ogoto (pc := 300) Xr17 hx hby at_300 304 (by decide) (oistore Xr17 hx hby at_304 (lc121 i0 i1 i2 i3 i4 i5 1 0 0 1 b1 b2 u1 br4 br7 1 1 1 1 1) rfl (oiload Xr17 hx hby at_306 rfl k))))) ?_
          refine own_go (U' := Tr17.setTop (mkF m 313 (lc121 i0 i1 i2 i3 i4 i5 1 0 0 1 b1 b2 u1 br4 br7 1 1 1 1 1) [(.int 1)])) (fun t k => oifN Xr17 hx hby at_308 (by decide) (oiload Xr17 hx hby at_311 rfl k)) ?_
          refine own_go (U' := Tr17.setTop (mkF m 318 (lc121 i0 i1 i2 i3 i4 i5 1 0 0 1 b1 b2 u1 br4 br7 1 1 1 1 1) [(.int 1)])) (fun t k => oifN Xr17 hx hby at_313 (by decide) (oiload Xr17 hx hby at_316 rfl k)) ?_
          refine own_go (U' := Tr17.setTop (mkF m 323 (lc121 i0 i1 i2 i3 i4 i5 1 0 0 1 b1 b2 u1 br4 br7 1 1 1 1 1) [(.int 1)])) (fun t k => oifN Xr17 hx hby at_318 (by decide) (oiload Xr17 hx hby at_321 rfl k)) ?_
          refine own_go (U' := Tr17.setTop (mkF m 328 (lc121 i0 i1 i2 i3 i4 i5 1 0 0 1 b1 b2 u1 br4 br7 1 1 1 1 1) [(.int 1)])) (fun t k => oifN Xr17 hx hby at_323 (by decide) (oiload Xr17 hx hby at_326 rfl k)) ?_
          refine own_go (U' := Tr17.setTop (mkF m 336 (lc121 i0 i1 i2 i3 i4 i5 1 0 0 1 b1 b2 u1 br4 br7 1 1 1 1 1) [(.int 1)])) (fun t k => oifN Xr17 hx hby at_328 (by decide) (oiconst Xr17 hx hby at_331 (ogoto (pc := 332) Xr17 hx hby at_332 336 (by decide) k))) ?_
          obtain ⟨fs, hr, hrun, hended, hW, hsame⟩ := Xr17.leave (v := some (.int 1)) (fun h => by rw [Bd.returns] at h; cases h)
          refine own_out ⟨_, _, ?_, hrun, hended, _, _, rfl, ?_, ⟨_, rfl⟩, hW, hsame.mono (by decide) (by decide)⟩
          · exact retN Xr17 hx (t := .boolean) Bd.returns (by simp) (hb hby at_336) hr
          · exact ⟨rfl, N15⟩
      · have hc5 : ¬ ((i0 &&& (4 : Int32)) = (0 : Int32)) := hk12
        refine own_go (U' := s₁.setTop (mkF m 43 (lc3 i0 i1 i2 i3 i4 i5 1 0 1) [(.int (i0 &&& (8 : Int32)))])) (fun t k => oifN X0 hx hby at_29 ((if0 _ _).trans (feq hc5).1) (oiconst X0 hx hby at_32 (ogoto (pc := 33) X0 hx hby at_33 37 (by decide) (oistore X0 hx hby at_37 (lc3 i0 i1 i2 i3 i4 i5 1 0 1) rfl (oiloadN X0 hx hby at_39 rfl (obipush X0 hx hby at_40 (oiand X0 hx hby at_42 k))))))) ?_
        by_cases hk14 : (i0 &&& (8 : Int32)) = (0 : Int32)
        · have hc3 : (i0 &&& (8 : Int32)) = (0 : Int32) := hk14
          refine own_go (U' := s₁.setTop (mkF m 55 (lc4 i0 i1 i2 i3 i4 i5 1 0 1 0) [(.int 1)])) (fun t k => oifY (pc := 43) X0 hx hby at_43 50 ((if0 _ _).trans (teq hc3).1) (by decide) (oiconst X0 hx hby at_50 (oistore X0 hx hby at_51 (lc4 i0 i1 i2 i3 i4 i5 1 0 1 0) rfl (oiload X0 hx hby at_53 rfl k)))) ?_
          obtain ⟨_, Tr1, Lr1, Xr1, hQr1, str1⟩ := ocallS X0 hx hZ zm11 hown (ww hw 63 rfl) (ww hw 64 rfl) (by decide) (ww hw 66 rfl) (ww hw 65 rfl) e0 (mg11_22 l Z a0 hw [] i2 w8 h0 n0 Z0 S16 S18) (st := [(.long i2)]) rfl 0 rfl (by decide) (pc := 59) (Ls := (lc4 i0 i1 i2 i3 i4 i5 1 0 1 0)) hml rfl (lenOf pd_9 rfl) at_59 hby
          obtain ⟨b1, rfl, Nr1q, Kr1, f1, f2⟩ := hQr1
          have N1 := Fr.app N0 Nr1q
          refine own_go (U' := Tr1.setTop (mkF m 70 (lc101 i0 i1 i2 i3 i4 i5 1 0 1 0 b1) [(.int 0)])) (fun t k => oifN X0 hx hby at_55 (by decide) (olloadN X0 hx hby at_58 rfl (str1 _ (ogoto (pc := 62) Xr1 hx hby at_62 66 (by decide) (oastore Xr1 hx hby at_66 (lc101 i0 i1 i2 i3 i4 i5 1 0 1 0 b1) rfl rfl (oiload Xr1 hx hby at_68 rfl k)))))) ?_
          refine own_go (U' := Tr1.setTop (mkF m 86 (lc102 i0 i1 i2 i3 i4 i5 1 0 1 0 b1) [(.int 1)])) (fun t k => oifY (pc := 70) Xr1 hx hby at_70 81 (by decide) (by decide) (onull Xr1 hx hby at_81 (oastore Xr1 hx hby at_82 (lc102 i0 i1 i2 i3 i4 i5 1 0 1 0 b1) rfl rfl (oiload Xr1 hx hby at_84 rfl k)))) ?_
          have f3 : Sta Z Tr1.heap zs19 "cache" zs20 (.ref w8) := (own_staK S16 Kr1 all0)
          have f4 : own_LC Z Tr1.heap w8 n0 := (S18.keep Kr1 all0)
          have Z_1 : n0 ≤ Tr1.heap.size := Nat.le_trans Z0 Kr1.1
          obtain ⟨_, Tr2, Lr2, Xr2, hQr2, str2⟩ := ocallS Xr1 hx hZ zm11 hown (ww hw 63 rfl) (ww hw 64 rfl) (by decide) (ww hw 66 rfl) (ww hw 65 rfl) rfl (mg11_22 l Z a0 hw [] i4 w8 Tr1.heap n0 Z_1 f3 f4) (st := [(.long i4)]) rfl 0 rfl (by decide) (pc := 91) (Ls := (lc102 i0 i1 i2 i3 i4 i5 1 0 1 0 b1)) hml rfl (lenOf pd_9 rfl) at_91 hby
          obtain ⟨b2, rfl, Nr2q, Kr2, f5, f6⟩ := hQr2
          have N2 := Fr.app N1 Nr2q
          refine own_go (U' := Tr2.setTop (mkF m 102 (lc122 i0 i1 i2 i3 i4 i5 1 0 1 0 b1 b2) [(.int 0)])) (fun t k => oifN Xr1 hx hby at_86 (by decide) (olload Xr1 hx hby at_89 rfl (str2 _ (ogoto (pc := 94) Xr2 hx hby at_94 98 (by decide) (oastore Xr2 hx hby at_98 (lc122 i0 i1 i2 i3 i4 i5 1 0 1 0 b1 b2) rfl rfl (oiload Xr2 hx hby at_100 rfl k)))))) ?_
          have f7 : Sta Z Tr2.heap zs0 "DAY" zs1 (.ref w3) := (own_staK (own_staK S6 Kr1 all0) Kr2 all0)
          have f8 : Sta Z Tr2.heap zs0 "MONTH" zs1 (.ref w7) := (own_staK (own_staK S14 Kr1 all0) Kr2 all0)
          have f9 : Sta Z Tr2.heap zs0 "YEAR" zs1 (.ref w6) := (own_staK (own_staK S12 Kr1 all0) Kr2 all0)
          have f10 : Sta Z Tr2.heap zs0 "DECADE" zs1 (.ref w0) := (own_staK (own_staK S0 Kr1 all0) Kr2 all0)
          have f11 : Sta Z Tr2.heap zs0 "CENTURY" zs1 (.ref w5) := (own_staK (own_staK S10 Kr1 all0) Kr2 all0)
          have Z_2 : n0 ≤ Tr2.heap.size := Nat.le_trans Z_1 Kr2.1
          obtain ⟨_, Tr3, Lr3, Xr3, hQr3, str3⟩ := ocallS Xr2 hx hZ zm0 hown (ww hw 0 rfl) (ww hw 1 rfl) (by decide) (ww hw 3 rfl) (ww hw 2 rfl) rfl (mg1_5 l Z a0 hw [] i1 w3 w7 w6 w0 w5 Tr2.heap n0 Z_2 f7 f8 f9 f10 f11) (st := [(.int i1)]) rfl 0 rfl (by decide) (pc := 117) (Ls := (lc123 i0 i1 i2 i3 i4 i5 1 0 1 0 b1 b2)) hml rfl (lenOf pd_0 rfl) at_117 hby
          obtain ⟨rfl, Nr3q, er3⟩ := hQr3
          refine own_go (U' := Tr3.setTop (mkF m 120 (lc123 i0 i1 i2 i3 i4 i5 1 0 1 0 b1 b2) [(.ref (own_unit ((i1 &&& (2147483647 : Int32)) % (5 : Int32)) w3 w7 w6 w0 w5))])) (fun t k => oifY (pc := 102) Xr2 hx hby at_102 113 (by decide) (by decide) (onull Xr2 hx hby at_113 (oastore Xr2 hx hby at_114 (lc123 i0 i1 i2 i3 i4 i5 1 0 1 0 b1 b2) rfl rfl (oiloadN Xr2 hx hby at_116 rfl (str3 _ k))))) ?_
          obtain ⟨u1, hu1⟩ : ∃ z, z = (own_unit ((i1 &&& (2147483647 : Int32)) % (5 : Int32)) w3 w7 w6 w0 w5) := ⟨_, rfl⟩
          rw [← hu1]
          have N3 := Fr.app N2 Nr3q
          obtain ⟨Tr4, hr4, Xr4, er4, Er4, Ar4, Dr4, -, str4⟩ := newO Xr3 hx hZ hown (ww hw 8 rfl) (ww hw 9 rfl) (ww hw 10 rfl) er3 (g := (mkF m 122 (lc124 i0 i1 i2 i3 i4 i5 1 0 1 0 b1 b2 u1) [])) rfl (hb hby at_122) (by decide) (by decide)
          obtain ⟨br4, gr4⟩ : ∃ z, z = Tr2.heap.size := ⟨_, rfl⟩
          rw [← gr4] at Ar4 Dr4 str4
          have f12 : Fld Z hr4 br4 zs8 "unit" zs1 .null := Dr4 (Or.inr (ww hw 29 rfl)) (ty := (.object zs0)) (by decide)
          have f13 : Fld Z hr4 br4 zs8 "first" zs9 .null := Dr4 (Or.inr (ww hw 31 rfl)) (ty := (.object zs11)) (by decide)
          have f14 : Fld Z hr4 br4 zs8 "last" zs9 .null := Dr4 (Or.inr (ww hw 33 rfl)) (ty := (.object zs11)) (by decide)
          have f15 : Fld Z hr4 br4 zs8 "anchor" zs5 .null := Dr4 (Or.inr (ww hw 35 rfl)) (ty := (.object zs4)) (by decide)
          have f16 : Sta Z hr4 zs4 "FIRST" zs5 (.ref w1) := (Sta.ext Er4 (own_staK (own_staK S2 Kr1 all0) Kr2 all0))
          have f17 : Sta Z hr4 zs4 "MIDDLE" zs5 (.ref w2) := (Sta.ext Er4 (own_staK (own_staK S4 Kr1 all0) Kr2 all0))
          have f18 : Sta Z hr4 zs4 "LAST" zs5 (.ref w4) := (Sta.ext Er4 (own_staK (own_staK S8 Kr1 all0) Kr2 all0))
          have Z_3 : n0 ≤ hr4.size := Nat.le_trans Z_2 Er4.1
          obtain ⟨_, Tr5, Lr5, Xr5, hQr5, str5⟩ := ocallS Xr4 hx hZ zm1 hown (ww hw 11 rfl) (ww hw 12 rfl) (by decide) (ww hw 13 rfl) (ww hw 2 rfl) er4 (mg2_9 l Z a0 hw [] ((i0.toUInt32 >>> ((4 : Int32) &&& 31).toUInt32).toInt32) w1 w2 w4 hr4 n0 Z_3 f16 f17 f18) (st := [(.int ((i0.toUInt32 >>> ((4 : Int32) &&& 31).toUInt32).toInt32)), .null, (.ref b1), (.ref u1), (.ref br4), (.ref br4)]) rfl 5 rfl (by decide) (pc := 135) (Ls := (lc124 i0 i1 i2 i3 i4 i5 1 0 1 0 b1 b2 u1)) hml rfl (lenOf pd_1 rfl) at_135 hby
          obtain ⟨rfl, Nr5q, er5⟩ := hQr5
          refine own_go (U' := Tr5.setTop (mkF m 138 (lc124 i0 i1 i2 i3 i4 i5 1 0 1 0 b1 b2 u1) [(.ref (own_anch (((i0.toUInt32 >>> ((4 : Int32) &&& 31).toUInt32).toInt32) &&& (3 : Int32)) w1 w2 w4)), .null, (.ref b1), (.ref u1), (.ref br4), (.ref br4)])) (fun t k => oastore Xr3 hx hby at_120 (lc124 i0 i1 i2 i3 i4 i5 1 0 1 0 b1 b2 u1) rfl rfl (str4 _ (odup Xr4 hx hby at_125 rfl (oaload Xr4 hx hby at_126 rfl rfl (oaload Xr4 hx hby at_128 rfl rfl (oaload Xr4 hx hby at_130 rfl rfl (oiloadN Xr4 hx hby at_132 rfl (oiconst Xr4 hx hby at_133 (oiushr Xr4 hx hby at_134 (str5 _ k)))))))))) ?_
          obtain ⟨u2, hu2⟩ : ∃ z, z = (own_anch (((i0.toUInt32 >>> ((4 : Int32) &&& 31).toUInt32).toInt32) &&& (3 : Int32)) w1 w2 w4) := ⟨_, rfl⟩
          rw [← hu2]
          have N4 := Fr.app N3 Nr5q
          have g1 : n0 ≤ br4 := Nat.le_trans Z_2 (Nat.le_of_eq gr4.symm)
          obtain ⟨_, Tr6, Lr6, Xr6, hQr6, str6⟩ := ocallI Xr5 hx hZ zm3 rfl hown (ww hw 17 rfl) (ww hw 18 rfl) (by decide) (ww hw 19 rfl) (ww hw 10 rfl) er5 (rm3_26 l Z a0 hw [] br4 u1 b1 u2 hr4 n0 Z_3 f12 f13 f14 f15 Ar4 g1) (st := [(.ref u2), .null, (.ref b1), (.ref u1), (.ref br4), (.ref br4)]) rfl 1 rfl (by decide) (pc := 138) (Ls := (lc124 i0 i1 i2 i3 i4 i5 1 0 1 0 b1 b2 u1)) hml rfl (lenOf pd_3 rfl) at_138 hby
          obtain ⟨rfl, Nr6q, Kr6, f19, f20, f21, f22⟩ := hQr6
          have N5 := Fr.app N4 Nr6q
          obtain ⟨Tr7, hr7, Xr7, er7, Er7, Ar7, Dr7, -, str7⟩ := newO Xr6 hx hZ hown (ww hw 8 rfl) (ww hw 9 rfl) (ww hw 10 rfl) rfl (g := (mkF m 143 (lc125 i0 i1 i2 i3 i4 i5 1 0 1 0 b1 b2 u1 br4) [])) rfl (hb hby at_143) (by decide) (by decide)
          obtain ⟨br7, gr7⟩ : ∃ z, z = Tr6.heap.size := ⟨_, rfl⟩
          rw [← gr7] at Ar7 Dr7 str7
          have f23 : Fld Z hr7 br7 zs8 "unit" zs1 .null := Dr7 (Or.inr (ww hw 29 rfl)) (ty := (.object zs0)) (by decide)
          have f24 : Fld Z hr7 br7 zs8 "first" zs9 .null := Dr7 (Or.inr (ww hw 31 rfl)) (ty := (.object zs11)) (by decide)
          have f25 : Fld Z hr7 br7 zs8 "last" zs9 .null := Dr7 (Or.inr (ww hw 33 rfl)) (ty := (.object zs11)) (by decide)
          have f26 : Fld Z hr7 br7 zs8 "anchor" zs5 .null := Dr7 (Or.inr (ww hw 35 rfl)) (ty := (.object zs4)) (by decide)
          have f27 : Sta Z hr7 zs4 "FIRST" zs5 (.ref w1) := (Sta.ext Er7 (own_staK f16 Kr6 (allS (own_nsE Ar4) all0)))
          have f28 : Sta Z hr7 zs4 "MIDDLE" zs5 (.ref w2) := (Sta.ext Er7 (own_staK f17 Kr6 (allS (own_nsE Ar4) all0)))
          have f29 : Sta Z hr7 zs4 "LAST" zs5 (.ref w4) := (Sta.ext Er7 (own_staK f18 Kr6 (allS (own_nsE Ar4) all0)))
          have Z_4 : n0 ≤ Tr6.heap.size := Nat.le_trans Z_3 Kr6.1
          have Z_5 : n0 ≤ hr7.size := Nat.le_trans Z_4 Er7.1
          obtain ⟨_, Tr8, Lr8, Xr8, hQr8, str8⟩ := ocallS Xr7 hx hZ zm1 hown (ww hw 11 rfl) (ww hw 12 rfl) (by decide) (ww hw 13 rfl) (ww hw 2 rfl) er7 (mg2_9 l Z a0 hw [] ((i0.toUInt32 >>> ((6 : Int32) &&& 31).toUInt32).toInt32) w1 w2 w4 hr7 n0 Z_5 f27 f28 f29) (st := [(.int ((i0.toUInt32 >>> ((6 : Int32) &&& 31).toUInt32).toInt32)), .null, (.ref b2), (.ref u1), (.ref br7), (.ref br7)]) rfl 5 rfl (by decide) (pc := 157) (Ls := (lc125 i0 i1 i2 i3 i4 i5 1 0 1 0 b1 b2 u1 br4)) hml rfl (lenOf pd_1 rfl) at_157 hby
          obtain ⟨rfl, Nr8q, er8⟩ := hQr8
          refine own_go (U' := Tr8.setTop (mkF m 160 (lc125 i0 i1 i2 i3 i4 i5 1 0 1 0 b1 b2 u1 br4) [(.ref (own_anch (((i0.toUInt32 >>> ((6 : Int32) &&& 31).toUInt32).toInt32) &&& (3 : Int32)) w1 w2 w4)), .null, (.ref b2), (.ref u1), (.ref br7), (.ref br7)])) (fun t k => str6 _ (oastore Xr6 hx hby at_141 (lc125 i0 i1 i2 i3 i4 i5 1 0 1 0 b1 b2 u1 br4) rfl rfl (str7 _ (odup Xr7 hx hby at_146 rfl (oaload Xr7 hx hby at_147 rfl rfl (oaload Xr7 hx hby at_149 rfl rfl (oaload Xr7 hx hby at_151 rfl rfl (oiloadN Xr7 hx hby at_153 rfl (obipush Xr7 hx hby at_154 (oiushr Xr7 hx hby at_156 (str8 _ k))))))))))) ?_
          obtain ⟨u3, hu3⟩ : ∃ z, z = (own_anch (((i0.toUInt32 >>> ((6 : Int32) &&& 31).toUInt32).toInt32) &&& (3 : Int32)) w1 w2 w4) := ⟨_, rfl⟩
          rw [← hu3]
          have N6 := Fr.app N5 Nr8q
          have g2 : n0 ≤ br7 := Nat.le_trans Z_4 (Nat.le_of_eq gr7.symm)
          obtain ⟨_, Tr9, Lr9, Xr9, hQr9, str9⟩ := ocallI Xr8 hx hZ zm3 rfl hown (ww hw 17 rfl) (ww hw 18 rfl) (by decide) (ww hw 19 rfl) (ww hw 10 rfl) er8 (rm3_26 l Z a0 hw [] br7 u1 b2 u3 hr7 n0 Z_5 f23 f24 f25 f26 Ar7 g2) (st := [(.ref u3), .null, (.ref b2), (.ref u1), (.ref br7), (.ref br7)]) rfl 1 rfl (by decide) (pc := 160) (Ls := (lc125 i0 i1 i2 i3 i4 i5 1 0 1 0 b1 b2 u1 br4)) hml rfl (lenOf pd_3 rfl) at_160 hby
          obtain ⟨rfl, Nr9q, Kr9, f30, f31, f32, f33⟩ := hQr9
          have N7 := Fr.app N6 Nr9q
          have f34 : Exa Z Tr9.heap br4 zs8 := ((Exa.ext Er7 (Ar4.keep Kr6)).keep Kr9)
          have ne1 : br4 ≠ br7 := Nat.ne_of_lt (Nat.lt_of_lt_of_le (f19.lt) (Nat.le_of_eq gr7.symm))
          have f35 : Fld Z Tr9.heap br4 zs8 "first" zs9 (.ref b1) := ((Fld.ext Er7 f20).keep Kr9 (ninS ne1 nin0))
          have f36 : Fld Z Tr9.heap br4 zs8 "last" zs9 .null := ((Fld.ext Er7 f21).keep Kr9 (ninS ne1 nin0))
          have Z_6 : n0 ≤ Tr9.heap.size := Nat.le_trans Z_5 Kr9.1
          obtain ⟨_, Tr10, Lr10, Xr10, hQr10, str10⟩ := ocallV Xr9 hx hZ zm4 zm4 hown (ww hw 36 rfl) (ww hw 37 rfl) (notFace_of_selects (args := #[]) (mvT hZ (ww hw 39 rfl))) (ww hw 39 rfl) (ww hw 38 rfl) (by decide) (ww hw 40 rfl) (ww hw 10 rfl) rfl f34 (rm6_27 l Z a0 hw [] br4 b1 Tr9.heap n0 Z_6 f35 f36) (st := [(.ref br4)]) rfl 0 rfl (by decide) (pc := 167) (Ls := (lc126 i0 i1 i2 i3 i4 i5 1 0 1 0 b1 b2 u1 br4 br7)) hml rfl (lenOf pd_4 rfl) at_167 hby
          obtain ⟨rfl, Nr10q, er10⟩ := hQr10
          have N8 := Fr.app N7 Nr10q
          refine own_go (U' := Tr10.setTop (mkF m 172 (lc126 i0 i1 i2 i3 i4 i5 1 0 1 0 b1 b2 u1 br4 br7) [(.int 1), (.int 0)])) (fun t k => str9 _ (oastore Xr9 hx hby at_163 (lc126 i0 i1 i2 i3 i4 i5 1 0 1 0 b1 b2 u1 br4 br7) rfl rfl (oaload Xr9 hx hby at_165 rfl rfl (str10 _ (oiload Xr10 hx hby at_170 rfl k))))) ?_
          refine own_go (U' := Tr10.setTop (mkF m 177 (lc126 i0 i1 i2 i3 i4 i5 1 0 1 0 b1 b2 u1 br4 br7) [(.int 0), (.int 0)])) (fun t k => oifN Xr10 hx hby at_172 (by decide) (oiload Xr10 hx hby at_175 rfl k)) ?_
          refine own_go (U' := Tr10.setTop (mkF m 185 (lc126 i0 i1 i2 i3 i4 i5 1 0 1 0 b1 b2 u1 br4 br7) [(.int 0), (.int 0)])) (fun t k => oifY (pc := 177) Xr10 hx hby at_177 184 (by decide) (by decide) (oiconst Xr10 hx hby at_184 k)) ?_
          have f37 : Exa Z Tr9.heap br7 zs8 := (Ar7.keep Kr9)
          obtain ⟨_, Tr11, Lr11, Xr11, hQr11, str11⟩ := ocallV Xr10 hx hZ zm4 zm4 hown (ww hw 36 rfl) (ww hw 37 rfl) (notFace_of_selects (args := #[]) (mvT hZ (ww hw 39 rfl))) (ww hw 39 rfl) (ww hw 38 rfl) (by decide) (ww hw 40 rfl) (ww hw 10 rfl) er10 f37 (rm6_27 l Z a0 hw [] br7 b2 Tr9.heap n0 Z_6 f31 f32) (st := [(.ref br7)]) rfl 0 rfl (by decide) (pc := 197) (Ls := (lc127 i0 i1 i2 i3 i4 i5 1 0 1 0 b1 b2 u1 br4 br7 1)) hml rfl (lenOf pd_4 rfl) at_197 hby
          obtain ⟨rfl, Nr11q, er11⟩ := hQr11
          have N9 := Fr.app N8 Nr11q
          refine own_go (U' := Tr11.setTop (mkF m 202 (lc127 i0 i1 i2 i3 i4 i5 1 0 1 0 b1 b2 u1 br4 br7 1) [(.int 1), (.int 0)])) (fun t k => oicN Xr10 hx hby at_185 (by decide) (oiconst Xr10 hx hby at_188 (ogoto (pc := 189) Xr10 hx hby at_189 193 (by decide) (oistore Xr10 hx hby at_193 (lc127 i0 i1 i2 i3 i4 i5 1 0 1 0 b1 b2 u1 br4 br7 1) rfl (oaload Xr10 hx hby at_195 rfl rfl (str11 _ (oiload Xr11 hx hby at_200 rfl k))))))) ?_
          refine own_go (U' := Tr11.setTop (mkF m 207 (lc127 i0 i1 i2 i3 i4 i5 1 0 1 0 b1 b2 u1 br4 br7 1) [(.int 0), (.int 0)])) (fun t k => oifN Xr11 hx hby at_202 (by decide) (oiload Xr11 hx hby at_205 rfl k)) ?_
          refine own_go (U' := Tr11.setTop (mkF m 215 (lc127 i0 i1 i2 i3 i4 i5 1 0 1 0 b1 b2 u1 br4 br7 1) [(.int 0), (.int 0)])) (fun t k => oifY (pc := 207) Xr11 hx hby at_207 214 (by decide) (by decide) (oiconst Xr11 hx hby at_214 k)) ?_
          have f38 : Exa Z Tr9.heap b2 zs11 := ((Exa.ext Er7 ((Exa.ext Er4 f5).keep Kr6)).keep Kr9)
          have ne2 : b2 ≠ br4 := Nat.ne_of_lt (Nat.lt_of_lt_of_le (f6.lt) (Nat.le_of_eq gr4.symm))
          have ne3 : b2 ≠ br7 := Nat.ne_of_lt (Nat.lt_of_lt_of_le (Nat.lt_of_lt_of_le (Nat.lt_of_lt_of_le (f6.lt) Er4.1) Kr6.1) (Nat.le_of_eq gr7.symm))
          have f39 : Fld Z Tr9.heap b2 zs11 "value" "J" (.long i4) := ((Fld.ext Er7 ((Fld.ext Er4 f6).keep Kr6 (ninS ne2 nin0))).keep Kr9 (ninS ne3 nin0))
          have f40 : Exa Z Tr9.heap b1 zs11 := ((Exa.ext Er7 ((Exa.ext Er4 (f1.keep Kr2)).keep Kr6)).keep Kr9)
          have ne4 : b1 ≠ br4 := Nat.ne_of_lt (Nat.lt_of_lt_of_le (Nat.lt_of_lt_of_le (f2.lt) Kr2.1) (Nat.le_of_eq gr4.symm))
          have ne5 : b1 ≠ br7 := Nat.ne_of_lt (Nat.lt_of_lt_of_le (Nat.lt_of_lt_of_le (Nat.lt_of_lt_of_le (Nat.lt_of_lt_of_le (f2.lt) Kr2.1) Er4.1) Kr6.1) (Nat.le_of_eq gr7.symm))
          have f41 : Fld Z Tr9.heap b1 zs11 "value" "J" (.long i2) := ((Fld.ext Er7 ((Fld.ext Er4 (f2.keep Kr2 nin0)).keep Kr6 (ninS ne4 nin0))).keep Kr9 (ninS ne5 nin0))
          have f42 : Fld Z Tr9.heap br4 zs8 "unit" zs1 (.ref u1) := ((Fld.ext Er7 f19).keep Kr9 (ninS ne1 nin0))
          have f43 : Sta Z Tr9.heap zs4 "MIDDLE" zs5 (.ref w2) := (own_staK f28 Kr9 (allS (own_nsF f23) all0))
          by_cases hk15 : i2 < i4
          · have hc10 : i2 < i4 := hk15
            obtain ⟨_, Tr12, Lr12, Xr12, hQr12, str12⟩ := ocallV Xr11 hx hZ zm6 zm6 hown (ww hw 41 rfl) (ww hw 42 rfl) (notFace_of_selects (args := #[]) (mvT hZ (ww hw 44 rfl))) (ww hw 44 rfl) (ww hw 43 rfl) (by decide) (ww hw 45 rfl) (ww hw 10 rfl) er11 f34 (rm7_45 l Z a0 hw [] br4 br7 b1 b2 i4 i2 u1 w2 Tr9.heap n0 Z_6 f35 f31 f38 f39 f40 f41 hc10 f36 f32 f42 f43) (st := [(.ref br7), (.ref br4)]) rfl 0 rfl (by decide) (pc := 229) (Ls := (lc128 i0 i1 i2 i3 i4 i5 1 0 1 0 b1 b2 u1 br4 br7 1 1)) hml rfl (lenOf pd_6 rfl) at_229 hby
            obtain ⟨b3, rfl, Nr12q, Kr12, sz1, f44, f45, f46, f47, f48⟩ := hQr12
            have N10 := Fr.app N9 Nr12q
            have Z_7 : n0 ≤ Tr12.heap.size := Nat.le_trans Z_6 Kr12.1
            obtain ⟨_, Tr13, Lr13, Xr13, hQr13, str13⟩ := ocallV Xr12 hx hZ zm4 zm4 hown (ww hw 36 rfl) (ww hw 37 rfl) (notFace_of_selects (args := #[]) (mvT hZ (ww hw 39 rfl))) (ww hw 39 rfl) (ww hw 38 rfl) (by decide) (ww hw 40 rfl) (ww hw 10 rfl) rfl f44 (rm6_27 l Z a0 hw [] b3 b2 Tr12.heap n0 Z_7 f46 f47) (st := [(.ref b3)]) rfl 0 rfl (by decide) (pc := 232) (Ls := (lc128 i0 i1 i2 i3 i4 i5 1 0 1 0 b1 b2 u1 br4 br7 1 1)) hml rfl (lenOf pd_4 rfl) at_232 hby
            obtain ⟨rfl, Nr13q, er13⟩ := hQr13
            have N11 := Fr.app N10 Nr13q
            refine own_go (U' := Tr13.setTop (mkF m 237 (lc128 i0 i1 i2 i3 i4 i5 1 0 1 0 b1 b2 u1 br4 br7 1 1) [(.int 1), (.int 0)])) (fun t k => oicN Xr11 hx hby at_215 (by decide) (oiconst Xr11 hx hby at_218 (ogoto (pc := 219) Xr11 hx hby at_219 223 (by decide) (oistore Xr11 hx hby at_223 (lc128 i0 i1 i2 i3 i4 i5 1 0 1 0 b1 b2 u1 br4 br7 1 1) rfl (oaload Xr11 hx hby at_225 rfl rfl (oaload Xr11 hx hby at_227 rfl rfl (str12 _ (str13 _ (oiload Xr13 hx hby at_235 rfl k))))))))) ?_
            refine own_go (U' := Tr13.setTop (mkF m 247 (lc128 i0 i1 i2 i3 i4 i5 1 0 1 0 b1 b2 u1 br4 br7 1 1) [(.int 0), (.int 0)])) (fun t k => oifY (pc := 237) Xr13 hx hby at_237 245 (by decide) (by decide) (oiload Xr13 hx hby at_245 rfl k)) ?_
            refine own_go (U' := Tr13.setTop (mkF m 252 (lc128 i0 i1 i2 i3 i4 i5 1 0 1 0 b1 b2 u1 br4 br7 1 1) [(.int 0), (.int 0)])) (fun t k => oifN Xr13 hx hby at_247 (by decide) (oiload Xr13 hx hby at_250 rfl k)) ?_
            refine own_go (U' := Tr13.setTop (mkF m 260 (lc128 i0 i1 i2 i3 i4 i5 1 0 1 0 b1 b2 u1 br4 br7 1 1) [(.int 0), (.int 0)])) (fun t k => oifY (pc := 252) Xr13 hx hby at_252 259 (by decide) (by decide) (oiconst Xr13 hx hby at_259 k)) ?_
            have f49 : Exa Z Tr12.heap br4 zs8 := (f34.keep Kr12)
            have f50 : Fld Z Tr12.heap br4 zs8 "unit" zs1 (.ref u1) := (f42.keep Kr12 nin0)
            have f51 : Fld Z Tr12.heap br4 zs8 "first" zs9 (.ref b1) := (f35.keep Kr12 nin0)
            have f52 : Sta Z Tr12.heap zs4 "MIDDLE" zs5 (.ref w2) := (own_staK f43 Kr12 all0)
            obtain ⟨_, Tr14, Lr14, Xr14, hQr14, str14⟩ := ocallV Xr13 hx hZ zm7 zm7 hown (ww hw 53 rfl) (ww hw 54 rfl) (notFace_of_selects (args := #[]) (mvT hZ (ww hw 56 rfl))) (ww hw 56 rfl) (ww hw 55 rfl) (by decide) (ww hw 57 rfl) (ww hw 10 rfl) er13 f49 (rm9_43 l Z a0 hw [] br4 u1 b1 w2 Tr12.heap n0 Z_7 f50 f51 f52) (st := [(.ref br4)]) rfl 0 rfl (by decide) (pc := 272) (Ls := (lc129 i0 i1 i2 i3 i4 i5 1 0 1 0 b1 b2 u1 br4 br7 1 1 1)) hml rfl (lenOf pd_7 rfl) at_272 hby
            obtain ⟨b4, rfl, Nr14q, Kr14, sz2, f53, f54, f55, f56, f57⟩ := hQr14
            have N12 := Fr.app N11 Nr14q
            have Z_8 : n0 ≤ Tr14.heap.size := Nat.le_trans Z_7 Kr14.1
            obtain ⟨_, Tr15, Lr15, Xr15, hQr15, str15⟩ := ocallV Xr14 hx hZ zm4 zm4 hown (ww hw 36 rfl) (ww hw 37 rfl) (notFace_of_selects (args := #[]) (mvT hZ (ww hw 39 rfl))) (ww hw 39 rfl) (ww hw 38 rfl) (by decide) (ww hw 40 rfl) (ww hw 10 rfl) rfl f53 (rm6_27 l Z a0 hw [] b4 b1 Tr14.heap n0 Z_8 f55 f56) (st := [(.ref b4)]) rfl 0 rfl (by decide) (pc := 275) (Ls := (lc129 i0 i1 i2 i3 i4 i5 1 0 1 0 b1 b2 u1 br4 br7 1 1 1)) hml rfl (lenOf pd_4 rfl) at_275 hby
            obtain ⟨rfl, Nr15q, er15⟩ := hQr15
            have N13 := Fr.app N12 Nr15q
            refine own_go (U' := Tr15.setTop (mkF m 278 (lc129 i0 i1 i2 i3 i4 i5 1 0 1 0 b1 b2 u1 br4 br7 1 1 1) [(.int 0)])) (fun t k => oicN Xr13 hx hby at_260 (by decide) (oiconst Xr13 hx hby at_263 (ogoto (pc := 264) Xr13 hx hby at_264 268 (by decide) (oistore Xr13 hx hby at_268 (lc129 i0 i1 i2 i3 i4 i5 1 0 1 0 b1 b2 u1 br4 br7 1 1 1) rfl (oaload Xr13 hx hby at_270 rfl rfl (str14 _ (str15 _ k))))))) ?_
            have f58 : Exa Z Tr14.heap br4 zs8 := (f49.keep Kr14)
            have f59 : Fld Z Tr14.heap br4 zs8 "unit" zs1 (.ref u1) := (f50.keep Kr14 nin0)
            have f60 : Fld Z Tr14.heap br4 zs8 "last" zs9 .null := ((f36.keep Kr12 nin0).keep Kr14 nin0)
            have f61 : Sta Z Tr14.heap zs4 "MIDDLE" zs5 (.ref w2) := (own_staK f52 Kr14 all0)
            obtain ⟨_, Tr16, Lr16, Xr16, hQr16, str16⟩ := ocallV Xr15 hx hZ zm8 zm8 hown (ww hw 58 rfl) (ww hw 59 rfl) (notFace_of_selects (args := #[]) (mvT hZ (ww hw 61 rfl))) (ww hw 61 rfl) (ww hw 60 rfl) (by decide) (ww hw 62 rfl) (ww hw 10 rfl) er15 f58 (rm10_16 l Z a0 hw [] br4 u1 w2 Tr14.heap n0 Z_8 f59 f60 f61) (st := [(.ref br4)]) rfl 0 rfl (by decide) (pc := 290) (Ls := (lc130 i0 i1 i2 i3 i4 i5 1 0 1 0 b1 b2 u1 br4 br7 1 1 1 1)) hml rfl (lenOf pd_7 rfl) at_290 hby
            obtain ⟨b5, rfl, Nr16q, Kr16, sz3, f62, f63, f64, f65, f66⟩ := hQr16
            have N14 := Fr.app N13 Nr16q
            have Z_9 : n0 ≤ Tr16.heap.size := Nat.le_trans Z_8 Kr16.1
            obtain ⟨_, Tr17, Lr17, Xr17, hQr17, str17⟩ := ocallV Xr16 hx hZ zm4 zm4 hown (ww hw 36 rfl) (ww hw 37 rfl) (notFace_of_selects (args := #[]) (mvT hZ (ww hw 39 rfl))) (ww hw 39 rfl) (ww hw 38 rfl) (by decide) (ww hw 40 rfl) (ww hw 10 rfl) rfl f62 (rm6_12 l Z a0 hw [] b5 Tr16.heap n0 Z_9 f64) (st := [(.ref b5)]) rfl 0 rfl (by decide) (pc := 293) (Ls := (lc130 i0 i1 i2 i3 i4 i5 1 0 1 0 b1 b2 u1 br4 br7 1 1 1 1)) hml rfl (lenOf pd_4 rfl) at_293 hby
            obtain ⟨rfl, Nr17q, er17⟩ := hQr17
            have N15 := Fr.app N14 Nr17q
            refine own_go (U' := Tr17.setTop (mkF m 296 (lc130 i0 i1 i2 i3 i4 i5 1 0 1 0 b1 b2 u1 br4 br7 1 1 1 1) [(.int 0)])) (fun t k => oifN Xr15 hx hby at_278 (by decide) (oiconst Xr15 hx hby at_281 (ogoto (pc := 282) Xr15 hx hby at_282 286 (by decide) (oistore Xr15 hx hby at_286 (lc130 i0 i1 i2 i3 i4 i5 1 0 1 0 b1 b2 u1 br4 br7 1 1 1 1) rfl (oaload Xr15 hx hby at_288 rfl rfl (str16 _ (str17 _ k))))))) ?_
            refine own_go (U' := Tr17.setTop (mkF m 308 (lc131 i0 i1 i2 i3 i4 i5 1 0 1 0 b1 b2 u1 br4 br7 1 1 1 1 1) [(.int 1)])) (fun t k => oifN Xr17 hx hby at_296 (by decide) (oiconst Xr17 hx hby at_299 (ogoto (pc := 300) Xr17 hx hby at_300 304 (by decide) (oistore Xr17 hx hby at_304 (lc131 i0 i1 i2 i3 i4 i5 1 0 1 0 b1 b2 u1 br4 br7 1 1 1 1 1) rfl (oiload Xr17 hx hby at_306 rfl k))))) ?_
            refine own_go (U' := Tr17.setTop (mkF m 313 (lc131 i0 i1 i2 i3 i4 i5 1 0 1 0 b1 b2 u1 br4 br7 1 1 1 1 1) [(.int 1)])) (fun t k => oifN Xr17 hx hby at_308 (by decide) (oiload Xr17 hx hby at_311 rfl k)) ?_
            refine own_go (U' := Tr17.setTop (mkF m 318 (lc131 i0 i1 i2 i3 i4 i5 1 0 1 0 b1 b2 u1 br4 br7 1 1 1 1 1) [(.int 1)])) (fun t k => oifN Xr17 hx hby at_313 (by decide) (oiload Xr17 hx hby at_316 rfl k)) ?_
            refine own_go (U' := Tr17.setTop (mkF m 323 (lc131 i0 i1 i2 i3 i4 i5 1 0 1 0 b1 b2 u1 br4 br7 1 1 1 1 1) [(.int 1)])) (fun t k => oifN Xr17 hx hby at_318 (by decide) (oiload Xr17 hx hby at_321 rfl k)) ?_
            refine own_go (U' := Tr17.setTop (mkF m 328 (lc131 i0 i1 i2 i3 i4 i5 1 0 1 0 b1 b2 u1 br4 br7 1 1 1 1 1) [(.int 1)])) (fun t k => oifN Xr17 hx hby at_323 (by decide) (oiload Xr17 hx hby at_326 rfl k)) ?_
            refine own_go (U' := Tr17.setTop (mkF m 336 (lc131 i0 i1 i2 i3 i4 i5 1 0 1 0 b1 b2 u1 br4 br7 1 1 1 1 1) [(.int 1)])) (fun t k => oifN Xr17 hx hby at_328 (by decide) (oiconst Xr17 hx hby at_331 (ogoto (pc := 332) Xr17 hx hby at_332 336 (by decide) k))) ?_
            obtain ⟨fs, hr, hrun, hended, hW, hsame⟩ := Xr17.leave (v := some (.int 1)) (fun h => by rw [Bd.returns] at h; cases h)
            refine own_out ⟨_, _, ?_, hrun, hended, _, _, rfl, ?_, ⟨_, rfl⟩, hW, hsame.mono (by decide) (by decide)⟩
            · exact retN Xr17 hx (t := .boolean) Bd.returns (by simp) (hb hby at_336) hr
            · exact ⟨rfl, N15⟩
          · have hc11 : ¬ (i2 < i4) := hk15
            obtain ⟨_, Tr12, Lr12, Xr12, hQr12, str12⟩ := ocallV Xr11 hx hZ zm6 zm6 hown (ww hw 41 rfl) (ww hw 42 rfl) (notFace_of_selects (args := #[]) (mvT hZ (ww hw 44 rfl))) (ww hw 44 rfl) (ww hw 43 rfl) (by decide) (ww hw 45 rfl) (ww hw 10 rfl) er11 f34 (rm7_46 l Z a0 hw [] br4 br7 b1 b2 i4 i2 u1 w2 Tr9.heap n0 Z_6 f35 f31 f38 f39 f40 f41 hc11 f36 f32 f42 f43) (st := [(.ref br7), (.ref br4)]) rfl 0 rfl (by decide) (pc := 229) (Ls := (lc128 i0 i1 i2 i3 i4 i5 1 0 1 0 b1 b2 u1 br4 br7 1 1)) hml rfl (lenOf pd_6 rfl) at_229 hby
            obtain ⟨b3, rfl, Nr12q, Kr12, sz1, f44, f45, f46, f47, f48⟩ := hQr12
            have N10 := Fr.app N9 Nr12q
            have Z_7 : n0 ≤ Tr12.heap.size := Nat.le_trans Z_6 Kr12.1
            obtain ⟨_, Tr13, Lr13, Xr13, hQr13, str13⟩ := ocallV Xr12 hx hZ zm4 zm4 hown (ww hw 36 rfl) (ww hw 37 rfl) (notFace_of_selects (args := #[]) (mvT hZ (ww hw 39 rfl))) (ww hw 39 rfl) (ww hw 38 rfl) (by decide) (ww hw 40 rfl) (ww hw 10 rfl) rfl f44 (rm6_27 l Z a0 hw [] b3 b1 Tr12.heap n0 Z_7 f46 f47) (st := [(.ref b3)]) rfl 0 rfl (by decide) (pc := 232) (Ls := (lc128 i0 i1 i2 i3 i4 i5 1 0 1 0 b1 b2 u1 br4 br7 1 1)) hml rfl (lenOf pd_4 rfl) at_232 hby
            obtain ⟨rfl, Nr13q, er13⟩ := hQr13
            have N11 := Fr.app N10 Nr13q
            refine own_go (U' := Tr13.setTop (mkF m 237 (lc128 i0 i1 i2 i3 i4 i5 1 0 1 0 b1 b2 u1 br4 br7 1 1) [(.int 1), (.int 0)])) (fun t k => oicN Xr11 hx hby at_215 (by decide) (oiconst Xr11 hx hby at_218 (ogoto (pc := 219) Xr11 hx hby at_219 223 (by decide) (oistore Xr11 hx hby at_223 (lc128 i0 i1 i2 i3 i4 i5 1 0 1 0 b1 b2 u1 br4 br7 1 1) rfl (oaload Xr11 hx hby at_225 rfl rfl (oaload Xr11 hx hby at_227 rfl rfl (str12 _ (str13 _ (oiload Xr13 hx hby at_235 rfl k))))))))) ?_
            refine own_go (U' := Tr13.setTop (mkF m 247 (lc128 i0 i1 i2 i3 i4 i5 1 0 1 0 b1 b2 u1 br4 br7 1 1) [(.int 0), (.int 0)])) (fun t k => oifY (pc := 237) Xr13 hx hby at_237 245 (by decide) (by decide) (oiload Xr13 hx hby at_245 rfl k)) ?_
            refine own_go (U' := Tr13.setTop (mkF m 252 (lc128 i0 i1 i2 i3 i4 i5 1 0 1 0 b1 b2 u1 br4 br7 1 1) [(.int 0), (.int 0)])) (fun t k => oifN Xr13 hx hby at_247 (by decide) (oiload Xr13 hx hby at_250 rfl k)) ?_
            refine own_go (U' := Tr13.setTop (mkF m 260 (lc128 i0 i1 i2 i3 i4 i5 1 0 1 0 b1 b2 u1 br4 br7 1 1) [(.int 0), (.int 0)])) (fun t k => oifY (pc := 252) Xr13 hx hby at_252 259 (by decide) (by decide) (oiconst Xr13 hx hby at_259 k)) ?_
            have f49 : Exa Z Tr12.heap br4 zs8 := (f34.keep Kr12)
            have f50 : Fld Z Tr12.heap br4 zs8 "unit" zs1 (.ref u1) := (f42.keep Kr12 nin0)
            have f51 : Fld Z Tr12.heap br4 zs8 "first" zs9 (.ref b1) := (f35.keep Kr12 nin0)
            have f52 : Sta Z Tr12.heap zs4 "MIDDLE" zs5 (.ref w2) := (own_staK f43 Kr12 all0)
            obtain ⟨_, Tr14, Lr14, Xr14, hQr14, str14⟩ := ocallV Xr13 hx hZ zm7 zm7 hown (ww hw 53 rfl) (ww hw 54 rfl) (notFace_of_selects (args := #[]) (mvT hZ (ww hw 56 rfl))) (ww hw 56 rfl) (ww hw 55 rfl) (by decide) (ww hw 57 rfl) (ww hw 10 rfl) er13 f49 (rm9_43 l Z a0 hw [] br4 u1 b1 w2 Tr12.heap n0 Z_7 f50 f51 f52) (st := [(.ref br4)]) rfl 0 rfl (by decide) (pc := 272) (Ls := (lc129 i0 i1 i2 i3 i4 i5 1 0 1 0 b1 b2 u1 br4 br7 1 1 1)) hml rfl (lenOf pd_7 rfl) at_272 hby
            obtain ⟨b4, rfl, Nr14q, Kr14, sz2, f53, f54, f55, f56, f57⟩ := hQr14
            have N12 := Fr.app N11 Nr14q
            have Z_8 : n0 ≤ Tr14.heap.size := Nat.le_trans Z_7 Kr14.1
            obtain ⟨_, Tr15, Lr15, Xr15, hQr15, str15⟩ := ocallV Xr14 hx hZ zm4 zm4 hown (ww hw 36 rfl) (ww hw 37 rfl) (notFace_of_selects (args := #[]) (mvT hZ (ww hw 39 rfl))) (ww hw 39 rfl) (ww hw 38 rfl) (by decide) (ww hw 40 rfl) (ww hw 10 rfl) rfl f53 (rm6_27 l Z a0 hw [] b4 b1 Tr14.heap n0 Z_8 f55 f56) (st := [(.ref b4)]) rfl 0 rfl (by decide) (pc := 275) (Ls := (lc129 i0 i1 i2 i3 i4 i5 1 0 1 0 b1 b2 u1 br4 br7 1 1 1)) hml rfl (lenOf pd_4 rfl) at_275 hby
            obtain ⟨rfl, Nr15q, er15⟩ := hQr15
            have N13 := Fr.app N12 Nr15q
            refine own_go (U' := Tr15.setTop (mkF m 278 (lc129 i0 i1 i2 i3 i4 i5 1 0 1 0 b1 b2 u1 br4 br7 1 1 1) [(.int 0)])) (fun t k => oicN Xr13 hx hby at_260 (by decide) (oiconst Xr13 hx hby at_263 (ogoto (pc := 264) Xr13 hx hby at_264 268 (by decide) (oistore Xr13 hx hby at_268 (lc129 i0 i1 i2 i3 i4 i5 1 0 1 0 b1 b2 u1 br4 br7 1 1 1) rfl (oaload Xr13 hx hby at_270 rfl rfl (str14 _ (str15 _ k))))))) ?_
            have f58 : Exa Z Tr14.heap br4 zs8 := (f49.keep Kr14)
            have f59 : Fld Z Tr14.heap br4 zs8 "unit" zs1 (.ref u1) := (f50.keep Kr14 nin0)
            have f60 : Fld Z Tr14.heap br4 zs8 "last" zs9 .null := ((f36.keep Kr12 nin0).keep Kr14 nin0)
            have f61 : Sta Z Tr14.heap zs4 "MIDDLE" zs5 (.ref w2) := (own_staK f52 Kr14 all0)
            obtain ⟨_, Tr16, Lr16, Xr16, hQr16, str16⟩ := ocallV Xr15 hx hZ zm8 zm8 hown (ww hw 58 rfl) (ww hw 59 rfl) (notFace_of_selects (args := #[]) (mvT hZ (ww hw 61 rfl))) (ww hw 61 rfl) (ww hw 60 rfl) (by decide) (ww hw 62 rfl) (ww hw 10 rfl) er15 f58 (rm10_16 l Z a0 hw [] br4 u1 w2 Tr14.heap n0 Z_8 f59 f60 f61) (st := [(.ref br4)]) rfl 0 rfl (by decide) (pc := 290) (Ls := (lc130 i0 i1 i2 i3 i4 i5 1 0 1 0 b1 b2 u1 br4 br7 1 1 1 1)) hml rfl (lenOf pd_7 rfl) at_290 hby
            obtain ⟨b5, rfl, Nr16q, Kr16, sz3, f62, f63, f64, f65, f66⟩ := hQr16
            have N14 := Fr.app N13 Nr16q
            have Z_9 : n0 ≤ Tr16.heap.size := Nat.le_trans Z_8 Kr16.1
            obtain ⟨_, Tr17, Lr17, Xr17, hQr17, str17⟩ := ocallV Xr16 hx hZ zm4 zm4 hown (ww hw 36 rfl) (ww hw 37 rfl) (notFace_of_selects (args := #[]) (mvT hZ (ww hw 39 rfl))) (ww hw 39 rfl) (ww hw 38 rfl) (by decide) (ww hw 40 rfl) (ww hw 10 rfl) rfl f62 (rm6_12 l Z a0 hw [] b5 Tr16.heap n0 Z_9 f64) (st := [(.ref b5)]) rfl 0 rfl (by decide) (pc := 293) (Ls := (lc130 i0 i1 i2 i3 i4 i5 1 0 1 0 b1 b2 u1 br4 br7 1 1 1 1)) hml rfl (lenOf pd_4 rfl) at_293 hby
            obtain ⟨rfl, Nr17q, er17⟩ := hQr17
            have N15 := Fr.app N14 Nr17q
            refine own_go (U' := Tr17.setTop (mkF m 296 (lc130 i0 i1 i2 i3 i4 i5 1 0 1 0 b1 b2 u1 br4 br7 1 1 1 1) [(.int 0)])) (fun t k => oifN Xr15 hx hby at_278 (by decide) (oiconst Xr15 hx hby at_281 (ogoto (pc := 282) Xr15 hx hby at_282 286 (by decide) (oistore Xr15 hx hby at_286 (lc130 i0 i1 i2 i3 i4 i5 1 0 1 0 b1 b2 u1 br4 br7 1 1 1 1) rfl (oaload Xr15 hx hby at_288 rfl rfl (str16 _ (str17 _ k))))))) ?_
            refine own_go (U' := Tr17.setTop (mkF m 308 (lc131 i0 i1 i2 i3 i4 i5 1 0 1 0 b1 b2 u1 br4 br7 1 1 1 1 1) [(.int 1)])) (fun t k => oifN Xr17 hx hby at_296 (by decide) (oiconst Xr17 hx hby at_299 (ogoto (pc := 300) Xr17 hx hby at_300 304 (by decide) (oistore Xr17 hx hby at_304 (lc131 i0 i1 i2 i3 i4 i5 1 0 1 0 b1 b2 u1 br4 br7 1 1 1 1 1) rfl (oiload Xr17 hx hby at_306 rfl k))))) ?_
            refine own_go (U' := Tr17.setTop (mkF m 313 (lc131 i0 i1 i2 i3 i4 i5 1 0 1 0 b1 b2 u1 br4 br7 1 1 1 1 1) [(.int 1)])) (fun t k => oifN Xr17 hx hby at_308 (by decide) (oiload Xr17 hx hby at_311 rfl k)) ?_
            refine own_go (U' := Tr17.setTop (mkF m 318 (lc131 i0 i1 i2 i3 i4 i5 1 0 1 0 b1 b2 u1 br4 br7 1 1 1 1 1) [(.int 1)])) (fun t k => oifN Xr17 hx hby at_313 (by decide) (oiload Xr17 hx hby at_316 rfl k)) ?_
            refine own_go (U' := Tr17.setTop (mkF m 323 (lc131 i0 i1 i2 i3 i4 i5 1 0 1 0 b1 b2 u1 br4 br7 1 1 1 1 1) [(.int 1)])) (fun t k => oifN Xr17 hx hby at_318 (by decide) (oiload Xr17 hx hby at_321 rfl k)) ?_
            refine own_go (U' := Tr17.setTop (mkF m 328 (lc131 i0 i1 i2 i3 i4 i5 1 0 1 0 b1 b2 u1 br4 br7 1 1 1 1 1) [(.int 1)])) (fun t k => oifN Xr17 hx hby at_323 (by decide) (oiload Xr17 hx hby at_326 rfl k)) ?_
            refine own_go (U' := Tr17.setTop (mkF m 336 (lc131 i0 i1 i2 i3 i4 i5 1 0 1 0 b1 b2 u1 br4 br7 1 1 1 1 1) [(.int 1)])) (fun t k => oifN Xr17 hx hby at_328 (by decide) (oiconst Xr17 hx hby at_331 (ogoto (pc := 332) Xr17 hx hby at_332 336 (by decide) k))) ?_
            obtain ⟨fs, hr, hrun, hended, hW, hsame⟩ := Xr17.leave (v := some (.int 1)) (fun h => by rw [Bd.returns] at h; cases h)
            refine own_out ⟨_, _, ?_, hrun, hended, _, _, rfl, ?_, ⟨_, rfl⟩, hW, hsame.mono (by decide) (by decide)⟩
            · exact retN Xr17 hx (t := .boolean) Bd.returns (by simp) (hb hby at_336) hr
            · exact ⟨rfl, N15⟩
        · have hc4 : ¬ ((i0 &&& (8 : Int32)) = (0 : Int32)) := hk14
          refine own_go (U' := s₁.setTop (mkF m 55 (lc4 i0 i1 i2 i3 i4 i5 1 0 1 1) [(.int 1)])) (fun t k => oifN X0 hx hby at_43 ((if0 _ _).trans (feq hc4).1) (oiconst X0 hx hby at_46 (ogoto (pc := 47) X0 hx hby at_47 51 (by decide) (oistore X0 hx hby at_51 (lc4 i0 i1 i2 i3 i4 i5 1 0 1 1) rfl (oiload X0 hx hby at_53 rfl k))))) ?_
          obtain ⟨_, Tr1, Lr1, Xr1, hQr1, str1⟩ := ocallS X0 hx hZ zm11 hown (ww hw 63 rfl) (ww hw 64 rfl) (by decide) (ww hw 66 rfl) (ww hw 65 rfl) e0 (mg11_22 l Z a0 hw [] i2 w8 h0 n0 Z0 S16 S18) (st := [(.long i2)]) rfl 0 rfl (by decide) (pc := 59) (Ls := (lc4 i0 i1 i2 i3 i4 i5 1 0 1 1)) hml rfl (lenOf pd_9 rfl) at_59 hby
          obtain ⟨b1, rfl, Nr1q, Kr1, f1, f2⟩ := hQr1
          have N1 := Fr.app N0 Nr1q
          refine own_go (U' := Tr1.setTop (mkF m 70 (lc101 i0 i1 i2 i3 i4 i5 1 0 1 1 b1) [(.int 0)])) (fun t k => oifN X0 hx hby at_55 (by decide) (olloadN X0 hx hby at_58 rfl (str1 _ (ogoto (pc := 62) Xr1 hx hby at_62 66 (by decide) (oastore Xr1 hx hby at_66 (lc101 i0 i1 i2 i3 i4 i5 1 0 1 1 b1) rfl rfl (oiload Xr1 hx hby at_68 rfl k)))))) ?_
          refine own_go (U' := Tr1.setTop (mkF m 86 (lc102 i0 i1 i2 i3 i4 i5 1 0 1 1 b1) [(.int 1)])) (fun t k => oifY (pc := 70) Xr1 hx hby at_70 81 (by decide) (by decide) (onull Xr1 hx hby at_81 (oastore Xr1 hx hby at_82 (lc102 i0 i1 i2 i3 i4 i5 1 0 1 1 b1) rfl rfl (oiload Xr1 hx hby at_84 rfl k)))) ?_
          have f3 : Sta Z Tr1.heap zs19 "cache" zs20 (.ref w8) := (own_staK S16 Kr1 all0)
          have f4 : own_LC Z Tr1.heap w8 n0 := (S18.keep Kr1 all0)
          have Z_1 : n0 ≤ Tr1.heap.size := Nat.le_trans Z0 Kr1.1
          obtain ⟨_, Tr2, Lr2, Xr2, hQr2, str2⟩ := ocallS Xr1 hx hZ zm11 hown (ww hw 63 rfl) (ww hw 64 rfl) (by decide) (ww hw 66 rfl) (ww hw 65 rfl) rfl (mg11_22 l Z a0 hw [] i4 w8 Tr1.heap n0 Z_1 f3 f4) (st := [(.long i4)]) rfl 0 rfl (by decide) (pc := 91) (Ls := (lc102 i0 i1 i2 i3 i4 i5 1 0 1 1 b1)) hml rfl (lenOf pd_9 rfl) at_91 hby
          obtain ⟨b2, rfl, Nr2q, Kr2, f5, f6⟩ := hQr2
          have N2 := Fr.app N1 Nr2q
          refine own_go (U' := Tr2.setTop (mkF m 102 (lc122 i0 i1 i2 i3 i4 i5 1 0 1 1 b1 b2) [(.int 1)])) (fun t k => oifN Xr1 hx hby at_86 (by decide) (olload Xr1 hx hby at_89 rfl (str2 _ (ogoto (pc := 94) Xr2 hx hby at_94 98 (by decide) (oastore Xr2 hx hby at_98 (lc122 i0 i1 i2 i3 i4 i5 1 0 1 1 b1 b2) rfl rfl (oiload Xr2 hx hby at_100 rfl k)))))) ?_
          have f7 : Sta Z Tr2.heap zs19 "cache" zs20 (.ref w8) := (own_staK f3 Kr2 all0)
          have f8 : own_LC Z Tr2.heap w8 n0 := (f4.keep Kr2 all0)
          have Z_2 : n0 ≤ Tr2.heap.size := Nat.le_trans Z_1 Kr2.1
          obtain ⟨_, Tr3, Lr3, Xr3, hQr3, str3⟩ := ocallS Xr2 hx hZ zm11 hown (ww hw 63 rfl) (ww hw 64 rfl) (by decide) (ww hw 66 rfl) (ww hw 65 rfl) rfl (mg11_22 l Z a0 hw [] i5 w8 Tr2.heap n0 Z_2 f7 f8) (st := [(.long i5)]) rfl 0 rfl (by decide) (pc := 107) (Ls := (lc122 i0 i1 i2 i3 i4 i5 1 0 1 1 b1 b2)) hml rfl (lenOf pd_9 rfl) at_107 hby
          obtain ⟨b3, rfl, Nr3q, Kr3, f9, f10⟩ := hQr3
          have N3 := Fr.app N2 Nr3q
          have f11 : Sta Z Tr3.heap zs0 "DAY" zs1 (.ref w3) := (own_staK (own_staK (own_staK S6 Kr1 all0) Kr2 all0) Kr3 all0)
          have f12 : Sta Z Tr3.heap zs0 "MONTH" zs1 (.ref w7) := (own_staK (own_staK (own_staK S14 Kr1 all0) Kr2 all0) Kr3 all0)
          have f13 : Sta Z Tr3.heap zs0 "YEAR" zs1 (.ref w6) := (own_staK (own_staK (own_staK S12 Kr1 all0) Kr2 all0) Kr3 all0)
          have f14 : Sta Z Tr3.heap zs0 "DECADE" zs1 (.ref w0) := (own_staK (own_staK (own_staK S0 Kr1 all0) Kr2 all0) Kr3 all0)
          have f15 : Sta Z Tr3.heap zs0 "CENTURY" zs1 (.ref w5) := (own_staK (own_staK (own_staK S10 Kr1 all0) Kr2 all0) Kr3 all0)
          have Z_3 : n0 ≤ Tr3.heap.size := Nat.le_trans Z_2 Kr3.1
          obtain ⟨_, Tr4, Lr4, Xr4, hQr4, str4⟩ := ocallS Xr3 hx hZ zm0 hown (ww hw 0 rfl) (ww hw 1 rfl) (by decide) (ww hw 3 rfl) (ww hw 2 rfl) rfl (mg1_5 l Z a0 hw [] i1 w3 w7 w6 w0 w5 Tr3.heap n0 Z_3 f11 f12 f13 f14 f15) (st := [(.int i1)]) rfl 0 rfl (by decide) (pc := 117) (Ls := (lc132 i0 i1 i2 i3 i4 i5 1 0 1 1 b1 b2 b3)) hml rfl (lenOf pd_0 rfl) at_117 hby
          obtain ⟨rfl, Nr4q, er4⟩ := hQr4
          refine own_go (U' := Tr4.setTop (mkF m 120 (lc132 i0 i1 i2 i3 i4 i5 1 0 1 1 b1 b2 b3) [(.ref (own_unit ((i1 &&& (2147483647 : Int32)) % (5 : Int32)) w3 w7 w6 w0 w5))])) (fun t k => oifN Xr2 hx hby at_102 (by decide) (olload Xr2 hx hby at_105 rfl (str3 _ (ogoto (pc := 110) Xr3 hx hby at_110 114 (by decide) (oastore Xr3 hx hby at_114 (lc132 i0 i1 i2 i3 i4 i5 1 0 1 1 b1 b2 b3) rfl rfl (oiloadN Xr3 hx hby at_116 rfl (str4 _ k))))))) ?_
          obtain ⟨u1, hu1⟩ : ∃ z, z = (own_unit ((i1 &&& (2147483647 : Int32)) % (5 : Int32)) w3 w7 w6 w0 w5) := ⟨_, rfl⟩
          rw [← hu1]
          have N4 := Fr.app N3 Nr4q
          obtain ⟨Tr5, hr5, Xr5, er5, Er5, Ar5, Dr5, -, str5⟩ := newO Xr4 hx hZ hown (ww hw 8 rfl) (ww hw 9 rfl) (ww hw 10 rfl) er4 (g := (mkF m 122 (lc133 i0 i1 i2 i3 i4 i5 1 0 1 1 b1 b2 b3 u1) [])) rfl (hb hby at_122) (by decide) (by decide)
          obtain ⟨br5, gr5⟩ : ∃ z, z = Tr3.heap.size := ⟨_, rfl⟩
          rw [← gr5] at Ar5 Dr5 str5
          have f16 : Fld Z hr5 br5 zs8 "unit" zs1 .null := Dr5 (Or.inr (ww hw 29 rfl)) (ty := (.object zs0)) (by decide)
          have f17 : Fld Z hr5 br5 zs8 "first" zs9 .null := Dr5 (Or.inr (ww hw 31 rfl)) (ty := (.object zs11)) (by decide)
          have f18 : Fld Z hr5 br5 zs8 "last" zs9 .null := Dr5 (Or.inr (ww hw 33 rfl)) (ty := (.object zs11)) (by decide)
          have f19 : Fld Z hr5 br5 zs8 "anchor" zs5 .null := Dr5 (Or.inr (ww hw 35 rfl)) (ty := (.object zs4)) (by decide)
          have f20 : Sta Z hr5 zs4 "FIRST" zs5 (.ref w1) := (Sta.ext Er5 (own_staK (own_staK (own_staK S2 Kr1 all0) Kr2 all0) Kr3 all0))
          have f21 : Sta Z hr5 zs4 "MIDDLE" zs5 (.ref w2) := (Sta.ext Er5 (own_staK (own_staK (own_staK S4 Kr1 all0) Kr2 all0) Kr3 all0))
          have f22 : Sta Z hr5 zs4 "LAST" zs5 (.ref w4) := (Sta.ext Er5 (own_staK (own_staK (own_staK S8 Kr1 all0) Kr2 all0) Kr3 all0))
          have Z_4 : n0 ≤ hr5.size := Nat.le_trans Z_3 Er5.1
          obtain ⟨_, Tr6, Lr6, Xr6, hQr6, str6⟩ := ocallS Xr5 hx hZ zm1 hown (ww hw 11 rfl) (ww hw 12 rfl) (by decide) (ww hw 13 rfl) (ww hw 2 rfl) er5 (mg2_9 l Z a0 hw [] ((i0.toUInt32 >>> ((4 : Int32) &&& 31).toUInt32).toInt32) w1 w2 w4 hr5 n0 Z_4 f20 f21 f22) (st := [(.int ((i0.toUInt32 >>> ((4 : Int32) &&& 31).toUInt32).toInt32)), .null, (.ref b1), (.ref u1), (.ref br5), (.ref br5)]) rfl 5 rfl (by decide) (pc := 135) (Ls := (lc133 i0 i1 i2 i3 i4 i5 1 0 1 1 b1 b2 b3 u1)) hml rfl (lenOf pd_1 rfl) at_135 hby
          obtain ⟨rfl, Nr6q, er6⟩ := hQr6
          refine own_go (U' := Tr6.setTop (mkF m 138 (lc133 i0 i1 i2 i3 i4 i5 1 0 1 1 b1 b2 b3 u1) [(.ref (own_anch (((i0.toUInt32 >>> ((4 : Int32) &&& 31).toUInt32).toInt32) &&& (3 : Int32)) w1 w2 w4)), .null, (.ref b1), (.ref u1), (.ref br5), (.ref br5)])) (fun t k => oastore Xr4 hx hby at_120 (lc133 i0 i1 i2 i3 i4 i5 1 0 1 1 b1 b2 b3 u1) rfl rfl (str5 _ (odup Xr5 hx hby at_125 rfl (oaload Xr5 hx hby at_126 rfl rfl (oaload Xr5 hx hby at_128 rfl rfl (oaload Xr5 hx hby at_130 rfl rfl (oiloadN Xr5 hx hby at_132 rfl (oiconst Xr5 hx hby at_133 (oiushr Xr5 hx hby at_134 (str6 _ k)))))))))) ?_
          obtain ⟨u2, hu2⟩ : ∃ z, z = (own_anch (((i0.toUInt32 >>> ((4 : Int32) &&& 31).toUInt32).toInt32) &&& (3 : Int32)) w1 w2 w4) := ⟨_, rfl⟩
          rw [← hu2]
          have N5 := Fr.app N4 Nr6q
          have g1 : n0 ≤ br5 := Nat.le_trans Z_3 (Nat.le_of_eq gr5.symm)
          obtain ⟨_, Tr7, Lr7, Xr7, hQr7, str7⟩ := ocallI Xr6 hx hZ zm3 rfl hown (ww hw 17 rfl) (ww hw 18 rfl) (by decide) (ww hw 19 rfl) (ww hw 10 rfl) er6 (rm3_26 l Z a0 hw [] br5 u1 b1 u2 hr5 n0 Z_4 f16 f17 f18 f19 Ar5 g1) (st := [(.ref u2), .null, (.ref b1), (.ref u1), (.ref br5), (.ref br5)]) rfl 1 rfl (by decide) (pc := 138) (Ls := (lc133 i0 i1 i2 i3 i4 i5 1 0 1 1 b1 b2 b3 u1)) hml rfl (lenOf pd_3 rfl) at_138 hby
          obtain ⟨rfl, Nr7q, Kr7, f23, f24, f25, f26⟩ := hQr7
          have N6 := Fr.app N5 Nr7q
          obtain ⟨Tr8, hr8, Xr8, er8, Er8, Ar8, Dr8, -, str8⟩ := newO Xr7 hx hZ hown (ww hw 8 rfl) (ww hw 9 rfl) (ww hw 10 rfl) rfl (g := (mkF m 143 (lc134 i0 i1 i2 i3 i4 i5 1 0 1 1 b1 b2 b3 u1 br5) [])) rfl (hb hby at_143) (by decide) (by decide)
          obtain ⟨br8, gr8⟩ : ∃ z, z = Tr7.heap.size := ⟨_, rfl⟩
          rw [← gr8] at Ar8 Dr8 str8
          have f27 : Fld Z hr8 br8 zs8 "unit" zs1 .null := Dr8 (Or.inr (ww hw 29 rfl)) (ty := (.object zs0)) (by decide)
          have f28 : Fld Z hr8 br8 zs8 "first" zs9 .null := Dr8 (Or.inr (ww hw 31 rfl)) (ty := (.object zs11)) (by decide)
          have f29 : Fld Z hr8 br8 zs8 "last" zs9 .null := Dr8 (Or.inr (ww hw 33 rfl)) (ty := (.object zs11)) (by decide)
          have f30 : Fld Z hr8 br8 zs8 "anchor" zs5 .null := Dr8 (Or.inr (ww hw 35 rfl)) (ty := (.object zs4)) (by decide)
          have f31 : Sta Z hr8 zs4 "FIRST" zs5 (.ref w1) := (Sta.ext Er8 (own_staK f20 Kr7 (allS (own_nsE Ar5) all0)))
          have f32 : Sta Z hr8 zs4 "MIDDLE" zs5 (.ref w2) := (Sta.ext Er8 (own_staK f21 Kr7 (allS (own_nsE Ar5) all0)))
          have f33 : Sta Z hr8 zs4 "LAST" zs5 (.ref w4) := (Sta.ext Er8 (own_staK f22 Kr7 (allS (own_nsE Ar5) all0)))
          have Z_5 : n0 ≤ Tr7.heap.size := Nat.le_trans Z_4 Kr7.1
          have Z_6 : n0 ≤ hr8.size := Nat.le_trans Z_5 Er8.1
          obtain ⟨_, Tr9, Lr9, Xr9, hQr9, str9⟩ := ocallS Xr8 hx hZ zm1 hown (ww hw 11 rfl) (ww hw 12 rfl) (by decide) (ww hw 13 rfl) (ww hw 2 rfl) er8 (mg2_9 l Z a0 hw [] ((i0.toUInt32 >>> ((6 : Int32) &&& 31).toUInt32).toInt32) w1 w2 w4 hr8 n0 Z_6 f31 f32 f33) (st := [(.int ((i0.toUInt32 >>> ((6 : Int32) &&& 31).toUInt32).toInt32)), (.ref b3), (.ref b2), (.ref u1), (.ref br8), (.ref br8)]) rfl 5 rfl (by decide) (pc := 157) (Ls := (lc134 i0 i1 i2 i3 i4 i5 1 0 1 1 b1 b2 b3 u1 br5)) hml rfl (lenOf pd_1 rfl) at_157 hby
          obtain ⟨rfl, Nr9q, er9⟩ := hQr9
          refine own_go (U' := Tr9.setTop (mkF m 160 (lc134 i0 i1 i2 i3 i4 i5 1 0 1 1 b1 b2 b3 u1 br5) [(.ref (own_anch (((i0.toUInt32 >>> ((6 : Int32) &&& 31).toUInt32).toInt32) &&& (3 : Int32)) w1 w2 w4)), (.ref b3), (.ref b2), (.ref u1), (.ref br8), (.ref br8)])) (fun t k => str7 _ (oastore Xr7 hx hby at_141 (lc134 i0 i1 i2 i3 i4 i5 1 0 1 1 b1 b2 b3 u1 br5) rfl rfl (str8 _ (odup Xr8 hx hby at_146 rfl (oaload Xr8 hx hby at_147 rfl rfl (oaload Xr8 hx hby at_149 rfl rfl (oaload Xr8 hx hby at_151 rfl rfl (oiloadN Xr8 hx hby at_153 rfl (obipush Xr8 hx hby at_154 (oiushr Xr8 hx hby at_156 (str9 _ k))))))))))) ?_
          obtain ⟨u3, hu3⟩ : ∃ z, z = (own_anch (((i0.toUInt32 >>> ((6 : Int32) &&& 31).toUInt32).toInt32) &&& (3 : Int32)) w1 w2 w4) := ⟨_, rfl⟩
          rw [← hu3]
          have N7 := Fr.app N6 Nr9q
          have g2 : n0 ≤ br8 := Nat.le_trans Z_5 (Nat.le_of_eq gr8.symm)
          obtain ⟨_, Tr10, Lr10, Xr10, hQr10, str10⟩ := ocallI Xr9 hx hZ zm3 rfl hown (ww hw 17 rfl) (ww hw 18 rfl) (by decide) (ww hw 19 rfl) (ww hw 10 rfl) er9 (rm3_30 l Z a0 hw [] br8 u1 b2 b3 u3 hr8 n0 Z_6 f27 f28 f29 f30 Ar8 g2) (st := [(.ref u3), (.ref b3), (.ref b2), (.ref u1), (.ref br8), (.ref br8)]) rfl 1 rfl (by decide) (pc := 160) (Ls := (lc134 i0 i1 i2 i3 i4 i5 1 0 1 1 b1 b2 b3 u1 br5)) hml rfl (lenOf pd_3 rfl) at_160 hby
          obtain ⟨rfl, Nr10q, Kr10, f34, f35, f36, f37⟩ := hQr10
          have N8 := Fr.app N7 Nr10q
          have f38 : Exa Z Tr10.heap br5 zs8 := ((Exa.ext Er8 (Ar5.keep Kr7)).keep Kr10)
          have ne1 : br5 ≠ br8 := Nat.ne_of_lt (Nat.lt_of_lt_of_le (f23.lt) (Nat.le_of_eq gr8.symm))
          have f39 : Fld Z Tr10.heap br5 zs8 "first" zs9 (.ref b1) := ((Fld.ext Er8 f24).keep Kr10 (ninS ne1 nin0))
          have f40 : Fld Z Tr10.heap br5 zs8 "last" zs9 .null := ((Fld.ext Er8 f25).keep Kr10 (ninS ne1 nin0))
          have Z_7 : n0 ≤ Tr10.heap.size := Nat.le_trans Z_6 Kr10.1
          obtain ⟨_, Tr11, Lr11, Xr11, hQr11, str11⟩ := ocallV Xr10 hx hZ zm4 zm4 hown (ww hw 36 rfl) (ww hw 37 rfl) (notFace_of_selects (args := #[]) (mvT hZ (ww hw 39 rfl))) (ww hw 39 rfl) (ww hw 38 rfl) (by decide) (ww hw 40 rfl) (ww hw 10 rfl) rfl f38 (rm6_27 l Z a0 hw [] br5 b1 Tr10.heap n0 Z_7 f39 f40) (st := [(.ref br5)]) rfl 0 rfl (by decide) (pc := 167) (Ls := (lc135 i0 i1 i2 i3 i4 i5 1 0 1 1 b1 b2 b3 u1 br5 br8)) hml rfl (lenOf pd_4 rfl) at_167 hby
          obtain ⟨rfl, Nr11q, er11⟩ := hQr11
          have N9 := Fr.app N8 Nr11q
          refine own_go (U' := Tr11.setTop (mkF m 172 (lc135 i0 i1 i2 i3 i4 i5 1 0 1 1 b1 b2 b3 u1 br5 br8) [(.int 1), (.int 0)])) (fun t k => str10 _ (oastore Xr10 hx hby at_163 (lc135 i0 i1 i2 i3 i4 i5 1 0 1 1 b1 b2 b3 u1 br5 br8) rfl rfl (oaload Xr10 hx hby at_165 rfl rfl (str11 _ (oiload Xr11 hx hby at_170 rfl k))))) ?_
          refine own_go (U' := Tr11.setTop (mkF m 177 (lc135 i0 i1 i2 i3 i4 i5 1 0 1 1 b1 b2 b3 u1 br5 br8) [(.int 0), (.int 0)])) (fun t k => oifN Xr11 hx hby at_172 (by decide) (oiload Xr11 hx hby at_175 rfl k)) ?_
          refine own_go (U' := Tr11.setTop (mkF m 185 (lc135 i0 i1 i2 i3 i4 i5 1 0 1 1 b1 b2 b3 u1 br5 br8) [(.int 0), (.int 0)])) (fun t k => oifY (pc := 177) Xr11 hx hby at_177 184 (by decide) (by decide) (oiconst Xr11 hx hby at_184 k)) ?_
          have f41 : Exa Z Tr10.heap br8 zs8 := (Ar8.keep Kr10)
          obtain ⟨_, Tr12, Lr12, Xr12, hQr12, str12⟩ := ocallV Xr11 hx hZ zm4 zm4 hown (ww hw 36 rfl) (ww hw 37 rfl) (notFace_of_selects (args := #[]) (mvT hZ (ww hw 39 rfl))) (ww hw 39 rfl) (ww hw 38 rfl) (by decide) (ww hw 40 rfl) (ww hw 10 rfl) er11 f41 (rm6_31 l Z a0 hw [] br8 b2 b3 Tr10.heap n0 Z_7 f35 f36) (st := [(.ref br8)]) rfl 0 rfl (by decide) (pc := 197) (Ls := (lc136 i0 i1 i2 i3 i4 i5 1 0 1 1 b1 b2 b3 u1 br5 br8 1)) hml rfl (lenOf pd_4 rfl) at_197 hby
          obtain ⟨rfl, Nr12q, er12⟩ := hQr12
          have N10 := Fr.app N9 Nr12q
          refine own_go (U' := Tr12.setTop (mkF m 202 (lc136 i0 i1 i2 i3 i4 i5 1 0 1 1 b1 b2 b3 u1 br5 br8 1) [(.int 1), (.int 1)])) (fun t k => oicN Xr11 hx hby at_185 (by decide) (oiconst Xr11 hx hby at_188 (ogoto (pc := 189) Xr11 hx hby at_189 193 (by decide) (oistore Xr11 hx hby at_193 (lc136 i0 i1 i2 i3 i4 i5 1 0 1 1 b1 b2 b3 u1 br5 br8 1) rfl (oaload Xr11 hx hby at_195 rfl rfl (str12 _ (oiload Xr12 hx hby at_200 rfl k))))))) ?_
          refine own_go (U' := Tr12.setTop (mkF m 207 (lc136 i0 i1 i2 i3 i4 i5 1 0 1 1 b1 b2 b3 u1 br5 br8 1) [(.int 1), (.int 1)])) (fun t k => oifN Xr12 hx hby at_202 (by decide) (oiload Xr12 hx hby at_205 rfl k)) ?_
          refine own_go (U' := Tr12.setTop (mkF m 215 (lc136 i0 i1 i2 i3 i4 i5 1 0 1 1 b1 b2 b3 u1 br5 br8 1) [(.int 1), (.int 1)])) (fun t k => oifN Xr12 hx hby at_207 (by decide) (oiconst Xr12 hx hby at_210 (ogoto (pc := 211) Xr12 hx hby at_211 215 (by decide) k))) ?_
          have f42 : Exa Z Tr10.heap b2 zs11 := ((Exa.ext Er8 ((Exa.ext Er5 (f5.keep Kr3)).keep Kr7)).keep Kr10)
          have ne2 : b2 ≠ br5 := Nat.ne_of_lt (Nat.lt_of_lt_of_le (Nat.lt_of_lt_of_le (f6.lt) Kr3.1) (Nat.le_of_eq gr5.symm))
          have ne3 : b2 ≠ br8 := Nat.ne_of_lt (Nat.lt_of_lt_of_le (Nat.lt_of_lt_of_le (Nat.lt_of_lt_of_le (Nat.lt_of_lt_of_le (f6.lt) Kr3.1) Er5.1) Kr7.1) (Nat.le_of_eq gr8.symm))
          have f43 : Fld Z Tr10.heap b2 zs11 "value" "J" (.long i4) := ((Fld.ext Er8 ((Fld.ext Er5 (f6.keep Kr3 nin0)).keep Kr7 (ninS ne2 nin0))).keep Kr10 (ninS ne3 nin0))
          have f44 : Exa Z Tr10.heap b1 zs11 := ((Exa.ext Er8 ((Exa.ext Er5 ((f1.keep Kr2).keep Kr3)).keep Kr7)).keep Kr10)
          have ne4 : b1 ≠ br5 := Nat.ne_of_lt (Nat.lt_of_lt_of_le (Nat.lt_of_lt_of_le (Nat.lt_of_lt_of_le (f2.lt) Kr2.1) Kr3.1) (Nat.le_of_eq gr5.symm))
          have ne5 : b1 ≠ br8 := Nat.ne_of_lt (Nat.lt_of_lt_of_le (Nat.lt_of_lt_of_le (Nat.lt_of_lt_of_le (Nat.lt_of_lt_of_le (Nat.lt_of_lt_of_le (f2.lt) Kr2.1) Kr3.1) Er5.1) Kr7.1) (Nat.le_of_eq gr8.symm))
          have f45 : Fld Z Tr10.heap b1 zs11 "value" "J" (.long i2) := ((Fld.ext Er8 ((Fld.ext Er5 ((f2.keep Kr2 nin0).keep Kr3 nin0)).keep Kr7 (ninS ne4 nin0))).keep Kr10 (ninS ne5 nin0))
          have f46 : Fld Z Tr10.heap br5 zs8 "unit" zs1 (.ref u1) := ((Fld.ext Er8 f23).keep Kr10 (ninS ne1 nin0))
          have f47 : Sta Z Tr10.heap zs4 "MIDDLE" zs5 (.ref w2) := (own_staK f32 Kr10 (allS (own_nsF f27) all0))
          by_cases hk16 : i2 < i4
          · have hc10 : i2 < i4 := hk16
            obtain ⟨_, Tr13, Lr13, Xr13, hQr13, str13⟩ := ocallV Xr12 hx hZ zm6 zm6 hown (ww hw 41 rfl) (ww hw 42 rfl) (notFace_of_selects (args := #[]) (mvT hZ (ww hw 44 rfl))) (ww hw 44 rfl) (ww hw 43 rfl) (by decide) (ww hw 45 rfl) (ww hw 10 rfl) er12 f38 (rm7_47 l Z a0 hw [] br5 br8 b1 b2 i4 i2 b3 u1 w2 Tr10.heap n0 Z_7 f39 f35 f42 f43 f44 f45 hc10 f40 f36 f46 f47) (st := [(.ref br8), (.ref br5)]) rfl 0 rfl (by decide) (pc := 229) (Ls := (lc137 i0 i1 i2 i3 i4 i5 1 0 1 1 b1 b2 b3 u1 br5 br8 1 1)) hml rfl (lenOf pd_6 rfl) at_229 hby
            obtain ⟨b4, rfl, Nr13q, Kr13, sz1, f48, f49, f50, f51, f52⟩ := hQr13
            have N11 := Fr.app N10 Nr13q
            have Z_8 : n0 ≤ Tr13.heap.size := Nat.le_trans Z_7 Kr13.1
            obtain ⟨_, Tr14, Lr14, Xr14, hQr14, str14⟩ := ocallV Xr13 hx hZ zm4 zm4 hown (ww hw 36 rfl) (ww hw 37 rfl) (notFace_of_selects (args := #[]) (mvT hZ (ww hw 39 rfl))) (ww hw 39 rfl) (ww hw 38 rfl) (by decide) (ww hw 40 rfl) (ww hw 10 rfl) rfl f48 (rm6_31 l Z a0 hw [] b4 b2 b3 Tr13.heap n0 Z_8 f50 f51) (st := [(.ref b4)]) rfl 0 rfl (by decide) (pc := 232) (Ls := (lc137 i0 i1 i2 i3 i4 i5 1 0 1 1 b1 b2 b3 u1 br5 br8 1 1)) hml rfl (lenOf pd_4 rfl) at_232 hby
            obtain ⟨rfl, Nr14q, er14⟩ := hQr14
            have N12 := Fr.app N11 Nr14q
            refine own_go (U' := Tr14.setTop (mkF m 237 (lc137 i0 i1 i2 i3 i4 i5 1 0 1 1 b1 b2 b3 u1 br5 br8 1 1) [(.int 1), (.int 1)])) (fun t k => oicN Xr12 hx hby at_215 (by decide) (oiconst Xr12 hx hby at_218 (ogoto (pc := 219) Xr12 hx hby at_219 223 (by decide) (oistore Xr12 hx hby at_223 (lc137 i0 i1 i2 i3 i4 i5 1 0 1 1 b1 b2 b3 u1 br5 br8 1 1) rfl (oaload Xr12 hx hby at_225 rfl rfl (oaload Xr12 hx hby at_227 rfl rfl (str13 _ (str14 _ (oiload Xr14 hx hby at_235 rfl k))))))))) ?_
            refine own_go (U' := Tr14.setTop (mkF m 247 (lc137 i0 i1 i2 i3 i4 i5 1 0 1 1 b1 b2 b3 u1 br5 br8 1 1) [(.int 0), (.int 1)])) (fun t k => oifY (pc := 237) Xr14 hx hby at_237 245 (by decide) (by decide) (oiload Xr14 hx hby at_245 rfl k)) ?_
            refine own_go (U' := Tr14.setTop (mkF m 252 (lc137 i0 i1 i2 i3 i4 i5 1 0 1 1 b1 b2 b3 u1 br5 br8 1 1) [(.int 1), (.int 1)])) (fun t k => oifN Xr14 hx hby at_247 (by decide) (oiload Xr14 hx hby at_250 rfl k)) ?_
            refine own_go (U' := Tr14.setTop (mkF m 260 (lc137 i0 i1 i2 i3 i4 i5 1 0 1 1 b1 b2 b3 u1 br5 br8 1 1) [(.int 1), (.int 1)])) (fun t k => oifN Xr14 hx hby at_252 (by decide) (oiconst Xr14 hx hby at_255 (ogoto (pc := 256) Xr14 hx hby at_256 260 (by decide) k))) ?_
            have f53 : Exa Z Tr13.heap br5 zs8 := (f38.keep Kr13)
            have f54 : Fld Z Tr13.heap br5 zs8 "unit" zs1 (.ref u1) := (f46.keep Kr13 nin0)
            have f55 : Fld Z Tr13.heap br5 zs8 "first" zs9 (.ref b1) := (f39.keep Kr13 nin0)
            have f56 : Sta Z Tr13.heap zs4 "MIDDLE" zs5 (.ref w2) := (own_staK f47 Kr13 all0)
            obtain ⟨_, Tr15, Lr15, Xr15, hQr15, str15⟩ := ocallV Xr14 hx hZ zm7 zm7 hown (ww hw 53 rfl) (ww hw 54 rfl) (notFace_of_selects (args := #[]) (mvT hZ (ww hw 56 rfl))) (ww hw 56 rfl) (ww hw 55 rfl) (by decide) (ww hw 57 rfl) (ww hw 10 rfl) er14 f53 (rm9_43 l Z a0 hw [] br5 u1 b1 w2 Tr13.heap n0 Z_8 f54 f55 f56) (st := [(.ref br5)]) rfl 0 rfl (by decide) (pc := 272) (Ls := (lc138 i0 i1 i2 i3 i4 i5 1 0 1 1 b1 b2 b3 u1 br5 br8 1 1 1)) hml rfl (lenOf pd_7 rfl) at_272 hby
            obtain ⟨b5, rfl, Nr15q, Kr15, sz2, f57, f58, f59, f60, f61⟩ := hQr15
            have N13 := Fr.app N12 Nr15q
            have Z_9 : n0 ≤ Tr15.heap.size := Nat.le_trans Z_8 Kr15.1
            obtain ⟨_, Tr16, Lr16, Xr16, hQr16, str16⟩ := ocallV Xr15 hx hZ zm4 zm4 hown (ww hw 36 rfl) (ww hw 37 rfl) (notFace_of_selects (args := #[]) (mvT hZ (ww hw 39 rfl))) (ww hw 39 rfl) (ww hw 38 rfl) (by decide) (ww hw 40 rfl) (ww hw 10 rfl) rfl f57 (rm6_27 l Z a0 hw [] b5 b1 Tr15.heap n0 Z_9 f59 f60) (st := [(.ref b5)]) rfl 0 rfl (by decide) (pc := 275) (Ls := (lc138 i0 i1 i2 i3 i4 i5 1 0 1 1 b1 b2 b3 u1 br5 br8 1 1 1)) hml rfl (lenOf pd_4 rfl) at_275 hby
            obtain ⟨rfl, Nr16q, er16⟩ := hQr16
            have N14 := Fr.app N13 Nr16q
            refine own_go (U' := Tr16.setTop (mkF m 278 (lc138 i0 i1 i2 i3 i4 i5 1 0 1 1 b1 b2 b3 u1 br5 br8 1 1 1) [(.int 0)])) (fun t k => oicN Xr14 hx hby at_260 (by decide) (oiconst Xr14 hx hby at_263 (ogoto (pc := 264) Xr14 hx hby at_264 268 (by decide) (oistore Xr14 hx hby at_268 (lc138 i0 i1 i2 i3 i4 i5 1 0 1 1 b1 b2 b3 u1 br5 br8 1 1 1) rfl (oaload Xr14 hx hby at_270 rfl rfl (str15 _ (str16 _ k))))))) ?_
            have f62 : Exa Z Tr15.heap br5 zs8 := (f53.keep Kr15)
            have f63 : Fld Z Tr15.heap br5 zs8 "unit" zs1 (.ref u1) := (f54.keep Kr15 nin0)
            have f64 : Fld Z Tr15.heap br5 zs8 "last" zs9 .null := ((f40.keep Kr13 nin0).keep Kr15 nin0)
            have f65 : Sta Z Tr15.heap zs4 "MIDDLE" zs5 (.ref w2) := (own_staK f56 Kr15 all0)
            obtain ⟨_, Tr17, Lr17, Xr17, hQr17, str17⟩ := ocallV Xr16 hx hZ zm8 zm8 hown (ww hw 58 rfl) (ww hw 59 rfl) (notFace_of_selects (args := #[]) (mvT hZ (ww hw 61 rfl))) (ww hw 61 rfl) (ww hw 60 rfl) (by decide) (ww hw 62 rfl) (ww hw 10 rfl) er16 f62 (rm10_16 l Z a0 hw [] br5 u1 w2 Tr15.heap n0 Z_9 f63 f64 f65) (st := [(.ref br5)]) rfl 0 rfl (by decide) (pc := 290) (Ls := (lc139 i0 i1 i2 i3 i4 i5 1 0 1 1 b1 b2 b3 u1 br5 br8 1 1 1 1)) hml rfl (lenOf pd_7 rfl) at_290 hby
            obtain ⟨b6, rfl, Nr17q, Kr17, sz3, f66, f67, f68, f69, f70⟩ := hQr17
            have N15 := Fr.app N14 Nr17q
            have Z_10 : n0 ≤ Tr17.heap.size := Nat.le_trans Z_9 Kr17.1
            obtain ⟨_, Tr18, Lr18, Xr18, hQr18, str18⟩ := ocallV Xr17 hx hZ zm4 zm4 hown (ww hw 36 rfl) (ww hw 37 rfl) (notFace_of_selects (args := #[]) (mvT hZ (ww hw 39 rfl))) (ww hw 39 rfl) (ww hw 38 rfl) (by decide) (ww hw 40 rfl) (ww hw 10 rfl) rfl f66 (rm6_12 l Z a0 hw [] b6 Tr17.heap n0 Z_10 f68) (st := [(.ref b6)]) rfl 0 rfl (by decide) (pc := 293) (Ls := (lc139 i0 i1 i2 i3 i4 i5 1 0 1 1 b1 b2 b3 u1 br5 br8 1 1 1 1)) hml rfl (lenOf pd_4 rfl) at_293 hby
            obtain ⟨rfl, Nr18q, er18⟩ := hQr18
            have N16 := Fr.app N15 Nr18q
            refine own_go (U' := Tr18.setTop (mkF m 296 (lc139 i0 i1 i2 i3 i4 i5 1 0 1 1 b1 b2 b3 u1 br5 br8 1 1 1 1) [(.int 0)])) (fun t k => oifN Xr16 hx hby at_278 (by decide) (oiconst Xr16 hx hby at_281 (ogoto (pc := 282) Xr16 hx hby at_282 286 (by decide) (oistore Xr16 hx hby at_286 (lc139 i0 i1 i2 i3 i4 i5 1 0 1 1 b1 b2 b3 u1 br5 br8 1 1 1 1) rfl (oaload Xr16 hx hby at_288 rfl rfl (str17 _ (str18 _ k))))))) ?_
            refine own_go (U' := Tr18.setTop (mkF m 308 (lc140 i0 i1 i2 i3 i4 i5 1 0 1 1 b1 b2 b3 u1 br5 br8 1 1 1 1 1) [(.int 1)])) (fun t k => oifN Xr18 hx hby at_296 (by decide) (oiconst Xr18 hx hby at_299 (ogoto (pc := 300) Xr18 hx hby at_300 304 (by decide) (oistore Xr18 hx hby at_304 (lc140 i0 i1 i2 i3 i4 i5 1 0 1 1 b1 b2 b3 u1 br5 br8 1 1 1 1 1) rfl (oiload Xr18 hx hby at_306 rfl k))))) ?_
            refine own_go (U' := Tr18.setTop (mkF m 313 (lc140 i0 i1 i2 i3 i4 i5 1 0 1 1 b1 b2 b3 u1 br5 br8 1 1 1 1 1) [(.int 1)])) (fun t k => oifN Xr18 hx hby at_308 (by decide) (oiload Xr18 hx hby at_311 rfl k)) ?_
            refine own_go (U' := Tr18.setTop (mkF m 318 (lc140 i0 i1 i2 i3 i4 i5 1 0 1 1 b1 b2 b3 u1 br5 br8 1 1 1 1 1) [(.int 1)])) (fun t k => oifN Xr18 hx hby at_313 (by decide) (oiload Xr18 hx hby at_316 rfl k)) ?_
            refine own_go (U' := Tr18.setTop (mkF m 323 (lc140 i0 i1 i2 i3 i4 i5 1 0 1 1 b1 b2 b3 u1 br5 br8 1 1 1 1 1) [(.int 1)])) (fun t k => oifN Xr18 hx hby at_318 (by decide) (oiload Xr18 hx hby at_321 rfl k)) ?_
            refine own_go (U' := Tr18.setTop (mkF m 328 (lc140 i0 i1 i2 i3 i4 i5 1 0 1 1 b1 b2 b3 u1 br5 br8 1 1 1 1 1) [(.int 1)])) (fun t k => oifN Xr18 hx hby at_323 (by decide) (oiload Xr18 hx hby at_326 rfl k)) ?_
            refine own_go (U' := Tr18.setTop (mkF m 336 (lc140 i0 i1 i2 i3 i4 i5 1 0 1 1 b1 b2 b3 u1 br5 br8 1 1 1 1 1) [(.int 1)])) (fun t k => oifN Xr18 hx hby at_328 (by decide) (oiconst Xr18 hx hby at_331 (ogoto (pc := 332) Xr18 hx hby at_332 336 (by decide) k))) ?_
            obtain ⟨fs, hr, hrun, hended, hW, hsame⟩ := Xr18.leave (v := some (.int 1)) (fun h => by rw [Bd.returns] at h; cases h)
            refine own_out ⟨_, _, ?_, hrun, hended, _, _, rfl, ?_, ⟨_, rfl⟩, hW, hsame.mono (by decide) (by decide)⟩
            · exact retN Xr18 hx (t := .boolean) Bd.returns (by simp) (hb hby at_336) hr
            · exact ⟨rfl, N16⟩
          · have hc11 : ¬ (i2 < i4) := hk16
            obtain ⟨_, Tr13, Lr13, Xr13, hQr13, str13⟩ := ocallV Xr12 hx hZ zm6 zm6 hown (ww hw 41 rfl) (ww hw 42 rfl) (notFace_of_selects (args := #[]) (mvT hZ (ww hw 44 rfl))) (ww hw 44 rfl) (ww hw 43 rfl) (by decide) (ww hw 45 rfl) (ww hw 10 rfl) er12 f38 (rm7_48 l Z a0 hw [] br5 br8 b1 b2 i4 i2 b3 u1 w2 Tr10.heap n0 Z_7 f39 f35 f42 f43 f44 f45 hc11 f40 f36 f46 f47) (st := [(.ref br8), (.ref br5)]) rfl 0 rfl (by decide) (pc := 229) (Ls := (lc137 i0 i1 i2 i3 i4 i5 1 0 1 1 b1 b2 b3 u1 br5 br8 1 1)) hml rfl (lenOf pd_6 rfl) at_229 hby
            obtain ⟨b4, rfl, Nr13q, Kr13, sz1, f48, f49, f50, f51, f52⟩ := hQr13
            have N11 := Fr.app N10 Nr13q
            have Z_8 : n0 ≤ Tr13.heap.size := Nat.le_trans Z_7 Kr13.1
            obtain ⟨_, Tr14, Lr14, Xr14, hQr14, str14⟩ := ocallV Xr13 hx hZ zm4 zm4 hown (ww hw 36 rfl) (ww hw 37 rfl) (notFace_of_selects (args := #[]) (mvT hZ (ww hw 39 rfl))) (ww hw 39 rfl) (ww hw 38 rfl) (by decide) (ww hw 40 rfl) (ww hw 10 rfl) rfl f48 (rm6_31 l Z a0 hw [] b4 b1 b3 Tr13.heap n0 Z_8 f50 f51) (st := [(.ref b4)]) rfl 0 rfl (by decide) (pc := 232) (Ls := (lc137 i0 i1 i2 i3 i4 i5 1 0 1 1 b1 b2 b3 u1 br5 br8 1 1)) hml rfl (lenOf pd_4 rfl) at_232 hby
            obtain ⟨rfl, Nr14q, er14⟩ := hQr14
            have N12 := Fr.app N11 Nr14q
            refine own_go (U' := Tr14.setTop (mkF m 237 (lc137 i0 i1 i2 i3 i4 i5 1 0 1 1 b1 b2 b3 u1 br5 br8 1 1) [(.int 1), (.int 1)])) (fun t k => oicN Xr12 hx hby at_215 (by decide) (oiconst Xr12 hx hby at_218 (ogoto (pc := 219) Xr12 hx hby at_219 223 (by decide) (oistore Xr12 hx hby at_223 (lc137 i0 i1 i2 i3 i4 i5 1 0 1 1 b1 b2 b3 u1 br5 br8 1 1) rfl (oaload Xr12 hx hby at_225 rfl rfl (oaload Xr12 hx hby at_227 rfl rfl (str13 _ (str14 _ (oiload Xr14 hx hby at_235 rfl k))))))))) ?_
            refine own_go (U' := Tr14.setTop (mkF m 247 (lc137 i0 i1 i2 i3 i4 i5 1 0 1 1 b1 b2 b3 u1 br5 br8 1 1) [(.int 0), (.int 1)])) (fun t k => oifY (pc := 237) Xr14 hx hby at_237 245 (by decide) (by decide) (oiload Xr14 hx hby at_245 rfl k)) ?_
            refine own_go (U' := Tr14.setTop (mkF m 252 (lc137 i0 i1 i2 i3 i4 i5 1 0 1 1 b1 b2 b3 u1 br5 br8 1 1) [(.int 1), (.int 1)])) (fun t k => oifN Xr14 hx hby at_247 (by decide) (oiload Xr14 hx hby at_250 rfl k)) ?_
            refine own_go (U' := Tr14.setTop (mkF m 260 (lc137 i0 i1 i2 i3 i4 i5 1 0 1 1 b1 b2 b3 u1 br5 br8 1 1) [(.int 1), (.int 1)])) (fun t k => oifN Xr14 hx hby at_252 (by decide) (oiconst Xr14 hx hby at_255 (ogoto (pc := 256) Xr14 hx hby at_256 260 (by decide) k))) ?_
            have f53 : Exa Z Tr13.heap br5 zs8 := (f38.keep Kr13)
            have f54 : Fld Z Tr13.heap br5 zs8 "unit" zs1 (.ref u1) := (f46.keep Kr13 nin0)
            have f55 : Fld Z Tr13.heap br5 zs8 "first" zs9 (.ref b1) := (f39.keep Kr13 nin0)
            have f56 : Sta Z Tr13.heap zs4 "MIDDLE" zs5 (.ref w2) := (own_staK f47 Kr13 all0)
            obtain ⟨_, Tr15, Lr15, Xr15, hQr15, str15⟩ := ocallV Xr14 hx hZ zm7 zm7 hown (ww hw 53 rfl) (ww hw 54 rfl) (notFace_of_selects (args := #[]) (mvT hZ (ww hw 56 rfl))) (ww hw 56 rfl) (ww hw 55 rfl) (by decide) (ww hw 57 rfl) (ww hw 10 rfl) er14 f53 (rm9_43 l Z a0 hw [] br5 u1 b1 w2 Tr13.heap n0 Z_8 f54 f55 f56) (st := [(.ref br5)]) rfl 0 rfl (by decide) (pc := 272) (Ls := (lc138 i0 i1 i2 i3 i4 i5 1 0 1 1 b1 b2 b3 u1 br5 br8 1 1 1)) hml rfl (lenOf pd_7 rfl) at_272 hby
            obtain ⟨b5, rfl, Nr15q, Kr15, sz2, f57, f58, f59, f60, f61⟩ := hQr15
            have N13 := Fr.app N12 Nr15q
            have Z_9 : n0 ≤ Tr15.heap.size := Nat.le_trans Z_8 Kr15.1
            obtain ⟨_, Tr16, Lr16, Xr16, hQr16, str16⟩ := ocallV Xr15 hx hZ zm4 zm4 hown (ww hw 36 rfl) (ww hw 37 rfl) (notFace_of_selects (args := #[]) (mvT hZ (ww hw 39 rfl))) (ww hw 39 rfl) (ww hw 38 rfl) (by decide) (ww hw 40 rfl) (ww hw 10 rfl) rfl f57 (rm6_27 l Z a0 hw [] b5 b1 Tr15.heap n0 Z_9 f59 f60) (st := [(.ref b5)]) rfl 0 rfl (by decide) (pc := 275) (Ls := (lc138 i0 i1 i2 i3 i4 i5 1 0 1 1 b1 b2 b3 u1 br5 br8 1 1 1)) hml rfl (lenOf pd_4 rfl) at_275 hby
            obtain ⟨rfl, Nr16q, er16⟩ := hQr16
            have N14 := Fr.app N13 Nr16q
            refine own_go (U' := Tr16.setTop (mkF m 278 (lc138 i0 i1 i2 i3 i4 i5 1 0 1 1 b1 b2 b3 u1 br5 br8 1 1 1) [(.int 0)])) (fun t k => oicN Xr14 hx hby at_260 (by decide) (oiconst Xr14 hx hby at_263 (ogoto (pc := 264) Xr14 hx hby at_264 268 (by decide) (oistore Xr14 hx hby at_268 (lc138 i0 i1 i2 i3 i4 i5 1 0 1 1 b1 b2 b3 u1 br5 br8 1 1 1) rfl (oaload Xr14 hx hby at_270 rfl rfl (str15 _ (str16 _ k))))))) ?_
            have f62 : Exa Z Tr15.heap br5 zs8 := (f53.keep Kr15)
            have f63 : Fld Z Tr15.heap br5 zs8 "unit" zs1 (.ref u1) := (f54.keep Kr15 nin0)
            have f64 : Fld Z Tr15.heap br5 zs8 "last" zs9 .null := ((f40.keep Kr13 nin0).keep Kr15 nin0)
            have f65 : Sta Z Tr15.heap zs4 "MIDDLE" zs5 (.ref w2) := (own_staK f56 Kr15 all0)
            obtain ⟨_, Tr17, Lr17, Xr17, hQr17, str17⟩ := ocallV Xr16 hx hZ zm8 zm8 hown (ww hw 58 rfl) (ww hw 59 rfl) (notFace_of_selects (args := #[]) (mvT hZ (ww hw 61 rfl))) (ww hw 61 rfl) (ww hw 60 rfl) (by decide) (ww hw 62 rfl) (ww hw 10 rfl) er16 f62 (rm10_16 l Z a0 hw [] br5 u1 w2 Tr15.heap n0 Z_9 f63 f64 f65) (st := [(.ref br5)]) rfl 0 rfl (by decide) (pc := 290) (Ls := (lc139 i0 i1 i2 i3 i4 i5 1 0 1 1 b1 b2 b3 u1 br5 br8 1 1 1 1)) hml rfl (lenOf pd_7 rfl) at_290 hby
            obtain ⟨b6, rfl, Nr17q, Kr17, sz3, f66, f67, f68, f69, f70⟩ := hQr17
            have N15 := Fr.app N14 Nr17q
            have Z_10 : n0 ≤ Tr17.heap.size := Nat.le_trans Z_9 Kr17.1
            obtain ⟨_, Tr18, Lr18, Xr18, hQr18, str18⟩ := ocallV Xr17 hx hZ zm4 zm4 hown (ww hw 36 rfl) (ww hw 37 rfl) (notFace_of_selects (args := #[]) (mvT hZ (ww hw 39 rfl))) (ww hw 39 rfl) (ww hw 38 rfl) (by decide) (ww hw 40 rfl) (ww hw 10 rfl) rfl f66 (rm6_12 l Z a0 hw [] b6 Tr17.heap n0 Z_10 f68) (st := [(.ref b6)]) rfl 0 rfl (by decide) (pc := 293) (Ls := (lc139 i0 i1 i2 i3 i4 i5 1 0 1 1 b1 b2 b3 u1 br5 br8 1 1 1 1)) hml rfl (lenOf pd_4 rfl) at_293 hby
            obtain ⟨rfl, Nr18q, er18⟩ := hQr18
            have N16 := Fr.app N15 Nr18q
            refine own_go (U' := Tr18.setTop (mkF m 296 (lc139 i0 i1 i2 i3 i4 i5 1 0 1 1 b1 b2 b3 u1 br5 br8 1 1 1 1) [(.int 0)])) (fun t k => oifN Xr16 hx hby at_278 (by decide) (oiconst Xr16 hx hby at_281 (ogoto (pc := 282) Xr16 hx hby at_282 286 (by decide) (oistore Xr16 hx hby at_286 (lc139 i0 i1 i2 i3 i4 i5 1 0 1 1 b1 b2 b3 u1 br5 br8 1 1 1 1) rfl (oaload Xr16 hx hby at_288 rfl rfl (str17 _ (str18 _ k))))))) ?_
            refine own_go (U' := Tr18.setTop (mkF m 308 (lc140 i0 i1 i2 i3 i4 i5 1 0 1 1 b1 b2 b3 u1 br5 br8 1 1 1 1 1) [(.int 1)])) (fun t k => oifN Xr18 hx hby at_296 (by decide) (oiconst Xr18 hx hby at_299 (ogoto (pc := 300) Xr18 hx hby at_300 304 (by decide) (oistore Xr18 hx hby at_304 (lc140 i0 i1 i2 i3 i4 i5 1 0 1 1 b1 b2 b3 u1 br5 br8 1 1 1 1 1) rfl (oiload Xr18 hx hby at_306 rfl k))))) ?_
            refine own_go (U' := Tr18.setTop (mkF m 313 (lc140 i0 i1 i2 i3 i4 i5 1 0 1 1 b1 b2 b3 u1 br5 br8 1 1 1 1 1) [(.int 1)])) (fun t k => oifN Xr18 hx hby at_308 (by decide) (oiload Xr18 hx hby at_311 rfl k)) ?_
            refine own_go (U' := Tr18.setTop (mkF m 318 (lc140 i0 i1 i2 i3 i4 i5 1 0 1 1 b1 b2 b3 u1 br5 br8 1 1 1 1 1) [(.int 1)])) (fun t k => oifN Xr18 hx hby at_313 (by decide) (oiload Xr18 hx hby at_316 rfl k)) ?_
            refine own_go (U' := Tr18.setTop (mkF m 323 (lc140 i0 i1 i2 i3 i4 i5 1 0 1 1 b1 b2 b3 u1 br5 br8 1 1 1 1 1) [(.int 1)])) (fun t k => oifN Xr18 hx hby at_318 (by decide) (oiload Xr18 hx hby at_321 rfl k)) ?_
            refine own_go (U' := Tr18.setTop (mkF m 328 (lc140 i0 i1 i2 i3 i4 i5 1 0 1 1 b1 b2 b3 u1 br5 br8 1 1 1 1 1) [(.int 1)])) (fun t k => oifN Xr18 hx hby at_323 (by decide) (oiload Xr18 hx hby at_326 rfl k)) ?_
            refine own_go (U' := Tr18.setTop (mkF m 336 (lc140 i0 i1 i2 i3 i4 i5 1 0 1 1 b1 b2 b3 u1 br5 br8 1 1 1 1 1) [(.int 1)])) (fun t k => oifN Xr18 hx hby at_328 (by decide) (oiconst Xr18 hx hby at_331 (ogoto (pc := 332) Xr18 hx hby at_332 336 (by decide) k))) ?_
            obtain ⟨fs, hr, hrun, hended, hW, hsame⟩ := Xr18.leave (v := some (.int 1)) (fun h => by rw [Bd.returns] at h; cases h)
            refine own_out ⟨_, _, ?_, hrun, hended, _, _, rfl, ?_, ⟨_, rfl⟩, hW, hsame.mono (by decide) (by decide)⟩
            · exact retN Xr18 hx (t := .boolean) Bd.returns (by simp) (hb hby at_336) hr
            · exact ⟨rfl, N16⟩
    · have hc6 : ¬ ((i0 &&& (2 : Int32)) = (0 : Int32)) := hk11
      refine own_go (U' := s₁.setTop (mkF m 29 (lc2 i0 i1 i2 i3 i4 i5 1 1) [(.int (i0 &&& (4 : Int32)))])) (fun t k => oifN X0 hx hby at_16 ((if0 _ _).trans (feq hc6).1) (oiconst X0 hx hby at_19 (ogoto (pc := 20) X0 hx hby at_20 24 (by decide) (oistore X0 hx hby at_24 (lc2 i0 i1 i2 i3 i4 i5 1 1) rfl (oiloadN X0 hx hby at_26 rfl (oiconst X0 hx hby at_27 (oiand X0 hx hby at_28 k))))))) ?_
      by_cases hk17 : (i0 &&& (4 : Int32)) = (0 : Int32)
      · have hc2 : (i0 &&& (4 : Int32)) = (0 : Int32) := hk17
        refine own_go (U' := s₁.setTop (mkF m 43 (lc3 i0 i1 i2 i3 i4 i5 1 1 0) [(.int (i0 &&& (8 : Int32)))])) (fun t k => oifY (pc := 29) X0 hx hby at_29 36 ((if0 _ _).trans (teq hc2).1) (by decide) (oiconst X0 hx hby at_36 (oistore X0 hx hby at_37 (lc3 i0 i1 i2 i3 i4 i5 1 1 0) rfl (oiloadN X0 hx hby at_39 rfl (obipush X0 hx hby at_40 (oiand X0 hx hby at_42 k)))))) ?_
        by_cases hk18 : (i0 &&& (8 : Int32)) = (0 : Int32)
        · have hc3 : (i0 &&& (8 : Int32)) = (0 : Int32) := hk18
          refine own_go (U' := s₁.setTop (mkF m 55 (lc4 i0 i1 i2 i3 i4 i5 1 1 0 0) [(.int 1)])) (fun t k => oifY (pc := 43) X0 hx hby at_43 50 ((if0 _ _).trans (teq hc3).1) (by decide) (oiconst X0 hx hby at_50 (oistore X0 hx hby at_51 (lc4 i0 i1 i2 i3 i4 i5 1 1 0 0) rfl (oiload X0 hx hby at_53 rfl k)))) ?_
          obtain ⟨_, Tr1, Lr1, Xr1, hQr1, str1⟩ := ocallS X0 hx hZ zm11 hown (ww hw 63 rfl) (ww hw 64 rfl) (by decide) (ww hw 66 rfl) (ww hw 65 rfl) e0 (mg11_22 l Z a0 hw [] i2 w8 h0 n0 Z0 S16 S18) (st := [(.long i2)]) rfl 0 rfl (by decide) (pc := 59) (Ls := (lc4 i0 i1 i2 i3 i4 i5 1 1 0 0)) hml rfl (lenOf pd_9 rfl) at_59 hby
          obtain ⟨b1, rfl, Nr1q, Kr1, f1, f2⟩ := hQr1
          have N1 := Fr.app N0 Nr1q
          refine own_go (U' := Tr1.setTop (mkF m 70 (lc101 i0 i1 i2 i3 i4 i5 1 1 0 0 b1) [(.int 1)])) (fun t k => oifN X0 hx hby at_55 (by decide) (olloadN X0 hx hby at_58 rfl (str1 _ (ogoto (pc := 62) Xr1 hx hby at_62 66 (by decide) (oastore Xr1 hx hby at_66 (lc101 i0 i1 i2 i3 i4 i5 1 1 0 0 b1) rfl rfl (oiload Xr1 hx hby at_68 rfl k)))))) ?_
          have f3 : Sta Z Tr1.heap zs19 "cache" zs20 (.ref w8) := (own_staK S16 Kr1 all0)
          have f4 : own_LC Z Tr1.heap w8 n0 := (S18.keep Kr1 all0)
          have Z_1 : n0 ≤ Tr1.heap.size := Nat.le_trans Z0 Kr1.1
          obtain ⟨_, Tr2, Lr2, Xr2, hQr2, str2⟩ := ocallS Xr1 hx hZ zm11 hown (ww hw 63 rfl) (ww hw 64 rfl) (by decide) (ww hw 66 rfl) (ww hw 65 rfl) rfl (mg11_22 l Z a0 hw [] i3 w8 Tr1.heap n0 Z_1 f3 f4) (st := [(.long i3)]) rfl 0 rfl (by decide) (pc := 75) (Ls := (lc101 i0 i1 i2 i3 i4 i5 1 1 0 0 b1)) hml rfl (lenOf pd_9 rfl) at_75 hby
          obtain ⟨b2, rfl, Nr2q, Kr2, f5, f6⟩ := hQr2
          have N2 := Fr.app N1 Nr2q
          refine own_go (U' := Tr2.setTop (mkF m 86 (lc141 i0 i1 i2 i3 i4 i5 1 1 0 0 b1 b2) [(.int 0)])) (fun t k => oifN Xr1 hx hby at_70 (by decide) (olload Xr1 hx hby at_73 rfl (str2 _ (ogoto (pc := 78) Xr2 hx hby at_78 82 (by decide) (oastore Xr2 hx hby at_82 (lc141 i0 i1 i2 i3 i4 i5 1 1 0 0 b1 b2) rfl rfl (oiload Xr2 hx hby at_84 rfl k)))))) ?_
          refine own_go (U' := Tr2.setTop (mkF m 102 (lc142 i0 i1 i2 i3 i4 i5 1 1 0 0 b1 b2) [(.int 0)])) (fun t k => oifY (pc := 86) Xr2 hx hby at_86 97 (by decide) (by decide) (onull Xr2 hx hby at_97 (oastore Xr2 hx hby at_98 (lc142 i0 i1 i2 i3 i4 i5 1 1 0 0 b1 b2) rfl rfl (oiload Xr2 hx hby at_100 rfl k)))) ?_
          have f7 : Sta Z Tr2.heap zs0 "DAY" zs1 (.ref w3) := (own_staK (own_staK S6 Kr1 all0) Kr2 all0)
          have f8 : Sta Z Tr2.heap zs0 "MONTH" zs1 (.ref w7) := (own_staK (own_staK S14 Kr1 all0) Kr2 all0)
          have f9 : Sta Z Tr2.heap zs0 "YEAR" zs1 (.ref w6) := (own_staK (own_staK S12 Kr1 all0) Kr2 all0)
          have f10 : Sta Z Tr2.heap zs0 "DECADE" zs1 (.ref w0) := (own_staK (own_staK S0 Kr1 all0) Kr2 all0)
          have f11 : Sta Z Tr2.heap zs0 "CENTURY" zs1 (.ref w5) := (own_staK (own_staK S10 Kr1 all0) Kr2 all0)
          have Z_2 : n0 ≤ Tr2.heap.size := Nat.le_trans Z_1 Kr2.1
          obtain ⟨_, Tr3, Lr3, Xr3, hQr3, str3⟩ := ocallS Xr2 hx hZ zm0 hown (ww hw 0 rfl) (ww hw 1 rfl) (by decide) (ww hw 3 rfl) (ww hw 2 rfl) rfl (mg1_5 l Z a0 hw [] i1 w3 w7 w6 w0 w5 Tr2.heap n0 Z_2 f7 f8 f9 f10 f11) (st := [(.int i1)]) rfl 0 rfl (by decide) (pc := 117) (Ls := (lc143 i0 i1 i2 i3 i4 i5 1 1 0 0 b1 b2)) hml rfl (lenOf pd_0 rfl) at_117 hby
          obtain ⟨rfl, Nr3q, er3⟩ := hQr3
          refine own_go (U' := Tr3.setTop (mkF m 120 (lc143 i0 i1 i2 i3 i4 i5 1 1 0 0 b1 b2) [(.ref (own_unit ((i1 &&& (2147483647 : Int32)) % (5 : Int32)) w3 w7 w6 w0 w5))])) (fun t k => oifY (pc := 102) Xr2 hx hby at_102 113 (by decide) (by decide) (onull Xr2 hx hby at_113 (oastore Xr2 hx hby at_114 (lc143 i0 i1 i2 i3 i4 i5 1 1 0 0 b1 b2) rfl rfl (oiloadN Xr2 hx hby at_116 rfl (str3 _ k))))) ?_
          obtain ⟨u1, hu1⟩ : ∃ z, z = (own_unit ((i1 &&& (2147483647 : Int32)) % (5 : Int32)) w3 w7 w6 w0 w5) := ⟨_, rfl⟩
          rw [← hu1]
          have N3 := Fr.app N2 Nr3q
          obtain ⟨Tr4, hr4, Xr4, er4, Er4, Ar4, Dr4, -, str4⟩ := newO Xr3 hx hZ hown (ww hw 8 rfl) (ww hw 9 rfl) (ww hw 10 rfl) er3 (g := (mkF m 122 (lc144 i0 i1 i2 i3 i4 i5 1 1 0 0 b1 b2 u1) [])) rfl (hb hby at_122) (by decide) (by decide)
          obtain ⟨br4, gr4⟩ : ∃ z, z = Tr2.heap.size := ⟨_, rfl⟩
          rw [← gr4] at Ar4 Dr4 str4
          have f12 : Fld Z hr4 br4 zs8 "unit" zs1 .null := Dr4 (Or.inr (ww hw 29 rfl)) (ty := (.object zs0)) (by decide)
          have f13 : Fld Z hr4 br4 zs8 "first" zs9 .null := Dr4 (Or.inr (ww hw 31 rfl)) (ty := (.object zs11)) (by decide)
          have f14 : Fld Z hr4 br4 zs8 "last" zs9 .null := Dr4 (Or.inr (ww hw 33 rfl)) (ty := (.object zs11)) (by decide)
          have f15 : Fld Z hr4 br4 zs8 "anchor" zs5 .null := Dr4 (Or.inr (ww hw 35 rfl)) (ty := (.object zs4)) (by decide)
          have f16 : Sta Z hr4 zs4 "FIRST" zs5 (.ref w1) := (Sta.ext Er4 (own_staK (own_staK S2 Kr1 all0) Kr2 all0))
          have f17 : Sta Z hr4 zs4 "MIDDLE" zs5 (.ref w2) := (Sta.ext Er4 (own_staK (own_staK S4 Kr1 all0) Kr2 all0))
          have f18 : Sta Z hr4 zs4 "LAST" zs5 (.ref w4) := (Sta.ext Er4 (own_staK (own_staK S8 Kr1 all0) Kr2 all0))
          have Z_3 : n0 ≤ hr4.size := Nat.le_trans Z_2 Er4.1
          obtain ⟨_, Tr5, Lr5, Xr5, hQr5, str5⟩ := ocallS Xr4 hx hZ zm1 hown (ww hw 11 rfl) (ww hw 12 rfl) (by decide) (ww hw 13 rfl) (ww hw 2 rfl) er4 (mg2_9 l Z a0 hw [] ((i0.toUInt32 >>> ((4 : Int32) &&& 31).toUInt32).toInt32) w1 w2 w4 hr4 n0 Z_3 f16 f17 f18) (st := [(.int ((i0.toUInt32 >>> ((4 : Int32) &&& 31).toUInt32).toInt32)), (.ref b2), (.ref b1), (.ref u1), (.ref br4), (.ref br4)]) rfl 5 rfl (by decide) (pc := 135) (Ls := (lc144 i0 i1 i2 i3 i4 i5 1 1 0 0 b1 b2 u1)) hml rfl (lenOf pd_1 rfl) at_135 hby
          obtain ⟨rfl, Nr5q, er5⟩ := hQr5
          refine own_go (U' := Tr5.setTop (mkF m 138 (lc144 i0 i1 i2 i3 i4 i5 1 1 0 0 b1 b2 u1) [(.ref (own_anch (((i0.toUInt32 >>> ((4 : Int32) &&& 31).toUInt32).toInt32) &&& (3 : Int32)) w1 w2 w4)), (.ref b2), (.ref b1), (.ref u1), (.ref br4), (.ref br4)])) (fun t k => oastore Xr3 hx hby at_120 (lc144 i0 i1 i2 i3 i4 i5 1 1 0 0 b1 b2 u1) rfl rfl (str4 _ (odup Xr4 hx hby at_125 rfl (oaload Xr4 hx hby at_126 rfl rfl (oaload Xr4 hx hby at_128 rfl rfl (oaload Xr4 hx hby at_130 rfl rfl (oiloadN Xr4 hx hby at_132 rfl (oiconst Xr4 hx hby at_133 (oiushr Xr4 hx hby at_134 (str5 _ k)))))))))) ?_
          obtain ⟨u2, hu2⟩ : ∃ z, z = (own_anch (((i0.toUInt32 >>> ((4 : Int32) &&& 31).toUInt32).toInt32) &&& (3 : Int32)) w1 w2 w4) := ⟨_, rfl⟩
          rw [← hu2]
          have N4 := Fr.app N3 Nr5q
          have g1 : n0 ≤ br4 := Nat.le_trans Z_2 (Nat.le_of_eq gr4.symm)
          obtain ⟨_, Tr6, Lr6, Xr6, hQr6, str6⟩ := ocallI Xr5 hx hZ zm3 rfl hown (ww hw 17 rfl) (ww hw 18 rfl) (by decide) (ww hw 19 rfl) (ww hw 10 rfl) er5 (rm3_30 l Z a0 hw [] br4 u1 b1 b2 u2 hr4 n0 Z_3 f12 f13 f14 f15 Ar4 g1) (st := [(.ref u2), (.ref b2), (.ref b1), (.ref u1), (.ref br4), (.ref br4)]) rfl 1 rfl (by decide) (pc := 138) (Ls := (lc144 i0 i1 i2 i3 i4 i5 1 1 0 0 b1 b2 u1)) hml rfl (lenOf pd_3 rfl) at_138 hby
          obtain ⟨rfl, Nr6q, Kr6, f19, f20, f21, f22⟩ := hQr6
          have N5 := Fr.app N4 Nr6q
          obtain ⟨Tr7, hr7, Xr7, er7, Er7, Ar7, Dr7, -, str7⟩ := newO Xr6 hx hZ hown (ww hw 8 rfl) (ww hw 9 rfl) (ww hw 10 rfl) rfl (g := (mkF m 143 (lc145 i0 i1 i2 i3 i4 i5 1 1 0 0 b1 b2 u1 br4) [])) rfl (hb hby at_143) (by decide) (by decide)
          obtain ⟨br7, gr7⟩ : ∃ z, z = Tr6.heap.size := ⟨_, rfl⟩
          rw [← gr7] at Ar7 Dr7 str7
          have f23 : Fld Z hr7 br7 zs8 "unit" zs1 .null := Dr7 (Or.inr (ww hw 29 rfl)) (ty := (.object zs0)) (by decide)
          have f24 : Fld Z hr7 br7 zs8 "first" zs9 .null := Dr7 (Or.inr (ww hw 31 rfl)) (ty := (.object zs11)) (by decide)
          have f25 : Fld Z hr7 br7 zs8 "last" zs9 .null := Dr7 (Or.inr (ww hw 33 rfl)) (ty := (.object zs11)) (by decide)
          have f26 : Fld Z hr7 br7 zs8 "anchor" zs5 .null := Dr7 (Or.inr (ww hw 35 rfl)) (ty := (.object zs4)) (by decide)
          have f27 : Sta Z hr7 zs4 "FIRST" zs5 (.ref w1) := (Sta.ext Er7 (own_staK f16 Kr6 (allS (own_nsE Ar4) all0)))
          have f28 : Sta Z hr7 zs4 "MIDDLE" zs5 (.ref w2) := (Sta.ext Er7 (own_staK f17 Kr6 (allS (own_nsE Ar4) all0)))
          have f29 : Sta Z hr7 zs4 "LAST" zs5 (.ref w4) := (Sta.ext Er7 (own_staK f18 Kr6 (allS (own_nsE Ar4) all0)))
          have Z_4 : n0 ≤ Tr6.heap.size := Nat.le_trans Z_3 Kr6.1
          have Z_5 : n0 ≤ hr7.size := Nat.le_trans Z_4 Er7.1
          obtain ⟨_, Tr8, Lr8, Xr8, hQr8, str8⟩ := ocallS Xr7 hx hZ zm1 hown (ww hw 11 rfl) (ww hw 12 rfl) (by decide) (ww hw 13 rfl) (ww hw 2 rfl) er7 (mg2_9 l Z a0 hw [] ((i0.toUInt32 >>> ((6 : Int32) &&& 31).toUInt32).toInt32) w1 w2 w4 hr7 n0 Z_5 f27 f28 f29) (st := [(.int ((i0.toUInt32 >>> ((6 : Int32) &&& 31).toUInt32).toInt32)), .null, .null, (.ref u1), (.ref br7), (.ref br7)]) rfl 5 rfl (by decide) (pc := 157) (Ls := (lc145 i0 i1 i2 i3 i4 i5 1 1 0 0 b1 b2 u1 br4)) hml rfl (lenOf pd_1 rfl) at_157 hby
          obtain ⟨rfl, Nr8q, er8⟩ := hQr8
          refine own_go (U' := Tr8.setTop (mkF m 160 (lc145 i0 i1 i2 i3 i4 i5 1 1 0 0 b1 b2 u1 br4) [(.ref (own_anch (((i0.toUInt32 >>> ((6 : Int32) &&& 31).toUInt32).toInt32) &&& (3 : Int32)) w1 w2 w4)), .null, .null, (.ref u1), (.ref br7), (.ref br7)])) (fun t k => str6 _ (oastore Xr6 hx hby at_141 (lc145 i0 i1 i2 i3 i4 i5 1 1 0 0 b1 b2 u1 br4) rfl rfl (str7 _ (odup Xr7 hx hby at_146 rfl (oaload Xr7 hx hby at_147 rfl rfl (oaload Xr7 hx hby at_149 rfl rfl (oaload Xr7 hx hby at_151 rfl rfl (oiloadN Xr7 hx hby at_153 rfl (obipush Xr7 hx hby at_154 (oiushr Xr7 hx hby at_156 (str8 _ k))))))))))) ?_
          obtain ⟨u3, hu3⟩ : ∃ z, z = (own_anch (((i0.toUInt32 >>> ((6 : Int32) &&& 31).toUInt32).toInt32) &&& (3 : Int32)) w1 w2 w4) := ⟨_, rfl⟩
          rw [← hu3]
          have N6 := Fr.app N5 Nr8q
          have g2 : n0 ≤ br7 := Nat.le_trans Z_4 (Nat.le_of_eq gr7.symm)
          obtain ⟨_, Tr9, Lr9, Xr9, hQr9, str9⟩ := ocallI Xr8 hx hZ zm3 rfl hown (ww hw 17 rfl) (ww hw 18 rfl) (by decide) (ww hw 19 rfl) (ww hw 10 rfl) er8 (rm3_11 l Z a0 hw [] br7 u1 u3 hr7 n0 Z_5 f23 f24 f25 f26 Ar7 g2) (st := [(.ref u3), .null, .null, (.ref u1), (.ref br7), (.ref br7)]) rfl 1 rfl (by decide) (pc := 160) (Ls := (lc145 i0 i1 i2 i3 i4 i5 1 1 0 0 b1 b2 u1 br4)) hml rfl (lenOf pd_3 rfl) at_160 hby
          obtain ⟨rfl, Nr9q, Kr9, f30, f31, f32, f33⟩ := hQr9
          have N7 := Fr.app N6 Nr9q
          have f34 : Exa Z Tr9.heap br4 zs8 := ((Exa.ext Er7 (Ar4.keep Kr6)).keep Kr9)
          have ne1 : br4 ≠ br7 := Nat.ne_of_lt (Nat.lt_of_lt_of_le (f19.lt) (Nat.le_of_eq gr7.symm))
          have f35 : Fld Z Tr9.heap br4 zs8 "first" zs9 (.ref b1) := ((Fld.ext Er7 f20).keep Kr9 (ninS ne1 nin0))
          have f36 : Fld Z Tr9.heap br4 zs8 "last" zs9 (.ref b2) := ((Fld.ext Er7 f21).keep Kr9 (ninS ne1 nin0))
          have Z_6 : n0 ≤ Tr9.heap.size := Nat.le_trans Z_5 Kr9.1
          obtain ⟨_, Tr10, Lr10, Xr10, hQr10, str10⟩ := ocallV Xr9 hx hZ zm4 zm4 hown (ww hw 36 rfl) (ww hw 37 rfl) (notFace_of_selects (args := #[]) (mvT hZ (ww hw 39 rfl))) (ww hw 39 rfl) (ww hw 38 rfl) (by decide) (ww hw 40 rfl) (ww hw 10 rfl) rfl f34 (rm6_31 l Z a0 hw [] br4 b1 b2 Tr9.heap n0 Z_6 f35 f36) (st := [(.ref br4)]) rfl 0 rfl (by decide) (pc := 167) (Ls := (lc146 i0 i1 i2 i3 i4 i5 1 1 0 0 b1 b2 u1 br4 br7)) hml rfl (lenOf pd_4 rfl) at_167 hby
          obtain ⟨rfl, Nr10q, er10⟩ := hQr10
          have N8 := Fr.app N7 Nr10q
          refine own_go (U' := Tr10.setTop (mkF m 172 (lc146 i0 i1 i2 i3 i4 i5 1 1 0 0 b1 b2 u1 br4 br7) [(.int 1), (.int 1)])) (fun t k => str9 _ (oastore Xr9 hx hby at_163 (lc146 i0 i1 i2 i3 i4 i5 1 1 0 0 b1 b2 u1 br4 br7) rfl rfl (oaload Xr9 hx hby at_165 rfl rfl (str10 _ (oiload Xr10 hx hby at_170 rfl k))))) ?_
          refine own_go (U' := Tr10.setTop (mkF m 177 (lc146 i0 i1 i2 i3 i4 i5 1 1 0 0 b1 b2 u1 br4 br7) [(.int 1), (.int 1)])) (fun t k => oifN Xr10 hx hby at_172 (by decide) (oiload Xr10 hx hby at_175 rfl k)) ?_
          refine own_go (U' := Tr10.setTop (mkF m 185 (lc146 i0 i1 i2 i3 i4 i5 1 1 0 0 b1 b2 u1 br4 br7) [(.int 1), (.int 1)])) (fun t k => oifN Xr10 hx hby at_177 (by decide) (oiconst Xr10 hx hby at_180 (ogoto (pc := 181) Xr10 hx hby at_181 185 (by decide) k))) ?_
          have f37 : Exa Z Tr9.heap br7 zs8 := (Ar7.keep Kr9)
          obtain ⟨_, Tr11, Lr11, Xr11, hQr11, str11⟩ := ocallV Xr10 hx hZ zm4 zm4 hown (ww hw 36 rfl) (ww hw 37 rfl) (notFace_of_selects (args := #[]) (mvT hZ (ww hw 39 rfl))) (ww hw 39 rfl) (ww hw 38 rfl) (by decide) (ww hw 40 rfl) (ww hw 10 rfl) er10 f37 (rm6_12 l Z a0 hw [] br7 Tr9.heap n0 Z_6 f31) (st := [(.ref br7)]) rfl 0 rfl (by decide) (pc := 197) (Ls := (lc147 i0 i1 i2 i3 i4 i5 1 1 0 0 b1 b2 u1 br4 br7 1)) hml rfl (lenOf pd_4 rfl) at_197 hby
          obtain ⟨rfl, Nr11q, er11⟩ := hQr11
          have N9 := Fr.app N8 Nr11q
          refine own_go (U' := Tr11.setTop (mkF m 202 (lc147 i0 i1 i2 i3 i4 i5 1 1 0 0 b1 b2 u1 br4 br7 1) [(.int 0), (.int 0)])) (fun t k => oicN Xr10 hx hby at_185 (by decide) (oiconst Xr10 hx hby at_188 (ogoto (pc := 189) Xr10 hx hby at_189 193 (by decide) (oistore Xr10 hx hby at_193 (lc147 i0 i1 i2 i3 i4 i5 1 1 0 0 b1 b2 u1 br4 br7 1) rfl (oaload Xr10 hx hby at_195 rfl rfl (str11 _ (oiload Xr11 hx hby at_200 rfl k))))))) ?_
          refine own_go (U' := Tr11.setTop (mkF m 215 (lc147 i0 i1 i2 i3 i4 i5 1 1 0 0 b1 b2 u1 br4 br7 1) [(.int 0), (.int 0)])) (fun t k => oifY (pc := 202) Xr11 hx hby at_202 214 (by decide) (by decide) (oiconst Xr11 hx hby at_214 k)) ?_
          have f38 : Fld Z Tr9.heap br4 zs8 "unit" zs1 (.ref u1) := ((Fld.ext Er7 f19).keep Kr9 (ninS ne1 nin0))
          have f39 : Sta Z Tr9.heap zs4 "MIDDLE" zs5 (.ref w2) := (own_staK f28 Kr9 (allS (own_nsF f23) all0))
          obtain ⟨_, Tr12, Lr12, Xr12, hQr12, str12⟩ := ocallV Xr11 hx hZ zm6 zm6 hown (ww hw 41 rfl) (ww hw 42 rfl) (notFace_of_selects (args := #[]) (mvT hZ (ww hw 44 rfl))) (ww hw 44 rfl) (ww hw 43 rfl) (by decide) (ww hw 45 rfl) (ww hw 10 rfl) er11 f34 (rm7_49 l Z a0 hw [] br4 br7 b1 b2 u1 w2 Tr9.heap n0 Z_6 f35 f31 f36 f32 f38 f39) (st := [(.ref br7), (.ref br4)]) rfl 0 rfl (by decide) (pc := 229) (Ls := (lc148 i0 i1 i2 i3 i4 i5 1 1 0 0 b1 b2 u1 br4 br7 1 1)) hml rfl (lenOf pd_6 rfl) at_229 hby
          obtain ⟨b3, rfl, Nr12q, Kr12, sz1, f40, f41, f42, f43, f44⟩ := hQr12
          have N10 := Fr.app N9 Nr12q
          have Z_7 : n0 ≤ Tr12.heap.size := Nat.le_trans Z_6 Kr12.1
          obtain ⟨_, Tr13, Lr13, Xr13, hQr13, str13⟩ := ocallV Xr12 hx hZ zm4 zm4 hown (ww hw 36 rfl) (ww hw 37 rfl) (notFace_of_selects (args := #[]) (mvT hZ (ww hw 39 rfl))) (ww hw 39 rfl) (ww hw 38 rfl) (by decide) (ww hw 40 rfl) (ww hw 10 rfl) rfl f40 (rm6_31 l Z a0 hw [] b3 b1 b2 Tr12.heap n0 Z_7 f42 f43) (st := [(.ref b3)]) rfl 0 rfl (by decide) (pc := 232) (Ls := (lc148 i0 i1 i2 i3 i4 i5 1 1 0 0 b1 b2 u1 br4 br7 1 1)) hml rfl (lenOf pd_4 rfl) at_232 hby
          obtain ⟨rfl, Nr13q, er13⟩ := hQr13
          have N11 := Fr.app N10 Nr13q
          refine own_go (U' := Tr13.setTop (mkF m 237 (lc148 i0 i1 i2 i3 i4 i5 1 1 0 0 b1 b2 u1 br4 br7 1 1) [(.int 1), (.int 1)])) (fun t k => oicN Xr11 hx hby at_215 (by decide) (oiconst Xr11 hx hby at_218 (ogoto (pc := 219) Xr11 hx hby at_219 223 (by decide) (oistore Xr11 hx hby at_223 (lc148 i0 i1 i2 i3 i4 i5 1 1 0 0 b1 b2 u1 br4 br7 1 1) rfl (oaload Xr11 hx hby at_225 rfl rfl (oaload Xr11 hx hby at_227 rfl rfl (str12 _ (str13 _ (oiload Xr13 hx hby at_235 rfl k))))))))) ?_
          refine own_go (U' := Tr13.setTop (mkF m 247 (lc148 i0 i1 i2 i3 i4 i5 1 1 0 0 b1 b2 u1 br4 br7 1 1) [(.int 1), (.int 1)])) (fun t k => oifY (pc := 237) Xr13 hx hby at_237 245 (by decide) (by decide) (oiload Xr13 hx hby at_245 rfl k)) ?_
          refine own_go (U' := Tr13.setTop (mkF m 260 (lc148 i0 i1 i2 i3 i4 i5 1 1 0 0 b1 b2 u1 br4 br7 1 1) [(.int 1), (.int 1)])) (fun t k => oifY (pc := 247) Xr13 hx hby at_247 255 (by decide) (by decide) (oiconst Xr13 hx hby at_255 (ogoto (pc := 256) Xr13 hx hby at_256 260 (by decide) k))) ?_
          have f45 : Exa Z Tr12.heap br4 zs8 := (f34.keep Kr12)
          have f46 : Fld Z Tr12.heap br4 zs8 "unit" zs1 (.ref u1) := (f38.keep Kr12 nin0)
          have f47 : Fld Z Tr12.heap br4 zs8 "first" zs9 (.ref b1) := (f35.keep Kr12 nin0)
          have f48 : Sta Z Tr12.heap zs4 "MIDDLE" zs5 (.ref w2) := (own_staK f39 Kr12 all0)
          obtain ⟨_, Tr14, Lr14, Xr14, hQr14, str14⟩ := ocallV Xr13 hx hZ zm7 zm7 hown (ww hw 53 rfl) (ww hw 54 rfl) (notFace_of_selects (args := #[]) (mvT hZ (ww hw 56 rfl))) (ww hw 56 rfl) (ww hw 55 rfl) (by decide) (ww hw 57 rfl) (ww hw 10 rfl) er13 f45 (rm9_43 l Z a0 hw [] br4 u1 b1 w2 Tr12.heap n0 Z_7 f46 f47 f48) (st := [(.ref br4)]) rfl 0 rfl (by decide) (pc := 272) (Ls := (lc149 i0 i1 i2 i3 i4 i5 1 1 0 0 b1 b2 u1 br4 br7 1 1 1)) hml rfl (lenOf pd_7 rfl) at_272 hby
          obtain ⟨b4, rfl, Nr14q, Kr14, sz2, f49, f50, f51, f52, f53⟩ := hQr14
          have N12 := Fr.app N11 Nr14q
          have Z_8 : n0 ≤ Tr14.heap.size := Nat.le_trans Z_7 Kr14.1
          obtain ⟨_, Tr15, Lr15, Xr15, hQr15, str15⟩ := ocallV Xr14 hx hZ zm4 zm4 hown (ww hw 36 rfl) (ww hw 37 rfl) (notFace_of_selects (args := #[]) (mvT hZ (ww hw 39 rfl))) (ww hw 39 rfl) (ww hw 38 rfl) (by decide) (ww hw 40 rfl) (ww hw 10 rfl) rfl f49 (rm6_27 l Z a0 hw [] b4 b1 Tr14.heap n0 Z_8 f51 f52) (st := [(.ref b4)]) rfl 0 rfl (by decide) (pc := 275) (Ls := (lc149 i0 i1 i2 i3 i4 i5 1 1 0 0 b1 b2 u1 br4 br7 1 1 1)) hml rfl (lenOf pd_4 rfl) at_275 hby
          obtain ⟨rfl, Nr15q, er15⟩ := hQr15
          have N13 := Fr.app N12 Nr15q
          refine own_go (U' := Tr15.setTop (mkF m 278 (lc149 i0 i1 i2 i3 i4 i5 1 1 0 0 b1 b2 u1 br4 br7 1 1 1) [(.int 0)])) (fun t k => oicN Xr13 hx hby at_260 (by decide) (oiconst Xr13 hx hby at_263 (ogoto (pc := 264) Xr13 hx hby at_264 268 (by decide) (oistore Xr13 hx hby at_268 (lc149 i0 i1 i2 i3 i4 i5 1 1 0 0 b1 b2 u1 br4 br7 1 1 1) rfl (oaload Xr13 hx hby at_270 rfl rfl (str14 _ (str15 _ k))))))) ?_
          have f54 : Exa Z Tr14.heap br4 zs8 := (f45.keep Kr14)
          have f55 : Fld Z Tr14.heap br4 zs8 "unit" zs1 (.ref u1) := (f46.keep Kr14 nin0)
          have f56 : Fld Z Tr14.heap br4 zs8 "last" zs9 (.ref b2) := ((f36.keep Kr12 nin0).keep Kr14 nin0)
          have f57 : Sta Z Tr14.heap zs4 "MIDDLE" zs5 (.ref w2) := (own_staK f48 Kr14 all0)
          obtain ⟨_, Tr16, Lr16, Xr16, hQr16, str16⟩ := ocallV Xr15 hx hZ zm8 zm8 hown (ww hw 58 rfl) (ww hw 59 rfl) (notFace_of_selects (args := #[]) (mvT hZ (ww hw 61 rfl))) (ww hw 61 rfl) (ww hw 60 rfl) (by decide) (ww hw 62 rfl) (ww hw 10 rfl) er15 f54 (rm10_35 l Z a0 hw [] br4 u1 b2 w2 Tr14.heap n0 Z_8 f55 f56 f57) (st := [(.ref br4)]) rfl 0 rfl (by decide) (pc := 290) (Ls := (lc150 i0 i1 i2 i3 i4 i5 1 1 0 0 b1 b2 u1 br4 br7 1 1 1 1)) hml rfl (lenOf pd_7 rfl) at_290 hby
          obtain ⟨b5, rfl, Nr16q, Kr16, sz3, f58, f59, f60, f61, f62⟩ := hQr16
          have N14 := Fr.app N13 Nr16q
          have Z_9 : n0 ≤ Tr16.heap.size := Nat.le_trans Z_8 Kr16.1
          obtain ⟨_, Tr17, Lr17, Xr17, hQr17, str17⟩ := ocallV Xr16 hx hZ zm4 zm4 hown (ww hw 36 rfl) (ww hw 37 rfl) (notFace_of_selects (args := #[]) (mvT hZ (ww hw 39 rfl))) (ww hw 39 rfl) (ww hw 38 rfl) (by decide) (ww hw 40 rfl) (ww hw 10 rfl) rfl f58 (rm6_12 l Z a0 hw [] b5 Tr16.heap n0 Z_9 f60) (st := [(.ref b5)]) rfl 0 rfl (by decide) (pc := 293) (Ls := (lc150 i0 i1 i2 i3 i4 i5 1 1 0 0 b1 b2 u1 br4 br7 1 1 1 1)) hml rfl (lenOf pd_4 rfl) at_293 hby
          obtain ⟨rfl, Nr17q, er17⟩ := hQr17
          have N15 := Fr.app N14 Nr17q
          refine own_go (U' := Tr17.setTop (mkF m 296 (lc150 i0 i1 i2 i3 i4 i5 1 1 0 0 b1 b2 u1 br4 br7 1 1 1 1) [(.int 0)])) (fun t k => oifN Xr15 hx hby at_278 (by decide) (oiconst Xr15 hx hby at_281 (ogoto (pc := 282) Xr15 hx hby at_282 286 (by decide) (oistore Xr15 hx hby at_286 (lc150 i0 i1 i2 i3 i4 i5 1 1 0 0 b1 b2 u1 br4 br7 1 1 1 1) rfl (oaload Xr15 hx hby at_288 rfl rfl (str16 _ (str17 _ k))))))) ?_
          refine own_go (U' := Tr17.setTop (mkF m 308 (lc151 i0 i1 i2 i3 i4 i5 1 1 0 0 b1 b2 u1 br4 br7 1 1 1 1 1) [(.int 1)])) (fun t k => oifN Xr17 hx hby at_296 (by decide) (oiconst Xr17 hx hby at_299 (ogoto (pc := 300) Xr17 hx hby at_300 304 (by decide) (oistore Xr17 hx hby at_304 (lc151 i0 i1 i2 i3 i4 i5 1 1 0 0 b1 b2 u1 br4 br7 1 1 1 1 1) rfl (oiload Xr17 hx hby at_306 rfl k))))) ?_
          refine own_go (U' := Tr17.setTop (mkF m 313 (lc151 i0 i1 i2 i3 i4 i5 1 1 0 0 b1 b2 u1 br4 br7 1 1 1 1 1) [(.int 1)])) (fun t k => oifN Xr17 hx hby at_308 (by decide) (oiload Xr17 hx hby at_311 rfl k)) ?_
          refine own_go (U' := Tr17.setTop (mkF m 318 (lc151 i0 i1 i2 i3 i4 i5 1 1 0 0 b1 b2 u1 br4 br7 1 1 1 1 1) [(.int 1)])) (fun t k => oifN Xr17 hx hby at_313 (by decide) (oiload Xr17 hx hby at_316 rfl k)) ?_
          refine own_go (U' := Tr17.setTop (mkF m 323 (lc151 i0 i1 i2 i3 i4 i5 1 1 0 0 b1 b2 u1 br4 br7 1 1 1 1 1) [(.int 1)])) (fun t k => oifN Xr17 hx hby at_318 (by decide) (oiload Xr17 hx hby at_321 rfl k)) ?_
          refine own_go (U' := Tr17.setTop (mkF m 328 (lc151 i0 i1 i2 i3 i4 i5 1 1 0 0 b1 b2 u1 br4 br7 1 1 1 1 1) [(.int 1)])) (fun t k => oifN Xr17 hx hby at_323 (by decide) (oiload Xr17 hx hby at_326 rfl k)) ?_
          refine own_go (U' := Tr17.setTop (mkF m 336 (lc151 i0 i1 i2 i3 i4 i5 1 1 0 0 b1 b2 u1 br4 br7 1 1 1 1 1) [(.int 1)])) (fun t k => oifN Xr17 hx hby at_328 (by decide) (oiconst Xr17 hx hby at_331 (ogoto (pc := 332) Xr17 hx hby at_332 336 (by decide) k))) ?_
          obtain ⟨fs, hr, hrun, hended, hW, hsame⟩ := Xr17.leave (v := some (.int 1)) (fun h => by rw [Bd.returns] at h; cases h)
          refine own_out ⟨_, _, ?_, hrun, hended, _, _, rfl, ?_, ⟨_, rfl⟩, hW, hsame.mono (by decide) (by decide)⟩
          · exact retN Xr17 hx (t := .boolean) Bd.returns (by simp) (hb hby at_336) hr
          · exact ⟨rfl, N15⟩
        · have hc4 : ¬ ((i0 &&& (8 : Int32)) = (0 : Int32)) := hk18
          refine own_go (U' := s₁.setTop (mkF m 55 (lc4 i0 i1 i2 i3 i4 i5 1 1 0 1) [(.int 1)])) (fun t k => oifN X0 hx hby at_43 ((if0 _ _).trans (feq hc4).1) (oiconst X0 hx hby at_46 (ogoto (pc := 47) X0 hx hby at_47 51 (by decide) (oistore X0 hx hby at_51 (lc4 i0 i1 i2 i3 i4 i5 1 1 0 1) rfl (oiload X0 hx hby at_53 rfl k))))) ?_
          obtain ⟨_, Tr1, Lr1, Xr1, hQr1, str1⟩ := ocallS X0 hx hZ zm11 hown (ww hw 63 rfl) (ww hw 64 rfl) (by decide) (ww hw 66 rfl) (ww hw 65 rfl) e0 (mg11_22 l Z a0 hw [] i2 w8 h0 n0 Z0 S16 S18) (st := [(.long i2)]) rfl 0 rfl (by decide) (pc := 59) (Ls := (lc4 i0 i1 i2 i3 i4 i5 1 1 0 1)) hml rfl (lenOf pd_9 rfl) at_59 hby
          obtain ⟨b1, rfl, Nr1q, Kr1, f1, f2⟩ := hQr1
          have N1 := Fr.app N0 Nr1q
          refine own_go (U' := Tr1.setTop (mkF m 70 (lc101 i0 i1 i2 i3 i4 i5 1 1 0 1 b1) [(.int 1)])) (fun t k => oifN X0 hx hby at_55 (by decide) (olloadN X0 hx hby at_58 rfl (str1 _ (ogoto (pc := 62) Xr1 hx hby at_62 66 (by decide) (oastore Xr1 hx hby at_66 (lc101 i0 i1 i2 i3 i4 i5 1 1 0 1 b1) rfl rfl (oiload Xr1 hx hby at_68 rfl k)))))) ?_
          have f3 : Sta Z Tr1.heap zs19 "cache" zs20 (.ref w8) := (own_staK S16 Kr1 all0)
          have f4 : own_LC Z Tr1.heap w8 n0 := (S18.keep Kr1 all0)
          have Z_1 : n0 ≤ Tr1.heap.size := Nat.le_trans Z0 Kr1.1
          obtain ⟨_, Tr2, Lr2, Xr2, hQr2, str2⟩ := ocallS Xr1 hx hZ zm11 hown (ww hw 63 rfl) (ww hw 64 rfl) (by decide) (ww hw 66 rfl) (ww hw 65 rfl) rfl (mg11_22 l Z a0 hw [] i3 w8 Tr1.heap n0 Z_1 f3 f4) (st := [(.long i3)]) rfl 0 rfl (by decide) (pc := 75) (Ls := (lc101 i0 i1 i2 i3 i4 i5 1 1 0 1 b1)) hml rfl (lenOf pd_9 rfl) at_75 hby
          obtain ⟨b2, rfl, Nr2q, Kr2, f5, f6⟩ := hQr2
          have N2 := Fr.app N1 Nr2q
          refine own_go (U' := Tr2.setTop (mkF m 86 (lc141 i0 i1 i2 i3 i4 i5 1 1 0 1 b1 b2) [(.int 0)])) (fun t k => oifN Xr1 hx hby at_70 (by decide) (olload Xr1 hx hby at_73 rfl (str2 _ (ogoto (pc := 78) Xr2 hx hby at_78 82 (by decide) (oastore Xr2 hx hby at_82 (lc141 i0 i1 i2 i3 i4 i5 1 1 0 1 b1 b2) rfl rfl (oiload Xr2 hx hby at_84 rfl k)))))) ?_
          refine own_go (U' := Tr2.setTop (mkF m 102 (lc142 i0 i1 i2 i3 i4 i5 1 1 0 1 b1 b2) [(.int 1)])) (fun t k => oifY (pc := 86) Xr2 hx hby at_86 97 (by decide) (by decide) (onull Xr2 hx hby at_97 (oastore Xr2 hx hby at_98 (lc142 i0 i1 i2 i3 i4 i5 1 1 0 1 b1 b2) rfl rfl (oiload Xr2 hx hby at_100 rfl k)))) ?_
          have f7 : Sta Z Tr2.heap zs19 "cache" zs20 (.ref w8) := (own_staK f3 Kr2 all0)
          have f8 : own_LC Z Tr2.heap w8 n0 := (f4.keep Kr2 all0)
          have Z_2 : n0 ≤ Tr2.heap.size := Nat.le_trans Z_1 Kr2.1
          obtain ⟨_, Tr3, Lr3, Xr3, hQr3, str3⟩ := ocallS Xr2 hx hZ zm11 hown (ww hw 63 rfl) (ww hw 64 rfl) (by decide) (ww hw 66 rfl) (ww hw 65 rfl) rfl (mg11_22 l Z a0 hw [] i5 w8 Tr2.heap n0 Z_2 f7 f8) (st := [(.long i5)]) rfl 0 rfl (by decide) (pc := 107) (Ls := (lc142 i0 i1 i2 i3 i4 i5 1 1 0 1 b1 b2)) hml rfl (lenOf pd_9 rfl) at_107 hby
          obtain ⟨b3, rfl, Nr3q, Kr3, f9, f10⟩ := hQr3
          have N3 := Fr.app N2 Nr3q
          have f11 : Sta Z Tr3.heap zs0 "DAY" zs1 (.ref w3) := (own_staK (own_staK (own_staK S6 Kr1 all0) Kr2 all0) Kr3 all0)
          have f12 : Sta Z Tr3.heap zs0 "MONTH" zs1 (.ref w7) := (own_staK (own_staK (own_staK S14 Kr1 all0) Kr2 all0) Kr3 all0)
          have f13 : Sta Z Tr3.heap zs0 "YEAR" zs1 (.ref w6) := (own_staK (own_staK (own_staK S12 Kr1 all0) Kr2 all0) Kr3 all0)
          have f14 : Sta Z Tr3.heap zs0 "DECADE" zs1 (.ref w0) := (own_staK (own_staK (own_staK S0 Kr1 all0) Kr2 all0) Kr3 all0)
          have f15 : Sta Z Tr3.heap zs0 "CENTURY" zs1 (.ref w5) := (own_staK (own_staK (own_staK S10 Kr1 all0) Kr2 all0) Kr3 all0)
          have Z_3 : n0 ≤ Tr3.heap.size := Nat.le_trans Z_2 Kr3.1
          obtain ⟨_, Tr4, Lr4, Xr4, hQr4, str4⟩ := ocallS Xr3 hx hZ zm0 hown (ww hw 0 rfl) (ww hw 1 rfl) (by decide) (ww hw 3 rfl) (ww hw 2 rfl) rfl (mg1_5 l Z a0 hw [] i1 w3 w7 w6 w0 w5 Tr3.heap n0 Z_3 f11 f12 f13 f14 f15) (st := [(.int i1)]) rfl 0 rfl (by decide) (pc := 117) (Ls := (lc152 i0 i1 i2 i3 i4 i5 1 1 0 1 b1 b2 b3)) hml rfl (lenOf pd_0 rfl) at_117 hby
          obtain ⟨rfl, Nr4q, er4⟩ := hQr4
          refine own_go (U' := Tr4.setTop (mkF m 120 (lc152 i0 i1 i2 i3 i4 i5 1 1 0 1 b1 b2 b3) [(.ref (own_unit ((i1 &&& (2147483647 : Int32)) % (5 : Int32)) w3 w7 w6 w0 w5))])) (fun t k => oifN Xr2 hx hby at_102 (by decide) (olload Xr2 hx hby at_105 rfl (str3 _ (ogoto (pc := 110) Xr3 hx hby at_110 114 (by decide) (oastore Xr3 hx hby at_114 (lc152 i0 i1 i2 i3 i4 i5 1 1 0 1 b1 b2 b3) rfl rfl (oiloadN Xr3 hx hby at_116 rfl (str4 _ k))))))) ?_
          obtain ⟨u1, hu1⟩ : ∃ z, z = (own_unit ((i1 &&& (2147483647 : Int32)) % (5 : Int32)) w3 w7 w6 w0 w5) := ⟨_, rfl⟩
          rw [← hu1]
          have N4 := Fr.app N3 Nr4q
          obtain ⟨Tr5, hr5, Xr5, er5, Er5, Ar5, Dr5, -, str5⟩ := newO Xr4 hx hZ hown (ww hw 8 rfl) (ww hw 9 rfl) (ww hw 10 rfl) er4 (g := (mkF m 122 (lc153 i0 i1 i2 i3 i4 i5 1 1 0 1 b1 b2 b3 u1) [])) rfl (hb hby at_122) (by decide) (by decide)
          obtain ⟨br5, gr5⟩ : ∃ z, z = Tr3.heap.size := ⟨_, rfl⟩
          rw [← gr5] at Ar5 Dr5 str5
          have f16 : Fld Z hr5 br5 zs8 "unit" zs1 .null := Dr5 (Or.inr (ww hw 29 rfl)) (ty := (.object zs0)) (by decide)
          have f17 : Fld Z hr5 br5 zs8 "first" zs9 .null := Dr5 (Or.inr (ww hw 31 rfl)) (ty := (.object zs11)) (by decide)
          have f18 : Fld Z hr5 br5 zs8 "last" zs9 .null := Dr5 (Or.inr (ww hw 33 rfl)) (ty := (.object zs11)) (by decide)
          have f19 : Fld Z hr5 br5 zs8 "anchor" zs5 .null := Dr5 (Or.inr (ww hw 35 rfl)) (ty := (.object zs4)) (by decide)
          have f20 : Sta Z hr5 zs4 "FIRST" zs5 (.ref w1) := (Sta.ext Er5 (own_staK (own_staK (own_staK S2 Kr1 all0) Kr2 all0) Kr3 all0))
          have f21 : Sta Z hr5 zs4 "MIDDLE" zs5 (.ref w2) := (Sta.ext Er5 (own_staK (own_staK (own_staK S4 Kr1 all0) Kr2 all0) Kr3 all0))
          have f22 : Sta Z hr5 zs4 "LAST" zs5 (.ref w4) := (Sta.ext Er5 (own_staK (own_staK (own_staK S8 Kr1 all0) Kr2 all0) Kr3 all0))
          have Z_4 : n0 ≤ hr5.size := Nat.le_trans Z_3 Er5.1
          obtain ⟨_, Tr6, Lr6, Xr6, hQr6, str6⟩ := ocallS Xr5 hx hZ zm1 hown (ww hw 11 rfl) (ww hw 12 rfl) (by decide) (ww hw 13 rfl) (ww hw 2 rfl) er5 (mg2_9 l Z a0 hw [] ((i0.toUInt32 >>> ((4 : Int32) &&& 31).toUInt32).toInt32) w1 w2 w4 hr5 n0 Z_4 f20 f21 f22) (st := [(.int ((i0.toUInt32 >>> ((4 : Int32) &&& 31).toUInt32).toInt32)), (.ref b2), (.ref b1), (.ref u1), (.ref br5), (.ref br5)]) rfl 5 rfl (by decide) (pc := 135) (Ls := (lc153 i0 i1 i2 i3 i4 i5 1 1 0 1 b1 b2 b3 u1)) hml rfl (lenOf pd_1 rfl) at_135 hby
          obtain ⟨rfl, Nr6q, er6⟩ := hQr6
          refine own_go (U' := Tr6.setTop (mkF m 138 (lc153 i0 i1 i2 i3 i4 i5 1 1 0 1 b1 b2 b3 u1) [(.ref (own_anch (((i0.toUInt32 >>> ((4 : Int32) &&& 31).toUInt32).toInt32) &&& (3 : Int32)) w1 w2 w4)), (.ref b2), (.ref b1), (.ref u1), (.ref br5), (.ref br5)])) (fun t k => oastore Xr4 hx hby at_120 (lc153 i0 i1 i2 i3 i4 i5 1 1 0 1 b1 b2 b3 u1) rfl rfl (str5 _ (odup Xr5 hx hby at_125 rfl (oaload Xr5 hx hby at_126 rfl rfl (oaload Xr5 hx hby at_128 rfl rfl (oaload Xr5 hx hby at_130 rfl rfl (oiloadN Xr5 hx hby at_132 rfl (oiconst Xr5 hx hby at_133 (oiushr Xr5 hx hby at_134 (str6 _ k)))))))))) ?_
          obtain ⟨u2, hu2⟩ : ∃ z, z = (own_anch (((i0.toUInt32 >>> ((4 : Int32) &&& 31).toUInt32).toInt32) &&& (3 : Int32)) w1 w2 w4) := ⟨_, rfl⟩
          rw [← hu2]
          have N5 := Fr.app N4 Nr6q
          have g1 : n0 ≤ br5 := Nat.le_trans Z_3 (Nat.le_of_eq gr5.symm)
          obtain ⟨_, Tr7, Lr7, Xr7, hQr7, str7⟩ := ocallI Xr6 hx hZ zm3 rfl hown (ww hw 17 rfl) (ww hw 18 rfl) (by decide) (ww hw 19 rfl) (ww hw 10 rfl) er6 (rm3_30 l Z a0 hw [] br5 u1 b1 b2 u2 hr5 n0 Z_4 f16 f17 f18 f19 Ar5 g1) (st := [(.ref u2), (.ref b2), (.ref b1), (.ref u1), (.ref br5), (.ref br5)]) rfl 1 rfl (by decide) (pc := 138) (Ls := (lc153 i0 i1 i2 i3 i4 i5 1 1 0 1 b1 b2 b3 u1)) hml rfl (lenOf pd_3 rfl) at_138 hby
          obtain ⟨rfl, Nr7q, Kr7, f23, f24, f25, f26⟩ := hQr7
          have N6 := Fr.app N5 Nr7q
          obtain ⟨Tr8, hr8, Xr8, er8, Er8, Ar8, Dr8, -, str8⟩ := newO Xr7 hx hZ hown (ww hw 8 rfl) (ww hw 9 rfl) (ww hw 10 rfl) rfl (g := (mkF m 143 (lc154 i0 i1 i2 i3 i4 i5 1 1 0 1 b1 b2 b3 u1 br5) [])) rfl (hb hby at_143) (by decide) (by decide)
          obtain ⟨br8, gr8⟩ : ∃ z, z = Tr7.heap.size := ⟨_, rfl⟩
          rw [← gr8] at Ar8 Dr8 str8
          have f27 : Fld Z hr8 br8 zs8 "unit" zs1 .null := Dr8 (Or.inr (ww hw 29 rfl)) (ty := (.object zs0)) (by decide)
          have f28 : Fld Z hr8 br8 zs8 "first" zs9 .null := Dr8 (Or.inr (ww hw 31 rfl)) (ty := (.object zs11)) (by decide)
          have f29 : Fld Z hr8 br8 zs8 "last" zs9 .null := Dr8 (Or.inr (ww hw 33 rfl)) (ty := (.object zs11)) (by decide)
          have f30 : Fld Z hr8 br8 zs8 "anchor" zs5 .null := Dr8 (Or.inr (ww hw 35 rfl)) (ty := (.object zs4)) (by decide)
          have f31 : Sta Z hr8 zs4 "FIRST" zs5 (.ref w1) := (Sta.ext Er8 (own_staK f20 Kr7 (allS (own_nsE Ar5) all0)))
          have f32 : Sta Z hr8 zs4 "MIDDLE" zs5 (.ref w2) := (Sta.ext Er8 (own_staK f21 Kr7 (allS (own_nsE Ar5) all0)))
          have f33 : Sta Z hr8 zs4 "LAST" zs5 (.ref w4) := (Sta.ext Er8 (own_staK f22 Kr7 (allS (own_nsE Ar5) all0)))
          have Z_5 : n0 ≤ Tr7.heap.size := Nat.le_trans Z_4 Kr7.1
          have Z_6 : n0 ≤ hr8.size := Nat.le_trans Z_5 Er8.1
          obtain ⟨_, Tr9, Lr9, Xr9, hQr9, str9⟩ := ocallS Xr8 hx hZ zm1 hown (ww hw 11 rfl) (ww hw 12 rfl) (by decide) (ww hw 13 rfl) (ww hw 2 rfl) er8 (mg2_9 l Z a0 hw [] ((i0.toUInt32 >>> ((6 : Int32) &&& 31).toUInt32).toInt32) w1 w2 w4 hr8 n0 Z_6 f31 f32 f33) (st := [(.int ((i0.toUInt32 >>> ((6 : Int32) &&& 31).toUInt32).toInt32)), (.ref b3), .null, (.ref u1), (.ref br8), (.ref br8)]) rfl 5 rfl (by decide) (pc := 157) (Ls := (lc154 i0 i1 i2 i3 i4 i5 1 1 0 1 b1 b2 b3 u1 br5)) hml rfl (lenOf pd_1 rfl) at_157 hby
          obtain ⟨rfl, Nr9q, er9⟩ := hQr9
          refine own_go (U' := Tr9.setTop (mkF m 160 (lc154 i0 i1 i2 i3 i4 i5 1 1 0 1 b1 b2 b3 u1 br5) [(.ref (own_anch (((i0.toUInt32 >>> ((6 : Int32) &&& 31).toUInt32).toInt32) &&& (3 : Int32)) w1 w2 w4)), (.ref b3), .null, (.ref u1), (.ref br8), (.ref br8)])) (fun t k => str7 _ (oastore Xr7 hx hby at_141 (lc154 i0 i1 i2 i3 i4 i5 1 1 0 1 b1 b2 b3 u1 br5) rfl rfl (str8 _ (odup Xr8 hx hby at_146 rfl (oaload Xr8 hx hby at_147 rfl rfl (oaload Xr8 hx hby at_149 rfl rfl (oaload Xr8 hx hby at_151 rfl rfl (oiloadN Xr8 hx hby at_153 rfl (obipush Xr8 hx hby at_154 (oiushr Xr8 hx hby at_156 (str9 _ k))))))))))) ?_
          obtain ⟨u3, hu3⟩ : ∃ z, z = (own_anch (((i0.toUInt32 >>> ((6 : Int32) &&& 31).toUInt32).toInt32) &&& (3 : Int32)) w1 w2 w4) := ⟨_, rfl⟩
          rw [← hu3]
          have N7 := Fr.app N6 Nr9q
          have g2 : n0 ≤ br8 := Nat.le_trans Z_5 (Nat.le_of_eq gr8.symm)
          obtain ⟨_, Tr10, Lr10, Xr10, hQr10, str10⟩ := ocallI Xr9 hx hZ zm3 rfl hown (ww hw 17 rfl) (ww hw 18 rfl) (by decide) (ww hw 19 rfl) (ww hw 10 rfl) er9 (rm3_23 l Z a0 hw [] br8 u1 b3 u3 hr8 n0 Z_6 f27 f28 f29 f30 Ar8 g2) (st := [(.ref u3), (.ref b3), .null, (.ref u1), (.ref br8), (.ref br8)]) rfl 1 rfl (by decide) (pc := 160) (Ls := (lc154 i0 i1 i2 i3 i4 i5 1 1 0 1 b1 b2 b3 u1 br5)) hml rfl (lenOf pd_3 rfl) at_160 hby
          obtain ⟨rfl, Nr10q, Kr10, f34, f35, f36, f37⟩ := hQr10
          have N8 := Fr.app N7 Nr10q
          have f38 : Exa Z Tr10.heap br5 zs8 := ((Exa.ext Er8 (Ar5.keep Kr7)).keep Kr10)
          have ne1 : br5 ≠ br8 := Nat.ne_of_lt (Nat.lt_of_lt_of_le (f23.lt) (Nat.le_of_eq gr8.symm))
          have f39 : Fld Z Tr10.heap br5 zs8 "first" zs9 (.ref b1) := ((Fld.ext Er8 f24).keep Kr10 (ninS ne1 nin0))
          have f40 : Fld Z Tr10.heap br5 zs8 "last" zs9 (.ref b2) := ((Fld.ext Er8 f25).keep Kr10 (ninS ne1 nin0))
          have Z_7 : n0 ≤ Tr10.heap.size := Nat.le_trans Z_6 Kr10.1
          obtain ⟨_, Tr11, Lr11, Xr11, hQr11, str11⟩ := ocallV Xr10 hx hZ zm4 zm4 hown (ww hw 36 rfl) (ww hw 37 rfl) (notFace_of_selects (args := #[]) (mvT hZ (ww hw 39 rfl))) (ww hw 39 rfl) (ww hw 38 rfl) (by decide) (ww hw 40 rfl) (ww hw 10 rfl) rfl f38 (rm6_31 l Z a0 hw [] br5 b1 b2 Tr10.heap n0 Z_7 f39 f40) (st := [(.ref br5)]) rfl 0 rfl (by decide) (pc := 167) (Ls := (lc155 i0 i1 i2 i3 i4 i5 1 1 0 1 b1 b2 b3 u1 br5 br8)) hml rfl (lenOf pd_4 rfl) at_167 hby
          obtain ⟨rfl, Nr11q, er11⟩ := hQr11
          have N9 := Fr.app N8 Nr11q
          refine own_go (U' := Tr11.setTop (mkF m 172 (lc155 i0 i1 i2 i3 i4 i5 1 1 0 1 b1 b2 b3 u1 br5 br8) [(.int 1), (.int 1)])) (fun t k => str10 _ (oastore Xr10 hx hby at_163 (lc155 i0 i1 i2 i3 i4 i5 1 1 0 1 b1 b2 b3 u1 br5 br8) rfl rfl (oaload Xr10 hx hby at_165 rfl rfl (str11 _ (oiload Xr11 hx hby at_170 rfl k))))) ?_
          refine own_go (U' := Tr11.setTop (mkF m 177 (lc155 i0 i1 i2 i3 i4 i5 1 1 0 1 b1 b2 b3 u1 br5 br8) [(.int 1), (.int 1)])) (fun t k => oifN Xr11 hx hby at_172 (by decide) (oiload Xr11 hx hby at_175 rfl k)) ?_
          refine own_go (U' := Tr11.setTop (mkF m 185 (lc155 i0 i1 i2 i3 i4 i5 1 1 0 1 b1 b2 b3 u1 br5 br8) [(.int 1), (.int 1)])) (fun t k => oifN Xr11 hx hby at_177 (by decide) (oiconst Xr11 hx hby at_180 (ogoto (pc := 181) Xr11 hx hby at_181 185 (by decide) k))) ?_
          have f41 : Exa Z Tr10.heap br8 zs8 := (Ar8.keep Kr10)
          obtain ⟨_, Tr12, Lr12, Xr12, hQr12, str12⟩ := ocallV Xr11 hx hZ zm4 zm4 hown (ww hw 36 rfl) (ww hw 37 rfl) (notFace_of_selects (args := #[]) (mvT hZ (ww hw 39 rfl))) (ww hw 39 rfl) (ww hw 38 rfl) (by decide) (ww hw 40 rfl) (ww hw 10 rfl) er11 f41 (rm6_12 l Z a0 hw [] br8 Tr10.heap n0 Z_7 f35) (st := [(.ref br8)]) rfl 0 rfl (by decide) (pc := 197) (Ls := (lc156 i0 i1 i2 i3 i4 i5 1 1 0 1 b1 b2 b3 u1 br5 br8 1)) hml rfl (lenOf pd_4 rfl) at_197 hby
          obtain ⟨rfl, Nr12q, er12⟩ := hQr12
          have N10 := Fr.app N9 Nr12q
          refine own_go (U' := Tr12.setTop (mkF m 202 (lc156 i0 i1 i2 i3 i4 i5 1 1 0 1 b1 b2 b3 u1 br5 br8 1) [(.int 0), (.int 0)])) (fun t k => oicN Xr11 hx hby at_185 (by decide) (oiconst Xr11 hx hby at_188 (ogoto (pc := 189) Xr11 hx hby at_189 193 (by decide) (oistore Xr11 hx hby at_193 (lc156 i0 i1 i2 i3 i4 i5 1 1 0 1 b1 b2 b3 u1 br5 br8 1) rfl (oaload Xr11 hx hby at_195 rfl rfl (str12 _ (oiload Xr12 hx hby at_200 rfl k))))))) ?_
          refine own_go (U' := Tr12.setTop (mkF m 215 (lc156 i0 i1 i2 i3 i4 i5 1 1 0 1 b1 b2 b3 u1 br5 br8 1) [(.int 0), (.int 0)])) (fun t k => oifY (pc := 202) Xr12 hx hby at_202 214 (by decide) (by decide) (oiconst Xr12 hx hby at_214 k)) ?_
          have f42 : Exa Z Tr10.heap b3 zs11 := ((Exa.ext Er8 ((Exa.ext Er5 f9).keep Kr7)).keep Kr10)
          have ne2 : b3 ≠ br5 := Nat.ne_of_lt (Nat.lt_of_lt_of_le (f10.lt) (Nat.le_of_eq gr5.symm))
          have ne3 : b3 ≠ br8 := Nat.ne_of_lt (Nat.lt_of_lt_of_le (Nat.lt_of_lt_of_le (Nat.lt_of_lt_of_le (f10.lt) Er5.1) Kr7.1) (Nat.le_of_eq gr8.symm))
          have f43 : Fld Z Tr10.heap b3 zs11 "value" "J" (.long i5) := ((Fld.ext Er8 ((Fld.ext Er5 f10).keep Kr7 (ninS ne2 nin0))).keep Kr10 (ninS ne3 nin0))
          have f44 : Exa Z Tr10.heap b2 zs11 := ((Exa.ext Er8 ((Exa.ext Er5 (f5.keep Kr3)).keep Kr7)).keep Kr10)
          have ne4 : b2 ≠ br5 := Nat.ne_of_lt (Nat.lt_of_lt_of_le (Nat.lt_of_lt_of_le (f6.lt) Kr3.1) (Nat.le_of_eq gr5.symm))
          have ne5 : b2 ≠ br8 := Nat.ne_of_lt (Nat.lt_of_lt_of_le (Nat.lt_of_lt_of_le (Nat.lt_of_lt_of_le (Nat.lt_of_lt_of_le (f6.lt) Kr3.1) Er5.1) Kr7.1) (Nat.le_of_eq gr8.symm))
          have f45 : Fld Z Tr10.heap b2 zs11 "value" "J" (.long i3) := ((Fld.ext Er8 ((Fld.ext Er5 (f6.keep Kr3 nin0)).keep Kr7 (ninS ne4 nin0))).keep Kr10 (ninS ne5 nin0))
          have f46 : Fld Z Tr10.heap br5 zs8 "unit" zs1 (.ref u1) := ((Fld.ext Er8 f23).keep Kr10 (ninS ne1 nin0))
          have f47 : Sta Z Tr10.heap zs4 "MIDDLE" zs5 (.ref w2) := (own_staK f32 Kr10 (allS (own_nsF f27) all0))
          by_cases hk19 : i5 < i3
          · have hc7 : i5 < i3 := hk19
            obtain ⟨_, Tr13, Lr13, Xr13, hQr13, str13⟩ := ocallV Xr12 hx hZ zm6 zm6 hown (ww hw 41 rfl) (ww hw 42 rfl) (notFace_of_selects (args := #[]) (mvT hZ (ww hw 44 rfl))) (ww hw 44 rfl) (ww hw 43 rfl) (by decide) (ww hw 45 rfl) (ww hw 10 rfl) er12 f38 (rm7_50 l Z a0 hw [] br5 br8 b1 b2 b3 i5 i3 u1 w2 Tr10.heap n0 Z_7 f39 f35 f40 f36 f42 f43 f44 f45 hc7 f46 f47) (st := [(.ref br8), (.ref br5)]) rfl 0 rfl (by decide) (pc := 229) (Ls := (lc157 i0 i1 i2 i3 i4 i5 1 1 0 1 b1 b2 b3 u1 br5 br8 1 1)) hml rfl (lenOf pd_6 rfl) at_229 hby
            obtain ⟨b4, rfl, Nr13q, Kr13, sz1, f48, f49, f50, f51, f52⟩ := hQr13
            have N11 := Fr.app N10 Nr13q
            have Z_8 : n0 ≤ Tr13.heap.size := Nat.le_trans Z_7 Kr13.1
            obtain ⟨_, Tr14, Lr14, Xr14, hQr14, str14⟩ := ocallV Xr13 hx hZ zm4 zm4 hown (ww hw 36 rfl) (ww hw 37 rfl) (notFace_of_selects (args := #[]) (mvT hZ (ww hw 39 rfl))) (ww hw 39 rfl) (ww hw 38 rfl) (by decide) (ww hw 40 rfl) (ww hw 10 rfl) rfl f48 (rm6_31 l Z a0 hw [] b4 b1 b3 Tr13.heap n0 Z_8 f50 f51) (st := [(.ref b4)]) rfl 0 rfl (by decide) (pc := 232) (Ls := (lc157 i0 i1 i2 i3 i4 i5 1 1 0 1 b1 b2 b3 u1 br5 br8 1 1)) hml rfl (lenOf pd_4 rfl) at_232 hby
            obtain ⟨rfl, Nr14q, er14⟩ := hQr14
            have N12 := Fr.app N11 Nr14q
            refine own_go (U' := Tr14.setTop (mkF m 237 (lc157 i0 i1 i2 i3 i4 i5 1 1 0 1 b1 b2 b3 u1 br5 br8 1 1) [(.int 1), (.int 1)])) (fun t k => oicN Xr12 hx hby at_215 (by decide) (oiconst Xr12 hx hby at_218 (ogoto (pc := 219) Xr12 hx hby at_219 223 (by decide) (oistore Xr12 hx hby at_223 (lc157 i0 i1 i2 i3 i4 i5 1 1 0 1 b1 b2 b3 u1 br5 br8 1 1) rfl (oaload Xr12 hx hby at_225 rfl rfl (oaload Xr12 hx hby at_227 rfl rfl (str13 _ (str14 _ (oiload Xr14 hx hby at_235 rfl k))))))))) ?_
            refine own_go (U' := Tr14.setTop (mkF m 247 (lc157 i0 i1 i2 i3 i4 i5 1 1 0 1 b1 b2 b3 u1 br5 br8 1 1) [(.int 1), (.int 1)])) (fun t k => oifY (pc := 237) Xr14 hx hby at_237 245 (by decide) (by decide) (oiload Xr14 hx hby at_245 rfl k)) ?_
            refine own_go (U' := Tr14.setTop (mkF m 260 (lc157 i0 i1 i2 i3 i4 i5 1 1 0 1 b1 b2 b3 u1 br5 br8 1 1) [(.int 1), (.int 1)])) (fun t k => oifY (pc := 247) Xr14 hx hby at_247 255 (by decide) (by decide) (oiconst Xr14 hx hby at_255 (ogoto (pc := 256) Xr14 hx hby at_256 260 (by decide) k))) ?_
            have f53 : Exa Z Tr13.heap br5 zs8 := (f38.keep Kr13)
            have f54 : Fld Z Tr13.heap br5 zs8 "unit" zs1 (.ref u1) := (f46.keep Kr13 nin0)
            have f55 : Fld Z Tr13.heap br5 zs8 "first" zs9 (.ref b1) := (f39.keep Kr13 nin0)
            have f56 : Sta Z Tr13.heap zs4 "MIDDLE" zs5 (.ref w2) := (own_staK f47 Kr13 all0)
            obtain ⟨_, Tr15, Lr15, Xr15, hQr15, str15⟩ := ocallV Xr14 hx hZ zm7 zm7 hown (ww hw 53 rfl) (ww hw 54 rfl) (notFace_of_selects (args := #[]) (mvT hZ (ww hw 56 rfl))) (ww hw 56 rfl) (ww hw 55 rfl) (by decide) (ww hw 57 rfl) (ww hw 10 rfl) er14 f53 (rm9_43 l Z a0 hw [] br5 u1 b1 w2 Tr13.heap n0 Z_8 f54 f55 f56) (st := [(.ref br5)]) rfl 0 rfl (by decide) (pc := 272) (Ls := (lc158 i0 i1 i2 i3 i4 i5 1 1 0 1 b1 b2 b3 u1 br5 br8 1 1 1)) hml rfl (lenOf pd_7 rfl) at_272 hby
            obtain ⟨b5, rfl, Nr15q, Kr15, sz2, f57, f58, f59, f60, f61⟩ := hQr15
            have N13 := Fr.app N12 Nr15q
            have Z_9 : n0 ≤ Tr15.heap.size := Nat.le_trans Z_8 Kr15.1
            obtain ⟨_, Tr16, Lr16, Xr16, hQr16, str16⟩ := ocallV Xr15 hx hZ zm4 zm4 hown (ww hw 36 rfl) (ww hw 37 rfl) (notFace_of_selects (args := #[]) (mvT hZ (ww hw 39 rfl))) (ww hw 39 rfl) (ww hw 38 rfl) (by decide) (ww hw 40 rfl) (ww hw 10 rfl) rfl f57 (rm6_27 l Z a0 hw [] b5 b1 Tr15.heap n0 Z_9 f59 f60) (st := [(.ref b5)]) rfl 0 rfl (by decide) (pc := 275) (Ls := (lc158 i0 i1 i2 i3 i4 i5 1 1 0 1 b1 b2 b3 u1 br5 br8 1 1 1)) hml rfl (lenOf pd_4 rfl) at_275 hby
            obtain ⟨rfl, Nr16q, er16⟩ := hQr16
            have N14 := Fr.app N13 Nr16q
            refine own_go (U' := Tr16.setTop (mkF m 278 (lc158 i0 i1 i2 i3 i4 i5 1 1 0 1 b1 b2 b3 u1 br5 br8 1 1 1) [(.int 0)])) (fun t k => oicN Xr14 hx hby at_260 (by decide) (oiconst Xr14 hx hby at_263 (ogoto (pc := 264) Xr14 hx hby at_264 268 (by decide) (oistore Xr14 hx hby at_268 (lc158 i0 i1 i2 i3 i4 i5 1 1 0 1 b1 b2 b3 u1 br5 br8 1 1 1) rfl (oaload Xr14 hx hby at_270 rfl rfl (str15 _ (str16 _ k))))))) ?_
            have f62 : Exa Z Tr15.heap br5 zs8 := (f53.keep Kr15)
            have f63 : Fld Z Tr15.heap br5 zs8 "unit" zs1 (.ref u1) := (f54.keep Kr15 nin0)
            have f64 : Fld Z Tr15.heap br5 zs8 "last" zs9 (.ref b2) := ((f40.keep Kr13 nin0).keep Kr15 nin0)
            have f65 : Sta Z Tr15.heap zs4 "MIDDLE" zs5 (.ref w2) := (own_staK f56 Kr15 all0)
            obtain ⟨_, Tr17, Lr17, Xr17, hQr17, str17⟩ := ocallV Xr16 hx hZ zm8 zm8 hown (ww hw 58 rfl) (ww hw 59 rfl) (notFace_of_selects (args := #[]) (mvT hZ (ww hw 61 rfl))) (ww hw 61 rfl) (ww hw 60 rfl) (by decide) (ww hw 62 rfl) (ww hw 10 rfl) er16 f62 (rm10_35 l Z a0 hw [] br5 u1 b2 w2 Tr15.heap n0 Z_9 f63 f64 f65) (st := [(.ref br5)]) rfl 0 rfl (by decide) (pc := 290) (Ls := (lc159 i0 i1 i2 i3 i4 i5 1 1 0 1 b1 b2 b3 u1 br5 br8 1 1 1 1)) hml rfl (lenOf pd_7 rfl) at_290 hby
            obtain ⟨b6, rfl, Nr17q, Kr17, sz3, f66, f67, f68, f69, f70⟩ := hQr17
            have N15 := Fr.app N14 Nr17q
            have Z_10 : n0 ≤ Tr17.heap.size := Nat.le_trans Z_9 Kr17.1
            obtain ⟨_, Tr18, Lr18, Xr18, hQr18, str18⟩ := ocallV Xr17 hx hZ zm4 zm4 hown (ww hw 36 rfl) (ww hw 37 rfl) (notFace_of_selects (args := #[]) (mvT hZ (ww hw 39 rfl))) (ww hw 39 rfl) (ww hw 38 rfl) (by decide) (ww hw 40 rfl) (ww hw 10 rfl) rfl f66 (rm6_12 l Z a0 hw [] b6 Tr17.heap n0 Z_10 f68) (st := [(.ref b6)]) rfl 0 rfl (by decide) (pc := 293) (Ls := (lc159 i0 i1 i2 i3 i4 i5 1 1 0 1 b1 b2 b3 u1 br5 br8 1 1 1 1)) hml rfl (lenOf pd_4 rfl) at_293 hby
            obtain ⟨rfl, Nr18q, er18⟩ := hQr18
            have N16 := Fr.app N15 Nr18q
            refine own_go (U' := Tr18.setTop (mkF m 296 (lc159 i0 i1 i2 i3 i4 i5 1 1 0 1 b1 b2 b3 u1 br5 br8 1 1 1 1) [(.int 0)])) (fun t k => oifN Xr16 hx hby at_278 (by decide) (oiconst Xr16 hx hby at_281 (ogoto (pc := 282) Xr16 hx hby at_282 286 (by decide) (oistore Xr16 hx hby at_286 (lc159 i0 i1 i2 i3 i4 i5 1 1 0 1 b1 b2 b3 u1 br5 br8 1 1 1 1) rfl (oaload Xr16 hx hby at_288 rfl rfl (str17 _ (str18 _ k))))))) ?_
            refine own_go (U' := Tr18.setTop (mkF m 308 (lc160 i0 i1 i2 i3 i4 i5 1 1 0 1 b1 b2 b3 u1 br5 br8 1 1 1 1 1) [(.int 1)])) (fun t k => oifN Xr18 hx hby at_296 (by decide) (oiconst Xr18 hx hby at_299 (ogoto (pc := 300) Xr18 hx hby at_300 304 (by decide) (oistore Xr18 hx hby at_304 (lc160 i0 i1 i2 i3 i4 i5 1 1 0 1 b1 b2 b3 u1 br5 br8 1 1 1 1 1) rfl (oiload Xr18 hx hby at_306 rfl k))))) ?_
            refine own_go (U' := Tr18.setTop (mkF m 313 (lc160 i0 i1 i2 i3 i4 i5 1 1 0 1 b1 b2 b3 u1 br5 br8 1 1 1 1 1) [(.int 1)])) (fun t k => oifN Xr18 hx hby at_308 (by decide) (oiload Xr18 hx hby at_311 rfl k)) ?_
            refine own_go (U' := Tr18.setTop (mkF m 318 (lc160 i0 i1 i2 i3 i4 i5 1 1 0 1 b1 b2 b3 u1 br5 br8 1 1 1 1 1) [(.int 1)])) (fun t k => oifN Xr18 hx hby at_313 (by decide) (oiload Xr18 hx hby at_316 rfl k)) ?_
            refine own_go (U' := Tr18.setTop (mkF m 323 (lc160 i0 i1 i2 i3 i4 i5 1 1 0 1 b1 b2 b3 u1 br5 br8 1 1 1 1 1) [(.int 1)])) (fun t k => oifN Xr18 hx hby at_318 (by decide) (oiload Xr18 hx hby at_321 rfl k)) ?_
            refine own_go (U' := Tr18.setTop (mkF m 328 (lc160 i0 i1 i2 i3 i4 i5 1 1 0 1 b1 b2 b3 u1 br5 br8 1 1 1 1 1) [(.int 1)])) (fun t k => oifN Xr18 hx hby at_323 (by decide) (oiload Xr18 hx hby at_326 rfl k)) ?_
            refine own_go (U' := Tr18.setTop (mkF m 336 (lc160 i0 i1 i2 i3 i4 i5 1 1 0 1 b1 b2 b3 u1 br5 br8 1 1 1 1 1) [(.int 1)])) (fun t k => oifN Xr18 hx hby at_328 (by decide) (oiconst Xr18 hx hby at_331 (ogoto (pc := 332) Xr18 hx hby at_332 336 (by decide) k))) ?_
            obtain ⟨fs, hr, hrun, hended, hW, hsame⟩ := Xr18.leave (v := some (.int 1)) (fun h => by rw [Bd.returns] at h; cases h)
            refine own_out ⟨_, _, ?_, hrun, hended, _, _, rfl, ?_, ⟨_, rfl⟩, hW, hsame.mono (by decide) (by decide)⟩
            · exact retN Xr18 hx (t := .boolean) Bd.returns (by simp) (hb hby at_336) hr
            · exact ⟨rfl, N16⟩
          · have hc8 : ¬ (i5 < i3) := hk19
            obtain ⟨_, Tr13, Lr13, Xr13, hQr13, str13⟩ := ocallV Xr12 hx hZ zm6 zm6 hown (ww hw 41 rfl) (ww hw 42 rfl) (notFace_of_selects (args := #[]) (mvT hZ (ww hw 44 rfl))) (ww hw 44 rfl) (ww hw 43 rfl) (by decide) (ww hw 45 rfl) (ww hw 10 rfl) er12 f38 (rm7_51 l Z a0 hw [] br5 br8 b1 b2 b3 i5 i3 u1 w2 Tr10.heap n0 Z_7 f39 f35 f40 f36 f42 f43 f44 f45 hc8 f46 f47) (st := [(.ref br8), (.ref br5)]) rfl 0 rfl (by decide) (pc := 229) (Ls := (lc157 i0 i1 i2 i3 i4 i5 1 1 0 1 b1 b2 b3 u1 br5 br8 1 1)) hml rfl (lenOf pd_6 rfl) at_229 hby
            obtain ⟨b4, rfl, Nr13q, Kr13, sz1, f48, f49, f50, f51, f52⟩ := hQr13
            have N11 := Fr.app N10 Nr13q
            have Z_8 : n0 ≤ Tr13.heap.size := Nat.le_trans Z_7 Kr13.1
            obtain ⟨_, Tr14, Lr14, Xr14, hQr14, str14⟩ := ocallV Xr13 hx hZ zm4 zm4 hown (ww hw 36 rfl) (ww hw 37 rfl) (notFace_of_selects (args := #[]) (mvT hZ (ww hw 39 rfl))) (ww hw 39 rfl) (ww hw 38 rfl) (by decide) (ww hw 40 rfl) (ww hw 10 rfl) rfl f48 (rm6_31 l Z a0 hw [] b4 b1 b2 Tr13.heap n0 Z_8 f50 f51) (st := [(.ref b4)]) rfl 0 rfl (by decide) (pc := 232) (Ls := (lc157 i0 i1 i2 i3 i4 i5 1 1 0 1 b1 b2 b3 u1 br5 br8 1 1)) hml rfl (lenOf pd_4 rfl) at_232 hby
            obtain ⟨rfl, Nr14q, er14⟩ := hQr14
            have N12 := Fr.app N11 Nr14q
            refine own_go (U' := Tr14.setTop (mkF m 237 (lc157 i0 i1 i2 i3 i4 i5 1 1 0 1 b1 b2 b3 u1 br5 br8 1 1) [(.int 1), (.int 1)])) (fun t k => oicN Xr12 hx hby at_215 (by decide) (oiconst Xr12 hx hby at_218 (ogoto (pc := 219) Xr12 hx hby at_219 223 (by decide) (oistore Xr12 hx hby at_223 (lc157 i0 i1 i2 i3 i4 i5 1 1 0 1 b1 b2 b3 u1 br5 br8 1 1) rfl (oaload Xr12 hx hby at_225 rfl rfl (oaload Xr12 hx hby at_227 rfl rfl (str13 _ (str14 _ (oiload Xr14 hx hby at_235 rfl k))))))))) ?_
            refine own_go (U' := Tr14.setTop (mkF m 247 (lc157 i0 i1 i2 i3 i4 i5 1 1 0 1 b1 b2 b3 u1 br5 br8 1 1) [(.int 1), (.int 1)])) (fun t k => oifY (pc := 237) Xr14 hx hby at_237 245 (by decide) (by decide) (oiload Xr14 hx hby at_245 rfl k)) ?_
            refine own_go (U' := Tr14.setTop (mkF m 260 (lc157 i0 i1 i2 i3 i4 i5 1 1 0 1 b1 b2 b3 u1 br5 br8 1 1) [(.int 1), (.int 1)])) (fun t k => oifY (pc := 247) Xr14 hx hby at_247 255 (by decide) (by decide) (oiconst Xr14 hx hby at_255 (ogoto (pc := 256) Xr14 hx hby at_256 260 (by decide) k))) ?_
            have f53 : Exa Z Tr13.heap br5 zs8 := (f38.keep Kr13)
            have f54 : Fld Z Tr13.heap br5 zs8 "unit" zs1 (.ref u1) := (f46.keep Kr13 nin0)
            have f55 : Fld Z Tr13.heap br5 zs8 "first" zs9 (.ref b1) := (f39.keep Kr13 nin0)
            have f56 : Sta Z Tr13.heap zs4 "MIDDLE" zs5 (.ref w2) := (own_staK f47 Kr13 all0)
            obtain ⟨_, Tr15, Lr15, Xr15, hQr15, str15⟩ := ocallV Xr14 hx hZ zm7 zm7 hown (ww hw 53 rfl) (ww hw 54 rfl) (notFace_of_selects (args := #[]) (mvT hZ (ww hw 56 rfl))) (ww hw 56 rfl) (ww hw 55 rfl) (by decide) (ww hw 57 rfl) (ww hw 10 rfl) er14 f53 (rm9_43 l Z a0 hw [] br5 u1 b1 w2 Tr13.heap n0 Z_8 f54 f55 f56) (st := [(.ref br5)]) rfl 0 rfl (by decide) (pc := 272) (Ls := (lc158 i0 i1 i2 i3 i4 i5 1 1 0 1 b1 b2 b3 u1 br5 br8 1 1 1)) hml rfl (lenOf pd_7 rfl) at_272 hby
            obtain ⟨b5, rfl, Nr15q, Kr15, sz2, f57, f58, f59, f60, f61⟩ := hQr15
            have N13 := Fr.app N12 Nr15q
            have Z_9 : n0 ≤ Tr15.heap.size := Nat.le_trans Z_8 Kr15.1
            obtain ⟨_, Tr16, Lr16, Xr16, hQr16, str16⟩ := ocallV Xr15 hx hZ zm4 zm4 hown (ww hw 36 rfl) (ww hw 37 rfl) (notFace_of_selects (args := #[]) (mvT hZ (ww hw 39 rfl))) (ww hw 39 rfl) (ww hw 38 rfl) (by decide) (ww hw 40 rfl) (ww hw 10 rfl) rfl f57 (rm6_27 l Z a0 hw [] b5 b1 Tr15.heap n0 Z_9 f59 f60) (st := [(.ref b5)]) rfl 0 rfl (by decide) (pc := 275) (Ls := (lc158 i0 i1 i2 i3 i4 i5 1 1 0 1 b1 b2 b3 u1 br5 br8 1 1 1)) hml rfl (lenOf pd_4 rfl) at_275 hby
            obtain ⟨rfl, Nr16q, er16⟩ := hQr16
            have N14 := Fr.app N13 Nr16q
            refine own_go (U' := Tr16.setTop (mkF m 278 (lc158 i0 i1 i2 i3 i4 i5 1 1 0 1 b1 b2 b3 u1 br5 br8 1 1 1) [(.int 0)])) (fun t k => oicN Xr14 hx hby at_260 (by decide) (oiconst Xr14 hx hby at_263 (ogoto (pc := 264) Xr14 hx hby at_264 268 (by decide) (oistore Xr14 hx hby at_268 (lc158 i0 i1 i2 i3 i4 i5 1 1 0 1 b1 b2 b3 u1 br5 br8 1 1 1) rfl (oaload Xr14 hx hby at_270 rfl rfl (str15 _ (str16 _ k))))))) ?_
            have f62 : Exa Z Tr15.heap br5 zs8 := (f53.keep Kr15)
            have f63 : Fld Z Tr15.heap br5 zs8 "unit" zs1 (.ref u1) := (f54.keep Kr15 nin0)
            have f64 : Fld Z Tr15.heap br5 zs8 "last" zs9 (.ref b2) := ((f40.keep Kr13 nin0).keep Kr15 nin0)
            have f65 : Sta Z Tr15.heap zs4 "MIDDLE" zs5 (.ref w2) := (own_staK f56 Kr15 all0)
            obtain ⟨_, Tr17, Lr17, Xr17, hQr17, str17⟩ := ocallV Xr16 hx hZ zm8 zm8 hown (ww hw 58 rfl) (ww hw 59 rfl) (notFace_of_selects (args := #[]) (mvT hZ (ww hw 61 rfl))) (ww hw 61 rfl) (ww hw 60 rfl) (by decide) (ww hw 62 rfl) (ww hw 10 rfl) er16 f62 (rm10_35 l Z a0 hw [] br5 u1 b2 w2 Tr15.heap n0 Z_9 f63 f64 f65) (st := [(.ref br5)]) rfl 0 rfl (by decide) (pc := 290) (Ls := (lc159 i0 i1 i2 i3 i4 i5 1 1 0 1 b1 b2 b3 u1 br5 br8 1 1 1 1)) hml rfl (lenOf pd_7 rfl) at_290 hby
            obtain ⟨b6, rfl, Nr17q, Kr17, sz3, f66, f67, f68, f69, f70⟩ := hQr17
            have N15 := Fr.app N14 Nr17q
            have Z_10 : n0 ≤ Tr17.heap.size := Nat.le_trans Z_9 Kr17.1
            obtain ⟨_, Tr18, Lr18, Xr18, hQr18, str18⟩ := ocallV Xr17 hx hZ zm4 zm4 hown (ww hw 36 rfl) (ww hw 37 rfl) (notFace_of_selects (args := #[]) (mvT hZ (ww hw 39 rfl))) (ww hw 39 rfl) (ww hw 38 rfl) (by decide) (ww hw 40 rfl) (ww hw 10 rfl) rfl f66 (rm6_12 l Z a0 hw [] b6 Tr17.heap n0 Z_10 f68) (st := [(.ref b6)]) rfl 0 rfl (by decide) (pc := 293) (Ls := (lc159 i0 i1 i2 i3 i4 i5 1 1 0 1 b1 b2 b3 u1 br5 br8 1 1 1 1)) hml rfl (lenOf pd_4 rfl) at_293 hby
            obtain ⟨rfl, Nr18q, er18⟩ := hQr18
            have N16 := Fr.app N15 Nr18q
            refine own_go (U' := Tr18.setTop (mkF m 296 (lc159 i0 i1 i2 i3 i4 i5 1 1 0 1 b1 b2 b3 u1 br5 br8 1 1 1 1) [(.int 0)])) (fun t k => oifN Xr16 hx hby at_278 (by decide) (oiconst Xr16 hx hby at_281 (ogoto (pc := 282) Xr16 hx hby at_282 286 (by decide) (oistore Xr16 hx hby at_286 (lc159 i0 i1 i2 i3 i4 i5 1 1 0 1 b1 b2 b3 u1 br5 br8 1 1 1 1) rfl (oaload Xr16 hx hby at_288 rfl rfl (str17 _ (str18 _ k))))))) ?_
            refine own_go (U' := Tr18.setTop (mkF m 308 (lc160 i0 i1 i2 i3 i4 i5 1 1 0 1 b1 b2 b3 u1 br5 br8 1 1 1 1 1) [(.int 1)])) (fun t k => oifN Xr18 hx hby at_296 (by decide) (oiconst Xr18 hx hby at_299 (ogoto (pc := 300) Xr18 hx hby at_300 304 (by decide) (oistore Xr18 hx hby at_304 (lc160 i0 i1 i2 i3 i4 i5 1 1 0 1 b1 b2 b3 u1 br5 br8 1 1 1 1 1) rfl (oiload Xr18 hx hby at_306 rfl k))))) ?_
            refine own_go (U' := Tr18.setTop (mkF m 313 (lc160 i0 i1 i2 i3 i4 i5 1 1 0 1 b1 b2 b3 u1 br5 br8 1 1 1 1 1) [(.int 1)])) (fun t k => oifN Xr18 hx hby at_308 (by decide) (oiload Xr18 hx hby at_311 rfl k)) ?_
            refine own_go (U' := Tr18.setTop (mkF m 318 (lc160 i0 i1 i2 i3 i4 i5 1 1 0 1 b1 b2 b3 u1 br5 br8 1 1 1 1 1) [(.int 1)])) (fun t k => oifN Xr18 hx hby at_313 (by decide) (oiload Xr18 hx hby at_316 rfl k)) ?_
            refine own_go (U' := Tr18.setTop (mkF m 323 (lc160 i0 i1 i2 i3 i4 i5 1 1 0 1 b1 b2 b3 u1 br5 br8 1 1 1 1 1) [(.int 1)])) (fun t k => oifN Xr18 hx hby at_318 (by decide) (oiload Xr18 hx hby at_321 rfl k)) ?_
            refine own_go (U' := Tr18.setTop (mkF m 328 (lc160 i0 i1 i2 i3 i4 i5 1 1 0 1 b1 b2 b3 u1 br5 br8 1 1 1 1 1) [(.int 1)])) (fun t k => oifN Xr18 hx hby at_323 (by decide) (oiload Xr18 hx hby at_326 rfl k)) ?_
            refine own_go (U' := Tr18.setTop (mkF m 336 (lc160 i0 i1 i2 i3 i4 i5 1 1 0 1 b1 b2 b3 u1 br5 br8 1 1 1 1 1) [(.int 1)])) (fun t k => oifN Xr18 hx hby at_328 (by decide) (oiconst Xr18 hx hby at_331 (ogoto (pc := 332) Xr18 hx hby at_332 336 (by decide) k))) ?_
            obtain ⟨fs, hr, hrun, hended, hW, hsame⟩ := Xr18.leave (v := some (.int 1)) (fun h => by rw [Bd.returns] at h; cases h)
            refine own_out ⟨_, _, ?_, hrun, hended, _, _, rfl, ?_, ⟨_, rfl⟩, hW, hsame.mono (by decide) (by decide)⟩
            · exact retN Xr18 hx (t := .boolean) Bd.returns (by simp) (hb hby at_336) hr
            · exact ⟨rfl, N16⟩
      · have hc5 : ¬ ((i0 &&& (4 : Int32)) = (0 : Int32)) := hk17
        refine own_go (U' := s₁.setTop (mkF m 43 (lc3 i0 i1 i2 i3 i4 i5 1 1 1) [(.int (i0 &&& (8 : Int32)))])) (fun t k => oifN X0 hx hby at_29 ((if0 _ _).trans (feq hc5).1) (oiconst X0 hx hby at_32 (ogoto (pc := 33) X0 hx hby at_33 37 (by decide) (oistore X0 hx hby at_37 (lc3 i0 i1 i2 i3 i4 i5 1 1 1) rfl (oiloadN X0 hx hby at_39 rfl (obipush X0 hx hby at_40 (oiand X0 hx hby at_42 k))))))) ?_
        by_cases hk20 : (i0 &&& (8 : Int32)) = (0 : Int32)
        · have hc3 : (i0 &&& (8 : Int32)) = (0 : Int32) := hk20
          refine own_go (U' := s₁.setTop (mkF m 55 (lc4 i0 i1 i2 i3 i4 i5 1 1 1 0) [(.int 1)])) (fun t k => oifY (pc := 43) X0 hx hby at_43 50 ((if0 _ _).trans (teq hc3).1) (by decide) (oiconst X0 hx hby at_50 (oistore X0 hx hby at_51 (lc4 i0 i1 i2 i3 i4 i5 1 1 1 0) rfl (oiload X0 hx hby at_53 rfl k)))) ?_
          obtain ⟨_, Tr1, Lr1, Xr1, hQr1, str1⟩ := ocallS X0 hx hZ zm11 hown (ww hw 63 rfl) (ww hw 64 rfl) (by decide) (ww hw 66 rfl) (ww hw 65 rfl) e0 (mg11_22 l Z a0 hw [] i2 w8 h0 n0 Z0 S16 S18) (st := [(.long i2)]) rfl 0 rfl (by decide) (pc := 59) (Ls := (lc4 i0 i1 i2 i3 i4 i5 1 1 1 0)) hml rfl (lenOf pd_9 rfl) at_59 hby
          obtain ⟨b1, rfl, Nr1q, Kr1, f1, f2⟩ := hQr1
          have N1 := Fr.app N0 Nr1q
          refine own_go (U' := Tr1.setTop (mkF m 70 (lc101 i0 i1 i2 i3 i4 i5 1 1 1 0 b1) [(.int 1)])) (fun t k => oifN X0 hx hby at_55 (by decide) (olloadN X0 hx hby at_58 rfl (str1 _ (ogoto (pc := 62) Xr1 hx hby at_62 66 (by decide) (oastore Xr1 hx hby at_66 (lc101 i0 i1 i2 i3 i4 i5 1 1 1 0 b1) rfl rfl (oiload Xr1 hx hby at_68 rfl k)))))) ?_
          have f3 : Sta Z Tr1.heap zs19 "cache" zs20 (.ref w8) := (own_staK S16 Kr1 all0)
          have f4 : own_LC Z Tr1.heap w8 n0 := (S18.keep Kr1 all0)
          have Z_1 : n0 ≤ Tr1.heap.size := Nat.le_trans Z0 Kr1.1
          obtain ⟨_, Tr2, Lr2, Xr2, hQr2, str2⟩ := ocallS Xr1 hx hZ zm11 hown (ww hw 63 rfl) (ww hw 64 rfl) (by decide) (ww hw 66 rfl) (ww hw 65 rfl) rfl (mg11_22 l Z a0 hw [] i3 w8 Tr1.heap n0 Z_1 f3 f4) (st := [(.long i3)]) rfl 0 rfl (by decide) (pc := 75) (Ls := (lc101 i0 i1 i2 i3 i4 i5 1 1 1 0 b1)) hml rfl (lenOf pd_9 rfl) at_75 hby
          obtain ⟨b2, rfl, Nr2q, Kr2, f5, f6⟩ := hQr2
          have N2 := Fr.app N1 Nr2q
          refine own_go (U' := Tr2.setTop (mkF m 86 (lc141 i0 i1 i2 i3 i4 i5 1 1 1 0 b1 b2) [(.int 1)])) (fun t k => oifN Xr1 hx hby at_70 (by decide) (olload Xr1 hx hby at_73 rfl (str2 _ (ogoto (pc := 78) Xr2 hx hby at_78 82 (by decide) (oastore Xr2 hx hby at_82 (lc141 i0 i1 i2 i3 i4 i5 1 1 1 0 b1 b2) rfl rfl (oiload Xr2 hx hby at_84 rfl k)))))) ?_
          have f7 : Sta Z Tr2.heap zs19 "cache" zs20 (.ref w8) := (own_staK f3 Kr2 all0)
          have f8 : own_LC Z Tr2.heap w8 n0 := (f4.keep Kr2 all0)
          have Z_2 : n0 ≤ Tr2.heap.size := Nat.le_trans Z_1 Kr2.1
          obtain ⟨_, Tr3, Lr3, Xr3, hQr3, str3⟩ := ocallS Xr2 hx hZ zm11 hown (ww hw 63 rfl) (ww hw 64 rfl) (by decide) (ww hw 66 rfl) (ww hw 65 rfl) rfl (mg11_22 l Z a0 hw [] i4 w8 Tr2.heap n0 Z_2 f7 f8) (st := [(.long i4)]) rfl 0 rfl (by decide) (pc := 91) (Ls := (lc141 i0 i1 i2 i3 i4 i5 1 1 1 0 b1 b2)) hml rfl (lenOf pd_9 rfl) at_91 hby
          obtain ⟨b3, rfl, Nr3q, Kr3, f9, f10⟩ := hQr3
          have N3 := Fr.app N2 Nr3q
          refine own_go (U' := Tr3.setTop (mkF m 102 (lc161 i0 i1 i2 i3 i4 i5 1 1 1 0 b1 b2 b3) [(.int 0)])) (fun t k => oifN Xr2 hx hby at_86 (by decide) (olload Xr2 hx hby at_89 rfl (str3 _ (ogoto (pc := 94) Xr3 hx hby at_94 98 (by decide) (oastore Xr3 hx hby at_98 (lc161 i0 i1 i2 i3 i4 i5 1 1 1 0 b1 b2 b3) rfl rfl (oiload Xr3 hx hby at_100 rfl k)))))) ?_
          have f11 : Sta Z Tr3.heap zs0 "DAY" zs1 (.ref w3) := (own_staK (own_staK (own_staK S6 Kr1 all0) Kr2 all0) Kr3 all0)
          have f12 : Sta Z Tr3.heap zs0 "MONTH" zs1 (.ref w7) := (own_staK (own_staK (own_staK S14 Kr1 all0) Kr2 all0) Kr3 all0)
          have f13 : Sta Z Tr3.heap zs0 "YEAR" zs1 (.ref w6) := (own_staK (own_staK (own_staK S12 Kr1 all0) Kr2 all0) Kr3 all0)
          have f14 : Sta Z Tr3.heap zs0 "DECADE" zs1 (.ref w0) := (own_staK (own_staK (own_staK S0 Kr1 all0) Kr2 all0) Kr3 all0)
          have f15 : Sta Z Tr3.heap zs0 "CENTURY" zs1 (.ref w5) := (own_staK (own_staK (own_staK S10 Kr1 all0) Kr2 all0) Kr3 all0)
          have Z_3 : n0 ≤ Tr3.heap.size := Nat.le_trans Z_2 Kr3.1
          obtain ⟨_, Tr4, Lr4, Xr4, hQr4, str4⟩ := ocallS Xr3 hx hZ zm0 hown (ww hw 0 rfl) (ww hw 1 rfl) (by decide) (ww hw 3 rfl) (ww hw 2 rfl) rfl (mg1_5 l Z a0 hw [] i1 w3 w7 w6 w0 w5 Tr3.heap n0 Z_3 f11 f12 f13 f14 f15) (st := [(.int i1)]) rfl 0 rfl (by decide) (pc := 117) (Ls := (lc162 i0 i1 i2 i3 i4 i5 1 1 1 0 b1 b2 b3)) hml rfl (lenOf pd_0 rfl) at_117 hby
          obtain ⟨rfl, Nr4q, er4⟩ := hQr4
          refine own_go (U' := Tr4.setTop (mkF m 120 (lc162 i0 i1 i2 i3 i4 i5 1 1 1 0 b1 b2 b3) [(.ref (own_unit ((i1 &&& (2147483647 : Int32)) % (5 : Int32)) w3 w7 w6 w0 w5))])) (fun t k => oifY (pc := 102) Xr3 hx hby at_102 113 (by decide) (by decide) (onull Xr3 hx hby at_113 (oastore Xr3 hx hby at_114 (lc162 i0 i1 i2 i3 i4 i5 1 1 1 0 b1 b2 b3) rfl rfl (oiloadN Xr3 hx hby at_116 rfl (str4 _ k))))) ?_
          obtain ⟨u1, hu1⟩ : ∃ z, z = (own_unit ((i1 &&& (2147483647 : Int32)) % (5 : Int32)) w3 w7 w6 w0 w5) := ⟨_, rfl⟩
          rw [← hu1]
          have N4 := Fr.app N3 Nr4q
          obtain ⟨Tr5, hr5, Xr5, er5, Er5, Ar5, Dr5, -, str5⟩ := newO Xr4 hx hZ hown (ww hw 8 rfl) (ww hw 9 rfl) (ww hw 10 rfl) er4 (g := (mkF m 122 (lc163 i0 i1 i2 i3 i4 i5 1 1 1 0 b1 b2 b3 u1) [])) rfl (hb hby at_122) (by decide) (by decide)
          obtain ⟨br5, gr5⟩ : ∃ z, z = Tr3.heap.size := ⟨_, rfl⟩
          rw [← gr5] at Ar5 Dr5 str5
          have f16 : Fld Z hr5 br5 zs8 "unit" zs1 .null := Dr5 (Or.inr (ww hw 29 rfl)) (ty := (.object zs0)) (by decide)
          have f17 : Fld Z hr5 br5 zs8 "first" zs9 .null := Dr5 (Or.inr (ww hw 31 rfl)) (ty := (.object zs11)) (by decide)
          have f18 : Fld Z hr5 br5 zs8 "last" zs9 .null := Dr5 (Or.inr (ww hw 33 rfl)) (ty := (.object zs11)) (by decide)
          have f19 : Fld Z hr5 br5 zs8 "anchor" zs5 .null := Dr5 (Or.inr (ww hw 35 rfl)) (ty := (.object zs4)) (by decide)
          have f20 : Sta Z hr5 zs4 "FIRST" zs5 (.ref w1) := (Sta.ext Er5 (own_staK (own_staK (own_staK S2 Kr1 all0) Kr2 all0) Kr3 all0))
          have f21 : Sta Z hr5 zs4 "MIDDLE" zs5 (.ref w2) := (Sta.ext Er5 (own_staK (own_staK (own_staK S4 Kr1 all0) Kr2 all0) Kr3 all0))
          have f22 : Sta Z hr5 zs4 "LAST" zs5 (.ref w4) := (Sta.ext Er5 (own_staK (own_staK (own_staK S8 Kr1 all0) Kr2 all0) Kr3 all0))
          have Z_4 : n0 ≤ hr5.size := Nat.le_trans Z_3 Er5.1
          obtain ⟨_, Tr6, Lr6, Xr6, hQr6, str6⟩ := ocallS Xr5 hx hZ zm1 hown (ww hw 11 rfl) (ww hw 12 rfl) (by decide) (ww hw 13 rfl) (ww hw 2 rfl) er5 (mg2_9 l Z a0 hw [] ((i0.toUInt32 >>> ((4 : Int32) &&& 31).toUInt32).toInt32) w1 w2 w4 hr5 n0 Z_4 f20 f21 f22) (st := [(.int ((i0.toUInt32 >>> ((4 : Int32) &&& 31).toUInt32).toInt32)), (.ref b2), (.ref b1), (.ref u1), (.ref br5), (.ref br5)]) rfl 5 rfl (by decide) (pc := 135) (Ls := (lc163 i0 i1 i2 i3 i4 i5 1 1 1 0 b1 b2 b3 u1)) hml rfl (lenOf pd_1 rfl) at_135 hby
          obtain ⟨rfl, Nr6q, er6⟩ := hQr6
          refine own_go (U' := Tr6.setTop (mkF m 138 (lc163 i0 i1 i2 i3 i4 i5 1 1 1 0 b1 b2 b3 u1) [(.ref (own_anch (((i0.toUInt32 >>> ((4 : Int32) &&& 31).toUInt32).toInt32) &&& (3 : Int32)) w1 w2 w4)), (.ref b2), (.ref b1), (.ref u1), (.ref br5), (.ref br5)])) (fun t k => oastore Xr4 hx hby at_120 (lc163 i0 i1 i2 i3 i4 i5 1 1 1 0 b1 b2 b3 u1) rfl rfl (str5 _ (odup Xr5 hx hby at_125 rfl (oaload Xr5 hx hby at_126 rfl rfl (oaload Xr5 hx hby at_128 rfl rfl (oaload Xr5 hx hby at_130 rfl rfl (oiloadN Xr5 hx hby at_132 rfl (oiconst Xr5 hx hby at_133 (oiushr Xr5 hx hby at_134 (str6 _ k)))))))))) ?_
          obtain ⟨u2, hu2⟩ : ∃ z, z = (own_anch (((i0.toUInt32 >>> ((4 : Int32) &&& 31).toUInt32).toInt32) &&& (3 : Int32)) w1 w2 w4) := ⟨_, rfl⟩
          rw [← hu2]
          have N5 := Fr.app N4 Nr6q
          have g1 : n0 ≤ br5 := Nat.le_trans Z_3 (Nat.le_of_eq gr5.symm)
          obtain ⟨_, Tr7, Lr7, Xr7, hQr7, str7⟩ := ocallI Xr6 hx hZ zm3 rfl hown (ww hw 17 rfl) (ww hw 18 rfl) (by decide) (ww hw 19 rfl) (ww hw 10 rfl) er6 (rm3_30 l Z a0 hw [] br5 u1 b1 b2 u2 hr5 n0 Z_4 f16 f17 f18 f19 Ar5 g1) (st := [(.ref u2), (.ref b2), (.ref b1), (.ref u1), (.ref br5), (.ref br5)]) rfl 1 rfl (by decide) (pc := 138) (Ls := (lc163 i0 i1 i2 i3 i4 i5 1 1 1 0 b1 b2 b3 u1)) hml rfl (lenOf pd_3 rfl) at_138 hby
          obtain ⟨rfl, Nr7q, Kr7, f23, f24, f25, f26⟩ := hQr7
          have N6 := Fr.app N5 Nr7q
          obtain ⟨Tr8, hr8, Xr8, er8, Er8, Ar8, Dr8, -, str8⟩ := newO Xr7 hx hZ hown (ww hw 8 rfl) (ww hw 9 rfl) (ww hw 10 rfl) rfl (g := (mkF m 143 (lc164 i0 i1 i2 i3 i4 i5 1 1 1 0 b1 b2 b3 u1 br5) [])) rfl (hb hby at_143) (by decide) (by decide)
          obtain ⟨br8, gr8⟩ : ∃ z, z = Tr7.heap.size := ⟨_, rfl⟩
          rw [← gr8] at Ar8 Dr8 str8
          have f27 : Fld Z hr8 br8 zs8 "unit" zs1 .null := Dr8 (Or.inr (ww hw 29 rfl)) (ty := (.object zs0)) (by decide)
          have f28 : Fld Z hr8 br8 zs8 "first" zs9 .null := Dr8 (Or.inr (ww hw 31 rfl)) (ty := (.object zs11)) (by decide)
          have f29 : Fld Z hr8 br8 zs8 "last" zs9 .null := Dr8 (Or.inr (ww hw 33 rfl)) (ty := (.object zs11)) (by decide)
          have f30 : Fld Z hr8 br8 zs8 "anchor" zs5 .null := Dr8 (Or.inr (ww hw 35 rfl)) (ty := (.object zs4)) (by decide)
          have f31 : Sta Z hr8 zs4 "FIRST" zs5 (.ref w1) := (Sta.ext Er8 (own_staK f20 Kr7 (allS (own_nsE Ar5) all0)))
          have f32 : Sta Z hr8 zs4 "MIDDLE" zs5 (.ref w2) := (Sta.ext Er8 (own_staK f21 Kr7 (allS (own_nsE Ar5) all0)))
          have f33 : Sta Z hr8 zs4 "LAST" zs5 (.ref w4) := (Sta.ext Er8 (own_staK f22 Kr7 (allS (own_nsE Ar5) all0)))
          have Z_5 : n0 ≤ Tr7.heap.size := Nat.le_trans Z_4 Kr7.1
          have Z_6 : n0 ≤ hr8.size := Nat.le_trans Z_5 Er8.1
          obtain ⟨_, Tr9, Lr9, Xr9, hQr9, str9⟩ := ocallS Xr8 hx hZ zm1 hown (ww hw 11 rfl) (ww hw 12 rfl) (by decide) (ww hw 13 rfl) (ww hw 2 rfl) er8 (mg2_9 l Z a0 hw [] ((i0.toUInt32 >>> ((6 : Int32) &&& 31).toUInt32).toInt32) w1 w2 w4 hr8 n0 Z_6 f31 f32 f33) (st := [(.int ((i0.toUInt32 >>> ((6 : Int32) &&& 31).toUInt32).toInt32)), .null, (.ref b3), (.ref u1), (.ref br8), (.ref br8)]) rfl 5 rfl (by decide) (pc := 157) (Ls := (lc164 i0 i1 i2 i3 i4 i5 1 1 1 0 b1 b2 b3 u1 br5)) hml rfl (lenOf pd_1 rfl) at_157 hby
          obtain ⟨rfl, Nr9q, er9⟩ := hQr9
          refine own_go (U' := Tr9.setTop (mkF m 160 (lc164 i0 i1 i2 i3 i4 i5 1 1 1 0 b1 b2 b3 u1 br5) [(.ref (own_anch (((i0.toUInt32 >>> ((6 : Int32) &&& 31).toUInt32).toInt32) &&& (3 : Int32)) w1 w2 w4)), .null, (.ref b3), (.ref u1), (.ref br8), (.ref br8)])) (fun t k => str7 _ (oastore Xr7 hx hby at_141 (lc164 i0 i1 i2 i3 i4 i5 1 1 1 0 b1 b2 b3 u1 br5) rfl rfl (str8 _ (odup Xr8 hx hby at_146 rfl (oaload Xr8 hx hby at_147 rfl rfl (oaload Xr8 hx hby at_149 rfl rfl (oaload Xr8 hx hby at_151 rfl rfl (oiloadN Xr8 hx hby at_153 rfl (obipush Xr8 hx hby at_154 (oiushr Xr8 hx hby at_156 (str9 _ k))))))))))) ?_
          obtain ⟨u3, hu3⟩ : ∃ z, z = (own_anch (((i0.toUInt32 >>> ((6 : Int32) &&& 31).toUInt32).toInt32) &&& (3 : Int32)) w1 w2 w4) := ⟨_, rfl⟩
          rw [← hu3]
          have N7 := Fr.app N6 Nr9q
          have g2 : n0 ≤ br8 := Nat.le_trans Z_5 (Nat.le_of_eq gr8.symm)
          obtain ⟨_, Tr10, Lr10, Xr10, hQr10, str10⟩ := ocallI Xr9 hx hZ zm3 rfl hown (ww hw 17 rfl) (ww hw 18 rfl) (by decide) (ww hw 19 rfl) (ww hw 10 rfl) er9 (rm3_26 l Z a0 hw [] br8 u1 b3 u3 hr8 n0 Z_6 f27 f28 f29 f30 Ar8 g2) (st := [(.ref u3), .null, (.ref b3), (.ref u1), (.ref br8), (.ref br8)]) rfl 1 rfl (by decide) (pc := 160) (Ls := (lc164 i0 i1 i2 i3 i4 i5 1 1 1 0 b1 b2 b3 u1 br5)) hml rfl (lenOf pd_3 rfl) at_160 hby
          obtain ⟨rfl, Nr10q, Kr10, f34, f35, f36, f37⟩ := hQr10
          have N8 := Fr.app N7 Nr10q
          have f38 : Exa Z Tr10.heap br5 zs8 := ((Exa.ext Er8 (Ar5.keep Kr7)).keep Kr10)
          have ne1 : br5 ≠ br8 := Nat.ne_of_lt (Nat.lt_of_lt_of_le (f23.lt) (Nat.le_of_eq gr8.symm))
          have f39 : Fld Z Tr10.heap br5 zs8 "first" zs9 (.ref b1) := ((Fld.ext Er8 f24).keep Kr10 (ninS ne1 nin0))
          have f40 : Fld Z Tr10.heap br5 zs8 "last" zs9 (.ref b2) := ((Fld.ext Er8 f25).keep Kr10 (ninS ne1 nin0))
          have Z_7 : n0 ≤ Tr10.heap.size := Nat.le_trans Z_6 Kr10.1
          obtain ⟨_, Tr11, Lr11, Xr11, hQr11, str11⟩ := ocallV Xr10 hx hZ zm4 zm4 hown (ww hw 36 rfl) (ww hw 37 rfl) (notFace_of_selects (args := #[]) (mvT hZ (ww hw 39 rfl))) (ww hw 39 rfl) (ww hw 38 rfl) (by decide) (ww hw 40 rfl) (ww hw 10 rfl) rfl f38 (rm6_31 l Z a0 hw [] br5 b1 b2 Tr10.heap n0 Z_7 f39 f40) (st := [(.ref br5)]) rfl 0 rfl (by decide) (pc := 167) (Ls := (lc165 i0 i1 i2 i3 i4 i5 1 1 1 0 b1 b2 b3 u1 br5 br8)) hml rfl (lenOf pd_4 rfl) at_167 hby
          obtain ⟨rfl, Nr11q, er11⟩ := hQr11
          have N9 := Fr.app N8 Nr11q
          refine own_go (U' := Tr11.setTop (mkF m 172 (lc165 i0 i1 i2 i3 i4 i5 1 1 1 0 b1 b2 b3 u1 br5 br8) [(.int 1), (.int 1)])) (fun t k => str10 _ (oastore Xr10 hx hby at_163 (lc165 i0 i1 i2 i3 i4 i5 1 1 1 0 b1 b2 b3 u1 br5 br8) rfl rfl (oaload Xr10 hx hby at_165 rfl rfl (str11 _ (oiload Xr11 hx hby at_170 rfl k))))) ?_
          refine own_go (U' := Tr11.setTop (mkF m 177 (lc165 i0 i1 i2 i3 i4 i5 1 1 1 0 b1 b2 b3 u1 br5 br8) [(.int 1), (.int 1)])) (fun t k => oifN Xr11 hx hby at_172 (by decide) (oiload Xr11 hx hby at_175 rfl k)) ?_
          refine own_go (U' := Tr11.setTop (mkF m 185 (lc165 i0 i1 i2 i3 i4 i5 1 1 1 0 b1 b2 b3 u1 br5 br8) [(.int 1), (.int 1)])) (fun t k => oifN Xr11 hx hby at_177 (by decide) (oiconst Xr11 hx hby at_180 (ogoto (pc := 181) Xr11 hx hby at_181 185 (by decide) k))) ?_
          have f41 : Exa Z Tr10.heap br8 zs8 := (Ar8.keep Kr10)
          obtain ⟨_, Tr12, Lr12, Xr12, hQr12, str12⟩ := ocallV Xr11 hx hZ zm4 zm4 hown (ww hw 36 rfl) (ww hw 37 rfl) (notFace_of_selects (args := #[]) (mvT hZ (ww hw 39 rfl))) (ww hw 39 rfl) (ww hw 38 rfl) (by decide) (ww hw 40 rfl) (ww hw 10 rfl) er11 f41 (rm6_27 l Z a0 hw [] br8 b3 Tr10.heap n0 Z_7 f35 f36) (st := [(.ref br8)]) rfl 0 rfl (by decide) (pc := 197) (Ls := (lc166 i0 i1 i2 i3 i4 i5 1 1 1 0 b1 b2 b3 u1 br5 br8 1)) hml rfl (lenOf pd_4 rfl) at_197 hby
          obtain ⟨rfl, Nr12q, er12⟩ := hQr12
          have N10 := Fr.app N9 Nr12q
          refine own_go (U' := Tr12.setTop (mkF m 202 (lc166 i0 i1 i2 i3 i4 i5 1 1 1 0 b1 b2 b3 u1 br5 br8 1) [(.int 1), (.int 0)])) (fun t k => oicN Xr11 hx hby at_185 (by decide) (oiconst Xr11 hx hby at_188 (ogoto (pc := 189) Xr11 hx hby at_189 193 (by decide) (oistore Xr11 hx hby at_193 (lc166 i0 i1 i2 i3 i4 i5 1 1 1 0 b1 b2 b3 u1 br5 br8 1) rfl (oaload Xr11 hx hby at_195 rfl rfl (str12 _ (oiload Xr12 hx hby at_200 rfl k))))))) ?_
          refine own_go (U' := Tr12.setTop (mkF m 207 (lc166 i0 i1 i2 i3 i4 i5 1 1 1 0 b1 b2 b3 u1 br5 br8 1) [(.int 0), (.int 0)])) (fun t k => oifN Xr12 hx hby at_202 (by decide) (oiload Xr12 hx hby at_205 rfl k)) ?_
          refine own_go (U' := Tr12.setTop (mkF m 215 (lc166 i0 i1 i2 i3 i4 i5 1 1 1 0 b1 b2 b3 u1 br5 br8 1) [(.int 0), (.int 0)])) (fun t k => oifY (pc := 207) Xr12 hx hby at_207 214 (by decide) (by decide) (oiconst Xr12 hx hby at_214 k)) ?_
          have f42 : Exa Z Tr10.heap b3 zs11 := ((Exa.ext Er8 ((Exa.ext Er5 f9).keep Kr7)).keep Kr10)
          have ne2 : b3 ≠ br5 := Nat.ne_of_lt (Nat.lt_of_lt_of_le (f10.lt) (Nat.le_of_eq gr5.symm))
          have ne3 : b3 ≠ br8 := Nat.ne_of_lt (Nat.lt_of_lt_of_le (Nat.lt_of_lt_of_le (Nat.lt_of_lt_of_le (f10.lt) Er5.1) Kr7.1) (Nat.le_of_eq gr8.symm))
          have f43 : Fld Z Tr10.heap b3 zs11 "value" "J" (.long i4) := ((Fld.ext Er8 ((Fld.ext Er5 f10).keep Kr7 (ninS ne2 nin0))).keep Kr10 (ninS ne3 nin0))
          have f44 : Exa Z Tr10.heap b1 zs11 := ((Exa.ext Er8 ((Exa.ext Er5 ((f1.keep Kr2).keep Kr3)).keep Kr7)).keep Kr10)
          have ne4 : b1 ≠ br5 := Nat.ne_of_lt (Nat.lt_of_lt_of_le (Nat.lt_of_lt_of_le (Nat.lt_of_lt_of_le (f2.lt) Kr2.1) Kr3.1) (Nat.le_of_eq gr5.symm))
          have ne5 : b1 ≠ br8 := Nat.ne_of_lt (Nat.lt_of_lt_of_le (Nat.lt_of_lt_of_le (Nat.lt_of_lt_of_le (Nat.lt_of_lt_of_le (Nat.lt_of_lt_of_le (f2.lt) Kr2.1) Kr3.1) Er5.1) Kr7.1) (Nat.le_of_eq gr8.symm))
          have f45 : Fld Z Tr10.heap b1 zs11 "value" "J" (.long i2) := ((Fld.ext Er8 ((Fld.ext Er5 ((f2.keep Kr2 nin0).keep Kr3 nin0)).keep Kr7 (ninS ne4 nin0))).keep Kr10 (ninS ne5 nin0))
          have f46 : Fld Z Tr10.heap br5 zs8 "unit" zs1 (.ref u1) := ((Fld.ext Er8 f23).keep Kr10 (ninS ne1 nin0))
          have f47 : Sta Z Tr10.heap zs4 "MIDDLE" zs5 (.ref w2) := (own_staK f32 Kr10 (allS (own_nsF f27) all0))
          by_cases hk21 : i2 < i4
          · have hc10 : i2 < i4 := hk21
            obtain ⟨_, Tr13, Lr13, Xr13, hQr13, str13⟩ := ocallV Xr12 hx hZ zm6 zm6 hown (ww hw 41 rfl) (ww hw 42 rfl) (notFace_of_selects (args := #[]) (mvT hZ (ww hw 44 rfl))) (ww hw 44 rfl) (ww hw 43 rfl) (by decide) (ww hw 45 rfl) (ww hw 10 rfl) er12 f38 (rm7_52 l Z a0 hw [] br5 br8 b1 b3 i4 i2 b2 u1 w2 Tr10.heap n0 Z_7 f39 f35 f42 f43 f44 f45 hc10 f40 f36 f46 f47) (st := [(.ref br8), (.ref br5)]) rfl 0 rfl (by decide) (pc := 229) (Ls := (lc167 i0 i1 i2 i3 i4 i5 1 1 1 0 b1 b2 b3 u1 br5 br8 1 1)) hml rfl (lenOf pd_6 rfl) at_229 hby
            obtain ⟨b4, rfl, Nr13q, Kr13, sz1, f48, f49, f50, f51, f52⟩ := hQr13
            have N11 := Fr.app N10 Nr13q
            have Z_8 : n0 ≤ Tr13.heap.size := Nat.le_trans Z_7 Kr13.1
            obtain ⟨_, Tr14, Lr14, Xr14, hQr14, str14⟩ := ocallV Xr13 hx hZ zm4 zm4 hown (ww hw 36 rfl) (ww hw 37 rfl) (notFace_of_selects (args := #[]) (mvT hZ (ww hw 39 rfl))) (ww hw 39 rfl) (ww hw 38 rfl) (by decide) (ww hw 40 rfl) (ww hw 10 rfl) rfl f48 (rm6_31 l Z a0 hw [] b4 b3 b2 Tr13.heap n0 Z_8 f50 f51) (st := [(.ref b4)]) rfl 0 rfl (by decide) (pc := 232) (Ls := (lc167 i0 i1 i2 i3 i4 i5 1 1 1 0 b1 b2 b3 u1 br5 br8 1 1)) hml rfl (lenOf pd_4 rfl) at_232 hby
            obtain ⟨rfl, Nr14q, er14⟩ := hQr14
            have N12 := Fr.app N11 Nr14q
            refine own_go (U' := Tr14.setTop (mkF m 237 (lc167 i0 i1 i2 i3 i4 i5 1 1 1 0 b1 b2 b3 u1 br5 br8 1 1) [(.int 1), (.int 1)])) (fun t k => oicN Xr12 hx hby at_215 (by decide) (oiconst Xr12 hx hby at_218 (ogoto (pc := 219) Xr12 hx hby at_219 223 (by decide) (oistore Xr12 hx hby at_223 (lc167 i0 i1 i2 i3 i4 i5 1 1 1 0 b1 b2 b3 u1 br5 br8 1 1) rfl (oaload Xr12 hx hby at_225 rfl rfl (oaload Xr12 hx hby at_227 rfl rfl (str13 _ (str14 _ (oiload Xr14 hx hby at_235 rfl k))))))))) ?_
            refine own_go (U' := Tr14.setTop (mkF m 247 (lc167 i0 i1 i2 i3 i4 i5 1 1 1 0 b1 b2 b3 u1 br5 br8 1 1) [(.int 1), (.int 1)])) (fun t k => oifY (pc := 237) Xr14 hx hby at_237 245 (by decide) (by decide) (oiload Xr14 hx hby at_245 rfl k)) ?_
            refine own_go (U' := Tr14.setTop (mkF m 260 (lc167 i0 i1 i2 i3 i4 i5 1 1 1 0 b1 b2 b3 u1 br5 br8 1 1) [(.int 1), (.int 1)])) (fun t k => oifY (pc := 247) Xr14 hx hby at_247 255 (by decide) (by decide) (oiconst Xr14 hx hby at_255 (ogoto (pc := 256) Xr14 hx hby at_256 260 (by decide) k))) ?_
            have f53 : Exa Z Tr13.heap br5 zs8 := (f38.keep Kr13)
            have f54 : Fld Z Tr13.heap br5 zs8 "unit" zs1 (.ref u1) := (f46.keep Kr13 nin0)
            have f55 : Fld Z Tr13.heap br5 zs8 "first" zs9 (.ref b1) := (f39.keep Kr13 nin0)
            have f56 : Sta Z Tr13.heap zs4 "MIDDLE" zs5 (.ref w2) := (own_staK f47 Kr13 all0)
            obtain ⟨_, Tr15, Lr15, Xr15, hQr15, str15⟩ := ocallV Xr14 hx hZ zm7 zm7 hown (ww hw 53 rfl) (ww hw 54 rfl) (notFace_of_selects (args := #[]) (mvT hZ (ww hw 56 rfl))) (ww hw 56 rfl) (ww hw 55 rfl) (by decide) (ww hw 57 rfl) (ww hw 10 rfl) er14 f53 (rm9_43 l Z a0 hw [] br5 u1 b1 w2 Tr13.heap n0 Z_8 f54 f55 f56) (st := [(.ref br5)]) rfl 0 rfl (by decide) (pc := 272) (Ls := (lc168 i0 i1 i2 i3 i4 i5 1 1 1 0 b1 b2 b3 u1 br5 br8 1 1 1)) hml rfl (lenOf pd_7 rfl) at_272 hby
            obtain ⟨b5, rfl, Nr15q, Kr15, sz2, f57, f58, f59, f60, f61⟩ := hQr15
            have N13 := Fr.app N12 Nr15q
            have Z_9 : n0 ≤ Tr15.heap.size := Nat.le_trans Z_8 Kr15.1
            obtain ⟨_, Tr16, Lr16, Xr16, hQr16, str16⟩ := ocallV Xr15 hx hZ zm4 zm4 hown (ww hw 36 rfl) (ww hw 37 rfl) (notFace_of_selects (args := #[]) (mvT hZ (ww hw 39 rfl))) (ww hw 39 rfl) (ww hw 38 rfl) (by decide) (ww hw 40 rfl) (ww hw 10 rfl) rfl f57 (rm6_27 l Z a0 hw [] b5 b1 Tr15.heap n0 Z_9 f59 f60) (st := [(.ref b5)]) rfl 0 rfl (by decide) (pc := 275) (Ls := (lc168 i0 i1 i2 i3 i4 i5 1 1 1 0 b1 b2 b3 u1 br5 br8 1 1 1)) hml rfl (lenOf pd_4 rfl) at_275 hby
            obtain ⟨rfl, Nr16q, er16⟩ := hQr16
            have N14 := Fr.app N13 Nr16q
            refine own_go (U' := Tr16.setTop (mkF m 278 (lc168 i0 i1 i2 i3 i4 i5 1 1 1 0 b1 b2 b3 u1 br5 br8 1 1 1) [(.int 0)])) (fun t k => oicN Xr14 hx hby at_260 (by decide) (oiconst Xr14 hx hby at_263 (ogoto (pc := 264) Xr14 hx hby at_264 268 (by decide) (oistore Xr14 hx hby at_268 (lc168 i0 i1 i2 i3 i4 i5 1 1 1 0 b1 b2 b3 u1 br5 br8 1 1 1) rfl (oaload Xr14 hx hby at_270 rfl rfl (str15 _ (str16 _ k))))))) ?_
            have f62 : Exa Z Tr15.heap br5 zs8 := (f53.keep Kr15)
            have f63 : Fld Z Tr15.heap br5 zs8 "unit" zs1 (.ref u1) := (f54.keep Kr15 nin0)
            have f64 : Fld Z Tr15.heap br5 zs8 "last" zs9 (.ref b2) := ((f40.keep Kr13 nin0).keep Kr15 nin0)
            have f65 : Sta Z Tr15.heap zs4 "MIDDLE" zs5 (.ref w2) := (own_staK f56 Kr15 all0)
            obtain ⟨_, Tr17, Lr17, Xr17, hQr17, str17⟩ := ocallV Xr16 hx hZ zm8 zm8 hown (ww hw 58 rfl) (ww hw 59 rfl) (notFace_of_selects (args := #[]) (mvT hZ (ww hw 61 rfl))) (ww hw 61 rfl) (ww hw 60 rfl) (by decide) (ww hw 62 rfl) (ww hw 10 rfl) er16 f62 (rm10_35 l Z a0 hw [] br5 u1 b2 w2 Tr15.heap n0 Z_9 f63 f64 f65) (st := [(.ref br5)]) rfl 0 rfl (by decide) (pc := 290) (Ls := (lc169 i0 i1 i2 i3 i4 i5 1 1 1 0 b1 b2 b3 u1 br5 br8 1 1 1 1)) hml rfl (lenOf pd_7 rfl) at_290 hby
            obtain ⟨b6, rfl, Nr17q, Kr17, sz3, f66, f67, f68, f69, f70⟩ := hQr17
            have N15 := Fr.app N14 Nr17q
            have Z_10 : n0 ≤ Tr17.heap.size := Nat.le_trans Z_9 Kr17.1
            obtain ⟨_, Tr18, Lr18, Xr18, hQr18, str18⟩ := ocallV Xr17 hx hZ zm4 zm4 hown (ww hw 36 rfl) (ww hw 37 rfl) (notFace_of_selects (args := #[]) (mvT hZ (ww hw 39 rfl))) (ww hw 39 rfl) (ww hw 38 rfl) (by decide) (ww hw 40 rfl) (ww hw 10 rfl) rfl f66 (rm6_12 l Z a0 hw [] b6 Tr17.heap n0 Z_10 f68) (st := [(.ref b6)]) rfl 0 rfl (by decide) (pc := 293) (Ls := (lc169 i0 i1 i2 i3 i4 i5 1 1 1 0 b1 b2 b3 u1 br5 br8 1 1 1 1)) hml rfl (lenOf pd_4 rfl) at_293 hby
            obtain ⟨rfl, Nr18q, er18⟩ := hQr18
            have N16 := Fr.app N15 Nr18q
            refine own_go (U' := Tr18.setTop (mkF m 296 (lc169 i0 i1 i2 i3 i4 i5 1 1 1 0 b1 b2 b3 u1 br5 br8 1 1 1 1) [(.int 0)])) (fun t k => oifN Xr16 hx hby at_278 (by decide) (oiconst Xr16 hx hby at_281 (ogoto (pc := 282) Xr16 hx hby at_282 286 (by decide) (oistore Xr16 hx hby at_286 (lc169 i0 i1 i2 i3 i4 i5 1 1 1 0 b1 b2 b3 u1 br5 br8 1 1 1 1) rfl (oaload Xr16 hx hby at_288 rfl rfl (str17 _ (str18 _ k))))))) ?_
            refine own_go (U' := Tr18.setTop (mkF m 308 (lc170 i0 i1 i2 i3 i4 i5 1 1 1 0 b1 b2 b3 u1 br5 br8 1 1 1 1 1) [(.int 1)])) (fun t k => oifN Xr18 hx hby at_296 (by decide) (oiconst Xr18 hx hby at_299 (ogoto (pc := 300) Xr18 hx hby at_300 304 (by decide) (oistore Xr18 hx hby at_304 (lc170 i0 i1 i2 i3 i4 i5 1 1 1 0 b1 b2 b3 u1 br5 br8 1 1 1 1 1) rfl (oiload Xr18 hx hby at_306 rfl k))))) ?_
            refine own_go (U' := Tr18.setTop (mkF m 313 (lc170 i0 i1 i2 i3 i4 i5 1 1 1 0 b1 b2 b3 u1 br5 br8 1 1 1 1 1) [(.int 1)])) (fun t k => oifN Xr18 hx hby at_308 (by decide) (oiload Xr18 hx hby at_311 rfl k)) ?_
            refine own_go (U' := Tr18.setTop (mkF m 318 (lc170 i0 i1 i2 i3 i4 i5 1 1 1 0 b1 b2 b3 u1 br5 br8 1 1 1 1 1) [(.int 1)])) (fun t k => oifN Xr18 hx hby at_313 (by decide) (oiload Xr18 hx hby at_316 rfl k)) ?_
            refine own_go (U' := Tr18.setTop (mkF m 323 (lc170 i0 i1 i2 i3 i4 i5 1 1 1 0 b1 b2 b3 u1 br5 br8 1 1 1 1 1) [(.int 1)])) (fun t k => oifN Xr18 hx hby at_318 (by decide) (oiload Xr18 hx hby at_321 rfl k)) ?_
            refine own_go (U' := Tr18.setTop (mkF m 328 (lc170 i0 i1 i2 i3 i4 i5 1 1 1 0 b1 b2 b3 u1 br5 br8 1 1 1 1 1) [(.int 1)])) (fun t k => oifN Xr18 hx hby at_323 (by decide) (oiload Xr18 hx hby at_326 rfl k)) ?_
            refine own_go (U' := Tr18.setTop (mkF m 336 (lc170 i0 i1 i2 i3 i4 i5 1 1 1 0 b1 b2 b3 u1 br5 br8 1 1 1 1 1) [(.int 1)])) (fun t k => oifN Xr18 hx hby at_328 (by decide) (oiconst Xr18 hx hby at_331 (ogoto (pc := 332) Xr18 hx hby at_332 336 (by decide) k))) ?_
            obtain ⟨fs, hr, hrun, hended, hW, hsame⟩ := Xr18.leave (v := some (.int 1)) (fun h => by rw [Bd.returns] at h; cases h)
            refine own_out ⟨_, _, ?_, hrun, hended, _, _, rfl, ?_, ⟨_, rfl⟩, hW, hsame.mono (by decide) (by decide)⟩
            · exact retN Xr18 hx (t := .boolean) Bd.returns (by simp) (hb hby at_336) hr
            · exact ⟨rfl, N16⟩
          · have hc11 : ¬ (i2 < i4) := hk21
            obtain ⟨_, Tr13, Lr13, Xr13, hQr13, str13⟩ := ocallV Xr12 hx hZ zm6 zm6 hown (ww hw 41 rfl) (ww hw 42 rfl) (notFace_of_selects (args := #[]) (mvT hZ (ww hw 44 rfl))) (ww hw 44 rfl) (ww hw 43 rfl) (by decide) (ww hw 45 rfl) (ww hw 10 rfl) er12 f38 (rm7_53 l Z a0 hw [] br5 br8 b1 b3 i4 i2 b2 u1 w2 Tr10.heap n0 Z_7 f39 f35 f42 f43 f44 f45 hc11 f40 f36 f46 f47) (st := [(.ref br8), (.ref br5)]) rfl 0 rfl (by decide) (pc := 229) (Ls := (lc167 i0 i1 i2 i3 i4 i5 1 1 1 0 b1 b2 b3 u1 br5 br8 1 1)) hml rfl (lenOf pd_6 rfl) at_229 hby
            obtain ⟨b4, rfl, Nr13q, Kr13, sz1, f48, f49, f50, f51, f52⟩ := hQr13
            have N11 := Fr.app N10 Nr13q
            have Z_8 : n0 ≤ Tr13.heap.size := Nat.le_trans Z_7 Kr13.1
            obtain ⟨_, Tr14, Lr14, Xr14, hQr14, str14⟩ := ocallV Xr13 hx hZ zm4 zm4 hown (ww hw 36 rfl) (ww hw 37 rfl) (notFace_of_selects (args := #[]) (mvT hZ (ww hw 39 rfl))) (ww hw 39 rfl) (ww hw 38 rfl) (by decide) (ww hw 40 rfl) (ww hw 10 rfl) rfl f48 (rm6_31 l Z a0 hw [] b4 b1 b2 Tr13.heap n0 Z_8 f50 f51) (st := [(.ref b4)]) rfl 0 rfl (by decide) (pc := 232) (Ls := (lc167 i0 i1 i2 i3 i4 i5 1 1 1 0 b1 b2 b3 u1 br5 br8 1 1)) hml rfl (lenOf pd_4 rfl) at_232 hby
            obtain ⟨rfl, Nr14q, er14⟩ := hQr14
            have N12 := Fr.app N11 Nr14q
            refine own_go (U' := Tr14.setTop (mkF m 237 (lc167 i0 i1 i2 i3 i4 i5 1 1 1 0 b1 b2 b3 u1 br5 br8 1 1) [(.int 1), (.int 1)])) (fun t k => oicN Xr12 hx hby at_215 (by decide) (oiconst Xr12 hx hby at_218 (ogoto (pc := 219) Xr12 hx hby at_219 223 (by decide) (oistore Xr12 hx hby at_223 (lc167 i0 i1 i2 i3 i4 i5 1 1 1 0 b1 b2 b3 u1 br5 br8 1 1) rfl (oaload Xr12 hx hby at_225 rfl rfl (oaload Xr12 hx hby at_227 rfl rfl (str13 _ (str14 _ (oiload Xr14 hx hby at_235 rfl k))))))))) ?_
            refine own_go (U' := Tr14.setTop (mkF m 247 (lc167 i0 i1 i2 i3 i4 i5 1 1 1 0 b1 b2 b3 u1 br5 br8 1 1) [(.int 1), (.int 1)])) (fun t k => oifY (pc := 237) Xr14 hx hby at_237 245 (by decide) (by decide) (oiload Xr14 hx hby at_245 rfl k)) ?_
            refine own_go (U' := Tr14.setTop (mkF m 260 (lc167 i0 i1 i2 i3 i4 i5 1 1 1 0 b1 b2 b3 u1 br5 br8 1 1) [(.int 1), (.int 1)])) (fun t k => oifY (pc := 247) Xr14 hx hby at_247 255 (by decide) (by decide) (oiconst Xr14 hx hby at_255 (ogoto (pc := 256) Xr14 hx hby at_256 260 (by decide) k))) ?_
            have f53 : Exa Z Tr13.heap br5 zs8 := (f38.keep Kr13)
            have f54 : Fld Z Tr13.heap br5 zs8 "unit" zs1 (.ref u1) := (f46.keep Kr13 nin0)
            have f55 : Fld Z Tr13.heap br5 zs8 "first" zs9 (.ref b1) := (f39.keep Kr13 nin0)
            have f56 : Sta Z Tr13.heap zs4 "MIDDLE" zs5 (.ref w2) := (own_staK f47 Kr13 all0)
            obtain ⟨_, Tr15, Lr15, Xr15, hQr15, str15⟩ := ocallV Xr14 hx hZ zm7 zm7 hown (ww hw 53 rfl) (ww hw 54 rfl) (notFace_of_selects (args := #[]) (mvT hZ (ww hw 56 rfl))) (ww hw 56 rfl) (ww hw 55 rfl) (by decide) (ww hw 57 rfl) (ww hw 10 rfl) er14 f53 (rm9_43 l Z a0 hw [] br5 u1 b1 w2 Tr13.heap n0 Z_8 f54 f55 f56) (st := [(.ref br5)]) rfl 0 rfl (by decide) (pc := 272) (Ls := (lc168 i0 i1 i2 i3 i4 i5 1 1 1 0 b1 b2 b3 u1 br5 br8 1 1 1)) hml rfl (lenOf pd_7 rfl) at_272 hby
            obtain ⟨b5, rfl, Nr15q, Kr15, sz2, f57, f58, f59, f60, f61⟩ := hQr15
            have N13 := Fr.app N12 Nr15q
            have Z_9 : n0 ≤ Tr15.heap.size := Nat.le_trans Z_8 Kr15.1
            obtain ⟨_, Tr16, Lr16, Xr16, hQr16, str16⟩ := ocallV Xr15 hx hZ zm4 zm4 hown (ww hw 36 rfl) (ww hw 37 rfl) (notFace_of_selects (args := #[]) (mvT hZ (ww hw 39 rfl))) (ww hw 39 rfl) (ww hw 38 rfl) (by decide) (ww hw 40 rfl) (ww hw 10 rfl) rfl f57 (rm6_27 l Z a0 hw [] b5 b1 Tr15.heap n0 Z_9 f59 f60) (st := [(.ref b5)]) rfl 0 rfl (by decide) (pc := 275) (Ls := (lc168 i0 i1 i2 i3 i4 i5 1 1 1 0 b1 b2 b3 u1 br5 br8 1 1 1)) hml rfl (lenOf pd_4 rfl) at_275 hby
            obtain ⟨rfl, Nr16q, er16⟩ := hQr16
            have N14 := Fr.app N13 Nr16q
            refine own_go (U' := Tr16.setTop (mkF m 278 (lc168 i0 i1 i2 i3 i4 i5 1 1 1 0 b1 b2 b3 u1 br5 br8 1 1 1) [(.int 0)])) (fun t k => oicN Xr14 hx hby at_260 (by decide) (oiconst Xr14 hx hby at_263 (ogoto (pc := 264) Xr14 hx hby at_264 268 (by decide) (oistore Xr14 hx hby at_268 (lc168 i0 i1 i2 i3 i4 i5 1 1 1 0 b1 b2 b3 u1 br5 br8 1 1 1) rfl (oaload Xr14 hx hby at_270 rfl rfl (str15 _ (str16 _ k))))))) ?_
            have f62 : Exa Z Tr15.heap br5 zs8 := (f53.keep Kr15)
            have f63 : Fld Z Tr15.heap br5 zs8 "unit" zs1 (.ref u1) := (f54.keep Kr15 nin0)
            have f64 : Fld Z Tr15.heap br5 zs8 "last" zs9 (.ref b2) := ((f40.keep Kr13 nin0).keep Kr15 nin0)
            have f65 : Sta Z Tr15.heap zs4 "MIDDLE" zs5 (.ref w2) := (own_staK f56 Kr15 all0)
            obtain ⟨_, Tr17, Lr17, Xr17, hQr17, str17⟩ := ocallV Xr16 hx hZ zm8 zm8 hown (ww hw 58 rfl) (ww hw 59 rfl) (notFace_of_selects (args := #[]) (mvT hZ (ww hw 61 rfl))) (ww hw 61 rfl) (ww hw 60 rfl) (by decide) (ww hw 62 rfl) (ww hw 10 rfl) er16 f62 (rm10_35 l Z a0 hw [] br5 u1 b2 w2 Tr15.heap n0 Z_9 f63 f64 f65) (st := [(.ref br5)]) rfl 0 rfl (by decide) (pc := 290) (Ls := (lc169 i0 i1 i2 i3 i4 i5 1 1 1 0 b1 b2 b3 u1 br5 br8 1 1 1 1)) hml rfl (lenOf pd_7 rfl) at_290 hby
            obtain ⟨b6, rfl, Nr17q, Kr17, sz3, f66, f67, f68, f69, f70⟩ := hQr17
            have N15 := Fr.app N14 Nr17q
            have Z_10 : n0 ≤ Tr17.heap.size := Nat.le_trans Z_9 Kr17.1
            obtain ⟨_, Tr18, Lr18, Xr18, hQr18, str18⟩ := ocallV Xr17 hx hZ zm4 zm4 hown (ww hw 36 rfl) (ww hw 37 rfl) (notFace_of_selects (args := #[]) (mvT hZ (ww hw 39 rfl))) (ww hw 39 rfl) (ww hw 38 rfl) (by decide) (ww hw 40 rfl) (ww hw 10 rfl) rfl f66 (rm6_12 l Z a0 hw [] b6 Tr17.heap n0 Z_10 f68) (st := [(.ref b6)]) rfl 0 rfl (by decide) (pc := 293) (Ls := (lc169 i0 i1 i2 i3 i4 i5 1 1 1 0 b1 b2 b3 u1 br5 br8 1 1 1 1)) hml rfl (lenOf pd_4 rfl) at_293 hby
            obtain ⟨rfl, Nr18q, er18⟩ := hQr18
            have N16 := Fr.app N15 Nr18q
            refine own_go (U' := Tr18.setTop (mkF m 296 (lc169 i0 i1 i2 i3 i4 i5 1 1 1 0 b1 b2 b3 u1 br5 br8 1 1 1 1) [(.int 0)])) (fun t k => oifN Xr16 hx hby at_278 (by decide) (oiconst Xr16 hx hby at_281 (ogoto (pc := 282) Xr16 hx hby at_282 286 (by decide) (oistore Xr16 hx hby at_286 (lc169 i0 i1 i2 i3 i4 i5 1 1 1 0 b1 b2 b3 u1 br5 br8 1 1 1 1) rfl (oaload Xr16 hx hby at_288 rfl rfl (str17 _ (str18 _ k))))))) ?_
            refine own_go (U' := Tr18.setTop (mkF m 308 (lc170 i0 i1 i2 i3 i4 i5 1 1 1 0 b1 b2 b3 u1 br5 br8 1 1 1 1 1) [(.int 1)])) (fun t k => oifN Xr18 hx hby at_296 (by decide) (oiconst Xr18 hx hby at_299 (ogoto (pc := 300) Xr18 hx hby at_300 304 (by decide) (oistore Xr18 hx hby at_304 (lc170 i0 i1 i2 i3 i4 i5 1 1 1 0 b1 b2 b3 u1 br5 br8 1 1 1 1 1) rfl (oiload Xr18 hx hby at_306 rfl k))))) ?_
            refine own_go (U' := Tr18.setTop (mkF m 313 (lc170 i0 i1 i2 i3 i4 i5 1 1 1 0 b1 b2 b3 u1 br5 br8 1 1 1 1 1) [(.int 1)])) (fun t k => oifN Xr18 hx hby at_308 (by decide) (oiload Xr18 hx hby at_311 rfl k)) ?_
            refine own_go (U' := Tr18.setTop (mkF m 318 (lc170 i0 i1 i2 i3 i4 i5 1 1 1 0 b1 b2 b3 u1 br5 br8 1 1 1 1 1) [(.int 1)])) (fun t k => oifN Xr18 hx hby at_313 (by decide) (oiload Xr18 hx hby at_316 rfl k)) ?_
            refine own_go (U' := Tr18.setTop (mkF m 323 (lc170 i0 i1 i2 i3 i4 i5 1 1 1 0 b1 b2 b3 u1 br5 br8 1 1 1 1 1) [(.int 1)])) (fun t k => oifN Xr18 hx hby at_318 (by decide) (oiload Xr18 hx hby at_321 rfl k)) ?_
            refine own_go (U' := Tr18.setTop (mkF m 328 (lc170 i0 i1 i2 i3 i4 i5 1 1 1 0 b1 b2 b3 u1 br5 br8 1 1 1 1 1) [(.int 1)])) (fun t k => oifN Xr18 hx hby at_323 (by decide) (oiload Xr18 hx hby at_326 rfl k)) ?_
            refine own_go (U' := Tr18.setTop (mkF m 336 (lc170 i0 i1 i2 i3 i4 i5 1 1 1 0 b1 b2 b3 u1 br5 br8 1 1 1 1 1) [(.int 1)])) (fun t k => oifN Xr18 hx hby at_328 (by decide) (oiconst Xr18 hx hby at_331 (ogoto (pc := 332) Xr18 hx hby at_332 336 (by decide) k))) ?_
            obtain ⟨fs, hr, hrun, hended, hW, hsame⟩ := Xr18.leave (v := some (.int 1)) (fun h => by rw [Bd.returns] at h; cases h)
            refine own_out ⟨_, _, ?_, hrun, hended, _, _, rfl, ?_, ⟨_, rfl⟩, hW, hsame.mono (by decide) (by decide)⟩
            · exact retN Xr18 hx (t := .boolean) Bd.returns (by simp) (hb hby at_336) hr
            · exact ⟨rfl, N16⟩
        · have hc4 : ¬ ((i0 &&& (8 : Int32)) = (0 : Int32)) := hk20
          refine own_go (U' := s₁.setTop (mkF m 55 (lc4 i0 i1 i2 i3 i4 i5 1 1 1 1) [(.int 1)])) (fun t k => oifN X0 hx hby at_43 ((if0 _ _).trans (feq hc4).1) (oiconst X0 hx hby at_46 (ogoto (pc := 47) X0 hx hby at_47 51 (by decide) (oistore X0 hx hby at_51 (lc4 i0 i1 i2 i3 i4 i5 1 1 1 1) rfl (oiload X0 hx hby at_53 rfl k))))) ?_
          obtain ⟨_, Tr1, Lr1, Xr1, hQr1, str1⟩ := ocallS X0 hx hZ zm11 hown (ww hw 63 rfl) (ww hw 64 rfl) (by decide) (ww hw 66 rfl) (ww hw 65 rfl) e0 (mg11_22 l Z a0 hw [] i2 w8 h0 n0 Z0 S16 S18) (st := [(.long i2)]) rfl 0 rfl (by decide) (pc := 59) (Ls := (lc4 i0 i1 i2 i3 i4 i5 1 1 1 1)) hml rfl (lenOf pd_9 rfl) at_59 hby
          obtain ⟨b1, rfl, Nr1q, Kr1, f1, f2⟩ := hQr1
          have N1 := Fr.app N0 Nr1q
          refine own_go (U' := Tr1.setTop (mkF m 70 (lc101 i0 i1 i2 i3 i4 i5 1 1 1 1 b1) [(.int 1)])) (fun t k => oifN X0 hx hby at_55 (by decide) (olloadN X0 hx hby at_58 rfl (str1 _ (ogoto (pc := 62) Xr1 hx hby at_62 66 (by decide) (oastore Xr1 hx hby at_66 (lc101 i0 i1 i2 i3 i4 i5 1 1 1 1 b1) rfl rfl (oiload Xr1 hx hby at_68 rfl k)))))) ?_
          have f3 : Sta Z Tr1.heap zs19 "cache" zs20 (.ref w8) := (own_staK S16 Kr1 all0)
          have f4 : own_LC Z Tr1.heap w8 n0 := (S18.keep Kr1 all0)
          have Z_1 : n0 ≤ Tr1.heap.size := Nat.le_trans Z0 Kr1.1
          obtain ⟨_, Tr2, Lr2, Xr2, hQr2, str2⟩ := ocallS Xr1 hx hZ zm11 hown (ww hw 63 rfl) (ww hw 64 rfl) (by decide) (ww hw 66 rfl) (ww hw 65 rfl) rfl (mg11_22 l Z a0 hw [] i3 w8 Tr1.heap n0 Z_1 f3 f4) (st := [(.long i3)]) rfl 0 rfl (by decide) (pc := 75) (Ls := (lc101 i0 i1 i2 i3 i4 i5 1 1 1 1 b1)) hml rfl (lenOf pd_9 rfl) at_75 hby
          obtain ⟨b2, rfl, Nr2q, Kr2, f5, f6⟩ := hQr2
          have N2 := Fr.app N1 Nr2q
          refine own_go (U' := Tr2.setTop (mkF m 86 (lc141 i0 i1 i2 i3 i4 i5 1 1 1 1 b1 b2) [(.int 1)])) (fun t k => oifN Xr1 hx hby at_70 (by decide) (olload Xr1 hx hby at_73 rfl (str2 _ (ogoto (pc := 78) Xr2 hx hby at_78 82 (by decide) (oastore Xr2 hx hby at_82 (lc141 i0 i1 i2 i3 i4 i5 1 1 1 1 b1 b2) rfl rfl (oiload Xr2 hx hby at_84 rfl k)))))) ?_
          have f7 : Sta Z Tr2.heap zs19 "cache" zs20 (.ref w8) := (own_staK f3 Kr2 all0)
          have f8 : own_LC Z Tr2.heap w8 n0 := (f4.keep Kr2 all0)
          have Z_2 : n0 ≤ Tr2.heap.size := Nat.le_trans Z_1 Kr2.1
          obtain ⟨_, Tr3, Lr3, Xr3, hQr3, str3⟩ := ocallS Xr2 hx hZ zm11 hown (ww hw 63 rfl) (ww hw 64 rfl) (by decide) (ww hw 66 rfl) (ww hw 65 rfl) rfl (mg11_22 l Z a0 hw [] i4 w8 Tr2.heap n0 Z_2 f7 f8) (st := [(.long i4)]) rfl 0 rfl (by decide) (pc := 91) (Ls := (lc141 i0 i1 i2 i3 i4 i5 1 1 1 1 b1 b2)) hml rfl (lenOf pd_9 rfl) at_91 hby
          obtain ⟨b3, rfl, Nr3q, Kr3, f9, f10⟩ := hQr3
          have N3 := Fr.app N2 Nr3q
          refine own_go (U' := Tr3.setTop (mkF m 102 (lc161 i0 i1 i2 i3 i4 i5 1 1 1 1 b1 b2 b3) [(.int 1)])) (fun t k => oifN Xr2 hx hby at_86 (by decide) (olload Xr2 hx hby at_89 rfl (str3 _ (ogoto (pc := 94) Xr3 hx hby at_94 98 (by decide) (oastore Xr3 hx hby at_98 (lc161 i0 i1 i2 i3 i4 i5 1 1 1 1 b1 b2 b3) rfl rfl (oiload Xr3 hx hby at_100 rfl k)))))) ?_
          have f11 : Sta Z Tr3.heap zs19 "cache" zs20 (.ref w8) := (own_staK f7 Kr3 all0)
          have f12 : own_LC Z Tr3.heap w8 n0 := (f8.keep Kr3 all0)
          have Z_3 : n0 ≤ Tr3.heap.size := Nat.le_trans Z_2 Kr3.1
          obtain ⟨_, Tr4, Lr4, Xr4, hQr4, str4⟩ := ocallS Xr3 hx hZ zm11 hown (ww hw 63 rfl) (ww hw 64 rfl) (by decide) (ww hw 66 rfl) (ww hw 65 rfl) rfl (mg11_22 l Z a0 hw [] i5 w8 Tr3.heap n0 Z_3 f11 f12) (st := [(.long i5)]) rfl 0 rfl (by decide) (pc := 107) (Ls := (lc161 i0 i1 i2 i3 i4 i5 1 1 1 1 b1 b2 b3)) hml rfl (lenOf pd_9 rfl) at_107 hby
          obtain ⟨b4, rfl, Nr4q, Kr4, f13, f14⟩ := hQr4
          have N4 := Fr.app N3 Nr4q
          have f15 : Sta Z Tr4.heap zs0 "DAY" zs1 (.ref w3) := (own_staK (own_staK (own_staK (own_staK S6 Kr1 all0) Kr2 all0) Kr3 all0) Kr4 all0)
          have f16 : Sta Z Tr4.heap zs0 "MONTH" zs1 (.ref w7) := (own_staK (own_staK (own_staK (own_staK S14 Kr1 all0) Kr2 all0) Kr3 all0) Kr4 all0)
          have f17 : Sta Z Tr4.heap zs0 "YEAR" zs1 (.ref w6) := (own_staK (own_staK (own_staK (own_staK S12 Kr1 all0) Kr2 all0) Kr3 all0) Kr4 all0)
          have f18 : Sta Z Tr4.heap zs0 "DECADE" zs1 (.ref w0) := (own_staK (own_staK (own_staK (own_staK S0 Kr1 all0) Kr2 all0) Kr3 all0) Kr4 all0)
          have f19 : Sta Z Tr4.heap zs0 "CENTURY" zs1 (.ref w5) := (own_staK (own_staK (own_staK (own_staK S10 Kr1 all0) Kr2 all0) Kr3 all0) Kr4 all0)
          have Z_4 : n0 ≤ Tr4.heap.size := Nat.le_trans Z_3 Kr4.1
          obtain ⟨_, Tr5, Lr5, Xr5, hQr5, str5⟩ := ocallS Xr4 hx hZ zm0 hown (ww hw 0 rfl) (ww hw 1 rfl) (by decide) (ww hw 3 rfl) (ww hw 2 rfl) rfl (mg1_5 l Z a0 hw [] i1 w3 w7 w6 w0 w5 Tr4.heap n0 Z_4 f15 f16 f17 f18 f19) (st := [(.int i1)]) rfl 0 rfl (by decide) (pc := 117) (Ls := (lc171 i0 i1 i2 i3 i4 i5 1 1 1 1 b1 b2 b3 b4)) hml rfl (lenOf pd_0 rfl) at_117 hby
          obtain ⟨rfl, Nr5q, er5⟩ := hQr5
          refine own_go (U' := Tr5.setTop (mkF m 120 (lc171 i0 i1 i2 i3 i4 i5 1 1 1 1 b1 b2 b3 b4) [(.ref (own_unit ((i1 &&& (2147483647 : Int32)) % (5 : Int32)) w3 w7 w6 w0 w5))])) (fun t k => oifN Xr3 hx hby at_102 (by decide) (olload Xr3 hx hby at_105 rfl (str4 _ (ogoto (pc := 110) Xr4 hx hby at_110 114 (by decide) (oastore Xr4 hx hby at_114 (lc171 i0 i1 i2 i3 i4 i5 1 1 1 1 b1 b2 b3 b4) rfl rfl (oiloadN Xr4 hx hby at_116 rfl (str5 _ k))))))) ?_
          obtain ⟨u1, hu1⟩ : ∃ z, z = (own_unit ((i1 &&& (2147483647 : Int32)) % (5 : Int32)) w3 w7 w6 w0 w5) := ⟨_, rfl⟩
          rw [← hu1]
          have N5 := Fr.app N4 Nr5q
          obtain ⟨Tr6, hr6, Xr6, er6, Er6, Ar6, Dr6, -, str6⟩ := newO Xr5 hx hZ hown (ww hw 8 rfl) (ww hw 9 rfl) (ww hw 10 rfl) er5 (g := (mkF m 122 (lc172 i0 i1 i2 i3 i4 i5 1 1 1 1 b1 b2 b3 b4 u1) [])) rfl (hb hby at_122) (by decide) (by decide)
          obtain ⟨br6, gr6⟩ : ∃ z, z = Tr4.heap.size := ⟨_, rfl⟩
          rw [← gr6] at Ar6 Dr6 str6
          have f20 : Fld Z hr6 br6 zs8 "unit" zs1 .null := Dr6 (Or.inr (ww hw 29 rfl)) (ty := (.object zs0)) (by decide)
          have f21 : Fld Z hr6 br6 zs8 "first" zs9 .null := Dr6 (Or.inr (ww hw 31 rfl)) (ty := (.object zs11)) (by decide)
          have f22 : Fld Z hr6 br6 zs8 "last" zs9 .null := Dr6 (Or.inr (ww hw 33 rfl)) (ty := (.object zs11)) (by decide)
          have f23 : Fld Z hr6 br6 zs8 "anchor" zs5 .null := Dr6 (Or.inr (ww hw 35 rfl)) (ty := (.object zs4)) (by decide)
          have f24 : Sta Z hr6 zs4 "FIRST" zs5 (.ref w1) := (Sta.ext Er6 (own_staK (own_staK (own_staK (own_staK S2 Kr1 all0) Kr2 all0) Kr3 all0) Kr4 all0))
          have f25 : Sta Z hr6 zs4 "MIDDLE" zs5 (.ref w2) := (Sta.ext Er6 (own_staK (own_staK (own_staK (own_staK S4 Kr1 all0) Kr2 all0) Kr3 all0) Kr4 all0))
          have f26 : Sta Z hr6 zs4 "LAST" zs5 (.ref w4) := (Sta.ext Er6 (own_staK (own_staK (own_staK (own_staK S8 Kr1 all0) Kr2 all0) Kr3 all0) Kr4 all0))
          have Z_5 : n0 ≤ hr6.size := Nat.le_trans Z_4 Er6.1
          obtain ⟨_, Tr7, Lr7, Xr7, hQr7, str7⟩ := ocallS Xr6 hx hZ zm1 hown (ww hw 11 rfl) (ww hw 12 rfl) (by decide) (ww hw 13 rfl) (ww hw 2 rfl) er6 (mg2_9 l Z a0 hw [] ((i0.toUInt32 >>> ((4 : Int32) &&& 31).toUInt32).toInt32) w1 w2 w4 hr6 n0 Z_5 f24 f25 f26) (st := [(.int ((i0.toUInt32 >>> ((4 : Int32) &&& 31).toUInt32).toInt32)), (.ref b2), (.ref b1), (.ref u1), (.ref br6), (.ref br6)]) rfl 5 rfl (by decide) (pc := 135) (Ls := (lc172 i0 i1 i2 i3 i4 i5 1 1 1 1 b1 b2 b3 b4 u1)) hml rfl (lenOf pd_1 rfl) at_135 hby
          obtain ⟨rfl, Nr7q, er7⟩ := hQr7
          refine own_go (U' := Tr7.setTop (mkF m 138 (lc172 i0 i1 i2 i3 i4 i5 1 1 1 1 b1 b2 b3 b4 u1) [(.ref (own_anch (((i0.toUInt32 >>> ((4 : Int32) &&& 31).toUInt32).toInt32) &&& (3 : Int32)) w1 w2 w4)), (.ref b2), (.ref b1), (.ref u1), (.ref br6), (.ref br6)])) (fun t k => oastore Xr5 hx hby at_120 (lc172 i0 i1 i2 i3 i4 i5 1 1 1 1 b1 b2 b3 b4 u1) rfl rfl (str6 _ (odup Xr6 hx hby at_125 rfl (oaload Xr6 hx hby at_126 rfl rfl (oaload Xr6 hx hby at_128 rfl rfl (oaload Xr6 hx hby at_130 rfl rfl (oiloadN Xr6 hx hby at_132 rfl (oiconst Xr6 hx hby at_133 (oiushr Xr6 hx hby at_134 (str7 _ k)))))))))) ?_
          obtain ⟨u2, hu2⟩ : ∃ z, z = (own_anch (((i0.toUInt32 >>> ((4 : Int32) &&& 31).toUInt32).toInt32) &&& (3 : Int32)) w1 w2 w4) := ⟨_, rfl⟩
          rw [← hu2]
          have N6 := Fr.app N5 Nr7q
          have g1 : n0 ≤ br6 := Nat.le_trans Z_4 (Nat.le_of_eq gr6.symm)
          obtain ⟨_, Tr8, Lr8, Xr8, hQr8, str8⟩ := ocallI Xr7 hx hZ zm3 rfl hown (ww hw 17 rfl) (ww hw 18 rfl) (by decide) (ww hw 19 rfl) (ww hw 10 rfl) er7 (rm3_30 l Z a0 hw [] br6 u1 b1 b2 u2 hr6 n0 Z_5 f20 f21 f22 f23 Ar6 g1) (st := [(.ref u2), (.ref b2), (.ref b1), (.ref u1), (.ref br6), (.ref br6)]) rfl 1 rfl (by decide) (pc := 138) (Ls := (lc172 i0 i1 i2 i3 i4 i5 1 1 1 1 b1 b2 b3 b4 u1)) hml rfl (lenOf pd_3 rfl) at_138 hby
          obtain ⟨rfl, Nr8q, Kr8, f27, f28, f29, f30⟩ := hQr8
          have N7 := Fr.app N6 Nr8q
          obtain ⟨Tr9, hr9, Xr9, er9, Er9, Ar9, Dr9, -, str9⟩ := newO Xr8 hx hZ hown (ww hw 8 rfl) (ww hw 9 rfl) (ww hw 10 rfl) rfl (g := (mkF m 143 (lc173 i0 i1 i2 i3 i4 i5 1 1 1 1 b1 b2 b3 b4 u1 br6) [])) rfl (hb hby at_143) (by decide) (by decide)
          obtain ⟨br9, gr9⟩ : ∃ z, z = Tr8.heap.size := ⟨_, rfl⟩
          rw [← gr9] at Ar9 Dr9 str9
          have f31 : Fld Z hr9 br9 zs8 "unit" zs1 .null := Dr9 (Or.inr (ww hw 29 rfl)) (ty := (.object zs0)) (by decide)
          have f32 : Fld Z hr9 br9 zs8 "first" zs9 .null := Dr9 (Or.inr (ww hw 31 rfl)) (ty := (.object zs11)) (by decide)
          have f33 : Fld Z hr9 br9 zs8 "last" zs9 .null := Dr9 (Or.inr (ww hw 33 rfl)) (ty := (.object zs11)) (by decide)
          have f34 : Fld Z hr9 br9 zs8 "anchor" zs5 .null := Dr9 (Or.inr (ww hw 35 rfl)) (ty := (.object zs4)) (by decide)
          have f35 : Sta Z hr9 zs4 "FIRST" zs5 (.ref w1) := (Sta.ext Er9 (own_staK f24 Kr8 (allS (own_nsE Ar6) all0)))
          have f36 : Sta Z hr9 zs4 "MIDDLE" zs5 (.ref w2) := (Sta.ext Er9 (own_staK f25 Kr8 (allS (own_nsE Ar6) all0)))
          have f37 : Sta Z hr9 zs4 "LAST" zs5 (.ref w4) := (Sta.ext Er9 (own_staK f26 Kr8 (allS (own_nsE Ar6) all0)))
          have Z_6 : n0 ≤ Tr8.heap.size := Nat.le_trans Z_5 Kr8.1
          have Z_7 : n0 ≤ hr9.size := Nat.le_trans Z_6 Er9.1
          obtain ⟨_, Tr10, Lr10, Xr10, hQr10, str10⟩ := ocallS Xr9 hx hZ zm1 hown (ww hw 11 rfl) (ww hw 12 rfl) (by decide) (ww hw 13 rfl) (ww hw 2 rfl) er9 (mg2_9 l Z a0 hw [] ((i0.toUInt32 >>> ((6 : Int32) &&& 31).toUInt32).toInt32) w1 w2 w4 hr9 n0 Z_7 f35 f36 f37) (st := [(.int ((i0.toUInt32 >>> ((6 : Int32) &&& 31).toUInt32).toInt32)), (.ref b4), (.ref b3), (.ref u1), (.ref br9), (.ref br9)]) rfl 5 rfl (by decide) (pc := 157) (Ls := (lc173 i0 i1 i2 i3 i4 i5 1 1 1 1 b1 b2 b3 b4 u1 br6)) hml rfl (lenOf pd_1 rfl) at_157 hby
          obtain ⟨rfl, Nr10q, er10⟩ := hQr10
          refine own_go (U' := Tr10.setTop (mkF m 160 (lc173 i0 i1 i2 i3 i4 i5 1 1 1 1 b1 b2 b3 b4 u1 br6) [(.ref (own_anch (((i0.toUInt32 >>> ((6 : Int32) &&& 31).toUInt32).toInt32) &&& (3 : Int32)) w1 w2 w4)), (.ref b4), (.ref b3), (.ref u1), (.ref br9), (.ref br9)])) (fun t k => str8 _ (oastore Xr8 hx hby at_141 (lc173 i0 i1 i2 i3 i4 i5 1 1 1 1 b1 b2 b3 b4 u1 br6) rfl rfl (str9 _ (odup Xr9 hx hby at_146 rfl (oaload Xr9 hx hby at_147 rfl rfl (oaload Xr9 hx hby at_149 rfl rfl (oaload Xr9 hx hby at_151 rfl rfl (oiloadN Xr9 hx hby at_153 rfl (obipush Xr9 hx hby at_154 (oiushr Xr9 hx hby at_156 (str10 _ k))))))))))) ?_
          obtain ⟨u3, hu3⟩ : ∃ z, z = (own_anch (((i0.toUInt32 >>> ((6 : Int32) &&& 31).toUInt32).toInt32) &&& (3 : Int32)) w1 w2 w4) := ⟨_, rfl⟩
          rw [← hu3]
          have N8 := Fr.app N7 Nr10q
          have g2 : n0 ≤ br9 := Nat.le_trans Z_6 (Nat.le_of_eq gr9.symm)
          obtain ⟨_, Tr11, Lr11, Xr11, hQr11, str11⟩ := ocallI Xr10 hx hZ zm3 rfl hown (ww hw 17 rfl) (ww hw 18 rfl) (by decide) (ww hw 19 rfl) (ww hw 10 rfl) er10 (rm3_30 l Z a0 hw [] br9 u1 b3 b4 u3 hr9 n0 Z_7 f31 f32 f33 f34 Ar9 g2) (st := [(.ref u3), (.ref b4), (.ref b3), (.ref u1), (.ref br9), (.ref br9)]) rfl 1 rfl (by decide) (pc := 160) (Ls := (lc173 i0 i1 i2 i3 i4 i5 1 1 1 1 b1 b2 b3 b4 u1 br6)) hml rfl (lenOf pd_3 rfl) at_160 hby
          obtain ⟨rfl, Nr11q, Kr11, f38, f39, f40, f41⟩ := hQr11
          have N9 := Fr.app N8 Nr11q
          have f42 : Exa Z Tr11.heap br6 zs8 := ((Exa.ext Er9 (Ar6.keep Kr8)).keep Kr11)
          have ne1 : br6 ≠ br9 := Nat.ne_of_lt (Nat.lt_of_lt_of_le (f27.lt) (Nat.le_of_eq gr9.symm))
          have f43 : Fld Z Tr11.heap br6 zs8 "first" zs9 (.ref b1) := ((Fld.ext Er9 f28).keep Kr11 (ninS ne1 nin0))
          have f44 : Fld Z Tr11.heap br6 zs8 "last" zs9 (.ref b2) := ((Fld.ext Er9 f29).keep Kr11 (ninS ne1 nin0))
          have Z_8 : n0 ≤ Tr11.heap.size := Nat.le_trans Z_7 Kr11.1
          obtain ⟨_, Tr12, Lr12, Xr12, hQr12, str12⟩ := ocallV Xr11 hx hZ zm4 zm4 hown (ww hw 36 rfl) (ww hw 37 rfl) (notFace_of_selects (args := #[]) (mvT hZ (ww hw 39 rfl))) (ww hw 39 rfl) (ww hw 38 rfl) (by decide) (ww hw 40 rfl) (ww hw 10 rfl) rfl f42 (rm6_31 l Z a0 hw [] br6 b1 b2 Tr11.heap n0 Z_8 f43 f44) (st := [(.ref br6)]) rfl 0 rfl (by decide) (pc := 167) (Ls := (lc174 i0 i1 i2 i3 i4 i5 1 1 1 1 b1 b2 b3 b4 u1 br6 br9)) hml rfl (lenOf pd_4 rfl) at_167 hby
          obtain ⟨rfl, Nr12q, er12⟩ := hQr12
          have N10 := Fr.app N9 Nr12q
          refine own_go (U' := Tr12.setTop (mkF m 172 (lc174 i0 i1 i2 i3 i4 i5 1 1 1 1 b1 b2 b3 b4 u1 br6 br9) [(.int 1), (.int 1)])) (fun t k => str11 _ (oastore Xr11 hx hby at_163 (lc174 i0 i1 i2 i3 i4 i5 1 1 1 1 b1 b2 b3 b4 u1 br6 br9) rfl rfl (oaload Xr11 hx hby at_165 rfl rfl (str12 _ (oiload Xr12 hx hby at_170 rfl k))))) ?_
          refine own_go (U' := Tr12.setTop (mkF m 177 (lc174 i0 i1 i2 i3 i4 i5 1 1 1 1 b1 b2 b3 b4 u1 br6 br9) [(.int 1), (.int 1)])) (fun t k => oifN Xr12 hx hby at_172 (by decide) (oiload Xr12 hx hby at_175 rfl k)) ?_
          refine own_go (U' := Tr12.setTop (mkF m 185 (lc174 i0 i1 i2 i3 i4 i5 1 1 1 1 b1 b2 b3 b4 u1 br6 br9) [(.int 1), (.int 1)])) (fun t k => oifN Xr12 hx hby at_177 (by decide) (oiconst Xr12 hx hby at_180 (ogoto (pc := 181) Xr12 hx hby at_181 185 (by decide) k))) ?_
          have f45 : Exa Z Tr11.heap br9 zs8 := (Ar9.keep Kr11)
          obtain ⟨_, Tr13, Lr13, Xr13, hQr13, str13⟩ := ocallV Xr12 hx hZ zm4 zm4 hown (ww hw 36 rfl) (ww hw 37 rfl) (notFace_of_selects (args := #[]) (mvT hZ (ww hw 39 rfl))) (ww hw 39 rfl) (ww hw 38 rfl) (by decide) (ww hw 40 rfl) (ww hw 10 rfl) er12 f45 (rm6_31 l Z a0 hw [] br9 b3 b4 Tr11.heap n0 Z_8 f39 f40) (st := [(.ref br9)]) rfl 0 rfl (by decide) (pc := 197) (Ls := (lc175 i0 i1 i2 i3 i4 i5 1 1 1 1 b1 b2 b3 b4 u1 br6 br9 1)) hml rfl (lenOf pd_4 rfl) at_197 hby
          obtain ⟨rfl, Nr13q, er13⟩ := hQr13
          have N11 := Fr.app N10 Nr13q
          refine own_go (U' := Tr13.setTop (mkF m 202 (lc175 i0 i1 i2 i3 i4 i5 1 1 1 1 b1 b2 b3 b4 u1 br6 br9 1) [(.int 1), (.int 1)])) (fun t k => oicN Xr12 hx hby at_185 (by decide) (oiconst Xr12 hx hby at_188 (ogoto (pc := 189) Xr12 hx hby at_189 193 (by decide) (oistore Xr12 hx hby at_193 (lc175 i0 i1 i2 i3 i4 i5 1 1 1 1 b1 b2 b3 b4 u1 br6 br9 1) rfl (oaload Xr12 hx hby at_195 rfl rfl (str13 _ (oiload Xr13 hx hby at_200 rfl k))))))) ?_
          refine own_go (U' := Tr13.setTop (mkF m 207 (lc175 i0 i1 i2 i3 i4 i5 1 1 1 1 b1 b2 b3 b4 u1 br6 br9 1) [(.int 1), (.int 1)])) (fun t k => oifN Xr13 hx hby at_202 (by decide) (oiload Xr13 hx hby at_205 rfl k)) ?_
          refine own_go (U' := Tr13.setTop (mkF m 215 (lc175 i0 i1 i2 i3 i4 i5 1 1 1 1 b1 b2 b3 b4 u1 br6 br9 1) [(.int 1), (.int 1)])) (fun t k => oifN Xr13 hx hby at_207 (by decide) (oiconst Xr13 hx hby at_210 (ogoto (pc := 211) Xr13 hx hby at_211 215 (by decide) k))) ?_
          have f46 : Exa Z Tr11.heap b3 zs11 := ((Exa.ext Er9 ((Exa.ext Er6 (f9.keep Kr4)).keep Kr8)).keep Kr11)
          have ne2 : b3 ≠ br6 := Nat.ne_of_lt (Nat.lt_of_lt_of_le (Nat.lt_of_lt_of_le (f10.lt) Kr4.1) (Nat.le_of_eq gr6.symm))
          have ne3 : b3 ≠ br9 := Nat.ne_of_lt (Nat.lt_of_lt_of_le (Nat.lt_of_lt_of_le (Nat.lt_of_lt_of_le (Nat.lt_of_lt_of_le (f10.lt) Kr4.1) Er6.1) Kr8.1) (Nat.le_of_eq gr9.symm))
          have f47 : Fld Z Tr11.heap b3 zs11 "value" "J" (.long i4) := ((Fld.ext Er9 ((Fld.ext Er6 (f10.keep Kr4 nin0)).keep Kr8 (ninS ne2 nin0))).keep Kr11 (ninS ne3 nin0))
          have f48 : Exa Z Tr11.heap b1 zs11 := ((Exa.ext Er9 ((Exa.ext Er6 (((f1.keep Kr2).keep Kr3).keep Kr4)).keep Kr8)).keep Kr11)
          have ne4 : b1 ≠ br6 := Nat.ne_of_lt (Nat.lt_of_lt_of_le (Nat.lt_of_lt_of_le (Nat.lt_of_lt_of_le (Nat.lt_of_lt_of_le (f2.lt) Kr2.1) Kr3.1) Kr4.1) (Nat.le_of_eq gr6.symm))
          have ne5 : b1 ≠ br9 := Nat.ne_of_lt (Nat.lt_of_lt_of_le (Nat.lt_of_lt_of_le (Nat.lt_of_lt_of_le (Nat.lt_of_lt_of_le (Nat.lt_of_lt_of_le (Nat.lt_of_lt_of_le (f2.lt) Kr2.1) Kr3.1) Kr4.1) Er6.1) Kr8.1) (Nat.le_of_eq gr9.symm))
          have f49 : Fld Z Tr11.heap b1 zs11 "value" "J" (.long i2) := ((Fld.ext Er9 ((Fld.ext Er6 (((f2.keep Kr2 nin0).keep Kr3 nin0).keep Kr4 nin0)).keep Kr8 (ninS ne4 nin0))).keep Kr11 (ninS ne5 nin0))
          have f50 : Exa Z Tr11.heap b4 zs11 := ((Exa.ext Er9 ((Exa.ext Er6 f13).keep Kr8)).keep Kr11)
          have ne6 : b4 ≠ br6 := Nat.ne_of_lt (Nat.lt_of_lt_of_le (f14.lt) (Nat.le_of_eq gr6.symm))
          have ne7 : b4 ≠ br9 := Nat.ne_of_lt (Nat.lt_of_lt_of_le (Nat.lt_of_lt_of_le (Nat.lt_of_lt_of_le (f14.lt) Er6.1) Kr8.1) (Nat.le_of_eq gr9.symm))
          have f51 : Fld Z Tr11.heap b4 zs11 "value" "J" (.long i5) := ((Fld.ext Er9 ((Fld.ext Er6 f14).keep Kr8 (ninS ne6 nin0))).keep Kr11 (ninS ne7 nin0))
          have f52 : Exa Z Tr11.heap b2 zs11 := ((Exa.ext Er9 ((Exa.ext Er6 ((f5.keep Kr3).keep Kr4)).keep Kr8)).keep Kr11)
          have ne8 : b2 ≠ br6 := Nat.ne_of_lt (Nat.lt_of_lt_of_le (Nat.lt_of_lt_of_le (Nat.lt_of_lt_of_le (f6.lt) Kr3.1) Kr4.1) (Nat.le_of_eq gr6.symm))
          have ne9 : b2 ≠ br9 := Nat.ne_of_lt (Nat.lt_of_lt_of_le (Nat.lt_of_lt_of_le (Nat.lt_of_lt_of_le (Nat.lt_of_lt_of_le (Nat.lt_of_lt_of_le (f6.lt) Kr3.1) Kr4.1) Er6.1) Kr8.1) (Nat.le_of_eq gr9.symm))
          have f53 : Fld Z Tr11.heap b2 zs11 "value" "J" (.long i3) := ((Fld.ext Er9 ((Fld.ext Er6 ((f6.keep Kr3 nin0).keep Kr4 nin0)).keep Kr8 (ninS ne8 nin0))).keep Kr11 (ninS ne9 nin0))
          have f54 : Fld Z Tr11.heap br6 zs8 "unit" zs1 (.ref u1) := ((Fld.ext Er9 f27).keep Kr11 (ninS ne1 nin0))
          have f55 : Sta Z Tr11.heap zs4 "MIDDLE" zs5 (.ref w2) := (own_staK f36 Kr11 (allS (own_nsF f31) all0))
          by_cases hk22 : i2 < i4
          · have hc10 : i2 < i4 := hk22
            by_cases hk23 : i5 < i3
            · have hc7 : i5 < i3 := hk23
              obtain ⟨_, Tr14, Lr14, Xr14, hQr14, str14⟩ := ocallV Xr13 hx hZ zm6 zm6 hown (ww hw 41 rfl) (ww hw 42 rfl) (notFace_of_selects (args := #[]) (mvT hZ (ww hw 44 rfl))) (ww hw 44 rfl) (ww hw 43 rfl) (by decide) (ww hw 45 rfl) (ww hw 10 rfl) er13 f42 (rm7_54 l Z a0 hw [] br6 br9 b1 b3 i4 i2 b2 b4 i5 i3 u1 w2 Tr11.heap n0 Z_8 f43 f39 f46 f47 f48 f49 hc10 f44 f40 f50 f51 f52 f53 hc7 f54 f55) (st := [(.ref br9), (.ref br6)]) rfl 0 rfl (by decide) (pc := 229) (Ls := (lc176 i0 i1 i2 i3 i4 i5 1 1 1 1 b1 b2 b3 b4 u1 br6 br9 1 1)) hml rfl (lenOf pd_6 rfl) at_229 hby
              obtain ⟨b5, rfl, Nr14q, Kr14, sz1, f56, f57, f58, f59, f60⟩ := hQr14
              have N12 := Fr.app N11 Nr14q
              have Z_9 : n0 ≤ Tr14.heap.size := Nat.le_trans Z_8 Kr14.1
              obtain ⟨_, Tr15, Lr15, Xr15, hQr15, str15⟩ := ocallV Xr14 hx hZ zm4 zm4 hown (ww hw 36 rfl) (ww hw 37 rfl) (notFace_of_selects (args := #[]) (mvT hZ (ww hw 39 rfl))) (ww hw 39 rfl) (ww hw 38 rfl) (by decide) (ww hw 40 rfl) (ww hw 10 rfl) rfl f56 (rm6_31 l Z a0 hw [] b5 b3 b4 Tr14.heap n0 Z_9 f58 f59) (st := [(.ref b5)]) rfl 0 rfl (by decide) (pc := 232) (Ls := (lc176 i0 i1 i2 i3 i4 i5 1 1 1 1 b1 b2 b3 b4 u1 br6 br9 1 1)) hml rfl (lenOf pd_4 rfl) at_232 hby
              obtain ⟨rfl, Nr15q, er15⟩ := hQr15
              have N13 := Fr.app N12 Nr15q
              refine own_go (U' := Tr15.setTop (mkF m 237 (lc176 i0 i1 i2 i3 i4 i5 1 1 1 1 b1 b2 b3 b4 u1 br6 br9 1 1) [(.int 1), (.int 1)])) (fun t k => oicN Xr13 hx hby at_215 (by decide) (oiconst Xr13 hx hby at_218 (ogoto (pc := 219) Xr13 hx hby at_219 223 (by decide) (oistore Xr13 hx hby at_223 (lc176 i0 i1 i2 i3 i4 i5 1 1 1 1 b1 b2 b3 b4 u1 br6 br9 1 1) rfl (oaload Xr13 hx hby at_225 rfl rfl (oaload Xr13 hx hby at_227 rfl rfl (str14 _ (str15 _ (oiload Xr15 hx hby at_235 rfl k))))))))) ?_
              refine own_go (U' := Tr15.setTop (mkF m 247 (lc176 i0 i1 i2 i3 i4 i5 1 1 1 1 b1 b2 b3 b4 u1 br6 br9 1 1) [(.int 1), (.int 1)])) (fun t k => oifY (pc := 237) Xr15 hx hby at_237 245 (by decide) (by decide) (oiload Xr15 hx hby at_245 rfl k)) ?_
              refine own_go (U' := Tr15.setTop (mkF m 260 (lc176 i0 i1 i2 i3 i4 i5 1 1 1 1 b1 b2 b3 b4 u1 br6 br9 1 1) [(.int 1), (.int 1)])) (fun t k => oifY (pc := 247) Xr15 hx hby at_247 255 (by decide) (by decide) (oiconst Xr15 hx hby at_255 (ogoto (pc := 256) Xr15 hx hby at_256 260 (by decide) k))) ?_
              have f61 : Exa Z Tr14.heap br6 zs8 := (f42.keep Kr14)
              have f62 : Fld Z Tr14.heap br6 zs8 "unit" zs1 (.ref u1) := (f54.keep Kr14 nin0)
              have f63 : Fld Z Tr14.heap br6 zs8 "first" zs9 (.ref b1) := (f43.keep Kr14 nin0)
              have f64 : Sta Z Tr14.heap zs4 "MIDDLE" zs5 (.ref w2) := (own_staK f55 Kr14 all0)
              obtain ⟨_, Tr16, Lr16, Xr16, hQr16, str16⟩ := ocallV Xr15 hx hZ zm7 zm7 hown (ww hw 53 rfl) (ww hw 54 rfl) (notFace_of_selects (args := #[]) (mvT hZ (ww hw 56 rfl))) (ww hw 56 rfl) (ww hw 55 rfl) (by decide) (ww hw 57 rfl) (ww hw 10 rfl) er15 f61 (rm9_43 l Z a0 hw [] br6 u1 b1 w2 Tr14.heap n0 Z_9 f62 f63 f64) (st := [(.ref br6)]) rfl 0 rfl (by decide) (pc := 272) (Ls := (lc177 i0 i1 i2 i3 i4 i5 1 1 1 1 b1 b2 b3 b4 u1 br6 br9 1 1 1)) hml rfl (lenOf pd_7 rfl) at_272 hby
              obtain ⟨b6, rfl, Nr16q, Kr16, sz2, f65, f66, f67, f68, f69⟩ := hQr16
              have N14 := Fr.app N13 Nr16q
              have Z_10 : n0 ≤ Tr16.heap.size := Nat.le_trans Z_9 Kr16.1
              obtain ⟨_, Tr17, Lr17, Xr17, hQr17, str17⟩ := ocallV Xr16 hx hZ zm4 zm4 hown (ww hw 36 rfl) (ww hw 37 rfl) (notFace_of_selects (args := #[]) (mvT hZ (ww hw 39 rfl))) (ww hw 39 rfl) (ww hw 38 rfl) (by decide) (ww hw 40 rfl) (ww hw 10 rfl) rfl f65 (rm6_27 l Z a0 hw [] b6 b1 Tr16.heap n0 Z_10 f67 f68) (st := [(.ref b6)]) rfl 0 rfl (by decide) (pc := 275) (Ls := (lc177 i0 i1 i2 i3 i4 i5 1 1 1 1 b1 b2 b3 b4 u1 br6 br9 1 1 1)) hml rfl (lenOf pd_4 rfl) at_275 hby
              obtain ⟨rfl, Nr17q, er17⟩ := hQr17
              have N15 := Fr.app N14 Nr17q
              refine own_go (U' := Tr17.setTop (mkF m 278 (lc177 i0 i1 i2 i3 i4 i5 1 1 1 1 b1 b2 b3 b4 u1 br6 br9 1 1 1) [(.int 0)])) (fun t k => oicN Xr15 hx hby at_260 (by decide) (oiconst Xr15 hx hby at_263 (ogoto (pc := 264) Xr15 hx hby at_264 268 (by decide) (oistore Xr15 hx hby at_268 (lc177 i0 i1 i2 i3 i4 i5 1 1 1 1 b1 b2 b3 b4 u1 br6 br9 1 1 1) rfl (oaload Xr15 hx hby at_270 rfl rfl (str16 _ (str17 _ k))))))) ?_
              have f70 : Exa Z Tr16.heap br6 zs8 := (f61.keep Kr16)
              have f71 : Fld Z Tr16.heap br6 zs8 "unit" zs1 (.ref u1) := (f62.keep Kr16 nin0)
              have f72 : Fld Z Tr16.heap br6 zs8 "last" zs9 (.ref b2) := ((f44.keep Kr14 nin0).keep Kr16 nin0)
              have f73 : Sta Z Tr16.heap zs4 "MIDDLE" zs5 (.ref w2) := (own_staK f64 Kr16 all0)
              obtain ⟨_, Tr18, Lr18, Xr18, hQr18, str18⟩ := ocallV Xr17 hx hZ zm8 zm8 hown (ww hw 58 rfl) (ww hw 59 rfl) (notFace_of_selects (args := #[]) (mvT hZ (ww hw 61 rfl))) (ww hw 61 rfl) (ww hw 60 rfl) (by decide) (ww hw 62 rfl) (ww hw 10 rfl) er17 f70 (rm10_35 l Z a0 hw [] br6 u1 b2 w2 Tr16.heap n0 Z_10 f71 f72 f73) (st := [(.ref br6)]) rfl 0 rfl (by decide) (pc := 290) (Ls := (lc178 i0 i1 i2 i3 i4 i5 1 1 1 1 b1 b2 b3 b4 u1 br6 br9 1 1 1 1)) hml rfl (lenOf pd_7 rfl) at_290 hby
              obtain ⟨b7, rfl, Nr18q, Kr18, sz3, f74, f75, f76, f77, f78⟩ := hQr18
              have N16 := Fr.app N15 Nr18q
              have Z_11 : n0 ≤ Tr18.heap.size := Nat.le_trans Z_10 Kr18.1
              obtain ⟨_, Tr19, Lr19, Xr19, hQr19, str19⟩ := ocallV Xr18 hx hZ zm4 zm4 hown (ww hw 36 rfl) (ww hw 37 rfl) (notFace_of_selects (args := #[]) (mvT hZ (ww hw 39 rfl))) (ww hw 39 rfl) (ww hw 38 rfl) (by decide) (ww hw 40 rfl) (ww hw 10 rfl) rfl f74 (rm6_12 l Z a0 hw [] b7 Tr18.heap n0 Z_11 f76) (st := [(.ref b7)]) rfl 0 rfl (by decide) (pc := 293) (Ls := (lc178 i0 i1 i2 i3 i4 i5 1 1 1 1 b1 b2 b3 b4 u1 br6 br9 1 1 1 1)) hml rfl (lenOf pd_4 rfl) at_293 hby
              obtain ⟨rfl, Nr19q, er19⟩ := hQr19
              have N17 := Fr.app N16 Nr19q
              refine own_go (U' := Tr19.setTop (mkF m 296 (lc178 i0 i1 i2 i3 i4 i5 1 1 1 1 b1 b2 b3 b4 u1 br6 br9 1 1 1 1) [(.int 0)])) (fun t k => oifN Xr17 hx hby at_278 (by decide) (oiconst Xr17 hx hby at_281 (ogoto (pc := 282) Xr17 hx hby at_282 286 (by decide) (oistore Xr17 hx hby at_286 (lc178 i0 i1 i2 i3 i4 i5 1 1 1 1 b1 b2 b3 b4 u1 br6 br9 1 1 1 1) rfl (oaload Xr17 hx hby at_288 rfl rfl (str18 _ (str19 _ k))))))) ?_
              refine own_go (U' := Tr19.setTop (mkF m 308 (lc179 i0 i1 i2 i3 i4 i5 1 1 1 1 b1 b2 b3 b4 u1 br6 br9 1 1 1 1 1) [(.int 1)])) (fun t k => oifN Xr19 hx hby at_296 (by decide) (oiconst Xr19 hx hby at_299 (ogoto (pc := 300) Xr19 hx hby at_300 304 (by decide) (oistore Xr19 hx hby at_304 (lc179 i0 i1 i2 i3 i4 i5 1 1 1 1 b1 b2 b3 b4 u1 br6 br9 1 1 1 1 1) rfl (oiload Xr19 hx hby at_306 rfl k))))) ?_
              refine own_go (U' := Tr19.setTop (mkF m 313 (lc179 i0 i1 i2 i3 i4 i5 1 1 1 1 b1 b2 b3 b4 u1 br6 br9 1 1 1 1 1) [(.int 1)])) (fun t k => oifN Xr19 hx hby at_308 (by decide) (oiload Xr19 hx hby at_311 rfl k)) ?_
              refine own_go (U' := Tr19.setTop (mkF m 318 (lc179 i0 i1 i2 i3 i4 i5 1 1 1 1 b1 b2 b3 b4 u1 br6 br9 1 1 1 1 1) [(.int 1)])) (fun t k => oifN Xr19 hx hby at_313 (by decide) (oiload Xr19 hx hby at_316 rfl k)) ?_
              refine own_go (U' := Tr19.setTop (mkF m 323 (lc179 i0 i1 i2 i3 i4 i5 1 1 1 1 b1 b2 b3 b4 u1 br6 br9 1 1 1 1 1) [(.int 1)])) (fun t k => oifN Xr19 hx hby at_318 (by decide) (oiload Xr19 hx hby at_321 rfl k)) ?_
              refine own_go (U' := Tr19.setTop (mkF m 328 (lc179 i0 i1 i2 i3 i4 i5 1 1 1 1 b1 b2 b3 b4 u1 br6 br9 1 1 1 1 1) [(.int 1)])) (fun t k => oifN Xr19 hx hby at_323 (by decide) (oiload Xr19 hx hby at_326 rfl k)) ?_
              refine own_go (U' := Tr19.setTop (mkF m 336 (lc179 i0 i1 i2 i3 i4 i5 1 1 1 1 b1 b2 b3 b4 u1 br6 br9 1 1 1 1 1) [(.int 1)])) (fun t k => oifN Xr19 hx hby at_328 (by decide) (oiconst Xr19 hx hby at_331 (ogoto (pc := 332) Xr19 hx hby at_332 336 (by decide) k))) ?_
              obtain ⟨fs, hr, hrun, hended, hW, hsame⟩ := Xr19.leave (v := some (.int 1)) (fun h => by rw [Bd.returns] at h; cases h)
              refine own_out ⟨_, _, ?_, hrun, hended, _, _, rfl, ?_, ⟨_, rfl⟩, hW, hsame.mono (by decide) (by decide)⟩
              · exact retN Xr19 hx (t := .boolean) Bd.returns (by simp) (hb hby at_336) hr
              · exact ⟨rfl, N17⟩
            · have hc8 : ¬ (i5 < i3) := hk23
              obtain ⟨_, Tr14, Lr14, Xr14, hQr14, str14⟩ := ocallV Xr13 hx hZ zm6 zm6 hown (ww hw 41 rfl) (ww hw 42 rfl) (notFace_of_selects (args := #[]) (mvT hZ (ww hw 44 rfl))) (ww hw 44 rfl) (ww hw 43 rfl) (by decide) (ww hw 45 rfl) (ww hw 10 rfl) er13 f42 (rm7_55 l Z a0 hw [] br6 br9 b1 b3 i4 i2 b2 b4 i5 i3 u1 w2 Tr11.heap n0 Z_8 f43 f39 f46 f47 f48 f49 hc10 f44 f40 f50 f51 f52 f53 hc8 f54 f55) (st := [(.ref br9), (.ref br6)]) rfl 0 rfl (by decide) (pc := 229) (Ls := (lc176 i0 i1 i2 i3 i4 i5 1 1 1 1 b1 b2 b3 b4 u1 br6 br9 1 1)) hml rfl (lenOf pd_6 rfl) at_229 hby
              obtain ⟨b5, rfl, Nr14q, Kr14, sz1, f56, f57, f58, f59, f60⟩ := hQr14
              have N12 := Fr.app N11 Nr14q
              have Z_9 : n0 ≤ Tr14.heap.size := Nat.le_trans Z_8 Kr14.1
              obtain ⟨_, Tr15, Lr15, Xr15, hQr15, str15⟩ := ocallV Xr14 hx hZ zm4 zm4 hown (ww hw 36 rfl) (ww hw 37 rfl) (notFace_of_selects (args := #[]) (mvT hZ (ww hw 39 rfl))) (ww hw 39 rfl) (ww hw 38 rfl) (by decide) (ww hw 40 rfl) (ww hw 10 rfl) rfl f56 (rm6_31 l Z a0 hw [] b5 b3 b2 Tr14.heap n0 Z_9 f58 f59) (st := [(.ref b5)]) rfl 0 rfl (by decide) (pc := 232) (Ls := (lc176 i0 i1 i2 i3 i4 i5 1 1 1 1 b1 b2 b3 b4 u1 br6 br9 1 1)) hml rfl (lenOf pd_4 rfl) at_232 hby
              obtain ⟨rfl, Nr15q, er15⟩ := hQr15
              have N13 := Fr.app N12 Nr15q
              refine own_go (U' := Tr15.setTop (mkF m 237 (lc176 i0 i1 i2 i3 i4 i5 1 1 1 1 b1 b2 b3 b4 u1 br6 br9 1 1) [(.int 1), (.int 1)])) (fun t k => oicN Xr13 hx hby at_215 (by decide) (oiconst Xr13 hx hby at_218 (ogoto (pc := 219) Xr13 hx hby at_219 223 (by decide) (oistore Xr13 hx hby at_223 (lc176 i0 i1 i2 i3 i4 i5 1 1 1 1 b1 b2 b3 b4 u1 br6 br9 1 1) rfl (oaload Xr13 hx hby at_225 rfl rfl (oaload Xr13 hx hby at_227 rfl rfl (str14 _ (str15 _ (oiload Xr15 hx hby at_235 rfl k))))))))) ?_
              refine own_go (U' := Tr15.setTop (mkF m 247 (lc176 i0 i1 i2 i3 i4 i5 1 1 1 1 b1 b2 b3 b4 u1 br6 br9 1 1) [(.int 1), (.int 1)])) (fun t k => oifY (pc := 237) Xr15 hx hby at_237 245 (by decide) (by decide) (oiload Xr15 hx hby at_245 rfl k)) ?_
              refine own_go (U' := Tr15.setTop (mkF m 260 (lc176 i0 i1 i2 i3 i4 i5 1 1 1 1 b1 b2 b3 b4 u1 br6 br9 1 1) [(.int 1), (.int 1)])) (fun t k => oifY (pc := 247) Xr15 hx hby at_247 255 (by decide) (by decide) (oiconst Xr15 hx hby at_255 (ogoto (pc := 256) Xr15 hx hby at_256 260 (by decide) k))) ?_
              have f61 : Exa Z Tr14.heap br6 zs8 := (f42.keep Kr14)
              have f62 : Fld Z Tr14.heap br6 zs8 "unit" zs1 (.ref u1) := (f54.keep Kr14 nin0)
              have f63 : Fld Z Tr14.heap br6 zs8 "first" zs9 (.ref b1) := (f43.keep Kr14 nin0)
              have f64 : Sta Z Tr14.heap zs4 "MIDDLE" zs5 (.ref w2) := (own_staK f55 Kr14 all0)
              obtain ⟨_, Tr16, Lr16, Xr16, hQr16, str16⟩ := ocallV Xr15 hx hZ zm7 zm7 hown (ww hw 53 rfl) (ww hw 54 rfl) (notFace_of_selects (args := #[]) (mvT hZ (ww hw 56 rfl))) (ww hw 56 rfl) (ww hw 55 rfl) (by decide) (ww hw 57 rfl) (ww hw 10 rfl) er15 f61 (rm9_43 l Z a0 hw [] br6 u1 b1 w2 Tr14.heap n0 Z_9 f62 f63 f64) (st := [(.ref br6)]) rfl 0 rfl (by decide) (pc := 272) (Ls := (lc177 i0 i1 i2 i3 i4 i5 1 1 1 1 b1 b2 b3 b4 u1 br6 br9 1 1 1)) hml rfl (lenOf pd_7 rfl) at_272 hby
              obtain ⟨b6, rfl, Nr16q, Kr16, sz2, f65, f66, f67, f68, f69⟩ := hQr16
              have N14 := Fr.app N13 Nr16q
              have Z_10 : n0 ≤ Tr16.heap.size := Nat.le_trans Z_9 Kr16.1
              obtain ⟨_, Tr17, Lr17, Xr17, hQr17, str17⟩ := ocallV Xr16 hx hZ zm4 zm4 hown (ww hw 36 rfl) (ww hw 37 rfl) (notFace_of_selects (args := #[]) (mvT hZ (ww hw 39 rfl))) (ww hw 39 rfl) (ww hw 38 rfl) (by decide) (ww hw 40 rfl) (ww hw 10 rfl) rfl f65 (rm6_27 l Z a0 hw [] b6 b1 Tr16.heap n0 Z_10 f67 f68) (st := [(.ref b6)]) rfl 0 rfl (by decide) (pc := 275) (Ls := (lc177 i0 i1 i2 i3 i4 i5 1 1 1 1 b1 b2 b3 b4 u1 br6 br9 1 1 1)) hml rfl (lenOf pd_4 rfl) at_275 hby
              obtain ⟨rfl, Nr17q, er17⟩ := hQr17
              have N15 := Fr.app N14 Nr17q
              refine own_go (U' := Tr17.setTop (mkF m 278 (lc177 i0 i1 i2 i3 i4 i5 1 1 1 1 b1 b2 b3 b4 u1 br6 br9 1 1 1) [(.int 0)])) (fun t k => oicN Xr15 hx hby at_260 (by decide) (oiconst Xr15 hx hby at_263 (ogoto (pc := 264) Xr15 hx hby at_264 268 (by decide) (oistore Xr15 hx hby at_268 (lc177 i0 i1 i2 i3 i4 i5 1 1 1 1 b1 b2 b3 b4 u1 br6 br9 1 1 1) rfl (oaload Xr15 hx hby at_270 rfl rfl (str16 _ (str17 _ k))))))) ?_
              have f70 : Exa Z Tr16.heap br6 zs8 := (f61.keep Kr16)
              have f71 : Fld Z Tr16.heap br6 zs8 "unit" zs1 (.ref u1) := (f62.keep Kr16 nin0)
              have f72 : Fld Z Tr16.heap br6 zs8 "last" zs9 (.ref b2) := ((f44.keep Kr14 nin0).keep Kr16 nin0)
              have f73 : Sta Z Tr16.heap zs4 "MIDDLE" zs5 (.ref w2) := (own_staK f64 Kr16 all0)
              obtain ⟨_, Tr18, Lr18, Xr18, hQr18, str18⟩ := ocallV Xr17 hx hZ zm8 zm8 hown (ww hw 58 rfl) (ww hw 59 rfl) (notFace_of_selects (args := #[]) (mvT hZ (ww hw 61 rfl))) (ww hw 61 rfl) (ww hw 60 rfl) (by decide) (ww hw 62 rfl) (ww hw 10 rfl) er17 f70 (rm10_35 l Z a0 hw [] br6 u1 b2 w2 Tr16.heap n0 Z_10 f71 f72 f73) (st := [(.ref br6)]) rfl 0 rfl (by decide) (pc := 290) (Ls := (lc178 i0 i1 i2 i3 i4 i5 1 1 1 1 b1 b2 b3 b4 u1 br6 br9 1 1 1 1)) hml rfl (lenOf pd_7 rfl) at_290 hby
              obtain ⟨b7, rfl, Nr18q, Kr18, sz3, f74, f75, f76, f77, f78⟩ := hQr18
              have N16 := Fr.app N15 Nr18q
              have Z_11 : n0 ≤ Tr18.heap.size := Nat.le_trans Z_10 Kr18.1
              obtain ⟨_, Tr19, Lr19, Xr19, hQr19, str19⟩ := ocallV Xr18 hx hZ zm4 zm4 hown (ww hw 36 rfl) (ww hw 37 rfl) (notFace_of_selects (args := #[]) (mvT hZ (ww hw 39 rfl))) (ww hw 39 rfl) (ww hw 38 rfl) (by decide) (ww hw 40 rfl) (ww hw 10 rfl) rfl f74 (rm6_12 l Z a0 hw [] b7 Tr18.heap n0 Z_11 f76) (st := [(.ref b7)]) rfl 0 rfl (by decide) (pc := 293) (Ls := (lc178 i0 i1 i2 i3 i4 i5 1 1 1 1 b1 b2 b3 b4 u1 br6 br9 1 1 1 1)) hml rfl (lenOf pd_4 rfl) at_293 hby
              obtain ⟨rfl, Nr19q, er19⟩ := hQr19
              have N17 := Fr.app N16 Nr19q
              refine own_go (U' := Tr19.setTop (mkF m 296 (lc178 i0 i1 i2 i3 i4 i5 1 1 1 1 b1 b2 b3 b4 u1 br6 br9 1 1 1 1) [(.int 0)])) (fun t k => oifN Xr17 hx hby at_278 (by decide) (oiconst Xr17 hx hby at_281 (ogoto (pc := 282) Xr17 hx hby at_282 286 (by decide) (oistore Xr17 hx hby at_286 (lc178 i0 i1 i2 i3 i4 i5 1 1 1 1 b1 b2 b3 b4 u1 br6 br9 1 1 1 1) rfl (oaload Xr17 hx hby at_288 rfl rfl (str18 _ (str19 _ k))))))) ?_
              refine own_go (U' := Tr19.setTop (mkF m 308 (lc179 i0 i1 i2 i3 i4 i5 1 1 1 1 b1 b2 b3 b4 u1 br6 br9 1 1 1 1 1) [(.int 1)])) (fun t k => oifN Xr19 hx hby at_296 (by decide) (oiconst Xr19 hx hby at_299 (ogoto (pc := 300) Xr19 hx hby at_300 304 (by decide) (oistore Xr19 hx hby at_304 (lc179 i0 i1 i2 i3 i4 i5 1 1 1 1 b1 b2 b3 b4 u1 br6 br9 1 1 1 1 1) rfl (oiload Xr19 hx hby at_306 rfl k))))) ?_
              refine own_go (U' := Tr19.setTop (mkF m 313 (lc179 i0 i1 i2 i3 i4 i5 1 1 1 1 b1 b2 b3 b4 u1 br6 br9 1 1 1 1 1) [(.int 1)])) (fun t k => oifN Xr19 hx hby at_308 (by decide) (oiload Xr19 hx hby at_311 rfl k)) ?_
              refine own_go (U' := Tr19.setTop (mkF m 318 (lc179 i0 i1 i2 i3 i4 i5 1 1 1 1 b1 b2 b3 b4 u1 br6 br9 1 1 1 1 1) [(.int 1)])) (fun t k => oifN Xr19 hx hby at_313 (by decide) (oiload Xr19 hx hby at_316 rfl k)) ?_
              refine own_go (U' := Tr19.setTop (mkF m 323 (lc179 i0 i1 i2 i3 i4 i5 1 1 1 1 b1 b2 b3 b4 u1 br6 br9 1 1 1 1 1) [(.int 1)])) (fun t k => oifN Xr19 hx hby at_318 (by decide) (oiload Xr19 hx hby at_321 rfl k)) ?_
              refine own_go (U' := Tr19.setTop (mkF m 328 (lc179 i0 i1 i2 i3 i4 i5 1 1 1 1 b1 b2 b3 b4 u1 br6 br9 1 1 1 1 1) [(.int 1)])) (fun t k => oifN Xr19 hx hby at_323 (by decide) (oiload Xr19 hx hby at_326 rfl k)) ?_
              refine own_go (U' := Tr19.setTop (mkF m 336 (lc179 i0 i1 i2 i3 i4 i5 1 1 1 1 b1 b2 b3 b4 u1 br6 br9 1 1 1 1 1) [(.int 1)])) (fun t k => oifN Xr19 hx hby at_328 (by decide) (oiconst Xr19 hx hby at_331 (ogoto (pc := 332) Xr19 hx hby at_332 336 (by decide) k))) ?_
              obtain ⟨fs, hr, hrun, hended, hW, hsame⟩ := Xr19.leave (v := some (.int 1)) (fun h => by rw [Bd.returns] at h; cases h)
              refine own_out ⟨_, _, ?_, hrun, hended, _, _, rfl, ?_, ⟨_, rfl⟩, hW, hsame.mono (by decide) (by decide)⟩
              · exact retN Xr19 hx (t := .boolean) Bd.returns (by simp) (hb hby at_336) hr
              · exact ⟨rfl, N17⟩
          · have hc11 : ¬ (i2 < i4) := hk22
            by_cases hk24 : i5 < i3
            · have hc7 : i5 < i3 := hk24
              obtain ⟨_, Tr14, Lr14, Xr14, hQr14, str14⟩ := ocallV Xr13 hx hZ zm6 zm6 hown (ww hw 41 rfl) (ww hw 42 rfl) (notFace_of_selects (args := #[]) (mvT hZ (ww hw 44 rfl))) (ww hw 44 rfl) (ww hw 43 rfl) (by decide) (ww hw 45 rfl) (ww hw 10 rfl) er13 f42 (rm7_56 l Z a0 hw [] br6 br9 b1 b3 i4 i2 b2 b4 i5 i3 u1 w2 Tr11.heap n0 Z_8 f43 f39 f46 f47 f48 f49 hc11 f44 f40 f50 f51 f52 f53 hc7 f54 f55) (st := [(.ref br9), (.ref br6)]) rfl 0 rfl (by decide) (pc := 229) (Ls := (lc176 i0 i1 i2 i3 i4 i5 1 1 1 1 b1 b2 b3 b4 u1 br6 br9 1 1)) hml rfl (lenOf pd_6 rfl) at_229 hby
              obtain ⟨b5, rfl, Nr14q, Kr14, sz1, f56, f57, f58, f59, f60⟩ := hQr14
              have N12 := Fr.app N11 Nr14q
              have Z_9 : n0 ≤ Tr14.heap.size := Nat.le_trans Z_8 Kr14.1
              obtain ⟨_, Tr15, Lr15, Xr15, hQr15, str15⟩ := ocallV Xr14 hx hZ zm4 zm4 hown (ww hw 36 rfl) (ww hw 37 rfl) (notFace_of_selects (args := #[]) (mvT hZ (ww hw 39 rfl))) (ww hw 39 rfl) (ww hw 38 rfl) (by decide) (ww hw 40 rfl) (ww hw 10 rfl) rfl f56 (rm6_31 l Z a0 hw [] b5 b1 b4 Tr14.heap n0 Z_9 f58 f59) (st := [(.ref b5)]) rfl 0 rfl (by decide) (pc := 232) (Ls := (lc176 i0 i1 i2 i3 i4 i5 1 1 1 1 b1 b2 b3 b4 u1 br6 br9 1 1)) hml rfl (lenOf pd_4 rfl) at_232 hby
              obtain ⟨rfl, Nr15q, er15⟩ := hQr15
              have N13 := Fr.app N12 Nr15q
              refine own_go (U' := Tr15.setTop (mkF m 237 (lc176 i0 i1 i2 i3 i4 i5 1 1 1 1 b1 b2 b3 b4 u1 br6 br9 1 1) [(.int 1), (.int 1)])) (fun t k => oicN Xr13 hx hby at_215 (by decide) (oiconst Xr13 hx hby at_218 (ogoto (pc := 219) Xr13 hx hby at_219 223 (by decide) (oistore Xr13 hx hby at_223 (lc176 i0 i1 i2 i3 i4 i5 1 1 1 1 b1 b2 b3 b4 u1 br6 br9 1 1) rfl (oaload Xr13 hx hby at_225 rfl rfl (oaload Xr13 hx hby at_227 rfl rfl (str14 _ (str15 _ (oiload Xr15 hx hby at_235 rfl k))))))))) ?_
              refine own_go (U' := Tr15.setTop (mkF m 247 (lc176 i0 i1 i2 i3 i4 i5 1 1 1 1 b1 b2 b3 b4 u1 br6 br9 1 1) [(.int 1), (.int 1)])) (fun t k => oifY (pc := 237) Xr15 hx hby at_237 245 (by decide) (by decide) (oiload Xr15 hx hby at_245 rfl k)) ?_
              refine own_go (U' := Tr15.setTop (mkF m 260 (lc176 i0 i1 i2 i3 i4 i5 1 1 1 1 b1 b2 b3 b4 u1 br6 br9 1 1) [(.int 1), (.int 1)])) (fun t k => oifY (pc := 247) Xr15 hx hby at_247 255 (by decide) (by decide) (oiconst Xr15 hx hby at_255 (ogoto (pc := 256) Xr15 hx hby at_256 260 (by decide) k))) ?_
              have f61 : Exa Z Tr14.heap br6 zs8 := (f42.keep Kr14)
              have f62 : Fld Z Tr14.heap br6 zs8 "unit" zs1 (.ref u1) := (f54.keep Kr14 nin0)
              have f63 : Fld Z Tr14.heap br6 zs8 "first" zs9 (.ref b1) := (f43.keep Kr14 nin0)
              have f64 : Sta Z Tr14.heap zs4 "MIDDLE" zs5 (.ref w2) := (own_staK f55 Kr14 all0)
              obtain ⟨_, Tr16, Lr16, Xr16, hQr16, str16⟩ := ocallV Xr15 hx hZ zm7 zm7 hown (ww hw 53 rfl) (ww hw 54 rfl) (notFace_of_selects (args := #[]) (mvT hZ (ww hw 56 rfl))) (ww hw 56 rfl) (ww hw 55 rfl) (by decide) (ww hw 57 rfl) (ww hw 10 rfl) er15 f61 (rm9_43 l Z a0 hw [] br6 u1 b1 w2 Tr14.heap n0 Z_9 f62 f63 f64) (st := [(.ref br6)]) rfl 0 rfl (by decide) (pc := 272) (Ls := (lc177 i0 i1 i2 i3 i4 i5 1 1 1 1 b1 b2 b3 b4 u1 br6 br9 1 1 1)) hml rfl (lenOf pd_7 rfl) at_272 hby
              obtain ⟨b6, rfl, Nr16q, Kr16, sz2, f65, f66, f67, f68, f69⟩ := hQr16
              have N14 := Fr.app N13 Nr16q
              have Z_10 : n0 ≤ Tr16.heap.size := Nat.le_trans Z_9 Kr16.1
              obtain ⟨_, Tr17, Lr17, Xr17, hQr17, str17⟩ := ocallV Xr16 hx hZ zm4 zm4 hown (ww hw 36 rfl) (ww hw 37 rfl) (notFace_of_selects (args := #[]) (mvT hZ (ww hw 39 rfl))) (ww hw 39 rfl) (ww hw 38 rfl) (by decide) (ww hw 40 rfl) (ww hw 10 rfl) rfl f65 (rm6_27 l Z a0 hw [] b6 b1 Tr16.heap n0 Z_10 f67 f68) (st := [(.ref b6)]) rfl 0 rfl (by decide) (pc := 275) (Ls := (lc177 i0 i1 i2 i3 i4 i5 1 1 1 1 b1 b2 b3 b4 u1 br6 br9 1 1 1)) hml rfl (lenOf pd_4 rfl) at_275 hby
              obtain ⟨rfl, Nr17q, er17⟩ := hQr17
              have N15 := Fr.app N14 Nr17q
              refine own_go (U' := Tr17.setTop (mkF m 278 (lc177 i0 i1 i2 i3 i4 i5 1 1 1 1 b1 b2 b3 b4 u1 br6 br9 1 1 1) [(.int 0)])) (fun t k => oicN Xr15 hx hby at_260 (by decide) (oiconst Xr15 hx hby at_263 (ogoto (pc := 264) Xr15 hx hby at_264 268 (by decide) (oistore Xr15 hx hby at_268 (lc177 i0 i1 i2 i3 i4 i5 1 1 1 1 b1 b2 b3 b4 u1 br6 br9 1 1 1) rfl (oaload Xr15 hx hby at_270 rfl rfl (str16 _ (str17 _ k))))))) ?_
              have f70 : Exa Z Tr16.heap br6 zs8 := (f61.keep Kr16)
              have f71 : Fld Z Tr16.heap br6 zs8 "unit" zs1 (.ref u1) := (f62.keep Kr16 nin0)
              have f72 : Fld Z Tr16.heap br6 zs8 "last" zs9 (.ref b2) := ((f44.keep Kr14 nin0).keep Kr16 nin0)
              have f73 : Sta Z Tr16.heap zs4 "MIDDLE" zs5 (.ref w2) := (own_staK f64 Kr16 all0)
              obtain ⟨_, Tr18, Lr18, Xr18, hQr18, str18⟩ := ocallV Xr17 hx hZ zm8 zm8 hown (ww hw 58 rfl) (ww hw 59 rfl) (notFace_of_selects (args := #[]) (mvT hZ (ww hw 61 rfl))) (ww hw 61 rfl) (ww hw 60 rfl) (by decide) (ww hw 62 rfl) (ww hw 10 rfl) er17 f70 (rm10_35 l Z a0 hw [] br6 u1 b2 w2 Tr16.heap n0 Z_10 f71 f72 f73) (st := [(.ref br6)]) rfl 0 rfl (by decide) (pc := 290) (Ls := (lc178 i0 i1 i2 i3 i4 i5 1 1 1 1 b1 b2 b3 b4 u1 br6 br9 1 1 1 1)) hml rfl (lenOf pd_7 rfl) at_290 hby
              obtain ⟨b7, rfl, Nr18q, Kr18, sz3, f74, f75, f76, f77, f78⟩ := hQr18
              have N16 := Fr.app N15 Nr18q
              have Z_11 : n0 ≤ Tr18.heap.size := Nat.le_trans Z_10 Kr18.1
              obtain ⟨_, Tr19, Lr19, Xr19, hQr19, str19⟩ := ocallV Xr18 hx hZ zm4 zm4 hown (ww hw 36 rfl) (ww hw 37 rfl) (notFace_of_selects (args := #[]) (mvT hZ (ww hw 39 rfl))) (ww hw 39 rfl) (ww hw 38 rfl) (by decide) (ww hw 40 rfl) (ww hw 10 rfl) rfl f74 (rm6_12 l Z a0 hw [] b7 Tr18.heap n0 Z_11 f76) (st := [(.ref b7)]) rfl 0 rfl (by decide) (pc := 293) (Ls := (lc178 i0 i1 i2 i3 i4 i5 1 1 1 1 b1 b2 b3 b4 u1 br6 br9 1 1 1 1)) hml rfl (lenOf pd_4 rfl) at_293 hby
              obtain ⟨rfl, Nr19q, er19⟩ := hQr19
              have N17 := Fr.app N16 Nr19q
              refine own_go (U' := Tr19.setTop (mkF m 296 (lc178 i0 i1 i2 i3 i4 i5 1 1 1 1 b1 b2 b3 b4 u1 br6 br9 1 1 1 1) [(.int 0)])) (fun t k => oifN Xr17 hx hby at_278 (by decide) (oiconst Xr17 hx hby at_281 (ogoto (pc := 282) Xr17 hx hby at_282 286 (by decide) (oistore Xr17 hx hby at_286 (lc178 i0 i1 i2 i3 i4 i5 1 1 1 1 b1 b2 b3 b4 u1 br6 br9 1 1 1 1) rfl (oaload Xr17 hx hby at_288 rfl rfl (str18 _ (str19 _ k))))))) ?_
              refine own_go (U' := Tr19.setTop (mkF m 308 (lc179 i0 i1 i2 i3 i4 i5 1 1 1 1 b1 b2 b3 b4 u1 br6 br9 1 1 1 1 1) [(.int 1)])) (fun t k => oifN Xr19 hx hby at_296 (by decide) (oiconst Xr19 hx hby at_299 (ogoto (pc := 300) Xr19 hx hby at_300 304 (by decide) (oistore Xr19 hx hby at_304 (lc179 i0 i1 i2 i3 i4 i5 1 1 1 1 b1 b2 b3 b4 u1 br6 br9 1 1 1 1 1) rfl (oiload Xr19 hx hby at_306 rfl k))))) ?_
              refine own_go (U' := Tr19.setTop (mkF m 313 (lc179 i0 i1 i2 i3 i4 i5 1 1 1 1 b1 b2 b3 b4 u1 br6 br9 1 1 1 1 1) [(.int 1)])) (fun t k => oifN Xr19 hx hby at_308 (by decide) (oiload Xr19 hx hby at_311 rfl k)) ?_
              refine own_go (U' := Tr19.setTop (mkF m 318 (lc179 i0 i1 i2 i3 i4 i5 1 1 1 1 b1 b2 b3 b4 u1 br6 br9 1 1 1 1 1) [(.int 1)])) (fun t k => oifN Xr19 hx hby at_313 (by decide) (oiload Xr19 hx hby at_316 rfl k)) ?_
              refine own_go (U' := Tr19.setTop (mkF m 323 (lc179 i0 i1 i2 i3 i4 i5 1 1 1 1 b1 b2 b3 b4 u1 br6 br9 1 1 1 1 1) [(.int 1)])) (fun t k => oifN Xr19 hx hby at_318 (by decide) (oiload Xr19 hx hby at_321 rfl k)) ?_
              refine own_go (U' := Tr19.setTop (mkF m 328 (lc179 i0 i1 i2 i3 i4 i5 1 1 1 1 b1 b2 b3 b4 u1 br6 br9 1 1 1 1 1) [(.int 1)])) (fun t k => oifN Xr19 hx hby at_323 (by decide) (oiload Xr19 hx hby at_326 rfl k)) ?_
              refine own_go (U' := Tr19.setTop (mkF m 336 (lc179 i0 i1 i2 i3 i4 i5 1 1 1 1 b1 b2 b3 b4 u1 br6 br9 1 1 1 1 1) [(.int 1)])) (fun t k => oifN Xr19 hx hby at_328 (by decide) (oiconst Xr19 hx hby at_331 (ogoto (pc := 332) Xr19 hx hby at_332 336 (by decide) k))) ?_
              obtain ⟨fs, hr, hrun, hended, hW, hsame⟩ := Xr19.leave (v := some (.int 1)) (fun h => by rw [Bd.returns] at h; cases h)
              refine own_out ⟨_, _, ?_, hrun, hended, _, _, rfl, ?_, ⟨_, rfl⟩, hW, hsame.mono (by decide) (by decide)⟩
              · exact retN Xr19 hx (t := .boolean) Bd.returns (by simp) (hb hby at_336) hr
              · exact ⟨rfl, N17⟩
            · have hc8 : ¬ (i5 < i3) := hk24
              obtain ⟨_, Tr14, Lr14, Xr14, hQr14, str14⟩ := ocallV Xr13 hx hZ zm6 zm6 hown (ww hw 41 rfl) (ww hw 42 rfl) (notFace_of_selects (args := #[]) (mvT hZ (ww hw 44 rfl))) (ww hw 44 rfl) (ww hw 43 rfl) (by decide) (ww hw 45 rfl) (ww hw 10 rfl) er13 f42 (rm7_57 l Z a0 hw [] br6 br9 b1 b3 i4 i2 b2 b4 i5 i3 u1 w2 Tr11.heap n0 Z_8 f43 f39 f46 f47 f48 f49 hc11 f44 f40 f50 f51 f52 f53 hc8 f54 f55) (st := [(.ref br9), (.ref br6)]) rfl 0 rfl (by decide) (pc := 229) (Ls := (lc176 i0 i1 i2 i3 i4 i5 1 1 1 1 b1 b2 b3 b4 u1 br6 br9 1 1)) hml rfl (lenOf pd_6 rfl) at_229 hby
              obtain ⟨b5, rfl, Nr14q, Kr14, sz1, f56, f57, f58, f59, f60⟩ := hQr14
              have N12 := Fr.app N11 Nr14q
              have Z_9 : n0 ≤ Tr14.heap.size := Nat.le_trans Z_8 Kr14.1
              obtain ⟨_, Tr15, Lr15, Xr15, hQr15, str15⟩ := ocallV Xr14 hx hZ zm4 zm4 hown (ww hw 36 rfl) (ww hw 37 rfl) (notFace_of_selects (args := #[]) (mvT hZ (ww hw 39 rfl))) (ww hw 39 rfl) (ww hw 38 rfl) (by decide) (ww hw 40 rfl) (ww hw 10 rfl) rfl f56 (rm6_31 l Z a0 hw [] b5 b1 b2 Tr14.heap n0 Z_9 f58 f59) (st := [(.ref b5)]) rfl 0 rfl (by decide) (pc := 232) (Ls := (lc176 i0 i1 i2 i3 i4 i5 1 1 1 1 b1 b2 b3 b4 u1 br6 br9 1 1)) hml rfl (lenOf pd_4 rfl) at_232 hby
              obtain ⟨rfl, Nr15q, er15⟩ := hQr15
              have N13 := Fr.app N12 Nr15q
              refine own_go (U' := Tr15.setTop (mkF m 237 (lc176 i0 i1 i2 i3 i4 i5 1 1 1 1 b1 b2 b3 b4 u1 br6 br9 1 1) [(.int 1), (.int 1)])) (fun t k => oicN Xr13 hx hby at_215 (by decide) (oiconst Xr13 hx hby at_218 (ogoto (pc := 219) Xr13 hx hby at_219 223 (by decide) (oistore Xr13 hx hby at_223 (lc176 i0 i1 i2 i3 i4 i5 1 1 1 1 b1 b2 b3 b4 u1 br6 br9 1 1) rfl (oaload Xr13 hx hby at_225 rfl rfl (oaload Xr13 hx hby at_227 rfl rfl (str14 _ (str15 _ (oiload Xr15 hx hby at_235 rfl k))))))))) ?_
              refine own_go (U' := Tr15.setTop (mkF m 247 (lc176 i0 i1 i2 i3 i4 i5 1 1 1 1 b1 b2 b3 b4 u1 br6 br9 1 1) [(.int 1), (.int 1)])) (fun t k => oifY (pc := 237) Xr15 hx hby at_237 245 (by decide) (by decide) (oiload Xr15 hx hby at_245 rfl k)) ?_
              refine own_go (U' := Tr15.setTop (mkF m 260 (lc176 i0 i1 i2 i3 i4 i5 1 1 1 1 b1 b2 b3 b4 u1 br6 br9 1 1) [(.int 1), (.int 1)])) (fun t k => oifY (pc := 247) Xr15 hx hby at_247 255 (by decide) (by decide) (oiconst Xr15 hx hby at_255 (ogoto (pc := 256) Xr15 hx hby at_256 260 (by decide) k))) ?_
              have f61 : Exa Z Tr14.heap br6 zs8 := (f42.keep Kr14)
              have f62 : Fld Z Tr14.heap br6 zs8 "unit" zs1 (.ref u1) := (f54.keep Kr14 nin0)
              have f63 : Fld Z Tr14.heap br6 zs8 "first" zs9 (.ref b1) := (f43.keep Kr14 nin0)
              have f64 : Sta Z Tr14.heap zs4 "MIDDLE" zs5 (.ref w2) := (own_staK f55 Kr14 all0)
              obtain ⟨_, Tr16, Lr16, Xr16, hQr16, str16⟩ := ocallV Xr15 hx hZ zm7 zm7 hown (ww hw 53 rfl) (ww hw 54 rfl) (notFace_of_selects (args := #[]) (mvT hZ (ww hw 56 rfl))) (ww hw 56 rfl) (ww hw 55 rfl) (by decide) (ww hw 57 rfl) (ww hw 10 rfl) er15 f61 (rm9_43 l Z a0 hw [] br6 u1 b1 w2 Tr14.heap n0 Z_9 f62 f63 f64) (st := [(.ref br6)]) rfl 0 rfl (by decide) (pc := 272) (Ls := (lc177 i0 i1 i2 i3 i4 i5 1 1 1 1 b1 b2 b3 b4 u1 br6 br9 1 1 1)) hml rfl (lenOf pd_7 rfl) at_272 hby
              obtain ⟨b6, rfl, Nr16q, Kr16, sz2, f65, f66, f67, f68, f69⟩ := hQr16
              have N14 := Fr.app N13 Nr16q
              have Z_10 : n0 ≤ Tr16.heap.size := Nat.le_trans Z_9 Kr16.1
              obtain ⟨_, Tr17, Lr17, Xr17, hQr17, str17⟩ := ocallV Xr16 hx hZ zm4 zm4 hown (ww hw 36 rfl) (ww hw 37 rfl) (notFace_of_selects (args := #[]) (mvT hZ (ww hw 39 rfl))) (ww hw 39 rfl) (ww hw 38 rfl) (by decide) (ww hw 40 rfl) (ww hw 10 rfl) rfl f65 (rm6_27 l Z a0 hw [] b6 b1 Tr16.heap n0 Z_10 f67 f68) (st := [(.ref b6)]) rfl 0 rfl (by decide) (pc := 275) (Ls := (lc177 i0 i1 i2 i3 i4 i5 1 1 1 1 b1 b2 b3 b4 u1 br6 br9 1 1 1)) hml rfl (lenOf pd_4 rfl) at_275 hby
              obtain ⟨rfl, Nr17q, er17⟩ := hQr17
              have N15 := Fr.app N14 Nr17q
              refine own_go (U' := Tr17.setTop (mkF m 278 (lc177 i0 i1 i2 i3 i4 i5 1 1 1 1 b1 b2 b3 b4 u1 br6 br9 1 1 1) [(.int 0)])) (fun t k => oicN Xr15 hx hby at_260 (by decide) (oiconst Xr15 hx hby at_263 (ogoto (pc := 264) Xr15 hx hby at_264 268 (by decide) (oistore Xr15 hx hby at_268 (lc177 i0 i1 i2 i3 i4 i5 1 1 1 1 b1 b2 b3 b4 u1 br6 br9 1 1 1) rfl (oaload Xr15 hx hby at_270 rfl rfl (str16 _ (str17 _ k))))))) ?_
              have f70 : Exa Z Tr16.heap br6 zs8 := (f61.keep Kr16)
              have f71 : Fld Z Tr16.heap br6 zs8 "unit" zs1 (.ref u1) := (f62.keep Kr16 nin0)
              have f72 : Fld Z Tr16.heap br6 zs8 "last" zs9 (.ref b2) := ((f44.keep Kr14 nin0).keep Kr16 nin0)
              have f73 : Sta Z Tr16.heap zs4 "MIDDLE" zs5 (.ref w2) := (own_staK f64 Kr16 all0)
              obtain ⟨_, Tr18, Lr18, Xr18, hQr18, str18⟩ := ocallV Xr17 hx hZ zm8 zm8 hown (ww hw 58 rfl) (ww hw 59 rfl) (notFace_of_selects (args := #[]) (mvT hZ (ww hw 61 rfl))) (ww hw 61 rfl) (ww hw 60 rfl) (by decide) (ww hw 62 rfl) (ww hw 10 rfl) er17 f70 (rm10_35 l Z a0 hw [] br6 u1 b2 w2 Tr16.heap n0 Z_10 f71 f72 f73) (st := [(.ref br6)]) rfl 0 rfl (by decide) (pc := 290) (Ls := (lc178 i0 i1 i2 i3 i4 i5 1 1 1 1 b1 b2 b3 b4 u1 br6 br9 1 1 1 1)) hml rfl (lenOf pd_7 rfl) at_290 hby
              obtain ⟨b7, rfl, Nr18q, Kr18, sz3, f74, f75, f76, f77, f78⟩ := hQr18
              have N16 := Fr.app N15 Nr18q
              have Z_11 : n0 ≤ Tr18.heap.size := Nat.le_trans Z_10 Kr18.1
              obtain ⟨_, Tr19, Lr19, Xr19, hQr19, str19⟩ := ocallV Xr18 hx hZ zm4 zm4 hown (ww hw 36 rfl) (ww hw 37 rfl) (notFace_of_selects (args := #[]) (mvT hZ (ww hw 39 rfl))) (ww hw 39 rfl) (ww hw 38 rfl) (by decide) (ww hw 40 rfl) (ww hw 10 rfl) rfl f74 (rm6_12 l Z a0 hw [] b7 Tr18.heap n0 Z_11 f76) (st := [(.ref b7)]) rfl 0 rfl (by decide) (pc := 293) (Ls := (lc178 i0 i1 i2 i3 i4 i5 1 1 1 1 b1 b2 b3 b4 u1 br6 br9 1 1 1 1)) hml rfl (lenOf pd_4 rfl) at_293 hby
              obtain ⟨rfl, Nr19q, er19⟩ := hQr19
              have N17 := Fr.app N16 Nr19q
              refine own_go (U' := Tr19.setTop (mkF m 296 (lc178 i0 i1 i2 i3 i4 i5 1 1 1 1 b1 b2 b3 b4 u1 br6 br9 1 1 1 1) [(.int 0)])) (fun t k => oifN Xr17 hx hby at_278 (by decide) (oiconst Xr17 hx hby at_281 (ogoto (pc := 282) Xr17 hx hby at_282 286 (by decide) (oistore Xr17 hx hby at_286 (lc178 i0 i1 i2 i3 i4 i5 1 1 1 1 b1 b2 b3 b4 u1 br6 br9 1 1 1 1) rfl (oaload Xr17 hx hby at_288 rfl rfl (str18 _ (str19 _ k))))))) ?_
              refine own_go (U' := Tr19.setTop (mkF m 308 (lc179 i0 i1 i2 i3 i4 i5 1 1 1 1 b1 b2 b3 b4 u1 br6 br9 1 1 1 1 1) [(.int 1)])) (fun t k => oifN Xr19 hx hby at_296 (by decide) (oiconst Xr19 hx hby at_299 (ogoto (pc := 300) Xr19 hx hby at_300 304 (by decide) (oistore Xr19 hx hby at_304 (lc179 i0 i1 i2 i3 i4 i5 1 1 1 1 b1 b2 b3 b4 u1 br6 br9 1 1 1 1 1) rfl (oiload Xr19 hx hby at_306 rfl k))))) ?_
              refine own_go (U' := Tr19.setTop (mkF m 313 (lc179 i0 i1 i2 i3 i4 i5 1 1 1 1 b1 b2 b3 b4 u1 br6 br9 1 1 1 1 1) [(.int 1)])) (fun t k => oifN Xr19 hx hby at_308 (by decide) (oiload Xr19 hx hby at_311 rfl k)) ?_
              refine own_go (U' := Tr19.setTop (mkF m 318 (lc179 i0 i1 i2 i3 i4 i5 1 1 1 1 b1 b2 b3 b4 u1 br6 br9 1 1 1 1 1) [(.int 1)])) (fun t k => oifN Xr19 hx hby at_313 (by decide) (oiload Xr19 hx hby at_316 rfl k)) ?_
              refine own_go (U' := Tr19.setTop (mkF m 323 (lc179 i0 i1 i2 i3 i4 i5 1 1 1 1 b1 b2 b3 b4 u1 br6 br9 1 1 1 1 1) [(.int 1)])) (fun t k => oifN Xr19 hx hby at_318 (by decide) (oiload Xr19 hx hby at_321 rfl k)) ?_
              refine own_go (U' := Tr19.setTop (mkF m 328 (lc179 i0 i1 i2 i3 i4 i5 1 1 1 1 b1 b2 b3 b4 u1 br6 br9 1 1 1 1 1) [(.int 1)])) (fun t k => oifN Xr19 hx hby at_323 (by decide) (oiload Xr19 hx hby at_326 rfl k)) ?_
              refine own_go (U' := Tr19.setTop (mkF m 336 (lc179 i0 i1 i2 i3 i4 i5 1 1 1 1 b1 b2 b3 b4 u1 br6 br9 1 1 1 1 1) [(.int 1)])) (fun t k => oifN Xr19 hx hby at_328 (by decide) (oiconst Xr19 hx hby at_331 (ogoto (pc := 332) Xr19 hx hby at_332 336 (by decide) k))) ?_
              obtain ⟨fs, hr, hrun, hended, hW, hsame⟩ := Xr19.leave (v := some (.int 1)) (fun h => by rw [Bd.returns] at h; cases h)
              refine own_out ⟨_, _, ?_, hrun, hended, _, _, rfl, ?_, ⟨_, rfl⟩, hW, hsame.mono (by decide) (by decide)⟩
              · exact retN Xr19 hx (t := .boolean) Bd.returns (by simp) (hb hby at_336) hr
              · exact ⟨rfl, N17⟩
set_option maxRecDepth 65536 in
set_option maxHeartbeats 40000000 in
theorem comes_1 {Post : Tables → Env → Array Value → State → Outcome → State → Prop} (hpost : ∀ tb e args s v u, (limb_1_1.after args s (.returned v) u = true ∧ limb_1_2.after args s (.returned v) u = true ∧ True) → FrameEnd s (.returned v) u (Jvm.fieldLocs frame_1_writes args s ++ Jvm.arrayLocs frame_1_arrays args s ++ Jvm.staticLocs frame_1_statics s) 32 128 → Post tb e args s (.returned v) u) :
    ArmFor flags0 classFile x code maxLocals ret World_1 tables_1 room_1 Calls_1 rest_1 Pre_1 Post := by
  intro l hfl _ _ p e ha hc hk s m args below hf hA hF happ hP
  obtain ⟨hcalls, hrest, hpre⟩ := hP
  obtain ⟨-, -, -, hnamed, -, -, -, hat⟩ := (Spec.applies_iff hf).mp happ
  obtain ⟨hg, hn⟩ := and_e (Cond.before_iff.mp (show (Jvm.Cond.and given_1 narrow_1).before args s = true from hpre))
  obtain ⟨g25, g26⟩ := and_e hg
  obtain ⟨g27, g28⟩ := and_e g26
  obtain ⟨g29, g30⟩ := and_e g28
  obtain ⟨g31, g32⟩ := and_e g30
  obtain ⟨g33, g34⟩ := and_e g32
  obtain ⟨g35, g36⟩ := and_e g34
  obtain ⟨v0, v1, v2, v3, v4, v5, rfl⟩ : ∃ v0 v1 v2 v3 v4 v5 : Value, args = #[v0, v1, v2, v3, v4, v5] := by
    have hs : args.size = 6 := by simpa [Cond.value, given_1] using g25
    obtain ⟨L⟩ := args
    match L, hs with
    | [v0, v1, v2, v3, v4, v5], _ => exact ⟨v0, v1, v2, v3, v4, v5, rfl⟩
  have hw := fun d (hd : d ∈ tables_1) => atoms_spec (ws := Jvm.Cond.code x code maxLocals ret :: tables_1) hat d (List.mem_cons_of_mem _ hd)
  obtain ⟨i0, ei0⟩ := is_v g27
  obtain rfl : v0 = (.int i0) := Option.some.inj ei0
  obtain ⟨i1, ei1⟩ := is_v g29
  obtain rfl : v1 = (.int i1) := Option.some.inj ei1
  obtain ⟨i2, ei2⟩ := isL_v g31
  obtain rfl : v2 = (.long i2) := Option.some.inj ei2
  obtain ⟨i3, ei3⟩ := isL_v g33
  obtain rfl : v3 = (.long i3) := Option.some.inj ei3
  obtain ⟨i4, ei4⟩ := isL_v g35
  obtain rfl : v4 = (.long i4) := Option.some.inj ei4
  obtain ⟨i5, ei5⟩ := isL_v g36
  obtain rfl : v5 = (.long i5) := Option.some.inj ei5
  have hfit : Fit s := fun {y c} hc i hi => by
    obtain ⟨ha, rfl⟩ := Array.getElem?_eq_some_iff.mp hc
    have q := List.all_eq_true.mp ((Array.all_eq_true_iff_forall_mem.mp hF) _ (Array.getElem_mem ha)) i (List.mem_range.mpr hi)
    simpa [Array.getElem?_eq_getElem hi] using q
  obtain ⟨hsets, hown0⟩ := atoms_of _ (rest_1_c_eq ▸ (show rest_1_c.before _ s = true from hrest))
  obtain ⟨g37, g38⟩ := and_e hn
  have c0 := g37
  obtain ⟨g39, g40⟩ := and_e g38
  have c1 := g39
  obtain ⟨g41, g42⟩ := and_e g40
  have c2 := g41
  obtain ⟨g43, g44⟩ := and_e g42
  have c3 := g43
  obtain ⟨g45, g46⟩ := and_e g44
  have c4 := g45
  obtain ⟨g47, g48⟩ := and_e g46
  have c5 := g47
  obtain ⟨g49, g50⟩ := and_e g48
  have c6 := g49
  have c7 := g50
  obtain ⟨w0, ew0⟩ := exa_v c0
  have S0 := Sta.start ew0 (Or.inr ⟨(ww hw 6 rfl), (ww hw 7 rfl)⟩)
  have S1 := Exa.start ew0 c0
  obtain ⟨w1, ew1⟩ := exa_v c1
  have S2 := Sta.start ew1 (Or.inr ⟨(ww hw 15 rfl), (ww hw 16 rfl)⟩)
  have S3 := Exa.start ew1 c1
  obtain ⟨w2, ew2⟩ := exa_v c2
  have S4 := Sta.start ew2 (Or.inr ⟨(ww hw 15 rfl), (ww hw 51 rfl)⟩)
  have S5 := Exa.start ew2 c2
  obtain ⟨w3, ew3⟩ := exa_v c3
  have S6 := Sta.start ew3 (Or.inr ⟨(ww hw 6 rfl), (ww hw 85 rfl)⟩)
  have S7 := Exa.start ew3 c3
  obtain ⟨w4, ew4⟩ := exa_v c4
  have S8 := Sta.start ew4 (Or.inr ⟨(ww hw 15 rfl), (ww hw 87 rfl)⟩)
  have S9 := Exa.start ew4 c4
  obtain ⟨w5, ew5⟩ := exa_v c5
  have S10 := Sta.start ew5 (Or.inr ⟨(ww hw 6 rfl), (ww hw 95 rfl)⟩)
  have S11 := Exa.start ew5 c5
  obtain ⟨w6, ew6⟩ := exa_v c6
  have S12 := Sta.start ew6 (Or.inr ⟨(ww hw 6 rfl), (ww hw 97 rfl)⟩)
  have S13 := Exa.start ew6 c6
  obtain ⟨w7, ew7⟩ := exa_v c7
  have S14 := Sta.start ew7 (Or.inr ⟨(ww hw 6 rfl), (ww hw 101 rfl)⟩)
  have S15 := Exa.start ew7 c7
  obtain ⟨w8, ew8⟩ := exa_v (Cond.before_iff.mp (hsets _ (List.mem_of_getElem? (i := 3) rfl)))
  have S16 := Sta.start ew8 (Or.inl (hsets _ (List.mem_of_getElem? (i := 1) rfl)))
  have S17 := Exa.start ew8 (Cond.before_iff.mp (hsets _ (List.mem_of_getElem? (i := 3) rfl)))
  have S18 : own_LC s s.heap w8 s.heap.size := own_LC.start ew8 (Cond.before_iff.mp (hsets _ (List.mem_of_getElem? (i := 2) rfl))) (Cond.before_iff.mp (hsets _ (List.mem_of_getElem? (i := 4) rfl))) (Cond.before_iff.mp (hsets _ (List.mem_of_getElem? (i := 5) rfl)))
  obtain ⟨n, o, h1, h2, h3, _, L, rfl, ⟨rfl, N⟩, hq⟩ := law_all l s _ hw tables_1 i0 i1 i2 i3 i4 i5 w0 w1 w2 w3 w4 w5 w6 w7 w8 s.heap s.heap.size (Nat.le_refl _) S0 S1 S2 S3 S4 S5 S6 S7 S8 S9 S10 S11 S12 S13 S14 S15 S16 S17 S18 p e ha hc hk s m _ below hf ((Spec.applies_iff_loose hf).mp happ).1 ⟨rfl, State.Warmed39.refl s, rfl⟩ trivial
  refine ⟨n, _, h1, h2, h3, hpost _ _ _ _ _ _ ⟨Cond.after_iff.mpr rfl, Cond.after_iff.mpr (eq_i res_at (Term.int_eval (1)) rfl), trivial⟩ ⟨hq.1, hq.2.1, (hq.2.2.sift fun y hy => Or.inr (N y hy)).mono (by decide) (by decide)⟩⟩
theorem main_1_1 : Claimed_1_1 := comes_1 fun _ _ _ _ _ _ h hF => ⟨h.1, hF⟩
theorem main_1_2 : Claimed_1_2 := comes_1 fun _ _ _ _ _ _ h hF => ⟨h.2.1, hF⟩
end Jvm.Pilot.@@N@@
namespace Jvm.Pilot.@@N@@
open Jvm Jvm.ClassFile Sem Op Lib Jvm.Free Jvm.Stand Jvm.Pilot.@@N@@.Jvm.D
/-! MADE BY PROGRAM (witnessworld.py) out of the Statement's table words and the real class files: 20 classes; the members and pool entries that the words name. The judged class is class 1, her method 3. -/
namespace start1
open Jvm.ClassFile
def u (s : String) : CpInfo := .utf8 (stringToUtf16 s)
/-- a pool by its gaps: so many unusable entries, then the entry; so many at the end -/
def gap : Nat → List CpInfo → List CpInfo
  | 0, r => r
  | n + 1, r => .unusable :: gap n r
def poolList (es : List (Nat × CpInfo)) (last : Nat) : List CpInfo := es.foldr (fun e r => gap e.1 (e.2 :: r)) (gap last [])
def pool (es : List (Nat × CpInfo)) (last : Nat) : Array CpInfo := ⟨poolList es last⟩
def fileOf (pool : Array CpInfo) (this : Nat) (attrs : Array Attribute := #[]) (ms : Array MethodInfo := #[]) (fl : Nat := 33) (sup : Nat := 0) (ifs : Array Nat := #[]) (fds : Array FieldInfo := #[]) : ClassFile where
  minorVersion := 0
  majorVersion := 65
  constantPool := pool
  accessFlags := fl
  thisClass := this
  superClass := sup
  interfaces := ifs
  fields := fds
  methods := ms
  attributes := attrs
def plain (name : String) (sup : Option ClassId) : Class where
  name := name
  kind := .ordinary
  loader := none
  accessFlags := 33
  super := sup
  interfaces := #[]
  cf := none
  fields := #[]
  methods := #[]
  instanceTypes := #[]
  staticTypes := #[]
  resolved := #[]
  callSites := []
  init := .initialized
  statics := none
  mirror := none

def pool0 : Array CpInfo := pool [(5, u "<init>"), (0, u "()V"), (1, .class_ 10), (1, u "java/lang/Object")] 113

def k0c0 : Code := { maxStack := 0, maxLocals := 1, code := object_method_1_code, exceptionTable := #[], attributes := #[] }
def k0m0 : Method := { name := "<init>", desc := "()V", sig := { parameters := [], returnType := none }, accessFlags := 1, code := some k0c0 }
/-- java/lang/Object -/
def k0 : Class := { plain "java/lang/Object" none with
  accessFlags := 33
  interfaces := #[]
  cf := some (fileOf pool0 8 #[] #[{ accessFlags := 1, nameIndex := 5, descriptorIndex := 6, attributes := #[] }] 33 0 #[] #[])
  fields := #[]
  methods := #[k0m0]
  instanceTypes := #[]
  staticTypes := #[]
  resolved := Array.replicate 124 none
  statics := none }

def pool1 : Array CpInfo := pool [(2, .class_ 4), (1, u "java/lang/Object"), (0, u "<init>"), (0, u "()V"), (0, .integer 2147483647), (0, .fieldref 9 10), (0, .class_ 11), (0, .nameAndType 12 13), (0, u "com/example/time_aware_ranking/timeawareranking/CalendarUnit"), (0, u "DAY"), (0, u "Lcom/example/time_aware_ranking/timeawareranking/CalendarUnit;"), (0, .fieldref 9 15), (0, .nameAndType 16 13), (0, u "MONTH"), (0, .fieldref 9 18), (0, .nameAndType 19 13), (0, u "YEAR"), (0, .fieldref 9 21), (0, .nameAndType 22 13), (0, u "DECADE"), (0, .fieldref 9 24), (0, .nameAndType 25 13), (0, u "CENTURY"), (0, .fieldref 27 28), (0, .class_ 29), (0, .nameAndType 30 31), (0, u "com/example/time_aware_ranking/timeawareranking/CalendarInterval$Anchor"), (0, u "FIRST"), (0, u "Lcom/example/time_aware_ranking/timeawareranking/CalendarInterval$Anchor;"), (0, .fieldref 27 33), (0, .nameAndType 34 31), (0, u "MIDDLE"), (0, .fieldref 27 36), (0, .nameAndType 37 31), (0, u "LAST"), (0, .methodref 39 40), (0, .class_ 41), (0, .nameAndType 42 43), (0, u "java/lang/Long"), (0, u "valueOf"), (0, u "(J)Ljava/lang/Long;"), (0, .methodref 45 46), (0, .class_ 47), (0, .nameAndType 48 49), (0, u "com/example/time_aware_ranking/timeawareranking/CalendarIntervalIsBoundedPinLaw"), (0, u "unit"), (0, u "(I)Lcom/example/time_aware_ranking/timeawareranking/CalendarUnit;"), (0, .class_ 51), (0, u "com/example/time_aware_ranking/timeawareranking/CalendarInterval"), (0, .methodref 45 53), (0, .nameAndType 54 55), (0, u "anchor"), (0, u "(I)Lcom/example/time_aware_ranking/timeawareranking/CalendarInterval$Anchor;"), (0, .methodref 50 57), (0, .nameAndType 5 58), (0, u "(Lcom/example/time_aware_ranking/timeawareranking/CalendarUnit;Ljava/lang/Long;Ljava/lang/Long;Lcom/example/time_aware_ranking/timeawareranking/CalendarInterval$Anchor;)V"), (0, .methodref 50 60), (0, .nameAndType 61 62), (0, u "isBounded"), (0, u "()Z"), (0, .methodref 50 64), (0, .nameAndType 65 66), (0, u "intersect"), (0, u "(Lcom/example/time_aware_ranking/timeawareranking/CalendarInterval;)Lcom/example/time_aware_ranking/timeawareranking/CalendarInterval;"), (0, .methodref 50 68), (0, .nameAndType 69 70), (0, u "since"), (0, u "()Lcom/example/time_aware_ranking/timeawareranking/CalendarInterval;"), (0, .methodref 50 72), (0, .nameAndType 73 70), (0, u "until"), (3, u "law"), (0, u "(IIJJJJ)Z")] 4

def k1m0 : Method := { name := "<init>", desc := "()V", sig := { parameters := [], returnType := none }, accessFlags := 1, code := none }
def k1c1 : Code := { maxStack := 2, maxLocals := 2, code := method_2_code, exceptionTable := #[], attributes := #[] }
def k1m1 : Method := { name := "unit", desc := "(I)Lcom/example/time_aware_ranking/timeawareranking/CalendarUnit;", sig := { parameters := [.int], returnType := some (.object "com/example/time_aware_ranking/timeawareranking/CalendarUnit") }, accessFlags := 10, code := some k1c1 }
def k1c2 : Code := { maxStack := 2, maxLocals := 2, code := method_3_code, exceptionTable := #[], attributes := #[] }
def k1m2 : Method := { name := "anchor", desc := "(I)Lcom/example/time_aware_ranking/timeawareranking/CalendarInterval$Anchor;", sig := { parameters := [.int], returnType := some (.object "com/example/time_aware_ranking/timeawareranking/CalendarInterval$Anchor") }, accessFlags := 10, code := some k1c2 }
def k1c3 : Code := { maxStack := 7, maxLocals := 26, code := code, exceptionTable := #[], attributes := #[] }
def k1m3 : Method := { name := "law", desc := "(IIJJJJ)Z", sig := { parameters := [.int, .int, .long, .long, .long, .long], returnType := some .boolean }, accessFlags := 9, code := some k1c3 }
/-- com/example/time_aware_ranking/timeawareranking/CalendarIntervalIsBoundedPinLaw -/
def k1 : Class := { plain "com/example/time_aware_ranking/timeawareranking/CalendarIntervalIsBoundedPinLaw" (some 0) with
  accessFlags := 49
  interfaces := #[]
  cf := some (fileOf pool1 45 #[] #[{ accessFlags := 1, nameIndex := 5, descriptorIndex := 6, attributes := #[] }, { accessFlags := 10, nameIndex := 48, descriptorIndex := 49, attributes := #[] }, { accessFlags := 10, nameIndex := 54, descriptorIndex := 55, attributes := #[] }, { accessFlags := 9, nameIndex := 77, descriptorIndex := 78, attributes := #[] }] 49 2 #[] #[])
  fields := #[]
  methods := #[k1m0, k1m1, k1m2, k1m3]
  instanceTypes := #[]
  staticTypes := #[]
  resolved := Array.replicate 83 none
  statics := none }

def pool2 : Array CpInfo := pool [(1, .class_ 2), (0, u "java/lang/constant/Constable"), (0, .class_ 4), (0, u "java/lang/Object")] 6

/-- java/lang/constant/Constable -/
def k2 : Class := { plain "java/lang/constant/Constable" (some 0) with
  accessFlags := 1537
  interfaces := #[]
  cf := some (fileOf pool2 1 #[] #[] 1537 3 #[] #[])
  fields := #[]
  methods := #[]
  instanceTypes := #[]
  staticTypes := #[]
  resolved := Array.replicate 11 none
  statics := none }

def pool3 : Array CpInfo := pool [(1, .class_ 2), (0, u "java/lang/Comparable"), (0, .class_ 4), (0, u "java/lang/Object")] 7

/-- java/lang/Comparable -/
def k3 : Class := { plain "java/lang/Comparable" (some 0) with
  accessFlags := 1537
  interfaces := #[]
  cf := some (fileOf pool3 1 #[] #[] 1537 3 #[] #[])
  fields := #[]
  methods := #[]
  instanceTypes := #[]
  staticTypes := #[]
  resolved := Array.replicate 12 none
  statics := none }

def pool4 : Array CpInfo := pool [(1, .class_ 2), (0, u "java/io/Serializable"), (0, .class_ 4), (0, u "java/lang/Object")] 2

/-- java/io/Serializable -/
def k4 : Class := { plain "java/io/Serializable" (some 0) with
  accessFlags := 1537
  interfaces := #[]
  cf := some (fileOf pool4 1 #[] #[] 1537 3 #[] #[])
  fields := #[]
  methods := #[]
  instanceTypes := #[]
  staticTypes := #[]
  resolved := Array.replicate 7 none
  statics := none }

def pool5 : Array CpInfo := pool [(2, .class_ 4), (1, u "java/lang/Enum"), (0, u "name"), (0, u "Ljava/lang/String;"), (2, u "ordinal"), (0, u "I"), (1, .class_ 14), (1, u "java/lang/Object"), (4, u "hash"), (86, .class_ 108), (1, u "java/lang/Enum$EnumDesc"), (2, .class_ 112), (0, u "java/lang/constant/Constable"), (0, .class_ 114), (0, u "java/lang/Comparable"), (0, .class_ 116), (0, u "java/io/Serializable")] 87

/-- java/lang/Enum -/
def k5 : Class := { plain "java/lang/Enum" (some 0) with
  accessFlags := 1057
  interfaces := #[2, 3, 4]
  cf := some (fileOf pool5 2 #[.nestMembers #[106]] #[] 1057 12 #[111, 113, 115] #[{ accessFlags := 18, nameIndex := 5, descriptorIndex := 6, attributes := #[] }, { accessFlags := 18, nameIndex := 9, descriptorIndex := 10, attributes := #[] }, { accessFlags := 2, nameIndex := 19, descriptorIndex := 10, attributes := #[] }])
  fields := #[{ name := "name", type := (.object "java/lang/String"), accessFlags := 18, slot := 0, constantValue := 0 }, { name := "ordinal", type := .int, accessFlags := 18, slot := 1, constantValue := 0 }, { name := "hash", type := .int, accessFlags := 2, slot := 2, constantValue := 0 }]
  methods := #[]
  instanceTypes := #[(.object "java/lang/String"), .int, .int]
  staticTypes := #[]
  resolved := Array.replicate 204 none
  statics := none }

def pool6 : Array CpInfo := pool [(1, .class_ 2), (0, u "com/example/time_aware_ranking/timeawareranking/CalendarUnit"), (2, u "DAY"), (0, u "Lcom/example/time_aware_ranking/timeawareranking/CalendarUnit;"), (2, u "MONTH"), (2, u "YEAR"), (2, u "DECADE"), (2, u "CENTURY"), (2, u "$VALUES"), (0, u "[Lcom/example/time_aware_ranking/timeawareranking/CalendarUnit;"), (6, .class_ 31), (1, u "java/lang/Enum"), (141, u "FIRST_DAY"), (0, u "Ljava/time/LocalDate;"), (2, u "LAST_DAY"), (0, u "MONTHS_PER_YEAR"), (0, u "I"), (2, u "YEARS_PER_DECADE"), (1, u "YEARS_PER_CENTURY"), (1, u "DAYS_PER_400_YEARS"), (0, u "J"), (0, u "MONTHS_PER_400_YEARS")] 37

/-- com/example/time_aware_ranking/timeawareranking/CalendarUnit -/
def k6 : Class := { plain "com/example/time_aware_ranking/timeawareranking/CalendarUnit" (some 5) with
  accessFlags := 16432
  interfaces := #[]
  cf := some (fileOf pool6 1 #[] #[] 16432 29 #[] #[{ accessFlags := 16409, nameIndex := 5, descriptorIndex := 6, attributes := #[] }, { accessFlags := 16409, nameIndex := 9, descriptorIndex := 6, attributes := #[] }, { accessFlags := 16409, nameIndex := 12, descriptorIndex := 6, attributes := #[] }, { accessFlags := 16409, nameIndex := 15, descriptorIndex := 6, attributes := #[] }, { accessFlags := 16409, nameIndex := 18, descriptorIndex := 6, attributes := #[] }, { accessFlags := 24, nameIndex := 173, descriptorIndex := 174, attributes := #[] }, { accessFlags := 24, nameIndex := 177, descriptorIndex := 174, attributes := #[] }, { accessFlags := 26, nameIndex := 178, descriptorIndex := 179, attributes := #[] }, { accessFlags := 26, nameIndex := 182, descriptorIndex := 179, attributes := #[] }, { accessFlags := 26, nameIndex := 184, descriptorIndex := 179, attributes := #[] }, { accessFlags := 26, nameIndex := 186, descriptorIndex := 187, attributes := #[] }, { accessFlags := 26, nameIndex := 188, descriptorIndex := 187, attributes := #[] }, { accessFlags := 4122, nameIndex := 21, descriptorIndex := 22, attributes := #[] }])
  fields := #[{ name := "DAY", type := (.object "com/example/time_aware_ranking/timeawareranking/CalendarUnit"), accessFlags := 16409, slot := 0, constantValue := 0 }, { name := "MONTH", type := (.object "com/example/time_aware_ranking/timeawareranking/CalendarUnit"), accessFlags := 16409, slot := 1, constantValue := 0 }, { name := "YEAR", type := (.object "com/example/time_aware_ranking/timeawareranking/CalendarUnit"), accessFlags := 16409, slot := 2, constantValue := 0 }, { name := "DECADE", type := (.object "com/example/time_aware_ranking/timeawareranking/CalendarUnit"), accessFlags := 16409, slot := 3, constantValue := 0 }, { name := "CENTURY", type := (.object "com/example/time_aware_ranking/timeawareranking/CalendarUnit"), accessFlags := 16409, slot := 4, constantValue := 0 }, { name := "FIRST_DAY", type := (.object "java/time/LocalDate"), accessFlags := 24, slot := 5, constantValue := 0 }, { name := "LAST_DAY", type := (.object "java/time/LocalDate"), accessFlags := 24, slot := 6, constantValue := 0 }, { name := "MONTHS_PER_YEAR", type := .int, accessFlags := 26, slot := 7, constantValue := 0 }, { name := "YEARS_PER_DECADE", type := .int, accessFlags := 26, slot := 8, constantValue := 0 }, { name := "YEARS_PER_CENTURY", type := .int, accessFlags := 26, slot := 9, constantValue := 0 }, { name := "DAYS_PER_400_YEARS", type := .long, accessFlags := 26, slot := 10, constantValue := 0 }, { name := "MONTHS_PER_400_YEARS", type := .long, accessFlags := 26, slot := 11, constantValue := 0 }, { name := "$VALUES", type := (.array (.object "com/example/time_aware_ranking/timeawareranking/CalendarUnit")), accessFlags := 4122, slot := 12, constantValue := 0 }]
  methods := #[]
  instanceTypes := #[(.object "java/lang/String"), .int, .int]
  staticTypes := #[(.object "com/example/time_aware_ranking/timeawareranking/CalendarUnit"), (.object "com/example/time_aware_ranking/timeawareranking/CalendarUnit"), (.object "com/example/time_aware_ranking/timeawareranking/CalendarUnit"), (.object "com/example/time_aware_ranking/timeawareranking/CalendarUnit"), (.object "com/example/time_aware_ranking/timeawareranking/CalendarUnit"), (.object "java/time/LocalDate"), (.object "java/time/LocalDate"), .int, .int, .int, .long, .long, (.array (.object "com/example/time_aware_ranking/timeawareranking/CalendarUnit"))]
  resolved := Array.replicate 226 none
  statics := some 0 }

def pool7 : Array CpInfo := pool [(1, .methodref 2 3), (0, .class_ 4), (0, .nameAndType 5 6), (0, u "java/lang/Object"), (0, u "<init>"), (0, u "()V"), (0, .class_ 8), (0, u "java/lang/Record")] 13

def k7c0 : Code := { maxStack := 1, maxLocals := 1, code := jdk_30_method_1_code, exceptionTable := #[], attributes := #[] }
def k7m0 : Method := { name := "<init>", desc := "()V", sig := { parameters := [], returnType := none }, accessFlags := 4, code := some k7c0 }
/-- java/lang/Record -/
def k7 : Class := { plain "java/lang/Record" (some 0) with
  accessFlags := 1057
  interfaces := #[]
  cf := some (fileOf pool7 7 #[] #[{ accessFlags := 4, nameIndex := 5, descriptorIndex := 6, attributes := #[] }] 1057 2 #[] #[])
  fields := #[]
  methods := #[k7m0]
  instanceTypes := #[]
  staticTypes := #[]
  resolved := Array.replicate 22 none
  statics := none }

def pool8 : Array CpInfo := pool [(1, .methodref 2 3), (0, .class_ 4), (0, .nameAndType 5 6), (0, u "java/lang/Record"), (0, u "<init>"), (0, u "()V"), (0, .fieldref 8 9), (0, .class_ 10), (0, .nameAndType 11 12), (0, u "com/example/time_aware_ranking/timeawareranking/CalendarInterval"), (0, u "unit"), (0, u "Lcom/example/time_aware_ranking/timeawareranking/CalendarUnit;"), (0, .fieldref 8 14), (0, .nameAndType 15 16), (0, u "first"), (0, u "Ljava/lang/Long;"), (0, .fieldref 8 18), (0, .nameAndType 19 16), (0, u "last"), (0, .fieldref 8 21), (0, .nameAndType 22 23), (0, u "anchor"), (0, u "Lcom/example/time_aware_ranking/timeawareranking/CalendarInterval$Anchor;"), (0, .fieldref 25 26), (0, .class_ 27), (0, .nameAndType 28 23), (0, u "com/example/time_aware_ranking/timeawareranking/CalendarInterval$Anchor"), (0, u "MIDDLE"), (0, .methodref 8 30), (0, .nameAndType 5 31), (0, u "(Lcom/example/time_aware_ranking/timeawareranking/CalendarUnit;Ljava/lang/Long;Ljava/lang/Long;Lcom/example/time_aware_ranking/timeawareranking/CalendarInterval$Anchor;)V"), (1, .class_ 35), (1, u "java/lang/Long"), (2, .methodref 8 39), (0, .nameAndType 5 40), (0, u "(Lcom/example/time_aware_ranking/timeawareranking/CalendarUnit;Ljava/lang/Long;Ljava/lang/Long;)V"), (3, u "()Lcom/example/time_aware_ranking/timeawareranking/CalendarInterval;"), (0, .methodref 33 46), (0, .nameAndType 47 48), (0, u "longValue"), (0, u "()J"), (93, u "TAU_DIVISOR"), (0, u "J"), (13, u "until"), (0, u "since"), (3, u "intersect"), (0, u "(Lcom/example/time_aware_ranking/timeawareranking/CalendarInterval;)Lcom/example/time_aware_ranking/timeawareranking/CalendarInterval;"), (1, u "()Z"), (0, u "isBounded")] 42

def k8c0 : Code := { maxStack := 5, maxLocals := 4, code := prog_3_method_1_code, exceptionTable := #[], attributes := #[] }
def k8m0 : Method := { name := "<init>", desc := "(Lcom/example/time_aware_ranking/timeawareranking/CalendarUnit;Ljava/lang/Long;Ljava/lang/Long;)V", sig := { parameters := [(.object "com/example/time_aware_ranking/timeawareranking/CalendarUnit"), (.object "java/lang/Long"), (.object "java/lang/Long")], returnType := none }, accessFlags := 0, code := some k8c0 }
def k8c1 : Code := { maxStack := 2, maxLocals := 5, code := prog_3_method_2_code, exceptionTable := #[], attributes := #[] }
def k8m1 : Method := { name := "<init>", desc := "(Lcom/example/time_aware_ranking/timeawareranking/CalendarUnit;Ljava/lang/Long;Ljava/lang/Long;Lcom/example/time_aware_ranking/timeawareranking/CalendarInterval$Anchor;)V", sig := { parameters := [(.object "com/example/time_aware_ranking/timeawareranking/CalendarUnit"), (.object "java/lang/Long"), (.object "java/lang/Long"), (.object "com/example/time_aware_ranking/timeawareranking/CalendarInterval$Anchor")], returnType := none }, accessFlags := 0, code := some k8c1 }
def k8c2 : Code := { maxStack := 5, maxLocals := 1, code := prog_3_method_11_code, exceptionTable := #[], attributes := #[] }
def k8m2 : Method := { name := "until", desc := "()Lcom/example/time_aware_ranking/timeawareranking/CalendarInterval;", sig := { parameters := [], returnType := some (.object "com/example/time_aware_ranking/timeawareranking/CalendarInterval") }, accessFlags := 0, code := some k8c2 }
def k8c3 : Code := { maxStack := 5, maxLocals := 1, code := prog_3_method_12_code, exceptionTable := #[], attributes := #[] }
def k8m3 : Method := { name := "since", desc := "()Lcom/example/time_aware_ranking/timeawareranking/CalendarInterval;", sig := { parameters := [], returnType := some (.object "com/example/time_aware_ranking/timeawareranking/CalendarInterval") }, accessFlags := 0, code := some k8c3 }
def k8c4 : Code := { maxStack := 5, maxLocals := 4, code := prog_3_method_17_code, exceptionTable := #[], attributes := #[] }
def k8m4 : Method := { name := "intersect", desc := "(Lcom/example/time_aware_ranking/timeawareranking/CalendarInterval;)Lcom/example/time_aware_ranking/timeawareranking/CalendarInterval;", sig := { parameters := [(.object "com/example/time_aware_ranking/timeawareranking/CalendarInterval")], returnType := some (.object "com/example/time_aware_ranking/timeawareranking/CalendarInterval") }, accessFlags := 0, code := some k8c4 }
def k8c5 : Code := { maxStack := 1, maxLocals := 1, code := prog_3_method_19_code, exceptionTable := #[], attributes := #[] }
def k8m5 : Method := { name := "isBounded", desc := "()Z", sig := { parameters := [], returnType := some .boolean }, accessFlags := 0, code := some k8c5 }
/-- com/example/time_aware_ranking/timeawareranking/CalendarInterval -/
def k8 : Class := { plain "com/example/time_aware_ranking/timeawareranking/CalendarInterval" (some 7) with
  accessFlags := 48
  interfaces := #[]
  cf := some (fileOf pool8 8 #[.nestMembers #[25]] #[{ accessFlags := 0, nameIndex := 5, descriptorIndex := 40, attributes := #[] }, { accessFlags := 0, nameIndex := 5, descriptorIndex := 31, attributes := #[] }, { accessFlags := 0, nameIndex := 157, descriptorIndex := 44, attributes := #[] }, { accessFlags := 0, nameIndex := 158, descriptorIndex := 44, attributes := #[] }, { accessFlags := 0, nameIndex := 162, descriptorIndex := 163, attributes := #[] }, { accessFlags := 0, nameIndex := 166, descriptorIndex := 165, attributes := #[] }] 48 2 #[] #[{ accessFlags := 18, nameIndex := 11, descriptorIndex := 12, attributes := #[] }, { accessFlags := 18, nameIndex := 15, descriptorIndex := 16, attributes := #[] }, { accessFlags := 18, nameIndex := 19, descriptorIndex := 16, attributes := #[] }, { accessFlags := 18, nameIndex := 22, descriptorIndex := 23, attributes := #[] }, { accessFlags := 26, nameIndex := 142, descriptorIndex := 143, attributes := #[] }])
  fields := #[{ name := "unit", type := (.object "com/example/time_aware_ranking/timeawareranking/CalendarUnit"), accessFlags := 18, slot := 0, constantValue := 0 }, { name := "first", type := (.object "java/lang/Long"), accessFlags := 18, slot := 1, constantValue := 0 }, { name := "last", type := (.object "java/lang/Long"), accessFlags := 18, slot := 2, constantValue := 0 }, { name := "anchor", type := (.object "com/example/time_aware_ranking/timeawareranking/CalendarInterval$Anchor"), accessFlags := 18, slot := 3, constantValue := 0 }, { name := "TAU_DIVISOR", type := .long, accessFlags := 26, slot := 0, constantValue := 0 }]
  methods := #[k8m0, k8m1, k8m2, k8m3, k8m4, k8m5]
  instanceTypes := #[(.object "com/example/time_aware_ranking/timeawareranking/CalendarUnit"), (.object "java/lang/Long"), (.object "java/lang/Long"), (.object "com/example/time_aware_ranking/timeawareranking/CalendarInterval$Anchor")]
  staticTypes := #[.long]
  resolved := Array.replicate 209 none
  statics := none }

def pool9 : Array CpInfo := pool [(1, .class_ 2), (0, u "com/example/time_aware_ranking/timeawareranking/CalendarInterval$Anchor"), (2, u "FIRST"), (0, u "Lcom/example/time_aware_ranking/timeawareranking/CalendarInterval$Anchor;"), (2, u "MIDDLE"), (2, u "LAST"), (2, u "$VALUES"), (0, u "[Lcom/example/time_aware_ranking/timeawareranking/CalendarInterval$Anchor;"), (6, .class_ 25), (1, u "java/lang/Enum"), (26, .class_ 53), (0, u "com/example/time_aware_ranking/timeawareranking/CalendarInterval")] 2

/-- com/example/time_aware_ranking/timeawareranking/CalendarInterval$Anchor -/
def k9 : Class := { plain "com/example/time_aware_ranking/timeawareranking/CalendarInterval$Anchor" (some 5) with
  accessFlags := 16432
  interfaces := #[]
  cf := some (fileOf pool9 1 #[.nestHost 52] #[] 16432 23 #[] #[{ accessFlags := 16409, nameIndex := 5, descriptorIndex := 6, attributes := #[] }, { accessFlags := 16409, nameIndex := 9, descriptorIndex := 6, attributes := #[] }, { accessFlags := 16409, nameIndex := 12, descriptorIndex := 6, attributes := #[] }, { accessFlags := 4122, nameIndex := 15, descriptorIndex := 16, attributes := #[] }])
  fields := #[{ name := "FIRST", type := (.object "com/example/time_aware_ranking/timeawareranking/CalendarInterval$Anchor"), accessFlags := 16409, slot := 0, constantValue := 0 }, { name := "MIDDLE", type := (.object "com/example/time_aware_ranking/timeawareranking/CalendarInterval$Anchor"), accessFlags := 16409, slot := 1, constantValue := 0 }, { name := "LAST", type := (.object "com/example/time_aware_ranking/timeawareranking/CalendarInterval$Anchor"), accessFlags := 16409, slot := 2, constantValue := 0 }, { name := "$VALUES", type := (.array (.object "com/example/time_aware_ranking/timeawareranking/CalendarInterval$Anchor")), accessFlags := 4122, slot := 3, constantValue := 0 }]
  methods := #[]
  instanceTypes := #[(.object "java/lang/String"), .int, .int]
  staticTypes := #[(.object "com/example/time_aware_ranking/timeawareranking/CalendarInterval$Anchor"), (.object "com/example/time_aware_ranking/timeawareranking/CalendarInterval$Anchor"), (.object "com/example/time_aware_ranking/timeawareranking/CalendarInterval$Anchor"), (.array (.object "com/example/time_aware_ranking/timeawareranking/CalendarInterval$Anchor"))]
  resolved := Array.replicate 56 none
  statics := some 1 }

def pool10 : Array CpInfo := pool [(1, .methodref 2 3), (0, .class_ 4), (0, .nameAndType 5 6), (0, u "java/lang/Object"), (0, u "<init>"), (0, u "()V"), (1, .class_ 10), (1, u "java/lang/Number"), (2, .class_ 14), (0, u "java/io/Serializable"), (0, u "serialVersionUID"), (0, u "J")] 20

def k10c0 : Code := { maxStack := 1, maxLocals := 1, code := jdk_18_method_1_code, exceptionTable := #[], attributes := #[] }
def k10m0 : Method := { name := "<init>", desc := "()V", sig := { parameters := [], returnType := none }, accessFlags := 1, code := some k10c0 }
/-- java/lang/Number -/
def k10 : Class := { plain "java/lang/Number" (some 0) with
  accessFlags := 1057
  interfaces := #[4]
  cf := some (fileOf pool10 8 #[] #[{ accessFlags := 1, nameIndex := 5, descriptorIndex := 6, attributes := #[] }] 1057 2 #[13] #[{ accessFlags := 26, nameIndex := 15, descriptorIndex := 16, attributes := #[] }])
  fields := #[{ name := "serialVersionUID", type := .long, accessFlags := 26, slot := 0, constantValue := 0 }]
  methods := #[k10m0]
  instanceTypes := #[]
  staticTypes := #[.long]
  resolved := Array.replicate 37 none
  statics := none }

def pool11 : Array CpInfo := pool [(1, .class_ 2), (0, u "java/lang/constant/ConstantDesc"), (0, .class_ 4), (0, u "java/lang/Object")] 32

/-- java/lang/constant/ConstantDesc -/
def k11 : Class := { plain "java/lang/constant/ConstantDesc" (some 0) with
  accessFlags := 1537
  interfaces := #[]
  cf := some (fileOf pool11 1 #[] #[] 1537 3 #[] #[])
  fields := #[]
  methods := #[]
  instanceTypes := #[]
  staticTypes := #[]
  resolved := Array.replicate 37 none
  statics := none }

def pool12 : Array CpInfo := pool [(1, .class_ 2), (0, u "java/lang/Long"), (55, .nameAndType 59 60), (0, u "<init>"), (0, u "()V"), (24, u "valueOf"), (143, u "(J)Ljava/lang/Long;"), (0, .long 18446744073709551488), (1, .long 127), (1, .fieldref 235 236), (0, .class_ 237), (0, .nameAndType 238 239), (0, u "java/lang/Long$LongCache"), (0, u "cache"), (0, u "[Ljava/lang/Long;"), (0, .methodref 1 241), (0, .nameAndType 59 242), (0, u "(J)V"), (27, .methodref 271 58), (0, .class_ 272), (0, u "java/lang/Number"), (0, .fieldref 1 274), (0, .nameAndType 275 276), (0, u "value"), (0, u "J"), (5, u "longValue"), (0, u "()J"), (77, u "TYPE"), (0, u "Ljava/lang/Class;"), (0, .class_ 364), (0, u "java/lang/Comparable"), (0, .class_ 366), (0, u "java/lang/constant/Constable"), (0, .class_ 368), (0, u "java/lang/constant/ConstantDesc"), (0, u "MIN_VALUE"), (1, u "MAX_VALUE"), (4, u "SIZE"), (0, u "I"), (1, u "BYTES"), (1, u "serialVersionUID")] 142

def k12c0 : Code := { maxStack := 4, maxLocals := 3, code := jdk_35_method_24_code, exceptionTable := #[], attributes := #[] }
def k12m0 : Method := { name := "valueOf", desc := "(J)Ljava/lang/Long;", sig := { parameters := [.long], returnType := some (.object "java/lang/Long") }, accessFlags := 9, code := some k12c0 }
def k12c1 : Code := { maxStack := 3, maxLocals := 3, code := jdk_35_method_26_code, exceptionTable := #[], attributes := #[] }
def k12m1 : Method := { name := "<init>", desc := "(J)V", sig := { parameters := [.long], returnType := none }, accessFlags := 1, code := some k12c1 }
def k12c2 : Code := { maxStack := 2, maxLocals := 1, code := jdk_35_method_31_code, exceptionTable := #[], attributes := #[] }
def k12m2 : Method := { name := "longValue", desc := "()J", sig := { parameters := [], returnType := some .long }, accessFlags := 1, code := some k12c2 }
/-- java/lang/Long -/
def k12 : Class := { plain "java/lang/Long" (some 10) with
  accessFlags := 49
  interfaces := #[3, 2, 11]
  cf := some (fileOf pool12 1 #[.nestMembers #[235]] #[{ accessFlags := 9, nameIndex := 85, descriptorIndex := 229, attributes := #[] }, { accessFlags := 1, nameIndex := 59, descriptorIndex := 242, attributes := #[] }, { accessFlags := 1, nameIndex := 282, descriptorIndex := 283, attributes := #[] }] 49 271 #[363, 365, 367] #[{ accessFlags := 25, nameIndex := 369, descriptorIndex := 276, attributes := #[] }, { accessFlags := 25, nameIndex := 371, descriptorIndex := 276, attributes := #[] }, { accessFlags := 25, nameIndex := 361, descriptorIndex := 362, attributes := #[] }, { accessFlags := 18, nameIndex := 275, descriptorIndex := 276, attributes := #[] }, { accessFlags := 25, nameIndex := 376, descriptorIndex := 377, attributes := #[] }, { accessFlags := 25, nameIndex := 379, descriptorIndex := 377, attributes := #[] }, { accessFlags := 26, nameIndex := 381, descriptorIndex := 276, attributes := #[] }])
  fields := #[{ name := "MIN_VALUE", type := .long, accessFlags := 25, slot := 0, constantValue := 0 }, { name := "MAX_VALUE", type := .long, accessFlags := 25, slot := 1, constantValue := 0 }, { name := "TYPE", type := (.object "java/lang/Class"), accessFlags := 25, slot := 2, constantValue := 0 }, { name := "value", type := .long, accessFlags := 18, slot := 0, constantValue := 0 }, { name := "SIZE", type := .int, accessFlags := 25, slot := 3, constantValue := 0 }, { name := "BYTES", type := .int, accessFlags := 25, slot := 4, constantValue := 0 }, { name := "serialVersionUID", type := .long, accessFlags := 26, slot := 5, constantValue := 0 }]
  methods := #[k12m0, k12m1, k12m2]
  instanceTypes := #[.long]
  staticTypes := #[.long, .long, (.object "java/lang/Class"), .int, .int, .long]
  resolved := Array.replicate 524 none
  statics := none }

def pool13 : Array CpInfo := pool [(2, .class_ 4), (1, u "java/lang/Object"), (0, u "<init>"), (0, u "()V"), (0, .class_ 8), (0, u "java/lang/Long"), (7, .class_ 18), (1, u "java/lang/Long$LongCache"), (0, u "$assertionsDisabled"), (0, u "Z"), (8, u "archivedCache"), (0, u "[Ljava/lang/Long;"), (7, u "cache")] 24

def k13m0 : Method := { name := "<init>", desc := "()V", sig := { parameters := [], returnType := none }, accessFlags := 2, code := none }
/-- java/lang/Long$LongCache -/
def k13 : Class := { plain "java/lang/Long$LongCache" (some 0) with
  accessFlags := 48
  interfaces := #[]
  cf := some (fileOf pool13 16 #[.nestHost 7] #[{ accessFlags := 2, nameIndex := 5, descriptorIndex := 6, attributes := #[] }] 48 2 #[] #[{ accessFlags := 24, nameIndex := 38, descriptorIndex := 30, attributes := #[] }, { accessFlags := 8, nameIndex := 29, descriptorIndex := 30, attributes := #[] }, { accessFlags := 4120, nameIndex := 19, descriptorIndex := 20, attributes := #[] }])
  fields := #[{ name := "cache", type := (.array (.object "java/lang/Long")), accessFlags := 24, slot := 0, constantValue := 0 }, { name := "archivedCache", type := (.array (.object "java/lang/Long")), accessFlags := 8, slot := 1, constantValue := 0 }, { name := "$assertionsDisabled", type := .boolean, accessFlags := 4120, slot := 2, constantValue := 0 }]
  methods := #[k13m0]
  instanceTypes := #[]
  staticTypes := #[(.array (.object "java/lang/Long")), (.array (.object "java/lang/Long")), .boolean]
  resolved := Array.replicate 63 none
  statics := some 2 }

def pool14 : Array CpInfo := pool [(1, u "java/lang/Cloneable"), (0, .class_ 1), (0, u "java/lang/Object"), (0, .class_ 3)] 3

/-- java/lang/Cloneable -/
def k14 : Class := { plain "java/lang/Cloneable" (some 0) with
  accessFlags := 1537
  interfaces := #[]
  cf := some (fileOf pool14 2 #[] #[] 1537 4 #[] #[])
  fields := #[]
  methods := #[]
  instanceTypes := #[]
  staticTypes := #[]
  resolved := Array.replicate 8 none
  statics := none }

/-- the primitive byte -/
def k15 : Class := { plain "byte" none with kind := .primitive 'B', accessFlags := 0x411 }
/-- [B -/
def k16 : Class := { plain "[B" (some 0) with kind := .array 15 .byte, interfaces := #[14, 4], accessFlags := 1041 }

/-- the primitive int -/
def k17 : Class := { plain "int" none with kind := .primitive 'I', accessFlags := 0x411 }
/-- [I -/
def k18 : Class := { plain "[I" (some 0) with kind := .array 17 .int, interfaces := #[14, 4], accessFlags := 1041 }

/-- [Ljava/lang/Long; -/
def k19 : Class := { plain "[Ljava/lang/Long;" (some 0) with kind := .array 12 (.object "java/lang/Long"), interfaces := #[14, 4], accessFlags := 1041 }

def heap : Heap := #[{ cls := 6, slots := #[.ref 7, .ref 11, .ref 10, .ref 4, .ref 9, .null, .null, .int 0, .int 0, .int 0, .long 0, .long 0, .null], vm := .statics 6 },
  { cls := 9, slots := #[.ref 5, .ref 6, .ref 8, .null], vm := .statics 9 },
  { cls := 13, slots := #[.ref 3, .null, .int 0], vm := .statics 13 },
  { cls := 19, slots := #[.ref 12, .ref 13, .ref 14, .ref 15, .ref 16, .ref 17, .ref 18, .ref 19, .ref 20, .ref 21, .ref 22, .ref 23, .ref 24, .ref 25, .ref 26, .ref 27, .ref 28, .ref 29, .ref 30, .ref 31, .ref 32, .ref 33, .ref 34, .ref 35, .ref 36, .ref 37, .ref 38, .ref 39, .ref 40, .ref 41, .ref 42, .ref 43, .ref 44, .ref 45, .ref 46, .ref 47, .ref 48, .ref 49, .ref 50, .ref 51, .ref 52, .ref 53, .ref 54, .ref 55, .ref 56, .ref 57, .ref 58, .ref 59, .ref 60, .ref 61, .ref 62, .ref 63, .ref 64, .ref 65, .ref 66, .ref 67, .ref 68, .ref 69, .ref 70, .ref 71, .ref 72, .ref 73, .ref 74, .ref 75, .ref 76, .ref 77, .ref 78, .ref 79, .ref 80, .ref 81, .ref 82, .ref 83, .ref 84, .ref 85, .ref 86, .ref 87, .ref 88, .ref 89, .ref 90, .ref 91, .ref 92, .ref 93, .ref 94, .ref 95, .ref 96, .ref 97, .ref 98, .ref 99, .ref 100, .ref 101, .ref 102, .ref 103, .ref 104, .ref 105, .ref 106, .ref 107, .ref 108, .ref 109, .ref 110, .ref 111, .ref 112, .ref 113, .ref 114, .ref 115, .ref 116, .ref 117, .ref 118, .ref 119, .ref 120, .ref 121, .ref 122, .ref 123, .ref 124, .ref 125, .ref 126, .ref 127, .ref 128, .ref 129, .ref 130, .ref 131, .ref 132, .ref 133, .ref 134, .ref 135, .ref 136, .ref 137, .ref 138, .ref 139, .ref 140, .ref 141, .ref 142, .ref 143, .ref 144, .ref 145, .ref 146, .ref 147, .ref 148, .ref 149, .ref 150, .ref 151, .ref 152, .ref 153, .ref 154, .ref 155, .ref 156, .ref 157, .ref 158, .ref 159, .ref 160, .ref 161, .ref 162, .ref 163, .ref 164, .ref 165, .ref 166, .ref 167, .ref 168, .ref 169, .ref 170, .ref 171, .ref 172, .ref 173, .ref 174, .ref 175, .ref 176, .ref 177, .ref 178, .ref 179, .ref 180, .ref 181, .ref 182, .ref 183, .ref 184, .ref 185, .ref 186, .ref 187, .ref 188, .ref 189, .ref 190, .ref 191, .ref 192, .ref 193, .ref 194, .ref 195, .ref 196, .ref 197, .ref 198, .ref 199, .ref 200, .ref 201, .ref 202, .ref 203, .ref 204, .ref 205, .ref 206, .ref 207, .ref 208, .ref 209, .ref 210, .ref 211, .ref 212, .ref 213, .ref 214, .ref 215, .ref 216, .ref 217, .ref 218, .ref 219, .ref 220, .ref 221, .ref 222, .ref 223, .ref 224, .ref 225, .ref 226, .ref 227, .ref 228, .ref 229, .ref 230, .ref 231, .ref 232, .ref 233, .ref 234, .ref 235, .ref 236, .ref 237, .ref 238, .ref 239, .ref 240, .ref 241, .ref 242, .ref 243, .ref 244, .ref 245, .ref 246, .ref 247, .ref 248, .ref 249, .ref 250, .ref 251, .ref 252, .ref 253, .ref 254, .ref 255, .ref 256, .ref 257, .ref 258, .ref 259, .ref 260, .ref 261, .ref 262, .ref 263, .ref 264, .ref 265, .ref 266, .ref 267], vm := .none },
  { cls := 6, slots := #[.null, .int 0, .int 0], vm := .none },
  { cls := 9, slots := #[.null, .int 0, .int 0], vm := .none },
  { cls := 9, slots := #[.null, .int 0, .int 0], vm := .none },
  { cls := 6, slots := #[.null, .int 0, .int 0], vm := .none },
  { cls := 9, slots := #[.null, .int 0, .int 0], vm := .none },
  { cls := 6, slots := #[.null, .int 0, .int 0], vm := .none },
  { cls := 6, slots := #[.null, .int 0, .int 0], vm := .none },
  { cls := 6, slots := #[.null, .int 0, .int 0], vm := .none },
  { cls := 12, slots := #[.long (-128)], vm := .none },
  { cls := 12, slots := #[.long (-127)], vm := .none },
  { cls := 12, slots := #[.long (-126)], vm := .none },
  { cls := 12, slots := #[.long (-125)], vm := .none },
  { cls := 12, slots := #[.long (-124)], vm := .none },
  { cls := 12, slots := #[.long (-123)], vm := .none },
  { cls := 12, slots := #[.long (-122)], vm := .none },
  { cls := 12, slots := #[.long (-121)], vm := .none },
  { cls := 12, slots := #[.long (-120)], vm := .none },
  { cls := 12, slots := #[.long (-119)], vm := .none },
  { cls := 12, slots := #[.long (-118)], vm := .none },
  { cls := 12, slots := #[.long (-117)], vm := .none },
  { cls := 12, slots := #[.long (-116)], vm := .none },
  { cls := 12, slots := #[.long (-115)], vm := .none },
  { cls := 12, slots := #[.long (-114)], vm := .none },
  { cls := 12, slots := #[.long (-113)], vm := .none },
  { cls := 12, slots := #[.long (-112)], vm := .none },
  { cls := 12, slots := #[.long (-111)], vm := .none },
  { cls := 12, slots := #[.long (-110)], vm := .none },
  { cls := 12, slots := #[.long (-109)], vm := .none },
  { cls := 12, slots := #[.long (-108)], vm := .none },
  { cls := 12, slots := #[.long (-107)], vm := .none },
  { cls := 12, slots := #[.long (-106)], vm := .none },
  { cls := 12, slots := #[.long (-105)], vm := .none },
  { cls := 12, slots := #[.long (-104)], vm := .none },
  { cls := 12, slots := #[.long (-103)], vm := .none },
  { cls := 12, slots := #[.long (-102)], vm := .none },
  { cls := 12, slots := #[.long (-101)], vm := .none },
  { cls := 12, slots := #[.long (-100)], vm := .none },
  { cls := 12, slots := #[.long (-99)], vm := .none },
  { cls := 12, slots := #[.long (-98)], vm := .none },
  { cls := 12, slots := #[.long (-97)], vm := .none },
  { cls := 12, slots := #[.long (-96)], vm := .none },
  { cls := 12, slots := #[.long (-95)], vm := .none },
  { cls := 12, slots := #[.long (-94)], vm := .none },
  { cls := 12, slots := #[.long (-93)], vm := .none },
  { cls := 12, slots := #[.long (-92)], vm := .none },
  { cls := 12, slots := #[.long (-91)], vm := .none },
  { cls := 12, slots := #[.long (-90)], vm := .none },
  { cls := 12, slots := #[.long (-89)], vm := .none },
  { cls := 12, slots := #[.long (-88)], vm := .none },
  { cls := 12, slots := #[.long (-87)], vm := .none },
  { cls := 12, slots := #[.long (-86)], vm := .none },
  { cls := 12, slots := #[.long (-85)], vm := .none },
  { cls := 12, slots := #[.long (-84)], vm := .none },
  { cls := 12, slots := #[.long (-83)], vm := .none },
  { cls := 12, slots := #[.long (-82)], vm := .none },
  { cls := 12, slots := #[.long (-81)], vm := .none },
  { cls := 12, slots := #[.long (-80)], vm := .none },
  { cls := 12, slots := #[.long (-79)], vm := .none },
  { cls := 12, slots := #[.long (-78)], vm := .none },
  { cls := 12, slots := #[.long (-77)], vm := .none },
  { cls := 12, slots := #[.long (-76)], vm := .none },
  { cls := 12, slots := #[.long (-75)], vm := .none },
  { cls := 12, slots := #[.long (-74)], vm := .none },
  { cls := 12, slots := #[.long (-73)], vm := .none },
  { cls := 12, slots := #[.long (-72)], vm := .none },
  { cls := 12, slots := #[.long (-71)], vm := .none },
  { cls := 12, slots := #[.long (-70)], vm := .none },
  { cls := 12, slots := #[.long (-69)], vm := .none },
  { cls := 12, slots := #[.long (-68)], vm := .none },
  { cls := 12, slots := #[.long (-67)], vm := .none },
  { cls := 12, slots := #[.long (-66)], vm := .none },
  { cls := 12, slots := #[.long (-65)], vm := .none },
  { cls := 12, slots := #[.long (-64)], vm := .none },
  { cls := 12, slots := #[.long (-63)], vm := .none },
  { cls := 12, slots := #[.long (-62)], vm := .none },
  { cls := 12, slots := #[.long (-61)], vm := .none },
  { cls := 12, slots := #[.long (-60)], vm := .none },
  { cls := 12, slots := #[.long (-59)], vm := .none },
  { cls := 12, slots := #[.long (-58)], vm := .none },
  { cls := 12, slots := #[.long (-57)], vm := .none },
  { cls := 12, slots := #[.long (-56)], vm := .none },
  { cls := 12, slots := #[.long (-55)], vm := .none },
  { cls := 12, slots := #[.long (-54)], vm := .none },
  { cls := 12, slots := #[.long (-53)], vm := .none },
  { cls := 12, slots := #[.long (-52)], vm := .none },
  { cls := 12, slots := #[.long (-51)], vm := .none },
  { cls := 12, slots := #[.long (-50)], vm := .none },
  { cls := 12, slots := #[.long (-49)], vm := .none },
  { cls := 12, slots := #[.long (-48)], vm := .none },
  { cls := 12, slots := #[.long (-47)], vm := .none },
  { cls := 12, slots := #[.long (-46)], vm := .none },
  { cls := 12, slots := #[.long (-45)], vm := .none },
  { cls := 12, slots := #[.long (-44)], vm := .none },
  { cls := 12, slots := #[.long (-43)], vm := .none },
  { cls := 12, slots := #[.long (-42)], vm := .none },
  { cls := 12, slots := #[.long (-41)], vm := .none },
  { cls := 12, slots := #[.long (-40)], vm := .none },
  { cls := 12, slots := #[.long (-39)], vm := .none },
  { cls := 12, slots := #[.long (-38)], vm := .none },
  { cls := 12, slots := #[.long (-37)], vm := .none },
  { cls := 12, slots := #[.long (-36)], vm := .none },
  { cls := 12, slots := #[.long (-35)], vm := .none },
  { cls := 12, slots := #[.long (-34)], vm := .none },
  { cls := 12, slots := #[.long (-33)], vm := .none },
  { cls := 12, slots := #[.long (-32)], vm := .none },
  { cls := 12, slots := #[.long (-31)], vm := .none },
  { cls := 12, slots := #[.long (-30)], vm := .none },
  { cls := 12, slots := #[.long (-29)], vm := .none },
  { cls := 12, slots := #[.long (-28)], vm := .none },
  { cls := 12, slots := #[.long (-27)], vm := .none },
  { cls := 12, slots := #[.long (-26)], vm := .none },
  { cls := 12, slots := #[.long (-25)], vm := .none },
  { cls := 12, slots := #[.long (-24)], vm := .none },
  { cls := 12, slots := #[.long (-23)], vm := .none },
  { cls := 12, slots := #[.long (-22)], vm := .none },
  { cls := 12, slots := #[.long (-21)], vm := .none },
  { cls := 12, slots := #[.long (-20)], vm := .none },
  { cls := 12, slots := #[.long (-19)], vm := .none },
  { cls := 12, slots := #[.long (-18)], vm := .none },
  { cls := 12, slots := #[.long (-17)], vm := .none },
  { cls := 12, slots := #[.long (-16)], vm := .none },
  { cls := 12, slots := #[.long (-15)], vm := .none },
  { cls := 12, slots := #[.long (-14)], vm := .none },
  { cls := 12, slots := #[.long (-13)], vm := .none },
  { cls := 12, slots := #[.long (-12)], vm := .none },
  { cls := 12, slots := #[.long (-11)], vm := .none },
  { cls := 12, slots := #[.long (-10)], vm := .none },
  { cls := 12, slots := #[.long (-9)], vm := .none },
  { cls := 12, slots := #[.long (-8)], vm := .none },
  { cls := 12, slots := #[.long (-7)], vm := .none },
  { cls := 12, slots := #[.long (-6)], vm := .none },
  { cls := 12, slots := #[.long (-5)], vm := .none },
  { cls := 12, slots := #[.long (-4)], vm := .none },
  { cls := 12, slots := #[.long (-3)], vm := .none },
  { cls := 12, slots := #[.long (-2)], vm := .none },
  { cls := 12, slots := #[.long (-1)], vm := .none },
  { cls := 12, slots := #[.long 0], vm := .none },
  { cls := 12, slots := #[.long 1], vm := .none },
  { cls := 12, slots := #[.long 2], vm := .none },
  { cls := 12, slots := #[.long 3], vm := .none },
  { cls := 12, slots := #[.long 4], vm := .none },
  { cls := 12, slots := #[.long 5], vm := .none },
  { cls := 12, slots := #[.long 6], vm := .none },
  { cls := 12, slots := #[.long 7], vm := .none },
  { cls := 12, slots := #[.long 8], vm := .none },
  { cls := 12, slots := #[.long 9], vm := .none },
  { cls := 12, slots := #[.long 10], vm := .none },
  { cls := 12, slots := #[.long 11], vm := .none },
  { cls := 12, slots := #[.long 12], vm := .none },
  { cls := 12, slots := #[.long 13], vm := .none },
  { cls := 12, slots := #[.long 14], vm := .none },
  { cls := 12, slots := #[.long 15], vm := .none },
  { cls := 12, slots := #[.long 16], vm := .none },
  { cls := 12, slots := #[.long 17], vm := .none },
  { cls := 12, slots := #[.long 18], vm := .none },
  { cls := 12, slots := #[.long 19], vm := .none },
  { cls := 12, slots := #[.long 20], vm := .none },
  { cls := 12, slots := #[.long 21], vm := .none },
  { cls := 12, slots := #[.long 22], vm := .none },
  { cls := 12, slots := #[.long 23], vm := .none },
  { cls := 12, slots := #[.long 24], vm := .none },
  { cls := 12, slots := #[.long 25], vm := .none },
  { cls := 12, slots := #[.long 26], vm := .none },
  { cls := 12, slots := #[.long 27], vm := .none },
  { cls := 12, slots := #[.long 28], vm := .none },
  { cls := 12, slots := #[.long 29], vm := .none },
  { cls := 12, slots := #[.long 30], vm := .none },
  { cls := 12, slots := #[.long 31], vm := .none },
  { cls := 12, slots := #[.long 32], vm := .none },
  { cls := 12, slots := #[.long 33], vm := .none },
  { cls := 12, slots := #[.long 34], vm := .none },
  { cls := 12, slots := #[.long 35], vm := .none },
  { cls := 12, slots := #[.long 36], vm := .none },
  { cls := 12, slots := #[.long 37], vm := .none },
  { cls := 12, slots := #[.long 38], vm := .none },
  { cls := 12, slots := #[.long 39], vm := .none },
  { cls := 12, slots := #[.long 40], vm := .none },
  { cls := 12, slots := #[.long 41], vm := .none },
  { cls := 12, slots := #[.long 42], vm := .none },
  { cls := 12, slots := #[.long 43], vm := .none },
  { cls := 12, slots := #[.long 44], vm := .none },
  { cls := 12, slots := #[.long 45], vm := .none },
  { cls := 12, slots := #[.long 46], vm := .none },
  { cls := 12, slots := #[.long 47], vm := .none },
  { cls := 12, slots := #[.long 48], vm := .none },
  { cls := 12, slots := #[.long 49], vm := .none },
  { cls := 12, slots := #[.long 50], vm := .none },
  { cls := 12, slots := #[.long 51], vm := .none },
  { cls := 12, slots := #[.long 52], vm := .none },
  { cls := 12, slots := #[.long 53], vm := .none },
  { cls := 12, slots := #[.long 54], vm := .none },
  { cls := 12, slots := #[.long 55], vm := .none },
  { cls := 12, slots := #[.long 56], vm := .none },
  { cls := 12, slots := #[.long 57], vm := .none },
  { cls := 12, slots := #[.long 58], vm := .none },
  { cls := 12, slots := #[.long 59], vm := .none },
  { cls := 12, slots := #[.long 60], vm := .none },
  { cls := 12, slots := #[.long 61], vm := .none },
  { cls := 12, slots := #[.long 62], vm := .none },
  { cls := 12, slots := #[.long 63], vm := .none },
  { cls := 12, slots := #[.long 64], vm := .none },
  { cls := 12, slots := #[.long 65], vm := .none },
  { cls := 12, slots := #[.long 66], vm := .none },
  { cls := 12, slots := #[.long 67], vm := .none },
  { cls := 12, slots := #[.long 68], vm := .none },
  { cls := 12, slots := #[.long 69], vm := .none },
  { cls := 12, slots := #[.long 70], vm := .none },
  { cls := 12, slots := #[.long 71], vm := .none },
  { cls := 12, slots := #[.long 72], vm := .none },
  { cls := 12, slots := #[.long 73], vm := .none },
  { cls := 12, slots := #[.long 74], vm := .none },
  { cls := 12, slots := #[.long 75], vm := .none },
  { cls := 12, slots := #[.long 76], vm := .none },
  { cls := 12, slots := #[.long 77], vm := .none },
  { cls := 12, slots := #[.long 78], vm := .none },
  { cls := 12, slots := #[.long 79], vm := .none },
  { cls := 12, slots := #[.long 80], vm := .none },
  { cls := 12, slots := #[.long 81], vm := .none },
  { cls := 12, slots := #[.long 82], vm := .none },
  { cls := 12, slots := #[.long 83], vm := .none },
  { cls := 12, slots := #[.long 84], vm := .none },
  { cls := 12, slots := #[.long 85], vm := .none },
  { cls := 12, slots := #[.long 86], vm := .none },
  { cls := 12, slots := #[.long 87], vm := .none },
  { cls := 12, slots := #[.long 88], vm := .none },
  { cls := 12, slots := #[.long 89], vm := .none },
  { cls := 12, slots := #[.long 90], vm := .none },
  { cls := 12, slots := #[.long 91], vm := .none },
  { cls := 12, slots := #[.long 92], vm := .none },
  { cls := 12, slots := #[.long 93], vm := .none },
  { cls := 12, slots := #[.long 94], vm := .none },
  { cls := 12, slots := #[.long 95], vm := .none },
  { cls := 12, slots := #[.long 96], vm := .none },
  { cls := 12, slots := #[.long 97], vm := .none },
  { cls := 12, slots := #[.long 98], vm := .none },
  { cls := 12, slots := #[.long 99], vm := .none },
  { cls := 12, slots := #[.long 100], vm := .none },
  { cls := 12, slots := #[.long 101], vm := .none },
  { cls := 12, slots := #[.long 102], vm := .none },
  { cls := 12, slots := #[.long 103], vm := .none },
  { cls := 12, slots := #[.long 104], vm := .none },
  { cls := 12, slots := #[.long 105], vm := .none },
  { cls := 12, slots := #[.long 106], vm := .none },
  { cls := 12, slots := #[.long 107], vm := .none },
  { cls := 12, slots := #[.long 108], vm := .none },
  { cls := 12, slots := #[.long 109], vm := .none },
  { cls := 12, slots := #[.long 110], vm := .none },
  { cls := 12, slots := #[.long 111], vm := .none },
  { cls := 12, slots := #[.long 112], vm := .none },
  { cls := 12, slots := #[.long 113], vm := .none },
  { cls := 12, slots := #[.long 114], vm := .none },
  { cls := 12, slots := #[.long 115], vm := .none },
  { cls := 12, slots := #[.long 116], vm := .none },
  { cls := 12, slots := #[.long 117], vm := .none },
  { cls := 12, slots := #[.long 118], vm := .none },
  { cls := 12, slots := #[.long 119], vm := .none },
  { cls := 12, slots := #[.long 120], vm := .none },
  { cls := 12, slots := #[.long 121], vm := .none },
  { cls := 12, slots := #[.long 122], vm := .none },
  { cls := 12, slots := #[.long 123], vm := .none },
  { cls := 12, slots := #[.long 124], vm := .none },
  { cls := 12, slots := #[.long 125], vm := .none },
  { cls := 12, slots := #[.long 126], vm := .none },
  { cls := 12, slots := #[.long 127], vm := .none }]
def classes : Array Class := #[k0, k1, k2, k3, k4, k5, k6, k7, k8, k9, k10, k11, k12, k13, k14, k15, k16, k17, k18, k19]
def interned : List (Array UInt16 × Addr) := []
def slotsUsed : Nat := 556
def theMethod : MethodId := ⟨1, 3⟩
def args0 : Array Value := #[.int 5, .int 5, .long 5, .long 5, .long 5, .long 5]
def aboutOver (below : List Frame) : State where
  vm := { classes := classes, interned := interned.toArray }
  heap := heap
  slotsUsed := slotsUsed
  threads := #[{ frames := .invoking theMethod args0 :: below }]
def below0 : List Frame := [.native { method := ⟨0, 0⟩, args := #[] }]
def about1 : State := aboutOver below0
def p0 : Program := .bare "" "" ""
def e0 : Env := launch0.env 0 0 0
theorem w_frames : about1.frames = Frame.invoking theMethod args0 :: below0 := rfl
set_option maxRecDepth 65536 in
theorem w_args : argsFit about1.vm theMethod args0 = true := by decide +kernel
set_option maxRecDepth 65536 in
theorem w_heap : heapFits about1 = true := by decide +kernel
set_option maxRecDepth 65536 in
theorem w_runnable : about1.curStatus? = some .runnable := by decide +kernel
set_option maxRecDepth 65536 in
theorem w_alone : about1.alone = true := by decide +kernel
set_option maxRecDepth 65536 in
theorem w_named : about1.methodNamed? x = some theMethod := by decide +kernel
set_option maxRecDepth 65536 in
theorem w_hears : about1.hears theMethod below0 = true := by decide +kernel
set_option maxRecDepth 65536 in
theorem w_ripe : about1.ripe theMethod args0 below0 = true := by decide +kernel
theorem w_running : about1.status = .running := rfl
set_option maxRecDepth 65536 in
theorem w_room : about1.hasRoom e0.platform room_1 = true :=
  launch0.hasRoom_least _ room_1 (by decide +kernel) (by decide +kernel) (by decide +kernel) (by decide +kernel) (by decide +kernel) (by decide +kernel)
theorem allAtoms_all (ts : List Jvm.Cond) (a : Array Jvm.Value) (st : Jvm.State) : (allAtoms ts).before a st = ts.all (fun c => c.before a st) := by
  induction ts with
  | nil => rfl
  | cons c t ih =>
    show (Jvm.Cond.and c (allAtoms t)).before a st = _
    rw [Jvm.Cond.before_and, ih, List.all_cons]
def words1 : List Jvm.Cond := Jvm.Cond.code x code maxLocals ret :: tables_1
/-- a 'code' word, met by the world's own term for the bytes: nothing is compared byte by byte -/
theorem code_word {y : MethodName} {bytes : ByteArray} {mx : Nat} {rt : Option FieldType} {a : Array Value} {s : State} {m : MethodId} {meth : Method} {c : Code} (h1 : s.methodNamed? y = some m) (h2 : s.vm.method? m = some meth) (h3 : meth.code = some c) (h4 : c.code = bytes)
    (h5 : (c.maxLocals == mx && c.exceptionTable.isEmpty && decide (c.maxStack ≤ mostOperands) && decide (meth.sig.returnType = rt) && !meth.locks && decide (parseMethodDescriptor y.desc = some meth.sig)) = true) : (Jvm.Cond.code y bytes mx rt).before a s = true := by
  simp only [Bool.and_eq_true, beq_iff_eq, Bool.not_eq_true', decide_eq_true_eq] at h5
  obtain ⟨⟨⟨⟨⟨g1, g2⟩, g3⟩, g4⟩, g5⟩, g6⟩ := h5
  simp [Cond.before, Cond.holds, Cond.value, h1, h2, h3, h4, g1, g2, g3, g4, g5, g6]
def isCode : Jvm.Cond → Bool
  | .code _ _ _ _ => true
  | _ => false
theorem all_split {L : List Jvm.Cond} {P : Jvm.Cond → Bool} (h1 : L.all (fun c => isCode c || P c) = true) (h2 : ∀ c ∈ L.filter isCode, P c = true) : L.all P = true := by
  refine List.all_eq_true.mpr fun c hc => ?_
  have h := List.all_eq_true.mp h1 c hc
  rcases Bool.eq_false_or_eq_true (isCode c) with hi | hi
  · exact h2 c (List.mem_filter.mpr ⟨hc, hi⟩)
  · simpa [hi] using h
set_option maxRecDepth 65536 in
theorem w_c0 : (Jvm.Cond.code x code maxLocals ret).before args0 about1 = true := code_word (m := ⟨1, 3⟩) (meth := k1m3) (c := k1c3) (by decide +kernel) rfl rfl rfl (by decide +kernel)
set_option maxRecDepth 65536 in
theorem w_c1 : (Jvm.Cond.code ({ cls := "com/example/time_aware_ranking/timeawareranking/CalendarIntervalIsBoundedPinLaw", name := "unit", desc := "(I)Lcom/example/time_aware_ranking/timeawareranking/CalendarUnit;" } : Jvm.MethodName) method_2_code (2 : Nat) (Option.some (Jvm.ClassFile.FieldType.object "com/example/time_aware_ranking/timeawareranking/CalendarUnit"))).before args0 about1 = true := code_word (m := ⟨1, 1⟩) (meth := k1m1) (c := k1c1) (by decide +kernel) rfl rfl rfl (by decide +kernel)
set_option maxRecDepth 65536 in
theorem w_c2 : (Jvm.Cond.code ({ cls := "com/example/time_aware_ranking/timeawareranking/CalendarIntervalIsBoundedPinLaw", name := "anchor", desc := "(I)Lcom/example/time_aware_ranking/timeawareranking/CalendarInterval$Anchor;" } : Jvm.MethodName) method_3_code (2 : Nat) (Option.some (Jvm.ClassFile.FieldType.object "com/example/time_aware_ranking/timeawareranking/CalendarInterval$Anchor"))).before args0 about1 = true := code_word (m := ⟨1, 2⟩) (meth := k1m2) (c := k1c2) (by decide +kernel) rfl rfl rfl (by decide +kernel)
set_option maxRecDepth 65536 in
theorem w_c3 : (Jvm.Cond.code ({ cls := "com/example/time_aware_ranking/timeawareranking/CalendarInterval", name := "<init>", desc := "(Lcom/example/time_aware_ranking/timeawareranking/CalendarUnit;Ljava/lang/Long;Ljava/lang/Long;Lcom/example/time_aware_ranking/timeawareranking/CalendarInterval$Anchor;)V" } : Jvm.MethodName) prog_3_method_2_code (5 : Nat) (Option.none : Option Jvm.ClassFile.FieldType)).before args0 about1 = true := code_word (m := ⟨8, 1⟩) (meth := k8m1) (c := k8c1) (by decide +kernel) rfl rfl rfl (by decide +kernel)
set_option maxRecDepth 65536 in
theorem w_c4 : (Jvm.Cond.code ({ cls := "java/lang/Record", name := "<init>", desc := "()V" } : Jvm.MethodName) jdk_30_method_1_code (1 : Nat) (Option.none : Option Jvm.ClassFile.FieldType)).before args0 about1 = true := code_word (m := ⟨7, 0⟩) (meth := k7m0) (c := k7c0) (by decide +kernel) rfl rfl rfl (by decide +kernel)
set_option maxRecDepth 65536 in
theorem w_c5 : (Jvm.Cond.code ({ cls := "java/lang/Object", name := "<init>", desc := "()V" } : Jvm.MethodName) object_method_1_code (1 : Nat) (Option.none : Option Jvm.ClassFile.FieldType)).before args0 about1 = true := code_word (m := ⟨0, 0⟩) (meth := k0m0) (c := k0c0) (by decide +kernel) rfl rfl rfl (by decide +kernel)
set_option maxRecDepth 65536 in
theorem w_c6 : (Jvm.Cond.code ({ cls := "com/example/time_aware_ranking/timeawareranking/CalendarInterval", name := "isBounded", desc := "()Z" } : Jvm.MethodName) prog_3_method_19_code (1 : Nat) (Option.some Jvm.ClassFile.FieldType.boolean)).before args0 about1 = true := code_word (m := ⟨8, 5⟩) (meth := k8m5) (c := k8c5) (by decide +kernel) rfl rfl rfl (by decide +kernel)
set_option maxRecDepth 65536 in
theorem w_c7 : (Jvm.Cond.code ({ cls := "com/example/time_aware_ranking/timeawareranking/CalendarInterval", name := "intersect", desc := "(Lcom/example/time_aware_ranking/timeawareranking/CalendarInterval;)Lcom/example/time_aware_ranking/timeawareranking/CalendarInterval;" } : Jvm.MethodName) prog_3_method_17_code (4 : Nat) (Option.some (Jvm.ClassFile.FieldType.object "com/example/time_aware_ranking/timeawareranking/CalendarInterval"))).before args0 about1 = true := code_word (m := ⟨8, 4⟩) (meth := k8m4) (c := k8c4) (by decide +kernel) rfl rfl rfl (by decide +kernel)
set_option maxRecDepth 65536 in
theorem w_c8 : (Jvm.Cond.code ({ cls := "com/example/time_aware_ranking/timeawareranking/CalendarInterval", name := "<init>", desc := "(Lcom/example/time_aware_ranking/timeawareranking/CalendarUnit;Ljava/lang/Long;Ljava/lang/Long;)V" } : Jvm.MethodName) prog_3_method_1_code (4 : Nat) (Option.none : Option Jvm.ClassFile.FieldType)).before args0 about1 = true := code_word (m := ⟨8, 0⟩) (meth := k8m0) (c := k8c0) (by decide +kernel) rfl rfl rfl (by decide +kernel)
set_option maxRecDepth 65536 in
theorem w_c9 : (Jvm.Cond.code ({ cls := "com/example/time_aware_ranking/timeawareranking/CalendarInterval", name := "since", desc := "()Lcom/example/time_aware_ranking/timeawareranking/CalendarInterval;" } : Jvm.MethodName) prog_3_method_12_code (1 : Nat) (Option.some (Jvm.ClassFile.FieldType.object "com/example/time_aware_ranking/timeawareranking/CalendarInterval"))).before args0 about1 = true := code_word (m := ⟨8, 3⟩) (meth := k8m3) (c := k8c3) (by decide +kernel) rfl rfl rfl (by decide +kernel)
set_option maxRecDepth 65536 in
theorem w_c10 : (Jvm.Cond.code ({ cls := "com/example/time_aware_ranking/timeawareranking/CalendarInterval", name := "until", desc := "()Lcom/example/time_aware_ranking/timeawareranking/CalendarInterval;" } : Jvm.MethodName) prog_3_method_11_code (1 : Nat) (Option.some (Jvm.ClassFile.FieldType.object "com/example/time_aware_ranking/timeawareranking/CalendarInterval"))).before args0 about1 = true := code_word (m := ⟨8, 2⟩) (meth := k8m2) (c := k8c2) (by decide +kernel) rfl rfl rfl (by decide +kernel)
set_option maxRecDepth 65536 in
theorem w_c11 : (Jvm.Cond.code ({ cls := "java/lang/Long", name := "valueOf", desc := "(J)Ljava/lang/Long;" } : Jvm.MethodName) jdk_35_method_24_code (3 : Nat) (Option.some (Jvm.ClassFile.FieldType.object "java/lang/Long"))).before args0 about1 = true := code_word (m := ⟨12, 0⟩) (meth := k12m0) (c := k12c0) (by decide +kernel) rfl rfl rfl (by decide +kernel)
set_option maxRecDepth 65536 in
theorem w_c12 : (Jvm.Cond.code ({ cls := "java/lang/Long", name := "<init>", desc := "(J)V" } : Jvm.MethodName) jdk_35_method_26_code (3 : Nat) (Option.none : Option Jvm.ClassFile.FieldType)).before args0 about1 = true := code_word (m := ⟨12, 1⟩) (meth := k12m1) (c := k12c1) (by decide +kernel) rfl rfl rfl (by decide +kernel)
set_option maxRecDepth 65536 in
theorem w_c13 : (Jvm.Cond.code ({ cls := "java/lang/Number", name := "<init>", desc := "()V" } : Jvm.MethodName) jdk_18_method_1_code (1 : Nat) (Option.none : Option Jvm.ClassFile.FieldType)).before args0 about1 = true := code_word (m := ⟨10, 0⟩) (meth := k10m0) (c := k10c0) (by decide +kernel) rfl rfl rfl (by decide +kernel)
set_option maxRecDepth 65536 in
theorem w_c14 : (Jvm.Cond.code ({ cls := "java/lang/Long", name := "longValue", desc := "()J" } : Jvm.MethodName) jdk_35_method_31_code (1 : Nat) (Option.some Jvm.ClassFile.FieldType.long)).before args0 about1 = true := code_word (m := ⟨12, 2⟩) (meth := k12m2) (c := k12c2) (by decide +kernel) rfl rfl rfl (by decide +kernel)
def codes1 : List Jvm.Cond := [Jvm.Cond.code x code maxLocals ret, Jvm.Cond.code ({ cls := "com/example/time_aware_ranking/timeawareranking/CalendarIntervalIsBoundedPinLaw", name := "unit", desc := "(I)Lcom/example/time_aware_ranking/timeawareranking/CalendarUnit;" } : Jvm.MethodName) method_2_code (2 : Nat) (Option.some (Jvm.ClassFile.FieldType.object "com/example/time_aware_ranking/timeawareranking/CalendarUnit")), Jvm.Cond.code ({ cls := "com/example/time_aware_ranking/timeawareranking/CalendarIntervalIsBoundedPinLaw", name := "anchor", desc := "(I)Lcom/example/time_aware_ranking/timeawareranking/CalendarInterval$Anchor;" } : Jvm.MethodName) method_3_code (2 : Nat) (Option.some (Jvm.ClassFile.FieldType.object "com/example/time_aware_ranking/timeawareranking/CalendarInterval$Anchor")), Jvm.Cond.code ({ cls := "com/example/time_aware_ranking/timeawareranking/CalendarInterval", name := "<init>", desc := "(Lcom/example/time_aware_ranking/timeawareranking/CalendarUnit;Ljava/lang/Long;Ljava/lang/Long;Lcom/example/time_aware_ranking/timeawareranking/CalendarInterval$Anchor;)V" } : Jvm.MethodName) prog_3_method_2_code (5 : Nat) (Option.none : Option Jvm.ClassFile.FieldType), Jvm.Cond.code ({ cls := "java/lang/Record", name := "<init>", desc := "()V" } : Jvm.MethodName) jdk_30_method_1_code (1 : Nat) (Option.none : Option Jvm.ClassFile.FieldType), Jvm.Cond.code ({ cls := "java/lang/Object", name := "<init>", desc := "()V" } : Jvm.MethodName) object_method_1_code (1 : Nat) (Option.none : Option Jvm.ClassFile.FieldType), Jvm.Cond.code ({ cls := "com/example/time_aware_ranking/timeawareranking/CalendarInterval", name := "isBounded", desc := "()Z" } : Jvm.MethodName) prog_3_method_19_code (1 : Nat) (Option.some Jvm.ClassFile.FieldType.boolean), Jvm.Cond.code ({ cls := "com/example/time_aware_ranking/timeawareranking/CalendarInterval", name := "intersect", desc := "(Lcom/example/time_aware_ranking/timeawareranking/CalendarInterval;)Lcom/example/time_aware_ranking/timeawareranking/CalendarInterval;" } : Jvm.MethodName) prog_3_method_17_code (4 : Nat) (Option.some (Jvm.ClassFile.FieldType.object "com/example/time_aware_ranking/timeawareranking/CalendarInterval")), Jvm.Cond.code ({ cls := "com/example/time_aware_ranking/timeawareranking/CalendarInterval", name := "<init>", desc := "(Lcom/example/time_aware_ranking/timeawareranking/CalendarUnit;Ljava/lang/Long;Ljava/lang/Long;)V" } : Jvm.MethodName) prog_3_method_1_code (4 : Nat) (Option.none : Option Jvm.ClassFile.FieldType), Jvm.Cond.code ({ cls := "com/example/time_aware_ranking/timeawareranking/CalendarInterval", name := "since", desc := "()Lcom/example/time_aware_ranking/timeawareranking/CalendarInterval;" } : Jvm.MethodName) prog_3_method_12_code (1 : Nat) (Option.some (Jvm.ClassFile.FieldType.object "com/example/time_aware_ranking/timeawareranking/CalendarInterval")), Jvm.Cond.code ({ cls := "com/example/time_aware_ranking/timeawareranking/CalendarInterval", name := "until", desc := "()Lcom/example/time_aware_ranking/timeawareranking/CalendarInterval;" } : Jvm.MethodName) prog_3_method_11_code (1 : Nat) (Option.some (Jvm.ClassFile.FieldType.object "com/example/time_aware_ranking/timeawareranking/CalendarInterval")), Jvm.Cond.code ({ cls := "java/lang/Long", name := "valueOf", desc := "(J)Ljava/lang/Long;" } : Jvm.MethodName) jdk_35_method_24_code (3 : Nat) (Option.some (Jvm.ClassFile.FieldType.object "java/lang/Long")), Jvm.Cond.code ({ cls := "java/lang/Long", name := "<init>", desc := "(J)V" } : Jvm.MethodName) jdk_35_method_26_code (3 : Nat) (Option.none : Option Jvm.ClassFile.FieldType), Jvm.Cond.code ({ cls := "java/lang/Number", name := "<init>", desc := "()V" } : Jvm.MethodName) jdk_18_method_1_code (1 : Nat) (Option.none : Option Jvm.ClassFile.FieldType), Jvm.Cond.code ({ cls := "java/lang/Long", name := "longValue", desc := "()J" } : Jvm.MethodName) jdk_35_method_31_code (1 : Nat) (Option.some Jvm.ClassFile.FieldType.long)]
set_option maxRecDepth 65536 in
theorem codes_eq : words1.filter isCode = codes1 := rfl
theorem w_codes : ∀ c ∈ words1.filter isCode, c.before args0 about1 = true := by
  rw [codes_eq]
  intro c hc
  simp only [codes1, List.mem_cons, List.not_mem_nil, or_false] at hc
  rcases hc with rfl | rfl | rfl | rfl | rfl | rfl | rfl | rfl | rfl | rfl | rfl | rfl | rfl | rfl | rfl
  · exact w_c0
  · exact w_c1
  · exact w_c2
  · exact w_c3
  · exact w_c4
  · exact w_c5
  · exact w_c6
  · exact w_c7
  · exact w_c8
  · exact w_c9
  · exact w_c10
  · exact w_c11
  · exact w_c12
  · exact w_c13
  · exact w_c14
set_option maxRecDepth 65536 in
theorem w_t1 : (words1.take 24).all (fun c => isCode c || c.before args0 about1) = true := by decide +kernel
set_option maxRecDepth 65536 in
theorem w_t2 : ((words1.drop 24).take 24).all (fun c => isCode c || c.before args0 about1) = true := by decide +kernel
set_option maxRecDepth 65536 in
theorem w_t3 : (((words1.drop 24).drop 24).take 24).all (fun c => isCode c || c.before args0 about1) = true := by decide +kernel
set_option maxRecDepth 65536 in
theorem w_t4 : ((((words1.drop 24).drop 24).drop 24).take 24).all (fun c => isCode c || c.before args0 about1) = true := by decide +kernel
set_option maxRecDepth 65536 in
theorem w_t5 : ((((words1.drop 24).drop 24).drop 24).drop 24).all (fun c => isCode c || c.before args0 about1) = true := by decide +kernel
theorem w_tables : (allAtoms (Jvm.Cond.code x code maxLocals ret :: tables_1)).before args0 about1 = true := by
  rw [allAtoms_all]
  show words1.all (fun c => c.before args0 about1) = true
  refine all_split ?_ w_codes
  rw [← List.take_append_drop 24 words1, List.all_append, w_t1, ← List.take_append_drop 24 (words1.drop 24), List.all_append, w_t2, ← List.take_append_drop 24 ((words1.drop 24).drop 24), List.all_append, w_t3, ← List.take_append_drop 24 (((words1.drop 24).drop 24).drop 24), List.all_append, w_t4, w_t5]
  rfl
set_option maxRecDepth 65536 in
theorem w_rest : rest_1_c.before args0 about1 = true := by decide +kernel
set_option maxRecDepth 65536 in
theorem w_case : (Jvm.Cond.and given_1 narrow_1).before args0 about1 = true := by decide +kernel
theorem w_applies : (headSpec (Jvm.Cond.code x code maxLocals ret :: tables_1) room_1).applies x e0.platform about1 = true :=
  (Spec.applies_iff w_frames).mpr ⟨w_running, w_runnable, w_alone, w_named, w_hears, w_ripe, w_room, w_tables⟩
theorem atStart : AtStart classFile x code maxLocals ret World_1 tables_1 room_1 Calls_1 rest_1 Pre_1 launch0 p0 e0 about1 theMethod args0 below0 :=
  ⟨lists_1, trivial, launch0.admits_env _ _ _, launch0.least_env, fairChoices_fair.cas, fairChoices_fair.clock, w_frames, w_args, w_heap, w_applies, trivial, w_rest, w_case⟩
end start1
theorem witness_1 : WitnessClaimed_1 := ⟨start1.p0, start1.e0, start1.about1, start1.theMethod, start1.args0, start1.below0, start1.atStart⟩
end Jvm.Pilot.@@N@@
