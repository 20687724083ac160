import JvmDerived
import JvmDerived.Pilot.@@N@@Statement
import JvmDerived.Pilot.@@N@@Code
set_option linter.unusedVariables false
set_option linter.unusedSimpArgs false
namespace Jvm.RoadKit
open Sem ClassFile Op Lib Jvm.Stand Jvm.Free Jvm.LawKit
section New
variable {p : Program} {l : Launch} {e : Env} {R : Room} {s : State} {m : MethodId} {args : Array Value} {below : List Frame} {meth : Method} {c : Code} {T : State} {locs : List Loc} {cells slots : Nat}
theorem retI (X : Stand p l e R s m args below meth c T locs cells slots) (hx : p.tables.exec = Jvm.exec) {pc : Nat} {Ls : Array Slot} {z : Int32} {rest : List Value} (hret : meth.sig.returnType = some .int) (hd : decode c.code pc = .ok (.ireturn, 1)) {fs : List Frame}
    (hl : ∀ (f : JFrame) (acts : List Action), f.method = m → f.locked = none → f.entered = [] → (doReturn e (T.setTop f) acts (some (.int z))).1 = T.setFrames fs) : Steps p.tables e below (T.setTop (mkF m pc Ls (.int z :: rest))) (T.setFrames fs) := by
  have hm' : T.vm.method? m = some meth := X.method'
  have hn : narrow .int (.int z) = .int z := rfl
  show Steps p.tables e below (T.setTop { method := m, pc := pc, locals := Ls, stack := _ :: rest, locked := none }) _
  jvm_step X.here [X.here.top, hx, hd, hm', hret, hn]
  first | (intro acts; rw [hl _ acts rfl rfl rfl]) | rw [hl _ _ rfl rfl rfl]
  exact Steps.refl _
end New
/-! the walk's own frame: a goal that is met by going on -/
section Own
variable {tb : Tables} {e : Env} {below : List Frame} {R : State → Outcome → Prop} {U U' T : State}
def own_G (tb : Tables) (e : Env) (below : List Frame) (R : State → Outcome → Prop) (U : State) : Prop := ∃ f o, Steps tb e below U f ∧ R f o
theorem own_pre {g g' : JFrame} (q : g = g') (h : own_G tb e below R (T.setTop g')) : ∃ f o, Steps tb e below (T.setTop g) f ∧ R f o := by rw [q]; exact h
theorem own_go (st : ∀ t, Steps tb e below U' t → Steps tb e below U t) (h : own_G tb e below R U') : own_G tb e below R U := by
  obtain ⟨f, o, h1, h2⟩ := h; exact ⟨f, o, st _ h1, h2⟩
theorem own_out (h : ∃ f o, Steps tb e below U f ∧ R f o) : own_G tb e below R U := h
end Own
section OwnFacts
variable {Z : State} {h h' : Heap} {a : Addr} {ws : List Addr} {C n d : String} {v : Value} {b : Bool}
def own_NS (h : Heap) (a : Addr) : Prop := ∃ c : Cell, h[a]? = some c ∧ c.vm.isStatics = false
theorem own_nsE (F : Exa Z h a C) : own_NS h a := by obtain ⟨c, k, h1, -, -, h4, -⟩ := F; exact ⟨c, h1, h4⟩
theorem own_nsF (F : Fld Z h a C n d v) : own_NS h a := by obtain ⟨c, _, _, _, _, h1, -, -, -, h5, -⟩ := F; exact ⟨c, h1, h5⟩
theorem own_nsV {k : ClassId} {ty : FieldType} {z : Int32} {vs : List Value} {dv : Value} (F : Arv Z h a k ty z vs dv) : own_NS h a := by obtain ⟨c, A, -⟩ := F; exact ⟨c, A.1, A.plain⟩
theorem own_staK (F : Sta Z h C n d v) (K : Keep h h' ws) (q : ∀ x ∈ ws, own_NS h x) : Sta Z h' C n d v := by
  obtain ⟨cf, i, k, f, st, cell, h1, h2, h3, h4, h5, h6, h7⟩ := F
  refine ⟨cf, i, k, f, st, cell, h1, h2, h3, h4, K.2.1 st cell h5 (fun hm => ?_), h6, h7⟩
  obtain ⟨c, e1, e2⟩ := q st hm
  cases h5.symm.trans e1
  rw [e2] at h6; cases h6
theorem own_insK (F : Ins Z h a C b) (K : Keep h h' ws) : Ins Z h' a C b := by
  obtain ⟨cell, cT, h1, h2, h3⟩ := F
  obtain ⟨c', e1, e2, e3, -⟩ := K.2.2 a cell h1
  exact ⟨c', cT, e1, h2, by rw [e2, e3]; exact h3⟩
theorem own_selP {s : State} {args : Array Value} {y : MethodName} {k : Nat} (wi : (Cond.instantiable y.cls k).before args s = true) (wp : (Cond.privateMethod y).before args s = true) (hi : (Cond.instanceMethod y).before args s = true) (hy : y.cls ≠ "java/lang/invoke/MethodHandle" ∧ y.cls ≠ "java/lang/invoke/VarHandle") : (Cond.selects y.cls y y).before args s = true := by
  obtain ⟨c, k, h1, h2, -, h4, -⟩ := Cond.instantiable_spec wi
  exact selects_self_of_private h1 h2 (by simp only [Bool.or_eq_false_iff] at h4; exact h4.1) (Cond.privateMethod_at wp) hi hy
theorem own_xnJ (x : Int64) : (x ^^^ (-1 : Int64)).toInt = -1 - x.toInt := by
  have h : x ^^^ (-1 : Int64) = ~~~ x := by
    rw [← Int64.toBitVec_inj]; simp
  rw [h]
  show (~~~ x.toBitVec).toInt = -1 - x.toBitVec.toInt
  rw [BitVec.toInt_not]
  have h1 := x.toBitVec.isLt
  rw [BitVec.toInt_eq_toNat_bmod]
  simp only [Int.bmod]
  split <;> split <;> omega
theorem own_at {h h' : Heap} {a : Addr} {c : Cell} (e : h' = h) (g : h[a]? = some c) : h'[a]? = some c := by rw [e]; exact g
theorem own_insLt (F : Ins Z h a C b) : a < h.size := by obtain ⟨_, _, h1, -⟩ := F; exact (Array.getElem?_eq_some_iff.mp h1).1
def own_As (Z : State) (C K : String) : Prop := ∃ c t, Z.vm.findClass C = some c ∧ Z.vm.findClass K = some t ∧ Z.vm.assignable c t = true
theorem own_asI {K : String} (E : Exa Z h a C) (A : own_As Z C K) : Ins Z h a K true := by
  obtain ⟨cell, k, h1, h2, -, h4, -⟩ := E
  obtain ⟨c, t, g1, g2, g3⟩ := A
  cases h2.symm.trans g1
  exact ⟨cell, t, h1, g2, by simp [h4, g3]⟩
theorem own_asN {a0 : Array Value} {own K : String} {index : Nat} (w : (Cond.classLink own index K).before a0 Z = true) (E : Exa Z h a C) (A : ¬ own_As Z C K) : ∃ c t, Z.vm.findClass C = some c ∧ Z.vm.findClass K = some t ∧ Z.vm.assignable c t = false := by
  obtain ⟨cell, k, h1, h2, -, h4, -⟩ := E
  have w' := Cond.before_iff.mp w
  cases hK : Z.vm.findClass K with
  | none => simp only [Cond.value, State.classLinks, hK] at w'; split at w' <;> simp_all
  | some t =>
    refine ⟨_, t, h2, rfl, ?_⟩
    cases hA : Z.vm.assignable cell.cls t with
    | false => rfl
    | true => exact absurd ⟨_, t, h2, hK, hA⟩ A
variable {args : Array Value} {t u : Term} {x : Addr}
theorem own_fldI {k : Int32} (ev : t.eval args Z none [] Z = some (.ref x)) (hh : (Cond.eq (.field t C n d) (.int k)).value args Z none Z [] = some true) : Fld Z Z.heap x C n d (.int k) := by
  refine Fld.start ?_
  obtain ⟨y, w, e1, e2, k1, -⟩ := cmp_v (Or.inl hh)
  cases (Term.int_eval k).symm.trans e2
  rw [fld_at ev] at e1
  cases y <;> simp [Kin, Value.isRef] at k1
  rename_i q
  have e3 : (Term.field t C n d).eval args Z none [] Z = some (.int q) := by rw [fld_at ev]; exact e1
  simp [Cond.value, e3, Term.int_eval] at hh
  rw [e1, hh]
theorem own_fldJ {k : Int64} (ev : t.eval args Z none [] Z = some (.ref x)) (hh : (Cond.eq (.field t C n d) (.long k)).value args Z none Z [] = some true) : Fld Z Z.heap x C n d (.long k) := by
  refine Fld.start ?_
  obtain ⟨y, w, e1, e2, k1, -⟩ := cmp_v (Or.inl hh)
  cases (long_at k).symm.trans e2
  rw [fld_at ev] at e1
  cases y <;> simp [Kin, Value.isRef] at k1
  rename_i q
  have e3 : (Term.field t C n d).eval args Z none [] Z = some (.long q) := by rw [fld_at ev]; exact e1
  have e4 := gotT (eq_L e3 (long_at k)) hh
  rw [e1, e4]
theorem own_fldR {y : Addr} (ev : t.eval args Z none [] Z = some (.ref x)) (e2 : (Term.field t C n d).eval args Z none [] Z = some (.ref y)) : Fld Z Z.heap x C n d (.ref y) := Fld.start (by rw [← fld_at ev]; exact e2)
theorem own_len {cl : Cell} {ty : FieldType} {k : Int32} (ev : t.eval args Z none [] Z = some (.ref x)) (A : Arr Z Z.heap x cl ty) (hh : (Cond.eq (.length t) (.int k)).value args Z none Z [] = some true) : cl.slots.size < 2 ^ 31 ∧ cl.slots.size.toInt32 = k := by
  obtain ⟨y, w, e1, e2, k1, -⟩ := cmp_v (Or.inl hh)
  cases (Term.int_eval k).symm.trans e2
  have hA := A.fin (Vm.Alike.refl _)
  have hl : cl.slots.size < 2 ^ 31 := by
    rcases Nat.lt_or_ge cl.slots.size (2 ^ 31) with q | q
    · exact q
    · simp [Term.eval, ev, hA, Nat.not_lt.mpr q] at e1
  refine ⟨hl, ?_⟩
  have e3 := len_f ev hA hl
  simp [Cond.value, e3, Term.int_eval] at hh
  exact hh
theorem own_elI {cl : Cell} {ty : FieldType} {i k : Int32} (ev : t.eval args Z none [] Z = some (.ref x)) (A : Arr Z Z.heap x cl ty) (hh : (Cond.eq (.elem t (.int i)) (.int k)).value args Z none Z [] = some true) : cl.slots[i.toNatClampNeg]? = some (.int k) := by
  obtain ⟨y, w, e1, e2, k1, -⟩ := cmp_v (Or.inl hh)
  cases (Term.int_eval k).symm.trans e2
  cases y <;> simp [Kin, Value.isRef] at k1
  rename_i q
  simp [Cond.value, e1, Term.int_eval] at hh
  rw [← hh]; exact (elem_in e1 ev (Term.int_eval i) A.1).2
theorem own_elR {cl : Cell} {ty : FieldType} {i : Int32} {y : Addr} (ev : t.eval args Z none [] Z = some (.ref x)) (eu : u.eval args Z none [] Z = some (.ref y)) (A : Arr Z Z.heap x cl ty) (hh : (Cond.eq (.elem t (.int i)) u).value args Z none Z [] = some true) : cl.slots[i.toNatClampNeg]? = some (.ref y) := by
  obtain ⟨p, w, e1, e3, k1, k2⟩ := cmp_v (Or.inl hh)
  cases eu.symm.trans e3
  have k3 := gotT (eq_R e1 eu k2.2 rfl) hh
  rw [← k3]; exact (elem_in e1 ev (Term.int_eval i) A.1).2
theorem own_eqR {y : Addr} (e2 : u.eval args Z none [] Z = some (.ref y)) (hh : (Cond.eq t u).value args Z none Z [] = some true) : t.eval args Z none [] Z = some (.ref y) := by
  obtain ⟨p, w, e1, e3, k1, k2⟩ := cmp_v (Or.inl hh)
  cases e2.symm.trans e3
  have k3 := gotT (eq_R e1 e2 k2.2 rfl) hh
  rw [e1, k3]
end OwnFacts
/-- the cache of Longs: old objects, each with its number -/
def own_LC (Z : State) (h : Heap) (a : Addr) (n : Nat) : Prop := ∃ cl : Cell, Arr Z h a cl (.object "java/lang/Long") ∧ cl.slots.size = (256 : Int32).toNatClampNeg ∧ a < n ∧ ∀ j : Int32, ¬ j < 0 → j < 256 → ∃ b : Addr, cl.slots[j.toNatClampNeg]? = some (.ref b) ∧ b < n ∧ Exa Z h b "java/lang/Long" ∧ Fld Z h b "java/lang/Long" "value" "J" (.long (j - 128).toInt64)
theorem own_LC.keep {Z : State} {h h' : Heap} {a : Addr} {n : Nat} {ws : List Addr} (F : own_LC Z h a n) (K : Keep h h' ws) (q : ∀ x ∈ ws, n ≤ x) : own_LC Z h' a n := by
  obtain ⟨cl, A, S, ha, M⟩ := F
  refine ⟨cl, ⟨K.2.1 a cl A.1 (fun hm => absurd ha (Nat.not_lt.mpr (q a hm))), A.2⟩, S, ha, fun j h0 h1 => ?_⟩
  obtain ⟨b, h2, h3, E, F⟩ := M j h0 h1
  exact ⟨b, h2, h3, E.keep K, F.keep K (fun hm => absurd h3 (Nat.not_lt.mpr (q b hm)))⟩
theorem own_LC.ext {Z : State} {h h' : Heap} {a : Addr} {n : Nat} (F : own_LC Z h a n) (E : Ext h h') : own_LC Z h' a n := F.keep ((Keep.refl h []).ext E) all0
theorem own_LC.start {Z : State} {args : Array Value} {C n d : String} {x : Addr} (ev : (Term.static C n d).eval args Z none [] Z = some (.ref x)) (hA : (Cond.arrayOf (.static C n d) (.object "java/lang/Long")).value args Z none Z [] = some true) (hL : (Cond.eq (.length (.static C n d)) (.int 256)).value args Z none Z [] = some true)
    (hall : (Cond.all (.static C n d) (.and (.exactly (.elem (.static C n d) (.index 0)) "java/lang/Long") (.eq (.field (.elem (.static C n d) (.index 0)) "java/lang/Long" "value" "J") (.op1 .i2l (.sub (.index 0) (.int 128)))))).value args Z none Z [] = some true) : own_LC Z Z.heap x Z.heap.size := by
  obtain ⟨cl, A⟩ := Arr.start ev hA
  have L := own_len ev A hL
  have hsz : cl.slots.size = 256 := by
    have h1 := congrArg Int32.toInt L.2
    have h2 : (cl.slots.size.toInt32).toInt = (cl.slots.size : Int) := by
      have := L.1
      exact Int32.toInt_ofNat_of_lt this
    have h3 : (256 : Int32).toInt = 256 := by decide
    omega
  have hat := A.fin (Vm.Alike.refl _)
  refine ⟨cl, A, by rw [hsz]; decide, (Array.getElem?_eq_some_iff.mp A.1).1, fun j h0 h1 => ?_⟩
  have j0 : 0 ≤ j.toInt := by
    have := fun q => h0 (Int32.lt_iff_toInt_lt.mpr q)
    simp at this; exact this
  have j1 : j.toInt < 256 := by
    have := Int32.lt_iff_toInt_lt.mp h1
    simpa using this
  have hj : j.toNatClampNeg = j.toInt.toNat := rfl
  have hm : j.toNatClampNeg < cl.slots.size := by rw [hsz, hj]; omega
  have hj3 : j.toNatClampNeg.toInt32 = j := by
    apply Int32.toInt_inj.mp
    have q : j.toNatClampNeg < 2 ^ 31 := by rw [hj]; omega
    rw [show j.toNatClampNeg.toInt32 = Int32.ofNat j.toNatClampNeg from rfl, Int32.toInt_ofNat_of_lt q, hj]; omega
  have hx := Cond.all_elim ev hat hall _ hm
  have ev' : (Term.static C n d).eval args Z none [j.toNatClampNeg] Z = some (.ref x) := by simpa only [Term.eval] using ev
  have hi : (Term.index 0).eval args Z none [j.toNatClampNeg] Z = some (.int j) := by simp [Term.eval, hj3]
  simp only [Cond.value] at hx
  split at hx
  · rename_i hex
    split at hex
    · rename_i b c0 eb ec
      have hb := (elem_in eb ev' hi A.1).2
      have E : Exa Z Z.heap b "java/lang/Long" := Exa.start (args := #[.ref b]) (t := .arg 0) rfl (by
        simp only [Cond.value, Term.eval]; simpa [ec] using hex)
      refine ⟨b, hb, ?_, E, ?_⟩
      · obtain ⟨c1, k1, h1, -⟩ := E
        exact (Array.getElem?_eq_some_iff.mp h1).1
      · refine Fld.start ?_
        have e2 : (Term.op1 .i2l (.sub (.index 0) (.int 128))).eval args Z none [j.toNatClampNeg] Z = some (.long (j - 128).toInt64) := by
          simp [Term.eval, hj3, Unary.apply]
        rw [e2, fld_at eb] at hx
        cases hv : Z.fieldOf? b "java/lang/Long" "value" "J" with
        | none => simp [hv] at hx
        | some v => cases v <;> simp [hv] at hx ⊢ ; exact hx
    · simp at hex
    · simp at hex
  · rename_i hne; exact absurd hx (hne)
theorem own_lcq {q : Int64} (h1 : ¬ q < (-128 : Int64)) (h2 : ¬ (127 : Int64) < q) : (q.toInt32 + (128 : Int32) - 128).toInt64 = q := by
  have a1 : ¬ q.toInt < -128 := fun e => h1 (Int64.lt_iff_toInt_lt.mpr e)
  have a2 : ¬ 127 < q.toInt := fun e => h2 (Int64.lt_iff_toInt_lt.mpr e)
  refine Int64.toInt_inj.mp ?_
  rw [c_i2l]
  have b1 := c_isub (q.toInt32 + (128 : Int32)) 128; have b2 := c_iadd q.toInt32 128; have b3 := c_l2i q
  have e1 : (128 : Int32).toInt = 128 := by decide
  have r1 := rng32 q.toInt32; have r2 := rng32 (q.toInt32 + (128 : Int32)); have r3 := rng32 (q.toInt32 + (128 : Int32) - 128)
  omega
section OwnLong
open Jvm.Free.XT
variable {x y : Int64}
theorem own_ll_eq_t (h : x = y) : ifCond.holds .eq (lcmpW x y) = true := ll_eq_t h
theorem own_ll_eq_f (h : ¬ x = y) : ifCond.holds .eq (lcmpW x y) = false := ll_eq_f h
theorem own_ll_ne_t (h : ¬ x = y) : ifCond.holds .ne (lcmpW x y) = true := ll_ne_t h
theorem own_ll_ne_f (h : x = y) : ifCond.holds .ne (lcmpW x y) = false := ll_ne_f h
theorem own_ll_lt_t (h : x < y) : ifCond.holds .lt (lcmpW x y) = true := ll_lt_t h
theorem own_ll_lt_f (h : ¬ x < y) : ifCond.holds .lt (lcmpW x y) = false := ll_lt_f h
theorem own_ll_ge_t (h : ¬ x < y) : ifCond.holds .ge (lcmpW x y) = true := ll_ge_t h
theorem own_ll_ge_f (h : x < y) : ifCond.holds .ge (lcmpW x y) = false := ll_ge_f h
theorem own_ll_gt_t (h : y < x) : ifCond.holds .gt (lcmpW x y) = true := ll_gt_t h
theorem own_ll_gt_f (h : ¬ y < x) : ifCond.holds .gt (lcmpW x y) = false := ll_gt_f h
theorem own_ll_le_t (h : ¬ y < x) : ifCond.holds .le (lcmpW x y) = true := ll_le_t h
theorem own_ll_le_f (h : y < x) : ifCond.holds .le (lcmpW x y) = false := ll_le_f h
end OwnLong
section OwnSteps
variable {p : Program} {l : Launch} {e : Env} {R : Room} {s : State} {m : MethodId} {args : Array Value} {below : List Frame} {meth : Method} {c : Code} {T : State} {locs : List Loc} {cells slots : Nat} {bytes : ByteArray} {pc : Nat} {L : Array Slot} {S : List Value} {t : State}

theorem oiload (X : Stand p l e R s m args below meth c T locs cells slots) (hx : p.tables.exec = Jvm.exec) (hby : c.code = bytes) {k : Nat} {v : Int32} (hd : decode bytes pc = .ok (.iload k, 2)) (hl : L[k]? = some (.val (.int v))) (hr : Steps p.tables e below (T.setTop (mkF m (pc + 2) L (.int v :: S))) t) : Steps p.tables e below (T.setTop (mkF m pc L S)) t := XS.iload X.here hx rfl (hb hby hd) hl hr
theorem oiloadN (X : Stand p l e R s m args below meth c T locs cells slots) (hx : p.tables.exec = Jvm.exec) (hby : c.code = bytes) {k : Fin 4} {v : Int32} (hd : decode bytes pc = .ok (.iload_n k, 1)) (hl : L[k.val]? = some (.val (.int v))) (hr : Steps p.tables e below (T.setTop (mkF m (pc + 1) L (.int v :: S))) t) : Steps p.tables e below (T.setTop (mkF m pc L S)) t := XS.iloadN X.here hx rfl (hb hby hd) hl hr
theorem oaload (X : Stand p l e R s m args below meth c T locs cells slots) (hx : p.tables.exec = Jvm.exec) (hby : c.code = bytes) {k : Nat} {v : Value} (hd : decode bytes pc = .ok (.aload k, 2)) (hl : L[k]? = some (.val v)) (hv : v.isRef = true) (hr : Steps p.tables e below (T.setTop (mkF m (pc + 2) L (v :: S))) t) : Steps p.tables e below (T.setTop (mkF m pc L S)) t := XS.aload X.here hx rfl (hb hby hd) hl hv hr
theorem oaloadN (X : Stand p l e R s m args below meth c T locs cells slots) (hx : p.tables.exec = Jvm.exec) (hby : c.code = bytes) {k : Fin 4} {v : Value} (hd : decode bytes pc = .ok (.aload_n k, 1)) (hl : L[k.val]? = some (.val v)) (hv : v.isRef = true) (hr : Steps p.tables e below (T.setTop (mkF m (pc + 1) L (v :: S))) t) : Steps p.tables e below (T.setTop (mkF m pc L S)) t := XS.aloadN X.here hx rfl (hb hby hd) hl hv hr
theorem oistore (X : Stand p l e R s m args below meth c T locs cells slots) (hx : p.tables.exec = Jvm.exec) (hby : c.code = bytes) {k : Nat} {x : Int32} (hd : decode bytes pc = .ok (.istore k, 2)) (l' : Array Slot) (hl : storeLocals L k (.int x) = some l') (hr : Steps p.tables e below (T.setTop (mkF m (pc + 2) l' S)) t) : Steps p.tables e below (T.setTop (mkF m pc L (.int x :: S))) t := XS.istore X.here hx rfl (hb hby hd) rfl hl hr
theorem oistoreN (X : Stand p l e R s m args below meth c T locs cells slots) (hx : p.tables.exec = Jvm.exec) (hby : c.code = bytes) {k : Fin 4} {x : Int32} (hd : decode bytes pc = .ok (.istore_n k, 1)) (l' : Array Slot) (hl : storeLocals L k.val (.int x) = some l') (hr : Steps p.tables e below (T.setTop (mkF m (pc + 1) l' S)) t) : Steps p.tables e below (T.setTop (mkF m pc L (.int x :: S))) t := XS.istoreN X.here hx rfl (hb hby hd) rfl hl hr
theorem oastore (X : Stand p l e R s m args below meth c T locs cells slots) (hx : p.tables.exec = Jvm.exec) (hby : c.code = bytes) {k : Nat} {x : Value} (hd : decode bytes pc = .ok (.astore k, 2)) (l' : Array Slot) (hv : x.isRef = true) (hl : storeLocals L k x = some l') (hr : Steps p.tables e below (T.setTop (mkF m (pc + 2) l' S)) t) : Steps p.tables e below (T.setTop (mkF m pc L (x :: S))) t := XS.astore X.here hx rfl (hb hby hd) rfl hv hl hr
theorem oastoreN (X : Stand p l e R s m args below meth c T locs cells slots) (hx : p.tables.exec = Jvm.exec) (hby : c.code = bytes) {k : Fin 4} {x : Value} (hd : decode bytes pc = .ok (.astore_n k, 1)) (l' : Array Slot) (hv : x.isRef = true) (hl : storeLocals L k.val x = some l') (hr : Steps p.tables e below (T.setTop (mkF m (pc + 1) l' S)) t) : Steps p.tables e below (T.setTop (mkF m pc L (x :: S))) t := XS.astoreN X.here hx rfl (hb hby hd) rfl hv hl hr
theorem oiconst (X : Stand p l e R s m args below meth c T locs cells slots) (hx : p.tables.exec = Jvm.exec) (hby : c.code = bytes) {i : Int} (hd : decode bytes pc = .ok (.iconst i, 1)) (hr : Steps p.tables e below (T.setTop (mkF m (pc + 1) L (.int (Int32.ofInt i) :: S))) t) : Steps p.tables e below (T.setTop (mkF m pc L S)) t := XS.iconst X.here hx rfl (hb hby hd) hr
theorem olconst (X : Stand p l e R s m args below meth c T locs cells slots) (hx : p.tables.exec = Jvm.exec) (hby : c.code = bytes) {k : Fin 2} (hd : decode bytes pc = .ok (.lconst k, 1)) (hr : Steps p.tables e below (T.setTop (mkF m (pc + 1) L (.long (Int64.ofNat k) :: S))) t) : Steps p.tables e below (T.setTop (mkF m pc L S)) t := XS.lconst X.here hx rfl (hb hby hd) hr
theorem oisub (X : Stand p l e R s m args below meth c T locs cells slots) (hx : p.tables.exec = Jvm.exec) (hby : c.code = bytes) {x y : Int32} (hd : decode bytes pc = .ok (.isub, 1)) (hr : Steps p.tables e below (T.setTop (mkF m (pc + 1) L (.int (x - y) :: S))) t) : Steps p.tables e below (T.setTop (mkF m pc L (.int y :: .int x :: S))) t := XS.isub X.here hx rfl (hb hby hd) rfl hr
theorem olsub (X : Stand p l e R s m args below meth c T locs cells slots) (hx : p.tables.exec = Jvm.exec) (hby : c.code = bytes) {x y : Int64} (hd : decode bytes pc = .ok (.lsub, 1)) (hr : Steps p.tables e below (T.setTop (mkF m (pc + 1) L (.long (x - y) :: S))) t) : Steps p.tables e below (T.setTop (mkF m pc L (.long y :: .long x :: S))) t := XS.lsub X.here hx rfl (hb hby hd) rfl hr
theorem oiand (X : Stand p l e R s m args below meth c T locs cells slots) (hx : p.tables.exec = Jvm.exec) (hby : c.code = bytes) {x y : Int32} (hd : decode bytes pc = .ok (.iand, 1)) (hr : Steps p.tables e below (T.setTop (mkF m (pc + 1) L (.int (x &&& y) :: S))) t) : Steps p.tables e below (T.setTop (mkF m pc L (.int y :: .int x :: S))) t := XS.iand X.here hx rfl (hb hby hd) rfl hr
theorem oineg (X : Stand p l e R s m args below meth c T locs cells slots) (hx : p.tables.exec = Jvm.exec) (hby : c.code = bytes) {x : Int32} (hd : decode bytes pc = .ok (.ineg, 1)) (hr : Steps p.tables e below (T.setTop (mkF m (pc + 1) L ((.int (-x)) :: S))) t) : Steps p.tables e below (T.setTop (mkF m pc L (.int x :: S))) t := XS.ineg X.here hx rfl (hb hby hd) rfl hr
theorem oi2l (X : Stand p l e R s m args below meth c T locs cells slots) (hx : p.tables.exec = Jvm.exec) (hby : c.code = bytes) {x : Int32} (hd : decode bytes pc = .ok (.i2l, 1)) (hr : Steps p.tables e below (T.setTop (mkF m (pc + 1) L ((.long (x.toInt64)) :: S))) t) : Steps p.tables e below (T.setTop (mkF m pc L (.int x :: S))) t := XS.i2l X.here hx rfl (hb hby hd) rfl hr
theorem olcmp (X : Stand p l e R s m args below meth c T locs cells slots) (hx : p.tables.exec = Jvm.exec) (hby : c.code = bytes) {x y : Int64} (hd : decode bytes pc = .ok (.lcmp, 1)) (hr : Steps p.tables e below (T.setTop (mkF m (pc + 1) L (.int (lcmpW x y) :: S))) t) : Steps p.tables e below (T.setTop (mkF m pc L (.long y :: .long x :: S))) t := XS.lcmp X.here hx rfl (hb hby hd) rfl hr
theorem odup (X : Stand p l e R s m args below meth c T locs cells slots) (hx : p.tables.exec = Jvm.exec) (hby : c.code = bytes) {x : Value} (hd : decode bytes pc = .ok (.dup, 1)) (hc : x.category = 1) (hr : Steps p.tables e below (T.setTop (mkF m (pc + 1) L (x :: x :: S))) t) : Steps p.tables e below (T.setTop (mkF m pc L (x :: S))) t := XS.dup X.here hx rfl (hb hby hd) rfl hc hr
theorem ogoto (X : Stand p l e R s m args below meth c T locs cells slots) (hx : p.tables.exec = Jvm.exec) (hby : c.code = bytes) {o : Int} (hd : decode bytes pc = .ok (.goto o, 3)) (pc' : Nat) (hp : 0 ≤ (pc : Int) + o ∧ ((pc : Int) + o).toNat = pc') (hr : Steps p.tables e below (T.setTop (mkF m pc' L S)) t) : Steps p.tables e below (T.setTop (mkF m pc L S)) t := XS.goto X.here hx rfl rfl (hb hby hd) hp.1 hp.2 hr
theorem oifY (X : Stand p l e R s m args below meth c T locs cells slots) (hx : p.tables.exec = Jvm.exec) (hby : c.code = bytes) {cd : ClassFile.Cond} {x : Int32} {o : Int} (hd : decode bytes pc = .ok (.ifCond cd o, 3)) (pc' : Nat) (hc : ifCond.holds cd x = true) (hp : 0 ≤ (pc : Int) + o ∧ ((pc : Int) + o).toNat = pc') (hr : Steps p.tables e below (T.setTop (mkF m pc' L S)) t) : Steps p.tables e below (T.setTop (mkF m pc L (.int x :: S))) t := XS.ifYes X.here hx rfl rfl (hb hby hd) rfl hc hp.1 hp.2 hr
theorem oifN (X : Stand p l e R s m args below meth c T locs cells slots) (hx : p.tables.exec = Jvm.exec) (hby : c.code = bytes) {cd : ClassFile.Cond} {x : Int32} {o : Int} (hd : decode bytes pc = .ok (.ifCond cd o, 3)) (hc : ifCond.holds cd x = false) (hr : Steps p.tables e below (T.setTop (mkF m (pc + 3) L S)) t) : Steps p.tables e below (T.setTop (mkF m pc L (.int x :: S))) t := XS.ifNo X.here hx rfl (hb hby hd) rfl hc hr
theorem oicY (X : Stand p l e R s m args below meth c T locs cells slots) (hx : p.tables.exec = Jvm.exec) (hby : c.code = bytes) {cd : ClassFile.Cond} {x y : Int32} {o : Int} (hd : decode bytes pc = .ok (.if_icmp cd o, 3)) (pc' : Nat) (hc : if_icmp.holds cd x y = true) (hp : 0 ≤ (pc : Int) + o ∧ ((pc : Int) + o).toNat = pc') (hr : Steps p.tables e below (T.setTop (mkF m pc' L S)) t) : Steps p.tables e below (T.setTop (mkF m pc L (.int y :: .int x :: S))) t := XS.icmpYes X.here hx rfl rfl (hb hby hd) rfl hc hp.1 hp.2 hr
theorem oicN (X : Stand p l e R s m args below meth c T locs cells slots) (hx : p.tables.exec = Jvm.exec) (hby : c.code = bytes) {cd : ClassFile.Cond} {x y : Int32} {o : Int} (hd : decode bytes pc = .ok (.if_icmp cd o, 3)) (hc : if_icmp.holds cd x y = false) (hr : Steps p.tables e below (T.setTop (mkF m (pc + 3) L S)) t) : Steps p.tables e below (T.setTop (mkF m pc L (.int y :: .int x :: S))) t := XS.icmpNo X.here hx rfl (hb hby hd) rfl hc hr
theorem onnY (X : Stand p l e R s m args below meth c T locs cells slots) (hx : p.tables.exec = Jvm.exec) (hby : c.code = bytes) {o : Int} {a : Addr} (hd : decode bytes pc = .ok (.ifnonnull o, 3)) (pc' : Nat) (hp : 0 ≤ (pc : Int) + o ∧ ((pc : Int) + o).toNat = pc') (hr : Steps p.tables e below (T.setTop (mkF m pc' L S)) t) : Steps p.tables e below (T.setTop (mkF m pc L (.ref a :: S))) t := XS.ifnonnullYes X.here hx rfl rfl (hb hby hd) rfl hp.1 hp.2 hr
end OwnSteps
section OwnCalls
variable {p : Program} {l : Launch} {e : Env} {R : Room} {s : State} {m : MethodId} {args : Array Value} {below : List Frame} {meth : Method} {c : Code} {T : State} {locs : List Loc} {cells slots : Nat} {Z : State} {a0 : Array Value} {h : Heap} {bytes : ByteArray}
theorem ocallS (X : Stand p l e R s m args below meth c T locs cells slots) (hx : p.tables.exec = Jvm.exec) (hZ : Z.Warmed39 s.vm) {cb : ByteArray} {maxL : Nat} {ret : Option FieldType} {rm : Room} {Q : Option Value → Heap → List Loc → Prop} {argsL rest : List Value} {index : Nat} {own : String} (y : MethodName) (hown : s.vm.findClass own = some m.cls) (w1 : (Cond.methodLink own index y).before a0 Z = true) (w2 : (Cond.static y).before a0 Z = true) (hy : y.cls ≠ "java/lang/invoke/MethodHandle" ∧ y.cls ≠ "java/lang/invoke/VarHandle") (w5 : (Cond.code y cb maxL ret).before a0 Z = true) (w6 : (Cond.initialized y.cls).before a0 Z = true) (eT : T.heap = h) (hM : MetFree l y (head1 [Cond.code y cb maxL ret] rm) (fun a U => a = argsL.toArray ∧ Z.Warmed39 U.vm ∧ U.heap = h) (fun _ _ _ _ _ => True) (fun _ U o U' => ∃ v L, o = .returned v ∧ Q v U'.heap L ∧ FrameEnd U o U' L rm.cells rm.slots)) {st : List Value} (hst : st = argsL.reverse ++ rest) (W : Nat) (hW : (rest.map fun v => v.category).sum = W) (hroom : rm.frames + 1 ≤ R.frames ∧ W + (maxL + 11) + rm.locals ≤ R.locals ∧ cells + rm.cells ≤ R.cells ∧ slots + rm.slots ≤ R.slots) {pc : Nat} {Ls : Array Slot} {nl : Nat} (hml : c.maxLocals = nl) (hsz : Ls.size = nl) (hlen : ∀ sig, parseMethodDescriptor y.desc = some sig → argsL.length = sig.parameters.length) (hd : decode bytes pc = .ok (.invokestatic index, 3)) (hby : c.code = bytes) : ∃ v T' L, Stand p l e R s m args below meth c T' (locs ++ L) (cells + rm.cells) (slots + rm.slots) ∧ Q v T'.heap L ∧ ∀ t, Steps p.tables e below (T'.setTop (mkF m (pc + 3) Ls (v.toList ++ rest))) t → Steps p.tables e below (T.setTop (mkF m pc Ls st)) t := by
  subst hst
  obtain ⟨_, _, ⟨T1, L1, k1, n1⟩, -, X1, ⟨Lc1, hQ1, l1, y1, z1⟩, st1⟩ := Jvm.LawKit.callS X hx hown (mvT hZ w1) (mvT hZ w2) (mvT hZ w6) (mvT hZ w5) hy (backOf (W := W) hM hZ w5 w6 hroom.1 hroom.2.1) (g := mkF m pc Ls (argsL.reverse ++ rest)) rfl (hsz.trans hml.symm) (argsL := argsL) (rest := rest) hlen rfl (by show 2 * 0 + _ ≤ _; rw [Nat.mul_zero, Nat.zero_add]; exact Nat.le_of_eq hW) (hb hby hd) (fun _ _ => ⟨rfl, eT, hroom.2.2.1, hroom.2.2.2⟩)
  dsimp only [Pt.U, Pt.locs, Pt.cells, Pt.slots] at X1 l1 y1 z1 st1 hQ1
  subst l1 y1 z1
  exact ⟨_, _, _, X1, hQ1, st1⟩
theorem ocallI (X : Stand p l e R s m args below meth c T locs cells slots) (hx : p.tables.exec = Jvm.exec) (hZ : Z.Warmed39 s.vm) {cb : ByteArray} {maxL : Nat} {rm : Room} {Q : Option Value → Heap → List Loc → Prop} {argsL rest : List Value} {index : Nat} {own : String} (y : MethodName) (hn : y.name = "<init>") (hown : s.vm.findClass own = some m.cls) (w1 : (Cond.methodLink own index y).before a0 Z = true) (w2 : (Cond.instanceMethod y).before a0 Z = true) (hy : y.cls ≠ "java/lang/invoke/MethodHandle" ∧ y.cls ≠ "java/lang/invoke/VarHandle") (w5 : (Cond.code y cb maxL none).before a0 Z = true) (w6 : (Cond.initialized y.cls).before a0 Z = true) (eT : T.heap = h) {b : Addr} (hM : MetFree l y (head1 [Cond.code y cb maxL none] rm) (fun a U => a = (.ref b :: argsL).toArray ∧ Z.Warmed39 U.vm ∧ U.heap = h) (fun _ _ _ _ _ => True) (fun _ U o U' => ∃ v L, o = .returned v ∧ Q v U'.heap L ∧ FrameEnd U o U' L rm.cells rm.slots)) {st : List Value} (hst : st = argsL.reverse ++ .ref b :: rest) (W : Nat) (hW : (rest.map fun v => v.category).sum = W) (hroom : rm.frames + 1 ≤ R.frames ∧ W + (maxL + 11) + rm.locals ≤ R.locals ∧ cells + rm.cells ≤ R.cells ∧ slots + rm.slots ≤ R.slots) {pc : Nat} {Ls : Array Slot} {nl : Nat} (hml : c.maxLocals = nl) (hsz : Ls.size = nl) (hlen : ∀ sig, parseMethodDescriptor y.desc = some sig → argsL.length = sig.parameters.length) (hd : decode bytes pc = .ok (.invokespecial index, 3)) (hby : c.code = bytes) : ∃ v T' L, Stand p l e R s m args below meth c T' (locs ++ L) (cells + rm.cells) (slots + rm.slots) ∧ Q v T'.heap L ∧ ∀ t, Steps p.tables e below (T'.setTop (mkF m (pc + 3) Ls (v.toList ++ rest))) t → Steps p.tables e below (T.setTop (mkF m pc Ls st)) t := by
  subst hst
  obtain ⟨_, _, ⟨T1, L1, k1, n1⟩, -, X1, ⟨Lc1, hQ1, l1, y1, z1⟩, st1⟩ := X.specialBack hx hn hown (mvT hZ w1) (mvT hZ w2) (mvT hZ w5) hy (backOf (W := W) hM hZ w5 w6 hroom.1 hroom.2.1) (g := mkF m pc Ls (argsL.reverse ++ .ref b :: rest)) rfl (hsz.trans hml.symm) (Steps.refl _) (a := b) (argsL := argsL) (rest := rest) hlen rfl (by show 2 * 0 + _ ≤ _; rw [Nat.mul_zero, Nat.zero_add]; exact Nat.le_of_eq hW) (hb hby hd) (fun _ _ => ⟨rfl, eT, hroom.2.2.1, hroom.2.2.2⟩)
  dsimp only [Pt.U, Pt.locs, Pt.cells, Pt.slots] at X1 l1 y1 z1 st1 hQ1
  subst l1 y1 z1
  exact ⟨_, _, _, X1, hQ1, fun _ k => st1.trans k⟩
theorem ocallIS {vm0 : Vm} {k0 : Nat} (X : Stand p l e R (s.setVm vm0) m args below meth c T locs cells slots) (hx : p.tables.exec = Jvm.exec) (hZ : Z.Warmed39 (s.setVm vm0).vm) {cb : ByteArray} {maxL : Nat} {rm : Room} {Q : Option Value → Heap → List Loc → Prop} {argsL rest : List Value} {index : Nat} {own : String} (y : MethodName) (hn : y.name = "<init>") (hown : (s.setVm vm0).vm.findClass own = some m.cls) (w1 : (Cond.methodLink own index y).before a0 Z = true) (w2 : (Cond.instanceMethod y).before a0 Z = true) (hy : y.cls ≠ "java/lang/invoke/MethodHandle" ∧ y.cls ≠ "java/lang/invoke/VarHandle") (w5 : (Cond.code y cb maxL none).before a0 Z = true) (w6 : (Cond.initialized y.cls).before a0 Z = true) (eT : T.heap = h) {b : Addr} (hM : MetFree l y (head1 [Cond.code y cb maxL none] rm) (fun a U => a = (.ref b :: argsL).toArray ∧ Z.Warmed39 U.vm ∧ U.heap = h) (fun _ _ _ _ _ => True) (fun _ U o U' => ∃ v L, o = .returned v ∧ Q v U'.heap L ∧ ReturnedEndW U o U' L rm.cells rm.slots)) {st : List Value} (hst : st = argsL.reverse ++ .ref b :: rest) (W : Nat) (hW : (rest.map fun v => v.category).sum = W) (hroom : rm.frames + 1 ≤ R.frames ∧ W + (maxL + 11) + rm.locals ≤ R.locals ∧ cells + rm.cells ≤ R.cells ∧ slots + rm.slots ≤ R.slots) {pc : Nat} {Ls : Array Slot} {nl : Nat} (hml : c.maxLocals = nl) (hsz : Ls.size = nl) (hlen : ∀ sig, parseMethodDescriptor y.desc = some sig → argsL.length = sig.parameters.length) (hd : decode bytes pc = .ok (.invokespecial index, 3)) (hby : c.code = bytes) (hS : s.Since vm0 k0) (hk : k0 ≤ h.size) : ∃ v T' L, Stand p l e R (s.setVm T'.vm) m args below meth c T' (locs ++ L) (cells + rm.cells) (slots + rm.slots) ∧ Q v T'.heap L ∧ s.Since T'.vm T'.heap.size ∧ Z.Warmed39 (s.setVm T'.vm).vm ∧ (s.setVm T'.vm).vm.findClass own = some m.cls ∧ ∀ t, Steps p.tables e below (T'.setTop (mkF m (pc + 3) Ls (v.toList ++ rest))) t → Steps p.tables e below (T.setTop (mkF m pc Ls st)) t := by
  subst hst
  obtain ⟨_, _, ⟨T1, L1, k1, n1⟩, -, X1, S1, G1, ⟨Lc1, hQ1, l1, y1, z1⟩, st1⟩ := X.specialBackS hx hn hown (mvT hZ w1) (mvT hZ w2) (mvT hZ w5) hy (backOfS (W := W) hM hZ w5 w6 hroom.1 hroom.2.1) (g := mkF m pc Ls (argsL.reverse ++ .ref b :: rest)) rfl (hsz.trans hml.symm) (Steps.refl _) (a := b) (argsL := argsL) (rest := rest) hlen rfl (by show 2 * 0 + _ ≤ _; rw [Nat.mul_zero, Nat.zero_add]; exact Nat.le_of_eq hW) (hb hby hd) (fun _ _ => ⟨rfl, eT, hroom.2.2.1, hroom.2.2.2⟩)
  dsimp only [Pt.U, Pt.locs, Pt.cells, Pt.slots] at X1 S1 G1 l1 y1 z1 st1 hQ1
  subst l1 y1 z1
  obtain ⟨Y1, Y2, Y3, Y4⟩ := rebS (T := T1) hS (by rw [eT]; exact hk) X1 S1 G1 hZ hown
  exact ⟨_, _, _, Y1, hQ1, Y2, Y3, Y4, fun _ k => st1.trans k⟩
theorem ocallV (X : Stand p l e R s m args below meth c T locs cells slots) (hx : p.tables.exec = Jvm.exec) (hZ : Z.Warmed39 s.vm) {cb : ByteArray} {maxL : Nat} {ret : Option FieldType} {rm : Room} {Q : Option Value → Heap → List Loc → Prop} {argsL rest : List Value} {index : Nat} {own : String} {C : String} (y z : MethodName) (hown : s.vm.findClass own = some m.cls) (w1 : (Cond.methodLink own index y).before a0 Z = true) (w2 : (Cond.declares y).before a0 Z = true) (nf : NotFace s y) (w4 : (Cond.selects C y z).before a0 Z = true) (w3 : (Cond.instanceMethod z).before a0 Z = true) (hy : y.cls ≠ "java/lang/invoke/MethodHandle" ∧ y.cls ≠ "java/lang/invoke/VarHandle") (w5 : (Cond.code z cb maxL ret).before a0 Z = true) (w6 : (Cond.initialized z.cls).before a0 Z = true) (eT : T.heap = h) {b : Addr} (E : Exa Z h b C) (hM : MetFree l z (head1 [Cond.code z cb maxL ret] rm) (fun a U => a = (.ref b :: argsL).toArray ∧ Z.Warmed39 U.vm ∧ U.heap = h) (fun _ _ _ _ _ => True) (fun _ U o U' => ∃ v L, o = .returned v ∧ Q v U'.heap L ∧ FrameEnd U o U' L rm.cells rm.slots)) {st : List Value} (hst : st = argsL.reverse ++ .ref b :: rest) (W : Nat) (hW : (rest.map fun v => v.category).sum = W) (hroom : rm.frames + 1 ≤ R.frames ∧ W + (maxL + 11) + rm.locals ≤ R.locals ∧ cells + rm.cells ≤ R.cells ∧ slots + rm.slots ≤ R.slots) {pc : Nat} {Ls : Array Slot} {nl : Nat} (hml : c.maxLocals = nl) (hsz : Ls.size = nl) (hlen : ∀ sig, parseMethodDescriptor y.desc = some sig → argsL.length = sig.parameters.length) (hd : decode bytes pc = .ok (.invokevirtual index, 3)) (hby : c.code = bytes) : ∃ v T' L, Stand p l e R s m args below meth c T' (locs ++ L) (cells + rm.cells) (slots + rm.slots) ∧ Q v T'.heap L ∧ ∀ t, Steps p.tables e below (T'.setTop (mkF m (pc + 3) Ls (v.toList ++ rest))) t → Steps p.tables e below (T.setTop (mkF m pc Ls st)) t := by
  subst hst
  obtain ⟨cq, kq, qa, qb, qc⟩ := isOf hZ eT E
  obtain ⟨_, _, ⟨T1, L1, k1, n1⟩, -, X1, ⟨Lc1, hQ1, l1, y1, z1⟩, st1⟩ := X.virtualBack hx hown (mvT hZ w1) (mvT hZ w2) nf (mvT hZ w4) (mvT hZ w3) hy (backOf (W := W) hM hZ w5 w6 hroom.1 hroom.2.1) qa qc (g := mkF m pc Ls (argsL.reverse ++ .ref b :: rest)) rfl (hsz.trans hml.symm) (Steps.refl _) (argsL := argsL) (rest := rest) hlen rfl (by show 2 * 0 + _ ≤ _; rw [Nat.mul_zero, Nat.zero_add]; exact Nat.le_of_eq hW) (hb hby hd) (fun _ _ => ⟨rfl, eT, hroom.2.2.1, hroom.2.2.2⟩)
  dsimp only [Pt.U, Pt.locs, Pt.cells, Pt.slots] at X1 l1 y1 z1 st1 hQ1
  subst l1 y1 z1
  exact ⟨_, _, _, X1, hQ1, fun _ k => st1.trans k⟩
end OwnCalls
end Jvm.RoadKit
namespace Jvm.Pilot.@@N@@
open Jvm Jvm.ClassFile Sem Op Lib Jvm.Free Jvm.Stand Jvm.LawKit Jvm.RoadKit Bundle Jvm.Pilot.@@N@@.Jvm.D
theorem ww {Z : State} {a0 : Array Value} (hw : ∀ d ∈ tables_1, d.before a0 Z = true) (i : Nat) {d : Jvm.Cond} (h : tables_1[i]? = some d) : d.before a0 Z = true := hw d (List.mem_of_getElem? h)
theorem own_wS {Z : State} {a0 : Array Value} (hw : ∀ d ∈ tables_1, d.before a0 Z = true) : ∀ a ∈ Bundle.stringAtoms, a.before a0 Z = true := by
  intro a ha
  simp only [Bundle.stringAtoms, List.mem_cons, List.not_mem_nil, or_false] at ha
  rcases ha with rfl | rfl | rfl | rfl | rfl | rfl | rfl
  · exact (ww hw 11 rfl)
  · exact (ww hw 12 rfl)
  · exact (ww hw 13 rfl)
  · exact (ww hw 14 rfl)
  · exact (ww hw 15 rfl)
  · exact (ww hw 16 rfl)
  · exact (ww hw 17 rfl)
def QLaw (n0 : Nat) (v : Option Value) (h : Heap) (L : List Loc) : Prop := v = some (.int (1 : Int32)) ∧ Fr n0 L

theorem own_r4 (t : Int32) (h0 : 0 ≤ t.toInt) (h1 : t.toInt < 4) : t = (0 : Int32) ∨ t = (1 : Int32) ∨ t = (2 : Int32) ∨ t = (3 : Int32) := by
  have h : t.toInt = 0 ∨ t.toInt = 1 ∨ t.toInt = 2 ∨ t.toInt = 3 := by omega
  rcases h with h | h | h | h <;> simp [← Int32.toInt_inj, h]
theorem own_s4 (x : Int32) : x &&& (3 : Int32) = (0 : Int32) ∨ x &&& (3 : Int32) = (1 : Int32) ∨ x &&& (3 : Int32) = (2 : Int32) ∨ x &&& (3 : Int32) = (3 : Int32) := own_r4 _ (c_and x 3 (by decide)).1 (by have h := (c_and x 3 (by decide)).2; have e : (3 : Int32).toInt = 3 := (by decide); omega)
abbrev lc0 (x0 x1 x2 : Int32) : Array Slot := #[.val (.int x0), .val (.int x1), .val (.int x2), .unset, .unset, .unset, .unset, .unset, .unset, .unset, .unset]
abbrev lc1 (x0 x1 x2 x3 : Int32) : Array Slot := #[.val (.int x0), .val (.int x1), .val (.int x2), .val (.int x3), .unset, .unset, .unset, .unset, .unset, .unset, .unset]
abbrev lc2 (x0 x1 x2 x3 x4 : Int32) : Array Slot := #[.val (.int x0), .val (.int x1), .val (.int x2), .val (.int x3), .val (.int x4), .unset, .unset, .unset, .unset, .unset, .unset]
abbrev lc3 (x0 x1 x2 x3 x4 x5 : Int32) : Array Slot := #[.val (.int x0), .val (.int x1), .val (.int x2), .val (.int x3), .val (.int x4), .val (.int x5), .unset, .unset, .unset, .unset, .unset]
theorem d1_0 : decode prog_22_method_1_code 0 = .ok (.aload_n 0, 1) := by decide +kernel
theorem d1_1 : decode prog_22_method_1_code 1 = .ok (.iload_n 1, 1) := by decide +kernel
theorem d1_2 : decode prog_22_method_1_code 2 = .ok (.invokestatic 1, 3) := by decide +kernel
abbrev lc4 (x0 : Addr) (x1 : Int32) : Array Slot := #[.val (.ref x0), .val (.int x1)]
theorem d2_0 : decode prog_22_method_12_code 0 = .ok (.iload_n 0, 1) := by decide +kernel
theorem d2_1 : decode prog_22_method_12_code 1 = .ok (.iconst 1, 1) := by decide +kernel
theorem d2_2 : decode prog_22_method_12_code 2 = .ok (.if_icmp .ge 17, 3) := by decide +kernel
abbrev lc5 (x0 : Int32) : Array Slot := #[.val (.int x0)]
theorem d2_19 : decode prog_22_method_12_code 19 = .ok (.iload_n 0, 1) := by decide +kernel
theorem d2_20 : decode prog_22_method_12_code 20 = .ok (.ireturn, 1) := by decide +kernel
theorem ef_0 (m : MethodId) (x0 : Int32) : entryFrame m #[(.int x0)] 1 = mkF m 0 #[.val (.int x0)] [] := by first | (simp [entryFrame, mkF, argsToLocals, Value.category, maxLocals]; done) | rfl
theorem pn_0 : plainName "com/example/strict_ledger/strictledger/RetryPolicy" = true := by first | (simp [plainName, overriddenIn]; done) | decide +kernel
theorem pd_0 : parseMethodDescriptor "(I)I" = some ⟨[.int], some .int⟩ := by decide +kernel
theorem d1_5 : decode prog_22_method_1_code 5 = .ok (.ldc 7, 2) := by decide +kernel
theorem d1_7 : decode prog_22_method_1_code 7 = .ok (.iconst 1, 1) := by decide +kernel
theorem d1_8 : decode prog_22_method_1_code 8 = .ok (.invokestatic 9, 3) := by decide +kernel
theorem d3_0 : decode jdk_2055_method_5_code 0 = .ok (.iload_n 0, 1) := by decide +kernel
theorem d3_1 : decode jdk_2055_method_5_code 1 = .ok (.ifCond .eq 9, 3) := by decide +kernel
theorem d3_4 : decode jdk_2055_method_5_code 4 = .ok (.getstatic 27, 3) := by decide +kernel
theorem d3_7 : decode jdk_2055_method_5_code 7 = .ok (.goto 6, 3) := by decide +kernel
theorem d3_13 : decode jdk_2055_method_5_code 13 = .ok (.areturn, 1) := by decide +kernel
theorem pn_1 : plainName "java/lang/Boolean" = true := by first | (simp [plainName, overriddenIn]; done) | decide +kernel
theorem pd_1 : parseMethodDescriptor "(Z)Ljava/lang/Boolean;" = some ⟨[.boolean], some (.object "java/lang/Boolean")⟩ := by decide +kernel
theorem d1_11 : decode prog_22_method_1_code 11 = .ok (.invokestatic 15, 3) := by decide +kernel
theorem d4_0 : decode jdk_72_method_27_code 0 = .ok (.new 87, 3) := by decide +kernel
abbrev lc6 (x0 x1 : Addr) : Array Slot := #[.val (.ref x0), .val (.ref x1)]
theorem d4_3 : decode jdk_72_method_27_code 3 = .ok (.dup, 1) := by decide +kernel
theorem d4_4 : decode jdk_72_method_27_code 4 = .ok (.aload_n 0, 1) := by decide +kernel
theorem d4_5 : decode jdk_72_method_27_code 5 = .ok (.aload_n 1, 1) := by decide +kernel
theorem d4_6 : decode jdk_72_method_27_code 6 = .ok (.invokespecial 89, 3) := by decide +kernel
theorem d5_0 : decode jdk_2604_method_1_code 0 = .ok (.aload_n 0, 1) := by decide +kernel
theorem d5_1 : decode jdk_2604_method_1_code 1 = .ok (.invokespecial 1, 3) := by decide +kernel
abbrev lc7 (x0 x1 x2 : Addr) : Array Slot := #[.val (.ref x0), .val (.ref x1), .val (.ref x2)]
theorem d6_0 : decode jdk_2602_method_1_code 0 = .ok (.aload_n 0, 1) := by decide +kernel
theorem d6_1 : decode jdk_2602_method_1_code 1 = .ok (.invokespecial 1, 3) := by decide +kernel
abbrev lc8 (x0 : Addr) : Array Slot := #[.val (.ref x0)]
theorem d7_0 : decode jdk_71_method_1_code 0 = .ok (.aload_n 0, 1) := by decide +kernel
theorem d7_1 : decode jdk_71_method_1_code 1 = .ok (.invokespecial 1, 3) := by decide +kernel
theorem d7_4 : decode jdk_71_method_1_code 4 = .ok (.return_, 1) := by decide +kernel
theorem ef_1 (m : MethodId) (x0 : Addr) : entryFrame m #[(.ref x0)] 1 = mkF m 0 #[.val (.ref x0)] [] := by first | (simp [entryFrame, mkF, argsToLocals, Value.category, maxLocals]; done) | rfl
theorem pn_2 : plainName "java/util/AbstractMap" = true := by first | (simp [plainName, overriddenIn]; done) | decide +kernel
theorem pd_2 : parseMethodDescriptor "()V" = some ⟨[], none⟩ := by decide +kernel
theorem d6_4 : decode jdk_2602_method_1_code 4 = .ok (.return_, 1) := by decide +kernel
theorem pn_3 : plainName "java/util/ImmutableCollections$AbstractImmutableMap" = true := by first | (simp [plainName, overriddenIn]; done) | decide +kernel
theorem d5_4 : decode jdk_2604_method_1_code 4 = .ok (.aload_n 0, 1) := by decide +kernel
theorem d5_5 : decode jdk_2604_method_1_code 5 = .ok (.aload_n 1, 1) := by decide +kernel
theorem d5_6 : decode jdk_2604_method_1_code 6 = .ok (.invokestatic 7, 3) := by decide +kernel
theorem d9_0 : decode jdk_31_method_10_code 0 = .ok (.aload_n 0, 1) := by decide +kernel
theorem d9_1 : decode jdk_31_method_10_code 1 = .ok (.ifnonnull 11, 3) := by decide +kernel
theorem d9_12 : decode jdk_31_method_10_code 12 = .ok (.aload_n 0, 1) := by decide +kernel
theorem d9_13 : decode jdk_31_method_10_code 13 = .ok (.areturn, 1) := by decide +kernel
theorem pn_4 : plainName "java/util/Objects" = true := by first | (simp [plainName, overriddenIn]; done) | decide +kernel
theorem pd_3 : parseMethodDescriptor "(Ljava/lang/Object;)Ljava/lang/Object;" = some ⟨[(.object "java/lang/Object")], some (.object "java/lang/Object")⟩ := by decide +kernel
theorem d5_9 : decode jdk_2604_method_1_code 9 = .ok (.putfield 13, 3) := by decide +kernel
theorem d5_12 : decode jdk_2604_method_1_code 12 = .ok (.aload_n 0, 1) := by decide +kernel
theorem d5_13 : decode jdk_2604_method_1_code 13 = .ok (.aload_n 2, 1) := by decide +kernel
theorem d5_14 : decode jdk_2604_method_1_code 14 = .ok (.invokestatic 7, 3) := by decide +kernel
theorem d5_17 : decode jdk_2604_method_1_code 17 = .ok (.putfield 19, 3) := by decide +kernel
theorem d5_20 : decode jdk_2604_method_1_code 20 = .ok (.return_, 1) := by decide +kernel
theorem ef_2 (m : MethodId) (x0 x1 x2 : Addr) : entryFrame m #[(.ref x0), (.ref x1), (.ref x2)] 3 = mkF m 0 #[.val (.ref x0), .val (.ref x1), .val (.ref x2)] [] := by first | (simp [entryFrame, mkF, argsToLocals, Value.category, maxLocals]; done) | rfl
theorem pn_5 : plainName "java/util/ImmutableCollections$Map1" = true := by first | (simp [plainName, overriddenIn]; done) | decide +kernel
theorem pd_4 : parseMethodDescriptor "(Ljava/lang/Object;Ljava/lang/Object;)V" = some ⟨[(.object "java/lang/Object"), (.object "java/lang/Object")], none⟩ := by decide +kernel
theorem d4_9 : decode jdk_72_method_27_code 9 = .ok (.areturn, 1) := by decide +kernel
theorem ef_3 (m : MethodId) (x0 x1 : Addr) : entryFrame m #[(.ref x0), (.ref x1)] 2 = mkF m 0 #[.val (.ref x0), .val (.ref x1)] [] := by first | (simp [entryFrame, mkF, argsToLocals, Value.category, maxLocals]; done) | rfl
theorem pn_6 : plainName "java/util/Map" = true := by first | (simp [plainName, overriddenIn]; done) | decide +kernel
theorem pd_5 : parseMethodDescriptor "(Ljava/lang/Object;Ljava/lang/Object;)Ljava/util/Map;" = some ⟨[(.object "java/lang/Object"), (.object "java/lang/Object")], some (.object "java/util/Map")⟩ := by decide +kernel
theorem d1_14 : decode prog_22_method_1_code 14 = .ok (.invokestatic 21, 3) := by decide +kernel
theorem d10_0 : decode jdk_40_method_36_code 0 = .ok (.getstatic 90, 3) := by decide +kernel
abbrev lc9  : Array Slot := #[]
theorem d10_3 : decode jdk_40_method_36_code 3 = .ok (.areturn, 1) := by decide +kernel
theorem ef_4 (m : MethodId)  : entryFrame m #[] 0 = mkF m 0 #[] [] := by first | (simp [entryFrame, mkF, argsToLocals, Value.category, maxLocals]; done) | rfl
theorem pn_7 : plainName "java/util/List" = true := by first | (simp [plainName, overriddenIn]; done) | decide +kernel
theorem pd_6 : parseMethodDescriptor "()Ljava/util/List;" = some ⟨[], some (.object "java/util/List")⟩ := by decide +kernel
theorem d1_17 : decode prog_22_method_1_code 17 = .ok (.invokespecial 26, 3) := by decide +kernel
theorem d11_0 : decode prog_22_method_2_code 0 = .ok (.aload_n 0, 1) := by decide +kernel
theorem d11_1 : decode prog_22_method_2_code 1 = .ok (.invokespecial 30, 3) := by decide +kernel
abbrev lc10 (x0 : Addr) (x1 : Int32) (x2 x3 : Addr) : Array Slot := #[.val (.ref x0), .val (.int x1), .val (.ref x2), .val (.ref x3)]
theorem d11_4 : decode prog_22_method_2_code 4 = .ok (.aload_n 0, 1) := by decide +kernel
theorem d11_5 : decode prog_22_method_2_code 5 = .ok (.iload_n 1, 1) := by decide +kernel
theorem d11_6 : decode prog_22_method_2_code 6 = .ok (.putfield 35, 3) := by decide +kernel
theorem d11_9 : decode prog_22_method_2_code 9 = .ok (.aload_n 0, 1) := by decide +kernel
theorem d11_10 : decode prog_22_method_2_code 10 = .ok (.aload_n 2, 1) := by decide +kernel
theorem d11_11 : decode prog_22_method_2_code 11 = .ok (.invokestatic 39, 3) := by decide +kernel
theorem d12_0 : decode jdk_72_method_39_code 0 = .ok (.aload_n 0, 1) := by decide +kernel
theorem d12_1 : decode jdk_72_method_39_code 1 = .ok (.instanceof 101, 3) := by decide +kernel
theorem d12_4 : decode jdk_72_method_39_code 4 = .ok (.ifCond .eq 5, 3) := by decide +kernel
theorem d12_7 : decode jdk_72_method_39_code 7 = .ok (.aload_n 0, 1) := by decide +kernel
theorem d12_8 : decode jdk_72_method_39_code 8 = .ok (.areturn, 1) := by decide +kernel
theorem pd_7 : parseMethodDescriptor "(Ljava/util/Map;)Ljava/util/Map;" = some ⟨[(.object "java/util/Map")], some (.object "java/util/Map")⟩ := by decide +kernel
theorem d11_14 : decode prog_22_method_2_code 14 = .ok (.putfield 43, 3) := by decide +kernel
theorem d11_17 : decode prog_22_method_2_code 17 = .ok (.aload_n 0, 1) := by decide +kernel
theorem d11_18 : decode prog_22_method_2_code 18 = .ok (.aload_n 3, 1) := by decide +kernel
theorem d11_19 : decode prog_22_method_2_code 19 = .ok (.invokestatic 47, 3) := by decide +kernel
theorem d13_0 : decode jdk_40_method_48_code 0 = .ok (.aload_n 0, 1) := by decide +kernel
theorem d13_1 : decode jdk_40_method_48_code 1 = .ok (.invokestatic 112, 3) := by decide +kernel
theorem d14_0 : decode jdk_56_method_3_code 0 = .ok (.aload_n 0, 1) := by decide +kernel
theorem d14_1 : decode jdk_56_method_3_code 1 = .ok (.instanceof 10, 3) := by decide +kernel
abbrev lc11 (x0 : Addr) : Array Slot := #[.val (.ref x0), .unset]
theorem d14_4 : decode jdk_56_method_3_code 4 = .ok (.ifCond .ne 22, 3) := by decide +kernel
theorem d14_26 : decode jdk_56_method_3_code 26 = .ok (.aload_n 0, 1) := by decide +kernel
theorem d14_27 : decode jdk_56_method_3_code 27 = .ok (.checkcast 18, 3) := by decide +kernel
theorem d14_30 : decode jdk_56_method_3_code 30 = .ok (.areturn, 1) := by decide +kernel
theorem d14_7 : decode jdk_56_method_3_code 7 = .ok (.aload_n 0, 1) := by decide +kernel
theorem d14_8 : decode jdk_56_method_3_code 8 = .ok (.instanceof 12, 3) := by decide +kernel
theorem d14_11 : decode jdk_56_method_3_code 11 = .ok (.ifCond .eq 20, 3) := by decide +kernel
theorem d14_14 : decode jdk_56_method_3_code 14 = .ok (.aload_n 0, 1) := by decide +kernel
theorem d14_15 : decode jdk_56_method_3_code 15 = .ok (.checkcast 12, 3) := by decide +kernel
theorem d14_18 : decode jdk_56_method_3_code 18 = .ok (.astore_n 1, 1) := by decide +kernel
theorem d14_19 : decode jdk_56_method_3_code 19 = .ok (.aload_n 1, 1) := by decide +kernel
theorem d14_20 : decode jdk_56_method_3_code 20 = .ok (.getfield 14, 3) := by decide +kernel
theorem d14_23 : decode jdk_56_method_3_code 23 = .ok (.ifCond .ne 8, 3) := by decide +kernel
theorem ef_5 (m : MethodId) (x0 : Addr) : entryFrame m #[(.ref x0)] 2 = mkF m 0 #[.val (.ref x0), .unset] [] := by first | (simp [entryFrame, mkF, argsToLocals, Value.category, maxLocals]; done) | rfl
theorem pn_8 : plainName "java/util/ImmutableCollections" = true := by first | (simp [plainName, overriddenIn]; done) | decide +kernel
theorem pd_8 : parseMethodDescriptor "(Ljava/util/Collection;)Ljava/util/List;" = some ⟨[(.object "java/util/Collection")], some (.object "java/util/List")⟩ := by decide +kernel
theorem d13_4 : decode jdk_40_method_48_code 4 = .ok (.areturn, 1) := by decide +kernel
theorem d11_22 : decode prog_22_method_2_code 22 = .ok (.putfield 50, 3) := by decide +kernel
theorem d11_25 : decode prog_22_method_2_code 25 = .ok (.return_, 1) := by decide +kernel
theorem ef_6 (m : MethodId) (x0 : Addr) (x1 : Int32) (x2 x3 : Addr) : entryFrame m #[(.ref x0), (.int x1), (.ref x2), (.ref x3)] 4 = mkF m 0 #[.val (.ref x0), .val (.int x1), .val (.ref x2), .val (.ref x3)] [] := by first | (simp [entryFrame, mkF, argsToLocals, Value.category, maxLocals]; done) | rfl
theorem pd_9 : parseMethodDescriptor "(ILjava/util/Map;Ljava/util/List;)V" = some ⟨[.int, (.object "java/util/Map"), (.object "java/util/List")], none⟩ := by decide +kernel
theorem d1_20 : decode prog_22_method_1_code 20 = .ok (.return_, 1) := by decide +kernel
theorem ef_7 (m : MethodId) (x0 : Addr) (x1 : Int32) : entryFrame m #[(.ref x0), (.int x1)] 2 = mkF m 0 #[.val (.ref x0), .val (.int x1)] [] := by first | (simp [entryFrame, mkF, argsToLocals, Value.category, maxLocals]; done) | rfl
theorem pd_10 : parseMethodDescriptor "(I)V" = some ⟨[.int], none⟩ := by decide +kernel
abbrev lc12 (x0 x1 x2 x3 x4 x5 : Int32) (x6 : Addr) : Array Slot := #[.val (.int x0), .val (.int x1), .val (.int x2), .val (.int x3), .val (.int x4), .val (.int x5), .val (.ref x6), .unset, .unset, .unset, .unset]
theorem d15_0 : decode prog_22_method_7_code 0 = .ok (.iload_n 1, 1) := by decide +kernel
theorem d15_1 : decode prog_22_method_7_code 1 = .ok (.aload_n 0, 1) := by decide +kernel
theorem d15_2 : decode prog_22_method_7_code 2 = .ok (.getfield 35, 3) := by decide +kernel
theorem d15_5 : decode prog_22_method_7_code 5 = .ok (.if_icmp .ge 7, 3) := by decide +kernel
theorem d15_8 : decode prog_22_method_7_code 8 = .ok (.iconst 1, 1) := by decide +kernel
theorem d15_9 : decode prog_22_method_7_code 9 = .ok (.goto 4, 3) := by decide +kernel
theorem d15_13 : decode prog_22_method_7_code 13 = .ok (.ireturn, 1) := by decide +kernel
theorem pd_11 : parseMethodDescriptor "(I)Z" = some ⟨[.int], some .boolean⟩ := by decide +kernel
abbrev lc13 (x0 x1 x2 x3 x4 x5 : Int32) (x6 : Addr) (x7 : Int32) : Array Slot := #[.val (.int x0), .val (.int x1), .val (.int x2), .val (.int x3), .val (.int x4), .val (.int x5), .val (.ref x6), .val (.int x7), .unset, .unset, .unset]
abbrev lc14 (x0 x1 x2 x3 x4 x5 : Int32) (x6 : Addr) (x7 x8 : Int32) : Array Slot := #[.val (.int x0), .val (.int x1), .val (.int x2), .val (.int x3), .val (.int x4), .val (.int x5), .val (.ref x6), .val (.int x7), .val (.int x8), .unset, .unset]
abbrev lc15 (x0 x1 x2 x3 x4 x5 : Int32) (x6 : Addr) (x7 x8 x9 : Int32) : Array Slot := #[.val (.int x0), .val (.int x1), .val (.int x2), .val (.int x3), .val (.int x4), .val (.int x5), .val (.ref x6), .val (.int x7), .val (.int x8), .val (.int x9), .unset]
theorem d15_12 : decode prog_22_method_7_code 12 = .ok (.iconst 0, 1) := by decide +kernel
abbrev lc16 (x0 x1 x2 x3 x4 x5 : Int32) (x6 : Addr) (x7 x8 x9 x10 : Int32) : Array Slot := #[.val (.int x0), .val (.int x1), .val (.int x2), .val (.int x3), .val (.int x4), .val (.int x5), .val (.ref x6), .val (.int x7), .val (.int x8), .val (.int x9), .val (.int x10)]
theorem d16_0 : decode prog_22_method_6_code 0 = .ok (.aload_n 0, 1) := by decide +kernel
theorem d16_1 : decode prog_22_method_6_code 1 = .ok (.getfield 35, 3) := by decide +kernel
theorem d16_4 : decode prog_22_method_6_code 4 = .ok (.ireturn, 1) := by decide +kernel
theorem pd_12 : parseMethodDescriptor "()I" = some ⟨[], some .int⟩ := by decide +kernel
theorem ef_8 (m : MethodId) (x0 x1 x2 : Int32) : entryFrame m #[(.int x0), (.int x1), (.int x2)] maxLocals = mkF m 0 #[.val (.int x0), .val (.int x1), .val (.int x2), .unset, .unset, .unset, .unset, .unset, .unset, .unset, .unset] [] := by first | (simp [entryFrame, mkF, argsToLocals, Value.category, maxLocals]; done) | rfl
theorem pn_9 : plainName "com/example/strict_ledger/strictledger/RetryPolicyAllowsAttemptAfterPinLaw" = true := by first | (simp [plainName, overriddenIn]; done) | decide +kernel
abbrev zs0 : String := "com/example/strict_ledger/strictledger/RetryPolicy"
abbrev zs1 : String := "checkedBudget"
abbrev zs2 : String := "java/lang/Boolean"
abbrev zs3 : String := "Ljava/lang/Boolean;"
abbrev zs4 : String := "(Z)Ljava/lang/Boolean;"
abbrev zs5 : String := "java/util/AbstractMap"
abbrev zs6 : String := "java/util/ImmutableCollections$AbstractImmutableMap"
abbrev zs7 : String := "java/util/Objects"
abbrev zs8 : String := "requireNonNull"
abbrev zs9 : String := "(Ljava/lang/Object;)Ljava/lang/Object;"
abbrev zs10 : String := "java/lang/Object"
abbrev zs11 : String := "java/util/ImmutableCollections$Map1"
abbrev zs12 : String := "Ljava/lang/Object;"
abbrev zs13 : String := "(Ljava/lang/Object;Ljava/lang/Object;)V"
abbrev zs14 : String := "java/util/Map"
abbrev zs15 : String := "(Ljava/lang/Object;Ljava/lang/Object;)Ljava/util/Map;"
abbrev zs16 : String := "java/util/ImmutableCollections"
abbrev zs17 : String := "EMPTY_LIST"
abbrev zs18 : String := "Ljava/util/ImmutableCollections$ListN;"
abbrev zs19 : String := "java/util/List"
abbrev zs20 : String := "()Ljava/util/List;"
abbrev zs21 : String := "(Ljava/util/Map;)Ljava/util/Map;"
abbrev zs22 : String := "java/util/ImmutableCollections$ListN"
abbrev zs23 : String := "java/util/ImmutableCollections$List12"
abbrev zs24 : String := "listCopy"
abbrev zs25 : String := "(Ljava/util/Collection;)Ljava/util/List;"
abbrev zs26 : String := "allowNulls"
abbrev zs27 : String := "Ljava/util/Map;"
abbrev zs28 : String := "Ljava/util/List;"
abbrev zs29 : String := "(ILjava/util/Map;Ljava/util/List;)V"
abbrev zs30 : String := "allowsAttemptAfter"
abbrev zs31 : String := "getBudget"
abbrev zs32 : String := "com/example/strict_ledger/strictledger/RetryPolicyAllowsAttemptAfterPinLaw"
abbrev zm0 : MethodName := (⟨zs0, zs1, "(I)I"⟩ : MethodName)
abbrev zm1 : MethodName := (⟨zs2, "valueOf", zs4⟩ : MethodName)
abbrev zm2 : MethodName := (⟨zs5, "<init>", "()V"⟩ : MethodName)
abbrev zm3 : MethodName := (⟨zs6, "<init>", "()V"⟩ : MethodName)
abbrev zm4 : MethodName := (⟨zs7, zs8, zs9⟩ : MethodName)
abbrev zm5 : MethodName := (⟨zs11, "<init>", zs13⟩ : MethodName)
abbrev zm6 : MethodName := (⟨zs14, "of", zs15⟩ : MethodName)
abbrev zm7 : MethodName := (⟨zs19, "of", zs20⟩ : MethodName)
abbrev zm8 : MethodName := (⟨zs14, "copyOf", zs21⟩ : MethodName)
abbrev zm9 : MethodName := (⟨zs16, zs24, zs25⟩ : MethodName)
abbrev zm10 : MethodName := (⟨zs19, "copyOf", zs25⟩ : MethodName)
abbrev zm11 : MethodName := (⟨zs0, "<init>", zs29⟩ : MethodName)
abbrev zm12 : MethodName := (⟨zs0, "<init>", "(I)V"⟩ : MethodName)
abbrev zm13 : MethodName := (⟨zs0, zs30, "(I)Z"⟩ : MethodName)
abbrev zm14 : MethodName := (⟨zs0, zs31, "()I"⟩ : MethodName)
def Q2_0 (Z : State)  (h0 : Heap) (n0 : Nat) (v : Option Value) (h : Heap) (L : List Loc) : Prop := v = some (.int 1) ∧ Fr n0 L ∧ h = h0
set_option maxRecDepth 65536 in
set_option maxHeartbeats 40000000 in
theorem rm2_0 (l : Launch) (Z : State) (a0 : Array Value) (hw : ∀ d ∈ tables_1, d.before a0 Z = true) (ws : List Jvm.Cond)  (h0 : Heap) (n0 : Nat) (Z0 : n0 ≤ h0.size) :
    MetFree l zm0 (head1 (Jvm.Cond.code zm0 prog_22_method_12_code 1 (some .int) :: ws) ({ frames := 0, cells := 0, slots := 0, locals := 0 } : Room)) (fun a U => a = #[(.int 1)] ∧ Z.Warmed39 U.vm ∧ U.heap = h0) (fun _ _ _ _ _ => True) (fun _ U o U' => ∃ v L, o = .returned v ∧ Q2_0 Z  h0 n0 v U'.heap L ∧ FrameEnd U o U' L ({ frames := 0, cells := 0, slots := 0, locals := 0 } : Room).cells ({ frames := 0, cells := 0, slots := 0, locals := 0 } : Room).slots) := by
  refine MetFree.of_bodySF (plainFor_of_name pn_0) hisR ?_
  intro p e s m args below meth c s₁ Bd hml0 hP hK
  obtain ⟨rfl, hZ, hh⟩ := hP
  have hx := Bd.exec
  have hby := Bd.bytes
  have hml : c.maxLocals = 1 := hml0
  have hown : s.vm.findClass zs0 = some m.cls := findClass_of_methodNamed Bd.named
  have hnm := (name_of_methodNamed Bd.named Bd.method).1
  have X0 : Stand p l e ({ frames := 0, cells := 0, slots := 0, locals := 0 } : Room) s m #[(.int 1)] below meth c s₁ [] 0 0 := Stand.of_body Bd
  have e0 : s₁.heap = h0 := by rw [← hh, Bd.state]; rfl
  have N0 := Fr.nil n0
  refine own_pre (g' := mkF m 0 (lc5 1) []) (ef_0 m (1 : Int32)) ?_
  refine own_go (U' := s₁.setTop (mkF m 2 (lc5 1) [(.int 1), (.int 1)])) (fun t k => oiloadN X0 hx hby d2_0 rfl (oiconst X0 hx hby d2_1 k)) ?_
  refine own_go (U' := s₁.setTop (mkF m 20 (lc5 1) [(.int 1)])) (fun t k => oicY (pc := 2) X0 hx hby d2_2 19 (by decide) (by decide) (oiloadN X0 hx hby d2_19 rfl k)) ?_
  obtain ⟨fs, hr, hrun, hended, hW, hsame⟩ := X0.leave (v := some (.int 1)) (fun h => by rw [Bd.returns] at h; cases h)
  refine own_out ⟨_, _, ?_, hrun, hended, _, _, rfl, ?_, ⟨_, rfl⟩, hW, hsame.mono (by decide) (by decide)⟩
  · exact retI X0 hx Bd.returns (hb hby d2_20) hr
  · show Q2_0 Z  h0 n0 _ s₁.heap _
    rw [e0]
    exact ⟨rfl, N0, rfl⟩
def Q3_1 (Z : State) (a1 : Addr) (h0 : Heap) (n0 : Nat) (v : Option Value) (h : Heap) (L : List Loc) : Prop := v = some (.ref a1) ∧ Fr n0 L ∧ h = h0
set_option maxRecDepth 65536 in
set_option maxHeartbeats 40000000 in
theorem rm3_1 (l : Launch) (Z : State) (a0 : Array Value) (hw : ∀ d ∈ tables_1, d.before a0 Z = true) (ws : List Jvm.Cond) (a1 : Addr) (h0 : Heap) (n0 : Nat) (Z0 : n0 ≤ h0.size) (F2 : Sta Z h0 zs2 "TRUE" zs3 (.ref a1)) :
    MetFree l zm1 (head1 (Jvm.Cond.code zm1 jdk_2055_method_5_code 1 (some (.object zs2)) :: ws) ({ frames := 0, cells := 0, slots := 0, locals := 0 } : Room)) (fun a U => a = #[(.int 1)] ∧ Z.Warmed39 U.vm ∧ U.heap = h0) (fun _ _ _ _ _ => True) (fun _ U o U' => ∃ v L, o = .returned v ∧ Q3_1 Z a1 h0 n0 v U'.heap L ∧ FrameEnd U o U' L ({ frames := 0, cells := 0, slots := 0, locals := 0 } : Room).cells ({ frames := 0, cells := 0, slots := 0, locals := 0 } : Room).slots) := by
  refine MetFree.of_bodySF (plainFor_of_name pn_1) hisR ?_
  intro p e s m args below meth c s₁ Bd hml0 hP hK
  obtain ⟨rfl, hZ, hh⟩ := hP
  have hx := Bd.exec
  have hby := Bd.bytes
  have hml : c.maxLocals = 1 := hml0
  have hown : s.vm.findClass zs2 = some m.cls := findClass_of_methodNamed Bd.named
  have hnm := (name_of_methodNamed Bd.named Bd.method).1
  have X0 : Stand p l e ({ frames := 0, cells := 0, slots := 0, locals := 0 } : Room) s m #[(.int 1)] below meth c s₁ [] 0 0 := Stand.of_body Bd
  have e0 : s₁.heap = h0 := by rw [← hh, Bd.state]; rfl
  have N0 := Fr.nil n0
  refine own_pre (g' := mkF m 0 (lc5 1) []) (ef_0 m (1 : Int32)) ?_
  refine own_go (U' := s₁.setTop (mkF m 1 (lc5 1) [(.int 1)])) (fun t k => oiloadN X0 hx hby d3_0 rfl k) ?_
  obtain ⟨T3, X3, e3, st3⟩ := getS2 X0 hx hZ hown (host := "") (Or.inl (ww hw 22 rfl)) Via.refl e0 F2 (g := (mkF m 4 (lc5 1) [])) rfl (hb hby d3_4)
  refine own_go (U' := T3.setTop (mkF m 13 (lc5 1) [(.ref a1)])) (fun t k => oifN X0 hx hby d3_1 (by decide) (st3 _ (ogoto (pc := 7) X3 hx hby d3_7 13 (by decide) k))) ?_
  obtain ⟨fs, hr, hrun, hended, hW, hsame⟩ := X3.leave (v := some (.ref a1)) (fun h => by rw [Bd.returns] at h; cases h)
  refine own_out ⟨_, _, ?_, hrun, hended, _, _, rfl, ?_, ⟨_, rfl⟩, hW, hsame.mono (by decide) (by decide)⟩
  · exact retOut X3 hx Bd.returns rfl (Or.inr (Or.inr (Or.inr (Or.inr ⟨rfl, rfl, rfl⟩)))) (hb hby d3_13) hr
  · show Q3_1 Z a1 h0 n0 _ T3.heap _
    rw [e3]
    exact ⟨rfl, N0, rfl⟩
def Q7_2 (Z : State) (a1 : Addr) (h0 : Heap) (n0 : Nat) (v : Option Value) (h : Heap) (L : List Loc) : Prop := v = none ∧ Fr n0 L ∧ h = h0
set_option maxRecDepth 65536 in
set_option maxHeartbeats 40000000 in
theorem rm7_2 (l : Launch) (Z : State) (a0 : Array Value) (hw : ∀ d ∈ tables_1, d.before a0 Z = true) (ws : List Jvm.Cond) (a1 : Addr) (h0 : Heap) (n0 : Nat) (Z0 : n0 ≤ h0.size) :
    MetFree l zm2 (head1 (Jvm.Cond.code zm2 jdk_71_method_1_code 1 none :: ws) ({ frames := 1, cells := 0, slots := 0, locals := 12 } : Room)) (fun a U => a = #[(.ref a1)] ∧ Z.Warmed39 U.vm ∧ U.heap = h0) (fun _ _ _ _ _ => True) (fun _ U o U' => ∃ v L, o = .returned v ∧ Q7_2 Z a1 h0 n0 v U'.heap L ∧ FrameEnd U o U' L ({ frames := 1, cells := 0, slots := 0, locals := 12 } : Room).cells ({ frames := 1, cells := 0, slots := 0, locals := 12 } : Room).slots) := by
  refine MetFree.of_bodySF (plainFor_of_name pn_2) hisR ?_
  intro p e s m args below meth c s₁ Bd hml0 hP hK
  obtain ⟨rfl, hZ, hh⟩ := hP
  have hx := Bd.exec
  have hby := Bd.bytes
  have hml : c.maxLocals = 1 := hml0
  have hown : s.vm.findClass zs5 = some m.cls := findClass_of_methodNamed Bd.named
  have hnm := (name_of_methodNamed Bd.named Bd.method).1
  have X0 : Stand p l e ({ frames := 1, cells := 0, slots := 0, locals := 12 } : Room) s m #[(.ref a1)] below meth c s₁ [] 0 0 := Stand.of_body Bd
  have e0 : s₁.heap = h0 := by rw [← hh, Bd.state]; rfl
  have N0 := Fr.nil n0
  refine own_pre (g' := mkF m 0 (lc8 a1) []) (ef_1 m a1) ?_
  obtain ⟨T2, X2, e2, st2⟩ := initO X0 hx hZ hown (ww hw 46 rfl) (ww hw 47 rfl) (ww hw 48 rfl) e0 (g := (mkF m 1 (lc8 a1) [(.ref a1)])) rfl (by rw [hml]; rfl) rfl (hb hby d7_1) (by decide) (W := 0) (by show 2 * 0 + _ ≤ _; exact Nat.le_of_eq rfl) (by decide)
  refine own_go (U' := T2.setTop (mkF m 4 (lc8 a1) [])) (fun t k => oaloadN X0 hx hby d7_0 rfl rfl (st2 _ k)) ?_
  obtain ⟨fs, hr, hrun, hended, hW, hsame⟩ := X2.leave (v := none) (fun _ => rfl)
  refine own_out ⟨_, _, ?_, hrun, hended, _, _, rfl, ?_, ⟨_, rfl⟩, hW, hsame.mono (by decide) (by decide)⟩
  · exact X2.returnOut hx Bd.returns (hb hby d7_4) hr
  · show Q7_2 Z a1 h0 n0 _ T2.heap _
    rw [e2]
    exact ⟨rfl, N0, rfl⟩
def Q6_3 (Z : State) (a1 : Addr) (h0 : Heap) (n0 : Nat) (v : Option Value) (h : Heap) (L : List Loc) : Prop := v = none ∧ Fr n0 L ∧ h = h0
set_option maxRecDepth 65536 in
set_option maxHeartbeats 40000000 in
theorem rm6_3 (l : Launch) (Z : State) (a0 : Array Value) (hw : ∀ d ∈ tables_1, d.before a0 Z = true) (ws : List Jvm.Cond) (a1 : Addr) (h0 : Heap) (n0 : Nat) (Z0 : n0 ≤ h0.size) :
    MetFree l zm3 (head1 (Jvm.Cond.code zm3 jdk_2602_method_1_code 1 none :: ws) ({ frames := 2, cells := 0, slots := 0, locals := 24 } : Room)) (fun a U => a = #[(.ref a1)] ∧ Z.Warmed39 U.vm ∧ U.heap = h0) (fun _ _ _ _ _ => True) (fun _ U o U' => ∃ v L, o = .returned v ∧ Q6_3 Z a1 h0 n0 v U'.heap L ∧ FrameEnd U o U' L ({ frames := 2, cells := 0, slots := 0, locals := 24 } : Room).cells ({ frames := 2, cells := 0, slots := 0, locals := 24 } : Room).slots) := by
  refine MetFree.of_bodySF (plainFor_of_name pn_3) hisR ?_
  intro p e s m args below meth c s₁ Bd hml0 hP hK
  obtain ⟨rfl, hZ, hh⟩ := hP
  have hx := Bd.exec
  have hby := Bd.bytes
  have hml : c.maxLocals = 1 := hml0
  have hown : s.vm.findClass zs6 = some m.cls := findClass_of_methodNamed Bd.named
  have hnm := (name_of_methodNamed Bd.named Bd.method).1
  have X0 : Stand p l e ({ frames := 2, cells := 0, slots := 0, locals := 24 } : Room) s m #[(.ref a1)] below meth c s₁ [] 0 0 := Stand.of_body Bd
  have e0 : s₁.heap = h0 := by rw [← hh, Bd.state]; rfl
  have N0 := Fr.nil n0
  refine own_pre (g' := mkF m 0 (lc8 a1) []) (ef_1 m a1) ?_
  obtain ⟨_, T2, L2, X2, hQ2, st2⟩ := ocallI X0 hx hZ zm2 rfl hown (ww hw 40 rfl) (ww hw 41 rfl) (by decide) (ww hw 45 rfl) (ww hw 44 rfl) e0 (rm7_2 l Z a0 hw [] a1 h0 n0 Z0 ) (st := [(.ref a1)]) rfl 0 rfl (by decide) (pc := 1) (Ls := (lc8 a1)) hml rfl (lenOf pd_2 rfl) d6_1 hby
  obtain ⟨rfl, N2q, e2⟩ := hQ2
  have N3 := Fr.app N0 N2q
  refine own_go (U' := T2.setTop (mkF m 4 (lc8 a1) [])) (fun t k => oaloadN X0 hx hby d6_0 rfl rfl (st2 _ k)) ?_
  obtain ⟨fs, hr, hrun, hended, hW, hsame⟩ := X2.leave (v := none) (fun _ => rfl)
  refine own_out ⟨_, _, ?_, hrun, hended, _, _, rfl, ?_, ⟨_, rfl⟩, hW, hsame.mono (by decide) (by decide)⟩
  · exact X2.returnOut hx Bd.returns (hb hby d6_4) hr
  · show Q6_3 Z a1 h0 n0 _ T2.heap _
    rw [e2]
    exact ⟨rfl, N3, rfl⟩
def Q9_4 (Z : State) (a1 : Addr) (h0 : Heap) (n0 : Nat) (v : Option Value) (h : Heap) (L : List Loc) : Prop := v = some (.ref a1) ∧ Fr n0 L ∧ h = h0
set_option maxRecDepth 65536 in
set_option maxHeartbeats 40000000 in
theorem rm9_4 (l : Launch) (Z : State) (a0 : Array Value) (hw : ∀ d ∈ tables_1, d.before a0 Z = true) (ws : List Jvm.Cond) (a1 : Addr) (h0 : Heap) (n0 : Nat) (Z0 : n0 ≤ h0.size) :
    MetFree l zm4 (head1 (Jvm.Cond.code zm4 jdk_31_method_10_code 1 (some (.object zs10)) :: ws) ({ frames := 0, cells := 0, slots := 0, locals := 0 } : Room)) (fun a U => a = #[(.ref a1)] ∧ Z.Warmed39 U.vm ∧ U.heap = h0) (fun _ _ _ _ _ => True) (fun _ U o U' => ∃ v L, o = .returned v ∧ Q9_4 Z a1 h0 n0 v U'.heap L ∧ FrameEnd U o U' L ({ frames := 0, cells := 0, slots := 0, locals := 0 } : Room).cells ({ frames := 0, cells := 0, slots := 0, locals := 0 } : Room).slots) := by
  refine MetFree.of_bodySF (plainFor_of_name pn_4) hisR ?_
  intro p e s m args below meth c s₁ Bd hml0 hP hK
  obtain ⟨rfl, hZ, hh⟩ := hP
  have hx := Bd.exec
  have hby := Bd.bytes
  have hml : c.maxLocals = 1 := hml0
  have hown : s.vm.findClass zs7 = some m.cls := findClass_of_methodNamed Bd.named
  have hnm := (name_of_methodNamed Bd.named Bd.method).1
  have X0 : Stand p l e ({ frames := 0, cells := 0, slots := 0, locals := 0 } : Room) s m #[(.ref a1)] below meth c s₁ [] 0 0 := Stand.of_body Bd
  have e0 : s₁.heap = h0 := by rw [← hh, Bd.state]; rfl
  have N0 := Fr.nil n0
  refine own_pre (g' := mkF m 0 (lc8 a1) []) (ef_1 m a1) ?_
  refine own_go (U' := s₁.setTop (mkF m 13 (lc8 a1) [(.ref a1)])) (fun t k => oaloadN X0 hx hby d9_0 rfl rfl (onnY (pc := 1) X0 hx hby d9_1 12 (by decide) (oaloadN X0 hx hby d9_12 rfl rfl k))) ?_
  obtain ⟨fs, hr, hrun, hended, hW, hsame⟩ := X0.leave (v := some (.ref a1)) (fun h => by rw [Bd.returns] at h; cases h)
  refine own_out ⟨_, _, ?_, hrun, hended, _, _, rfl, ?_, ⟨_, rfl⟩, hW, hsame.mono (by decide) (by decide)⟩
  · exact retOut X0 hx Bd.returns rfl (Or.inr (Or.inr (Or.inr (Or.inr ⟨rfl, rfl, rfl⟩)))) (hb hby d9_13) hr
  · show Q9_4 Z a1 h0 n0 _ s₁.heap _
    rw [e0]
    exact ⟨rfl, N0, rfl⟩
def Q5_5 (Z : State) (a1 a2 a3 : Addr) (h0 : Heap) (n0 : Nat) (v : Option Value) (h : Heap) (L : List Loc) : Prop := v = none ∧ Fr n0 L ∧ Keep h0 h [a1] ∧ Fld Z h a1 zs11 "k0" zs12 (.ref a2) ∧ Fld Z h a1 zs11 "v0" zs12 (.ref a3)
set_option maxRecDepth 65536 in
set_option maxHeartbeats 40000000 in
theorem rm5_5 (l : Launch) (Z : State) (a0 : Array Value) (hw : ∀ d ∈ tables_1, d.before a0 Z = true) (ws : List Jvm.Cond) (a1 a2 a3 : Addr) (h0 : Heap) (n0 : Nat) (Z0 : n0 ≤ h0.size) (F8 : Fld Z h0 a1 zs11 "k0" zs12 .null) (F9 : Fld Z h0 a1 zs11 "v0" zs12 .null) (F10 : Exa Z h0 a1 zs11) (g12 : n0 ≤ a1) :
    MetFree l zm5 (head1 (Jvm.Cond.code zm5 jdk_2604_method_1_code 3 none :: ws) ({ frames := 3, cells := 0, slots := 0, locals := 36 } : Room)) (fun a U => a = #[(.ref a1), (.ref a2), (.ref a3)] ∧ Z.Warmed39 U.vm ∧ U.heap = h0) (fun _ _ _ _ _ => True) (fun _ U o U' => ∃ v L, o = .returned v ∧ Q5_5 Z a1 a2 a3 h0 n0 v U'.heap L ∧ FrameEnd U o U' L ({ frames := 3, cells := 0, slots := 0, locals := 36 } : Room).cells ({ frames := 3, cells := 0, slots := 0, locals := 36 } : Room).slots) := by
  refine MetFree.of_bodySF (plainFor_of_name pn_5) hisR ?_
  intro p e s m args below meth c s₁ Bd hml0 hP hK
  obtain ⟨rfl, hZ, hh⟩ := hP
  have hx := Bd.exec
  have hby := Bd.bytes
  have hml : c.maxLocals = 3 := hml0
  have hown : s.vm.findClass zs11 = some m.cls := findClass_of_methodNamed Bd.named
  have hnm := (name_of_methodNamed Bd.named Bd.method).1
  have X0 : Stand p l e ({ frames := 3, cells := 0, slots := 0, locals := 36 } : Room) s m #[(.ref a1), (.ref a2), (.ref a3)] below meth c s₁ [] 0 0 := Stand.of_body Bd
  have e0 : s₁.heap = h0 := by rw [← hh, Bd.state]; rfl
  have N0 := Fr.nil n0
  refine own_pre (g' := mkF m 0 (lc7 a1 a2 a3) []) (ef_2 m a1 a2 a3) ?_
  obtain ⟨_, T4, L4, X4, hQ4, st4⟩ := ocallI X0 hx hZ zm3 rfl hown (ww hw 34 rfl) (ww hw 35 rfl) (by decide) (ww hw 39 rfl) (ww hw 38 rfl) e0 (rm6_3 l Z a0 hw [] a1 h0 n0 Z0 ) (st := [(.ref a1)]) rfl 0 rfl (by decide) (pc := 1) (Ls := (lc7 a1 a2 a3)) hml rfl (lenOf pd_2 rfl) d5_1 hby
  obtain ⟨rfl, N4q, e4⟩ := hQ4
  have N5 := Fr.app N0 N4q
  obtain ⟨_, T6, L6, X6, hQ6, st6⟩ := ocallS X4 hx hZ zm4 hown (ww hw 49 rfl) (ww hw 50 rfl) (by decide) (ww hw 52 rfl) (ww hw 51 rfl) e4 (rm9_4 l Z a0 hw [] a2 h0 n0 Z0 ) (st := [(.ref a2), (.ref a1)]) rfl 1 rfl (by decide) (pc := 6) (Ls := (lc7 a1 a2 a3)) hml rfl (lenOf pd_3 rfl) d5_6 hby
  obtain ⟨rfl, N6q, e6⟩ := hQ6
  have N7 := Fr.app N5 N6q
  obtain ⟨T11, h11, X11, e11, W11, st11⟩ := putF X6 hx hZ hown (host := "") (Or.inl (ww hw 53 rfl)) Via.refl e6 F8 F10 (Or.inr ⟨(ww hw 54 rfl), rfl, hnm⟩) (ww hw 28 rfl) (ty := (.object zs10)) (by decide) rfl rfl (g := (mkF m 9 (lc7 a1 a2 a3) [(.ref a2), (.ref a1)])) rfl rfl (hb hby d5_9)
  have N13 := Fr.snoc X11 N7 g12
  have f14 : Fld Z h11 a1 zs11 "k0" zs12 (.ref a2) := Fld.same W11 F8
  have Z_1 : n0 ≤ h11.size := Nat.le_trans Z0 (Keep.of_wr W11).1
  obtain ⟨_, T15, L15, X15, hQ15, st15⟩ := ocallS X11 hx hZ zm4 hown (ww hw 49 rfl) (ww hw 50 rfl) (by decide) (ww hw 52 rfl) (ww hw 51 rfl) e11 (rm9_4 l Z a0 hw [] a3 h11 n0 Z_1 ) (st := [(.ref a3), (.ref a1)]) rfl 1 rfl (by decide) (pc := 14) (Ls := (lc7 a1 a2 a3)) hml rfl (lenOf pd_3 rfl) d5_14 hby
  obtain ⟨rfl, N15q, e15⟩ := hQ15
  have N16 := Fr.app N13 N15q
  have f17 : Fld Z h11 a1 zs11 "v0" zs12 .null := (Fld.other W11 F9 (Or.inr (slot_ne (Or.inr (ww hw 56 rfl)) (Or.inr (ww hw 54 rfl)) (by decide) (t := (.object zs10)) (t' := (.object zs10)) (by decide) (by decide))))
  have f18 : Exa Z h11 a1 zs11 := (Exa.wr W11 F10)
  obtain ⟨T19, h19, X19, e19, W19, st19⟩ := putF X15 hx hZ hown (host := "") (Or.inl (ww hw 55 rfl)) Via.refl e15 f17 f18 (Or.inr ⟨(ww hw 56 rfl), rfl, hnm⟩) (ww hw 28 rfl) (ty := (.object zs10)) (by decide) rfl rfl (g := (mkF m 17 (lc7 a1 a2 a3) [(.ref a3), (.ref a1)])) rfl rfl (hb hby d5_17)
  have N20 := Fr.snoc X19 N16 g12
  have f21 : Fld Z h19 a1 zs11 "v0" zs12 (.ref a3) := Fld.same W19 f17
  refine own_go (U' := T19.setTop (mkF m 20 (lc7 a1 a2 a3) [])) (fun t k => oaloadN X0 hx hby d5_0 rfl rfl (st4 _ (oaloadN X4 hx hby d5_4 rfl rfl (oaloadN X4 hx hby d5_5 rfl rfl (st6 _ (st11 _ (oaloadN X11 hx hby d5_12 rfl rfl (oaloadN X11 hx hby d5_13 rfl rfl (st15 _ (st19 _ k)))))))))) ?_
  have f22 : Fld Z h19 a1 zs11 "k0" zs12 (.ref a2) := (Fld.other W19 f14 (Or.inr (slot_ne (Or.inr (ww hw 54 rfl)) (Or.inr (ww hw 56 rfl)) (by decide) (t := (.object zs10)) (t' := (.object zs10)) (by decide) (by decide))))
  obtain ⟨fs, hr, hrun, hended, hW, hsame⟩ := X19.leave (v := none) (fun _ => rfl)
  refine own_out ⟨_, _, ?_, hrun, hended, _, _, rfl, ?_, ⟨_, rfl⟩, hW, hsame.mono (by decide) (by decide)⟩
  · exact X19.returnOut hx Bd.returns (hb hby d5_20) hr
  · show Q5_5 Z a1 a2 a3 h0 n0 _ T19.heap _
    rw [e19]
    exact ⟨rfl, N20, (((Keep.refl h0 [a1]).wr W11 (Or.inl (List.mem_of_getElem? (i := 0) rfl))).wr W19 (Or.inl (List.mem_of_getElem? (i := 0) rfl))), f22, f21⟩
def Q4_6 (Z : State) (a1 a2 : Addr) (h0 : Heap) (n0 : Nat) (v : Option Value) (h : Heap) (L : List Loc) : Prop := ∃ b3 : Addr, v = some (.ref b3) ∧ Fr n0 L ∧ Keep h0 h [] ∧ h0.size ≤ b3 ∧ Exa Z h b3 zs11 ∧ Fld Z h b3 zs11 "k0" zs12 (.ref a1) ∧ Fld Z h b3 zs11 "v0" zs12 (.ref a2)
set_option maxRecDepth 65536 in
set_option maxHeartbeats 40000000 in
theorem rm4_6 (l : Launch) (Z : State) (a0 : Array Value) (hw : ∀ d ∈ tables_1, d.before a0 Z = true) (ws : List Jvm.Cond) (a1 a2 : Addr) (h0 : Heap) (n0 : Nat) (Z0 : n0 ≤ h0.size) :
    MetFree l zm6 (head1 (Jvm.Cond.code zm6 jdk_72_method_27_code 2 (some (.object zs14)) :: ws) ({ frames := 4, cells := 1, slots := 4, locals := 51 } : Room)) (fun a U => a = #[(.ref a1), (.ref a2)] ∧ Z.Warmed39 U.vm ∧ U.heap = h0) (fun _ _ _ _ _ => True) (fun _ U o U' => ∃ v L, o = .returned v ∧ Q4_6 Z a1 a2 h0 n0 v U'.heap L ∧ FrameEnd U o U' L ({ frames := 4, cells := 1, slots := 4, locals := 51 } : Room).cells ({ frames := 4, cells := 1, slots := 4, locals := 51 } : Room).slots) := by
  refine MetFree.of_bodySF (plainFor_of_name pn_6) hisR ?_
  intro p e s m args below meth c s₁ Bd hml0 hP hK
  obtain ⟨rfl, hZ, hh⟩ := hP
  have hx := Bd.exec
  have hby := Bd.bytes
  have hml : c.maxLocals = 2 := hml0
  have hown : s.vm.findClass zs14 = some m.cls := findClass_of_methodNamed Bd.named
  have hnm := (name_of_methodNamed Bd.named Bd.method).1
  have X0 : Stand p l e ({ frames := 4, cells := 1, slots := 4, locals := 51 } : Room) s m #[(.ref a1), (.ref a2)] below meth c s₁ [] 0 0 := Stand.of_body Bd
  have e0 : s₁.heap = h0 := by rw [← hh, Bd.state]; rfl
  have N0 := Fr.nil n0
  refine own_pre (g' := mkF m 0 (lc6 a1 a2) []) (ef_3 m a1 a2) ?_
  obtain ⟨T3, h3, X3, e3, E3, A3, D3, -, st3⟩ := newO X0 hx hZ hown (ww hw 27 rfl) (ww hw 28 rfl) (ww hw 29 rfl) e0 (g := (mkF m 0 (lc6 a1 a2) [])) rfl (hb hby d4_0) (by decide) (by decide)
  obtain ⟨b3, g3⟩ : ∃ z, z = h0.size := ⟨_, rfl⟩
  rw [← g3] at A3 D3 st3
  have f4 : Fld Z h3 b3 zs11 "k0" zs12 .null := D3 (Or.inr (ww hw 54 rfl)) (ty := (.object zs10)) (by decide)
  have f5 : Fld Z h3 b3 zs11 "v0" zs12 .null := D3 (Or.inr (ww hw 56 rfl)) (ty := (.object zs10)) (by decide)
  have g7 : n0 ≤ b3 := Nat.le_trans Z0 (Nat.le_of_eq g3.symm)
  have Z_1 : n0 ≤ h3.size := Nat.le_trans Z0 E3.1
  obtain ⟨_, T6, L6, X6, hQ6, st6⟩ := ocallI X3 hx hZ zm5 rfl hown (ww hw 30 rfl) (ww hw 31 rfl) (by decide) (ww hw 33 rfl) (ww hw 29 rfl) e3 (rm5_5 l Z a0 hw [] b3 a1 a2 h3 n0 Z_1 f4 f5 A3 g7) (st := [(.ref a2), (.ref a1), (.ref b3), (.ref b3)]) rfl 1 rfl (by decide) (pc := 6) (Ls := (lc6 a1 a2)) hml rfl (lenOf pd_4 rfl) d4_6 hby
  obtain ⟨rfl, N6q, K6, f8, f9⟩ := hQ6
  have N10 := Fr.app N0 N6q
  refine own_go (U' := T6.setTop (mkF m 9 (lc6 a1 a2) [(.ref b3)])) (fun t k => st3 _ (odup X3 hx hby d4_3 rfl (oaloadN X3 hx hby d4_4 rfl rfl (oaloadN X3 hx hby d4_5 rfl rfl (st6 _ k))))) ?_
  have f11 : Exa Z T6.heap b3 zs11 := (A3.keep K6)
  obtain ⟨fs, hr, hrun, hended, hW, hsame⟩ := X6.leave (v := some (.ref b3)) (fun h => by rw [Bd.returns] at h; cases h)
  refine own_out ⟨_, _, ?_, hrun, hended, _, _, rfl, ?_, ⟨_, rfl⟩, hW, hsame.mono (by decide) (by decide)⟩
  · exact retOut X6 hx Bd.returns rfl (Or.inr (Or.inr (Or.inr (Or.inr ⟨rfl, rfl, rfl⟩)))) (hb hby d4_9) hr
  · show Q4_6 Z a1 a2 h0 n0 _ T6.heap _
    exact ⟨b3, rfl, N10, (Keep.trans ((Keep.refl h0 []).ext E3) K6 (allS (Or.inr (Nat.le_of_eq g3.symm)) all0)), (Nat.le_of_eq g3.symm), f11, f8, f9⟩
def Q10_7 (Z : State) (a1 : Addr) (h0 : Heap) (n0 : Nat) (v : Option Value) (h : Heap) (L : List Loc) : Prop := v = some (.ref a1) ∧ Fr n0 L ∧ h = h0
set_option maxRecDepth 65536 in
set_option maxHeartbeats 40000000 in
theorem rm10_7 (l : Launch) (Z : State) (a0 : Array Value) (hw : ∀ d ∈ tables_1, d.before a0 Z = true) (ws : List Jvm.Cond) (a1 : Addr) (h0 : Heap) (n0 : Nat) (Z0 : n0 ≤ h0.size) (F2 : Sta Z h0 zs16 zs17 zs18 (.ref a1)) :
    MetFree l zm7 (head1 (Jvm.Cond.code zm7 jdk_40_method_36_code 0 (some (.object zs19)) :: ws) ({ frames := 0, cells := 0, slots := 0, locals := 0 } : Room)) (fun a U => a = #[] ∧ Z.Warmed39 U.vm ∧ U.heap = h0) (fun _ _ _ _ _ => True) (fun _ U o U' => ∃ v L, o = .returned v ∧ Q10_7 Z a1 h0 n0 v U'.heap L ∧ FrameEnd U o U' L ({ frames := 0, cells := 0, slots := 0, locals := 0 } : Room).cells ({ frames := 0, cells := 0, slots := 0, locals := 0 } : Room).slots) := by
  refine MetFree.of_bodySF (plainFor_of_name pn_7) hisR ?_
  intro p e s m args below meth c s₁ Bd hml0 hP hK
  obtain ⟨rfl, hZ, hh⟩ := hP
  have hx := Bd.exec
  have hby := Bd.bytes
  have hml : c.maxLocals = 0 := hml0
  have hown : s.vm.findClass zs19 = some m.cls := findClass_of_methodNamed Bd.named
  have hnm := (name_of_methodNamed Bd.named Bd.method).1
  have X0 : Stand p l e ({ frames := 0, cells := 0, slots := 0, locals := 0 } : Room) s m #[] below meth c s₁ [] 0 0 := Stand.of_body Bd
  have e0 : s₁.heap = h0 := by rw [← hh, Bd.state]; rfl
  have N0 := Fr.nil n0
  refine own_pre (g' := mkF m 0 lc9 []) (ef_4 m ) ?_
  obtain ⟨T3, X3, e3, st3⟩ := getS2 X0 hx hZ hown (host := "") (Or.inl (ww hw 61 rfl)) Via.refl e0 F2 (g := (mkF m 0 lc9 [])) rfl (hb hby d10_0)
  refine own_go (U' := T3.setTop (mkF m 3 lc9 [(.ref a1)])) (fun t k => st3 _ k) ?_
  obtain ⟨fs, hr, hrun, hended, hW, hsame⟩ := X3.leave (v := some (.ref a1)) (fun h => by rw [Bd.returns] at h; cases h)
  refine own_out ⟨_, _, ?_, hrun, hended, _, _, rfl, ?_, ⟨_, rfl⟩, hW, hsame.mono (by decide) (by decide)⟩
  · exact retOut X3 hx Bd.returns rfl (Or.inr (Or.inr (Or.inr (Or.inr ⟨rfl, rfl, rfl⟩)))) (hb hby d10_3) hr
  · show Q10_7 Z a1 h0 n0 _ T3.heap _
    rw [e3]
    exact ⟨rfl, N0, rfl⟩
def Q12_8 (Z : State) (a1 : Addr) (h0 : Heap) (n0 : Nat) (v : Option Value) (h : Heap) (L : List Loc) : Prop := v = some (.ref a1) ∧ Fr n0 L ∧ h = h0
set_option maxRecDepth 65536 in
set_option maxHeartbeats 40000000 in
theorem rm12_8 (l : Launch) (Z : State) (a0 : Array Value) (hw : ∀ d ∈ tables_1, d.before a0 Z = true) (ws : List Jvm.Cond) (a1 : Addr) (h0 : Heap) (n0 : Nat) (Z0 : n0 ≤ h0.size) (F2 : Exa Z h0 a1 zs11) :
    MetFree l zm8 (head1 (Jvm.Cond.code zm8 jdk_72_method_39_code 1 (some (.object zs14)) :: ws) ({ frames := 0, cells := 0, slots := 0, locals := 0 } : Room)) (fun a U => a = #[(.ref a1)] ∧ Z.Warmed39 U.vm ∧ U.heap = h0) (fun _ _ _ _ _ => True) (fun _ U o U' => ∃ v L, o = .returned v ∧ Q12_8 Z a1 h0 n0 v U'.heap L ∧ FrameEnd U o U' L ({ frames := 0, cells := 0, slots := 0, locals := 0 } : Room).cells ({ frames := 0, cells := 0, slots := 0, locals := 0 } : Room).slots) := by
  refine MetFree.of_bodySF (plainFor_of_name pn_6) hisR ?_
  intro p e s m args below meth c s₁ Bd hml0 hP hK
  obtain ⟨rfl, hZ, hh⟩ := hP
  have hx := Bd.exec
  have hby := Bd.bytes
  have hml : c.maxLocals = 1 := hml0
  have hown : s.vm.findClass zs14 = some m.cls := findClass_of_methodNamed Bd.named
  have hnm := (name_of_methodNamed Bd.named Bd.method).1
  have X0 : Stand p l e ({ frames := 0, cells := 0, slots := 0, locals := 0 } : Room) s m #[(.ref a1)] below meth c s₁ [] 0 0 := Stand.of_body Bd
  have e0 : s₁.heap = h0 := by rw [← hh, Bd.state]; rfl
  have N0 := Fr.nil n0
  refine own_pre (g' := mkF m 0 (lc8 a1) []) (ef_1 m a1) ?_
  obtain ⟨T3, X3, e3, st3⟩ := instY X0 hx hZ hown (ww hw 72 rfl) e0 (Ins.of_exa F2 (ww hw 37 rfl)) (g := (mkF m 1 (lc8 a1) [(.ref a1)])) rfl rfl (hb hby d12_1)
  refine own_go (U' := T3.setTop (mkF m 4 (lc8 a1) [(.int 1)])) (fun t k => oaloadN X0 hx hby d12_0 rfl rfl (st3 _ k)) ?_
  refine own_go (U' := T3.setTop (mkF m 8 (lc8 a1) [(.ref a1)])) (fun t k => oifN X3 hx hby d12_4 (by decide) (oaloadN X3 hx hby d12_7 rfl rfl k)) ?_
  obtain ⟨fs, hr, hrun, hended, hW, hsame⟩ := X3.leave (v := some (.ref a1)) (fun h => by rw [Bd.returns] at h; cases h)
  refine own_out ⟨_, _, ?_, hrun, hended, _, _, rfl, ?_, ⟨_, rfl⟩, hW, hsame.mono (by decide) (by decide)⟩
  · exact retOut X3 hx Bd.returns rfl (Or.inr (Or.inr (Or.inr (Or.inr ⟨rfl, rfl, rfl⟩)))) (hb hby d12_8) hr
  · show Q12_8 Z a1 h0 n0 _ T3.heap _
    rw [e3]
    exact ⟨rfl, N0, rfl⟩
def Q14_9 (Z : State) (a1 : Addr) (h0 : Heap) (n0 : Nat) (v : Option Value) (h : Heap) (L : List Loc) : Prop := v = some (.ref a1) ∧ Fr n0 L ∧ h = h0
set_option maxRecDepth 65536 in
set_option maxHeartbeats 40000000 in
theorem rm14_9 (l : Launch) (Z : State) (a0 : Array Value) (hw : ∀ d ∈ tables_1, d.before a0 Z = true) (ws : List Jvm.Cond) (a1 : Addr) (h0 : Heap) (n0 : Nat) (Z0 : n0 ≤ h0.size) (F2 : Exa Z h0 a1 zs22) (hc4 : own_As Z zs22 zs23) :
    MetFree l zm9 (head1 (Jvm.Cond.code zm9 jdk_56_method_3_code 2 (some (.object zs19)) :: ws) ({ frames := 0, cells := 0, slots := 0, locals := 0 } : Room)) (fun a U => a = #[(.ref a1)] ∧ Z.Warmed39 U.vm ∧ U.heap = h0) (fun _ _ _ _ _ => True) (fun _ U o U' => ∃ v L, o = .returned v ∧ Q14_9 Z a1 h0 n0 v U'.heap L ∧ FrameEnd U o U' L ({ frames := 0, cells := 0, slots := 0, locals := 0 } : Room).cells ({ frames := 0, cells := 0, slots := 0, locals := 0 } : Room).slots) := by
  refine MetFree.of_bodySF (plainFor_of_name pn_8) hisR ?_
  intro p e s m args below meth c s₁ Bd hml0 hP hK
  obtain ⟨rfl, hZ, hh⟩ := hP
  have hx := Bd.exec
  have hby := Bd.bytes
  have hml : c.maxLocals = 2 := hml0
  have hown : s.vm.findClass zs16 = some m.cls := findClass_of_methodNamed Bd.named
  have hnm := (name_of_methodNamed Bd.named Bd.method).1
  have X0 : Stand p l e ({ frames := 0, cells := 0, slots := 0, locals := 0 } : Room) s m #[(.ref a1)] below meth c s₁ [] 0 0 := Stand.of_body Bd
  have e0 : s₁.heap = h0 := by rw [← hh, Bd.state]; rfl
  have N0 := Fr.nil n0
  refine own_pre (g' := mkF m 0 (lc11 a1) []) (ef_5 m a1) ?_
  obtain ⟨T3, X3, e3, st3⟩ := instY X0 hx hZ hown (ww hw 81 rfl) e0 (own_asI F2 hc4) (g := (mkF m 1 (lc11 a1) [(.ref a1)])) rfl rfl (hb hby d14_1)
  refine own_go (U' := T3.setTop (mkF m 4 (lc11 a1) [(.int 1)])) (fun t k => oaloadN X0 hx hby d14_0 rfl rfl (st3 _ k)) ?_
  obtain ⟨T5, X5, e5, st5⟩ := castY X3 hx hZ hown (ww hw 91 rfl) e3 (Ins.of_exa F2 (ww hw 92 rfl)) (g := (mkF m 27 (lc11 a1) [(.ref a1)])) rfl rfl (hb hby d14_27)
  refine own_go (U' := T5.setTop (mkF m 30 (lc11 a1) [(.ref a1)])) (fun t k => oifY (pc := 4) X3 hx hby d14_4 26 (by decide) (by decide) (oaloadN X3 hx hby d14_26 rfl rfl (st5 _ k))) ?_
  obtain ⟨fs, hr, hrun, hended, hW, hsame⟩ := X5.leave (v := some (.ref a1)) (fun h => by rw [Bd.returns] at h; cases h)
  refine own_out ⟨_, _, ?_, hrun, hended, _, _, rfl, ?_, ⟨_, rfl⟩, hW, hsame.mono (by decide) (by decide)⟩
  · exact retOut X5 hx Bd.returns rfl (Or.inr (Or.inr (Or.inr (Or.inr ⟨rfl, rfl, rfl⟩)))) (hb hby d14_30) hr
  · show Q14_9 Z a1 h0 n0 _ T5.heap _
    rw [e5]
    exact ⟨rfl, N0, rfl⟩
def Q14_10 (Z : State) (a1 : Addr) (h0 : Heap) (n0 : Nat) (v : Option Value) (h : Heap) (L : List Loc) : Prop := v = some (.ref a1) ∧ Fr n0 L ∧ h = h0
set_option maxRecDepth 65536 in
set_option maxHeartbeats 40000000 in
theorem rm14_10 (l : Launch) (Z : State) (a0 : Array Value) (hw : ∀ d ∈ tables_1, d.before a0 Z = true) (ws : List Jvm.Cond) (a1 : Addr) (h0 : Heap) (n0 : Nat) (Z0 : n0 ≤ h0.size) (F2 : Exa Z h0 a1 zs22) (hc4 : ¬ own_As Z zs22 zs23) (F7 : Fld Z h0 a1 zs22 zs26 "Z" (.int 0)) :
    MetFree l zm9 (head1 (Jvm.Cond.code zm9 jdk_56_method_3_code 2 (some (.object zs19)) :: ws) ({ frames := 0, cells := 0, slots := 0, locals := 0 } : Room)) (fun a U => a = #[(.ref a1)] ∧ Z.Warmed39 U.vm ∧ U.heap = h0) (fun _ _ _ _ _ => True) (fun _ U o U' => ∃ v L, o = .returned v ∧ Q14_10 Z a1 h0 n0 v U'.heap L ∧ FrameEnd U o U' L ({ frames := 0, cells := 0, slots := 0, locals := 0 } : Room).cells ({ frames := 0, cells := 0, slots := 0, locals := 0 } : Room).slots) := by
  refine MetFree.of_bodySF (plainFor_of_name pn_8) hisR ?_
  intro p e s m args below meth c s₁ Bd hml0 hP hK
  obtain ⟨rfl, hZ, hh⟩ := hP
  have hx := Bd.exec
  have hby := Bd.bytes
  have hml : c.maxLocals = 2 := hml0
  have hown : s.vm.findClass zs16 = some m.cls := findClass_of_methodNamed Bd.named
  have hnm := (name_of_methodNamed Bd.named Bd.method).1
  have X0 : Stand p l e ({ frames := 0, cells := 0, slots := 0, locals := 0 } : Room) s m #[(.ref a1)] below meth c s₁ [] 0 0 := Stand.of_body Bd
  have e0 : s₁.heap = h0 := by rw [← hh, Bd.state]; rfl
  have N0 := Fr.nil n0
  refine own_pre (g' := mkF m 0 (lc11 a1) []) (ef_5 m a1) ?_
  obtain ⟨T3, X3, e3, st3⟩ := instNo X0 hx hZ hown (ww hw 81 rfl) e0 F2 (own_asN (ww hw 81 rfl) F2 hc4) (g := (mkF m 1 (lc11 a1) [(.ref a1)])) rfl rfl (hb hby d14_1)
  refine own_go (U' := T3.setTop (mkF m 4 (lc11 a1) [(.int 0)])) (fun t k => oaloadN X0 hx hby d14_0 rfl rfl (st3 _ k)) ?_
  obtain ⟨T5, X5, e5, st5⟩ := instY X3 hx hZ hown (ww hw 87 rfl) e3 (Ins.self F2) (g := (mkF m 8 (lc11 a1) [(.ref a1)])) rfl rfl (hb hby d14_8)
  refine own_go (U' := T5.setTop (mkF m 11 (lc11 a1) [(.int 1)])) (fun t k => oifN X3 hx hby d14_4 (by decide) (oaloadN X3 hx hby d14_7 rfl rfl (st5 _ k))) ?_
  obtain ⟨T6, X6, e6, st6⟩ := castY X5 hx hZ hown (ww hw 87 rfl) e5 (Ins.self F2) (g := (mkF m 15 (lc11 a1) [(.ref a1)])) rfl rfl (hb hby d14_15)
  obtain ⟨T8, X8, e8, st8⟩ := getF X6 hx hZ hown (Or.inr (ww hw 89 rfl)) Via.refl e6 F7 (g := (mkF m 20 (lc6 a1 a1) [(.ref a1)])) rfl rfl (hb hby d14_20)
  refine own_go (U' := T8.setTop (mkF m 23 (lc6 a1 a1) [(.int 0)])) (fun t k => oifN X5 hx hby d14_11 (by decide) (oaloadN X5 hx hby d14_14 rfl rfl (st6 _ (oastoreN X6 hx hby d14_18 (lc6 a1 a1) rfl rfl (oaloadN X6 hx hby d14_19 rfl rfl (st8 _ k)))))) ?_
  obtain ⟨T9, X9, e9, st9⟩ := castY X8 hx hZ hown (ww hw 91 rfl) e8 (Ins.of_exa F2 (ww hw 92 rfl)) (g := (mkF m 27 (lc6 a1 a1) [(.ref a1)])) rfl rfl (hb hby d14_27)
  refine own_go (U' := T9.setTop (mkF m 30 (lc6 a1 a1) [(.ref a1)])) (fun t k => oifN X8 hx hby d14_23 (by decide) (oaloadN X8 hx hby d14_26 rfl rfl (st9 _ k))) ?_
  obtain ⟨fs, hr, hrun, hended, hW, hsame⟩ := X9.leave (v := some (.ref a1)) (fun h => by rw [Bd.returns] at h; cases h)
  refine own_out ⟨_, _, ?_, hrun, hended, _, _, rfl, ?_, ⟨_, rfl⟩, hW, hsame.mono (by decide) (by decide)⟩
  · exact retOut X9 hx Bd.returns rfl (Or.inr (Or.inr (Or.inr (Or.inr ⟨rfl, rfl, rfl⟩)))) (hb hby d14_30) hr
  · show Q14_10 Z a1 h0 n0 _ T9.heap _
    rw [e9]
    exact ⟨rfl, N0, rfl⟩
def Qmg14_11 (Z : State) (a1 : Addr) (h0 : Heap) (n0 : Nat) (v : Option Value) (h : Heap) (L : List Loc) : Prop := v = some (.ref a1) ∧ Fr n0 L ∧ h = h0
theorem mg14_11 (l : Launch) (Z : State) (a0 : Array Value) (hw : ∀ d ∈ tables_1, d.before a0 Z = true) (ws : List Jvm.Cond) (a1 : Addr) (h0 : Heap) (n0 : Nat) (Z0 : n0 ≤ h0.size) (F2 : Exa Z h0 a1 zs22) (F3 : Fld Z h0 a1 zs22 zs26 "Z" (.int 0)) :
    MetFree l zm9 (head1 (Jvm.Cond.code zm9 jdk_56_method_3_code 2 (some (.object zs19)) :: ws) ({ frames := 0, cells := 0, slots := 0, locals := 0 } : Room)) (fun a U => a = #[(.ref a1)] ∧ Z.Warmed39 U.vm ∧ U.heap = h0) (fun _ _ _ _ _ => True) (fun _ U o U' => ∃ v L, o = .returned v ∧ Qmg14_11 Z a1 h0 n0 v U'.heap L ∧ FrameEnd U o U' L ({ frames := 0, cells := 0, slots := 0, locals := 0 } : Room).cells ({ frames := 0, cells := 0, slots := 0, locals := 0 } : Room).slots) := by
  by_cases hm1 : own_As Z zs22 zs23
  · exact rm14_9 l Z a0 hw ws a1 h0 n0 Z0 F2 hm1
  · exact rm14_10 l Z a0 hw ws a1 h0 n0 Z0 F2 hm1 F3
def Q13_12 (Z : State) (a1 : Addr) (h0 : Heap) (n0 : Nat) (v : Option Value) (h : Heap) (L : List Loc) : Prop := v = some (.ref a1) ∧ Fr n0 L ∧ h = h0
set_option maxRecDepth 65536 in
set_option maxHeartbeats 40000000 in
theorem rm13_12 (l : Launch) (Z : State) (a0 : Array Value) (hw : ∀ d ∈ tables_1, d.before a0 Z = true) (ws : List Jvm.Cond) (a1 : Addr) (h0 : Heap) (n0 : Nat) (Z0 : n0 ≤ h0.size) (F3 : Exa Z h0 a1 zs22) (F4 : Fld Z h0 a1 zs22 zs26 "Z" (.int 0)) :
    MetFree l zm10 (head1 (Jvm.Cond.code zm10 jdk_40_method_48_code 1 (some (.object zs19)) :: ws) ({ frames := 1, cells := 0, slots := 0, locals := 13 } : Room)) (fun a U => a = #[(.ref a1)] ∧ Z.Warmed39 U.vm ∧ U.heap = h0) (fun _ _ _ _ _ => True) (fun _ U o U' => ∃ v L, o = .returned v ∧ Q13_12 Z a1 h0 n0 v U'.heap L ∧ FrameEnd U o U' L ({ frames := 1, cells := 0, slots := 0, locals := 13 } : Room).cells ({ frames := 1, cells := 0, slots := 0, locals := 13 } : Room).slots) := by
  refine MetFree.of_bodySF (plainFor_of_name pn_7) hisR ?_
  intro p e s m args below meth c s₁ Bd hml0 hP hK
  obtain ⟨rfl, hZ, hh⟩ := hP
  have hx := Bd.exec
  have hby := Bd.bytes
  have hml : c.maxLocals = 1 := hml0
  have hown : s.vm.findClass zs19 = some m.cls := findClass_of_methodNamed Bd.named
  have hnm := (name_of_methodNamed Bd.named Bd.method).1
  have X0 : Stand p l e ({ frames := 1, cells := 0, slots := 0, locals := 13 } : Room) s m #[(.ref a1)] below meth c s₁ [] 0 0 := Stand.of_body Bd
  have e0 : s₁.heap = h0 := by rw [← hh, Bd.state]; rfl
  have N0 := Fr.nil n0
  refine own_pre (g' := mkF m 0 (lc8 a1) []) (ef_1 m a1) ?_
  obtain ⟨_, T2, L2, X2, hQ2, st2⟩ := ocallS X0 hx hZ zm9 hown (ww hw 78 rfl) (ww hw 79 rfl) (by decide) (ww hw 80 rfl) (ww hw 62 rfl) e0 (mg14_11 l Z a0 hw [] a1 h0 n0 Z0 F3 F4) (st := [(.ref a1)]) rfl 0 rfl (by decide) (pc := 1) (Ls := (lc8 a1)) hml rfl (lenOf pd_8 rfl) d13_1 hby
  obtain ⟨rfl, N2q, e2⟩ := hQ2
  have N5 := Fr.app N0 N2q
  refine own_go (U' := T2.setTop (mkF m 4 (lc8 a1) [(.ref a1)])) (fun t k => oaloadN X0 hx hby d13_0 rfl rfl (st2 _ k)) ?_
  obtain ⟨fs, hr, hrun, hended, hW, hsame⟩ := X2.leave (v := some (.ref a1)) (fun h => by rw [Bd.returns] at h; cases h)
  refine own_out ⟨_, _, ?_, hrun, hended, _, _, rfl, ?_, ⟨_, rfl⟩, hW, hsame.mono (by decide) (by decide)⟩
  · exact retOut X2 hx Bd.returns rfl (Or.inr (Or.inr (Or.inr (Or.inr ⟨rfl, rfl, rfl⟩)))) (hb hby d13_4) hr
  · show Q13_12 Z a1 h0 n0 _ T2.heap _
    rw [e2]
    exact ⟨rfl, N5, rfl⟩
def Q11_13 (Z : State) (a1 a2 a3 : Addr) (h0 : Heap) (n0 : Nat) (v : Option Value) (h : Heap) (L : List Loc) : Prop := v = none ∧ Fr n0 L ∧ Keep h0 h [a1] ∧ Fld Z h a1 zs0 "budget" "I" (.int 1) ∧ Fld Z h a1 zs0 "classes" zs27 (.ref a2) ∧ Fld Z h a1 zs0 "backoff" zs28 (.ref a3)
set_option maxRecDepth 65536 in
set_option maxHeartbeats 40000000 in
theorem rm11_13 (l : Launch) (Z : State) (a0 : Array Value) (hw : ∀ d ∈ tables_1, d.before a0 Z = true) (ws : List Jvm.Cond) (a1 a2 a3 : Addr) (h0 : Heap) (n0 : Nat) (Z0 : n0 ≤ h0.size) (F5 : Fld Z h0 a1 zs0 "budget" "I" (.int 0)) (F6 : Fld Z h0 a1 zs0 "classes" zs27 .null) (F7 : Fld Z h0 a1 zs0 "backoff" zs28 .null) (F8 : Exa Z h0 a1 zs0) (g10 : n0 ≤ a1) (F14 : Exa Z h0 a2 zs11) (F23 : Exa Z h0 a3 zs22) (F25 : Fld Z h0 a3 zs22 zs26 "Z" (.int 0)) (ne26 : a3 ≠ a1) :
    MetFree l zm11 (head1 (Jvm.Cond.code zm11 prog_22_method_2_code 4 none :: ws) ({ frames := 2, cells := 0, slots := 0, locals := 26 } : Room)) (fun a U => a = #[(.ref a1), (.int 1), (.ref a2), (.ref a3)] ∧ Z.Warmed39 U.vm ∧ U.heap = h0) (fun _ _ _ _ _ => True) (fun _ U o U' => ∃ v L, o = .returned v ∧ Q11_13 Z a1 a2 a3 h0 n0 v U'.heap L ∧ FrameEnd U o U' L ({ frames := 2, cells := 0, slots := 0, locals := 26 } : Room).cells ({ frames := 2, cells := 0, slots := 0, locals := 26 } : Room).slots) := by
  refine MetFree.of_bodySF (plainFor_of_name pn_0) hisR ?_
  intro p e s m args below meth c s₁ Bd hml0 hP hK
  obtain ⟨rfl, hZ, hh⟩ := hP
  have hx := Bd.exec
  have hby := Bd.bytes
  have hml : c.maxLocals = 4 := hml0
  have hown : s.vm.findClass zs0 = some m.cls := findClass_of_methodNamed Bd.named
  have hnm := (name_of_methodNamed Bd.named Bd.method).1
  have X0 : Stand p l e ({ frames := 2, cells := 0, slots := 0, locals := 26 } : Room) s m #[(.ref a1), (.int 1), (.ref a2), (.ref a3)] below meth c s₁ [] 0 0 := Stand.of_body Bd
  have e0 : s₁.heap = h0 := by rw [← hh, Bd.state]; rfl
  have N0 := Fr.nil n0
  refine own_pre (g' := mkF m 0 (lc10 a1 1 a2 a3) []) (ef_6 m a1 (1 : Int32) a2 a3) ?_
  obtain ⟨T4, X4, e4, st4⟩ := initO X0 hx hZ hown (ww hw 66 rfl) (ww hw 47 rfl) (ww hw 48 rfl) e0 (g := (mkF m 1 (lc10 a1 1 a2 a3) [(.ref a1)])) rfl (by rw [hml]; rfl) rfl (hb hby d11_1) (by decide) (W := 0) (by show 2 * 0 + _ ≤ _; exact Nat.le_of_eq rfl) (by decide)
  obtain ⟨T9, h9, X9, e9, W9, st9⟩ := putF X4 hx hZ hown (host := "") (Or.inl (ww hw 67 rfl)) Via.refl e4 F5 F8 (Or.inr ⟨(ww hw 68 rfl), rfl, hnm⟩) (ww hw 2 rfl) (ty := .int) (by decide) rfl rfl (g := (mkF m 6 (lc10 a1 1 a2 a3) [(.int 1), (.ref a1)])) rfl rfl (hb hby d11_6)
  have N11 := Fr.snoc X9 N0 g10
  have f12 : Fld Z h9 a1 zs0 "budget" "I" (.int 1) := Fld.same W9 F5
  have f15 : Exa Z h9 a2 zs11 := (Exa.wr W9 F14)
  have Z_1 : n0 ≤ h9.size := Nat.le_trans Z0 (Keep.of_wr W9).1
  obtain ⟨_, T13, L13, X13, hQ13, st13⟩ := ocallS X9 hx hZ zm8 hown (ww hw 69 rfl) (ww hw 70 rfl) (by decide) (ww hw 71 rfl) (ww hw 25 rfl) e9 (rm12_8 l Z a0 hw [] a2 h9 n0 Z_1 f15) (st := [(.ref a2), (.ref a1)]) rfl 1 rfl (by decide) (pc := 11) (Ls := (lc10 a1 1 a2 a3)) hml rfl (lenOf pd_7 rfl) d11_11 hby
  obtain ⟨rfl, N13q, e13⟩ := hQ13
  have N16 := Fr.app N11 N13q
  have f17 : Fld Z h9 a1 zs0 "classes" zs27 .null := (Fld.other W9 F6 (Or.inr (slot_ne (Or.inr (ww hw 74 rfl)) (Or.inr (ww hw 68 rfl)) (by decide) (t := (.object zs14)) (t' := .int) (by decide) (by decide))))
  have f18 : Exa Z h9 a1 zs0 := (Exa.wr W9 F8)
  obtain ⟨T19, h19, X19, e19, W19, st19⟩ := putF X13 hx hZ hown (host := "") (Or.inl (ww hw 73 rfl)) Via.refl e13 f17 f18 (Or.inr ⟨(ww hw 74 rfl), rfl, hnm⟩) (ww hw 2 rfl) (ty := (.object zs14)) (by decide) rfl rfl (g := (mkF m 14 (lc10 a1 1 a2 a3) [(.ref a2), (.ref a1)])) rfl rfl (hb hby d11_14)
  have N20 := Fr.snoc X19 N16 g10
  have f21 : Fld Z h19 a1 zs0 "classes" zs27 (.ref a2) := Fld.same W19 f17
  have f24 : Exa Z h19 a3 zs22 := (Exa.wr W19 (Exa.wr W9 F23))
  have f27 : Fld Z h19 a3 zs22 zs26 "Z" (.int 0) := (Fld.other W19 (Fld.other W9 F25 (Or.inl ne26)) (Or.inl ne26))
  have Z_2 : n0 ≤ h19.size := Nat.le_trans Z_1 (Keep.of_wr W19).1
  obtain ⟨_, T22, L22, X22, hQ22, st22⟩ := ocallS X19 hx hZ zm10 hown (ww hw 75 rfl) (ww hw 76 rfl) (by decide) (ww hw 77 rfl) (ww hw 59 rfl) e19 (rm13_12 l Z a0 hw [] a3 h19 n0 Z_2 f24 f27) (st := [(.ref a3), (.ref a1)]) rfl 1 rfl (by decide) (pc := 19) (Ls := (lc10 a1 1 a2 a3)) hml rfl (lenOf pd_8 rfl) d11_19 hby
  obtain ⟨rfl, N22q, e22⟩ := hQ22
  have N28 := Fr.app N20 N22q
  have f29 : Fld Z h19 a1 zs0 "backoff" zs28 .null := (Fld.other W19 (Fld.other W9 F7 (Or.inr (slot_ne (Or.inr (ww hw 94 rfl)) (Or.inr (ww hw 68 rfl)) (by decide) (t := (.object zs19)) (t' := .int) (by decide) (by decide)))) (Or.inr (slot_ne (Or.inr (ww hw 94 rfl)) (Or.inr (ww hw 74 rfl)) (by decide) (t := (.object zs19)) (t' := (.object zs14)) (by decide) (by decide))))
  have f30 : Exa Z h19 a1 zs0 := (Exa.wr W19 f18)
  obtain ⟨T31, h31, X31, e31, W31, st31⟩ := putF X22 hx hZ hown (host := "") (Or.inl (ww hw 93 rfl)) Via.refl e22 f29 f30 (Or.inr ⟨(ww hw 94 rfl), rfl, hnm⟩) (ww hw 2 rfl) (ty := (.object zs19)) (by decide) rfl rfl (g := (mkF m 22 (lc10 a1 1 a2 a3) [(.ref a3), (.ref a1)])) rfl rfl (hb hby d11_22)
  have N32 := Fr.snoc X31 N28 g10
  have f33 : Fld Z h31 a1 zs0 "backoff" zs28 (.ref a3) := Fld.same W31 f29
  refine own_go (U' := T31.setTop (mkF m 25 (lc10 a1 1 a2 a3) [])) (fun t k => oaloadN X0 hx hby d11_0 rfl rfl (st4 _ (oaloadN X4 hx hby d11_4 rfl rfl (oiloadN X4 hx hby d11_5 rfl (st9 _ (oaloadN X9 hx hby d11_9 rfl rfl (oaloadN X9 hx hby d11_10 rfl rfl (st13 _ (st19 _ (oaloadN X19 hx hby d11_17 rfl rfl (oaloadN X19 hx hby d11_18 rfl rfl (st22 _ (st31 _ k))))))))))))) ?_
  have f34 : Fld Z h31 a1 zs0 "budget" "I" (.int 1) := (Fld.other W31 (Fld.other W19 f12 (Or.inr (slot_ne (Or.inr (ww hw 68 rfl)) (Or.inr (ww hw 74 rfl)) (by decide) (t := .int) (t' := (.object zs14)) (by decide) (by decide)))) (Or.inr (slot_ne (Or.inr (ww hw 68 rfl)) (Or.inr (ww hw 94 rfl)) (by decide) (t := .int) (t' := (.object zs19)) (by decide) (by decide))))
  have f35 : Fld Z h31 a1 zs0 "classes" zs27 (.ref a2) := (Fld.other W31 f21 (Or.inr (slot_ne (Or.inr (ww hw 74 rfl)) (Or.inr (ww hw 94 rfl)) (by decide) (t := (.object zs14)) (t' := (.object zs19)) (by decide) (by decide))))
  obtain ⟨fs, hr, hrun, hended, hW, hsame⟩ := X31.leave (v := none) (fun _ => rfl)
  refine own_out ⟨_, _, ?_, hrun, hended, _, _, rfl, ?_, ⟨_, rfl⟩, hW, hsame.mono (by decide) (by decide)⟩
  · exact X31.returnOut hx Bd.returns (hb hby d11_25) hr
  · show Q11_13 Z a1 a2 a3 h0 n0 _ T31.heap _
    rw [e31]
    exact ⟨rfl, N32, ((((Keep.refl h0 [a1]).wr W9 (Or.inl (List.mem_of_getElem? (i := 0) rfl))).wr W19 (Or.inl (List.mem_of_getElem? (i := 0) rfl))).wr W31 (Or.inl (List.mem_of_getElem? (i := 0) rfl))), f34, f35, f33⟩
def Q1_14 (Z : State) (a1 a6 a18 : Addr) (h0 : Heap) (n0 : Nat) (v : Option Value) (h : Heap) (L : List Loc) : Prop := ∃ b11 : Addr, ∃ b4 : Addr, v = none ∧ Fr n0 L ∧ Keep h0 h [a1] ∧ h0.size ≤ b11 ∧ Fld Z h a1 zs0 "budget" "I" (.int 1) ∧ Fld Z h a1 zs0 "classes" zs27 (.ref b11) ∧ Fld Z h a1 zs0 "backoff" zs28 (.ref a18) ∧ Exa Z h b11 zs11 ∧ Fld Z h b11 zs11 "k0" zs12 (.ref b4) ∧ Fld Z h b11 zs11 "v0" zs12 (.ref a6)
set_option maxRecDepth 65536 in
set_option maxHeartbeats 40000000 in
theorem rm1_14 (l : Launch) (Z : State) (a0 : Array Value) (hw : ∀ d ∈ tables_1, d.before a0 Z = true) (ws : List Jvm.Cond) (a1 a6 a18 : Addr) (h0 : Heap) (n0 : Nat) (Z0 : n0 ≤ h0.size) (F7 : Sta Z h0 zs2 "TRUE" zs3 (.ref a6)) (F19 : Sta Z h0 zs16 zs17 zs18 (.ref a18)) (F23 : Fld Z h0 a1 zs0 "budget" "I" (.int 0)) (F25 : Fld Z h0 a1 zs0 "classes" zs27 .null) (F27 : Fld Z h0 a1 zs0 "backoff" zs28 .null) (F29 : Exa Z h0 a1 zs0) (g31 : n0 ≤ a1) (F32 : Exa Z h0 a18 zs22) (F34 : Fld Z h0 a18 zs22 zs26 "Z" (.int 0)) (ne36 : a18 ≠ a1) :
    MetFree l zm12 (head1 (Jvm.Cond.code zm12 prog_22_method_1_code 2 none :: ws) ({ frames := 5, cells := 3, slots := 60, locals := 66 } : Room)) (fun a U => a = #[(.ref a1), (.int 1)] ∧ Z.Warmed39 U.vm ∧ U.heap = h0) (fun _ _ _ _ _ => True) (fun _ U o U' => ∃ v L, o = .returned v ∧ Q1_14 Z a1 a6 a18 h0 n0 v U'.heap L ∧ ReturnedEndW U o U' L ({ frames := 5, cells := 3, slots := 60, locals := 66 } : Room).cells ({ frames := 5, cells := 3, slots := 60, locals := 66 } : Room).slots) := by
  refine MetFree.of_bodySF (plainFor_of_name pn_0) hisR ?_
  intro p e s m args below meth c s₁ Bd hml0 hP hK
  obtain ⟨rfl, hZ, hh⟩ := hP
  have hx := Bd.exec
  have hby := Bd.bytes
  have hml : c.maxLocals = 2 := hml0
  have hown : s.vm.findClass zs0 = some m.cls := findClass_of_methodNamed Bd.named
  have hnm := (name_of_methodNamed Bd.named Bd.method).1
  have X0 : Stand p l e ({ frames := 5, cells := 3, slots := 60, locals := 66 } : Room) s m #[(.ref a1), (.int 1)] below meth c s₁ [] 0 0 := Stand.of_body Bd
  have e0 : s₁.heap = h0 := by rw [← hh, Bd.state]; rfl
  have N0 := Fr.nil n0
  refine own_pre (g' := mkF m 0 (lc4 a1 1) []) (ef_7 m a1 (1 : Int32)) ?_
  obtain ⟨_, T2, L2, X2, hQ2, st2⟩ := ocallS X0 hx hZ zm0 hown (ww hw 7 rfl) (ww hw 8 rfl) (by decide) (ww hw 9 rfl) (ww hw 3 rfl) e0 (rm2_0 l Z a0 hw []  h0 n0 Z0 ) (st := [(.int 1), (.ref a1)]) rfl 1 rfl (by decide) (pc := 2) (Ls := (lc4 a1 1)) hml rfl (lenOf pd_0 rfl) d1_2 hby
  obtain ⟨rfl, N2q, e2⟩ := hQ2
  have N3 := Fr.app N0 N2q
  obtain ⟨b4, T4, h4, k4, X4, e4, E4, hS4, hk4, hZ, hown, st4⟩ := ldcS (s := s) (vm0 := s.vm) X2 hx hZ hown (ww hw 10 rfl) (own_wS hw) e2 ((State.WarmedH.refl s).since 0) (Nat.zero_le _) (g := (mkF m 5 (lc4 a1 1) [(.int 1), (.ref a1)])) rfl (hb hby d1_5) (n := 52) (by decide) (by decide) (by decide) (by decide)
  have f8 : Sta Z h4 zs2 "TRUE" zs3 (.ref a6) := (Sta.ext E4 F7)
  have Z_1 : n0 ≤ h4.size := Nat.le_trans Z0 E4.1
  obtain ⟨_, T5, L5, X5, hQ5, st5⟩ := ocallS X4 hx hZ zm1 hown (ww hw 18 rfl) (ww hw 19 rfl) (by decide) (ww hw 21 rfl) (ww hw 20 rfl) e4 (rm3_1 l Z a0 hw [] a6 h4 n0 Z_1 f8) (st := [(.int 1), (.ref b4), (.int 1), (.ref a1)]) rfl 3 rfl (by decide) (pc := 8) (Ls := (lc4 a1 1)) hml rfl (lenOf pd_1 rfl) d1_8 hby
  obtain ⟨rfl, N5q, e5⟩ := hQ5
  have N9 := Fr.app N3 N5q
  obtain ⟨_, T10, L10, X10, hQ10, st10⟩ := ocallS X5 hx hZ zm6 hown (ww hw 23 rfl) (ww hw 24 rfl) (by decide) (ww hw 26 rfl) (ww hw 25 rfl) e5 (rm4_6 l Z a0 hw [] b4 a6 h4 n0 Z_1 ) (st := [(.ref a6), (.ref b4), (.int 1), (.ref a1)]) rfl 2 rfl (by decide) (pc := 11) (Ls := (lc4 a1 1)) hml rfl (lenOf pd_5 rfl) d1_11 hby
  obtain ⟨b11, rfl, N10q, K10, sz12, f13, f14, f15⟩ := hQ10
  have N16 := Fr.app N9 N10q
  have f20 : Sta Z T10.heap zs16 zs17 zs18 (.ref a18) := (own_staK (Sta.ext E4 F19) K10 all0)
  have Z_2 : n0 ≤ T10.heap.size := Nat.le_trans Z_1 K10.1
  obtain ⟨_, T17, L17, X17, hQ17, st17⟩ := ocallS X10 hx hZ zm7 hown (ww hw 57 rfl) (ww hw 58 rfl) (by decide) (ww hw 60 rfl) (ww hw 59 rfl) rfl (rm10_7 l Z a0 hw [] a18 T10.heap n0 Z_2 f20) (st := [(.ref b11), (.int 1), (.ref a1)]) rfl 3 rfl (by decide) (pc := 14) (Ls := (lc4 a1 1)) hml rfl (lenOf pd_6 rfl) d1_14 hby
  obtain ⟨rfl, N17q, e17⟩ := hQ17
  have N21 := Fr.app N16 N17q
  have f24 : Fld Z T10.heap a1 zs0 "budget" "I" (.int 0) := ((Fld.ext E4 F23).keep K10 nin0)
  have f26 : Fld Z T10.heap a1 zs0 "classes" zs27 .null := ((Fld.ext E4 F25).keep K10 nin0)
  have f28 : Fld Z T10.heap a1 zs0 "backoff" zs28 .null := ((Fld.ext E4 F27).keep K10 nin0)
  have f30 : Exa Z T10.heap a1 zs0 := ((Exa.ext E4 F29).keep K10)
  have f33 : Exa Z T10.heap a18 zs22 := ((Exa.ext E4 F32).keep K10)
  have f35 : Fld Z T10.heap a18 zs22 zs26 "Z" (.int 0) := ((Fld.ext E4 F34).keep K10 nin0)
  obtain ⟨_, T22, L22, X22, hQ22, st22⟩ := ocallI X17 hx hZ zm11 rfl hown (ww hw 63 rfl) (ww hw 64 rfl) (by decide) (ww hw 65 rfl) (ww hw 3 rfl) e17 (rm11_13 l Z a0 hw [] a1 b11 a18 T10.heap n0 Z_2 f24 f26 f28 f30 g31 f13 f33 f35 ne36) (st := [(.ref a18), (.ref b11), (.int 1), (.ref a1)]) rfl 0 rfl (by decide) (pc := 17) (Ls := (lc4 a1 1)) hml rfl (lenOf pd_9 rfl) d1_17 hby
  obtain ⟨rfl, N22q, K22, f37, f38, f39⟩ := hQ22
  have N40 := Fr.app N21 N22q
  refine own_go (U' := T22.setTop (mkF m 20 (lc4 a1 1) [])) (fun t k => oaloadN X0 hx hby d1_0 rfl rfl (oiloadN X0 hx hby d1_1 rfl (st2 _ (st4 _ (oiconst X4 hx hby d1_7 (st5 _ (st10 _ (st17 _ (st22 _ k))))))))) ?_
  have f41 : Exa Z T22.heap b11 zs11 := (f13.keep K22)
  have ne42 : a1 ≠ b11 := Nat.ne_of_lt (Nat.lt_of_lt_of_le (Nat.lt_of_lt_of_le (F23.lt) E4.1) sz12)
  have f43 : Fld Z T22.heap b11 zs11 "k0" zs12 (.ref b4) := (f14.keep K22 (ninS (Ne.symm ne42) nin0))
  have f44 : Fld Z T22.heap b11 zs11 "v0" zs12 (.ref a6) := (f15.keep K22 (ninS (Ne.symm ne42) nin0))
  obtain ⟨fs, hr, hrun, hended, hW, hsame⟩ := X22.leave (v := none) (fun _ => rfl)
  have hE := hS4.ended hW (Nat.le_trans (Nat.le_trans hk4 K10.1) K22.1) hsame
  refine own_out ⟨_, _, ?_, hrun, hended, _, _, rfl, ?_, ⟨_, rfl⟩, hE.1, hE.2.1, hE.2.2.mono (by decide) (by decide)⟩
  · exact X22.returnOut hx Bd.returns (hb hby d1_20) hr
  · show Q1_14 Z a1 a6 a18 h0 n0 _ T22.heap _
    exact ⟨b11, b4, rfl, N40, (Keep.trans (Keep.trans ((Keep.refl h0 [a1]).ext E4) K10 all0) K22 (allS (Or.inl (List.mem_of_getElem? (i := 0) rfl)) all0)), (Nat.le_trans E4.1 sz12), f37, f38, f39, f41, f43, f44⟩
def Q15_15 (Z : State) (a1 : Addr) (p2 : Int32) (h0 : Heap) (n0 : Nat) (v : Option Value) (h : Heap) (L : List Loc) : Prop := v = some (.int 1) ∧ Fr n0 L ∧ h = h0
set_option maxRecDepth 65536 in
set_option maxHeartbeats 40000000 in
theorem rm15_15 (l : Launch) (Z : State) (a0 : Array Value) (hw : ∀ d ∈ tables_1, d.before a0 Z = true) (ws : List Jvm.Cond) (a1 : Addr) (p2 : Int32) (h0 : Heap) (n0 : Nat) (Z0 : n0 ≤ h0.size) (F3 : Fld Z h0 a1 zs0 "budget" "I" (.int 1)) (hc5 : p2 < (1 : Int32)) :
    MetFree l zm13 (head1 (Jvm.Cond.code zm13 prog_22_method_7_code 2 (some .boolean) :: ws) ({ frames := 0, cells := 0, slots := 0, locals := 0 } : Room)) (fun a U => a = #[(.ref a1), (.int p2)] ∧ Z.Warmed39 U.vm ∧ U.heap = h0) (fun _ _ _ _ _ => True) (fun _ U o U' => ∃ v L, o = .returned v ∧ Q15_15 Z a1 p2 h0 n0 v U'.heap L ∧ FrameEnd U o U' L ({ frames := 0, cells := 0, slots := 0, locals := 0 } : Room).cells ({ frames := 0, cells := 0, slots := 0, locals := 0 } : Room).slots) := by
  refine MetFree.of_bodySF (plainFor_of_name pn_0) hisR ?_
  intro p e s m args below meth c s₁ Bd hml0 hP hK
  obtain ⟨rfl, hZ, hh⟩ := hP
  have hx := Bd.exec
  have hby := Bd.bytes
  have hml : c.maxLocals = 2 := hml0
  have hown : s.vm.findClass zs0 = some m.cls := findClass_of_methodNamed Bd.named
  have hnm := (name_of_methodNamed Bd.named Bd.method).1
  have X0 : Stand p l e ({ frames := 0, cells := 0, slots := 0, locals := 0 } : Room) s m #[(.ref a1), (.int p2)] below meth c s₁ [] 0 0 := Stand.of_body Bd
  have e0 : s₁.heap = h0 := by rw [← hh, Bd.state]; rfl
  have N0 := Fr.nil n0
  refine own_pre (g' := mkF m 0 (lc4 a1 p2) []) (ef_7 m a1 p2) ?_
  obtain ⟨T4, X4, e4, st4⟩ := getF X0 hx hZ hown (host := "") (Or.inl (ww hw 67 rfl)) Via.refl e0 F3 (g := (mkF m 2 (lc4 a1 p2) [(.ref a1), (.int p2)])) rfl rfl (hb hby d15_2)
  refine own_go (U' := T4.setTop (mkF m 5 (lc4 a1 p2) [(.int 1), (.int p2)])) (fun t k => oiloadN X0 hx hby d15_0 rfl (oaloadN X0 hx hby d15_1 rfl rfl (st4 _ k))) ?_
  refine own_go (U' := T4.setTop (mkF m 13 (lc4 a1 p2) [(.int 1)])) (fun t k => oicN X4 hx hby d15_5 (tlt hc5).2.1 (oiconst X4 hx hby d15_8 (ogoto (pc := 9) X4 hx hby d15_9 13 (by decide) k))) ?_
  obtain ⟨fs, hr, hrun, hended, hW, hsame⟩ := X4.leave (v := some (.int 1)) (fun h => by rw [Bd.returns] at h; cases h)
  refine own_out ⟨_, _, ?_, hrun, hended, _, _, rfl, ?_, ⟨_, rfl⟩, hW, hsame.mono (by decide) (by decide)⟩
  · exact retN X4 hx (t := .boolean) Bd.returns (by simp) (hb hby d15_13) hr
  · show Q15_15 Z a1 p2 h0 n0 _ T4.heap _
    rw [e4]
    exact ⟨rfl, N0, rfl⟩
def Q15_16 (Z : State) (a1 : Addr) (h0 : Heap) (n0 : Nat) (v : Option Value) (h : Heap) (L : List Loc) : Prop := v = some (.int 1) ∧ Fr n0 L ∧ h = h0
set_option maxRecDepth 65536 in
set_option maxHeartbeats 40000000 in
theorem rm15_16 (l : Launch) (Z : State) (a0 : Array Value) (hw : ∀ d ∈ tables_1, d.before a0 Z = true) (ws : List Jvm.Cond) (a1 : Addr) (h0 : Heap) (n0 : Nat) (Z0 : n0 ≤ h0.size) (F2 : Fld Z h0 a1 zs0 "budget" "I" (.int 1)) :
    MetFree l zm13 (head1 (Jvm.Cond.code zm13 prog_22_method_7_code 2 (some .boolean) :: ws) ({ frames := 0, cells := 0, slots := 0, locals := 0 } : Room)) (fun a U => a = #[(.ref a1), (.int 0)] ∧ Z.Warmed39 U.vm ∧ U.heap = h0) (fun _ _ _ _ _ => True) (fun _ U o U' => ∃ v L, o = .returned v ∧ Q15_16 Z a1 h0 n0 v U'.heap L ∧ FrameEnd U o U' L ({ frames := 0, cells := 0, slots := 0, locals := 0 } : Room).cells ({ frames := 0, cells := 0, slots := 0, locals := 0 } : Room).slots) := by
  refine MetFree.of_bodySF (plainFor_of_name pn_0) hisR ?_
  intro p e s m args below meth c s₁ Bd hml0 hP hK
  obtain ⟨rfl, hZ, hh⟩ := hP
  have hx := Bd.exec
  have hby := Bd.bytes
  have hml : c.maxLocals = 2 := hml0
  have hown : s.vm.findClass zs0 = some m.cls := findClass_of_methodNamed Bd.named
  have hnm := (name_of_methodNamed Bd.named Bd.method).1
  have X0 : Stand p l e ({ frames := 0, cells := 0, slots := 0, locals := 0 } : Room) s m #[(.ref a1), (.int 0)] below meth c s₁ [] 0 0 := Stand.of_body Bd
  have e0 : s₁.heap = h0 := by rw [← hh, Bd.state]; rfl
  have N0 := Fr.nil n0
  refine own_pre (g' := mkF m 0 (lc4 a1 0) []) (ef_7 m a1 (0 : Int32)) ?_
  obtain ⟨T3, X3, e3, st3⟩ := getF X0 hx hZ hown (host := "") (Or.inl (ww hw 67 rfl)) Via.refl e0 F2 (g := (mkF m 2 (lc4 a1 0) [(.ref a1), (.int 0)])) rfl rfl (hb hby d15_2)
  refine own_go (U' := T3.setTop (mkF m 5 (lc4 a1 0) [(.int 1), (.int 0)])) (fun t k => oiloadN X0 hx hby d15_0 rfl (oaloadN X0 hx hby d15_1 rfl rfl (st3 _ k))) ?_
  refine own_go (U' := T3.setTop (mkF m 13 (lc4 a1 0) [(.int 1)])) (fun t k => oicN X3 hx hby d15_5 (by decide) (oiconst X3 hx hby d15_8 (ogoto (pc := 9) X3 hx hby d15_9 13 (by decide) k))) ?_
  obtain ⟨fs, hr, hrun, hended, hW, hsame⟩ := X3.leave (v := some (.int 1)) (fun h => by rw [Bd.returns] at h; cases h)
  refine own_out ⟨_, _, ?_, hrun, hended, _, _, rfl, ?_, ⟨_, rfl⟩, hW, hsame.mono (by decide) (by decide)⟩
  · exact retN X3 hx (t := .boolean) Bd.returns (by simp) (hb hby d15_13) hr
  · show Q15_16 Z a1 h0 n0 _ T3.heap _
    rw [e3]
    exact ⟨rfl, N0, rfl⟩
def Q15_17 (Z : State) (a1 : Addr) (h0 : Heap) (n0 : Nat) (v : Option Value) (h : Heap) (L : List Loc) : Prop := v = some (.int 0) ∧ Fr n0 L ∧ h = h0
set_option maxRecDepth 65536 in
set_option maxHeartbeats 40000000 in
theorem rm15_17 (l : Launch) (Z : State) (a0 : Array Value) (hw : ∀ d ∈ tables_1, d.before a0 Z = true) (ws : List Jvm.Cond) (a1 : Addr) (h0 : Heap) (n0 : Nat) (Z0 : n0 ≤ h0.size) (F2 : Fld Z h0 a1 zs0 "budget" "I" (.int 1)) :
    MetFree l zm13 (head1 (Jvm.Cond.code zm13 prog_22_method_7_code 2 (some .boolean) :: ws) ({ frames := 0, cells := 0, slots := 0, locals := 0 } : Room)) (fun a U => a = #[(.ref a1), (.int 1)] ∧ Z.Warmed39 U.vm ∧ U.heap = h0) (fun _ _ _ _ _ => True) (fun _ U o U' => ∃ v L, o = .returned v ∧ Q15_17 Z a1 h0 n0 v U'.heap L ∧ FrameEnd U o U' L ({ frames := 0, cells := 0, slots := 0, locals := 0 } : Room).cells ({ frames := 0, cells := 0, slots := 0, locals := 0 } : Room).slots) := by
  refine MetFree.of_bodySF (plainFor_of_name pn_0) hisR ?_
  intro p e s m args below meth c s₁ Bd hml0 hP hK
  obtain ⟨rfl, hZ, hh⟩ := hP
  have hx := Bd.exec
  have hby := Bd.bytes
  have hml : c.maxLocals = 2 := hml0
  have hown : s.vm.findClass zs0 = some m.cls := findClass_of_methodNamed Bd.named
  have hnm := (name_of_methodNamed Bd.named Bd.method).1
  have X0 : Stand p l e ({ frames := 0, cells := 0, slots := 0, locals := 0 } : Room) s m #[(.ref a1), (.int 1)] below meth c s₁ [] 0 0 := Stand.of_body Bd
  have e0 : s₁.heap = h0 := by rw [← hh, Bd.state]; rfl
  have N0 := Fr.nil n0
  refine own_pre (g' := mkF m 0 (lc4 a1 1) []) (ef_7 m a1 (1 : Int32)) ?_
  obtain ⟨T3, X3, e3, st3⟩ := getF X0 hx hZ hown (host := "") (Or.inl (ww hw 67 rfl)) Via.refl e0 F2 (g := (mkF m 2 (lc4 a1 1) [(.ref a1), (.int 1)])) rfl rfl (hb hby d15_2)
  refine own_go (U' := T3.setTop (mkF m 5 (lc4 a1 1) [(.int 1), (.int 1)])) (fun t k => oiloadN X0 hx hby d15_0 rfl (oaloadN X0 hx hby d15_1 rfl rfl (st3 _ k))) ?_
  refine own_go (U' := T3.setTop (mkF m 13 (lc4 a1 1) [(.int 0)])) (fun t k => oicY (pc := 5) X3 hx hby d15_5 12 (by decide) (by decide) (oiconst X3 hx hby d15_12 k)) ?_
  obtain ⟨fs, hr, hrun, hended, hW, hsame⟩ := X3.leave (v := some (.int 0)) (fun h => by rw [Bd.returns] at h; cases h)
  refine own_out ⟨_, _, ?_, hrun, hended, _, _, rfl, ?_, ⟨_, rfl⟩, hW, hsame.mono (by decide) (by decide)⟩
  · exact retN X3 hx (t := .boolean) Bd.returns (by simp) (hb hby d15_13) hr
  · show Q15_17 Z a1 h0 n0 _ T3.heap _
    rw [e3]
    exact ⟨rfl, N0, rfl⟩
def Q16_18 (Z : State) (a1 : Addr) (h0 : Heap) (n0 : Nat) (v : Option Value) (h : Heap) (L : List Loc) : Prop := v = some (.int 1) ∧ Fr n0 L ∧ h = h0
set_option maxRecDepth 65536 in
set_option maxHeartbeats 40000000 in
theorem rm16_18 (l : Launch) (Z : State) (a0 : Array Value) (hw : ∀ d ∈ tables_1, d.before a0 Z = true) (ws : List Jvm.Cond) (a1 : Addr) (h0 : Heap) (n0 : Nat) (Z0 : n0 ≤ h0.size) (F2 : Fld Z h0 a1 zs0 "budget" "I" (.int 1)) :
    MetFree l zm14 (head1 (Jvm.Cond.code zm14 prog_22_method_6_code 1 (some .int) :: ws) ({ frames := 0, cells := 0, slots := 0, locals := 0 } : Room)) (fun a U => a = #[(.ref a1)] ∧ Z.Warmed39 U.vm ∧ U.heap = h0) (fun _ _ _ _ _ => True) (fun _ U o U' => ∃ v L, o = .returned v ∧ Q16_18 Z a1 h0 n0 v U'.heap L ∧ FrameEnd U o U' L ({ frames := 0, cells := 0, slots := 0, locals := 0 } : Room).cells ({ frames := 0, cells := 0, slots := 0, locals := 0 } : Room).slots) := by
  refine MetFree.of_bodySF (plainFor_of_name pn_0) hisR ?_
  intro p e s m args below meth c s₁ Bd hml0 hP hK
  obtain ⟨rfl, hZ, hh⟩ := hP
  have hx := Bd.exec
  have hby := Bd.bytes
  have hml : c.maxLocals = 1 := hml0
  have hown : s.vm.findClass zs0 = some m.cls := findClass_of_methodNamed Bd.named
  have hnm := (name_of_methodNamed Bd.named Bd.method).1
  have X0 : Stand p l e ({ frames := 0, cells := 0, slots := 0, locals := 0 } : Room) s m #[(.ref a1)] below meth c s₁ [] 0 0 := Stand.of_body Bd
  have e0 : s₁.heap = h0 := by rw [← hh, Bd.state]; rfl
  have N0 := Fr.nil n0
  refine own_pre (g' := mkF m 0 (lc8 a1) []) (ef_1 m a1) ?_
  obtain ⟨T3, X3, e3, st3⟩ := getF X0 hx hZ hown (host := "") (Or.inl (ww hw 67 rfl)) Via.refl e0 F2 (g := (mkF m 1 (lc8 a1) [(.ref a1)])) rfl rfl (hb hby d16_1)
  refine own_go (U' := T3.setTop (mkF m 4 (lc8 a1) [(.int 1)])) (fun t k => oaloadN X0 hx hby d16_0 rfl rfl (st3 _ k)) ?_
  obtain ⟨fs, hr, hrun, hended, hW, hsame⟩ := X3.leave (v := some (.int 1)) (fun h => by rw [Bd.returns] at h; cases h)
  refine own_out ⟨_, _, ?_, hrun, hended, _, _, rfl, ?_, ⟨_, rfl⟩, hW, hsame.mono (by decide) (by decide)⟩
  · exact retI X3 hx Bd.returns (hb hby d16_4) hr
  · show Q16_18 Z a1 h0 n0 _ T3.heap _
    rw [e3]
    exact ⟨rfl, N0, rfl⟩
set_option maxRecDepth 65536 in
set_option maxHeartbeats 40000000 in
theorem rm0_19 (l : Launch) (Z : State) (a0 : Array Value) (hw : ∀ d ∈ tables_1, d.before a0 Z = true) (ws : List Jvm.Cond) (p1 p2 p3 : Int32) (a13 a16 : Addr) (h0 : Heap) (n0 : Nat) (Z0 : n0 ≤ h0.size) (hc5 : (p1 &&& (2147483647 : Int32)) = (0 : Int32)) (hv7 : (p3 &&& (3 : Int32)) = (0 : Int32)) (F14 : Sta Z h0 zs2 "TRUE" zs3 (.ref a13)) (F17 : Sta Z h0 zs16 zs17 zs18 (.ref a16)) (F20 : Exa Z h0 a16 zs22) (F22 : Fld Z h0 a16 zs22 zs26 "Z" (.int 0)) (hc37 : p2 < (1 : Int32)) (hc39 : (0 : Int64) < ((1 : Int64) - (p2.toInt64))) :
    MetFree l x (head1 (Jvm.Cond.code x code maxLocals ret :: ws) room_1) (fun a U => a = #[(.int p1), (.int p2), (.int p3)] ∧ Z.Warmed39 U.vm ∧ U.heap = h0) (fun _ _ _ _ _ => True) (fun _ U o U' => ∃ v L, o = .returned v ∧ QLaw n0 v U'.heap L ∧ ReturnedEndW U o U' L room_1.cells room_1.slots) := by
  refine MetFree.of_bodySF (plainFor_of_name pn_9) hisR ?_
  intro p e s m args below meth c s₁ Bd hml0 hP hK
  obtain ⟨rfl, hZ, hh⟩ := hP
  have hx := Bd.exec
  have hby := Bd.bytes
  have hml : c.maxLocals = 11 := hml0
  have hown : s.vm.findClass zs32 = some m.cls := findClass_of_methodNamed Bd.named
  have hnm := (name_of_methodNamed Bd.named Bd.method).1
  have X0 : Stand p l e room_1 s m #[(.int p1), (.int p2), (.int p3)] below meth c s₁ [] 0 0 := Stand.of_body Bd
  have e0 : s₁.heap = h0 := by rw [← hh, Bd.state]; rfl
  have N0 := Fr.nil n0
  refine own_pre (g' := mkF m 0 (lc0 p1 p2 p3) []) (ef_8 m p1 p2 p3) ?_
  refine own_go (U' := s₁.setTop (mkF m 5 (lc1 p1 p2 p3 (p1 &&& (2147483647 : Int32))) [])) (fun t k => oiloadN X0 hx hby at_0 rfl (X0.ldcInt hx hown (mvT hZ (ww hw 0 rfl)) (g := (mkF m 1 (lc0 p1 p2 p3) [(.int p1)])) rfl (hb hby at_1) _ (oiand X0 hx hby at_3 (oistoreN X0 hx hby at_4 (lc1 p1 p2 p3 (p1 &&& (2147483647 : Int32))) rfl k)))) ?_
  obtain ⟨z4, hz4⟩ : ∃ z, z = (p1 &&& (2147483647 : Int32)) := ⟨_, rfl⟩
  rw [← hz4]
  refine own_go (U' := s₁.setTop (mkF m 6 (lc1 p1 p2 p3 z4) [(.int z4)])) (fun t k => oiloadN X0 hx hby at_5 rfl k) ?_
  have hs6 : z4 = (0 : Int32) := by rw [hz4]; exact hc5
  refine own_go (U' := s₁.setTop (mkF m 14 (lc1 p1 p2 p3 1) [(.int (p3 &&& (3 : Int32)))])) (fun t k => oifN X0 hx hby at_6 ((if0 _ _).trans (teq hs6).2) (oiconst X0 hx hby at_9 (oistoreN X0 hx hby at_10 (lc1 p1 p2 p3 1) rfl (oiloadN X0 hx hby at_11 rfl (oiconst X0 hx hby at_12 (oiand X0 hx hby at_13 k)))))) ?_
  rw [hv7]
  refine own_go (U' := s₁.setTop (mkF m 18 (lc2 p1 p2 p3 1 0) [(.int 0)])) (fun t k => oistore X0 hx hby at_14 (lc2 p1 p2 p3 1 0) rfl (oiload X0 hx hby at_16 rfl k)) ?_
  obtain ⟨T8, h8, X8, e8, E8, A8, D8, -, st8⟩ := newO X0 hx hZ hown (ww hw 1 rfl) (ww hw 2 rfl) (ww hw 3 rfl) e0 (g := (mkF m 60 (lc3 p1 p2 p3 1 0 p2) [])) rfl (hb hby at_60) (by decide) (by decide)
  obtain ⟨b8, g8⟩ : ∃ z, z = h0.size := ⟨_, rfl⟩
  rw [← g8] at A8 D8 st8
  have f9 : Fld Z h8 b8 zs0 "budget" "I" (.int 0) := D8 (Or.inr (ww hw 68 rfl)) (ty := .int) (by decide)
  have f10 : Fld Z h8 b8 zs0 "classes" zs27 .null := D8 (Or.inr (ww hw 74 rfl)) (ty := (.object zs14)) (by decide)
  have f11 : Fld Z h8 b8 zs0 "backoff" zs28 .null := D8 (Or.inr (ww hw 94 rfl)) (ty := (.object zs19)) (by decide)
  have f15 : Sta Z h8 zs2 "TRUE" zs3 (.ref a13) := (Sta.ext E8 F14)
  have f18 : Sta Z h8 zs16 zs17 zs18 (.ref a16) := (Sta.ext E8 F17)
  have g19 : n0 ≤ b8 := Nat.le_trans Z0 (Nat.le_of_eq g8.symm)
  have f21 : Exa Z h8 a16 zs22 := (Exa.ext E8 F20)
  have f23 : Fld Z h8 a16 zs22 zs26 "Z" (.int 0) := (Fld.ext E8 F22)
  have ne24 : a16 ≠ b8 := Nat.ne_of_lt (Nat.lt_of_lt_of_le (F20.lt) (Nat.le_of_eq g8.symm))
  have Z_1 : n0 ≤ h8.size := Nat.le_trans Z0 E8.1
  obtain ⟨_, T12, L12, X12, hQ12, hS12, hZ, hown, st12⟩ := ocallIS (s := s) (vm0 := s.vm) X8 hx hZ zm12 rfl hown (ww hw 4 rfl) (ww hw 5 rfl) (by decide) (ww hw 6 rfl) (ww hw 3 rfl) e8 (rm1_14 l Z a0 hw [] b8 a13 a16 h8 n0 Z_1 f15 f18 f9 f10 f11 A8 g19 f21 f23 ne24) (st := [(.int 1), (.ref b8), (.ref b8)]) rfl 1 rfl (by decide) (pc := 65) (Ls := (lc3 p1 p2 p3 1 0 p2)) hml rfl (lenOf pd_10 rfl) at_65 hby ((State.WarmedH.refl s).since 0) (Nat.zero_le _)
  obtain ⟨b25, b26, rfl, N12q, K12, sz27, f28, f29, f30, f31, f32, f33⟩ := hQ12
  have N34 := Fr.app N0 N12q
  have f36 : Exa Z T12.heap b8 zs0 := (A8.keep K12)
  have Z_2 : n0 ≤ T12.heap.size := Nat.le_trans Z_1 K12.1
  obtain ⟨_, T35, L35, X35, hQ35, st35⟩ := ocallV X12 hx hZ zm13 zm13 hown (ww hw 95 rfl) (ww hw 96 rfl) (notFace_of_selects (args := #[]) (mvT hZ (ww hw 98 rfl))) (ww hw 98 rfl) (ww hw 97 rfl) (by decide) (ww hw 99 rfl) (ww hw 3 rfl) rfl f36 (rm15_15 l Z a0 hw [] b8 p2 T12.heap n0 Z_2 f28 hc37) (st := [(.int p2), (.ref b8)]) rfl 0 rfl (by decide) (pc := 74) (Ls := (lc12 p1 p2 p3 1 0 p2 b8)) hml rfl (lenOf pd_11 rfl) at_74 hby
  obtain ⟨rfl, N35q, e35⟩ := hQ35
  have N38 := Fr.app N34 N35q
  refine own_go (U' := T35.setTop (mkF m 87 (lc13 p1 p2 p3 1 0 p2 b8 1) [(.int (lcmpW ((1 : Int64) - (p2.toInt64)) (0 : Int64)))])) (fun t k => oifN X0 hx hby at_18 (by decide) (oiloadN X0 hx hby at_21 rfl (oistore X0 hx hby at_22 (lc3 p1 p2 p3 1 0 p2) rfl (ogoto (pc := 24) X0 hx hby at_24 60 (by decide) (st8 _ (odup X8 hx hby at_63 rfl (oiloadN X8 hx hby at_64 rfl (st12 _ (oastore X12 hx hby at_68 (lc12 p1 p2 p3 1 0 p2 b8) rfl rfl (oaload X12 hx hby at_70 rfl rfl (oiload X12 hx hby at_72 rfl (st35 _ (oistore X35 hx hby at_77 (lc13 p1 p2 p3 1 0 p2 b8 1) rfl (oiloadN X35 hx hby at_79 rfl (oi2l X35 hx hby at_80 (oiload X35 hx hby at_81 rfl (oi2l X35 hx hby at_83 (olsub X35 hx hby at_84 (olconst X35 hx hby at_85 (olcmp X35 hx hby at_86 k)))))))))))))))))))) ?_
  obtain ⟨_, T40, L40, X40, hQ40, st40⟩ := ocallV X35 hx hZ zm13 zm13 hown (ww hw 95 rfl) (ww hw 96 rfl) (notFace_of_selects (args := #[]) (mvT hZ (ww hw 98 rfl))) (ww hw 98 rfl) (ww hw 97 rfl) (by decide) (ww hw 99 rfl) (ww hw 3 rfl) e35 f36 (rm15_16 l Z a0 hw [] b8 T12.heap n0 Z_2 f28) (st := [(.int 0), (.ref b8)]) rfl 0 rfl (by decide) (pc := 102) (Ls := (lc14 p1 p2 p3 1 0 p2 b8 1 1)) hml rfl (lenOf pd_11 rfl) at_102 hby
  obtain ⟨rfl, N40q, e40⟩ := hQ40
  have N41 := Fr.app N38 N40q
  obtain ⟨_, T42, L42, X42, hQ42, st42⟩ := ocallV X40 hx hZ zm13 zm13 hown (ww hw 95 rfl) (ww hw 96 rfl) (notFace_of_selects (args := #[]) (mvT hZ (ww hw 98 rfl))) (ww hw 98 rfl) (ww hw 97 rfl) (by decide) (ww hw 99 rfl) (ww hw 3 rfl) e40 f36 (rm15_17 l Z a0 hw [] b8 T12.heap n0 Z_2 f28) (st := [(.int 1), (.ref b8)]) rfl 0 rfl (by decide) (pc := 110) (Ls := (lc15 p1 p2 p3 1 0 p2 b8 1 1 1)) hml rfl (lenOf pd_11 rfl) at_110 hby
  obtain ⟨rfl, N42q, e42⟩ := hQ42
  have N43 := Fr.app N41 N42q
  refine own_go (U' := T42.setTop (mkF m 119 (lc16 p1 p2 p3 1 0 p2 b8 1 1 1 0) [(.int 1), (.int 1)])) (fun t k => oifN X35 hx hby at_87 (own_ll_le_f hc39) (oiconst X35 hx hby at_90 (ogoto (pc := 91) X35 hx hby at_91 95 (by decide) (oistore X35 hx hby at_95 (lc14 p1 p2 p3 1 0 p2 b8 1 1) rfl (oaload X35 hx hby at_97 rfl rfl (oiloadN X35 hx hby at_99 rfl (oiconst X35 hx hby at_100 (oisub X35 hx hby at_101 (st40 _ (oistore X40 hx hby at_105 (lc15 p1 p2 p3 1 0 p2 b8 1 1 1) rfl (oaload X40 hx hby at_107 rfl rfl (oiloadN X40 hx hby at_109 rfl (st42 _ (oistore X42 hx hby at_113 (lc16 p1 p2 p3 1 0 p2 b8 1 1 1 0) rfl (oiload X42 hx hby at_115 rfl (oiload X42 hx hby at_117 rfl k)))))))))))))))) ?_
  refine own_go (U' := T42.setTop (mkF m 124 (lc16 p1 p2 p3 1 0 p2 b8 1 1 1 0) [(.int 1)])) (fun t k => oicN X42 hx hby at_119 (by decide) (oiload X42 hx hby at_122 rfl k)) ?_
  refine own_go (U' := T42.setTop (mkF m 129 (lc16 p1 p2 p3 1 0 p2 b8 1 1 1 0) [(.int 0)])) (fun t k => oifN X42 hx hby at_124 (by decide) (oiload X42 hx hby at_127 rfl k)) ?_
  obtain ⟨_, T44, L44, X44, hQ44, st44⟩ := ocallV X42 hx hZ zm14 zm14 hown (ww hw 100 rfl) (ww hw 101 rfl) (notFace_of_selects (args := #[]) (mvT hZ (ww hw 103 rfl))) (ww hw 103 rfl) (ww hw 102 rfl) (by decide) (ww hw 104 rfl) (ww hw 3 rfl) e42 f36 (rm16_18 l Z a0 hw [] b8 T12.heap n0 Z_2 f28) (st := [(.ref b8)]) rfl 0 rfl (by decide) (pc := 134) (Ls := (lc16 p1 p2 p3 1 0 p2 b8 1 1 1 0)) hml rfl (lenOf pd_12 rfl) at_134 hby
  obtain ⟨rfl, N44q, e44⟩ := hQ44
  have N45 := Fr.app N43 N44q
  refine own_go (U' := T44.setTop (mkF m 138 (lc16 p1 p2 p3 1 0 p2 b8 1 1 1 0) [(.int 1), (.int 1)])) (fun t k => oifN X42 hx hby at_129 (by decide) (oaload X42 hx hby at_132 rfl rfl (st44 _ (oiloadN X44 hx hby at_137 rfl k)))) ?_
  refine own_go (U' := T44.setTop (mkF m 146 (lc16 p1 p2 p3 1 0 p2 b8 1 1 1 0) [(.int 1)])) (fun t k => oicN X44 hx hby at_138 (by decide) (oiconst X44 hx hby at_141 (ogoto (pc := 142) X44 hx hby at_142 146 (by decide) k))) ?_
  obtain ⟨fs, hr, hrun, hended, hW, hsame⟩ := X44.leave (v := some (.int 1)) (fun h => by rw [Bd.returns] at h; cases h)
  have hE := hS12.ended hW (by show _ ≤ T44.heap.size; rw [e44]; exact (Nat.le_refl _)) hsame
  refine own_out ⟨_, _, ?_, hrun, hended, _, _, rfl, ?_, ⟨_, rfl⟩, hE.1, hE.2.1, hE.2.2.mono (by decide) (by decide)⟩
  · exact retN X44 hx (t := .boolean) Bd.returns (by simp) (hb hby at_146) hr
  · exact ⟨rfl, N45⟩
def Q15_20 (Z : State) (a1 : Addr) (p2 : Int32) (h0 : Heap) (n0 : Nat) (v : Option Value) (h : Heap) (L : List Loc) : Prop := v = some (.int 0) ∧ Fr n0 L ∧ h = h0
set_option maxRecDepth 65536 in
set_option maxHeartbeats 40000000 in
theorem rm15_20 (l : Launch) (Z : State) (a0 : Array Value) (hw : ∀ d ∈ tables_1, d.before a0 Z = true) (ws : List Jvm.Cond) (a1 : Addr) (p2 : Int32) (h0 : Heap) (n0 : Nat) (Z0 : n0 ≤ h0.size) (F3 : Fld Z h0 a1 zs0 "budget" "I" (.int 1)) (hc5 : ¬ (p2 < (1 : Int32))) :
    MetFree l zm13 (head1 (Jvm.Cond.code zm13 prog_22_method_7_code 2 (some .boolean) :: ws) ({ frames := 0, cells := 0, slots := 0, locals := 0 } : Room)) (fun a U => a = #[(.ref a1), (.int p2)] ∧ Z.Warmed39 U.vm ∧ U.heap = h0) (fun _ _ _ _ _ => True) (fun _ U o U' => ∃ v L, o = .returned v ∧ Q15_20 Z a1 p2 h0 n0 v U'.heap L ∧ FrameEnd U o U' L ({ frames := 0, cells := 0, slots := 0, locals := 0 } : Room).cells ({ frames := 0, cells := 0, slots := 0, locals := 0 } : Room).slots) := by
  refine MetFree.of_bodySF (plainFor_of_name pn_0) hisR ?_
  intro p e s m args below meth c s₁ Bd hml0 hP hK
  obtain ⟨rfl, hZ, hh⟩ := hP
  have hx := Bd.exec
  have hby := Bd.bytes
  have hml : c.maxLocals = 2 := hml0
  have hown : s.vm.findClass zs0 = some m.cls := findClass_of_methodNamed Bd.named
  have hnm := (name_of_methodNamed Bd.named Bd.method).1
  have X0 : Stand p l e ({ frames := 0, cells := 0, slots := 0, locals := 0 } : Room) s m #[(.ref a1), (.int p2)] below meth c s₁ [] 0 0 := Stand.of_body Bd
  have e0 : s₁.heap = h0 := by rw [← hh, Bd.state]; rfl
  have N0 := Fr.nil n0
  refine own_pre (g' := mkF m 0 (lc4 a1 p2) []) (ef_7 m a1 p2) ?_
  obtain ⟨T4, X4, e4, st4⟩ := getF X0 hx hZ hown (host := "") (Or.inl (ww hw 67 rfl)) Via.refl e0 F3 (g := (mkF m 2 (lc4 a1 p2) [(.ref a1), (.int p2)])) rfl rfl (hb hby d15_2)
  refine own_go (U' := T4.setTop (mkF m 5 (lc4 a1 p2) [(.int 1), (.int p2)])) (fun t k => oiloadN X0 hx hby d15_0 rfl (oaloadN X0 hx hby d15_1 rfl rfl (st4 _ k))) ?_
  refine own_go (U' := T4.setTop (mkF m 13 (lc4 a1 p2) [(.int 0)])) (fun t k => oicY (pc := 5) X4 hx hby d15_5 12 (flt hc5).2.1 (by decide) (oiconst X4 hx hby d15_12 k)) ?_
  obtain ⟨fs, hr, hrun, hended, hW, hsame⟩ := X4.leave (v := some (.int 0)) (fun h => by rw [Bd.returns] at h; cases h)
  refine own_out ⟨_, _, ?_, hrun, hended, _, _, rfl, ?_, ⟨_, rfl⟩, hW, hsame.mono (by decide) (by decide)⟩
  · exact retN X4 hx (t := .boolean) Bd.returns (by simp) (hb hby d15_13) hr
  · show Q15_20 Z a1 p2 h0 n0 _ T4.heap _
    rw [e4]
    exact ⟨rfl, N0, rfl⟩
set_option maxRecDepth 65536 in
set_option maxHeartbeats 40000000 in
theorem rm0_21 (l : Launch) (Z : State) (a0 : Array Value) (hw : ∀ d ∈ tables_1, d.before a0 Z = true) (ws : List Jvm.Cond) (p1 p2 p3 : Int32) (a13 a16 : Addr) (h0 : Heap) (n0 : Nat) (Z0 : n0 ≤ h0.size) (hc5 : (p1 &&& (2147483647 : Int32)) = (0 : Int32)) (hv7 : (p3 &&& (3 : Int32)) = (0 : Int32)) (F14 : Sta Z h0 zs2 "TRUE" zs3 (.ref a13)) (F17 : Sta Z h0 zs16 zs17 zs18 (.ref a16)) (F20 : Exa Z h0 a16 zs22) (F22 : Fld Z h0 a16 zs22 zs26 "Z" (.int 0)) (hc37 : ¬ (p2 < (1 : Int32))) (hc39 : ¬ ((0 : Int64) < ((1 : Int64) - (p2.toInt64)))) :
    MetFree l x (head1 (Jvm.Cond.code x code maxLocals ret :: ws) room_1) (fun a U => a = #[(.int p1), (.int p2), (.int p3)] ∧ Z.Warmed39 U.vm ∧ U.heap = h0) (fun _ _ _ _ _ => True) (fun _ U o U' => ∃ v L, o = .returned v ∧ QLaw n0 v U'.heap L ∧ ReturnedEndW U o U' L room_1.cells room_1.slots) := by
  refine MetFree.of_bodySF (plainFor_of_name pn_9) hisR ?_
  intro p e s m args below meth c s₁ Bd hml0 hP hK
  obtain ⟨rfl, hZ, hh⟩ := hP
  have hx := Bd.exec
  have hby := Bd.bytes
  have hml : c.maxLocals = 11 := hml0
  have hown : s.vm.findClass zs32 = some m.cls := findClass_of_methodNamed Bd.named
  have hnm := (name_of_methodNamed Bd.named Bd.method).1
  have X0 : Stand p l e room_1 s m #[(.int p1), (.int p2), (.int p3)] below meth c s₁ [] 0 0 := Stand.of_body Bd
  have e0 : s₁.heap = h0 := by rw [← hh, Bd.state]; rfl
  have N0 := Fr.nil n0
  refine own_pre (g' := mkF m 0 (lc0 p1 p2 p3) []) (ef_8 m p1 p2 p3) ?_
  refine own_go (U' := s₁.setTop (mkF m 5 (lc1 p1 p2 p3 (p1 &&& (2147483647 : Int32))) [])) (fun t k => oiloadN X0 hx hby at_0 rfl (X0.ldcInt hx hown (mvT hZ (ww hw 0 rfl)) (g := (mkF m 1 (lc0 p1 p2 p3) [(.int p1)])) rfl (hb hby at_1) _ (oiand X0 hx hby at_3 (oistoreN X0 hx hby at_4 (lc1 p1 p2 p3 (p1 &&& (2147483647 : Int32))) rfl k)))) ?_
  obtain ⟨z4, hz4⟩ : ∃ z, z = (p1 &&& (2147483647 : Int32)) := ⟨_, rfl⟩
  rw [← hz4]
  refine own_go (U' := s₁.setTop (mkF m 6 (lc1 p1 p2 p3 z4) [(.int z4)])) (fun t k => oiloadN X0 hx hby at_5 rfl k) ?_
  have hs6 : z4 = (0 : Int32) := by rw [hz4]; exact hc5
  refine own_go (U' := s₁.setTop (mkF m 14 (lc1 p1 p2 p3 1) [(.int (p3 &&& (3 : Int32)))])) (fun t k => oifN X0 hx hby at_6 ((if0 _ _).trans (teq hs6).2) (oiconst X0 hx hby at_9 (oistoreN X0 hx hby at_10 (lc1 p1 p2 p3 1) rfl (oiloadN X0 hx hby at_11 rfl (oiconst X0 hx hby at_12 (oiand X0 hx hby at_13 k)))))) ?_
  rw [hv7]
  refine own_go (U' := s₁.setTop (mkF m 18 (lc2 p1 p2 p3 1 0) [(.int 0)])) (fun t k => oistore X0 hx hby at_14 (lc2 p1 p2 p3 1 0) rfl (oiload X0 hx hby at_16 rfl k)) ?_
  obtain ⟨T8, h8, X8, e8, E8, A8, D8, -, st8⟩ := newO X0 hx hZ hown (ww hw 1 rfl) (ww hw 2 rfl) (ww hw 3 rfl) e0 (g := (mkF m 60 (lc3 p1 p2 p3 1 0 p2) [])) rfl (hb hby at_60) (by decide) (by decide)
  obtain ⟨b8, g8⟩ : ∃ z, z = h0.size := ⟨_, rfl⟩
  rw [← g8] at A8 D8 st8
  have f9 : Fld Z h8 b8 zs0 "budget" "I" (.int 0) := D8 (Or.inr (ww hw 68 rfl)) (ty := .int) (by decide)
  have f10 : Fld Z h8 b8 zs0 "classes" zs27 .null := D8 (Or.inr (ww hw 74 rfl)) (ty := (.object zs14)) (by decide)
  have f11 : Fld Z h8 b8 zs0 "backoff" zs28 .null := D8 (Or.inr (ww hw 94 rfl)) (ty := (.object zs19)) (by decide)
  have f15 : Sta Z h8 zs2 "TRUE" zs3 (.ref a13) := (Sta.ext E8 F14)
  have f18 : Sta Z h8 zs16 zs17 zs18 (.ref a16) := (Sta.ext E8 F17)
  have g19 : n0 ≤ b8 := Nat.le_trans Z0 (Nat.le_of_eq g8.symm)
  have f21 : Exa Z h8 a16 zs22 := (Exa.ext E8 F20)
  have f23 : Fld Z h8 a16 zs22 zs26 "Z" (.int 0) := (Fld.ext E8 F22)
  have ne24 : a16 ≠ b8 := Nat.ne_of_lt (Nat.lt_of_lt_of_le (F20.lt) (Nat.le_of_eq g8.symm))
  have Z_1 : n0 ≤ h8.size := Nat.le_trans Z0 E8.1
  obtain ⟨_, T12, L12, X12, hQ12, hS12, hZ, hown, st12⟩ := ocallIS (s := s) (vm0 := s.vm) X8 hx hZ zm12 rfl hown (ww hw 4 rfl) (ww hw 5 rfl) (by decide) (ww hw 6 rfl) (ww hw 3 rfl) e8 (rm1_14 l Z a0 hw [] b8 a13 a16 h8 n0 Z_1 f15 f18 f9 f10 f11 A8 g19 f21 f23 ne24) (st := [(.int 1), (.ref b8), (.ref b8)]) rfl 1 rfl (by decide) (pc := 65) (Ls := (lc3 p1 p2 p3 1 0 p2)) hml rfl (lenOf pd_10 rfl) at_65 hby ((State.WarmedH.refl s).since 0) (Nat.zero_le _)
  obtain ⟨b25, b26, rfl, N12q, K12, sz27, f28, f29, f30, f31, f32, f33⟩ := hQ12
  have N34 := Fr.app N0 N12q
  have f36 : Exa Z T12.heap b8 zs0 := (A8.keep K12)
  have Z_2 : n0 ≤ T12.heap.size := Nat.le_trans Z_1 K12.1
  obtain ⟨_, T35, L35, X35, hQ35, st35⟩ := ocallV X12 hx hZ zm13 zm13 hown (ww hw 95 rfl) (ww hw 96 rfl) (notFace_of_selects (args := #[]) (mvT hZ (ww hw 98 rfl))) (ww hw 98 rfl) (ww hw 97 rfl) (by decide) (ww hw 99 rfl) (ww hw 3 rfl) rfl f36 (rm15_20 l Z a0 hw [] b8 p2 T12.heap n0 Z_2 f28 hc37) (st := [(.int p2), (.ref b8)]) rfl 0 rfl (by decide) (pc := 74) (Ls := (lc12 p1 p2 p3 1 0 p2 b8)) hml rfl (lenOf pd_11 rfl) at_74 hby
  obtain ⟨rfl, N35q, e35⟩ := hQ35
  have N38 := Fr.app N34 N35q
  refine own_go (U' := T35.setTop (mkF m 87 (lc13 p1 p2 p3 1 0 p2 b8 0) [(.int (lcmpW ((1 : Int64) - (p2.toInt64)) (0 : Int64)))])) (fun t k => oifN X0 hx hby at_18 (by decide) (oiloadN X0 hx hby at_21 rfl (oistore X0 hx hby at_22 (lc3 p1 p2 p3 1 0 p2) rfl (ogoto (pc := 24) X0 hx hby at_24 60 (by decide) (st8 _ (odup X8 hx hby at_63 rfl (oiloadN X8 hx hby at_64 rfl (st12 _ (oastore X12 hx hby at_68 (lc12 p1 p2 p3 1 0 p2 b8) rfl rfl (oaload X12 hx hby at_70 rfl rfl (oiload X12 hx hby at_72 rfl (st35 _ (oistore X35 hx hby at_77 (lc13 p1 p2 p3 1 0 p2 b8 0) rfl (oiloadN X35 hx hby at_79 rfl (oi2l X35 hx hby at_80 (oiload X35 hx hby at_81 rfl (oi2l X35 hx hby at_83 (olsub X35 hx hby at_84 (olconst X35 hx hby at_85 (olcmp X35 hx hby at_86 k)))))))))))))))))))) ?_
  obtain ⟨_, T40, L40, X40, hQ40, st40⟩ := ocallV X35 hx hZ zm13 zm13 hown (ww hw 95 rfl) (ww hw 96 rfl) (notFace_of_selects (args := #[]) (mvT hZ (ww hw 98 rfl))) (ww hw 98 rfl) (ww hw 97 rfl) (by decide) (ww hw 99 rfl) (ww hw 3 rfl) e35 f36 (rm15_16 l Z a0 hw [] b8 T12.heap n0 Z_2 f28) (st := [(.int 0), (.ref b8)]) rfl 0 rfl (by decide) (pc := 102) (Ls := (lc14 p1 p2 p3 1 0 p2 b8 0 0)) hml rfl (lenOf pd_11 rfl) at_102 hby
  obtain ⟨rfl, N40q, e40⟩ := hQ40
  have N41 := Fr.app N38 N40q
  obtain ⟨_, T42, L42, X42, hQ42, st42⟩ := ocallV X40 hx hZ zm13 zm13 hown (ww hw 95 rfl) (ww hw 96 rfl) (notFace_of_selects (args := #[]) (mvT hZ (ww hw 98 rfl))) (ww hw 98 rfl) (ww hw 97 rfl) (by decide) (ww hw 99 rfl) (ww hw 3 rfl) e40 f36 (rm15_17 l Z a0 hw [] b8 T12.heap n0 Z_2 f28) (st := [(.int 1), (.ref b8)]) rfl 0 rfl (by decide) (pc := 110) (Ls := (lc15 p1 p2 p3 1 0 p2 b8 0 0 1)) hml rfl (lenOf pd_11 rfl) at_110 hby
  obtain ⟨rfl, N42q, e42⟩ := hQ42
  have N43 := Fr.app N41 N42q
  refine own_go (U' := T42.setTop (mkF m 119 (lc16 p1 p2 p3 1 0 p2 b8 0 0 1 0) [(.int 0), (.int 0)])) (fun t k => oifY (pc := 87) X35 hx hby at_87 94 (own_ll_le_t hc39) (by decide) (oiconst X35 hx hby at_94 (oistore X35 hx hby at_95 (lc14 p1 p2 p3 1 0 p2 b8 0 0) rfl (oaload X35 hx hby at_97 rfl rfl (oiloadN X35 hx hby at_99 rfl (oiconst X35 hx hby at_100 (oisub X35 hx hby at_101 (st40 _ (oistore X40 hx hby at_105 (lc15 p1 p2 p3 1 0 p2 b8 0 0 1) rfl (oaload X40 hx hby at_107 rfl rfl (oiloadN X40 hx hby at_109 rfl (st42 _ (oistore X42 hx hby at_113 (lc16 p1 p2 p3 1 0 p2 b8 0 0 1 0) rfl (oiload X42 hx hby at_115 rfl (oiload X42 hx hby at_117 rfl k))))))))))))))) ?_
  refine own_go (U' := T42.setTop (mkF m 124 (lc16 p1 p2 p3 1 0 p2 b8 0 0 1 0) [(.int 1)])) (fun t k => oicN X42 hx hby at_119 (by decide) (oiload X42 hx hby at_122 rfl k)) ?_
  refine own_go (U' := T42.setTop (mkF m 129 (lc16 p1 p2 p3 1 0 p2 b8 0 0 1 0) [(.int 0)])) (fun t k => oifN X42 hx hby at_124 (by decide) (oiload X42 hx hby at_127 rfl k)) ?_
  obtain ⟨_, T44, L44, X44, hQ44, st44⟩ := ocallV X42 hx hZ zm14 zm14 hown (ww hw 100 rfl) (ww hw 101 rfl) (notFace_of_selects (args := #[]) (mvT hZ (ww hw 103 rfl))) (ww hw 103 rfl) (ww hw 102 rfl) (by decide) (ww hw 104 rfl) (ww hw 3 rfl) e42 f36 (rm16_18 l Z a0 hw [] b8 T12.heap n0 Z_2 f28) (st := [(.ref b8)]) rfl 0 rfl (by decide) (pc := 134) (Ls := (lc16 p1 p2 p3 1 0 p2 b8 0 0 1 0)) hml rfl (lenOf pd_12 rfl) at_134 hby
  obtain ⟨rfl, N44q, e44⟩ := hQ44
  have N45 := Fr.app N43 N44q
  refine own_go (U' := T44.setTop (mkF m 138 (lc16 p1 p2 p3 1 0 p2 b8 0 0 1 0) [(.int 1), (.int 1)])) (fun t k => oifN X42 hx hby at_129 (by decide) (oaload X42 hx hby at_132 rfl rfl (st44 _ (oiloadN X44 hx hby at_137 rfl k)))) ?_
  refine own_go (U' := T44.setTop (mkF m 146 (lc16 p1 p2 p3 1 0 p2 b8 0 0 1 0) [(.int 1)])) (fun t k => oicN X44 hx hby at_138 (by decide) (oiconst X44 hx hby at_141 (ogoto (pc := 142) X44 hx hby at_142 146 (by decide) k))) ?_
  obtain ⟨fs, hr, hrun, hended, hW, hsame⟩ := X44.leave (v := some (.int 1)) (fun h => by rw [Bd.returns] at h; cases h)
  have hE := hS12.ended hW (by show _ ≤ T44.heap.size; rw [e44]; exact (Nat.le_refl _)) hsame
  refine own_out ⟨_, _, ?_, hrun, hended, _, _, rfl, ?_, ⟨_, rfl⟩, hE.1, hE.2.1, hE.2.2.mono (by decide) (by decide)⟩
  · exact retN X44 hx (t := .boolean) Bd.returns (by simp) (hb hby at_146) hr
  · exact ⟨rfl, N45⟩
set_option maxRecDepth 65536 in
set_option maxHeartbeats 40000000 in
theorem rm0_22 (l : Launch) (Z : State) (a0 : Array Value) (hw : ∀ d ∈ tables_1, d.before a0 Z = true) (ws : List Jvm.Cond) (p1 p2 p3 : Int32) (a13 a16 : Addr) (h0 : Heap) (n0 : Nat) (Z0 : n0 ≤ h0.size) (hc5 : (p1 &&& (2147483647 : Int32)) = (0 : Int32)) (hv7 : (p3 &&& (3 : Int32)) = (1 : Int32)) (F14 : Sta Z h0 zs2 "TRUE" zs3 (.ref a13)) (F17 : Sta Z h0 zs16 zs17 zs18 (.ref a16)) (F20 : Exa Z h0 a16 zs22) (F22 : Fld Z h0 a16 zs22 zs26 "Z" (.int 0)) :
    MetFree l x (head1 (Jvm.Cond.code x code maxLocals ret :: ws) room_1) (fun a U => a = #[(.int p1), (.int p2), (.int p3)] ∧ Z.Warmed39 U.vm ∧ U.heap = h0) (fun _ _ _ _ _ => True) (fun _ U o U' => ∃ v L, o = .returned v ∧ QLaw n0 v U'.heap L ∧ ReturnedEndW U o U' L room_1.cells room_1.slots) := by
  refine MetFree.of_bodySF (plainFor_of_name pn_9) hisR ?_
  intro p e s m args below meth c s₁ Bd hml0 hP hK
  obtain ⟨rfl, hZ, hh⟩ := hP
  have hx := Bd.exec
  have hby := Bd.bytes
  have hml : c.maxLocals = 11 := hml0
  have hown : s.vm.findClass zs32 = some m.cls := findClass_of_methodNamed Bd.named
  have hnm := (name_of_methodNamed Bd.named Bd.method).1
  have X0 : Stand p l e room_1 s m #[(.int p1), (.int p2), (.int p3)] below meth c s₁ [] 0 0 := Stand.of_body Bd
  have e0 : s₁.heap = h0 := by rw [← hh, Bd.state]; rfl
  have N0 := Fr.nil n0
  refine own_pre (g' := mkF m 0 (lc0 p1 p2 p3) []) (ef_8 m p1 p2 p3) ?_
  refine own_go (U' := s₁.setTop (mkF m 5 (lc1 p1 p2 p3 (p1 &&& (2147483647 : Int32))) [])) (fun t k => oiloadN X0 hx hby at_0 rfl (X0.ldcInt hx hown (mvT hZ (ww hw 0 rfl)) (g := (mkF m 1 (lc0 p1 p2 p3) [(.int p1)])) rfl (hb hby at_1) _ (oiand X0 hx hby at_3 (oistoreN X0 hx hby at_4 (lc1 p1 p2 p3 (p1 &&& (2147483647 : Int32))) rfl k)))) ?_
  obtain ⟨z4, hz4⟩ : ∃ z, z = (p1 &&& (2147483647 : Int32)) := ⟨_, rfl⟩
  rw [← hz4]
  refine own_go (U' := s₁.setTop (mkF m 6 (lc1 p1 p2 p3 z4) [(.int z4)])) (fun t k => oiloadN X0 hx hby at_5 rfl k) ?_
  have hs6 : z4 = (0 : Int32) := by rw [hz4]; exact hc5
  refine own_go (U' := s₁.setTop (mkF m 14 (lc1 p1 p2 p3 1) [(.int (p3 &&& (3 : Int32)))])) (fun t k => oifN X0 hx hby at_6 ((if0 _ _).trans (teq hs6).2) (oiconst X0 hx hby at_9 (oistoreN X0 hx hby at_10 (lc1 p1 p2 p3 1) rfl (oiloadN X0 hx hby at_11 rfl (oiconst X0 hx hby at_12 (oiand X0 hx hby at_13 k)))))) ?_
  rw [hv7]
  refine own_go (U' := s₁.setTop (mkF m 18 (lc2 p1 p2 p3 1 1) [(.int 1)])) (fun t k => oistore X0 hx hby at_14 (lc2 p1 p2 p3 1 1) rfl (oiload X0 hx hby at_16 rfl k)) ?_
  refine own_go (U' := s₁.setTop (mkF m 30 (lc2 p1 p2 p3 1 1) [(.int 1), (.int 1)])) (fun t k => oifY (pc := 18) X0 hx hby at_18 27 (by decide) (by decide) (oiload X0 hx hby at_27 rfl (oiconst X0 hx hby at_29 k))) ?_
  obtain ⟨T8, h8, X8, e8, E8, A8, D8, -, st8⟩ := newO X0 hx hZ hown (ww hw 1 rfl) (ww hw 2 rfl) (ww hw 3 rfl) e0 (g := (mkF m 60 (lc3 p1 p2 p3 1 1 0) [])) rfl (hb hby at_60) (by decide) (by decide)
  obtain ⟨b8, g8⟩ : ∃ z, z = h0.size := ⟨_, rfl⟩
  rw [← g8] at A8 D8 st8
  have f9 : Fld Z h8 b8 zs0 "budget" "I" (.int 0) := D8 (Or.inr (ww hw 68 rfl)) (ty := .int) (by decide)
  have f10 : Fld Z h8 b8 zs0 "classes" zs27 .null := D8 (Or.inr (ww hw 74 rfl)) (ty := (.object zs14)) (by decide)
  have f11 : Fld Z h8 b8 zs0 "backoff" zs28 .null := D8 (Or.inr (ww hw 94 rfl)) (ty := (.object zs19)) (by decide)
  have f15 : Sta Z h8 zs2 "TRUE" zs3 (.ref a13) := (Sta.ext E8 F14)
  have f18 : Sta Z h8 zs16 zs17 zs18 (.ref a16) := (Sta.ext E8 F17)
  have g19 : n0 ≤ b8 := Nat.le_trans Z0 (Nat.le_of_eq g8.symm)
  have f21 : Exa Z h8 a16 zs22 := (Exa.ext E8 F20)
  have f23 : Fld Z h8 a16 zs22 zs26 "Z" (.int 0) := (Fld.ext E8 F22)
  have ne24 : a16 ≠ b8 := Nat.ne_of_lt (Nat.lt_of_lt_of_le (F20.lt) (Nat.le_of_eq g8.symm))
  have Z_1 : n0 ≤ h8.size := Nat.le_trans Z0 E8.1
  obtain ⟨_, T12, L12, X12, hQ12, hS12, hZ, hown, st12⟩ := ocallIS (s := s) (vm0 := s.vm) X8 hx hZ zm12 rfl hown (ww hw 4 rfl) (ww hw 5 rfl) (by decide) (ww hw 6 rfl) (ww hw 3 rfl) e8 (rm1_14 l Z a0 hw [] b8 a13 a16 h8 n0 Z_1 f15 f18 f9 f10 f11 A8 g19 f21 f23 ne24) (st := [(.int 1), (.ref b8), (.ref b8)]) rfl 1 rfl (by decide) (pc := 65) (Ls := (lc3 p1 p2 p3 1 1 0)) hml rfl (lenOf pd_10 rfl) at_65 hby ((State.WarmedH.refl s).since 0) (Nat.zero_le _)
  obtain ⟨b25, b26, rfl, N12q, K12, sz27, f28, f29, f30, f31, f32, f33⟩ := hQ12
  have N34 := Fr.app N0 N12q
  have f36 : Exa Z T12.heap b8 zs0 := (A8.keep K12)
  have Z_2 : n0 ≤ T12.heap.size := Nat.le_trans Z_1 K12.1
  obtain ⟨_, T35, L35, X35, hQ35, st35⟩ := ocallV X12 hx hZ zm13 zm13 hown (ww hw 95 rfl) (ww hw 96 rfl) (notFace_of_selects (args := #[]) (mvT hZ (ww hw 98 rfl))) (ww hw 98 rfl) (ww hw 97 rfl) (by decide) (ww hw 99 rfl) (ww hw 3 rfl) rfl f36 (rm15_16 l Z a0 hw [] b8 T12.heap n0 Z_2 f28) (st := [(.int 0), (.ref b8)]) rfl 0 rfl (by decide) (pc := 74) (Ls := (lc12 p1 p2 p3 1 1 0 b8)) hml rfl (lenOf pd_11 rfl) at_74 hby
  obtain ⟨rfl, N35q, e35⟩ := hQ35
  have N37 := Fr.app N34 N35q
  refine own_go (U' := T35.setTop (mkF m 87 (lc13 p1 p2 p3 1 1 0 b8 1) [(.int 1)])) (fun t k => oicN X0 hx hby at_30 (by decide) (oiloadN X0 hx hby at_33 rfl (oiconst X0 hx hby at_34 (oisub X0 hx hby at_35 (oistore X0 hx hby at_36 (lc3 p1 p2 p3 1 1 0) rfl (ogoto (pc := 38) X0 hx hby at_38 60 (by decide) (st8 _ (odup X8 hx hby at_63 rfl (oiloadN X8 hx hby at_64 rfl (st12 _ (oastore X12 hx hby at_68 (lc12 p1 p2 p3 1 1 0 b8) rfl rfl (oaload X12 hx hby at_70 rfl rfl (oiload X12 hx hby at_72 rfl (st35 _ (oistore X35 hx hby at_77 (lc13 p1 p2 p3 1 1 0 b8 1) rfl (oiloadN X35 hx hby at_79 rfl (oi2l X35 hx hby at_80 (oiload X35 hx hby at_81 rfl (oi2l X35 hx hby at_83 (olsub X35 hx hby at_84 (olconst X35 hx hby at_85 (olcmp X35 hx hby at_86 k)))))))))))))))))))))) ?_
  obtain ⟨_, T38, L38, X38, hQ38, st38⟩ := ocallV X35 hx hZ zm13 zm13 hown (ww hw 95 rfl) (ww hw 96 rfl) (notFace_of_selects (args := #[]) (mvT hZ (ww hw 98 rfl))) (ww hw 98 rfl) (ww hw 97 rfl) (by decide) (ww hw 99 rfl) (ww hw 3 rfl) e35 f36 (rm15_16 l Z a0 hw [] b8 T12.heap n0 Z_2 f28) (st := [(.int 0), (.ref b8)]) rfl 0 rfl (by decide) (pc := 102) (Ls := (lc14 p1 p2 p3 1 1 0 b8 1 1)) hml rfl (lenOf pd_11 rfl) at_102 hby
  obtain ⟨rfl, N38q, e38⟩ := hQ38
  have N39 := Fr.app N37 N38q
  obtain ⟨_, T40, L40, X40, hQ40, st40⟩ := ocallV X38 hx hZ zm13 zm13 hown (ww hw 95 rfl) (ww hw 96 rfl) (notFace_of_selects (args := #[]) (mvT hZ (ww hw 98 rfl))) (ww hw 98 rfl) (ww hw 97 rfl) (by decide) (ww hw 99 rfl) (ww hw 3 rfl) e38 f36 (rm15_17 l Z a0 hw [] b8 T12.heap n0 Z_2 f28) (st := [(.int 1), (.ref b8)]) rfl 0 rfl (by decide) (pc := 110) (Ls := (lc15 p1 p2 p3 1 1 0 b8 1 1 1)) hml rfl (lenOf pd_11 rfl) at_110 hby
  obtain ⟨rfl, N40q, e40⟩ := hQ40
  have N41 := Fr.app N39 N40q
  refine own_go (U' := T40.setTop (mkF m 119 (lc16 p1 p2 p3 1 1 0 b8 1 1 1 0) [(.int 1), (.int 1)])) (fun t k => oifN X35 hx hby at_87 (by decide) (oiconst X35 hx hby at_90 (ogoto (pc := 91) X35 hx hby at_91 95 (by decide) (oistore X35 hx hby at_95 (lc14 p1 p2 p3 1 1 0 b8 1 1) rfl (oaload X35 hx hby at_97 rfl rfl (oiloadN X35 hx hby at_99 rfl (oiconst X35 hx hby at_100 (oisub X35 hx hby at_101 (st38 _ (oistore X38 hx hby at_105 (lc15 p1 p2 p3 1 1 0 b8 1 1 1) rfl (oaload X38 hx hby at_107 rfl rfl (oiloadN X38 hx hby at_109 rfl (st40 _ (oistore X40 hx hby at_113 (lc16 p1 p2 p3 1 1 0 b8 1 1 1 0) rfl (oiload X40 hx hby at_115 rfl (oiload X40 hx hby at_117 rfl k)))))))))))))))) ?_
  refine own_go (U' := T40.setTop (mkF m 124 (lc16 p1 p2 p3 1 1 0 b8 1 1 1 0) [(.int 1)])) (fun t k => oicN X40 hx hby at_119 (by decide) (oiload X40 hx hby at_122 rfl k)) ?_
  refine own_go (U' := T40.setTop (mkF m 129 (lc16 p1 p2 p3 1 1 0 b8 1 1 1 0) [(.int 0)])) (fun t k => oifN X40 hx hby at_124 (by decide) (oiload X40 hx hby at_127 rfl k)) ?_
  obtain ⟨_, T42, L42, X42, hQ42, st42⟩ := ocallV X40 hx hZ zm14 zm14 hown (ww hw 100 rfl) (ww hw 101 rfl) (notFace_of_selects (args := #[]) (mvT hZ (ww hw 103 rfl))) (ww hw 103 rfl) (ww hw 102 rfl) (by decide) (ww hw 104 rfl) (ww hw 3 rfl) e40 f36 (rm16_18 l Z a0 hw [] b8 T12.heap n0 Z_2 f28) (st := [(.ref b8)]) rfl 0 rfl (by decide) (pc := 134) (Ls := (lc16 p1 p2 p3 1 1 0 b8 1 1 1 0)) hml rfl (lenOf pd_12 rfl) at_134 hby
  obtain ⟨rfl, N42q, e42⟩ := hQ42
  have N43 := Fr.app N41 N42q
  refine own_go (U' := T42.setTop (mkF m 138 (lc16 p1 p2 p3 1 1 0 b8 1 1 1 0) [(.int 1), (.int 1)])) (fun t k => oifN X40 hx hby at_129 (by decide) (oaload X40 hx hby at_132 rfl rfl (st42 _ (oiloadN X42 hx hby at_137 rfl k)))) ?_
  refine own_go (U' := T42.setTop (mkF m 146 (lc16 p1 p2 p3 1 1 0 b8 1 1 1 0) [(.int 1)])) (fun t k => oicN X42 hx hby at_138 (by decide) (oiconst X42 hx hby at_141 (ogoto (pc := 142) X42 hx hby at_142 146 (by decide) k))) ?_
  obtain ⟨fs, hr, hrun, hended, hW, hsame⟩ := X42.leave (v := some (.int 1)) (fun h => by rw [Bd.returns] at h; cases h)
  have hE := hS12.ended hW (by show _ ≤ T42.heap.size; rw [e42]; exact (Nat.le_refl _)) hsame
  refine own_out ⟨_, _, ?_, hrun, hended, _, _, rfl, ?_, ⟨_, rfl⟩, hE.1, hE.2.1, hE.2.2.mono (by decide) (by decide)⟩
  · exact retN X42 hx (t := .boolean) Bd.returns (by simp) (hb hby at_146) hr
  · exact ⟨rfl, N43⟩
set_option maxRecDepth 65536 in
set_option maxHeartbeats 40000000 in
theorem rm0_23 (l : Launch) (Z : State) (a0 : Array Value) (hw : ∀ d ∈ tables_1, d.before a0 Z = true) (ws : List Jvm.Cond) (p1 p2 p3 : Int32) (a13 a16 : Addr) (h0 : Heap) (n0 : Nat) (Z0 : n0 ≤ h0.size) (hc5 : (p1 &&& (2147483647 : Int32)) = (0 : Int32)) (hv7 : (p3 &&& (3 : Int32)) = (2 : Int32)) (F14 : Sta Z h0 zs2 "TRUE" zs3 (.ref a13)) (F17 : Sta Z h0 zs16 zs17 zs18 (.ref a16)) (F20 : Exa Z h0 a16 zs22) (F22 : Fld Z h0 a16 zs22 zs26 "Z" (.int 0)) :
    MetFree l x (head1 (Jvm.Cond.code x code maxLocals ret :: ws) room_1) (fun a U => a = #[(.int p1), (.int p2), (.int p3)] ∧ Z.Warmed39 U.vm ∧ U.heap = h0) (fun _ _ _ _ _ => True) (fun _ U o U' => ∃ v L, o = .returned v ∧ QLaw n0 v U'.heap L ∧ ReturnedEndW U o U' L room_1.cells room_1.slots) := by
  refine MetFree.of_bodySF (plainFor_of_name pn_9) hisR ?_
  intro p e s m args below meth c s₁ Bd hml0 hP hK
  obtain ⟨rfl, hZ, hh⟩ := hP
  have hx := Bd.exec
  have hby := Bd.bytes
  have hml : c.maxLocals = 11 := hml0
  have hown : s.vm.findClass zs32 = some m.cls := findClass_of_methodNamed Bd.named
  have hnm := (name_of_methodNamed Bd.named Bd.method).1
  have X0 : Stand p l e room_1 s m #[(.int p1), (.int p2), (.int p3)] below meth c s₁ [] 0 0 := Stand.of_body Bd
  have e0 : s₁.heap = h0 := by rw [← hh, Bd.state]; rfl
  have N0 := Fr.nil n0
  refine own_pre (g' := mkF m 0 (lc0 p1 p2 p3) []) (ef_8 m p1 p2 p3) ?_
  refine own_go (U' := s₁.setTop (mkF m 5 (lc1 p1 p2 p3 (p1 &&& (2147483647 : Int32))) [])) (fun t k => oiloadN X0 hx hby at_0 rfl (X0.ldcInt hx hown (mvT hZ (ww hw 0 rfl)) (g := (mkF m 1 (lc0 p1 p2 p3) [(.int p1)])) rfl (hb hby at_1) _ (oiand X0 hx hby at_3 (oistoreN X0 hx hby at_4 (lc1 p1 p2 p3 (p1 &&& (2147483647 : Int32))) rfl k)))) ?_
  obtain ⟨z4, hz4⟩ : ∃ z, z = (p1 &&& (2147483647 : Int32)) := ⟨_, rfl⟩
  rw [← hz4]
  refine own_go (U' := s₁.setTop (mkF m 6 (lc1 p1 p2 p3 z4) [(.int z4)])) (fun t k => oiloadN X0 hx hby at_5 rfl k) ?_
  have hs6 : z4 = (0 : Int32) := by rw [hz4]; exact hc5
  refine own_go (U' := s₁.setTop (mkF m 14 (lc1 p1 p2 p3 1) [(.int (p3 &&& (3 : Int32)))])) (fun t k => oifN X0 hx hby at_6 ((if0 _ _).trans (teq hs6).2) (oiconst X0 hx hby at_9 (oistoreN X0 hx hby at_10 (lc1 p1 p2 p3 1) rfl (oiloadN X0 hx hby at_11 rfl (oiconst X0 hx hby at_12 (oiand X0 hx hby at_13 k)))))) ?_
  rw [hv7]
  refine own_go (U' := s₁.setTop (mkF m 18 (lc2 p1 p2 p3 1 2) [(.int 2)])) (fun t k => oistore X0 hx hby at_14 (lc2 p1 p2 p3 1 2) rfl (oiload X0 hx hby at_16 rfl k)) ?_
  refine own_go (U' := s₁.setTop (mkF m 30 (lc2 p1 p2 p3 1 2) [(.int 1), (.int 2)])) (fun t k => oifY (pc := 18) X0 hx hby at_18 27 (by decide) (by decide) (oiload X0 hx hby at_27 rfl (oiconst X0 hx hby at_29 k))) ?_
  refine own_go (U' := s₁.setTop (mkF m 44 (lc2 p1 p2 p3 1 2) [(.int 2), (.int 2)])) (fun t k => oicY (pc := 30) X0 hx hby at_30 41 (by decide) (by decide) (oiload X0 hx hby at_41 rfl (oiconst X0 hx hby at_43 k))) ?_
  obtain ⟨T8, h8, X8, e8, E8, A8, D8, -, st8⟩ := newO X0 hx hZ hown (ww hw 1 rfl) (ww hw 2 rfl) (ww hw 3 rfl) e0 (g := (mkF m 60 (lc3 p1 p2 p3 1 2 1) [])) rfl (hb hby at_60) (by decide) (by decide)
  obtain ⟨b8, g8⟩ : ∃ z, z = h0.size := ⟨_, rfl⟩
  rw [← g8] at A8 D8 st8
  have f9 : Fld Z h8 b8 zs0 "budget" "I" (.int 0) := D8 (Or.inr (ww hw 68 rfl)) (ty := .int) (by decide)
  have f10 : Fld Z h8 b8 zs0 "classes" zs27 .null := D8 (Or.inr (ww hw 74 rfl)) (ty := (.object zs14)) (by decide)
  have f11 : Fld Z h8 b8 zs0 "backoff" zs28 .null := D8 (Or.inr (ww hw 94 rfl)) (ty := (.object zs19)) (by decide)
  have f15 : Sta Z h8 zs2 "TRUE" zs3 (.ref a13) := (Sta.ext E8 F14)
  have f18 : Sta Z h8 zs16 zs17 zs18 (.ref a16) := (Sta.ext E8 F17)
  have g19 : n0 ≤ b8 := Nat.le_trans Z0 (Nat.le_of_eq g8.symm)
  have f21 : Exa Z h8 a16 zs22 := (Exa.ext E8 F20)
  have f23 : Fld Z h8 a16 zs22 zs26 "Z" (.int 0) := (Fld.ext E8 F22)
  have ne24 : a16 ≠ b8 := Nat.ne_of_lt (Nat.lt_of_lt_of_le (F20.lt) (Nat.le_of_eq g8.symm))
  have Z_1 : n0 ≤ h8.size := Nat.le_trans Z0 E8.1
  obtain ⟨_, T12, L12, X12, hQ12, hS12, hZ, hown, st12⟩ := ocallIS (s := s) (vm0 := s.vm) X8 hx hZ zm12 rfl hown (ww hw 4 rfl) (ww hw 5 rfl) (by decide) (ww hw 6 rfl) (ww hw 3 rfl) e8 (rm1_14 l Z a0 hw [] b8 a13 a16 h8 n0 Z_1 f15 f18 f9 f10 f11 A8 g19 f21 f23 ne24) (st := [(.int 1), (.ref b8), (.ref b8)]) rfl 1 rfl (by decide) (pc := 65) (Ls := (lc3 p1 p2 p3 1 2 1)) hml rfl (lenOf pd_10 rfl) at_65 hby ((State.WarmedH.refl s).since 0) (Nat.zero_le _)
  obtain ⟨b25, b26, rfl, N12q, K12, sz27, f28, f29, f30, f31, f32, f33⟩ := hQ12
  have N34 := Fr.app N0 N12q
  have f36 : Exa Z T12.heap b8 zs0 := (A8.keep K12)
  have Z_2 : n0 ≤ T12.heap.size := Nat.le_trans Z_1 K12.1
  obtain ⟨_, T35, L35, X35, hQ35, st35⟩ := ocallV X12 hx hZ zm13 zm13 hown (ww hw 95 rfl) (ww hw 96 rfl) (notFace_of_selects (args := #[]) (mvT hZ (ww hw 98 rfl))) (ww hw 98 rfl) (ww hw 97 rfl) (by decide) (ww hw 99 rfl) (ww hw 3 rfl) rfl f36 (rm15_17 l Z a0 hw [] b8 T12.heap n0 Z_2 f28) (st := [(.int 1), (.ref b8)]) rfl 0 rfl (by decide) (pc := 74) (Ls := (lc12 p1 p2 p3 1 2 1 b8)) hml rfl (lenOf pd_11 rfl) at_74 hby
  obtain ⟨rfl, N35q, e35⟩ := hQ35
  have N37 := Fr.app N34 N35q
  refine own_go (U' := T35.setTop (mkF m 87 (lc13 p1 p2 p3 1 2 1 b8 0) [(.int 0)])) (fun t k => oicN X0 hx hby at_44 (by decide) (oiloadN X0 hx hby at_47 rfl (oistore X0 hx hby at_48 (lc3 p1 p2 p3 1 2 1) rfl (ogoto (pc := 50) X0 hx hby at_50 60 (by decide) (st8 _ (odup X8 hx hby at_63 rfl (oiloadN X8 hx hby at_64 rfl (st12 _ (oastore X12 hx hby at_68 (lc12 p1 p2 p3 1 2 1 b8) rfl rfl (oaload X12 hx hby at_70 rfl rfl (oiload X12 hx hby at_72 rfl (st35 _ (oistore X35 hx hby at_77 (lc13 p1 p2 p3 1 2 1 b8 0) rfl (oiloadN X35 hx hby at_79 rfl (oi2l X35 hx hby at_80 (oiload X35 hx hby at_81 rfl (oi2l X35 hx hby at_83 (olsub X35 hx hby at_84 (olconst X35 hx hby at_85 (olcmp X35 hx hby at_86 k)))))))))))))))))))) ?_
  obtain ⟨_, T38, L38, X38, hQ38, st38⟩ := ocallV X35 hx hZ zm13 zm13 hown (ww hw 95 rfl) (ww hw 96 rfl) (notFace_of_selects (args := #[]) (mvT hZ (ww hw 98 rfl))) (ww hw 98 rfl) (ww hw 97 rfl) (by decide) (ww hw 99 rfl) (ww hw 3 rfl) e35 f36 (rm15_16 l Z a0 hw [] b8 T12.heap n0 Z_2 f28) (st := [(.int 0), (.ref b8)]) rfl 0 rfl (by decide) (pc := 102) (Ls := (lc14 p1 p2 p3 1 2 1 b8 0 0)) hml rfl (lenOf pd_11 rfl) at_102 hby
  obtain ⟨rfl, N38q, e38⟩ := hQ38
  have N39 := Fr.app N37 N38q
  obtain ⟨_, T40, L40, X40, hQ40, st40⟩ := ocallV X38 hx hZ zm13 zm13 hown (ww hw 95 rfl) (ww hw 96 rfl) (notFace_of_selects (args := #[]) (mvT hZ (ww hw 98 rfl))) (ww hw 98 rfl) (ww hw 97 rfl) (by decide) (ww hw 99 rfl) (ww hw 3 rfl) e38 f36 (rm15_17 l Z a0 hw [] b8 T12.heap n0 Z_2 f28) (st := [(.int 1), (.ref b8)]) rfl 0 rfl (by decide) (pc := 110) (Ls := (lc15 p1 p2 p3 1 2 1 b8 0 0 1)) hml rfl (lenOf pd_11 rfl) at_110 hby
  obtain ⟨rfl, N40q, e40⟩ := hQ40
  have N41 := Fr.app N39 N40q
  refine own_go (U' := T40.setTop (mkF m 119 (lc16 p1 p2 p3 1 2 1 b8 0 0 1 0) [(.int 0), (.int 0)])) (fun t k => oifY (pc := 87) X35 hx hby at_87 94 (by decide) (by decide) (oiconst X35 hx hby at_94 (oistore X35 hx hby at_95 (lc14 p1 p2 p3 1 2 1 b8 0 0) rfl (oaload X35 hx hby at_97 rfl rfl (oiloadN X35 hx hby at_99 rfl (oiconst X35 hx hby at_100 (oisub X35 hx hby at_101 (st38 _ (oistore X38 hx hby at_105 (lc15 p1 p2 p3 1 2 1 b8 0 0 1) rfl (oaload X38 hx hby at_107 rfl rfl (oiloadN X38 hx hby at_109 rfl (st40 _ (oistore X40 hx hby at_113 (lc16 p1 p2 p3 1 2 1 b8 0 0 1 0) rfl (oiload X40 hx hby at_115 rfl (oiload X40 hx hby at_117 rfl k))))))))))))))) ?_
  refine own_go (U' := T40.setTop (mkF m 124 (lc16 p1 p2 p3 1 2 1 b8 0 0 1 0) [(.int 1)])) (fun t k => oicN X40 hx hby at_119 (by decide) (oiload X40 hx hby at_122 rfl k)) ?_
  refine own_go (U' := T40.setTop (mkF m 129 (lc16 p1 p2 p3 1 2 1 b8 0 0 1 0) [(.int 0)])) (fun t k => oifN X40 hx hby at_124 (by decide) (oiload X40 hx hby at_127 rfl k)) ?_
  obtain ⟨_, T42, L42, X42, hQ42, st42⟩ := ocallV X40 hx hZ zm14 zm14 hown (ww hw 100 rfl) (ww hw 101 rfl) (notFace_of_selects (args := #[]) (mvT hZ (ww hw 103 rfl))) (ww hw 103 rfl) (ww hw 102 rfl) (by decide) (ww hw 104 rfl) (ww hw 3 rfl) e40 f36 (rm16_18 l Z a0 hw [] b8 T12.heap n0 Z_2 f28) (st := [(.ref b8)]) rfl 0 rfl (by decide) (pc := 134) (Ls := (lc16 p1 p2 p3 1 2 1 b8 0 0 1 0)) hml rfl (lenOf pd_12 rfl) at_134 hby
  obtain ⟨rfl, N42q, e42⟩ := hQ42
  have N43 := Fr.app N41 N42q
  refine own_go (U' := T42.setTop (mkF m 138 (lc16 p1 p2 p3 1 2 1 b8 0 0 1 0) [(.int 1), (.int 1)])) (fun t k => oifN X40 hx hby at_129 (by decide) (oaload X40 hx hby at_132 rfl rfl (st42 _ (oiloadN X42 hx hby at_137 rfl k)))) ?_
  refine own_go (U' := T42.setTop (mkF m 146 (lc16 p1 p2 p3 1 2 1 b8 0 0 1 0) [(.int 1)])) (fun t k => oicN X42 hx hby at_138 (by decide) (oiconst X42 hx hby at_141 (ogoto (pc := 142) X42 hx hby at_142 146 (by decide) k))) ?_
  obtain ⟨fs, hr, hrun, hended, hW, hsame⟩ := X42.leave (v := some (.int 1)) (fun h => by rw [Bd.returns] at h; cases h)
  have hE := hS12.ended hW (by show _ ≤ T42.heap.size; rw [e42]; exact (Nat.le_refl _)) hsame
  refine own_out ⟨_, _, ?_, hrun, hended, _, _, rfl, ?_, ⟨_, rfl⟩, hE.1, hE.2.1, hE.2.2.mono (by decide) (by decide)⟩
  · exact retN X42 hx (t := .boolean) Bd.returns (by simp) (hb hby at_146) hr
  · exact ⟨rfl, N43⟩
set_option maxRecDepth 65536 in
set_option maxHeartbeats 40000000 in
theorem rm0_24 (l : Launch) (Z : State) (a0 : Array Value) (hw : ∀ d ∈ tables_1, d.before a0 Z = true) (ws : List Jvm.Cond) (p1 p2 p3 : Int32) (a14 a17 : Addr) (h0 : Heap) (n0 : Nat) (Z0 : n0 ≤ h0.size) (hc5 : (p1 &&& (2147483647 : Int32)) = (0 : Int32)) (hv7 : (p3 &&& (3 : Int32)) = (3 : Int32)) (F15 : Sta Z h0 zs2 "TRUE" zs3 (.ref a14)) (F18 : Sta Z h0 zs16 zs17 zs18 (.ref a17)) (F21 : Exa Z h0 a17 zs22) (F23 : Fld Z h0 a17 zs22 zs26 "Z" (.int 0)) (hc38 : (-(p2 &&& (2147483647 : Int32))) < (1 : Int32)) (hc41 : (0 : Int64) < ((1 : Int64) - ((-(p2 &&& (2147483647 : Int32))).toInt64))) :
    MetFree l x (head1 (Jvm.Cond.code x code maxLocals ret :: ws) room_1) (fun a U => a = #[(.int p1), (.int p2), (.int p3)] ∧ Z.Warmed39 U.vm ∧ U.heap = h0) (fun _ _ _ _ _ => True) (fun _ U o U' => ∃ v L, o = .returned v ∧ QLaw n0 v U'.heap L ∧ ReturnedEndW U o U' L room_1.cells room_1.slots) := by
  refine MetFree.of_bodySF (plainFor_of_name pn_9) hisR ?_
  intro p e s m args below meth c s₁ Bd hml0 hP hK
  obtain ⟨rfl, hZ, hh⟩ := hP
  have hx := Bd.exec
  have hby := Bd.bytes
  have hml : c.maxLocals = 11 := hml0
  have hown : s.vm.findClass zs32 = some m.cls := findClass_of_methodNamed Bd.named
  have hnm := (name_of_methodNamed Bd.named Bd.method).1
  have X0 : Stand p l e room_1 s m #[(.int p1), (.int p2), (.int p3)] below meth c s₁ [] 0 0 := Stand.of_body Bd
  have e0 : s₁.heap = h0 := by rw [← hh, Bd.state]; rfl
  have N0 := Fr.nil n0
  refine own_pre (g' := mkF m 0 (lc0 p1 p2 p3) []) (ef_8 m p1 p2 p3) ?_
  refine own_go (U' := s₁.setTop (mkF m 5 (lc1 p1 p2 p3 (p1 &&& (2147483647 : Int32))) [])) (fun t k => oiloadN X0 hx hby at_0 rfl (X0.ldcInt hx hown (mvT hZ (ww hw 0 rfl)) (g := (mkF m 1 (lc0 p1 p2 p3) [(.int p1)])) rfl (hb hby at_1) _ (oiand X0 hx hby at_3 (oistoreN X0 hx hby at_4 (lc1 p1 p2 p3 (p1 &&& (2147483647 : Int32))) rfl k)))) ?_
  obtain ⟨z4, hz4⟩ : ∃ z, z = (p1 &&& (2147483647 : Int32)) := ⟨_, rfl⟩
  rw [← hz4]
  refine own_go (U' := s₁.setTop (mkF m 6 (lc1 p1 p2 p3 z4) [(.int z4)])) (fun t k => oiloadN X0 hx hby at_5 rfl k) ?_
  have hs6 : z4 = (0 : Int32) := by rw [hz4]; exact hc5
  refine own_go (U' := s₁.setTop (mkF m 14 (lc1 p1 p2 p3 1) [(.int (p3 &&& (3 : Int32)))])) (fun t k => oifN X0 hx hby at_6 ((if0 _ _).trans (teq hs6).2) (oiconst X0 hx hby at_9 (oistoreN X0 hx hby at_10 (lc1 p1 p2 p3 1) rfl (oiloadN X0 hx hby at_11 rfl (oiconst X0 hx hby at_12 (oiand X0 hx hby at_13 k)))))) ?_
  rw [hv7]
  refine own_go (U' := s₁.setTop (mkF m 18 (lc2 p1 p2 p3 1 3) [(.int 3)])) (fun t k => oistore X0 hx hby at_14 (lc2 p1 p2 p3 1 3) rfl (oiload X0 hx hby at_16 rfl k)) ?_
  refine own_go (U' := s₁.setTop (mkF m 30 (lc2 p1 p2 p3 1 3) [(.int 1), (.int 3)])) (fun t k => oifY (pc := 18) X0 hx hby at_18 27 (by decide) (by decide) (oiload X0 hx hby at_27 rfl (oiconst X0 hx hby at_29 k))) ?_
  refine own_go (U' := s₁.setTop (mkF m 44 (lc2 p1 p2 p3 1 3) [(.int 2), (.int 3)])) (fun t k => oicY (pc := 30) X0 hx hby at_30 41 (by decide) (by decide) (oiload X0 hx hby at_41 rfl (oiconst X0 hx hby at_43 k))) ?_
  refine own_go (U' := s₁.setTop (mkF m 60 (lc3 p1 p2 p3 1 3 (-(p2 &&& (2147483647 : Int32)))) [])) (fun t k => oicY (pc := 44) X0 hx hby at_44 53 (by decide) (by decide) (oiloadN X0 hx hby at_53 rfl (X0.ldcInt hx hown (mvT hZ (ww hw 0 rfl)) (g := (mkF m 54 (lc2 p1 p2 p3 1 3) [(.int p2)])) rfl (hb hby at_54) _ (oiand X0 hx hby at_56 (oineg X0 hx hby at_57 (oistore X0 hx hby at_58 (lc3 p1 p2 p3 1 3 (-(p2 &&& (2147483647 : Int32)))) rfl k)))))) ?_
  obtain ⟨z8, hz8⟩ : ∃ z, z = (-(p2 &&& (2147483647 : Int32))) := ⟨_, rfl⟩
  rw [← hz8]
  obtain ⟨T9, h9, X9, e9, E9, A9, D9, -, st9⟩ := newO X0 hx hZ hown (ww hw 1 rfl) (ww hw 2 rfl) (ww hw 3 rfl) e0 (g := (mkF m 60 (lc3 p1 p2 p3 1 3 z8) [])) rfl (hb hby at_60) (by decide) (by decide)
  obtain ⟨b9, g9⟩ : ∃ z, z = h0.size := ⟨_, rfl⟩
  rw [← g9] at A9 D9 st9
  have f10 : Fld Z h9 b9 zs0 "budget" "I" (.int 0) := D9 (Or.inr (ww hw 68 rfl)) (ty := .int) (by decide)
  have f11 : Fld Z h9 b9 zs0 "classes" zs27 .null := D9 (Or.inr (ww hw 74 rfl)) (ty := (.object zs14)) (by decide)
  have f12 : Fld Z h9 b9 zs0 "backoff" zs28 .null := D9 (Or.inr (ww hw 94 rfl)) (ty := (.object zs19)) (by decide)
  have f16 : Sta Z h9 zs2 "TRUE" zs3 (.ref a14) := (Sta.ext E9 F15)
  have f19 : Sta Z h9 zs16 zs17 zs18 (.ref a17) := (Sta.ext E9 F18)
  have g20 : n0 ≤ b9 := Nat.le_trans Z0 (Nat.le_of_eq g9.symm)
  have f22 : Exa Z h9 a17 zs22 := (Exa.ext E9 F21)
  have f24 : Fld Z h9 a17 zs22 zs26 "Z" (.int 0) := (Fld.ext E9 F23)
  have ne25 : a17 ≠ b9 := Nat.ne_of_lt (Nat.lt_of_lt_of_le (F21.lt) (Nat.le_of_eq g9.symm))
  have Z_1 : n0 ≤ h9.size := Nat.le_trans Z0 E9.1
  obtain ⟨_, T13, L13, X13, hQ13, hS13, hZ, hown, st13⟩ := ocallIS (s := s) (vm0 := s.vm) X9 hx hZ zm12 rfl hown (ww hw 4 rfl) (ww hw 5 rfl) (by decide) (ww hw 6 rfl) (ww hw 3 rfl) e9 (rm1_14 l Z a0 hw [] b9 a14 a17 h9 n0 Z_1 f16 f19 f10 f11 f12 A9 g20 f22 f24 ne25) (st := [(.int 1), (.ref b9), (.ref b9)]) rfl 1 rfl (by decide) (pc := 65) (Ls := (lc3 p1 p2 p3 1 3 z8)) hml rfl (lenOf pd_10 rfl) at_65 hby ((State.WarmedH.refl s).since 0) (Nat.zero_le _)
  obtain ⟨b26, b27, rfl, N13q, K13, sz28, f29, f30, f31, f32, f33, f34⟩ := hQ13
  have N35 := Fr.app N0 N13q
  have f37 : Exa Z T13.heap b9 zs0 := (A9.keep K13)
  have hs39 : z8 < (1 : Int32) := by rw [hz8]; exact hc38
  have Z_2 : n0 ≤ T13.heap.size := Nat.le_trans Z_1 K13.1
  obtain ⟨_, T36, L36, X36, hQ36, st36⟩ := ocallV X13 hx hZ zm13 zm13 hown (ww hw 95 rfl) (ww hw 96 rfl) (notFace_of_selects (args := #[]) (mvT hZ (ww hw 98 rfl))) (ww hw 98 rfl) (ww hw 97 rfl) (by decide) (ww hw 99 rfl) (ww hw 3 rfl) rfl f37 (rm15_15 l Z a0 hw [] b9 z8 T13.heap n0 Z_2 f29 hs39) (st := [(.int z8), (.ref b9)]) rfl 0 rfl (by decide) (pc := 74) (Ls := (lc12 p1 p2 p3 1 3 z8 b9)) hml rfl (lenOf pd_11 rfl) at_74 hby
  obtain ⟨rfl, N36q, e36⟩ := hQ36
  have N40 := Fr.app N35 N36q
  refine own_go (U' := T36.setTop (mkF m 87 (lc13 p1 p2 p3 1 3 z8 b9 1) [(.int (lcmpW ((1 : Int64) - (z8.toInt64)) (0 : Int64)))])) (fun t k => st9 _ (odup X9 hx hby at_63 rfl (oiloadN X9 hx hby at_64 rfl (st13 _ (oastore X13 hx hby at_68 (lc12 p1 p2 p3 1 3 z8 b9) rfl rfl (oaload X13 hx hby at_70 rfl rfl (oiload X13 hx hby at_72 rfl (st36 _ (oistore X36 hx hby at_77 (lc13 p1 p2 p3 1 3 z8 b9 1) rfl (oiloadN X36 hx hby at_79 rfl (oi2l X36 hx hby at_80 (oiload X36 hx hby at_81 rfl (oi2l X36 hx hby at_83 (olsub X36 hx hby at_84 (olconst X36 hx hby at_85 (olcmp X36 hx hby at_86 k)))))))))))))))) ?_
  have hs42 : (0 : Int64) < ((1 : Int64) - (z8.toInt64)) := by rw [hz8]; exact hc41
  obtain ⟨_, T43, L43, X43, hQ43, st43⟩ := ocallV X36 hx hZ zm13 zm13 hown (ww hw 95 rfl) (ww hw 96 rfl) (notFace_of_selects (args := #[]) (mvT hZ (ww hw 98 rfl))) (ww hw 98 rfl) (ww hw 97 rfl) (by decide) (ww hw 99 rfl) (ww hw 3 rfl) e36 f37 (rm15_16 l Z a0 hw [] b9 T13.heap n0 Z_2 f29) (st := [(.int 0), (.ref b9)]) rfl 0 rfl (by decide) (pc := 102) (Ls := (lc14 p1 p2 p3 1 3 z8 b9 1 1)) hml rfl (lenOf pd_11 rfl) at_102 hby
  obtain ⟨rfl, N43q, e43⟩ := hQ43
  have N44 := Fr.app N40 N43q
  obtain ⟨_, T45, L45, X45, hQ45, st45⟩ := ocallV X43 hx hZ zm13 zm13 hown (ww hw 95 rfl) (ww hw 96 rfl) (notFace_of_selects (args := #[]) (mvT hZ (ww hw 98 rfl))) (ww hw 98 rfl) (ww hw 97 rfl) (by decide) (ww hw 99 rfl) (ww hw 3 rfl) e43 f37 (rm15_17 l Z a0 hw [] b9 T13.heap n0 Z_2 f29) (st := [(.int 1), (.ref b9)]) rfl 0 rfl (by decide) (pc := 110) (Ls := (lc15 p1 p2 p3 1 3 z8 b9 1 1 1)) hml rfl (lenOf pd_11 rfl) at_110 hby
  obtain ⟨rfl, N45q, e45⟩ := hQ45
  have N46 := Fr.app N44 N45q
  refine own_go (U' := T45.setTop (mkF m 119 (lc16 p1 p2 p3 1 3 z8 b9 1 1 1 0) [(.int 1), (.int 1)])) (fun t k => oifN X36 hx hby at_87 (own_ll_le_f hs42) (oiconst X36 hx hby at_90 (ogoto (pc := 91) X36 hx hby at_91 95 (by decide) (oistore X36 hx hby at_95 (lc14 p1 p2 p3 1 3 z8 b9 1 1) rfl (oaload X36 hx hby at_97 rfl rfl (oiloadN X36 hx hby at_99 rfl (oiconst X36 hx hby at_100 (oisub X36 hx hby at_101 (st43 _ (oistore X43 hx hby at_105 (lc15 p1 p2 p3 1 3 z8 b9 1 1 1) rfl (oaload X43 hx hby at_107 rfl rfl (oiloadN X43 hx hby at_109 rfl (st45 _ (oistore X45 hx hby at_113 (lc16 p1 p2 p3 1 3 z8 b9 1 1 1 0) rfl (oiload X45 hx hby at_115 rfl (oiload X45 hx hby at_117 rfl k)))))))))))))))) ?_
  refine own_go (U' := T45.setTop (mkF m 124 (lc16 p1 p2 p3 1 3 z8 b9 1 1 1 0) [(.int 1)])) (fun t k => oicN X45 hx hby at_119 (by decide) (oiload X45 hx hby at_122 rfl k)) ?_
  refine own_go (U' := T45.setTop (mkF m 129 (lc16 p1 p2 p3 1 3 z8 b9 1 1 1 0) [(.int 0)])) (fun t k => oifN X45 hx hby at_124 (by decide) (oiload X45 hx hby at_127 rfl k)) ?_
  obtain ⟨_, T47, L47, X47, hQ47, st47⟩ := ocallV X45 hx hZ zm14 zm14 hown (ww hw 100 rfl) (ww hw 101 rfl) (notFace_of_selects (args := #[]) (mvT hZ (ww hw 103 rfl))) (ww hw 103 rfl) (ww hw 102 rfl) (by decide) (ww hw 104 rfl) (ww hw 3 rfl) e45 f37 (rm16_18 l Z a0 hw [] b9 T13.heap n0 Z_2 f29) (st := [(.ref b9)]) rfl 0 rfl (by decide) (pc := 134) (Ls := (lc16 p1 p2 p3 1 3 z8 b9 1 1 1 0)) hml rfl (lenOf pd_12 rfl) at_134 hby
  obtain ⟨rfl, N47q, e47⟩ := hQ47
  have N48 := Fr.app N46 N47q
  refine own_go (U' := T47.setTop (mkF m 138 (lc16 p1 p2 p3 1 3 z8 b9 1 1 1 0) [(.int 1), (.int 1)])) (fun t k => oifN X45 hx hby at_129 (by decide) (oaload X45 hx hby at_132 rfl rfl (st47 _ (oiloadN X47 hx hby at_137 rfl k)))) ?_
  refine own_go (U' := T47.setTop (mkF m 146 (lc16 p1 p2 p3 1 3 z8 b9 1 1 1 0) [(.int 1)])) (fun t k => oicN X47 hx hby at_138 (by decide) (oiconst X47 hx hby at_141 (ogoto (pc := 142) X47 hx hby at_142 146 (by decide) k))) ?_
  obtain ⟨fs, hr, hrun, hended, hW, hsame⟩ := X47.leave (v := some (.int 1)) (fun h => by rw [Bd.returns] at h; cases h)
  have hE := hS13.ended hW (by show _ ≤ T47.heap.size; rw [e47]; exact (Nat.le_refl _)) hsame
  refine own_out ⟨_, _, ?_, hrun, hended, _, _, rfl, ?_, ⟨_, rfl⟩, hE.1, hE.2.1, hE.2.2.mono (by decide) (by decide)⟩
  · exact retN X47 hx (t := .boolean) Bd.returns (by simp) (hb hby at_146) hr
  · exact ⟨rfl, N48⟩
def Q2_25 (Z : State) (p1 : Int32) (h0 : Heap) (n0 : Nat) (v : Option Value) (h : Heap) (L : List Loc) : Prop := v = some (.int p1) ∧ Fr n0 L ∧ h = h0
set_option maxRecDepth 65536 in
set_option maxHeartbeats 40000000 in
theorem rm2_25 (l : Launch) (Z : State) (a0 : Array Value) (hw : ∀ d ∈ tables_1, d.before a0 Z = true) (ws : List Jvm.Cond) (p1 : Int32) (h0 : Heap) (n0 : Nat) (Z0 : n0 ≤ h0.size) (hc2 : ¬ (p1 < (1 : Int32))) :
    MetFree l zm0 (head1 (Jvm.Cond.code zm0 prog_22_method_12_code 1 (some .int) :: ws) ({ frames := 0, cells := 0, slots := 0, locals := 0 } : Room)) (fun a U => a = #[(.int p1)] ∧ Z.Warmed39 U.vm ∧ U.heap = h0) (fun _ _ _ _ _ => True) (fun _ U o U' => ∃ v L, o = .returned v ∧ Q2_25 Z p1 h0 n0 v U'.heap L ∧ FrameEnd U o U' L ({ frames := 0, cells := 0, slots := 0, locals := 0 } : Room).cells ({ frames := 0, cells := 0, slots := 0, locals := 0 } : Room).slots) := by
  refine MetFree.of_bodySF (plainFor_of_name pn_0) hisR ?_
  intro p e s m args below meth c s₁ Bd hml0 hP hK
  obtain ⟨rfl, hZ, hh⟩ := hP
  have hx := Bd.exec
  have hby := Bd.bytes
  have hml : c.maxLocals = 1 := hml0
  have hown : s.vm.findClass zs0 = some m.cls := findClass_of_methodNamed Bd.named
  have hnm := (name_of_methodNamed Bd.named Bd.method).1
  have X0 : Stand p l e ({ frames := 0, cells := 0, slots := 0, locals := 0 } : Room) s m #[(.int p1)] below meth c s₁ [] 0 0 := Stand.of_body Bd
  have e0 : s₁.heap = h0 := by rw [← hh, Bd.state]; rfl
  have N0 := Fr.nil n0
  refine own_pre (g' := mkF m 0 (lc5 p1) []) (ef_0 m p1) ?_
  refine own_go (U' := s₁.setTop (mkF m 2 (lc5 p1) [(.int 1), (.int p1)])) (fun t k => oiloadN X0 hx hby d2_0 rfl (oiconst X0 hx hby d2_1 k)) ?_
  refine own_go (U' := s₁.setTop (mkF m 20 (lc5 p1) [(.int p1)])) (fun t k => oicY (pc := 2) X0 hx hby d2_2 19 (flt hc2).2.1 (by decide) (oiloadN X0 hx hby d2_19 rfl k)) ?_
  obtain ⟨fs, hr, hrun, hended, hW, hsame⟩ := X0.leave (v := some (.int p1)) (fun h => by rw [Bd.returns] at h; cases h)
  refine own_out ⟨_, _, ?_, hrun, hended, _, _, rfl, ?_, ⟨_, rfl⟩, hW, hsame.mono (by decide) (by decide)⟩
  · exact retI X0 hx Bd.returns (hb hby d2_20) hr
  · show Q2_25 Z p1 h0 n0 _ s₁.heap _
    rw [e0]
    exact ⟨rfl, N0, rfl⟩
def Q11_26 (Z : State) (a1 : Addr) (p2 : Int32) (a3 a4 : Addr) (h0 : Heap) (n0 : Nat) (v : Option Value) (h : Heap) (L : List Loc) : Prop := v = none ∧ Fr n0 L ∧ Keep h0 h [a1] ∧ Fld Z h a1 zs0 "budget" "I" (.int p2) ∧ Fld Z h a1 zs0 "classes" zs27 (.ref a3) ∧ Fld Z h a1 zs0 "backoff" zs28 (.ref a4)
set_option maxRecDepth 65536 in
set_option maxHeartbeats 40000000 in
theorem rm11_26 (l : Launch) (Z : State) (a0 : Array Value) (hw : ∀ d ∈ tables_1, d.before a0 Z = true) (ws : List Jvm.Cond) (a1 : Addr) (p2 : Int32) (a3 a4 : Addr) (h0 : Heap) (n0 : Nat) (Z0 : n0 ≤ h0.size) (F6 : Fld Z h0 a1 zs0 "budget" "I" (.int 0)) (F7 : Fld Z h0 a1 zs0 "classes" zs27 .null) (F8 : Fld Z h0 a1 zs0 "backoff" zs28 .null) (F9 : Exa Z h0 a1 zs0) (g11 : n0 ≤ a1) (F15 : Exa Z h0 a3 zs11) (F24 : Exa Z h0 a4 zs22) (F26 : Fld Z h0 a4 zs22 zs26 "Z" (.int 0)) (ne27 : a4 ≠ a1) :
    MetFree l zm11 (head1 (Jvm.Cond.code zm11 prog_22_method_2_code 4 none :: ws) ({ frames := 2, cells := 0, slots := 0, locals := 26 } : Room)) (fun a U => a = #[(.ref a1), (.int p2), (.ref a3), (.ref a4)] ∧ Z.Warmed39 U.vm ∧ U.heap = h0) (fun _ _ _ _ _ => True) (fun _ U o U' => ∃ v L, o = .returned v ∧ Q11_26 Z a1 p2 a3 a4 h0 n0 v U'.heap L ∧ FrameEnd U o U' L ({ frames := 2, cells := 0, slots := 0, locals := 26 } : Room).cells ({ frames := 2, cells := 0, slots := 0, locals := 26 } : Room).slots) := by
  refine MetFree.of_bodySF (plainFor_of_name pn_0) hisR ?_
  intro p e s m args below meth c s₁ Bd hml0 hP hK
  obtain ⟨rfl, hZ, hh⟩ := hP
  have hx := Bd.exec
  have hby := Bd.bytes
  have hml : c.maxLocals = 4 := hml0
  have hown : s.vm.findClass zs0 = some m.cls := findClass_of_methodNamed Bd.named
  have hnm := (name_of_methodNamed Bd.named Bd.method).1
  have X0 : Stand p l e ({ frames := 2, cells := 0, slots := 0, locals := 26 } : Room) s m #[(.ref a1), (.int p2), (.ref a3), (.ref a4)] below meth c s₁ [] 0 0 := Stand.of_body Bd
  have e0 : s₁.heap = h0 := by rw [← hh, Bd.state]; rfl
  have N0 := Fr.nil n0
  refine own_pre (g' := mkF m 0 (lc10 a1 p2 a3 a4) []) (ef_6 m a1 p2 a3 a4) ?_
  obtain ⟨T5, X5, e5, st5⟩ := initO X0 hx hZ hown (ww hw 66 rfl) (ww hw 47 rfl) (ww hw 48 rfl) e0 (g := (mkF m 1 (lc10 a1 p2 a3 a4) [(.ref a1)])) rfl (by rw [hml]; rfl) rfl (hb hby d11_1) (by decide) (W := 0) (by show 2 * 0 + _ ≤ _; exact Nat.le_of_eq rfl) (by decide)
  obtain ⟨T10, h10, X10, e10, W10, st10⟩ := putF X5 hx hZ hown (host := "") (Or.inl (ww hw 67 rfl)) Via.refl e5 F6 F9 (Or.inr ⟨(ww hw 68 rfl), rfl, hnm⟩) (ww hw 2 rfl) (ty := .int) (by decide) rfl rfl (g := (mkF m 6 (lc10 a1 p2 a3 a4) [(.int p2), (.ref a1)])) rfl rfl (hb hby d11_6)
  have N12 := Fr.snoc X10 N0 g11
  have f13 : Fld Z h10 a1 zs0 "budget" "I" (.int p2) := Fld.same W10 F6
  have f16 : Exa Z h10 a3 zs11 := (Exa.wr W10 F15)
  have Z_1 : n0 ≤ h10.size := Nat.le_trans Z0 (Keep.of_wr W10).1
  obtain ⟨_, T14, L14, X14, hQ14, st14⟩ := ocallS X10 hx hZ zm8 hown (ww hw 69 rfl) (ww hw 70 rfl) (by decide) (ww hw 71 rfl) (ww hw 25 rfl) e10 (rm12_8 l Z a0 hw [] a3 h10 n0 Z_1 f16) (st := [(.ref a3), (.ref a1)]) rfl 1 rfl (by decide) (pc := 11) (Ls := (lc10 a1 p2 a3 a4)) hml rfl (lenOf pd_7 rfl) d11_11 hby
  obtain ⟨rfl, N14q, e14⟩ := hQ14
  have N17 := Fr.app N12 N14q
  have f18 : Fld Z h10 a1 zs0 "classes" zs27 .null := (Fld.other W10 F7 (Or.inr (slot_ne (Or.inr (ww hw 74 rfl)) (Or.inr (ww hw 68 rfl)) (by decide) (t := (.object zs14)) (t' := .int) (by decide) (by decide))))
  have f19 : Exa Z h10 a1 zs0 := (Exa.wr W10 F9)
  obtain ⟨T20, h20, X20, e20, W20, st20⟩ := putF X14 hx hZ hown (host := "") (Or.inl (ww hw 73 rfl)) Via.refl e14 f18 f19 (Or.inr ⟨(ww hw 74 rfl), rfl, hnm⟩) (ww hw 2 rfl) (ty := (.object zs14)) (by decide) rfl rfl (g := (mkF m 14 (lc10 a1 p2 a3 a4) [(.ref a3), (.ref a1)])) rfl rfl (hb hby d11_14)
  have N21 := Fr.snoc X20 N17 g11
  have f22 : Fld Z h20 a1 zs0 "classes" zs27 (.ref a3) := Fld.same W20 f18
  have f25 : Exa Z h20 a4 zs22 := (Exa.wr W20 (Exa.wr W10 F24))
  have f28 : Fld Z h20 a4 zs22 zs26 "Z" (.int 0) := (Fld.other W20 (Fld.other W10 F26 (Or.inl ne27)) (Or.inl ne27))
  have Z_2 : n0 ≤ h20.size := Nat.le_trans Z_1 (Keep.of_wr W20).1
  obtain ⟨_, T23, L23, X23, hQ23, st23⟩ := ocallS X20 hx hZ zm10 hown (ww hw 75 rfl) (ww hw 76 rfl) (by decide) (ww hw 77 rfl) (ww hw 59 rfl) e20 (rm13_12 l Z a0 hw [] a4 h20 n0 Z_2 f25 f28) (st := [(.ref a4), (.ref a1)]) rfl 1 rfl (by decide) (pc := 19) (Ls := (lc10 a1 p2 a3 a4)) hml rfl (lenOf pd_8 rfl) d11_19 hby
  obtain ⟨rfl, N23q, e23⟩ := hQ23
  have N29 := Fr.app N21 N23q
  have f30 : Fld Z h20 a1 zs0 "backoff" zs28 .null := (Fld.other W20 (Fld.other W10 F8 (Or.inr (slot_ne (Or.inr (ww hw 94 rfl)) (Or.inr (ww hw 68 rfl)) (by decide) (t := (.object zs19)) (t' := .int) (by decide) (by decide)))) (Or.inr (slot_ne (Or.inr (ww hw 94 rfl)) (Or.inr (ww hw 74 rfl)) (by decide) (t := (.object zs19)) (t' := (.object zs14)) (by decide) (by decide))))
  have f31 : Exa Z h20 a1 zs0 := (Exa.wr W20 f19)
  obtain ⟨T32, h32, X32, e32, W32, st32⟩ := putF X23 hx hZ hown (host := "") (Or.inl (ww hw 93 rfl)) Via.refl e23 f30 f31 (Or.inr ⟨(ww hw 94 rfl), rfl, hnm⟩) (ww hw 2 rfl) (ty := (.object zs19)) (by decide) rfl rfl (g := (mkF m 22 (lc10 a1 p2 a3 a4) [(.ref a4), (.ref a1)])) rfl rfl (hb hby d11_22)
  have N33 := Fr.snoc X32 N29 g11
  have f34 : Fld Z h32 a1 zs0 "backoff" zs28 (.ref a4) := Fld.same W32 f30
  refine own_go (U' := T32.setTop (mkF m 25 (lc10 a1 p2 a3 a4) [])) (fun t k => oaloadN X0 hx hby d11_0 rfl rfl (st5 _ (oaloadN X5 hx hby d11_4 rfl rfl (oiloadN X5 hx hby d11_5 rfl (st10 _ (oaloadN X10 hx hby d11_9 rfl rfl (oaloadN X10 hx hby d11_10 rfl rfl (st14 _ (st20 _ (oaloadN X20 hx hby d11_17 rfl rfl (oaloadN X20 hx hby d11_18 rfl rfl (st23 _ (st32 _ k))))))))))))) ?_
  have f35 : Fld Z h32 a1 zs0 "budget" "I" (.int p2) := (Fld.other W32 (Fld.other W20 f13 (Or.inr (slot_ne (Or.inr (ww hw 68 rfl)) (Or.inr (ww hw 74 rfl)) (by decide) (t := .int) (t' := (.object zs14)) (by decide) (by decide)))) (Or.inr (slot_ne (Or.inr (ww hw 68 rfl)) (Or.inr (ww hw 94 rfl)) (by decide) (t := .int) (t' := (.object zs19)) (by decide) (by decide))))
  have f36 : Fld Z h32 a1 zs0 "classes" zs27 (.ref a3) := (Fld.other W32 f22 (Or.inr (slot_ne (Or.inr (ww hw 74 rfl)) (Or.inr (ww hw 94 rfl)) (by decide) (t := (.object zs14)) (t' := (.object zs19)) (by decide) (by decide))))
  obtain ⟨fs, hr, hrun, hended, hW, hsame⟩ := X32.leave (v := none) (fun _ => rfl)
  refine own_out ⟨_, _, ?_, hrun, hended, _, _, rfl, ?_, ⟨_, rfl⟩, hW, hsame.mono (by decide) (by decide)⟩
  · exact X32.returnOut hx Bd.returns (hb hby d11_25) hr
  · show Q11_26 Z a1 p2 a3 a4 h0 n0 _ T32.heap _
    rw [e32]
    exact ⟨rfl, N33, ((((Keep.refl h0 [a1]).wr W10 (Or.inl (List.mem_of_getElem? (i := 0) rfl))).wr W20 (Or.inl (List.mem_of_getElem? (i := 0) rfl))).wr W32 (Or.inl (List.mem_of_getElem? (i := 0) rfl))), f35, f36, f34⟩
def Q1_27 (Z : State) (a1 : Addr) (p2 : Int32) (a8 a20 : Addr) (h0 : Heap) (n0 : Nat) (v : Option Value) (h : Heap) (L : List Loc) : Prop := ∃ b13 : Addr, ∃ b6 : Addr, v = none ∧ Fr n0 L ∧ Keep h0 h [a1] ∧ h0.size ≤ b13 ∧ Fld Z h a1 zs0 "budget" "I" (.int p2) ∧ Fld Z h a1 zs0 "classes" zs27 (.ref b13) ∧ Fld Z h a1 zs0 "backoff" zs28 (.ref a20) ∧ Exa Z h b13 zs11 ∧ Fld Z h b13 zs11 "k0" zs12 (.ref b6) ∧ Fld Z h b13 zs11 "v0" zs12 (.ref a8)
set_option maxRecDepth 65536 in
set_option maxHeartbeats 40000000 in
theorem rm1_27 (l : Launch) (Z : State) (a0 : Array Value) (hw : ∀ d ∈ tables_1, d.before a0 Z = true) (ws : List Jvm.Cond) (a1 : Addr) (p2 : Int32) (a8 a20 : Addr) (h0 : Heap) (n0 : Nat) (Z0 : n0 ≤ h0.size) (hc4 : ¬ (p2 < (1 : Int32))) (F9 : Sta Z h0 zs2 "TRUE" zs3 (.ref a8)) (F21 : Sta Z h0 zs16 zs17 zs18 (.ref a20)) (F25 : Fld Z h0 a1 zs0 "budget" "I" (.int 0)) (F27 : Fld Z h0 a1 zs0 "classes" zs27 .null) (F29 : Fld Z h0 a1 zs0 "backoff" zs28 .null) (F31 : Exa Z h0 a1 zs0) (g33 : n0 ≤ a1) (F34 : Exa Z h0 a20 zs22) (F36 : Fld Z h0 a20 zs22 zs26 "Z" (.int 0)) (ne38 : a20 ≠ a1) :
    MetFree l zm12 (head1 (Jvm.Cond.code zm12 prog_22_method_1_code 2 none :: ws) ({ frames := 5, cells := 3, slots := 60, locals := 66 } : Room)) (fun a U => a = #[(.ref a1), (.int p2)] ∧ Z.Warmed39 U.vm ∧ U.heap = h0) (fun _ _ _ _ _ => True) (fun _ U o U' => ∃ v L, o = .returned v ∧ Q1_27 Z a1 p2 a8 a20 h0 n0 v U'.heap L ∧ ReturnedEndW U o U' L ({ frames := 5, cells := 3, slots := 60, locals := 66 } : Room).cells ({ frames := 5, cells := 3, slots := 60, locals := 66 } : Room).slots) := by
  refine MetFree.of_bodySF (plainFor_of_name pn_0) hisR ?_
  intro p e s m args below meth c s₁ Bd hml0 hP hK
  obtain ⟨rfl, hZ, hh⟩ := hP
  have hx := Bd.exec
  have hby := Bd.bytes
  have hml : c.maxLocals = 2 := hml0
  have hown : s.vm.findClass zs0 = some m.cls := findClass_of_methodNamed Bd.named
  have hnm := (name_of_methodNamed Bd.named Bd.method).1
  have X0 : Stand p l e ({ frames := 5, cells := 3, slots := 60, locals := 66 } : Room) s m #[(.ref a1), (.int p2)] below meth c s₁ [] 0 0 := Stand.of_body Bd
  have e0 : s₁.heap = h0 := by rw [← hh, Bd.state]; rfl
  have N0 := Fr.nil n0
  refine own_pre (g' := mkF m 0 (lc4 a1 p2) []) (ef_7 m a1 p2) ?_
  obtain ⟨_, T3, L3, X3, hQ3, st3⟩ := ocallS X0 hx hZ zm0 hown (ww hw 7 rfl) (ww hw 8 rfl) (by decide) (ww hw 9 rfl) (ww hw 3 rfl) e0 (rm2_25 l Z a0 hw [] p2 h0 n0 Z0 hc4) (st := [(.int p2), (.ref a1)]) rfl 1 rfl (by decide) (pc := 2) (Ls := (lc4 a1 p2)) hml rfl (lenOf pd_0 rfl) d1_2 hby
  obtain ⟨rfl, N3q, e3⟩ := hQ3
  have N5 := Fr.app N0 N3q
  obtain ⟨b6, T6, h6, k6, X6, e6, E6, hS6, hk6, hZ, hown, st6⟩ := ldcS (s := s) (vm0 := s.vm) X3 hx hZ hown (ww hw 10 rfl) (own_wS hw) e3 ((State.WarmedH.refl s).since 0) (Nat.zero_le _) (g := (mkF m 5 (lc4 a1 p2) [(.int p2), (.ref a1)])) rfl (hb hby d1_5) (n := 52) (by decide) (by decide) (by decide) (by decide)
  have f10 : Sta Z h6 zs2 "TRUE" zs3 (.ref a8) := (Sta.ext E6 F9)
  have Z_1 : n0 ≤ h6.size := Nat.le_trans Z0 E6.1
  obtain ⟨_, T7, L7, X7, hQ7, st7⟩ := ocallS X6 hx hZ zm1 hown (ww hw 18 rfl) (ww hw 19 rfl) (by decide) (ww hw 21 rfl) (ww hw 20 rfl) e6 (rm3_1 l Z a0 hw [] a8 h6 n0 Z_1 f10) (st := [(.int 1), (.ref b6), (.int p2), (.ref a1)]) rfl 3 rfl (by decide) (pc := 8) (Ls := (lc4 a1 p2)) hml rfl (lenOf pd_1 rfl) d1_8 hby
  obtain ⟨rfl, N7q, e7⟩ := hQ7
  have N11 := Fr.app N5 N7q
  obtain ⟨_, T12, L12, X12, hQ12, st12⟩ := ocallS X7 hx hZ zm6 hown (ww hw 23 rfl) (ww hw 24 rfl) (by decide) (ww hw 26 rfl) (ww hw 25 rfl) e7 (rm4_6 l Z a0 hw [] b6 a8 h6 n0 Z_1 ) (st := [(.ref a8), (.ref b6), (.int p2), (.ref a1)]) rfl 2 rfl (by decide) (pc := 11) (Ls := (lc4 a1 p2)) hml rfl (lenOf pd_5 rfl) d1_11 hby
  obtain ⟨b13, rfl, N12q, K12, sz14, f15, f16, f17⟩ := hQ12
  have N18 := Fr.app N11 N12q
  have f22 : Sta Z T12.heap zs16 zs17 zs18 (.ref a20) := (own_staK (Sta.ext E6 F21) K12 all0)
  have Z_2 : n0 ≤ T12.heap.size := Nat.le_trans Z_1 K12.1
  obtain ⟨_, T19, L19, X19, hQ19, st19⟩ := ocallS X12 hx hZ zm7 hown (ww hw 57 rfl) (ww hw 58 rfl) (by decide) (ww hw 60 rfl) (ww hw 59 rfl) rfl (rm10_7 l Z a0 hw [] a20 T12.heap n0 Z_2 f22) (st := [(.ref b13), (.int p2), (.ref a1)]) rfl 3 rfl (by decide) (pc := 14) (Ls := (lc4 a1 p2)) hml rfl (lenOf pd_6 rfl) d1_14 hby
  obtain ⟨rfl, N19q, e19⟩ := hQ19
  have N23 := Fr.app N18 N19q
  have f26 : Fld Z T12.heap a1 zs0 "budget" "I" (.int 0) := ((Fld.ext E6 F25).keep K12 nin0)
  have f28 : Fld Z T12.heap a1 zs0 "classes" zs27 .null := ((Fld.ext E6 F27).keep K12 nin0)
  have f30 : Fld Z T12.heap a1 zs0 "backoff" zs28 .null := ((Fld.ext E6 F29).keep K12 nin0)
  have f32 : Exa Z T12.heap a1 zs0 := ((Exa.ext E6 F31).keep K12)
  have f35 : Exa Z T12.heap a20 zs22 := ((Exa.ext E6 F34).keep K12)
  have f37 : Fld Z T12.heap a20 zs22 zs26 "Z" (.int 0) := ((Fld.ext E6 F36).keep K12 nin0)
  obtain ⟨_, T24, L24, X24, hQ24, st24⟩ := ocallI X19 hx hZ zm11 rfl hown (ww hw 63 rfl) (ww hw 64 rfl) (by decide) (ww hw 65 rfl) (ww hw 3 rfl) e19 (rm11_26 l Z a0 hw [] a1 p2 b13 a20 T12.heap n0 Z_2 f26 f28 f30 f32 g33 f15 f35 f37 ne38) (st := [(.ref a20), (.ref b13), (.int p2), (.ref a1)]) rfl 0 rfl (by decide) (pc := 17) (Ls := (lc4 a1 p2)) hml rfl (lenOf pd_9 rfl) d1_17 hby
  obtain ⟨rfl, N24q, K24, f39, f40, f41⟩ := hQ24
  have N42 := Fr.app N23 N24q
  refine own_go (U' := T24.setTop (mkF m 20 (lc4 a1 p2) [])) (fun t k => oaloadN X0 hx hby d1_0 rfl rfl (oiloadN X0 hx hby d1_1 rfl (st3 _ (st6 _ (oiconst X6 hx hby d1_7 (st7 _ (st12 _ (st19 _ (st24 _ k))))))))) ?_
  have f43 : Exa Z T24.heap b13 zs11 := (f15.keep K24)
  have ne44 : a1 ≠ b13 := Nat.ne_of_lt (Nat.lt_of_lt_of_le (Nat.lt_of_lt_of_le (F25.lt) E6.1) sz14)
  have f45 : Fld Z T24.heap b13 zs11 "k0" zs12 (.ref b6) := (f16.keep K24 (ninS (Ne.symm ne44) nin0))
  have f46 : Fld Z T24.heap b13 zs11 "v0" zs12 (.ref a8) := (f17.keep K24 (ninS (Ne.symm ne44) nin0))
  obtain ⟨fs, hr, hrun, hended, hW, hsame⟩ := X24.leave (v := none) (fun _ => rfl)
  have hE := hS6.ended hW (Nat.le_trans (Nat.le_trans hk6 K12.1) K24.1) hsame
  refine own_out ⟨_, _, ?_, hrun, hended, _, _, rfl, ?_, ⟨_, rfl⟩, hE.1, hE.2.1, hE.2.2.mono (by decide) (by decide)⟩
  · exact X24.returnOut hx Bd.returns (hb hby d1_20) hr
  · show Q1_27 Z a1 p2 a8 a20 h0 n0 _ T24.heap _
    exact ⟨b13, b6, rfl, N42, (Keep.trans (Keep.trans ((Keep.refl h0 [a1]).ext E6) K12 all0) K24 (allS (Or.inl (List.mem_of_getElem? (i := 0) rfl)) all0)), (Nat.le_trans E6.1 sz14), f39, f40, f41, f43, f45, f46⟩
def Q15_28 (Z : State) (a1 : Addr) (p2 p3 : Int32) (h0 : Heap) (n0 : Nat) (v : Option Value) (h : Heap) (L : List Loc) : Prop := v = some (.int 1) ∧ Fr n0 L ∧ h = h0
set_option maxRecDepth 65536 in
set_option maxHeartbeats 40000000 in
theorem rm15_28 (l : Launch) (Z : State) (a0 : Array Value) (hw : ∀ d ∈ tables_1, d.before a0 Z = true) (ws : List Jvm.Cond) (a1 : Addr) (p2 p3 : Int32) (h0 : Heap) (n0 : Nat) (Z0 : n0 ≤ h0.size) (F4 : Fld Z h0 a1 zs0 "budget" "I" (.int p3)) (hc6 : p2 < p3) :
    MetFree l zm13 (head1 (Jvm.Cond.code zm13 prog_22_method_7_code 2 (some .boolean) :: ws) ({ frames := 0, cells := 0, slots := 0, locals := 0 } : Room)) (fun a U => a = #[(.ref a1), (.int p2)] ∧ Z.Warmed39 U.vm ∧ U.heap = h0) (fun _ _ _ _ _ => True) (fun _ U o U' => ∃ v L, o = .returned v ∧ Q15_28 Z a1 p2 p3 h0 n0 v U'.heap L ∧ FrameEnd U o U' L ({ frames := 0, cells := 0, slots := 0, locals := 0 } : Room).cells ({ frames := 0, cells := 0, slots := 0, locals := 0 } : Room).slots) := by
  refine MetFree.of_bodySF (plainFor_of_name pn_0) hisR ?_
  intro p e s m args below meth c s₁ Bd hml0 hP hK
  obtain ⟨rfl, hZ, hh⟩ := hP
  have hx := Bd.exec
  have hby := Bd.bytes
  have hml : c.maxLocals = 2 := hml0
  have hown : s.vm.findClass zs0 = some m.cls := findClass_of_methodNamed Bd.named
  have hnm := (name_of_methodNamed Bd.named Bd.method).1
  have X0 : Stand p l e ({ frames := 0, cells := 0, slots := 0, locals := 0 } : Room) s m #[(.ref a1), (.int p2)] below meth c s₁ [] 0 0 := Stand.of_body Bd
  have e0 : s₁.heap = h0 := by rw [← hh, Bd.state]; rfl
  have N0 := Fr.nil n0
  refine own_pre (g' := mkF m 0 (lc4 a1 p2) []) (ef_7 m a1 p2) ?_
  obtain ⟨T5, X5, e5, st5⟩ := getF X0 hx hZ hown (host := "") (Or.inl (ww hw 67 rfl)) Via.refl e0 F4 (g := (mkF m 2 (lc4 a1 p2) [(.ref a1), (.int p2)])) rfl rfl (hb hby d15_2)
  refine own_go (U' := T5.setTop (mkF m 5 (lc4 a1 p2) [(.int p3), (.int p2)])) (fun t k => oiloadN X0 hx hby d15_0 rfl (oaloadN X0 hx hby d15_1 rfl rfl (st5 _ k))) ?_
  refine own_go (U' := T5.setTop (mkF m 13 (lc4 a1 p2) [(.int 1)])) (fun t k => oicN X5 hx hby d15_5 (tlt hc6).2.1 (oiconst X5 hx hby d15_8 (ogoto (pc := 9) X5 hx hby d15_9 13 (by decide) k))) ?_
  obtain ⟨fs, hr, hrun, hended, hW, hsame⟩ := X5.leave (v := some (.int 1)) (fun h => by rw [Bd.returns] at h; cases h)
  refine own_out ⟨_, _, ?_, hrun, hended, _, _, rfl, ?_, ⟨_, rfl⟩, hW, hsame.mono (by decide) (by decide)⟩
  · exact retN X5 hx (t := .boolean) Bd.returns (by simp) (hb hby d15_13) hr
  · show Q15_28 Z a1 p2 p3 h0 n0 _ T5.heap _
    rw [e5]
    exact ⟨rfl, N0, rfl⟩
def Q15_29 (Z : State) (a1 : Addr) (p2 : Int32) (h0 : Heap) (n0 : Nat) (v : Option Value) (h : Heap) (L : List Loc) : Prop := v = some (.int 0) ∧ Fr n0 L ∧ h = h0
set_option maxRecDepth 65536 in
set_option maxHeartbeats 40000000 in
theorem rm15_29 (l : Launch) (Z : State) (a0 : Array Value) (hw : ∀ d ∈ tables_1, d.before a0 Z = true) (ws : List Jvm.Cond) (a1 : Addr) (p2 : Int32) (h0 : Heap) (n0 : Nat) (Z0 : n0 ≤ h0.size) (F3 : Fld Z h0 a1 zs0 "budget" "I" (.int p2)) :
    MetFree l zm13 (head1 (Jvm.Cond.code zm13 prog_22_method_7_code 2 (some .boolean) :: ws) ({ frames := 0, cells := 0, slots := 0, locals := 0 } : Room)) (fun a U => a = #[(.ref a1), (.int p2)] ∧ Z.Warmed39 U.vm ∧ U.heap = h0) (fun _ _ _ _ _ => True) (fun _ U o U' => ∃ v L, o = .returned v ∧ Q15_29 Z a1 p2 h0 n0 v U'.heap L ∧ FrameEnd U o U' L ({ frames := 0, cells := 0, slots := 0, locals := 0 } : Room).cells ({ frames := 0, cells := 0, slots := 0, locals := 0 } : Room).slots) := by
  refine MetFree.of_bodySF (plainFor_of_name pn_0) hisR ?_
  intro p e s m args below meth c s₁ Bd hml0 hP hK
  obtain ⟨rfl, hZ, hh⟩ := hP
  have hx := Bd.exec
  have hby := Bd.bytes
  have hml : c.maxLocals = 2 := hml0
  have hown : s.vm.findClass zs0 = some m.cls := findClass_of_methodNamed Bd.named
  have hnm := (name_of_methodNamed Bd.named Bd.method).1
  have X0 : Stand p l e ({ frames := 0, cells := 0, slots := 0, locals := 0 } : Room) s m #[(.ref a1), (.int p2)] below meth c s₁ [] 0 0 := Stand.of_body Bd
  have e0 : s₁.heap = h0 := by rw [← hh, Bd.state]; rfl
  have N0 := Fr.nil n0
  refine own_pre (g' := mkF m 0 (lc4 a1 p2) []) (ef_7 m a1 p2) ?_
  obtain ⟨T4, X4, e4, st4⟩ := getF X0 hx hZ hown (host := "") (Or.inl (ww hw 67 rfl)) Via.refl e0 F3 (g := (mkF m 2 (lc4 a1 p2) [(.ref a1), (.int p2)])) rfl rfl (hb hby d15_2)
  refine own_go (U' := T4.setTop (mkF m 5 (lc4 a1 p2) [(.int p2), (.int p2)])) (fun t k => oiloadN X0 hx hby d15_0 rfl (oaloadN X0 hx hby d15_1 rfl rfl (st4 _ k))) ?_
  refine own_go (U' := T4.setTop (mkF m 13 (lc4 a1 p2) [(.int 0)])) (fun t k => oicY (pc := 5) X4 hx hby d15_5 12 (flt Int32.lt_irrefl).2.1 (by decide) (oiconst X4 hx hby d15_12 k)) ?_
  obtain ⟨fs, hr, hrun, hended, hW, hsame⟩ := X4.leave (v := some (.int 0)) (fun h => by rw [Bd.returns] at h; cases h)
  refine own_out ⟨_, _, ?_, hrun, hended, _, _, rfl, ?_, ⟨_, rfl⟩, hW, hsame.mono (by decide) (by decide)⟩
  · exact retN X4 hx (t := .boolean) Bd.returns (by simp) (hb hby d15_13) hr
  · show Q15_29 Z a1 p2 h0 n0 _ T4.heap _
    rw [e4]
    exact ⟨rfl, N0, rfl⟩
def Q16_30 (Z : State) (a1 : Addr) (p2 : Int32) (h0 : Heap) (n0 : Nat) (v : Option Value) (h : Heap) (L : List Loc) : Prop := v = some (.int p2) ∧ Fr n0 L ∧ h = h0
set_option maxRecDepth 65536 in
set_option maxHeartbeats 40000000 in
theorem rm16_30 (l : Launch) (Z : State) (a0 : Array Value) (hw : ∀ d ∈ tables_1, d.before a0 Z = true) (ws : List Jvm.Cond) (a1 : Addr) (p2 : Int32) (h0 : Heap) (n0 : Nat) (Z0 : n0 ≤ h0.size) (F3 : Fld Z h0 a1 zs0 "budget" "I" (.int p2)) :
    MetFree l zm14 (head1 (Jvm.Cond.code zm14 prog_22_method_6_code 1 (some .int) :: ws) ({ frames := 0, cells := 0, slots := 0, locals := 0 } : Room)) (fun a U => a = #[(.ref a1)] ∧ Z.Warmed39 U.vm ∧ U.heap = h0) (fun _ _ _ _ _ => True) (fun _ U o U' => ∃ v L, o = .returned v ∧ Q16_30 Z a1 p2 h0 n0 v U'.heap L ∧ FrameEnd U o U' L ({ frames := 0, cells := 0, slots := 0, locals := 0 } : Room).cells ({ frames := 0, cells := 0, slots := 0, locals := 0 } : Room).slots) := by
  refine MetFree.of_bodySF (plainFor_of_name pn_0) hisR ?_
  intro p e s m args below meth c s₁ Bd hml0 hP hK
  obtain ⟨rfl, hZ, hh⟩ := hP
  have hx := Bd.exec
  have hby := Bd.bytes
  have hml : c.maxLocals = 1 := hml0
  have hown : s.vm.findClass zs0 = some m.cls := findClass_of_methodNamed Bd.named
  have hnm := (name_of_methodNamed Bd.named Bd.method).1
  have X0 : Stand p l e ({ frames := 0, cells := 0, slots := 0, locals := 0 } : Room) s m #[(.ref a1)] below meth c s₁ [] 0 0 := Stand.of_body Bd
  have e0 : s₁.heap = h0 := by rw [← hh, Bd.state]; rfl
  have N0 := Fr.nil n0
  refine own_pre (g' := mkF m 0 (lc8 a1) []) (ef_1 m a1) ?_
  obtain ⟨T4, X4, e4, st4⟩ := getF X0 hx hZ hown (host := "") (Or.inl (ww hw 67 rfl)) Via.refl e0 F3 (g := (mkF m 1 (lc8 a1) [(.ref a1)])) rfl rfl (hb hby d16_1)
  refine own_go (U' := T4.setTop (mkF m 4 (lc8 a1) [(.int p2)])) (fun t k => oaloadN X0 hx hby d16_0 rfl rfl (st4 _ k)) ?_
  obtain ⟨fs, hr, hrun, hended, hW, hsame⟩ := X4.leave (v := some (.int p2)) (fun h => by rw [Bd.returns] at h; cases h)
  refine own_out ⟨_, _, ?_, hrun, hended, _, _, rfl, ?_, ⟨_, rfl⟩, hW, hsame.mono (by decide) (by decide)⟩
  · exact retI X4 hx Bd.returns (hb hby d16_4) hr
  · show Q16_30 Z a1 p2 h0 n0 _ T4.heap _
    rw [e4]
    exact ⟨rfl, N0, rfl⟩
set_option maxRecDepth 65536 in
set_option maxHeartbeats 40000000 in
theorem rm0_31 (l : Launch) (Z : State) (a0 : Array Value) (hw : ∀ d ∈ tables_1, d.before a0 Z = true) (ws : List Jvm.Cond) (p1 p2 p3 : Int32) (a15 a18 : Addr) (h0 : Heap) (n0 : Nat) (Z0 : n0 ≤ h0.size) (hc5 : ¬ ((p1 &&& (2147483647 : Int32)) = (0 : Int32))) (hv7 : (p3 &&& (3 : Int32)) = (0 : Int32)) (hc13 : ¬ ((p1 &&& (2147483647 : Int32)) < (1 : Int32))) (F16 : Sta Z h0 zs2 "TRUE" zs3 (.ref a15)) (F19 : Sta Z h0 zs16 zs17 zs18 (.ref a18)) (F22 : Exa Z h0 a18 zs22) (F24 : Fld Z h0 a18 zs22 zs26 "Z" (.int 0)) (hc39 : p2 < (p1 &&& (2147483647 : Int32))) (hc42 : (0 : Int64) < (((p1 &&& (2147483647 : Int32)).toInt64) - (p2.toInt64))) (hc45 : ((p1 &&& (2147483647 : Int32)) - (1 : Int32)) < (p1 &&& (2147483647 : Int32))) :
    MetFree l x (head1 (Jvm.Cond.code x code maxLocals ret :: ws) room_1) (fun a U => a = #[(.int p1), (.int p2), (.int p3)] ∧ Z.Warmed39 U.vm ∧ U.heap = h0) (fun _ _ _ _ _ => True) (fun _ U o U' => ∃ v L, o = .returned v ∧ QLaw n0 v U'.heap L ∧ ReturnedEndW U o U' L room_1.cells room_1.slots) := by
  refine MetFree.of_bodySF (plainFor_of_name pn_9) hisR ?_
  intro p e s m args below meth c s₁ Bd hml0 hP hK
  obtain ⟨rfl, hZ, hh⟩ := hP
  have hx := Bd.exec
  have hby := Bd.bytes
  have hml : c.maxLocals = 11 := hml0
  have hown : s.vm.findClass zs32 = some m.cls := findClass_of_methodNamed Bd.named
  have hnm := (name_of_methodNamed Bd.named Bd.method).1
  have X0 : Stand p l e room_1 s m #[(.int p1), (.int p2), (.int p3)] below meth c s₁ [] 0 0 := Stand.of_body Bd
  have e0 : s₁.heap = h0 := by rw [← hh, Bd.state]; rfl
  have N0 := Fr.nil n0
  refine own_pre (g' := mkF m 0 (lc0 p1 p2 p3) []) (ef_8 m p1 p2 p3) ?_
  refine own_go (U' := s₁.setTop (mkF m 5 (lc1 p1 p2 p3 (p1 &&& (2147483647 : Int32))) [])) (fun t k => oiloadN X0 hx hby at_0 rfl (X0.ldcInt hx hown (mvT hZ (ww hw 0 rfl)) (g := (mkF m 1 (lc0 p1 p2 p3) [(.int p1)])) rfl (hb hby at_1) _ (oiand X0 hx hby at_3 (oistoreN X0 hx hby at_4 (lc1 p1 p2 p3 (p1 &&& (2147483647 : Int32))) rfl k)))) ?_
  obtain ⟨z4, hz4⟩ : ∃ z, z = (p1 &&& (2147483647 : Int32)) := ⟨_, rfl⟩
  rw [← hz4]
  refine own_go (U' := s₁.setTop (mkF m 6 (lc1 p1 p2 p3 z4) [(.int z4)])) (fun t k => oiloadN X0 hx hby at_5 rfl k) ?_
  have hs6 : ¬ (z4 = (0 : Int32)) := by rw [hz4]; exact hc5
  refine own_go (U' := s₁.setTop (mkF m 14 (lc1 p1 p2 p3 z4) [(.int (p3 &&& (3 : Int32)))])) (fun t k => oifY (pc := 6) X0 hx hby at_6 11 ((if0 _ _).trans (feq hs6).2) (by decide) (oiloadN X0 hx hby at_11 rfl (oiconst X0 hx hby at_12 (oiand X0 hx hby at_13 k)))) ?_
  rw [hv7]
  refine own_go (U' := s₁.setTop (mkF m 18 (lc2 p1 p2 p3 z4 0) [(.int 0)])) (fun t k => oistore X0 hx hby at_14 (lc2 p1 p2 p3 z4 0) rfl (oiload X0 hx hby at_16 rfl k)) ?_
  obtain ⟨T8, h8, X8, e8, E8, A8, D8, -, st8⟩ := newO X0 hx hZ hown (ww hw 1 rfl) (ww hw 2 rfl) (ww hw 3 rfl) e0 (g := (mkF m 60 (lc3 p1 p2 p3 z4 0 p2) [])) rfl (hb hby at_60) (by decide) (by decide)
  obtain ⟨b8, g8⟩ : ∃ z, z = h0.size := ⟨_, rfl⟩
  rw [← g8] at A8 D8 st8
  have f9 : Fld Z h8 b8 zs0 "budget" "I" (.int 0) := D8 (Or.inr (ww hw 68 rfl)) (ty := .int) (by decide)
  have f10 : Fld Z h8 b8 zs0 "classes" zs27 .null := D8 (Or.inr (ww hw 74 rfl)) (ty := (.object zs14)) (by decide)
  have f11 : Fld Z h8 b8 zs0 "backoff" zs28 .null := D8 (Or.inr (ww hw 94 rfl)) (ty := (.object zs19)) (by decide)
  have hs14 : ¬ (z4 < (1 : Int32)) := by rw [hz4]; exact hc13
  have f17 : Sta Z h8 zs2 "TRUE" zs3 (.ref a15) := (Sta.ext E8 F16)
  have f20 : Sta Z h8 zs16 zs17 zs18 (.ref a18) := (Sta.ext E8 F19)
  have g21 : n0 ≤ b8 := Nat.le_trans Z0 (Nat.le_of_eq g8.symm)
  have f23 : Exa Z h8 a18 zs22 := (Exa.ext E8 F22)
  have f25 : Fld Z h8 a18 zs22 zs26 "Z" (.int 0) := (Fld.ext E8 F24)
  have ne26 : a18 ≠ b8 := Nat.ne_of_lt (Nat.lt_of_lt_of_le (F22.lt) (Nat.le_of_eq g8.symm))
  have Z_1 : n0 ≤ h8.size := Nat.le_trans Z0 E8.1
  obtain ⟨_, T12, L12, X12, hQ12, hS12, hZ, hown, st12⟩ := ocallIS (s := s) (vm0 := s.vm) X8 hx hZ zm12 rfl hown (ww hw 4 rfl) (ww hw 5 rfl) (by decide) (ww hw 6 rfl) (ww hw 3 rfl) e8 (rm1_27 l Z a0 hw [] b8 z4 a15 a18 h8 n0 Z_1 hs14 f17 f20 f9 f10 f11 A8 g21 f23 f25 ne26) (st := [(.int z4), (.ref b8), (.ref b8)]) rfl 1 rfl (by decide) (pc := 65) (Ls := (lc3 p1 p2 p3 z4 0 p2)) hml rfl (lenOf pd_10 rfl) at_65 hby ((State.WarmedH.refl s).since 0) (Nat.zero_le _)
  obtain ⟨b27, b28, rfl, N12q, K12, sz29, f30, f31, f32, f33, f34, f35⟩ := hQ12
  have N36 := Fr.app N0 N12q
  have f38 : Exa Z T12.heap b8 zs0 := (A8.keep K12)
  have hs40 : p2 < z4 := by rw [hz4]; exact hc39
  have Z_2 : n0 ≤ T12.heap.size := Nat.le_trans Z_1 K12.1
  obtain ⟨_, T37, L37, X37, hQ37, st37⟩ := ocallV X12 hx hZ zm13 zm13 hown (ww hw 95 rfl) (ww hw 96 rfl) (notFace_of_selects (args := #[]) (mvT hZ (ww hw 98 rfl))) (ww hw 98 rfl) (ww hw 97 rfl) (by decide) (ww hw 99 rfl) (ww hw 3 rfl) rfl f38 (rm15_28 l Z a0 hw [] b8 p2 z4 T12.heap n0 Z_2 f30 hs40) (st := [(.int p2), (.ref b8)]) rfl 0 rfl (by decide) (pc := 74) (Ls := (lc12 p1 p2 p3 z4 0 p2 b8)) hml rfl (lenOf pd_11 rfl) at_74 hby
  obtain ⟨rfl, N37q, e37⟩ := hQ37
  have N41 := Fr.app N36 N37q
  refine own_go (U' := T37.setTop (mkF m 87 (lc13 p1 p2 p3 z4 0 p2 b8 1) [(.int (lcmpW ((z4.toInt64) - (p2.toInt64)) (0 : Int64)))])) (fun t k => oifN X0 hx hby at_18 (by decide) (oiloadN X0 hx hby at_21 rfl (oistore X0 hx hby at_22 (lc3 p1 p2 p3 z4 0 p2) rfl (ogoto (pc := 24) X0 hx hby at_24 60 (by decide) (st8 _ (odup X8 hx hby at_63 rfl (oiloadN X8 hx hby at_64 rfl (st12 _ (oastore X12 hx hby at_68 (lc12 p1 p2 p3 z4 0 p2 b8) rfl rfl (oaload X12 hx hby at_70 rfl rfl (oiload X12 hx hby at_72 rfl (st37 _ (oistore X37 hx hby at_77 (lc13 p1 p2 p3 z4 0 p2 b8 1) rfl (oiloadN X37 hx hby at_79 rfl (oi2l X37 hx hby at_80 (oiload X37 hx hby at_81 rfl (oi2l X37 hx hby at_83 (olsub X37 hx hby at_84 (olconst X37 hx hby at_85 (olcmp X37 hx hby at_86 k)))))))))))))))))))) ?_
  have hs43 : (0 : Int64) < ((z4.toInt64) - (p2.toInt64)) := by rw [hz4]; exact hc42
  have hs46 : (z4 - (1 : Int32)) < z4 := by rw [hz4]; exact hc45
  obtain ⟨_, T44, L44, X44, hQ44, st44⟩ := ocallV X37 hx hZ zm13 zm13 hown (ww hw 95 rfl) (ww hw 96 rfl) (notFace_of_selects (args := #[]) (mvT hZ (ww hw 98 rfl))) (ww hw 98 rfl) (ww hw 97 rfl) (by decide) (ww hw 99 rfl) (ww hw 3 rfl) e37 f38 (rm15_28 l Z a0 hw [] b8 (z4 - (1 : Int32)) z4 T12.heap n0 Z_2 f30 hs46) (st := [(.int (z4 - (1 : Int32))), (.ref b8)]) rfl 0 rfl (by decide) (pc := 102) (Ls := (lc14 p1 p2 p3 z4 0 p2 b8 1 1)) hml rfl (lenOf pd_11 rfl) at_102 hby
  obtain ⟨rfl, N44q, e44⟩ := hQ44
  have N47 := Fr.app N41 N44q
  obtain ⟨_, T48, L48, X48, hQ48, st48⟩ := ocallV X44 hx hZ zm13 zm13 hown (ww hw 95 rfl) (ww hw 96 rfl) (notFace_of_selects (args := #[]) (mvT hZ (ww hw 98 rfl))) (ww hw 98 rfl) (ww hw 97 rfl) (by decide) (ww hw 99 rfl) (ww hw 3 rfl) e44 f38 (rm15_29 l Z a0 hw [] b8 z4 T12.heap n0 Z_2 f30) (st := [(.int z4), (.ref b8)]) rfl 0 rfl (by decide) (pc := 110) (Ls := (lc15 p1 p2 p3 z4 0 p2 b8 1 1 1)) hml rfl (lenOf pd_11 rfl) at_110 hby
  obtain ⟨rfl, N48q, e48⟩ := hQ48
  have N49 := Fr.app N47 N48q
  refine own_go (U' := T48.setTop (mkF m 119 (lc16 p1 p2 p3 z4 0 p2 b8 1 1 1 0) [(.int 1), (.int 1)])) (fun t k => oifN X37 hx hby at_87 (own_ll_le_f hs43) (oiconst X37 hx hby at_90 (ogoto (pc := 91) X37 hx hby at_91 95 (by decide) (oistore X37 hx hby at_95 (lc14 p1 p2 p3 z4 0 p2 b8 1 1) rfl (oaload X37 hx hby at_97 rfl rfl (oiloadN X37 hx hby at_99 rfl (oiconst X37 hx hby at_100 (oisub X37 hx hby at_101 (st44 _ (oistore X44 hx hby at_105 (lc15 p1 p2 p3 z4 0 p2 b8 1 1 1) rfl (oaload X44 hx hby at_107 rfl rfl (oiloadN X44 hx hby at_109 rfl (st48 _ (oistore X48 hx hby at_113 (lc16 p1 p2 p3 z4 0 p2 b8 1 1 1 0) rfl (oiload X48 hx hby at_115 rfl (oiload X48 hx hby at_117 rfl k)))))))))))))))) ?_
  refine own_go (U' := T48.setTop (mkF m 124 (lc16 p1 p2 p3 z4 0 p2 b8 1 1 1 0) [(.int 1)])) (fun t k => oicN X48 hx hby at_119 (by decide) (oiload X48 hx hby at_122 rfl k)) ?_
  refine own_go (U' := T48.setTop (mkF m 129 (lc16 p1 p2 p3 z4 0 p2 b8 1 1 1 0) [(.int 0)])) (fun t k => oifN X48 hx hby at_124 (by decide) (oiload X48 hx hby at_127 rfl k)) ?_
  obtain ⟨_, T50, L50, X50, hQ50, st50⟩ := ocallV X48 hx hZ zm14 zm14 hown (ww hw 100 rfl) (ww hw 101 rfl) (notFace_of_selects (args := #[]) (mvT hZ (ww hw 103 rfl))) (ww hw 103 rfl) (ww hw 102 rfl) (by decide) (ww hw 104 rfl) (ww hw 3 rfl) e48 f38 (rm16_30 l Z a0 hw [] b8 z4 T12.heap n0 Z_2 f30) (st := [(.ref b8)]) rfl 0 rfl (by decide) (pc := 134) (Ls := (lc16 p1 p2 p3 z4 0 p2 b8 1 1 1 0)) hml rfl (lenOf pd_12 rfl) at_134 hby
  obtain ⟨rfl, N50q, e50⟩ := hQ50
  have N51 := Fr.app N49 N50q
  refine own_go (U' := T50.setTop (mkF m 138 (lc16 p1 p2 p3 z4 0 p2 b8 1 1 1 0) [(.int z4), (.int z4)])) (fun t k => oifN X48 hx hby at_129 (by decide) (oaload X48 hx hby at_132 rfl rfl (st50 _ (oiloadN X50 hx hby at_137 rfl k)))) ?_
  refine own_go (U' := T50.setTop (mkF m 146 (lc16 p1 p2 p3 z4 0 p2 b8 1 1 1 0) [(.int 1)])) (fun t k => oicN X50 hx hby at_138 (teq (rfl : z4 = z4)).2 (oiconst X50 hx hby at_141 (ogoto (pc := 142) X50 hx hby at_142 146 (by decide) k))) ?_
  obtain ⟨fs, hr, hrun, hended, hW, hsame⟩ := X50.leave (v := some (.int 1)) (fun h => by rw [Bd.returns] at h; cases h)
  have hE := hS12.ended hW (by show _ ≤ T50.heap.size; rw [e50]; exact (Nat.le_refl _)) hsame
  refine own_out ⟨_, _, ?_, hrun, hended, _, _, rfl, ?_, ⟨_, rfl⟩, hE.1, hE.2.1, hE.2.2.mono (by decide) (by decide)⟩
  · exact retN X50 hx (t := .boolean) Bd.returns (by simp) (hb hby at_146) hr
  · exact ⟨rfl, N51⟩
def Q15_32 (Z : State) (a1 : Addr) (p2 p3 : Int32) (h0 : Heap) (n0 : Nat) (v : Option Value) (h : Heap) (L : List Loc) : Prop := v = some (.int 0) ∧ Fr n0 L ∧ h = h0
set_option maxRecDepth 65536 in
set_option maxHeartbeats 40000000 in
theorem rm15_32 (l : Launch) (Z : State) (a0 : Array Value) (hw : ∀ d ∈ tables_1, d.before a0 Z = true) (ws : List Jvm.Cond) (a1 : Addr) (p2 p3 : Int32) (h0 : Heap) (n0 : Nat) (Z0 : n0 ≤ h0.size) (F4 : Fld Z h0 a1 zs0 "budget" "I" (.int p3)) (hc6 : ¬ (p2 < p3)) :
    MetFree l zm13 (head1 (Jvm.Cond.code zm13 prog_22_method_7_code 2 (some .boolean) :: ws) ({ frames := 0, cells := 0, slots := 0, locals := 0 } : Room)) (fun a U => a = #[(.ref a1), (.int p2)] ∧ Z.Warmed39 U.vm ∧ U.heap = h0) (fun _ _ _ _ _ => True) (fun _ U o U' => ∃ v L, o = .returned v ∧ Q15_32 Z a1 p2 p3 h0 n0 v U'.heap L ∧ FrameEnd U o U' L ({ frames := 0, cells := 0, slots := 0, locals := 0 } : Room).cells ({ frames := 0, cells := 0, slots := 0, locals := 0 } : Room).slots) := by
  refine MetFree.of_bodySF (plainFor_of_name pn_0) hisR ?_
  intro p e s m args below meth c s₁ Bd hml0 hP hK
  obtain ⟨rfl, hZ, hh⟩ := hP
  have hx := Bd.exec
  have hby := Bd.bytes
  have hml : c.maxLocals = 2 := hml0
  have hown : s.vm.findClass zs0 = some m.cls := findClass_of_methodNamed Bd.named
  have hnm := (name_of_methodNamed Bd.named Bd.method).1
  have X0 : Stand p l e ({ frames := 0, cells := 0, slots := 0, locals := 0 } : Room) s m #[(.ref a1), (.int p2)] below meth c s₁ [] 0 0 := Stand.of_body Bd
  have e0 : s₁.heap = h0 := by rw [← hh, Bd.state]; rfl
  have N0 := Fr.nil n0
  refine own_pre (g' := mkF m 0 (lc4 a1 p2) []) (ef_7 m a1 p2) ?_
  obtain ⟨T5, X5, e5, st5⟩ := getF X0 hx hZ hown (host := "") (Or.inl (ww hw 67 rfl)) Via.refl e0 F4 (g := (mkF m 2 (lc4 a1 p2) [(.ref a1), (.int p2)])) rfl rfl (hb hby d15_2)
  refine own_go (U' := T5.setTop (mkF m 5 (lc4 a1 p2) [(.int p3), (.int p2)])) (fun t k => oiloadN X0 hx hby d15_0 rfl (oaloadN X0 hx hby d15_1 rfl rfl (st5 _ k))) ?_
  refine own_go (U' := T5.setTop (mkF m 13 (lc4 a1 p2) [(.int 0)])) (fun t k => oicY (pc := 5) X5 hx hby d15_5 12 (flt hc6).2.1 (by decide) (oiconst X5 hx hby d15_12 k)) ?_
  obtain ⟨fs, hr, hrun, hended, hW, hsame⟩ := X5.leave (v := some (.int 0)) (fun h => by rw [Bd.returns] at h; cases h)
  refine own_out ⟨_, _, ?_, hrun, hended, _, _, rfl, ?_, ⟨_, rfl⟩, hW, hsame.mono (by decide) (by decide)⟩
  · exact retN X5 hx (t := .boolean) Bd.returns (by simp) (hb hby d15_13) hr
  · show Q15_32 Z a1 p2 p3 h0 n0 _ T5.heap _
    rw [e5]
    exact ⟨rfl, N0, rfl⟩
set_option maxRecDepth 65536 in
set_option maxHeartbeats 40000000 in
theorem rm0_33 (l : Launch) (Z : State) (a0 : Array Value) (hw : ∀ d ∈ tables_1, d.before a0 Z = true) (ws : List Jvm.Cond) (p1 p2 p3 : Int32) (a15 a18 : Addr) (h0 : Heap) (n0 : Nat) (Z0 : n0 ≤ h0.size) (hc5 : ¬ ((p1 &&& (2147483647 : Int32)) = (0 : Int32))) (hv7 : (p3 &&& (3 : Int32)) = (0 : Int32)) (hc13 : ¬ ((p1 &&& (2147483647 : Int32)) < (1 : Int32))) (F16 : Sta Z h0 zs2 "TRUE" zs3 (.ref a15)) (F19 : Sta Z h0 zs16 zs17 zs18 (.ref a18)) (F22 : Exa Z h0 a18 zs22) (F24 : Fld Z h0 a18 zs22 zs26 "Z" (.int 0)) (hc39 : ¬ (p2 < (p1 &&& (2147483647 : Int32)))) (hc42 : ¬ ((0 : Int64) < (((p1 &&& (2147483647 : Int32)).toInt64) - (p2.toInt64)))) (hc45 : ((p1 &&& (2147483647 : Int32)) - (1 : Int32)) < (p1 &&& (2147483647 : Int32))) :
    MetFree l x (head1 (Jvm.Cond.code x code maxLocals ret :: ws) room_1) (fun a U => a = #[(.int p1), (.int p2), (.int p3)] ∧ Z.Warmed39 U.vm ∧ U.heap = h0) (fun _ _ _ _ _ => True) (fun _ U o U' => ∃ v L, o = .returned v ∧ QLaw n0 v U'.heap L ∧ ReturnedEndW U o U' L room_1.cells room_1.slots) := by
  refine MetFree.of_bodySF (plainFor_of_name pn_9) hisR ?_
  intro p e s m args below meth c s₁ Bd hml0 hP hK
  obtain ⟨rfl, hZ, hh⟩ := hP
  have hx := Bd.exec
  have hby := Bd.bytes
  have hml : c.maxLocals = 11 := hml0
  have hown : s.vm.findClass zs32 = some m.cls := findClass_of_methodNamed Bd.named
  have hnm := (name_of_methodNamed Bd.named Bd.method).1
  have X0 : Stand p l e room_1 s m #[(.int p1), (.int p2), (.int p3)] below meth c s₁ [] 0 0 := Stand.of_body Bd
  have e0 : s₁.heap = h0 := by rw [← hh, Bd.state]; rfl
  have N0 := Fr.nil n0
  refine own_pre (g' := mkF m 0 (lc0 p1 p2 p3) []) (ef_8 m p1 p2 p3) ?_
  refine own_go (U' := s₁.setTop (mkF m 5 (lc1 p1 p2 p3 (p1 &&& (2147483647 : Int32))) [])) (fun t k => oiloadN X0 hx hby at_0 rfl (X0.ldcInt hx hown (mvT hZ (ww hw 0 rfl)) (g := (mkF m 1 (lc0 p1 p2 p3) [(.int p1)])) rfl (hb hby at_1) _ (oiand X0 hx hby at_3 (oistoreN X0 hx hby at_4 (lc1 p1 p2 p3 (p1 &&& (2147483647 : Int32))) rfl k)))) ?_
  obtain ⟨z4, hz4⟩ : ∃ z, z = (p1 &&& (2147483647 : Int32)) := ⟨_, rfl⟩
  rw [← hz4]
  refine own_go (U' := s₁.setTop (mkF m 6 (lc1 p1 p2 p3 z4) [(.int z4)])) (fun t k => oiloadN X0 hx hby at_5 rfl k) ?_
  have hs6 : ¬ (z4 = (0 : Int32)) := by rw [hz4]; exact hc5
  refine own_go (U' := s₁.setTop (mkF m 14 (lc1 p1 p2 p3 z4) [(.int (p3 &&& (3 : Int32)))])) (fun t k => oifY (pc := 6) X0 hx hby at_6 11 ((if0 _ _).trans (feq hs6).2) (by decide) (oiloadN X0 hx hby at_11 rfl (oiconst X0 hx hby at_12 (oiand X0 hx hby at_13 k)))) ?_
  rw [hv7]
  refine own_go (U' := s₁.setTop (mkF m 18 (lc2 p1 p2 p3 z4 0) [(.int 0)])) (fun t k => oistore X0 hx hby at_14 (lc2 p1 p2 p3 z4 0) rfl (oiload X0 hx hby at_16 rfl k)) ?_
  obtain ⟨T8, h8, X8, e8, E8, A8, D8, -, st8⟩ := newO X0 hx hZ hown (ww hw 1 rfl) (ww hw 2 rfl) (ww hw 3 rfl) e0 (g := (mkF m 60 (lc3 p1 p2 p3 z4 0 p2) [])) rfl (hb hby at_60) (by decide) (by decide)
  obtain ⟨b8, g8⟩ : ∃ z, z = h0.size := ⟨_, rfl⟩
  rw [← g8] at A8 D8 st8
  have f9 : Fld Z h8 b8 zs0 "budget" "I" (.int 0) := D8 (Or.inr (ww hw 68 rfl)) (ty := .int) (by decide)
  have f10 : Fld Z h8 b8 zs0 "classes" zs27 .null := D8 (Or.inr (ww hw 74 rfl)) (ty := (.object zs14)) (by decide)
  have f11 : Fld Z h8 b8 zs0 "backoff" zs28 .null := D8 (Or.inr (ww hw 94 rfl)) (ty := (.object zs19)) (by decide)
  have hs14 : ¬ (z4 < (1 : Int32)) := by rw [hz4]; exact hc13
  have f17 : Sta Z h8 zs2 "TRUE" zs3 (.ref a15) := (Sta.ext E8 F16)
  have f20 : Sta Z h8 zs16 zs17 zs18 (.ref a18) := (Sta.ext E8 F19)
  have g21 : n0 ≤ b8 := Nat.le_trans Z0 (Nat.le_of_eq g8.symm)
  have f23 : Exa Z h8 a18 zs22 := (Exa.ext E8 F22)
  have f25 : Fld Z h8 a18 zs22 zs26 "Z" (.int 0) := (Fld.ext E8 F24)
  have ne26 : a18 ≠ b8 := Nat.ne_of_lt (Nat.lt_of_lt_of_le (F22.lt) (Nat.le_of_eq g8.symm))
  have Z_1 : n0 ≤ h8.size := Nat.le_trans Z0 E8.1
  obtain ⟨_, T12, L12, X12, hQ12, hS12, hZ, hown, st12⟩ := ocallIS (s := s) (vm0 := s.vm) X8 hx hZ zm12 rfl hown (ww hw 4 rfl) (ww hw 5 rfl) (by decide) (ww hw 6 rfl) (ww hw 3 rfl) e8 (rm1_27 l Z a0 hw [] b8 z4 a15 a18 h8 n0 Z_1 hs14 f17 f20 f9 f10 f11 A8 g21 f23 f25 ne26) (st := [(.int z4), (.ref b8), (.ref b8)]) rfl 1 rfl (by decide) (pc := 65) (Ls := (lc3 p1 p2 p3 z4 0 p2)) hml rfl (lenOf pd_10 rfl) at_65 hby ((State.WarmedH.refl s).since 0) (Nat.zero_le _)
  obtain ⟨b27, b28, rfl, N12q, K12, sz29, f30, f31, f32, f33, f34, f35⟩ := hQ12
  have N36 := Fr.app N0 N12q
  have f38 : Exa Z T12.heap b8 zs0 := (A8.keep K12)
  have hs40 : ¬ (p2 < z4) := by rw [hz4]; exact hc39
  have Z_2 : n0 ≤ T12.heap.size := Nat.le_trans Z_1 K12.1
  obtain ⟨_, T37, L37, X37, hQ37, st37⟩ := ocallV X12 hx hZ zm13 zm13 hown (ww hw 95 rfl) (ww hw 96 rfl) (notFace_of_selects (args := #[]) (mvT hZ (ww hw 98 rfl))) (ww hw 98 rfl) (ww hw 97 rfl) (by decide) (ww hw 99 rfl) (ww hw 3 rfl) rfl f38 (rm15_32 l Z a0 hw [] b8 p2 z4 T12.heap n0 Z_2 f30 hs40) (st := [(.int p2), (.ref b8)]) rfl 0 rfl (by decide) (pc := 74) (Ls := (lc12 p1 p2 p3 z4 0 p2 b8)) hml rfl (lenOf pd_11 rfl) at_74 hby
  obtain ⟨rfl, N37q, e37⟩ := hQ37
  have N41 := Fr.app N36 N37q
  refine own_go (U' := T37.setTop (mkF m 87 (lc13 p1 p2 p3 z4 0 p2 b8 0) [(.int (lcmpW ((z4.toInt64) - (p2.toInt64)) (0 : Int64)))])) (fun t k => oifN X0 hx hby at_18 (by decide) (oiloadN X0 hx hby at_21 rfl (oistore X0 hx hby at_22 (lc3 p1 p2 p3 z4 0 p2) rfl (ogoto (pc := 24) X0 hx hby at_24 60 (by decide) (st8 _ (odup X8 hx hby at_63 rfl (oiloadN X8 hx hby at_64 rfl (st12 _ (oastore X12 hx hby at_68 (lc12 p1 p2 p3 z4 0 p2 b8) rfl rfl (oaload X12 hx hby at_70 rfl rfl (oiload X12 hx hby at_72 rfl (st37 _ (oistore X37 hx hby at_77 (lc13 p1 p2 p3 z4 0 p2 b8 0) rfl (oiloadN X37 hx hby at_79 rfl (oi2l X37 hx hby at_80 (oiload X37 hx hby at_81 rfl (oi2l X37 hx hby at_83 (olsub X37 hx hby at_84 (olconst X37 hx hby at_85 (olcmp X37 hx hby at_86 k)))))))))))))))))))) ?_
  have hs43 : ¬ ((0 : Int64) < ((z4.toInt64) - (p2.toInt64))) := by rw [hz4]; exact hc42
  have hs46 : (z4 - (1 : Int32)) < z4 := by rw [hz4]; exact hc45
  obtain ⟨_, T44, L44, X44, hQ44, st44⟩ := ocallV X37 hx hZ zm13 zm13 hown (ww hw 95 rfl) (ww hw 96 rfl) (notFace_of_selects (args := #[]) (mvT hZ (ww hw 98 rfl))) (ww hw 98 rfl) (ww hw 97 rfl) (by decide) (ww hw 99 rfl) (ww hw 3 rfl) e37 f38 (rm15_28 l Z a0 hw [] b8 (z4 - (1 : Int32)) z4 T12.heap n0 Z_2 f30 hs46) (st := [(.int (z4 - (1 : Int32))), (.ref b8)]) rfl 0 rfl (by decide) (pc := 102) (Ls := (lc14 p1 p2 p3 z4 0 p2 b8 0 0)) hml rfl (lenOf pd_11 rfl) at_102 hby
  obtain ⟨rfl, N44q, e44⟩ := hQ44
  have N47 := Fr.app N41 N44q
  obtain ⟨_, T48, L48, X48, hQ48, st48⟩ := ocallV X44 hx hZ zm13 zm13 hown (ww hw 95 rfl) (ww hw 96 rfl) (notFace_of_selects (args := #[]) (mvT hZ (ww hw 98 rfl))) (ww hw 98 rfl) (ww hw 97 rfl) (by decide) (ww hw 99 rfl) (ww hw 3 rfl) e44 f38 (rm15_29 l Z a0 hw [] b8 z4 T12.heap n0 Z_2 f30) (st := [(.int z4), (.ref b8)]) rfl 0 rfl (by decide) (pc := 110) (Ls := (lc15 p1 p2 p3 z4 0 p2 b8 0 0 1)) hml rfl (lenOf pd_11 rfl) at_110 hby
  obtain ⟨rfl, N48q, e48⟩ := hQ48
  have N49 := Fr.app N47 N48q
  refine own_go (U' := T48.setTop (mkF m 119 (lc16 p1 p2 p3 z4 0 p2 b8 0 0 1 0) [(.int 0), (.int 0)])) (fun t k => oifY (pc := 87) X37 hx hby at_87 94 (own_ll_le_t hs43) (by decide) (oiconst X37 hx hby at_94 (oistore X37 hx hby at_95 (lc14 p1 p2 p3 z4 0 p2 b8 0 0) rfl (oaload X37 hx hby at_97 rfl rfl (oiloadN X37 hx hby at_99 rfl (oiconst X37 hx hby at_100 (oisub X37 hx hby at_101 (st44 _ (oistore X44 hx hby at_105 (lc15 p1 p2 p3 z4 0 p2 b8 0 0 1) rfl (oaload X44 hx hby at_107 rfl rfl (oiloadN X44 hx hby at_109 rfl (st48 _ (oistore X48 hx hby at_113 (lc16 p1 p2 p3 z4 0 p2 b8 0 0 1 0) rfl (oiload X48 hx hby at_115 rfl (oiload X48 hx hby at_117 rfl k))))))))))))))) ?_
  refine own_go (U' := T48.setTop (mkF m 124 (lc16 p1 p2 p3 z4 0 p2 b8 0 0 1 0) [(.int 1)])) (fun t k => oicN X48 hx hby at_119 (by decide) (oiload X48 hx hby at_122 rfl k)) ?_
  refine own_go (U' := T48.setTop (mkF m 129 (lc16 p1 p2 p3 z4 0 p2 b8 0 0 1 0) [(.int 0)])) (fun t k => oifN X48 hx hby at_124 (by decide) (oiload X48 hx hby at_127 rfl k)) ?_
  obtain ⟨_, T50, L50, X50, hQ50, st50⟩ := ocallV X48 hx hZ zm14 zm14 hown (ww hw 100 rfl) (ww hw 101 rfl) (notFace_of_selects (args := #[]) (mvT hZ (ww hw 103 rfl))) (ww hw 103 rfl) (ww hw 102 rfl) (by decide) (ww hw 104 rfl) (ww hw 3 rfl) e48 f38 (rm16_30 l Z a0 hw [] b8 z4 T12.heap n0 Z_2 f30) (st := [(.ref b8)]) rfl 0 rfl (by decide) (pc := 134) (Ls := (lc16 p1 p2 p3 z4 0 p2 b8 0 0 1 0)) hml rfl (lenOf pd_12 rfl) at_134 hby
  obtain ⟨rfl, N50q, e50⟩ := hQ50
  have N51 := Fr.app N49 N50q
  refine own_go (U' := T50.setTop (mkF m 138 (lc16 p1 p2 p3 z4 0 p2 b8 0 0 1 0) [(.int z4), (.int z4)])) (fun t k => oifN X48 hx hby at_129 (by decide) (oaload X48 hx hby at_132 rfl rfl (st50 _ (oiloadN X50 hx hby at_137 rfl k)))) ?_
  refine own_go (U' := T50.setTop (mkF m 146 (lc16 p1 p2 p3 z4 0 p2 b8 0 0 1 0) [(.int 1)])) (fun t k => oicN X50 hx hby at_138 (teq (rfl : z4 = z4)).2 (oiconst X50 hx hby at_141 (ogoto (pc := 142) X50 hx hby at_142 146 (by decide) k))) ?_
  obtain ⟨fs, hr, hrun, hended, hW, hsame⟩ := X50.leave (v := some (.int 1)) (fun h => by rw [Bd.returns] at h; cases h)
  have hE := hS12.ended hW (by show _ ≤ T50.heap.size; rw [e50]; exact (Nat.le_refl _)) hsame
  refine own_out ⟨_, _, ?_, hrun, hended, _, _, rfl, ?_, ⟨_, rfl⟩, hE.1, hE.2.1, hE.2.2.mono (by decide) (by decide)⟩
  · exact retN X50 hx (t := .boolean) Bd.returns (by simp) (hb hby at_146) hr
  · exact ⟨rfl, N51⟩
set_option maxRecDepth 65536 in
set_option maxHeartbeats 40000000 in
theorem rm0_34 (l : Launch) (Z : State) (a0 : Array Value) (hw : ∀ d ∈ tables_1, d.before a0 Z = true) (ws : List Jvm.Cond) (p1 p2 p3 : Int32) (a16 a19 : Addr) (h0 : Heap) (n0 : Nat) (Z0 : n0 ≤ h0.size) (hc5 : ¬ ((p1 &&& (2147483647 : Int32)) = (0 : Int32))) (hv7 : (p3 &&& (3 : Int32)) = (1 : Int32)) (hc14 : ¬ ((p1 &&& (2147483647 : Int32)) < (1 : Int32))) (F17 : Sta Z h0 zs2 "TRUE" zs3 (.ref a16)) (F20 : Sta Z h0 zs16 zs17 zs18 (.ref a19)) (F23 : Exa Z h0 a19 zs22) (F25 : Fld Z h0 a19 zs22 zs26 "Z" (.int 0)) (hc40 : ((p1 &&& (2147483647 : Int32)) - (1 : Int32)) < (p1 &&& (2147483647 : Int32))) (hc43 : (0 : Int64) < (((p1 &&& (2147483647 : Int32)).toInt64) - (((p1 &&& (2147483647 : Int32)) - (1 : Int32)).toInt64))) (hc46 : ((p1 &&& (2147483647 : Int32)) - (1 : Int32)) < (p1 &&& (2147483647 : Int32))) :
    MetFree l x (head1 (Jvm.Cond.code x code maxLocals ret :: ws) room_1) (fun a U => a = #[(.int p1), (.int p2), (.int p3)] ∧ Z.Warmed39 U.vm ∧ U.heap = h0) (fun _ _ _ _ _ => True) (fun _ U o U' => ∃ v L, o = .returned v ∧ QLaw n0 v U'.heap L ∧ ReturnedEndW U o U' L room_1.cells room_1.slots) := by
  refine MetFree.of_bodySF (plainFor_of_name pn_9) hisR ?_
  intro p e s m args below meth c s₁ Bd hml0 hP hK
  obtain ⟨rfl, hZ, hh⟩ := hP
  have hx := Bd.exec
  have hby := Bd.bytes
  have hml : c.maxLocals = 11 := hml0
  have hown : s.vm.findClass zs32 = some m.cls := findClass_of_methodNamed Bd.named
  have hnm := (name_of_methodNamed Bd.named Bd.method).1
  have X0 : Stand p l e room_1 s m #[(.int p1), (.int p2), (.int p3)] below meth c s₁ [] 0 0 := Stand.of_body Bd
  have e0 : s₁.heap = h0 := by rw [← hh, Bd.state]; rfl
  have N0 := Fr.nil n0
  refine own_pre (g' := mkF m 0 (lc0 p1 p2 p3) []) (ef_8 m p1 p2 p3) ?_
  refine own_go (U' := s₁.setTop (mkF m 5 (lc1 p1 p2 p3 (p1 &&& (2147483647 : Int32))) [])) (fun t k => oiloadN X0 hx hby at_0 rfl (X0.ldcInt hx hown (mvT hZ (ww hw 0 rfl)) (g := (mkF m 1 (lc0 p1 p2 p3) [(.int p1)])) rfl (hb hby at_1) _ (oiand X0 hx hby at_3 (oistoreN X0 hx hby at_4 (lc1 p1 p2 p3 (p1 &&& (2147483647 : Int32))) rfl k)))) ?_
  obtain ⟨z4, hz4⟩ : ∃ z, z = (p1 &&& (2147483647 : Int32)) := ⟨_, rfl⟩
  rw [← hz4]
  refine own_go (U' := s₁.setTop (mkF m 6 (lc1 p1 p2 p3 z4) [(.int z4)])) (fun t k => oiloadN X0 hx hby at_5 rfl k) ?_
  have hs6 : ¬ (z4 = (0 : Int32)) := by rw [hz4]; exact hc5
  refine own_go (U' := s₁.setTop (mkF m 14 (lc1 p1 p2 p3 z4) [(.int (p3 &&& (3 : Int32)))])) (fun t k => oifY (pc := 6) X0 hx hby at_6 11 ((if0 _ _).trans (feq hs6).2) (by decide) (oiloadN X0 hx hby at_11 rfl (oiconst X0 hx hby at_12 (oiand X0 hx hby at_13 k)))) ?_
  rw [hv7]
  refine own_go (U' := s₁.setTop (mkF m 18 (lc2 p1 p2 p3 z4 1) [(.int 1)])) (fun t k => oistore X0 hx hby at_14 (lc2 p1 p2 p3 z4 1) rfl (oiload X0 hx hby at_16 rfl k)) ?_
  refine own_go (U' := s₁.setTop (mkF m 30 (lc2 p1 p2 p3 z4 1) [(.int 1), (.int 1)])) (fun t k => oifY (pc := 18) X0 hx hby at_18 27 (by decide) (by decide) (oiload X0 hx hby at_27 rfl (oiconst X0 hx hby at_29 k))) ?_
  refine own_go (U' := s₁.setTop (mkF m 38 (lc3 p1 p2 p3 z4 1 (z4 - (1 : Int32))) [])) (fun t k => oicN X0 hx hby at_30 (by decide) (oiloadN X0 hx hby at_33 rfl (oiconst X0 hx hby at_34 (oisub X0 hx hby at_35 (oistore X0 hx hby at_36 (lc3 p1 p2 p3 z4 1 (z4 - (1 : Int32))) rfl k))))) ?_
  obtain ⟨z8, hz8⟩ : ∃ z, z = (z4 - (1 : Int32)) := ⟨_, rfl⟩
  rw [← hz8]
  obtain ⟨T9, h9, X9, e9, E9, A9, D9, -, st9⟩ := newO X0 hx hZ hown (ww hw 1 rfl) (ww hw 2 rfl) (ww hw 3 rfl) e0 (g := (mkF m 60 (lc3 p1 p2 p3 z4 1 z8) [])) rfl (hb hby at_60) (by decide) (by decide)
  obtain ⟨b9, g9⟩ : ∃ z, z = h0.size := ⟨_, rfl⟩
  rw [← g9] at A9 D9 st9
  have f10 : Fld Z h9 b9 zs0 "budget" "I" (.int 0) := D9 (Or.inr (ww hw 68 rfl)) (ty := .int) (by decide)
  have f11 : Fld Z h9 b9 zs0 "classes" zs27 .null := D9 (Or.inr (ww hw 74 rfl)) (ty := (.object zs14)) (by decide)
  have f12 : Fld Z h9 b9 zs0 "backoff" zs28 .null := D9 (Or.inr (ww hw 94 rfl)) (ty := (.object zs19)) (by decide)
  have hs15 : ¬ (z4 < (1 : Int32)) := by rw [hz4]; exact hc14
  have f18 : Sta Z h9 zs2 "TRUE" zs3 (.ref a16) := (Sta.ext E9 F17)
  have f21 : Sta Z h9 zs16 zs17 zs18 (.ref a19) := (Sta.ext E9 F20)
  have g22 : n0 ≤ b9 := Nat.le_trans Z0 (Nat.le_of_eq g9.symm)
  have f24 : Exa Z h9 a19 zs22 := (Exa.ext E9 F23)
  have f26 : Fld Z h9 a19 zs22 zs26 "Z" (.int 0) := (Fld.ext E9 F25)
  have ne27 : a19 ≠ b9 := Nat.ne_of_lt (Nat.lt_of_lt_of_le (F23.lt) (Nat.le_of_eq g9.symm))
  have Z_1 : n0 ≤ h9.size := Nat.le_trans Z0 E9.1
  obtain ⟨_, T13, L13, X13, hQ13, hS13, hZ, hown, st13⟩ := ocallIS (s := s) (vm0 := s.vm) X9 hx hZ zm12 rfl hown (ww hw 4 rfl) (ww hw 5 rfl) (by decide) (ww hw 6 rfl) (ww hw 3 rfl) e9 (rm1_27 l Z a0 hw [] b9 z4 a16 a19 h9 n0 Z_1 hs15 f18 f21 f10 f11 f12 A9 g22 f24 f26 ne27) (st := [(.int z4), (.ref b9), (.ref b9)]) rfl 1 rfl (by decide) (pc := 65) (Ls := (lc3 p1 p2 p3 z4 1 z8)) hml rfl (lenOf pd_10 rfl) at_65 hby ((State.WarmedH.refl s).since 0) (Nat.zero_le _)
  obtain ⟨b28, b29, rfl, N13q, K13, sz30, f31, f32, f33, f34, f35, f36⟩ := hQ13
  have N37 := Fr.app N0 N13q
  have f39 : Exa Z T13.heap b9 zs0 := (A9.keep K13)
  have hs41 : z8 < z4 := by rw [hz8, hz4]; exact hc40
  have Z_2 : n0 ≤ T13.heap.size := Nat.le_trans Z_1 K13.1
  obtain ⟨_, T38, L38, X38, hQ38, st38⟩ := ocallV X13 hx hZ zm13 zm13 hown (ww hw 95 rfl) (ww hw 96 rfl) (notFace_of_selects (args := #[]) (mvT hZ (ww hw 98 rfl))) (ww hw 98 rfl) (ww hw 97 rfl) (by decide) (ww hw 99 rfl) (ww hw 3 rfl) rfl f39 (rm15_28 l Z a0 hw [] b9 z8 z4 T13.heap n0 Z_2 f31 hs41) (st := [(.int z8), (.ref b9)]) rfl 0 rfl (by decide) (pc := 74) (Ls := (lc12 p1 p2 p3 z4 1 z8 b9)) hml rfl (lenOf pd_11 rfl) at_74 hby
  obtain ⟨rfl, N38q, e38⟩ := hQ38
  have N42 := Fr.app N37 N38q
  refine own_go (U' := T38.setTop (mkF m 87 (lc13 p1 p2 p3 z4 1 z8 b9 1) [(.int (lcmpW ((z4.toInt64) - (z8.toInt64)) (0 : Int64)))])) (fun t k => ogoto (pc := 38) X0 hx hby at_38 60 (by decide) (st9 _ (odup X9 hx hby at_63 rfl (oiloadN X9 hx hby at_64 rfl (st13 _ (oastore X13 hx hby at_68 (lc12 p1 p2 p3 z4 1 z8 b9) rfl rfl (oaload X13 hx hby at_70 rfl rfl (oiload X13 hx hby at_72 rfl (st38 _ (oistore X38 hx hby at_77 (lc13 p1 p2 p3 z4 1 z8 b9 1) rfl (oiloadN X38 hx hby at_79 rfl (oi2l X38 hx hby at_80 (oiload X38 hx hby at_81 rfl (oi2l X38 hx hby at_83 (olsub X38 hx hby at_84 (olconst X38 hx hby at_85 (olcmp X38 hx hby at_86 k))))))))))))))))) ?_
  have hs44 : (0 : Int64) < ((z4.toInt64) - (z8.toInt64)) := by rw [hz8, hz4]; exact hc43
  have hs47 : (z4 - (1 : Int32)) < z4 := by rw [hz4]; exact hc46
  obtain ⟨_, T45, L45, X45, hQ45, st45⟩ := ocallV X38 hx hZ zm13 zm13 hown (ww hw 95 rfl) (ww hw 96 rfl) (notFace_of_selects (args := #[]) (mvT hZ (ww hw 98 rfl))) (ww hw 98 rfl) (ww hw 97 rfl) (by decide) (ww hw 99 rfl) (ww hw 3 rfl) e38 f39 (rm15_28 l Z a0 hw [] b9 (z4 - (1 : Int32)) z4 T13.heap n0 Z_2 f31 hs47) (st := [(.int (z4 - (1 : Int32))), (.ref b9)]) rfl 0 rfl (by decide) (pc := 102) (Ls := (lc14 p1 p2 p3 z4 1 z8 b9 1 1)) hml rfl (lenOf pd_11 rfl) at_102 hby
  obtain ⟨rfl, N45q, e45⟩ := hQ45
  have N48 := Fr.app N42 N45q
  obtain ⟨_, T49, L49, X49, hQ49, st49⟩ := ocallV X45 hx hZ zm13 zm13 hown (ww hw 95 rfl) (ww hw 96 rfl) (notFace_of_selects (args := #[]) (mvT hZ (ww hw 98 rfl))) (ww hw 98 rfl) (ww hw 97 rfl) (by decide) (ww hw 99 rfl) (ww hw 3 rfl) e45 f39 (rm15_29 l Z a0 hw [] b9 z4 T13.heap n0 Z_2 f31) (st := [(.int z4), (.ref b9)]) rfl 0 rfl (by decide) (pc := 110) (Ls := (lc15 p1 p2 p3 z4 1 z8 b9 1 1 1)) hml rfl (lenOf pd_11 rfl) at_110 hby
  obtain ⟨rfl, N49q, e49⟩ := hQ49
  have N50 := Fr.app N48 N49q
  refine own_go (U' := T49.setTop (mkF m 119 (lc16 p1 p2 p3 z4 1 z8 b9 1 1 1 0) [(.int 1), (.int 1)])) (fun t k => oifN X38 hx hby at_87 (own_ll_le_f hs44) (oiconst X38 hx hby at_90 (ogoto (pc := 91) X38 hx hby at_91 95 (by decide) (oistore X38 hx hby at_95 (lc14 p1 p2 p3 z4 1 z8 b9 1 1) rfl (oaload X38 hx hby at_97 rfl rfl (oiloadN X38 hx hby at_99 rfl (oiconst X38 hx hby at_100 (oisub X38 hx hby at_101 (st45 _ (oistore X45 hx hby at_105 (lc15 p1 p2 p3 z4 1 z8 b9 1 1 1) rfl (oaload X45 hx hby at_107 rfl rfl (oiloadN X45 hx hby at_109 rfl (st49 _ (oistore X49 hx hby at_113 (lc16 p1 p2 p3 z4 1 z8 b9 1 1 1 0) rfl (oiload X49 hx hby at_115 rfl (oiload X49 hx hby at_117 rfl k)))))))))))))))) ?_
  refine own_go (U' := T49.setTop (mkF m 124 (lc16 p1 p2 p3 z4 1 z8 b9 1 1 1 0) [(.int 1)])) (fun t k => oicN X49 hx hby at_119 (by decide) (oiload X49 hx hby at_122 rfl k)) ?_
  refine own_go (U' := T49.setTop (mkF m 129 (lc16 p1 p2 p3 z4 1 z8 b9 1 1 1 0) [(.int 0)])) (fun t k => oifN X49 hx hby at_124 (by decide) (oiload X49 hx hby at_127 rfl k)) ?_
  obtain ⟨_, T51, L51, X51, hQ51, st51⟩ := ocallV X49 hx hZ zm14 zm14 hown (ww hw 100 rfl) (ww hw 101 rfl) (notFace_of_selects (args := #[]) (mvT hZ (ww hw 103 rfl))) (ww hw 103 rfl) (ww hw 102 rfl) (by decide) (ww hw 104 rfl) (ww hw 3 rfl) e49 f39 (rm16_30 l Z a0 hw [] b9 z4 T13.heap n0 Z_2 f31) (st := [(.ref b9)]) rfl 0 rfl (by decide) (pc := 134) (Ls := (lc16 p1 p2 p3 z4 1 z8 b9 1 1 1 0)) hml rfl (lenOf pd_12 rfl) at_134 hby
  obtain ⟨rfl, N51q, e51⟩ := hQ51
  have N52 := Fr.app N50 N51q
  refine own_go (U' := T51.setTop (mkF m 138 (lc16 p1 p2 p3 z4 1 z8 b9 1 1 1 0) [(.int z4), (.int z4)])) (fun t k => oifN X49 hx hby at_129 (by decide) (oaload X49 hx hby at_132 rfl rfl (st51 _ (oiloadN X51 hx hby at_137 rfl k)))) ?_
  refine own_go (U' := T51.setTop (mkF m 146 (lc16 p1 p2 p3 z4 1 z8 b9 1 1 1 0) [(.int 1)])) (fun t k => oicN X51 hx hby at_138 (teq (rfl : z4 = z4)).2 (oiconst X51 hx hby at_141 (ogoto (pc := 142) X51 hx hby at_142 146 (by decide) k))) ?_
  obtain ⟨fs, hr, hrun, hended, hW, hsame⟩ := X51.leave (v := some (.int 1)) (fun h => by rw [Bd.returns] at h; cases h)
  have hE := hS13.ended hW (by show _ ≤ T51.heap.size; rw [e51]; exact (Nat.le_refl _)) hsame
  refine own_out ⟨_, _, ?_, hrun, hended, _, _, rfl, ?_, ⟨_, rfl⟩, hE.1, hE.2.1, hE.2.2.mono (by decide) (by decide)⟩
  · exact retN X51 hx (t := .boolean) Bd.returns (by simp) (hb hby at_146) hr
  · exact ⟨rfl, N52⟩
set_option maxRecDepth 65536 in
set_option maxHeartbeats 40000000 in
theorem rm0_35 (l : Launch) (Z : State) (a0 : Array Value) (hw : ∀ d ∈ tables_1, d.before a0 Z = true) (ws : List Jvm.Cond) (p1 p2 p3 : Int32) (a15 a18 : Addr) (h0 : Heap) (n0 : Nat) (Z0 : n0 ≤ h0.size) (hc5 : ¬ ((p1 &&& (2147483647 : Int32)) = (0 : Int32))) (hv7 : (p3 &&& (3 : Int32)) = (2 : Int32)) (hc13 : ¬ ((p1 &&& (2147483647 : Int32)) < (1 : Int32))) (F16 : Sta Z h0 zs2 "TRUE" zs3 (.ref a15)) (F19 : Sta Z h0 zs16 zs17 zs18 (.ref a18)) (F22 : Exa Z h0 a18 zs22) (F24 : Fld Z h0 a18 zs22 zs26 "Z" (.int 0)) (hc40 : ¬ ((0 : Int64) < (((p1 &&& (2147483647 : Int32)).toInt64) - ((p1 &&& (2147483647 : Int32)).toInt64)))) (hc43 : ((p1 &&& (2147483647 : Int32)) - (1 : Int32)) < (p1 &&& (2147483647 : Int32))) :
    MetFree l x (head1 (Jvm.Cond.code x code maxLocals ret :: ws) room_1) (fun a U => a = #[(.int p1), (.int p2), (.int p3)] ∧ Z.Warmed39 U.vm ∧ U.heap = h0) (fun _ _ _ _ _ => True) (fun _ U o U' => ∃ v L, o = .returned v ∧ QLaw n0 v U'.heap L ∧ ReturnedEndW U o U' L room_1.cells room_1.slots) := by
  refine MetFree.of_bodySF (plainFor_of_name pn_9) hisR ?_
  intro p e s m args below meth c s₁ Bd hml0 hP hK
  obtain ⟨rfl, hZ, hh⟩ := hP
  have hx := Bd.exec
  have hby := Bd.bytes
  have hml : c.maxLocals = 11 := hml0
  have hown : s.vm.findClass zs32 = some m.cls := findClass_of_methodNamed Bd.named
  have hnm := (name_of_methodNamed Bd.named Bd.method).1
  have X0 : Stand p l e room_1 s m #[(.int p1), (.int p2), (.int p3)] below meth c s₁ [] 0 0 := Stand.of_body Bd
  have e0 : s₁.heap = h0 := by rw [← hh, Bd.state]; rfl
  have N0 := Fr.nil n0
  refine own_pre (g' := mkF m 0 (lc0 p1 p2 p3) []) (ef_8 m p1 p2 p3) ?_
  refine own_go (U' := s₁.setTop (mkF m 5 (lc1 p1 p2 p3 (p1 &&& (2147483647 : Int32))) [])) (fun t k => oiloadN X0 hx hby at_0 rfl (X0.ldcInt hx hown (mvT hZ (ww hw 0 rfl)) (g := (mkF m 1 (lc0 p1 p2 p3) [(.int p1)])) rfl (hb hby at_1) _ (oiand X0 hx hby at_3 (oistoreN X0 hx hby at_4 (lc1 p1 p2 p3 (p1 &&& (2147483647 : Int32))) rfl k)))) ?_
  obtain ⟨z4, hz4⟩ : ∃ z, z = (p1 &&& (2147483647 : Int32)) := ⟨_, rfl⟩
  rw [← hz4]
  refine own_go (U' := s₁.setTop (mkF m 6 (lc1 p1 p2 p3 z4) [(.int z4)])) (fun t k => oiloadN X0 hx hby at_5 rfl k) ?_
  have hs6 : ¬ (z4 = (0 : Int32)) := by rw [hz4]; exact hc5
  refine own_go (U' := s₁.setTop (mkF m 14 (lc1 p1 p2 p3 z4) [(.int (p3 &&& (3 : Int32)))])) (fun t k => oifY (pc := 6) X0 hx hby at_6 11 ((if0 _ _).trans (feq hs6).2) (by decide) (oiloadN X0 hx hby at_11 rfl (oiconst X0 hx hby at_12 (oiand X0 hx hby at_13 k)))) ?_
  rw [hv7]
  refine own_go (U' := s₁.setTop (mkF m 18 (lc2 p1 p2 p3 z4 2) [(.int 2)])) (fun t k => oistore X0 hx hby at_14 (lc2 p1 p2 p3 z4 2) rfl (oiload X0 hx hby at_16 rfl k)) ?_
  refine own_go (U' := s₁.setTop (mkF m 30 (lc2 p1 p2 p3 z4 2) [(.int 1), (.int 2)])) (fun t k => oifY (pc := 18) X0 hx hby at_18 27 (by decide) (by decide) (oiload X0 hx hby at_27 rfl (oiconst X0 hx hby at_29 k))) ?_
  refine own_go (U' := s₁.setTop (mkF m 44 (lc2 p1 p2 p3 z4 2) [(.int 2), (.int 2)])) (fun t k => oicY (pc := 30) X0 hx hby at_30 41 (by decide) (by decide) (oiload X0 hx hby at_41 rfl (oiconst X0 hx hby at_43 k))) ?_
  obtain ⟨T8, h8, X8, e8, E8, A8, D8, -, st8⟩ := newO X0 hx hZ hown (ww hw 1 rfl) (ww hw 2 rfl) (ww hw 3 rfl) e0 (g := (mkF m 60 (lc3 p1 p2 p3 z4 2 z4) [])) rfl (hb hby at_60) (by decide) (by decide)
  obtain ⟨b8, g8⟩ : ∃ z, z = h0.size := ⟨_, rfl⟩
  rw [← g8] at A8 D8 st8
  have f9 : Fld Z h8 b8 zs0 "budget" "I" (.int 0) := D8 (Or.inr (ww hw 68 rfl)) (ty := .int) (by decide)
  have f10 : Fld Z h8 b8 zs0 "classes" zs27 .null := D8 (Or.inr (ww hw 74 rfl)) (ty := (.object zs14)) (by decide)
  have f11 : Fld Z h8 b8 zs0 "backoff" zs28 .null := D8 (Or.inr (ww hw 94 rfl)) (ty := (.object zs19)) (by decide)
  have hs14 : ¬ (z4 < (1 : Int32)) := by rw [hz4]; exact hc13
  have f17 : Sta Z h8 zs2 "TRUE" zs3 (.ref a15) := (Sta.ext E8 F16)
  have f20 : Sta Z h8 zs16 zs17 zs18 (.ref a18) := (Sta.ext E8 F19)
  have g21 : n0 ≤ b8 := Nat.le_trans Z0 (Nat.le_of_eq g8.symm)
  have f23 : Exa Z h8 a18 zs22 := (Exa.ext E8 F22)
  have f25 : Fld Z h8 a18 zs22 zs26 "Z" (.int 0) := (Fld.ext E8 F24)
  have ne26 : a18 ≠ b8 := Nat.ne_of_lt (Nat.lt_of_lt_of_le (F22.lt) (Nat.le_of_eq g8.symm))
  have Z_1 : n0 ≤ h8.size := Nat.le_trans Z0 E8.1
  obtain ⟨_, T12, L12, X12, hQ12, hS12, hZ, hown, st12⟩ := ocallIS (s := s) (vm0 := s.vm) X8 hx hZ zm12 rfl hown (ww hw 4 rfl) (ww hw 5 rfl) (by decide) (ww hw 6 rfl) (ww hw 3 rfl) e8 (rm1_27 l Z a0 hw [] b8 z4 a15 a18 h8 n0 Z_1 hs14 f17 f20 f9 f10 f11 A8 g21 f23 f25 ne26) (st := [(.int z4), (.ref b8), (.ref b8)]) rfl 1 rfl (by decide) (pc := 65) (Ls := (lc3 p1 p2 p3 z4 2 z4)) hml rfl (lenOf pd_10 rfl) at_65 hby ((State.WarmedH.refl s).since 0) (Nat.zero_le _)
  obtain ⟨b27, b28, rfl, N12q, K12, sz29, f30, f31, f32, f33, f34, f35⟩ := hQ12
  have N36 := Fr.app N0 N12q
  have f38 : Exa Z T12.heap b8 zs0 := (A8.keep K12)
  have Z_2 : n0 ≤ T12.heap.size := Nat.le_trans Z_1 K12.1
  obtain ⟨_, T37, L37, X37, hQ37, st37⟩ := ocallV X12 hx hZ zm13 zm13 hown (ww hw 95 rfl) (ww hw 96 rfl) (notFace_of_selects (args := #[]) (mvT hZ (ww hw 98 rfl))) (ww hw 98 rfl) (ww hw 97 rfl) (by decide) (ww hw 99 rfl) (ww hw 3 rfl) rfl f38 (rm15_29 l Z a0 hw [] b8 z4 T12.heap n0 Z_2 f30) (st := [(.int z4), (.ref b8)]) rfl 0 rfl (by decide) (pc := 74) (Ls := (lc12 p1 p2 p3 z4 2 z4 b8)) hml rfl (lenOf pd_11 rfl) at_74 hby
  obtain ⟨rfl, N37q, e37⟩ := hQ37
  have N39 := Fr.app N36 N37q
  refine own_go (U' := T37.setTop (mkF m 87 (lc13 p1 p2 p3 z4 2 z4 b8 0) [(.int (lcmpW ((z4.toInt64) - (z4.toInt64)) (0 : Int64)))])) (fun t k => oicN X0 hx hby at_44 (by decide) (oiloadN X0 hx hby at_47 rfl (oistore X0 hx hby at_48 (lc3 p1 p2 p3 z4 2 z4) rfl (ogoto (pc := 50) X0 hx hby at_50 60 (by decide) (st8 _ (odup X8 hx hby at_63 rfl (oiloadN X8 hx hby at_64 rfl (st12 _ (oastore X12 hx hby at_68 (lc12 p1 p2 p3 z4 2 z4 b8) rfl rfl (oaload X12 hx hby at_70 rfl rfl (oiload X12 hx hby at_72 rfl (st37 _ (oistore X37 hx hby at_77 (lc13 p1 p2 p3 z4 2 z4 b8 0) rfl (oiloadN X37 hx hby at_79 rfl (oi2l X37 hx hby at_80 (oiload X37 hx hby at_81 rfl (oi2l X37 hx hby at_83 (olsub X37 hx hby at_84 (olconst X37 hx hby at_85 (olcmp X37 hx hby at_86 k)))))))))))))))))))) ?_
  have hs41 : ¬ ((0 : Int64) < ((z4.toInt64) - (z4.toInt64))) := by rw [hz4]; exact hc40
  have hs44 : (z4 - (1 : Int32)) < z4 := by rw [hz4]; exact hc43
  obtain ⟨_, T42, L42, X42, hQ42, st42⟩ := ocallV X37 hx hZ zm13 zm13 hown (ww hw 95 rfl) (ww hw 96 rfl) (notFace_of_selects (args := #[]) (mvT hZ (ww hw 98 rfl))) (ww hw 98 rfl) (ww hw 97 rfl) (by decide) (ww hw 99 rfl) (ww hw 3 rfl) e37 f38 (rm15_28 l Z a0 hw [] b8 (z4 - (1 : Int32)) z4 T12.heap n0 Z_2 f30 hs44) (st := [(.int (z4 - (1 : Int32))), (.ref b8)]) rfl 0 rfl (by decide) (pc := 102) (Ls := (lc14 p1 p2 p3 z4 2 z4 b8 0 0)) hml rfl (lenOf pd_11 rfl) at_102 hby
  obtain ⟨rfl, N42q, e42⟩ := hQ42
  have N45 := Fr.app N39 N42q
  obtain ⟨_, T46, L46, X46, hQ46, st46⟩ := ocallV X42 hx hZ zm13 zm13 hown (ww hw 95 rfl) (ww hw 96 rfl) (notFace_of_selects (args := #[]) (mvT hZ (ww hw 98 rfl))) (ww hw 98 rfl) (ww hw 97 rfl) (by decide) (ww hw 99 rfl) (ww hw 3 rfl) e42 f38 (rm15_29 l Z a0 hw [] b8 z4 T12.heap n0 Z_2 f30) (st := [(.int z4), (.ref b8)]) rfl 0 rfl (by decide) (pc := 110) (Ls := (lc15 p1 p2 p3 z4 2 z4 b8 0 0 1)) hml rfl (lenOf pd_11 rfl) at_110 hby
  obtain ⟨rfl, N46q, e46⟩ := hQ46
  have N47 := Fr.app N45 N46q
  refine own_go (U' := T46.setTop (mkF m 119 (lc16 p1 p2 p3 z4 2 z4 b8 0 0 1 0) [(.int 0), (.int 0)])) (fun t k => oifY (pc := 87) X37 hx hby at_87 94 (own_ll_le_t hs41) (by decide) (oiconst X37 hx hby at_94 (oistore X37 hx hby at_95 (lc14 p1 p2 p3 z4 2 z4 b8 0 0) rfl (oaload X37 hx hby at_97 rfl rfl (oiloadN X37 hx hby at_99 rfl (oiconst X37 hx hby at_100 (oisub X37 hx hby at_101 (st42 _ (oistore X42 hx hby at_105 (lc15 p1 p2 p3 z4 2 z4 b8 0 0 1) rfl (oaload X42 hx hby at_107 rfl rfl (oiloadN X42 hx hby at_109 rfl (st46 _ (oistore X46 hx hby at_113 (lc16 p1 p2 p3 z4 2 z4 b8 0 0 1 0) rfl (oiload X46 hx hby at_115 rfl (oiload X46 hx hby at_117 rfl k))))))))))))))) ?_
  refine own_go (U' := T46.setTop (mkF m 124 (lc16 p1 p2 p3 z4 2 z4 b8 0 0 1 0) [(.int 1)])) (fun t k => oicN X46 hx hby at_119 (by decide) (oiload X46 hx hby at_122 rfl k)) ?_
  refine own_go (U' := T46.setTop (mkF m 129 (lc16 p1 p2 p3 z4 2 z4 b8 0 0 1 0) [(.int 0)])) (fun t k => oifN X46 hx hby at_124 (by decide) (oiload X46 hx hby at_127 rfl k)) ?_
  obtain ⟨_, T48, L48, X48, hQ48, st48⟩ := ocallV X46 hx hZ zm14 zm14 hown (ww hw 100 rfl) (ww hw 101 rfl) (notFace_of_selects (args := #[]) (mvT hZ (ww hw 103 rfl))) (ww hw 103 rfl) (ww hw 102 rfl) (by decide) (ww hw 104 rfl) (ww hw 3 rfl) e46 f38 (rm16_30 l Z a0 hw [] b8 z4 T12.heap n0 Z_2 f30) (st := [(.ref b8)]) rfl 0 rfl (by decide) (pc := 134) (Ls := (lc16 p1 p2 p3 z4 2 z4 b8 0 0 1 0)) hml rfl (lenOf pd_12 rfl) at_134 hby
  obtain ⟨rfl, N48q, e48⟩ := hQ48
  have N49 := Fr.app N47 N48q
  refine own_go (U' := T48.setTop (mkF m 138 (lc16 p1 p2 p3 z4 2 z4 b8 0 0 1 0) [(.int z4), (.int z4)])) (fun t k => oifN X46 hx hby at_129 (by decide) (oaload X46 hx hby at_132 rfl rfl (st48 _ (oiloadN X48 hx hby at_137 rfl k)))) ?_
  refine own_go (U' := T48.setTop (mkF m 146 (lc16 p1 p2 p3 z4 2 z4 b8 0 0 1 0) [(.int 1)])) (fun t k => oicN X48 hx hby at_138 (teq (rfl : z4 = z4)).2 (oiconst X48 hx hby at_141 (ogoto (pc := 142) X48 hx hby at_142 146 (by decide) k))) ?_
  obtain ⟨fs, hr, hrun, hended, hW, hsame⟩ := X48.leave (v := some (.int 1)) (fun h => by rw [Bd.returns] at h; cases h)
  have hE := hS12.ended hW (by show _ ≤ T48.heap.size; rw [e48]; exact (Nat.le_refl _)) hsame
  refine own_out ⟨_, _, ?_, hrun, hended, _, _, rfl, ?_, ⟨_, rfl⟩, hE.1, hE.2.1, hE.2.2.mono (by decide) (by decide)⟩
  · exact retN X48 hx (t := .boolean) Bd.returns (by simp) (hb hby at_146) hr
  · exact ⟨rfl, N49⟩
set_option maxRecDepth 65536 in
set_option maxHeartbeats 40000000 in
theorem rm0_36 (l : Launch) (Z : State) (a0 : Array Value) (hw : ∀ d ∈ tables_1, d.before a0 Z = true) (ws : List Jvm.Cond) (p1 p2 p3 : Int32) (a16 a19 : Addr) (h0 : Heap) (n0 : Nat) (Z0 : n0 ≤ h0.size) (hc5 : ¬ ((p1 &&& (2147483647 : Int32)) = (0 : Int32))) (hv7 : (p3 &&& (3 : Int32)) = (3 : Int32)) (hc14 : ¬ ((p1 &&& (2147483647 : Int32)) < (1 : Int32))) (F17 : Sta Z h0 zs2 "TRUE" zs3 (.ref a16)) (F20 : Sta Z h0 zs16 zs17 zs18 (.ref a19)) (F23 : Exa Z h0 a19 zs22) (F25 : Fld Z h0 a19 zs22 zs26 "Z" (.int 0)) (hc40 : (-(p2 &&& (2147483647 : Int32))) < (p1 &&& (2147483647 : Int32))) (hc43 : (0 : Int64) < (((p1 &&& (2147483647 : Int32)).toInt64) - ((-(p2 &&& (2147483647 : Int32))).toInt64))) (hc46 : ((p1 &&& (2147483647 : Int32)) - (1 : Int32)) < (p1 &&& (2147483647 : Int32))) :
    MetFree l x (head1 (Jvm.Cond.code x code maxLocals ret :: ws) room_1) (fun a U => a = #[(.int p1), (.int p2), (.int p3)] ∧ Z.Warmed39 U.vm ∧ U.heap = h0) (fun _ _ _ _ _ => True) (fun _ U o U' => ∃ v L, o = .returned v ∧ QLaw n0 v U'.heap L ∧ ReturnedEndW U o U' L room_1.cells room_1.slots) := by
  refine MetFree.of_bodySF (plainFor_of_name pn_9) hisR ?_
  intro p e s m args below meth c s₁ Bd hml0 hP hK
  obtain ⟨rfl, hZ, hh⟩ := hP
  have hx := Bd.exec
  have hby := Bd.bytes
  have hml : c.maxLocals = 11 := hml0
  have hown : s.vm.findClass zs32 = some m.cls := findClass_of_methodNamed Bd.named
  have hnm := (name_of_methodNamed Bd.named Bd.method).1
  have X0 : Stand p l e room_1 s m #[(.int p1), (.int p2), (.int p3)] below meth c s₁ [] 0 0 := Stand.of_body Bd
  have e0 : s₁.heap = h0 := by rw [← hh, Bd.state]; rfl
  have N0 := Fr.nil n0
  refine own_pre (g' := mkF m 0 (lc0 p1 p2 p3) []) (ef_8 m p1 p2 p3) ?_
  refine own_go (U' := s₁.setTop (mkF m 5 (lc1 p1 p2 p3 (p1 &&& (2147483647 : Int32))) [])) (fun t k => oiloadN X0 hx hby at_0 rfl (X0.ldcInt hx hown (mvT hZ (ww hw 0 rfl)) (g := (mkF m 1 (lc0 p1 p2 p3) [(.int p1)])) rfl (hb hby at_1) _ (oiand X0 hx hby at_3 (oistoreN X0 hx hby at_4 (lc1 p1 p2 p3 (p1 &&& (2147483647 : Int32))) rfl k)))) ?_
  obtain ⟨z4, hz4⟩ : ∃ z, z = (p1 &&& (2147483647 : Int32)) := ⟨_, rfl⟩
  rw [← hz4]
  refine own_go (U' := s₁.setTop (mkF m 6 (lc1 p1 p2 p3 z4) [(.int z4)])) (fun t k => oiloadN X0 hx hby at_5 rfl k) ?_
  have hs6 : ¬ (z4 = (0 : Int32)) := by rw [hz4]; exact hc5
  refine own_go (U' := s₁.setTop (mkF m 14 (lc1 p1 p2 p3 z4) [(.int (p3 &&& (3 : Int32)))])) (fun t k => oifY (pc := 6) X0 hx hby at_6 11 ((if0 _ _).trans (feq hs6).2) (by decide) (oiloadN X0 hx hby at_11 rfl (oiconst X0 hx hby at_12 (oiand X0 hx hby at_13 k)))) ?_
  rw [hv7]
  refine own_go (U' := s₁.setTop (mkF m 18 (lc2 p1 p2 p3 z4 3) [(.int 3)])) (fun t k => oistore X0 hx hby at_14 (lc2 p1 p2 p3 z4 3) rfl (oiload X0 hx hby at_16 rfl k)) ?_
  refine own_go (U' := s₁.setTop (mkF m 30 (lc2 p1 p2 p3 z4 3) [(.int 1), (.int 3)])) (fun t k => oifY (pc := 18) X0 hx hby at_18 27 (by decide) (by decide) (oiload X0 hx hby at_27 rfl (oiconst X0 hx hby at_29 k))) ?_
  refine own_go (U' := s₁.setTop (mkF m 44 (lc2 p1 p2 p3 z4 3) [(.int 2), (.int 3)])) (fun t k => oicY (pc := 30) X0 hx hby at_30 41 (by decide) (by decide) (oiload X0 hx hby at_41 rfl (oiconst X0 hx hby at_43 k))) ?_
  refine own_go (U' := s₁.setTop (mkF m 60 (lc3 p1 p2 p3 z4 3 (-(p2 &&& (2147483647 : Int32)))) [])) (fun t k => oicY (pc := 44) X0 hx hby at_44 53 (by decide) (by decide) (oiloadN X0 hx hby at_53 rfl (X0.ldcInt hx hown (mvT hZ (ww hw 0 rfl)) (g := (mkF m 54 (lc2 p1 p2 p3 z4 3) [(.int p2)])) rfl (hb hby at_54) _ (oiand X0 hx hby at_56 (oineg X0 hx hby at_57 (oistore X0 hx hby at_58 (lc3 p1 p2 p3 z4 3 (-(p2 &&& (2147483647 : Int32)))) rfl k)))))) ?_
  obtain ⟨z8, hz8⟩ : ∃ z, z = (-(p2 &&& (2147483647 : Int32))) := ⟨_, rfl⟩
  rw [← hz8]
  obtain ⟨T9, h9, X9, e9, E9, A9, D9, -, st9⟩ := newO X0 hx hZ hown (ww hw 1 rfl) (ww hw 2 rfl) (ww hw 3 rfl) e0 (g := (mkF m 60 (lc3 p1 p2 p3 z4 3 z8) [])) rfl (hb hby at_60) (by decide) (by decide)
  obtain ⟨b9, g9⟩ : ∃ z, z = h0.size := ⟨_, rfl⟩
  rw [← g9] at A9 D9 st9
  have f10 : Fld Z h9 b9 zs0 "budget" "I" (.int 0) := D9 (Or.inr (ww hw 68 rfl)) (ty := .int) (by decide)
  have f11 : Fld Z h9 b9 zs0 "classes" zs27 .null := D9 (Or.inr (ww hw 74 rfl)) (ty := (.object zs14)) (by decide)
  have f12 : Fld Z h9 b9 zs0 "backoff" zs28 .null := D9 (Or.inr (ww hw 94 rfl)) (ty := (.object zs19)) (by decide)
  have hs15 : ¬ (z4 < (1 : Int32)) := by rw [hz4]; exact hc14
  have f18 : Sta Z h9 zs2 "TRUE" zs3 (.ref a16) := (Sta.ext E9 F17)
  have f21 : Sta Z h9 zs16 zs17 zs18 (.ref a19) := (Sta.ext E9 F20)
  have g22 : n0 ≤ b9 := Nat.le_trans Z0 (Nat.le_of_eq g9.symm)
  have f24 : Exa Z h9 a19 zs22 := (Exa.ext E9 F23)
  have f26 : Fld Z h9 a19 zs22 zs26 "Z" (.int 0) := (Fld.ext E9 F25)
  have ne27 : a19 ≠ b9 := Nat.ne_of_lt (Nat.lt_of_lt_of_le (F23.lt) (Nat.le_of_eq g9.symm))
  have Z_1 : n0 ≤ h9.size := Nat.le_trans Z0 E9.1
  obtain ⟨_, T13, L13, X13, hQ13, hS13, hZ, hown, st13⟩ := ocallIS (s := s) (vm0 := s.vm) X9 hx hZ zm12 rfl hown (ww hw 4 rfl) (ww hw 5 rfl) (by decide) (ww hw 6 rfl) (ww hw 3 rfl) e9 (rm1_27 l Z a0 hw [] b9 z4 a16 a19 h9 n0 Z_1 hs15 f18 f21 f10 f11 f12 A9 g22 f24 f26 ne27) (st := [(.int z4), (.ref b9), (.ref b9)]) rfl 1 rfl (by decide) (pc := 65) (Ls := (lc3 p1 p2 p3 z4 3 z8)) hml rfl (lenOf pd_10 rfl) at_65 hby ((State.WarmedH.refl s).since 0) (Nat.zero_le _)
  obtain ⟨b28, b29, rfl, N13q, K13, sz30, f31, f32, f33, f34, f35, f36⟩ := hQ13
  have N37 := Fr.app N0 N13q
  have f39 : Exa Z T13.heap b9 zs0 := (A9.keep K13)
  have hs41 : z8 < z4 := by rw [hz8, hz4]; exact hc40
  have Z_2 : n0 ≤ T13.heap.size := Nat.le_trans Z_1 K13.1
  obtain ⟨_, T38, L38, X38, hQ38, st38⟩ := ocallV X13 hx hZ zm13 zm13 hown (ww hw 95 rfl) (ww hw 96 rfl) (notFace_of_selects (args := #[]) (mvT hZ (ww hw 98 rfl))) (ww hw 98 rfl) (ww hw 97 rfl) (by decide) (ww hw 99 rfl) (ww hw 3 rfl) rfl f39 (rm15_28 l Z a0 hw [] b9 z8 z4 T13.heap n0 Z_2 f31 hs41) (st := [(.int z8), (.ref b9)]) rfl 0 rfl (by decide) (pc := 74) (Ls := (lc12 p1 p2 p3 z4 3 z8 b9)) hml rfl (lenOf pd_11 rfl) at_74 hby
  obtain ⟨rfl, N38q, e38⟩ := hQ38
  have N42 := Fr.app N37 N38q
  refine own_go (U' := T38.setTop (mkF m 87 (lc13 p1 p2 p3 z4 3 z8 b9 1) [(.int (lcmpW ((z4.toInt64) - (z8.toInt64)) (0 : Int64)))])) (fun t k => st9 _ (odup X9 hx hby at_63 rfl (oiloadN X9 hx hby at_64 rfl (st13 _ (oastore X13 hx hby at_68 (lc12 p1 p2 p3 z4 3 z8 b9) rfl rfl (oaload X13 hx hby at_70 rfl rfl (oiload X13 hx hby at_72 rfl (st38 _ (oistore X38 hx hby at_77 (lc13 p1 p2 p3 z4 3 z8 b9 1) rfl (oiloadN X38 hx hby at_79 rfl (oi2l X38 hx hby at_80 (oiload X38 hx hby at_81 rfl (oi2l X38 hx hby at_83 (olsub X38 hx hby at_84 (olconst X38 hx hby at_85 (olcmp X38 hx hby at_86 k)))))))))))))))) ?_
  have hs44 : (0 : Int64) < ((z4.toInt64) - (z8.toInt64)) := by rw [hz8, hz4]; exact hc43
  have hs47 : (z4 - (1 : Int32)) < z4 := by rw [hz4]; exact hc46
  obtain ⟨_, T45, L45, X45, hQ45, st45⟩ := ocallV X38 hx hZ zm13 zm13 hown (ww hw 95 rfl) (ww hw 96 rfl) (notFace_of_selects (args := #[]) (mvT hZ (ww hw 98 rfl))) (ww hw 98 rfl) (ww hw 97 rfl) (by decide) (ww hw 99 rfl) (ww hw 3 rfl) e38 f39 (rm15_28 l Z a0 hw [] b9 (z4 - (1 : Int32)) z4 T13.heap n0 Z_2 f31 hs47) (st := [(.int (z4 - (1 : Int32))), (.ref b9)]) rfl 0 rfl (by decide) (pc := 102) (Ls := (lc14 p1 p2 p3 z4 3 z8 b9 1 1)) hml rfl (lenOf pd_11 rfl) at_102 hby
  obtain ⟨rfl, N45q, e45⟩ := hQ45
  have N48 := Fr.app N42 N45q
  obtain ⟨_, T49, L49, X49, hQ49, st49⟩ := ocallV X45 hx hZ zm13 zm13 hown (ww hw 95 rfl) (ww hw 96 rfl) (notFace_of_selects (args := #[]) (mvT hZ (ww hw 98 rfl))) (ww hw 98 rfl) (ww hw 97 rfl) (by decide) (ww hw 99 rfl) (ww hw 3 rfl) e45 f39 (rm15_29 l Z a0 hw [] b9 z4 T13.heap n0 Z_2 f31) (st := [(.int z4), (.ref b9)]) rfl 0 rfl (by decide) (pc := 110) (Ls := (lc15 p1 p2 p3 z4 3 z8 b9 1 1 1)) hml rfl (lenOf pd_11 rfl) at_110 hby
  obtain ⟨rfl, N49q, e49⟩ := hQ49
  have N50 := Fr.app N48 N49q
  refine own_go (U' := T49.setTop (mkF m 119 (lc16 p1 p2 p3 z4 3 z8 b9 1 1 1 0) [(.int 1), (.int 1)])) (fun t k => oifN X38 hx hby at_87 (own_ll_le_f hs44) (oiconst X38 hx hby at_90 (ogoto (pc := 91) X38 hx hby at_91 95 (by decide) (oistore X38 hx hby at_95 (lc14 p1 p2 p3 z4 3 z8 b9 1 1) rfl (oaload X38 hx hby at_97 rfl rfl (oiloadN X38 hx hby at_99 rfl (oiconst X38 hx hby at_100 (oisub X38 hx hby at_101 (st45 _ (oistore X45 hx hby at_105 (lc15 p1 p2 p3 z4 3 z8 b9 1 1 1) rfl (oaload X45 hx hby at_107 rfl rfl (oiloadN X45 hx hby at_109 rfl (st49 _ (oistore X49 hx hby at_113 (lc16 p1 p2 p3 z4 3 z8 b9 1 1 1 0) rfl (oiload X49 hx hby at_115 rfl (oiload X49 hx hby at_117 rfl k)))))))))))))))) ?_
  refine own_go (U' := T49.setTop (mkF m 124 (lc16 p1 p2 p3 z4 3 z8 b9 1 1 1 0) [(.int 1)])) (fun t k => oicN X49 hx hby at_119 (by decide) (oiload X49 hx hby at_122 rfl k)) ?_
  refine own_go (U' := T49.setTop (mkF m 129 (lc16 p1 p2 p3 z4 3 z8 b9 1 1 1 0) [(.int 0)])) (fun t k => oifN X49 hx hby at_124 (by decide) (oiload X49 hx hby at_127 rfl k)) ?_
  obtain ⟨_, T51, L51, X51, hQ51, st51⟩ := ocallV X49 hx hZ zm14 zm14 hown (ww hw 100 rfl) (ww hw 101 rfl) (notFace_of_selects (args := #[]) (mvT hZ (ww hw 103 rfl))) (ww hw 103 rfl) (ww hw 102 rfl) (by decide) (ww hw 104 rfl) (ww hw 3 rfl) e49 f39 (rm16_30 l Z a0 hw [] b9 z4 T13.heap n0 Z_2 f31) (st := [(.ref b9)]) rfl 0 rfl (by decide) (pc := 134) (Ls := (lc16 p1 p2 p3 z4 3 z8 b9 1 1 1 0)) hml rfl (lenOf pd_12 rfl) at_134 hby
  obtain ⟨rfl, N51q, e51⟩ := hQ51
  have N52 := Fr.app N50 N51q
  refine own_go (U' := T51.setTop (mkF m 138 (lc16 p1 p2 p3 z4 3 z8 b9 1 1 1 0) [(.int z4), (.int z4)])) (fun t k => oifN X49 hx hby at_129 (by decide) (oaload X49 hx hby at_132 rfl rfl (st51 _ (oiloadN X51 hx hby at_137 rfl k)))) ?_
  refine own_go (U' := T51.setTop (mkF m 146 (lc16 p1 p2 p3 z4 3 z8 b9 1 1 1 0) [(.int 1)])) (fun t k => oicN X51 hx hby at_138 (teq (rfl : z4 = z4)).2 (oiconst X51 hx hby at_141 (ogoto (pc := 142) X51 hx hby at_142 146 (by decide) k))) ?_
  obtain ⟨fs, hr, hrun, hended, hW, hsame⟩ := X51.leave (v := some (.int 1)) (fun h => by rw [Bd.returns] at h; cases h)
  have hE := hS13.ended hW (by show _ ≤ T51.heap.size; rw [e51]; exact (Nat.le_refl _)) hsame
  refine own_out ⟨_, _, ?_, hrun, hended, _, _, rfl, ?_, ⟨_, rfl⟩, hE.1, hE.2.1, hE.2.2.mono (by decide) (by decide)⟩
  · exact retN X51 hx (t := .boolean) Bd.returns (by simp) (hb hby at_146) hr
  · exact ⟨rfl, N52⟩
set_option maxRecDepth 65536 in
set_option maxHeartbeats 40000000 in
theorem law_all (l : Launch) (Z : State) (a0 : Array Value) (hw : ∀ d ∈ tables_1, d.before a0 Z = true) (ws : List Jvm.Cond) (i0 i1 i2 : Int32) (w0 w1 w2 : Addr) (kl0 : ClassId) (h0 : Heap) (n0 : Nat) (Z0 : n0 ≤ h0.size) (S0 : Sta Z h0 "java/lang/Boolean" "TRUE" "Ljava/lang/Boolean;" (.ref w0)) (S1 : Exa Z h0 w0 "java/lang/Boolean") (S2 : Fld Z h0 w0 "java/lang/Boolean" "value" "Z" (.int 1)) (S3 : Sta Z h0 "java/util/ImmutableCollections" "EMPTY_LIST" "Ljava/util/ImmutableCollections$ListN;" (.ref w1)) (S4 : Exa Z h0 w1 "java/util/ImmutableCollections$ListN") (S5 : Fld Z h0 w1 "java/util/ImmutableCollections$ListN" "elements" "[Ljava/lang/Object;" (.ref w2)) (S6 : Exa Z h0 w2 "[Ljava/lang/Object;") (S7 : Fld Z h0 w1 "java/util/ImmutableCollections$ListN" "allowNulls" "Z" (.int 0)) (S8 : Arv Z h0 w2 kl0 (.object "java/lang/Object") (0 : Int32) [] .null) :
    MetFree l x (head1 (Jvm.Cond.code x code maxLocals ret :: ws) room_1) (fun a U => a = #[(.int i0), (.int i1), (.int i2)] ∧ Z.Warmed39 U.vm ∧ U.heap = h0) (fun _ _ _ _ _ => True) (fun _ U o U' => ∃ v L, o = .returned v ∧ QLaw n0 v U'.heap L ∧ ReturnedEndW U o U' L room_1.cells room_1.slots) := by
  by_cases hk1 : (i0 &&& (2147483647 : Int32)) = (0 : Int32)
  · rcases own_s4 i2 with hk2 | hk2 | hk2 | hk2
    · by_cases hk3 : i1 < (1 : Int32)
      · exact rm0_19 l Z a0 hw ws i0 i1 i2 w0 w1 h0 n0 Z0 hk1 hk2 S0 S3 S4 S7 hk3 (Int64.lt_iff_toInt_lt.mpr (by have := Int32.lt_iff_toInt_lt.mp hk3; have := (by decide : ((0 : Int64)).toInt = 0); have := (by decide : ((1 : Int64)).toInt = 1); have := rng32 i1; have := c_i2l i1; have := c_lsub (1 : Int64) (i1.toInt64); have := rng64 ((1 : Int64) - (i1.toInt64)); have := (by decide : ((1 : Int32)).toInt = 1); omega))
      · exact rm0_21 l Z a0 hw ws i0 i1 i2 w0 w1 h0 n0 Z0 hk1 hk2 S0 S3 S4 S7 hk3 (fun e => by have := Int64.lt_iff_toInt_lt.mp e; have : ¬ (i1).toInt < ((1 : Int32)).toInt := fun e => hk3 (Int32.lt_iff_toInt_lt.mpr e); have := (by decide : ((0 : Int64)).toInt = 0); have := (by decide : ((1 : Int64)).toInt = 1); have := rng32 i1; have := c_i2l i1; have := c_lsub (1 : Int64) (i1.toInt64); have := rng64 ((1 : Int64) - (i1.toInt64)); have := (by decide : ((1 : Int32)).toInt = 1); omega)
    · exact rm0_22 l Z a0 hw ws i0 i1 i2 w0 w1 h0 n0 Z0 hk1 hk2 S0 S3 S4 S7
    · exact rm0_23 l Z a0 hw ws i0 i1 i2 w0 w1 h0 n0 Z0 hk1 hk2 S0 S3 S4 S7
    · exact rm0_24 l Z a0 hw ws i0 i1 i2 w0 w1 h0 n0 Z0 hk1 hk2 S0 S3 S4 S7 (Int32.lt_iff_toInt_lt.mpr (by have := c_and i1 (2147483647 : Int32) (by decide); have := (by decide : ((2147483647 : Int32)).toInt = 2147483647); have := c_ineg (i1 &&& (2147483647 : Int32)); have := rng32 (-(i1 &&& (2147483647 : Int32))); have := (by decide : ((1 : Int32)).toInt = 1); omega)) (Int64.lt_iff_toInt_lt.mpr (by have := (by decide : ((0 : Int64)).toInt = 0); have := (by decide : ((1 : Int64)).toInt = 1); have := c_and i1 (2147483647 : Int32) (by decide); have := (by decide : ((2147483647 : Int32)).toInt = 2147483647); have := c_ineg (i1 &&& (2147483647 : Int32)); have := rng32 (-(i1 &&& (2147483647 : Int32))); have := c_i2l (-(i1 &&& (2147483647 : Int32))); have := c_lsub (1 : Int64) ((-(i1 &&& (2147483647 : Int32))).toInt64); have := rng64 ((1 : Int64) - ((-(i1 &&& (2147483647 : Int32))).toInt64)); omega))
  · rcases own_s4 i2 with hk4 | hk4 | hk4 | hk4
    · by_cases hk5 : i1 < (i0 &&& (2147483647 : Int32))
      · exact rm0_31 l Z a0 hw ws i0 i1 i2 w0 w1 h0 n0 Z0 hk1 hk4 (fun e => by have := Int32.lt_iff_toInt_lt.mp e; have : ¬ ((i0 &&& (2147483647 : Int32))).toInt = ((0 : Int32)).toInt := fun e => hk1 (Int32.toInt_inj.mp e); have := c_and i0 (2147483647 : Int32) (by decide); have := (by decide : ((2147483647 : Int32)).toInt = 2147483647); have := (by decide : ((1 : Int32)).toInt = 1); have := (by decide : ((0 : Int32)).toInt = 0); omega) S0 S3 S4 S7 hk5 (Int64.lt_iff_toInt_lt.mpr (by have := Int32.lt_iff_toInt_lt.mp hk5; have := (by decide : ((0 : Int64)).toInt = 0); have := c_and i0 (2147483647 : Int32) (by decide); have := (by decide : ((2147483647 : Int32)).toInt = 2147483647); have := c_i2l (i0 &&& (2147483647 : Int32)); have := rng32 i1; have := c_i2l i1; have := c_lsub ((i0 &&& (2147483647 : Int32)).toInt64) (i1.toInt64); have := rng64 (((i0 &&& (2147483647 : Int32)).toInt64) - (i1.toInt64)); omega)) (Int32.lt_iff_toInt_lt.mpr (by have := c_and i0 (2147483647 : Int32) (by decide); have := (by decide : ((2147483647 : Int32)).toInt = 2147483647); have := (by decide : ((1 : Int32)).toInt = 1); have := c_isub (i0 &&& (2147483647 : Int32)) (1 : Int32); have := rng32 ((i0 &&& (2147483647 : Int32)) - (1 : Int32)); omega))
      · exact rm0_33 l Z a0 hw ws i0 i1 i2 w0 w1 h0 n0 Z0 hk1 hk4 (fun e => by have := Int32.lt_iff_toInt_lt.mp e; have : ¬ ((i0 &&& (2147483647 : Int32))).toInt = ((0 : Int32)).toInt := fun e => hk1 (Int32.toInt_inj.mp e); have := c_and i0 (2147483647 : Int32) (by decide); have := (by decide : ((2147483647 : Int32)).toInt = 2147483647); have := (by decide : ((1 : Int32)).toInt = 1); have := (by decide : ((0 : Int32)).toInt = 0); omega) S0 S3 S4 S7 hk5 (fun e => by have := Int64.lt_iff_toInt_lt.mp e; have : ¬ (i1).toInt < ((i0 &&& (2147483647 : Int32))).toInt := fun e => hk5 (Int32.lt_iff_toInt_lt.mpr e); have := (by decide : ((0 : Int64)).toInt = 0); have := c_and i0 (2147483647 : Int32) (by decide); have := (by decide : ((2147483647 : Int32)).toInt = 2147483647); have := c_i2l (i0 &&& (2147483647 : Int32)); have := rng32 i1; have := c_i2l i1; have := c_lsub ((i0 &&& (2147483647 : Int32)).toInt64) (i1.toInt64); have := rng64 (((i0 &&& (2147483647 : Int32)).toInt64) - (i1.toInt64)); omega) (Int32.lt_iff_toInt_lt.mpr (by have := c_and i0 (2147483647 : Int32) (by decide); have := (by decide : ((2147483647 : Int32)).toInt = 2147483647); have := (by decide : ((1 : Int32)).toInt = 1); have := c_isub (i0 &&& (2147483647 : Int32)) (1 : Int32); have := rng32 ((i0 &&& (2147483647 : Int32)) - (1 : Int32)); omega))
    · exact rm0_34 l Z a0 hw ws i0 i1 i2 w0 w1 h0 n0 Z0 hk1 hk4 (fun e => by have := Int32.lt_iff_toInt_lt.mp e; have : ¬ ((i0 &&& (2147483647 : Int32))).toInt = ((0 : Int32)).toInt := fun e => hk1 (Int32.toInt_inj.mp e); have := c_and i0 (2147483647 : Int32) (by decide); have := (by decide : ((2147483647 : Int32)).toInt = 2147483647); have := (by decide : ((1 : Int32)).toInt = 1); have := (by decide : ((0 : Int32)).toInt = 0); omega) S0 S3 S4 S7 (Int32.lt_iff_toInt_lt.mpr (by have := c_and i0 (2147483647 : Int32) (by decide); have := (by decide : ((2147483647 : Int32)).toInt = 2147483647); have := (by decide : ((1 : Int32)).toInt = 1); have := c_isub (i0 &&& (2147483647 : Int32)) (1 : Int32); have := rng32 ((i0 &&& (2147483647 : Int32)) - (1 : Int32)); omega)) (Int64.lt_iff_toInt_lt.mpr (by have := (by decide : ((0 : Int64)).toInt = 0); have := c_and i0 (2147483647 : Int32) (by decide); have := (by decide : ((2147483647 : Int32)).toInt = 2147483647); have := c_i2l (i0 &&& (2147483647 : Int32)); have := (by decide : ((1 : Int32)).toInt = 1); have := c_isub (i0 &&& (2147483647 : Int32)) (1 : Int32); have := rng32 ((i0 &&& (2147483647 : Int32)) - (1 : Int32)); have := c_i2l ((i0 &&& (2147483647 : Int32)) - (1 : Int32)); have := c_lsub ((i0 &&& (2147483647 : Int32)).toInt64) (((i0 &&& (2147483647 : Int32)) - (1 : Int32)).toInt64); have := rng64 (((i0 &&& (2147483647 : Int32)).toInt64) - (((i0 &&& (2147483647 : Int32)) - (1 : Int32)).toInt64)); omega)) (Int32.lt_iff_toInt_lt.mpr (by have := c_and i0 (2147483647 : Int32) (by decide); have := (by decide : ((2147483647 : Int32)).toInt = 2147483647); have := (by decide : ((1 : Int32)).toInt = 1); have := c_isub (i0 &&& (2147483647 : Int32)) (1 : Int32); have := rng32 ((i0 &&& (2147483647 : Int32)) - (1 : Int32)); omega))
    · exact rm0_35 l Z a0 hw ws i0 i1 i2 w0 w1 h0 n0 Z0 hk1 hk4 (fun e => by have := Int32.lt_iff_toInt_lt.mp e; have : ¬ ((i0 &&& (2147483647 : Int32))).toInt = ((0 : Int32)).toInt := fun e => hk1 (Int32.toInt_inj.mp e); have := c_and i0 (2147483647 : Int32) (by decide); have := (by decide : ((2147483647 : Int32)).toInt = 2147483647); have := (by decide : ((1 : Int32)).toInt = 1); have := (by decide : ((0 : Int32)).toInt = 0); omega) S0 S3 S4 S7 (fun e => by have := Int64.lt_iff_toInt_lt.mp e; have := (by decide : ((0 : Int64)).toInt = 0); have := c_and i0 (2147483647 : Int32) (by decide); have := (by decide : ((2147483647 : Int32)).toInt = 2147483647); have := c_i2l (i0 &&& (2147483647 : Int32)); have := c_lsub ((i0 &&& (2147483647 : Int32)).toInt64) ((i0 &&& (2147483647 : Int32)).toInt64); have := rng64 (((i0 &&& (2147483647 : Int32)).toInt64) - ((i0 &&& (2147483647 : Int32)).toInt64)); omega) (Int32.lt_iff_toInt_lt.mpr (by have := c_and i0 (2147483647 : Int32) (by decide); have := (by decide : ((2147483647 : Int32)).toInt = 2147483647); have := (by decide : ((1 : Int32)).toInt = 1); have := c_isub (i0 &&& (2147483647 : Int32)) (1 : Int32); have := rng32 ((i0 &&& (2147483647 : Int32)) - (1 : Int32)); omega))
    · exact rm0_36 l Z a0 hw ws i0 i1 i2 w0 w1 h0 n0 Z0 hk1 hk4 (fun e => by have := Int32.lt_iff_toInt_lt.mp e; have : ¬ ((i0 &&& (2147483647 : Int32))).toInt = ((0 : Int32)).toInt := fun e => hk1 (Int32.toInt_inj.mp e); have := c_and i0 (2147483647 : Int32) (by decide); have := (by decide : ((2147483647 : Int32)).toInt = 2147483647); have := (by decide : ((1 : Int32)).toInt = 1); have := (by decide : ((0 : Int32)).toInt = 0); omega) S0 S3 S4 S7 (Int32.lt_iff_toInt_lt.mpr (by have : ¬ ((i0 &&& (2147483647 : Int32))).toInt = ((0 : Int32)).toInt := fun e => hk1 (Int32.toInt_inj.mp e); have := c_and i1 (2147483647 : Int32) (by decide); have := (by decide : ((2147483647 : Int32)).toInt = 2147483647); have := c_ineg (i1 &&& (2147483647 : Int32)); have := rng32 (-(i1 &&& (2147483647 : Int32))); have := c_and i0 (2147483647 : Int32) (by decide); have := (by decide : ((0 : Int32)).toInt = 0); omega)) (Int64.lt_iff_toInt_lt.mpr (by have : ¬ ((i0 &&& (2147483647 : Int32))).toInt = ((0 : Int32)).toInt := fun e => hk1 (Int32.toInt_inj.mp e); have := (by decide : ((0 : Int64)).toInt = 0); have := c_and i0 (2147483647 : Int32) (by decide); have := (by decide : ((2147483647 : Int32)).toInt = 2147483647); have := c_i2l (i0 &&& (2147483647 : Int32)); have := c_and i1 (2147483647 : Int32) (by decide); have := c_ineg (i1 &&& (2147483647 : Int32)); have := rng32 (-(i1 &&& (2147483647 : Int32))); have := c_i2l (-(i1 &&& (2147483647 : Int32))); have := c_lsub ((i0 &&& (2147483647 : Int32)).toInt64) ((-(i1 &&& (2147483647 : Int32))).toInt64); have := rng64 (((i0 &&& (2147483647 : Int32)).toInt64) - ((-(i1 &&& (2147483647 : Int32))).toInt64)); have := (by decide : ((0 : Int32)).toInt = 0); omega)) (Int32.lt_iff_toInt_lt.mpr (by have := c_and i0 (2147483647 : Int32) (by decide); have := (by decide : ((2147483647 : Int32)).toInt = 2147483647); have := (by decide : ((1 : Int32)).toInt = 1); have := c_isub (i0 &&& (2147483647 : Int32)) (1 : Int32); have := rng32 ((i0 &&& (2147483647 : Int32)) - (1 : Int32)); omega))
set_option maxRecDepth 65536 in
set_option maxHeartbeats 40000000 in
theorem comes_1 {Post : Tables → Env → Array Value → State → Outcome → State → Prop} (hpost : ∀ tb e args s v u, (limb_1_1.after args s (.returned v) u = true ∧ limb_1_2.after args s (.returned v) u = true ∧ True) → ReturnedEndW s (.returned v) u (Jvm.fieldLocs frame_1_writes args s ++ Jvm.arrayLocs frame_1_arrays args s ++ Jvm.staticLocs frame_1_statics s) 16 1152 → Post tb e args s (.returned v) u) :
    ArmFor flags0 classFile x code maxLocals ret World_1 tables_1 room_1 Calls_1 rest_1 Pre_1 Post := by
  intro l hfl _ _ p e ha hc hk s m args below hf hA hF happ hP
  obtain ⟨hcalls, hrest, hpre⟩ := hP
  obtain ⟨-, -, -, hnamed, -, -, -, hat⟩ := (Spec.applies_iff hf).mp happ
  obtain ⟨hg, hn⟩ := and_e (Cond.before_iff.mp (show (Jvm.Cond.and given_1 narrow_1).before args s = true from hpre))
  obtain ⟨g6, g7⟩ := and_e hg
  obtain ⟨g8, g9⟩ := and_e g7
  obtain ⟨g10, g11⟩ := and_e g9
  obtain ⟨v0, v1, v2, rfl⟩ : ∃ v0 v1 v2 : Value, args = #[v0, v1, v2] := by
    have hs : args.size = 3 := by simpa [Cond.value, given_1] using g6
    obtain ⟨L⟩ := args
    match L, hs with
    | [v0, v1, v2], _ => exact ⟨v0, v1, v2, rfl⟩
  have hw := fun d (hd : d ∈ tables_1) => atoms_spec (ws := Jvm.Cond.code x code maxLocals ret :: tables_1) hat d (List.mem_cons_of_mem _ hd)
  obtain ⟨i0, ei0⟩ := is_v g8
  obtain rfl : v0 = (.int i0) := Option.some.inj ei0
  obtain ⟨i1, ei1⟩ := is_v g10
  obtain rfl : v1 = (.int i1) := Option.some.inj ei1
  obtain ⟨i2, ei2⟩ := is_v g11
  obtain rfl : v2 = (.int i2) := Option.some.inj ei2
  have hfit : Fit s := fun {y c} hc i hi => by
    obtain ⟨ha, rfl⟩ := Array.getElem?_eq_some_iff.mp hc
    have q := List.all_eq_true.mp ((Array.all_eq_true_iff_forall_mem.mp hF) _ (Array.getElem_mem ha)) i (List.mem_range.mpr hi)
    simpa [Array.getElem?_eq_getElem hi] using q
  obtain ⟨hsets, hown0⟩ := atoms_of _ (rest_1_c_eq ▸ (show rest_1_c.before _ s = true from hrest))
  obtain ⟨w0, ew0⟩ := exa_v (Cond.before_iff.mp (hsets _ (List.mem_of_getElem? (i := 2) rfl)))
  have S0 := Sta.start ew0 (Or.inl (hsets _ (List.mem_of_getElem? (i := 1) rfl)))
  have S1 := Exa.start ew0 (Cond.before_iff.mp (hsets _ (List.mem_of_getElem? (i := 2) rfl)))
  have S2 := own_fldI ew0 (Cond.before_iff.mp (hsets _ (List.mem_of_getElem? (i := 3) rfl)))
  obtain ⟨w1, ew1⟩ := exa_v (Cond.before_iff.mp (hsets _ (List.mem_of_getElem? (i := 6) rfl)))
  have S3 := Sta.start ew1 (Or.inl (hsets _ (List.mem_of_getElem? (i := 5) rfl)))
  have S4 := Exa.start ew1 (Cond.before_iff.mp (hsets _ (List.mem_of_getElem? (i := 6) rfl)))
  obtain ⟨w2, ew2⟩ := exa_v (Cond.before_iff.mp (hsets _ (List.mem_of_getElem? (i := 8) rfl)))
  have S5 := own_fldR ew1 ew2
  have S6 := Exa.start ew2 (Cond.before_iff.mp (hsets _ (List.mem_of_getElem? (i := 8) rfl)))
  have S7 := own_fldI ew1 (Cond.before_iff.mp (hsets _ (List.mem_of_getElem? (i := 10) rfl)))
  obtain ⟨cl0, A0⟩ := Arr.start ew2 (Cond.before_iff.mp (hsets _ (List.mem_of_getElem? (i := 7) rfl)))
  have L0 := own_len ew2 A0 (Cond.before_iff.mp (hsets _ (List.mem_of_getElem? (i := 9) rfl)))
  have S8 : Arv s s.heap w2 cl0.cls (.object "java/lang/Object") (0 : Int32) [] .null := Arv.start hfit A0 L0.1 L0.2 (by decide) (by decide) trivial
  obtain ⟨n, o, h1, h2, h3, _, L, rfl, ⟨rfl, N⟩, hq⟩ := law_all l s _ hw tables_1 i0 i1 i2 w0 w1 w2 cl0.cls s.heap s.heap.size (Nat.le_refl _) S0 S1 S2 S3 S4 S5 S6 S7 S8 p e ha hc hk s m _ below hf ((Spec.applies_iff_loose hf).mp happ).1 ⟨rfl, State.Warmed39.refl s, rfl⟩ trivial
  refine ⟨n, _, h1, h2, h3, hpost _ _ _ _ _ _ ⟨Cond.after_iff.mpr rfl, Cond.after_iff.mpr (eq_i res_at (Term.int_eval (1)) rfl), trivial⟩ ⟨hq.1, hq.2.1, hq.2.2.1, (hq.2.2.2.sift fun y hy => Or.inr (N y hy)).mono (by decide) (by decide)⟩⟩
theorem main_1_1 : Claimed_1_1 := comes_1 fun _ _ _ _ _ _ h hF => ⟨h.1, hF⟩
theorem main_1_2 : Claimed_1_2 := comes_1 fun _ _ _ _ _ _ h hF => ⟨h.2.1, hF⟩
end Jvm.Pilot.@@N@@
namespace Jvm.Pilot.@@N@@
open Jvm Jvm.ClassFile Sem Op Lib Jvm.Free Jvm.Stand Jvm.Pilot.@@N@@.Jvm.D
/-! MADE BY PROGRAM (witnessworld.py) out of the Statement's table words and the real class files: 32 classes; the members and pool entries that the words name. The judged class is class 1, her method 1. -/
namespace start1
open Jvm.ClassFile
def u (s : String) : CpInfo := .utf8 (stringToUtf16 s)
/-- a pool by its gaps: so many unusable entries, then the entry; so many at the end -/
def gap : Nat → List CpInfo → List CpInfo
  | 0, r => r
  | n + 1, r => .unusable :: gap n r
def poolList (es : List (Nat × CpInfo)) (last : Nat) : List CpInfo := es.foldr (fun e r => gap e.1 (e.2 :: r)) (gap last [])
def pool (es : List (Nat × CpInfo)) (last : Nat) : Array CpInfo := ⟨poolList es last⟩
def fileOf (pool : Array CpInfo) (this : Nat) (attrs : Array Attribute := #[]) (ms : Array MethodInfo := #[]) (fl : Nat := 33) (sup : Nat := 0) (ifs : Array Nat := #[]) (fds : Array FieldInfo := #[]) : ClassFile where
  minorVersion := 0
  majorVersion := 65
  constantPool := pool
  accessFlags := fl
  thisClass := this
  superClass := sup
  interfaces := ifs
  fields := fds
  methods := ms
  attributes := attrs
def plain (name : String) (sup : Option ClassId) : Class where
  name := name
  kind := .ordinary
  loader := none
  accessFlags := 33
  super := sup
  interfaces := #[]
  cf := none
  fields := #[]
  methods := #[]
  instanceTypes := #[]
  staticTypes := #[]
  resolved := #[]
  callSites := []
  init := .initialized
  statics := none
  mirror := none

def pool0 : Array CpInfo := pool [(5, u "<init>"), (0, u "()V"), (1, .class_ 10), (1, u "java/lang/Object")] 113

def k0c0 : Code := { maxStack := 0, maxLocals := 1, code := object_method_1_code, exceptionTable := #[], attributes := #[] }
def k0m0 : Method := { name := "<init>", desc := "()V", sig := { parameters := [], returnType := none }, accessFlags := 1, code := some k0c0 }
/-- java/lang/Object -/
def k0 : Class := { plain "java/lang/Object" none with
  accessFlags := 33
  interfaces := #[]
  cf := some (fileOf pool0 8 #[] #[{ accessFlags := 1, nameIndex := 5, descriptorIndex := 6, attributes := #[] }] 33 0 #[] #[])
  fields := #[]
  methods := #[k0m0]
  instanceTypes := #[]
  staticTypes := #[]
  resolved := Array.replicate 124 none
  statics := none }

def pool1 : Array CpInfo := pool [(2, .class_ 4), (1, u "java/lang/Object"), (0, u "<init>"), (0, u "()V"), (0, .integer 2147483647), (0, .class_ 9), (0, u "com/example/strict_ledger/strictledger/RetryPolicy"), (0, .methodref 8 11), (0, .nameAndType 5 12), (0, u "(I)V"), (0, .methodref 8 14), (0, .nameAndType 15 16), (0, u "allowsAttemptAfter"), (0, u "(I)Z"), (0, .methodref 8 18), (0, .nameAndType 19 20), (0, u "getBudget"), (0, u "()I"), (0, .class_ 22), (0, u "com/example/strict_ledger/strictledger/RetryPolicyAllowsAttemptAfterPinLaw"), (2, u "law"), (0, u "(III)Z")] 3

def k1m0 : Method := { name := "<init>", desc := "()V", sig := { parameters := [], returnType := none }, accessFlags := 2, code := none }
def k1c1 : Code := { maxStack := 4, maxLocals := 11, code := code, exceptionTable := #[], attributes := #[] }
def k1m1 : Method := { name := "law", desc := "(III)Z", sig := { parameters := [.int, .int, .int], returnType := some .boolean }, accessFlags := 9, code := some k1c1 }
/-- com/example/strict_ledger/strictledger/RetryPolicyAllowsAttemptAfterPinLaw -/
def k1 : Class := { plain "com/example/strict_ledger/strictledger/RetryPolicyAllowsAttemptAfterPinLaw" (some 0) with
  accessFlags := 49
  interfaces := #[]
  cf := some (fileOf pool1 21 #[] #[{ accessFlags := 2, nameIndex := 5, descriptorIndex := 6, attributes := #[] }, { accessFlags := 9, nameIndex := 25, descriptorIndex := 26, attributes := #[] }] 49 2 #[] #[])
  fields := #[]
  methods := #[k1m0, k1m1]
  instanceTypes := #[]
  staticTypes := #[]
  resolved := Array.replicate 30 none
  statics := none }

def pool2 : Array CpInfo := pool [(1, .methodref 2 3), (0, .class_ 4), (0, .nameAndType 5 6), (0, u "com/example/strict_ledger/strictledger/RetryPolicy"), (0, u "checkedBudget"), (0, u "(I)I"), (0, .string 8), (0, u "lease_expired"), (0, .methodref 10 11), (0, .class_ 12), (0, .nameAndType 13 14), (0, u "java/lang/Boolean"), (0, u "valueOf"), (0, u "(Z)Ljava/lang/Boolean;"), (0, .interfaceMethodref 16 17), (0, .class_ 18), (0, .nameAndType 19 20), (0, u "java/util/Map"), (0, u "of"), (0, u "(Ljava/lang/Object;Ljava/lang/Object;)Ljava/util/Map;"), (0, .interfaceMethodref 22 23), (0, .class_ 24), (0, .nameAndType 19 25), (0, u "java/util/List"), (0, u "()Ljava/util/List;"), (0, .methodref 2 27), (0, .nameAndType 28 29), (0, u "<init>"), (0, u "(ILjava/util/Map;Ljava/util/List;)V"), (0, .methodref 31 32), (0, .class_ 33), (0, .nameAndType 28 34), (0, u "java/lang/Object"), (0, u "()V"), (0, .fieldref 2 36), (0, .nameAndType 37 38), (0, u "budget"), (0, u "I"), (0, .interfaceMethodref 16 40), (0, .nameAndType 41 42), (0, u "copyOf"), (0, u "(Ljava/util/Map;)Ljava/util/Map;"), (0, .fieldref 2 44), (0, .nameAndType 45 46), (0, u "classes"), (0, u "Ljava/util/Map;"), (0, .interfaceMethodref 22 48), (0, .nameAndType 41 49), (0, u "(Ljava/util/Collection;)Ljava/util/List;"), (0, .fieldref 2 51), (0, .nameAndType 52 53), (0, u "backoff"), (0, u "Ljava/util/List;"), (77, u "()I"), (37, u "(I)V"), (2, u "DEFAULT"), (0, u "Lcom/example/strict_ledger/strictledger/RetryPolicy;"), (0, u "LEASE_EXPIRED"), (0, u "Ljava/lang/String;"), (15, u "getBudget"), (0, u "allowsAttemptAfter"), (0, u "(I)Z")] 32

def k2c0 : Code := { maxStack := 4, maxLocals := 2, code := prog_22_method_1_code, exceptionTable := #[], attributes := #[] }
def k2m0 : Method := { name := "<init>", desc := "(I)V", sig := { parameters := [.int], returnType := none }, accessFlags := 1, code := some k2c0 }
def k2c1 : Code := { maxStack := 2, maxLocals := 4, code := prog_22_method_2_code, exceptionTable := #[], attributes := #[] }
def k2m1 : Method := { name := "<init>", desc := "(ILjava/util/Map;Ljava/util/List;)V", sig := { parameters := [.int, (.object "java/util/Map"), (.object "java/util/List")], returnType := none }, accessFlags := 2, code := some k2c1 }
def k2c2 : Code := { maxStack := 1, maxLocals := 1, code := prog_22_method_6_code, exceptionTable := #[], attributes := #[] }
def k2m2 : Method := { name := "getBudget", desc := "()I", sig := { parameters := [], returnType := some .int }, accessFlags := 1, code := some k2c2 }
def k2c3 : Code := { maxStack := 2, maxLocals := 2, code := prog_22_method_7_code, exceptionTable := #[], attributes := #[] }
def k2m3 : Method := { name := "allowsAttemptAfter", desc := "(I)Z", sig := { parameters := [.int], returnType := some .boolean }, accessFlags := 0, code := some k2c3 }
def k2c4 : Code := { maxStack := 3, maxLocals := 1, code := prog_22_method_12_code, exceptionTable := #[], attributes := #[] }
def k2m4 : Method := { name := "checkedBudget", desc := "(I)I", sig := { parameters := [.int], returnType := some .int }, accessFlags := 10, code := some k2c4 }
/-- com/example/strict_ledger/strictledger/RetryPolicy -/
def k2 : Class := { plain "com/example/strict_ledger/strictledger/RetryPolicy" (some 0) with
  accessFlags := 49
  interfaces := #[]
  cf := some (fileOf pool2 2 #[] #[{ accessFlags := 1, nameIndex := 28, descriptorIndex := 169, attributes := #[] }, { accessFlags := 2, nameIndex := 28, descriptorIndex := 29, attributes := #[] }, { accessFlags := 1, nameIndex := 191, descriptorIndex := 131, attributes := #[] }, { accessFlags := 0, nameIndex := 192, descriptorIndex := 193, attributes := #[] }, { accessFlags := 10, nameIndex := 5, descriptorIndex := 6, attributes := #[] }] 49 31 #[] #[{ accessFlags := 25, nameIndex := 172, descriptorIndex := 173, attributes := #[] }, { accessFlags := 24, nameIndex := 174, descriptorIndex := 175, attributes := #[] }, { accessFlags := 18, nameIndex := 37, descriptorIndex := 38, attributes := #[] }, { accessFlags := 18, nameIndex := 45, descriptorIndex := 46, attributes := #[] }, { accessFlags := 18, nameIndex := 52, descriptorIndex := 53, attributes := #[] }])
  fields := #[{ name := "DEFAULT", type := (.object "com/example/strict_ledger/strictledger/RetryPolicy"), accessFlags := 25, slot := 0, constantValue := 0 }, { name := "LEASE_EXPIRED", type := (.object "java/lang/String"), accessFlags := 24, slot := 1, constantValue := 0 }, { name := "budget", type := .int, accessFlags := 18, slot := 0, constantValue := 0 }, { name := "classes", type := (.object "java/util/Map"), accessFlags := 18, slot := 1, constantValue := 0 }, { name := "backoff", type := (.object "java/util/List"), accessFlags := 18, slot := 2, constantValue := 0 }]
  methods := #[k2m0, k2m1, k2m2, k2m3, k2m4]
  instanceTypes := #[.int, (.object "java/util/Map"), (.object "java/util/List")]
  staticTypes := #[(.object "com/example/strict_ledger/strictledger/RetryPolicy"), (.object "java/lang/String")]
  resolved := Array.replicate 226 none
  statics := none }

def pool3 : Array CpInfo := pool [(1, .class_ 2), (0, u "java/io/Serializable"), (0, .class_ 4), (0, u "java/lang/Object")] 2

/-- java/io/Serializable -/
def k3 : Class := { plain "java/io/Serializable" (some 0) with
  accessFlags := 1537
  interfaces := #[]
  cf := some (fileOf pool3 1 #[] #[] 1537 3 #[] #[])
  fields := #[]
  methods := #[]
  instanceTypes := #[]
  staticTypes := #[]
  resolved := Array.replicate 7 none
  statics := none }

def pool4 : Array CpInfo := pool [(1, .class_ 2), (0, u "java/lang/Comparable"), (0, .class_ 4), (0, u "java/lang/Object")] 7

/-- java/lang/Comparable -/
def k4 : Class := { plain "java/lang/Comparable" (some 0) with
  accessFlags := 1537
  interfaces := #[]
  cf := some (fileOf pool4 1 #[] #[] 1537 3 #[] #[])
  fields := #[]
  methods := #[]
  instanceTypes := #[]
  staticTypes := #[]
  resolved := Array.replicate 12 none
  statics := none }

def pool5 : Array CpInfo := pool [(2, .class_ 4), (1, u "java/lang/CharSequence"), (42, .class_ 48), (0, u "java/lang/CharSequence$1CodePointIterator"), (10, .class_ 60), (0, u "java/lang/CharSequence$1CharIterator"), (5, .class_ 67), (0, u "java/lang/Object")] 63

/-- java/lang/CharSequence -/
def k5 : Class := { plain "java/lang/CharSequence" (some 0) with
  accessFlags := 1537
  interfaces := #[]
  cf := some (fileOf pool5 2 #[.nestMembers #[47, 59]] #[] 1537 66 #[] #[])
  fields := #[]
  methods := #[]
  instanceTypes := #[]
  staticTypes := #[]
  resolved := Array.replicate 131 none
  statics := none }

def pool6 : Array CpInfo := pool [(1, .class_ 2), (0, u "java/lang/constant/Constable"), (0, .class_ 4), (0, u "java/lang/Object")] 6

/-- java/lang/constant/Constable -/
def k6 : Class := { plain "java/lang/constant/Constable" (some 0) with
  accessFlags := 1537
  interfaces := #[]
  cf := some (fileOf pool6 1 #[] #[] 1537 3 #[] #[])
  fields := #[]
  methods := #[]
  instanceTypes := #[]
  staticTypes := #[]
  resolved := Array.replicate 11 none
  statics := none }

def pool7 : Array CpInfo := pool [(1, .class_ 2), (0, u "java/lang/constant/ConstantDesc"), (0, .class_ 4), (0, u "java/lang/Object")] 32

/-- java/lang/constant/ConstantDesc -/
def k7 : Class := { plain "java/lang/constant/ConstantDesc" (some 0) with
  accessFlags := 1537
  interfaces := #[]
  cf := some (fileOf pool7 1 #[] #[] 1537 3 #[] #[])
  fields := #[]
  methods := #[]
  instanceTypes := #[]
  staticTypes := #[]
  resolved := Array.replicate 37 none
  statics := none }

def pool8 : Array CpInfo := pool [(2, .class_ 4), (1, u "java/lang/Object"), (0, u "<init>"), (0, u "()V"), (3, .class_ 12), (1, u "java/lang/String"), (0, u "value"), (0, u "[B"), (2, u "coder"), (0, u "B"), (2, u "hash"), (0, u "I"), (2, u "hashIsZero"), (0, u "Z"), (13, u "COMPACT_STRINGS"), (534, .class_ 576), (0, u "java/lang/CharSequence"), (22, u "CASE_INSENSITIVE_ORDER"), (0, u "Ljava/util/Comparator;"), (500, u "serialPersistentFields"), (0, u "[Ljava/io/ObjectStreamField;"), (0, .class_ 1104), (0, u "java/lang/String$CaseInsensitiveComparator"), (1, .class_ 1107), (0, u "java/io/Serializable"), (0, .class_ 1109), (0, u "java/lang/Comparable"), (0, .class_ 1111), (0, u "java/lang/constant/Constable"), (0, .class_ 1113), (0, u "java/lang/constant/ConstantDesc"), (2, u "serialVersionUID"), (0, u "J"), (3, u "REPL"), (0, u "C"), (2, u "LATIN1"), (1, u "UTF16")] 323

def k8m0 : Method := { name := "<init>", desc := "()V", sig := { parameters := [], returnType := none }, accessFlags := 1, code := none }
/-- java/lang/String -/
def k8 : Class := { plain "java/lang/String" (some 0) with
  accessFlags := 49
  interfaces := #[3, 4, 5, 6, 7]
  cf := some (fileOf pool8 10 #[.nestMembers #[1103]] #[{ accessFlags := 1, nameIndex := 5, descriptorIndex := 6, attributes := #[] }] 49 2 #[1106, 1108, 575, 1110, 1112] #[{ accessFlags := 18, nameIndex := 13, descriptorIndex := 14, attributes := #[] }, { accessFlags := 18, nameIndex := 17, descriptorIndex := 18, attributes := #[] }, { accessFlags := 2, nameIndex := 21, descriptorIndex := 22, attributes := #[] }, { accessFlags := 2, nameIndex := 25, descriptorIndex := 26, attributes := #[] }, { accessFlags := 26, nameIndex := 1116, descriptorIndex := 1117, attributes := #[] }, { accessFlags := 24, nameIndex := 40, descriptorIndex := 26, attributes := #[] }, { accessFlags := 26, nameIndex := 1101, descriptorIndex := 1102, attributes := #[] }, { accessFlags := 26, nameIndex := 1121, descriptorIndex := 1122, attributes := #[] }, { accessFlags := 25, nameIndex := 599, descriptorIndex := 600, attributes := #[] }, { accessFlags := 24, nameIndex := 1125, descriptorIndex := 18, attributes := #[] }, { accessFlags := 24, nameIndex := 1127, descriptorIndex := 18, attributes := #[] }])
  fields := #[{ name := "value", type := (.array .byte), accessFlags := 18, slot := 0, constantValue := 0 }, { name := "coder", type := .byte, accessFlags := 18, slot := 1, constantValue := 0 }, { name := "hash", type := .int, accessFlags := 2, slot := 2, constantValue := 0 }, { name := "hashIsZero", type := .boolean, accessFlags := 2, slot := 3, constantValue := 0 }, { name := "serialVersionUID", type := .long, accessFlags := 26, slot := 0, constantValue := 0 }, { name := "COMPACT_STRINGS", type := .boolean, accessFlags := 24, slot := 1, constantValue := 0 }, { name := "serialPersistentFields", type := (.array (.object "java/io/ObjectStreamField")), accessFlags := 26, slot := 2, constantValue := 0 }, { name := "REPL", type := .char, accessFlags := 26, slot := 3, constantValue := 0 }, { name := "CASE_INSENSITIVE_ORDER", type := (.object "java/util/Comparator"), accessFlags := 25, slot := 4, constantValue := 0 }, { name := "LATIN1", type := .byte, accessFlags := 24, slot := 5, constantValue := 0 }, { name := "UTF16", type := .byte, accessFlags := 24, slot := 6, constantValue := 0 }]
  methods := #[k8m0]
  instanceTypes := #[(.array .byte), .byte, .int, .boolean]
  staticTypes := #[.long, .boolean, (.array (.object "java/io/ObjectStreamField")), .char, (.object "java/util/Comparator"), .byte, .byte]
  resolved := Array.replicate 1451 none
  statics := none }

def pool9 : Array CpInfo := pool [(2, .class_ 4), (1, u "java/lang/Object"), (3, .class_ 10), (1, u "java/lang/Boolean"), (0, u "value"), (0, u "Z"), (14, .fieldref 8 28), (0, .nameAndType 29 30), (0, u "TRUE"), (0, u "Ljava/lang/Boolean;"), (2, u "FALSE"), (2, u "valueOf"), (50, u "TYPE"), (0, u "Ljava/lang/Class;"), (0, .class_ 90), (0, u "java/io/Serializable"), (0, .class_ 92), (0, u "java/lang/Comparable"), (0, .class_ 94), (0, u "java/lang/constant/Constable"), (2, u "serialVersionUID"), (0, u "J"), (18, u "(Z)Ljava/lang/Boolean;")] 34

def k9c0 : Code := { maxStack := 1, maxLocals := 1, code := jdk_2055_method_5_code, exceptionTable := #[], attributes := #[] }
def k9m0 : Method := { name := "valueOf", desc := "(Z)Ljava/lang/Boolean;", sig := { parameters := [.boolean], returnType := some (.object "java/lang/Boolean") }, accessFlags := 9, code := some k9c0 }
/-- java/lang/Boolean -/
def k9 : Class := { plain "java/lang/Boolean" (some 0) with
  accessFlags := 49
  interfaces := #[3, 4, 6]
  cf := some (fileOf pool9 8 #[] #[{ accessFlags := 9, nameIndex := 36, descriptorIndex := 117, attributes := #[] }] 49 2 #[89, 91, 93] #[{ accessFlags := 25, nameIndex := 29, descriptorIndex := 30, attributes := #[] }, { accessFlags := 25, nameIndex := 33, descriptorIndex := 30, attributes := #[] }, { accessFlags := 25, nameIndex := 87, descriptorIndex := 88, attributes := #[] }, { accessFlags := 18, nameIndex := 11, descriptorIndex := 12, attributes := #[] }, { accessFlags := 26, nameIndex := 97, descriptorIndex := 98, attributes := #[] }])
  fields := #[{ name := "TRUE", type := (.object "java/lang/Boolean"), accessFlags := 25, slot := 0, constantValue := 0 }, { name := "FALSE", type := (.object "java/lang/Boolean"), accessFlags := 25, slot := 1, constantValue := 0 }, { name := "TYPE", type := (.object "java/lang/Class"), accessFlags := 25, slot := 2, constantValue := 0 }, { name := "value", type := .boolean, accessFlags := 18, slot := 0, constantValue := 0 }, { name := "serialVersionUID", type := .long, accessFlags := 26, slot := 3, constantValue := 0 }]
  methods := #[k9m0]
  instanceTypes := #[.boolean]
  staticTypes := #[(.object "java/lang/Boolean"), (.object "java/lang/Boolean"), (.object "java/lang/Class"), .long]
  resolved := Array.replicate 152 none
  statics := some 0 }

def pool10 : Array CpInfo := pool [(2, .class_ 4), (1, u "java/util/Map"), (31, .class_ 37), (0, u "java/util/Map$Entry"), (12, u "<init>"), (6, u "(Ljava/lang/Object;Ljava/lang/Object;)V"), (29, .class_ 88), (0, u "java/util/ImmutableCollections$Map1"), (0, .methodref 87 90), (0, .nameAndType 50 57), (2, .class_ 94), (0, u "java/lang/Object"), (6, .class_ 102), (0, u "java/util/ImmutableCollections$AbstractImmutableMap"), (5, u "of"), (87, u "(Ljava/lang/Object;Ljava/lang/Object;)Ljava/util/Map;"), (53, u "copyOf"), (0, u "(Ljava/util/Map;)Ljava/util/Map;")] 11

def k10c0 : Code := { maxStack := 4, maxLocals := 2, code := jdk_72_method_27_code, exceptionTable := #[], attributes := #[] }
def k10m0 : Method := { name := "of", desc := "(Ljava/lang/Object;Ljava/lang/Object;)Ljava/util/Map;", sig := { parameters := [(.object "java/lang/Object"), (.object "java/lang/Object")], returnType := some (.object "java/util/Map") }, accessFlags := 9, code := some k10c0 }
def k10c1 : Code := { maxStack := 2, maxLocals := 1, code := jdk_72_method_39_code, exceptionTable := #[], attributes := #[] }
def k10m1 : Method := { name := "copyOf", desc := "(Ljava/util/Map;)Ljava/util/Map;", sig := { parameters := [(.object "java/util/Map")], returnType := some (.object "java/util/Map") }, accessFlags := 9, code := some k10c1 }
/-- java/util/Map -/
def k10 : Class := { plain "java/util/Map" (some 0) with
  accessFlags := 1537
  interfaces := #[]
  cf := some (fileOf pool10 2 #[.nestMembers #[36]] #[{ accessFlags := 9, nameIndex := 108, descriptorIndex := 196, attributes := #[] }, { accessFlags := 9, nameIndex := 250, descriptorIndex := 251, attributes := #[] }] 1537 93 #[] #[])
  fields := #[]
  methods := #[k10m0, k10m1]
  instanceTypes := #[]
  staticTypes := #[]
  resolved := Array.replicate 263 none
  statics := none }

def pool11 : Array CpInfo := pool [(1, .methodref 2 3), (0, .class_ 4), (0, .nameAndType 5 6), (0, u "java/lang/Object"), (0, u "<init>"), (0, u "()V"), (1, .class_ 10), (1, u "java/util/AbstractMap"), (42, .class_ 54), (0, u "java/util/Map"), (9, u "keySet"), (0, u "Ljava/util/Set;"), (0, .class_ 67), (0, u "java/util/AbstractMap$1"), (5, u "values"), (0, u "Ljava/util/Collection;"), (0, .class_ 76), (0, u "java/util/AbstractMap$2"), (104, .class_ 182), (0, u "java/util/AbstractMap$ViewCollection"), (0, .class_ 184), (0, u "java/util/AbstractMap$SimpleImmutableEntry"), (0, .class_ 186), (0, u "java/util/AbstractMap$SimpleEntry"), (0, .class_ 188), (0, u "java/util/AbstractMap$2$1"), (0, .class_ 190), (0, u "java/util/AbstractMap$1$1")] 5

def k11c0 : Code := { maxStack := 1, maxLocals := 1, code := jdk_71_method_1_code, exceptionTable := #[], attributes := #[] }
def k11m0 : Method := { name := "<init>", desc := "()V", sig := { parameters := [], returnType := none }, accessFlags := 4, code := some k11c0 }
/-- java/util/AbstractMap -/
def k11 : Class := { plain "java/util/AbstractMap" (some 0) with
  accessFlags := 1057
  interfaces := #[10]
  cf := some (fileOf pool11 8 #[.nestMembers #[181, 183, 185, 75, 187, 66, 189]] #[{ accessFlags := 4, nameIndex := 5, descriptorIndex := 6, attributes := #[] }] 1057 2 #[53] #[{ accessFlags := 128, nameIndex := 64, descriptorIndex := 65, attributes := #[] }, { accessFlags := 128, nameIndex := 73, descriptorIndex := 74, attributes := #[] }])
  fields := #[{ name := "keySet", type := (.object "java/util/Set"), accessFlags := 128, slot := 0, constantValue := 0 }, { name := "values", type := (.object "java/util/Collection"), accessFlags := 128, slot := 1, constantValue := 0 }]
  methods := #[k11m0]
  instanceTypes := #[(.object "java/util/Set"), (.object "java/util/Collection")]
  staticTypes := #[]
  resolved := Array.replicate 196 none
  statics := none }

def pool12 : Array CpInfo := pool [(1, .methodref 2 3), (0, .class_ 4), (0, .nameAndType 5 6), (0, u "java/util/AbstractMap"), (0, u "<init>"), (0, u "()V"), (1, .class_ 10), (1, u "java/util/ImmutableCollections"), (3, .class_ 16), (1, u "java/util/ImmutableCollections$AbstractImmutableMap"), (2, .class_ 20), (0, u "java/io/Serializable")] 66

def k12c0 : Code := { maxStack := 1, maxLocals := 1, code := jdk_2602_method_1_code, exceptionTable := #[], attributes := #[] }
def k12m0 : Method := { name := "<init>", desc := "()V", sig := { parameters := [], returnType := none }, accessFlags := 0, code := some k12c0 }
/-- java/util/ImmutableCollections$AbstractImmutableMap -/
def k12 : Class := { plain "java/util/ImmutableCollections$AbstractImmutableMap" (some 11) with
  accessFlags := 1056
  interfaces := #[3]
  cf := some (fileOf pool12 14 #[.nestHost 8] #[{ accessFlags := 0, nameIndex := 5, descriptorIndex := 6, attributes := #[] }] 1056 2 #[19] #[])
  fields := #[]
  methods := #[k12m0]
  instanceTypes := #[(.object "java/util/Set"), (.object "java/util/Collection")]
  staticTypes := #[]
  resolved := Array.replicate 87 none
  statics := none }

def pool13 : Array CpInfo := pool [(1, .methodref 2 3), (0, .class_ 4), (0, .nameAndType 5 6), (0, u "java/util/ImmutableCollections$AbstractImmutableMap"), (0, u "<init>"), (0, u "()V"), (0, .methodref 8 9), (0, .class_ 10), (0, .nameAndType 11 12), (0, u "java/util/Objects"), (0, u "requireNonNull"), (0, u "(Ljava/lang/Object;)Ljava/lang/Object;"), (0, .fieldref 14 15), (0, .class_ 16), (0, .nameAndType 17 18), (0, u "java/util/ImmutableCollections$Map1"), (0, u "k0"), (0, u "Ljava/lang/Object;"), (0, .fieldref 14 20), (0, .nameAndType 21 18), (0, u "v0"), (4, u "(Ljava/lang/Object;Ljava/lang/Object;)V"), (68, .class_ 96), (0, u "java/util/ImmutableCollections")] 8

def k13c0 : Code := { maxStack := 2, maxLocals := 3, code := jdk_2604_method_1_code, exceptionTable := #[], attributes := #[] }
def k13m0 : Method := { name := "<init>", desc := "(Ljava/lang/Object;Ljava/lang/Object;)V", sig := { parameters := [(.object "java/lang/Object"), (.object "java/lang/Object")], returnType := none }, accessFlags := 0, code := some k13c0 }
/-- java/util/ImmutableCollections$Map1 -/
def k13 : Class := { plain "java/util/ImmutableCollections$Map1" (some 12) with
  accessFlags := 48
  interfaces := #[]
  cf := some (fileOf pool13 14 #[.nestHost 95] #[{ accessFlags := 0, nameIndex := 5, descriptorIndex := 26, attributes := #[] }] 48 2 #[] #[{ accessFlags := 18, nameIndex := 17, descriptorIndex := 18, attributes := #[] }, { accessFlags := 18, nameIndex := 21, descriptorIndex := 18, attributes := #[] }])
  fields := #[{ name := "k0", type := (.object "java/lang/Object"), accessFlags := 18, slot := 2, constantValue := 0 }, { name := "v0", type := (.object "java/lang/Object"), accessFlags := 18, slot := 3, constantValue := 0 }]
  methods := #[k13m0]
  instanceTypes := #[(.object "java/util/Set"), (.object "java/util/Collection"), (.object "java/lang/Object"), (.object "java/lang/Object")]
  staticTypes := #[]
  resolved := Array.replicate 105 none
  statics := none }

def pool14 : Array CpInfo := pool [(2, .class_ 4), (1, u "java/lang/Object"), (0, u "<init>"), (0, u "()V"), (35, .class_ 44), (1, u "java/util/Objects"), (0, u "requireNonNull"), (0, u "(Ljava/lang/Object;)Ljava/lang/Object;")] 137

def k14m0 : Method := { name := "<init>", desc := "()V", sig := { parameters := [], returnType := none }, accessFlags := 2, code := none }
def k14c1 : Code := { maxStack := 2, maxLocals := 1, code := jdk_31_method_10_code, exceptionTable := #[], attributes := #[] }
def k14m1 : Method := { name := "requireNonNull", desc := "(Ljava/lang/Object;)Ljava/lang/Object;", sig := { parameters := [(.object "java/lang/Object")], returnType := some (.object "java/lang/Object") }, accessFlags := 9, code := some k14c1 }
/-- java/util/Objects -/
def k14 : Class := { plain "java/util/Objects" (some 0) with
  accessFlags := 49
  interfaces := #[]
  cf := some (fileOf pool14 42 #[] #[{ accessFlags := 2, nameIndex := 5, descriptorIndex := 6, attributes := #[] }, { accessFlags := 9, nameIndex := 45, descriptorIndex := 46, attributes := #[] }] 49 2 #[] #[])
  fields := #[]
  methods := #[k14m0, k14m1]
  instanceTypes := #[]
  staticTypes := #[]
  resolved := Array.replicate 184 none
  statics := none }

def pool15 : Array CpInfo := pool [(8, .class_ 10), (1, u "java/lang/Iterable"), (24, .class_ 36), (0, u "java/lang/Object")] 25

/-- java/lang/Iterable -/
def k15 : Class := { plain "java/lang/Iterable" (some 0) with
  accessFlags := 1537
  interfaces := #[]
  cf := some (fileOf pool15 8 #[] #[] 1537 35 #[] #[])
  fields := #[]
  methods := #[]
  instanceTypes := #[]
  staticTypes := #[]
  resolved := Array.replicate 62 none
  statics := none }

def pool16 : Array CpInfo := pool [(10, .class_ 12), (1, u "java/util/Collection"), (47, .class_ 61), (0, u "java/lang/Object"), (0, .class_ 63), (0, u "java/lang/Iterable")] 51

/-- java/util/Collection -/
def k16 : Class := { plain "java/util/Collection" (some 0) with
  accessFlags := 1537
  interfaces := #[15]
  cf := some (fileOf pool16 10 #[] #[] 1537 60 #[62] #[])
  fields := #[]
  methods := #[]
  instanceTypes := #[]
  staticTypes := #[]
  resolved := Array.replicate 115 none
  statics := none }

def pool17 : Array CpInfo := pool [(8, .class_ 10), (1, u "java/util/SequencedCollection"), (15, .class_ 27), (0, u "java/lang/Object"), (0, .class_ 29), (0, u "java/util/Collection")] 27

/-- java/util/SequencedCollection -/
def k17 : Class := { plain "java/util/SequencedCollection" (some 0) with
  accessFlags := 1537
  interfaces := #[16]
  cf := some (fileOf pool17 8 #[] #[] 1537 26 #[28] #[])
  fields := #[]
  methods := #[]
  instanceTypes := #[]
  staticTypes := #[]
  resolved := Array.replicate 57 none
  statics := none }

def pool18 : Array CpInfo := pool [(8, .class_ 10), (1, u "java/util/List"), (77, u "of"), (1, .fieldref 91 92), (0, .class_ 93), (0, .nameAndType 94 95), (0, u "java/util/ImmutableCollections"), (0, u "EMPTY_LIST"), (0, u "Ljava/util/ImmutableCollections$ListN;"), (7, .class_ 104), (0, u "java/lang/Object"), (7, .methodref 91 113), (0, .nameAndType 114 115), (0, u "listCopy"), (0, u "(Ljava/util/Collection;)Ljava/util/List;"), (3, u "()Ljava/util/List;"), (0, .class_ 121), (0, u "java/util/SequencedCollection"), (112, u "copyOf")] 16

def k18c0 : Code := { maxStack := 1, maxLocals := 0, code := jdk_40_method_36_code, exceptionTable := #[], attributes := #[] }
def k18m0 : Method := { name := "of", desc := "()Ljava/util/List;", sig := { parameters := [], returnType := some (.object "java/util/List") }, accessFlags := 9, code := some k18c0 }
def k18c1 : Code := { maxStack := 1, maxLocals := 1, code := jdk_40_method_48_code, exceptionTable := #[], attributes := #[] }
def k18m1 : Method := { name := "copyOf", desc := "(Ljava/util/Collection;)Ljava/util/List;", sig := { parameters := [(.object "java/util/Collection")], returnType := some (.object "java/util/List") }, accessFlags := 9, code := some k18c1 }
/-- java/util/List -/
def k18 : Class := { plain "java/util/List" (some 0) with
  accessFlags := 1537
  interfaces := #[17]
  cf := some (fileOf pool18 8 #[] #[{ accessFlags := 9, nameIndex := 88, descriptorIndex := 119, attributes := #[] }, { accessFlags := 9, nameIndex := 234, descriptorIndex := 115, attributes := #[] }] 1537 103 #[120] #[])
  fields := #[]
  methods := #[k18m0, k18m1]
  instanceTypes := #[]
  staticTypes := #[]
  resolved := Array.replicate 251 none
  statics := none }

def pool19 : Array CpInfo := pool [(2, .class_ 4), (1, u "java/lang/Object"), (0, u "<init>"), (0, u "()V"), (3, .class_ 11), (0, u "java/util/ImmutableCollections$List12"), (0, .class_ 13), (0, u "java/util/ImmutableCollections$ListN"), (0, .fieldref 12 15), (0, .nameAndType 16 17), (0, u "allowNulls"), (0, u "Z"), (0, .class_ 19), (0, u "java/util/List"), (27, .class_ 49), (1, u "java/util/ImmutableCollections"), (0, u "$assertionsDisabled"), (5, u "[Ljava/lang/Object;"), (5, u "EMPTY_LIST"), (0, u "Ljava/util/ImmutableCollections$ListN;"), (8, u "EMPTY_LIST_NULLS"), (22, u "SALT32L"), (0, u "J"), (2, u "REVERSE"), (6, u "archivedObjects"), (2, u "EMPTY"), (0, u "Ljava/lang/Object;"), (0, .class_ 112), (0, u "java/util/ImmutableCollections$SetN"), (5, u "EMPTY_SET"), (0, u "Ljava/util/ImmutableCollections$SetN;"), (0, .class_ 121), (0, u "java/util/ImmutableCollections$MapN"), (3, u "EMPTY_MAP"), (0, u "Ljava/util/ImmutableCollections$MapN;"), (4, u "EXPAND_FACTOR"), (0, u "I"), (9, u "listCopy"), (0, u "(Ljava/util/Collection;)Ljava/util/List;"), (25, .class_ 170), (0, u "java/util/ImmutableCollections$MapN$MapNIterator"), (0, .class_ 172), (0, u "java/util/ImmutableCollections$MapN$1"), (0, .class_ 174), (0, u "java/util/ImmutableCollections$Map1"), (0, .class_ 176), (0, u "java/util/ImmutableCollections$AbstractImmutableMap"), (0, .class_ 178), (0, u "java/util/ImmutableCollections$SetN$SetNIterator"), (0, .class_ 180), (0, u "java/util/ImmutableCollections$Set12"), (0, .class_ 182), (0, u "java/util/ImmutableCollections$Set12$1"), (0, .class_ 184), (0, u "java/util/ImmutableCollections$AbstractImmutableSet"), (0, .class_ 186), (0, u "java/util/ImmutableCollections$SubList"), (0, .class_ 188), (0, u "java/util/ImmutableCollections$ListItr"), (0, .class_ 190), (0, u "java/util/ImmutableCollections$AbstractImmutableList"), (0, .class_ 192), (0, u "java/util/ImmutableCollections$AbstractImmutableCollection"), (0, .class_ 194), (0, u "java/util/ImmutableCollections$Access"), (0, .class_ 196), (0, u "java/util/ImmutableCollections$Access$1")] 16

def k19m0 : Method := { name := "<init>", desc := "()V", sig := { parameters := [], returnType := none }, accessFlags := 2, code := none }
def k19c1 : Code := { maxStack := 1, maxLocals := 2, code := jdk_56_method_3_code, exceptionTable := #[], attributes := #[] }
def k19m1 : Method := { name := "listCopy", desc := "(Ljava/util/Collection;)Ljava/util/List;", sig := { parameters := [(.object "java/util/Collection")], returnType := some (.object "java/util/List") }, accessFlags := 8, code := some k19c1 }
/-- java/util/ImmutableCollections -/
def k19 : Class := { plain "java/util/ImmutableCollections" (some 0) with
  accessFlags := 32
  interfaces := #[]
  cf := some (fileOf pool19 47 #[.nestMembers #[120, 169, 171, 173, 175, 111, 177, 179, 181, 183, 12, 10, 185, 187, 189, 191, 193, 195]] #[{ accessFlags := 2, nameIndex := 5, descriptorIndex := 6, attributes := #[] }, { accessFlags := 8, nameIndex := 142, descriptorIndex := 143, attributes := #[] }] 32 2 #[] #[{ accessFlags := 26, nameIndex := 95, descriptorIndex := 96, attributes := #[] }, { accessFlags := 26, nameIndex := 99, descriptorIndex := 17, attributes := #[] }, { accessFlags := 10, nameIndex := 106, descriptorIndex := 56, attributes := #[] }, { accessFlags := 26, nameIndex := 109, descriptorIndex := 110, attributes := #[] }, { accessFlags := 24, nameIndex := 62, descriptorIndex := 63, attributes := #[] }, { accessFlags := 24, nameIndex := 72, descriptorIndex := 63, attributes := #[] }, { accessFlags := 24, nameIndex := 118, descriptorIndex := 119, attributes := #[] }, { accessFlags := 24, nameIndex := 125, descriptorIndex := 126, attributes := #[] }, { accessFlags := 24, nameIndex := 131, descriptorIndex := 132, attributes := #[] }, { accessFlags := 4120, nameIndex := 50, descriptorIndex := 17, attributes := #[] }])
  fields := #[{ name := "SALT32L", type := .long, accessFlags := 26, slot := 0, constantValue := 0 }, { name := "REVERSE", type := .boolean, accessFlags := 26, slot := 1, constantValue := 0 }, { name := "archivedObjects", type := (.array (.object "java/lang/Object")), accessFlags := 10, slot := 2, constantValue := 0 }, { name := "EMPTY", type := (.object "java/lang/Object"), accessFlags := 26, slot := 3, constantValue := 0 }, { name := "EMPTY_LIST", type := (.object "java/util/ImmutableCollections$ListN"), accessFlags := 24, slot := 4, constantValue := 0 }, { name := "EMPTY_LIST_NULLS", type := (.object "java/util/ImmutableCollections$ListN"), accessFlags := 24, slot := 5, constantValue := 0 }, { name := "EMPTY_SET", type := (.object "java/util/ImmutableCollections$SetN"), accessFlags := 24, slot := 6, constantValue := 0 }, { name := "EMPTY_MAP", type := (.object "java/util/ImmutableCollections$MapN"), accessFlags := 24, slot := 7, constantValue := 0 }, { name := "EXPAND_FACTOR", type := .int, accessFlags := 24, slot := 8, constantValue := 0 }, { name := "$assertionsDisabled", type := .boolean, accessFlags := 4120, slot := 9, constantValue := 0 }]
  methods := #[k19m0, k19m1]
  instanceTypes := #[]
  staticTypes := #[.long, .boolean, (.array (.object "java/lang/Object")), (.object "java/lang/Object"), (.object "java/util/ImmutableCollections$ListN"), (.object "java/util/ImmutableCollections$ListN"), (.object "java/util/ImmutableCollections$SetN"), (.object "java/util/ImmutableCollections$MapN"), .int, .boolean]
  resolved := Array.replicate 213 none
  statics := some 1 }

def pool20 : Array CpInfo := pool [(2, .class_ 4), (1, u "java/lang/Object"), (0, u "<init>"), (0, u "()V"), (1, .class_ 10), (1, u "java/util/AbstractCollection"), (66, .class_ 78), (0, u "java/util/Collection")] 81

def k20m0 : Method := { name := "<init>", desc := "()V", sig := { parameters := [], returnType := none }, accessFlags := 4, code := none }
/-- java/util/AbstractCollection -/
def k20 : Class := { plain "java/util/AbstractCollection" (some 0) with
  accessFlags := 1057
  interfaces := #[16]
  cf := some (fileOf pool20 8 #[] #[{ accessFlags := 4, nameIndex := 5, descriptorIndex := 6, attributes := #[] }] 1057 2 #[77] #[])
  fields := #[]
  methods := #[k20m0]
  instanceTypes := #[]
  staticTypes := #[]
  resolved := Array.replicate 160 none
  statics := none }

def pool21 : Array CpInfo := pool [(2, .class_ 4), (1, u "java/util/AbstractCollection"), (0, u "<init>"), (0, u "()V"), (1, .class_ 10), (1, u "java/util/ImmutableCollections"), (2, .class_ 14), (0, u "java/util/ImmutableCollections$AbstractImmutableCollection")] 41

def k21m0 : Method := { name := "<init>", desc := "()V", sig := { parameters := [], returnType := none }, accessFlags := 0, code := none }
/-- java/util/ImmutableCollections$AbstractImmutableCollection -/
def k21 : Class := { plain "java/util/ImmutableCollections$AbstractImmutableCollection" (some 20) with
  accessFlags := 1056
  interfaces := #[]
  cf := some (fileOf pool21 13 #[.nestHost 8] #[{ accessFlags := 0, nameIndex := 5, descriptorIndex := 6, attributes := #[] }] 1056 2 #[] #[])
  fields := #[]
  methods := #[k21m0]
  instanceTypes := #[]
  staticTypes := #[]
  resolved := Array.replicate 56 none
  statics := none }

def pool22 : Array CpInfo := pool [(1, .class_ 2), (0, u "java/util/RandomAccess"), (0, .class_ 4), (0, u "java/lang/Object")] 2

/-- java/util/RandomAccess -/
def k22 : Class := { plain "java/util/RandomAccess" (some 0) with
  accessFlags := 1537
  interfaces := #[]
  cf := some (fileOf pool22 1 #[] #[] 1537 3 #[] #[])
  fields := #[]
  methods := #[]
  instanceTypes := #[]
  staticTypes := #[]
  resolved := Array.replicate 7 none
  statics := none }

def pool23 : Array CpInfo := pool [(2, .class_ 4), (1, u "java/util/ImmutableCollections$AbstractImmutableCollection"), (0, u "<init>"), (0, u "()V"), (1, .class_ 10), (1, u "java/util/ImmutableCollections"), (3, .class_ 16), (1, u "java/util/ImmutableCollections$AbstractImmutableList"), (60, .class_ 78), (0, u "java/util/List"), (45, .class_ 125), (0, u "java/util/RandomAccess")] 70

def k23m0 : Method := { name := "<init>", desc := "()V", sig := { parameters := [], returnType := none }, accessFlags := 0, code := none }
/-- java/util/ImmutableCollections$AbstractImmutableList -/
def k23 : Class := { plain "java/util/ImmutableCollections$AbstractImmutableList" (some 21) with
  accessFlags := 1056
  interfaces := #[18, 22]
  cf := some (fileOf pool23 14 #[.nestHost 8] #[{ accessFlags := 0, nameIndex := 5, descriptorIndex := 6, attributes := #[] }] 1056 2 #[77, 124] #[])
  fields := #[]
  methods := #[k23m0]
  instanceTypes := #[]
  staticTypes := #[]
  resolved := Array.replicate 196 none
  statics := none }

def pool24 : Array CpInfo := pool [(2, .class_ 4), (1, u "java/util/ImmutableCollections$AbstractImmutableList"), (9, .class_ 16), (1, u "java/util/ImmutableCollections$List12"), (0, u "e0"), (0, u "Ljava/lang/Object;"), (1, .class_ 22), (1, u "java/util/ImmutableCollections"), (3, u "e1"), (43, .class_ 71), (0, u "java/io/Serializable")] 53

/-- java/util/ImmutableCollections$List12 -/
def k24 : Class := { plain "java/util/ImmutableCollections$List12" (some 23) with
  accessFlags := 48
  interfaces := #[3]
  cf := some (fileOf pool24 14 #[.nestHost 20] #[] 48 2 #[70] #[{ accessFlags := 18, nameIndex := 17, descriptorIndex := 18, attributes := #[] }, { accessFlags := 18, nameIndex := 26, descriptorIndex := 18, attributes := #[] }])
  fields := #[{ name := "e0", type := (.object "java/lang/Object"), accessFlags := 18, slot := 0, constantValue := 0 }, { name := "e1", type := (.object "java/lang/Object"), accessFlags := 18, slot := 1, constantValue := 0 }]
  methods := #[]
  instanceTypes := #[(.object "java/lang/Object"), (.object "java/lang/Object")]
  staticTypes := #[]
  resolved := Array.replicate 125 none
  statics := none }

def pool25 : Array CpInfo := pool [(2, .class_ 4), (1, u "java/util/ImmutableCollections$AbstractImmutableList"), (3, .class_ 10), (1, u "java/util/ImmutableCollections$ListN"), (0, u "elements"), (0, u "[Ljava/lang/Object;"), (2, u "allowNulls"), (0, u "Z"), (42, .class_ 60), (0, u "java/io/Serializable"), (53, .class_ 115), (0, u "java/util/ImmutableCollections")] 3

/-- java/util/ImmutableCollections$ListN -/
def k25 : Class := { plain "java/util/ImmutableCollections$ListN" (some 23) with
  accessFlags := 48
  interfaces := #[3]
  cf := some (fileOf pool25 8 #[.nestHost 114] #[] 48 2 #[59] #[{ accessFlags := 18, nameIndex := 11, descriptorIndex := 12, attributes := #[] }, { accessFlags := 18, nameIndex := 15, descriptorIndex := 16, attributes := #[] }])
  fields := #[{ name := "elements", type := (.array (.object "java/lang/Object")), accessFlags := 18, slot := 0, constantValue := 0 }, { name := "allowNulls", type := .boolean, accessFlags := 18, slot := 1, constantValue := 0 }]
  methods := #[]
  instanceTypes := #[(.array (.object "java/lang/Object")), .boolean]
  staticTypes := #[]
  resolved := Array.replicate 119 none
  statics := none }

def pool26 : Array CpInfo := pool [(1, u "java/lang/Cloneable"), (0, .class_ 1), (0, u "java/lang/Object"), (0, .class_ 3)] 3

/-- java/lang/Cloneable -/
def k26 : Class := { plain "java/lang/Cloneable" (some 0) with
  accessFlags := 1537
  interfaces := #[]
  cf := some (fileOf pool26 2 #[] #[] 1537 4 #[] #[])
  fields := #[]
  methods := #[]
  instanceTypes := #[]
  staticTypes := #[]
  resolved := Array.replicate 8 none
  statics := none }

/-- the primitive byte -/
def k27 : Class := { plain "byte" none with kind := .primitive 'B', accessFlags := 0x411 }
/-- [B -/
def k28 : Class := { plain "[B" (some 0) with kind := .array 27 .byte, interfaces := #[26, 3], accessFlags := 1041 }

/-- the primitive int -/
def k29 : Class := { plain "int" none with kind := .primitive 'I', accessFlags := 0x411 }
/-- [I -/
def k30 : Class := { plain "[I" (some 0) with kind := .array 29 .int, interfaces := #[26, 3], accessFlags := 1041 }

/-- [Ljava/lang/Object; -/
def k31 : Class := { plain "[Ljava/lang/Object;" (some 0) with kind := .array 0 (.object "java/lang/Object"), interfaces := #[26, 3], accessFlags := 1041 }

def heap : Heap := #[{ cls := 9, slots := #[.ref 3, .null, .null, .long 0], vm := .statics 9 },
  { cls := 19, slots := #[.long 0, .int 0, .null, .null, .ref 4, .null, .null, .null, .int 0, .int 0], vm := .statics 19 },
  { cls := 31, slots := #[], vm := .none },
  { cls := 9, slots := #[.int 1], vm := .none },
  { cls := 25, slots := #[.ref 2, .int 0], vm := .none }]
def classes : Array Class := #[k0, k1, k2, k3, k4, k5, k6, k7, k8, k9, k10, k11, k12, k13, k14, k15, k16, k17, k18, k19, k20, k21, k22, k23, k24, k25, k26, k27, k28, k29, k30, k31]
def interned : List (Array UInt16 × Addr) := []
def slotsUsed : Nat := 17
def theMethod : MethodId := ⟨1, 1⟩
def args0 : Array Value := #[.int 5, .int 5, .int 5]
def aboutOver (below : List Frame) : State where
  vm := { classes := classes, interned := interned.toArray }
  heap := heap
  slotsUsed := slotsUsed
  threads := #[{ frames := .invoking theMethod args0 :: below }]
def below0 : List Frame := [.native { method := ⟨0, 0⟩, args := #[] }]
def about1 : State := aboutOver below0
def p0 : Program := .bare "" "" ""
def e0 : Env := launch0.env 0 0 0
theorem w_frames : about1.frames = Frame.invoking theMethod args0 :: below0 := rfl
set_option maxRecDepth 65536 in
theorem w_args : argsFit about1.vm theMethod args0 = true := by decide +kernel
set_option maxRecDepth 65536 in
theorem w_heap : heapFits about1 = true := by decide +kernel
set_option maxRecDepth 65536 in
theorem w_runnable : about1.curStatus? = some .runnable := by decide +kernel
set_option maxRecDepth 65536 in
theorem w_alone : about1.alone = true := by decide +kernel
set_option maxRecDepth 65536 in
theorem w_named : about1.methodNamed? x = some theMethod := by decide +kernel
set_option maxRecDepth 65536 in
theorem w_hears : about1.hears theMethod below0 = true := by decide +kernel
set_option maxRecDepth 65536 in
theorem w_ripe : about1.ripe theMethod args0 below0 = true := by decide +kernel
theorem w_running : about1.status = .running := rfl
set_option maxRecDepth 65536 in
theorem w_room : about1.hasRoom e0.platform room_1 = true :=
  launch0.hasRoom_least _ room_1 (by decide +kernel) (by decide +kernel) (by decide +kernel) (by decide +kernel) (by decide +kernel) (by decide +kernel)
theorem allAtoms_all (ts : List Jvm.Cond) (a : Array Jvm.Value) (st : Jvm.State) : (allAtoms ts).before a st = ts.all (fun c => c.before a st) := by
  induction ts with
  | nil => rfl
  | cons c t ih =>
    show (Jvm.Cond.and c (allAtoms t)).before a st = _
    rw [Jvm.Cond.before_and, ih, List.all_cons]
def words1 : List Jvm.Cond := Jvm.Cond.code x code maxLocals ret :: tables_1
/-- a 'code' word, met by the world's own term for the bytes: nothing is compared byte by byte -/
theorem code_word {y : MethodName} {bytes : ByteArray} {mx : Nat} {rt : Option FieldType} {a : Array Value} {s : State} {m : MethodId} {meth : Method} {c : Code} (h1 : s.methodNamed? y = some m) (h2 : s.vm.method? m = some meth) (h3 : meth.code = some c) (h4 : c.code = bytes)
    (h5 : (c.maxLocals == mx && c.exceptionTable.isEmpty && decide (c.maxStack ≤ mostOperands) && decide (meth.sig.returnType = rt) && !meth.locks && decide (parseMethodDescriptor y.desc = some meth.sig)) = true) : (Jvm.Cond.code y bytes mx rt).before a s = true := by
  simp only [Bool.and_eq_true, beq_iff_eq, Bool.not_eq_true', decide_eq_true_eq] at h5
  obtain ⟨⟨⟨⟨⟨g1, g2⟩, g3⟩, g4⟩, g5⟩, g6⟩ := h5
  simp [Cond.before, Cond.holds, Cond.value, h1, h2, h3, h4, g1, g2, g3, g4, g5, g6]
def isCode : Jvm.Cond → Bool
  | .code _ _ _ _ => true
  | _ => false
theorem all_split {L : List Jvm.Cond} {P : Jvm.Cond → Bool} (h1 : L.all (fun c => isCode c || P c) = true) (h2 : ∀ c ∈ L.filter isCode, P c = true) : L.all P = true := by
  refine List.all_eq_true.mpr fun c hc => ?_
  have h := List.all_eq_true.mp h1 c hc
  rcases Bool.eq_false_or_eq_true (isCode c) with hi | hi
  · exact h2 c (List.mem_filter.mpr ⟨hc, hi⟩)
  · simpa [hi] using h
set_option maxRecDepth 65536 in
theorem w_c0 : (Jvm.Cond.code x code maxLocals ret).before args0 about1 = true := code_word (m := ⟨1, 1⟩) (meth := k1m1) (c := k1c1) (by decide +kernel) rfl rfl rfl (by decide +kernel)
set_option maxRecDepth 65536 in
theorem w_c1 : (Jvm.Cond.code ({ cls := "com/example/strict_ledger/strictledger/RetryPolicy", name := "<init>", desc := "(I)V" } : Jvm.MethodName) prog_22_method_1_code (2 : Nat) (Option.none : Option Jvm.ClassFile.FieldType)).before args0 about1 = true := code_word (m := ⟨2, 0⟩) (meth := k2m0) (c := k2c0) (by decide +kernel) rfl rfl rfl (by decide +kernel)
set_option maxRecDepth 65536 in
theorem w_c2 : (Jvm.Cond.code ({ cls := "com/example/strict_ledger/strictledger/RetryPolicy", name := "checkedBudget", desc := "(I)I" } : Jvm.MethodName) prog_22_method_12_code (1 : Nat) (Option.some Jvm.ClassFile.FieldType.int)).before args0 about1 = true := code_word (m := ⟨2, 4⟩) (meth := k2m4) (c := k2c4) (by decide +kernel) rfl rfl rfl (by decide +kernel)
set_option maxRecDepth 65536 in
theorem w_c3 : (Jvm.Cond.code ({ cls := "java/lang/Boolean", name := "valueOf", desc := "(Z)Ljava/lang/Boolean;" } : Jvm.MethodName) jdk_2055_method_5_code (1 : Nat) (Option.some (Jvm.ClassFile.FieldType.object "java/lang/Boolean"))).before args0 about1 = true := code_word (m := ⟨9, 0⟩) (meth := k9m0) (c := k9c0) (by decide +kernel) rfl rfl rfl (by decide +kernel)
set_option maxRecDepth 65536 in
theorem w_c4 : (Jvm.Cond.code ({ cls := "java/util/Map", name := "of", desc := "(Ljava/lang/Object;Ljava/lang/Object;)Ljava/util/Map;" } : Jvm.MethodName) jdk_72_method_27_code (2 : Nat) (Option.some (Jvm.ClassFile.FieldType.object "java/util/Map"))).before args0 about1 = true := code_word (m := ⟨10, 0⟩) (meth := k10m0) (c := k10c0) (by decide +kernel) rfl rfl rfl (by decide +kernel)
set_option maxRecDepth 65536 in
theorem w_c5 : (Jvm.Cond.code ({ cls := "java/util/ImmutableCollections$Map1", name := "<init>", desc := "(Ljava/lang/Object;Ljava/lang/Object;)V" } : Jvm.MethodName) jdk_2604_method_1_code (3 : Nat) (Option.none : Option Jvm.ClassFile.FieldType)).before args0 about1 = true := code_word (m := ⟨13, 0⟩) (meth := k13m0) (c := k13c0) (by decide +kernel) rfl rfl rfl (by decide +kernel)
set_option maxRecDepth 65536 in
theorem w_c6 : (Jvm.Cond.code ({ cls := "java/util/ImmutableCollections$AbstractImmutableMap", name := "<init>", desc := "()V" } : Jvm.MethodName) jdk_2602_method_1_code (1 : Nat) (Option.none : Option Jvm.ClassFile.FieldType)).before args0 about1 = true := code_word (m := ⟨12, 0⟩) (meth := k12m0) (c := k12c0) (by decide +kernel) rfl rfl rfl (by decide +kernel)
set_option maxRecDepth 65536 in
theorem w_c7 : (Jvm.Cond.code ({ cls := "java/util/AbstractMap", name := "<init>", desc := "()V" } : Jvm.MethodName) jdk_71_method_1_code (1 : Nat) (Option.none : Option Jvm.ClassFile.FieldType)).before args0 about1 = true := code_word (m := ⟨11, 0⟩) (meth := k11m0) (c := k11c0) (by decide +kernel) rfl rfl rfl (by decide +kernel)
set_option maxRecDepth 65536 in
theorem w_c8 : (Jvm.Cond.code ({ cls := "java/lang/Object", name := "<init>", desc := "()V" } : Jvm.MethodName) object_method_1_code (1 : Nat) (Option.none : Option Jvm.ClassFile.FieldType)).before args0 about1 = true := code_word (m := ⟨0, 0⟩) (meth := k0m0) (c := k0c0) (by decide +kernel) rfl rfl rfl (by decide +kernel)
set_option maxRecDepth 65536 in
theorem w_c9 : (Jvm.Cond.code ({ cls := "java/util/Objects", name := "requireNonNull", desc := "(Ljava/lang/Object;)Ljava/lang/Object;" } : Jvm.MethodName) jdk_31_method_10_code (1 : Nat) (Option.some (Jvm.ClassFile.FieldType.object "java/lang/Object"))).before args0 about1 = true := code_word (m := ⟨14, 1⟩) (meth := k14m1) (c := k14c1) (by decide +kernel) rfl rfl rfl (by decide +kernel)
set_option maxRecDepth 65536 in
theorem w_c10 : (Jvm.Cond.code ({ cls := "java/util/List", name := "of", desc := "()Ljava/util/List;" } : Jvm.MethodName) jdk_40_method_36_code (0 : Nat) (Option.some (Jvm.ClassFile.FieldType.object "java/util/List"))).before args0 about1 = true := code_word (m := ⟨18, 0⟩) (meth := k18m0) (c := k18c0) (by decide +kernel) rfl rfl rfl (by decide +kernel)
set_option maxRecDepth 65536 in
theorem w_c11 : (Jvm.Cond.code ({ cls := "com/example/strict_ledger/strictledger/RetryPolicy", name := "<init>", desc := "(ILjava/util/Map;Ljava/util/List;)V" } : Jvm.MethodName) prog_22_method_2_code (4 : Nat) (Option.none : Option Jvm.ClassFile.FieldType)).before args0 about1 = true := code_word (m := ⟨2, 1⟩) (meth := k2m1) (c := k2c1) (by decide +kernel) rfl rfl rfl (by decide +kernel)
set_option maxRecDepth 65536 in
theorem w_c12 : (Jvm.Cond.code ({ cls := "java/util/Map", name := "copyOf", desc := "(Ljava/util/Map;)Ljava/util/Map;" } : Jvm.MethodName) jdk_72_method_39_code (1 : Nat) (Option.some (Jvm.ClassFile.FieldType.object "java/util/Map"))).before args0 about1 = true := code_word (m := ⟨10, 1⟩) (meth := k10m1) (c := k10c1) (by decide +kernel) rfl rfl rfl (by decide +kernel)
set_option maxRecDepth 65536 in
theorem w_c13 : (Jvm.Cond.code ({ cls := "java/util/List", name := "copyOf", desc := "(Ljava/util/Collection;)Ljava/util/List;" } : Jvm.MethodName) jdk_40_method_48_code (1 : Nat) (Option.some (Jvm.ClassFile.FieldType.object "java/util/List"))).before args0 about1 = true := code_word (m := ⟨18, 1⟩) (meth := k18m1) (c := k18c1) (by decide +kernel) rfl rfl rfl (by decide +kernel)
set_option maxRecDepth 65536 in
theorem w_c14 : (Jvm.Cond.code ({ cls := "java/util/ImmutableCollections", name := "listCopy", desc := "(Ljava/util/Collection;)Ljava/util/List;" } : Jvm.MethodName) jdk_56_method_3_code (2 : Nat) (Option.some (Jvm.ClassFile.FieldType.object "java/util/List"))).before args0 about1 = true := code_word (m := ⟨19, 1⟩) (meth := k19m1) (c := k19c1) (by decide +kernel) rfl rfl rfl (by decide +kernel)
set_option maxRecDepth 65536 in
theorem w_c15 : (Jvm.Cond.code ({ cls := "com/example/strict_ledger/strictledger/RetryPolicy", name := "allowsAttemptAfter", desc := "(I)Z" } : Jvm.MethodName) prog_22_method_7_code (2 : Nat) (Option.some Jvm.ClassFile.FieldType.boolean)).before args0 about1 = true := code_word (m := ⟨2, 3⟩) (meth := k2m3) (c := k2c3) (by decide +kernel) rfl rfl rfl (by decide +kernel)
set_option maxRecDepth 65536 in
theorem w_c16 : (Jvm.Cond.code ({ cls := "com/example/strict_ledger/strictledger/RetryPolicy", name := "getBudget", desc := "()I" } : Jvm.MethodName) prog_22_method_6_code (1 : Nat) (Option.some Jvm.ClassFile.FieldType.int)).before args0 about1 = true := code_word (m := ⟨2, 2⟩) (meth := k2m2) (c := k2c2) (by decide +kernel) rfl rfl rfl (by decide +kernel)
def codes1 : List Jvm.Cond := [Jvm.Cond.code x code maxLocals ret, Jvm.Cond.code ({ cls := "com/example/strict_ledger/strictledger/RetryPolicy", name := "<init>", desc := "(I)V" } : Jvm.MethodName) prog_22_method_1_code (2 : Nat) (Option.none : Option Jvm.ClassFile.FieldType), Jvm.Cond.code ({ cls := "com/example/strict_ledger/strictledger/RetryPolicy", name := "checkedBudget", desc := "(I)I" } : Jvm.MethodName) prog_22_method_12_code (1 : Nat) (Option.some Jvm.ClassFile.FieldType.int), Jvm.Cond.code ({ cls := "java/lang/Boolean", name := "valueOf", desc := "(Z)Ljava/lang/Boolean;" } : Jvm.MethodName) jdk_2055_method_5_code (1 : Nat) (Option.some (Jvm.ClassFile.FieldType.object "java/lang/Boolean")), Jvm.Cond.code ({ cls := "java/util/Map", name := "of", desc := "(Ljava/lang/Object;Ljava/lang/Object;)Ljava/util/Map;" } : Jvm.MethodName) jdk_72_method_27_code (2 : Nat) (Option.some (Jvm.ClassFile.FieldType.object "java/util/Map")), Jvm.Cond.code ({ cls := "java/util/ImmutableCollections$Map1", name := "<init>", desc := "(Ljava/lang/Object;Ljava/lang/Object;)V" } : Jvm.MethodName) jdk_2604_method_1_code (3 : Nat) (Option.none : Option Jvm.ClassFile.FieldType), Jvm.Cond.code ({ cls := "java/util/ImmutableCollections$AbstractImmutableMap", name := "<init>", desc := "()V" } : Jvm.MethodName) jdk_2602_method_1_code (1 : Nat) (Option.none : Option Jvm.ClassFile.FieldType), Jvm.Cond.code ({ cls := "java/util/AbstractMap", name := "<init>", desc := "()V" } : Jvm.MethodName) jdk_71_method_1_code (1 : Nat) (Option.none : Option Jvm.ClassFile.FieldType), Jvm.Cond.code ({ cls := "java/lang/Object", name := "<init>", desc := "()V" } : Jvm.MethodName) object_method_1_code (1 : Nat) (Option.none : Option Jvm.ClassFile.FieldType), Jvm.Cond.code ({ cls := "java/util/Objects", name := "requireNonNull", desc := "(Ljava/lang/Object;)Ljava/lang/Object;" } : Jvm.MethodName) jdk_31_method_10_code (1 : Nat) (Option.some (Jvm.ClassFile.FieldType.object "java/lang/Object")), Jvm.Cond.code ({ cls := "java/util/List", name := "of", desc := "()Ljava/util/List;" } : Jvm.MethodName) jdk_40_method_36_code (0 : Nat) (Option.some (Jvm.ClassFile.FieldType.object "java/util/List")), Jvm.Cond.code ({ cls := "com/example/strict_ledger/strictledger/RetryPolicy", name := "<init>", desc := "(ILjava/util/Map;Ljava/util/List;)V" } : Jvm.MethodName) prog_22_method_2_code (4 : Nat) (Option.none : Option Jvm.ClassFile.FieldType), Jvm.Cond.code ({ cls := "java/util/Map", name := "copyOf", desc := "(Ljava/util/Map;)Ljava/util/Map;" } : Jvm.MethodName) jdk_72_method_39_code (1 : Nat) (Option.some (Jvm.ClassFile.FieldType.object "java/util/Map")), Jvm.Cond.code ({ cls := "java/util/List", name := "copyOf", desc := "(Ljava/util/Collection;)Ljava/util/List;" } : Jvm.MethodName) jdk_40_method_48_code (1 : Nat) (Option.some (Jvm.ClassFile.FieldType.object "java/util/List")), Jvm.Cond.code ({ cls := "java/util/ImmutableCollections", name := "listCopy", desc := "(Ljava/util/Collection;)Ljava/util/List;" } : Jvm.MethodName) jdk_56_method_3_code (2 : Nat) (Option.some (Jvm.ClassFile.FieldType.object "java/util/List")), Jvm.Cond.code ({ cls := "com/example/strict_ledger/strictledger/RetryPolicy", name := "allowsAttemptAfter", desc := "(I)Z" } : Jvm.MethodName) prog_22_method_7_code (2 : Nat) (Option.some Jvm.ClassFile.FieldType.boolean), Jvm.Cond.code ({ cls := "com/example/strict_ledger/strictledger/RetryPolicy", name := "getBudget", desc := "()I" } : Jvm.MethodName) prog_22_method_6_code (1 : Nat) (Option.some Jvm.ClassFile.FieldType.int)]
set_option maxRecDepth 65536 in
theorem codes_eq : words1.filter isCode = codes1 := rfl
theorem w_codes : ∀ c ∈ words1.filter isCode, c.before args0 about1 = true := by
  rw [codes_eq]
  intro c hc
  simp only [codes1, List.mem_cons, List.not_mem_nil, or_false] at hc
  rcases hc with rfl | rfl | rfl | rfl | rfl | rfl | rfl | rfl | rfl | rfl | rfl | rfl | rfl | rfl | rfl | rfl | rfl
  · exact w_c0
  · exact w_c1
  · exact w_c2
  · exact w_c3
  · exact w_c4
  · exact w_c5
  · exact w_c6
  · exact w_c7
  · exact w_c8
  · exact w_c9
  · exact w_c10
  · exact w_c11
  · exact w_c12
  · exact w_c13
  · exact w_c14
  · exact w_c15
  · exact w_c16
set_option maxRecDepth 65536 in
theorem w_t1 : (words1.take 24).all (fun c => isCode c || c.before args0 about1) = true := by decide +kernel
set_option maxRecDepth 65536 in
theorem w_t2 : ((words1.drop 24).take 24).all (fun c => isCode c || c.before args0 about1) = true := by decide +kernel
set_option maxRecDepth 65536 in
theorem w_t3 : (((words1.drop 24).drop 24).take 24).all (fun c => isCode c || c.before args0 about1) = true := by decide +kernel
set_option maxRecDepth 65536 in
theorem w_t4 : ((((words1.drop 24).drop 24).drop 24).take 24).all (fun c => isCode c || c.before args0 about1) = true := by decide +kernel
set_option maxRecDepth 65536 in
theorem w_t5 : ((((words1.drop 24).drop 24).drop 24).drop 24).all (fun c => isCode c || c.before args0 about1) = true := by decide +kernel
theorem w_tables : (allAtoms (Jvm.Cond.code x code maxLocals ret :: tables_1)).before args0 about1 = true := by
  rw [allAtoms_all]
  show words1.all (fun c => c.before args0 about1) = true
  refine all_split ?_ w_codes
  rw [← List.take_append_drop 24 words1, List.all_append, w_t1, ← List.take_append_drop 24 (words1.drop 24), List.all_append, w_t2, ← List.take_append_drop 24 ((words1.drop 24).drop 24), List.all_append, w_t3, ← List.take_append_drop 24 (((words1.drop 24).drop 24).drop 24), List.all_append, w_t4, w_t5]
  rfl
set_option maxRecDepth 65536 in
theorem w_rest : rest_1_c.before args0 about1 = true := by decide +kernel
set_option maxRecDepth 65536 in
theorem w_case : (Jvm.Cond.and given_1 narrow_1).before args0 about1 = true := by decide +kernel
theorem w_applies : (headSpec (Jvm.Cond.code x code maxLocals ret :: tables_1) room_1).applies x e0.platform about1 = true :=
  (Spec.applies_iff w_frames).mpr ⟨w_running, w_runnable, w_alone, w_named, w_hears, w_ripe, w_room, w_tables⟩
theorem atStart : AtStart classFile x code maxLocals ret World_1 tables_1 room_1 Calls_1 rest_1 Pre_1 launch0 p0 e0 about1 theMethod args0 below0 :=
  ⟨lists_1, trivial, launch0.admits_env _ _ _, launch0.least_env, fairChoices_fair.cas, fairChoices_fair.clock, w_frames, w_args, w_heap, w_applies, trivial, w_rest, w_case⟩
end start1
theorem witness_1 : WitnessClaimed_1 := ⟨start1.p0, start1.e0, start1.about1, start1.theMethod, start1.args0, start1.below0, start1.atStart⟩
end Jvm.Pilot.@@N@@
