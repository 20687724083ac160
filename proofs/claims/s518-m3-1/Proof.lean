import JvmDerived
import JvmDerived.Pilot.@@N@@Statement
import JvmDerived.Pilot.@@N@@Code
set_option linter.unusedVariables false
set_option linter.unusedSimpArgs false
namespace Jvm.RoadKit
open Sem ClassFile Op Lib Jvm.Stand Jvm.Free Jvm.LawKit
section New
variable {p : Program} {l : Launch} {e : Env} {R : Room} {s : State} {m : MethodId} {args : Array Value} {below : List Frame} {meth : Method} {c : Code} {T : State} {locs : List Loc} {cells slots : Nat}
theorem retI (X : Stand p l e R s m args below meth c T locs cells slots) (hx : p.tables.exec = Jvm.exec) {pc : Nat} {Ls : Array Slot} {z : Int32} {rest : List Value} (hret : meth.sig.returnType = some .int) (hd : decode c.code pc = .ok (.ireturn, 1)) {fs : List Frame}
    (hl : ∀ (f : JFrame) (acts : List Action), f.method = m → f.locked = none → f.entered = [] → (doReturn e (T.setTop f) acts (some (.int z))).1 = T.setFrames fs) : Steps p.tables e below (T.setTop (mkF m pc Ls (.int z :: rest))) (T.setFrames fs) := by
  have hm' : T.vm.method? m = some meth := X.method'
  have hn : narrow .int (.int z) = .int z := rfl
  show Steps p.tables e below (T.setTop { method := m, pc := pc, locals := Ls, stack := _ :: rest, locked := none }) _
  jvm_step X.here [X.here.top, hx, hd, hm', hret, hn]
  first | (intro acts; rw [hl _ acts rfl rfl rfl]) | rw [hl _ _ rfl rfl rfl]
  exact Steps.refl _
end New
/-! the walk's own frame: a goal that is met by going on -/
section Own
variable {tb : Tables} {e : Env} {below : List Frame} {R : State → Outcome → Prop} {U U' T : State}
def own_G (tb : Tables) (e : Env) (below : List Frame) (R : State → Outcome → Prop) (U : State) : Prop := ∃ f o, Steps tb e below U f ∧ R f o
theorem own_pre {g g' : JFrame} (q : g = g') (h : own_G tb e below R (T.setTop g')) : ∃ f o, Steps tb e below (T.setTop g) f ∧ R f o := by rw [q]; exact h
theorem own_go (st : ∀ t, Steps tb e below U' t → Steps tb e below U t) (h : own_G tb e below R U') : own_G tb e below R U := by
  obtain ⟨f, o, h1, h2⟩ := h; exact ⟨f, o, st _ h1, h2⟩
theorem own_out (h : ∃ f o, Steps tb e below U f ∧ R f o) : own_G tb e below R U := h
end Own
section OwnFacts
variable {Z : State} {h h' : Heap} {a : Addr} {ws : List Addr} {C n d : String} {v : Value} {b : Bool}
def own_NS (h : Heap) (a : Addr) : Prop := ∃ c : Cell, h[a]? = some c ∧ c.vm.isStatics = false
theorem own_nsE (F : Exa Z h a C) : own_NS h a := by obtain ⟨c, k, h1, -, -, h4, -⟩ := F; exact ⟨c, h1, h4⟩
theorem own_nsF (F : Fld Z h a C n d v) : own_NS h a := by obtain ⟨c, _, _, _, _, h1, -, -, -, h5, -⟩ := F; exact ⟨c, h1, h5⟩
theorem own_nsV {k : ClassId} {ty : FieldType} {z : Int32} {vs : List Value} {dv : Value} (F : Arv Z h a k ty z vs dv) : own_NS h a := by obtain ⟨c, A, -⟩ := F; exact ⟨c, A.1, A.plain⟩
theorem own_staK (F : Sta Z h C n d v) (K : Keep h h' ws) (q : ∀ x ∈ ws, own_NS h x) : Sta Z h' C n d v := by
  obtain ⟨cf, i, k, f, st, cell, h1, h2, h3, h4, h5, h6, h7⟩ := F
  refine ⟨cf, i, k, f, st, cell, h1, h2, h3, h4, K.2.1 st cell h5 (fun hm => ?_), h6, h7⟩
  obtain ⟨c, e1, e2⟩ := q st hm
  cases h5.symm.trans e1
  rw [e2] at h6; cases h6
theorem own_insK (F : Ins Z h a C b) (K : Keep h h' ws) : Ins Z h' a C b := by
  obtain ⟨cell, cT, h1, h2, h3⟩ := F
  obtain ⟨c', e1, e2, e3, -⟩ := K.2.2 a cell h1
  exact ⟨c', cT, e1, h2, by rw [e2, e3]; exact h3⟩
theorem own_selP {s : State} {args : Array Value} {y : MethodName} {k : Nat} (wi : (Cond.instantiable y.cls k).before args s = true) (wp : (Cond.privateMethod y).before args s = true) (hi : (Cond.instanceMethod y).before args s = true) (hy : y.cls ≠ "java/lang/invoke/MethodHandle" ∧ y.cls ≠ "java/lang/invoke/VarHandle") : (Cond.selects y.cls y y).before args s = true := by
  obtain ⟨c, k, h1, h2, -, h4, -⟩ := Cond.instantiable_spec wi
  exact selects_self_of_private h1 h2 (by simp only [Bool.or_eq_false_iff] at h4; exact h4.1) (Cond.privateMethod_at wp) hi hy
theorem own_xnJ (x : Int64) : (x ^^^ (-1 : Int64)).toInt = -1 - x.toInt := by
  have h : x ^^^ (-1 : Int64) = ~~~ x := by
    rw [← Int64.toBitVec_inj]; simp
  rw [h]
  show (~~~ x.toBitVec).toInt = -1 - x.toBitVec.toInt
  rw [BitVec.toInt_not]
  have h1 := x.toBitVec.isLt
  rw [BitVec.toInt_eq_toNat_bmod]
  simp only [Int.bmod]
  split <;> split <;> omega
theorem own_insLt (F : Ins Z h a C b) : a < h.size := by obtain ⟨_, _, h1, -⟩ := F; exact (Array.getElem?_eq_some_iff.mp h1).1
variable {args : Array Value} {t u : Term} {x : Addr}
theorem own_fldI {k : Int32} (ev : t.eval args Z none [] Z = some (.ref x)) (hh : (Cond.eq (.field t C n d) (.int k)).value args Z none Z [] = some true) : Fld Z Z.heap x C n d (.int k) := by
  refine Fld.start ?_
  obtain ⟨y, w, e1, e2, k1, -⟩ := cmp_v (Or.inl hh)
  cases (Term.int_eval k).symm.trans e2
  rw [fld_at ev] at e1
  cases y <;> simp [Kin, Value.isRef] at k1
  rename_i q
  have e3 : (Term.field t C n d).eval args Z none [] Z = some (.int q) := by rw [fld_at ev]; exact e1
  simp [Cond.value, e3, Term.int_eval] at hh
  rw [e1, hh]
theorem own_fldJ {k : Int64} (ev : t.eval args Z none [] Z = some (.ref x)) (hh : (Cond.eq (.field t C n d) (.long k)).value args Z none Z [] = some true) : Fld Z Z.heap x C n d (.long k) := by
  refine Fld.start ?_
  obtain ⟨y, w, e1, e2, k1, -⟩ := cmp_v (Or.inl hh)
  cases (long_at k).symm.trans e2
  rw [fld_at ev] at e1
  cases y <;> simp [Kin, Value.isRef] at k1
  rename_i q
  have e3 : (Term.field t C n d).eval args Z none [] Z = some (.long q) := by rw [fld_at ev]; exact e1
  have e4 := gotT (eq_L e3 (long_at k)) hh
  rw [e1, e4]
theorem own_fldR {y : Addr} (ev : t.eval args Z none [] Z = some (.ref x)) (e2 : (Term.field t C n d).eval args Z none [] Z = some (.ref y)) : Fld Z Z.heap x C n d (.ref y) := Fld.start (by rw [← fld_at ev]; exact e2)
theorem own_len {cl : Cell} {ty : FieldType} {k : Int32} (ev : t.eval args Z none [] Z = some (.ref x)) (A : Arr Z Z.heap x cl ty) (hh : (Cond.eq (.length t) (.int k)).value args Z none Z [] = some true) : cl.slots.size < 2 ^ 31 ∧ cl.slots.size.toInt32 = k := by
  obtain ⟨y, w, e1, e2, k1, -⟩ := cmp_v (Or.inl hh)
  cases (Term.int_eval k).symm.trans e2
  have hA := A.fin (Vm.Alike.refl _)
  have hl : cl.slots.size < 2 ^ 31 := by
    rcases Nat.lt_or_ge cl.slots.size (2 ^ 31) with q | q
    · exact q
    · simp [Term.eval, ev, hA, Nat.not_lt.mpr q] at e1
  refine ⟨hl, ?_⟩
  have e3 := len_f ev hA hl
  simp [Cond.value, e3, Term.int_eval] at hh
  exact hh
theorem own_elI {cl : Cell} {ty : FieldType} {i k : Int32} (ev : t.eval args Z none [] Z = some (.ref x)) (A : Arr Z Z.heap x cl ty) (hh : (Cond.eq (.elem t (.int i)) (.int k)).value args Z none Z [] = some true) : cl.slots[i.toNatClampNeg]? = some (.int k) := by
  obtain ⟨y, w, e1, e2, k1, -⟩ := cmp_v (Or.inl hh)
  cases (Term.int_eval k).symm.trans e2
  cases y <;> simp [Kin, Value.isRef] at k1
  rename_i q
  simp [Cond.value, e1, Term.int_eval] at hh
  rw [← hh]; exact (elem_in e1 ev (Term.int_eval i) A.1).2
theorem own_elR {cl : Cell} {ty : FieldType} {i : Int32} {y : Addr} (ev : t.eval args Z none [] Z = some (.ref x)) (eu : u.eval args Z none [] Z = some (.ref y)) (A : Arr Z Z.heap x cl ty) (hh : (Cond.eq (.elem t (.int i)) u).value args Z none Z [] = some true) : cl.slots[i.toNatClampNeg]? = some (.ref y) := by
  obtain ⟨p, w, e1, e3, k1, k2⟩ := cmp_v (Or.inl hh)
  cases eu.symm.trans e3
  have k3 := gotT (eq_R e1 eu k2.2 rfl) hh
  rw [← k3]; exact (elem_in e1 ev (Term.int_eval i) A.1).2
theorem own_eqR {y : Addr} (e2 : u.eval args Z none [] Z = some (.ref y)) (hh : (Cond.eq t u).value args Z none Z [] = some true) : t.eval args Z none [] Z = some (.ref y) := by
  obtain ⟨p, w, e1, e3, k1, k2⟩ := cmp_v (Or.inl hh)
  cases e2.symm.trans e3
  have k3 := gotT (eq_R e1 e2 k2.2 rfl) hh
  rw [e1, k3]
end OwnFacts
/-- the cache of Longs: old objects, each with its number -/
def own_LC (Z : State) (h : Heap) (a : Addr) (n : Nat) : Prop := ∃ cl : Cell, Arr Z h a cl (.object "java/lang/Long") ∧ cl.slots.size = (256 : Int32).toNatClampNeg ∧ a < n ∧ ∀ j : Int32, ¬ j < 0 → j < 256 → ∃ b : Addr, cl.slots[j.toNatClampNeg]? = some (.ref b) ∧ b < n ∧ Exa Z h b "java/lang/Long" ∧ Fld Z h b "java/lang/Long" "value" "J" (.long (j - 128).toInt64)
theorem own_LC.keep {Z : State} {h h' : Heap} {a : Addr} {n : Nat} {ws : List Addr} (F : own_LC Z h a n) (K : Keep h h' ws) (q : ∀ x ∈ ws, n ≤ x) : own_LC Z h' a n := by
  obtain ⟨cl, A, S, ha, M⟩ := F
  refine ⟨cl, ⟨K.2.1 a cl A.1 (fun hm => absurd ha (Nat.not_lt.mpr (q a hm))), A.2⟩, S, ha, fun j h0 h1 => ?_⟩
  obtain ⟨b, h2, h3, E, F⟩ := M j h0 h1
  exact ⟨b, h2, h3, E.keep K, F.keep K (fun hm => absurd h3 (Nat.not_lt.mpr (q b hm)))⟩
theorem own_LC.ext {Z : State} {h h' : Heap} {a : Addr} {n : Nat} (F : own_LC Z h a n) (E : Ext h h') : own_LC Z h' a n := F.keep ((Keep.refl h []).ext E) all0
theorem own_lcq {q : Int64} (h1 : ¬ q < (-128 : Int64)) (h2 : ¬ (127 : Int64) < q) : (q.toInt32 + (128 : Int32) - 128).toInt64 = q := by
  have a1 : ¬ q.toInt < -128 := fun e => h1 (Int64.lt_iff_toInt_lt.mpr e)
  have a2 : ¬ 127 < q.toInt := fun e => h2 (Int64.lt_iff_toInt_lt.mpr e)
  refine Int64.toInt_inj.mp ?_
  rw [c_i2l]
  have b1 := c_isub (q.toInt32 + (128 : Int32)) 128; have b2 := c_iadd q.toInt32 128; have b3 := c_l2i q
  have e1 : (128 : Int32).toInt = 128 := by decide
  have r1 := rng32 q.toInt32; have r2 := rng32 (q.toInt32 + (128 : Int32)); have r3 := rng32 (q.toInt32 + (128 : Int32) - 128)
  omega
section OwnLong
open Jvm.Free.XT
variable {x y : Int64}
theorem own_ll_eq_t (h : x = y) : ifCond.holds .eq (lcmpW x y) = true := ll_eq_t h
theorem own_ll_eq_f (h : ¬ x = y) : ifCond.holds .eq (lcmpW x y) = false := ll_eq_f h
theorem own_ll_ne_t (h : ¬ x = y) : ifCond.holds .ne (lcmpW x y) = true := ll_ne_t h
theorem own_ll_ne_f (h : x = y) : ifCond.holds .ne (lcmpW x y) = false := ll_ne_f h
theorem own_ll_lt_t (h : x < y) : ifCond.holds .lt (lcmpW x y) = true := ll_lt_t h
theorem own_ll_lt_f (h : ¬ x < y) : ifCond.holds .lt (lcmpW x y) = false := ll_lt_f h
theorem own_ll_ge_t (h : ¬ x < y) : ifCond.holds .ge (lcmpW x y) = true := ll_ge_t h
theorem own_ll_ge_f (h : x < y) : ifCond.holds .ge (lcmpW x y) = false := ll_ge_f h
theorem own_ll_gt_t (h : y < x) : ifCond.holds .gt (lcmpW x y) = true := ll_gt_t h
theorem own_ll_gt_f (h : ¬ y < x) : ifCond.holds .gt (lcmpW x y) = false := ll_gt_f h
theorem own_ll_le_t (h : ¬ y < x) : ifCond.holds .le (lcmpW x y) = true := ll_le_t h
theorem own_ll_le_f (h : y < x) : ifCond.holds .le (lcmpW x y) = false := ll_le_f h
end OwnLong
section OwnSteps
variable {p : Program} {l : Launch} {e : Env} {R : Room} {s : State} {m : MethodId} {args : Array Value} {below : List Frame} {meth : Method} {c : Code} {T : State} {locs : List Loc} {cells slots : Nat} {bytes : ByteArray} {pc : Nat} {L : Array Slot} {S : List Value} {t : State}

theorem oiload (X : Stand p l e R s m args below meth c T locs cells slots) (hx : p.tables.exec = Jvm.exec) (hby : c.code = bytes) {k : Nat} {v : Int32} (hd : decode bytes pc = .ok (.iload k, 2)) (hl : L[k]? = some (.val (.int v))) (hr : Steps p.tables e below (T.setTop (mkF m (pc + 2) L (.int v :: S))) t) : Steps p.tables e below (T.setTop (mkF m pc L S)) t := XS.iload X.here hx rfl (hb hby hd) hl hr
theorem oiloadN (X : Stand p l e R s m args below meth c T locs cells slots) (hx : p.tables.exec = Jvm.exec) (hby : c.code = bytes) {k : Fin 4} {v : Int32} (hd : decode bytes pc = .ok (.iload_n k, 1)) (hl : L[k.val]? = some (.val (.int v))) (hr : Steps p.tables e below (T.setTop (mkF m (pc + 1) L (.int v :: S))) t) : Steps p.tables e below (T.setTop (mkF m pc L S)) t := XS.iloadN X.here hx rfl (hb hby hd) hl hr
theorem olload (X : Stand p l e R s m args below meth c T locs cells slots) (hx : p.tables.exec = Jvm.exec) (hby : c.code = bytes) {k : Nat} {v : Int64} (hd : decode bytes pc = .ok (.lload k, 2)) (hl : L[k]? = some (.val (.long v))) (hr : Steps p.tables e below (T.setTop (mkF m (pc + 2) L (.long v :: S))) t) : Steps p.tables e below (T.setTop (mkF m pc L S)) t := XS.lload X.here hx rfl (hb hby hd) hl hr
theorem olloadN (X : Stand p l e R s m args below meth c T locs cells slots) (hx : p.tables.exec = Jvm.exec) (hby : c.code = bytes) {k : Fin 4} {v : Int64} (hd : decode bytes pc = .ok (.lload_n k, 1)) (hl : L[k.val]? = some (.val (.long v))) (hr : Steps p.tables e below (T.setTop (mkF m (pc + 1) L (.long v :: S))) t) : Steps p.tables e below (T.setTop (mkF m pc L S)) t := XS.lloadN X.here hx rfl (hb hby hd) hl hr
theorem oaload (X : Stand p l e R s m args below meth c T locs cells slots) (hx : p.tables.exec = Jvm.exec) (hby : c.code = bytes) {k : Nat} {v : Value} (hd : decode bytes pc = .ok (.aload k, 2)) (hl : L[k]? = some (.val v)) (hv : v.isRef = true) (hr : Steps p.tables e below (T.setTop (mkF m (pc + 2) L (v :: S))) t) : Steps p.tables e below (T.setTop (mkF m pc L S)) t := XS.aload X.here hx rfl (hb hby hd) hl hv hr
theorem oaloadN (X : Stand p l e R s m args below meth c T locs cells slots) (hx : p.tables.exec = Jvm.exec) (hby : c.code = bytes) {k : Fin 4} {v : Value} (hd : decode bytes pc = .ok (.aload_n k, 1)) (hl : L[k.val]? = some (.val v)) (hv : v.isRef = true) (hr : Steps p.tables e below (T.setTop (mkF m (pc + 1) L (v :: S))) t) : Steps p.tables e below (T.setTop (mkF m pc L S)) t := XS.aloadN X.here hx rfl (hb hby hd) hl hv hr
theorem oistore (X : Stand p l e R s m args below meth c T locs cells slots) (hx : p.tables.exec = Jvm.exec) (hby : c.code = bytes) {k : Nat} {x : Int32} (hd : decode bytes pc = .ok (.istore k, 2)) (l' : Array Slot) (hl : storeLocals L k (.int x) = some l') (hr : Steps p.tables e below (T.setTop (mkF m (pc + 2) l' S)) t) : Steps p.tables e below (T.setTop (mkF m pc L (.int x :: S))) t := XS.istore X.here hx rfl (hb hby hd) rfl hl hr
theorem oistoreN (X : Stand p l e R s m args below meth c T locs cells slots) (hx : p.tables.exec = Jvm.exec) (hby : c.code = bytes) {k : Fin 4} {x : Int32} (hd : decode bytes pc = .ok (.istore_n k, 1)) (l' : Array Slot) (hl : storeLocals L k.val (.int x) = some l') (hr : Steps p.tables e below (T.setTop (mkF m (pc + 1) l' S)) t) : Steps p.tables e below (T.setTop (mkF m pc L (.int x :: S))) t := XS.istoreN X.here hx rfl (hb hby hd) rfl hl hr
theorem olstore (X : Stand p l e R s m args below meth c T locs cells slots) (hx : p.tables.exec = Jvm.exec) (hby : c.code = bytes) {k : Nat} {x : Int64} (hd : decode bytes pc = .ok (.lstore k, 2)) (l' : Array Slot) (hl : storeLocals L k (.long x) = some l') (hr : Steps p.tables e below (T.setTop (mkF m (pc + 2) l' S)) t) : Steps p.tables e below (T.setTop (mkF m pc L (.long x :: S))) t := XS.lstore X.here hx rfl (hb hby hd) rfl hl hr
theorem olstoreN (X : Stand p l e R s m args below meth c T locs cells slots) (hx : p.tables.exec = Jvm.exec) (hby : c.code = bytes) {k : Fin 4} {x : Int64} (hd : decode bytes pc = .ok (.lstore_n k, 1)) (l' : Array Slot) (hl : storeLocals L k.val (.long x) = some l') (hr : Steps p.tables e below (T.setTop (mkF m (pc + 1) l' S)) t) : Steps p.tables e below (T.setTop (mkF m pc L (.long x :: S))) t := XS.lstoreN X.here hx rfl (hb hby hd) rfl hl hr
theorem oastore (X : Stand p l e R s m args below meth c T locs cells slots) (hx : p.tables.exec = Jvm.exec) (hby : c.code = bytes) {k : Nat} {x : Value} (hd : decode bytes pc = .ok (.astore k, 2)) (l' : Array Slot) (hv : x.isRef = true) (hl : storeLocals L k x = some l') (hr : Steps p.tables e below (T.setTop (mkF m (pc + 2) l' S)) t) : Steps p.tables e below (T.setTop (mkF m pc L (x :: S))) t := XS.astore X.here hx rfl (hb hby hd) rfl hv hl hr
theorem oastoreN (X : Stand p l e R s m args below meth c T locs cells slots) (hx : p.tables.exec = Jvm.exec) (hby : c.code = bytes) {k : Fin 4} {x : Value} (hd : decode bytes pc = .ok (.astore_n k, 1)) (l' : Array Slot) (hv : x.isRef = true) (hl : storeLocals L k.val x = some l') (hr : Steps p.tables e below (T.setTop (mkF m (pc + 1) l' S)) t) : Steps p.tables e below (T.setTop (mkF m pc L (x :: S))) t := XS.astoreN X.here hx rfl (hb hby hd) rfl hv hl hr
theorem oiconst (X : Stand p l e R s m args below meth c T locs cells slots) (hx : p.tables.exec = Jvm.exec) (hby : c.code = bytes) {i : Int} (hd : decode bytes pc = .ok (.iconst i, 1)) (hr : Steps p.tables e below (T.setTop (mkF m (pc + 1) L (.int (Int32.ofInt i) :: S))) t) : Steps p.tables e below (T.setTop (mkF m pc L S)) t := XS.iconst X.here hx rfl (hb hby hd) hr
theorem obipush (X : Stand p l e R s m args below meth c T locs cells slots) (hx : p.tables.exec = Jvm.exec) (hby : c.code = bytes) {i : Int} (hd : decode bytes pc = .ok (.bipush i, 2)) (hr : Steps p.tables e below (T.setTop (mkF m (pc + 2) L (.int (Int8.ofInt i).toInt32 :: S))) t) : Steps p.tables e below (T.setTop (mkF m pc L S)) t := XS.bipush X.here hx rfl (hb hby hd) hr
theorem osipush (X : Stand p l e R s m args below meth c T locs cells slots) (hx : p.tables.exec = Jvm.exec) (hby : c.code = bytes) {i : Int} (hd : decode bytes pc = .ok (.sipush i, 3)) (hr : Steps p.tables e below (T.setTop (mkF m (pc + 3) L (.int (Int16.ofInt i).toInt32 :: S))) t) : Steps p.tables e below (T.setTop (mkF m pc L S)) t := XS.sipush X.here hx rfl (hb hby hd) hr
theorem olconst (X : Stand p l e R s m args below meth c T locs cells slots) (hx : p.tables.exec = Jvm.exec) (hby : c.code = bytes) {k : Fin 2} (hd : decode bytes pc = .ok (.lconst k, 1)) (hr : Steps p.tables e below (T.setTop (mkF m (pc + 1) L (.long (Int64.ofNat k) :: S))) t) : Steps p.tables e below (T.setTop (mkF m pc L S)) t := XS.lconst X.here hx rfl (hb hby hd) hr
theorem onull (X : Stand p l e R s m args below meth c T locs cells slots) (hx : p.tables.exec = Jvm.exec) (hby : c.code = bytes) (hd : decode bytes pc = .ok (.aconst_null, 1)) (hr : Steps p.tables e below (T.setTop (mkF m (pc + 1) L (.null :: S))) t) : Steps p.tables e below (T.setTop (mkF m pc L S)) t := XS.aconstNull X.here hx rfl (hb hby hd) hr
theorem oiadd (X : Stand p l e R s m args below meth c T locs cells slots) (hx : p.tables.exec = Jvm.exec) (hby : c.code = bytes) {x y : Int32} (hd : decode bytes pc = .ok (.iadd, 1)) (hr : Steps p.tables e below (T.setTop (mkF m (pc + 1) L (.int (x + y) :: S))) t) : Steps p.tables e below (T.setTop (mkF m pc L (.int y :: .int x :: S))) t := XS.iadd X.here hx rfl (hb hby hd) rfl hr
theorem oladd (X : Stand p l e R s m args below meth c T locs cells slots) (hx : p.tables.exec = Jvm.exec) (hby : c.code = bytes) {x y : Int64} (hd : decode bytes pc = .ok (.ladd, 1)) (hr : Steps p.tables e below (T.setTop (mkF m (pc + 1) L (.long (x + y) :: S))) t) : Steps p.tables e below (T.setTop (mkF m pc L (.long y :: .long x :: S))) t := XS.ladd X.here hx rfl (hb hby hd) rfl hr
theorem oisub (X : Stand p l e R s m args below meth c T locs cells slots) (hx : p.tables.exec = Jvm.exec) (hby : c.code = bytes) {x y : Int32} (hd : decode bytes pc = .ok (.isub, 1)) (hr : Steps p.tables e below (T.setTop (mkF m (pc + 1) L (.int (x - y) :: S))) t) : Steps p.tables e below (T.setTop (mkF m pc L (.int y :: .int x :: S))) t := XS.isub X.here hx rfl (hb hby hd) rfl hr
theorem olsub (X : Stand p l e R s m args below meth c T locs cells slots) (hx : p.tables.exec = Jvm.exec) (hby : c.code = bytes) {x y : Int64} (hd : decode bytes pc = .ok (.lsub, 1)) (hr : Steps p.tables e below (T.setTop (mkF m (pc + 1) L (.long (x - y) :: S))) t) : Steps p.tables e below (T.setTop (mkF m pc L (.long y :: .long x :: S))) t := XS.lsub X.here hx rfl (hb hby hd) rfl hr
theorem oimul (X : Stand p l e R s m args below meth c T locs cells slots) (hx : p.tables.exec = Jvm.exec) (hby : c.code = bytes) {x y : Int32} (hd : decode bytes pc = .ok (.imul, 1)) (hr : Steps p.tables e below (T.setTop (mkF m (pc + 1) L (.int (x * y) :: S))) t) : Steps p.tables e below (T.setTop (mkF m pc L (.int y :: .int x :: S))) t := XS.imul X.here hx rfl (hb hby hd) rfl hr
theorem olmul (X : Stand p l e R s m args below meth c T locs cells slots) (hx : p.tables.exec = Jvm.exec) (hby : c.code = bytes) {x y : Int64} (hd : decode bytes pc = .ok (.lmul, 1)) (hr : Steps p.tables e below (T.setTop (mkF m (pc + 1) L (.long (x * y) :: S))) t) : Steps p.tables e below (T.setTop (mkF m pc L (.long y :: .long x :: S))) t := XS.lmul X.here hx rfl (hb hby hd) rfl hr
theorem oiand (X : Stand p l e R s m args below meth c T locs cells slots) (hx : p.tables.exec = Jvm.exec) (hby : c.code = bytes) {x y : Int32} (hd : decode bytes pc = .ok (.iand, 1)) (hr : Steps p.tables e below (T.setTop (mkF m (pc + 1) L (.int (x &&& y) :: S))) t) : Steps p.tables e below (T.setTop (mkF m pc L (.int y :: .int x :: S))) t := XS.iand X.here hx rfl (hb hby hd) rfl hr
theorem oland (X : Stand p l e R s m args below meth c T locs cells slots) (hx : p.tables.exec = Jvm.exec) (hby : c.code = bytes) {x y : Int64} (hd : decode bytes pc = .ok (.land, 1)) (hr : Steps p.tables e below (T.setTop (mkF m (pc + 1) L (.long (x &&& y) :: S))) t) : Steps p.tables e below (T.setTop (mkF m pc L (.long y :: .long x :: S))) t := XS.land X.here hx rfl (hb hby hd) rfl hr
theorem oior (X : Stand p l e R s m args below meth c T locs cells slots) (hx : p.tables.exec = Jvm.exec) (hby : c.code = bytes) {x y : Int32} (hd : decode bytes pc = .ok (.ior, 1)) (hr : Steps p.tables e below (T.setTop (mkF m (pc + 1) L (.int (x ||| y) :: S))) t) : Steps p.tables e below (T.setTop (mkF m pc L (.int y :: .int x :: S))) t := XS.ior X.here hx rfl (hb hby hd) rfl hr
theorem olor (X : Stand p l e R s m args below meth c T locs cells slots) (hx : p.tables.exec = Jvm.exec) (hby : c.code = bytes) {x y : Int64} (hd : decode bytes pc = .ok (.lor, 1)) (hr : Steps p.tables e below (T.setTop (mkF m (pc + 1) L (.long (x ||| y) :: S))) t) : Steps p.tables e below (T.setTop (mkF m pc L (.long y :: .long x :: S))) t := XS.lor X.here hx rfl (hb hby hd) rfl hr
theorem oixor (X : Stand p l e R s m args below meth c T locs cells slots) (hx : p.tables.exec = Jvm.exec) (hby : c.code = bytes) {x y : Int32} (hd : decode bytes pc = .ok (.ixor, 1)) (hr : Steps p.tables e below (T.setTop (mkF m (pc + 1) L (.int (x ^^^ y) :: S))) t) : Steps p.tables e below (T.setTop (mkF m pc L (.int y :: .int x :: S))) t := XS.ixor X.here hx rfl (hb hby hd) rfl hr
theorem olxor (X : Stand p l e R s m args below meth c T locs cells slots) (hx : p.tables.exec = Jvm.exec) (hby : c.code = bytes) {x y : Int64} (hd : decode bytes pc = .ok (.lxor, 1)) (hr : Steps p.tables e below (T.setTop (mkF m (pc + 1) L (.long (x ^^^ y) :: S))) t) : Steps p.tables e below (T.setTop (mkF m pc L (.long y :: .long x :: S))) t := XS.lxor X.here hx rfl (hb hby hd) rfl hr
theorem oishl (X : Stand p l e R s m args below meth c T locs cells slots) (hx : p.tables.exec = Jvm.exec) (hby : c.code = bytes) {x y : Int32} (hd : decode bytes pc = .ok (.ishl, 1)) (hr : Steps p.tables e below (T.setTop (mkF m (pc + 1) L (.int (x <<< (y &&& 31)) :: S))) t) : Steps p.tables e below (T.setTop (mkF m pc L (.int y :: .int x :: S))) t := XS.ishl X.here hx rfl (hb hby hd) rfl hr
theorem oishr (X : Stand p l e R s m args below meth c T locs cells slots) (hx : p.tables.exec = Jvm.exec) (hby : c.code = bytes) {x y : Int32} (hd : decode bytes pc = .ok (.ishr, 1)) (hr : Steps p.tables e below (T.setTop (mkF m (pc + 1) L (.int (x >>> (y &&& 31)) :: S))) t) : Steps p.tables e below (T.setTop (mkF m pc L (.int y :: .int x :: S))) t := XS.ishr X.here hx rfl (hb hby hd) rfl hr
theorem oiushr (X : Stand p l e R s m args below meth c T locs cells slots) (hx : p.tables.exec = Jvm.exec) (hby : c.code = bytes) {x y : Int32} (hd : decode bytes pc = .ok (.iushr, 1)) (hr : Steps p.tables e below (T.setTop (mkF m (pc + 1) L (.int ((x.toUInt32 >>> (y &&& 31).toUInt32).toInt32) :: S))) t) : Steps p.tables e below (T.setTop (mkF m pc L (.int y :: .int x :: S))) t := XS.iushr X.here hx rfl (hb hby hd) rfl hr
theorem olshl (X : Stand p l e R s m args below meth c T locs cells slots) (hx : p.tables.exec = Jvm.exec) (hby : c.code = bytes) {x : Int64} {y : Int32} (hd : decode bytes pc = .ok (.lshl, 1)) (hr : Steps p.tables e below (T.setTop (mkF m (pc + 1) L (.long (x <<< (y &&& 0x3f).toInt64) :: S))) t) : Steps p.tables e below (T.setTop (mkF m pc L (.int y :: .long x :: S))) t := XS.lshl X.here hx rfl (hb hby hd) rfl hr
theorem olshr (X : Stand p l e R s m args below meth c T locs cells slots) (hx : p.tables.exec = Jvm.exec) (hby : c.code = bytes) {x : Int64} {y : Int32} (hd : decode bytes pc = .ok (.lshr, 1)) (hr : Steps p.tables e below (T.setTop (mkF m (pc + 1) L (.long (x >>> (y &&& 0x3f).toInt64) :: S))) t) : Steps p.tables e below (T.setTop (mkF m pc L (.int y :: .long x :: S))) t := XS.lshr X.here hx rfl (hb hby hd) rfl hr
theorem olushr (X : Stand p l e R s m args below meth c T locs cells slots) (hx : p.tables.exec = Jvm.exec) (hby : c.code = bytes) {x : Int64} {y : Int32} (hd : decode bytes pc = .ok (.lushr, 1)) (hr : Steps p.tables e below (T.setTop (mkF m (pc + 1) L (.long ((x.toUInt64 >>> (y &&& 0x3f).toInt64.toUInt64).toInt64) :: S))) t) : Steps p.tables e below (T.setTop (mkF m pc L (.int y :: .long x :: S))) t := XS.lushr X.here hx rfl (hb hby hd) rfl hr
theorem oineg (X : Stand p l e R s m args below meth c T locs cells slots) (hx : p.tables.exec = Jvm.exec) (hby : c.code = bytes) {x : Int32} (hd : decode bytes pc = .ok (.ineg, 1)) (hr : Steps p.tables e below (T.setTop (mkF m (pc + 1) L ((.int (-x)) :: S))) t) : Steps p.tables e below (T.setTop (mkF m pc L (.int x :: S))) t := XS.ineg X.here hx rfl (hb hby hd) rfl hr
theorem olneg (X : Stand p l e R s m args below meth c T locs cells slots) (hx : p.tables.exec = Jvm.exec) (hby : c.code = bytes) {x : Int64} (hd : decode bytes pc = .ok (.lneg, 1)) (hr : Steps p.tables e below (T.setTop (mkF m (pc + 1) L ((.long (-x)) :: S))) t) : Steps p.tables e below (T.setTop (mkF m pc L (.long x :: S))) t := XS.lneg X.here hx rfl (hb hby hd) rfl hr
theorem oi2l (X : Stand p l e R s m args below meth c T locs cells slots) (hx : p.tables.exec = Jvm.exec) (hby : c.code = bytes) {x : Int32} (hd : decode bytes pc = .ok (.i2l, 1)) (hr : Steps p.tables e below (T.setTop (mkF m (pc + 1) L ((.long (x.toInt64)) :: S))) t) : Steps p.tables e below (T.setTop (mkF m pc L (.int x :: S))) t := XS.i2l X.here hx rfl (hb hby hd) rfl hr
theorem ol2i (X : Stand p l e R s m args below meth c T locs cells slots) (hx : p.tables.exec = Jvm.exec) (hby : c.code = bytes) {x : Int64} (hd : decode bytes pc = .ok (.l2i, 1)) (hr : Steps p.tables e below (T.setTop (mkF m (pc + 1) L ((.int (x.toInt32)) :: S))) t) : Steps p.tables e below (T.setTop (mkF m pc L (.long x :: S))) t := XS.l2i X.here hx rfl (hb hby hd) rfl hr
theorem oi2b (X : Stand p l e R s m args below meth c T locs cells slots) (hx : p.tables.exec = Jvm.exec) (hby : c.code = bytes) {x : Int32} (hd : decode bytes pc = .ok (.i2b, 1)) (hr : Steps p.tables e below (T.setTop (mkF m (pc + 1) L ((.int (x.toInt8.toInt32)) :: S))) t) : Steps p.tables e below (T.setTop (mkF m pc L (.int x :: S))) t := XS.i2b X.here hx rfl (hb hby hd) rfl hr
theorem oi2s (X : Stand p l e R s m args below meth c T locs cells slots) (hx : p.tables.exec = Jvm.exec) (hby : c.code = bytes) {x : Int32} (hd : decode bytes pc = .ok (.i2s, 1)) (hr : Steps p.tables e below (T.setTop (mkF m (pc + 1) L ((.int (x.toInt16.toInt32)) :: S))) t) : Steps p.tables e below (T.setTop (mkF m pc L (.int x :: S))) t := XS.i2s X.here hx rfl (hb hby hd) rfl hr
theorem oi2c (X : Stand p l e R s m args below meth c T locs cells slots) (hx : p.tables.exec = Jvm.exec) (hby : c.code = bytes) {x : Int32} (hd : decode bytes pc = .ok (.i2c, 1)) (hr : Steps p.tables e below (T.setTop (mkF m (pc + 1) L ((.int (x.toUInt32.toUInt16.toUInt32.toInt32)) :: S))) t) : Steps p.tables e below (T.setTop (mkF m pc L (.int x :: S))) t := XS.i2c X.here hx rfl (hb hby hd) rfl hr
theorem oirem (X : Stand p l e R s m args below meth c T locs cells slots) (hx : p.tables.exec = Jvm.exec) (hby : c.code = bytes) {x y : Int32} (hd : decode bytes pc = .ok (.irem, 1)) (hy : y ≠ 0) (hr : Steps p.tables e below (T.setTop (mkF m (pc + 1) L (.int (x % y) :: S))) t) : Steps p.tables e below (T.setTop (mkF m pc L (.int y :: .int x :: S))) t := iremM X hx rfl (hb hby hd) rfl hy hr
theorem oidiv (X : Stand p l e R s m args below meth c T locs cells slots) (hx : p.tables.exec = Jvm.exec) (hby : c.code = bytes) {x y : Int32} (hd : decode bytes pc = .ok (.idiv, 1)) (hy : y ≠ 0) (hr : Steps p.tables e below (T.setTop (mkF m (pc + 1) L (.int (x / y) :: S))) t) : Steps p.tables e below (T.setTop (mkF m pc L (.int y :: .int x :: S))) t := XS.idiv X.here hx rfl (hb hby hd) rfl hy hr
theorem oldiv (X : Stand p l e R s m args below meth c T locs cells slots) (hx : p.tables.exec = Jvm.exec) (hby : c.code = bytes) {x y : Int64} (hd : decode bytes pc = .ok (.ldiv, 1)) (hy : y ≠ 0) (hr : Steps p.tables e below (T.setTop (mkF m (pc + 1) L (.long (x / y) :: S))) t) : Steps p.tables e below (T.setTop (mkF m pc L (.long y :: .long x :: S))) t := XS.ldiv X.here hx rfl (hb hby hd) rfl hy hr
theorem olrem (X : Stand p l e R s m args below meth c T locs cells slots) (hx : p.tables.exec = Jvm.exec) (hby : c.code = bytes) {x y : Int64} (hd : decode bytes pc = .ok (.lrem, 1)) (hy : y ≠ 0) (hr : Steps p.tables e below (T.setTop (mkF m (pc + 1) L (.long (x - (x / y) * y) :: S))) t) : Steps p.tables e below (T.setTop (mkF m pc L (.long y :: .long x :: S))) t := XS.lrem X.here hx rfl (hb hby hd) rfl hy hr
theorem olcmp (X : Stand p l e R s m args below meth c T locs cells slots) (hx : p.tables.exec = Jvm.exec) (hby : c.code = bytes) {x y : Int64} (hd : decode bytes pc = .ok (.lcmp, 1)) (hr : Steps p.tables e below (T.setTop (mkF m (pc + 1) L (.int (lcmpW x y) :: S))) t) : Steps p.tables e below (T.setTop (mkF m pc L (.long y :: .long x :: S))) t := XS.lcmp X.here hx rfl (hb hby hd) rfl hr
theorem oiinc (X : Stand p l e R s m args below meth c T locs cells slots) (hx : p.tables.exec = Jvm.exec) (hby : c.code = bytes) {k : Nat} {z : Int} {x : Int32} (hd : decode bytes pc = .ok (.iinc k z, 3)) (l' : Array Slot) (hl : L[k]? = some (.val (.int x))) (hl' : storeLocals L k (.int (x + Int32.ofInt z)) = some l') (hr : Steps p.tables e below (T.setTop (mkF m (pc + 3) l' S)) t) : Steps p.tables e below (T.setTop (mkF m pc L S)) t := XS.iinc X.here hx rfl (hb hby hd) hl hl' hr
theorem odup (X : Stand p l e R s m args below meth c T locs cells slots) (hx : p.tables.exec = Jvm.exec) (hby : c.code = bytes) {x : Value} (hd : decode bytes pc = .ok (.dup, 1)) (hc : x.category = 1) (hr : Steps p.tables e below (T.setTop (mkF m (pc + 1) L (x :: x :: S))) t) : Steps p.tables e below (T.setTop (mkF m pc L (x :: S))) t := XS.dup X.here hx rfl (hb hby hd) rfl hc hr
theorem opop (X : Stand p l e R s m args below meth c T locs cells slots) (hx : p.tables.exec = Jvm.exec) (hby : c.code = bytes) {x : Value} (hd : decode bytes pc = .ok (.pop, 1)) (hc : x.category = 1) (hr : Steps p.tables e below (T.setTop (mkF m (pc + 1) L S)) t) : Steps p.tables e below (T.setTop (mkF m pc L (x :: S))) t := XS.pop X.here hx rfl (hb hby hd) rfl hc hr
theorem odupx1 (X : Stand p l e R s m args below meth c T locs cells slots) (hx : p.tables.exec = Jvm.exec) (hby : c.code = bytes) {x y : Value} (hd : decode bytes pc = .ok (.dup_x1, 1)) (hc : x.category = 1) (hc' : y.category = 1) (hr : Steps p.tables e below (T.setTop (mkF m (pc + 1) L (x :: y :: x :: S))) t) : Steps p.tables e below (T.setTop (mkF m pc L (x :: y :: S))) t := XS.dupX1 X.here hx rfl (hb hby hd) rfl hc hc' hr
theorem odup2 (X : Stand p l e R s m args below meth c T locs cells slots) (hx : p.tables.exec = Jvm.exec) (hby : c.code = bytes) {x y : Value} (hd : decode bytes pc = .ok (.dup2, 1)) (hc : x.category = 1) (hc' : y.category = 1) (hr : Steps p.tables e below (T.setTop (mkF m (pc + 1) L (x :: y :: x :: y :: S))) t) : Steps p.tables e below (T.setTop (mkF m pc L (x :: y :: S))) t := Jvm.Free.XT.dup2 X.here hx rfl (hb hby hd) rfl hc hc' hr
theorem ogoto (X : Stand p l e R s m args below meth c T locs cells slots) (hx : p.tables.exec = Jvm.exec) (hby : c.code = bytes) {o : Int} (hd : decode bytes pc = .ok (.goto o, 3)) (pc' : Nat) (hp : 0 ≤ (pc : Int) + o ∧ ((pc : Int) + o).toNat = pc') (hr : Steps p.tables e below (T.setTop (mkF m pc' L S)) t) : Steps p.tables e below (T.setTop (mkF m pc L S)) t := XS.goto X.here hx rfl rfl (hb hby hd) hp.1 hp.2 hr
theorem oifY (X : Stand p l e R s m args below meth c T locs cells slots) (hx : p.tables.exec = Jvm.exec) (hby : c.code = bytes) {cd : ClassFile.Cond} {x : Int32} {o : Int} (hd : decode bytes pc = .ok (.ifCond cd o, 3)) (pc' : Nat) (hc : ifCond.holds cd x = true) (hp : 0 ≤ (pc : Int) + o ∧ ((pc : Int) + o).toNat = pc') (hr : Steps p.tables e below (T.setTop (mkF m pc' L S)) t) : Steps p.tables e below (T.setTop (mkF m pc L (.int x :: S))) t := XS.ifYes X.here hx rfl rfl (hb hby hd) rfl hc hp.1 hp.2 hr
theorem oifN (X : Stand p l e R s m args below meth c T locs cells slots) (hx : p.tables.exec = Jvm.exec) (hby : c.code = bytes) {cd : ClassFile.Cond} {x : Int32} {o : Int} (hd : decode bytes pc = .ok (.ifCond cd o, 3)) (hc : ifCond.holds cd x = false) (hr : Steps p.tables e below (T.setTop (mkF m (pc + 3) L S)) t) : Steps p.tables e below (T.setTop (mkF m pc L (.int x :: S))) t := XS.ifNo X.here hx rfl (hb hby hd) rfl hc hr
theorem oicY (X : Stand p l e R s m args below meth c T locs cells slots) (hx : p.tables.exec = Jvm.exec) (hby : c.code = bytes) {cd : ClassFile.Cond} {x y : Int32} {o : Int} (hd : decode bytes pc = .ok (.if_icmp cd o, 3)) (pc' : Nat) (hc : if_icmp.holds cd x y = true) (hp : 0 ≤ (pc : Int) + o ∧ ((pc : Int) + o).toNat = pc') (hr : Steps p.tables e below (T.setTop (mkF m pc' L S)) t) : Steps p.tables e below (T.setTop (mkF m pc L (.int y :: .int x :: S))) t := XS.icmpYes X.here hx rfl rfl (hb hby hd) rfl hc hp.1 hp.2 hr
theorem oicN (X : Stand p l e R s m args below meth c T locs cells slots) (hx : p.tables.exec = Jvm.exec) (hby : c.code = bytes) {cd : ClassFile.Cond} {x y : Int32} {o : Int} (hd : decode bytes pc = .ok (.if_icmp cd o, 3)) (hc : if_icmp.holds cd x y = false) (hr : Steps p.tables e below (T.setTop (mkF m (pc + 3) L S)) t) : Steps p.tables e below (T.setTop (mkF m pc L (.int y :: .int x :: S))) t := XS.icmpNo X.here hx rfl (hb hby hd) rfl hc hr
theorem oacmp (X : Stand p l e R s m args below meth c T locs cells slots) (hx : p.tables.exec = Jvm.exec) (hby : c.code = bytes) {cd : ACond} {x y : Value} {o : Int} (hd : decode bytes pc = .ok (.if_acmp cd o, 3)) (pc' : Nat) {same : Bool} (h1 : x.isRef = true) (h2 : y.isRef = true) (hq : decide (x = y) = same) (hp : 0 ≤ (pc : Int) + o ∧ pc' = if acV cd same = true then ((pc : Int) + o).toNat else pc + 3) (hr : Steps p.tables e below (T.setTop (mkF m pc' L S)) t) : Steps p.tables e below (T.setTop (mkF m pc L (y :: x :: S))) t := Jvm.RoadKit.acmp X hx rfl h1 h2 rfl (hb hby hd) rfl hq hp.1 hp.2 hr
theorem onlY (X : Stand p l e R s m args below meth c T locs cells slots) (hx : p.tables.exec = Jvm.exec) (hby : c.code = bytes) {o : Int} (hd : decode bytes pc = .ok (.ifnull o, 3)) (pc' : Nat) (hp : 0 ≤ (pc : Int) + o ∧ ((pc : Int) + o).toNat = pc') (hr : Steps p.tables e below (T.setTop (mkF m pc' L S)) t) : Steps p.tables e below (T.setTop (mkF m pc L (.null :: S))) t := XS.ifnullYes X.here hx rfl rfl (hb hby hd) rfl hp.1 hp.2 hr
theorem onlN (X : Stand p l e R s m args below meth c T locs cells slots) (hx : p.tables.exec = Jvm.exec) (hby : c.code = bytes) {o : Int} {a : Addr} (hd : decode bytes pc = .ok (.ifnull o, 3)) (hr : Steps p.tables e below (T.setTop (mkF m (pc + 3) L S)) t) : Steps p.tables e below (T.setTop (mkF m pc L (.ref a :: S))) t := XS.ifnullNo X.here hx rfl (hb hby hd) rfl hr
theorem onnY (X : Stand p l e R s m args below meth c T locs cells slots) (hx : p.tables.exec = Jvm.exec) (hby : c.code = bytes) {o : Int} {a : Addr} (hd : decode bytes pc = .ok (.ifnonnull o, 3)) (pc' : Nat) (hp : 0 ≤ (pc : Int) + o ∧ ((pc : Int) + o).toNat = pc') (hr : Steps p.tables e below (T.setTop (mkF m pc' L S)) t) : Steps p.tables e below (T.setTop (mkF m pc L (.ref a :: S))) t := XS.ifnonnullYes X.here hx rfl rfl (hb hby hd) rfl hp.1 hp.2 hr
theorem onnN (X : Stand p l e R s m args below meth c T locs cells slots) (hx : p.tables.exec = Jvm.exec) (hby : c.code = bytes) {o : Int} (hd : decode bytes pc = .ok (.ifnonnull o, 3)) (hr : Steps p.tables e below (T.setTop (mkF m (pc + 3) L S)) t) : Steps p.tables e below (T.setTop (mkF m pc L (.null :: S))) t := XS.ifnonnullNo X.here hx rfl (hb hby hd) rfl hr
end OwnSteps
section OwnCalls
variable {p : Program} {l : Launch} {e : Env} {R : Room} {s : State} {m : MethodId} {args : Array Value} {below : List Frame} {meth : Method} {c : Code} {T : State} {locs : List Loc} {cells slots : Nat} {Z : State} {a0 : Array Value} {h : Heap} {bytes : ByteArray}
theorem ocallS (X : Stand p l e R s m args below meth c T locs cells slots) (hx : p.tables.exec = Jvm.exec) (hZ : Z.Warmed39 s.vm) {cb : ByteArray} {maxL : Nat} {ret : Option FieldType} {rm : Room} {Q : Option Value → Heap → List Loc → Prop} {argsL rest : List Value} {index : Nat} {own : String} (y : MethodName) (hown : s.vm.findClass own = some m.cls) (w1 : (Cond.methodLink own index y).before a0 Z = true) (w2 : (Cond.static y).before a0 Z = true) (hy : y.cls ≠ "java/lang/invoke/MethodHandle" ∧ y.cls ≠ "java/lang/invoke/VarHandle") (w5 : (Cond.code y cb maxL ret).before a0 Z = true) (w6 : (Cond.initialized y.cls).before a0 Z = true) (eT : T.heap = h) (hM : MetFree l y (head1 [Cond.code y cb maxL ret] rm) (fun a U => a = argsL.toArray ∧ Z.Warmed39 U.vm ∧ U.heap = h) (fun _ _ _ _ _ => True) (fun _ U o U' => ∃ v L, o = .returned v ∧ Q v U'.heap L ∧ FrameEnd U o U' L rm.cells rm.slots)) {st : List Value} (hst : st = argsL.reverse ++ rest) (W : Nat) (hW : (rest.map fun v => v.category).sum = W) (hroom : rm.frames + 1 ≤ R.frames ∧ W + (maxL + 11) + rm.locals ≤ R.locals ∧ cells + rm.cells ≤ R.cells ∧ slots + rm.slots ≤ R.slots) {pc : Nat} {Ls : Array Slot} {nl : Nat} (hml : c.maxLocals = nl) (hsz : Ls.size = nl) (hlen : ∀ sig, parseMethodDescriptor y.desc = some sig → argsL.length = sig.parameters.length) (hd : decode bytes pc = .ok (.invokestatic index, 3)) (hby : c.code = bytes) : ∃ v T' L, Stand p l e R s m args below meth c T' (locs ++ L) (cells + rm.cells) (slots + rm.slots) ∧ Q v T'.heap L ∧ ∀ t, Steps p.tables e below (T'.setTop (mkF m (pc + 3) Ls (v.toList ++ rest))) t → Steps p.tables e below (T.setTop (mkF m pc Ls st)) t := by
  subst hst
  obtain ⟨_, _, ⟨T1, L1, k1, n1⟩, -, X1, ⟨Lc1, hQ1, l1, y1, z1⟩, st1⟩ := Jvm.LawKit.callS X hx hown (mvT hZ w1) (mvT hZ w2) (mvT hZ w6) (mvT hZ w5) hy (backOf (W := W) hM hZ w5 w6 hroom.1 hroom.2.1) (g := mkF m pc Ls (argsL.reverse ++ rest)) rfl (hsz.trans hml.symm) (argsL := argsL) (rest := rest) hlen rfl (by show 2 * 0 + _ ≤ _; rw [Nat.mul_zero, Nat.zero_add]; exact Nat.le_of_eq hW) (hb hby hd) (fun _ _ => ⟨rfl, eT, hroom.2.2.1, hroom.2.2.2⟩)
  dsimp only [Pt.U, Pt.locs, Pt.cells, Pt.slots] at X1 l1 y1 z1 st1 hQ1
  subst l1 y1 z1
  exact ⟨_, _, _, X1, hQ1, st1⟩
theorem ocallI (X : Stand p l e R s m args below meth c T locs cells slots) (hx : p.tables.exec = Jvm.exec) (hZ : Z.Warmed39 s.vm) {cb : ByteArray} {maxL : Nat} {rm : Room} {Q : Option Value → Heap → List Loc → Prop} {argsL rest : List Value} {index : Nat} {own : String} (y : MethodName) (hn : y.name = "<init>") (hown : s.vm.findClass own = some m.cls) (w1 : (Cond.methodLink own index y).before a0 Z = true) (w2 : (Cond.instanceMethod y).before a0 Z = true) (hy : y.cls ≠ "java/lang/invoke/MethodHandle" ∧ y.cls ≠ "java/lang/invoke/VarHandle") (w5 : (Cond.code y cb maxL none).before a0 Z = true) (w6 : (Cond.initialized y.cls).before a0 Z = true) (eT : T.heap = h) {b : Addr} (hM : MetFree l y (head1 [Cond.code y cb maxL none] rm) (fun a U => a = (.ref b :: argsL).toArray ∧ Z.Warmed39 U.vm ∧ U.heap = h) (fun _ _ _ _ _ => True) (fun _ U o U' => ∃ v L, o = .returned v ∧ Q v U'.heap L ∧ FrameEnd U o U' L rm.cells rm.slots)) {st : List Value} (hst : st = argsL.reverse ++ .ref b :: rest) (W : Nat) (hW : (rest.map fun v => v.category).sum = W) (hroom : rm.frames + 1 ≤ R.frames ∧ W + (maxL + 11) + rm.locals ≤ R.locals ∧ cells + rm.cells ≤ R.cells ∧ slots + rm.slots ≤ R.slots) {pc : Nat} {Ls : Array Slot} {nl : Nat} (hml : c.maxLocals = nl) (hsz : Ls.size = nl) (hlen : ∀ sig, parseMethodDescriptor y.desc = some sig → argsL.length = sig.parameters.length) (hd : decode bytes pc = .ok (.invokespecial index, 3)) (hby : c.code = bytes) : ∃ v T' L, Stand p l e R s m args below meth c T' (locs ++ L) (cells + rm.cells) (slots + rm.slots) ∧ Q v T'.heap L ∧ ∀ t, Steps p.tables e below (T'.setTop (mkF m (pc + 3) Ls (v.toList ++ rest))) t → Steps p.tables e below (T.setTop (mkF m pc Ls st)) t := by
  subst hst
  obtain ⟨_, _, ⟨T1, L1, k1, n1⟩, -, X1, ⟨Lc1, hQ1, l1, y1, z1⟩, st1⟩ := X.specialBack hx hn hown (mvT hZ w1) (mvT hZ w2) (mvT hZ w5) hy (backOf (W := W) hM hZ w5 w6 hroom.1 hroom.2.1) (g := mkF m pc Ls (argsL.reverse ++ .ref b :: rest)) rfl (hsz.trans hml.symm) (Steps.refl _) (a := b) (argsL := argsL) (rest := rest) hlen rfl (by show 2 * 0 + _ ≤ _; rw [Nat.mul_zero, Nat.zero_add]; exact Nat.le_of_eq hW) (hb hby hd) (fun _ _ => ⟨rfl, eT, hroom.2.2.1, hroom.2.2.2⟩)
  dsimp only [Pt.U, Pt.locs, Pt.cells, Pt.slots] at X1 l1 y1 z1 st1 hQ1
  subst l1 y1 z1
  exact ⟨_, _, _, X1, hQ1, fun _ k => st1.trans k⟩
theorem ocallV (X : Stand p l e R s m args below meth c T locs cells slots) (hx : p.tables.exec = Jvm.exec) (hZ : Z.Warmed39 s.vm) {cb : ByteArray} {maxL : Nat} {ret : Option FieldType} {rm : Room} {Q : Option Value → Heap → List Loc → Prop} {argsL rest : List Value} {index : Nat} {own : String} {C : String} (y z : MethodName) (hown : s.vm.findClass own = some m.cls) (w1 : (Cond.methodLink own index y).before a0 Z = true) (w2 : (Cond.declares y).before a0 Z = true) (nf : NotFace s y) (w4 : (Cond.selects C y z).before a0 Z = true) (w3 : (Cond.instanceMethod z).before a0 Z = true) (hy : y.cls ≠ "java/lang/invoke/MethodHandle" ∧ y.cls ≠ "java/lang/invoke/VarHandle") (w5 : (Cond.code z cb maxL ret).before a0 Z = true) (w6 : (Cond.initialized z.cls).before a0 Z = true) (eT : T.heap = h) {b : Addr} (E : Exa Z h b C) (hM : MetFree l z (head1 [Cond.code z cb maxL ret] rm) (fun a U => a = (.ref b :: argsL).toArray ∧ Z.Warmed39 U.vm ∧ U.heap = h) (fun _ _ _ _ _ => True) (fun _ U o U' => ∃ v L, o = .returned v ∧ Q v U'.heap L ∧ FrameEnd U o U' L rm.cells rm.slots)) {st : List Value} (hst : st = argsL.reverse ++ .ref b :: rest) (W : Nat) (hW : (rest.map fun v => v.category).sum = W) (hroom : rm.frames + 1 ≤ R.frames ∧ W + (maxL + 11) + rm.locals ≤ R.locals ∧ cells + rm.cells ≤ R.cells ∧ slots + rm.slots ≤ R.slots) {pc : Nat} {Ls : Array Slot} {nl : Nat} (hml : c.maxLocals = nl) (hsz : Ls.size = nl) (hlen : ∀ sig, parseMethodDescriptor y.desc = some sig → argsL.length = sig.parameters.length) (hd : decode bytes pc = .ok (.invokevirtual index, 3)) (hby : c.code = bytes) : ∃ v T' L, Stand p l e R s m args below meth c T' (locs ++ L) (cells + rm.cells) (slots + rm.slots) ∧ Q v T'.heap L ∧ ∀ t, Steps p.tables e below (T'.setTop (mkF m (pc + 3) Ls (v.toList ++ rest))) t → Steps p.tables e below (T.setTop (mkF m pc Ls st)) t := by
  subst hst
  obtain ⟨cq, kq, qa, qb, qc⟩ := isOf hZ eT E
  obtain ⟨_, _, ⟨T1, L1, k1, n1⟩, -, X1, ⟨Lc1, hQ1, l1, y1, z1⟩, st1⟩ := X.virtualBack hx hown (mvT hZ w1) (mvT hZ w2) nf (mvT hZ w4) (mvT hZ w3) hy (backOf (W := W) hM hZ w5 w6 hroom.1 hroom.2.1) qa qc (g := mkF m pc Ls (argsL.reverse ++ .ref b :: rest)) rfl (hsz.trans hml.symm) (Steps.refl _) (argsL := argsL) (rest := rest) hlen rfl (by show 2 * 0 + _ ≤ _; rw [Nat.mul_zero, Nat.zero_add]; exact Nat.le_of_eq hW) (hb hby hd) (fun _ _ => ⟨rfl, eT, hroom.2.2.1, hroom.2.2.2⟩)
  dsimp only [Pt.U, Pt.locs, Pt.cells, Pt.slots] at X1 l1 y1 z1 st1 hQ1
  subst l1 y1 z1
  exact ⟨_, _, _, X1, hQ1, fun _ k => st1.trans k⟩
theorem ocallU (X : Stand p l e R s m args below meth c T locs cells slots) (hx : p.tables.exec = Jvm.exec) (hZ : Z.Warmed39 s.vm) {cb : ByteArray} {maxL : Nat} {ret : Option FieldType} {rm : Room} {Q : Option Value → Heap → List Loc → Prop} {argsL rest : List Value} {index : Nat} {own : String} {C owner : String} (x y : MethodName) (hown : s.vm.findClass own = some m.cls) (w1 : (Cond.methodLink own index x).before a0 Z = true) (w2 : (Cond.sameMethod x.cls owner x.name x.desc).before a0 Z = true) (w7 : (Cond.declares ⟨owner, x.name, x.desc⟩).before a0 Z = true) (hy : owner ≠ "java/lang/invoke/MethodHandle" ∧ owner ≠ "java/lang/invoke/VarHandle") (w4 : (Cond.selects C x y).before a0 Z = true) (w3 : (Cond.instanceMethod y).before a0 Z = true) (w5 : (Cond.code y cb maxL ret).before a0 Z = true) (w6 : (Cond.initialized y.cls).before a0 Z = true) (eT : T.heap = h) {b : Addr} (E : Exa Z h b C) (hM : MetFree l y (head1 [Cond.code y cb maxL ret] rm) (fun a U => a = (.ref b :: argsL).toArray ∧ Z.Warmed39 U.vm ∧ U.heap = h) (fun _ _ _ _ _ => True) (fun _ U o U' => ∃ v L, o = .returned v ∧ Q v U'.heap L ∧ FrameEnd U o U' L rm.cells rm.slots)) {st : List Value} (hst : st = argsL.reverse ++ .ref b :: rest) (W : Nat) (hW : (rest.map fun v => v.category).sum = W) (hroom : rm.frames + 1 ≤ R.frames ∧ W + (maxL + 11) + rm.locals ≤ R.locals ∧ cells + rm.cells ≤ R.cells ∧ slots + rm.slots ≤ R.slots) {pc : Nat} {Ls : Array Slot} {nl : Nat} (hml : c.maxLocals = nl) (hsz : Ls.size = nl) (hlen : ∀ sig, parseMethodDescriptor x.desc = some sig → argsL.length = sig.parameters.length) (hd : decode bytes pc = .ok (.invokevirtual index, 3)) (hby : c.code = bytes) : ∃ v T' L, Stand p l e R s m args below meth c T' (locs ++ L) (cells + rm.cells) (slots + rm.slots) ∧ Q v T'.heap L ∧ ∀ t, Steps p.tables e below (T'.setTop (mkF m (pc + 3) Ls (v.toList ++ rest))) t → Steps p.tables e below (T.setTop (mkF m pc Ls st)) t := by
  subst hst
  obtain ⟨cq, kq, qa, qb, qc⟩ := isOf hZ eT E
  obtain ⟨_, _, ⟨T1, L1, k1, n1⟩, -, X1, ⟨Lc1, hQ1, l1, y1, z1⟩, st1⟩ := X.virtualBackUp hx hown (mvT hZ w1) (mvT hZ w2) (mvT hZ w7) hy (mvT hZ w4) (mvT hZ w3) (backOf (W := W) hM hZ w5 w6 hroom.1 hroom.2.1) qa qc (g := mkF m pc Ls (argsL.reverse ++ .ref b :: rest)) rfl (hsz.trans hml.symm) (Steps.refl _) (argsL := argsL) (rest := rest) hlen rfl (by show 2 * 0 + _ ≤ _; rw [Nat.mul_zero, Nat.zero_add]; exact Nat.le_of_eq hW) (hb hby hd) (fun _ _ => ⟨rfl, eT, hroom.2.2.1, hroom.2.2.2⟩)
  dsimp only [Pt.U, Pt.locs, Pt.cells, Pt.slots] at X1 l1 y1 z1 st1 hQ1
  subst l1 y1 z1
  exact ⟨_, _, _, X1, hQ1, fun _ k => st1.trans k⟩
theorem ocallP (X : Stand p l e R s m args below meth c T locs cells slots) (hx : p.tables.exec = Jvm.exec) (hZ : Z.Warmed39 s.vm) {cb : ByteArray} {maxL : Nat} {ret : Option FieldType} {rm : Room} {Q : Option Value → Heap → List Loc → Prop} {argsL rest : List Value} {index : Nat} {own : String} (y : MethodName) (hown : s.vm.findClass own = some m.cls) (w1 : (Cond.methodLink own index y).before a0 Z = true) (w2 : (Cond.instanceMethod y).before a0 Z = true) (w4 : (Cond.selects y.cls y y).before args s = true) (w3 : (Cond.privateMethod y).before a0 Z = true) (hy : y.cls ≠ "java/lang/invoke/MethodHandle" ∧ y.cls ≠ "java/lang/invoke/VarHandle") (w5 : (Cond.code y cb maxL ret).before a0 Z = true) (w6 : (Cond.initialized y.cls).before a0 Z = true) (eT : T.heap = h) {C : String} {b : Addr} (E : Exa Z h b C) (hM : MetFree l y (head1 [Cond.code y cb maxL ret] rm) (fun a U => a = (.ref b :: argsL).toArray ∧ Z.Warmed39 U.vm ∧ U.heap = h) (fun _ _ _ _ _ => True) (fun _ U o U' => ∃ v L, o = .returned v ∧ Q v U'.heap L ∧ FrameEnd U o U' L rm.cells rm.slots)) {st : List Value} (hst : st = argsL.reverse ++ .ref b :: rest) (W : Nat) (hW : (rest.map fun v => v.category).sum = W) (hroom : rm.frames + 1 ≤ R.frames ∧ W + (maxL + 11) + rm.locals ≤ R.locals ∧ cells + rm.cells ≤ R.cells ∧ slots + rm.slots ≤ R.slots) {pc : Nat} {Ls : Array Slot} {nl : Nat} (hml : c.maxLocals = nl) (hsz : Ls.size = nl) (hlen : ∀ sig, parseMethodDescriptor y.desc = some sig → argsL.length = sig.parameters.length) (hd : decode bytes pc = .ok (.invokevirtual index, 3)) (hby : c.code = bytes) : ∃ v T' L, Stand p l e R s m args below meth c T' (locs ++ L) (cells + rm.cells) (slots + rm.slots) ∧ Q v T'.heap L ∧ ∀ t, Steps p.tables e below (T'.setTop (mkF m (pc + 3) Ls (v.toList ++ rest))) t → Steps p.tables e below (T.setTop (mkF m pc Ls st)) t := by
  subst hst
  obtain ⟨cq, q1, q2⟩ := E.cell
  obtain ⟨_, _, ⟨T1, L1, k1, n1⟩, -, X1, ⟨Lc1, hQ1, l1, y1, z1⟩, st1⟩ := X.privateBack hx hown (mvT hZ w1) (mvT hZ w2) w4 (Cond.privateMethod_at (mvP hZ w3 (args := #[]))) (mvT hZ w5) hy (backOf (W := W) hM hZ w5 w6 hroom.1 hroom.2.1) (g := mkF m pc Ls (argsL.reverse ++ .ref b :: rest)) rfl (hsz.trans hml.symm) (Steps.refl _) (a := b) (by rw [eT]; exact q1) q2 (argsL := argsL) (rest := rest) hlen rfl (by show 2 * 0 + _ ≤ _; rw [Nat.mul_zero, Nat.zero_add]; exact Nat.le_of_eq hW) (hb hby hd) (fun _ _ => ⟨rfl, eT, hroom.2.2.1, hroom.2.2.2⟩)
  dsimp only [Pt.U, Pt.locs, Pt.cells, Pt.slots] at X1 l1 y1 z1 st1 hQ1
  subst l1 y1 z1
  exact ⟨_, _, _, X1, hQ1, fun _ k => st1.trans k⟩
theorem ocallN (X : Stand p l e R s m args below meth c T locs cells slots) (hx : p.tables.exec = Jvm.exec) (hZ : Z.Warmed39 s.vm) {cb : ByteArray} {maxL : Nat} {ret : Option FieldType} {rm : Room} {Q : Option Value → Heap → List Loc → Prop} {argsL rest : List Value} {index : Nat} {own : String} {C : String} (x y : MethodName) (hown : s.vm.findClass own = some m.cls) (w1 : (Cond.methodLink own index x).before a0 Z = true) (w2 : (Cond.declares x).before a0 Z = true) (w7 : (Cond.interfaceMethod x.cls x.cls x.name x.desc).before args s = true) (w4 : (Cond.selects C x y).before a0 Z = true) (w3 : (Cond.instanceMethod y).before a0 Z = true) (w8 : (Cond.publicMethod y).before a0 Z = true) (w9 : (Cond.unhidden C x.name x.desc).before a0 Z = true) (wa : (Cond.castable C x.cls).before a0 Z = true) (hy : x.cls ≠ "java/lang/invoke/MethodHandle" ∧ x.cls ≠ "java/lang/invoke/VarHandle") (w5 : (Cond.code y cb maxL ret).before a0 Z = true) (w6 : (Cond.initialized y.cls).before a0 Z = true) (eT : T.heap = h) {b : Addr} (E : Exa Z h b C) {cnt : Nat} (hM : MetFree l y (head1 [Cond.code y cb maxL ret] rm) (fun a U => a = (.ref b :: argsL).toArray ∧ Z.Warmed39 U.vm ∧ U.heap = h) (fun _ _ _ _ _ => True) (fun _ U o U' => ∃ v L, o = .returned v ∧ Q v U'.heap L ∧ FrameEnd U o U' L rm.cells rm.slots)) {st : List Value} (hst : st = argsL.reverse ++ .ref b :: rest) (W : Nat) (hW : (rest.map fun v => v.category).sum = W) (hroom : rm.frames + 1 ≤ R.frames ∧ W + (maxL + 11) + rm.locals ≤ R.locals ∧ cells + rm.cells ≤ R.cells ∧ slots + rm.slots ≤ R.slots) {pc : Nat} {Ls : Array Slot} {nl : Nat} (hml : c.maxLocals = nl) (hsz : Ls.size = nl) (hlen : ∀ sig, parseMethodDescriptor x.desc = some sig → argsL.length = sig.parameters.length) (hd : decode bytes pc = .ok (.invokeinterface index cnt, 5)) (hby : c.code = bytes) : ∃ v T' L, Stand p l e R s m args below meth c T' (locs ++ L) (cells + rm.cells) (slots + rm.slots) ∧ Q v T'.heap L ∧ ∀ t, Steps p.tables e below (T'.setTop (mkF m (pc + 5) Ls (v.toList ++ rest))) t → Steps p.tables e below (T.setTop (mkF m pc Ls st)) t := by
  subst hst
  obtain ⟨cq, kq, qa, qb, qc⟩ := isOf hZ eT E
  obtain ⟨_, _, ⟨T1, L1, k1, n1⟩, -, X1, ⟨Lc1, hQ1, l1, y1, z1⟩, st1⟩ := X.interfaceBack hx hown (mvT hZ w1) (mvT hZ w2) w7 (mvT hZ w4) (mvT hZ w3) (mvT hZ w8) (mvT hZ w9) (mvT hZ wa) hy (backOf (W := W) hM hZ w5 w6 hroom.1 hroom.2.1) qa qb qc (g := mkF m pc Ls (argsL.reverse ++ .ref b :: rest)) rfl (hsz.trans hml.symm) (Steps.refl _) (argsL := argsL) (rest := rest) hlen rfl (by show 2 * 0 + _ ≤ _; rw [Nat.mul_zero, Nat.zero_add]; exact Nat.le_of_eq hW) (hb hby hd) (fun _ _ => ⟨rfl, eT, hroom.2.2.1, hroom.2.2.2⟩)
  dsimp only [Pt.U, Pt.locs, Pt.cells, Pt.slots] at X1 l1 y1 z1 st1 hQ1
  subst l1 y1 z1
  exact ⟨_, _, _, X1, hQ1, fun _ k => st1.trans k⟩
end OwnCalls
end Jvm.RoadKit
namespace Jvm.Pilot.@@N@@
open Jvm Jvm.ClassFile Sem Op Lib Jvm.Free Jvm.Stand Jvm.LawKit Jvm.RoadKit Bundle Jvm.Pilot.@@N@@.Jvm.D
theorem ww {Z : State} {a0 : Array Value} (hw : ∀ d ∈ tables_1, d.before a0 Z = true) (i : Nat) {d : Jvm.Cond} (h : tables_1[i]? = some d) : d.before a0 Z = true := hw d (List.mem_of_getElem? h)
def QLaw (n0 : Nat) (v : Option Value) (h : Heap) (L : List Loc) : Prop := v = some (.int (1 : Int32)) ∧ Fr n0 L

def own_pick (k : Int32) (w0 w1 w2 w3 w4 w5 w6 w7 w8 w9 w10 w11 w12 w13 w14 w15 w16 : Addr) : Addr := if k = (0 : Int32) then w0 else if k = (1 : Int32) then w1 else if k = (2 : Int32) then w2 else if k = (3 : Int32) then w3 else if k = (4 : Int32) then w4 else if k = (5 : Int32) then w5 else if k = (6 : Int32) then w6 else if k = (7 : Int32) then w7 else if k = (8 : Int32) then w8 else if k = (9 : Int32) then w9 else if k = (10 : Int32) then w10 else if k = (11 : Int32) then w11 else if k = (12 : Int32) then w12 else if k = (13 : Int32) then w13 else if k = (14 : Int32) then w14 else if k = (15 : Int32) then w15 else w16
abbrev lc0 (x0 : Int32) (x1 : Int32) : Array Slot := #[.val (.int x0), .val (.int x1), .unset, .unset, .unset, .unset]
theorem d1_0 : decode method_2_code 0 = .ok (.iload_n 0, 1) := by decide +kernel
theorem d1_1 : decode method_2_code 1 = .ok (.ldc 7, 2) := by decide +kernel
abbrev lc1 (x0 : Int32) : Array Slot := #[.val (.int x0), .unset, .unset]
theorem d1_3 : decode method_2_code 3 = .ok (.iand, 1) := by decide +kernel
theorem d1_4 : decode method_2_code 4 = .ok (.bipush 17, 2) := by decide +kernel
theorem d1_6 : decode method_2_code 6 = .ok (.irem, 1) := by decide +kernel
theorem d1_7 : decode method_2_code 7 = .ok (.istore_n 1, 1) := by decide +kernel
abbrev lc2 (x0 : Int32) (x1 : Int32) : Array Slot := #[.val (.int x0), .val (.int x1), .unset]
theorem d1_8 : decode method_2_code 8 = .ok (.iload_n 1, 1) := by decide +kernel
theorem d1_9 : decode method_2_code 9 = .ok (.ifCond .ne 10, 3) := by decide +kernel
theorem d1_12 : decode method_2_code 12 = .ok (.getstatic 8, 3) := by decide +kernel
theorem d1_15 : decode method_2_code 15 = .ok (.astore_n 2, 1) := by decide +kernel
abbrev lc3 (x0 : Int32) (x1 : Int32) (x2 : Addr) : Array Slot := #[.val (.int x0), .val (.int x1), .val (.ref x2)]
theorem d1_16 : decode method_2_code 16 = .ok (.goto 197, 3) := by decide +kernel
theorem d1_213 : decode method_2_code 213 = .ok (.aload_n 2, 1) := by decide +kernel
theorem d1_214 : decode method_2_code 214 = .ok (.areturn, 1) := by decide +kernel
theorem d1_19 : decode method_2_code 19 = .ok (.iload_n 1, 1) := by decide +kernel
theorem d1_20 : decode method_2_code 20 = .ok (.iconst 1, 1) := by decide +kernel
theorem d1_21 : decode method_2_code 21 = .ok (.if_icmp .ne 10, 3) := by decide +kernel
theorem d1_24 : decode method_2_code 24 = .ok (.getstatic 14, 3) := by decide +kernel
theorem d1_27 : decode method_2_code 27 = .ok (.astore_n 2, 1) := by decide +kernel
theorem d1_28 : decode method_2_code 28 = .ok (.goto 185, 3) := by decide +kernel
theorem d1_31 : decode method_2_code 31 = .ok (.iload_n 1, 1) := by decide +kernel
theorem d1_32 : decode method_2_code 32 = .ok (.iconst 2, 1) := by decide +kernel
theorem d1_33 : decode method_2_code 33 = .ok (.if_icmp .ne 10, 3) := by decide +kernel
theorem d1_36 : decode method_2_code 36 = .ok (.getstatic 17, 3) := by decide +kernel
theorem d1_39 : decode method_2_code 39 = .ok (.astore_n 2, 1) := by decide +kernel
theorem d1_40 : decode method_2_code 40 = .ok (.goto 173, 3) := by decide +kernel
theorem d1_43 : decode method_2_code 43 = .ok (.iload_n 1, 1) := by decide +kernel
theorem d1_44 : decode method_2_code 44 = .ok (.iconst 3, 1) := by decide +kernel
theorem d1_45 : decode method_2_code 45 = .ok (.if_icmp .ne 10, 3) := by decide +kernel
theorem d1_48 : decode method_2_code 48 = .ok (.getstatic 20, 3) := by decide +kernel
theorem d1_51 : decode method_2_code 51 = .ok (.astore_n 2, 1) := by decide +kernel
theorem d1_52 : decode method_2_code 52 = .ok (.goto 161, 3) := by decide +kernel
theorem d1_55 : decode method_2_code 55 = .ok (.iload_n 1, 1) := by decide +kernel
theorem d1_56 : decode method_2_code 56 = .ok (.iconst 4, 1) := by decide +kernel
theorem d1_57 : decode method_2_code 57 = .ok (.if_icmp .ne 10, 3) := by decide +kernel
theorem d1_60 : decode method_2_code 60 = .ok (.getstatic 23, 3) := by decide +kernel
theorem d1_63 : decode method_2_code 63 = .ok (.astore_n 2, 1) := by decide +kernel
theorem d1_64 : decode method_2_code 64 = .ok (.goto 149, 3) := by decide +kernel
theorem d1_67 : decode method_2_code 67 = .ok (.iload_n 1, 1) := by decide +kernel
theorem d1_68 : decode method_2_code 68 = .ok (.iconst 5, 1) := by decide +kernel
theorem d1_69 : decode method_2_code 69 = .ok (.if_icmp .ne 10, 3) := by decide +kernel
theorem d1_72 : decode method_2_code 72 = .ok (.getstatic 26, 3) := by decide +kernel
theorem d1_75 : decode method_2_code 75 = .ok (.astore_n 2, 1) := by decide +kernel
theorem d1_76 : decode method_2_code 76 = .ok (.goto 137, 3) := by decide +kernel
theorem d1_79 : decode method_2_code 79 = .ok (.iload_n 1, 1) := by decide +kernel
theorem d1_80 : decode method_2_code 80 = .ok (.bipush 6, 2) := by decide +kernel
theorem d1_82 : decode method_2_code 82 = .ok (.if_icmp .ne 10, 3) := by decide +kernel
theorem d1_85 : decode method_2_code 85 = .ok (.getstatic 29, 3) := by decide +kernel
theorem d1_88 : decode method_2_code 88 = .ok (.astore_n 2, 1) := by decide +kernel
theorem d1_89 : decode method_2_code 89 = .ok (.goto 124, 3) := by decide +kernel
theorem d1_92 : decode method_2_code 92 = .ok (.iload_n 1, 1) := by decide +kernel
theorem d1_93 : decode method_2_code 93 = .ok (.bipush 7, 2) := by decide +kernel
theorem d1_95 : decode method_2_code 95 = .ok (.if_icmp .ne 10, 3) := by decide +kernel
theorem d1_98 : decode method_2_code 98 = .ok (.getstatic 32, 3) := by decide +kernel
theorem d1_101 : decode method_2_code 101 = .ok (.astore_n 2, 1) := by decide +kernel
theorem d1_102 : decode method_2_code 102 = .ok (.goto 111, 3) := by decide +kernel
theorem d1_105 : decode method_2_code 105 = .ok (.iload_n 1, 1) := by decide +kernel
theorem d1_106 : decode method_2_code 106 = .ok (.bipush 8, 2) := by decide +kernel
theorem d1_108 : decode method_2_code 108 = .ok (.if_icmp .ne 10, 3) := by decide +kernel
theorem d1_111 : decode method_2_code 111 = .ok (.getstatic 35, 3) := by decide +kernel
theorem d1_114 : decode method_2_code 114 = .ok (.astore_n 2, 1) := by decide +kernel
theorem d1_115 : decode method_2_code 115 = .ok (.goto 98, 3) := by decide +kernel
theorem d1_118 : decode method_2_code 118 = .ok (.iload_n 1, 1) := by decide +kernel
theorem d1_119 : decode method_2_code 119 = .ok (.bipush 9, 2) := by decide +kernel
theorem d1_121 : decode method_2_code 121 = .ok (.if_icmp .ne 10, 3) := by decide +kernel
theorem d1_124 : decode method_2_code 124 = .ok (.getstatic 38, 3) := by decide +kernel
theorem d1_127 : decode method_2_code 127 = .ok (.astore_n 2, 1) := by decide +kernel
theorem d1_128 : decode method_2_code 128 = .ok (.goto 85, 3) := by decide +kernel
theorem d1_131 : decode method_2_code 131 = .ok (.iload_n 1, 1) := by decide +kernel
theorem d1_132 : decode method_2_code 132 = .ok (.bipush 10, 2) := by decide +kernel
theorem d1_134 : decode method_2_code 134 = .ok (.if_icmp .ne 10, 3) := by decide +kernel
theorem d1_137 : decode method_2_code 137 = .ok (.getstatic 41, 3) := by decide +kernel
theorem d1_140 : decode method_2_code 140 = .ok (.astore_n 2, 1) := by decide +kernel
theorem d1_141 : decode method_2_code 141 = .ok (.goto 72, 3) := by decide +kernel
theorem d1_144 : decode method_2_code 144 = .ok (.iload_n 1, 1) := by decide +kernel
theorem d1_145 : decode method_2_code 145 = .ok (.bipush 11, 2) := by decide +kernel
theorem d1_147 : decode method_2_code 147 = .ok (.if_icmp .ne 10, 3) := by decide +kernel
theorem d1_150 : decode method_2_code 150 = .ok (.getstatic 44, 3) := by decide +kernel
theorem d1_153 : decode method_2_code 153 = .ok (.astore_n 2, 1) := by decide +kernel
theorem d1_154 : decode method_2_code 154 = .ok (.goto 59, 3) := by decide +kernel
theorem d1_157 : decode method_2_code 157 = .ok (.iload_n 1, 1) := by decide +kernel
theorem d1_158 : decode method_2_code 158 = .ok (.bipush 12, 2) := by decide +kernel
theorem d1_160 : decode method_2_code 160 = .ok (.if_icmp .ne 10, 3) := by decide +kernel
theorem d1_163 : decode method_2_code 163 = .ok (.getstatic 47, 3) := by decide +kernel
theorem d1_166 : decode method_2_code 166 = .ok (.astore_n 2, 1) := by decide +kernel
theorem d1_167 : decode method_2_code 167 = .ok (.goto 46, 3) := by decide +kernel
theorem d1_170 : decode method_2_code 170 = .ok (.iload_n 1, 1) := by decide +kernel
theorem d1_171 : decode method_2_code 171 = .ok (.bipush 13, 2) := by decide +kernel
theorem d1_173 : decode method_2_code 173 = .ok (.if_icmp .ne 10, 3) := by decide +kernel
theorem d1_176 : decode method_2_code 176 = .ok (.getstatic 50, 3) := by decide +kernel
theorem d1_179 : decode method_2_code 179 = .ok (.astore_n 2, 1) := by decide +kernel
theorem d1_180 : decode method_2_code 180 = .ok (.goto 33, 3) := by decide +kernel
theorem d1_183 : decode method_2_code 183 = .ok (.iload_n 1, 1) := by decide +kernel
theorem d1_184 : decode method_2_code 184 = .ok (.bipush 14, 2) := by decide +kernel
theorem d1_186 : decode method_2_code 186 = .ok (.if_icmp .ne 10, 3) := by decide +kernel
theorem d1_189 : decode method_2_code 189 = .ok (.getstatic 53, 3) := by decide +kernel
theorem d1_192 : decode method_2_code 192 = .ok (.astore_n 2, 1) := by decide +kernel
theorem d1_193 : decode method_2_code 193 = .ok (.goto 20, 3) := by decide +kernel
theorem d1_196 : decode method_2_code 196 = .ok (.iload_n 1, 1) := by decide +kernel
theorem d1_197 : decode method_2_code 197 = .ok (.bipush 15, 2) := by decide +kernel
theorem d1_199 : decode method_2_code 199 = .ok (.if_icmp .ne 10, 3) := by decide +kernel
theorem d1_202 : decode method_2_code 202 = .ok (.getstatic 56, 3) := by decide +kernel
theorem d1_205 : decode method_2_code 205 = .ok (.astore_n 2, 1) := by decide +kernel
theorem d1_206 : decode method_2_code 206 = .ok (.goto 7, 3) := by decide +kernel
theorem d1_209 : decode method_2_code 209 = .ok (.getstatic 59, 3) := by decide +kernel
theorem d1_212 : decode method_2_code 212 = .ok (.astore_n 2, 1) := by decide +kernel
theorem ef_0 (m : MethodId) (x0 : Int32) : entryFrame m #[(.int x0)] 3 = mkF m 0 #[.val (.int x0), .unset, .unset] [] := by first | (simp [entryFrame, mkF, argsToLocals, Value.category, maxLocals]; done) | rfl
theorem pn_com_example_aspen_aspen_engine_ParameterAnyNumberOfPinLaw : plainName "com/example/aspen/aspen/engine/ParameterAnyNumberOfPinLaw" = true := by first | (simp [plainName, overriddenIn]; done) | decide +kernel
theorem pd_0 : parseMethodDescriptor "(I)Lcom/example/aspen/aspen/engine/DataType;" = some ⟨[.int], some (.object "com/example/aspen/aspen/engine/DataType")⟩ := by decide +kernel
abbrev lc4 (x0 : Int32) (x1 : Int32) (x2 : Addr) : Array Slot := #[.val (.int x0), .val (.int x1), .val (.ref x2), .unset, .unset, .unset]
abbrev lc5 (x0 : Int32) (x1 : Int32) (x2 : Addr) (x3 : Addr) : Array Slot := #[.val (.int x0), .val (.int x1), .val (.ref x2), .val (.ref x3), .unset, .unset]
theorem d2_0 : decode prog_68_method_4_code 0 = .ok (.new 8, 3) := by decide +kernel
abbrev lc6 (x0 : Addr) : Array Slot := #[.val (.ref x0)]
theorem d2_3 : decode prog_68_method_4_code 3 = .ok (.dup, 1) := by decide +kernel
theorem d2_4 : decode prog_68_method_4_code 4 = .ok (.aload_n 0, 1) := by decide +kernel
theorem d2_5 : decode prog_68_method_4_code 5 = .ok (.iconst 0, 1) := by decide +kernel
theorem d2_6 : decode prog_68_method_4_code 6 = .ok (.iconst 1, 1) := by decide +kernel
theorem d2_7 : decode prog_68_method_4_code 7 = .ok (.aconst_null, 1) := by decide +kernel
theorem d2_8 : decode prog_68_method_4_code 8 = .ok (.invokespecial 24, 3) := by decide +kernel
theorem d3_0 : decode prog_68_method_1_code 0 = .ok (.aload_n 0, 1) := by decide +kernel
theorem d3_1 : decode prog_68_method_1_code 1 = .ok (.invokespecial 1, 3) := by decide +kernel
abbrev lc7 (x0 : Addr) (x1 : Addr) (x2 : Int32) (x3 : Int32) : Array Slot := #[.val (.ref x0), .val (.ref x1), .val (.int x2), .val (.int x3), .val .null]
theorem d3_4 : decode prog_68_method_1_code 4 = .ok (.aload_n 0, 1) := by decide +kernel
theorem d3_5 : decode prog_68_method_1_code 5 = .ok (.aload_n 1, 1) := by decide +kernel
theorem d3_6 : decode prog_68_method_1_code 6 = .ok (.putfield 7, 3) := by decide +kernel
theorem d3_9 : decode prog_68_method_1_code 9 = .ok (.aload_n 0, 1) := by decide +kernel
theorem d3_10 : decode prog_68_method_1_code 10 = .ok (.iload_n 2, 1) := by decide +kernel
theorem d3_11 : decode prog_68_method_1_code 11 = .ok (.putfield 13, 3) := by decide +kernel
theorem d3_14 : decode prog_68_method_1_code 14 = .ok (.aload_n 0, 1) := by decide +kernel
theorem d3_15 : decode prog_68_method_1_code 15 = .ok (.iload_n 3, 1) := by decide +kernel
theorem d3_16 : decode prog_68_method_1_code 16 = .ok (.putfield 17, 3) := by decide +kernel
theorem d3_19 : decode prog_68_method_1_code 19 = .ok (.aload_n 0, 1) := by decide +kernel
theorem d3_20 : decode prog_68_method_1_code 20 = .ok (.aload 4, 2) := by decide +kernel
theorem d3_22 : decode prog_68_method_1_code 22 = .ok (.putfield 20, 3) := by decide +kernel
theorem d3_25 : decode prog_68_method_1_code 25 = .ok (.return_, 1) := by decide +kernel
theorem ef_1 (m : MethodId) (x0 : Addr) (x1 : Addr) (x2 : Int32) (x3 : Int32) : entryFrame m #[(.ref x0), (.ref x1), (.int x2), (.int x3), .null] 5 = mkF m 0 #[.val (.ref x0), .val (.ref x1), .val (.int x2), .val (.int x3), .val .null] [] := by first | (simp [entryFrame, mkF, argsToLocals, Value.category, maxLocals]; done) | rfl
theorem pn_com_example_aspen_aspen_engine_Parameter : plainName "com/example/aspen/aspen/engine/Parameter" = true := by first | (simp [plainName, overriddenIn]; done) | decide +kernel
theorem pd_1 : parseMethodDescriptor "(Lcom/example/aspen/aspen/engine/DataType;ZZLcom/example/aspen/aspen/engine/XacmlFunction;)V" = some ⟨[(.object "com/example/aspen/aspen/engine/DataType"), .boolean, .boolean, (.object "com/example/aspen/aspen/engine/XacmlFunction")], none⟩ := by decide +kernel
theorem d2_11 : decode prog_68_method_4_code 11 = .ok (.areturn, 1) := by decide +kernel
theorem ef_2 (m : MethodId) (x0 : Addr) : entryFrame m #[(.ref x0)] 1 = mkF m 0 #[.val (.ref x0)] [] := by first | (simp [entryFrame, mkF, argsToLocals, Value.category, maxLocals]; done) | rfl
theorem pd_2 : parseMethodDescriptor "(Lcom/example/aspen/aspen/engine/DataType;)Lcom/example/aspen/aspen/engine/Parameter;" = some ⟨[(.object "com/example/aspen/aspen/engine/DataType")], some (.object "com/example/aspen/aspen/engine/Parameter")⟩ := by decide +kernel
abbrev lc8 (x0 : Int32) (x1 : Int32) (x2 : Addr) (x3 : Addr) (x4 : Addr) : Array Slot := #[.val (.int x0), .val (.int x1), .val (.ref x2), .val (.ref x3), .val (.ref x4), .unset]
abbrev lc9 (x0 : Int32) (x1 : Int32) (x2 : Addr) (x3 : Addr) (x4 : Addr) (x5 : Int32) : Array Slot := #[.val (.int x0), .val (.int x1), .val (.ref x2), .val (.ref x3), .val (.ref x4), .val (.int x5)]
theorem d5_0 : decode prog_68_method_7_code 0 = .ok (.aload_n 0, 1) := by decide +kernel
theorem d5_1 : decode prog_68_method_7_code 1 = .ok (.getfield 7, 3) := by decide +kernel
theorem d5_4 : decode prog_68_method_7_code 4 = .ok (.areturn, 1) := by decide +kernel
theorem pd_3 : parseMethodDescriptor "()Lcom/example/aspen/aspen/engine/DataType;" = some ⟨[], some (.object "com/example/aspen/aspen/engine/DataType")⟩ := by decide +kernel
theorem d6_0 : decode prog_68_method_8_code 0 = .ok (.aload_n 0, 1) := by decide +kernel
theorem d6_1 : decode prog_68_method_8_code 1 = .ok (.getfield 13, 3) := by decide +kernel
theorem d6_4 : decode prog_68_method_8_code 4 = .ok (.ireturn, 1) := by decide +kernel
theorem pd_4 : parseMethodDescriptor "()Z" = some ⟨[], some .boolean⟩ := by decide +kernel
theorem d7_0 : decode prog_68_method_9_code 0 = .ok (.aload_n 0, 1) := by decide +kernel
theorem d7_1 : decode prog_68_method_9_code 1 = .ok (.getfield 17, 3) := by decide +kernel
theorem d7_4 : decode prog_68_method_9_code 4 = .ok (.ireturn, 1) := by decide +kernel
theorem d8_0 : decode prog_68_method_10_code 0 = .ok (.aload_n 0, 1) := by decide +kernel
theorem d8_1 : decode prog_68_method_10_code 1 = .ok (.getfield 20, 3) := by decide +kernel
theorem d8_4 : decode prog_68_method_10_code 4 = .ok (.ifnull 7, 3) := by decide +kernel
theorem d8_11 : decode prog_68_method_10_code 11 = .ok (.iconst 0, 1) := by decide +kernel
theorem d8_12 : decode prog_68_method_10_code 12 = .ok (.ireturn, 1) := by decide +kernel
theorem d9_0 : decode prog_68_method_11_code 0 = .ok (.aload_n 0, 1) := by decide +kernel
theorem d9_1 : decode prog_68_method_11_code 1 = .ok (.getfield 20, 3) := by decide +kernel
theorem d9_4 : decode prog_68_method_11_code 4 = .ok (.areturn, 1) := by decide +kernel
theorem pd_5 : parseMethodDescriptor "()Lcom/example/aspen/aspen/engine/XacmlFunction;" = some ⟨[], some (.object "com/example/aspen/aspen/engine/XacmlFunction")⟩ := by decide +kernel
theorem d10_0 : decode prog_68_method_12_code 0 = .ok (.aload_n 0, 1) := by decide +kernel
theorem d10_1 : decode prog_68_method_12_code 1 = .ok (.getfield 7, 3) := by decide +kernel
abbrev lc10 (x0 : Addr) (x1 : Addr) : Array Slot := #[.val (.ref x0), .val (.ref x1)]
theorem d10_4 : decode prog_68_method_12_code 4 = .ok (.aload_n 1, 1) := by decide +kernel
theorem d10_5 : decode prog_68_method_12_code 5 = .ok (.if_acmp .ne 14, 3) := by decide +kernel
theorem d10_8 : decode prog_68_method_12_code 8 = .ok (.aload_n 0, 1) := by decide +kernel
theorem d10_9 : decode prog_68_method_12_code 9 = .ok (.getfield 13, 3) := by decide +kernel
theorem d10_12 : decode prog_68_method_12_code 12 = .ok (.ifCond .ne 7, 3) := by decide +kernel
theorem d10_15 : decode prog_68_method_12_code 15 = .ok (.iconst 1, 1) := by decide +kernel
theorem d10_16 : decode prog_68_method_12_code 16 = .ok (.goto 4, 3) := by decide +kernel
theorem d10_20 : decode prog_68_method_12_code 20 = .ok (.ireturn, 1) := by decide +kernel
theorem ef_3 (m : MethodId) (x0 : Addr) (x1 : Addr) : entryFrame m #[(.ref x0), (.ref x1)] 2 = mkF m 0 #[.val (.ref x0), .val (.ref x1)] [] := by first | (simp [entryFrame, mkF, argsToLocals, Value.category, maxLocals]; done) | rfl
theorem pd_6 : parseMethodDescriptor "(Lcom/example/aspen/aspen/engine/DataType;)Z" = some ⟨[(.object "com/example/aspen/aspen/engine/DataType")], some .boolean⟩ := by decide +kernel
theorem ef_4 (m : MethodId) (x0 : Int32) (x1 : Int32) : entryFrame m #[(.int x0), (.int x1)] maxLocals = mkF m 0 #[.val (.int x0), .val (.int x1), .unset, .unset, .unset, .unset] [] := by first | (simp [entryFrame, mkF, argsToLocals, Value.category, maxLocals]; done) | rfl
theorem d10_19 : decode prog_68_method_12_code 19 = .ok (.iconst 0, 1) := by decide +kernel
abbrev zs0 : String := "com/example/aspen/aspen/engine/DataType"
abbrev zs1 : String := "Lcom/example/aspen/aspen/engine/DataType;"
abbrev zs2 : String := "DAY_TIME_DURATION"
abbrev zs3 : String := "YEAR_MONTH_DURATION"
abbrev zs4 : String := "XPATH_EXPRESSION"
abbrev zs5 : String := "com/example/aspen/aspen/engine/ParameterAnyNumberOfPinLaw"
abbrev zs6 : String := "(I)Lcom/example/aspen/aspen/engine/DataType;"
abbrev zs7 : String := "com/example/aspen/aspen/engine/Parameter"
abbrev zs8 : String := "Lcom/example/aspen/aspen/engine/XacmlFunction;"
abbrev zs9 : String := "(Lcom/example/aspen/aspen/engine/DataType;ZZLcom/example/aspen/aspen/engine/XacmlFunction;)V"
abbrev zs10 : String := "com/example/aspen/aspen/engine/XacmlFunction"
abbrev zs11 : String := "(Lcom/example/aspen/aspen/engine/DataType;)Lcom/example/aspen/aspen/engine/Parameter;"
abbrev zs12 : String := "()Lcom/example/aspen/aspen/engine/DataType;"
abbrev zs13 : String := "()Lcom/example/aspen/aspen/engine/XacmlFunction;"
abbrev zs14 : String := "(Lcom/example/aspen/aspen/engine/DataType;)Z"
abbrev zm0 : MethodName := (⟨zs5, "pick", zs6⟩ : MethodName)
abbrev zm1 : MethodName := (⟨zs7, "<init>", zs9⟩ : MethodName)
abbrev zm2 : MethodName := (⟨zs7, "anyNumberOf", zs11⟩ : MethodName)
abbrev zm3 : MethodName := (⟨zs7, "type", zs12⟩ : MethodName)
abbrev zm4 : MethodName := (⟨zs7, "isBag", "()Z"⟩ : MethodName)
abbrev zm5 : MethodName := (⟨zs7, "isRepeated", "()Z"⟩ : MethodName)
abbrev zm6 : MethodName := (⟨zs7, "isFunction", "()Z"⟩ : MethodName)
abbrev zm7 : MethodName := (⟨zs7, "function", zs13⟩ : MethodName)
abbrev zm8 : MethodName := (⟨zs7, "isOne", zs14⟩ : MethodName)
def Q1_0 (Z : State) (p1 : Int32) (a5 : Addr) (a8 : Addr) (a10 : Addr) (a12 : Addr) (a14 : Addr) (a16 : Addr) (a18 : Addr) (a20 : Addr) (a22 : Addr) (a24 : Addr) (a26 : Addr) (a28 : Addr) (a30 : Addr) (a32 : Addr) (a34 : Addr) (a36 : Addr) (a38 : Addr) (h0 : Heap) (n0 : Nat) (v : Option Value) (h : Heap) (L : List Loc) : Prop := v = some (.ref (own_pick ((p1 &&& (2147483647 : Int32)) % (17 : Int32)) a5 a8 a10 a12 a14 a16 a18 a20 a22 a24 a26 a28 a30 a32 a34 a36 a38)) ∧ Fr n0 L ∧ h = h0
set_option maxRecDepth 65536 in
set_option maxHeartbeats 40000000 in
theorem rm1_0 (l : Launch) (Z : State) (a0 : Array Value) (hw : ∀ d ∈ tables_1, d.before a0 Z = true) (ws : List Jvm.Cond) (p1 : Int32) (a5 : Addr) (a8 : Addr) (a10 : Addr) (a12 : Addr) (a14 : Addr) (a16 : Addr) (a18 : Addr) (a20 : Addr) (a22 : Addr) (a24 : Addr) (a26 : Addr) (a28 : Addr) (a30 : Addr) (a32 : Addr) (a34 : Addr) (a36 : Addr) (a38 : Addr) (h0 : Heap) (n0 : Nat) (Z0 : n0 ≤ h0.size) (hc3 : ((p1 &&& (2147483647 : Int32)) % (17 : Int32)) = (0 : Int32)) (F6 : Sta Z h0 zs0 "STRING" zs1 (.ref a5)) (F9 : Sta Z h0 zs0 "BOOLEAN" zs1 (.ref a8)) (F11 : Sta Z h0 zs0 "INTEGER" zs1 (.ref a10)) (F13 : Sta Z h0 zs0 "DOUBLE" zs1 (.ref a12)) (F15 : Sta Z h0 zs0 "TIME" zs1 (.ref a14)) (F17 : Sta Z h0 zs0 "DATE" zs1 (.ref a16)) (F19 : Sta Z h0 zs0 "DATE_TIME" zs1 (.ref a18)) (F21 : Sta Z h0 zs0 "ANY_URI" zs1 (.ref a20)) (F23 : Sta Z h0 zs0 "HEX_BINARY" zs1 (.ref a22)) (F25 : Sta Z h0 zs0 "BASE64_BINARY" zs1 (.ref a24)) (F27 : Sta Z h0 zs0 zs2 zs1 (.ref a26)) (F29 : Sta Z h0 zs0 zs3 zs1 (.ref a28)) (F31 : Sta Z h0 zs0 "X500_NAME" zs1 (.ref a30)) (F33 : Sta Z h0 zs0 "RFC822_NAME" zs1 (.ref a32)) (F35 : Sta Z h0 zs0 "IP_ADDRESS" zs1 (.ref a34)) (F37 : Sta Z h0 zs0 "DNS_NAME" zs1 (.ref a36)) (F39 : Sta Z h0 zs0 zs4 zs1 (.ref a38)) :
    MetFree l zm0 (head1 (Jvm.Cond.code zm0 method_2_code 3 (some (.object zs0)) :: ws) ({ frames := 0, cells := 0, slots := 0, locals := 0 } : Room)) (fun a U => a = #[(.int p1)] ∧ Z.Warmed39 U.vm ∧ U.heap = h0) (fun _ _ _ _ _ => True) (fun _ U o U' => ∃ v L, o = .returned v ∧ Q1_0 Z p1 a5 a8 a10 a12 a14 a16 a18 a20 a22 a24 a26 a28 a30 a32 a34 a36 a38 h0 n0 v U'.heap L ∧ FrameEnd U o U' L ({ frames := 0, cells := 0, slots := 0, locals := 0 } : Room).cells ({ frames := 0, cells := 0, slots := 0, locals := 0 } : Room).slots) := by
  refine MetFree.of_bodySF (plainFor_of_name pn_com_example_aspen_aspen_engine_ParameterAnyNumberOfPinLaw) hisR ?_
  intro p e s m args below meth c s₁ Bd hml0 hP hK
  obtain ⟨rfl, hZ, hh⟩ := hP
  have hx := Bd.exec
  have hby := Bd.bytes
  have hml : c.maxLocals = 3 := hml0
  have hown : s.vm.findClass zs5 = some m.cls := findClass_of_methodNamed Bd.named
  have hnm := (name_of_methodNamed Bd.named Bd.method).1
  have X0 : Stand p l e ({ frames := 0, cells := 0, slots := 0, locals := 0 } : Room) s m #[(.int p1)] below meth c s₁ [] 0 0 := Stand.of_body Bd
  have e0 : s₁.heap = h0 := by rw [← hh, Bd.state]; rfl
  have N0 := Fr.nil n0
  refine own_pre (g' := mkF m 0 (lc1 p1) []) (ef_0 m p1) ?_
  refine own_go (U' := s₁.setTop (mkF m 8 (lc2 p1 ((p1 &&& (2147483647 : Int32)) % (17 : Int32))) [])) (fun t k => oiloadN X0 hx hby d1_0 rfl (X0.ldcInt hx hown (mvT hZ (ww hw 4 rfl)) (g := (mkF m 1 (lc1 p1) [(.int p1)])) rfl (hb hby d1_1) _ (oiand X0 hx hby d1_3 (obipush X0 hx hby d1_4 (oirem X0 hx hby d1_6 (by decide) (oistoreN X0 hx hby d1_7 (lc2 p1 ((p1 &&& (2147483647 : Int32)) % (17 : Int32))) rfl k)))))) ?_
  obtain ⟨z2, hz2⟩ : ∃ z, z = ((p1 &&& (2147483647 : Int32)) % (17 : Int32)) := ⟨_, rfl⟩
  rw [← hz2]
  refine own_go (U' := s₁.setTop (mkF m 9 (lc2 p1 z2) [(.int z2)])) (fun t k => oiloadN X0 hx hby d1_8 rfl k) ?_
  have hs4 : z2 = (0 : Int32) := by rw [hz2]; exact hc3
  obtain ⟨T7, X7, e7, st7⟩ := getS2 X0 hx hZ hown (host := "") (Or.inl (ww hw 5 rfl)) Via.refl e0 F6 (g := (mkF m 12 (lc2 p1 z2) [])) rfl (hb hby d1_12)
  refine own_go (U' := T7.setTop (mkF m 214 (lc3 p1 z2 a5) [(.ref a5)])) (fun t k => oifN X0 hx hby d1_9 ((if0 _ _).trans (teq hs4).2) (st7 _ (oastoreN X7 hx hby d1_15 (lc3 p1 z2 a5) rfl rfl (ogoto (pc := 16) X7 hx hby d1_16 213 (by decide) (oaloadN X7 hx hby d1_213 rfl rfl k))))) ?_
  obtain ⟨fs, hr, hrun, hended, hW, hsame⟩ := X7.leave (v := some (.ref a5)) (fun h => by rw [Bd.returns] at h; cases h)
  refine own_out ⟨_, _, ?_, hrun, hended, _, _, rfl, ?_, ⟨_, rfl⟩, hW, hsame.mono (by decide) (by decide)⟩
  · exact retOut X7 hx Bd.returns rfl (Or.inr (Or.inr (Or.inr (Or.inr ⟨rfl, rfl, rfl⟩)))) (hb hby d1_214) hr
  · show Q1_0 Z p1 a5 a8 a10 a12 a14 a16 a18 a20 a22 a24 a26 a28 a30 a32 a34 a36 a38 h0 n0 _ T7.heap _
    rw [e7]
    exact ⟨(by simp [own_pick, hc3]), N0, rfl⟩
def Q1_1 (Z : State) (p1 : Int32) (a7 : Addr) (a10 : Addr) (a12 : Addr) (a14 : Addr) (a16 : Addr) (a18 : Addr) (a20 : Addr) (a22 : Addr) (a24 : Addr) (a26 : Addr) (a28 : Addr) (a30 : Addr) (a32 : Addr) (a34 : Addr) (a36 : Addr) (a38 : Addr) (a40 : Addr) (h0 : Heap) (n0 : Nat) (v : Option Value) (h : Heap) (L : List Loc) : Prop := v = some (.ref (own_pick ((p1 &&& (2147483647 : Int32)) % (17 : Int32)) a10 a7 a12 a14 a16 a18 a20 a22 a24 a26 a28 a30 a32 a34 a36 a38 a40)) ∧ Fr n0 L ∧ h = h0
set_option maxRecDepth 65536 in
set_option maxHeartbeats 40000000 in
theorem rm1_1 (l : Launch) (Z : State) (a0 : Array Value) (hw : ∀ d ∈ tables_1, d.before a0 Z = true) (ws : List Jvm.Cond) (p1 : Int32) (a7 : Addr) (a10 : Addr) (a12 : Addr) (a14 : Addr) (a16 : Addr) (a18 : Addr) (a20 : Addr) (a22 : Addr) (a24 : Addr) (a26 : Addr) (a28 : Addr) (a30 : Addr) (a32 : Addr) (a34 : Addr) (a36 : Addr) (a38 : Addr) (a40 : Addr) (h0 : Heap) (n0 : Nat) (Z0 : n0 ≤ h0.size) (hc3 : ¬ (((p1 &&& (2147483647 : Int32)) % (17 : Int32)) = (0 : Int32))) (hc5 : ((p1 &&& (2147483647 : Int32)) % (17 : Int32)) = (1 : Int32)) (F8 : Sta Z h0 zs0 "BOOLEAN" zs1 (.ref a7)) (F11 : Sta Z h0 zs0 "STRING" zs1 (.ref a10)) (F13 : Sta Z h0 zs0 "INTEGER" zs1 (.ref a12)) (F15 : Sta Z h0 zs0 "DOUBLE" zs1 (.ref a14)) (F17 : Sta Z h0 zs0 "TIME" zs1 (.ref a16)) (F19 : Sta Z h0 zs0 "DATE" zs1 (.ref a18)) (F21 : Sta Z h0 zs0 "DATE_TIME" zs1 (.ref a20)) (F23 : Sta Z h0 zs0 "ANY_URI" zs1 (.ref a22)) (F25 : Sta Z h0 zs0 "HEX_BINARY" zs1 (.ref a24)) (F27 : Sta Z h0 zs0 "BASE64_BINARY" zs1 (.ref a26)) (F29 : Sta Z h0 zs0 zs2 zs1 (.ref a28)) (F31 : Sta Z h0 zs0 zs3 zs1 (.ref a30)) (F33 : Sta Z h0 zs0 "X500_NAME" zs1 (.ref a32)) (F35 : Sta Z h0 zs0 "RFC822_NAME" zs1 (.ref a34)) (F37 : Sta Z h0 zs0 "IP_ADDRESS" zs1 (.ref a36)) (F39 : Sta Z h0 zs0 "DNS_NAME" zs1 (.ref a38)) (F41 : Sta Z h0 zs0 zs4 zs1 (.ref a40)) :
    MetFree l zm0 (head1 (Jvm.Cond.code zm0 method_2_code 3 (some (.object zs0)) :: ws) ({ frames := 0, cells := 0, slots := 0, locals := 0 } : Room)) (fun a U => a = #[(.int p1)] ∧ Z.Warmed39 U.vm ∧ U.heap = h0) (fun _ _ _ _ _ => True) (fun _ U o U' => ∃ v L, o = .returned v ∧ Q1_1 Z p1 a7 a10 a12 a14 a16 a18 a20 a22 a24 a26 a28 a30 a32 a34 a36 a38 a40 h0 n0 v U'.heap L ∧ FrameEnd U o U' L ({ frames := 0, cells := 0, slots := 0, locals := 0 } : Room).cells ({ frames := 0, cells := 0, slots := 0, locals := 0 } : Room).slots) := by
  refine MetFree.of_bodySF (plainFor_of_name pn_com_example_aspen_aspen_engine_ParameterAnyNumberOfPinLaw) hisR ?_
  intro p e s m args below meth c s₁ Bd hml0 hP hK
  obtain ⟨rfl, hZ, hh⟩ := hP
  have hx := Bd.exec
  have hby := Bd.bytes
  have hml : c.maxLocals = 3 := hml0
  have hown : s.vm.findClass zs5 = some m.cls := findClass_of_methodNamed Bd.named
  have hnm := (name_of_methodNamed Bd.named Bd.method).1
  have X0 : Stand p l e ({ frames := 0, cells := 0, slots := 0, locals := 0 } : Room) s m #[(.int p1)] below meth c s₁ [] 0 0 := Stand.of_body Bd
  have e0 : s₁.heap = h0 := by rw [← hh, Bd.state]; rfl
  have N0 := Fr.nil n0
  refine own_pre (g' := mkF m 0 (lc1 p1) []) (ef_0 m p1) ?_
  refine own_go (U' := s₁.setTop (mkF m 8 (lc2 p1 ((p1 &&& (2147483647 : Int32)) % (17 : Int32))) [])) (fun t k => oiloadN X0 hx hby d1_0 rfl (X0.ldcInt hx hown (mvT hZ (ww hw 4 rfl)) (g := (mkF m 1 (lc1 p1) [(.int p1)])) rfl (hb hby d1_1) _ (oiand X0 hx hby d1_3 (obipush X0 hx hby d1_4 (oirem X0 hx hby d1_6 (by decide) (oistoreN X0 hx hby d1_7 (lc2 p1 ((p1 &&& (2147483647 : Int32)) % (17 : Int32))) rfl k)))))) ?_
  obtain ⟨z2, hz2⟩ : ∃ z, z = ((p1 &&& (2147483647 : Int32)) % (17 : Int32)) := ⟨_, rfl⟩
  rw [← hz2]
  refine own_go (U' := s₁.setTop (mkF m 9 (lc2 p1 z2) [(.int z2)])) (fun t k => oiloadN X0 hx hby d1_8 rfl k) ?_
  have hs4 : ¬ (z2 = (0 : Int32)) := by rw [hz2]; exact hc3
  refine own_go (U' := s₁.setTop (mkF m 21 (lc2 p1 z2) [(.int 1), (.int z2)])) (fun t k => oifY (pc := 9) X0 hx hby d1_9 19 ((if0 _ _).trans (feq hs4).2) (by decide) (oiloadN X0 hx hby d1_19 rfl (oiconst X0 hx hby d1_20 k))) ?_
  have hs6 : z2 = (1 : Int32) := by rw [hz2]; exact hc5
  obtain ⟨T9, X9, e9, st9⟩ := getS2 X0 hx hZ hown (host := "") (Or.inl (ww hw 62 rfl)) Via.refl e0 F8 (g := (mkF m 24 (lc2 p1 z2) [])) rfl (hb hby d1_24)
  refine own_go (U' := T9.setTop (mkF m 214 (lc3 p1 z2 a7) [(.ref a7)])) (fun t k => oicN X0 hx hby d1_21 (teq hs6).2 (st9 _ (oastoreN X9 hx hby d1_27 (lc3 p1 z2 a7) rfl rfl (ogoto (pc := 28) X9 hx hby d1_28 213 (by decide) (oaloadN X9 hx hby d1_213 rfl rfl k))))) ?_
  obtain ⟨fs, hr, hrun, hended, hW, hsame⟩ := X9.leave (v := some (.ref a7)) (fun h => by rw [Bd.returns] at h; cases h)
  refine own_out ⟨_, _, ?_, hrun, hended, _, _, rfl, ?_, ⟨_, rfl⟩, hW, hsame.mono (by decide) (by decide)⟩
  · exact retOut X9 hx Bd.returns rfl (Or.inr (Or.inr (Or.inr (Or.inr ⟨rfl, rfl, rfl⟩)))) (hb hby d1_214) hr
  · show Q1_1 Z p1 a7 a10 a12 a14 a16 a18 a20 a22 a24 a26 a28 a30 a32 a34 a36 a38 a40 h0 n0 _ T9.heap _
    rw [e9]
    exact ⟨(by simp [own_pick, hc3, hc5]), N0, rfl⟩
def Q1_2 (Z : State) (p1 : Int32) (a9 : Addr) (a12 : Addr) (a14 : Addr) (a16 : Addr) (a18 : Addr) (a20 : Addr) (a22 : Addr) (a24 : Addr) (a26 : Addr) (a28 : Addr) (a30 : Addr) (a32 : Addr) (a34 : Addr) (a36 : Addr) (a38 : Addr) (a40 : Addr) (a42 : Addr) (h0 : Heap) (n0 : Nat) (v : Option Value) (h : Heap) (L : List Loc) : Prop := v = some (.ref (own_pick ((p1 &&& (2147483647 : Int32)) % (17 : Int32)) a12 a14 a9 a16 a18 a20 a22 a24 a26 a28 a30 a32 a34 a36 a38 a40 a42)) ∧ Fr n0 L ∧ h = h0
set_option maxRecDepth 65536 in
set_option maxHeartbeats 40000000 in
theorem rm1_2 (l : Launch) (Z : State) (a0 : Array Value) (hw : ∀ d ∈ tables_1, d.before a0 Z = true) (ws : List Jvm.Cond) (p1 : Int32) (a9 : Addr) (a12 : Addr) (a14 : Addr) (a16 : Addr) (a18 : Addr) (a20 : Addr) (a22 : Addr) (a24 : Addr) (a26 : Addr) (a28 : Addr) (a30 : Addr) (a32 : Addr) (a34 : Addr) (a36 : Addr) (a38 : Addr) (a40 : Addr) (a42 : Addr) (h0 : Heap) (n0 : Nat) (Z0 : n0 ≤ h0.size) (hc3 : ¬ (((p1 &&& (2147483647 : Int32)) % (17 : Int32)) = (0 : Int32))) (hc5 : ¬ (((p1 &&& (2147483647 : Int32)) % (17 : Int32)) = (1 : Int32))) (hc7 : ((p1 &&& (2147483647 : Int32)) % (17 : Int32)) = (2 : Int32)) (F10 : Sta Z h0 zs0 "INTEGER" zs1 (.ref a9)) (F13 : Sta Z h0 zs0 "STRING" zs1 (.ref a12)) (F15 : Sta Z h0 zs0 "BOOLEAN" zs1 (.ref a14)) (F17 : Sta Z h0 zs0 "DOUBLE" zs1 (.ref a16)) (F19 : Sta Z h0 zs0 "TIME" zs1 (.ref a18)) (F21 : Sta Z h0 zs0 "DATE" zs1 (.ref a20)) (F23 : Sta Z h0 zs0 "DATE_TIME" zs1 (.ref a22)) (F25 : Sta Z h0 zs0 "ANY_URI" zs1 (.ref a24)) (F27 : Sta Z h0 zs0 "HEX_BINARY" zs1 (.ref a26)) (F29 : Sta Z h0 zs0 "BASE64_BINARY" zs1 (.ref a28)) (F31 : Sta Z h0 zs0 zs2 zs1 (.ref a30)) (F33 : Sta Z h0 zs0 zs3 zs1 (.ref a32)) (F35 : Sta Z h0 zs0 "X500_NAME" zs1 (.ref a34)) (F37 : Sta Z h0 zs0 "RFC822_NAME" zs1 (.ref a36)) (F39 : Sta Z h0 zs0 "IP_ADDRESS" zs1 (.ref a38)) (F41 : Sta Z h0 zs0 "DNS_NAME" zs1 (.ref a40)) (F43 : Sta Z h0 zs0 zs4 zs1 (.ref a42)) :
    MetFree l zm0 (head1 (Jvm.Cond.code zm0 method_2_code 3 (some (.object zs0)) :: ws) ({ frames := 0, cells := 0, slots := 0, locals := 0 } : Room)) (fun a U => a = #[(.int p1)] ∧ Z.Warmed39 U.vm ∧ U.heap = h0) (fun _ _ _ _ _ => True) (fun _ U o U' => ∃ v L, o = .returned v ∧ Q1_2 Z p1 a9 a12 a14 a16 a18 a20 a22 a24 a26 a28 a30 a32 a34 a36 a38 a40 a42 h0 n0 v U'.heap L ∧ FrameEnd U o U' L ({ frames := 0, cells := 0, slots := 0, locals := 0 } : Room).cells ({ frames := 0, cells := 0, slots := 0, locals := 0 } : Room).slots) := by
  refine MetFree.of_bodySF (plainFor_of_name pn_com_example_aspen_aspen_engine_ParameterAnyNumberOfPinLaw) hisR ?_
  intro p e s m args below meth c s₁ Bd hml0 hP hK
  obtain ⟨rfl, hZ, hh⟩ := hP
  have hx := Bd.exec
  have hby := Bd.bytes
  have hml : c.maxLocals = 3 := hml0
  have hown : s.vm.findClass zs5 = some m.cls := findClass_of_methodNamed Bd.named
  have hnm := (name_of_methodNamed Bd.named Bd.method).1
  have X0 : Stand p l e ({ frames := 0, cells := 0, slots := 0, locals := 0 } : Room) s m #[(.int p1)] below meth c s₁ [] 0 0 := Stand.of_body Bd
  have e0 : s₁.heap = h0 := by rw [← hh, Bd.state]; rfl
  have N0 := Fr.nil n0
  refine own_pre (g' := mkF m 0 (lc1 p1) []) (ef_0 m p1) ?_
  refine own_go (U' := s₁.setTop (mkF m 8 (lc2 p1 ((p1 &&& (2147483647 : Int32)) % (17 : Int32))) [])) (fun t k => oiloadN X0 hx hby d1_0 rfl (X0.ldcInt hx hown (mvT hZ (ww hw 4 rfl)) (g := (mkF m 1 (lc1 p1) [(.int p1)])) rfl (hb hby d1_1) _ (oiand X0 hx hby d1_3 (obipush X0 hx hby d1_4 (oirem X0 hx hby d1_6 (by decide) (oistoreN X0 hx hby d1_7 (lc2 p1 ((p1 &&& (2147483647 : Int32)) % (17 : Int32))) rfl k)))))) ?_
  obtain ⟨z2, hz2⟩ : ∃ z, z = ((p1 &&& (2147483647 : Int32)) % (17 : Int32)) := ⟨_, rfl⟩
  rw [← hz2]
  refine own_go (U' := s₁.setTop (mkF m 9 (lc2 p1 z2) [(.int z2)])) (fun t k => oiloadN X0 hx hby d1_8 rfl k) ?_
  have hs4 : ¬ (z2 = (0 : Int32)) := by rw [hz2]; exact hc3
  refine own_go (U' := s₁.setTop (mkF m 21 (lc2 p1 z2) [(.int 1), (.int z2)])) (fun t k => oifY (pc := 9) X0 hx hby d1_9 19 ((if0 _ _).trans (feq hs4).2) (by decide) (oiloadN X0 hx hby d1_19 rfl (oiconst X0 hx hby d1_20 k))) ?_
  have hs6 : ¬ (z2 = (1 : Int32)) := by rw [hz2]; exact hc5
  refine own_go (U' := s₁.setTop (mkF m 33 (lc2 p1 z2) [(.int 2), (.int z2)])) (fun t k => oicY (pc := 21) X0 hx hby d1_21 31 (feq hs6).2 (by decide) (oiloadN X0 hx hby d1_31 rfl (oiconst X0 hx hby d1_32 k))) ?_
  have hs8 : z2 = (2 : Int32) := by rw [hz2]; exact hc7
  obtain ⟨T11, X11, e11, st11⟩ := getS2 X0 hx hZ hown (host := "") (Or.inl (ww hw 84 rfl)) Via.refl e0 F10 (g := (mkF m 36 (lc2 p1 z2) [])) rfl (hb hby d1_36)
  refine own_go (U' := T11.setTop (mkF m 214 (lc3 p1 z2 a9) [(.ref a9)])) (fun t k => oicN X0 hx hby d1_33 (teq hs8).2 (st11 _ (oastoreN X11 hx hby d1_39 (lc3 p1 z2 a9) rfl rfl (ogoto (pc := 40) X11 hx hby d1_40 213 (by decide) (oaloadN X11 hx hby d1_213 rfl rfl k))))) ?_
  obtain ⟨fs, hr, hrun, hended, hW, hsame⟩ := X11.leave (v := some (.ref a9)) (fun h => by rw [Bd.returns] at h; cases h)
  refine own_out ⟨_, _, ?_, hrun, hended, _, _, rfl, ?_, ⟨_, rfl⟩, hW, hsame.mono (by decide) (by decide)⟩
  · exact retOut X11 hx Bd.returns rfl (Or.inr (Or.inr (Or.inr (Or.inr ⟨rfl, rfl, rfl⟩)))) (hb hby d1_214) hr
  · show Q1_2 Z p1 a9 a12 a14 a16 a18 a20 a22 a24 a26 a28 a30 a32 a34 a36 a38 a40 a42 h0 n0 _ T11.heap _
    rw [e11]
    exact ⟨(by simp [own_pick, hc3, hc5, hc7]), N0, rfl⟩
def Q1_3 (Z : State) (p1 : Int32) (a11 : Addr) (a14 : Addr) (a16 : Addr) (a18 : Addr) (a20 : Addr) (a22 : Addr) (a24 : Addr) (a26 : Addr) (a28 : Addr) (a30 : Addr) (a32 : Addr) (a34 : Addr) (a36 : Addr) (a38 : Addr) (a40 : Addr) (a42 : Addr) (a44 : Addr) (h0 : Heap) (n0 : Nat) (v : Option Value) (h : Heap) (L : List Loc) : Prop := v = some (.ref (own_pick ((p1 &&& (2147483647 : Int32)) % (17 : Int32)) a14 a16 a18 a11 a20 a22 a24 a26 a28 a30 a32 a34 a36 a38 a40 a42 a44)) ∧ Fr n0 L ∧ h = h0
set_option maxRecDepth 65536 in
set_option maxHeartbeats 40000000 in
theorem rm1_3 (l : Launch) (Z : State) (a0 : Array Value) (hw : ∀ d ∈ tables_1, d.before a0 Z = true) (ws : List Jvm.Cond) (p1 : Int32) (a11 : Addr) (a14 : Addr) (a16 : Addr) (a18 : Addr) (a20 : Addr) (a22 : Addr) (a24 : Addr) (a26 : Addr) (a28 : Addr) (a30 : Addr) (a32 : Addr) (a34 : Addr) (a36 : Addr) (a38 : Addr) (a40 : Addr) (a42 : Addr) (a44 : Addr) (h0 : Heap) (n0 : Nat) (Z0 : n0 ≤ h0.size) (hc3 : ¬ (((p1 &&& (2147483647 : Int32)) % (17 : Int32)) = (0 : Int32))) (hc5 : ¬ (((p1 &&& (2147483647 : Int32)) % (17 : Int32)) = (1 : Int32))) (hc7 : ¬ (((p1 &&& (2147483647 : Int32)) % (17 : Int32)) = (2 : Int32))) (hc9 : ((p1 &&& (2147483647 : Int32)) % (17 : Int32)) = (3 : Int32)) (F12 : Sta Z h0 zs0 "DOUBLE" zs1 (.ref a11)) (F15 : Sta Z h0 zs0 "STRING" zs1 (.ref a14)) (F17 : Sta Z h0 zs0 "BOOLEAN" zs1 (.ref a16)) (F19 : Sta Z h0 zs0 "INTEGER" zs1 (.ref a18)) (F21 : Sta Z h0 zs0 "TIME" zs1 (.ref a20)) (F23 : Sta Z h0 zs0 "DATE" zs1 (.ref a22)) (F25 : Sta Z h0 zs0 "DATE_TIME" zs1 (.ref a24)) (F27 : Sta Z h0 zs0 "ANY_URI" zs1 (.ref a26)) (F29 : Sta Z h0 zs0 "HEX_BINARY" zs1 (.ref a28)) (F31 : Sta Z h0 zs0 "BASE64_BINARY" zs1 (.ref a30)) (F33 : Sta Z h0 zs0 zs2 zs1 (.ref a32)) (F35 : Sta Z h0 zs0 zs3 zs1 (.ref a34)) (F37 : Sta Z h0 zs0 "X500_NAME" zs1 (.ref a36)) (F39 : Sta Z h0 zs0 "RFC822_NAME" zs1 (.ref a38)) (F41 : Sta Z h0 zs0 "IP_ADDRESS" zs1 (.ref a40)) (F43 : Sta Z h0 zs0 "DNS_NAME" zs1 (.ref a42)) (F45 : Sta Z h0 zs0 zs4 zs1 (.ref a44)) :
    MetFree l zm0 (head1 (Jvm.Cond.code zm0 method_2_code 3 (some (.object zs0)) :: ws) ({ frames := 0, cells := 0, slots := 0, locals := 0 } : Room)) (fun a U => a = #[(.int p1)] ∧ Z.Warmed39 U.vm ∧ U.heap = h0) (fun _ _ _ _ _ => True) (fun _ U o U' => ∃ v L, o = .returned v ∧ Q1_3 Z p1 a11 a14 a16 a18 a20 a22 a24 a26 a28 a30 a32 a34 a36 a38 a40 a42 a44 h0 n0 v U'.heap L ∧ FrameEnd U o U' L ({ frames := 0, cells := 0, slots := 0, locals := 0 } : Room).cells ({ frames := 0, cells := 0, slots := 0, locals := 0 } : Room).slots) := by
  refine MetFree.of_bodySF (plainFor_of_name pn_com_example_aspen_aspen_engine_ParameterAnyNumberOfPinLaw) hisR ?_
  intro p e s m args below meth c s₁ Bd hml0 hP hK
  obtain ⟨rfl, hZ, hh⟩ := hP
  have hx := Bd.exec
  have hby := Bd.bytes
  have hml : c.maxLocals = 3 := hml0
  have hown : s.vm.findClass zs5 = some m.cls := findClass_of_methodNamed Bd.named
  have hnm := (name_of_methodNamed Bd.named Bd.method).1
  have X0 : Stand p l e ({ frames := 0, cells := 0, slots := 0, locals := 0 } : Room) s m #[(.int p1)] below meth c s₁ [] 0 0 := Stand.of_body Bd
  have e0 : s₁.heap = h0 := by rw [← hh, Bd.state]; rfl
  have N0 := Fr.nil n0
  refine own_pre (g' := mkF m 0 (lc1 p1) []) (ef_0 m p1) ?_
  refine own_go (U' := s₁.setTop (mkF m 8 (lc2 p1 ((p1 &&& (2147483647 : Int32)) % (17 : Int32))) [])) (fun t k => oiloadN X0 hx hby d1_0 rfl (X0.ldcInt hx hown (mvT hZ (ww hw 4 rfl)) (g := (mkF m 1 (lc1 p1) [(.int p1)])) rfl (hb hby d1_1) _ (oiand X0 hx hby d1_3 (obipush X0 hx hby d1_4 (oirem X0 hx hby d1_6 (by decide) (oistoreN X0 hx hby d1_7 (lc2 p1 ((p1 &&& (2147483647 : Int32)) % (17 : Int32))) rfl k)))))) ?_
  obtain ⟨z2, hz2⟩ : ∃ z, z = ((p1 &&& (2147483647 : Int32)) % (17 : Int32)) := ⟨_, rfl⟩
  rw [← hz2]
  refine own_go (U' := s₁.setTop (mkF m 9 (lc2 p1 z2) [(.int z2)])) (fun t k => oiloadN X0 hx hby d1_8 rfl k) ?_
  have hs4 : ¬ (z2 = (0 : Int32)) := by rw [hz2]; exact hc3
  refine own_go (U' := s₁.setTop (mkF m 21 (lc2 p1 z2) [(.int 1), (.int z2)])) (fun t k => oifY (pc := 9) X0 hx hby d1_9 19 ((if0 _ _).trans (feq hs4).2) (by decide) (oiloadN X0 hx hby d1_19 rfl (oiconst X0 hx hby d1_20 k))) ?_
  have hs6 : ¬ (z2 = (1 : Int32)) := by rw [hz2]; exact hc5
  refine own_go (U' := s₁.setTop (mkF m 33 (lc2 p1 z2) [(.int 2), (.int z2)])) (fun t k => oicY (pc := 21) X0 hx hby d1_21 31 (feq hs6).2 (by decide) (oiloadN X0 hx hby d1_31 rfl (oiconst X0 hx hby d1_32 k))) ?_
  have hs8 : ¬ (z2 = (2 : Int32)) := by rw [hz2]; exact hc7
  refine own_go (U' := s₁.setTop (mkF m 45 (lc2 p1 z2) [(.int 3), (.int z2)])) (fun t k => oicY (pc := 33) X0 hx hby d1_33 43 (feq hs8).2 (by decide) (oiloadN X0 hx hby d1_43 rfl (oiconst X0 hx hby d1_44 k))) ?_
  have hs10 : z2 = (3 : Int32) := by rw [hz2]; exact hc9
  obtain ⟨T13, X13, e13, st13⟩ := getS2 X0 hx hZ hown (host := "") (Or.inl (ww hw 8 rfl)) Via.refl e0 F12 (g := (mkF m 48 (lc2 p1 z2) [])) rfl (hb hby d1_48)
  refine own_go (U' := T13.setTop (mkF m 214 (lc3 p1 z2 a11) [(.ref a11)])) (fun t k => oicN X0 hx hby d1_45 (teq hs10).2 (st13 _ (oastoreN X13 hx hby d1_51 (lc3 p1 z2 a11) rfl rfl (ogoto (pc := 52) X13 hx hby d1_52 213 (by decide) (oaloadN X13 hx hby d1_213 rfl rfl k))))) ?_
  obtain ⟨fs, hr, hrun, hended, hW, hsame⟩ := X13.leave (v := some (.ref a11)) (fun h => by rw [Bd.returns] at h; cases h)
  refine own_out ⟨_, _, ?_, hrun, hended, _, _, rfl, ?_, ⟨_, rfl⟩, hW, hsame.mono (by decide) (by decide)⟩
  · exact retOut X13 hx Bd.returns rfl (Or.inr (Or.inr (Or.inr (Or.inr ⟨rfl, rfl, rfl⟩)))) (hb hby d1_214) hr
  · show Q1_3 Z p1 a11 a14 a16 a18 a20 a22 a24 a26 a28 a30 a32 a34 a36 a38 a40 a42 a44 h0 n0 _ T13.heap _
    rw [e13]
    exact ⟨(by simp [own_pick, hc3, hc5, hc7, hc9]), N0, rfl⟩
def Q1_4 (Z : State) (p1 : Int32) (a13 : Addr) (a16 : Addr) (a18 : Addr) (a20 : Addr) (a22 : Addr) (a24 : Addr) (a26 : Addr) (a28 : Addr) (a30 : Addr) (a32 : Addr) (a34 : Addr) (a36 : Addr) (a38 : Addr) (a40 : Addr) (a42 : Addr) (a44 : Addr) (a46 : Addr) (h0 : Heap) (n0 : Nat) (v : Option Value) (h : Heap) (L : List Loc) : Prop := v = some (.ref (own_pick ((p1 &&& (2147483647 : Int32)) % (17 : Int32)) a16 a18 a20 a22 a13 a24 a26 a28 a30 a32 a34 a36 a38 a40 a42 a44 a46)) ∧ Fr n0 L ∧ h = h0
set_option maxRecDepth 65536 in
set_option maxHeartbeats 40000000 in
theorem rm1_4 (l : Launch) (Z : State) (a0 : Array Value) (hw : ∀ d ∈ tables_1, d.before a0 Z = true) (ws : List Jvm.Cond) (p1 : Int32) (a13 : Addr) (a16 : Addr) (a18 : Addr) (a20 : Addr) (a22 : Addr) (a24 : Addr) (a26 : Addr) (a28 : Addr) (a30 : Addr) (a32 : Addr) (a34 : Addr) (a36 : Addr) (a38 : Addr) (a40 : Addr) (a42 : Addr) (a44 : Addr) (a46 : Addr) (h0 : Heap) (n0 : Nat) (Z0 : n0 ≤ h0.size) (hc3 : ¬ (((p1 &&& (2147483647 : Int32)) % (17 : Int32)) = (0 : Int32))) (hc5 : ¬ (((p1 &&& (2147483647 : Int32)) % (17 : Int32)) = (1 : Int32))) (hc7 : ¬ (((p1 &&& (2147483647 : Int32)) % (17 : Int32)) = (2 : Int32))) (hc9 : ¬ (((p1 &&& (2147483647 : Int32)) % (17 : Int32)) = (3 : Int32))) (hc11 : ((p1 &&& (2147483647 : Int32)) % (17 : Int32)) = (4 : Int32)) (F14 : Sta Z h0 zs0 "TIME" zs1 (.ref a13)) (F17 : Sta Z h0 zs0 "STRING" zs1 (.ref a16)) (F19 : Sta Z h0 zs0 "BOOLEAN" zs1 (.ref a18)) (F21 : Sta Z h0 zs0 "INTEGER" zs1 (.ref a20)) (F23 : Sta Z h0 zs0 "DOUBLE" zs1 (.ref a22)) (F25 : Sta Z h0 zs0 "DATE" zs1 (.ref a24)) (F27 : Sta Z h0 zs0 "DATE_TIME" zs1 (.ref a26)) (F29 : Sta Z h0 zs0 "ANY_URI" zs1 (.ref a28)) (F31 : Sta Z h0 zs0 "HEX_BINARY" zs1 (.ref a30)) (F33 : Sta Z h0 zs0 "BASE64_BINARY" zs1 (.ref a32)) (F35 : Sta Z h0 zs0 zs2 zs1 (.ref a34)) (F37 : Sta Z h0 zs0 zs3 zs1 (.ref a36)) (F39 : Sta Z h0 zs0 "X500_NAME" zs1 (.ref a38)) (F41 : Sta Z h0 zs0 "RFC822_NAME" zs1 (.ref a40)) (F43 : Sta Z h0 zs0 "IP_ADDRESS" zs1 (.ref a42)) (F45 : Sta Z h0 zs0 "DNS_NAME" zs1 (.ref a44)) (F47 : Sta Z h0 zs0 zs4 zs1 (.ref a46)) :
    MetFree l zm0 (head1 (Jvm.Cond.code zm0 method_2_code 3 (some (.object zs0)) :: ws) ({ frames := 0, cells := 0, slots := 0, locals := 0 } : Room)) (fun a U => a = #[(.int p1)] ∧ Z.Warmed39 U.vm ∧ U.heap = h0) (fun _ _ _ _ _ => True) (fun _ U o U' => ∃ v L, o = .returned v ∧ Q1_4 Z p1 a13 a16 a18 a20 a22 a24 a26 a28 a30 a32 a34 a36 a38 a40 a42 a44 a46 h0 n0 v U'.heap L ∧ FrameEnd U o U' L ({ frames := 0, cells := 0, slots := 0, locals := 0 } : Room).cells ({ frames := 0, cells := 0, slots := 0, locals := 0 } : Room).slots) := by
  refine MetFree.of_bodySF (plainFor_of_name pn_com_example_aspen_aspen_engine_ParameterAnyNumberOfPinLaw) hisR ?_
  intro p e s m args below meth c s₁ Bd hml0 hP hK
  obtain ⟨rfl, hZ, hh⟩ := hP
  have hx := Bd.exec
  have hby := Bd.bytes
  have hml : c.maxLocals = 3 := hml0
  have hown : s.vm.findClass zs5 = some m.cls := findClass_of_methodNamed Bd.named
  have hnm := (name_of_methodNamed Bd.named Bd.method).1
  have X0 : Stand p l e ({ frames := 0, cells := 0, slots := 0, locals := 0 } : Room) s m #[(.int p1)] below meth c s₁ [] 0 0 := Stand.of_body Bd
  have e0 : s₁.heap = h0 := by rw [← hh, Bd.state]; rfl
  have N0 := Fr.nil n0
  refine own_pre (g' := mkF m 0 (lc1 p1) []) (ef_0 m p1) ?_
  refine own_go (U' := s₁.setTop (mkF m 8 (lc2 p1 ((p1 &&& (2147483647 : Int32)) % (17 : Int32))) [])) (fun t k => oiloadN X0 hx hby d1_0 rfl (X0.ldcInt hx hown (mvT hZ (ww hw 4 rfl)) (g := (mkF m 1 (lc1 p1) [(.int p1)])) rfl (hb hby d1_1) _ (oiand X0 hx hby d1_3 (obipush X0 hx hby d1_4 (oirem X0 hx hby d1_6 (by decide) (oistoreN X0 hx hby d1_7 (lc2 p1 ((p1 &&& (2147483647 : Int32)) % (17 : Int32))) rfl k)))))) ?_
  obtain ⟨z2, hz2⟩ : ∃ z, z = ((p1 &&& (2147483647 : Int32)) % (17 : Int32)) := ⟨_, rfl⟩
  rw [← hz2]
  refine own_go (U' := s₁.setTop (mkF m 9 (lc2 p1 z2) [(.int z2)])) (fun t k => oiloadN X0 hx hby d1_8 rfl k) ?_
  have hs4 : ¬ (z2 = (0 : Int32)) := by rw [hz2]; exact hc3
  refine own_go (U' := s₁.setTop (mkF m 21 (lc2 p1 z2) [(.int 1), (.int z2)])) (fun t k => oifY (pc := 9) X0 hx hby d1_9 19 ((if0 _ _).trans (feq hs4).2) (by decide) (oiloadN X0 hx hby d1_19 rfl (oiconst X0 hx hby d1_20 k))) ?_
  have hs6 : ¬ (z2 = (1 : Int32)) := by rw [hz2]; exact hc5
  refine own_go (U' := s₁.setTop (mkF m 33 (lc2 p1 z2) [(.int 2), (.int z2)])) (fun t k => oicY (pc := 21) X0 hx hby d1_21 31 (feq hs6).2 (by decide) (oiloadN X0 hx hby d1_31 rfl (oiconst X0 hx hby d1_32 k))) ?_
  have hs8 : ¬ (z2 = (2 : Int32)) := by rw [hz2]; exact hc7
  refine own_go (U' := s₁.setTop (mkF m 45 (lc2 p1 z2) [(.int 3), (.int z2)])) (fun t k => oicY (pc := 33) X0 hx hby d1_33 43 (feq hs8).2 (by decide) (oiloadN X0 hx hby d1_43 rfl (oiconst X0 hx hby d1_44 k))) ?_
  have hs10 : ¬ (z2 = (3 : Int32)) := by rw [hz2]; exact hc9
  refine own_go (U' := s₁.setTop (mkF m 57 (lc2 p1 z2) [(.int 4), (.int z2)])) (fun t k => oicY (pc := 45) X0 hx hby d1_45 55 (feq hs10).2 (by decide) (oiloadN X0 hx hby d1_55 rfl (oiconst X0 hx hby d1_56 k))) ?_
  have hs12 : z2 = (4 : Int32) := by rw [hz2]; exact hc11
  obtain ⟨T15, X15, e15, st15⟩ := getS2 X0 hx hZ hown (host := "") (Or.inl (ww hw 82 rfl)) Via.refl e0 F14 (g := (mkF m 60 (lc2 p1 z2) [])) rfl (hb hby d1_60)
  refine own_go (U' := T15.setTop (mkF m 214 (lc3 p1 z2 a13) [(.ref a13)])) (fun t k => oicN X0 hx hby d1_57 (teq hs12).2 (st15 _ (oastoreN X15 hx hby d1_63 (lc3 p1 z2 a13) rfl rfl (ogoto (pc := 64) X15 hx hby d1_64 213 (by decide) (oaloadN X15 hx hby d1_213 rfl rfl k))))) ?_
  obtain ⟨fs, hr, hrun, hended, hW, hsame⟩ := X15.leave (v := some (.ref a13)) (fun h => by rw [Bd.returns] at h; cases h)
  refine own_out ⟨_, _, ?_, hrun, hended, _, _, rfl, ?_, ⟨_, rfl⟩, hW, hsame.mono (by decide) (by decide)⟩
  · exact retOut X15 hx Bd.returns rfl (Or.inr (Or.inr (Or.inr (Or.inr ⟨rfl, rfl, rfl⟩)))) (hb hby d1_214) hr
  · show Q1_4 Z p1 a13 a16 a18 a20 a22 a24 a26 a28 a30 a32 a34 a36 a38 a40 a42 a44 a46 h0 n0 _ T15.heap _
    rw [e15]
    exact ⟨(by simp [own_pick, hc3, hc5, hc7, hc9, hc11]), N0, rfl⟩
def Q1_5 (Z : State) (p1 : Int32) (a15 : Addr) (a18 : Addr) (a20 : Addr) (a22 : Addr) (a24 : Addr) (a26 : Addr) (a28 : Addr) (a30 : Addr) (a32 : Addr) (a34 : Addr) (a36 : Addr) (a38 : Addr) (a40 : Addr) (a42 : Addr) (a44 : Addr) (a46 : Addr) (a48 : Addr) (h0 : Heap) (n0 : Nat) (v : Option Value) (h : Heap) (L : List Loc) : Prop := v = some (.ref (own_pick ((p1 &&& (2147483647 : Int32)) % (17 : Int32)) a18 a20 a22 a24 a26 a15 a28 a30 a32 a34 a36 a38 a40 a42 a44 a46 a48)) ∧ Fr n0 L ∧ h = h0
set_option maxRecDepth 65536 in
set_option maxHeartbeats 40000000 in
theorem rm1_5 (l : Launch) (Z : State) (a0 : Array Value) (hw : ∀ d ∈ tables_1, d.before a0 Z = true) (ws : List Jvm.Cond) (p1 : Int32) (a15 : Addr) (a18 : Addr) (a20 : Addr) (a22 : Addr) (a24 : Addr) (a26 : Addr) (a28 : Addr) (a30 : Addr) (a32 : Addr) (a34 : Addr) (a36 : Addr) (a38 : Addr) (a40 : Addr) (a42 : Addr) (a44 : Addr) (a46 : Addr) (a48 : Addr) (h0 : Heap) (n0 : Nat) (Z0 : n0 ≤ h0.size) (hc3 : ¬ (((p1 &&& (2147483647 : Int32)) % (17 : Int32)) = (0 : Int32))) (hc5 : ¬ (((p1 &&& (2147483647 : Int32)) % (17 : Int32)) = (1 : Int32))) (hc7 : ¬ (((p1 &&& (2147483647 : Int32)) % (17 : Int32)) = (2 : Int32))) (hc9 : ¬ (((p1 &&& (2147483647 : Int32)) % (17 : Int32)) = (3 : Int32))) (hc11 : ¬ (((p1 &&& (2147483647 : Int32)) % (17 : Int32)) = (4 : Int32))) (hc13 : ((p1 &&& (2147483647 : Int32)) % (17 : Int32)) = (5 : Int32)) (F16 : Sta Z h0 zs0 "DATE" zs1 (.ref a15)) (F19 : Sta Z h0 zs0 "STRING" zs1 (.ref a18)) (F21 : Sta Z h0 zs0 "BOOLEAN" zs1 (.ref a20)) (F23 : Sta Z h0 zs0 "INTEGER" zs1 (.ref a22)) (F25 : Sta Z h0 zs0 "DOUBLE" zs1 (.ref a24)) (F27 : Sta Z h0 zs0 "TIME" zs1 (.ref a26)) (F29 : Sta Z h0 zs0 "DATE_TIME" zs1 (.ref a28)) (F31 : Sta Z h0 zs0 "ANY_URI" zs1 (.ref a30)) (F33 : Sta Z h0 zs0 "HEX_BINARY" zs1 (.ref a32)) (F35 : Sta Z h0 zs0 "BASE64_BINARY" zs1 (.ref a34)) (F37 : Sta Z h0 zs0 zs2 zs1 (.ref a36)) (F39 : Sta Z h0 zs0 zs3 zs1 (.ref a38)) (F41 : Sta Z h0 zs0 "X500_NAME" zs1 (.ref a40)) (F43 : Sta Z h0 zs0 "RFC822_NAME" zs1 (.ref a42)) (F45 : Sta Z h0 zs0 "IP_ADDRESS" zs1 (.ref a44)) (F47 : Sta Z h0 zs0 "DNS_NAME" zs1 (.ref a46)) (F49 : Sta Z h0 zs0 zs4 zs1 (.ref a48)) :
    MetFree l zm0 (head1 (Jvm.Cond.code zm0 method_2_code 3 (some (.object zs0)) :: ws) ({ frames := 0, cells := 0, slots := 0, locals := 0 } : Room)) (fun a U => a = #[(.int p1)] ∧ Z.Warmed39 U.vm ∧ U.heap = h0) (fun _ _ _ _ _ => True) (fun _ U o U' => ∃ v L, o = .returned v ∧ Q1_5 Z p1 a15 a18 a20 a22 a24 a26 a28 a30 a32 a34 a36 a38 a40 a42 a44 a46 a48 h0 n0 v U'.heap L ∧ FrameEnd U o U' L ({ frames := 0, cells := 0, slots := 0, locals := 0 } : Room).cells ({ frames := 0, cells := 0, slots := 0, locals := 0 } : Room).slots) := by
  refine MetFree.of_bodySF (plainFor_of_name pn_com_example_aspen_aspen_engine_ParameterAnyNumberOfPinLaw) hisR ?_
  intro p e s m args below meth c s₁ Bd hml0 hP hK
  obtain ⟨rfl, hZ, hh⟩ := hP
  have hx := Bd.exec
  have hby := Bd.bytes
  have hml : c.maxLocals = 3 := hml0
  have hown : s.vm.findClass zs5 = some m.cls := findClass_of_methodNamed Bd.named
  have hnm := (name_of_methodNamed Bd.named Bd.method).1
  have X0 : Stand p l e ({ frames := 0, cells := 0, slots := 0, locals := 0 } : Room) s m #[(.int p1)] below meth c s₁ [] 0 0 := Stand.of_body Bd
  have e0 : s₁.heap = h0 := by rw [← hh, Bd.state]; rfl
  have N0 := Fr.nil n0
  refine own_pre (g' := mkF m 0 (lc1 p1) []) (ef_0 m p1) ?_
  refine own_go (U' := s₁.setTop (mkF m 8 (lc2 p1 ((p1 &&& (2147483647 : Int32)) % (17 : Int32))) [])) (fun t k => oiloadN X0 hx hby d1_0 rfl (X0.ldcInt hx hown (mvT hZ (ww hw 4 rfl)) (g := (mkF m 1 (lc1 p1) [(.int p1)])) rfl (hb hby d1_1) _ (oiand X0 hx hby d1_3 (obipush X0 hx hby d1_4 (oirem X0 hx hby d1_6 (by decide) (oistoreN X0 hx hby d1_7 (lc2 p1 ((p1 &&& (2147483647 : Int32)) % (17 : Int32))) rfl k)))))) ?_
  obtain ⟨z2, hz2⟩ : ∃ z, z = ((p1 &&& (2147483647 : Int32)) % (17 : Int32)) := ⟨_, rfl⟩
  rw [← hz2]
  refine own_go (U' := s₁.setTop (mkF m 9 (lc2 p1 z2) [(.int z2)])) (fun t k => oiloadN X0 hx hby d1_8 rfl k) ?_
  have hs4 : ¬ (z2 = (0 : Int32)) := by rw [hz2]; exact hc3
  refine own_go (U' := s₁.setTop (mkF m 21 (lc2 p1 z2) [(.int 1), (.int z2)])) (fun t k => oifY (pc := 9) X0 hx hby d1_9 19 ((if0 _ _).trans (feq hs4).2) (by decide) (oiloadN X0 hx hby d1_19 rfl (oiconst X0 hx hby d1_20 k))) ?_
  have hs6 : ¬ (z2 = (1 : Int32)) := by rw [hz2]; exact hc5
  refine own_go (U' := s₁.setTop (mkF m 33 (lc2 p1 z2) [(.int 2), (.int z2)])) (fun t k => oicY (pc := 21) X0 hx hby d1_21 31 (feq hs6).2 (by decide) (oiloadN X0 hx hby d1_31 rfl (oiconst X0 hx hby d1_32 k))) ?_
  have hs8 : ¬ (z2 = (2 : Int32)) := by rw [hz2]; exact hc7
  refine own_go (U' := s₁.setTop (mkF m 45 (lc2 p1 z2) [(.int 3), (.int z2)])) (fun t k => oicY (pc := 33) X0 hx hby d1_33 43 (feq hs8).2 (by decide) (oiloadN X0 hx hby d1_43 rfl (oiconst X0 hx hby d1_44 k))) ?_
  have hs10 : ¬ (z2 = (3 : Int32)) := by rw [hz2]; exact hc9
  refine own_go (U' := s₁.setTop (mkF m 57 (lc2 p1 z2) [(.int 4), (.int z2)])) (fun t k => oicY (pc := 45) X0 hx hby d1_45 55 (feq hs10).2 (by decide) (oiloadN X0 hx hby d1_55 rfl (oiconst X0 hx hby d1_56 k))) ?_
  have hs12 : ¬ (z2 = (4 : Int32)) := by rw [hz2]; exact hc11
  refine own_go (U' := s₁.setTop (mkF m 69 (lc2 p1 z2) [(.int 5), (.int z2)])) (fun t k => oicY (pc := 57) X0 hx hby d1_57 67 (feq hs12).2 (by decide) (oiloadN X0 hx hby d1_67 rfl (oiconst X0 hx hby d1_68 k))) ?_
  have hs14 : z2 = (5 : Int32) := by rw [hz2]; exact hc13
  obtain ⟨T17, X17, e17, st17⟩ := getS2 X0 hx hZ hown (host := "") (Or.inl (ww hw 78 rfl)) Via.refl e0 F16 (g := (mkF m 72 (lc2 p1 z2) [])) rfl (hb hby d1_72)
  refine own_go (U' := T17.setTop (mkF m 214 (lc3 p1 z2 a15) [(.ref a15)])) (fun t k => oicN X0 hx hby d1_69 (teq hs14).2 (st17 _ (oastoreN X17 hx hby d1_75 (lc3 p1 z2 a15) rfl rfl (ogoto (pc := 76) X17 hx hby d1_76 213 (by decide) (oaloadN X17 hx hby d1_213 rfl rfl k))))) ?_
  obtain ⟨fs, hr, hrun, hended, hW, hsame⟩ := X17.leave (v := some (.ref a15)) (fun h => by rw [Bd.returns] at h; cases h)
  refine own_out ⟨_, _, ?_, hrun, hended, _, _, rfl, ?_, ⟨_, rfl⟩, hW, hsame.mono (by decide) (by decide)⟩
  · exact retOut X17 hx Bd.returns rfl (Or.inr (Or.inr (Or.inr (Or.inr ⟨rfl, rfl, rfl⟩)))) (hb hby d1_214) hr
  · show Q1_5 Z p1 a15 a18 a20 a22 a24 a26 a28 a30 a32 a34 a36 a38 a40 a42 a44 a46 a48 h0 n0 _ T17.heap _
    rw [e17]
    exact ⟨(by simp [own_pick, hc3, hc5, hc7, hc9, hc11, hc13]), N0, rfl⟩
def Q1_6 (Z : State) (p1 : Int32) (a17 : Addr) (a20 : Addr) (a22 : Addr) (a24 : Addr) (a26 : Addr) (a28 : Addr) (a30 : Addr) (a32 : Addr) (a34 : Addr) (a36 : Addr) (a38 : Addr) (a40 : Addr) (a42 : Addr) (a44 : Addr) (a46 : Addr) (a48 : Addr) (a50 : Addr) (h0 : Heap) (n0 : Nat) (v : Option Value) (h : Heap) (L : List Loc) : Prop := v = some (.ref (own_pick ((p1 &&& (2147483647 : Int32)) % (17 : Int32)) a20 a22 a24 a26 a28 a30 a17 a32 a34 a36 a38 a40 a42 a44 a46 a48 a50)) ∧ Fr n0 L ∧ h = h0
set_option maxRecDepth 65536 in
set_option maxHeartbeats 40000000 in
theorem rm1_6 (l : Launch) (Z : State) (a0 : Array Value) (hw : ∀ d ∈ tables_1, d.before a0 Z = true) (ws : List Jvm.Cond) (p1 : Int32) (a17 : Addr) (a20 : Addr) (a22 : Addr) (a24 : Addr) (a26 : Addr) (a28 : Addr) (a30 : Addr) (a32 : Addr) (a34 : Addr) (a36 : Addr) (a38 : Addr) (a40 : Addr) (a42 : Addr) (a44 : Addr) (a46 : Addr) (a48 : Addr) (a50 : Addr) (h0 : Heap) (n0 : Nat) (Z0 : n0 ≤ h0.size) (hc3 : ¬ (((p1 &&& (2147483647 : Int32)) % (17 : Int32)) = (0 : Int32))) (hc5 : ¬ (((p1 &&& (2147483647 : Int32)) % (17 : Int32)) = (1 : Int32))) (hc7 : ¬ (((p1 &&& (2147483647 : Int32)) % (17 : Int32)) = (2 : Int32))) (hc9 : ¬ (((p1 &&& (2147483647 : Int32)) % (17 : Int32)) = (3 : Int32))) (hc11 : ¬ (((p1 &&& (2147483647 : Int32)) % (17 : Int32)) = (4 : Int32))) (hc13 : ¬ (((p1 &&& (2147483647 : Int32)) % (17 : Int32)) = (5 : Int32))) (hc15 : ((p1 &&& (2147483647 : Int32)) % (17 : Int32)) = (6 : Int32)) (F18 : Sta Z h0 zs0 "DATE_TIME" zs1 (.ref a17)) (F21 : Sta Z h0 zs0 "STRING" zs1 (.ref a20)) (F23 : Sta Z h0 zs0 "BOOLEAN" zs1 (.ref a22)) (F25 : Sta Z h0 zs0 "INTEGER" zs1 (.ref a24)) (F27 : Sta Z h0 zs0 "DOUBLE" zs1 (.ref a26)) (F29 : Sta Z h0 zs0 "TIME" zs1 (.ref a28)) (F31 : Sta Z h0 zs0 "DATE" zs1 (.ref a30)) (F33 : Sta Z h0 zs0 "ANY_URI" zs1 (.ref a32)) (F35 : Sta Z h0 zs0 "HEX_BINARY" zs1 (.ref a34)) (F37 : Sta Z h0 zs0 "BASE64_BINARY" zs1 (.ref a36)) (F39 : Sta Z h0 zs0 zs2 zs1 (.ref a38)) (F41 : Sta Z h0 zs0 zs3 zs1 (.ref a40)) (F43 : Sta Z h0 zs0 "X500_NAME" zs1 (.ref a42)) (F45 : Sta Z h0 zs0 "RFC822_NAME" zs1 (.ref a44)) (F47 : Sta Z h0 zs0 "IP_ADDRESS" zs1 (.ref a46)) (F49 : Sta Z h0 zs0 "DNS_NAME" zs1 (.ref a48)) (F51 : Sta Z h0 zs0 zs4 zs1 (.ref a50)) :
    MetFree l zm0 (head1 (Jvm.Cond.code zm0 method_2_code 3 (some (.object zs0)) :: ws) ({ frames := 0, cells := 0, slots := 0, locals := 0 } : Room)) (fun a U => a = #[(.int p1)] ∧ Z.Warmed39 U.vm ∧ U.heap = h0) (fun _ _ _ _ _ => True) (fun _ U o U' => ∃ v L, o = .returned v ∧ Q1_6 Z p1 a17 a20 a22 a24 a26 a28 a30 a32 a34 a36 a38 a40 a42 a44 a46 a48 a50 h0 n0 v U'.heap L ∧ FrameEnd U o U' L ({ frames := 0, cells := 0, slots := 0, locals := 0 } : Room).cells ({ frames := 0, cells := 0, slots := 0, locals := 0 } : Room).slots) := by
  refine MetFree.of_bodySF (plainFor_of_name pn_com_example_aspen_aspen_engine_ParameterAnyNumberOfPinLaw) hisR ?_
  intro p e s m args below meth c s₁ Bd hml0 hP hK
  obtain ⟨rfl, hZ, hh⟩ := hP
  have hx := Bd.exec
  have hby := Bd.bytes
  have hml : c.maxLocals = 3 := hml0
  have hown : s.vm.findClass zs5 = some m.cls := findClass_of_methodNamed Bd.named
  have hnm := (name_of_methodNamed Bd.named Bd.method).1
  have X0 : Stand p l e ({ frames := 0, cells := 0, slots := 0, locals := 0 } : Room) s m #[(.int p1)] below meth c s₁ [] 0 0 := Stand.of_body Bd
  have e0 : s₁.heap = h0 := by rw [← hh, Bd.state]; rfl
  have N0 := Fr.nil n0
  refine own_pre (g' := mkF m 0 (lc1 p1) []) (ef_0 m p1) ?_
  refine own_go (U' := s₁.setTop (mkF m 8 (lc2 p1 ((p1 &&& (2147483647 : Int32)) % (17 : Int32))) [])) (fun t k => oiloadN X0 hx hby d1_0 rfl (X0.ldcInt hx hown (mvT hZ (ww hw 4 rfl)) (g := (mkF m 1 (lc1 p1) [(.int p1)])) rfl (hb hby d1_1) _ (oiand X0 hx hby d1_3 (obipush X0 hx hby d1_4 (oirem X0 hx hby d1_6 (by decide) (oistoreN X0 hx hby d1_7 (lc2 p1 ((p1 &&& (2147483647 : Int32)) % (17 : Int32))) rfl k)))))) ?_
  obtain ⟨z2, hz2⟩ : ∃ z, z = ((p1 &&& (2147483647 : Int32)) % (17 : Int32)) := ⟨_, rfl⟩
  rw [← hz2]
  refine own_go (U' := s₁.setTop (mkF m 9 (lc2 p1 z2) [(.int z2)])) (fun t k => oiloadN X0 hx hby d1_8 rfl k) ?_
  have hs4 : ¬ (z2 = (0 : Int32)) := by rw [hz2]; exact hc3
  refine own_go (U' := s₁.setTop (mkF m 21 (lc2 p1 z2) [(.int 1), (.int z2)])) (fun t k => oifY (pc := 9) X0 hx hby d1_9 19 ((if0 _ _).trans (feq hs4).2) (by decide) (oiloadN X0 hx hby d1_19 rfl (oiconst X0 hx hby d1_20 k))) ?_
  have hs6 : ¬ (z2 = (1 : Int32)) := by rw [hz2]; exact hc5
  refine own_go (U' := s₁.setTop (mkF m 33 (lc2 p1 z2) [(.int 2), (.int z2)])) (fun t k => oicY (pc := 21) X0 hx hby d1_21 31 (feq hs6).2 (by decide) (oiloadN X0 hx hby d1_31 rfl (oiconst X0 hx hby d1_32 k))) ?_
  have hs8 : ¬ (z2 = (2 : Int32)) := by rw [hz2]; exact hc7
  refine own_go (U' := s₁.setTop (mkF m 45 (lc2 p1 z2) [(.int 3), (.int z2)])) (fun t k => oicY (pc := 33) X0 hx hby d1_33 43 (feq hs8).2 (by decide) (oiloadN X0 hx hby d1_43 rfl (oiconst X0 hx hby d1_44 k))) ?_
  have hs10 : ¬ (z2 = (3 : Int32)) := by rw [hz2]; exact hc9
  refine own_go (U' := s₁.setTop (mkF m 57 (lc2 p1 z2) [(.int 4), (.int z2)])) (fun t k => oicY (pc := 45) X0 hx hby d1_45 55 (feq hs10).2 (by decide) (oiloadN X0 hx hby d1_55 rfl (oiconst X0 hx hby d1_56 k))) ?_
  have hs12 : ¬ (z2 = (4 : Int32)) := by rw [hz2]; exact hc11
  refine own_go (U' := s₁.setTop (mkF m 69 (lc2 p1 z2) [(.int 5), (.int z2)])) (fun t k => oicY (pc := 57) X0 hx hby d1_57 67 (feq hs12).2 (by decide) (oiloadN X0 hx hby d1_67 rfl (oiconst X0 hx hby d1_68 k))) ?_
  have hs14 : ¬ (z2 = (5 : Int32)) := by rw [hz2]; exact hc13
  refine own_go (U' := s₁.setTop (mkF m 82 (lc2 p1 z2) [(.int 6), (.int z2)])) (fun t k => oicY (pc := 69) X0 hx hby d1_69 79 (feq hs14).2 (by decide) (oiloadN X0 hx hby d1_79 rfl (obipush X0 hx hby d1_80 k))) ?_
  have hs16 : z2 = (6 : Int32) := by rw [hz2]; exact hc15
  obtain ⟨T19, X19, e19, st19⟩ := getS2 X0 hx hZ hown (host := "") (Or.inl (ww hw 64 rfl)) Via.refl e0 F18 (g := (mkF m 85 (lc2 p1 z2) [])) rfl (hb hby d1_85)
  refine own_go (U' := T19.setTop (mkF m 214 (lc3 p1 z2 a17) [(.ref a17)])) (fun t k => oicN X0 hx hby d1_82 (teq hs16).2 (st19 _ (oastoreN X19 hx hby d1_88 (lc3 p1 z2 a17) rfl rfl (ogoto (pc := 89) X19 hx hby d1_89 213 (by decide) (oaloadN X19 hx hby d1_213 rfl rfl k))))) ?_
  obtain ⟨fs, hr, hrun, hended, hW, hsame⟩ := X19.leave (v := some (.ref a17)) (fun h => by rw [Bd.returns] at h; cases h)
  refine own_out ⟨_, _, ?_, hrun, hended, _, _, rfl, ?_, ⟨_, rfl⟩, hW, hsame.mono (by decide) (by decide)⟩
  · exact retOut X19 hx Bd.returns rfl (Or.inr (Or.inr (Or.inr (Or.inr ⟨rfl, rfl, rfl⟩)))) (hb hby d1_214) hr
  · show Q1_6 Z p1 a17 a20 a22 a24 a26 a28 a30 a32 a34 a36 a38 a40 a42 a44 a46 a48 a50 h0 n0 _ T19.heap _
    rw [e19]
    exact ⟨(by simp [own_pick, hc3, hc5, hc7, hc9, hc11, hc13, hc15]), N0, rfl⟩
def Q1_7 (Z : State) (p1 : Int32) (a19 : Addr) (a22 : Addr) (a24 : Addr) (a26 : Addr) (a28 : Addr) (a30 : Addr) (a32 : Addr) (a34 : Addr) (a36 : Addr) (a38 : Addr) (a40 : Addr) (a42 : Addr) (a44 : Addr) (a46 : Addr) (a48 : Addr) (a50 : Addr) (a52 : Addr) (h0 : Heap) (n0 : Nat) (v : Option Value) (h : Heap) (L : List Loc) : Prop := v = some (.ref (own_pick ((p1 &&& (2147483647 : Int32)) % (17 : Int32)) a22 a24 a26 a28 a30 a32 a34 a19 a36 a38 a40 a42 a44 a46 a48 a50 a52)) ∧ Fr n0 L ∧ h = h0
set_option maxRecDepth 65536 in
set_option maxHeartbeats 40000000 in
theorem rm1_7 (l : Launch) (Z : State) (a0 : Array Value) (hw : ∀ d ∈ tables_1, d.before a0 Z = true) (ws : List Jvm.Cond) (p1 : Int32) (a19 : Addr) (a22 : Addr) (a24 : Addr) (a26 : Addr) (a28 : Addr) (a30 : Addr) (a32 : Addr) (a34 : Addr) (a36 : Addr) (a38 : Addr) (a40 : Addr) (a42 : Addr) (a44 : Addr) (a46 : Addr) (a48 : Addr) (a50 : Addr) (a52 : Addr) (h0 : Heap) (n0 : Nat) (Z0 : n0 ≤ h0.size) (hc3 : ¬ (((p1 &&& (2147483647 : Int32)) % (17 : Int32)) = (0 : Int32))) (hc5 : ¬ (((p1 &&& (2147483647 : Int32)) % (17 : Int32)) = (1 : Int32))) (hc7 : ¬ (((p1 &&& (2147483647 : Int32)) % (17 : Int32)) = (2 : Int32))) (hc9 : ¬ (((p1 &&& (2147483647 : Int32)) % (17 : Int32)) = (3 : Int32))) (hc11 : ¬ (((p1 &&& (2147483647 : Int32)) % (17 : Int32)) = (4 : Int32))) (hc13 : ¬ (((p1 &&& (2147483647 : Int32)) % (17 : Int32)) = (5 : Int32))) (hc15 : ¬ (((p1 &&& (2147483647 : Int32)) % (17 : Int32)) = (6 : Int32))) (hc17 : ((p1 &&& (2147483647 : Int32)) % (17 : Int32)) = (7 : Int32)) (F20 : Sta Z h0 zs0 "ANY_URI" zs1 (.ref a19)) (F23 : Sta Z h0 zs0 "STRING" zs1 (.ref a22)) (F25 : Sta Z h0 zs0 "BOOLEAN" zs1 (.ref a24)) (F27 : Sta Z h0 zs0 "INTEGER" zs1 (.ref a26)) (F29 : Sta Z h0 zs0 "DOUBLE" zs1 (.ref a28)) (F31 : Sta Z h0 zs0 "TIME" zs1 (.ref a30)) (F33 : Sta Z h0 zs0 "DATE" zs1 (.ref a32)) (F35 : Sta Z h0 zs0 "DATE_TIME" zs1 (.ref a34)) (F37 : Sta Z h0 zs0 "HEX_BINARY" zs1 (.ref a36)) (F39 : Sta Z h0 zs0 "BASE64_BINARY" zs1 (.ref a38)) (F41 : Sta Z h0 zs0 zs2 zs1 (.ref a40)) (F43 : Sta Z h0 zs0 zs3 zs1 (.ref a42)) (F45 : Sta Z h0 zs0 "X500_NAME" zs1 (.ref a44)) (F47 : Sta Z h0 zs0 "RFC822_NAME" zs1 (.ref a46)) (F49 : Sta Z h0 zs0 "IP_ADDRESS" zs1 (.ref a48)) (F51 : Sta Z h0 zs0 "DNS_NAME" zs1 (.ref a50)) (F53 : Sta Z h0 zs0 zs4 zs1 (.ref a52)) :
    MetFree l zm0 (head1 (Jvm.Cond.code zm0 method_2_code 3 (some (.object zs0)) :: ws) ({ frames := 0, cells := 0, slots := 0, locals := 0 } : Room)) (fun a U => a = #[(.int p1)] ∧ Z.Warmed39 U.vm ∧ U.heap = h0) (fun _ _ _ _ _ => True) (fun _ U o U' => ∃ v L, o = .returned v ∧ Q1_7 Z p1 a19 a22 a24 a26 a28 a30 a32 a34 a36 a38 a40 a42 a44 a46 a48 a50 a52 h0 n0 v U'.heap L ∧ FrameEnd U o U' L ({ frames := 0, cells := 0, slots := 0, locals := 0 } : Room).cells ({ frames := 0, cells := 0, slots := 0, locals := 0 } : Room).slots) := by
  refine MetFree.of_bodySF (plainFor_of_name pn_com_example_aspen_aspen_engine_ParameterAnyNumberOfPinLaw) hisR ?_
  intro p e s m args below meth c s₁ Bd hml0 hP hK
  obtain ⟨rfl, hZ, hh⟩ := hP
  have hx := Bd.exec
  have hby := Bd.bytes
  have hml : c.maxLocals = 3 := hml0
  have hown : s.vm.findClass zs5 = some m.cls := findClass_of_methodNamed Bd.named
  have hnm := (name_of_methodNamed Bd.named Bd.method).1
  have X0 : Stand p l e ({ frames := 0, cells := 0, slots := 0, locals := 0 } : Room) s m #[(.int p1)] below meth c s₁ [] 0 0 := Stand.of_body Bd
  have e0 : s₁.heap = h0 := by rw [← hh, Bd.state]; rfl
  have N0 := Fr.nil n0
  refine own_pre (g' := mkF m 0 (lc1 p1) []) (ef_0 m p1) ?_
  refine own_go (U' := s₁.setTop (mkF m 8 (lc2 p1 ((p1 &&& (2147483647 : Int32)) % (17 : Int32))) [])) (fun t k => oiloadN X0 hx hby d1_0 rfl (X0.ldcInt hx hown (mvT hZ (ww hw 4 rfl)) (g := (mkF m 1 (lc1 p1) [(.int p1)])) rfl (hb hby d1_1) _ (oiand X0 hx hby d1_3 (obipush X0 hx hby d1_4 (oirem X0 hx hby d1_6 (by decide) (oistoreN X0 hx hby d1_7 (lc2 p1 ((p1 &&& (2147483647 : Int32)) % (17 : Int32))) rfl k)))))) ?_
  obtain ⟨z2, hz2⟩ : ∃ z, z = ((p1 &&& (2147483647 : Int32)) % (17 : Int32)) := ⟨_, rfl⟩
  rw [← hz2]
  refine own_go (U' := s₁.setTop (mkF m 9 (lc2 p1 z2) [(.int z2)])) (fun t k => oiloadN X0 hx hby d1_8 rfl k) ?_
  have hs4 : ¬ (z2 = (0 : Int32)) := by rw [hz2]; exact hc3
  refine own_go (U' := s₁.setTop (mkF m 21 (lc2 p1 z2) [(.int 1), (.int z2)])) (fun t k => oifY (pc := 9) X0 hx hby d1_9 19 ((if0 _ _).trans (feq hs4).2) (by decide) (oiloadN X0 hx hby d1_19 rfl (oiconst X0 hx hby d1_20 k))) ?_
  have hs6 : ¬ (z2 = (1 : Int32)) := by rw [hz2]; exact hc5
  refine own_go (U' := s₁.setTop (mkF m 33 (lc2 p1 z2) [(.int 2), (.int z2)])) (fun t k => oicY (pc := 21) X0 hx hby d1_21 31 (feq hs6).2 (by decide) (oiloadN X0 hx hby d1_31 rfl (oiconst X0 hx hby d1_32 k))) ?_
  have hs8 : ¬ (z2 = (2 : Int32)) := by rw [hz2]; exact hc7
  refine own_go (U' := s₁.setTop (mkF m 45 (lc2 p1 z2) [(.int 3), (.int z2)])) (fun t k => oicY (pc := 33) X0 hx hby d1_33 43 (feq hs8).2 (by decide) (oiloadN X0 hx hby d1_43 rfl (oiconst X0 hx hby d1_44 k))) ?_
  have hs10 : ¬ (z2 = (3 : Int32)) := by rw [hz2]; exact hc9
  refine own_go (U' := s₁.setTop (mkF m 57 (lc2 p1 z2) [(.int 4), (.int z2)])) (fun t k => oicY (pc := 45) X0 hx hby d1_45 55 (feq hs10).2 (by decide) (oiloadN X0 hx hby d1_55 rfl (oiconst X0 hx hby d1_56 k))) ?_
  have hs12 : ¬ (z2 = (4 : Int32)) := by rw [hz2]; exact hc11
  refine own_go (U' := s₁.setTop (mkF m 69 (lc2 p1 z2) [(.int 5), (.int z2)])) (fun t k => oicY (pc := 57) X0 hx hby d1_57 67 (feq hs12).2 (by decide) (oiloadN X0 hx hby d1_67 rfl (oiconst X0 hx hby d1_68 k))) ?_
  have hs14 : ¬ (z2 = (5 : Int32)) := by rw [hz2]; exact hc13
  refine own_go (U' := s₁.setTop (mkF m 82 (lc2 p1 z2) [(.int 6), (.int z2)])) (fun t k => oicY (pc := 69) X0 hx hby d1_69 79 (feq hs14).2 (by decide) (oiloadN X0 hx hby d1_79 rfl (obipush X0 hx hby d1_80 k))) ?_
  have hs16 : ¬ (z2 = (6 : Int32)) := by rw [hz2]; exact hc15
  refine own_go (U' := s₁.setTop (mkF m 95 (lc2 p1 z2) [(.int 7), (.int z2)])) (fun t k => oicY (pc := 82) X0 hx hby d1_82 92 (feq hs16).2 (by decide) (oiloadN X0 hx hby d1_92 rfl (obipush X0 hx hby d1_93 k))) ?_
  have hs18 : z2 = (7 : Int32) := by rw [hz2]; exact hc17
  obtain ⟨T21, X21, e21, st21⟩ := getS2 X0 hx hZ hown (host := "") (Or.inl (ww hw 72 rfl)) Via.refl e0 F20 (g := (mkF m 98 (lc2 p1 z2) [])) rfl (hb hby d1_98)
  refine own_go (U' := T21.setTop (mkF m 214 (lc3 p1 z2 a19) [(.ref a19)])) (fun t k => oicN X0 hx hby d1_95 (teq hs18).2 (st21 _ (oastoreN X21 hx hby d1_101 (lc3 p1 z2 a19) rfl rfl (ogoto (pc := 102) X21 hx hby d1_102 213 (by decide) (oaloadN X21 hx hby d1_213 rfl rfl k))))) ?_
  obtain ⟨fs, hr, hrun, hended, hW, hsame⟩ := X21.leave (v := some (.ref a19)) (fun h => by rw [Bd.returns] at h; cases h)
  refine own_out ⟨_, _, ?_, hrun, hended, _, _, rfl, ?_, ⟨_, rfl⟩, hW, hsame.mono (by decide) (by decide)⟩
  · exact retOut X21 hx Bd.returns rfl (Or.inr (Or.inr (Or.inr (Or.inr ⟨rfl, rfl, rfl⟩)))) (hb hby d1_214) hr
  · show Q1_7 Z p1 a19 a22 a24 a26 a28 a30 a32 a34 a36 a38 a40 a42 a44 a46 a48 a50 a52 h0 n0 _ T21.heap _
    rw [e21]
    exact ⟨(by simp [own_pick, hc3, hc5, hc7, hc9, hc11, hc13, hc15, hc17]), N0, rfl⟩
def Q1_8 (Z : State) (p1 : Int32) (a21 : Addr) (a24 : Addr) (a26 : Addr) (a28 : Addr) (a30 : Addr) (a32 : Addr) (a34 : Addr) (a36 : Addr) (a38 : Addr) (a40 : Addr) (a42 : Addr) (a44 : Addr) (a46 : Addr) (a48 : Addr) (a50 : Addr) (a52 : Addr) (a54 : Addr) (h0 : Heap) (n0 : Nat) (v : Option Value) (h : Heap) (L : List Loc) : Prop := v = some (.ref (own_pick ((p1 &&& (2147483647 : Int32)) % (17 : Int32)) a24 a26 a28 a30 a32 a34 a36 a38 a21 a40 a42 a44 a46 a48 a50 a52 a54)) ∧ Fr n0 L ∧ h = h0
set_option maxRecDepth 65536 in
set_option maxHeartbeats 40000000 in
theorem rm1_8 (l : Launch) (Z : State) (a0 : Array Value) (hw : ∀ d ∈ tables_1, d.before a0 Z = true) (ws : List Jvm.Cond) (p1 : Int32) (a21 : Addr) (a24 : Addr) (a26 : Addr) (a28 : Addr) (a30 : Addr) (a32 : Addr) (a34 : Addr) (a36 : Addr) (a38 : Addr) (a40 : Addr) (a42 : Addr) (a44 : Addr) (a46 : Addr) (a48 : Addr) (a50 : Addr) (a52 : Addr) (a54 : Addr) (h0 : Heap) (n0 : Nat) (Z0 : n0 ≤ h0.size) (hc3 : ¬ (((p1 &&& (2147483647 : Int32)) % (17 : Int32)) = (0 : Int32))) (hc5 : ¬ (((p1 &&& (2147483647 : Int32)) % (17 : Int32)) = (1 : Int32))) (hc7 : ¬ (((p1 &&& (2147483647 : Int32)) % (17 : Int32)) = (2 : Int32))) (hc9 : ¬ (((p1 &&& (2147483647 : Int32)) % (17 : Int32)) = (3 : Int32))) (hc11 : ¬ (((p1 &&& (2147483647 : Int32)) % (17 : Int32)) = (4 : Int32))) (hc13 : ¬ (((p1 &&& (2147483647 : Int32)) % (17 : Int32)) = (5 : Int32))) (hc15 : ¬ (((p1 &&& (2147483647 : Int32)) % (17 : Int32)) = (6 : Int32))) (hc17 : ¬ (((p1 &&& (2147483647 : Int32)) % (17 : Int32)) = (7 : Int32))) (hc19 : ((p1 &&& (2147483647 : Int32)) % (17 : Int32)) = (8 : Int32)) (F22 : Sta Z h0 zs0 "HEX_BINARY" zs1 (.ref a21)) (F25 : Sta Z h0 zs0 "STRING" zs1 (.ref a24)) (F27 : Sta Z h0 zs0 "BOOLEAN" zs1 (.ref a26)) (F29 : Sta Z h0 zs0 "INTEGER" zs1 (.ref a28)) (F31 : Sta Z h0 zs0 "DOUBLE" zs1 (.ref a30)) (F33 : Sta Z h0 zs0 "TIME" zs1 (.ref a32)) (F35 : Sta Z h0 zs0 "DATE" zs1 (.ref a34)) (F37 : Sta Z h0 zs0 "DATE_TIME" zs1 (.ref a36)) (F39 : Sta Z h0 zs0 "ANY_URI" zs1 (.ref a38)) (F41 : Sta Z h0 zs0 "BASE64_BINARY" zs1 (.ref a40)) (F43 : Sta Z h0 zs0 zs2 zs1 (.ref a42)) (F45 : Sta Z h0 zs0 zs3 zs1 (.ref a44)) (F47 : Sta Z h0 zs0 "X500_NAME" zs1 (.ref a46)) (F49 : Sta Z h0 zs0 "RFC822_NAME" zs1 (.ref a48)) (F51 : Sta Z h0 zs0 "IP_ADDRESS" zs1 (.ref a50)) (F53 : Sta Z h0 zs0 "DNS_NAME" zs1 (.ref a52)) (F55 : Sta Z h0 zs0 zs4 zs1 (.ref a54)) :
    MetFree l zm0 (head1 (Jvm.Cond.code zm0 method_2_code 3 (some (.object zs0)) :: ws) ({ frames := 0, cells := 0, slots := 0, locals := 0 } : Room)) (fun a U => a = #[(.int p1)] ∧ Z.Warmed39 U.vm ∧ U.heap = h0) (fun _ _ _ _ _ => True) (fun _ U o U' => ∃ v L, o = .returned v ∧ Q1_8 Z p1 a21 a24 a26 a28 a30 a32 a34 a36 a38 a40 a42 a44 a46 a48 a50 a52 a54 h0 n0 v U'.heap L ∧ FrameEnd U o U' L ({ frames := 0, cells := 0, slots := 0, locals := 0 } : Room).cells ({ frames := 0, cells := 0, slots := 0, locals := 0 } : Room).slots) := by
  refine MetFree.of_bodySF (plainFor_of_name pn_com_example_aspen_aspen_engine_ParameterAnyNumberOfPinLaw) hisR ?_
  intro p e s m args below meth c s₁ Bd hml0 hP hK
  obtain ⟨rfl, hZ, hh⟩ := hP
  have hx := Bd.exec
  have hby := Bd.bytes
  have hml : c.maxLocals = 3 := hml0
  have hown : s.vm.findClass zs5 = some m.cls := findClass_of_methodNamed Bd.named
  have hnm := (name_of_methodNamed Bd.named Bd.method).1
  have X0 : Stand p l e ({ frames := 0, cells := 0, slots := 0, locals := 0 } : Room) s m #[(.int p1)] below meth c s₁ [] 0 0 := Stand.of_body Bd
  have e0 : s₁.heap = h0 := by rw [← hh, Bd.state]; rfl
  have N0 := Fr.nil n0
  refine own_pre (g' := mkF m 0 (lc1 p1) []) (ef_0 m p1) ?_
  refine own_go (U' := s₁.setTop (mkF m 8 (lc2 p1 ((p1 &&& (2147483647 : Int32)) % (17 : Int32))) [])) (fun t k => oiloadN X0 hx hby d1_0 rfl (X0.ldcInt hx hown (mvT hZ (ww hw 4 rfl)) (g := (mkF m 1 (lc1 p1) [(.int p1)])) rfl (hb hby d1_1) _ (oiand X0 hx hby d1_3 (obipush X0 hx hby d1_4 (oirem X0 hx hby d1_6 (by decide) (oistoreN X0 hx hby d1_7 (lc2 p1 ((p1 &&& (2147483647 : Int32)) % (17 : Int32))) rfl k)))))) ?_
  obtain ⟨z2, hz2⟩ : ∃ z, z = ((p1 &&& (2147483647 : Int32)) % (17 : Int32)) := ⟨_, rfl⟩
  rw [← hz2]
  refine own_go (U' := s₁.setTop (mkF m 9 (lc2 p1 z2) [(.int z2)])) (fun t k => oiloadN X0 hx hby d1_8 rfl k) ?_
  have hs4 : ¬ (z2 = (0 : Int32)) := by rw [hz2]; exact hc3
  refine own_go (U' := s₁.setTop (mkF m 21 (lc2 p1 z2) [(.int 1), (.int z2)])) (fun t k => oifY (pc := 9) X0 hx hby d1_9 19 ((if0 _ _).trans (feq hs4).2) (by decide) (oiloadN X0 hx hby d1_19 rfl (oiconst X0 hx hby d1_20 k))) ?_
  have hs6 : ¬ (z2 = (1 : Int32)) := by rw [hz2]; exact hc5
  refine own_go (U' := s₁.setTop (mkF m 33 (lc2 p1 z2) [(.int 2), (.int z2)])) (fun t k => oicY (pc := 21) X0 hx hby d1_21 31 (feq hs6).2 (by decide) (oiloadN X0 hx hby d1_31 rfl (oiconst X0 hx hby d1_32 k))) ?_
  have hs8 : ¬ (z2 = (2 : Int32)) := by rw [hz2]; exact hc7
  refine own_go (U' := s₁.setTop (mkF m 45 (lc2 p1 z2) [(.int 3), (.int z2)])) (fun t k => oicY (pc := 33) X0 hx hby d1_33 43 (feq hs8).2 (by decide) (oiloadN X0 hx hby d1_43 rfl (oiconst X0 hx hby d1_44 k))) ?_
  have hs10 : ¬ (z2 = (3 : Int32)) := by rw [hz2]; exact hc9
  refine own_go (U' := s₁.setTop (mkF m 57 (lc2 p1 z2) [(.int 4), (.int z2)])) (fun t k => oicY (pc := 45) X0 hx hby d1_45 55 (feq hs10).2 (by decide) (oiloadN X0 hx hby d1_55 rfl (oiconst X0 hx hby d1_56 k))) ?_
  have hs12 : ¬ (z2 = (4 : Int32)) := by rw [hz2]; exact hc11
  refine own_go (U' := s₁.setTop (mkF m 69 (lc2 p1 z2) [(.int 5), (.int z2)])) (fun t k => oicY (pc := 57) X0 hx hby d1_57 67 (feq hs12).2 (by decide) (oiloadN X0 hx hby d1_67 rfl (oiconst X0 hx hby d1_68 k))) ?_
  have hs14 : ¬ (z2 = (5 : Int32)) := by rw [hz2]; exact hc13
  refine own_go (U' := s₁.setTop (mkF m 82 (lc2 p1 z2) [(.int 6), (.int z2)])) (fun t k => oicY (pc := 69) X0 hx hby d1_69 79 (feq hs14).2 (by decide) (oiloadN X0 hx hby d1_79 rfl (obipush X0 hx hby d1_80 k))) ?_
  have hs16 : ¬ (z2 = (6 : Int32)) := by rw [hz2]; exact hc15
  refine own_go (U' := s₁.setTop (mkF m 95 (lc2 p1 z2) [(.int 7), (.int z2)])) (fun t k => oicY (pc := 82) X0 hx hby d1_82 92 (feq hs16).2 (by decide) (oiloadN X0 hx hby d1_92 rfl (obipush X0 hx hby d1_93 k))) ?_
  have hs18 : ¬ (z2 = (7 : Int32)) := by rw [hz2]; exact hc17
  refine own_go (U' := s₁.setTop (mkF m 108 (lc2 p1 z2) [(.int 8), (.int z2)])) (fun t k => oicY (pc := 95) X0 hx hby d1_95 105 (feq hs18).2 (by decide) (oiloadN X0 hx hby d1_105 rfl (obipush X0 hx hby d1_106 k))) ?_
  have hs20 : z2 = (8 : Int32) := by rw [hz2]; exact hc19
  obtain ⟨T23, X23, e23, st23⟩ := getS2 X0 hx hZ hown (host := "") (Or.inl (ww hw 76 rfl)) Via.refl e0 F22 (g := (mkF m 111 (lc2 p1 z2) [])) rfl (hb hby d1_111)
  refine own_go (U' := T23.setTop (mkF m 214 (lc3 p1 z2 a21) [(.ref a21)])) (fun t k => oicN X0 hx hby d1_108 (teq hs20).2 (st23 _ (oastoreN X23 hx hby d1_114 (lc3 p1 z2 a21) rfl rfl (ogoto (pc := 115) X23 hx hby d1_115 213 (by decide) (oaloadN X23 hx hby d1_213 rfl rfl k))))) ?_
  obtain ⟨fs, hr, hrun, hended, hW, hsame⟩ := X23.leave (v := some (.ref a21)) (fun h => by rw [Bd.returns] at h; cases h)
  refine own_out ⟨_, _, ?_, hrun, hended, _, _, rfl, ?_, ⟨_, rfl⟩, hW, hsame.mono (by decide) (by decide)⟩
  · exact retOut X23 hx Bd.returns rfl (Or.inr (Or.inr (Or.inr (Or.inr ⟨rfl, rfl, rfl⟩)))) (hb hby d1_214) hr
  · show Q1_8 Z p1 a21 a24 a26 a28 a30 a32 a34 a36 a38 a40 a42 a44 a46 a48 a50 a52 a54 h0 n0 _ T23.heap _
    rw [e23]
    exact ⟨(by simp [own_pick, hc3, hc5, hc7, hc9, hc11, hc13, hc15, hc17, hc19]), N0, rfl⟩
def Q1_9 (Z : State) (p1 : Int32) (a23 : Addr) (a26 : Addr) (a28 : Addr) (a30 : Addr) (a32 : Addr) (a34 : Addr) (a36 : Addr) (a38 : Addr) (a40 : Addr) (a42 : Addr) (a44 : Addr) (a46 : Addr) (a48 : Addr) (a50 : Addr) (a52 : Addr) (a54 : Addr) (a56 : Addr) (h0 : Heap) (n0 : Nat) (v : Option Value) (h : Heap) (L : List Loc) : Prop := v = some (.ref (own_pick ((p1 &&& (2147483647 : Int32)) % (17 : Int32)) a26 a28 a30 a32 a34 a36 a38 a40 a42 a23 a44 a46 a48 a50 a52 a54 a56)) ∧ Fr n0 L ∧ h = h0
set_option maxRecDepth 65536 in
set_option maxHeartbeats 40000000 in
theorem rm1_9 (l : Launch) (Z : State) (a0 : Array Value) (hw : ∀ d ∈ tables_1, d.before a0 Z = true) (ws : List Jvm.Cond) (p1 : Int32) (a23 : Addr) (a26 : Addr) (a28 : Addr) (a30 : Addr) (a32 : Addr) (a34 : Addr) (a36 : Addr) (a38 : Addr) (a40 : Addr) (a42 : Addr) (a44 : Addr) (a46 : Addr) (a48 : Addr) (a50 : Addr) (a52 : Addr) (a54 : Addr) (a56 : Addr) (h0 : Heap) (n0 : Nat) (Z0 : n0 ≤ h0.size) (hc3 : ¬ (((p1 &&& (2147483647 : Int32)) % (17 : Int32)) = (0 : Int32))) (hc5 : ¬ (((p1 &&& (2147483647 : Int32)) % (17 : Int32)) = (1 : Int32))) (hc7 : ¬ (((p1 &&& (2147483647 : Int32)) % (17 : Int32)) = (2 : Int32))) (hc9 : ¬ (((p1 &&& (2147483647 : Int32)) % (17 : Int32)) = (3 : Int32))) (hc11 : ¬ (((p1 &&& (2147483647 : Int32)) % (17 : Int32)) = (4 : Int32))) (hc13 : ¬ (((p1 &&& (2147483647 : Int32)) % (17 : Int32)) = (5 : Int32))) (hc15 : ¬ (((p1 &&& (2147483647 : Int32)) % (17 : Int32)) = (6 : Int32))) (hc17 : ¬ (((p1 &&& (2147483647 : Int32)) % (17 : Int32)) = (7 : Int32))) (hc19 : ¬ (((p1 &&& (2147483647 : Int32)) % (17 : Int32)) = (8 : Int32))) (hc21 : ((p1 &&& (2147483647 : Int32)) % (17 : Int32)) = (9 : Int32)) (F24 : Sta Z h0 zs0 "BASE64_BINARY" zs1 (.ref a23)) (F27 : Sta Z h0 zs0 "STRING" zs1 (.ref a26)) (F29 : Sta Z h0 zs0 "BOOLEAN" zs1 (.ref a28)) (F31 : Sta Z h0 zs0 "INTEGER" zs1 (.ref a30)) (F33 : Sta Z h0 zs0 "DOUBLE" zs1 (.ref a32)) (F35 : Sta Z h0 zs0 "TIME" zs1 (.ref a34)) (F37 : Sta Z h0 zs0 "DATE" zs1 (.ref a36)) (F39 : Sta Z h0 zs0 "DATE_TIME" zs1 (.ref a38)) (F41 : Sta Z h0 zs0 "ANY_URI" zs1 (.ref a40)) (F43 : Sta Z h0 zs0 "HEX_BINARY" zs1 (.ref a42)) (F45 : Sta Z h0 zs0 zs2 zs1 (.ref a44)) (F47 : Sta Z h0 zs0 zs3 zs1 (.ref a46)) (F49 : Sta Z h0 zs0 "X500_NAME" zs1 (.ref a48)) (F51 : Sta Z h0 zs0 "RFC822_NAME" zs1 (.ref a50)) (F53 : Sta Z h0 zs0 "IP_ADDRESS" zs1 (.ref a52)) (F55 : Sta Z h0 zs0 "DNS_NAME" zs1 (.ref a54)) (F57 : Sta Z h0 zs0 zs4 zs1 (.ref a56)) :
    MetFree l zm0 (head1 (Jvm.Cond.code zm0 method_2_code 3 (some (.object zs0)) :: ws) ({ frames := 0, cells := 0, slots := 0, locals := 0 } : Room)) (fun a U => a = #[(.int p1)] ∧ Z.Warmed39 U.vm ∧ U.heap = h0) (fun _ _ _ _ _ => True) (fun _ U o U' => ∃ v L, o = .returned v ∧ Q1_9 Z p1 a23 a26 a28 a30 a32 a34 a36 a38 a40 a42 a44 a46 a48 a50 a52 a54 a56 h0 n0 v U'.heap L ∧ FrameEnd U o U' L ({ frames := 0, cells := 0, slots := 0, locals := 0 } : Room).cells ({ frames := 0, cells := 0, slots := 0, locals := 0 } : Room).slots) := by
  refine MetFree.of_bodySF (plainFor_of_name pn_com_example_aspen_aspen_engine_ParameterAnyNumberOfPinLaw) hisR ?_
  intro p e s m args below meth c s₁ Bd hml0 hP hK
  obtain ⟨rfl, hZ, hh⟩ := hP
  have hx := Bd.exec
  have hby := Bd.bytes
  have hml : c.maxLocals = 3 := hml0
  have hown : s.vm.findClass zs5 = some m.cls := findClass_of_methodNamed Bd.named
  have hnm := (name_of_methodNamed Bd.named Bd.method).1
  have X0 : Stand p l e ({ frames := 0, cells := 0, slots := 0, locals := 0 } : Room) s m #[(.int p1)] below meth c s₁ [] 0 0 := Stand.of_body Bd
  have e0 : s₁.heap = h0 := by rw [← hh, Bd.state]; rfl
  have N0 := Fr.nil n0
  refine own_pre (g' := mkF m 0 (lc1 p1) []) (ef_0 m p1) ?_
  refine own_go (U' := s₁.setTop (mkF m 8 (lc2 p1 ((p1 &&& (2147483647 : Int32)) % (17 : Int32))) [])) (fun t k => oiloadN X0 hx hby d1_0 rfl (X0.ldcInt hx hown (mvT hZ (ww hw 4 rfl)) (g := (mkF m 1 (lc1 p1) [(.int p1)])) rfl (hb hby d1_1) _ (oiand X0 hx hby d1_3 (obipush X0 hx hby d1_4 (oirem X0 hx hby d1_6 (by decide) (oistoreN X0 hx hby d1_7 (lc2 p1 ((p1 &&& (2147483647 : Int32)) % (17 : Int32))) rfl k)))))) ?_
  obtain ⟨z2, hz2⟩ : ∃ z, z = ((p1 &&& (2147483647 : Int32)) % (17 : Int32)) := ⟨_, rfl⟩
  rw [← hz2]
  refine own_go (U' := s₁.setTop (mkF m 9 (lc2 p1 z2) [(.int z2)])) (fun t k => oiloadN X0 hx hby d1_8 rfl k) ?_
  have hs4 : ¬ (z2 = (0 : Int32)) := by rw [hz2]; exact hc3
  refine own_go (U' := s₁.setTop (mkF m 21 (lc2 p1 z2) [(.int 1), (.int z2)])) (fun t k => oifY (pc := 9) X0 hx hby d1_9 19 ((if0 _ _).trans (feq hs4).2) (by decide) (oiloadN X0 hx hby d1_19 rfl (oiconst X0 hx hby d1_20 k))) ?_
  have hs6 : ¬ (z2 = (1 : Int32)) := by rw [hz2]; exact hc5
  refine own_go (U' := s₁.setTop (mkF m 33 (lc2 p1 z2) [(.int 2), (.int z2)])) (fun t k => oicY (pc := 21) X0 hx hby d1_21 31 (feq hs6).2 (by decide) (oiloadN X0 hx hby d1_31 rfl (oiconst X0 hx hby d1_32 k))) ?_
  have hs8 : ¬ (z2 = (2 : Int32)) := by rw [hz2]; exact hc7
  refine own_go (U' := s₁.setTop (mkF m 45 (lc2 p1 z2) [(.int 3), (.int z2)])) (fun t k => oicY (pc := 33) X0 hx hby d1_33 43 (feq hs8).2 (by decide) (oiloadN X0 hx hby d1_43 rfl (oiconst X0 hx hby d1_44 k))) ?_
  have hs10 : ¬ (z2 = (3 : Int32)) := by rw [hz2]; exact hc9
  refine own_go (U' := s₁.setTop (mkF m 57 (lc2 p1 z2) [(.int 4), (.int z2)])) (fun t k => oicY (pc := 45) X0 hx hby d1_45 55 (feq hs10).2 (by decide) (oiloadN X0 hx hby d1_55 rfl (oiconst X0 hx hby d1_56 k))) ?_
  have hs12 : ¬ (z2 = (4 : Int32)) := by rw [hz2]; exact hc11
  refine own_go (U' := s₁.setTop (mkF m 69 (lc2 p1 z2) [(.int 5), (.int z2)])) (fun t k => oicY (pc := 57) X0 hx hby d1_57 67 (feq hs12).2 (by decide) (oiloadN X0 hx hby d1_67 rfl (oiconst X0 hx hby d1_68 k))) ?_
  have hs14 : ¬ (z2 = (5 : Int32)) := by rw [hz2]; exact hc13
  refine own_go (U' := s₁.setTop (mkF m 82 (lc2 p1 z2) [(.int 6), (.int z2)])) (fun t k => oicY (pc := 69) X0 hx hby d1_69 79 (feq hs14).2 (by decide) (oiloadN X0 hx hby d1_79 rfl (obipush X0 hx hby d1_80 k))) ?_
  have hs16 : ¬ (z2 = (6 : Int32)) := by rw [hz2]; exact hc15
  refine own_go (U' := s₁.setTop (mkF m 95 (lc2 p1 z2) [(.int 7), (.int z2)])) (fun t k => oicY (pc := 82) X0 hx hby d1_82 92 (feq hs16).2 (by decide) (oiloadN X0 hx hby d1_92 rfl (obipush X0 hx hby d1_93 k))) ?_
  have hs18 : ¬ (z2 = (7 : Int32)) := by rw [hz2]; exact hc17
  refine own_go (U' := s₁.setTop (mkF m 108 (lc2 p1 z2) [(.int 8), (.int z2)])) (fun t k => oicY (pc := 95) X0 hx hby d1_95 105 (feq hs18).2 (by decide) (oiloadN X0 hx hby d1_105 rfl (obipush X0 hx hby d1_106 k))) ?_
  have hs20 : ¬ (z2 = (8 : Int32)) := by rw [hz2]; exact hc19
  refine own_go (U' := s₁.setTop (mkF m 121 (lc2 p1 z2) [(.int 9), (.int z2)])) (fun t k => oicY (pc := 108) X0 hx hby d1_108 118 (feq hs20).2 (by decide) (oiloadN X0 hx hby d1_118 rfl (obipush X0 hx hby d1_119 k))) ?_
  have hs22 : z2 = (9 : Int32) := by rw [hz2]; exact hc21
  obtain ⟨T25, X25, e25, st25⟩ := getS2 X0 hx hZ hown (host := "") (Or.inl (ww hw 70 rfl)) Via.refl e0 F24 (g := (mkF m 124 (lc2 p1 z2) [])) rfl (hb hby d1_124)
  refine own_go (U' := T25.setTop (mkF m 214 (lc3 p1 z2 a23) [(.ref a23)])) (fun t k => oicN X0 hx hby d1_121 (teq hs22).2 (st25 _ (oastoreN X25 hx hby d1_127 (lc3 p1 z2 a23) rfl rfl (ogoto (pc := 128) X25 hx hby d1_128 213 (by decide) (oaloadN X25 hx hby d1_213 rfl rfl k))))) ?_
  obtain ⟨fs, hr, hrun, hended, hW, hsame⟩ := X25.leave (v := some (.ref a23)) (fun h => by rw [Bd.returns] at h; cases h)
  refine own_out ⟨_, _, ?_, hrun, hended, _, _, rfl, ?_, ⟨_, rfl⟩, hW, hsame.mono (by decide) (by decide)⟩
  · exact retOut X25 hx Bd.returns rfl (Or.inr (Or.inr (Or.inr (Or.inr ⟨rfl, rfl, rfl⟩)))) (hb hby d1_214) hr
  · show Q1_9 Z p1 a23 a26 a28 a30 a32 a34 a36 a38 a40 a42 a44 a46 a48 a50 a52 a54 a56 h0 n0 _ T25.heap _
    rw [e25]
    exact ⟨(by simp [own_pick, hc3, hc5, hc7, hc9, hc11, hc13, hc15, hc17, hc19, hc21]), N0, rfl⟩
def Q1_10 (Z : State) (p1 : Int32) (a25 : Addr) (a28 : Addr) (a30 : Addr) (a32 : Addr) (a34 : Addr) (a36 : Addr) (a38 : Addr) (a40 : Addr) (a42 : Addr) (a44 : Addr) (a46 : Addr) (a48 : Addr) (a50 : Addr) (a52 : Addr) (a54 : Addr) (a56 : Addr) (a58 : Addr) (h0 : Heap) (n0 : Nat) (v : Option Value) (h : Heap) (L : List Loc) : Prop := v = some (.ref (own_pick ((p1 &&& (2147483647 : Int32)) % (17 : Int32)) a28 a30 a32 a34 a36 a38 a40 a42 a44 a46 a25 a48 a50 a52 a54 a56 a58)) ∧ Fr n0 L ∧ h = h0
set_option maxRecDepth 65536 in
set_option maxHeartbeats 40000000 in
theorem rm1_10 (l : Launch) (Z : State) (a0 : Array Value) (hw : ∀ d ∈ tables_1, d.before a0 Z = true) (ws : List Jvm.Cond) (p1 : Int32) (a25 : Addr) (a28 : Addr) (a30 : Addr) (a32 : Addr) (a34 : Addr) (a36 : Addr) (a38 : Addr) (a40 : Addr) (a42 : Addr) (a44 : Addr) (a46 : Addr) (a48 : Addr) (a50 : Addr) (a52 : Addr) (a54 : Addr) (a56 : Addr) (a58 : Addr) (h0 : Heap) (n0 : Nat) (Z0 : n0 ≤ h0.size) (hc3 : ¬ (((p1 &&& (2147483647 : Int32)) % (17 : Int32)) = (0 : Int32))) (hc5 : ¬ (((p1 &&& (2147483647 : Int32)) % (17 : Int32)) = (1 : Int32))) (hc7 : ¬ (((p1 &&& (2147483647 : Int32)) % (17 : Int32)) = (2 : Int32))) (hc9 : ¬ (((p1 &&& (2147483647 : Int32)) % (17 : Int32)) = (3 : Int32))) (hc11 : ¬ (((p1 &&& (2147483647 : Int32)) % (17 : Int32)) = (4 : Int32))) (hc13 : ¬ (((p1 &&& (2147483647 : Int32)) % (17 : Int32)) = (5 : Int32))) (hc15 : ¬ (((p1 &&& (2147483647 : Int32)) % (17 : Int32)) = (6 : Int32))) (hc17 : ¬ (((p1 &&& (2147483647 : Int32)) % (17 : Int32)) = (7 : Int32))) (hc19 : ¬ (((p1 &&& (2147483647 : Int32)) % (17 : Int32)) = (8 : Int32))) (hc21 : ¬ (((p1 &&& (2147483647 : Int32)) % (17 : Int32)) = (9 : Int32))) (hc23 : ((p1 &&& (2147483647 : Int32)) % (17 : Int32)) = (10 : Int32)) (F26 : Sta Z h0 zs0 zs2 zs1 (.ref a25)) (F29 : Sta Z h0 zs0 "STRING" zs1 (.ref a28)) (F31 : Sta Z h0 zs0 "BOOLEAN" zs1 (.ref a30)) (F33 : Sta Z h0 zs0 "INTEGER" zs1 (.ref a32)) (F35 : Sta Z h0 zs0 "DOUBLE" zs1 (.ref a34)) (F37 : Sta Z h0 zs0 "TIME" zs1 (.ref a36)) (F39 : Sta Z h0 zs0 "DATE" zs1 (.ref a38)) (F41 : Sta Z h0 zs0 "DATE_TIME" zs1 (.ref a40)) (F43 : Sta Z h0 zs0 "ANY_URI" zs1 (.ref a42)) (F45 : Sta Z h0 zs0 "HEX_BINARY" zs1 (.ref a44)) (F47 : Sta Z h0 zs0 "BASE64_BINARY" zs1 (.ref a46)) (F49 : Sta Z h0 zs0 zs3 zs1 (.ref a48)) (F51 : Sta Z h0 zs0 "X500_NAME" zs1 (.ref a50)) (F53 : Sta Z h0 zs0 "RFC822_NAME" zs1 (.ref a52)) (F55 : Sta Z h0 zs0 "IP_ADDRESS" zs1 (.ref a54)) (F57 : Sta Z h0 zs0 "DNS_NAME" zs1 (.ref a56)) (F59 : Sta Z h0 zs0 zs4 zs1 (.ref a58)) :
    MetFree l zm0 (head1 (Jvm.Cond.code zm0 method_2_code 3 (some (.object zs0)) :: ws) ({ frames := 0, cells := 0, slots := 0, locals := 0 } : Room)) (fun a U => a = #[(.int p1)] ∧ Z.Warmed39 U.vm ∧ U.heap = h0) (fun _ _ _ _ _ => True) (fun _ U o U' => ∃ v L, o = .returned v ∧ Q1_10 Z p1 a25 a28 a30 a32 a34 a36 a38 a40 a42 a44 a46 a48 a50 a52 a54 a56 a58 h0 n0 v U'.heap L ∧ FrameEnd U o U' L ({ frames := 0, cells := 0, slots := 0, locals := 0 } : Room).cells ({ frames := 0, cells := 0, slots := 0, locals := 0 } : Room).slots) := by
  refine MetFree.of_bodySF (plainFor_of_name pn_com_example_aspen_aspen_engine_ParameterAnyNumberOfPinLaw) hisR ?_
  intro p e s m args below meth c s₁ Bd hml0 hP hK
  obtain ⟨rfl, hZ, hh⟩ := hP
  have hx := Bd.exec
  have hby := Bd.bytes
  have hml : c.maxLocals = 3 := hml0
  have hown : s.vm.findClass zs5 = some m.cls := findClass_of_methodNamed Bd.named
  have hnm := (name_of_methodNamed Bd.named Bd.method).1
  have X0 : Stand p l e ({ frames := 0, cells := 0, slots := 0, locals := 0 } : Room) s m #[(.int p1)] below meth c s₁ [] 0 0 := Stand.of_body Bd
  have e0 : s₁.heap = h0 := by rw [← hh, Bd.state]; rfl
  have N0 := Fr.nil n0
  refine own_pre (g' := mkF m 0 (lc1 p1) []) (ef_0 m p1) ?_
  refine own_go (U' := s₁.setTop (mkF m 8 (lc2 p1 ((p1 &&& (2147483647 : Int32)) % (17 : Int32))) [])) (fun t k => oiloadN X0 hx hby d1_0 rfl (X0.ldcInt hx hown (mvT hZ (ww hw 4 rfl)) (g := (mkF m 1 (lc1 p1) [(.int p1)])) rfl (hb hby d1_1) _ (oiand X0 hx hby d1_3 (obipush X0 hx hby d1_4 (oirem X0 hx hby d1_6 (by decide) (oistoreN X0 hx hby d1_7 (lc2 p1 ((p1 &&& (2147483647 : Int32)) % (17 : Int32))) rfl k)))))) ?_
  obtain ⟨z2, hz2⟩ : ∃ z, z = ((p1 &&& (2147483647 : Int32)) % (17 : Int32)) := ⟨_, rfl⟩
  rw [← hz2]
  refine own_go (U' := s₁.setTop (mkF m 9 (lc2 p1 z2) [(.int z2)])) (fun t k => oiloadN X0 hx hby d1_8 rfl k) ?_
  have hs4 : ¬ (z2 = (0 : Int32)) := by rw [hz2]; exact hc3
  refine own_go (U' := s₁.setTop (mkF m 21 (lc2 p1 z2) [(.int 1), (.int z2)])) (fun t k => oifY (pc := 9) X0 hx hby d1_9 19 ((if0 _ _).trans (feq hs4).2) (by decide) (oiloadN X0 hx hby d1_19 rfl (oiconst X0 hx hby d1_20 k))) ?_
  have hs6 : ¬ (z2 = (1 : Int32)) := by rw [hz2]; exact hc5
  refine own_go (U' := s₁.setTop (mkF m 33 (lc2 p1 z2) [(.int 2), (.int z2)])) (fun t k => oicY (pc := 21) X0 hx hby d1_21 31 (feq hs6).2 (by decide) (oiloadN X0 hx hby d1_31 rfl (oiconst X0 hx hby d1_32 k))) ?_
  have hs8 : ¬ (z2 = (2 : Int32)) := by rw [hz2]; exact hc7
  refine own_go (U' := s₁.setTop (mkF m 45 (lc2 p1 z2) [(.int 3), (.int z2)])) (fun t k => oicY (pc := 33) X0 hx hby d1_33 43 (feq hs8).2 (by decide) (oiloadN X0 hx hby d1_43 rfl (oiconst X0 hx hby d1_44 k))) ?_
  have hs10 : ¬ (z2 = (3 : Int32)) := by rw [hz2]; exact hc9
  refine own_go (U' := s₁.setTop (mkF m 57 (lc2 p1 z2) [(.int 4), (.int z2)])) (fun t k => oicY (pc := 45) X0 hx hby d1_45 55 (feq hs10).2 (by decide) (oiloadN X0 hx hby d1_55 rfl (oiconst X0 hx hby d1_56 k))) ?_
  have hs12 : ¬ (z2 = (4 : Int32)) := by rw [hz2]; exact hc11
  refine own_go (U' := s₁.setTop (mkF m 69 (lc2 p1 z2) [(.int 5), (.int z2)])) (fun t k => oicY (pc := 57) X0 hx hby d1_57 67 (feq hs12).2 (by decide) (oiloadN X0 hx hby d1_67 rfl (oiconst X0 hx hby d1_68 k))) ?_
  have hs14 : ¬ (z2 = (5 : Int32)) := by rw [hz2]; exact hc13
  refine own_go (U' := s₁.setTop (mkF m 82 (lc2 p1 z2) [(.int 6), (.int z2)])) (fun t k => oicY (pc := 69) X0 hx hby d1_69 79 (feq hs14).2 (by decide) (oiloadN X0 hx hby d1_79 rfl (obipush X0 hx hby d1_80 k))) ?_
  have hs16 : ¬ (z2 = (6 : Int32)) := by rw [hz2]; exact hc15
  refine own_go (U' := s₁.setTop (mkF m 95 (lc2 p1 z2) [(.int 7), (.int z2)])) (fun t k => oicY (pc := 82) X0 hx hby d1_82 92 (feq hs16).2 (by decide) (oiloadN X0 hx hby d1_92 rfl (obipush X0 hx hby d1_93 k))) ?_
  have hs18 : ¬ (z2 = (7 : Int32)) := by rw [hz2]; exact hc17
  refine own_go (U' := s₁.setTop (mkF m 108 (lc2 p1 z2) [(.int 8), (.int z2)])) (fun t k => oicY (pc := 95) X0 hx hby d1_95 105 (feq hs18).2 (by decide) (oiloadN X0 hx hby d1_105 rfl (obipush X0 hx hby d1_106 k))) ?_
  have hs20 : ¬ (z2 = (8 : Int32)) := by rw [hz2]; exact hc19
  refine own_go (U' := s₁.setTop (mkF m 121 (lc2 p1 z2) [(.int 9), (.int z2)])) (fun t k => oicY (pc := 108) X0 hx hby d1_108 118 (feq hs20).2 (by decide) (oiloadN X0 hx hby d1_118 rfl (obipush X0 hx hby d1_119 k))) ?_
  have hs22 : ¬ (z2 = (9 : Int32)) := by rw [hz2]; exact hc21
  refine own_go (U' := s₁.setTop (mkF m 134 (lc2 p1 z2) [(.int 10), (.int z2)])) (fun t k => oicY (pc := 121) X0 hx hby d1_121 131 (feq hs22).2 (by decide) (oiloadN X0 hx hby d1_131 rfl (obipush X0 hx hby d1_132 k))) ?_
  have hs24 : z2 = (10 : Int32) := by rw [hz2]; exact hc23
  obtain ⟨T27, X27, e27, st27⟩ := getS2 X0 hx hZ hown (host := "") (Or.inl (ww hw 88 rfl)) Via.refl e0 F26 (g := (mkF m 137 (lc2 p1 z2) [])) rfl (hb hby d1_137)
  refine own_go (U' := T27.setTop (mkF m 214 (lc3 p1 z2 a25) [(.ref a25)])) (fun t k => oicN X0 hx hby d1_134 (teq hs24).2 (st27 _ (oastoreN X27 hx hby d1_140 (lc3 p1 z2 a25) rfl rfl (ogoto (pc := 141) X27 hx hby d1_141 213 (by decide) (oaloadN X27 hx hby d1_213 rfl rfl k))))) ?_
  obtain ⟨fs, hr, hrun, hended, hW, hsame⟩ := X27.leave (v := some (.ref a25)) (fun h => by rw [Bd.returns] at h; cases h)
  refine own_out ⟨_, _, ?_, hrun, hended, _, _, rfl, ?_, ⟨_, rfl⟩, hW, hsame.mono (by decide) (by decide)⟩
  · exact retOut X27 hx Bd.returns rfl (Or.inr (Or.inr (Or.inr (Or.inr ⟨rfl, rfl, rfl⟩)))) (hb hby d1_214) hr
  · show Q1_10 Z p1 a25 a28 a30 a32 a34 a36 a38 a40 a42 a44 a46 a48 a50 a52 a54 a56 a58 h0 n0 _ T27.heap _
    rw [e27]
    exact ⟨(by simp [own_pick, hc3, hc5, hc7, hc9, hc11, hc13, hc15, hc17, hc19, hc21, hc23]), N0, rfl⟩
def Q1_11 (Z : State) (p1 : Int32) (a27 : Addr) (a30 : Addr) (a32 : Addr) (a34 : Addr) (a36 : Addr) (a38 : Addr) (a40 : Addr) (a42 : Addr) (a44 : Addr) (a46 : Addr) (a48 : Addr) (a50 : Addr) (a52 : Addr) (a54 : Addr) (a56 : Addr) (a58 : Addr) (a60 : Addr) (h0 : Heap) (n0 : Nat) (v : Option Value) (h : Heap) (L : List Loc) : Prop := v = some (.ref (own_pick ((p1 &&& (2147483647 : Int32)) % (17 : Int32)) a30 a32 a34 a36 a38 a40 a42 a44 a46 a48 a50 a27 a52 a54 a56 a58 a60)) ∧ Fr n0 L ∧ h = h0
set_option maxRecDepth 65536 in
set_option maxHeartbeats 40000000 in
theorem rm1_11 (l : Launch) (Z : State) (a0 : Array Value) (hw : ∀ d ∈ tables_1, d.before a0 Z = true) (ws : List Jvm.Cond) (p1 : Int32) (a27 : Addr) (a30 : Addr) (a32 : Addr) (a34 : Addr) (a36 : Addr) (a38 : Addr) (a40 : Addr) (a42 : Addr) (a44 : Addr) (a46 : Addr) (a48 : Addr) (a50 : Addr) (a52 : Addr) (a54 : Addr) (a56 : Addr) (a58 : Addr) (a60 : Addr) (h0 : Heap) (n0 : Nat) (Z0 : n0 ≤ h0.size) (hc3 : ¬ (((p1 &&& (2147483647 : Int32)) % (17 : Int32)) = (0 : Int32))) (hc5 : ¬ (((p1 &&& (2147483647 : Int32)) % (17 : Int32)) = (1 : Int32))) (hc7 : ¬ (((p1 &&& (2147483647 : Int32)) % (17 : Int32)) = (2 : Int32))) (hc9 : ¬ (((p1 &&& (2147483647 : Int32)) % (17 : Int32)) = (3 : Int32))) (hc11 : ¬ (((p1 &&& (2147483647 : Int32)) % (17 : Int32)) = (4 : Int32))) (hc13 : ¬ (((p1 &&& (2147483647 : Int32)) % (17 : Int32)) = (5 : Int32))) (hc15 : ¬ (((p1 &&& (2147483647 : Int32)) % (17 : Int32)) = (6 : Int32))) (hc17 : ¬ (((p1 &&& (2147483647 : Int32)) % (17 : Int32)) = (7 : Int32))) (hc19 : ¬ (((p1 &&& (2147483647 : Int32)) % (17 : Int32)) = (8 : Int32))) (hc21 : ¬ (((p1 &&& (2147483647 : Int32)) % (17 : Int32)) = (9 : Int32))) (hc23 : ¬ (((p1 &&& (2147483647 : Int32)) % (17 : Int32)) = (10 : Int32))) (hc25 : ((p1 &&& (2147483647 : Int32)) % (17 : Int32)) = (11 : Int32)) (F28 : Sta Z h0 zs0 zs3 zs1 (.ref a27)) (F31 : Sta Z h0 zs0 "STRING" zs1 (.ref a30)) (F33 : Sta Z h0 zs0 "BOOLEAN" zs1 (.ref a32)) (F35 : Sta Z h0 zs0 "INTEGER" zs1 (.ref a34)) (F37 : Sta Z h0 zs0 "DOUBLE" zs1 (.ref a36)) (F39 : Sta Z h0 zs0 "TIME" zs1 (.ref a38)) (F41 : Sta Z h0 zs0 "DATE" zs1 (.ref a40)) (F43 : Sta Z h0 zs0 "DATE_TIME" zs1 (.ref a42)) (F45 : Sta Z h0 zs0 "ANY_URI" zs1 (.ref a44)) (F47 : Sta Z h0 zs0 "HEX_BINARY" zs1 (.ref a46)) (F49 : Sta Z h0 zs0 "BASE64_BINARY" zs1 (.ref a48)) (F51 : Sta Z h0 zs0 zs2 zs1 (.ref a50)) (F53 : Sta Z h0 zs0 "X500_NAME" zs1 (.ref a52)) (F55 : Sta Z h0 zs0 "RFC822_NAME" zs1 (.ref a54)) (F57 : Sta Z h0 zs0 "IP_ADDRESS" zs1 (.ref a56)) (F59 : Sta Z h0 zs0 "DNS_NAME" zs1 (.ref a58)) (F61 : Sta Z h0 zs0 zs4 zs1 (.ref a60)) :
    MetFree l zm0 (head1 (Jvm.Cond.code zm0 method_2_code 3 (some (.object zs0)) :: ws) ({ frames := 0, cells := 0, slots := 0, locals := 0 } : Room)) (fun a U => a = #[(.int p1)] ∧ Z.Warmed39 U.vm ∧ U.heap = h0) (fun _ _ _ _ _ => True) (fun _ U o U' => ∃ v L, o = .returned v ∧ Q1_11 Z p1 a27 a30 a32 a34 a36 a38 a40 a42 a44 a46 a48 a50 a52 a54 a56 a58 a60 h0 n0 v U'.heap L ∧ FrameEnd U o U' L ({ frames := 0, cells := 0, slots := 0, locals := 0 } : Room).cells ({ frames := 0, cells := 0, slots := 0, locals := 0 } : Room).slots) := by
  refine MetFree.of_bodySF (plainFor_of_name pn_com_example_aspen_aspen_engine_ParameterAnyNumberOfPinLaw) hisR ?_
  intro p e s m args below meth c s₁ Bd hml0 hP hK
  obtain ⟨rfl, hZ, hh⟩ := hP
  have hx := Bd.exec
  have hby := Bd.bytes
  have hml : c.maxLocals = 3 := hml0
  have hown : s.vm.findClass zs5 = some m.cls := findClass_of_methodNamed Bd.named
  have hnm := (name_of_methodNamed Bd.named Bd.method).1
  have X0 : Stand p l e ({ frames := 0, cells := 0, slots := 0, locals := 0 } : Room) s m #[(.int p1)] below meth c s₁ [] 0 0 := Stand.of_body Bd
  have e0 : s₁.heap = h0 := by rw [← hh, Bd.state]; rfl
  have N0 := Fr.nil n0
  refine own_pre (g' := mkF m 0 (lc1 p1) []) (ef_0 m p1) ?_
  refine own_go (U' := s₁.setTop (mkF m 8 (lc2 p1 ((p1 &&& (2147483647 : Int32)) % (17 : Int32))) [])) (fun t k => oiloadN X0 hx hby d1_0 rfl (X0.ldcInt hx hown (mvT hZ (ww hw 4 rfl)) (g := (mkF m 1 (lc1 p1) [(.int p1)])) rfl (hb hby d1_1) _ (oiand X0 hx hby d1_3 (obipush X0 hx hby d1_4 (oirem X0 hx hby d1_6 (by decide) (oistoreN X0 hx hby d1_7 (lc2 p1 ((p1 &&& (2147483647 : Int32)) % (17 : Int32))) rfl k)))))) ?_
  obtain ⟨z2, hz2⟩ : ∃ z, z = ((p1 &&& (2147483647 : Int32)) % (17 : Int32)) := ⟨_, rfl⟩
  rw [← hz2]
  refine own_go (U' := s₁.setTop (mkF m 9 (lc2 p1 z2) [(.int z2)])) (fun t k => oiloadN X0 hx hby d1_8 rfl k) ?_
  have hs4 : ¬ (z2 = (0 : Int32)) := by rw [hz2]; exact hc3
  refine own_go (U' := s₁.setTop (mkF m 21 (lc2 p1 z2) [(.int 1), (.int z2)])) (fun t k => oifY (pc := 9) X0 hx hby d1_9 19 ((if0 _ _).trans (feq hs4).2) (by decide) (oiloadN X0 hx hby d1_19 rfl (oiconst X0 hx hby d1_20 k))) ?_
  have hs6 : ¬ (z2 = (1 : Int32)) := by rw [hz2]; exact hc5
  refine own_go (U' := s₁.setTop (mkF m 33 (lc2 p1 z2) [(.int 2), (.int z2)])) (fun t k => oicY (pc := 21) X0 hx hby d1_21 31 (feq hs6).2 (by decide) (oiloadN X0 hx hby d1_31 rfl (oiconst X0 hx hby d1_32 k))) ?_
  have hs8 : ¬ (z2 = (2 : Int32)) := by rw [hz2]; exact hc7
  refine own_go (U' := s₁.setTop (mkF m 45 (lc2 p1 z2) [(.int 3), (.int z2)])) (fun t k => oicY (pc := 33) X0 hx hby d1_33 43 (feq hs8).2 (by decide) (oiloadN X0 hx hby d1_43 rfl (oiconst X0 hx hby d1_44 k))) ?_
  have hs10 : ¬ (z2 = (3 : Int32)) := by rw [hz2]; exact hc9
  refine own_go (U' := s₁.setTop (mkF m 57 (lc2 p1 z2) [(.int 4), (.int z2)])) (fun t k => oicY (pc := 45) X0 hx hby d1_45 55 (feq hs10).2 (by decide) (oiloadN X0 hx hby d1_55 rfl (oiconst X0 hx hby d1_56 k))) ?_
  have hs12 : ¬ (z2 = (4 : Int32)) := by rw [hz2]; exact hc11
  refine own_go (U' := s₁.setTop (mkF m 69 (lc2 p1 z2) [(.int 5), (.int z2)])) (fun t k => oicY (pc := 57) X0 hx hby d1_57 67 (feq hs12).2 (by decide) (oiloadN X0 hx hby d1_67 rfl (oiconst X0 hx hby d1_68 k))) ?_
  have hs14 : ¬ (z2 = (5 : Int32)) := by rw [hz2]; exact hc13
  refine own_go (U' := s₁.setTop (mkF m 82 (lc2 p1 z2) [(.int 6), (.int z2)])) (fun t k => oicY (pc := 69) X0 hx hby d1_69 79 (feq hs14).2 (by decide) (oiloadN X0 hx hby d1_79 rfl (obipush X0 hx hby d1_80 k))) ?_
  have hs16 : ¬ (z2 = (6 : Int32)) := by rw [hz2]; exact hc15
  refine own_go (U' := s₁.setTop (mkF m 95 (lc2 p1 z2) [(.int 7), (.int z2)])) (fun t k => oicY (pc := 82) X0 hx hby d1_82 92 (feq hs16).2 (by decide) (oiloadN X0 hx hby d1_92 rfl (obipush X0 hx hby d1_93 k))) ?_
  have hs18 : ¬ (z2 = (7 : Int32)) := by rw [hz2]; exact hc17
  refine own_go (U' := s₁.setTop (mkF m 108 (lc2 p1 z2) [(.int 8), (.int z2)])) (fun t k => oicY (pc := 95) X0 hx hby d1_95 105 (feq hs18).2 (by decide) (oiloadN X0 hx hby d1_105 rfl (obipush X0 hx hby d1_106 k))) ?_
  have hs20 : ¬ (z2 = (8 : Int32)) := by rw [hz2]; exact hc19
  refine own_go (U' := s₁.setTop (mkF m 121 (lc2 p1 z2) [(.int 9), (.int z2)])) (fun t k => oicY (pc := 108) X0 hx hby d1_108 118 (feq hs20).2 (by decide) (oiloadN X0 hx hby d1_118 rfl (obipush X0 hx hby d1_119 k))) ?_
  have hs22 : ¬ (z2 = (9 : Int32)) := by rw [hz2]; exact hc21
  refine own_go (U' := s₁.setTop (mkF m 134 (lc2 p1 z2) [(.int 10), (.int z2)])) (fun t k => oicY (pc := 121) X0 hx hby d1_121 131 (feq hs22).2 (by decide) (oiloadN X0 hx hby d1_131 rfl (obipush X0 hx hby d1_132 k))) ?_
  have hs24 : ¬ (z2 = (10 : Int32)) := by rw [hz2]; exact hc23
  refine own_go (U' := s₁.setTop (mkF m 147 (lc2 p1 z2) [(.int 11), (.int z2)])) (fun t k => oicY (pc := 134) X0 hx hby d1_134 144 (feq hs24).2 (by decide) (oiloadN X0 hx hby d1_144 rfl (obipush X0 hx hby d1_145 k))) ?_
  have hs26 : z2 = (11 : Int32) := by rw [hz2]; exact hc25
  obtain ⟨T29, X29, e29, st29⟩ := getS2 X0 hx hZ hown (host := "") (Or.inl (ww hw 86 rfl)) Via.refl e0 F28 (g := (mkF m 150 (lc2 p1 z2) [])) rfl (hb hby d1_150)
  refine own_go (U' := T29.setTop (mkF m 214 (lc3 p1 z2 a27) [(.ref a27)])) (fun t k => oicN X0 hx hby d1_147 (teq hs26).2 (st29 _ (oastoreN X29 hx hby d1_153 (lc3 p1 z2 a27) rfl rfl (ogoto (pc := 154) X29 hx hby d1_154 213 (by decide) (oaloadN X29 hx hby d1_213 rfl rfl k))))) ?_
  obtain ⟨fs, hr, hrun, hended, hW, hsame⟩ := X29.leave (v := some (.ref a27)) (fun h => by rw [Bd.returns] at h; cases h)
  refine own_out ⟨_, _, ?_, hrun, hended, _, _, rfl, ?_, ⟨_, rfl⟩, hW, hsame.mono (by decide) (by decide)⟩
  · exact retOut X29 hx Bd.returns rfl (Or.inr (Or.inr (Or.inr (Or.inr ⟨rfl, rfl, rfl⟩)))) (hb hby d1_214) hr
  · show Q1_11 Z p1 a27 a30 a32 a34 a36 a38 a40 a42 a44 a46 a48 a50 a52 a54 a56 a58 a60 h0 n0 _ T29.heap _
    rw [e29]
    exact ⟨(by simp [own_pick, hc3, hc5, hc7, hc9, hc11, hc13, hc15, hc17, hc19, hc21, hc23, hc25]), N0, rfl⟩
def Q1_12 (Z : State) (p1 : Int32) (a29 : Addr) (a32 : Addr) (a34 : Addr) (a36 : Addr) (a38 : Addr) (a40 : Addr) (a42 : Addr) (a44 : Addr) (a46 : Addr) (a48 : Addr) (a50 : Addr) (a52 : Addr) (a54 : Addr) (a56 : Addr) (a58 : Addr) (a60 : Addr) (a62 : Addr) (h0 : Heap) (n0 : Nat) (v : Option Value) (h : Heap) (L : List Loc) : Prop := v = some (.ref (own_pick ((p1 &&& (2147483647 : Int32)) % (17 : Int32)) a32 a34 a36 a38 a40 a42 a44 a46 a48 a50 a52 a54 a29 a56 a58 a60 a62)) ∧ Fr n0 L ∧ h = h0
set_option maxRecDepth 65536 in
set_option maxHeartbeats 40000000 in
theorem rm1_12 (l : Launch) (Z : State) (a0 : Array Value) (hw : ∀ d ∈ tables_1, d.before a0 Z = true) (ws : List Jvm.Cond) (p1 : Int32) (a29 : Addr) (a32 : Addr) (a34 : Addr) (a36 : Addr) (a38 : Addr) (a40 : Addr) (a42 : Addr) (a44 : Addr) (a46 : Addr) (a48 : Addr) (a50 : Addr) (a52 : Addr) (a54 : Addr) (a56 : Addr) (a58 : Addr) (a60 : Addr) (a62 : Addr) (h0 : Heap) (n0 : Nat) (Z0 : n0 ≤ h0.size) (hc3 : ¬ (((p1 &&& (2147483647 : Int32)) % (17 : Int32)) = (0 : Int32))) (hc5 : ¬ (((p1 &&& (2147483647 : Int32)) % (17 : Int32)) = (1 : Int32))) (hc7 : ¬ (((p1 &&& (2147483647 : Int32)) % (17 : Int32)) = (2 : Int32))) (hc9 : ¬ (((p1 &&& (2147483647 : Int32)) % (17 : Int32)) = (3 : Int32))) (hc11 : ¬ (((p1 &&& (2147483647 : Int32)) % (17 : Int32)) = (4 : Int32))) (hc13 : ¬ (((p1 &&& (2147483647 : Int32)) % (17 : Int32)) = (5 : Int32))) (hc15 : ¬ (((p1 &&& (2147483647 : Int32)) % (17 : Int32)) = (6 : Int32))) (hc17 : ¬ (((p1 &&& (2147483647 : Int32)) % (17 : Int32)) = (7 : Int32))) (hc19 : ¬ (((p1 &&& (2147483647 : Int32)) % (17 : Int32)) = (8 : Int32))) (hc21 : ¬ (((p1 &&& (2147483647 : Int32)) % (17 : Int32)) = (9 : Int32))) (hc23 : ¬ (((p1 &&& (2147483647 : Int32)) % (17 : Int32)) = (10 : Int32))) (hc25 : ¬ (((p1 &&& (2147483647 : Int32)) % (17 : Int32)) = (11 : Int32))) (hc27 : ((p1 &&& (2147483647 : Int32)) % (17 : Int32)) = (12 : Int32)) (F30 : Sta Z h0 zs0 "X500_NAME" zs1 (.ref a29)) (F33 : Sta Z h0 zs0 "STRING" zs1 (.ref a32)) (F35 : Sta Z h0 zs0 "BOOLEAN" zs1 (.ref a34)) (F37 : Sta Z h0 zs0 "INTEGER" zs1 (.ref a36)) (F39 : Sta Z h0 zs0 "DOUBLE" zs1 (.ref a38)) (F41 : Sta Z h0 zs0 "TIME" zs1 (.ref a40)) (F43 : Sta Z h0 zs0 "DATE" zs1 (.ref a42)) (F45 : Sta Z h0 zs0 "DATE_TIME" zs1 (.ref a44)) (F47 : Sta Z h0 zs0 "ANY_URI" zs1 (.ref a46)) (F49 : Sta Z h0 zs0 "HEX_BINARY" zs1 (.ref a48)) (F51 : Sta Z h0 zs0 "BASE64_BINARY" zs1 (.ref a50)) (F53 : Sta Z h0 zs0 zs2 zs1 (.ref a52)) (F55 : Sta Z h0 zs0 zs3 zs1 (.ref a54)) (F57 : Sta Z h0 zs0 "RFC822_NAME" zs1 (.ref a56)) (F59 : Sta Z h0 zs0 "IP_ADDRESS" zs1 (.ref a58)) (F61 : Sta Z h0 zs0 "DNS_NAME" zs1 (.ref a60)) (F63 : Sta Z h0 zs0 zs4 zs1 (.ref a62)) :
    MetFree l zm0 (head1 (Jvm.Cond.code zm0 method_2_code 3 (some (.object zs0)) :: ws) ({ frames := 0, cells := 0, slots := 0, locals := 0 } : Room)) (fun a U => a = #[(.int p1)] ∧ Z.Warmed39 U.vm ∧ U.heap = h0) (fun _ _ _ _ _ => True) (fun _ U o U' => ∃ v L, o = .returned v ∧ Q1_12 Z p1 a29 a32 a34 a36 a38 a40 a42 a44 a46 a48 a50 a52 a54 a56 a58 a60 a62 h0 n0 v U'.heap L ∧ FrameEnd U o U' L ({ frames := 0, cells := 0, slots := 0, locals := 0 } : Room).cells ({ frames := 0, cells := 0, slots := 0, locals := 0 } : Room).slots) := by
  refine MetFree.of_bodySF (plainFor_of_name pn_com_example_aspen_aspen_engine_ParameterAnyNumberOfPinLaw) hisR ?_
  intro p e s m args below meth c s₁ Bd hml0 hP hK
  obtain ⟨rfl, hZ, hh⟩ := hP
  have hx := Bd.exec
  have hby := Bd.bytes
  have hml : c.maxLocals = 3 := hml0
  have hown : s.vm.findClass zs5 = some m.cls := findClass_of_methodNamed Bd.named
  have hnm := (name_of_methodNamed Bd.named Bd.method).1
  have X0 : Stand p l e ({ frames := 0, cells := 0, slots := 0, locals := 0 } : Room) s m #[(.int p1)] below meth c s₁ [] 0 0 := Stand.of_body Bd
  have e0 : s₁.heap = h0 := by rw [← hh, Bd.state]; rfl
  have N0 := Fr.nil n0
  refine own_pre (g' := mkF m 0 (lc1 p1) []) (ef_0 m p1) ?_
  refine own_go (U' := s₁.setTop (mkF m 8 (lc2 p1 ((p1 &&& (2147483647 : Int32)) % (17 : Int32))) [])) (fun t k => oiloadN X0 hx hby d1_0 rfl (X0.ldcInt hx hown (mvT hZ (ww hw 4 rfl)) (g := (mkF m 1 (lc1 p1) [(.int p1)])) rfl (hb hby d1_1) _ (oiand X0 hx hby d1_3 (obipush X0 hx hby d1_4 (oirem X0 hx hby d1_6 (by decide) (oistoreN X0 hx hby d1_7 (lc2 p1 ((p1 &&& (2147483647 : Int32)) % (17 : Int32))) rfl k)))))) ?_
  obtain ⟨z2, hz2⟩ : ∃ z, z = ((p1 &&& (2147483647 : Int32)) % (17 : Int32)) := ⟨_, rfl⟩
  rw [← hz2]
  refine own_go (U' := s₁.setTop (mkF m 9 (lc2 p1 z2) [(.int z2)])) (fun t k => oiloadN X0 hx hby d1_8 rfl k) ?_
  have hs4 : ¬ (z2 = (0 : Int32)) := by rw [hz2]; exact hc3
  refine own_go (U' := s₁.setTop (mkF m 21 (lc2 p1 z2) [(.int 1), (.int z2)])) (fun t k => oifY (pc := 9) X0 hx hby d1_9 19 ((if0 _ _).trans (feq hs4).2) (by decide) (oiloadN X0 hx hby d1_19 rfl (oiconst X0 hx hby d1_20 k))) ?_
  have hs6 : ¬ (z2 = (1 : Int32)) := by rw [hz2]; exact hc5
  refine own_go (U' := s₁.setTop (mkF m 33 (lc2 p1 z2) [(.int 2), (.int z2)])) (fun t k => oicY (pc := 21) X0 hx hby d1_21 31 (feq hs6).2 (by decide) (oiloadN X0 hx hby d1_31 rfl (oiconst X0 hx hby d1_32 k))) ?_
  have hs8 : ¬ (z2 = (2 : Int32)) := by rw [hz2]; exact hc7
  refine own_go (U' := s₁.setTop (mkF m 45 (lc2 p1 z2) [(.int 3), (.int z2)])) (fun t k => oicY (pc := 33) X0 hx hby d1_33 43 (feq hs8).2 (by decide) (oiloadN X0 hx hby d1_43 rfl (oiconst X0 hx hby d1_44 k))) ?_
  have hs10 : ¬ (z2 = (3 : Int32)) := by rw [hz2]; exact hc9
  refine own_go (U' := s₁.setTop (mkF m 57 (lc2 p1 z2) [(.int 4), (.int z2)])) (fun t k => oicY (pc := 45) X0 hx hby d1_45 55 (feq hs10).2 (by decide) (oiloadN X0 hx hby d1_55 rfl (oiconst X0 hx hby d1_56 k))) ?_
  have hs12 : ¬ (z2 = (4 : Int32)) := by rw [hz2]; exact hc11
  refine own_go (U' := s₁.setTop (mkF m 69 (lc2 p1 z2) [(.int 5), (.int z2)])) (fun t k => oicY (pc := 57) X0 hx hby d1_57 67 (feq hs12).2 (by decide) (oiloadN X0 hx hby d1_67 rfl (oiconst X0 hx hby d1_68 k))) ?_
  have hs14 : ¬ (z2 = (5 : Int32)) := by rw [hz2]; exact hc13
  refine own_go (U' := s₁.setTop (mkF m 82 (lc2 p1 z2) [(.int 6), (.int z2)])) (fun t k => oicY (pc := 69) X0 hx hby d1_69 79 (feq hs14).2 (by decide) (oiloadN X0 hx hby d1_79 rfl (obipush X0 hx hby d1_80 k))) ?_
  have hs16 : ¬ (z2 = (6 : Int32)) := by rw [hz2]; exact hc15
  refine own_go (U' := s₁.setTop (mkF m 95 (lc2 p1 z2) [(.int 7), (.int z2)])) (fun t k => oicY (pc := 82) X0 hx hby d1_82 92 (feq hs16).2 (by decide) (oiloadN X0 hx hby d1_92 rfl (obipush X0 hx hby d1_93 k))) ?_
  have hs18 : ¬ (z2 = (7 : Int32)) := by rw [hz2]; exact hc17
  refine own_go (U' := s₁.setTop (mkF m 108 (lc2 p1 z2) [(.int 8), (.int z2)])) (fun t k => oicY (pc := 95) X0 hx hby d1_95 105 (feq hs18).2 (by decide) (oiloadN X0 hx hby d1_105 rfl (obipush X0 hx hby d1_106 k))) ?_
  have hs20 : ¬ (z2 = (8 : Int32)) := by rw [hz2]; exact hc19
  refine own_go (U' := s₁.setTop (mkF m 121 (lc2 p1 z2) [(.int 9), (.int z2)])) (fun t k => oicY (pc := 108) X0 hx hby d1_108 118 (feq hs20).2 (by decide) (oiloadN X0 hx hby d1_118 rfl (obipush X0 hx hby d1_119 k))) ?_
  have hs22 : ¬ (z2 = (9 : Int32)) := by rw [hz2]; exact hc21
  refine own_go (U' := s₁.setTop (mkF m 134 (lc2 p1 z2) [(.int 10), (.int z2)])) (fun t k => oicY (pc := 121) X0 hx hby d1_121 131 (feq hs22).2 (by decide) (oiloadN X0 hx hby d1_131 rfl (obipush X0 hx hby d1_132 k))) ?_
  have hs24 : ¬ (z2 = (10 : Int32)) := by rw [hz2]; exact hc23
  refine own_go (U' := s₁.setTop (mkF m 147 (lc2 p1 z2) [(.int 11), (.int z2)])) (fun t k => oicY (pc := 134) X0 hx hby d1_134 144 (feq hs24).2 (by decide) (oiloadN X0 hx hby d1_144 rfl (obipush X0 hx hby d1_145 k))) ?_
  have hs26 : ¬ (z2 = (11 : Int32)) := by rw [hz2]; exact hc25
  refine own_go (U' := s₁.setTop (mkF m 160 (lc2 p1 z2) [(.int 12), (.int z2)])) (fun t k => oicY (pc := 147) X0 hx hby d1_147 157 (feq hs26).2 (by decide) (oiloadN X0 hx hby d1_157 rfl (obipush X0 hx hby d1_158 k))) ?_
  have hs28 : z2 = (12 : Int32) := by rw [hz2]; exact hc27
  obtain ⟨T31, X31, e31, st31⟩ := getS2 X0 hx hZ hown (host := "") (Or.inl (ww hw 66 rfl)) Via.refl e0 F30 (g := (mkF m 163 (lc2 p1 z2) [])) rfl (hb hby d1_163)
  refine own_go (U' := T31.setTop (mkF m 214 (lc3 p1 z2 a29) [(.ref a29)])) (fun t k => oicN X0 hx hby d1_160 (teq hs28).2 (st31 _ (oastoreN X31 hx hby d1_166 (lc3 p1 z2 a29) rfl rfl (ogoto (pc := 167) X31 hx hby d1_167 213 (by decide) (oaloadN X31 hx hby d1_213 rfl rfl k))))) ?_
  obtain ⟨fs, hr, hrun, hended, hW, hsame⟩ := X31.leave (v := some (.ref a29)) (fun h => by rw [Bd.returns] at h; cases h)
  refine own_out ⟨_, _, ?_, hrun, hended, _, _, rfl, ?_, ⟨_, rfl⟩, hW, hsame.mono (by decide) (by decide)⟩
  · exact retOut X31 hx Bd.returns rfl (Or.inr (Or.inr (Or.inr (Or.inr ⟨rfl, rfl, rfl⟩)))) (hb hby d1_214) hr
  · show Q1_12 Z p1 a29 a32 a34 a36 a38 a40 a42 a44 a46 a48 a50 a52 a54 a56 a58 a60 a62 h0 n0 _ T31.heap _
    rw [e31]
    exact ⟨(by simp [own_pick, hc3, hc5, hc7, hc9, hc11, hc13, hc15, hc17, hc19, hc21, hc23, hc25, hc27]), N0, rfl⟩
def Q1_13 (Z : State) (p1 : Int32) (a31 : Addr) (a34 : Addr) (a36 : Addr) (a38 : Addr) (a40 : Addr) (a42 : Addr) (a44 : Addr) (a46 : Addr) (a48 : Addr) (a50 : Addr) (a52 : Addr) (a54 : Addr) (a56 : Addr) (a58 : Addr) (a60 : Addr) (a62 : Addr) (a64 : Addr) (h0 : Heap) (n0 : Nat) (v : Option Value) (h : Heap) (L : List Loc) : Prop := v = some (.ref (own_pick ((p1 &&& (2147483647 : Int32)) % (17 : Int32)) a34 a36 a38 a40 a42 a44 a46 a48 a50 a52 a54 a56 a58 a31 a60 a62 a64)) ∧ Fr n0 L ∧ h = h0
set_option maxRecDepth 65536 in
set_option maxHeartbeats 40000000 in
theorem rm1_13 (l : Launch) (Z : State) (a0 : Array Value) (hw : ∀ d ∈ tables_1, d.before a0 Z = true) (ws : List Jvm.Cond) (p1 : Int32) (a31 : Addr) (a34 : Addr) (a36 : Addr) (a38 : Addr) (a40 : Addr) (a42 : Addr) (a44 : Addr) (a46 : Addr) (a48 : Addr) (a50 : Addr) (a52 : Addr) (a54 : Addr) (a56 : Addr) (a58 : Addr) (a60 : Addr) (a62 : Addr) (a64 : Addr) (h0 : Heap) (n0 : Nat) (Z0 : n0 ≤ h0.size) (hc3 : ¬ (((p1 &&& (2147483647 : Int32)) % (17 : Int32)) = (0 : Int32))) (hc5 : ¬ (((p1 &&& (2147483647 : Int32)) % (17 : Int32)) = (1 : Int32))) (hc7 : ¬ (((p1 &&& (2147483647 : Int32)) % (17 : Int32)) = (2 : Int32))) (hc9 : ¬ (((p1 &&& (2147483647 : Int32)) % (17 : Int32)) = (3 : Int32))) (hc11 : ¬ (((p1 &&& (2147483647 : Int32)) % (17 : Int32)) = (4 : Int32))) (hc13 : ¬ (((p1 &&& (2147483647 : Int32)) % (17 : Int32)) = (5 : Int32))) (hc15 : ¬ (((p1 &&& (2147483647 : Int32)) % (17 : Int32)) = (6 : Int32))) (hc17 : ¬ (((p1 &&& (2147483647 : Int32)) % (17 : Int32)) = (7 : Int32))) (hc19 : ¬ (((p1 &&& (2147483647 : Int32)) % (17 : Int32)) = (8 : Int32))) (hc21 : ¬ (((p1 &&& (2147483647 : Int32)) % (17 : Int32)) = (9 : Int32))) (hc23 : ¬ (((p1 &&& (2147483647 : Int32)) % (17 : Int32)) = (10 : Int32))) (hc25 : ¬ (((p1 &&& (2147483647 : Int32)) % (17 : Int32)) = (11 : Int32))) (hc27 : ¬ (((p1 &&& (2147483647 : Int32)) % (17 : Int32)) = (12 : Int32))) (hc29 : ((p1 &&& (2147483647 : Int32)) % (17 : Int32)) = (13 : Int32)) (F32 : Sta Z h0 zs0 "RFC822_NAME" zs1 (.ref a31)) (F35 : Sta Z h0 zs0 "STRING" zs1 (.ref a34)) (F37 : Sta Z h0 zs0 "BOOLEAN" zs1 (.ref a36)) (F39 : Sta Z h0 zs0 "INTEGER" zs1 (.ref a38)) (F41 : Sta Z h0 zs0 "DOUBLE" zs1 (.ref a40)) (F43 : Sta Z h0 zs0 "TIME" zs1 (.ref a42)) (F45 : Sta Z h0 zs0 "DATE" zs1 (.ref a44)) (F47 : Sta Z h0 zs0 "DATE_TIME" zs1 (.ref a46)) (F49 : Sta Z h0 zs0 "ANY_URI" zs1 (.ref a48)) (F51 : Sta Z h0 zs0 "HEX_BINARY" zs1 (.ref a50)) (F53 : Sta Z h0 zs0 "BASE64_BINARY" zs1 (.ref a52)) (F55 : Sta Z h0 zs0 zs2 zs1 (.ref a54)) (F57 : Sta Z h0 zs0 zs3 zs1 (.ref a56)) (F59 : Sta Z h0 zs0 "X500_NAME" zs1 (.ref a58)) (F61 : Sta Z h0 zs0 "IP_ADDRESS" zs1 (.ref a60)) (F63 : Sta Z h0 zs0 "DNS_NAME" zs1 (.ref a62)) (F65 : Sta Z h0 zs0 zs4 zs1 (.ref a64)) :
    MetFree l zm0 (head1 (Jvm.Cond.code zm0 method_2_code 3 (some (.object zs0)) :: ws) ({ frames := 0, cells := 0, slots := 0, locals := 0 } : Room)) (fun a U => a = #[(.int p1)] ∧ Z.Warmed39 U.vm ∧ U.heap = h0) (fun _ _ _ _ _ => True) (fun _ U o U' => ∃ v L, o = .returned v ∧ Q1_13 Z p1 a31 a34 a36 a38 a40 a42 a44 a46 a48 a50 a52 a54 a56 a58 a60 a62 a64 h0 n0 v U'.heap L ∧ FrameEnd U o U' L ({ frames := 0, cells := 0, slots := 0, locals := 0 } : Room).cells ({ frames := 0, cells := 0, slots := 0, locals := 0 } : Room).slots) := by
  refine MetFree.of_bodySF (plainFor_of_name pn_com_example_aspen_aspen_engine_ParameterAnyNumberOfPinLaw) hisR ?_
  intro p e s m args below meth c s₁ Bd hml0 hP hK
  obtain ⟨rfl, hZ, hh⟩ := hP
  have hx := Bd.exec
  have hby := Bd.bytes
  have hml : c.maxLocals = 3 := hml0
  have hown : s.vm.findClass zs5 = some m.cls := findClass_of_methodNamed Bd.named
  have hnm := (name_of_methodNamed Bd.named Bd.method).1
  have X0 : Stand p l e ({ frames := 0, cells := 0, slots := 0, locals := 0 } : Room) s m #[(.int p1)] below meth c s₁ [] 0 0 := Stand.of_body Bd
  have e0 : s₁.heap = h0 := by rw [← hh, Bd.state]; rfl
  have N0 := Fr.nil n0
  refine own_pre (g' := mkF m 0 (lc1 p1) []) (ef_0 m p1) ?_
  refine own_go (U' := s₁.setTop (mkF m 8 (lc2 p1 ((p1 &&& (2147483647 : Int32)) % (17 : Int32))) [])) (fun t k => oiloadN X0 hx hby d1_0 rfl (X0.ldcInt hx hown (mvT hZ (ww hw 4 rfl)) (g := (mkF m 1 (lc1 p1) [(.int p1)])) rfl (hb hby d1_1) _ (oiand X0 hx hby d1_3 (obipush X0 hx hby d1_4 (oirem X0 hx hby d1_6 (by decide) (oistoreN X0 hx hby d1_7 (lc2 p1 ((p1 &&& (2147483647 : Int32)) % (17 : Int32))) rfl k)))))) ?_
  obtain ⟨z2, hz2⟩ : ∃ z, z = ((p1 &&& (2147483647 : Int32)) % (17 : Int32)) := ⟨_, rfl⟩
  rw [← hz2]
  refine own_go (U' := s₁.setTop (mkF m 9 (lc2 p1 z2) [(.int z2)])) (fun t k => oiloadN X0 hx hby d1_8 rfl k) ?_
  have hs4 : ¬ (z2 = (0 : Int32)) := by rw [hz2]; exact hc3
  refine own_go (U' := s₁.setTop (mkF m 21 (lc2 p1 z2) [(.int 1), (.int z2)])) (fun t k => oifY (pc := 9) X0 hx hby d1_9 19 ((if0 _ _).trans (feq hs4).2) (by decide) (oiloadN X0 hx hby d1_19 rfl (oiconst X0 hx hby d1_20 k))) ?_
  have hs6 : ¬ (z2 = (1 : Int32)) := by rw [hz2]; exact hc5
  refine own_go (U' := s₁.setTop (mkF m 33 (lc2 p1 z2) [(.int 2), (.int z2)])) (fun t k => oicY (pc := 21) X0 hx hby d1_21 31 (feq hs6).2 (by decide) (oiloadN X0 hx hby d1_31 rfl (oiconst X0 hx hby d1_32 k))) ?_
  have hs8 : ¬ (z2 = (2 : Int32)) := by rw [hz2]; exact hc7
  refine own_go (U' := s₁.setTop (mkF m 45 (lc2 p1 z2) [(.int 3), (.int z2)])) (fun t k => oicY (pc := 33) X0 hx hby d1_33 43 (feq hs8).2 (by decide) (oiloadN X0 hx hby d1_43 rfl (oiconst X0 hx hby d1_44 k))) ?_
  have hs10 : ¬ (z2 = (3 : Int32)) := by rw [hz2]; exact hc9
  refine own_go (U' := s₁.setTop (mkF m 57 (lc2 p1 z2) [(.int 4), (.int z2)])) (fun t k => oicY (pc := 45) X0 hx hby d1_45 55 (feq hs10).2 (by decide) (oiloadN X0 hx hby d1_55 rfl (oiconst X0 hx hby d1_56 k))) ?_
  have hs12 : ¬ (z2 = (4 : Int32)) := by rw [hz2]; exact hc11
  refine own_go (U' := s₁.setTop (mkF m 69 (lc2 p1 z2) [(.int 5), (.int z2)])) (fun t k => oicY (pc := 57) X0 hx hby d1_57 67 (feq hs12).2 (by decide) (oiloadN X0 hx hby d1_67 rfl (oiconst X0 hx hby d1_68 k))) ?_
  have hs14 : ¬ (z2 = (5 : Int32)) := by rw [hz2]; exact hc13
  refine own_go (U' := s₁.setTop (mkF m 82 (lc2 p1 z2) [(.int 6), (.int z2)])) (fun t k => oicY (pc := 69) X0 hx hby d1_69 79 (feq hs14).2 (by decide) (oiloadN X0 hx hby d1_79 rfl (obipush X0 hx hby d1_80 k))) ?_
  have hs16 : ¬ (z2 = (6 : Int32)) := by rw [hz2]; exact hc15
  refine own_go (U' := s₁.setTop (mkF m 95 (lc2 p1 z2) [(.int 7), (.int z2)])) (fun t k => oicY (pc := 82) X0 hx hby d1_82 92 (feq hs16).2 (by decide) (oiloadN X0 hx hby d1_92 rfl (obipush X0 hx hby d1_93 k))) ?_
  have hs18 : ¬ (z2 = (7 : Int32)) := by rw [hz2]; exact hc17
  refine own_go (U' := s₁.setTop (mkF m 108 (lc2 p1 z2) [(.int 8), (.int z2)])) (fun t k => oicY (pc := 95) X0 hx hby d1_95 105 (feq hs18).2 (by decide) (oiloadN X0 hx hby d1_105 rfl (obipush X0 hx hby d1_106 k))) ?_
  have hs20 : ¬ (z2 = (8 : Int32)) := by rw [hz2]; exact hc19
  refine own_go (U' := s₁.setTop (mkF m 121 (lc2 p1 z2) [(.int 9), (.int z2)])) (fun t k => oicY (pc := 108) X0 hx hby d1_108 118 (feq hs20).2 (by decide) (oiloadN X0 hx hby d1_118 rfl (obipush X0 hx hby d1_119 k))) ?_
  have hs22 : ¬ (z2 = (9 : Int32)) := by rw [hz2]; exact hc21
  refine own_go (U' := s₁.setTop (mkF m 134 (lc2 p1 z2) [(.int 10), (.int z2)])) (fun t k => oicY (pc := 121) X0 hx hby d1_121 131 (feq hs22).2 (by decide) (oiloadN X0 hx hby d1_131 rfl (obipush X0 hx hby d1_132 k))) ?_
  have hs24 : ¬ (z2 = (10 : Int32)) := by rw [hz2]; exact hc23
  refine own_go (U' := s₁.setTop (mkF m 147 (lc2 p1 z2) [(.int 11), (.int z2)])) (fun t k => oicY (pc := 134) X0 hx hby d1_134 144 (feq hs24).2 (by decide) (oiloadN X0 hx hby d1_144 rfl (obipush X0 hx hby d1_145 k))) ?_
  have hs26 : ¬ (z2 = (11 : Int32)) := by rw [hz2]; exact hc25
  refine own_go (U' := s₁.setTop (mkF m 160 (lc2 p1 z2) [(.int 12), (.int z2)])) (fun t k => oicY (pc := 147) X0 hx hby d1_147 157 (feq hs26).2 (by decide) (oiloadN X0 hx hby d1_157 rfl (obipush X0 hx hby d1_158 k))) ?_
  have hs28 : ¬ (z2 = (12 : Int32)) := by rw [hz2]; exact hc27
  refine own_go (U' := s₁.setTop (mkF m 173 (lc2 p1 z2) [(.int 13), (.int z2)])) (fun t k => oicY (pc := 160) X0 hx hby d1_160 170 (feq hs28).2 (by decide) (oiloadN X0 hx hby d1_170 rfl (obipush X0 hx hby d1_171 k))) ?_
  have hs30 : z2 = (13 : Int32) := by rw [hz2]; exact hc29
  obtain ⟨T33, X33, e33, st33⟩ := getS2 X0 hx hZ hown (host := "") (Or.inl (ww hw 74 rfl)) Via.refl e0 F32 (g := (mkF m 176 (lc2 p1 z2) [])) rfl (hb hby d1_176)
  refine own_go (U' := T33.setTop (mkF m 214 (lc3 p1 z2 a31) [(.ref a31)])) (fun t k => oicN X0 hx hby d1_173 (teq hs30).2 (st33 _ (oastoreN X33 hx hby d1_179 (lc3 p1 z2 a31) rfl rfl (ogoto (pc := 180) X33 hx hby d1_180 213 (by decide) (oaloadN X33 hx hby d1_213 rfl rfl k))))) ?_
  obtain ⟨fs, hr, hrun, hended, hW, hsame⟩ := X33.leave (v := some (.ref a31)) (fun h => by rw [Bd.returns] at h; cases h)
  refine own_out ⟨_, _, ?_, hrun, hended, _, _, rfl, ?_, ⟨_, rfl⟩, hW, hsame.mono (by decide) (by decide)⟩
  · exact retOut X33 hx Bd.returns rfl (Or.inr (Or.inr (Or.inr (Or.inr ⟨rfl, rfl, rfl⟩)))) (hb hby d1_214) hr
  · show Q1_13 Z p1 a31 a34 a36 a38 a40 a42 a44 a46 a48 a50 a52 a54 a56 a58 a60 a62 a64 h0 n0 _ T33.heap _
    rw [e33]
    exact ⟨(by simp [own_pick, hc3, hc5, hc7, hc9, hc11, hc13, hc15, hc17, hc19, hc21, hc23, hc25, hc27, hc29]), N0, rfl⟩
def Q1_14 (Z : State) (p1 : Int32) (a33 : Addr) (a36 : Addr) (a38 : Addr) (a40 : Addr) (a42 : Addr) (a44 : Addr) (a46 : Addr) (a48 : Addr) (a50 : Addr) (a52 : Addr) (a54 : Addr) (a56 : Addr) (a58 : Addr) (a60 : Addr) (a62 : Addr) (a64 : Addr) (a66 : Addr) (h0 : Heap) (n0 : Nat) (v : Option Value) (h : Heap) (L : List Loc) : Prop := v = some (.ref (own_pick ((p1 &&& (2147483647 : Int32)) % (17 : Int32)) a36 a38 a40 a42 a44 a46 a48 a50 a52 a54 a56 a58 a60 a62 a33 a64 a66)) ∧ Fr n0 L ∧ h = h0
set_option maxRecDepth 65536 in
set_option maxHeartbeats 40000000 in
theorem rm1_14 (l : Launch) (Z : State) (a0 : Array Value) (hw : ∀ d ∈ tables_1, d.before a0 Z = true) (ws : List Jvm.Cond) (p1 : Int32) (a33 : Addr) (a36 : Addr) (a38 : Addr) (a40 : Addr) (a42 : Addr) (a44 : Addr) (a46 : Addr) (a48 : Addr) (a50 : Addr) (a52 : Addr) (a54 : Addr) (a56 : Addr) (a58 : Addr) (a60 : Addr) (a62 : Addr) (a64 : Addr) (a66 : Addr) (h0 : Heap) (n0 : Nat) (Z0 : n0 ≤ h0.size) (hc3 : ¬ (((p1 &&& (2147483647 : Int32)) % (17 : Int32)) = (0 : Int32))) (hc5 : ¬ (((p1 &&& (2147483647 : Int32)) % (17 : Int32)) = (1 : Int32))) (hc7 : ¬ (((p1 &&& (2147483647 : Int32)) % (17 : Int32)) = (2 : Int32))) (hc9 : ¬ (((p1 &&& (2147483647 : Int32)) % (17 : Int32)) = (3 : Int32))) (hc11 : ¬ (((p1 &&& (2147483647 : Int32)) % (17 : Int32)) = (4 : Int32))) (hc13 : ¬ (((p1 &&& (2147483647 : Int32)) % (17 : Int32)) = (5 : Int32))) (hc15 : ¬ (((p1 &&& (2147483647 : Int32)) % (17 : Int32)) = (6 : Int32))) (hc17 : ¬ (((p1 &&& (2147483647 : Int32)) % (17 : Int32)) = (7 : Int32))) (hc19 : ¬ (((p1 &&& (2147483647 : Int32)) % (17 : Int32)) = (8 : Int32))) (hc21 : ¬ (((p1 &&& (2147483647 : Int32)) % (17 : Int32)) = (9 : Int32))) (hc23 : ¬ (((p1 &&& (2147483647 : Int32)) % (17 : Int32)) = (10 : Int32))) (hc25 : ¬ (((p1 &&& (2147483647 : Int32)) % (17 : Int32)) = (11 : Int32))) (hc27 : ¬ (((p1 &&& (2147483647 : Int32)) % (17 : Int32)) = (12 : Int32))) (hc29 : ¬ (((p1 &&& (2147483647 : Int32)) % (17 : Int32)) = (13 : Int32))) (hc31 : ((p1 &&& (2147483647 : Int32)) % (17 : Int32)) = (14 : Int32)) (F34 : Sta Z h0 zs0 "IP_ADDRESS" zs1 (.ref a33)) (F37 : Sta Z h0 zs0 "STRING" zs1 (.ref a36)) (F39 : Sta Z h0 zs0 "BOOLEAN" zs1 (.ref a38)) (F41 : Sta Z h0 zs0 "INTEGER" zs1 (.ref a40)) (F43 : Sta Z h0 zs0 "DOUBLE" zs1 (.ref a42)) (F45 : Sta Z h0 zs0 "TIME" zs1 (.ref a44)) (F47 : Sta Z h0 zs0 "DATE" zs1 (.ref a46)) (F49 : Sta Z h0 zs0 "DATE_TIME" zs1 (.ref a48)) (F51 : Sta Z h0 zs0 "ANY_URI" zs1 (.ref a50)) (F53 : Sta Z h0 zs0 "HEX_BINARY" zs1 (.ref a52)) (F55 : Sta Z h0 zs0 "BASE64_BINARY" zs1 (.ref a54)) (F57 : Sta Z h0 zs0 zs2 zs1 (.ref a56)) (F59 : Sta Z h0 zs0 zs3 zs1 (.ref a58)) (F61 : Sta Z h0 zs0 "X500_NAME" zs1 (.ref a60)) (F63 : Sta Z h0 zs0 "RFC822_NAME" zs1 (.ref a62)) (F65 : Sta Z h0 zs0 "DNS_NAME" zs1 (.ref a64)) (F67 : Sta Z h0 zs0 zs4 zs1 (.ref a66)) :
    MetFree l zm0 (head1 (Jvm.Cond.code zm0 method_2_code 3 (some (.object zs0)) :: ws) ({ frames := 0, cells := 0, slots := 0, locals := 0 } : Room)) (fun a U => a = #[(.int p1)] ∧ Z.Warmed39 U.vm ∧ U.heap = h0) (fun _ _ _ _ _ => True) (fun _ U o U' => ∃ v L, o = .returned v ∧ Q1_14 Z p1 a33 a36 a38 a40 a42 a44 a46 a48 a50 a52 a54 a56 a58 a60 a62 a64 a66 h0 n0 v U'.heap L ∧ FrameEnd U o U' L ({ frames := 0, cells := 0, slots := 0, locals := 0 } : Room).cells ({ frames := 0, cells := 0, slots := 0, locals := 0 } : Room).slots) := by
  refine MetFree.of_bodySF (plainFor_of_name pn_com_example_aspen_aspen_engine_ParameterAnyNumberOfPinLaw) hisR ?_
  intro p e s m args below meth c s₁ Bd hml0 hP hK
  obtain ⟨rfl, hZ, hh⟩ := hP
  have hx := Bd.exec
  have hby := Bd.bytes
  have hml : c.maxLocals = 3 := hml0
  have hown : s.vm.findClass zs5 = some m.cls := findClass_of_methodNamed Bd.named
  have hnm := (name_of_methodNamed Bd.named Bd.method).1
  have X0 : Stand p l e ({ frames := 0, cells := 0, slots := 0, locals := 0 } : Room) s m #[(.int p1)] below meth c s₁ [] 0 0 := Stand.of_body Bd
  have e0 : s₁.heap = h0 := by rw [← hh, Bd.state]; rfl
  have N0 := Fr.nil n0
  refine own_pre (g' := mkF m 0 (lc1 p1) []) (ef_0 m p1) ?_
  refine own_go (U' := s₁.setTop (mkF m 8 (lc2 p1 ((p1 &&& (2147483647 : Int32)) % (17 : Int32))) [])) (fun t k => oiloadN X0 hx hby d1_0 rfl (X0.ldcInt hx hown (mvT hZ (ww hw 4 rfl)) (g := (mkF m 1 (lc1 p1) [(.int p1)])) rfl (hb hby d1_1) _ (oiand X0 hx hby d1_3 (obipush X0 hx hby d1_4 (oirem X0 hx hby d1_6 (by decide) (oistoreN X0 hx hby d1_7 (lc2 p1 ((p1 &&& (2147483647 : Int32)) % (17 : Int32))) rfl k)))))) ?_
  obtain ⟨z2, hz2⟩ : ∃ z, z = ((p1 &&& (2147483647 : Int32)) % (17 : Int32)) := ⟨_, rfl⟩
  rw [← hz2]
  refine own_go (U' := s₁.setTop (mkF m 9 (lc2 p1 z2) [(.int z2)])) (fun t k => oiloadN X0 hx hby d1_8 rfl k) ?_
  have hs4 : ¬ (z2 = (0 : Int32)) := by rw [hz2]; exact hc3
  refine own_go (U' := s₁.setTop (mkF m 21 (lc2 p1 z2) [(.int 1), (.int z2)])) (fun t k => oifY (pc := 9) X0 hx hby d1_9 19 ((if0 _ _).trans (feq hs4).2) (by decide) (oiloadN X0 hx hby d1_19 rfl (oiconst X0 hx hby d1_20 k))) ?_
  have hs6 : ¬ (z2 = (1 : Int32)) := by rw [hz2]; exact hc5
  refine own_go (U' := s₁.setTop (mkF m 33 (lc2 p1 z2) [(.int 2), (.int z2)])) (fun t k => oicY (pc := 21) X0 hx hby d1_21 31 (feq hs6).2 (by decide) (oiloadN X0 hx hby d1_31 rfl (oiconst X0 hx hby d1_32 k))) ?_
  have hs8 : ¬ (z2 = (2 : Int32)) := by rw [hz2]; exact hc7
  refine own_go (U' := s₁.setTop (mkF m 45 (lc2 p1 z2) [(.int 3), (.int z2)])) (fun t k => oicY (pc := 33) X0 hx hby d1_33 43 (feq hs8).2 (by decide) (oiloadN X0 hx hby d1_43 rfl (oiconst X0 hx hby d1_44 k))) ?_
  have hs10 : ¬ (z2 = (3 : Int32)) := by rw [hz2]; exact hc9
  refine own_go (U' := s₁.setTop (mkF m 57 (lc2 p1 z2) [(.int 4), (.int z2)])) (fun t k => oicY (pc := 45) X0 hx hby d1_45 55 (feq hs10).2 (by decide) (oiloadN X0 hx hby d1_55 rfl (oiconst X0 hx hby d1_56 k))) ?_
  have hs12 : ¬ (z2 = (4 : Int32)) := by rw [hz2]; exact hc11
  refine own_go (U' := s₁.setTop (mkF m 69 (lc2 p1 z2) [(.int 5), (.int z2)])) (fun t k => oicY (pc := 57) X0 hx hby d1_57 67 (feq hs12).2 (by decide) (oiloadN X0 hx hby d1_67 rfl (oiconst X0 hx hby d1_68 k))) ?_
  have hs14 : ¬ (z2 = (5 : Int32)) := by rw [hz2]; exact hc13
  refine own_go (U' := s₁.setTop (mkF m 82 (lc2 p1 z2) [(.int 6), (.int z2)])) (fun t k => oicY (pc := 69) X0 hx hby d1_69 79 (feq hs14).2 (by decide) (oiloadN X0 hx hby d1_79 rfl (obipush X0 hx hby d1_80 k))) ?_
  have hs16 : ¬ (z2 = (6 : Int32)) := by rw [hz2]; exact hc15
  refine own_go (U' := s₁.setTop (mkF m 95 (lc2 p1 z2) [(.int 7), (.int z2)])) (fun t k => oicY (pc := 82) X0 hx hby d1_82 92 (feq hs16).2 (by decide) (oiloadN X0 hx hby d1_92 rfl (obipush X0 hx hby d1_93 k))) ?_
  have hs18 : ¬ (z2 = (7 : Int32)) := by rw [hz2]; exact hc17
  refine own_go (U' := s₁.setTop (mkF m 108 (lc2 p1 z2) [(.int 8), (.int z2)])) (fun t k => oicY (pc := 95) X0 hx hby d1_95 105 (feq hs18).2 (by decide) (oiloadN X0 hx hby d1_105 rfl (obipush X0 hx hby d1_106 k))) ?_
  have hs20 : ¬ (z2 = (8 : Int32)) := by rw [hz2]; exact hc19
  refine own_go (U' := s₁.setTop (mkF m 121 (lc2 p1 z2) [(.int 9), (.int z2)])) (fun t k => oicY (pc := 108) X0 hx hby d1_108 118 (feq hs20).2 (by decide) (oiloadN X0 hx hby d1_118 rfl (obipush X0 hx hby d1_119 k))) ?_
  have hs22 : ¬ (z2 = (9 : Int32)) := by rw [hz2]; exact hc21
  refine own_go (U' := s₁.setTop (mkF m 134 (lc2 p1 z2) [(.int 10), (.int z2)])) (fun t k => oicY (pc := 121) X0 hx hby d1_121 131 (feq hs22).2 (by decide) (oiloadN X0 hx hby d1_131 rfl (obipush X0 hx hby d1_132 k))) ?_
  have hs24 : ¬ (z2 = (10 : Int32)) := by rw [hz2]; exact hc23
  refine own_go (U' := s₁.setTop (mkF m 147 (lc2 p1 z2) [(.int 11), (.int z2)])) (fun t k => oicY (pc := 134) X0 hx hby d1_134 144 (feq hs24).2 (by decide) (oiloadN X0 hx hby d1_144 rfl (obipush X0 hx hby d1_145 k))) ?_
  have hs26 : ¬ (z2 = (11 : Int32)) := by rw [hz2]; exact hc25
  refine own_go (U' := s₁.setTop (mkF m 160 (lc2 p1 z2) [(.int 12), (.int z2)])) (fun t k => oicY (pc := 147) X0 hx hby d1_147 157 (feq hs26).2 (by decide) (oiloadN X0 hx hby d1_157 rfl (obipush X0 hx hby d1_158 k))) ?_
  have hs28 : ¬ (z2 = (12 : Int32)) := by rw [hz2]; exact hc27
  refine own_go (U' := s₁.setTop (mkF m 173 (lc2 p1 z2) [(.int 13), (.int z2)])) (fun t k => oicY (pc := 160) X0 hx hby d1_160 170 (feq hs28).2 (by decide) (oiloadN X0 hx hby d1_170 rfl (obipush X0 hx hby d1_171 k))) ?_
  have hs30 : ¬ (z2 = (13 : Int32)) := by rw [hz2]; exact hc29
  refine own_go (U' := s₁.setTop (mkF m 186 (lc2 p1 z2) [(.int 14), (.int z2)])) (fun t k => oicY (pc := 173) X0 hx hby d1_173 183 (feq hs30).2 (by decide) (oiloadN X0 hx hby d1_183 rfl (obipush X0 hx hby d1_184 k))) ?_
  have hs32 : z2 = (14 : Int32) := by rw [hz2]; exact hc31
  obtain ⟨T35, X35, e35, st35⟩ := getS2 X0 hx hZ hown (host := "") (Or.inl (ww hw 60 rfl)) Via.refl e0 F34 (g := (mkF m 189 (lc2 p1 z2) [])) rfl (hb hby d1_189)
  refine own_go (U' := T35.setTop (mkF m 214 (lc3 p1 z2 a33) [(.ref a33)])) (fun t k => oicN X0 hx hby d1_186 (teq hs32).2 (st35 _ (oastoreN X35 hx hby d1_192 (lc3 p1 z2 a33) rfl rfl (ogoto (pc := 193) X35 hx hby d1_193 213 (by decide) (oaloadN X35 hx hby d1_213 rfl rfl k))))) ?_
  obtain ⟨fs, hr, hrun, hended, hW, hsame⟩ := X35.leave (v := some (.ref a33)) (fun h => by rw [Bd.returns] at h; cases h)
  refine own_out ⟨_, _, ?_, hrun, hended, _, _, rfl, ?_, ⟨_, rfl⟩, hW, hsame.mono (by decide) (by decide)⟩
  · exact retOut X35 hx Bd.returns rfl (Or.inr (Or.inr (Or.inr (Or.inr ⟨rfl, rfl, rfl⟩)))) (hb hby d1_214) hr
  · show Q1_14 Z p1 a33 a36 a38 a40 a42 a44 a46 a48 a50 a52 a54 a56 a58 a60 a62 a64 a66 h0 n0 _ T35.heap _
    rw [e35]
    exact ⟨(by simp [own_pick, hc3, hc5, hc7, hc9, hc11, hc13, hc15, hc17, hc19, hc21, hc23, hc25, hc27, hc29, hc31]), N0, rfl⟩
def Q1_15 (Z : State) (p1 : Int32) (a35 : Addr) (a38 : Addr) (a40 : Addr) (a42 : Addr) (a44 : Addr) (a46 : Addr) (a48 : Addr) (a50 : Addr) (a52 : Addr) (a54 : Addr) (a56 : Addr) (a58 : Addr) (a60 : Addr) (a62 : Addr) (a64 : Addr) (a66 : Addr) (a68 : Addr) (h0 : Heap) (n0 : Nat) (v : Option Value) (h : Heap) (L : List Loc) : Prop := v = some (.ref (own_pick ((p1 &&& (2147483647 : Int32)) % (17 : Int32)) a38 a40 a42 a44 a46 a48 a50 a52 a54 a56 a58 a60 a62 a64 a66 a35 a68)) ∧ Fr n0 L ∧ h = h0
set_option maxRecDepth 65536 in
set_option maxHeartbeats 40000000 in
theorem rm1_15 (l : Launch) (Z : State) (a0 : Array Value) (hw : ∀ d ∈ tables_1, d.before a0 Z = true) (ws : List Jvm.Cond) (p1 : Int32) (a35 : Addr) (a38 : Addr) (a40 : Addr) (a42 : Addr) (a44 : Addr) (a46 : Addr) (a48 : Addr) (a50 : Addr) (a52 : Addr) (a54 : Addr) (a56 : Addr) (a58 : Addr) (a60 : Addr) (a62 : Addr) (a64 : Addr) (a66 : Addr) (a68 : Addr) (h0 : Heap) (n0 : Nat) (Z0 : n0 ≤ h0.size) (hc3 : ¬ (((p1 &&& (2147483647 : Int32)) % (17 : Int32)) = (0 : Int32))) (hc5 : ¬ (((p1 &&& (2147483647 : Int32)) % (17 : Int32)) = (1 : Int32))) (hc7 : ¬ (((p1 &&& (2147483647 : Int32)) % (17 : Int32)) = (2 : Int32))) (hc9 : ¬ (((p1 &&& (2147483647 : Int32)) % (17 : Int32)) = (3 : Int32))) (hc11 : ¬ (((p1 &&& (2147483647 : Int32)) % (17 : Int32)) = (4 : Int32))) (hc13 : ¬ (((p1 &&& (2147483647 : Int32)) % (17 : Int32)) = (5 : Int32))) (hc15 : ¬ (((p1 &&& (2147483647 : Int32)) % (17 : Int32)) = (6 : Int32))) (hc17 : ¬ (((p1 &&& (2147483647 : Int32)) % (17 : Int32)) = (7 : Int32))) (hc19 : ¬ (((p1 &&& (2147483647 : Int32)) % (17 : Int32)) = (8 : Int32))) (hc21 : ¬ (((p1 &&& (2147483647 : Int32)) % (17 : Int32)) = (9 : Int32))) (hc23 : ¬ (((p1 &&& (2147483647 : Int32)) % (17 : Int32)) = (10 : Int32))) (hc25 : ¬ (((p1 &&& (2147483647 : Int32)) % (17 : Int32)) = (11 : Int32))) (hc27 : ¬ (((p1 &&& (2147483647 : Int32)) % (17 : Int32)) = (12 : Int32))) (hc29 : ¬ (((p1 &&& (2147483647 : Int32)) % (17 : Int32)) = (13 : Int32))) (hc31 : ¬ (((p1 &&& (2147483647 : Int32)) % (17 : Int32)) = (14 : Int32))) (hc33 : ((p1 &&& (2147483647 : Int32)) % (17 : Int32)) = (15 : Int32)) (F36 : Sta Z h0 zs0 "DNS_NAME" zs1 (.ref a35)) (F39 : Sta Z h0 zs0 "STRING" zs1 (.ref a38)) (F41 : Sta Z h0 zs0 "BOOLEAN" zs1 (.ref a40)) (F43 : Sta Z h0 zs0 "INTEGER" zs1 (.ref a42)) (F45 : Sta Z h0 zs0 "DOUBLE" zs1 (.ref a44)) (F47 : Sta Z h0 zs0 "TIME" zs1 (.ref a46)) (F49 : Sta Z h0 zs0 "DATE" zs1 (.ref a48)) (F51 : Sta Z h0 zs0 "DATE_TIME" zs1 (.ref a50)) (F53 : Sta Z h0 zs0 "ANY_URI" zs1 (.ref a52)) (F55 : Sta Z h0 zs0 "HEX_BINARY" zs1 (.ref a54)) (F57 : Sta Z h0 zs0 "BASE64_BINARY" zs1 (.ref a56)) (F59 : Sta Z h0 zs0 zs2 zs1 (.ref a58)) (F61 : Sta Z h0 zs0 zs3 zs1 (.ref a60)) (F63 : Sta Z h0 zs0 "X500_NAME" zs1 (.ref a62)) (F65 : Sta Z h0 zs0 "RFC822_NAME" zs1 (.ref a64)) (F67 : Sta Z h0 zs0 "IP_ADDRESS" zs1 (.ref a66)) (F69 : Sta Z h0 zs0 zs4 zs1 (.ref a68)) :
    MetFree l zm0 (head1 (Jvm.Cond.code zm0 method_2_code 3 (some (.object zs0)) :: ws) ({ frames := 0, cells := 0, slots := 0, locals := 0 } : Room)) (fun a U => a = #[(.int p1)] ∧ Z.Warmed39 U.vm ∧ U.heap = h0) (fun _ _ _ _ _ => True) (fun _ U o U' => ∃ v L, o = .returned v ∧ Q1_15 Z p1 a35 a38 a40 a42 a44 a46 a48 a50 a52 a54 a56 a58 a60 a62 a64 a66 a68 h0 n0 v U'.heap L ∧ FrameEnd U o U' L ({ frames := 0, cells := 0, slots := 0, locals := 0 } : Room).cells ({ frames := 0, cells := 0, slots := 0, locals := 0 } : Room).slots) := by
  refine MetFree.of_bodySF (plainFor_of_name pn_com_example_aspen_aspen_engine_ParameterAnyNumberOfPinLaw) hisR ?_
  intro p e s m args below meth c s₁ Bd hml0 hP hK
  obtain ⟨rfl, hZ, hh⟩ := hP
  have hx := Bd.exec
  have hby := Bd.bytes
  have hml : c.maxLocals = 3 := hml0
  have hown : s.vm.findClass zs5 = some m.cls := findClass_of_methodNamed Bd.named
  have hnm := (name_of_methodNamed Bd.named Bd.method).1
  have X0 : Stand p l e ({ frames := 0, cells := 0, slots := 0, locals := 0 } : Room) s m #[(.int p1)] below meth c s₁ [] 0 0 := Stand.of_body Bd
  have e0 : s₁.heap = h0 := by rw [← hh, Bd.state]; rfl
  have N0 := Fr.nil n0
  refine own_pre (g' := mkF m 0 (lc1 p1) []) (ef_0 m p1) ?_
  refine own_go (U' := s₁.setTop (mkF m 8 (lc2 p1 ((p1 &&& (2147483647 : Int32)) % (17 : Int32))) [])) (fun t k => oiloadN X0 hx hby d1_0 rfl (X0.ldcInt hx hown (mvT hZ (ww hw 4 rfl)) (g := (mkF m 1 (lc1 p1) [(.int p1)])) rfl (hb hby d1_1) _ (oiand X0 hx hby d1_3 (obipush X0 hx hby d1_4 (oirem X0 hx hby d1_6 (by decide) (oistoreN X0 hx hby d1_7 (lc2 p1 ((p1 &&& (2147483647 : Int32)) % (17 : Int32))) rfl k)))))) ?_
  obtain ⟨z2, hz2⟩ : ∃ z, z = ((p1 &&& (2147483647 : Int32)) % (17 : Int32)) := ⟨_, rfl⟩
  rw [← hz2]
  refine own_go (U' := s₁.setTop (mkF m 9 (lc2 p1 z2) [(.int z2)])) (fun t k => oiloadN X0 hx hby d1_8 rfl k) ?_
  have hs4 : ¬ (z2 = (0 : Int32)) := by rw [hz2]; exact hc3
  refine own_go (U' := s₁.setTop (mkF m 21 (lc2 p1 z2) [(.int 1), (.int z2)])) (fun t k => oifY (pc := 9) X0 hx hby d1_9 19 ((if0 _ _).trans (feq hs4).2) (by decide) (oiloadN X0 hx hby d1_19 rfl (oiconst X0 hx hby d1_20 k))) ?_
  have hs6 : ¬ (z2 = (1 : Int32)) := by rw [hz2]; exact hc5
  refine own_go (U' := s₁.setTop (mkF m 33 (lc2 p1 z2) [(.int 2), (.int z2)])) (fun t k => oicY (pc := 21) X0 hx hby d1_21 31 (feq hs6).2 (by decide) (oiloadN X0 hx hby d1_31 rfl (oiconst X0 hx hby d1_32 k))) ?_
  have hs8 : ¬ (z2 = (2 : Int32)) := by rw [hz2]; exact hc7
  refine own_go (U' := s₁.setTop (mkF m 45 (lc2 p1 z2) [(.int 3), (.int z2)])) (fun t k => oicY (pc := 33) X0 hx hby d1_33 43 (feq hs8).2 (by decide) (oiloadN X0 hx hby d1_43 rfl (oiconst X0 hx hby d1_44 k))) ?_
  have hs10 : ¬ (z2 = (3 : Int32)) := by rw [hz2]; exact hc9
  refine own_go (U' := s₁.setTop (mkF m 57 (lc2 p1 z2) [(.int 4), (.int z2)])) (fun t k => oicY (pc := 45) X0 hx hby d1_45 55 (feq hs10).2 (by decide) (oiloadN X0 hx hby d1_55 rfl (oiconst X0 hx hby d1_56 k))) ?_
  have hs12 : ¬ (z2 = (4 : Int32)) := by rw [hz2]; exact hc11
  refine own_go (U' := s₁.setTop (mkF m 69 (lc2 p1 z2) [(.int 5), (.int z2)])) (fun t k => oicY (pc := 57) X0 hx hby d1_57 67 (feq hs12).2 (by decide) (oiloadN X0 hx hby d1_67 rfl (oiconst X0 hx hby d1_68 k))) ?_
  have hs14 : ¬ (z2 = (5 : Int32)) := by rw [hz2]; exact hc13
  refine own_go (U' := s₁.setTop (mkF m 82 (lc2 p1 z2) [(.int 6), (.int z2)])) (fun t k => oicY (pc := 69) X0 hx hby d1_69 79 (feq hs14).2 (by decide) (oiloadN X0 hx hby d1_79 rfl (obipush X0 hx hby d1_80 k))) ?_
  have hs16 : ¬ (z2 = (6 : Int32)) := by rw [hz2]; exact hc15
  refine own_go (U' := s₁.setTop (mkF m 95 (lc2 p1 z2) [(.int 7), (.int z2)])) (fun t k => oicY (pc := 82) X0 hx hby d1_82 92 (feq hs16).2 (by decide) (oiloadN X0 hx hby d1_92 rfl (obipush X0 hx hby d1_93 k))) ?_
  have hs18 : ¬ (z2 = (7 : Int32)) := by rw [hz2]; exact hc17
  refine own_go (U' := s₁.setTop (mkF m 108 (lc2 p1 z2) [(.int 8), (.int z2)])) (fun t k => oicY (pc := 95) X0 hx hby d1_95 105 (feq hs18).2 (by decide) (oiloadN X0 hx hby d1_105 rfl (obipush X0 hx hby d1_106 k))) ?_
  have hs20 : ¬ (z2 = (8 : Int32)) := by rw [hz2]; exact hc19
  refine own_go (U' := s₁.setTop (mkF m 121 (lc2 p1 z2) [(.int 9), (.int z2)])) (fun t k => oicY (pc := 108) X0 hx hby d1_108 118 (feq hs20).2 (by decide) (oiloadN X0 hx hby d1_118 rfl (obipush X0 hx hby d1_119 k))) ?_
  have hs22 : ¬ (z2 = (9 : Int32)) := by rw [hz2]; exact hc21
  refine own_go (U' := s₁.setTop (mkF m 134 (lc2 p1 z2) [(.int 10), (.int z2)])) (fun t k => oicY (pc := 121) X0 hx hby d1_121 131 (feq hs22).2 (by decide) (oiloadN X0 hx hby d1_131 rfl (obipush X0 hx hby d1_132 k))) ?_
  have hs24 : ¬ (z2 = (10 : Int32)) := by rw [hz2]; exact hc23
  refine own_go (U' := s₁.setTop (mkF m 147 (lc2 p1 z2) [(.int 11), (.int z2)])) (fun t k => oicY (pc := 134) X0 hx hby d1_134 144 (feq hs24).2 (by decide) (oiloadN X0 hx hby d1_144 rfl (obipush X0 hx hby d1_145 k))) ?_
  have hs26 : ¬ (z2 = (11 : Int32)) := by rw [hz2]; exact hc25
  refine own_go (U' := s₁.setTop (mkF m 160 (lc2 p1 z2) [(.int 12), (.int z2)])) (fun t k => oicY (pc := 147) X0 hx hby d1_147 157 (feq hs26).2 (by decide) (oiloadN X0 hx hby d1_157 rfl (obipush X0 hx hby d1_158 k))) ?_
  have hs28 : ¬ (z2 = (12 : Int32)) := by rw [hz2]; exact hc27
  refine own_go (U' := s₁.setTop (mkF m 173 (lc2 p1 z2) [(.int 13), (.int z2)])) (fun t k => oicY (pc := 160) X0 hx hby d1_160 170 (feq hs28).2 (by decide) (oiloadN X0 hx hby d1_170 rfl (obipush X0 hx hby d1_171 k))) ?_
  have hs30 : ¬ (z2 = (13 : Int32)) := by rw [hz2]; exact hc29
  refine own_go (U' := s₁.setTop (mkF m 186 (lc2 p1 z2) [(.int 14), (.int z2)])) (fun t k => oicY (pc := 173) X0 hx hby d1_173 183 (feq hs30).2 (by decide) (oiloadN X0 hx hby d1_183 rfl (obipush X0 hx hby d1_184 k))) ?_
  have hs32 : ¬ (z2 = (14 : Int32)) := by rw [hz2]; exact hc31
  refine own_go (U' := s₁.setTop (mkF m 199 (lc2 p1 z2) [(.int 15), (.int z2)])) (fun t k => oicY (pc := 186) X0 hx hby d1_186 196 (feq hs32).2 (by decide) (oiloadN X0 hx hby d1_196 rfl (obipush X0 hx hby d1_197 k))) ?_
  have hs34 : z2 = (15 : Int32) := by rw [hz2]; exact hc33
  obtain ⟨T37, X37, e37, st37⟩ := getS2 X0 hx hZ hown (host := "") (Or.inl (ww hw 80 rfl)) Via.refl e0 F36 (g := (mkF m 202 (lc2 p1 z2) [])) rfl (hb hby d1_202)
  refine own_go (U' := T37.setTop (mkF m 214 (lc3 p1 z2 a35) [(.ref a35)])) (fun t k => oicN X0 hx hby d1_199 (teq hs34).2 (st37 _ (oastoreN X37 hx hby d1_205 (lc3 p1 z2 a35) rfl rfl (ogoto (pc := 206) X37 hx hby d1_206 213 (by decide) (oaloadN X37 hx hby d1_213 rfl rfl k))))) ?_
  obtain ⟨fs, hr, hrun, hended, hW, hsame⟩ := X37.leave (v := some (.ref a35)) (fun h => by rw [Bd.returns] at h; cases h)
  refine own_out ⟨_, _, ?_, hrun, hended, _, _, rfl, ?_, ⟨_, rfl⟩, hW, hsame.mono (by decide) (by decide)⟩
  · exact retOut X37 hx Bd.returns rfl (Or.inr (Or.inr (Or.inr (Or.inr ⟨rfl, rfl, rfl⟩)))) (hb hby d1_214) hr
  · show Q1_15 Z p1 a35 a38 a40 a42 a44 a46 a48 a50 a52 a54 a56 a58 a60 a62 a64 a66 a68 h0 n0 _ T37.heap _
    rw [e37]
    exact ⟨(by simp [own_pick, hc3, hc5, hc7, hc9, hc11, hc13, hc15, hc17, hc19, hc21, hc23, hc25, hc27, hc29, hc31, hc33]), N0, rfl⟩
def Q1_16 (Z : State) (p1 : Int32) (a35 : Addr) (a38 : Addr) (a40 : Addr) (a42 : Addr) (a44 : Addr) (a46 : Addr) (a48 : Addr) (a50 : Addr) (a52 : Addr) (a54 : Addr) (a56 : Addr) (a58 : Addr) (a60 : Addr) (a62 : Addr) (a64 : Addr) (a66 : Addr) (a68 : Addr) (h0 : Heap) (n0 : Nat) (v : Option Value) (h : Heap) (L : List Loc) : Prop := v = some (.ref (own_pick ((p1 &&& (2147483647 : Int32)) % (17 : Int32)) a38 a40 a42 a44 a46 a48 a50 a52 a54 a56 a58 a60 a62 a64 a66 a68 a35)) ∧ Fr n0 L ∧ h = h0
set_option maxRecDepth 65536 in
set_option maxHeartbeats 40000000 in
theorem rm1_16 (l : Launch) (Z : State) (a0 : Array Value) (hw : ∀ d ∈ tables_1, d.before a0 Z = true) (ws : List Jvm.Cond) (p1 : Int32) (a35 : Addr) (a38 : Addr) (a40 : Addr) (a42 : Addr) (a44 : Addr) (a46 : Addr) (a48 : Addr) (a50 : Addr) (a52 : Addr) (a54 : Addr) (a56 : Addr) (a58 : Addr) (a60 : Addr) (a62 : Addr) (a64 : Addr) (a66 : Addr) (a68 : Addr) (h0 : Heap) (n0 : Nat) (Z0 : n0 ≤ h0.size) (hc3 : ¬ (((p1 &&& (2147483647 : Int32)) % (17 : Int32)) = (0 : Int32))) (hc5 : ¬ (((p1 &&& (2147483647 : Int32)) % (17 : Int32)) = (1 : Int32))) (hc7 : ¬ (((p1 &&& (2147483647 : Int32)) % (17 : Int32)) = (2 : Int32))) (hc9 : ¬ (((p1 &&& (2147483647 : Int32)) % (17 : Int32)) = (3 : Int32))) (hc11 : ¬ (((p1 &&& (2147483647 : Int32)) % (17 : Int32)) = (4 : Int32))) (hc13 : ¬ (((p1 &&& (2147483647 : Int32)) % (17 : Int32)) = (5 : Int32))) (hc15 : ¬ (((p1 &&& (2147483647 : Int32)) % (17 : Int32)) = (6 : Int32))) (hc17 : ¬ (((p1 &&& (2147483647 : Int32)) % (17 : Int32)) = (7 : Int32))) (hc19 : ¬ (((p1 &&& (2147483647 : Int32)) % (17 : Int32)) = (8 : Int32))) (hc21 : ¬ (((p1 &&& (2147483647 : Int32)) % (17 : Int32)) = (9 : Int32))) (hc23 : ¬ (((p1 &&& (2147483647 : Int32)) % (17 : Int32)) = (10 : Int32))) (hc25 : ¬ (((p1 &&& (2147483647 : Int32)) % (17 : Int32)) = (11 : Int32))) (hc27 : ¬ (((p1 &&& (2147483647 : Int32)) % (17 : Int32)) = (12 : Int32))) (hc29 : ¬ (((p1 &&& (2147483647 : Int32)) % (17 : Int32)) = (13 : Int32))) (hc31 : ¬ (((p1 &&& (2147483647 : Int32)) % (17 : Int32)) = (14 : Int32))) (hc33 : ¬ (((p1 &&& (2147483647 : Int32)) % (17 : Int32)) = (15 : Int32))) (F36 : Sta Z h0 zs0 zs4 zs1 (.ref a35)) (F39 : Sta Z h0 zs0 "STRING" zs1 (.ref a38)) (F41 : Sta Z h0 zs0 "BOOLEAN" zs1 (.ref a40)) (F43 : Sta Z h0 zs0 "INTEGER" zs1 (.ref a42)) (F45 : Sta Z h0 zs0 "DOUBLE" zs1 (.ref a44)) (F47 : Sta Z h0 zs0 "TIME" zs1 (.ref a46)) (F49 : Sta Z h0 zs0 "DATE" zs1 (.ref a48)) (F51 : Sta Z h0 zs0 "DATE_TIME" zs1 (.ref a50)) (F53 : Sta Z h0 zs0 "ANY_URI" zs1 (.ref a52)) (F55 : Sta Z h0 zs0 "HEX_BINARY" zs1 (.ref a54)) (F57 : Sta Z h0 zs0 "BASE64_BINARY" zs1 (.ref a56)) (F59 : Sta Z h0 zs0 zs2 zs1 (.ref a58)) (F61 : Sta Z h0 zs0 zs3 zs1 (.ref a60)) (F63 : Sta Z h0 zs0 "X500_NAME" zs1 (.ref a62)) (F65 : Sta Z h0 zs0 "RFC822_NAME" zs1 (.ref a64)) (F67 : Sta Z h0 zs0 "IP_ADDRESS" zs1 (.ref a66)) (F69 : Sta Z h0 zs0 "DNS_NAME" zs1 (.ref a68)) :
    MetFree l zm0 (head1 (Jvm.Cond.code zm0 method_2_code 3 (some (.object zs0)) :: ws) ({ frames := 0, cells := 0, slots := 0, locals := 0 } : Room)) (fun a U => a = #[(.int p1)] ∧ Z.Warmed39 U.vm ∧ U.heap = h0) (fun _ _ _ _ _ => True) (fun _ U o U' => ∃ v L, o = .returned v ∧ Q1_16 Z p1 a35 a38 a40 a42 a44 a46 a48 a50 a52 a54 a56 a58 a60 a62 a64 a66 a68 h0 n0 v U'.heap L ∧ FrameEnd U o U' L ({ frames := 0, cells := 0, slots := 0, locals := 0 } : Room).cells ({ frames := 0, cells := 0, slots := 0, locals := 0 } : Room).slots) := by
  refine MetFree.of_bodySF (plainFor_of_name pn_com_example_aspen_aspen_engine_ParameterAnyNumberOfPinLaw) hisR ?_
  intro p e s m args below meth c s₁ Bd hml0 hP hK
  obtain ⟨rfl, hZ, hh⟩ := hP
  have hx := Bd.exec
  have hby := Bd.bytes
  have hml : c.maxLocals = 3 := hml0
  have hown : s.vm.findClass zs5 = some m.cls := findClass_of_methodNamed Bd.named
  have hnm := (name_of_methodNamed Bd.named Bd.method).1
  have X0 : Stand p l e ({ frames := 0, cells := 0, slots := 0, locals := 0 } : Room) s m #[(.int p1)] below meth c s₁ [] 0 0 := Stand.of_body Bd
  have e0 : s₁.heap = h0 := by rw [← hh, Bd.state]; rfl
  have N0 := Fr.nil n0
  refine own_pre (g' := mkF m 0 (lc1 p1) []) (ef_0 m p1) ?_
  refine own_go (U' := s₁.setTop (mkF m 8 (lc2 p1 ((p1 &&& (2147483647 : Int32)) % (17 : Int32))) [])) (fun t k => oiloadN X0 hx hby d1_0 rfl (X0.ldcInt hx hown (mvT hZ (ww hw 4 rfl)) (g := (mkF m 1 (lc1 p1) [(.int p1)])) rfl (hb hby d1_1) _ (oiand X0 hx hby d1_3 (obipush X0 hx hby d1_4 (oirem X0 hx hby d1_6 (by decide) (oistoreN X0 hx hby d1_7 (lc2 p1 ((p1 &&& (2147483647 : Int32)) % (17 : Int32))) rfl k)))))) ?_
  obtain ⟨z2, hz2⟩ : ∃ z, z = ((p1 &&& (2147483647 : Int32)) % (17 : Int32)) := ⟨_, rfl⟩
  rw [← hz2]
  refine own_go (U' := s₁.setTop (mkF m 9 (lc2 p1 z2) [(.int z2)])) (fun t k => oiloadN X0 hx hby d1_8 rfl k) ?_
  have hs4 : ¬ (z2 = (0 : Int32)) := by rw [hz2]; exact hc3
  refine own_go (U' := s₁.setTop (mkF m 21 (lc2 p1 z2) [(.int 1), (.int z2)])) (fun t k => oifY (pc := 9) X0 hx hby d1_9 19 ((if0 _ _).trans (feq hs4).2) (by decide) (oiloadN X0 hx hby d1_19 rfl (oiconst X0 hx hby d1_20 k))) ?_
  have hs6 : ¬ (z2 = (1 : Int32)) := by rw [hz2]; exact hc5
  refine own_go (U' := s₁.setTop (mkF m 33 (lc2 p1 z2) [(.int 2), (.int z2)])) (fun t k => oicY (pc := 21) X0 hx hby d1_21 31 (feq hs6).2 (by decide) (oiloadN X0 hx hby d1_31 rfl (oiconst X0 hx hby d1_32 k))) ?_
  have hs8 : ¬ (z2 = (2 : Int32)) := by rw [hz2]; exact hc7
  refine own_go (U' := s₁.setTop (mkF m 45 (lc2 p1 z2) [(.int 3), (.int z2)])) (fun t k => oicY (pc := 33) X0 hx hby d1_33 43 (feq hs8).2 (by decide) (oiloadN X0 hx hby d1_43 rfl (oiconst X0 hx hby d1_44 k))) ?_
  have hs10 : ¬ (z2 = (3 : Int32)) := by rw [hz2]; exact hc9
  refine own_go (U' := s₁.setTop (mkF m 57 (lc2 p1 z2) [(.int 4), (.int z2)])) (fun t k => oicY (pc := 45) X0 hx hby d1_45 55 (feq hs10).2 (by decide) (oiloadN X0 hx hby d1_55 rfl (oiconst X0 hx hby d1_56 k))) ?_
  have hs12 : ¬ (z2 = (4 : Int32)) := by rw [hz2]; exact hc11
  refine own_go (U' := s₁.setTop (mkF m 69 (lc2 p1 z2) [(.int 5), (.int z2)])) (fun t k => oicY (pc := 57) X0 hx hby d1_57 67 (feq hs12).2 (by decide) (oiloadN X0 hx hby d1_67 rfl (oiconst X0 hx hby d1_68 k))) ?_
  have hs14 : ¬ (z2 = (5 : Int32)) := by rw [hz2]; exact hc13
  refine own_go (U' := s₁.setTop (mkF m 82 (lc2 p1 z2) [(.int 6), (.int z2)])) (fun t k => oicY (pc := 69) X0 hx hby d1_69 79 (feq hs14).2 (by decide) (oiloadN X0 hx hby d1_79 rfl (obipush X0 hx hby d1_80 k))) ?_
  have hs16 : ¬ (z2 = (6 : Int32)) := by rw [hz2]; exact hc15
  refine own_go (U' := s₁.setTop (mkF m 95 (lc2 p1 z2) [(.int 7), (.int z2)])) (fun t k => oicY (pc := 82) X0 hx hby d1_82 92 (feq hs16).2 (by decide) (oiloadN X0 hx hby d1_92 rfl (obipush X0 hx hby d1_93 k))) ?_
  have hs18 : ¬ (z2 = (7 : Int32)) := by rw [hz2]; exact hc17
  refine own_go (U' := s₁.setTop (mkF m 108 (lc2 p1 z2) [(.int 8), (.int z2)])) (fun t k => oicY (pc := 95) X0 hx hby d1_95 105 (feq hs18).2 (by decide) (oiloadN X0 hx hby d1_105 rfl (obipush X0 hx hby d1_106 k))) ?_
  have hs20 : ¬ (z2 = (8 : Int32)) := by rw [hz2]; exact hc19
  refine own_go (U' := s₁.setTop (mkF m 121 (lc2 p1 z2) [(.int 9), (.int z2)])) (fun t k => oicY (pc := 108) X0 hx hby d1_108 118 (feq hs20).2 (by decide) (oiloadN X0 hx hby d1_118 rfl (obipush X0 hx hby d1_119 k))) ?_
  have hs22 : ¬ (z2 = (9 : Int32)) := by rw [hz2]; exact hc21
  refine own_go (U' := s₁.setTop (mkF m 134 (lc2 p1 z2) [(.int 10), (.int z2)])) (fun t k => oicY (pc := 121) X0 hx hby d1_121 131 (feq hs22).2 (by decide) (oiloadN X0 hx hby d1_131 rfl (obipush X0 hx hby d1_132 k))) ?_
  have hs24 : ¬ (z2 = (10 : Int32)) := by rw [hz2]; exact hc23
  refine own_go (U' := s₁.setTop (mkF m 147 (lc2 p1 z2) [(.int 11), (.int z2)])) (fun t k => oicY (pc := 134) X0 hx hby d1_134 144 (feq hs24).2 (by decide) (oiloadN X0 hx hby d1_144 rfl (obipush X0 hx hby d1_145 k))) ?_
  have hs26 : ¬ (z2 = (11 : Int32)) := by rw [hz2]; exact hc25
  refine own_go (U' := s₁.setTop (mkF m 160 (lc2 p1 z2) [(.int 12), (.int z2)])) (fun t k => oicY (pc := 147) X0 hx hby d1_147 157 (feq hs26).2 (by decide) (oiloadN X0 hx hby d1_157 rfl (obipush X0 hx hby d1_158 k))) ?_
  have hs28 : ¬ (z2 = (12 : Int32)) := by rw [hz2]; exact hc27
  refine own_go (U' := s₁.setTop (mkF m 173 (lc2 p1 z2) [(.int 13), (.int z2)])) (fun t k => oicY (pc := 160) X0 hx hby d1_160 170 (feq hs28).2 (by decide) (oiloadN X0 hx hby d1_170 rfl (obipush X0 hx hby d1_171 k))) ?_
  have hs30 : ¬ (z2 = (13 : Int32)) := by rw [hz2]; exact hc29
  refine own_go (U' := s₁.setTop (mkF m 186 (lc2 p1 z2) [(.int 14), (.int z2)])) (fun t k => oicY (pc := 173) X0 hx hby d1_173 183 (feq hs30).2 (by decide) (oiloadN X0 hx hby d1_183 rfl (obipush X0 hx hby d1_184 k))) ?_
  have hs32 : ¬ (z2 = (14 : Int32)) := by rw [hz2]; exact hc31
  refine own_go (U' := s₁.setTop (mkF m 199 (lc2 p1 z2) [(.int 15), (.int z2)])) (fun t k => oicY (pc := 186) X0 hx hby d1_186 196 (feq hs32).2 (by decide) (oiloadN X0 hx hby d1_196 rfl (obipush X0 hx hby d1_197 k))) ?_
  have hs34 : ¬ (z2 = (15 : Int32)) := by rw [hz2]; exact hc33
  obtain ⟨T37, X37, e37, st37⟩ := getS2 X0 hx hZ hown (host := "") (Or.inl (ww hw 68 rfl)) Via.refl e0 F36 (g := (mkF m 209 (lc2 p1 z2) [])) rfl (hb hby d1_209)
  refine own_go (U' := T37.setTop (mkF m 214 (lc3 p1 z2 a35) [(.ref a35)])) (fun t k => oicY (pc := 199) X0 hx hby d1_199 209 (feq hs34).2 (by decide) (st37 _ (oastoreN X37 hx hby d1_212 (lc3 p1 z2 a35) rfl rfl (oaloadN X37 hx hby d1_213 rfl rfl k)))) ?_
  obtain ⟨fs, hr, hrun, hended, hW, hsame⟩ := X37.leave (v := some (.ref a35)) (fun h => by rw [Bd.returns] at h; cases h)
  refine own_out ⟨_, _, ?_, hrun, hended, _, _, rfl, ?_, ⟨_, rfl⟩, hW, hsame.mono (by decide) (by decide)⟩
  · exact retOut X37 hx Bd.returns rfl (Or.inr (Or.inr (Or.inr (Or.inr ⟨rfl, rfl, rfl⟩)))) (hb hby d1_214) hr
  · show Q1_16 Z p1 a35 a38 a40 a42 a44 a46 a48 a50 a52 a54 a56 a58 a60 a62 a64 a66 a68 h0 n0 _ T37.heap _
    rw [e37]
    exact ⟨(by simp [own_pick, hc3, hc5, hc7, hc9, hc11, hc13, hc15, hc17, hc19, hc21, hc23, hc25, hc27, hc29, hc31, hc33]), N0, rfl⟩
def Qmg1_17 (Z : State) (p1 : Int32) (a2 : Addr) (a4 : Addr) (a6 : Addr) (a8 : Addr) (a10 : Addr) (a12 : Addr) (a14 : Addr) (a16 : Addr) (a18 : Addr) (a20 : Addr) (a22 : Addr) (a24 : Addr) (a26 : Addr) (a28 : Addr) (a30 : Addr) (a32 : Addr) (a34 : Addr) (h0 : Heap) (n0 : Nat) (v : Option Value) (h : Heap) (L : List Loc) : Prop := v = some (.ref (own_pick ((p1 &&& (2147483647 : Int32)) % (17 : Int32)) a2 a4 a6 a8 a10 a12 a14 a16 a18 a20 a22 a24 a26 a28 a30 a32 a34)) ∧ Fr n0 L ∧ h = h0
theorem mg1_17 (l : Launch) (Z : State) (a0 : Array Value) (hw : ∀ d ∈ tables_1, d.before a0 Z = true) (ws : List Jvm.Cond) (p1 : Int32) (a2 : Addr) (a4 : Addr) (a6 : Addr) (a8 : Addr) (a10 : Addr) (a12 : Addr) (a14 : Addr) (a16 : Addr) (a18 : Addr) (a20 : Addr) (a22 : Addr) (a24 : Addr) (a26 : Addr) (a28 : Addr) (a30 : Addr) (a32 : Addr) (a34 : Addr) (h0 : Heap) (n0 : Nat) (Z0 : n0 ≤ h0.size) (F3 : Sta Z h0 zs0 "STRING" zs1 (.ref a2)) (F5 : Sta Z h0 zs0 "BOOLEAN" zs1 (.ref a4)) (F7 : Sta Z h0 zs0 "INTEGER" zs1 (.ref a6)) (F9 : Sta Z h0 zs0 "DOUBLE" zs1 (.ref a8)) (F11 : Sta Z h0 zs0 "TIME" zs1 (.ref a10)) (F13 : Sta Z h0 zs0 "DATE" zs1 (.ref a12)) (F15 : Sta Z h0 zs0 "DATE_TIME" zs1 (.ref a14)) (F17 : Sta Z h0 zs0 "ANY_URI" zs1 (.ref a16)) (F19 : Sta Z h0 zs0 "HEX_BINARY" zs1 (.ref a18)) (F21 : Sta Z h0 zs0 "BASE64_BINARY" zs1 (.ref a20)) (F23 : Sta Z h0 zs0 zs2 zs1 (.ref a22)) (F25 : Sta Z h0 zs0 zs3 zs1 (.ref a24)) (F27 : Sta Z h0 zs0 "X500_NAME" zs1 (.ref a26)) (F29 : Sta Z h0 zs0 "RFC822_NAME" zs1 (.ref a28)) (F31 : Sta Z h0 zs0 "IP_ADDRESS" zs1 (.ref a30)) (F33 : Sta Z h0 zs0 "DNS_NAME" zs1 (.ref a32)) (F35 : Sta Z h0 zs0 zs4 zs1 (.ref a34)) :
    MetFree l zm0 (head1 (Jvm.Cond.code zm0 method_2_code 3 (some (.object zs0)) :: ws) ({ frames := 0, cells := 0, slots := 0, locals := 0 } : Room)) (fun a U => a = #[(.int p1)] ∧ Z.Warmed39 U.vm ∧ U.heap = h0) (fun _ _ _ _ _ => True) (fun _ U o U' => ∃ v L, o = .returned v ∧ Qmg1_17 Z p1 a2 a4 a6 a8 a10 a12 a14 a16 a18 a20 a22 a24 a26 a28 a30 a32 a34 h0 n0 v U'.heap L ∧ FrameEnd U o U' L ({ frames := 0, cells := 0, slots := 0, locals := 0 } : Room).cells ({ frames := 0, cells := 0, slots := 0, locals := 0 } : Room).slots) := by
  by_cases hm1 : ((p1 &&& (2147483647 : Int32)) % (17 : Int32)) = (0 : Int32)
  · exact rm1_0 l Z a0 hw ws p1 a2 a4 a6 a8 a10 a12 a14 a16 a18 a20 a22 a24 a26 a28 a30 a32 a34 h0 n0 Z0 hm1 F3 F5 F7 F9 F11 F13 F15 F17 F19 F21 F23 F25 F27 F29 F31 F33 F35
  · by_cases hm2 : ((p1 &&& (2147483647 : Int32)) % (17 : Int32)) = (1 : Int32)
    · exact rm1_1 l Z a0 hw ws p1 a4 a2 a6 a8 a10 a12 a14 a16 a18 a20 a22 a24 a26 a28 a30 a32 a34 h0 n0 Z0 hm1 hm2 F5 F3 F7 F9 F11 F13 F15 F17 F19 F21 F23 F25 F27 F29 F31 F33 F35
    · by_cases hm3 : ((p1 &&& (2147483647 : Int32)) % (17 : Int32)) = (2 : Int32)
      · exact rm1_2 l Z a0 hw ws p1 a6 a2 a4 a8 a10 a12 a14 a16 a18 a20 a22 a24 a26 a28 a30 a32 a34 h0 n0 Z0 hm1 hm2 hm3 F7 F3 F5 F9 F11 F13 F15 F17 F19 F21 F23 F25 F27 F29 F31 F33 F35
      · by_cases hm4 : ((p1 &&& (2147483647 : Int32)) % (17 : Int32)) = (3 : Int32)
        · exact rm1_3 l Z a0 hw ws p1 a8 a2 a4 a6 a10 a12 a14 a16 a18 a20 a22 a24 a26 a28 a30 a32 a34 h0 n0 Z0 hm1 hm2 hm3 hm4 F9 F3 F5 F7 F11 F13 F15 F17 F19 F21 F23 F25 F27 F29 F31 F33 F35
        · by_cases hm5 : ((p1 &&& (2147483647 : Int32)) % (17 : Int32)) = (4 : Int32)
          · exact rm1_4 l Z a0 hw ws p1 a10 a2 a4 a6 a8 a12 a14 a16 a18 a20 a22 a24 a26 a28 a30 a32 a34 h0 n0 Z0 hm1 hm2 hm3 hm4 hm5 F11 F3 F5 F7 F9 F13 F15 F17 F19 F21 F23 F25 F27 F29 F31 F33 F35
          · by_cases hm6 : ((p1 &&& (2147483647 : Int32)) % (17 : Int32)) = (5 : Int32)
            · exact rm1_5 l Z a0 hw ws p1 a12 a2 a4 a6 a8 a10 a14 a16 a18 a20 a22 a24 a26 a28 a30 a32 a34 h0 n0 Z0 hm1 hm2 hm3 hm4 hm5 hm6 F13 F3 F5 F7 F9 F11 F15 F17 F19 F21 F23 F25 F27 F29 F31 F33 F35
            · by_cases hm7 : ((p1 &&& (2147483647 : Int32)) % (17 : Int32)) = (6 : Int32)
              · exact rm1_6 l Z a0 hw ws p1 a14 a2 a4 a6 a8 a10 a12 a16 a18 a20 a22 a24 a26 a28 a30 a32 a34 h0 n0 Z0 hm1 hm2 hm3 hm4 hm5 hm6 hm7 F15 F3 F5 F7 F9 F11 F13 F17 F19 F21 F23 F25 F27 F29 F31 F33 F35
              · by_cases hm8 : ((p1 &&& (2147483647 : Int32)) % (17 : Int32)) = (7 : Int32)
                · exact rm1_7 l Z a0 hw ws p1 a16 a2 a4 a6 a8 a10 a12 a14 a18 a20 a22 a24 a26 a28 a30 a32 a34 h0 n0 Z0 hm1 hm2 hm3 hm4 hm5 hm6 hm7 hm8 F17 F3 F5 F7 F9 F11 F13 F15 F19 F21 F23 F25 F27 F29 F31 F33 F35
                · by_cases hm9 : ((p1 &&& (2147483647 : Int32)) % (17 : Int32)) = (8 : Int32)
                  · exact rm1_8 l Z a0 hw ws p1 a18 a2 a4 a6 a8 a10 a12 a14 a16 a20 a22 a24 a26 a28 a30 a32 a34 h0 n0 Z0 hm1 hm2 hm3 hm4 hm5 hm6 hm7 hm8 hm9 F19 F3 F5 F7 F9 F11 F13 F15 F17 F21 F23 F25 F27 F29 F31 F33 F35
                  · by_cases hm10 : ((p1 &&& (2147483647 : Int32)) % (17 : Int32)) = (9 : Int32)
                    · exact rm1_9 l Z a0 hw ws p1 a20 a2 a4 a6 a8 a10 a12 a14 a16 a18 a22 a24 a26 a28 a30 a32 a34 h0 n0 Z0 hm1 hm2 hm3 hm4 hm5 hm6 hm7 hm8 hm9 hm10 F21 F3 F5 F7 F9 F11 F13 F15 F17 F19 F23 F25 F27 F29 F31 F33 F35
                    · by_cases hm11 : ((p1 &&& (2147483647 : Int32)) % (17 : Int32)) = (10 : Int32)
                      · exact rm1_10 l Z a0 hw ws p1 a22 a2 a4 a6 a8 a10 a12 a14 a16 a18 a20 a24 a26 a28 a30 a32 a34 h0 n0 Z0 hm1 hm2 hm3 hm4 hm5 hm6 hm7 hm8 hm9 hm10 hm11 F23 F3 F5 F7 F9 F11 F13 F15 F17 F19 F21 F25 F27 F29 F31 F33 F35
                      · by_cases hm12 : ((p1 &&& (2147483647 : Int32)) % (17 : Int32)) = (11 : Int32)
                        · exact rm1_11 l Z a0 hw ws p1 a24 a2 a4 a6 a8 a10 a12 a14 a16 a18 a20 a22 a26 a28 a30 a32 a34 h0 n0 Z0 hm1 hm2 hm3 hm4 hm5 hm6 hm7 hm8 hm9 hm10 hm11 hm12 F25 F3 F5 F7 F9 F11 F13 F15 F17 F19 F21 F23 F27 F29 F31 F33 F35
                        · by_cases hm13 : ((p1 &&& (2147483647 : Int32)) % (17 : Int32)) = (12 : Int32)
                          · exact rm1_12 l Z a0 hw ws p1 a26 a2 a4 a6 a8 a10 a12 a14 a16 a18 a20 a22 a24 a28 a30 a32 a34 h0 n0 Z0 hm1 hm2 hm3 hm4 hm5 hm6 hm7 hm8 hm9 hm10 hm11 hm12 hm13 F27 F3 F5 F7 F9 F11 F13 F15 F17 F19 F21 F23 F25 F29 F31 F33 F35
                          · by_cases hm14 : ((p1 &&& (2147483647 : Int32)) % (17 : Int32)) = (13 : Int32)
                            · exact rm1_13 l Z a0 hw ws p1 a28 a2 a4 a6 a8 a10 a12 a14 a16 a18 a20 a22 a24 a26 a30 a32 a34 h0 n0 Z0 hm1 hm2 hm3 hm4 hm5 hm6 hm7 hm8 hm9 hm10 hm11 hm12 hm13 hm14 F29 F3 F5 F7 F9 F11 F13 F15 F17 F19 F21 F23 F25 F27 F31 F33 F35
                            · by_cases hm15 : ((p1 &&& (2147483647 : Int32)) % (17 : Int32)) = (14 : Int32)
                              · exact rm1_14 l Z a0 hw ws p1 a30 a2 a4 a6 a8 a10 a12 a14 a16 a18 a20 a22 a24 a26 a28 a32 a34 h0 n0 Z0 hm1 hm2 hm3 hm4 hm5 hm6 hm7 hm8 hm9 hm10 hm11 hm12 hm13 hm14 hm15 F31 F3 F5 F7 F9 F11 F13 F15 F17 F19 F21 F23 F25 F27 F29 F33 F35
                              · by_cases hm16 : ((p1 &&& (2147483647 : Int32)) % (17 : Int32)) = (15 : Int32)
                                · exact rm1_15 l Z a0 hw ws p1 a32 a2 a4 a6 a8 a10 a12 a14 a16 a18 a20 a22 a24 a26 a28 a30 a34 h0 n0 Z0 hm1 hm2 hm3 hm4 hm5 hm6 hm7 hm8 hm9 hm10 hm11 hm12 hm13 hm14 hm15 hm16 F33 F3 F5 F7 F9 F11 F13 F15 F17 F19 F21 F23 F25 F27 F29 F31 F35
                                · exact rm1_16 l Z a0 hw ws p1 a34 a2 a4 a6 a8 a10 a12 a14 a16 a18 a20 a22 a24 a26 a28 a30 a32 h0 n0 Z0 hm1 hm2 hm3 hm4 hm5 hm6 hm7 hm8 hm9 hm10 hm11 hm12 hm13 hm14 hm15 hm16 F35 F3 F5 F7 F9 F11 F13 F15 F17 F19 F21 F23 F25 F27 F29 F31 F33
def Q3_18 (Z : State) (a1 : Addr) (a2 : Addr) (h0 : Heap) (n0 : Nat) (v : Option Value) (h : Heap) (L : List Loc) : Prop := v = none ∧ Fr n0 L ∧ Keep h0 h [a1] ∧ Fld Z h a1 zs7 "type" zs1 (.ref a2) ∧ Fld Z h a1 zs7 "bag" "Z" (.int 0) ∧ Fld Z h a1 zs7 "repeated" "Z" (.int 1) ∧ Fld Z h a1 zs7 "function" zs8 .null
set_option maxRecDepth 65536 in
set_option maxHeartbeats 40000000 in
theorem rm3_18 (l : Launch) (Z : State) (a0 : Array Value) (hw : ∀ d ∈ tables_1, d.before a0 Z = true) (ws : List Jvm.Cond) (a1 : Addr) (a2 : Addr) (h0 : Heap) (n0 : Nat) (Z0 : n0 ≤ h0.size) (F4 : Fld Z h0 a1 zs7 "type" zs1 .null) (F5 : Fld Z h0 a1 zs7 "bag" "Z" (.int 0)) (F6 : Fld Z h0 a1 zs7 "repeated" "Z" (.int 0)) (F7 : Fld Z h0 a1 zs7 "function" zs8 .null) (F8 : Exa Z h0 a1 zs7) (g10 : n0 ≤ a1) :
    MetFree l zm1 (head1 (Jvm.Cond.code zm1 prog_68_method_1_code 5 none :: ws) ({ frames := 1, cells := 0, slots := 0, locals := 12 } : Room)) (fun a U => a = #[(.ref a1), (.ref a2), (.int 0), (.int 1), .null] ∧ Z.Warmed39 U.vm ∧ U.heap = h0) (fun _ _ _ _ _ => True) (fun _ U o U' => ∃ v L, o = .returned v ∧ Q3_18 Z a1 a2 h0 n0 v U'.heap L ∧ FrameEnd U o U' L ({ frames := 1, cells := 0, slots := 0, locals := 12 } : Room).cells ({ frames := 1, cells := 0, slots := 0, locals := 12 } : Room).slots) := by
  refine MetFree.of_bodySF (plainFor_of_name pn_com_example_aspen_aspen_engine_Parameter) hisR ?_
  intro p e s m args below meth c s₁ Bd hml0 hP hK
  obtain ⟨rfl, hZ, hh⟩ := hP
  have hx := Bd.exec
  have hby := Bd.bytes
  have hml : c.maxLocals = 5 := hml0
  have hown : s.vm.findClass zs7 = some m.cls := findClass_of_methodNamed Bd.named
  have hnm := (name_of_methodNamed Bd.named Bd.method).1
  have X0 : Stand p l e ({ frames := 1, cells := 0, slots := 0, locals := 12 } : Room) s m #[(.ref a1), (.ref a2), (.int 0), (.int 1), .null] below meth c s₁ [] 0 0 := Stand.of_body Bd
  have e0 : s₁.heap = h0 := by rw [← hh, Bd.state]; rfl
  have N0 := Fr.nil n0
  refine own_pre (g' := mkF m 0 (lc7 a1 a2 0 1) []) (ef_1 m a1 a2 (0 : Int32) (1 : Int32)) ?_
  obtain ⟨T3, X3, e3, st3⟩ := initO X0 hx hZ hown (ww hw 19 rfl) (ww hw 20 rfl) (ww hw 21 rfl) e0 (g := (mkF m 1 (lc7 a1 a2 0 1) [(.ref a1)])) rfl (by rw [hml]; rfl) rfl (hb hby d3_1) (by decide) (W := 0) (by show 2 * 0 + _ ≤ _; exact Nat.le_of_eq rfl) (by decide)
  obtain ⟨T9, h9, X9, e9, W9, st9⟩ := putF X3 hx hZ hown (host := "") (Or.inl (ww hw 22 rfl)) Via.refl e3 F4 F8 (Or.inr ⟨(ww hw 23 rfl), rfl, hnm⟩) (ww hw 15 rfl) (ty := (.object zs0)) (by decide) rfl rfl (g := (mkF m 6 (lc7 a1 a2 0 1) [(.ref a2), (.ref a1)])) rfl rfl (hb hby d3_6)
  have N11 := Fr.snoc X9 N0 g10
  have f12 : Fld Z h9 a1 zs7 "type" zs1 (.ref a2) := Fld.same W9 F4
  have f13 : Fld Z h9 a1 zs7 "bag" "Z" (.int 0) := (Fld.other W9 F5 (Or.inr (slot_ne (Or.inr (ww hw 25 rfl)) (Or.inr (ww hw 23 rfl)) (by decide) (t := .boolean) (t' := (.object zs0)) (by decide) (by decide))))
  have f14 : Exa Z h9 a1 zs7 := (Exa.wr W9 F8)
  obtain ⟨T15, h15, X15, e15, W15, st15⟩ := putFN X9 hx hZ hown (ww hw 24 rfl) Via.refl e9 f13 f14 (Or.inr ⟨(ww hw 25 rfl), rfl, hnm⟩) (ww hw 15 rfl) (ty := .boolean) (v' := (.int 0)) (by decide) rfl (by decide) (g := (mkF m 11 (lc7 a1 a2 0 1) [(.int 0), (.ref a1)])) rfl rfl (hb hby d3_11)
  have N16 := Fr.snoc X15 N11 g10
  have f17 : Fld Z h15 a1 zs7 "bag" "Z" (.int 0) := Fld.same W15 f13
  have f18 : Fld Z h15 a1 zs7 "repeated" "Z" (.int 0) := (Fld.other W15 (Fld.other W9 F6 (Or.inr (slot_ne (Or.inr (ww hw 27 rfl)) (Or.inr (ww hw 23 rfl)) (by decide) (t := .boolean) (t' := (.object zs0)) (by decide) (by decide)))) (Or.inr (slot_ne (Or.inr (ww hw 27 rfl)) (Or.inr (ww hw 25 rfl)) (by decide) (t := .boolean) (t' := .boolean) (by decide) (by decide))))
  have f19 : Exa Z h15 a1 zs7 := (Exa.wr W15 f14)
  obtain ⟨T20, h20, X20, e20, W20, st20⟩ := putFN X15 hx hZ hown (ww hw 26 rfl) Via.refl e15 f18 f19 (Or.inr ⟨(ww hw 27 rfl), rfl, hnm⟩) (ww hw 15 rfl) (ty := .boolean) (v' := (.int 1)) (by decide) rfl (by decide) (g := (mkF m 16 (lc7 a1 a2 0 1) [(.int 1), (.ref a1)])) rfl rfl (hb hby d3_16)
  have N21 := Fr.snoc X20 N16 g10
  have f22 : Fld Z h20 a1 zs7 "repeated" "Z" (.int 1) := Fld.same W20 f18
  have f23 : Fld Z h20 a1 zs7 "function" zs8 .null := (Fld.other W20 (Fld.other W15 (Fld.other W9 F7 (Or.inr (slot_ne (Or.inr (ww hw 29 rfl)) (Or.inr (ww hw 23 rfl)) (by decide) (t := (.object zs10)) (t' := (.object zs0)) (by decide) (by decide)))) (Or.inr (slot_ne (Or.inr (ww hw 29 rfl)) (Or.inr (ww hw 25 rfl)) (by decide) (t := (.object zs10)) (t' := .boolean) (by decide) (by decide)))) (Or.inr (slot_ne (Or.inr (ww hw 29 rfl)) (Or.inr (ww hw 27 rfl)) (by decide) (t := (.object zs10)) (t' := .boolean) (by decide) (by decide))))
  have f24 : Exa Z h20 a1 zs7 := (Exa.wr W20 f19)
  obtain ⟨T25, h25, X25, e25, W25, st25⟩ := putF X20 hx hZ hown (host := "") (Or.inl (ww hw 28 rfl)) Via.refl e20 f23 f24 (Or.inr ⟨(ww hw 29 rfl), rfl, hnm⟩) (ww hw 15 rfl) (ty := (.object zs10)) (by decide) rfl rfl (g := (mkF m 22 (lc7 a1 a2 0 1) [.null, (.ref a1)])) rfl rfl (hb hby d3_22)
  have N26 := Fr.snoc X25 N21 g10
  have f27 : Fld Z h25 a1 zs7 "function" zs8 .null := Fld.same W25 f23
  refine own_go (U' := T25.setTop (mkF m 25 (lc7 a1 a2 0 1) [])) (fun t k => oaloadN X0 hx hby d3_0 rfl rfl (st3 _ (oaloadN X3 hx hby d3_4 rfl rfl (oaloadN X3 hx hby d3_5 rfl rfl (st9 _ (oaloadN X9 hx hby d3_9 rfl rfl (oiloadN X9 hx hby d3_10 rfl (st15 _ (oaloadN X15 hx hby d3_14 rfl rfl (oiloadN X15 hx hby d3_15 rfl (st20 _ (oaloadN X20 hx hby d3_19 rfl rfl (oaload X20 hx hby d3_20 rfl rfl (st25 _ k)))))))))))))) ?_
  have f28 : Fld Z h25 a1 zs7 "type" zs1 (.ref a2) := (Fld.other W25 (Fld.other W20 (Fld.other W15 f12 (Or.inr (slot_ne (Or.inr (ww hw 23 rfl)) (Or.inr (ww hw 25 rfl)) (by decide) (t := (.object zs0)) (t' := .boolean) (by decide) (by decide)))) (Or.inr (slot_ne (Or.inr (ww hw 23 rfl)) (Or.inr (ww hw 27 rfl)) (by decide) (t := (.object zs0)) (t' := .boolean) (by decide) (by decide)))) (Or.inr (slot_ne (Or.inr (ww hw 23 rfl)) (Or.inr (ww hw 29 rfl)) (by decide) (t := (.object zs0)) (t' := (.object zs10)) (by decide) (by decide))))
  have f29 : Fld Z h25 a1 zs7 "bag" "Z" (.int 0) := (Fld.other W25 (Fld.other W20 f17 (Or.inr (slot_ne (Or.inr (ww hw 25 rfl)) (Or.inr (ww hw 27 rfl)) (by decide) (t := .boolean) (t' := .boolean) (by decide) (by decide)))) (Or.inr (slot_ne (Or.inr (ww hw 25 rfl)) (Or.inr (ww hw 29 rfl)) (by decide) (t := .boolean) (t' := (.object zs10)) (by decide) (by decide))))
  have f30 : Fld Z h25 a1 zs7 "repeated" "Z" (.int 1) := (Fld.other W25 f22 (Or.inr (slot_ne (Or.inr (ww hw 27 rfl)) (Or.inr (ww hw 29 rfl)) (by decide) (t := .boolean) (t' := (.object zs10)) (by decide) (by decide))))
  obtain ⟨fs, hr, hrun, hended, hW, hsame⟩ := X25.leave (v := none) (fun _ => rfl)
  refine own_out ⟨_, _, ?_, hrun, hended, _, _, rfl, ?_, ⟨_, rfl⟩, hW, hsame.mono (by decide) (by decide)⟩
  · exact X25.returnOut hx Bd.returns (hb hby d3_25) hr
  · show Q3_18 Z a1 a2 h0 n0 _ T25.heap _
    rw [e25]
    exact ⟨rfl, N26, (((((Keep.refl h0 [a1]).wr W9 (Or.inl (List.mem_of_getElem? (i := 0) rfl))).wr W15 (Or.inl (List.mem_of_getElem? (i := 0) rfl))).wr W20 (Or.inl (List.mem_of_getElem? (i := 0) rfl))).wr W25 (Or.inl (List.mem_of_getElem? (i := 0) rfl))), f28, f29, f30, f27⟩
def Q2_19 (Z : State) (a1 : Addr) (h0 : Heap) (n0 : Nat) (v : Option Value) (h : Heap) (L : List Loc) : Prop := ∃ b2 : Addr, v = some (.ref b2) ∧ Fr n0 L ∧ Keep h0 h [] ∧ h0.size ≤ b2 ∧ Exa Z h b2 zs7 ∧ Fld Z h b2 zs7 "type" zs1 (.ref a1) ∧ Fld Z h b2 zs7 "bag" "Z" (.int 0) ∧ Fld Z h b2 zs7 "repeated" "Z" (.int 1) ∧ Fld Z h b2 zs7 "function" zs8 .null
set_option maxRecDepth 65536 in
set_option maxHeartbeats 40000000 in
theorem rm2_19 (l : Launch) (Z : State) (a0 : Array Value) (hw : ∀ d ∈ tables_1, d.before a0 Z = true) (ws : List Jvm.Cond) (a1 : Addr) (h0 : Heap) (n0 : Nat) (Z0 : n0 ≤ h0.size) :
    MetFree l zm2 (head1 (Jvm.Cond.code zm2 prog_68_method_4_code 1 (some (.object zs7)) :: ws) ({ frames := 2, cells := 1, slots := 4, locals := 29 } : Room)) (fun a U => a = #[(.ref a1)] ∧ Z.Warmed39 U.vm ∧ U.heap = h0) (fun _ _ _ _ _ => True) (fun _ U o U' => ∃ v L, o = .returned v ∧ Q2_19 Z a1 h0 n0 v U'.heap L ∧ FrameEnd U o U' L ({ frames := 2, cells := 1, slots := 4, locals := 29 } : Room).cells ({ frames := 2, cells := 1, slots := 4, locals := 29 } : Room).slots) := by
  refine MetFree.of_bodySF (plainFor_of_name pn_com_example_aspen_aspen_engine_Parameter) hisR ?_
  intro p e s m args below meth c s₁ Bd hml0 hP hK
  obtain ⟨rfl, hZ, hh⟩ := hP
  have hx := Bd.exec
  have hby := Bd.bytes
  have hml : c.maxLocals = 1 := hml0
  have hown : s.vm.findClass zs7 = some m.cls := findClass_of_methodNamed Bd.named
  have hnm := (name_of_methodNamed Bd.named Bd.method).1
  have X0 : Stand p l e ({ frames := 2, cells := 1, slots := 4, locals := 29 } : Room) s m #[(.ref a1)] below meth c s₁ [] 0 0 := Stand.of_body Bd
  have e0 : s₁.heap = h0 := by rw [← hh, Bd.state]; rfl
  have N0 := Fr.nil n0
  refine own_pre (g' := mkF m 0 (lc6 a1) []) (ef_2 m a1) ?_
  obtain ⟨T2, h2, X2, e2, E2, A2, D2, -, st2⟩ := newO X0 hx hZ hown (ww hw 14 rfl) (ww hw 15 rfl) (ww hw 12 rfl) e0 (g := (mkF m 0 (lc6 a1) [])) rfl (hb hby d2_0) (by decide) (by decide)
  obtain ⟨b2, g2⟩ : ∃ z, z = h0.size := ⟨_, rfl⟩
  rw [← g2] at A2 D2 st2
  have f3 : Fld Z h2 b2 zs7 "type" zs1 .null := D2 (Or.inr (ww hw 23 rfl)) (ty := (.object zs0)) (by decide)
  have f4 : Fld Z h2 b2 zs7 "bag" "Z" (.int 0) := D2 (Or.inr (ww hw 25 rfl)) (ty := .boolean) (by decide)
  have f5 : Fld Z h2 b2 zs7 "repeated" "Z" (.int 0) := D2 (Or.inr (ww hw 27 rfl)) (ty := .boolean) (by decide)
  have f6 : Fld Z h2 b2 zs7 "function" zs8 .null := D2 (Or.inr (ww hw 29 rfl)) (ty := (.object zs10)) (by decide)
  have g8 : n0 ≤ b2 := Nat.le_trans Z0 (Nat.le_of_eq g2.symm)
  have Z_1 : n0 ≤ h2.size := Nat.le_trans Z0 E2.1
  obtain ⟨_, T7, L7, X7, hQ7, st7⟩ := ocallI X2 hx hZ zm1 rfl hown (ww hw 16 rfl) (ww hw 17 rfl) (by decide) (ww hw 18 rfl) (ww hw 12 rfl) e2 (rm3_18 l Z a0 hw [] b2 a1 h2 n0 Z_1 f3 f4 f5 f6 A2 g8) (st := [.null, (.int 1), (.int 0), (.ref a1), (.ref b2), (.ref b2)]) rfl 1 rfl (by decide) (pc := 8) (Ls := (lc6 a1)) hml rfl (lenOf pd_1 rfl) d2_8 hby
  obtain ⟨rfl, N7q, K7, f9, f10, f11, f12⟩ := hQ7
  have N13 := Fr.app N0 N7q
  refine own_go (U' := T7.setTop (mkF m 11 (lc6 a1) [(.ref b2)])) (fun t k => st2 _ (odup X2 hx hby d2_3 rfl (oaloadN X2 hx hby d2_4 rfl rfl (oiconst X2 hx hby d2_5 (oiconst X2 hx hby d2_6 (onull X2 hx hby d2_7 (st7 _ k))))))) ?_
  have f14 : Exa Z T7.heap b2 zs7 := (A2.keep K7)
  obtain ⟨fs, hr, hrun, hended, hW, hsame⟩ := X7.leave (v := some (.ref b2)) (fun h => by rw [Bd.returns] at h; cases h)
  refine own_out ⟨_, _, ?_, hrun, hended, _, _, rfl, ?_, ⟨_, rfl⟩, hW, hsame.mono (by decide) (by decide)⟩
  · exact retOut X7 hx Bd.returns rfl (Or.inr (Or.inr (Or.inr (Or.inr ⟨rfl, rfl, rfl⟩)))) (hb hby d2_11) hr
  · show Q2_19 Z a1 h0 n0 _ T7.heap _
    exact ⟨b2, rfl, N13, (Keep.trans ((Keep.refl h0 []).ext E2) K7 (allS (Or.inr (Nat.le_of_eq g2.symm)) all0)), (Nat.le_of_eq g2.symm), f14, f9, f10, f11, f12⟩
def Q5_20 (Z : State) (a1 : Addr) (a2 : Addr) (h0 : Heap) (n0 : Nat) (v : Option Value) (h : Heap) (L : List Loc) : Prop := v = some (.ref a2) ∧ Fr n0 L ∧ h = h0
set_option maxRecDepth 65536 in
set_option maxHeartbeats 40000000 in
theorem rm5_20 (l : Launch) (Z : State) (a0 : Array Value) (hw : ∀ d ∈ tables_1, d.before a0 Z = true) (ws : List Jvm.Cond) (a1 : Addr) (a2 : Addr) (h0 : Heap) (n0 : Nat) (Z0 : n0 ≤ h0.size) (F3 : Fld Z h0 a1 zs7 "type" zs1 (.ref a2)) :
    MetFree l zm3 (head1 (Jvm.Cond.code zm3 prog_68_method_7_code 1 (some (.object zs0)) :: ws) ({ frames := 0, cells := 0, slots := 0, locals := 0 } : Room)) (fun a U => a = #[(.ref a1)] ∧ Z.Warmed39 U.vm ∧ U.heap = h0) (fun _ _ _ _ _ => True) (fun _ U o U' => ∃ v L, o = .returned v ∧ Q5_20 Z a1 a2 h0 n0 v U'.heap L ∧ FrameEnd U o U' L ({ frames := 0, cells := 0, slots := 0, locals := 0 } : Room).cells ({ frames := 0, cells := 0, slots := 0, locals := 0 } : Room).slots) := by
  refine MetFree.of_bodySF (plainFor_of_name pn_com_example_aspen_aspen_engine_Parameter) hisR ?_
  intro p e s m args below meth c s₁ Bd hml0 hP hK
  obtain ⟨rfl, hZ, hh⟩ := hP
  have hx := Bd.exec
  have hby := Bd.bytes
  have hml : c.maxLocals = 1 := hml0
  have hown : s.vm.findClass zs7 = some m.cls := findClass_of_methodNamed Bd.named
  have hnm := (name_of_methodNamed Bd.named Bd.method).1
  have X0 : Stand p l e ({ frames := 0, cells := 0, slots := 0, locals := 0 } : Room) s m #[(.ref a1)] below meth c s₁ [] 0 0 := Stand.of_body Bd
  have e0 : s₁.heap = h0 := by rw [← hh, Bd.state]; rfl
  have N0 := Fr.nil n0
  refine own_pre (g' := mkF m 0 (lc6 a1) []) (ef_2 m a1) ?_
  obtain ⟨T4, X4, e4, st4⟩ := getF X0 hx hZ hown (host := "") (Or.inl (ww hw 22 rfl)) Via.refl e0 F3 (g := (mkF m 1 (lc6 a1) [(.ref a1)])) rfl rfl (hb hby d5_1)
  refine own_go (U' := T4.setTop (mkF m 4 (lc6 a1) [(.ref a2)])) (fun t k => oaloadN X0 hx hby d5_0 rfl rfl (st4 _ k)) ?_
  obtain ⟨fs, hr, hrun, hended, hW, hsame⟩ := X4.leave (v := some (.ref a2)) (fun h => by rw [Bd.returns] at h; cases h)
  refine own_out ⟨_, _, ?_, hrun, hended, _, _, rfl, ?_, ⟨_, rfl⟩, hW, hsame.mono (by decide) (by decide)⟩
  · exact retOut X4 hx Bd.returns rfl (Or.inr (Or.inr (Or.inr (Or.inr ⟨rfl, rfl, rfl⟩)))) (hb hby d5_4) hr
  · show Q5_20 Z a1 a2 h0 n0 _ T4.heap _
    rw [e4]
    exact ⟨rfl, N0, rfl⟩
def Q6_21 (Z : State) (a1 : Addr) (h0 : Heap) (n0 : Nat) (v : Option Value) (h : Heap) (L : List Loc) : Prop := v = some (.int 0) ∧ Fr n0 L ∧ h = h0
set_option maxRecDepth 65536 in
set_option maxHeartbeats 40000000 in
theorem rm6_21 (l : Launch) (Z : State) (a0 : Array Value) (hw : ∀ d ∈ tables_1, d.before a0 Z = true) (ws : List Jvm.Cond) (a1 : Addr) (h0 : Heap) (n0 : Nat) (Z0 : n0 ≤ h0.size) (F2 : Fld Z h0 a1 zs7 "bag" "Z" (.int 0)) :
    MetFree l zm4 (head1 (Jvm.Cond.code zm4 prog_68_method_8_code 1 (some .boolean) :: ws) ({ frames := 0, cells := 0, slots := 0, locals := 0 } : Room)) (fun a U => a = #[(.ref a1)] ∧ Z.Warmed39 U.vm ∧ U.heap = h0) (fun _ _ _ _ _ => True) (fun _ U o U' => ∃ v L, o = .returned v ∧ Q6_21 Z a1 h0 n0 v U'.heap L ∧ FrameEnd U o U' L ({ frames := 0, cells := 0, slots := 0, locals := 0 } : Room).cells ({ frames := 0, cells := 0, slots := 0, locals := 0 } : Room).slots) := by
  refine MetFree.of_bodySF (plainFor_of_name pn_com_example_aspen_aspen_engine_Parameter) hisR ?_
  intro p e s m args below meth c s₁ Bd hml0 hP hK
  obtain ⟨rfl, hZ, hh⟩ := hP
  have hx := Bd.exec
  have hby := Bd.bytes
  have hml : c.maxLocals = 1 := hml0
  have hown : s.vm.findClass zs7 = some m.cls := findClass_of_methodNamed Bd.named
  have hnm := (name_of_methodNamed Bd.named Bd.method).1
  have X0 : Stand p l e ({ frames := 0, cells := 0, slots := 0, locals := 0 } : Room) s m #[(.ref a1)] below meth c s₁ [] 0 0 := Stand.of_body Bd
  have e0 : s₁.heap = h0 := by rw [← hh, Bd.state]; rfl
  have N0 := Fr.nil n0
  refine own_pre (g' := mkF m 0 (lc6 a1) []) (ef_2 m a1) ?_
  obtain ⟨T3, X3, e3, st3⟩ := getF X0 hx hZ hown (host := "") (Or.inl (ww hw 24 rfl)) Via.refl e0 F2 (g := (mkF m 1 (lc6 a1) [(.ref a1)])) rfl rfl (hb hby d6_1)
  refine own_go (U' := T3.setTop (mkF m 4 (lc6 a1) [(.int 0)])) (fun t k => oaloadN X0 hx hby d6_0 rfl rfl (st3 _ k)) ?_
  obtain ⟨fs, hr, hrun, hended, hW, hsame⟩ := X3.leave (v := some (.int 0)) (fun h => by rw [Bd.returns] at h; cases h)
  refine own_out ⟨_, _, ?_, hrun, hended, _, _, rfl, ?_, ⟨_, rfl⟩, hW, hsame.mono (by decide) (by decide)⟩
  · exact retN X3 hx (t := .boolean) Bd.returns (by simp) (hb hby d6_4) hr
  · show Q6_21 Z a1 h0 n0 _ T3.heap _
    rw [e3]
    exact ⟨rfl, N0, rfl⟩
def Q7_22 (Z : State) (a1 : Addr) (h0 : Heap) (n0 : Nat) (v : Option Value) (h : Heap) (L : List Loc) : Prop := v = some (.int 1) ∧ Fr n0 L ∧ h = h0
set_option maxRecDepth 65536 in
set_option maxHeartbeats 40000000 in
theorem rm7_22 (l : Launch) (Z : State) (a0 : Array Value) (hw : ∀ d ∈ tables_1, d.before a0 Z = true) (ws : List Jvm.Cond) (a1 : Addr) (h0 : Heap) (n0 : Nat) (Z0 : n0 ≤ h0.size) (F2 : Fld Z h0 a1 zs7 "repeated" "Z" (.int 1)) :
    MetFree l zm5 (head1 (Jvm.Cond.code zm5 prog_68_method_9_code 1 (some .boolean) :: ws) ({ frames := 0, cells := 0, slots := 0, locals := 0 } : Room)) (fun a U => a = #[(.ref a1)] ∧ Z.Warmed39 U.vm ∧ U.heap = h0) (fun _ _ _ _ _ => True) (fun _ U o U' => ∃ v L, o = .returned v ∧ Q7_22 Z a1 h0 n0 v U'.heap L ∧ FrameEnd U o U' L ({ frames := 0, cells := 0, slots := 0, locals := 0 } : Room).cells ({ frames := 0, cells := 0, slots := 0, locals := 0 } : Room).slots) := by
  refine MetFree.of_bodySF (plainFor_of_name pn_com_example_aspen_aspen_engine_Parameter) hisR ?_
  intro p e s m args below meth c s₁ Bd hml0 hP hK
  obtain ⟨rfl, hZ, hh⟩ := hP
  have hx := Bd.exec
  have hby := Bd.bytes
  have hml : c.maxLocals = 1 := hml0
  have hown : s.vm.findClass zs7 = some m.cls := findClass_of_methodNamed Bd.named
  have hnm := (name_of_methodNamed Bd.named Bd.method).1
  have X0 : Stand p l e ({ frames := 0, cells := 0, slots := 0, locals := 0 } : Room) s m #[(.ref a1)] below meth c s₁ [] 0 0 := Stand.of_body Bd
  have e0 : s₁.heap = h0 := by rw [← hh, Bd.state]; rfl
  have N0 := Fr.nil n0
  refine own_pre (g' := mkF m 0 (lc6 a1) []) (ef_2 m a1) ?_
  obtain ⟨T3, X3, e3, st3⟩ := getF X0 hx hZ hown (host := "") (Or.inl (ww hw 26 rfl)) Via.refl e0 F2 (g := (mkF m 1 (lc6 a1) [(.ref a1)])) rfl rfl (hb hby d7_1)
  refine own_go (U' := T3.setTop (mkF m 4 (lc6 a1) [(.int 1)])) (fun t k => oaloadN X0 hx hby d7_0 rfl rfl (st3 _ k)) ?_
  obtain ⟨fs, hr, hrun, hended, hW, hsame⟩ := X3.leave (v := some (.int 1)) (fun h => by rw [Bd.returns] at h; cases h)
  refine own_out ⟨_, _, ?_, hrun, hended, _, _, rfl, ?_, ⟨_, rfl⟩, hW, hsame.mono (by decide) (by decide)⟩
  · exact retN X3 hx (t := .boolean) Bd.returns (by simp) (hb hby d7_4) hr
  · show Q7_22 Z a1 h0 n0 _ T3.heap _
    rw [e3]
    exact ⟨rfl, N0, rfl⟩
def Q8_23 (Z : State) (a1 : Addr) (h0 : Heap) (n0 : Nat) (v : Option Value) (h : Heap) (L : List Loc) : Prop := v = some (.int 0) ∧ Fr n0 L ∧ h = h0
set_option maxRecDepth 65536 in
set_option maxHeartbeats 40000000 in
theorem rm8_23 (l : Launch) (Z : State) (a0 : Array Value) (hw : ∀ d ∈ tables_1, d.before a0 Z = true) (ws : List Jvm.Cond) (a1 : Addr) (h0 : Heap) (n0 : Nat) (Z0 : n0 ≤ h0.size) (F2 : Fld Z h0 a1 zs7 "function" zs8 .null) :
    MetFree l zm6 (head1 (Jvm.Cond.code zm6 prog_68_method_10_code 1 (some .boolean) :: ws) ({ frames := 0, cells := 0, slots := 0, locals := 0 } : Room)) (fun a U => a = #[(.ref a1)] ∧ Z.Warmed39 U.vm ∧ U.heap = h0) (fun _ _ _ _ _ => True) (fun _ U o U' => ∃ v L, o = .returned v ∧ Q8_23 Z a1 h0 n0 v U'.heap L ∧ FrameEnd U o U' L ({ frames := 0, cells := 0, slots := 0, locals := 0 } : Room).cells ({ frames := 0, cells := 0, slots := 0, locals := 0 } : Room).slots) := by
  refine MetFree.of_bodySF (plainFor_of_name pn_com_example_aspen_aspen_engine_Parameter) hisR ?_
  intro p e s m args below meth c s₁ Bd hml0 hP hK
  obtain ⟨rfl, hZ, hh⟩ := hP
  have hx := Bd.exec
  have hby := Bd.bytes
  have hml : c.maxLocals = 1 := hml0
  have hown : s.vm.findClass zs7 = some m.cls := findClass_of_methodNamed Bd.named
  have hnm := (name_of_methodNamed Bd.named Bd.method).1
  have X0 : Stand p l e ({ frames := 0, cells := 0, slots := 0, locals := 0 } : Room) s m #[(.ref a1)] below meth c s₁ [] 0 0 := Stand.of_body Bd
  have e0 : s₁.heap = h0 := by rw [← hh, Bd.state]; rfl
  have N0 := Fr.nil n0
  refine own_pre (g' := mkF m 0 (lc6 a1) []) (ef_2 m a1) ?_
  obtain ⟨T3, X3, e3, st3⟩ := getF X0 hx hZ hown (host := "") (Or.inl (ww hw 28 rfl)) Via.refl e0 F2 (g := (mkF m 1 (lc6 a1) [(.ref a1)])) rfl rfl (hb hby d8_1)
  refine own_go (U' := T3.setTop (mkF m 12 (lc6 a1) [(.int 0)])) (fun t k => oaloadN X0 hx hby d8_0 rfl rfl (st3 _ (onlY (pc := 4) X3 hx hby d8_4 11 (by decide) (oiconst X3 hx hby d8_11 k)))) ?_
  obtain ⟨fs, hr, hrun, hended, hW, hsame⟩ := X3.leave (v := some (.int 0)) (fun h => by rw [Bd.returns] at h; cases h)
  refine own_out ⟨_, _, ?_, hrun, hended, _, _, rfl, ?_, ⟨_, rfl⟩, hW, hsame.mono (by decide) (by decide)⟩
  · exact retN X3 hx (t := .boolean) Bd.returns (by simp) (hb hby d8_12) hr
  · show Q8_23 Z a1 h0 n0 _ T3.heap _
    rw [e3]
    exact ⟨rfl, N0, rfl⟩
def Q9_24 (Z : State) (a1 : Addr) (h0 : Heap) (n0 : Nat) (v : Option Value) (h : Heap) (L : List Loc) : Prop := v = some .null ∧ Fr n0 L ∧ h = h0
set_option maxRecDepth 65536 in
set_option maxHeartbeats 40000000 in
theorem rm9_24 (l : Launch) (Z : State) (a0 : Array Value) (hw : ∀ d ∈ tables_1, d.before a0 Z = true) (ws : List Jvm.Cond) (a1 : Addr) (h0 : Heap) (n0 : Nat) (Z0 : n0 ≤ h0.size) (F2 : Fld Z h0 a1 zs7 "function" zs8 .null) :
    MetFree l zm7 (head1 (Jvm.Cond.code zm7 prog_68_method_11_code 1 (some (.object zs10)) :: ws) ({ frames := 0, cells := 0, slots := 0, locals := 0 } : Room)) (fun a U => a = #[(.ref a1)] ∧ Z.Warmed39 U.vm ∧ U.heap = h0) (fun _ _ _ _ _ => True) (fun _ U o U' => ∃ v L, o = .returned v ∧ Q9_24 Z a1 h0 n0 v U'.heap L ∧ FrameEnd U o U' L ({ frames := 0, cells := 0, slots := 0, locals := 0 } : Room).cells ({ frames := 0, cells := 0, slots := 0, locals := 0 } : Room).slots) := by
  refine MetFree.of_bodySF (plainFor_of_name pn_com_example_aspen_aspen_engine_Parameter) hisR ?_
  intro p e s m args below meth c s₁ Bd hml0 hP hK
  obtain ⟨rfl, hZ, hh⟩ := hP
  have hx := Bd.exec
  have hby := Bd.bytes
  have hml : c.maxLocals = 1 := hml0
  have hown : s.vm.findClass zs7 = some m.cls := findClass_of_methodNamed Bd.named
  have hnm := (name_of_methodNamed Bd.named Bd.method).1
  have X0 : Stand p l e ({ frames := 0, cells := 0, slots := 0, locals := 0 } : Room) s m #[(.ref a1)] below meth c s₁ [] 0 0 := Stand.of_body Bd
  have e0 : s₁.heap = h0 := by rw [← hh, Bd.state]; rfl
  have N0 := Fr.nil n0
  refine own_pre (g' := mkF m 0 (lc6 a1) []) (ef_2 m a1) ?_
  obtain ⟨T3, X3, e3, st3⟩ := getF X0 hx hZ hown (host := "") (Or.inl (ww hw 28 rfl)) Via.refl e0 F2 (g := (mkF m 1 (lc6 a1) [(.ref a1)])) rfl rfl (hb hby d9_1)
  refine own_go (U' := T3.setTop (mkF m 4 (lc6 a1) [.null])) (fun t k => oaloadN X0 hx hby d9_0 rfl rfl (st3 _ k)) ?_
  obtain ⟨fs, hr, hrun, hended, hW, hsame⟩ := X3.leave (v := some .null) (fun h => by rw [Bd.returns] at h; cases h)
  refine own_out ⟨_, _, ?_, hrun, hended, _, _, rfl, ?_, ⟨_, rfl⟩, hW, hsame.mono (by decide) (by decide)⟩
  · exact retOut X3 hx Bd.returns rfl (Or.inr (Or.inr (Or.inr (Or.inr ⟨rfl, rfl, rfl⟩)))) (hb hby d9_4) hr
  · show Q9_24 Z a1 h0 n0 _ T3.heap _
    rw [e3]
    exact ⟨rfl, N0, rfl⟩
def Q10_25 (Z : State) (a1 : Addr) (a2 : Addr) (h0 : Heap) (n0 : Nat) (v : Option Value) (h : Heap) (L : List Loc) : Prop := v = some (.int 1) ∧ Fr n0 L ∧ h = h0
set_option maxRecDepth 65536 in
set_option maxHeartbeats 40000000 in
theorem rm10_25 (l : Launch) (Z : State) (a0 : Array Value) (hw : ∀ d ∈ tables_1, d.before a0 Z = true) (ws : List Jvm.Cond) (a1 : Addr) (a2 : Addr) (h0 : Heap) (n0 : Nat) (Z0 : n0 ≤ h0.size) (F3 : Fld Z h0 a1 zs7 "type" zs1 (.ref a2)) (F5 : Fld Z h0 a1 zs7 "bag" "Z" (.int 0)) :
    MetFree l zm8 (head1 (Jvm.Cond.code zm8 prog_68_method_12_code 2 (some .boolean) :: ws) ({ frames := 0, cells := 0, slots := 0, locals := 0 } : Room)) (fun a U => a = #[(.ref a1), (.ref a2)] ∧ Z.Warmed39 U.vm ∧ U.heap = h0) (fun _ _ _ _ _ => True) (fun _ U o U' => ∃ v L, o = .returned v ∧ Q10_25 Z a1 a2 h0 n0 v U'.heap L ∧ FrameEnd U o U' L ({ frames := 0, cells := 0, slots := 0, locals := 0 } : Room).cells ({ frames := 0, cells := 0, slots := 0, locals := 0 } : Room).slots) := by
  refine MetFree.of_bodySF (plainFor_of_name pn_com_example_aspen_aspen_engine_Parameter) hisR ?_
  intro p e s m args below meth c s₁ Bd hml0 hP hK
  obtain ⟨rfl, hZ, hh⟩ := hP
  have hx := Bd.exec
  have hby := Bd.bytes
  have hml : c.maxLocals = 2 := hml0
  have hown : s.vm.findClass zs7 = some m.cls := findClass_of_methodNamed Bd.named
  have hnm := (name_of_methodNamed Bd.named Bd.method).1
  have X0 : Stand p l e ({ frames := 0, cells := 0, slots := 0, locals := 0 } : Room) s m #[(.ref a1), (.ref a2)] below meth c s₁ [] 0 0 := Stand.of_body Bd
  have e0 : s₁.heap = h0 := by rw [← hh, Bd.state]; rfl
  have N0 := Fr.nil n0
  refine own_pre (g' := mkF m 0 (lc10 a1 a2) []) (ef_3 m a1 a2) ?_
  obtain ⟨T4, X4, e4, st4⟩ := getF X0 hx hZ hown (host := "") (Or.inl (ww hw 22 rfl)) Via.refl e0 F3 (g := (mkF m 1 (lc10 a1 a2) [(.ref a1)])) rfl rfl (hb hby d10_1)
  obtain ⟨T6, X6, e6, st6⟩ := getF X4 hx hZ hown (host := "") (Or.inl (ww hw 24 rfl)) Via.refl e4 F5 (g := (mkF m 9 (lc10 a1 a2) [(.ref a1)])) rfl rfl (hb hby d10_9)
  refine own_go (U' := T6.setTop (mkF m 12 (lc10 a1 a2) [(.int 0)])) (fun t k => oaloadN X0 hx hby d10_0 rfl rfl (st4 _ (oaloadN X4 hx hby d10_4 rfl rfl (oacmp (pc := 5) X4 hx hby d10_5 8 (same := true) rfl rfl (decide_eq_true rfl) (by decide) (oaloadN X4 hx hby d10_8 rfl rfl (st6 _ k)))))) ?_
  refine own_go (U' := T6.setTop (mkF m 20 (lc10 a1 a2) [(.int 1)])) (fun t k => oifN X6 hx hby d10_12 (by decide) (oiconst X6 hx hby d10_15 (ogoto (pc := 16) X6 hx hby d10_16 20 (by decide) k))) ?_
  obtain ⟨fs, hr, hrun, hended, hW, hsame⟩ := X6.leave (v := some (.int 1)) (fun h => by rw [Bd.returns] at h; cases h)
  refine own_out ⟨_, _, ?_, hrun, hended, _, _, rfl, ?_, ⟨_, rfl⟩, hW, hsame.mono (by decide) (by decide)⟩
  · exact retN X6 hx (t := .boolean) Bd.returns (by simp) (hb hby d10_20) hr
  · show Q10_25 Z a1 a2 h0 n0 _ T6.heap _
    rw [e6]
    exact ⟨rfl, N0, rfl⟩
def Q10_26 (Z : State) (a1 : Addr) (a2 : Addr) (a3 : Addr) (h0 : Heap) (n0 : Nat) (v : Option Value) (h : Heap) (L : List Loc) : Prop := v = some (.int 1) ∧ Fr n0 L ∧ h = h0
set_option maxRecDepth 65536 in
set_option maxHeartbeats 40000000 in
theorem rm10_26 (l : Launch) (Z : State) (a0 : Array Value) (hw : ∀ d ∈ tables_1, d.before a0 Z = true) (ws : List Jvm.Cond) (a1 : Addr) (a2 : Addr) (a3 : Addr) (h0 : Heap) (n0 : Nat) (Z0 : n0 ≤ h0.size) (F4 : Fld Z h0 a1 zs7 "type" zs1 (.ref a3)) (ha6 : a3 = a2) (F7 : Fld Z h0 a1 zs7 "bag" "Z" (.int 0)) :
    MetFree l zm8 (head1 (Jvm.Cond.code zm8 prog_68_method_12_code 2 (some .boolean) :: ws) ({ frames := 0, cells := 0, slots := 0, locals := 0 } : Room)) (fun a U => a = #[(.ref a1), (.ref a2)] ∧ Z.Warmed39 U.vm ∧ U.heap = h0) (fun _ _ _ _ _ => True) (fun _ U o U' => ∃ v L, o = .returned v ∧ Q10_26 Z a1 a2 a3 h0 n0 v U'.heap L ∧ FrameEnd U o U' L ({ frames := 0, cells := 0, slots := 0, locals := 0 } : Room).cells ({ frames := 0, cells := 0, slots := 0, locals := 0 } : Room).slots) := by
  refine MetFree.of_bodySF (plainFor_of_name pn_com_example_aspen_aspen_engine_Parameter) hisR ?_
  intro p e s m args below meth c s₁ Bd hml0 hP hK
  obtain ⟨rfl, hZ, hh⟩ := hP
  have hx := Bd.exec
  have hby := Bd.bytes
  have hml : c.maxLocals = 2 := hml0
  have hown : s.vm.findClass zs7 = some m.cls := findClass_of_methodNamed Bd.named
  have hnm := (name_of_methodNamed Bd.named Bd.method).1
  have X0 : Stand p l e ({ frames := 0, cells := 0, slots := 0, locals := 0 } : Room) s m #[(.ref a1), (.ref a2)] below meth c s₁ [] 0 0 := Stand.of_body Bd
  have e0 : s₁.heap = h0 := by rw [← hh, Bd.state]; rfl
  have N0 := Fr.nil n0
  refine own_pre (g' := mkF m 0 (lc10 a1 a2) []) (ef_3 m a1 a2) ?_
  obtain ⟨T5, X5, e5, st5⟩ := getF X0 hx hZ hown (host := "") (Or.inl (ww hw 22 rfl)) Via.refl e0 F4 (g := (mkF m 1 (lc10 a1 a2) [(.ref a1)])) rfl rfl (hb hby d10_1)
  obtain ⟨T8, X8, e8, st8⟩ := getF X5 hx hZ hown (host := "") (Or.inl (ww hw 24 rfl)) Via.refl e5 F7 (g := (mkF m 9 (lc10 a1 a2) [(.ref a1)])) rfl rfl (hb hby d10_9)
  refine own_go (U' := T8.setTop (mkF m 12 (lc10 a1 a2) [(.int 0)])) (fun t k => oaloadN X0 hx hby d10_0 rfl rfl (st5 _ (oaloadN X5 hx hby d10_4 rfl rfl (oacmp (pc := 5) X5 hx hby d10_5 8 (same := true) rfl rfl (decide_eq_true (congrArg Value.ref ha6)) (by decide) (oaloadN X5 hx hby d10_8 rfl rfl (st8 _ k)))))) ?_
  refine own_go (U' := T8.setTop (mkF m 20 (lc10 a1 a2) [(.int 1)])) (fun t k => oifN X8 hx hby d10_12 (by decide) (oiconst X8 hx hby d10_15 (ogoto (pc := 16) X8 hx hby d10_16 20 (by decide) k))) ?_
  obtain ⟨fs, hr, hrun, hended, hW, hsame⟩ := X8.leave (v := some (.int 1)) (fun h => by rw [Bd.returns] at h; cases h)
  refine own_out ⟨_, _, ?_, hrun, hended, _, _, rfl, ?_, ⟨_, rfl⟩, hW, hsame.mono (by decide) (by decide)⟩
  · exact retN X8 hx (t := .boolean) Bd.returns (by simp) (hb hby d10_20) hr
  · show Q10_26 Z a1 a2 a3 h0 n0 _ T8.heap _
    rw [e8]
    exact ⟨rfl, N0, rfl⟩
set_option maxRecDepth 65536 in
set_option maxHeartbeats 40000000 in
theorem rm0_27 (l : Launch) (Z : State) (a0 : Array Value) (hw : ∀ d ∈ tables_1, d.before a0 Z = true) (ws : List Jvm.Cond) (p1 : Int32) (p2 : Int32) (a4 : Addr) (a6 : Addr) (a8 : Addr) (a10 : Addr) (a12 : Addr) (a14 : Addr) (a16 : Addr) (a18 : Addr) (a20 : Addr) (a22 : Addr) (a24 : Addr) (a26 : Addr) (a28 : Addr) (a30 : Addr) (a32 : Addr) (a34 : Addr) (a36 : Addr) (h0 : Heap) (n0 : Nat) (Z0 : n0 ≤ h0.size) (F5 : Sta Z h0 zs0 "STRING" zs1 (.ref a4)) (F7 : Sta Z h0 zs0 "BOOLEAN" zs1 (.ref a6)) (F9 : Sta Z h0 zs0 "INTEGER" zs1 (.ref a8)) (F11 : Sta Z h0 zs0 "DOUBLE" zs1 (.ref a10)) (F13 : Sta Z h0 zs0 "TIME" zs1 (.ref a12)) (F15 : Sta Z h0 zs0 "DATE" zs1 (.ref a14)) (F17 : Sta Z h0 zs0 "DATE_TIME" zs1 (.ref a16)) (F19 : Sta Z h0 zs0 "ANY_URI" zs1 (.ref a18)) (F21 : Sta Z h0 zs0 "HEX_BINARY" zs1 (.ref a20)) (F23 : Sta Z h0 zs0 "BASE64_BINARY" zs1 (.ref a22)) (F25 : Sta Z h0 zs0 zs2 zs1 (.ref a24)) (F27 : Sta Z h0 zs0 zs3 zs1 (.ref a26)) (F29 : Sta Z h0 zs0 "X500_NAME" zs1 (.ref a28)) (F31 : Sta Z h0 zs0 "RFC822_NAME" zs1 (.ref a30)) (F33 : Sta Z h0 zs0 "IP_ADDRESS" zs1 (.ref a32)) (F35 : Sta Z h0 zs0 "DNS_NAME" zs1 (.ref a34)) (F37 : Sta Z h0 zs0 zs4 zs1 (.ref a36)) (ha65 : (own_pick ((p1 &&& (2147483647 : Int32)) % (17 : Int32)) a4 a6 a8 a10 a12 a14 a16 a18 a20 a22 a24 a26 a28 a30 a32 a34 a36) = (own_pick ((p2 &&& (2147483647 : Int32)) % (17 : Int32)) a4 a6 a8 a10 a12 a14 a16 a18 a20 a22 a24 a26 a28 a30 a32 a34 a36)) (ha68 : (own_pick ((p2 &&& (2147483647 : Int32)) % (17 : Int32)) a4 a6 a8 a10 a12 a14 a16 a18 a20 a22 a24 a26 a28 a30 a32 a34 a36) = (own_pick ((p1 &&& (2147483647 : Int32)) % (17 : Int32)) a4 a6 a8 a10 a12 a14 a16 a18 a20 a22 a24 a26 a28 a30 a32 a34 a36)) :
    MetFree l x (head1 (Jvm.Cond.code x code maxLocals ret :: ws) room_1) (fun a U => a = #[(.int p1), (.int p2)] ∧ Z.Warmed39 U.vm ∧ U.heap = h0) (fun _ _ _ _ _ => True) (fun _ U o U' => ∃ v L, o = .returned v ∧ QLaw n0 v U'.heap L ∧ FrameEnd U o U' L room_1.cells room_1.slots) := by
  refine MetFree.of_bodySF (plainFor_of_name pn_com_example_aspen_aspen_engine_ParameterAnyNumberOfPinLaw) hisR ?_
  intro p e s m args below meth c s₁ Bd hml0 hP hK
  obtain ⟨rfl, hZ, hh⟩ := hP
  have hx := Bd.exec
  have hby := Bd.bytes
  have hml : c.maxLocals = 6 := hml0
  have hown : s.vm.findClass zs5 = some m.cls := findClass_of_methodNamed Bd.named
  have hnm := (name_of_methodNamed Bd.named Bd.method).1
  have X0 : Stand p l e room_1 s m #[(.int p1), (.int p2)] below meth c s₁ [] 0 0 := Stand.of_body Bd
  have e0 : s₁.heap = h0 := by rw [← hh, Bd.state]; rfl
  have N0 := Fr.nil n0
  refine own_pre (g' := mkF m 0 (lc0 p1 p2) []) (ef_4 m p1 p2) ?_
  obtain ⟨_, T3, L3, X3, hQ3, st3⟩ := ocallS X0 hx hZ zm0 hown (ww hw 0 rfl) (ww hw 1 rfl) (by decide) (ww hw 3 rfl) (ww hw 2 rfl) e0 (mg1_17 l Z a0 hw [] p1 a4 a6 a8 a10 a12 a14 a16 a18 a20 a22 a24 a26 a28 a30 a32 a34 a36 h0 n0 Z0 F5 F7 F9 F11 F13 F15 F17 F19 F21 F23 F25 F27 F29 F31 F33 F35 F37) (st := [(.int p1)]) rfl 0 rfl (by decide) (pc := 1) (Ls := (lc0 p1 p2)) hml rfl (lenOf pd_0 rfl) at_1 hby
  obtain ⟨rfl, N3q, e3⟩ := hQ3
  refine own_go (U' := T3.setTop (mkF m 4 (lc0 p1 p2) [(.ref (own_pick ((p1 &&& (2147483647 : Int32)) % (17 : Int32)) a4 a6 a8 a10 a12 a14 a16 a18 a20 a22 a24 a26 a28 a30 a32 a34 a36))])) (fun t k => oiloadN X0 hx hby at_0 rfl (st3 _ k)) ?_
  obtain ⟨u38, hu38⟩ : ∃ z, z = (own_pick ((p1 &&& (2147483647 : Int32)) % (17 : Int32)) a4 a6 a8 a10 a12 a14 a16 a18 a20 a22 a24 a26 a28 a30 a32 a34 a36) := ⟨_, rfl⟩
  rw [← hu38]
  have N39 := Fr.app N0 N3q
  obtain ⟨_, T40, L40, X40, hQ40, st40⟩ := ocallS X3 hx hZ zm0 hown (ww hw 0 rfl) (ww hw 1 rfl) (by decide) (ww hw 3 rfl) (ww hw 2 rfl) e3 (mg1_17 l Z a0 hw [] p2 a4 a6 a8 a10 a12 a14 a16 a18 a20 a22 a24 a26 a28 a30 a32 a34 a36 h0 n0 Z0 F5 F7 F9 F11 F13 F15 F17 F19 F21 F23 F25 F27 F29 F31 F33 F35 F37) (st := [(.int p2)]) rfl 0 rfl (by decide) (pc := 6) (Ls := (lc4 p1 p2 u38)) hml rfl (lenOf pd_0 rfl) at_6 hby
  obtain ⟨rfl, N40q, e40⟩ := hQ40
  refine own_go (U' := T40.setTop (mkF m 9 (lc4 p1 p2 u38) [(.ref (own_pick ((p2 &&& (2147483647 : Int32)) % (17 : Int32)) a4 a6 a8 a10 a12 a14 a16 a18 a20 a22 a24 a26 a28 a30 a32 a34 a36))])) (fun t k => oastoreN X3 hx hby at_4 (lc4 p1 p2 u38) rfl rfl (oiloadN X3 hx hby at_5 rfl (st40 _ k))) ?_
  obtain ⟨u41, hu41⟩ : ∃ z, z = (own_pick ((p2 &&& (2147483647 : Int32)) % (17 : Int32)) a4 a6 a8 a10 a12 a14 a16 a18 a20 a22 a24 a26 a28 a30 a32 a34 a36) := ⟨_, rfl⟩
  rw [← hu41]
  have N42 := Fr.app N39 N40q
  obtain ⟨_, T43, L43, X43, hQ43, st43⟩ := ocallS X40 hx hZ zm2 hown (ww hw 10 rfl) (ww hw 11 rfl) (by decide) (ww hw 13 rfl) (ww hw 12 rfl) e40 (rm2_19 l Z a0 hw [] u38 h0 n0 Z0 ) (st := [(.ref u38)]) rfl 0 rfl (by decide) (pc := 11) (Ls := (lc5 p1 p2 u38 u41)) hml rfl (lenOf pd_2 rfl) at_11 hby
  obtain ⟨b44, rfl, N43q, K43, sz45, f46, f47, f48, f49, f50⟩ := hQ43
  have N51 := Fr.app N42 N43q
  refine own_go (U' := T43.setTop (mkF m 30 (lc9 p1 p2 u38 u41 b44 1) [(.int 1)])) (fun t k => oastoreN X40 hx hby at_9 (lc5 p1 p2 u38 u41) rfl rfl (oaloadN X40 hx hby at_10 rfl rfl (st43 _ (oastore X43 hx hby at_14 (lc8 p1 p2 u38 u41 b44) rfl rfl (oaload X43 hx hby at_16 rfl rfl (onlN X43 hx hby at_18 (oiconst X43 hx hby at_21 (ogoto (pc := 22) X43 hx hby at_22 26 (by decide) (oistore X43 hx hby at_26 (lc9 p1 p2 u38 u41 b44 1) rfl (oiload X43 hx hby at_28 rfl k)))))))))) ?_
  have Z_1 : n0 ≤ T43.heap.size := Nat.le_trans Z0 K43.1
  obtain ⟨_, T52, L52, X52, hQ52, st52⟩ := ocallV X43 hx hZ zm3 zm3 hown (ww hw 30 rfl) (ww hw 31 rfl) (notFace_of_selects (args := #[]) (mvT hZ (ww hw 33 rfl))) (ww hw 33 rfl) (ww hw 32 rfl) (by decide) (ww hw 34 rfl) (ww hw 12 rfl) rfl f46 (rm5_20 l Z a0 hw [] b44 u38 T43.heap n0 Z_1 f47) (st := [(.ref b44)]) rfl 0 rfl (by decide) (pc := 35) (Ls := (lc9 p1 p2 u38 u41 b44 1)) hml rfl (lenOf pd_3 rfl) at_35 hby
  obtain ⟨rfl, N52q, e52⟩ := hQ52
  have N53 := Fr.app N51 N52q
  obtain ⟨_, T54, L54, X54, hQ54, st54⟩ := ocallV X52 hx hZ zm4 zm4 hown (ww hw 35 rfl) (ww hw 36 rfl) (notFace_of_selects (args := #[]) (mvT hZ (ww hw 38 rfl))) (ww hw 38 rfl) (ww hw 37 rfl) (by decide) (ww hw 39 rfl) (ww hw 12 rfl) e52 f46 (rm6_21 l Z a0 hw [] b44 T43.heap n0 Z_1 f48) (st := [(.ref b44)]) rfl 0 rfl (by decide) (pc := 44) (Ls := (lc9 p1 p2 u38 u41 b44 1)) hml rfl (lenOf pd_4 rfl) at_44 hby
  obtain ⟨rfl, N54q, e54⟩ := hQ54
  have N55 := Fr.app N53 N54q
  refine own_go (U' := T54.setTop (mkF m 47 (lc9 p1 p2 u38 u41 b44 1) [(.int 0)])) (fun t k => oifN X43 hx hby at_30 (by decide) (oaload X43 hx hby at_33 rfl rfl (st52 _ (oaloadN X52 hx hby at_38 rfl rfl (oacmp (pc := 39) X52 hx hby at_39 42 (same := true) rfl rfl (decide_eq_true rfl) (by decide) (oaload X52 hx hby at_42 rfl rfl (st54 _ k))))))) ?_
  obtain ⟨_, T56, L56, X56, hQ56, st56⟩ := ocallV X54 hx hZ zm5 zm5 hown (ww hw 40 rfl) (ww hw 41 rfl) (notFace_of_selects (args := #[]) (mvT hZ (ww hw 43 rfl))) (ww hw 43 rfl) (ww hw 42 rfl) (by decide) (ww hw 44 rfl) (ww hw 12 rfl) e54 f46 (rm7_22 l Z a0 hw [] b44 T43.heap n0 Z_1 f49) (st := [(.ref b44)]) rfl 0 rfl (by decide) (pc := 52) (Ls := (lc9 p1 p2 u38 u41 b44 1)) hml rfl (lenOf pd_4 rfl) at_52 hby
  obtain ⟨rfl, N56q, e56⟩ := hQ56
  have N57 := Fr.app N55 N56q
  refine own_go (U' := T56.setTop (mkF m 55 (lc9 p1 p2 u38 u41 b44 1) [(.int 1)])) (fun t k => oifN X54 hx hby at_47 (by decide) (oaload X54 hx hby at_50 rfl rfl (st56 _ k))) ?_
  obtain ⟨_, T58, L58, X58, hQ58, st58⟩ := ocallV X56 hx hZ zm6 zm6 hown (ww hw 45 rfl) (ww hw 46 rfl) (notFace_of_selects (args := #[]) (mvT hZ (ww hw 48 rfl))) (ww hw 48 rfl) (ww hw 47 rfl) (by decide) (ww hw 49 rfl) (ww hw 12 rfl) e56 f46 (rm8_23 l Z a0 hw [] b44 T43.heap n0 Z_1 f50) (st := [(.ref b44)]) rfl 0 rfl (by decide) (pc := 60) (Ls := (lc9 p1 p2 u38 u41 b44 1)) hml rfl (lenOf pd_4 rfl) at_60 hby
  obtain ⟨rfl, N58q, e58⟩ := hQ58
  have N59 := Fr.app N57 N58q
  refine own_go (U' := T58.setTop (mkF m 63 (lc9 p1 p2 u38 u41 b44 1) [(.int 0)])) (fun t k => oifN X56 hx hby at_55 (by decide) (oaload X56 hx hby at_58 rfl rfl (st58 _ k))) ?_
  obtain ⟨_, T60, L60, X60, hQ60, st60⟩ := ocallV X58 hx hZ zm7 zm7 hown (ww hw 50 rfl) (ww hw 51 rfl) (notFace_of_selects (args := #[]) (mvT hZ (ww hw 53 rfl))) (ww hw 53 rfl) (ww hw 52 rfl) (by decide) (ww hw 54 rfl) (ww hw 12 rfl) e58 f46 (rm9_24 l Z a0 hw [] b44 T43.heap n0 Z_1 f50) (st := [(.ref b44)]) rfl 0 rfl (by decide) (pc := 68) (Ls := (lc9 p1 p2 u38 u41 b44 1)) hml rfl (lenOf pd_5 rfl) at_68 hby
  obtain ⟨rfl, N60q, e60⟩ := hQ60
  have N61 := Fr.app N59 N60q
  obtain ⟨_, T62, L62, X62, hQ62, st62⟩ := ocallV X60 hx hZ zm8 zm8 hown (ww hw 55 rfl) (ww hw 56 rfl) (notFace_of_selects (args := #[]) (mvT hZ (ww hw 58 rfl))) (ww hw 58 rfl) (ww hw 57 rfl) (by decide) (ww hw 59 rfl) (ww hw 12 rfl) e60 f46 (rm10_25 l Z a0 hw [] b44 u38 T43.heap n0 Z_1 f47 f48) (st := [(.ref u38), (.ref b44)]) rfl 0 rfl (by decide) (pc := 77) (Ls := (lc9 p1 p2 u38 u41 b44 1)) hml rfl (lenOf pd_6 rfl) at_77 hby
  obtain ⟨rfl, N62q, e62⟩ := hQ62
  have N63 := Fr.app N61 N62q
  refine own_go (U' := T62.setTop (mkF m 80 (lc9 p1 p2 u38 u41 b44 1) [(.int 1)])) (fun t k => oifN X58 hx hby at_63 (by decide) (oaload X58 hx hby at_66 rfl rfl (st60 _ (onnN X60 hx hby at_71 (oaload X60 hx hby at_74 rfl rfl (oaloadN X60 hx hby at_76 rfl rfl (st62 _ k))))))) ?_
  have hs66 : u38 = u41 := by rw [hu41, hu38]; exact ha65
  obtain ⟨_, T64, L64, X64, hQ64, st64⟩ := ocallV X62 hx hZ zm8 zm8 hown (ww hw 55 rfl) (ww hw 56 rfl) (notFace_of_selects (args := #[]) (mvT hZ (ww hw 58 rfl))) (ww hw 58 rfl) (ww hw 57 rfl) (by decide) (ww hw 59 rfl) (ww hw 12 rfl) e62 f46 (rm10_26 l Z a0 hw [] b44 u41 u38 T43.heap n0 Z_1 f47 hs66 f48) (st := [(.ref u41), (.ref b44)]) rfl 0 rfl (by decide) (pc := 86) (Ls := (lc9 p1 p2 u38 u41 b44 1)) hml rfl (lenOf pd_6 rfl) at_86 hby
  obtain ⟨rfl, N64q, e64⟩ := hQ64
  have N67 := Fr.app N63 N64q
  have hs69 : u41 = u38 := by rw [hu41, hu38]; exact ha68
  refine own_go (U' := T64.setTop (mkF m 99 (lc9 p1 p2 u38 u41 b44 1) [(.int 1), (.int 1)])) (fun t k => oifN X62 hx hby at_80 (by decide) (oaload X62 hx hby at_83 rfl rfl (oaloadN X62 hx hby at_85 rfl rfl (st64 _ (oaloadN X64 hx hby at_89 rfl rfl (oaloadN X64 hx hby at_90 rfl rfl (oacmp (pc := 91) X64 hx hby at_91 94 (same := true) rfl rfl (decide_eq_true (congrArg Value.ref hs69)) (by decide) (oiconst X64 hx hby at_94 (ogoto (pc := 95) X64 hx hby at_95 99 (by decide) k))))))))) ?_
  refine own_go (U' := T64.setTop (mkF m 111 (lc9 p1 p2 u38 u41 b44 1) [(.int 1)])) (fun t k => oicN X64 hx hby at_99 (by decide) (oiconst X64 hx hby at_102 (ogoto (pc := 103) X64 hx hby at_103 107 (by decide) (oistore X64 hx hby at_107 (lc9 p1 p2 u38 u41 b44 1) rfl (oiload X64 hx hby at_109 rfl k))))) ?_
  obtain ⟨fs, hr, hrun, hended, hW, hsame⟩ := X64.leave (v := some (.int 1)) (fun h => by rw [Bd.returns] at h; cases h)
  refine own_out ⟨_, _, ?_, hrun, hended, _, _, rfl, ?_, ⟨_, rfl⟩, hW, hsame.mono (by decide) (by decide)⟩
  · exact retN X64 hx (t := .boolean) Bd.returns (by simp) (hb hby at_111) hr
  · exact ⟨rfl, N67⟩
def Q10_28 (Z : State) (a1 : Addr) (a2 : Addr) (a3 : Addr) (h0 : Heap) (n0 : Nat) (v : Option Value) (h : Heap) (L : List Loc) : Prop := v = some (.int 0) ∧ Fr n0 L ∧ h = h0
set_option maxRecDepth 65536 in
set_option maxHeartbeats 40000000 in
theorem rm10_28 (l : Launch) (Z : State) (a0 : Array Value) (hw : ∀ d ∈ tables_1, d.before a0 Z = true) (ws : List Jvm.Cond) (a1 : Addr) (a2 : Addr) (a3 : Addr) (h0 : Heap) (n0 : Nat) (Z0 : n0 ≤ h0.size) (F4 : Fld Z h0 a1 zs7 "type" zs1 (.ref a3)) (ha6 : a3 ≠ a2) :
    MetFree l zm8 (head1 (Jvm.Cond.code zm8 prog_68_method_12_code 2 (some .boolean) :: ws) ({ frames := 0, cells := 0, slots := 0, locals := 0 } : Room)) (fun a U => a = #[(.ref a1), (.ref a2)] ∧ Z.Warmed39 U.vm ∧ U.heap = h0) (fun _ _ _ _ _ => True) (fun _ U o U' => ∃ v L, o = .returned v ∧ Q10_28 Z a1 a2 a3 h0 n0 v U'.heap L ∧ FrameEnd U o U' L ({ frames := 0, cells := 0, slots := 0, locals := 0 } : Room).cells ({ frames := 0, cells := 0, slots := 0, locals := 0 } : Room).slots) := by
  refine MetFree.of_bodySF (plainFor_of_name pn_com_example_aspen_aspen_engine_Parameter) hisR ?_
  intro p e s m args below meth c s₁ Bd hml0 hP hK
  obtain ⟨rfl, hZ, hh⟩ := hP
  have hx := Bd.exec
  have hby := Bd.bytes
  have hml : c.maxLocals = 2 := hml0
  have hown : s.vm.findClass zs7 = some m.cls := findClass_of_methodNamed Bd.named
  have hnm := (name_of_methodNamed Bd.named Bd.method).1
  have X0 : Stand p l e ({ frames := 0, cells := 0, slots := 0, locals := 0 } : Room) s m #[(.ref a1), (.ref a2)] below meth c s₁ [] 0 0 := Stand.of_body Bd
  have e0 : s₁.heap = h0 := by rw [← hh, Bd.state]; rfl
  have N0 := Fr.nil n0
  refine own_pre (g' := mkF m 0 (lc10 a1 a2) []) (ef_3 m a1 a2) ?_
  obtain ⟨T5, X5, e5, st5⟩ := getF X0 hx hZ hown (host := "") (Or.inl (ww hw 22 rfl)) Via.refl e0 F4 (g := (mkF m 1 (lc10 a1 a2) [(.ref a1)])) rfl rfl (hb hby d10_1)
  refine own_go (U' := T5.setTop (mkF m 20 (lc10 a1 a2) [(.int 0)])) (fun t k => oaloadN X0 hx hby d10_0 rfl rfl (st5 _ (oaloadN X5 hx hby d10_4 rfl rfl (oacmp (pc := 5) X5 hx hby d10_5 19 (same := false) rfl rfl (decide_eq_false fun q => ha6 (Value.ref.inj q)) (by decide) (oiconst X5 hx hby d10_19 k))))) ?_
  obtain ⟨fs, hr, hrun, hended, hW, hsame⟩ := X5.leave (v := some (.int 0)) (fun h => by rw [Bd.returns] at h; cases h)
  refine own_out ⟨_, _, ?_, hrun, hended, _, _, rfl, ?_, ⟨_, rfl⟩, hW, hsame.mono (by decide) (by decide)⟩
  · exact retN X5 hx (t := .boolean) Bd.returns (by simp) (hb hby d10_20) hr
  · show Q10_28 Z a1 a2 a3 h0 n0 _ T5.heap _
    rw [e5]
    exact ⟨rfl, N0, rfl⟩
set_option maxRecDepth 65536 in
set_option maxHeartbeats 40000000 in
theorem rm0_29 (l : Launch) (Z : State) (a0 : Array Value) (hw : ∀ d ∈ tables_1, d.before a0 Z = true) (ws : List Jvm.Cond) (p1 : Int32) (p2 : Int32) (a4 : Addr) (a6 : Addr) (a8 : Addr) (a10 : Addr) (a12 : Addr) (a14 : Addr) (a16 : Addr) (a18 : Addr) (a20 : Addr) (a22 : Addr) (a24 : Addr) (a26 : Addr) (a28 : Addr) (a30 : Addr) (a32 : Addr) (a34 : Addr) (a36 : Addr) (h0 : Heap) (n0 : Nat) (Z0 : n0 ≤ h0.size) (F5 : Sta Z h0 zs0 "STRING" zs1 (.ref a4)) (F7 : Sta Z h0 zs0 "BOOLEAN" zs1 (.ref a6)) (F9 : Sta Z h0 zs0 "INTEGER" zs1 (.ref a8)) (F11 : Sta Z h0 zs0 "DOUBLE" zs1 (.ref a10)) (F13 : Sta Z h0 zs0 "TIME" zs1 (.ref a12)) (F15 : Sta Z h0 zs0 "DATE" zs1 (.ref a14)) (F17 : Sta Z h0 zs0 "DATE_TIME" zs1 (.ref a16)) (F19 : Sta Z h0 zs0 "ANY_URI" zs1 (.ref a18)) (F21 : Sta Z h0 zs0 "HEX_BINARY" zs1 (.ref a20)) (F23 : Sta Z h0 zs0 "BASE64_BINARY" zs1 (.ref a22)) (F25 : Sta Z h0 zs0 zs2 zs1 (.ref a24)) (F27 : Sta Z h0 zs0 zs3 zs1 (.ref a26)) (F29 : Sta Z h0 zs0 "X500_NAME" zs1 (.ref a28)) (F31 : Sta Z h0 zs0 "RFC822_NAME" zs1 (.ref a30)) (F33 : Sta Z h0 zs0 "IP_ADDRESS" zs1 (.ref a32)) (F35 : Sta Z h0 zs0 "DNS_NAME" zs1 (.ref a34)) (F37 : Sta Z h0 zs0 zs4 zs1 (.ref a36)) (ha65 : (own_pick ((p1 &&& (2147483647 : Int32)) % (17 : Int32)) a4 a6 a8 a10 a12 a14 a16 a18 a20 a22 a24 a26 a28 a30 a32 a34 a36) ≠ (own_pick ((p2 &&& (2147483647 : Int32)) % (17 : Int32)) a4 a6 a8 a10 a12 a14 a16 a18 a20 a22 a24 a26 a28 a30 a32 a34 a36)) :
    MetFree l x (head1 (Jvm.Cond.code x code maxLocals ret :: ws) room_1) (fun a U => a = #[(.int p1), (.int p2)] ∧ Z.Warmed39 U.vm ∧ U.heap = h0) (fun _ _ _ _ _ => True) (fun _ U o U' => ∃ v L, o = .returned v ∧ QLaw n0 v U'.heap L ∧ FrameEnd U o U' L room_1.cells room_1.slots) := by
  refine MetFree.of_bodySF (plainFor_of_name pn_com_example_aspen_aspen_engine_ParameterAnyNumberOfPinLaw) hisR ?_
  intro p e s m args below meth c s₁ Bd hml0 hP hK
  obtain ⟨rfl, hZ, hh⟩ := hP
  have hx := Bd.exec
  have hby := Bd.bytes
  have hml : c.maxLocals = 6 := hml0
  have hown : s.vm.findClass zs5 = some m.cls := findClass_of_methodNamed Bd.named
  have hnm := (name_of_methodNamed Bd.named Bd.method).1
  have X0 : Stand p l e room_1 s m #[(.int p1), (.int p2)] below meth c s₁ [] 0 0 := Stand.of_body Bd
  have e0 : s₁.heap = h0 := by rw [← hh, Bd.state]; rfl
  have N0 := Fr.nil n0
  refine own_pre (g' := mkF m 0 (lc0 p1 p2) []) (ef_4 m p1 p2) ?_
  obtain ⟨_, T3, L3, X3, hQ3, st3⟩ := ocallS X0 hx hZ zm0 hown (ww hw 0 rfl) (ww hw 1 rfl) (by decide) (ww hw 3 rfl) (ww hw 2 rfl) e0 (mg1_17 l Z a0 hw [] p1 a4 a6 a8 a10 a12 a14 a16 a18 a20 a22 a24 a26 a28 a30 a32 a34 a36 h0 n0 Z0 F5 F7 F9 F11 F13 F15 F17 F19 F21 F23 F25 F27 F29 F31 F33 F35 F37) (st := [(.int p1)]) rfl 0 rfl (by decide) (pc := 1) (Ls := (lc0 p1 p2)) hml rfl (lenOf pd_0 rfl) at_1 hby
  obtain ⟨rfl, N3q, e3⟩ := hQ3
  refine own_go (U' := T3.setTop (mkF m 4 (lc0 p1 p2) [(.ref (own_pick ((p1 &&& (2147483647 : Int32)) % (17 : Int32)) a4 a6 a8 a10 a12 a14 a16 a18 a20 a22 a24 a26 a28 a30 a32 a34 a36))])) (fun t k => oiloadN X0 hx hby at_0 rfl (st3 _ k)) ?_
  obtain ⟨u38, hu38⟩ : ∃ z, z = (own_pick ((p1 &&& (2147483647 : Int32)) % (17 : Int32)) a4 a6 a8 a10 a12 a14 a16 a18 a20 a22 a24 a26 a28 a30 a32 a34 a36) := ⟨_, rfl⟩
  rw [← hu38]
  have N39 := Fr.app N0 N3q
  obtain ⟨_, T40, L40, X40, hQ40, st40⟩ := ocallS X3 hx hZ zm0 hown (ww hw 0 rfl) (ww hw 1 rfl) (by decide) (ww hw 3 rfl) (ww hw 2 rfl) e3 (mg1_17 l Z a0 hw [] p2 a4 a6 a8 a10 a12 a14 a16 a18 a20 a22 a24 a26 a28 a30 a32 a34 a36 h0 n0 Z0 F5 F7 F9 F11 F13 F15 F17 F19 F21 F23 F25 F27 F29 F31 F33 F35 F37) (st := [(.int p2)]) rfl 0 rfl (by decide) (pc := 6) (Ls := (lc4 p1 p2 u38)) hml rfl (lenOf pd_0 rfl) at_6 hby
  obtain ⟨rfl, N40q, e40⟩ := hQ40
  refine own_go (U' := T40.setTop (mkF m 9 (lc4 p1 p2 u38) [(.ref (own_pick ((p2 &&& (2147483647 : Int32)) % (17 : Int32)) a4 a6 a8 a10 a12 a14 a16 a18 a20 a22 a24 a26 a28 a30 a32 a34 a36))])) (fun t k => oastoreN X3 hx hby at_4 (lc4 p1 p2 u38) rfl rfl (oiloadN X3 hx hby at_5 rfl (st40 _ k))) ?_
  obtain ⟨u41, hu41⟩ : ∃ z, z = (own_pick ((p2 &&& (2147483647 : Int32)) % (17 : Int32)) a4 a6 a8 a10 a12 a14 a16 a18 a20 a22 a24 a26 a28 a30 a32 a34 a36) := ⟨_, rfl⟩
  rw [← hu41]
  have N42 := Fr.app N39 N40q
  obtain ⟨_, T43, L43, X43, hQ43, st43⟩ := ocallS X40 hx hZ zm2 hown (ww hw 10 rfl) (ww hw 11 rfl) (by decide) (ww hw 13 rfl) (ww hw 12 rfl) e40 (rm2_19 l Z a0 hw [] u38 h0 n0 Z0 ) (st := [(.ref u38)]) rfl 0 rfl (by decide) (pc := 11) (Ls := (lc5 p1 p2 u38 u41)) hml rfl (lenOf pd_2 rfl) at_11 hby
  obtain ⟨b44, rfl, N43q, K43, sz45, f46, f47, f48, f49, f50⟩ := hQ43
  have N51 := Fr.app N42 N43q
  refine own_go (U' := T43.setTop (mkF m 30 (lc9 p1 p2 u38 u41 b44 1) [(.int 1)])) (fun t k => oastoreN X40 hx hby at_9 (lc5 p1 p2 u38 u41) rfl rfl (oaloadN X40 hx hby at_10 rfl rfl (st43 _ (oastore X43 hx hby at_14 (lc8 p1 p2 u38 u41 b44) rfl rfl (oaload X43 hx hby at_16 rfl rfl (onlN X43 hx hby at_18 (oiconst X43 hx hby at_21 (ogoto (pc := 22) X43 hx hby at_22 26 (by decide) (oistore X43 hx hby at_26 (lc9 p1 p2 u38 u41 b44 1) rfl (oiload X43 hx hby at_28 rfl k)))))))))) ?_
  have Z_1 : n0 ≤ T43.heap.size := Nat.le_trans Z0 K43.1
  obtain ⟨_, T52, L52, X52, hQ52, st52⟩ := ocallV X43 hx hZ zm3 zm3 hown (ww hw 30 rfl) (ww hw 31 rfl) (notFace_of_selects (args := #[]) (mvT hZ (ww hw 33 rfl))) (ww hw 33 rfl) (ww hw 32 rfl) (by decide) (ww hw 34 rfl) (ww hw 12 rfl) rfl f46 (rm5_20 l Z a0 hw [] b44 u38 T43.heap n0 Z_1 f47) (st := [(.ref b44)]) rfl 0 rfl (by decide) (pc := 35) (Ls := (lc9 p1 p2 u38 u41 b44 1)) hml rfl (lenOf pd_3 rfl) at_35 hby
  obtain ⟨rfl, N52q, e52⟩ := hQ52
  have N53 := Fr.app N51 N52q
  obtain ⟨_, T54, L54, X54, hQ54, st54⟩ := ocallV X52 hx hZ zm4 zm4 hown (ww hw 35 rfl) (ww hw 36 rfl) (notFace_of_selects (args := #[]) (mvT hZ (ww hw 38 rfl))) (ww hw 38 rfl) (ww hw 37 rfl) (by decide) (ww hw 39 rfl) (ww hw 12 rfl) e52 f46 (rm6_21 l Z a0 hw [] b44 T43.heap n0 Z_1 f48) (st := [(.ref b44)]) rfl 0 rfl (by decide) (pc := 44) (Ls := (lc9 p1 p2 u38 u41 b44 1)) hml rfl (lenOf pd_4 rfl) at_44 hby
  obtain ⟨rfl, N54q, e54⟩ := hQ54
  have N55 := Fr.app N53 N54q
  refine own_go (U' := T54.setTop (mkF m 47 (lc9 p1 p2 u38 u41 b44 1) [(.int 0)])) (fun t k => oifN X43 hx hby at_30 (by decide) (oaload X43 hx hby at_33 rfl rfl (st52 _ (oaloadN X52 hx hby at_38 rfl rfl (oacmp (pc := 39) X52 hx hby at_39 42 (same := true) rfl rfl (decide_eq_true rfl) (by decide) (oaload X52 hx hby at_42 rfl rfl (st54 _ k))))))) ?_
  obtain ⟨_, T56, L56, X56, hQ56, st56⟩ := ocallV X54 hx hZ zm5 zm5 hown (ww hw 40 rfl) (ww hw 41 rfl) (notFace_of_selects (args := #[]) (mvT hZ (ww hw 43 rfl))) (ww hw 43 rfl) (ww hw 42 rfl) (by decide) (ww hw 44 rfl) (ww hw 12 rfl) e54 f46 (rm7_22 l Z a0 hw [] b44 T43.heap n0 Z_1 f49) (st := [(.ref b44)]) rfl 0 rfl (by decide) (pc := 52) (Ls := (lc9 p1 p2 u38 u41 b44 1)) hml rfl (lenOf pd_4 rfl) at_52 hby
  obtain ⟨rfl, N56q, e56⟩ := hQ56
  have N57 := Fr.app N55 N56q
  refine own_go (U' := T56.setTop (mkF m 55 (lc9 p1 p2 u38 u41 b44 1) [(.int 1)])) (fun t k => oifN X54 hx hby at_47 (by decide) (oaload X54 hx hby at_50 rfl rfl (st56 _ k))) ?_
  obtain ⟨_, T58, L58, X58, hQ58, st58⟩ := ocallV X56 hx hZ zm6 zm6 hown (ww hw 45 rfl) (ww hw 46 rfl) (notFace_of_selects (args := #[]) (mvT hZ (ww hw 48 rfl))) (ww hw 48 rfl) (ww hw 47 rfl) (by decide) (ww hw 49 rfl) (ww hw 12 rfl) e56 f46 (rm8_23 l Z a0 hw [] b44 T43.heap n0 Z_1 f50) (st := [(.ref b44)]) rfl 0 rfl (by decide) (pc := 60) (Ls := (lc9 p1 p2 u38 u41 b44 1)) hml rfl (lenOf pd_4 rfl) at_60 hby
  obtain ⟨rfl, N58q, e58⟩ := hQ58
  have N59 := Fr.app N57 N58q
  refine own_go (U' := T58.setTop (mkF m 63 (lc9 p1 p2 u38 u41 b44 1) [(.int 0)])) (fun t k => oifN X56 hx hby at_55 (by decide) (oaload X56 hx hby at_58 rfl rfl (st58 _ k))) ?_
  obtain ⟨_, T60, L60, X60, hQ60, st60⟩ := ocallV X58 hx hZ zm7 zm7 hown (ww hw 50 rfl) (ww hw 51 rfl) (notFace_of_selects (args := #[]) (mvT hZ (ww hw 53 rfl))) (ww hw 53 rfl) (ww hw 52 rfl) (by decide) (ww hw 54 rfl) (ww hw 12 rfl) e58 f46 (rm9_24 l Z a0 hw [] b44 T43.heap n0 Z_1 f50) (st := [(.ref b44)]) rfl 0 rfl (by decide) (pc := 68) (Ls := (lc9 p1 p2 u38 u41 b44 1)) hml rfl (lenOf pd_5 rfl) at_68 hby
  obtain ⟨rfl, N60q, e60⟩ := hQ60
  have N61 := Fr.app N59 N60q
  obtain ⟨_, T62, L62, X62, hQ62, st62⟩ := ocallV X60 hx hZ zm8 zm8 hown (ww hw 55 rfl) (ww hw 56 rfl) (notFace_of_selects (args := #[]) (mvT hZ (ww hw 58 rfl))) (ww hw 58 rfl) (ww hw 57 rfl) (by decide) (ww hw 59 rfl) (ww hw 12 rfl) e60 f46 (rm10_25 l Z a0 hw [] b44 u38 T43.heap n0 Z_1 f47 f48) (st := [(.ref u38), (.ref b44)]) rfl 0 rfl (by decide) (pc := 77) (Ls := (lc9 p1 p2 u38 u41 b44 1)) hml rfl (lenOf pd_6 rfl) at_77 hby
  obtain ⟨rfl, N62q, e62⟩ := hQ62
  have N63 := Fr.app N61 N62q
  refine own_go (U' := T62.setTop (mkF m 80 (lc9 p1 p2 u38 u41 b44 1) [(.int 1)])) (fun t k => oifN X58 hx hby at_63 (by decide) (oaload X58 hx hby at_66 rfl rfl (st60 _ (onnN X60 hx hby at_71 (oaload X60 hx hby at_74 rfl rfl (oaloadN X60 hx hby at_76 rfl rfl (st62 _ k))))))) ?_
  have hs66 : u38 ≠ u41 := by rw [hu41, hu38]; exact ha65
  obtain ⟨_, T64, L64, X64, hQ64, st64⟩ := ocallV X62 hx hZ zm8 zm8 hown (ww hw 55 rfl) (ww hw 56 rfl) (notFace_of_selects (args := #[]) (mvT hZ (ww hw 58 rfl))) (ww hw 58 rfl) (ww hw 57 rfl) (by decide) (ww hw 59 rfl) (ww hw 12 rfl) e62 f46 (rm10_28 l Z a0 hw [] b44 u41 u38 T43.heap n0 Z_1 f47 hs66) (st := [(.ref u41), (.ref b44)]) rfl 0 rfl (by decide) (pc := 86) (Ls := (lc9 p1 p2 u38 u41 b44 1)) hml rfl (lenOf pd_6 rfl) at_86 hby
  obtain ⟨rfl, N64q, e64⟩ := hQ64
  have N67 := Fr.app N63 N64q
  refine own_go (U' := T64.setTop (mkF m 99 (lc9 p1 p2 u38 u41 b44 1) [(.int 0), (.int 0)])) (fun t k => oifN X62 hx hby at_80 (by decide) (oaload X62 hx hby at_83 rfl rfl (oaloadN X62 hx hby at_85 rfl rfl (st64 _ (oaloadN X64 hx hby at_89 rfl rfl (oaloadN X64 hx hby at_90 rfl rfl (oacmp (pc := 91) X64 hx hby at_91 98 (same := false) rfl rfl (decide_eq_false fun q => (Ne.symm hs66) (Value.ref.inj q)) (by decide) (oiconst X64 hx hby at_98 k)))))))) ?_
  refine own_go (U' := T64.setTop (mkF m 111 (lc9 p1 p2 u38 u41 b44 1) [(.int 1)])) (fun t k => oicN X64 hx hby at_99 (by decide) (oiconst X64 hx hby at_102 (ogoto (pc := 103) X64 hx hby at_103 107 (by decide) (oistore X64 hx hby at_107 (lc9 p1 p2 u38 u41 b44 1) rfl (oiload X64 hx hby at_109 rfl k))))) ?_
  obtain ⟨fs, hr, hrun, hended, hW, hsame⟩ := X64.leave (v := some (.int 1)) (fun h => by rw [Bd.returns] at h; cases h)
  refine own_out ⟨_, _, ?_, hrun, hended, _, _, rfl, ?_, ⟨_, rfl⟩, hW, hsame.mono (by decide) (by decide)⟩
  · exact retN X64 hx (t := .boolean) Bd.returns (by simp) (hb hby at_111) hr
  · exact ⟨rfl, N67⟩
set_option maxRecDepth 65536 in
set_option maxHeartbeats 40000000 in
theorem law_all (l : Launch) (Z : State) (a0 : Array Value) (hw : ∀ d ∈ tables_1, d.before a0 Z = true) (ws : List Jvm.Cond) (i0 : Int32) (i1 : Int32) (w0 : Addr) (w1 : Addr) (w2 : Addr) (w3 : Addr) (w4 : Addr) (w5 : Addr) (w6 : Addr) (w7 : Addr) (w8 : Addr) (w9 : Addr) (w10 : Addr) (w11 : Addr) (w12 : Addr) (w13 : Addr) (w14 : Addr) (w15 : Addr) (w16 : Addr) (h0 : Heap) (n0 : Nat) (Z0 : n0 ≤ h0.size) (S0 : Sta Z h0 "com/example/aspen/aspen/engine/DataType" "STRING" "Lcom/example/aspen/aspen/engine/DataType;" (.ref w0)) (S1 : Exa Z h0 w0 "com/example/aspen/aspen/engine/DataType$1") (S2 : Sta Z h0 "com/example/aspen/aspen/engine/DataType" "DOUBLE" "Lcom/example/aspen/aspen/engine/DataType;" (.ref w1)) (S3 : Exa Z h0 w1 "com/example/aspen/aspen/engine/DataType$4") (S4 : Sta Z h0 "com/example/aspen/aspen/engine/DataType" "IP_ADDRESS" "Lcom/example/aspen/aspen/engine/DataType;" (.ref w2)) (S5 : Exa Z h0 w2 "com/example/aspen/aspen/engine/DataType$15") (S6 : Sta Z h0 "com/example/aspen/aspen/engine/DataType" "BOOLEAN" "Lcom/example/aspen/aspen/engine/DataType;" (.ref w3)) (S7 : Exa Z h0 w3 "com/example/aspen/aspen/engine/DataType$2") (S8 : Sta Z h0 "com/example/aspen/aspen/engine/DataType" "DATE_TIME" "Lcom/example/aspen/aspen/engine/DataType;" (.ref w4)) (S9 : Exa Z h0 w4 "com/example/aspen/aspen/engine/DataType$7") (S10 : Sta Z h0 "com/example/aspen/aspen/engine/DataType" "X500_NAME" "Lcom/example/aspen/aspen/engine/DataType;" (.ref w5)) (S11 : Exa Z h0 w5 "com/example/aspen/aspen/engine/DataType$13") (S12 : Sta Z h0 "com/example/aspen/aspen/engine/DataType" "XPATH_EXPRESSION" "Lcom/example/aspen/aspen/engine/DataType;" (.ref w6)) (S13 : Exa Z h0 w6 "com/example/aspen/aspen/engine/DataType$17") (S14 : Sta Z h0 "com/example/aspen/aspen/engine/DataType" "BASE64_BINARY" "Lcom/example/aspen/aspen/engine/DataType;" (.ref w7)) (S15 : Exa Z h0 w7 "com/example/aspen/aspen/engine/DataType$10") (S16 : Sta Z h0 "com/example/aspen/aspen/engine/DataType" "ANY_URI" "Lcom/example/aspen/aspen/engine/DataType;" (.ref w8)) (S17 : Exa Z h0 w8 "com/example/aspen/aspen/engine/DataType$8") (S18 : Sta Z h0 "com/example/aspen/aspen/engine/DataType" "RFC822_NAME" "Lcom/example/aspen/aspen/engine/DataType;" (.ref w9)) (S19 : Exa Z h0 w9 "com/example/aspen/aspen/engine/DataType$14") (S20 : Sta Z h0 "com/example/aspen/aspen/engine/DataType" "HEX_BINARY" "Lcom/example/aspen/aspen/engine/DataType;" (.ref w10)) (S21 : Exa Z h0 w10 "com/example/aspen/aspen/engine/DataType$9") (S22 : Sta Z h0 "com/example/aspen/aspen/engine/DataType" "DATE" "Lcom/example/aspen/aspen/engine/DataType;" (.ref w11)) (S23 : Exa Z h0 w11 "com/example/aspen/aspen/engine/DataType$6") (S24 : Sta Z h0 "com/example/aspen/aspen/engine/DataType" "DNS_NAME" "Lcom/example/aspen/aspen/engine/DataType;" (.ref w12)) (S25 : Exa Z h0 w12 "com/example/aspen/aspen/engine/DataType$16") (S26 : Sta Z h0 "com/example/aspen/aspen/engine/DataType" "TIME" "Lcom/example/aspen/aspen/engine/DataType;" (.ref w13)) (S27 : Exa Z h0 w13 "com/example/aspen/aspen/engine/DataType$5") (S28 : Sta Z h0 "com/example/aspen/aspen/engine/DataType" "INTEGER" "Lcom/example/aspen/aspen/engine/DataType;" (.ref w14)) (S29 : Exa Z h0 w14 "com/example/aspen/aspen/engine/DataType$3") (S30 : Sta Z h0 "com/example/aspen/aspen/engine/DataType" "YEAR_MONTH_DURATION" "Lcom/example/aspen/aspen/engine/DataType;" (.ref w15)) (S31 : Exa Z h0 w15 "com/example/aspen/aspen/engine/DataType$12") (S32 : Sta Z h0 "com/example/aspen/aspen/engine/DataType" "DAY_TIME_DURATION" "Lcom/example/aspen/aspen/engine/DataType;" (.ref w16)) (S33 : Exa Z h0 w16 "com/example/aspen/aspen/engine/DataType$11") :
    MetFree l x (head1 (Jvm.Cond.code x code maxLocals ret :: ws) room_1) (fun a U => a = #[(.int i0), (.int i1)] ∧ Z.Warmed39 U.vm ∧ U.heap = h0) (fun _ _ _ _ _ => True) (fun _ U o U' => ∃ v L, o = .returned v ∧ QLaw n0 v U'.heap L ∧ FrameEnd U o U' L room_1.cells room_1.slots) := by
  by_cases hk1 : (own_pick ((i0 &&& (2147483647 : Int32)) % (17 : Int32)) w0 w3 w14 w1 w13 w11 w4 w8 w10 w7 w16 w15 w5 w9 w2 w12 w6) = (own_pick ((i1 &&& (2147483647 : Int32)) % (17 : Int32)) w0 w3 w14 w1 w13 w11 w4 w8 w10 w7 w16 w15 w5 w9 w2 w12 w6)
  · exact rm0_27 l Z a0 hw ws i0 i1 w0 w3 w14 w1 w13 w11 w4 w8 w10 w7 w16 w15 w5 w9 w2 w12 w6 h0 n0 Z0 S0 S6 S28 S2 S26 S22 S8 S16 S20 S14 S32 S30 S10 S18 S4 S24 S12 hk1 hk1.symm
  · exact rm0_29 l Z a0 hw ws i0 i1 w0 w3 w14 w1 w13 w11 w4 w8 w10 w7 w16 w15 w5 w9 w2 w12 w6 h0 n0 Z0 S0 S6 S28 S2 S26 S22 S8 S16 S20 S14 S32 S30 S10 S18 S4 S24 S12 hk1
set_option maxRecDepth 65536 in
set_option maxHeartbeats 40000000 in
theorem comes_1 {Post : Tables → Env → Array Value → State → Outcome → State → Prop} (hpost : ∀ tb e args s v u, (limb_1_1.after args s (.returned v) u = true ∧ limb_1_2.after args s (.returned v) u = true ∧ True) → FrameEnd s (.returned v) u (Jvm.fieldLocs frame_1_writes args s ++ Jvm.arrayLocs frame_1_arrays args s ++ Jvm.staticLocs frame_1_statics s) 16 128 → Post tb e args s (.returned v) u) :
    ArmFor flags0 classFile x code maxLocals ret World_1 tables_1 room_1 Calls_1 rest_1 Pre_1 Post := by
  intro l hfl _ _ p e ha hc hk s m args below hf hA hF happ hP
  obtain ⟨hcalls, hrest, hpre⟩ := hP
  obtain ⟨-, -, -, hnamed, -, -, -, hat⟩ := (Spec.applies_iff hf).mp happ
  obtain ⟨hg, hn⟩ := and_e (Cond.before_iff.mp (show (Jvm.Cond.and given_1 narrow_1).before args s = true from hpre))
  obtain ⟨g2, g3⟩ := and_e hg
  obtain ⟨g4, g5⟩ := and_e g3
  obtain ⟨v0, v1, rfl⟩ : ∃ v0 v1 : Value, args = #[v0, v1] := by
    have hs : args.size = 2 := by simpa [Cond.value, given_1] using g2
    obtain ⟨L⟩ := args
    match L, hs with
    | [v0, v1], _ => exact ⟨v0, v1, rfl⟩
  have hw := fun d (hd : d ∈ tables_1) => atoms_spec (ws := Jvm.Cond.code x code maxLocals ret :: tables_1) hat d (List.mem_cons_of_mem _ hd)
  obtain ⟨i0, ei0⟩ := is_v g4
  obtain rfl : v0 = (.int i0) := Option.some.inj ei0
  obtain ⟨i1, ei1⟩ := is_v g5
  obtain rfl : v1 = (.int i1) := Option.some.inj ei1
  have hfit : Fit s := fun {y c} hc i hi => by
    obtain ⟨ha, rfl⟩ := Array.getElem?_eq_some_iff.mp hc
    have q := List.all_eq_true.mp ((Array.all_eq_true_iff_forall_mem.mp hF) _ (Array.getElem_mem ha)) i (List.mem_range.mpr hi)
    simpa [Array.getElem?_eq_getElem hi] using q
  obtain ⟨g6, g7⟩ := and_e hn
  have c0 := g6
  obtain ⟨g8, g9⟩ := and_e g7
  have c1 := g8
  obtain ⟨g10, g11⟩ := and_e g9
  have c2 := g10
  obtain ⟨g12, g13⟩ := and_e g11
  have c3 := g12
  obtain ⟨g14, g15⟩ := and_e g13
  have c4 := g14
  obtain ⟨g16, g17⟩ := and_e g15
  have c5 := g16
  obtain ⟨g18, g19⟩ := and_e g17
  have c6 := g18
  obtain ⟨g20, g21⟩ := and_e g19
  have c7 := g20
  obtain ⟨g22, g23⟩ := and_e g21
  have c8 := g22
  obtain ⟨g24, g25⟩ := and_e g23
  have c9 := g24
  obtain ⟨g26, g27⟩ := and_e g25
  have c10 := g26
  obtain ⟨g28, g29⟩ := and_e g27
  have c11 := g28
  obtain ⟨g30, g31⟩ := and_e g29
  have c12 := g30
  obtain ⟨g32, g33⟩ := and_e g31
  have c13 := g32
  obtain ⟨g34, g35⟩ := and_e g33
  have c14 := g34
  obtain ⟨g36, g37⟩ := and_e g35
  have c15 := g36
  have c16 := g37
  obtain ⟨w0, ew0⟩ := exa_v c0
  have S0 := Sta.start ew0 (Or.inr ⟨(ww hw 6 rfl), (ww hw 7 rfl)⟩)
  have S1 := Exa.start ew0 c0
  obtain ⟨w1, ew1⟩ := exa_v c1
  have S2 := Sta.start ew1 (Or.inr ⟨(ww hw 6 rfl), (ww hw 9 rfl)⟩)
  have S3 := Exa.start ew1 c1
  obtain ⟨w2, ew2⟩ := exa_v c2
  have S4 := Sta.start ew2 (Or.inr ⟨(ww hw 6 rfl), (ww hw 61 rfl)⟩)
  have S5 := Exa.start ew2 c2
  obtain ⟨w3, ew3⟩ := exa_v c3
  have S6 := Sta.start ew3 (Or.inr ⟨(ww hw 6 rfl), (ww hw 63 rfl)⟩)
  have S7 := Exa.start ew3 c3
  obtain ⟨w4, ew4⟩ := exa_v c4
  have S8 := Sta.start ew4 (Or.inr ⟨(ww hw 6 rfl), (ww hw 65 rfl)⟩)
  have S9 := Exa.start ew4 c4
  obtain ⟨w5, ew5⟩ := exa_v c5
  have S10 := Sta.start ew5 (Or.inr ⟨(ww hw 6 rfl), (ww hw 67 rfl)⟩)
  have S11 := Exa.start ew5 c5
  obtain ⟨w6, ew6⟩ := exa_v c6
  have S12 := Sta.start ew6 (Or.inr ⟨(ww hw 6 rfl), (ww hw 69 rfl)⟩)
  have S13 := Exa.start ew6 c6
  obtain ⟨w7, ew7⟩ := exa_v c7
  have S14 := Sta.start ew7 (Or.inr ⟨(ww hw 6 rfl), (ww hw 71 rfl)⟩)
  have S15 := Exa.start ew7 c7
  obtain ⟨w8, ew8⟩ := exa_v c8
  have S16 := Sta.start ew8 (Or.inr ⟨(ww hw 6 rfl), (ww hw 73 rfl)⟩)
  have S17 := Exa.start ew8 c8
  obtain ⟨w9, ew9⟩ := exa_v c9
  have S18 := Sta.start ew9 (Or.inr ⟨(ww hw 6 rfl), (ww hw 75 rfl)⟩)
  have S19 := Exa.start ew9 c9
  obtain ⟨w10, ew10⟩ := exa_v c10
  have S20 := Sta.start ew10 (Or.inr ⟨(ww hw 6 rfl), (ww hw 77 rfl)⟩)
  have S21 := Exa.start ew10 c10
  obtain ⟨w11, ew11⟩ := exa_v c11
  have S22 := Sta.start ew11 (Or.inr ⟨(ww hw 6 rfl), (ww hw 79 rfl)⟩)
  have S23 := Exa.start ew11 c11
  obtain ⟨w12, ew12⟩ := exa_v c12
  have S24 := Sta.start ew12 (Or.inr ⟨(ww hw 6 rfl), (ww hw 81 rfl)⟩)
  have S25 := Exa.start ew12 c12
  obtain ⟨w13, ew13⟩ := exa_v c13
  have S26 := Sta.start ew13 (Or.inr ⟨(ww hw 6 rfl), (ww hw 83 rfl)⟩)
  have S27 := Exa.start ew13 c13
  obtain ⟨w14, ew14⟩ := exa_v c14
  have S28 := Sta.start ew14 (Or.inr ⟨(ww hw 6 rfl), (ww hw 85 rfl)⟩)
  have S29 := Exa.start ew14 c14
  obtain ⟨w15, ew15⟩ := exa_v c15
  have S30 := Sta.start ew15 (Or.inr ⟨(ww hw 6 rfl), (ww hw 87 rfl)⟩)
  have S31 := Exa.start ew15 c15
  obtain ⟨w16, ew16⟩ := exa_v c16
  have S32 := Sta.start ew16 (Or.inr ⟨(ww hw 6 rfl), (ww hw 89 rfl)⟩)
  have S33 := Exa.start ew16 c16
  obtain ⟨n, o, h1, h2, h3, _, L, rfl, ⟨rfl, N⟩, hq⟩ := law_all l s _ hw tables_1 i0 i1 w0 w1 w2 w3 w4 w5 w6 w7 w8 w9 w10 w11 w12 w13 w14 w15 w16 s.heap s.heap.size (Nat.le_refl _) S0 S1 S2 S3 S4 S5 S6 S7 S8 S9 S10 S11 S12 S13 S14 S15 S16 S17 S18 S19 S20 S21 S22 S23 S24 S25 S26 S27 S28 S29 S30 S31 S32 S33 p e ha hc hk s m _ below hf ((Spec.applies_iff_loose hf).mp happ).1 ⟨rfl, State.Warmed39.refl s, rfl⟩ trivial
  refine ⟨n, _, h1, h2, h3, hpost _ _ _ _ _ _ ⟨Cond.after_iff.mpr rfl, Cond.after_iff.mpr (eq_i res_at (Term.int_eval (1)) rfl), trivial⟩ ⟨hq.1, hq.2.1, (hq.2.2.sift fun y hy => Or.inr (N y hy)).mono (by decide) (by decide)⟩⟩
theorem main_1_1 : Claimed_1_1 := comes_1 fun _ _ _ _ _ _ h hF => ⟨h.1, hF⟩
theorem main_1_2 : Claimed_1_2 := comes_1 fun _ _ _ _ _ _ h hF => ⟨h.2.1, hF⟩
end Jvm.Pilot.@@N@@
namespace Jvm.Pilot.@@N@@
open Jvm Jvm.ClassFile Sem Op Lib Jvm.Free Jvm.Stand Jvm.Pilot.@@N@@.Jvm.D
/-! MADE BY PROGRAM (witnessworld.py) out of the Statement's table words and the real class files: 30 classes; the members and pool entries that the words name. The judged class is class 1, her method 2. -/
namespace start1
open Jvm.ClassFile
def u (s : String) : CpInfo := .utf8 (stringToUtf16 s)
/-- a pool by its gaps: so many unusable entries, then the entry; so many at the end -/
def gap : Nat → List CpInfo → List CpInfo
  | 0, r => r
  | n + 1, r => .unusable :: gap n r
def poolList (es : List (Nat × CpInfo)) (last : Nat) : List CpInfo := es.foldr (fun e r => gap e.1 (e.2 :: r)) (gap last [])
def pool (es : List (Nat × CpInfo)) (last : Nat) : Array CpInfo := ⟨poolList es last⟩
def fileOf (pool : Array CpInfo) (this : Nat) (attrs : Array Attribute := #[]) (ms : Array MethodInfo := #[]) (fl : Nat := 33) (sup : Nat := 0) (ifs : Array Nat := #[]) (fds : Array FieldInfo := #[]) : ClassFile where
  minorVersion := 0
  majorVersion := 65
  constantPool := pool
  accessFlags := fl
  thisClass := this
  superClass := sup
  interfaces := ifs
  fields := fds
  methods := ms
  attributes := attrs
def plain (name : String) (sup : Option ClassId) : Class where
  name := name
  kind := .ordinary
  loader := none
  accessFlags := 33
  super := sup
  interfaces := #[]
  cf := none
  fields := #[]
  methods := #[]
  instanceTypes := #[]
  staticTypes := #[]
  resolved := #[]
  callSites := []
  init := .initialized
  statics := none
  mirror := none

def pool0 : Array CpInfo := pool [(5, u "<init>"), (0, u "()V"), (1, .class_ 10), (1, u "java/lang/Object")] 113

def k0c0 : Code := { maxStack := 0, maxLocals := 1, code := object_method_1_code, exceptionTable := #[], attributes := #[] }
def k0m0 : Method := { name := "<init>", desc := "()V", sig := { parameters := [], returnType := none }, accessFlags := 1, code := some k0c0 }
/-- java/lang/Object -/
def k0 : Class := { plain "java/lang/Object" none with
  accessFlags := 33
  interfaces := #[]
  cf := some (fileOf pool0 8 #[] #[{ accessFlags := 1, nameIndex := 5, descriptorIndex := 6, attributes := #[] }] 33 0 #[] #[])
  fields := #[]
  methods := #[k0m0]
  instanceTypes := #[]
  staticTypes := #[]
  resolved := Array.replicate 124 none
  statics := none }

def pool1 : Array CpInfo := pool [(2, .class_ 4), (1, u "java/lang/Object"), (0, u "<init>"), (0, u "()V"), (0, .integer 2147483647), (0, .fieldref 9 10), (0, .class_ 11), (0, .nameAndType 12 13), (0, u "com/example/aspen/aspen/engine/DataType"), (0, u "STRING"), (0, u "Lcom/example/aspen/aspen/engine/DataType;"), (0, .fieldref 9 15), (0, .nameAndType 16 13), (0, u "BOOLEAN"), (0, .fieldref 9 18), (0, .nameAndType 19 13), (0, u "INTEGER"), (0, .fieldref 9 21), (0, .nameAndType 22 13), (0, u "DOUBLE"), (0, .fieldref 9 24), (0, .nameAndType 25 13), (0, u "TIME"), (0, .fieldref 9 27), (0, .nameAndType 28 13), (0, u "DATE"), (0, .fieldref 9 30), (0, .nameAndType 31 13), (0, u "DATE_TIME"), (0, .fieldref 9 33), (0, .nameAndType 34 13), (0, u "ANY_URI"), (0, .fieldref 9 36), (0, .nameAndType 37 13), (0, u "HEX_BINARY"), (0, .fieldref 9 39), (0, .nameAndType 40 13), (0, u "BASE64_BINARY"), (0, .fieldref 9 42), (0, .nameAndType 43 13), (0, u "DAY_TIME_DURATION"), (0, .fieldref 9 45), (0, .nameAndType 46 13), (0, u "YEAR_MONTH_DURATION"), (0, .fieldref 9 48), (0, .nameAndType 49 13), (0, u "X500_NAME"), (0, .fieldref 9 51), (0, .nameAndType 52 13), (0, u "RFC822_NAME"), (0, .fieldref 9 54), (0, .nameAndType 55 13), (0, u "IP_ADDRESS"), (0, .fieldref 9 57), (0, .nameAndType 58 13), (0, u "DNS_NAME"), (0, .fieldref 9 60), (0, .nameAndType 61 13), (0, u "XPATH_EXPRESSION"), (0, .methodref 63 64), (0, .class_ 65), (0, .nameAndType 66 67), (0, u "com/example/aspen/aspen/engine/ParameterAnyNumberOfPinLaw"), (0, u "pick"), (0, u "(I)Lcom/example/aspen/aspen/engine/DataType;"), (0, .methodref 69 70), (0, .class_ 71), (0, .nameAndType 72 73), (0, u "com/example/aspen/aspen/engine/Parameter"), (0, u "anyNumberOf"), (0, u "(Lcom/example/aspen/aspen/engine/DataType;)Lcom/example/aspen/aspen/engine/Parameter;"), (0, .methodref 69 75), (0, .nameAndType 76 77), (0, u "type"), (0, u "()Lcom/example/aspen/aspen/engine/DataType;"), (0, .methodref 69 79), (0, .nameAndType 80 81), (0, u "isBag"), (0, u "()Z"), (0, .methodref 69 83), (0, .nameAndType 84 81), (0, u "isRepeated"), (0, .methodref 69 86), (0, .nameAndType 87 81), (0, u "isFunction"), (0, .methodref 69 89), (0, .nameAndType 90 91), (0, u "function"), (0, u "()Lcom/example/aspen/aspen/engine/XacmlFunction;"), (0, .methodref 69 93), (0, .nameAndType 94 95), (0, u "isOne"), (0, u "(Lcom/example/aspen/aspen/engine/DataType;)Z"), (3, u "law"), (0, u "(II)Z")] 2

def k1m0 : Method := { name := "<init>", desc := "()V", sig := { parameters := [], returnType := none }, accessFlags := 2, code := none }
def k1c1 : Code := { maxStack := 2, maxLocals := 3, code := method_2_code, exceptionTable := #[], attributes := #[] }
def k1m1 : Method := { name := "pick", desc := "(I)Lcom/example/aspen/aspen/engine/DataType;", sig := { parameters := [.int], returnType := some (.object "com/example/aspen/aspen/engine/DataType") }, accessFlags := 10, code := some k1c1 }
def k1c2 : Code := { maxStack := 3, maxLocals := 6, code := code, exceptionTable := #[], attributes := #[] }
def k1m2 : Method := { name := "law", desc := "(II)Z", sig := { parameters := [.int, .int], returnType := some .boolean }, accessFlags := 9, code := some k1c2 }
/-- com/example/aspen/aspen/engine/ParameterAnyNumberOfPinLaw -/
def k1 : Class := { plain "com/example/aspen/aspen/engine/ParameterAnyNumberOfPinLaw" (some 0) with
  accessFlags := 49
  interfaces := #[]
  cf := some (fileOf pool1 63 #[] #[{ accessFlags := 2, nameIndex := 5, descriptorIndex := 6, attributes := #[] }, { accessFlags := 10, nameIndex := 66, descriptorIndex := 67, attributes := #[] }, { accessFlags := 9, nameIndex := 99, descriptorIndex := 100, attributes := #[] }] 49 2 #[] #[])
  fields := #[]
  methods := #[k1m0, k1m1, k1m2]
  instanceTypes := #[]
  staticTypes := #[]
  resolved := Array.replicate 103 none
  statics := none }

def pool2 : Array CpInfo := pool [(1, .class_ 2), (0, u "java/lang/constant/Constable"), (0, .class_ 4), (0, u "java/lang/Object")] 6

/-- java/lang/constant/Constable -/
def k2 : Class := { plain "java/lang/constant/Constable" (some 0) with
  accessFlags := 1537
  interfaces := #[]
  cf := some (fileOf pool2 1 #[] #[] 1537 3 #[] #[])
  fields := #[]
  methods := #[]
  instanceTypes := #[]
  staticTypes := #[]
  resolved := Array.replicate 11 none
  statics := none }

def pool3 : Array CpInfo := pool [(1, .class_ 2), (0, u "java/lang/Comparable"), (0, .class_ 4), (0, u "java/lang/Object")] 7

/-- java/lang/Comparable -/
def k3 : Class := { plain "java/lang/Comparable" (some 0) with
  accessFlags := 1537
  interfaces := #[]
  cf := some (fileOf pool3 1 #[] #[] 1537 3 #[] #[])
  fields := #[]
  methods := #[]
  instanceTypes := #[]
  staticTypes := #[]
  resolved := Array.replicate 12 none
  statics := none }

def pool4 : Array CpInfo := pool [(1, .class_ 2), (0, u "java/io/Serializable"), (0, .class_ 4), (0, u "java/lang/Object")] 2

/-- java/io/Serializable -/
def k4 : Class := { plain "java/io/Serializable" (some 0) with
  accessFlags := 1537
  interfaces := #[]
  cf := some (fileOf pool4 1 #[] #[] 1537 3 #[] #[])
  fields := #[]
  methods := #[]
  instanceTypes := #[]
  staticTypes := #[]
  resolved := Array.replicate 7 none
  statics := none }

def pool5 : Array CpInfo := pool [(2, .class_ 4), (1, u "java/lang/Enum"), (0, u "name"), (0, u "Ljava/lang/String;"), (2, u "ordinal"), (0, u "I"), (1, .class_ 14), (1, u "java/lang/Object"), (4, u "hash"), (86, .class_ 108), (1, u "java/lang/Enum$EnumDesc"), (2, .class_ 112), (0, u "java/lang/constant/Constable"), (0, .class_ 114), (0, u "java/lang/Comparable"), (0, .class_ 116), (0, u "java/io/Serializable")] 87

/-- java/lang/Enum -/
def k5 : Class := { plain "java/lang/Enum" (some 0) with
  accessFlags := 1057
  interfaces := #[2, 3, 4]
  cf := some (fileOf pool5 2 #[.nestMembers #[106]] #[] 1057 12 #[111, 113, 115] #[{ accessFlags := 18, nameIndex := 5, descriptorIndex := 6, attributes := #[] }, { accessFlags := 18, nameIndex := 9, descriptorIndex := 10, attributes := #[] }, { accessFlags := 2, nameIndex := 19, descriptorIndex := 10, attributes := #[] }])
  fields := #[{ name := "name", type := (.object "java/lang/String"), accessFlags := 18, slot := 0, constantValue := 0 }, { name := "ordinal", type := .int, accessFlags := 18, slot := 1, constantValue := 0 }, { name := "hash", type := .int, accessFlags := 2, slot := 2, constantValue := 0 }]
  methods := #[]
  instanceTypes := #[(.object "java/lang/String"), .int, .int]
  staticTypes := #[]
  resolved := Array.replicate 204 none
  statics := none }

def pool6 : Array CpInfo := pool [(1, .class_ 2), (0, u "com/example/aspen/aspen/engine/DataType"), (2, u "STRING"), (0, u "Lcom/example/aspen/aspen/engine/DataType;"), (2, u "BOOLEAN"), (2, u "INTEGER"), (2, u "DOUBLE"), (2, u "TIME"), (2, u "DATE"), (2, u "DATE_TIME"), (2, u "ANY_URI"), (2, u "HEX_BINARY"), (2, u "BASE64_BINARY"), (2, u "DAY_TIME_DURATION"), (2, u "YEAR_MONTH_DURATION"), (2, u "X500_NAME"), (2, u "RFC822_NAME"), (2, u "IP_ADDRESS"), (2, u "DNS_NAME"), (2, u "XPATH_EXPRESSION"), (2, u "$VALUES"), (0, u "[Lcom/example/aspen/aspen/engine/DataType;"), (6, .class_ 67), (1, u "java/lang/Enum"), (8, u "uri"), (0, u "Ljava/lang/String;"), (2, u "functions"), (2, u "BY_URI"), (0, u "Ljava/util/Map;"), (55, u "ORDERED"), (0, u "Ljava/util/Set;"), (108, .class_ 251), (0, u "com/example/aspen/aspen/engine/DataType$1"), (8, .class_ 261), (0, u "com/example/aspen/aspen/engine/DataType$2"), (6, .class_ 269), (0, u "com/example/aspen/aspen/engine/DataType$3"), (6, .class_ 277), (0, u "com/example/aspen/aspen/engine/DataType$4"), (6, .class_ 285), (0, u "com/example/aspen/aspen/engine/DataType$5"), (6, .class_ 293), (0, u "com/example/aspen/aspen/engine/DataType$6"), (6, .class_ 301), (0, u "com/example/aspen/aspen/engine/DataType$7"), (6, .class_ 309), (0, u "com/example/aspen/aspen/engine/DataType$8"), (6, .class_ 317), (0, u "com/example/aspen/aspen/engine/DataType$9"), (6, .class_ 325), (0, u "com/example/aspen/aspen/engine/DataType$10"), (6, .class_ 333), (0, u "com/example/aspen/aspen/engine/DataType$11"), (6, .class_ 341), (0, u "com/example/aspen/aspen/engine/DataType$12"), (6, .class_ 349), (0, u "com/example/aspen/aspen/engine/DataType$13"), (6, .class_ 357), (0, u "com/example/aspen/aspen/engine/DataType$14"), (6, .class_ 365), (0, u "com/example/aspen/aspen/engine/DataType$15"), (4, .class_ 371), (0, u "com/example/aspen/aspen/engine/DataType$16"), (4, .class_ 377), (0, u "com/example/aspen/aspen/engine/DataType$17"), (18, u "INTEGER_TEXT"), (0, u "Ljava/util/regex/Pattern;"), (4, u "DOUBLE_TEXT"), (17, u "SPECIAL_DOUBLES"), (4, u "HEX_TEXT"), (4, u "BASE64_TEXT"), (4, u "DAY_TIME_TEXT"), (4, u "YEAR_MONTH_TEXT")] 100

/-- com/example/aspen/aspen/engine/DataType -/
def k6 : Class := { plain "com/example/aspen/aspen/engine/DataType" (some 5) with
  accessFlags := 17440
  interfaces := #[]
  cf := some (fileOf pool6 1 #[.nestMembers #[376, 370, 364, 356, 348, 340, 332, 324, 316, 308, 300, 292, 284, 276, 268, 260, 250]] #[] 17440 65 #[] #[{ accessFlags := 16409, nameIndex := 5, descriptorIndex := 6, attributes := #[] }, { accessFlags := 16409, nameIndex := 9, descriptorIndex := 6, attributes := #[] }, { accessFlags := 16409, nameIndex := 12, descriptorIndex := 6, attributes := #[] }, { accessFlags := 16409, nameIndex := 15, descriptorIndex := 6, attributes := #[] }, { accessFlags := 16409, nameIndex := 18, descriptorIndex := 6, attributes := #[] }, { accessFlags := 16409, nameIndex := 21, descriptorIndex := 6, attributes := #[] }, { accessFlags := 16409, nameIndex := 24, descriptorIndex := 6, attributes := #[] }, { accessFlags := 16409, nameIndex := 27, descriptorIndex := 6, attributes := #[] }, { accessFlags := 16409, nameIndex := 30, descriptorIndex := 6, attributes := #[] }, { accessFlags := 16409, nameIndex := 33, descriptorIndex := 6, attributes := #[] }, { accessFlags := 16409, nameIndex := 36, descriptorIndex := 6, attributes := #[] }, { accessFlags := 16409, nameIndex := 39, descriptorIndex := 6, attributes := #[] }, { accessFlags := 16409, nameIndex := 42, descriptorIndex := 6, attributes := #[] }, { accessFlags := 16409, nameIndex := 45, descriptorIndex := 6, attributes := #[] }, { accessFlags := 16409, nameIndex := 48, descriptorIndex := 6, attributes := #[] }, { accessFlags := 16409, nameIndex := 51, descriptorIndex := 6, attributes := #[] }, { accessFlags := 16409, nameIndex := 54, descriptorIndex := 6, attributes := #[] }, { accessFlags := 26, nameIndex := 396, descriptorIndex := 397, attributes := #[] }, { accessFlags := 26, nameIndex := 402, descriptorIndex := 397, attributes := #[] }, { accessFlags := 26, nameIndex := 420, descriptorIndex := 84, attributes := #[] }, { accessFlags := 26, nameIndex := 425, descriptorIndex := 397, attributes := #[] }, { accessFlags := 26, nameIndex := 430, descriptorIndex := 397, attributes := #[] }, { accessFlags := 26, nameIndex := 435, descriptorIndex := 397, attributes := #[] }, { accessFlags := 26, nameIndex := 440, descriptorIndex := 397, attributes := #[] }, { accessFlags := 26, nameIndex := 83, descriptorIndex := 84, attributes := #[] }, { accessFlags := 26, nameIndex := 140, descriptorIndex := 141, attributes := #[] }, { accessFlags := 18, nameIndex := 76, descriptorIndex := 77, attributes := #[] }, { accessFlags := 18, nameIndex := 80, descriptorIndex := 77, attributes := #[] }, { accessFlags := 4122, nameIndex := 57, descriptorIndex := 58, attributes := #[] }])
  fields := #[{ name := "STRING", type := (.object "com/example/aspen/aspen/engine/DataType"), accessFlags := 16409, slot := 0, constantValue := 0 }, { name := "BOOLEAN", type := (.object "com/example/aspen/aspen/engine/DataType"), accessFlags := 16409, slot := 1, constantValue := 0 }, { name := "INTEGER", type := (.object "com/example/aspen/aspen/engine/DataType"), accessFlags := 16409, slot := 2, constantValue := 0 }, { name := "DOUBLE", type := (.object "com/example/aspen/aspen/engine/DataType"), accessFlags := 16409, slot := 3, constantValue := 0 }, { name := "TIME", type := (.object "com/example/aspen/aspen/engine/DataType"), accessFlags := 16409, slot := 4, constantValue := 0 }, { name := "DATE", type := (.object "com/example/aspen/aspen/engine/DataType"), accessFlags := 16409, slot := 5, constantValue := 0 }, { name := "DATE_TIME", type := (.object "com/example/aspen/aspen/engine/DataType"), accessFlags := 16409, slot := 6, constantValue := 0 }, { name := "ANY_URI", type := (.object "com/example/aspen/aspen/engine/DataType"), accessFlags := 16409, slot := 7, constantValue := 0 }, { name := "HEX_BINARY", type := (.object "com/example/aspen/aspen/engine/DataType"), accessFlags := 16409, slot := 8, constantValue := 0 }, { name := "BASE64_BINARY", type := (.object "com/example/aspen/aspen/engine/DataType"), accessFlags := 16409, slot := 9, constantValue := 0 }, { name := "DAY_TIME_DURATION", type := (.object "com/example/aspen/aspen/engine/DataType"), accessFlags := 16409, slot := 10, constantValue := 0 }, { name := "YEAR_MONTH_DURATION", type := (.object "com/example/aspen/aspen/engine/DataType"), accessFlags := 16409, slot := 11, constantValue := 0 }, { name := "X500_NAME", type := (.object "com/example/aspen/aspen/engine/DataType"), accessFlags := 16409, slot := 12, constantValue := 0 }, { name := "RFC822_NAME", type := (.object "com/example/aspen/aspen/engine/DataType"), accessFlags := 16409, slot := 13, constantValue := 0 }, { name := "IP_ADDRESS", type := (.object "com/example/aspen/aspen/engine/DataType"), accessFlags := 16409, slot := 14, constantValue := 0 }, { name := "DNS_NAME", type := (.object "com/example/aspen/aspen/engine/DataType"), accessFlags := 16409, slot := 15, constantValue := 0 }, { name := "XPATH_EXPRESSION", type := (.object "com/example/aspen/aspen/engine/DataType"), accessFlags := 16409, slot := 16, constantValue := 0 }, { name := "INTEGER_TEXT", type := (.object "java/util/regex/Pattern"), accessFlags := 26, slot := 17, constantValue := 0 }, { name := "DOUBLE_TEXT", type := (.object "java/util/regex/Pattern"), accessFlags := 26, slot := 18, constantValue := 0 }, { name := "SPECIAL_DOUBLES", type := (.object "java/util/Map"), accessFlags := 26, slot := 19, constantValue := 0 }, { name := "HEX_TEXT", type := (.object "java/util/regex/Pattern"), accessFlags := 26, slot := 20, constantValue := 0 }, { name := "BASE64_TEXT", type := (.object "java/util/regex/Pattern"), accessFlags := 26, slot := 21, constantValue := 0 }, { name := "DAY_TIME_TEXT", type := (.object "java/util/regex/Pattern"), accessFlags := 26, slot := 22, constantValue := 0 }, { name := "YEAR_MONTH_TEXT", type := (.object "java/util/regex/Pattern"), accessFlags := 26, slot := 23, constantValue := 0 }, { name := "BY_URI", type := (.object "java/util/Map"), accessFlags := 26, slot := 24, constantValue := 0 }, { name := "ORDERED", type := (.object "java/util/Set"), accessFlags := 26, slot := 25, constantValue := 0 }, { name := "uri", type := (.object "java/lang/String"), accessFlags := 18, slot := 3, constantValue := 0 }, { name := "functions", type := (.object "java/lang/String"), accessFlags := 18, slot := 4, constantValue := 0 }, { name := "$VALUES", type := (.array (.object "com/example/aspen/aspen/engine/DataType")), accessFlags := 4122, slot := 26, constantValue := 0 }]
  methods := #[]
  instanceTypes := #[(.object "java/lang/String"), .int, .int, (.object "java/lang/String"), (.object "java/lang/String")]
  staticTypes := #[(.object "com/example/aspen/aspen/engine/DataType"), (.object "com/example/aspen/aspen/engine/DataType"), (.object "com/example/aspen/aspen/engine/DataType"), (.object "com/example/aspen/aspen/engine/DataType"), (.object "com/example/aspen/aspen/engine/DataType"), (.object "com/example/aspen/aspen/engine/DataType"), (.object "com/example/aspen/aspen/engine/DataType"), (.object "com/example/aspen/aspen/engine/DataType"), (.object "com/example/aspen/aspen/engine/DataType"), (.object "com/example/aspen/aspen/engine/DataType"), (.object "com/example/aspen/aspen/engine/DataType"), (.object "com/example/aspen/aspen/engine/DataType"), (.object "com/example/aspen/aspen/engine/DataType"), (.object "com/example/aspen/aspen/engine/DataType"), (.object "com/example/aspen/aspen/engine/DataType"), (.object "com/example/aspen/aspen/engine/DataType"), (.object "com/example/aspen/aspen/engine/DataType"), (.object "java/util/regex/Pattern"), (.object "java/util/regex/Pattern"), (.object "java/util/Map"), (.object "java/util/regex/Pattern"), (.object "java/util/regex/Pattern"), (.object "java/util/regex/Pattern"), (.object "java/util/regex/Pattern"), (.object "java/util/Map"), (.object "java/util/Set"), (.array (.object "com/example/aspen/aspen/engine/DataType"))]
  resolved := Array.replicate 541 none
  statics := some 0 }

def pool7 : Array CpInfo := pool [(1, .methodref 2 3), (0, .class_ 4), (0, .nameAndType 5 6), (0, u "java/lang/Object"), (0, u "<init>"), (0, u "()V"), (0, .fieldref 8 9), (0, .class_ 10), (0, .nameAndType 11 12), (0, u "com/example/aspen/aspen/engine/Parameter"), (0, u "type"), (0, u "Lcom/example/aspen/aspen/engine/DataType;"), (0, .fieldref 8 14), (0, .nameAndType 15 16), (0, u "bag"), (0, u "Z"), (0, .fieldref 8 18), (0, .nameAndType 19 16), (0, u "repeated"), (0, .fieldref 8 21), (0, .nameAndType 22 23), (0, u "function"), (0, u "Lcom/example/aspen/aspen/engine/XacmlFunction;"), (0, .methodref 8 25), (0, .nameAndType 5 26), (0, u "(Lcom/example/aspen/aspen/engine/DataType;ZZLcom/example/aspen/aspen/engine/XacmlFunction;)V"), (27, u "(Lcom/example/aspen/aspen/engine/DataType;)Lcom/example/aspen/aspen/engine/Parameter;"), (1, u "anyNumberOf"), (2, u "()Lcom/example/aspen/aspen/engine/DataType;"), (0, u "isBag"), (0, u "()Z"), (0, u "isRepeated"), (0, u "isFunction"), (1, u "()Lcom/example/aspen/aspen/engine/XacmlFunction;"), (0, u "isOne"), (0, u "(Lcom/example/aspen/aspen/engine/DataType;)Z")] 22

def k7c0 : Code := { maxStack := 2, maxLocals := 5, code := prog_68_method_1_code, exceptionTable := #[], attributes := #[] }
def k7m0 : Method := { name := "<init>", desc := "(Lcom/example/aspen/aspen/engine/DataType;ZZLcom/example/aspen/aspen/engine/XacmlFunction;)V", sig := { parameters := [(.object "com/example/aspen/aspen/engine/DataType"), .boolean, .boolean, (.object "com/example/aspen/aspen/engine/XacmlFunction")], returnType := none }, accessFlags := 2, code := some k7c0 }
def k7c1 : Code := { maxStack := 6, maxLocals := 1, code := prog_68_method_4_code, exceptionTable := #[], attributes := #[] }
def k7m1 : Method := { name := "anyNumberOf", desc := "(Lcom/example/aspen/aspen/engine/DataType;)Lcom/example/aspen/aspen/engine/Parameter;", sig := { parameters := [(.object "com/example/aspen/aspen/engine/DataType")], returnType := some (.object "com/example/aspen/aspen/engine/Parameter") }, accessFlags := 8, code := some k7c1 }
def k7c2 : Code := { maxStack := 1, maxLocals := 1, code := prog_68_method_7_code, exceptionTable := #[], attributes := #[] }
def k7m2 : Method := { name := "type", desc := "()Lcom/example/aspen/aspen/engine/DataType;", sig := { parameters := [], returnType := some (.object "com/example/aspen/aspen/engine/DataType") }, accessFlags := 0, code := some k7c2 }
def k7c3 : Code := { maxStack := 1, maxLocals := 1, code := prog_68_method_8_code, exceptionTable := #[], attributes := #[] }
def k7m3 : Method := { name := "isBag", desc := "()Z", sig := { parameters := [], returnType := some .boolean }, accessFlags := 0, code := some k7c3 }
def k7c4 : Code := { maxStack := 1, maxLocals := 1, code := prog_68_method_9_code, exceptionTable := #[], attributes := #[] }
def k7m4 : Method := { name := "isRepeated", desc := "()Z", sig := { parameters := [], returnType := some .boolean }, accessFlags := 0, code := some k7c4 }
def k7c5 : Code := { maxStack := 1, maxLocals := 1, code := prog_68_method_10_code, exceptionTable := #[], attributes := #[] }
def k7m5 : Method := { name := "isFunction", desc := "()Z", sig := { parameters := [], returnType := some .boolean }, accessFlags := 0, code := some k7c5 }
def k7c6 : Code := { maxStack := 1, maxLocals := 1, code := prog_68_method_11_code, exceptionTable := #[], attributes := #[] }
def k7m6 : Method := { name := "function", desc := "()Lcom/example/aspen/aspen/engine/XacmlFunction;", sig := { parameters := [], returnType := some (.object "com/example/aspen/aspen/engine/XacmlFunction") }, accessFlags := 0, code := some k7c6 }
def k7c7 : Code := { maxStack := 2, maxLocals := 2, code := prog_68_method_12_code, exceptionTable := #[], attributes := #[] }
def k7m7 : Method := { name := "isOne", desc := "(Lcom/example/aspen/aspen/engine/DataType;)Z", sig := { parameters := [(.object "com/example/aspen/aspen/engine/DataType")], returnType := some .boolean }, accessFlags := 0, code := some k7c7 }
/-- com/example/aspen/aspen/engine/Parameter -/
def k7 : Class := { plain "com/example/aspen/aspen/engine/Parameter" (some 0) with
  accessFlags := 48
  interfaces := #[]
  cf := some (fileOf pool7 8 #[] #[{ accessFlags := 2, nameIndex := 5, descriptorIndex := 26, attributes := #[] }, { accessFlags := 8, nameIndex := 56, descriptorIndex := 54, attributes := #[] }, { accessFlags := 0, nameIndex := 11, descriptorIndex := 59, attributes := #[] }, { accessFlags := 0, nameIndex := 60, descriptorIndex := 61, attributes := #[] }, { accessFlags := 0, nameIndex := 62, descriptorIndex := 61, attributes := #[] }, { accessFlags := 0, nameIndex := 63, descriptorIndex := 61, attributes := #[] }, { accessFlags := 0, nameIndex := 22, descriptorIndex := 65, attributes := #[] }, { accessFlags := 0, nameIndex := 66, descriptorIndex := 67, attributes := #[] }] 48 2 #[] #[{ accessFlags := 18, nameIndex := 11, descriptorIndex := 12, attributes := #[] }, { accessFlags := 18, nameIndex := 15, descriptorIndex := 16, attributes := #[] }, { accessFlags := 18, nameIndex := 19, descriptorIndex := 16, attributes := #[] }, { accessFlags := 18, nameIndex := 22, descriptorIndex := 23, attributes := #[] }])
  fields := #[{ name := "type", type := (.object "com/example/aspen/aspen/engine/DataType"), accessFlags := 18, slot := 0, constantValue := 0 }, { name := "bag", type := .boolean, accessFlags := 18, slot := 1, constantValue := 0 }, { name := "repeated", type := .boolean, accessFlags := 18, slot := 2, constantValue := 0 }, { name := "function", type := (.object "com/example/aspen/aspen/engine/XacmlFunction"), accessFlags := 18, slot := 3, constantValue := 0 }]
  methods := #[k7m0, k7m1, k7m2, k7m3, k7m4, k7m5, k7m6, k7m7]
  instanceTypes := #[(.object "com/example/aspen/aspen/engine/DataType"), .boolean, .boolean, (.object "com/example/aspen/aspen/engine/XacmlFunction")]
  staticTypes := #[]
  resolved := Array.replicate 90 none
  statics := none }

def pool8 : Array CpInfo := pool [(2, .class_ 4), (1, u "com/example/aspen/aspen/engine/DataType"), (2, .class_ 8), (0, u "com/example/aspen/aspen/engine/DataType$1")] 10

/-- com/example/aspen/aspen/engine/DataType$1 -/
def k8 : Class := { plain "com/example/aspen/aspen/engine/DataType$1" (some 6) with
  accessFlags := 16432
  interfaces := #[]
  cf := some (fileOf pool8 7 #[.nestHost 2] #[] 16432 2 #[] #[])
  fields := #[]
  methods := #[]
  instanceTypes := #[(.object "java/lang/String"), .int, .int, (.object "java/lang/String"), (.object "java/lang/String")]
  staticTypes := #[]
  resolved := Array.replicate 19 none
  statics := none }

def pool9 : Array CpInfo := pool [(2, .class_ 4), (1, u "com/example/aspen/aspen/engine/DataType"), (54, .class_ 60), (0, u "com/example/aspen/aspen/engine/DataType$4")] 15

/-- com/example/aspen/aspen/engine/DataType$4 -/
def k9 : Class := { plain "com/example/aspen/aspen/engine/DataType$4" (some 6) with
  accessFlags := 16432
  interfaces := #[]
  cf := some (fileOf pool9 59 #[.nestHost 2] #[] 16432 2 #[] #[])
  fields := #[]
  methods := #[]
  instanceTypes := #[(.object "java/lang/String"), .int, .int, (.object "java/lang/String"), (.object "java/lang/String")]
  staticTypes := #[]
  resolved := Array.replicate 76 none
  statics := none }

def pool10 : Array CpInfo := pool [(2, .class_ 4), (1, u "com/example/aspen/aspen/engine/DataType"), (8, .class_ 14), (0, u "com/example/aspen/aspen/engine/DataType$15")] 13

/-- com/example/aspen/aspen/engine/DataType$15 -/
def k10 : Class := { plain "com/example/aspen/aspen/engine/DataType$15" (some 6) with
  accessFlags := 16432
  interfaces := #[]
  cf := some (fileOf pool10 13 #[.nestHost 2] #[] 16432 2 #[] #[])
  fields := #[]
  methods := #[]
  instanceTypes := #[(.object "java/lang/String"), .int, .int, (.object "java/lang/String"), (.object "java/lang/String")]
  staticTypes := #[]
  resolved := Array.replicate 28 none
  statics := none }

def pool11 : Array CpInfo := pool [(2, .class_ 4), (1, u "com/example/aspen/aspen/engine/DataType"), (29, .class_ 35), (0, u "com/example/aspen/aspen/engine/DataType$2")] 13

/-- com/example/aspen/aspen/engine/DataType$2 -/
def k11 : Class := { plain "com/example/aspen/aspen/engine/DataType$2" (some 6) with
  accessFlags := 16432
  interfaces := #[]
  cf := some (fileOf pool11 34 #[.nestHost 2] #[] 16432 2 #[] #[])
  fields := #[]
  methods := #[]
  instanceTypes := #[(.object "java/lang/String"), .int, .int, (.object "java/lang/String"), (.object "java/lang/String")]
  staticTypes := #[]
  resolved := Array.replicate 49 none
  statics := none }

def pool12 : Array CpInfo := pool [(2, .class_ 4), (1, u "com/example/aspen/aspen/engine/DataType"), (12, .class_ 18), (0, u "com/example/aspen/aspen/engine/DataType$7")] 12

/-- com/example/aspen/aspen/engine/DataType$7 -/
def k12 : Class := { plain "com/example/aspen/aspen/engine/DataType$7" (some 6) with
  accessFlags := 16432
  interfaces := #[]
  cf := some (fileOf pool12 17 #[.nestHost 2] #[] 16432 2 #[] #[])
  fields := #[]
  methods := #[]
  instanceTypes := #[(.object "java/lang/String"), .int, .int, (.object "java/lang/String"), (.object "java/lang/String")]
  staticTypes := #[]
  resolved := Array.replicate 31 none
  statics := none }

def pool13 : Array CpInfo := pool [(2, .class_ 4), (1, u "com/example/aspen/aspen/engine/DataType"), (13, .class_ 19), (0, u "com/example/aspen/aspen/engine/DataType$13")] 13

/-- com/example/aspen/aspen/engine/DataType$13 -/
def k13 : Class := { plain "com/example/aspen/aspen/engine/DataType$13" (some 6) with
  accessFlags := 16432
  interfaces := #[]
  cf := some (fileOf pool13 18 #[.nestHost 2] #[] 16432 2 #[] #[])
  fields := #[]
  methods := #[]
  instanceTypes := #[(.object "java/lang/String"), .int, .int, (.object "java/lang/String"), (.object "java/lang/String")]
  staticTypes := #[]
  resolved := Array.replicate 33 none
  statics := none }

def pool14 : Array CpInfo := pool [(2, .class_ 4), (1, u "com/example/aspen/aspen/engine/DataType"), (25, .class_ 32), (1, u "com/example/aspen/aspen/engine/DataType$17")] 54

/-- com/example/aspen/aspen/engine/DataType$17 -/
def k14 : Class := { plain "com/example/aspen/aspen/engine/DataType$17" (some 6) with
  accessFlags := 16432
  interfaces := #[]
  cf := some (fileOf pool14 30 #[.nestHost 2] #[] 16432 2 #[] #[])
  fields := #[]
  methods := #[]
  instanceTypes := #[(.object "java/lang/String"), .int, .int, (.object "java/lang/String"), (.object "java/lang/String")]
  staticTypes := #[]
  resolved := Array.replicate 87 none
  statics := none }

def pool15 : Array CpInfo := pool [(2, .class_ 4), (1, u "com/example/aspen/aspen/engine/DataType"), (59, .class_ 65), (0, u "com/example/aspen/aspen/engine/DataType$10")] 15

/-- com/example/aspen/aspen/engine/DataType$10 -/
def k15 : Class := { plain "com/example/aspen/aspen/engine/DataType$10" (some 6) with
  accessFlags := 16432
  interfaces := #[]
  cf := some (fileOf pool15 64 #[.nestHost 2] #[] 16432 2 #[] #[])
  fields := #[]
  methods := #[]
  instanceTypes := #[(.object "java/lang/String"), .int, .int, (.object "java/lang/String"), (.object "java/lang/String")]
  staticTypes := #[]
  resolved := Array.replicate 81 none
  statics := none }

def pool16 : Array CpInfo := pool [(2, .class_ 4), (1, u "com/example/aspen/aspen/engine/DataType"), (2, .class_ 8), (0, u "com/example/aspen/aspen/engine/DataType$8")] 10

/-- com/example/aspen/aspen/engine/DataType$8 -/
def k16 : Class := { plain "com/example/aspen/aspen/engine/DataType$8" (some 6) with
  accessFlags := 16432
  interfaces := #[]
  cf := some (fileOf pool16 7 #[.nestHost 2] #[] 16432 2 #[] #[])
  fields := #[]
  methods := #[]
  instanceTypes := #[(.object "java/lang/String"), .int, .int, (.object "java/lang/String"), (.object "java/lang/String")]
  staticTypes := #[]
  resolved := Array.replicate 19 none
  statics := none }

def pool17 : Array CpInfo := pool [(2, .class_ 4), (1, u "com/example/aspen/aspen/engine/DataType"), (8, .class_ 14), (0, u "com/example/aspen/aspen/engine/DataType$14")] 10

/-- com/example/aspen/aspen/engine/DataType$14 -/
def k17 : Class := { plain "com/example/aspen/aspen/engine/DataType$14" (some 6) with
  accessFlags := 16432
  interfaces := #[]
  cf := some (fileOf pool17 13 #[.nestHost 2] #[] 16432 2 #[] #[])
  fields := #[]
  methods := #[]
  instanceTypes := #[(.object "java/lang/String"), .int, .int, (.object "java/lang/String"), (.object "java/lang/String")]
  staticTypes := #[]
  resolved := Array.replicate 25 none
  statics := none }

def pool18 : Array CpInfo := pool [(2, .class_ 4), (1, u "com/example/aspen/aspen/engine/DataType"), (33, .class_ 39), (0, u "com/example/aspen/aspen/engine/DataType$9")] 13

/-- com/example/aspen/aspen/engine/DataType$9 -/
def k18 : Class := { plain "com/example/aspen/aspen/engine/DataType$9" (some 6) with
  accessFlags := 16432
  interfaces := #[]
  cf := some (fileOf pool18 38 #[.nestHost 2] #[] 16432 2 #[] #[])
  fields := #[]
  methods := #[]
  instanceTypes := #[(.object "java/lang/String"), .int, .int, (.object "java/lang/String"), (.object "java/lang/String")]
  staticTypes := #[]
  resolved := Array.replicate 53 none
  statics := none }

def pool19 : Array CpInfo := pool [(2, .class_ 4), (1, u "com/example/aspen/aspen/engine/DataType"), (12, .class_ 18), (0, u "com/example/aspen/aspen/engine/DataType$6")] 12

/-- com/example/aspen/aspen/engine/DataType$6 -/
def k19 : Class := { plain "com/example/aspen/aspen/engine/DataType$6" (some 6) with
  accessFlags := 16432
  interfaces := #[]
  cf := some (fileOf pool19 17 #[.nestHost 2] #[] 16432 2 #[] #[])
  fields := #[]
  methods := #[]
  instanceTypes := #[(.object "java/lang/String"), .int, .int, (.object "java/lang/String"), (.object "java/lang/String")]
  staticTypes := #[]
  resolved := Array.replicate 31 none
  statics := none }

def pool20 : Array CpInfo := pool [(2, .class_ 4), (1, u "com/example/aspen/aspen/engine/DataType"), (8, .class_ 14), (0, u "com/example/aspen/aspen/engine/DataType$16")] 13

/-- com/example/aspen/aspen/engine/DataType$16 -/
def k20 : Class := { plain "com/example/aspen/aspen/engine/DataType$16" (some 6) with
  accessFlags := 16432
  interfaces := #[]
  cf := some (fileOf pool20 13 #[.nestHost 2] #[] 16432 2 #[] #[])
  fields := #[]
  methods := #[]
  instanceTypes := #[(.object "java/lang/String"), .int, .int, (.object "java/lang/String"), (.object "java/lang/String")]
  staticTypes := #[]
  resolved := Array.replicate 28 none
  statics := none }

def pool21 : Array CpInfo := pool [(2, .class_ 4), (1, u "com/example/aspen/aspen/engine/DataType"), (12, .class_ 18), (0, u "com/example/aspen/aspen/engine/DataType$5")] 12

/-- com/example/aspen/aspen/engine/DataType$5 -/
def k21 : Class := { plain "com/example/aspen/aspen/engine/DataType$5" (some 6) with
  accessFlags := 16432
  interfaces := #[]
  cf := some (fileOf pool21 17 #[.nestHost 2] #[] 16432 2 #[] #[])
  fields := #[]
  methods := #[]
  instanceTypes := #[(.object "java/lang/String"), .int, .int, (.object "java/lang/String"), (.object "java/lang/String")]
  staticTypes := #[]
  resolved := Array.replicate 31 none
  statics := none }

def pool22 : Array CpInfo := pool [(2, .class_ 4), (1, u "com/example/aspen/aspen/engine/DataType"), (23, .class_ 29), (0, u "com/example/aspen/aspen/engine/DataType$3")] 13

/-- com/example/aspen/aspen/engine/DataType$3 -/
def k22 : Class := { plain "com/example/aspen/aspen/engine/DataType$3" (some 6) with
  accessFlags := 16432
  interfaces := #[]
  cf := some (fileOf pool22 28 #[.nestHost 2] #[] 16432 2 #[] #[])
  fields := #[]
  methods := #[]
  instanceTypes := #[(.object "java/lang/String"), .int, .int, (.object "java/lang/String"), (.object "java/lang/String")]
  staticTypes := #[]
  resolved := Array.replicate 43 none
  statics := none }

def pool23 : Array CpInfo := pool [(2, .class_ 4), (1, u "com/example/aspen/aspen/engine/DataType"), (98, .class_ 104), (0, u "com/example/aspen/aspen/engine/DataType$12")] 15

/-- com/example/aspen/aspen/engine/DataType$12 -/
def k23 : Class := { plain "com/example/aspen/aspen/engine/DataType$12" (some 6) with
  accessFlags := 16432
  interfaces := #[]
  cf := some (fileOf pool23 103 #[.nestHost 2] #[] 16432 2 #[] #[])
  fields := #[]
  methods := #[]
  instanceTypes := #[(.object "java/lang/String"), .int, .int, (.object "java/lang/String"), (.object "java/lang/String")]
  staticTypes := #[]
  resolved := Array.replicate 120 none
  statics := none }

def pool24 : Array CpInfo := pool [(2, .class_ 4), (1, u "com/example/aspen/aspen/engine/DataType"), (125, .class_ 131), (0, u "com/example/aspen/aspen/engine/DataType$11")] 15

/-- com/example/aspen/aspen/engine/DataType$11 -/
def k24 : Class := { plain "com/example/aspen/aspen/engine/DataType$11" (some 6) with
  accessFlags := 16432
  interfaces := #[]
  cf := some (fileOf pool24 130 #[.nestHost 2] #[] 16432 2 #[] #[])
  fields := #[]
  methods := #[]
  instanceTypes := #[(.object "java/lang/String"), .int, .int, (.object "java/lang/String"), (.object "java/lang/String")]
  staticTypes := #[]
  resolved := Array.replicate 147 none
  statics := none }

def pool25 : Array CpInfo := pool [(1, u "java/lang/Cloneable"), (0, .class_ 1), (0, u "java/lang/Object"), (0, .class_ 3)] 3

/-- java/lang/Cloneable -/
def k25 : Class := { plain "java/lang/Cloneable" (some 0) with
  accessFlags := 1537
  interfaces := #[]
  cf := some (fileOf pool25 2 #[] #[] 1537 4 #[] #[])
  fields := #[]
  methods := #[]
  instanceTypes := #[]
  staticTypes := #[]
  resolved := Array.replicate 8 none
  statics := none }

/-- the primitive byte -/
def k26 : Class := { plain "byte" none with kind := .primitive 'B', accessFlags := 0x411 }
/-- [B -/
def k27 : Class := { plain "[B" (some 0) with kind := .array 26 .byte, interfaces := #[25, 4], accessFlags := 1041 }

/-- the primitive int -/
def k28 : Class := { plain "int" none with kind := .primitive 'I', accessFlags := 0x411 }
/-- [I -/
def k29 : Class := { plain "[I" (some 0) with kind := .array 28 .int, interfaces := #[25, 4], accessFlags := 1041 }

def heap : Heap := #[{ cls := 6, slots := #[.ref 1, .ref 4, .ref 15, .ref 2, .ref 14, .ref 12, .ref 5, .ref 9, .ref 11, .ref 8, .ref 17, .ref 16, .ref 6, .ref 10, .ref 3, .ref 13, .ref 7, .null, .null, .null, .null, .null, .null, .null, .null, .null, .null], vm := .statics 6 },
  { cls := 8, slots := #[.null, .int 0, .int 0, .null, .null], vm := .none },
  { cls := 9, slots := #[.null, .int 0, .int 0, .null, .null], vm := .none },
  { cls := 10, slots := #[.null, .int 0, .int 0, .null, .null], vm := .none },
  { cls := 11, slots := #[.null, .int 0, .int 0, .null, .null], vm := .none },
  { cls := 12, slots := #[.null, .int 0, .int 0, .null, .null], vm := .none },
  { cls := 13, slots := #[.null, .int 0, .int 0, .null, .null], vm := .none },
  { cls := 14, slots := #[.null, .int 0, .int 0, .null, .null], vm := .none },
  { cls := 15, slots := #[.null, .int 0, .int 0, .null, .null], vm := .none },
  { cls := 16, slots := #[.null, .int 0, .int 0, .null, .null], vm := .none },
  { cls := 17, slots := #[.null, .int 0, .int 0, .null, .null], vm := .none },
  { cls := 18, slots := #[.null, .int 0, .int 0, .null, .null], vm := .none },
  { cls := 19, slots := #[.null, .int 0, .int 0, .null, .null], vm := .none },
  { cls := 20, slots := #[.null, .int 0, .int 0, .null, .null], vm := .none },
  { cls := 21, slots := #[.null, .int 0, .int 0, .null, .null], vm := .none },
  { cls := 22, slots := #[.null, .int 0, .int 0, .null, .null], vm := .none },
  { cls := 23, slots := #[.null, .int 0, .int 0, .null, .null], vm := .none },
  { cls := 24, slots := #[.null, .int 0, .int 0, .null, .null], vm := .none }]
def classes : Array Class := #[k0, k1, k2, k3, k4, k5, k6, k7, k8, k9, k10, k11, k12, k13, k14, k15, k16, k17, k18, k19, k20, k21, k22, k23, k24, k25, k26, k27, k28, k29]
def interned : List (Array UInt16 × Addr) := []
def slotsUsed : Nat := 112
def theMethod : MethodId := ⟨1, 2⟩
def args0 : Array Value := #[.int 5, .int 5]
def aboutOver (below : List Frame) : State where
  vm := { classes := classes, interned := interned.toArray }
  heap := heap
  slotsUsed := slotsUsed
  threads := #[{ frames := .invoking theMethod args0 :: below }]
def below0 : List Frame := [.native { method := ⟨0, 0⟩, args := #[] }]
def about1 : State := aboutOver below0
def p0 : Program := .bare "" "" ""
def e0 : Env := launch0.env 0 0 0
theorem w_frames : about1.frames = Frame.invoking theMethod args0 :: below0 := rfl
set_option maxRecDepth 65536 in
theorem w_args : argsFit about1.vm theMethod args0 = true := by decide +kernel
set_option maxRecDepth 65536 in
theorem w_heap : heapFits about1 = true := by decide +kernel
set_option maxRecDepth 65536 in
theorem w_runnable : about1.curStatus? = some .runnable := by decide +kernel
set_option maxRecDepth 65536 in
theorem w_alone : about1.alone = true := by decide +kernel
set_option maxRecDepth 65536 in
theorem w_named : about1.methodNamed? x = some theMethod := by decide +kernel
set_option maxRecDepth 65536 in
theorem w_hears : about1.hears theMethod below0 = true := by decide +kernel
set_option maxRecDepth 65536 in
theorem w_ripe : about1.ripe theMethod args0 below0 = true := by decide +kernel
theorem w_running : about1.status = .running := rfl
set_option maxRecDepth 65536 in
theorem w_room : about1.hasRoom e0.platform room_1 = true :=
  launch0.hasRoom_least _ room_1 (by decide +kernel) (by decide +kernel) (by decide +kernel) (by decide +kernel) (by decide +kernel) (by decide +kernel)
theorem allAtoms_all (ts : List Jvm.Cond) (a : Array Jvm.Value) (st : Jvm.State) : (allAtoms ts).before a st = ts.all (fun c => c.before a st) := by
  induction ts with
  | nil => rfl
  | cons c t ih =>
    show (Jvm.Cond.and c (allAtoms t)).before a st = _
    rw [Jvm.Cond.before_and, ih, List.all_cons]
def words1 : List Jvm.Cond := Jvm.Cond.code x code maxLocals ret :: tables_1
/-- a 'code' word, met by the world's own term for the bytes: nothing is compared byte by byte -/
theorem code_word {y : MethodName} {bytes : ByteArray} {mx : Nat} {rt : Option FieldType} {a : Array Value} {s : State} {m : MethodId} {meth : Method} {c : Code} (h1 : s.methodNamed? y = some m) (h2 : s.vm.method? m = some meth) (h3 : meth.code = some c) (h4 : c.code = bytes)
    (h5 : (c.maxLocals == mx && c.exceptionTable.isEmpty && decide (c.maxStack ≤ mostOperands) && decide (meth.sig.returnType = rt) && !meth.locks && decide (parseMethodDescriptor y.desc = some meth.sig)) = true) : (Jvm.Cond.code y bytes mx rt).before a s = true := by
  simp only [Bool.and_eq_true, beq_iff_eq, Bool.not_eq_true', decide_eq_true_eq] at h5
  obtain ⟨⟨⟨⟨⟨g1, g2⟩, g3⟩, g4⟩, g5⟩, g6⟩ := h5
  simp [Cond.before, Cond.holds, Cond.value, h1, h2, h3, h4, g1, g2, g3, g4, g5, g6]
def isCode : Jvm.Cond → Bool
  | .code _ _ _ _ => true
  | _ => false
theorem all_split {L : List Jvm.Cond} {P : Jvm.Cond → Bool} (h1 : L.all (fun c => isCode c || P c) = true) (h2 : ∀ c ∈ L.filter isCode, P c = true) : L.all P = true := by
  refine List.all_eq_true.mpr fun c hc => ?_
  have h := List.all_eq_true.mp h1 c hc
  rcases Bool.eq_false_or_eq_true (isCode c) with hi | hi
  · exact h2 c (List.mem_filter.mpr ⟨hc, hi⟩)
  · simpa [hi] using h
set_option maxRecDepth 65536 in
theorem w_c0 : (Jvm.Cond.code x code maxLocals ret).before args0 about1 = true := code_word (m := ⟨1, 2⟩) (meth := k1m2) (c := k1c2) (by decide +kernel) rfl rfl rfl (by decide +kernel)
set_option maxRecDepth 65536 in
theorem w_c1 : (Jvm.Cond.code ({ cls := "com/example/aspen/aspen/engine/ParameterAnyNumberOfPinLaw", name := "pick", desc := "(I)Lcom/example/aspen/aspen/engine/DataType;" } : Jvm.MethodName) method_2_code (3 : Nat) (Option.some (Jvm.ClassFile.FieldType.object "com/example/aspen/aspen/engine/DataType"))).before args0 about1 = true := code_word (m := ⟨1, 1⟩) (meth := k1m1) (c := k1c1) (by decide +kernel) rfl rfl rfl (by decide +kernel)
set_option maxRecDepth 65536 in
theorem w_c2 : (Jvm.Cond.code ({ cls := "com/example/aspen/aspen/engine/Parameter", name := "anyNumberOf", desc := "(Lcom/example/aspen/aspen/engine/DataType;)Lcom/example/aspen/aspen/engine/Parameter;" } : Jvm.MethodName) prog_68_method_4_code (1 : Nat) (Option.some (Jvm.ClassFile.FieldType.object "com/example/aspen/aspen/engine/Parameter"))).before args0 about1 = true := code_word (m := ⟨7, 1⟩) (meth := k7m1) (c := k7c1) (by decide +kernel) rfl rfl rfl (by decide +kernel)
set_option maxRecDepth 65536 in
theorem w_c3 : (Jvm.Cond.code ({ cls := "com/example/aspen/aspen/engine/Parameter", name := "<init>", desc := "(Lcom/example/aspen/aspen/engine/DataType;ZZLcom/example/aspen/aspen/engine/XacmlFunction;)V" } : Jvm.MethodName) prog_68_method_1_code (5 : Nat) (Option.none : Option Jvm.ClassFile.FieldType)).before args0 about1 = true := code_word (m := ⟨7, 0⟩) (meth := k7m0) (c := k7c0) (by decide +kernel) rfl rfl rfl (by decide +kernel)
set_option maxRecDepth 65536 in
theorem w_c4 : (Jvm.Cond.code ({ cls := "java/lang/Object", name := "<init>", desc := "()V" } : Jvm.MethodName) object_method_1_code (1 : Nat) (Option.none : Option Jvm.ClassFile.FieldType)).before args0 about1 = true := code_word (m := ⟨0, 0⟩) (meth := k0m0) (c := k0c0) (by decide +kernel) rfl rfl rfl (by decide +kernel)
set_option maxRecDepth 65536 in
theorem w_c5 : (Jvm.Cond.code ({ cls := "com/example/aspen/aspen/engine/Parameter", name := "type", desc := "()Lcom/example/aspen/aspen/engine/DataType;" } : Jvm.MethodName) prog_68_method_7_code (1 : Nat) (Option.some (Jvm.ClassFile.FieldType.object "com/example/aspen/aspen/engine/DataType"))).before args0 about1 = true := code_word (m := ⟨7, 2⟩) (meth := k7m2) (c := k7c2) (by decide +kernel) rfl rfl rfl (by decide +kernel)
set_option maxRecDepth 65536 in
theorem w_c6 : (Jvm.Cond.code ({ cls := "com/example/aspen/aspen/engine/Parameter", name := "isBag", desc := "()Z" } : Jvm.MethodName) prog_68_method_8_code (1 : Nat) (Option.some Jvm.ClassFile.FieldType.boolean)).before args0 about1 = true := code_word (m := ⟨7, 3⟩) (meth := k7m3) (c := k7c3) (by decide +kernel) rfl rfl rfl (by decide +kernel)
set_option maxRecDepth 65536 in
theorem w_c7 : (Jvm.Cond.code ({ cls := "com/example/aspen/aspen/engine/Parameter", name := "isRepeated", desc := "()Z" } : Jvm.MethodName) prog_68_method_9_code (1 : Nat) (Option.some Jvm.ClassFile.FieldType.boolean)).before args0 about1 = true := code_word (m := ⟨7, 4⟩) (meth := k7m4) (c := k7c4) (by decide +kernel) rfl rfl rfl (by decide +kernel)
set_option maxRecDepth 65536 in
theorem w_c8 : (Jvm.Cond.code ({ cls := "com/example/aspen/aspen/engine/Parameter", name := "isFunction", desc := "()Z" } : Jvm.MethodName) prog_68_method_10_code (1 : Nat) (Option.some Jvm.ClassFile.FieldType.boolean)).before args0 about1 = true := code_word (m := ⟨7, 5⟩) (meth := k7m5) (c := k7c5) (by decide +kernel) rfl rfl rfl (by decide +kernel)
set_option maxRecDepth 65536 in
theorem w_c9 : (Jvm.Cond.code ({ cls := "com/example/aspen/aspen/engine/Parameter", name := "function", desc := "()Lcom/example/aspen/aspen/engine/XacmlFunction;" } : Jvm.MethodName) prog_68_method_11_code (1 : Nat) (Option.some (Jvm.ClassFile.FieldType.object "com/example/aspen/aspen/engine/XacmlFunction"))).before args0 about1 = true := code_word (m := ⟨7, 6⟩) (meth := k7m6) (c := k7c6) (by decide +kernel) rfl rfl rfl (by decide +kernel)
set_option maxRecDepth 65536 in
theorem w_c10 : (Jvm.Cond.code ({ cls := "com/example/aspen/aspen/engine/Parameter", name := "isOne", desc := "(Lcom/example/aspen/aspen/engine/DataType;)Z" } : Jvm.MethodName) prog_68_method_12_code (2 : Nat) (Option.some Jvm.ClassFile.FieldType.boolean)).before args0 about1 = true := code_word (m := ⟨7, 7⟩) (meth := k7m7) (c := k7c7) (by decide +kernel) rfl rfl rfl (by decide +kernel)
def codes1 : List Jvm.Cond := [Jvm.Cond.code x code maxLocals ret, Jvm.Cond.code ({ cls := "com/example/aspen/aspen/engine/ParameterAnyNumberOfPinLaw", name := "pick", desc := "(I)Lcom/example/aspen/aspen/engine/DataType;" } : Jvm.MethodName) method_2_code (3 : Nat) (Option.some (Jvm.ClassFile.FieldType.object "com/example/aspen/aspen/engine/DataType")), Jvm.Cond.code ({ cls := "com/example/aspen/aspen/engine/Parameter", name := "anyNumberOf", desc := "(Lcom/example/aspen/aspen/engine/DataType;)Lcom/example/aspen/aspen/engine/Parameter;" } : Jvm.MethodName) prog_68_method_4_code (1 : Nat) (Option.some (Jvm.ClassFile.FieldType.object "com/example/aspen/aspen/engine/Parameter")), Jvm.Cond.code ({ cls := "com/example/aspen/aspen/engine/Parameter", name := "<init>", desc := "(Lcom/example/aspen/aspen/engine/DataType;ZZLcom/example/aspen/aspen/engine/XacmlFunction;)V" } : Jvm.MethodName) prog_68_method_1_code (5 : Nat) (Option.none : Option Jvm.ClassFile.FieldType), Jvm.Cond.code ({ cls := "java/lang/Object", name := "<init>", desc := "()V" } : Jvm.MethodName) object_method_1_code (1 : Nat) (Option.none : Option Jvm.ClassFile.FieldType), Jvm.Cond.code ({ cls := "com/example/aspen/aspen/engine/Parameter", name := "type", desc := "()Lcom/example/aspen/aspen/engine/DataType;" } : Jvm.MethodName) prog_68_method_7_code (1 : Nat) (Option.some (Jvm.ClassFile.FieldType.object "com/example/aspen/aspen/engine/DataType")), Jvm.Cond.code ({ cls := "com/example/aspen/aspen/engine/Parameter", name := "isBag", desc := "()Z" } : Jvm.MethodName) prog_68_method_8_code (1 : Nat) (Option.some Jvm.ClassFile.FieldType.boolean), Jvm.Cond.code ({ cls := "com/example/aspen/aspen/engine/Parameter", name := "isRepeated", desc := "()Z" } : Jvm.MethodName) prog_68_method_9_code (1 : Nat) (Option.some Jvm.ClassFile.FieldType.boolean), Jvm.Cond.code ({ cls := "com/example/aspen/aspen/engine/Parameter", name := "isFunction", desc := "()Z" } : Jvm.MethodName) prog_68_method_10_code (1 : Nat) (Option.some Jvm.ClassFile.FieldType.boolean), Jvm.Cond.code ({ cls := "com/example/aspen/aspen/engine/Parameter", name := "function", desc := "()Lcom/example/aspen/aspen/engine/XacmlFunction;" } : Jvm.MethodName) prog_68_method_11_code (1 : Nat) (Option.some (Jvm.ClassFile.FieldType.object "com/example/aspen/aspen/engine/XacmlFunction")), Jvm.Cond.code ({ cls := "com/example/aspen/aspen/engine/Parameter", name := "isOne", desc := "(Lcom/example/aspen/aspen/engine/DataType;)Z" } : Jvm.MethodName) prog_68_method_12_code (2 : Nat) (Option.some Jvm.ClassFile.FieldType.boolean)]
set_option maxRecDepth 65536 in
theorem codes_eq : words1.filter isCode = codes1 := rfl
theorem w_codes : ∀ c ∈ words1.filter isCode, c.before args0 about1 = true := by
  rw [codes_eq]
  intro c hc
  simp only [codes1, List.mem_cons, List.not_mem_nil, or_false] at hc
  rcases hc with rfl | rfl | rfl | rfl | rfl | rfl | rfl | rfl | rfl | rfl | rfl
  · exact w_c0
  · exact w_c1
  · exact w_c2
  · exact w_c3
  · exact w_c4
  · exact w_c5
  · exact w_c6
  · exact w_c7
  · exact w_c8
  · exact w_c9
  · exact w_c10
set_option maxRecDepth 65536 in
theorem w_t1 : (words1.take 24).all (fun c => isCode c || c.before args0 about1) = true := by decide +kernel
set_option maxRecDepth 65536 in
theorem w_t2 : ((words1.drop 24).take 24).all (fun c => isCode c || c.before args0 about1) = true := by decide +kernel
set_option maxRecDepth 65536 in
theorem w_t3 : (((words1.drop 24).drop 24).take 24).all (fun c => isCode c || c.before args0 about1) = true := by decide +kernel
set_option maxRecDepth 65536 in
theorem w_t4 : (((words1.drop 24).drop 24).drop 24).all (fun c => isCode c || c.before args0 about1) = true := by decide +kernel
theorem w_tables : (allAtoms (Jvm.Cond.code x code maxLocals ret :: tables_1)).before args0 about1 = true := by
  rw [allAtoms_all]
  show words1.all (fun c => c.before args0 about1) = true
  refine all_split ?_ w_codes
  rw [← List.take_append_drop 24 words1, List.all_append, w_t1, ← List.take_append_drop 24 (words1.drop 24), List.all_append, w_t2, ← List.take_append_drop 24 ((words1.drop 24).drop 24), List.all_append, w_t3, w_t4]
  rfl
set_option maxRecDepth 65536 in
theorem w_case : (Jvm.Cond.and given_1 narrow_1).before args0 about1 = true := by decide +kernel
theorem w_applies : (headSpec (Jvm.Cond.code x code maxLocals ret :: tables_1) room_1).applies x e0.platform about1 = true :=
  (Spec.applies_iff w_frames).mpr ⟨w_running, w_runnable, w_alone, w_named, w_hears, w_ripe, w_room, w_tables⟩
theorem atStart : AtStart classFile x code maxLocals ret World_1 tables_1 room_1 Calls_1 rest_1 Pre_1 launch0 p0 e0 about1 theMethod args0 below0 :=
  ⟨lists_1, trivial, launch0.admits_env _ _ _, launch0.least_env, fairChoices_fair.cas, fairChoices_fair.clock, w_frames, w_args, w_heap, w_applies, trivial, trivial, w_case⟩
end start1
theorem witness_1 : WitnessClaimed_1 := ⟨start1.p0, start1.e0, start1.about1, start1.theMethod, start1.args0, start1.below0, start1.atStart⟩
end Jvm.Pilot.@@N@@
