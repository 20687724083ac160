import JvmDerived
import JvmDerived.Pilot.@@N@@Statement
import JvmDerived.Pilot.@@N@@Code
set_option linter.unusedVariables false
set_option linter.unusedSimpArgs false
namespace Jvm.RoadKit
open Sem ClassFile Op Lib Jvm.Stand Jvm.Free Jvm.LawKit
section New
variable {p : Program} {l : Launch} {e : Env} {R : Room} {s : State} {m : MethodId} {args : Array Value} {below : List Frame} {meth : Method} {c : Code} {T : State} {locs : List Loc} {cells slots : Nat}
theorem retI (X : Stand p l e R s m args below meth c T locs cells slots) (hx : p.tables.exec = Jvm.exec) {pc : Nat} {Ls : Array Slot} {z : Int32} {rest : List Value} (hret : meth.sig.returnType = some .int) (hd : decode c.code pc = .ok (.ireturn, 1)) {fs : List Frame}
    (hl : ∀ (f : JFrame) (acts : List Action), f.method = m → f.locked = none → f.entered = [] → (doReturn e (T.setTop f) acts (some (.int z))).1 = T.setFrames fs) : Steps p.tables e below (T.setTop (mkF m pc Ls (.int z :: rest))) (T.setFrames fs) := by
  have hm' : T.vm.method? m = some meth := X.method'
  have hn : narrow .int (.int z) = .int z := rfl
  show Steps p.tables e below (T.setTop { method := m, pc := pc, locals := Ls, stack := _ :: rest, locked := none }) _
  jvm_step X.here [X.here.top, hx, hd, hm', hret, hn]
  first | (intro acts; rw [hl _ acts rfl rfl rfl]) | rw [hl _ _ rfl rfl rfl]
  exact Steps.refl _
end New
/-! the walk's own frame: a goal that is met by going on -/
section Own
variable {tb : Tables} {e : Env} {below : List Frame} {R : State → Outcome → Prop} {U U' T : State}
def own_G (tb : Tables) (e : Env) (below : List Frame) (R : State → Outcome → Prop) (U : State) : Prop := ∃ f o, Steps tb e below U f ∧ R f o
theorem own_pre {g g' : JFrame} (q : g = g') (h : own_G tb e below R (T.setTop g')) : ∃ f o, Steps tb e below (T.setTop g) f ∧ R f o := by rw [q]; exact h
theorem own_go (st : ∀ t, Steps tb e below U' t → Steps tb e below U t) (h : own_G tb e below R U') : own_G tb e below R U := by
  obtain ⟨f, o, h1, h2⟩ := h; exact ⟨f, o, st _ h1, h2⟩
theorem own_out (h : ∃ f o, Steps tb e below U f ∧ R f o) : own_G tb e below R U := h
end Own
section OwnFacts
variable {Z : State} {h h' : Heap} {a : Addr} {ws : List Addr} {C n d : String} {v : Value} {b : Bool}
def own_NS (h : Heap) (a : Addr) : Prop := ∃ c : Cell, h[a]? = some c ∧ c.vm.isStatics = false
theorem own_nsE (F : Exa Z h a C) : own_NS h a := by obtain ⟨c, k, h1, -, -, h4, -⟩ := F; exact ⟨c, h1, h4⟩
theorem own_nsF (F : Fld Z h a C n d v) : own_NS h a := by obtain ⟨c, _, _, _, _, h1, -, -, -, h5, -⟩ := F; exact ⟨c, h1, h5⟩
theorem own_nsV {k : ClassId} {ty : FieldType} {z : Int32} {vs : List Value} {dv : Value} (F : Arv Z h a k ty z vs dv) : own_NS h a := by obtain ⟨c, A, -⟩ := F; exact ⟨c, A.1, A.plain⟩
theorem own_staK (F : Sta Z h C n d v) (K : Keep h h' ws) (q : ∀ x ∈ ws, own_NS h x) : Sta Z h' C n d v := by
  obtain ⟨cf, i, k, f, st, cell, h1, h2, h3, h4, h5, h6, h7⟩ := F
  refine ⟨cf, i, k, f, st, cell, h1, h2, h3, h4, K.2.1 st cell h5 (fun hm => ?_), h6, h7⟩
  obtain ⟨c, e1, e2⟩ := q st hm
  cases h5.symm.trans e1
  rw [e2] at h6; cases h6
theorem own_insK (F : Ins Z h a C b) (K : Keep h h' ws) : Ins Z h' a C b := by
  obtain ⟨cell, cT, h1, h2, h3⟩ := F
  obtain ⟨c', e1, e2, e3, -⟩ := K.2.2 a cell h1
  exact ⟨c', cT, e1, h2, by rw [e2, e3]; exact h3⟩
theorem own_selP {s : State} {args : Array Value} {y : MethodName} {k : Nat} (wi : (Cond.instantiable y.cls k).before args s = true) (wp : (Cond.privateMethod y).before args s = true) (hi : (Cond.instanceMethod y).before args s = true) (hy : y.cls ≠ "java/lang/invoke/MethodHandle" ∧ y.cls ≠ "java/lang/invoke/VarHandle") : (Cond.selects y.cls y y).before args s = true := by
  obtain ⟨c, k, h1, h2, -, h4, -⟩ := Cond.instantiable_spec wi
  exact selects_self_of_private h1 h2 (by simp only [Bool.or_eq_false_iff] at h4; exact h4.1) (Cond.privateMethod_at wp) hi hy
theorem own_xnJ (x : Int64) : (x ^^^ (-1 : Int64)).toInt = -1 - x.toInt := by
  have h : x ^^^ (-1 : Int64) = ~~~ x := by
    rw [← Int64.toBitVec_inj]; simp
  rw [h]
  show (~~~ x.toBitVec).toInt = -1 - x.toBitVec.toInt
  rw [BitVec.toInt_not]
  have h1 := x.toBitVec.isLt
  rw [BitVec.toInt_eq_toNat_bmod]
  simp only [Int.bmod]
  split <;> split <;> omega
theorem own_insLt (F : Ins Z h a C b) : a < h.size := by obtain ⟨_, _, h1, -⟩ := F; exact (Array.getElem?_eq_some_iff.mp h1).1
variable {args : Array Value} {t u : Term} {x : Addr}
theorem own_fldI {k : Int32} (ev : t.eval args Z none [] Z = some (.ref x)) (hh : (Cond.eq (.field t C n d) (.int k)).value args Z none Z [] = some true) : Fld Z Z.heap x C n d (.int k) := by
  refine Fld.start ?_
  obtain ⟨y, w, e1, e2, k1, -⟩ := cmp_v (Or.inl hh)
  cases (Term.int_eval k).symm.trans e2
  rw [fld_at ev] at e1
  cases y <;> simp [Kin, Value.isRef] at k1
  rename_i q
  have e3 : (Term.field t C n d).eval args Z none [] Z = some (.int q) := by rw [fld_at ev]; exact e1
  simp [Cond.value, e3, Term.int_eval] at hh
  rw [e1, hh]
theorem own_fldJ {k : Int64} (ev : t.eval args Z none [] Z = some (.ref x)) (hh : (Cond.eq (.field t C n d) (.long k)).value args Z none Z [] = some true) : Fld Z Z.heap x C n d (.long k) := by
  refine Fld.start ?_
  obtain ⟨y, w, e1, e2, k1, -⟩ := cmp_v (Or.inl hh)
  cases (long_at k).symm.trans e2
  rw [fld_at ev] at e1
  cases y <;> simp [Kin, Value.isRef] at k1
  rename_i q
  have e3 : (Term.field t C n d).eval args Z none [] Z = some (.long q) := by rw [fld_at ev]; exact e1
  have e4 := gotT (eq_L e3 (long_at k)) hh
  rw [e1, e4]
theorem own_fldR {y : Addr} (ev : t.eval args Z none [] Z = some (.ref x)) (e2 : (Term.field t C n d).eval args Z none [] Z = some (.ref y)) : Fld Z Z.heap x C n d (.ref y) := Fld.start (by rw [← fld_at ev]; exact e2)
theorem own_len {cl : Cell} {ty : FieldType} {k : Int32} (ev : t.eval args Z none [] Z = some (.ref x)) (A : Arr Z Z.heap x cl ty) (hh : (Cond.eq (.length t) (.int k)).value args Z none Z [] = some true) : cl.slots.size < 2 ^ 31 ∧ cl.slots.size.toInt32 = k := by
  obtain ⟨y, w, e1, e2, k1, -⟩ := cmp_v (Or.inl hh)
  cases (Term.int_eval k).symm.trans e2
  have hA := A.fin (Vm.Alike.refl _)
  have hl : cl.slots.size < 2 ^ 31 := by
    rcases Nat.lt_or_ge cl.slots.size (2 ^ 31) with q | q
    · exact q
    · simp [Term.eval, ev, hA, Nat.not_lt.mpr q] at e1
  refine ⟨hl, ?_⟩
  have e3 := len_f ev hA hl
  simp [Cond.value, e3, Term.int_eval] at hh
  exact hh
theorem own_elI {cl : Cell} {ty : FieldType} {i k : Int32} (ev : t.eval args Z none [] Z = some (.ref x)) (A : Arr Z Z.heap x cl ty) (hh : (Cond.eq (.elem t (.int i)) (.int k)).value args Z none Z [] = some true) : cl.slots[i.toNatClampNeg]? = some (.int k) := by
  obtain ⟨y, w, e1, e2, k1, -⟩ := cmp_v (Or.inl hh)
  cases (Term.int_eval k).symm.trans e2
  cases y <;> simp [Kin, Value.isRef] at k1
  rename_i q
  simp [Cond.value, e1, Term.int_eval] at hh
  rw [← hh]; exact (elem_in e1 ev (Term.int_eval i) A.1).2
theorem own_elR {cl : Cell} {ty : FieldType} {i : Int32} {y : Addr} (ev : t.eval args Z none [] Z = some (.ref x)) (eu : u.eval args Z none [] Z = some (.ref y)) (A : Arr Z Z.heap x cl ty) (hh : (Cond.eq (.elem t (.int i)) u).value args Z none Z [] = some true) : cl.slots[i.toNatClampNeg]? = some (.ref y) := by
  obtain ⟨p, w, e1, e3, k1, k2⟩ := cmp_v (Or.inl hh)
  cases eu.symm.trans e3
  have k3 := gotT (eq_R e1 eu k2.2 rfl) hh
  rw [← k3]; exact (elem_in e1 ev (Term.int_eval i) A.1).2
theorem own_eqR {y : Addr} (e2 : u.eval args Z none [] Z = some (.ref y)) (hh : (Cond.eq t u).value args Z none Z [] = some true) : t.eval args Z none [] Z = some (.ref y) := by
  obtain ⟨p, w, e1, e3, k1, k2⟩ := cmp_v (Or.inl hh)
  cases e2.symm.trans e3
  have k3 := gotT (eq_R e1 e2 k2.2 rfl) hh
  rw [e1, k3]
end OwnFacts
/-- the cache of Longs: old objects, each with its number -/
def own_LC (Z : State) (h : Heap) (a : Addr) (n : Nat) : Prop := ∃ cl : Cell, Arr Z h a cl (.object "java/lang/Long") ∧ cl.slots.size = (256 : Int32).toNatClampNeg ∧ a < n ∧ ∀ j : Int32, ¬ j < 0 → j < 256 → ∃ b : Addr, cl.slots[j.toNatClampNeg]? = some (.ref b) ∧ b < n ∧ Exa Z h b "java/lang/Long" ∧ Fld Z h b "java/lang/Long" "value" "J" (.long (j - 128).toInt64)
theorem own_LC.keep {Z : State} {h h' : Heap} {a : Addr} {n : Nat} {ws : List Addr} (F : own_LC Z h a n) (K : Keep h h' ws) (q : ∀ x ∈ ws, n ≤ x) : own_LC Z h' a n := by
  obtain ⟨cl, A, S, ha, M⟩ := F
  refine ⟨cl, ⟨K.2.1 a cl A.1 (fun hm => absurd ha (Nat.not_lt.mpr (q a hm))), A.2⟩, S, ha, fun j h0 h1 => ?_⟩
  obtain ⟨b, h2, h3, E, F⟩ := M j h0 h1
  exact ⟨b, h2, h3, E.keep K, F.keep K (fun hm => absurd h3 (Nat.not_lt.mpr (q b hm)))⟩
theorem own_LC.ext {Z : State} {h h' : Heap} {a : Addr} {n : Nat} (F : own_LC Z h a n) (E : Ext h h') : own_LC Z h' a n := F.keep ((Keep.refl h []).ext E) all0
theorem own_lcq {q : Int64} (h1 : ¬ q < (-128 : Int64)) (h2 : ¬ (127 : Int64) < q) : (q.toInt32 + (128 : Int32) - 128).toInt64 = q := by
  have a1 : ¬ q.toInt < -128 := fun e => h1 (Int64.lt_iff_toInt_lt.mpr e)
  have a2 : ¬ 127 < q.toInt := fun e => h2 (Int64.lt_iff_toInt_lt.mpr e)
  refine Int64.toInt_inj.mp ?_
  rw [c_i2l]
  have b1 := c_isub (q.toInt32 + (128 : Int32)) 128; have b2 := c_iadd q.toInt32 128; have b3 := c_l2i q
  have e1 : (128 : Int32).toInt = 128 := by decide
  have r1 := rng32 q.toInt32; have r2 := rng32 (q.toInt32 + (128 : Int32)); have r3 := rng32 (q.toInt32 + (128 : Int32) - 128)
  omega
section OwnLong
open Jvm.Free.XT
variable {x y : Int64}
theorem own_ll_eq_t (h : x = y) : ifCond.holds .eq (lcmpW x y) = true := ll_eq_t h
theorem own_ll_eq_f (h : ¬ x = y) : ifCond.holds .eq (lcmpW x y) = false := ll_eq_f h
theorem own_ll_ne_t (h : ¬ x = y) : ifCond.holds .ne (lcmpW x y) = true := ll_ne_t h
theorem own_ll_ne_f (h : x = y) : ifCond.holds .ne (lcmpW x y) = false := ll_ne_f h
theorem own_ll_lt_t (h : x < y) : ifCond.holds .lt (lcmpW x y) = true := ll_lt_t h
theorem own_ll_lt_f (h : ¬ x < y) : ifCond.holds .lt (lcmpW x y) = false := ll_lt_f h
theorem own_ll_ge_t (h : ¬ x < y) : ifCond.holds .ge (lcmpW x y) = true := ll_ge_t h
theorem own_ll_ge_f (h : x < y) : ifCond.holds .ge (lcmpW x y) = false := ll_ge_f h
theorem own_ll_gt_t (h : y < x) : ifCond.holds .gt (lcmpW x y) = true := ll_gt_t h
theorem own_ll_gt_f (h : ¬ y < x) : ifCond.holds .gt (lcmpW x y) = false := ll_gt_f h
theorem own_ll_le_t (h : ¬ y < x) : ifCond.holds .le (lcmpW x y) = true := ll_le_t h
theorem own_ll_le_f (h : y < x) : ifCond.holds .le (lcmpW x y) = false := ll_le_f h
end OwnLong
section OwnSteps
variable {p : Program} {l : Launch} {e : Env} {R : Room} {s : State} {m : MethodId} {args : Array Value} {below : List Frame} {meth : Method} {c : Code} {T : State} {locs : List Loc} {cells slots : Nat} {bytes : ByteArray} {pc : Nat} {L : Array Slot} {S : List Value} {t : State}

theorem oiload (X : Stand p l e R s m args below meth c T locs cells slots) (hx : p.tables.exec = Jvm.exec) (hby : c.code = bytes) {k : Nat} {v : Int32} (hd : decode bytes pc = .ok (.iload k, 2)) (hl : L[k]? = some (.val (.int v))) (hr : Steps p.tables e below (T.setTop (mkF m (pc + 2) L (.int v :: S))) t) : Steps p.tables e below (T.setTop (mkF m pc L S)) t := XS.iload X.here hx rfl (hb hby hd) hl hr
theorem oiloadN (X : Stand p l e R s m args below meth c T locs cells slots) (hx : p.tables.exec = Jvm.exec) (hby : c.code = bytes) {k : Fin 4} {v : Int32} (hd : decode bytes pc = .ok (.iload_n k, 1)) (hl : L[k.val]? = some (.val (.int v))) (hr : Steps p.tables e below (T.setTop (mkF m (pc + 1) L (.int v :: S))) t) : Steps p.tables e below (T.setTop (mkF m pc L S)) t := XS.iloadN X.here hx rfl (hb hby hd) hl hr
theorem olload (X : Stand p l e R s m args below meth c T locs cells slots) (hx : p.tables.exec = Jvm.exec) (hby : c.code = bytes) {k : Nat} {v : Int64} (hd : decode bytes pc = .ok (.lload k, 2)) (hl : L[k]? = some (.val (.long v))) (hr : Steps p.tables e below (T.setTop (mkF m (pc + 2) L (.long v :: S))) t) : Steps p.tables e below (T.setTop (mkF m pc L S)) t := XS.lload X.here hx rfl (hb hby hd) hl hr
theorem olloadN (X : Stand p l e R s m args below meth c T locs cells slots) (hx : p.tables.exec = Jvm.exec) (hby : c.code = bytes) {k : Fin 4} {v : Int64} (hd : decode bytes pc = .ok (.lload_n k, 1)) (hl : L[k.val]? = some (.val (.long v))) (hr : Steps p.tables e below (T.setTop (mkF m (pc + 1) L (.long v :: S))) t) : Steps p.tables e below (T.setTop (mkF m pc L S)) t := XS.lloadN X.here hx rfl (hb hby hd) hl hr
theorem oaload (X : Stand p l e R s m args below meth c T locs cells slots) (hx : p.tables.exec = Jvm.exec) (hby : c.code = bytes) {k : Nat} {v : Value} (hd : decode bytes pc = .ok (.aload k, 2)) (hl : L[k]? = some (.val v)) (hv : v.isRef = true) (hr : Steps p.tables e below (T.setTop (mkF m (pc + 2) L (v :: S))) t) : Steps p.tables e below (T.setTop (mkF m pc L S)) t := XS.aload X.here hx rfl (hb hby hd) hl hv hr
theorem oaloadN (X : Stand p l e R s m args below meth c T locs cells slots) (hx : p.tables.exec = Jvm.exec) (hby : c.code = bytes) {k : Fin 4} {v : Value} (hd : decode bytes pc = .ok (.aload_n k, 1)) (hl : L[k.val]? = some (.val v)) (hv : v.isRef = true) (hr : Steps p.tables e below (T.setTop (mkF m (pc + 1) L (v :: S))) t) : Steps p.tables e below (T.setTop (mkF m pc L S)) t := XS.aloadN X.here hx rfl (hb hby hd) hl hv hr
theorem oistore (X : Stand p l e R s m args below meth c T locs cells slots) (hx : p.tables.exec = Jvm.exec) (hby : c.code = bytes) {k : Nat} {x : Int32} (hd : decode bytes pc = .ok (.istore k, 2)) (l' : Array Slot) (hl : storeLocals L k (.int x) = some l') (hr : Steps p.tables e below (T.setTop (mkF m (pc + 2) l' S)) t) : Steps p.tables e below (T.setTop (mkF m pc L (.int x :: S))) t := XS.istore X.here hx rfl (hb hby hd) rfl hl hr
theorem oistoreN (X : Stand p l e R s m args below meth c T locs cells slots) (hx : p.tables.exec = Jvm.exec) (hby : c.code = bytes) {k : Fin 4} {x : Int32} (hd : decode bytes pc = .ok (.istore_n k, 1)) (l' : Array Slot) (hl : storeLocals L k.val (.int x) = some l') (hr : Steps p.tables e below (T.setTop (mkF m (pc + 1) l' S)) t) : Steps p.tables e below (T.setTop (mkF m pc L (.int x :: S))) t := XS.istoreN X.here hx rfl (hb hby hd) rfl hl hr
theorem olstore (X : Stand p l e R s m args below meth c T locs cells slots) (hx : p.tables.exec = Jvm.exec) (hby : c.code = bytes) {k : Nat} {x : Int64} (hd : decode bytes pc = .ok (.lstore k, 2)) (l' : Array Slot) (hl : storeLocals L k (.long x) = some l') (hr : Steps p.tables e below (T.setTop (mkF m (pc + 2) l' S)) t) : Steps p.tables e below (T.setTop (mkF m pc L (.long x :: S))) t := XS.lstore X.here hx rfl (hb hby hd) rfl hl hr
theorem olstoreN (X : Stand p l e R s m args below meth c T locs cells slots) (hx : p.tables.exec = Jvm.exec) (hby : c.code = bytes) {k : Fin 4} {x : Int64} (hd : decode bytes pc = .ok (.lstore_n k, 1)) (l' : Array Slot) (hl : storeLocals L k.val (.long x) = some l') (hr : Steps p.tables e below (T.setTop (mkF m (pc + 1) l' S)) t) : Steps p.tables e below (T.setTop (mkF m pc L (.long x :: S))) t := XS.lstoreN X.here hx rfl (hb hby hd) rfl hl hr
theorem oastore (X : Stand p l e R s m args below meth c T locs cells slots) (hx : p.tables.exec = Jvm.exec) (hby : c.code = bytes) {k : Nat} {x : Value} (hd : decode bytes pc = .ok (.astore k, 2)) (l' : Array Slot) (hv : x.isRef = true) (hl : storeLocals L k x = some l') (hr : Steps p.tables e below (T.setTop (mkF m (pc + 2) l' S)) t) : Steps p.tables e below (T.setTop (mkF m pc L (x :: S))) t := XS.astore X.here hx rfl (hb hby hd) rfl hv hl hr
theorem oastoreN (X : Stand p l e R s m args below meth c T locs cells slots) (hx : p.tables.exec = Jvm.exec) (hby : c.code = bytes) {k : Fin 4} {x : Value} (hd : decode bytes pc = .ok (.astore_n k, 1)) (l' : Array Slot) (hv : x.isRef = true) (hl : storeLocals L k.val x = some l') (hr : Steps p.tables e below (T.setTop (mkF m (pc + 1) l' S)) t) : Steps p.tables e below (T.setTop (mkF m pc L (x :: S))) t := XS.astoreN X.here hx rfl (hb hby hd) rfl hv hl hr
theorem oiconst (X : Stand p l e R s m args below meth c T locs cells slots) (hx : p.tables.exec = Jvm.exec) (hby : c.code = bytes) {i : Int} (hd : decode bytes pc = .ok (.iconst i, 1)) (hr : Steps p.tables e below (T.setTop (mkF m (pc + 1) L (.int (Int32.ofInt i) :: S))) t) : Steps p.tables e below (T.setTop (mkF m pc L S)) t := XS.iconst X.here hx rfl (hb hby hd) hr
theorem obipush (X : Stand p l e R s m args below meth c T locs cells slots) (hx : p.tables.exec = Jvm.exec) (hby : c.code = bytes) {i : Int} (hd : decode bytes pc = .ok (.bipush i, 2)) (hr : Steps p.tables e below (T.setTop (mkF m (pc + 2) L (.int (Int8.ofInt i).toInt32 :: S))) t) : Steps p.tables e below (T.setTop (mkF m pc L S)) t := XS.bipush X.here hx rfl (hb hby hd) hr
theorem osipush (X : Stand p l e R s m args below meth c T locs cells slots) (hx : p.tables.exec = Jvm.exec) (hby : c.code = bytes) {i : Int} (hd : decode bytes pc = .ok (.sipush i, 3)) (hr : Steps p.tables e below (T.setTop (mkF m (pc + 3) L (.int (Int16.ofInt i).toInt32 :: S))) t) : Steps p.tables e below (T.setTop (mkF m pc L S)) t := XS.sipush X.here hx rfl (hb hby hd) hr
theorem olconst (X : Stand p l e R s m args below meth c T locs cells slots) (hx : p.tables.exec = Jvm.exec) (hby : c.code = bytes) {k : Fin 2} (hd : decode bytes pc = .ok (.lconst k, 1)) (hr : Steps p.tables e below (T.setTop (mkF m (pc + 1) L (.long (Int64.ofNat k) :: S))) t) : Steps p.tables e below (T.setTop (mkF m pc L S)) t := XS.lconst X.here hx rfl (hb hby hd) hr
theorem onull (X : Stand p l e R s m args below meth c T locs cells slots) (hx : p.tables.exec = Jvm.exec) (hby : c.code = bytes) (hd : decode bytes pc = .ok (.aconst_null, 1)) (hr : Steps p.tables e below (T.setTop (mkF m (pc + 1) L (.null :: S))) t) : Steps p.tables e below (T.setTop (mkF m pc L S)) t := XS.aconstNull X.here hx rfl (hb hby hd) hr
theorem oiadd (X : Stand p l e R s m args below meth c T locs cells slots) (hx : p.tables.exec = Jvm.exec) (hby : c.code = bytes) {x y : Int32} (hd : decode bytes pc = .ok (.iadd, 1)) (hr : Steps p.tables e below (T.setTop (mkF m (pc + 1) L (.int (x + y) :: S))) t) : Steps p.tables e below (T.setTop (mkF m pc L (.int y :: .int x :: S))) t := XS.iadd X.here hx rfl (hb hby hd) rfl hr
theorem oladd (X : Stand p l e R s m args below meth c T locs cells slots) (hx : p.tables.exec = Jvm.exec) (hby : c.code = bytes) {x y : Int64} (hd : decode bytes pc = .ok (.ladd, 1)) (hr : Steps p.tables e below (T.setTop (mkF m (pc + 1) L (.long (x + y) :: S))) t) : Steps p.tables e below (T.setTop (mkF m pc L (.long y :: .long x :: S))) t := XS.ladd X.here hx rfl (hb hby hd) rfl hr
theorem oisub (X : Stand p l e R s m args below meth c T locs cells slots) (hx : p.tables.exec = Jvm.exec) (hby : c.code = bytes) {x y : Int32} (hd : decode bytes pc = .ok (.isub, 1)) (hr : Steps p.tables e below (T.setTop (mkF m (pc + 1) L (.int (x - y) :: S))) t) : Steps p.tables e below (T.setTop (mkF m pc L (.int y :: .int x :: S))) t := XS.isub X.here hx rfl (hb hby hd) rfl hr
theorem olsub (X : Stand p l e R s m args below meth c T locs cells slots) (hx : p.tables.exec = Jvm.exec) (hby : c.code = bytes) {x y : Int64} (hd : decode bytes pc = .ok (.lsub, 1)) (hr : Steps p.tables e below (T.setTop (mkF m (pc + 1) L (.long (x - y) :: S))) t) : Steps p.tables e below (T.setTop (mkF m pc L (.long y :: .long x :: S))) t := XS.lsub X.here hx rfl (hb hby hd) rfl hr
theorem oimul (X : Stand p l e R s m args below meth c T locs cells slots) (hx : p.tables.exec = Jvm.exec) (hby : c.code = bytes) {x y : Int32} (hd : decode bytes pc = .ok (.imul, 1)) (hr : Steps p.tables e below (T.setTop (mkF m (pc + 1) L (.int (x * y) :: S))) t) : Steps p.tables e below (T.setTop (mkF m pc L (.int y :: .int x :: S))) t := XS.imul X.here hx rfl (hb hby hd) rfl hr
theorem olmul (X : Stand p l e R s m args below meth c T locs cells slots) (hx : p.tables.exec = Jvm.exec) (hby : c.code = bytes) {x y : Int64} (hd : decode bytes pc = .ok (.lmul, 1)) (hr : Steps p.tables e below (T.setTop (mkF m (pc + 1) L (.long (x * y) :: S))) t) : Steps p.tables e below (T.setTop (mkF m pc L (.long y :: .long x :: S))) t := XS.lmul X.here hx rfl (hb hby hd) rfl hr
theorem oiand (X : Stand p l e R s m args below meth c T locs cells slots) (hx : p.tables.exec = Jvm.exec) (hby : c.code = bytes) {x y : Int32} (hd : decode bytes pc = .ok (.iand, 1)) (hr : Steps p.tables e below (T.setTop (mkF m (pc + 1) L (.int (x &&& y) :: S))) t) : Steps p.tables e below (T.setTop (mkF m pc L (.int y :: .int x :: S))) t := XS.iand X.here hx rfl (hb hby hd) rfl hr
theorem oland (X : Stand p l e R s m args below meth c T locs cells slots) (hx : p.tables.exec = Jvm.exec) (hby : c.code = bytes) {x y : Int64} (hd : decode bytes pc = .ok (.land, 1)) (hr : Steps p.tables e below (T.setTop (mkF m (pc + 1) L (.long (x &&& y) :: S))) t) : Steps p.tables e below (T.setTop (mkF m pc L (.long y :: .long x :: S))) t := XS.land X.here hx rfl (hb hby hd) rfl hr
theorem oior (X : Stand p l e R s m args below meth c T locs cells slots) (hx : p.tables.exec = Jvm.exec) (hby : c.code = bytes) {x y : Int32} (hd : decode bytes pc = .ok (.ior, 1)) (hr : Steps p.tables e below (T.setTop (mkF m (pc + 1) L (.int (x ||| y) :: S))) t) : Steps p.tables e below (T.setTop (mkF m pc L (.int y :: .int x :: S))) t := XS.ior X.here hx rfl (hb hby hd) rfl hr
theorem olor (X : Stand p l e R s m args below meth c T locs cells slots) (hx : p.tables.exec = Jvm.exec) (hby : c.code = bytes) {x y : Int64} (hd : decode bytes pc = .ok (.lor, 1)) (hr : Steps p.tables e below (T.setTop (mkF m (pc + 1) L (.long (x ||| y) :: S))) t) : Steps p.tables e below (T.setTop (mkF m pc L (.long y :: .long x :: S))) t := XS.lor X.here hx rfl (hb hby hd) rfl hr
theorem oixor (X : Stand p l e R s m args below meth c T locs cells slots) (hx : p.tables.exec = Jvm.exec) (hby : c.code = bytes) {x y : Int32} (hd : decode bytes pc = .ok (.ixor, 1)) (hr : Steps p.tables e below (T.setTop (mkF m (pc + 1) L (.int (x ^^^ y) :: S))) t) : Steps p.tables e below (T.setTop (mkF m pc L (.int y :: .int x :: S))) t := XS.ixor X.here hx rfl (hb hby hd) rfl hr
theorem olxor (X : Stand p l e R s m args below meth c T locs cells slots) (hx : p.tables.exec = Jvm.exec) (hby : c.code = bytes) {x y : Int64} (hd : decode bytes pc = .ok (.lxor, 1)) (hr : Steps p.tables e below (T.setTop (mkF m (pc + 1) L (.long (x ^^^ y) :: S))) t) : Steps p.tables e below (T.setTop (mkF m pc L (.long y :: .long x :: S))) t := XS.lxor X.here hx rfl (hb hby hd) rfl hr
theorem oishl (X : Stand p l e R s m args below meth c T locs cells slots) (hx : p.tables.exec = Jvm.exec) (hby : c.code = bytes) {x y : Int32} (hd : decode bytes pc = .ok (.ishl, 1)) (hr : Steps p.tables e below (T.setTop (mkF m (pc + 1) L (.int (x <<< (y &&& 31)) :: S))) t) : Steps p.tables e below (T.setTop (mkF m pc L (.int y :: .int x :: S))) t := XS.ishl X.here hx rfl (hb hby hd) rfl hr
theorem oishr (X : Stand p l e R s m args below meth c T locs cells slots) (hx : p.tables.exec = Jvm.exec) (hby : c.code = bytes) {x y : Int32} (hd : decode bytes pc = .ok (.ishr, 1)) (hr : Steps p.tables e below (T.setTop (mkF m (pc + 1) L (.int (x >>> (y &&& 31)) :: S))) t) : Steps p.tables e below (T.setTop (mkF m pc L (.int y :: .int x :: S))) t := XS.ishr X.here hx rfl (hb hby hd) rfl hr
theorem oiushr (X : Stand p l e R s m args below meth c T locs cells slots) (hx : p.tables.exec = Jvm.exec) (hby : c.code = bytes) {x y : Int32} (hd : decode bytes pc = .ok (.iushr, 1)) (hr : Steps p.tables e below (T.setTop (mkF m (pc + 1) L (.int ((x.toUInt32 >>> (y &&& 31).toUInt32).toInt32) :: S))) t) : Steps p.tables e below (T.setTop (mkF m pc L (.int y :: .int x :: S))) t := XS.iushr X.here hx rfl (hb hby hd) rfl hr
theorem olshl (X : Stand p l e R s m args below meth c T locs cells slots) (hx : p.tables.exec = Jvm.exec) (hby : c.code = bytes) {x : Int64} {y : Int32} (hd : decode bytes pc = .ok (.lshl, 1)) (hr : Steps p.tables e below (T.setTop (mkF m (pc + 1) L (.long (x <<< (y &&& 0x3f).toInt64) :: S))) t) : Steps p.tables e below (T.setTop (mkF m pc L (.int y :: .long x :: S))) t := XS.lshl X.here hx rfl (hb hby hd) rfl hr
theorem olshr (X : Stand p l e R s m args below meth c T locs cells slots) (hx : p.tables.exec = Jvm.exec) (hby : c.code = bytes) {x : Int64} {y : Int32} (hd : decode bytes pc = .ok (.lshr, 1)) (hr : Steps p.tables e below (T.setTop (mkF m (pc + 1) L (.long (x >>> (y &&& 0x3f).toInt64) :: S))) t) : Steps p.tables e below (T.setTop (mkF m pc L (.int y :: .long x :: S))) t := XS.lshr X.here hx rfl (hb hby hd) rfl hr
theorem olushr (X : Stand p l e R s m args below meth c T locs cells slots) (hx : p.tables.exec = Jvm.exec) (hby : c.code = bytes) {x : Int64} {y : Int32} (hd : decode bytes pc = .ok (.lushr, 1)) (hr : Steps p.tables e below (T.setTop (mkF m (pc + 1) L (.long ((x.toUInt64 >>> (y &&& 0x3f).toInt64.toUInt64).toInt64) :: S))) t) : Steps p.tables e below (T.setTop (mkF m pc L (.int y :: .long x :: S))) t := XS.lushr X.here hx rfl (hb hby hd) rfl hr
theorem oineg (X : Stand p l e R s m args below meth c T locs cells slots) (hx : p.tables.exec = Jvm.exec) (hby : c.code = bytes) {x : Int32} (hd : decode bytes pc = .ok (.ineg, 1)) (hr : Steps p.tables e below (T.setTop (mkF m (pc + 1) L ((.int (-x)) :: S))) t) : Steps p.tables e below (T.setTop (mkF m pc L (.int x :: S))) t := XS.ineg X.here hx rfl (hb hby hd) rfl hr
theorem olneg (X : Stand p l e R s m args below meth c T locs cells slots) (hx : p.tables.exec = Jvm.exec) (hby : c.code = bytes) {x : Int64} (hd : decode bytes pc = .ok (.lneg, 1)) (hr : Steps p.tables e below (T.setTop (mkF m (pc + 1) L ((.long (-x)) :: S))) t) : Steps p.tables e below (T.setTop (mkF m pc L (.long x :: S))) t := XS.lneg X.here hx rfl (hb hby hd) rfl hr
theorem oi2l (X : Stand p l e R s m args below meth c T locs cells slots) (hx : p.tables.exec = Jvm.exec) (hby : c.code = bytes) {x : Int32} (hd : decode bytes pc = .ok (.i2l, 1)) (hr : Steps p.tables e below (T.setTop (mkF m (pc + 1) L ((.long (x.toInt64)) :: S))) t) : Steps p.tables e below (T.setTop (mkF m pc L (.int x :: S))) t := XS.i2l X.here hx rfl (hb hby hd) rfl hr
theorem ol2i (X : Stand p l e R s m args below meth c T locs cells slots) (hx : p.tables.exec = Jvm.exec) (hby : c.code = bytes) {x : Int64} (hd : decode bytes pc = .ok (.l2i, 1)) (hr : Steps p.tables e below (T.setTop (mkF m (pc + 1) L ((.int (x.toInt32)) :: S))) t) : Steps p.tables e below (T.setTop (mkF m pc L (.long x :: S))) t := XS.l2i X.here hx rfl (hb hby hd) rfl hr
theorem oi2b (X : Stand p l e R s m args below meth c T locs cells slots) (hx : p.tables.exec = Jvm.exec) (hby : c.code = bytes) {x : Int32} (hd : decode bytes pc = .ok (.i2b, 1)) (hr : Steps p.tables e below (T.setTop (mkF m (pc + 1) L ((.int (x.toInt8.toInt32)) :: S))) t) : Steps p.tables e below (T.setTop (mkF m pc L (.int x :: S))) t := XS.i2b X.here hx rfl (hb hby hd) rfl hr
theorem oi2s (X : Stand p l e R s m args below meth c T locs cells slots) (hx : p.tables.exec = Jvm.exec) (hby : c.code = bytes) {x : Int32} (hd : decode bytes pc = .ok (.i2s, 1)) (hr : Steps p.tables e below (T.setTop (mkF m (pc + 1) L ((.int (x.toInt16.toInt32)) :: S))) t) : Steps p.tables e below (T.setTop (mkF m pc L (.int x :: S))) t := XS.i2s X.here hx rfl (hb hby hd) rfl hr
theorem oi2c (X : Stand p l e R s m args below meth c T locs cells slots) (hx : p.tables.exec = Jvm.exec) (hby : c.code = bytes) {x : Int32} (hd : decode bytes pc = .ok (.i2c, 1)) (hr : Steps p.tables e below (T.setTop (mkF m (pc + 1) L ((.int (x.toUInt32.toUInt16.toUInt32.toInt32)) :: S))) t) : Steps p.tables e below (T.setTop (mkF m pc L (.int x :: S))) t := XS.i2c X.here hx rfl (hb hby hd) rfl hr
theorem oirem (X : Stand p l e R s m args below meth c T locs cells slots) (hx : p.tables.exec = Jvm.exec) (hby : c.code = bytes) {x y : Int32} (hd : decode bytes pc = .ok (.irem, 1)) (hy : y ≠ 0) (hr : Steps p.tables e below (T.setTop (mkF m (pc + 1) L (.int (x % y) :: S))) t) : Steps p.tables e below (T.setTop (mkF m pc L (.int y :: .int x :: S))) t := iremM X hx rfl (hb hby hd) rfl hy hr
theorem oidiv (X : Stand p l e R s m args below meth c T locs cells slots) (hx : p.tables.exec = Jvm.exec) (hby : c.code = bytes) {x y : Int32} (hd : decode bytes pc = .ok (.idiv, 1)) (hy : y ≠ 0) (hr : Steps p.tables e below (T.setTop (mkF m (pc + 1) L (.int (x / y) :: S))) t) : Steps p.tables e below (T.setTop (mkF m pc L (.int y :: .int x :: S))) t := XS.idiv X.here hx rfl (hb hby hd) rfl hy hr
theorem oldiv (X : Stand p l e R s m args below meth c T locs cells slots) (hx : p.tables.exec = Jvm.exec) (hby : c.code = bytes) {x y : Int64} (hd : decode bytes pc = .ok (.ldiv, 1)) (hy : y ≠ 0) (hr : Steps p.tables e below (T.setTop (mkF m (pc + 1) L (.long (x / y) :: S))) t) : Steps p.tables e below (T.setTop (mkF m pc L (.long y :: .long x :: S))) t := XS.ldiv X.here hx rfl (hb hby hd) rfl hy hr
theorem olrem (X : Stand p l e R s m args below meth c T locs cells slots) (hx : p.tables.exec = Jvm.exec) (hby : c.code = bytes) {x y : Int64} (hd : decode bytes pc = .ok (.lrem, 1)) (hy : y ≠ 0) (hr : Steps p.tables e below (T.setTop (mkF m (pc + 1) L (.long (x - (x / y) * y) :: S))) t) : Steps p.tables e below (T.setTop (mkF m pc L (.long y :: .long x :: S))) t := XS.lrem X.here hx rfl (hb hby hd) rfl hy hr
theorem olcmp (X : Stand p l e R s m args below meth c T locs cells slots) (hx : p.tables.exec = Jvm.exec) (hby : c.code = bytes) {x y : Int64} (hd : decode bytes pc = .ok (.lcmp, 1)) (hr : Steps p.tables e below (T.setTop (mkF m (pc + 1) L (.int (lcmpW x y) :: S))) t) : Steps p.tables e below (T.setTop (mkF m pc L (.long y :: .long x :: S))) t := XS.lcmp X.here hx rfl (hb hby hd) rfl hr
theorem oiinc (X : Stand p l e R s m args below meth c T locs cells slots) (hx : p.tables.exec = Jvm.exec) (hby : c.code = bytes) {k : Nat} {z : Int} {x : Int32} (hd : decode bytes pc = .ok (.iinc k z, 3)) (l' : Array Slot) (hl : L[k]? = some (.val (.int x))) (hl' : storeLocals L k (.int (x + Int32.ofInt z)) = some l') (hr : Steps p.tables e below (T.setTop (mkF m (pc + 3) l' S)) t) : Steps p.tables e below (T.setTop (mkF m pc L S)) t := XS.iinc X.here hx rfl (hb hby hd) hl hl' hr
theorem odup (X : Stand p l e R s m args below meth c T locs cells slots) (hx : p.tables.exec = Jvm.exec) (hby : c.code = bytes) {x : Value} (hd : decode bytes pc = .ok (.dup, 1)) (hc : x.category = 1) (hr : Steps p.tables e below (T.setTop (mkF m (pc + 1) L (x :: x :: S))) t) : Steps p.tables e below (T.setTop (mkF m pc L (x :: S))) t := XS.dup X.here hx rfl (hb hby hd) rfl hc hr
theorem opop (X : Stand p l e R s m args below meth c T locs cells slots) (hx : p.tables.exec = Jvm.exec) (hby : c.code = bytes) {x : Value} (hd : decode bytes pc = .ok (.pop, 1)) (hc : x.category = 1) (hr : Steps p.tables e below (T.setTop (mkF m (pc + 1) L S)) t) : Steps p.tables e below (T.setTop (mkF m pc L (x :: S))) t := XS.pop X.here hx rfl (hb hby hd) rfl hc hr
theorem odupx1 (X : Stand p l e R s m args below meth c T locs cells slots) (hx : p.tables.exec = Jvm.exec) (hby : c.code = bytes) {x y : Value} (hd : decode bytes pc = .ok (.dup_x1, 1)) (hc : x.category = 1) (hc' : y.category = 1) (hr : Steps p.tables e below (T.setTop (mkF m (pc + 1) L (x :: y :: x :: S))) t) : Steps p.tables e below (T.setTop (mkF m pc L (x :: y :: S))) t := XS.dupX1 X.here hx rfl (hb hby hd) rfl hc hc' hr
theorem odup2 (X : Stand p l e R s m args below meth c T locs cells slots) (hx : p.tables.exec = Jvm.exec) (hby : c.code = bytes) {x y : Value} (hd : decode bytes pc = .ok (.dup2, 1)) (hc : x.category = 1) (hc' : y.category = 1) (hr : Steps p.tables e below (T.setTop (mkF m (pc + 1) L (x :: y :: x :: y :: S))) t) : Steps p.tables e below (T.setTop (mkF m pc L (x :: y :: S))) t := Jvm.Free.XT.dup2 X.here hx rfl (hb hby hd) rfl hc hc' hr
theorem ogoto (X : Stand p l e R s m args below meth c T locs cells slots) (hx : p.tables.exec = Jvm.exec) (hby : c.code = bytes) {o : Int} (hd : decode bytes pc = .ok (.goto o, 3)) (pc' : Nat) (hp : 0 ≤ (pc : Int) + o ∧ ((pc : Int) + o).toNat = pc') (hr : Steps p.tables e below (T.setTop (mkF m pc' L S)) t) : Steps p.tables e below (T.setTop (mkF m pc L S)) t := XS.goto X.here hx rfl rfl (hb hby hd) hp.1 hp.2 hr
theorem oifY (X : Stand p l e R s m args below meth c T locs cells slots) (hx : p.tables.exec = Jvm.exec) (hby : c.code = bytes) {cd : ClassFile.Cond} {x : Int32} {o : Int} (hd : decode bytes pc = .ok (.ifCond cd o, 3)) (pc' : Nat) (hc : ifCond.holds cd x = true) (hp : 0 ≤ (pc : Int) + o ∧ ((pc : Int) + o).toNat = pc') (hr : Steps p.tables e below (T.setTop (mkF m pc' L S)) t) : Steps p.tables e below (T.setTop (mkF m pc L (.int x :: S))) t := XS.ifYes X.here hx rfl rfl (hb hby hd) rfl hc hp.1 hp.2 hr
theorem oifN (X : Stand p l e R s m args below meth c T locs cells slots) (hx : p.tables.exec = Jvm.exec) (hby : c.code = bytes) {cd : ClassFile.Cond} {x : Int32} {o : Int} (hd : decode bytes pc = .ok (.ifCond cd o, 3)) (hc : ifCond.holds cd x = false) (hr : Steps p.tables e below (T.setTop (mkF m (pc + 3) L S)) t) : Steps p.tables e below (T.setTop (mkF m pc L (.int x :: S))) t := XS.ifNo X.here hx rfl (hb hby hd) rfl hc hr
theorem oicY (X : Stand p l e R s m args below meth c T locs cells slots) (hx : p.tables.exec = Jvm.exec) (hby : c.code = bytes) {cd : ClassFile.Cond} {x y : Int32} {o : Int} (hd : decode bytes pc = .ok (.if_icmp cd o, 3)) (pc' : Nat) (hc : if_icmp.holds cd x y = true) (hp : 0 ≤ (pc : Int) + o ∧ ((pc : Int) + o).toNat = pc') (hr : Steps p.tables e below (T.setTop (mkF m pc' L S)) t) : Steps p.tables e below (T.setTop (mkF m pc L (.int y :: .int x :: S))) t := XS.icmpYes X.here hx rfl rfl (hb hby hd) rfl hc hp.1 hp.2 hr
theorem oicN (X : Stand p l e R s m args below meth c T locs cells slots) (hx : p.tables.exec = Jvm.exec) (hby : c.code = bytes) {cd : ClassFile.Cond} {x y : Int32} {o : Int} (hd : decode bytes pc = .ok (.if_icmp cd o, 3)) (hc : if_icmp.holds cd x y = false) (hr : Steps p.tables e below (T.setTop (mkF m (pc + 3) L S)) t) : Steps p.tables e below (T.setTop (mkF m pc L (.int y :: .int x :: S))) t := XS.icmpNo X.here hx rfl (hb hby hd) rfl hc hr
theorem oacmp (X : Stand p l e R s m args below meth c T locs cells slots) (hx : p.tables.exec = Jvm.exec) (hby : c.code = bytes) {cd : ACond} {x y : Value} {o : Int} (hd : decode bytes pc = .ok (.if_acmp cd o, 3)) (pc' : Nat) {same : Bool} (h1 : x.isRef = true) (h2 : y.isRef = true) (hq : decide (x = y) = same) (hp : 0 ≤ (pc : Int) + o ∧ pc' = if acV cd same = true then ((pc : Int) + o).toNat else pc + 3) (hr : Steps p.tables e below (T.setTop (mkF m pc' L S)) t) : Steps p.tables e below (T.setTop (mkF m pc L (y :: x :: S))) t := Jvm.RoadKit.acmp X hx rfl h1 h2 rfl (hb hby hd) rfl hq hp.1 hp.2 hr
theorem onlY (X : Stand p l e R s m args below meth c T locs cells slots) (hx : p.tables.exec = Jvm.exec) (hby : c.code = bytes) {o : Int} (hd : decode bytes pc = .ok (.ifnull o, 3)) (pc' : Nat) (hp : 0 ≤ (pc : Int) + o ∧ ((pc : Int) + o).toNat = pc') (hr : Steps p.tables e below (T.setTop (mkF m pc' L S)) t) : Steps p.tables e below (T.setTop (mkF m pc L (.null :: S))) t := XS.ifnullYes X.here hx rfl rfl (hb hby hd) rfl hp.1 hp.2 hr
theorem onlN (X : Stand p l e R s m args below meth c T locs cells slots) (hx : p.tables.exec = Jvm.exec) (hby : c.code = bytes) {o : Int} {a : Addr} (hd : decode bytes pc = .ok (.ifnull o, 3)) (hr : Steps p.tables e below (T.setTop (mkF m (pc + 3) L S)) t) : Steps p.tables e below (T.setTop (mkF m pc L (.ref a :: S))) t := XS.ifnullNo X.here hx rfl (hb hby hd) rfl hr
theorem onnY (X : Stand p l e R s m args below meth c T locs cells slots) (hx : p.tables.exec = Jvm.exec) (hby : c.code = bytes) {o : Int} {a : Addr} (hd : decode bytes pc = .ok (.ifnonnull o, 3)) (pc' : Nat) (hp : 0 ≤ (pc : Int) + o ∧ ((pc : Int) + o).toNat = pc') (hr : Steps p.tables e below (T.setTop (mkF m pc' L S)) t) : Steps p.tables e below (T.setTop (mkF m pc L (.ref a :: S))) t := XS.ifnonnullYes X.here hx rfl rfl (hb hby hd) rfl hp.1 hp.2 hr
theorem onnN (X : Stand p l e R s m args below meth c T locs cells slots) (hx : p.tables.exec = Jvm.exec) (hby : c.code = bytes) {o : Int} (hd : decode bytes pc = .ok (.ifnonnull o, 3)) (hr : Steps p.tables e below (T.setTop (mkF m (pc + 3) L S)) t) : Steps p.tables e below (T.setTop (mkF m pc L (.null :: S))) t := XS.ifnonnullNo X.here hx rfl (hb hby hd) rfl hr
end OwnSteps
section OwnCalls
variable {p : Program} {l : Launch} {e : Env} {R : Room} {s : State} {m : MethodId} {args : Array Value} {below : List Frame} {meth : Method} {c : Code} {T : State} {locs : List Loc} {cells slots : Nat} {Z : State} {a0 : Array Value} {h : Heap} {bytes : ByteArray}
theorem ocallS (X : Stand p l e R s m args below meth c T locs cells slots) (hx : p.tables.exec = Jvm.exec) (hZ : Z.Warmed39 s.vm) {cb : ByteArray} {maxL : Nat} {ret : Option FieldType} {rm : Room} {Q : Option Value → Heap → List Loc → Prop} {argsL rest : List Value} {index : Nat} {own : String} (y : MethodName) (hown : s.vm.findClass own = some m.cls) (w1 : (Cond.methodLink own index y).before a0 Z = true) (w2 : (Cond.static y).before a0 Z = true) (hy : y.cls ≠ "java/lang/invoke/MethodHandle" ∧ y.cls ≠ "java/lang/invoke/VarHandle") (w5 : (Cond.code y cb maxL ret).before a0 Z = true) (w6 : (Cond.initialized y.cls).before a0 Z = true) (eT : T.heap = h) (hM : MetFree l y (head1 [Cond.code y cb maxL ret] rm) (fun a U => a = argsL.toArray ∧ Z.Warmed39 U.vm ∧ U.heap = h) (fun _ _ _ _ _ => True) (fun _ U o U' => ∃ v L, o = .returned v ∧ Q v U'.heap L ∧ FrameEnd U o U' L rm.cells rm.slots)) {st : List Value} (hst : st = argsL.reverse ++ rest) (W : Nat) (hW : (rest.map fun v => v.category).sum = W) (hroom : rm.frames + 1 ≤ R.frames ∧ W + (maxL + 11) + rm.locals ≤ R.locals ∧ cells + rm.cells ≤ R.cells ∧ slots + rm.slots ≤ R.slots) {pc : Nat} {Ls : Array Slot} {nl : Nat} (hml : c.maxLocals = nl) (hsz : Ls.size = nl) (hlen : ∀ sig, parseMethodDescriptor y.desc = some sig → argsL.length = sig.parameters.length) (hd : decode bytes pc = .ok (.invokestatic index, 3)) (hby : c.code = bytes) : ∃ v T' L, Stand p l e R s m args below meth c T' (locs ++ L) (cells + rm.cells) (slots + rm.slots) ∧ Q v T'.heap L ∧ ∀ t, Steps p.tables e below (T'.setTop (mkF m (pc + 3) Ls (v.toList ++ rest))) t → Steps p.tables e below (T.setTop (mkF m pc Ls st)) t := by
  subst hst
  obtain ⟨_, _, ⟨T1, L1, k1, n1⟩, -, X1, ⟨Lc1, hQ1, l1, y1, z1⟩, st1⟩ := Jvm.LawKit.callS X hx hown (mvT hZ w1) (mvT hZ w2) (mvT hZ w6) (mvT hZ w5) hy (backOf (W := W) hM hZ w5 w6 hroom.1 hroom.2.1) (g := mkF m pc Ls (argsL.reverse ++ rest)) rfl (hsz.trans hml.symm) (argsL := argsL) (rest := rest) hlen rfl (by show 2 * 0 + _ ≤ _; rw [Nat.mul_zero, Nat.zero_add]; exact Nat.le_of_eq hW) (hb hby hd) (fun _ _ => ⟨rfl, eT, hroom.2.2.1, hroom.2.2.2⟩)
  dsimp only [Pt.U, Pt.locs, Pt.cells, Pt.slots] at X1 l1 y1 z1 st1 hQ1
  subst l1 y1 z1
  exact ⟨_, _, _, X1, hQ1, st1⟩
theorem ocallI (X : Stand p l e R s m args below meth c T locs cells slots) (hx : p.tables.exec = Jvm.exec) (hZ : Z.Warmed39 s.vm) {cb : ByteArray} {maxL : Nat} {rm : Room} {Q : Option Value → Heap → List Loc → Prop} {argsL rest : List Value} {index : Nat} {own : String} (y : MethodName) (hn : y.name = "<init>") (hown : s.vm.findClass own = some m.cls) (w1 : (Cond.methodLink own index y).before a0 Z = true) (w2 : (Cond.instanceMethod y).before a0 Z = true) (hy : y.cls ≠ "java/lang/invoke/MethodHandle" ∧ y.cls ≠ "java/lang/invoke/VarHandle") (w5 : (Cond.code y cb maxL none).before a0 Z = true) (w6 : (Cond.initialized y.cls).before a0 Z = true) (eT : T.heap = h) {b : Addr} (hM : MetFree l y (head1 [Cond.code y cb maxL none] rm) (fun a U => a = (.ref b :: argsL).toArray ∧ Z.Warmed39 U.vm ∧ U.heap = h) (fun _ _ _ _ _ => True) (fun _ U o U' => ∃ v L, o = .returned v ∧ Q v U'.heap L ∧ FrameEnd U o U' L rm.cells rm.slots)) {st : List Value} (hst : st = argsL.reverse ++ .ref b :: rest) (W : Nat) (hW : (rest.map fun v => v.category).sum = W) (hroom : rm.frames + 1 ≤ R.frames ∧ W + (maxL + 11) + rm.locals ≤ R.locals ∧ cells + rm.cells ≤ R.cells ∧ slots + rm.slots ≤ R.slots) {pc : Nat} {Ls : Array Slot} {nl : Nat} (hml : c.maxLocals = nl) (hsz : Ls.size = nl) (hlen : ∀ sig, parseMethodDescriptor y.desc = some sig → argsL.length = sig.parameters.length) (hd : decode bytes pc = .ok (.invokespecial index, 3)) (hby : c.code = bytes) : ∃ v T' L, Stand p l e R s m args below meth c T' (locs ++ L) (cells + rm.cells) (slots + rm.slots) ∧ Q v T'.heap L ∧ ∀ t, Steps p.tables e below (T'.setTop (mkF m (pc + 3) Ls (v.toList ++ rest))) t → Steps p.tables e below (T.setTop (mkF m pc Ls st)) t := by
  subst hst
  obtain ⟨_, _, ⟨T1, L1, k1, n1⟩, -, X1, ⟨Lc1, hQ1, l1, y1, z1⟩, st1⟩ := X.specialBack hx hn hown (mvT hZ w1) (mvT hZ w2) (mvT hZ w5) hy (backOf (W := W) hM hZ w5 w6 hroom.1 hroom.2.1) (g := mkF m pc Ls (argsL.reverse ++ .ref b :: rest)) rfl (hsz.trans hml.symm) (Steps.refl _) (a := b) (argsL := argsL) (rest := rest) hlen rfl (by show 2 * 0 + _ ≤ _; rw [Nat.mul_zero, Nat.zero_add]; exact Nat.le_of_eq hW) (hb hby hd) (fun _ _ => ⟨rfl, eT, hroom.2.2.1, hroom.2.2.2⟩)
  dsimp only [Pt.U, Pt.locs, Pt.cells, Pt.slots] at X1 l1 y1 z1 st1 hQ1
  subst l1 y1 z1
  exact ⟨_, _, _, X1, hQ1, fun _ k => st1.trans k⟩
theorem ocallV (X : Stand p l e R s m args below meth c T locs cells slots) (hx : p.tables.exec = Jvm.exec) (hZ : Z.Warmed39 s.vm) {cb : ByteArray} {maxL : Nat} {ret : Option FieldType} {rm : Room} {Q : Option Value → Heap → List Loc → Prop} {argsL rest : List Value} {index : Nat} {own : String} {C : String} (y z : MethodName) (hown : s.vm.findClass own = some m.cls) (w1 : (Cond.methodLink own index y).before a0 Z = true) (w2 : (Cond.declares y).before a0 Z = true) (nf : NotFace s y) (w4 : (Cond.selects C y z).before a0 Z = true) (w3 : (Cond.instanceMethod z).before a0 Z = true) (hy : y.cls ≠ "java/lang/invoke/MethodHandle" ∧ y.cls ≠ "java/lang/invoke/VarHandle") (w5 : (Cond.code z cb maxL ret).before a0 Z = true) (w6 : (Cond.initialized z.cls).before a0 Z = true) (eT : T.heap = h) {b : Addr} (E : Exa Z h b C) (hM : MetFree l z (head1 [Cond.code z cb maxL ret] rm) (fun a U => a = (.ref b :: argsL).toArray ∧ Z.Warmed39 U.vm ∧ U.heap = h) (fun _ _ _ _ _ => True) (fun _ U o U' => ∃ v L, o = .returned v ∧ Q v U'.heap L ∧ FrameEnd U o U' L rm.cells rm.slots)) {st : List Value} (hst : st = argsL.reverse ++ .ref b :: rest) (W : Nat) (hW : (rest.map fun v => v.category).sum = W) (hroom : rm.frames + 1 ≤ R.frames ∧ W + (maxL + 11) + rm.locals ≤ R.locals ∧ cells + rm.cells ≤ R.cells ∧ slots + rm.slots ≤ R.slots) {pc : Nat} {Ls : Array Slot} {nl : Nat} (hml : c.maxLocals = nl) (hsz : Ls.size = nl) (hlen : ∀ sig, parseMethodDescriptor y.desc = some sig → argsL.length = sig.parameters.length) (hd : decode bytes pc = .ok (.invokevirtual index, 3)) (hby : c.code = bytes) : ∃ v T' L, Stand p l e R s m args below meth c T' (locs ++ L) (cells + rm.cells) (slots + rm.slots) ∧ Q v T'.heap L ∧ ∀ t, Steps p.tables e below (T'.setTop (mkF m (pc + 3) Ls (v.toList ++ rest))) t → Steps p.tables e below (T.setTop (mkF m pc Ls st)) t := by
  subst hst
  obtain ⟨cq, kq, qa, qb, qc⟩ := isOf hZ eT E
  obtain ⟨_, _, ⟨T1, L1, k1, n1⟩, -, X1, ⟨Lc1, hQ1, l1, y1, z1⟩, st1⟩ := X.virtualBack hx hown (mvT hZ w1) (mvT hZ w2) nf (mvT hZ w4) (mvT hZ w3) hy (backOf (W := W) hM hZ w5 w6 hroom.1 hroom.2.1) qa qc (g := mkF m pc Ls (argsL.reverse ++ .ref b :: rest)) rfl (hsz.trans hml.symm) (Steps.refl _) (argsL := argsL) (rest := rest) hlen rfl (by show 2 * 0 + _ ≤ _; rw [Nat.mul_zero, Nat.zero_add]; exact Nat.le_of_eq hW) (hb hby hd) (fun _ _ => ⟨rfl, eT, hroom.2.2.1, hroom.2.2.2⟩)
  dsimp only [Pt.U, Pt.locs, Pt.cells, Pt.slots] at X1 l1 y1 z1 st1 hQ1
  subst l1 y1 z1
  exact ⟨_, _, _, X1, hQ1, fun _ k => st1.trans k⟩
theorem ocallU (X : Stand p l e R s m args below meth c T locs cells slots) (hx : p.tables.exec = Jvm.exec) (hZ : Z.Warmed39 s.vm) {cb : ByteArray} {maxL : Nat} {ret : Option FieldType} {rm : Room} {Q : Option Value → Heap → List Loc → Prop} {argsL rest : List Value} {index : Nat} {own : String} {C owner : String} (x y : MethodName) (hown : s.vm.findClass own = some m.cls) (w1 : (Cond.methodLink own index x).before a0 Z = true) (w2 : (Cond.sameMethod x.cls owner x.name x.desc).before a0 Z = true) (w7 : (Cond.declares ⟨owner, x.name, x.desc⟩).before a0 Z = true) (hy : owner ≠ "java/lang/invoke/MethodHandle" ∧ owner ≠ "java/lang/invoke/VarHandle") (w4 : (Cond.selects C x y).before a0 Z = true) (w3 : (Cond.instanceMethod y).before a0 Z = true) (w5 : (Cond.code y cb maxL ret).before a0 Z = true) (w6 : (Cond.initialized y.cls).before a0 Z = true) (eT : T.heap = h) {b : Addr} (E : Exa Z h b C) (hM : MetFree l y (head1 [Cond.code y cb maxL ret] rm) (fun a U => a = (.ref b :: argsL).toArray ∧ Z.Warmed39 U.vm ∧ U.heap = h) (fun _ _ _ _ _ => True) (fun _ U o U' => ∃ v L, o = .returned v ∧ Q v U'.heap L ∧ FrameEnd U o U' L rm.cells rm.slots)) {st : List Value} (hst : st = argsL.reverse ++ .ref b :: rest) (W : Nat) (hW : (rest.map fun v => v.category).sum = W) (hroom : rm.frames + 1 ≤ R.frames ∧ W + (maxL + 11) + rm.locals ≤ R.locals ∧ cells + rm.cells ≤ R.cells ∧ slots + rm.slots ≤ R.slots) {pc : Nat} {Ls : Array Slot} {nl : Nat} (hml : c.maxLocals = nl) (hsz : Ls.size = nl) (hlen : ∀ sig, parseMethodDescriptor x.desc = some sig → argsL.length = sig.parameters.length) (hd : decode bytes pc = .ok (.invokevirtual index, 3)) (hby : c.code = bytes) : ∃ v T' L, Stand p l e R s m args below meth c T' (locs ++ L) (cells + rm.cells) (slots + rm.slots) ∧ Q v T'.heap L ∧ ∀ t, Steps p.tables e below (T'.setTop (mkF m (pc + 3) Ls (v.toList ++ rest))) t → Steps p.tables e below (T.setTop (mkF m pc Ls st)) t := by
  subst hst
  obtain ⟨cq, kq, qa, qb, qc⟩ := isOf hZ eT E
  obtain ⟨_, _, ⟨T1, L1, k1, n1⟩, -, X1, ⟨Lc1, hQ1, l1, y1, z1⟩, st1⟩ := X.virtualBackUp hx hown (mvT hZ w1) (mvT hZ w2) (mvT hZ w7) hy (mvT hZ w4) (mvT hZ w3) (backOf (W := W) hM hZ w5 w6 hroom.1 hroom.2.1) qa qc (g := mkF m pc Ls (argsL.reverse ++ .ref b :: rest)) rfl (hsz.trans hml.symm) (Steps.refl _) (argsL := argsL) (rest := rest) hlen rfl (by show 2 * 0 + _ ≤ _; rw [Nat.mul_zero, Nat.zero_add]; exact Nat.le_of_eq hW) (hb hby hd) (fun _ _ => ⟨rfl, eT, hroom.2.2.1, hroom.2.2.2⟩)
  dsimp only [Pt.U, Pt.locs, Pt.cells, Pt.slots] at X1 l1 y1 z1 st1 hQ1
  subst l1 y1 z1
  exact ⟨_, _, _, X1, hQ1, fun _ k => st1.trans k⟩
theorem ocallP (X : Stand p l e R s m args below meth c T locs cells slots) (hx : p.tables.exec = Jvm.exec) (hZ : Z.Warmed39 s.vm) {cb : ByteArray} {maxL : Nat} {ret : Option FieldType} {rm : Room} {Q : Option Value → Heap → List Loc → Prop} {argsL rest : List Value} {index : Nat} {own : String} (y : MethodName) (hown : s.vm.findClass own = some m.cls) (w1 : (Cond.methodLink own index y).before a0 Z = true) (w2 : (Cond.instanceMethod y).before a0 Z = true) (w4 : (Cond.selects y.cls y y).before args s = true) (w3 : (Cond.privateMethod y).before a0 Z = true) (hy : y.cls ≠ "java/lang/invoke/MethodHandle" ∧ y.cls ≠ "java/lang/invoke/VarHandle") (w5 : (Cond.code y cb maxL ret).before a0 Z = true) (w6 : (Cond.initialized y.cls).before a0 Z = true) (eT : T.heap = h) {C : String} {b : Addr} (E : Exa Z h b C) (hM : MetFree l y (head1 [Cond.code y cb maxL ret] rm) (fun a U => a = (.ref b :: argsL).toArray ∧ Z.Warmed39 U.vm ∧ U.heap = h) (fun _ _ _ _ _ => True) (fun _ U o U' => ∃ v L, o = .returned v ∧ Q v U'.heap L ∧ FrameEnd U o U' L rm.cells rm.slots)) {st : List Value} (hst : st = argsL.reverse ++ .ref b :: rest) (W : Nat) (hW : (rest.map fun v => v.category).sum = W) (hroom : rm.frames + 1 ≤ R.frames ∧ W + (maxL + 11) + rm.locals ≤ R.locals ∧ cells + rm.cells ≤ R.cells ∧ slots + rm.slots ≤ R.slots) {pc : Nat} {Ls : Array Slot} {nl : Nat} (hml : c.maxLocals = nl) (hsz : Ls.size = nl) (hlen : ∀ sig, parseMethodDescriptor y.desc = some sig → argsL.length = sig.parameters.length) (hd : decode bytes pc = .ok (.invokevirtual index, 3)) (hby : c.code = bytes) : ∃ v T' L, Stand p l e R s m args below meth c T' (locs ++ L) (cells + rm.cells) (slots + rm.slots) ∧ Q v T'.heap L ∧ ∀ t, Steps p.tables e below (T'.setTop (mkF m (pc + 3) Ls (v.toList ++ rest))) t → Steps p.tables e below (T.setTop (mkF m pc Ls st)) t := by
  subst hst
  obtain ⟨cq, q1, q2⟩ := E.cell
  obtain ⟨_, _, ⟨T1, L1, k1, n1⟩, -, X1, ⟨Lc1, hQ1, l1, y1, z1⟩, st1⟩ := X.privateBack hx hown (mvT hZ w1) (mvT hZ w2) w4 (Cond.privateMethod_at (mvP hZ w3 (args := #[]))) (mvT hZ w5) hy (backOf (W := W) hM hZ w5 w6 hroom.1 hroom.2.1) (g := mkF m pc Ls (argsL.reverse ++ .ref b :: rest)) rfl (hsz.trans hml.symm) (Steps.refl _) (a := b) (by rw [eT]; exact q1) q2 (argsL := argsL) (rest := rest) hlen rfl (by show 2 * 0 + _ ≤ _; rw [Nat.mul_zero, Nat.zero_add]; exact Nat.le_of_eq hW) (hb hby hd) (fun _ _ => ⟨rfl, eT, hroom.2.2.1, hroom.2.2.2⟩)
  dsimp only [Pt.U, Pt.locs, Pt.cells, Pt.slots] at X1 l1 y1 z1 st1 hQ1
  subst l1 y1 z1
  exact ⟨_, _, _, X1, hQ1, fun _ k => st1.trans k⟩
theorem ocallN (X : Stand p l e R s m args below meth c T locs cells slots) (hx : p.tables.exec = Jvm.exec) (hZ : Z.Warmed39 s.vm) {cb : ByteArray} {maxL : Nat} {ret : Option FieldType} {rm : Room} {Q : Option Value → Heap → List Loc → Prop} {argsL rest : List Value} {index : Nat} {own : String} {C : String} (x y : MethodName) (hown : s.vm.findClass own = some m.cls) (w1 : (Cond.methodLink own index x).before a0 Z = true) (w2 : (Cond.declares x).before a0 Z = true) (w7 : (Cond.interfaceMethod x.cls x.cls x.name x.desc).before args s = true) (w4 : (Cond.selects C x y).before a0 Z = true) (w3 : (Cond.instanceMethod y).before a0 Z = true) (w8 : (Cond.publicMethod y).before a0 Z = true) (w9 : (Cond.unhidden C x.name x.desc).before a0 Z = true) (wa : (Cond.castable C x.cls).before a0 Z = true) (hy : x.cls ≠ "java/lang/invoke/MethodHandle" ∧ x.cls ≠ "java/lang/invoke/VarHandle") (w5 : (Cond.code y cb maxL ret).before a0 Z = true) (w6 : (Cond.initialized y.cls).before a0 Z = true) (eT : T.heap = h) {b : Addr} (E : Exa Z h b C) {cnt : Nat} (hM : MetFree l y (head1 [Cond.code y cb maxL ret] rm) (fun a U => a = (.ref b :: argsL).toArray ∧ Z.Warmed39 U.vm ∧ U.heap = h) (fun _ _ _ _ _ => True) (fun _ U o U' => ∃ v L, o = .returned v ∧ Q v U'.heap L ∧ FrameEnd U o U' L rm.cells rm.slots)) {st : List Value} (hst : st = argsL.reverse ++ .ref b :: rest) (W : Nat) (hW : (rest.map fun v => v.category).sum = W) (hroom : rm.frames + 1 ≤ R.frames ∧ W + (maxL + 11) + rm.locals ≤ R.locals ∧ cells + rm.cells ≤ R.cells ∧ slots + rm.slots ≤ R.slots) {pc : Nat} {Ls : Array Slot} {nl : Nat} (hml : c.maxLocals = nl) (hsz : Ls.size = nl) (hlen : ∀ sig, parseMethodDescriptor x.desc = some sig → argsL.length = sig.parameters.length) (hd : decode bytes pc = .ok (.invokeinterface index cnt, 5)) (hby : c.code = bytes) : ∃ v T' L, Stand p l e R s m args below meth c T' (locs ++ L) (cells + rm.cells) (slots + rm.slots) ∧ Q v T'.heap L ∧ ∀ t, Steps p.tables e below (T'.setTop (mkF m (pc + 5) Ls (v.toList ++ rest))) t → Steps p.tables e below (T.setTop (mkF m pc Ls st)) t := by
  subst hst
  obtain ⟨cq, kq, qa, qb, qc⟩ := isOf hZ eT E
  obtain ⟨_, _, ⟨T1, L1, k1, n1⟩, -, X1, ⟨Lc1, hQ1, l1, y1, z1⟩, st1⟩ := X.interfaceBack hx hown (mvT hZ w1) (mvT hZ w2) w7 (mvT hZ w4) (mvT hZ w3) (mvT hZ w8) (mvT hZ w9) (mvT hZ wa) hy (backOf (W := W) hM hZ w5 w6 hroom.1 hroom.2.1) qa qb qc (g := mkF m pc Ls (argsL.reverse ++ .ref b :: rest)) rfl (hsz.trans hml.symm) (Steps.refl _) (argsL := argsL) (rest := rest) hlen rfl (by show 2 * 0 + _ ≤ _; rw [Nat.mul_zero, Nat.zero_add]; exact Nat.le_of_eq hW) (hb hby hd) (fun _ _ => ⟨rfl, eT, hroom.2.2.1, hroom.2.2.2⟩)
  dsimp only [Pt.U, Pt.locs, Pt.cells, Pt.slots] at X1 l1 y1 z1 st1 hQ1
  subst l1 y1 z1
  exact ⟨_, _, _, X1, hQ1, fun _ k => st1.trans k⟩
end OwnCalls
end Jvm.RoadKit
namespace Jvm.Pilot.@@N@@
open Jvm Jvm.ClassFile Sem Op Lib Jvm.Free Jvm.Stand Jvm.LawKit Jvm.RoadKit Bundle Jvm.Pilot.@@N@@.Jvm.D
theorem ww {Z : State} {a0 : Array Value} (hw : ∀ d ∈ tables_1, d.before a0 Z = true) (i : Nat) {d : Jvm.Cond} (h : tables_1[i]? = some d) : d.before a0 Z = true := hw d (List.mem_of_getElem? h)
def QLaw (n0 : Nat) (v : Option Value) (h : Heap) (L : List Loc) : Prop := v = some (.int (1 : Int32)) ∧ Fr n0 L

theorem own_mulc (x y : Int64) (c : Int) (hy : y.toInt = c) (h0 : 0 ≤ x.toInt * c) (h1 : x.toInt * c < 9223372036854775808) : (x * y).toInt = x.toInt * c := by
  have h := c_lmul x y; rw [hy] at h; have := rng64 (x * y); omega
theorem own_addc (x y : Int64) (h0 : 0 ≤ x.toInt + y.toInt) (h1 : x.toInt + y.toInt < 9223372036854775808) : (x + y).toInt = x.toInt + y.toInt := by
  have h := c_ladd x y; have := rng64 (x + y); omega
theorem own_mul2 (x y : Int64) (c n : Int) (hy : y.toInt = c) (hc : 0 ≤ c) (h0 : 0 ≤ x.toInt) (h1 : x.toInt < n) (hn : n * c < 9223372036854775808) : (x * y).toInt = x.toInt * c ∧ 0 ≤ x.toInt * c ∧ x.toInt * c ≤ n * c := by
  have a : 0 ≤ x.toInt * c := Int.mul_nonneg h0 hc
  have b : x.toInt * c ≤ n * c := Int.mul_le_mul_of_nonneg_right (by omega) hc
  exact ⟨own_mulc x y c hy a (by omega), a, b⟩
theorem own_t2 (x y : Int64) (p q : Int) (X Y : Int) (hx : x.toInt = X) (hy : y.toInt = Y) (x0 : 0 ≤ X) (x1 : X ≤ p) (y0 : 0 ≤ Y) (y1 : Y ≤ q) (h : p + q < 9223372036854775808) : (x + y).toInt = X + Y ∧ 0 ≤ X + Y ∧ X + Y ≤ p + q := by
  subst hx hy
  exact ⟨own_addc x y (by omega) (by omega), by omega, by omega⟩
theorem own_digits (a b c d e f : Int64) (a0 : 0 ≤ a.toInt) (a1 : a.toInt < 1000) (b0 : 0 ≤ b.toInt) (b1 : b.toInt < 10) (c0 : 0 ≤ c.toInt) (c1 : c.toInt < 10) (d0 : 0 ≤ d.toInt) (d1 : d.toInt < 10) (e0 : 0 ≤ e.toInt) (e1 : e.toInt < 10) (f0 : 0 ≤ f.toInt) (f1 : f.toInt < 100000000) :
    (a * (1000000000000 : Int64) + b * (100000000000 : Int64) + c * (10000000000 : Int64) + d * (1000000000 : Int64) + e * (100000000 : Int64) + f).toInt = a.toInt * 1000000000000 + b.toInt * 100000000000 + c.toInt * 10000000000 + d.toInt * 1000000000 + e.toInt * 100000000 + f.toInt ∧ 0 ≤ a.toInt * 1000000000000 + b.toInt * 100000000000 + c.toInt * 10000000000 + d.toInt * 1000000000 + e.toInt * 100000000 + f.toInt := by
  obtain ⟨ea, ha, ga⟩ := own_mul2 a (1000000000000 : Int64) 1000000000000 1000 (by decide) (by decide) a0 a1 (by decide)
  obtain ⟨eb, hb, gb⟩ := own_mul2 b (100000000000 : Int64) 100000000000 10 (by decide) (by decide) b0 b1 (by decide)
  obtain ⟨ec, hc, gc⟩ := own_mul2 c (10000000000 : Int64) 10000000000 10 (by decide) (by decide) c0 c1 (by decide)
  obtain ⟨ed, hd, gd⟩ := own_mul2 d (1000000000 : Int64) 1000000000 10 (by decide) (by decide) d0 d1 (by decide)
  obtain ⟨ee, he, ge⟩ := own_mul2 e (100000000 : Int64) 100000000 10 (by decide) (by decide) e0 e1 (by decide)
  obtain ⟨s1, h1, g1⟩ := own_t2 _ _ _ _ _ _ ea eb ha ga hb gb (by decide)
  obtain ⟨s2, h2, g2⟩ := own_t2 _ _ _ _ _ _ s1 ec h1 g1 hc gc (by decide)
  obtain ⟨s3, h3, g3⟩ := own_t2 _ _ _ _ _ _ s2 ed h2 g2 hd gd (by decide)
  obtain ⟨s4, h4, g4⟩ := own_t2 _ _ _ _ _ _ s3 ee h3 g3 he ge (by decide)
  have s5 := own_t2 _ _ _ 100000000 _ _ s4 rfl h4 g4 f0 (Int.le_of_lt f1) (by decide)
  exact ⟨s5.1, s5.2.1⟩
theorem own_rm (x n : Int32) (k : Int) (hn : n.toInt = k) (hk : 0 < k) : 0 ≤ ((x &&& (2147483647 : Int32)) % n).toInt64.toInt ∧ ((x &&& (2147483647 : Int32)) % n).toInt64.toInt < k := by
  rw [c_i2l, (c_irem (x &&& (2147483647 : Int32)) n k hn).1 (c_and x 2147483647 (by decide)).1]
  exact ⟨Int.emod_nonneg _ (by omega), Int.emod_lt_of_pos _ hk⟩
theorem own_dig (V u s : Int64) (U S : Int) (hu : u.toInt = U) (hs : s.toInt = S) (u1 : u ≠ -1) (hV : 0 ≤ V.toInt) (hU : 0 < U) : (V / u - V / u / s * s).toInt = V.toInt / U % S := by
  have h := (c_ldiv V u U hu u1).1 hV
  rw [(c_lrem (V / u) s S hs).1 (by rw [h]; exact Int.ediv_nonneg hV (by omega)), h]
theorem own_q0 (r a : Int) (U : Int) (h0 : 0 ≤ r) (h1 : r < U) : (a * U + r) / U = a := by
  have hU : 0 < U := by omega
  rw [Int.add_comm, Int.add_mul_ediv_right _ _ (by omega), Int.ediv_eq_zero_of_lt h0 h1]; omega
theorem own_d0 (i0 i1 i2 i3 i4 i5 : Int32) : (((((((((((i0 &&& (2147483647 : Int32)) % (1000 : Int32)).toInt64) * (1000000000000 : Int64)) + ((((i1 &&& (2147483647 : Int32)) % (10 : Int32)).toInt64) * (100000000000 : Int64))) + ((((i2 &&& (2147483647 : Int32)) % (10 : Int32)).toInt64) * (10000000000 : Int64))) + ((((i3 &&& (2147483647 : Int32)) % (10 : Int32)).toInt64) * (1000000000 : Int64))) + ((((i4 &&& (2147483647 : Int32)) % (10 : Int32)).toInt64) * (100000000 : Int64))) + (((i5 &&& (2147483647 : Int32)) % (100000000 : Int32)).toInt64)) / (1000000000000 : Int64)) - (((((((((((i0 &&& (2147483647 : Int32)) % (1000 : Int32)).toInt64) * (1000000000000 : Int64)) + ((((i1 &&& (2147483647 : Int32)) % (10 : Int32)).toInt64) * (100000000000 : Int64))) + ((((i2 &&& (2147483647 : Int32)) % (10 : Int32)).toInt64) * (10000000000 : Int64))) + ((((i3 &&& (2147483647 : Int32)) % (10 : Int32)).toInt64) * (1000000000 : Int64))) + ((((i4 &&& (2147483647 : Int32)) % (10 : Int32)).toInt64) * (100000000 : Int64))) + (((i5 &&& (2147483647 : Int32)) % (100000000 : Int32)).toInt64)) / (1000000000000 : Int64)) / (1000 : Int64)) * (1000 : Int64)) = (((i0 &&& (2147483647 : Int32)) % (1000 : Int32)).toInt64) := by
  have h0 := own_rm i0 1000 1000 (by decide) (by decide)
  have h1 := own_rm i1 10 10 (by decide) (by decide)
  have h2 := own_rm i2 10 10 (by decide) (by decide)
  have h3 := own_rm i3 10 10 (by decide) (by decide)
  have h4 := own_rm i4 10 10 (by decide) (by decide)
  have h5 := own_rm i5 100000000 100000000 (by decide) (by decide)
  generalize ((i0 &&& (2147483647 : Int32)) % (1000 : Int32)).toInt64 = x0 at *
  generalize ((i1 &&& (2147483647 : Int32)) % (10 : Int32)).toInt64 = x1 at *
  generalize ((i2 &&& (2147483647 : Int32)) % (10 : Int32)).toInt64 = x2 at *
  generalize ((i3 &&& (2147483647 : Int32)) % (10 : Int32)).toInt64 = x3 at *
  generalize ((i4 &&& (2147483647 : Int32)) % (10 : Int32)).toInt64 = x4 at *
  generalize ((i5 &&& (2147483647 : Int32)) % (100000000 : Int32)).toInt64 = x5 at *
  obtain ⟨hv, hn⟩ := own_digits x0 x1 x2 x3 x4 x5 h0.1 h0.2 h1.1 h1.2 h2.1 h2.2 h3.1 h3.2 h4.1 h4.2 h5.1 h5.2
  refine Int64.toInt_inj.mp ?_
  rw [own_dig _ (1000000000000 : Int64) (1000 : Int64) 1000000000000 1000 (by decide) (by decide) (by decide) (by rw [hv]; exact hn) (by decide), hv]
  have e : (x0.toInt) * 1000000000000 + (x1.toInt) * 100000000000 + (x2.toInt) * 10000000000 + (x3.toInt) * 1000000000 + (x4.toInt) * 100000000 + (x5.toInt) = ((0) * 1000 + (x0.toInt)) * 1000000000000 + ((x1.toInt) * 100000000000 + (x2.toInt) * 10000000000 + (x3.toInt) * 1000000000 + (x4.toInt) * 100000000 + (x5.toInt)) := by omega
  clear hv hn
  rw [e, own_q0 _ _ _ (by omega) (by omega)]
  clear e
  have a := h0.1; have b := h0.2; generalize (0) = H; omega
theorem own_d1 (i0 i1 i2 i3 i4 i5 : Int32) : (((((((((((i0 &&& (2147483647 : Int32)) % (1000 : Int32)).toInt64) * (1000000000000 : Int64)) + ((((i1 &&& (2147483647 : Int32)) % (10 : Int32)).toInt64) * (100000000000 : Int64))) + ((((i2 &&& (2147483647 : Int32)) % (10 : Int32)).toInt64) * (10000000000 : Int64))) + ((((i3 &&& (2147483647 : Int32)) % (10 : Int32)).toInt64) * (1000000000 : Int64))) + ((((i4 &&& (2147483647 : Int32)) % (10 : Int32)).toInt64) * (100000000 : Int64))) + (((i5 &&& (2147483647 : Int32)) % (100000000 : Int32)).toInt64)) / (100000000000 : Int64)) - (((((((((((i0 &&& (2147483647 : Int32)) % (1000 : Int32)).toInt64) * (1000000000000 : Int64)) + ((((i1 &&& (2147483647 : Int32)) % (10 : Int32)).toInt64) * (100000000000 : Int64))) + ((((i2 &&& (2147483647 : Int32)) % (10 : Int32)).toInt64) * (10000000000 : Int64))) + ((((i3 &&& (2147483647 : Int32)) % (10 : Int32)).toInt64) * (1000000000 : Int64))) + ((((i4 &&& (2147483647 : Int32)) % (10 : Int32)).toInt64) * (100000000 : Int64))) + (((i5 &&& (2147483647 : Int32)) % (100000000 : Int32)).toInt64)) / (100000000000 : Int64)) / (10 : Int64)) * (10 : Int64)) = (((i1 &&& (2147483647 : Int32)) % (10 : Int32)).toInt64) := by
  have h0 := own_rm i0 1000 1000 (by decide) (by decide)
  have h1 := own_rm i1 10 10 (by decide) (by decide)
  have h2 := own_rm i2 10 10 (by decide) (by decide)
  have h3 := own_rm i3 10 10 (by decide) (by decide)
  have h4 := own_rm i4 10 10 (by decide) (by decide)
  have h5 := own_rm i5 100000000 100000000 (by decide) (by decide)
  generalize ((i0 &&& (2147483647 : Int32)) % (1000 : Int32)).toInt64 = x0 at *
  generalize ((i1 &&& (2147483647 : Int32)) % (10 : Int32)).toInt64 = x1 at *
  generalize ((i2 &&& (2147483647 : Int32)) % (10 : Int32)).toInt64 = x2 at *
  generalize ((i3 &&& (2147483647 : Int32)) % (10 : Int32)).toInt64 = x3 at *
  generalize ((i4 &&& (2147483647 : Int32)) % (10 : Int32)).toInt64 = x4 at *
  generalize ((i5 &&& (2147483647 : Int32)) % (100000000 : Int32)).toInt64 = x5 at *
  obtain ⟨hv, hn⟩ := own_digits x0 x1 x2 x3 x4 x5 h0.1 h0.2 h1.1 h1.2 h2.1 h2.2 h3.1 h3.2 h4.1 h4.2 h5.1 h5.2
  refine Int64.toInt_inj.mp ?_
  rw [own_dig _ (100000000000 : Int64) (10 : Int64) 100000000000 10 (by decide) (by decide) (by decide) (by rw [hv]; exact hn) (by decide), hv]
  have e : (x0.toInt) * 1000000000000 + (x1.toInt) * 100000000000 + (x2.toInt) * 10000000000 + (x3.toInt) * 1000000000 + (x4.toInt) * 100000000 + (x5.toInt) = (((x0.toInt) * 1) * 10 + (x1.toInt)) * 100000000000 + ((x2.toInt) * 10000000000 + (x3.toInt) * 1000000000 + (x4.toInt) * 100000000 + (x5.toInt)) := by omega
  clear hv hn
  rw [e, own_q0 _ _ _ (by omega) (by omega)]
  clear e
  have a := h1.1; have b := h1.2; generalize ((x0.toInt) * 1) = H; omega
theorem own_d2 (i0 i1 i2 i3 i4 i5 : Int32) : (((((((((((i0 &&& (2147483647 : Int32)) % (1000 : Int32)).toInt64) * (1000000000000 : Int64)) + ((((i1 &&& (2147483647 : Int32)) % (10 : Int32)).toInt64) * (100000000000 : Int64))) + ((((i2 &&& (2147483647 : Int32)) % (10 : Int32)).toInt64) * (10000000000 : Int64))) + ((((i3 &&& (2147483647 : Int32)) % (10 : Int32)).toInt64) * (1000000000 : Int64))) + ((((i4 &&& (2147483647 : Int32)) % (10 : Int32)).toInt64) * (100000000 : Int64))) + (((i5 &&& (2147483647 : Int32)) % (100000000 : Int32)).toInt64)) / (10000000000 : Int64)) - (((((((((((i0 &&& (2147483647 : Int32)) % (1000 : Int32)).toInt64) * (1000000000000 : Int64)) + ((((i1 &&& (2147483647 : Int32)) % (10 : Int32)).toInt64) * (100000000000 : Int64))) + ((((i2 &&& (2147483647 : Int32)) % (10 : Int32)).toInt64) * (10000000000 : Int64))) + ((((i3 &&& (2147483647 : Int32)) % (10 : Int32)).toInt64) * (1000000000 : Int64))) + ((((i4 &&& (2147483647 : Int32)) % (10 : Int32)).toInt64) * (100000000 : Int64))) + (((i5 &&& (2147483647 : Int32)) % (100000000 : Int32)).toInt64)) / (10000000000 : Int64)) / (10 : Int64)) * (10 : Int64)) = (((i2 &&& (2147483647 : Int32)) % (10 : Int32)).toInt64) := by
  have h0 := own_rm i0 1000 1000 (by decide) (by decide)
  have h1 := own_rm i1 10 10 (by decide) (by decide)
  have h2 := own_rm i2 10 10 (by decide) (by decide)
  have h3 := own_rm i3 10 10 (by decide) (by decide)
  have h4 := own_rm i4 10 10 (by decide) (by decide)
  have h5 := own_rm i5 100000000 100000000 (by decide) (by decide)
  generalize ((i0 &&& (2147483647 : Int32)) % (1000 : Int32)).toInt64 = x0 at *
  generalize ((i1 &&& (2147483647 : Int32)) % (10 : Int32)).toInt64 = x1 at *
  generalize ((i2 &&& (2147483647 : Int32)) % (10 : Int32)).toInt64 = x2 at *
  generalize ((i3 &&& (2147483647 : Int32)) % (10 : Int32)).toInt64 = x3 at *
  generalize ((i4 &&& (2147483647 : Int32)) % (10 : Int32)).toInt64 = x4 at *
  generalize ((i5 &&& (2147483647 : Int32)) % (100000000 : Int32)).toInt64 = x5 at *
  obtain ⟨hv, hn⟩ := own_digits x0 x1 x2 x3 x4 x5 h0.1 h0.2 h1.1 h1.2 h2.1 h2.2 h3.1 h3.2 h4.1 h4.2 h5.1 h5.2
  refine Int64.toInt_inj.mp ?_
  rw [own_dig _ (10000000000 : Int64) (10 : Int64) 10000000000 10 (by decide) (by decide) (by decide) (by rw [hv]; exact hn) (by decide), hv]
  have e : (x0.toInt) * 1000000000000 + (x1.toInt) * 100000000000 + (x2.toInt) * 10000000000 + (x3.toInt) * 1000000000 + (x4.toInt) * 100000000 + (x5.toInt) = (((x0.toInt) * 10 + (x1.toInt) * 1) * 10 + (x2.toInt)) * 10000000000 + ((x3.toInt) * 1000000000 + (x4.toInt) * 100000000 + (x5.toInt)) := by omega
  clear hv hn
  rw [e, own_q0 _ _ _ (by omega) (by omega)]
  clear e
  have a := h2.1; have b := h2.2; generalize ((x0.toInt) * 10 + (x1.toInt) * 1) = H; omega
theorem own_d3 (i0 i1 i2 i3 i4 i5 : Int32) : (((((((((((i0 &&& (2147483647 : Int32)) % (1000 : Int32)).toInt64) * (1000000000000 : Int64)) + ((((i1 &&& (2147483647 : Int32)) % (10 : Int32)).toInt64) * (100000000000 : Int64))) + ((((i2 &&& (2147483647 : Int32)) % (10 : Int32)).toInt64) * (10000000000 : Int64))) + ((((i3 &&& (2147483647 : Int32)) % (10 : Int32)).toInt64) * (1000000000 : Int64))) + ((((i4 &&& (2147483647 : Int32)) % (10 : Int32)).toInt64) * (100000000 : Int64))) + (((i5 &&& (2147483647 : Int32)) % (100000000 : Int32)).toInt64)) / (1000000000 : Int64)) - (((((((((((i0 &&& (2147483647 : Int32)) % (1000 : Int32)).toInt64) * (1000000000000 : Int64)) + ((((i1 &&& (2147483647 : Int32)) % (10 : Int32)).toInt64) * (100000000000 : Int64))) + ((((i2 &&& (2147483647 : Int32)) % (10 : Int32)).toInt64) * (10000000000 : Int64))) + ((((i3 &&& (2147483647 : Int32)) % (10 : Int32)).toInt64) * (1000000000 : Int64))) + ((((i4 &&& (2147483647 : Int32)) % (10 : Int32)).toInt64) * (100000000 : Int64))) + (((i5 &&& (2147483647 : Int32)) % (100000000 : Int32)).toInt64)) / (1000000000 : Int64)) / (10 : Int64)) * (10 : Int64)) = (((i3 &&& (2147483647 : Int32)) % (10 : Int32)).toInt64) := by
  have h0 := own_rm i0 1000 1000 (by decide) (by decide)
  have h1 := own_rm i1 10 10 (by decide) (by decide)
  have h2 := own_rm i2 10 10 (by decide) (by decide)
  have h3 := own_rm i3 10 10 (by decide) (by decide)
  have h4 := own_rm i4 10 10 (by decide) (by decide)
  have h5 := own_rm i5 100000000 100000000 (by decide) (by decide)
  generalize ((i0 &&& (2147483647 : Int32)) % (1000 : Int32)).toInt64 = x0 at *
  generalize ((i1 &&& (2147483647 : Int32)) % (10 : Int32)).toInt64 = x1 at *
  generalize ((i2 &&& (2147483647 : Int32)) % (10 : Int32)).toInt64 = x2 at *
  generalize ((i3 &&& (2147483647 : Int32)) % (10 : Int32)).toInt64 = x3 at *
  generalize ((i4 &&& (2147483647 : Int32)) % (10 : Int32)).toInt64 = x4 at *
  generalize ((i5 &&& (2147483647 : Int32)) % (100000000 : Int32)).toInt64 = x5 at *
  obtain ⟨hv, hn⟩ := own_digits x0 x1 x2 x3 x4 x5 h0.1 h0.2 h1.1 h1.2 h2.1 h2.2 h3.1 h3.2 h4.1 h4.2 h5.1 h5.2
  refine Int64.toInt_inj.mp ?_
  rw [own_dig _ (1000000000 : Int64) (10 : Int64) 1000000000 10 (by decide) (by decide) (by decide) (by rw [hv]; exact hn) (by decide), hv]
  have e : (x0.toInt) * 1000000000000 + (x1.toInt) * 100000000000 + (x2.toInt) * 10000000000 + (x3.toInt) * 1000000000 + (x4.toInt) * 100000000 + (x5.toInt) = (((x0.toInt) * 100 + (x1.toInt) * 10 + (x2.toInt) * 1) * 10 + (x3.toInt)) * 1000000000 + ((x4.toInt) * 100000000 + (x5.toInt)) := by omega
  clear hv hn
  rw [e, own_q0 _ _ _ (by omega) (by omega)]
  clear e
  have a := h3.1; have b := h3.2; generalize ((x0.toInt) * 100 + (x1.toInt) * 10 + (x2.toInt) * 1) = H; omega
theorem own_d4 (i0 i1 i2 i3 i4 i5 : Int32) : (((((((((((i0 &&& (2147483647 : Int32)) % (1000 : Int32)).toInt64) * (1000000000000 : Int64)) + ((((i1 &&& (2147483647 : Int32)) % (10 : Int32)).toInt64) * (100000000000 : Int64))) + ((((i2 &&& (2147483647 : Int32)) % (10 : Int32)).toInt64) * (10000000000 : Int64))) + ((((i3 &&& (2147483647 : Int32)) % (10 : Int32)).toInt64) * (1000000000 : Int64))) + ((((i4 &&& (2147483647 : Int32)) % (10 : Int32)).toInt64) * (100000000 : Int64))) + (((i5 &&& (2147483647 : Int32)) % (100000000 : Int32)).toInt64)) / (100000000 : Int64)) - (((((((((((i0 &&& (2147483647 : Int32)) % (1000 : Int32)).toInt64) * (1000000000000 : Int64)) + ((((i1 &&& (2147483647 : Int32)) % (10 : Int32)).toInt64) * (100000000000 : Int64))) + ((((i2 &&& (2147483647 : Int32)) % (10 : Int32)).toInt64) * (10000000000 : Int64))) + ((((i3 &&& (2147483647 : Int32)) % (10 : Int32)).toInt64) * (1000000000 : Int64))) + ((((i4 &&& (2147483647 : Int32)) % (10 : Int32)).toInt64) * (100000000 : Int64))) + (((i5 &&& (2147483647 : Int32)) % (100000000 : Int32)).toInt64)) / (100000000 : Int64)) / (10 : Int64)) * (10 : Int64)) = (((i4 &&& (2147483647 : Int32)) % (10 : Int32)).toInt64) := by
  have h0 := own_rm i0 1000 1000 (by decide) (by decide)
  have h1 := own_rm i1 10 10 (by decide) (by decide)
  have h2 := own_rm i2 10 10 (by decide) (by decide)
  have h3 := own_rm i3 10 10 (by decide) (by decide)
  have h4 := own_rm i4 10 10 (by decide) (by decide)
  have h5 := own_rm i5 100000000 100000000 (by decide) (by decide)
  generalize ((i0 &&& (2147483647 : Int32)) % (1000 : Int32)).toInt64 = x0 at *
  generalize ((i1 &&& (2147483647 : Int32)) % (10 : Int32)).toInt64 = x1 at *
  generalize ((i2 &&& (2147483647 : Int32)) % (10 : Int32)).toInt64 = x2 at *
  generalize ((i3 &&& (2147483647 : Int32)) % (10 : Int32)).toInt64 = x3 at *
  generalize ((i4 &&& (2147483647 : Int32)) % (10 : Int32)).toInt64 = x4 at *
  generalize ((i5 &&& (2147483647 : Int32)) % (100000000 : Int32)).toInt64 = x5 at *
  obtain ⟨hv, hn⟩ := own_digits x0 x1 x2 x3 x4 x5 h0.1 h0.2 h1.1 h1.2 h2.1 h2.2 h3.1 h3.2 h4.1 h4.2 h5.1 h5.2
  refine Int64.toInt_inj.mp ?_
  rw [own_dig _ (100000000 : Int64) (10 : Int64) 100000000 10 (by decide) (by decide) (by decide) (by rw [hv]; exact hn) (by decide), hv]
  have e : (x0.toInt) * 1000000000000 + (x1.toInt) * 100000000000 + (x2.toInt) * 10000000000 + (x3.toInt) * 1000000000 + (x4.toInt) * 100000000 + (x5.toInt) = (((x0.toInt) * 1000 + (x1.toInt) * 100 + (x2.toInt) * 10 + (x3.toInt) * 1) * 10 + (x4.toInt)) * 100000000 + ((x5.toInt)) := by omega
  clear hv hn
  rw [e, own_q0 _ _ _ (by omega) (by omega)]
  clear e
  have a := h4.1; have b := h4.2; generalize ((x0.toInt) * 1000 + (x1.toInt) * 100 + (x2.toInt) * 10 + (x3.toInt) * 1) = H; omega
theorem own_d5 (i0 i1 i2 i3 i4 i5 : Int32) : (((((((((((i0 &&& (2147483647 : Int32)) % (1000 : Int32)).toInt64) * (1000000000000 : Int64)) + ((((i1 &&& (2147483647 : Int32)) % (10 : Int32)).toInt64) * (100000000000 : Int64))) + ((((i2 &&& (2147483647 : Int32)) % (10 : Int32)).toInt64) * (10000000000 : Int64))) + ((((i3 &&& (2147483647 : Int32)) % (10 : Int32)).toInt64) * (1000000000 : Int64))) + ((((i4 &&& (2147483647 : Int32)) % (10 : Int32)).toInt64) * (100000000 : Int64))) + (((i5 &&& (2147483647 : Int32)) % (100000000 : Int32)).toInt64)) / (1 : Int64)) - (((((((((((i0 &&& (2147483647 : Int32)) % (1000 : Int32)).toInt64) * (1000000000000 : Int64)) + ((((i1 &&& (2147483647 : Int32)) % (10 : Int32)).toInt64) * (100000000000 : Int64))) + ((((i2 &&& (2147483647 : Int32)) % (10 : Int32)).toInt64) * (10000000000 : Int64))) + ((((i3 &&& (2147483647 : Int32)) % (10 : Int32)).toInt64) * (1000000000 : Int64))) + ((((i4 &&& (2147483647 : Int32)) % (10 : Int32)).toInt64) * (100000000 : Int64))) + (((i5 &&& (2147483647 : Int32)) % (100000000 : Int32)).toInt64)) / (1 : Int64)) / (100000000 : Int64)) * (100000000 : Int64)) = (((i5 &&& (2147483647 : Int32)) % (100000000 : Int32)).toInt64) := by
  have h0 := own_rm i0 1000 1000 (by decide) (by decide)
  have h1 := own_rm i1 10 10 (by decide) (by decide)
  have h2 := own_rm i2 10 10 (by decide) (by decide)
  have h3 := own_rm i3 10 10 (by decide) (by decide)
  have h4 := own_rm i4 10 10 (by decide) (by decide)
  have h5 := own_rm i5 100000000 100000000 (by decide) (by decide)
  generalize ((i0 &&& (2147483647 : Int32)) % (1000 : Int32)).toInt64 = x0 at *
  generalize ((i1 &&& (2147483647 : Int32)) % (10 : Int32)).toInt64 = x1 at *
  generalize ((i2 &&& (2147483647 : Int32)) % (10 : Int32)).toInt64 = x2 at *
  generalize ((i3 &&& (2147483647 : Int32)) % (10 : Int32)).toInt64 = x3 at *
  generalize ((i4 &&& (2147483647 : Int32)) % (10 : Int32)).toInt64 = x4 at *
  generalize ((i5 &&& (2147483647 : Int32)) % (100000000 : Int32)).toInt64 = x5 at *
  obtain ⟨hv, hn⟩ := own_digits x0 x1 x2 x3 x4 x5 h0.1 h0.2 h1.1 h1.2 h2.1 h2.2 h3.1 h3.2 h4.1 h4.2 h5.1 h5.2
  refine Int64.toInt_inj.mp ?_
  rw [own_dig _ (1 : Int64) (100000000 : Int64) 1 100000000 (by decide) (by decide) (by decide) (by rw [hv]; exact hn) (by decide), hv]
  have e : (x0.toInt) * 1000000000000 + (x1.toInt) * 100000000000 + (x2.toInt) * 10000000000 + (x3.toInt) * 1000000000 + (x4.toInt) * 100000000 + (x5.toInt) = (((x0.toInt) * 10000 + (x1.toInt) * 1000 + (x2.toInt) * 100 + (x3.toInt) * 10 + (x4.toInt) * 1) * 100000000 + (x5.toInt)) * 1 + (0) := by omega
  clear hv hn
  rw [e, own_q0 _ _ _ (by omega) (by omega)]
  clear e
  have a := h5.1; have b := h5.2; generalize ((x0.toInt) * 10000 + (x1.toInt) * 1000 + (x2.toInt) * 100 + (x3.toInt) * 10 + (x4.toInt) * 1) = H; omega
abbrev lc0 (x0 : Int32) (x1 : Int32) (x2 : Int32) (x3 : Int32) (x4 : Int32) (x5 : Int32) : Array Slot := #[.val (.int x0), .val (.int x1), .val (.int x2), .val (.int x3), .val (.int x4), .val (.int x5), .unset, .unset, .unset, .unset, .unset, .unset, .unset, .unset, .unset, .unset, .unset, .unset, .unset, .unset, .unset]
abbrev lc1 (x0 : Int32) (x1 : Int32) (x2 : Int32) (x3 : Int32) (x4 : Int32) (x5 : Int32) (x6 : Int64) : Array Slot := #[.val (.int x0), .val (.int x1), .val (.int x2), .val (.int x3), .val (.int x4), .val (.int x5), .val (.long x6), .second, .unset, .unset, .unset, .unset, .unset, .unset, .unset, .unset, .unset, .unset, .unset, .unset, .unset]
abbrev lc2 (x0 : Int32) (x1 : Int32) (x2 : Int32) (x3 : Int32) (x4 : Int32) (x5 : Int32) (x6 : Int64) (x7 : Int64) : Array Slot := #[.val (.int x0), .val (.int x1), .val (.int x2), .val (.int x3), .val (.int x4), .val (.int x5), .val (.long x6), .second, .val (.long x7), .second, .unset, .unset, .unset, .unset, .unset, .unset, .unset, .unset, .unset, .unset, .unset]
abbrev lc3 (x0 : Int32) (x1 : Int32) (x2 : Int32) (x3 : Int32) (x4 : Int32) (x5 : Int32) (x6 : Int64) (x7 : Int64) (x8 : Int64) : Array Slot := #[.val (.int x0), .val (.int x1), .val (.int x2), .val (.int x3), .val (.int x4), .val (.int x5), .val (.long x6), .second, .val (.long x7), .second, .val (.long x8), .second, .unset, .unset, .unset, .unset, .unset, .unset, .unset, .unset, .unset]
abbrev lc4 (x0 : Int32) (x1 : Int32) (x2 : Int32) (x3 : Int32) (x4 : Int32) (x5 : Int32) (x6 : Int64) (x7 : Int64) (x8 : Int64) (x9 : Int64) : Array Slot := #[.val (.int x0), .val (.int x1), .val (.int x2), .val (.int x3), .val (.int x4), .val (.int x5), .val (.long x6), .second, .val (.long x7), .second, .val (.long x8), .second, .val (.long x9), .second, .unset, .unset, .unset, .unset, .unset, .unset, .unset]
abbrev lc5 (x0 : Int32) (x1 : Int32) (x2 : Int32) (x3 : Int32) (x4 : Int32) (x5 : Int32) (x6 : Int64) (x7 : Int64) (x8 : Int64) (x9 : Int64) (x10 : Int64) : Array Slot := #[.val (.int x0), .val (.int x1), .val (.int x2), .val (.int x3), .val (.int x4), .val (.int x5), .val (.long x6), .second, .val (.long x7), .second, .val (.long x8), .second, .val (.long x9), .second, .val (.long x10), .second, .unset, .unset, .unset, .unset, .unset]
abbrev lc6 (x0 : Int32) (x1 : Int32) (x2 : Int32) (x3 : Int32) (x4 : Int32) (x5 : Int32) (x6 : Int64) (x7 : Int64) (x8 : Int64) (x9 : Int64) (x10 : Int64) (x11 : Int64) : Array Slot := #[.val (.int x0), .val (.int x1), .val (.int x2), .val (.int x3), .val (.int x4), .val (.int x5), .val (.long x6), .second, .val (.long x7), .second, .val (.long x8), .second, .val (.long x9), .second, .val (.long x10), .second, .val (.long x11), .second, .unset, .unset, .unset]
abbrev lc7 (x0 : Int32) (x1 : Int32) (x2 : Int32) (x3 : Int32) (x4 : Int32) (x5 : Int32) (x6 : Int64) (x7 : Int64) (x8 : Int64) (x9 : Int64) (x10 : Int64) (x11 : Int64) (x12 : Int64) : Array Slot := #[.val (.int x0), .val (.int x1), .val (.int x2), .val (.int x3), .val (.int x4), .val (.int x5), .val (.long x6), .second, .val (.long x7), .second, .val (.long x8), .second, .val (.long x9), .second, .val (.long x10), .second, .val (.long x11), .second, .val (.long x12), .second, .unset]
abbrev lc8 (x0 : Int32) (x1 : Int32) (x2 : Int32) (x3 : Int32) (x4 : Int32) (x5 : Int32) (x6 : Int64) (x7 : Int64) (x8 : Int64) (x9 : Int64) (x10 : Int64) (x11 : Int64) (x12 : Int64) (x13 : Int32) : Array Slot := #[.val (.int x0), .val (.int x1), .val (.int x2), .val (.int x3), .val (.int x4), .val (.int x5), .val (.long x6), .second, .val (.long x7), .second, .val (.long x8), .second, .val (.long x9), .second, .val (.long x10), .second, .val (.long x11), .second, .val (.long x12), .second, .val (.int x13)]
theorem d1_0 : decode prog_6_method_7_code 0 = .ok (.lload_n 1, 1) := by decide +kernel
theorem d1_1 : decode prog_6_method_7_code 1 = .ok (.aload_n 0, 1) := by decide +kernel
theorem d1_2 : decode prog_6_method_7_code 2 = .ok (.getfield 45, 3) := by decide +kernel
abbrev lc9 (x0 : Addr) (x1 : Int64) : Array Slot := #[.val (.ref x0), .val (.long x1), .second]
theorem d1_5 : decode prog_6_method_7_code 5 = .ok (.ldiv, 1) := by decide +kernel
theorem d1_6 : decode prog_6_method_7_code 6 = .ok (.aload_n 0, 1) := by decide +kernel
theorem d1_7 : decode prog_6_method_7_code 7 = .ok (.getfield 49, 3) := by decide +kernel
theorem d1_10 : decode prog_6_method_7_code 10 = .ok (.lrem, 1) := by decide +kernel
theorem d1_11 : decode prog_6_method_7_code 11 = .ok (.lreturn, 1) := by decide +kernel
theorem ef_0 (m : MethodId) (x0 : Addr) (x1 : Int64) : entryFrame m #[(.ref x0), (.long x1)] 3 = mkF m 0 #[.val (.ref x0), .val (.long x1), .second] [] := by first | (simp [entryFrame, mkF, argsToLocals, Value.category, maxLocals]; done) | rfl
theorem pn_com_example_strict_ledger_strictledger_CollationCounter_Field : plainName "com/example/strict_ledger/strictledger/CollationCounter$Field" = true := by first | (simp [plainName, overriddenIn]; done) | decide +kernel
theorem pd_0 : parseMethodDescriptor "(J)J" = some ⟨[.long], some .long⟩ := by decide +kernel
theorem ef_1 (m : MethodId) (x0 : Int32) (x1 : Int32) (x2 : Int32) (x3 : Int32) (x4 : Int32) (x5 : Int32) : entryFrame m #[(.int x0), (.int x1), (.int x2), (.int x3), (.int x4), (.int x5)] maxLocals = mkF m 0 #[.val (.int x0), .val (.int x1), .val (.int x2), .val (.int x3), .val (.int x4), .val (.int x5), .unset, .unset, .unset, .unset, .unset, .unset, .unset, .unset, .unset, .unset, .unset, .unset, .unset, .unset, .unset] [] := by first | (simp [entryFrame, mkF, argsToLocals, Value.category, maxLocals]; done) | rfl
theorem pn_com_example_strict_ledger_strictledger_CollationCounterFieldReadPinLaw : plainName "com/example/strict_ledger/strictledger/CollationCounterFieldReadPinLaw" = true := by first | (simp [plainName, overriddenIn]; done) | decide +kernel
abbrev zs0 : String := "com/example/strict_ledger/strictledger/CollationCounter$Field"
abbrev zs1 : String := "Lcom/example/strict_ledger/strictledger/CollationCounter$Field;"
abbrev zm0 : MethodName := (⟨zs0, "read", "(J)J"⟩ : MethodName)
def Q1_0 (Z : State) (a1 : Addr) (q2 : Int64) (h0 : Heap) (n0 : Nat) (v : Option Value) (h : Heap) (L : List Loc) : Prop := v = some (.long ((q2 / (1000000000000 : Int64)) - ((q2 / (1000000000000 : Int64)) / (1000 : Int64)) * (1000 : Int64))) ∧ Fr n0 L ∧ h = h0
set_option maxRecDepth 65536 in
set_option maxHeartbeats 40000000 in
theorem rm1_0 (l : Launch) (Z : State) (a0 : Array Value) (hw : ∀ d ∈ tables_1, d.before a0 Z = true) (ws : List Jvm.Cond) (a1 : Addr) (q2 : Int64) (h0 : Heap) (n0 : Nat) (Z0 : n0 ≤ h0.size) (F3 : Fld Z h0 a1 zs0 "unit" "J" (.long 1000000000000)) (F5 : Fld Z h0 a1 zs0 "span" "J" (.long 1000)) :
    MetFree l zm0 (head1 (Jvm.Cond.code zm0 prog_6_method_7_code 3 (some .long) :: ws) ({ frames := 0, cells := 0, slots := 0, locals := 0 } : Room)) (fun a U => a = #[(.ref a1), (.long q2)] ∧ Z.Warmed39 U.vm ∧ U.heap = h0) (fun _ _ _ _ _ => True) (fun _ U o U' => ∃ v L, o = .returned v ∧ Q1_0 Z a1 q2 h0 n0 v U'.heap L ∧ FrameEnd U o U' L ({ frames := 0, cells := 0, slots := 0, locals := 0 } : Room).cells ({ frames := 0, cells := 0, slots := 0, locals := 0 } : Room).slots) := by
  refine MetFree.of_bodySF (plainFor_of_name pn_com_example_strict_ledger_strictledger_CollationCounter_Field) hisR ?_
  intro p e s m args below meth c s₁ Bd hml0 hP hK
  obtain ⟨rfl, hZ, hh⟩ := hP
  have hx := Bd.exec
  have hby := Bd.bytes
  have hml : c.maxLocals = 3 := hml0
  have hown : s.vm.findClass zs0 = some m.cls := findClass_of_methodNamed Bd.named
  have hnm := (name_of_methodNamed Bd.named Bd.method).1
  have X0 : Stand p l e ({ frames := 0, cells := 0, slots := 0, locals := 0 } : Room) s m #[(.ref a1), (.long q2)] below meth c s₁ [] 0 0 := Stand.of_body Bd
  have e0 : s₁.heap = h0 := by rw [← hh, Bd.state]; rfl
  have N0 := Fr.nil n0
  refine own_pre (g' := mkF m 0 (lc9 a1 q2) []) (ef_0 m a1 q2) ?_
  obtain ⟨T4, X4, e4, st4⟩ := getF X0 hx hZ hown (host := "") (Or.inl (ww hw 15 rfl)) Via.refl e0 F3 (g := (mkF m 2 (lc9 a1 q2) [(.ref a1), (.long q2)])) rfl rfl (hb hby d1_2)
  obtain ⟨T6, X6, e6, st6⟩ := getF X4 hx hZ hown (host := "") (Or.inl (ww hw 17 rfl)) Via.refl e4 F5 (g := (mkF m 7 (lc9 a1 q2) [(.ref a1), (.long (q2 / (1000000000000 : Int64)))])) rfl rfl (hb hby d1_7)
  refine own_go (U' := T6.setTop (mkF m 11 (lc9 a1 q2) [(.long ((q2 / (1000000000000 : Int64)) - ((q2 / (1000000000000 : Int64)) / (1000 : Int64)) * (1000 : Int64)))])) (fun t k => olloadN X0 hx hby d1_0 rfl (oaloadN X0 hx hby d1_1 rfl rfl (st4 _ (oldiv X4 hx hby d1_5 (by decide) (oaloadN X4 hx hby d1_6 rfl rfl (st6 _ (olrem X6 hx hby d1_10 (by decide) k))))))) ?_
  obtain ⟨fs, hr, hrun, hended, hW, hsame⟩ := X6.leave (v := some (.long ((q2 / (1000000000000 : Int64)) - ((q2 / (1000000000000 : Int64)) / (1000 : Int64)) * (1000 : Int64)))) (fun h => by rw [Bd.returns] at h; cases h)
  refine own_out ⟨_, _, ?_, hrun, hended, _, _, rfl, ?_, ⟨_, rfl⟩, hW, hsame.mono (by decide) (by decide)⟩
  · exact retOut X6 hx Bd.returns rfl (Or.inr (Or.inl ⟨rfl, rfl, _, rfl⟩)) (hb hby d1_11) hr
  · show Q1_0 Z a1 q2 h0 n0 _ T6.heap _
    rw [e6]
    exact ⟨rfl, N0, rfl⟩
def Q1_1 (Z : State) (a1 : Addr) (q2 : Int64) (h0 : Heap) (n0 : Nat) (v : Option Value) (h : Heap) (L : List Loc) : Prop := v = some (.long ((q2 / (100000000000 : Int64)) - ((q2 / (100000000000 : Int64)) / (10 : Int64)) * (10 : Int64))) ∧ Fr n0 L ∧ h = h0
set_option maxRecDepth 65536 in
set_option maxHeartbeats 40000000 in
theorem rm1_1 (l : Launch) (Z : State) (a0 : Array Value) (hw : ∀ d ∈ tables_1, d.before a0 Z = true) (ws : List Jvm.Cond) (a1 : Addr) (q2 : Int64) (h0 : Heap) (n0 : Nat) (Z0 : n0 ≤ h0.size) (F3 : Fld Z h0 a1 zs0 "unit" "J" (.long 100000000000)) (F5 : Fld Z h0 a1 zs0 "span" "J" (.long 10)) :
    MetFree l zm0 (head1 (Jvm.Cond.code zm0 prog_6_method_7_code 3 (some .long) :: ws) ({ frames := 0, cells := 0, slots := 0, locals := 0 } : Room)) (fun a U => a = #[(.ref a1), (.long q2)] ∧ Z.Warmed39 U.vm ∧ U.heap = h0) (fun _ _ _ _ _ => True) (fun _ U o U' => ∃ v L, o = .returned v ∧ Q1_1 Z a1 q2 h0 n0 v U'.heap L ∧ FrameEnd U o U' L ({ frames := 0, cells := 0, slots := 0, locals := 0 } : Room).cells ({ frames := 0, cells := 0, slots := 0, locals := 0 } : Room).slots) := by
  refine MetFree.of_bodySF (plainFor_of_name pn_com_example_strict_ledger_strictledger_CollationCounter_Field) hisR ?_
  intro p e s m args below meth c s₁ Bd hml0 hP hK
  obtain ⟨rfl, hZ, hh⟩ := hP
  have hx := Bd.exec
  have hby := Bd.bytes
  have hml : c.maxLocals = 3 := hml0
  have hown : s.vm.findClass zs0 = some m.cls := findClass_of_methodNamed Bd.named
  have hnm := (name_of_methodNamed Bd.named Bd.method).1
  have X0 : Stand p l e ({ frames := 0, cells := 0, slots := 0, locals := 0 } : Room) s m #[(.ref a1), (.long q2)] below meth c s₁ [] 0 0 := Stand.of_body Bd
  have e0 : s₁.heap = h0 := by rw [← hh, Bd.state]; rfl
  have N0 := Fr.nil n0
  refine own_pre (g' := mkF m 0 (lc9 a1 q2) []) (ef_0 m a1 q2) ?_
  obtain ⟨T4, X4, e4, st4⟩ := getF X0 hx hZ hown (host := "") (Or.inl (ww hw 15 rfl)) Via.refl e0 F3 (g := (mkF m 2 (lc9 a1 q2) [(.ref a1), (.long q2)])) rfl rfl (hb hby d1_2)
  obtain ⟨T6, X6, e6, st6⟩ := getF X4 hx hZ hown (host := "") (Or.inl (ww hw 17 rfl)) Via.refl e4 F5 (g := (mkF m 7 (lc9 a1 q2) [(.ref a1), (.long (q2 / (100000000000 : Int64)))])) rfl rfl (hb hby d1_7)
  refine own_go (U' := T6.setTop (mkF m 11 (lc9 a1 q2) [(.long ((q2 / (100000000000 : Int64)) - ((q2 / (100000000000 : Int64)) / (10 : Int64)) * (10 : Int64)))])) (fun t k => olloadN X0 hx hby d1_0 rfl (oaloadN X0 hx hby d1_1 rfl rfl (st4 _ (oldiv X4 hx hby d1_5 (by decide) (oaloadN X4 hx hby d1_6 rfl rfl (st6 _ (olrem X6 hx hby d1_10 (by decide) k))))))) ?_
  obtain ⟨fs, hr, hrun, hended, hW, hsame⟩ := X6.leave (v := some (.long ((q2 / (100000000000 : Int64)) - ((q2 / (100000000000 : Int64)) / (10 : Int64)) * (10 : Int64)))) (fun h => by rw [Bd.returns] at h; cases h)
  refine own_out ⟨_, _, ?_, hrun, hended, _, _, rfl, ?_, ⟨_, rfl⟩, hW, hsame.mono (by decide) (by decide)⟩
  · exact retOut X6 hx Bd.returns rfl (Or.inr (Or.inl ⟨rfl, rfl, _, rfl⟩)) (hb hby d1_11) hr
  · show Q1_1 Z a1 q2 h0 n0 _ T6.heap _
    rw [e6]
    exact ⟨rfl, N0, rfl⟩
def Q1_2 (Z : State) (a1 : Addr) (q2 : Int64) (h0 : Heap) (n0 : Nat) (v : Option Value) (h : Heap) (L : List Loc) : Prop := v = some (.long ((q2 / (10000000000 : Int64)) - ((q2 / (10000000000 : Int64)) / (10 : Int64)) * (10 : Int64))) ∧ Fr n0 L ∧ h = h0
set_option maxRecDepth 65536 in
set_option maxHeartbeats 40000000 in
theorem rm1_2 (l : Launch) (Z : State) (a0 : Array Value) (hw : ∀ d ∈ tables_1, d.before a0 Z = true) (ws : List Jvm.Cond) (a1 : Addr) (q2 : Int64) (h0 : Heap) (n0 : Nat) (Z0 : n0 ≤ h0.size) (F3 : Fld Z h0 a1 zs0 "unit" "J" (.long 10000000000)) (F5 : Fld Z h0 a1 zs0 "span" "J" (.long 10)) :
    MetFree l zm0 (head1 (Jvm.Cond.code zm0 prog_6_method_7_code 3 (some .long) :: ws) ({ frames := 0, cells := 0, slots := 0, locals := 0 } : Room)) (fun a U => a = #[(.ref a1), (.long q2)] ∧ Z.Warmed39 U.vm ∧ U.heap = h0) (fun _ _ _ _ _ => True) (fun _ U o U' => ∃ v L, o = .returned v ∧ Q1_2 Z a1 q2 h0 n0 v U'.heap L ∧ FrameEnd U o U' L ({ frames := 0, cells := 0, slots := 0, locals := 0 } : Room).cells ({ frames := 0, cells := 0, slots := 0, locals := 0 } : Room).slots) := by
  refine MetFree.of_bodySF (plainFor_of_name pn_com_example_strict_ledger_strictledger_CollationCounter_Field) hisR ?_
  intro p e s m args below meth c s₁ Bd hml0 hP hK
  obtain ⟨rfl, hZ, hh⟩ := hP
  have hx := Bd.exec
  have hby := Bd.bytes
  have hml : c.maxLocals = 3 := hml0
  have hown : s.vm.findClass zs0 = some m.cls := findClass_of_methodNamed Bd.named
  have hnm := (name_of_methodNamed Bd.named Bd.method).1
  have X0 : Stand p l e ({ frames := 0, cells := 0, slots := 0, locals := 0 } : Room) s m #[(.ref a1), (.long q2)] below meth c s₁ [] 0 0 := Stand.of_body Bd
  have e0 : s₁.heap = h0 := by rw [← hh, Bd.state]; rfl
  have N0 := Fr.nil n0
  refine own_pre (g' := mkF m 0 (lc9 a1 q2) []) (ef_0 m a1 q2) ?_
  obtain ⟨T4, X4, e4, st4⟩ := getF X0 hx hZ hown (host := "") (Or.inl (ww hw 15 rfl)) Via.refl e0 F3 (g := (mkF m 2 (lc9 a1 q2) [(.ref a1), (.long q2)])) rfl rfl (hb hby d1_2)
  obtain ⟨T6, X6, e6, st6⟩ := getF X4 hx hZ hown (host := "") (Or.inl (ww hw 17 rfl)) Via.refl e4 F5 (g := (mkF m 7 (lc9 a1 q2) [(.ref a1), (.long (q2 / (10000000000 : Int64)))])) rfl rfl (hb hby d1_7)
  refine own_go (U' := T6.setTop (mkF m 11 (lc9 a1 q2) [(.long ((q2 / (10000000000 : Int64)) - ((q2 / (10000000000 : Int64)) / (10 : Int64)) * (10 : Int64)))])) (fun t k => olloadN X0 hx hby d1_0 rfl (oaloadN X0 hx hby d1_1 rfl rfl (st4 _ (oldiv X4 hx hby d1_5 (by decide) (oaloadN X4 hx hby d1_6 rfl rfl (st6 _ (olrem X6 hx hby d1_10 (by decide) k))))))) ?_
  obtain ⟨fs, hr, hrun, hended, hW, hsame⟩ := X6.leave (v := some (.long ((q2 / (10000000000 : Int64)) - ((q2 / (10000000000 : Int64)) / (10 : Int64)) * (10 : Int64)))) (fun h => by rw [Bd.returns] at h; cases h)
  refine own_out ⟨_, _, ?_, hrun, hended, _, _, rfl, ?_, ⟨_, rfl⟩, hW, hsame.mono (by decide) (by decide)⟩
  · exact retOut X6 hx Bd.returns rfl (Or.inr (Or.inl ⟨rfl, rfl, _, rfl⟩)) (hb hby d1_11) hr
  · show Q1_2 Z a1 q2 h0 n0 _ T6.heap _
    rw [e6]
    exact ⟨rfl, N0, rfl⟩
def Q1_3 (Z : State) (a1 : Addr) (q2 : Int64) (h0 : Heap) (n0 : Nat) (v : Option Value) (h : Heap) (L : List Loc) : Prop := v = some (.long ((q2 / (1000000000 : Int64)) - ((q2 / (1000000000 : Int64)) / (10 : Int64)) * (10 : Int64))) ∧ Fr n0 L ∧ h = h0
set_option maxRecDepth 65536 in
set_option maxHeartbeats 40000000 in
theorem rm1_3 (l : Launch) (Z : State) (a0 : Array Value) (hw : ∀ d ∈ tables_1, d.before a0 Z = true) (ws : List Jvm.Cond) (a1 : Addr) (q2 : Int64) (h0 : Heap) (n0 : Nat) (Z0 : n0 ≤ h0.size) (F3 : Fld Z h0 a1 zs0 "unit" "J" (.long 1000000000)) (F5 : Fld Z h0 a1 zs0 "span" "J" (.long 10)) :
    MetFree l zm0 (head1 (Jvm.Cond.code zm0 prog_6_method_7_code 3 (some .long) :: ws) ({ frames := 0, cells := 0, slots := 0, locals := 0 } : Room)) (fun a U => a = #[(.ref a1), (.long q2)] ∧ Z.Warmed39 U.vm ∧ U.heap = h0) (fun _ _ _ _ _ => True) (fun _ U o U' => ∃ v L, o = .returned v ∧ Q1_3 Z a1 q2 h0 n0 v U'.heap L ∧ FrameEnd U o U' L ({ frames := 0, cells := 0, slots := 0, locals := 0 } : Room).cells ({ frames := 0, cells := 0, slots := 0, locals := 0 } : Room).slots) := by
  refine MetFree.of_bodySF (plainFor_of_name pn_com_example_strict_ledger_strictledger_CollationCounter_Field) hisR ?_
  intro p e s m args below meth c s₁ Bd hml0 hP hK
  obtain ⟨rfl, hZ, hh⟩ := hP
  have hx := Bd.exec
  have hby := Bd.bytes
  have hml : c.maxLocals = 3 := hml0
  have hown : s.vm.findClass zs0 = some m.cls := findClass_of_methodNamed Bd.named
  have hnm := (name_of_methodNamed Bd.named Bd.method).1
  have X0 : Stand p l e ({ frames := 0, cells := 0, slots := 0, locals := 0 } : Room) s m #[(.ref a1), (.long q2)] below meth c s₁ [] 0 0 := Stand.of_body Bd
  have e0 : s₁.heap = h0 := by rw [← hh, Bd.state]; rfl
  have N0 := Fr.nil n0
  refine own_pre (g' := mkF m 0 (lc9 a1 q2) []) (ef_0 m a1 q2) ?_
  obtain ⟨T4, X4, e4, st4⟩ := getF X0 hx hZ hown (host := "") (Or.inl (ww hw 15 rfl)) Via.refl e0 F3 (g := (mkF m 2 (lc9 a1 q2) [(.ref a1), (.long q2)])) rfl rfl (hb hby d1_2)
  obtain ⟨T6, X6, e6, st6⟩ := getF X4 hx hZ hown (host := "") (Or.inl (ww hw 17 rfl)) Via.refl e4 F5 (g := (mkF m 7 (lc9 a1 q2) [(.ref a1), (.long (q2 / (1000000000 : Int64)))])) rfl rfl (hb hby d1_7)
  refine own_go (U' := T6.setTop (mkF m 11 (lc9 a1 q2) [(.long ((q2 / (1000000000 : Int64)) - ((q2 / (1000000000 : Int64)) / (10 : Int64)) * (10 : Int64)))])) (fun t k => olloadN X0 hx hby d1_0 rfl (oaloadN X0 hx hby d1_1 rfl rfl (st4 _ (oldiv X4 hx hby d1_5 (by decide) (oaloadN X4 hx hby d1_6 rfl rfl (st6 _ (olrem X6 hx hby d1_10 (by decide) k))))))) ?_
  obtain ⟨fs, hr, hrun, hended, hW, hsame⟩ := X6.leave (v := some (.long ((q2 / (1000000000 : Int64)) - ((q2 / (1000000000 : Int64)) / (10 : Int64)) * (10 : Int64)))) (fun h => by rw [Bd.returns] at h; cases h)
  refine own_out ⟨_, _, ?_, hrun, hended, _, _, rfl, ?_, ⟨_, rfl⟩, hW, hsame.mono (by decide) (by decide)⟩
  · exact retOut X6 hx Bd.returns rfl (Or.inr (Or.inl ⟨rfl, rfl, _, rfl⟩)) (hb hby d1_11) hr
  · show Q1_3 Z a1 q2 h0 n0 _ T6.heap _
    rw [e6]
    exact ⟨rfl, N0, rfl⟩
def Q1_4 (Z : State) (a1 : Addr) (q2 : Int64) (h0 : Heap) (n0 : Nat) (v : Option Value) (h : Heap) (L : List Loc) : Prop := v = some (.long ((q2 / (100000000 : Int64)) - ((q2 / (100000000 : Int64)) / (10 : Int64)) * (10 : Int64))) ∧ Fr n0 L ∧ h = h0
set_option maxRecDepth 65536 in
set_option maxHeartbeats 40000000 in
theorem rm1_4 (l : Launch) (Z : State) (a0 : Array Value) (hw : ∀ d ∈ tables_1, d.before a0 Z = true) (ws : List Jvm.Cond) (a1 : Addr) (q2 : Int64) (h0 : Heap) (n0 : Nat) (Z0 : n0 ≤ h0.size) (F3 : Fld Z h0 a1 zs0 "unit" "J" (.long 100000000)) (F5 : Fld Z h0 a1 zs0 "span" "J" (.long 10)) :
    MetFree l zm0 (head1 (Jvm.Cond.code zm0 prog_6_method_7_code 3 (some .long) :: ws) ({ frames := 0, cells := 0, slots := 0, locals := 0 } : Room)) (fun a U => a = #[(.ref a1), (.long q2)] ∧ Z.Warmed39 U.vm ∧ U.heap = h0) (fun _ _ _ _ _ => True) (fun _ U o U' => ∃ v L, o = .returned v ∧ Q1_4 Z a1 q2 h0 n0 v U'.heap L ∧ FrameEnd U o U' L ({ frames := 0, cells := 0, slots := 0, locals := 0 } : Room).cells ({ frames := 0, cells := 0, slots := 0, locals := 0 } : Room).slots) := by
  refine MetFree.of_bodySF (plainFor_of_name pn_com_example_strict_ledger_strictledger_CollationCounter_Field) hisR ?_
  intro p e s m args below meth c s₁ Bd hml0 hP hK
  obtain ⟨rfl, hZ, hh⟩ := hP
  have hx := Bd.exec
  have hby := Bd.bytes
  have hml : c.maxLocals = 3 := hml0
  have hown : s.vm.findClass zs0 = some m.cls := findClass_of_methodNamed Bd.named
  have hnm := (name_of_methodNamed Bd.named Bd.method).1
  have X0 : Stand p l e ({ frames := 0, cells := 0, slots := 0, locals := 0 } : Room) s m #[(.ref a1), (.long q2)] below meth c s₁ [] 0 0 := Stand.of_body Bd
  have e0 : s₁.heap = h0 := by rw [← hh, Bd.state]; rfl
  have N0 := Fr.nil n0
  refine own_pre (g' := mkF m 0 (lc9 a1 q2) []) (ef_0 m a1 q2) ?_
  obtain ⟨T4, X4, e4, st4⟩ := getF X0 hx hZ hown (host := "") (Or.inl (ww hw 15 rfl)) Via.refl e0 F3 (g := (mkF m 2 (lc9 a1 q2) [(.ref a1), (.long q2)])) rfl rfl (hb hby d1_2)
  obtain ⟨T6, X6, e6, st6⟩ := getF X4 hx hZ hown (host := "") (Or.inl (ww hw 17 rfl)) Via.refl e4 F5 (g := (mkF m 7 (lc9 a1 q2) [(.ref a1), (.long (q2 / (100000000 : Int64)))])) rfl rfl (hb hby d1_7)
  refine own_go (U' := T6.setTop (mkF m 11 (lc9 a1 q2) [(.long ((q2 / (100000000 : Int64)) - ((q2 / (100000000 : Int64)) / (10 : Int64)) * (10 : Int64)))])) (fun t k => olloadN X0 hx hby d1_0 rfl (oaloadN X0 hx hby d1_1 rfl rfl (st4 _ (oldiv X4 hx hby d1_5 (by decide) (oaloadN X4 hx hby d1_6 rfl rfl (st6 _ (olrem X6 hx hby d1_10 (by decide) k))))))) ?_
  obtain ⟨fs, hr, hrun, hended, hW, hsame⟩ := X6.leave (v := some (.long ((q2 / (100000000 : Int64)) - ((q2 / (100000000 : Int64)) / (10 : Int64)) * (10 : Int64)))) (fun h => by rw [Bd.returns] at h; cases h)
  refine own_out ⟨_, _, ?_, hrun, hended, _, _, rfl, ?_, ⟨_, rfl⟩, hW, hsame.mono (by decide) (by decide)⟩
  · exact retOut X6 hx Bd.returns rfl (Or.inr (Or.inl ⟨rfl, rfl, _, rfl⟩)) (hb hby d1_11) hr
  · show Q1_4 Z a1 q2 h0 n0 _ T6.heap _
    rw [e6]
    exact ⟨rfl, N0, rfl⟩
def Q1_5 (Z : State) (a1 : Addr) (q2 : Int64) (h0 : Heap) (n0 : Nat) (v : Option Value) (h : Heap) (L : List Loc) : Prop := v = some (.long ((q2 / (1 : Int64)) - ((q2 / (1 : Int64)) / (100000000 : Int64)) * (100000000 : Int64))) ∧ Fr n0 L ∧ h = h0
set_option maxRecDepth 65536 in
set_option maxHeartbeats 40000000 in
theorem rm1_5 (l : Launch) (Z : State) (a0 : Array Value) (hw : ∀ d ∈ tables_1, d.before a0 Z = true) (ws : List Jvm.Cond) (a1 : Addr) (q2 : Int64) (h0 : Heap) (n0 : Nat) (Z0 : n0 ≤ h0.size) (F3 : Fld Z h0 a1 zs0 "unit" "J" (.long 1)) (F5 : Fld Z h0 a1 zs0 "span" "J" (.long 100000000)) :
    MetFree l zm0 (head1 (Jvm.Cond.code zm0 prog_6_method_7_code 3 (some .long) :: ws) ({ frames := 0, cells := 0, slots := 0, locals := 0 } : Room)) (fun a U => a = #[(.ref a1), (.long q2)] ∧ Z.Warmed39 U.vm ∧ U.heap = h0) (fun _ _ _ _ _ => True) (fun _ U o U' => ∃ v L, o = .returned v ∧ Q1_5 Z a1 q2 h0 n0 v U'.heap L ∧ FrameEnd U o U' L ({ frames := 0, cells := 0, slots := 0, locals := 0 } : Room).cells ({ frames := 0, cells := 0, slots := 0, locals := 0 } : Room).slots) := by
  refine MetFree.of_bodySF (plainFor_of_name pn_com_example_strict_ledger_strictledger_CollationCounter_Field) hisR ?_
  intro p e s m args below meth c s₁ Bd hml0 hP hK
  obtain ⟨rfl, hZ, hh⟩ := hP
  have hx := Bd.exec
  have hby := Bd.bytes
  have hml : c.maxLocals = 3 := hml0
  have hown : s.vm.findClass zs0 = some m.cls := findClass_of_methodNamed Bd.named
  have hnm := (name_of_methodNamed Bd.named Bd.method).1
  have X0 : Stand p l e ({ frames := 0, cells := 0, slots := 0, locals := 0 } : Room) s m #[(.ref a1), (.long q2)] below meth c s₁ [] 0 0 := Stand.of_body Bd
  have e0 : s₁.heap = h0 := by rw [← hh, Bd.state]; rfl
  have N0 := Fr.nil n0
  refine own_pre (g' := mkF m 0 (lc9 a1 q2) []) (ef_0 m a1 q2) ?_
  obtain ⟨T4, X4, e4, st4⟩ := getF X0 hx hZ hown (host := "") (Or.inl (ww hw 15 rfl)) Via.refl e0 F3 (g := (mkF m 2 (lc9 a1 q2) [(.ref a1), (.long q2)])) rfl rfl (hb hby d1_2)
  obtain ⟨T6, X6, e6, st6⟩ := getF X4 hx hZ hown (host := "") (Or.inl (ww hw 17 rfl)) Via.refl e4 F5 (g := (mkF m 7 (lc9 a1 q2) [(.ref a1), (.long (q2 / (1 : Int64)))])) rfl rfl (hb hby d1_7)
  refine own_go (U' := T6.setTop (mkF m 11 (lc9 a1 q2) [(.long ((q2 / (1 : Int64)) - ((q2 / (1 : Int64)) / (100000000 : Int64)) * (100000000 : Int64)))])) (fun t k => olloadN X0 hx hby d1_0 rfl (oaloadN X0 hx hby d1_1 rfl rfl (st4 _ (oldiv X4 hx hby d1_5 (by decide) (oaloadN X4 hx hby d1_6 rfl rfl (st6 _ (olrem X6 hx hby d1_10 (by decide) k))))))) ?_
  obtain ⟨fs, hr, hrun, hended, hW, hsame⟩ := X6.leave (v := some (.long ((q2 / (1 : Int64)) - ((q2 / (1 : Int64)) / (100000000 : Int64)) * (100000000 : Int64)))) (fun h => by rw [Bd.returns] at h; cases h)
  refine own_out ⟨_, _, ?_, hrun, hended, _, _, rfl, ?_, ⟨_, rfl⟩, hW, hsame.mono (by decide) (by decide)⟩
  · exact retOut X6 hx Bd.returns rfl (Or.inr (Or.inl ⟨rfl, rfl, _, rfl⟩)) (hb hby d1_11) hr
  · show Q1_5 Z a1 q2 h0 n0 _ T6.heap _
    rw [e6]
    exact ⟨rfl, N0, rfl⟩
set_option maxRecDepth 65536 in
set_option maxHeartbeats 40000000 in
theorem rm0_6 (l : Launch) (Z : State) (a0 : Array Value) (hw : ∀ d ∈ tables_1, d.before a0 Z = true) (ws : List Jvm.Cond) (p1 : Int32) (p2 : Int32) (p3 : Int32) (p4 : Int32) (p5 : Int32) (p6 : Int32) (a14 : Addr) (a24 : Addr) (a34 : Addr) (a44 : Addr) (a54 : Addr) (a64 : Addr) (h0 : Heap) (n0 : Nat) (Z0 : n0 ≤ h0.size) (F15 : Sta Z h0 zs0 "FIRST_LEG_ENTRIES" zs1 (.ref a14)) (F18 : Exa Z h0 a14 zs0) (F19 : Fld Z h0 a14 zs0 "unit" "J" (.long 1000000000000)) (F20 : Fld Z h0 a14 zs0 "span" "J" (.long 1000)) (hc22 : (((((((((((p1 &&& (2147483647 : Int32)) % (1000 : Int32)).toInt64) * (1000000000000 : Int64)) + ((((p2 &&& (2147483647 : Int32)) % (10 : Int32)).toInt64) * (100000000000 : Int64))) + ((((p3 &&& (2147483647 : Int32)) % (10 : Int32)).toInt64) * (10000000000 : Int64))) + ((((p4 &&& (2147483647 : Int32)) % (10 : Int32)).toInt64) * (1000000000 : Int64))) + ((((p5 &&& (2147483647 : Int32)) % (10 : Int32)).toInt64) * (100000000 : Int64))) + (((p6 &&& (2147483647 : Int32)) % (100000000 : Int32)).toInt64)) / (1000000000000 : Int64)) - (((((((((((p1 &&& (2147483647 : Int32)) % (1000 : Int32)).toInt64) * (1000000000000 : Int64)) + ((((p2 &&& (2147483647 : Int32)) % (10 : Int32)).toInt64) * (100000000000 : Int64))) + ((((p3 &&& (2147483647 : Int32)) % (10 : Int32)).toInt64) * (10000000000 : Int64))) + ((((p4 &&& (2147483647 : Int32)) % (10 : Int32)).toInt64) * (1000000000 : Int64))) + ((((p5 &&& (2147483647 : Int32)) % (10 : Int32)).toInt64) * (100000000 : Int64))) + (((p6 &&& (2147483647 : Int32)) % (100000000 : Int32)).toInt64)) / (1000000000000 : Int64)) / (1000 : Int64)) * (1000 : Int64)) = (((p1 &&& (2147483647 : Int32)) % (1000 : Int32)).toInt64)) (F25 : Sta Z h0 zs0 "CLOSED" zs1 (.ref a24)) (F28 : Exa Z h0 a24 zs0) (F29 : Fld Z h0 a24 zs0 "unit" "J" (.long 100000000000)) (F30 : Fld Z h0 a24 zs0 "span" "J" (.long 10)) (hc32 : (((((((((((p1 &&& (2147483647 : Int32)) % (1000 : Int32)).toInt64) * (1000000000000 : Int64)) + ((((p2 &&& (2147483647 : Int32)) % (10 : Int32)).toInt64) * (100000000000 : Int64))) + ((((p3 &&& (2147483647 : Int32)) % (10 : Int32)).toInt64) * (10000000000 : Int64))) + ((((p4 &&& (2147483647 : Int32)) % (10 : Int32)).toInt64) * (1000000000 : Int64))) + ((((p5 &&& (2147483647 : Int32)) % (10 : Int32)).toInt64) * (100000000 : Int64))) + (((p6 &&& (2147483647 : Int32)) % (100000000 : Int32)).toInt64)) / (100000000000 : Int64)) - (((((((((((p1 &&& (2147483647 : Int32)) % (1000 : Int32)).toInt64) * (1000000000000 : Int64)) + ((((p2 &&& (2147483647 : Int32)) % (10 : Int32)).toInt64) * (100000000000 : Int64))) + ((((p3 &&& (2147483647 : Int32)) % (10 : Int32)).toInt64) * (10000000000 : Int64))) + ((((p4 &&& (2147483647 : Int32)) % (10 : Int32)).toInt64) * (1000000000 : Int64))) + ((((p5 &&& (2147483647 : Int32)) % (10 : Int32)).toInt64) * (100000000 : Int64))) + (((p6 &&& (2147483647 : Int32)) % (100000000 : Int32)).toInt64)) / (100000000000 : Int64)) / (10 : Int64)) * (10 : Int64)) = (((p2 &&& (2147483647 : Int32)) % (10 : Int32)).toInt64)) (F35 : Sta Z h0 zs0 "WORK_DONE" zs1 (.ref a34)) (F38 : Exa Z h0 a34 zs0) (F39 : Fld Z h0 a34 zs0 "unit" "J" (.long 10000000000)) (F40 : Fld Z h0 a34 zs0 "span" "J" (.long 10)) (hc42 : (((((((((((p1 &&& (2147483647 : Int32)) % (1000 : Int32)).toInt64) * (1000000000000 : Int64)) + ((((p2 &&& (2147483647 : Int32)) % (10 : Int32)).toInt64) * (100000000000 : Int64))) + ((((p3 &&& (2147483647 : Int32)) % (10 : Int32)).toInt64) * (10000000000 : Int64))) + ((((p4 &&& (2147483647 : Int32)) % (10 : Int32)).toInt64) * (1000000000 : Int64))) + ((((p5 &&& (2147483647 : Int32)) % (10 : Int32)).toInt64) * (100000000 : Int64))) + (((p6 &&& (2147483647 : Int32)) % (100000000 : Int32)).toInt64)) / (10000000000 : Int64)) - (((((((((((p1 &&& (2147483647 : Int32)) % (1000 : Int32)).toInt64) * (1000000000000 : Int64)) + ((((p2 &&& (2147483647 : Int32)) % (10 : Int32)).toInt64) * (100000000000 : Int64))) + ((((p3 &&& (2147483647 : Int32)) % (10 : Int32)).toInt64) * (10000000000 : Int64))) + ((((p4 &&& (2147483647 : Int32)) % (10 : Int32)).toInt64) * (1000000000 : Int64))) + ((((p5 &&& (2147483647 : Int32)) % (10 : Int32)).toInt64) * (100000000 : Int64))) + (((p6 &&& (2147483647 : Int32)) % (100000000 : Int32)).toInt64)) / (10000000000 : Int64)) / (10 : Int64)) * (10 : Int64)) = (((p3 &&& (2147483647 : Int32)) % (10 : Int32)).toInt64)) (F45 : Sta Z h0 zs0 "CHILDREN_SPAWNED" zs1 (.ref a44)) (F48 : Exa Z h0 a44 zs0) (F49 : Fld Z h0 a44 zs0 "unit" "J" (.long 1000000000)) (F50 : Fld Z h0 a44 zs0 "span" "J" (.long 10)) (hc52 : (((((((((((p1 &&& (2147483647 : Int32)) % (1000 : Int32)).toInt64) * (1000000000000 : Int64)) + ((((p2 &&& (2147483647 : Int32)) % (10 : Int32)).toInt64) * (100000000000 : Int64))) + ((((p3 &&& (2147483647 : Int32)) % (10 : Int32)).toInt64) * (10000000000 : Int64))) + ((((p4 &&& (2147483647 : Int32)) % (10 : Int32)).toInt64) * (1000000000 : Int64))) + ((((p5 &&& (2147483647 : Int32)) % (10 : Int32)).toInt64) * (100000000 : Int64))) + (((p6 &&& (2147483647 : Int32)) % (100000000 : Int32)).toInt64)) / (1000000000 : Int64)) - (((((((((((p1 &&& (2147483647 : Int32)) % (1000 : Int32)).toInt64) * (1000000000000 : Int64)) + ((((p2 &&& (2147483647 : Int32)) % (10 : Int32)).toInt64) * (100000000000 : Int64))) + ((((p3 &&& (2147483647 : Int32)) % (10 : Int32)).toInt64) * (10000000000 : Int64))) + ((((p4 &&& (2147483647 : Int32)) % (10 : Int32)).toInt64) * (1000000000 : Int64))) + ((((p5 &&& (2147483647 : Int32)) % (10 : Int32)).toInt64) * (100000000 : Int64))) + (((p6 &&& (2147483647 : Int32)) % (100000000 : Int32)).toInt64)) / (1000000000 : Int64)) / (10 : Int64)) * (10 : Int64)) = (((p4 &&& (2147483647 : Int32)) % (10 : Int32)).toInt64)) (F55 : Sta Z h0 zs0 "COMPLETION_DONE" zs1 (.ref a54)) (F58 : Exa Z h0 a54 zs0) (F59 : Fld Z h0 a54 zs0 "unit" "J" (.long 100000000)) (F60 : Fld Z h0 a54 zs0 "span" "J" (.long 10)) (hc62 : (((((((((((p1 &&& (2147483647 : Int32)) % (1000 : Int32)).toInt64) * (1000000000000 : Int64)) + ((((p2 &&& (2147483647 : Int32)) % (10 : Int32)).toInt64) * (100000000000 : Int64))) + ((((p3 &&& (2147483647 : Int32)) % (10 : Int32)).toInt64) * (10000000000 : Int64))) + ((((p4 &&& (2147483647 : Int32)) % (10 : Int32)).toInt64) * (1000000000 : Int64))) + ((((p5 &&& (2147483647 : Int32)) % (10 : Int32)).toInt64) * (100000000 : Int64))) + (((p6 &&& (2147483647 : Int32)) % (100000000 : Int32)).toInt64)) / (100000000 : Int64)) - (((((((((((p1 &&& (2147483647 : Int32)) % (1000 : Int32)).toInt64) * (1000000000000 : Int64)) + ((((p2 &&& (2147483647 : Int32)) % (10 : Int32)).toInt64) * (100000000000 : Int64))) + ((((p3 &&& (2147483647 : Int32)) % (10 : Int32)).toInt64) * (10000000000 : Int64))) + ((((p4 &&& (2147483647 : Int32)) % (10 : Int32)).toInt64) * (1000000000 : Int64))) + ((((p5 &&& (2147483647 : Int32)) % (10 : Int32)).toInt64) * (100000000 : Int64))) + (((p6 &&& (2147483647 : Int32)) % (100000000 : Int32)).toInt64)) / (100000000 : Int64)) / (10 : Int64)) * (10 : Int64)) = (((p5 &&& (2147483647 : Int32)) % (10 : Int32)).toInt64)) (F65 : Sta Z h0 zs0 "ENTRIES" zs1 (.ref a64)) (F68 : Exa Z h0 a64 zs0) (F69 : Fld Z h0 a64 zs0 "unit" "J" (.long 1)) (F70 : Fld Z h0 a64 zs0 "span" "J" (.long 100000000)) (hc72 : (((((((((((p1 &&& (2147483647 : Int32)) % (1000 : Int32)).toInt64) * (1000000000000 : Int64)) + ((((p2 &&& (2147483647 : Int32)) % (10 : Int32)).toInt64) * (100000000000 : Int64))) + ((((p3 &&& (2147483647 : Int32)) % (10 : Int32)).toInt64) * (10000000000 : Int64))) + ((((p4 &&& (2147483647 : Int32)) % (10 : Int32)).toInt64) * (1000000000 : Int64))) + ((((p5 &&& (2147483647 : Int32)) % (10 : Int32)).toInt64) * (100000000 : Int64))) + (((p6 &&& (2147483647 : Int32)) % (100000000 : Int32)).toInt64)) / (1 : Int64)) - (((((((((((p1 &&& (2147483647 : Int32)) % (1000 : Int32)).toInt64) * (1000000000000 : Int64)) + ((((p2 &&& (2147483647 : Int32)) % (10 : Int32)).toInt64) * (100000000000 : Int64))) + ((((p3 &&& (2147483647 : Int32)) % (10 : Int32)).toInt64) * (10000000000 : Int64))) + ((((p4 &&& (2147483647 : Int32)) % (10 : Int32)).toInt64) * (1000000000 : Int64))) + ((((p5 &&& (2147483647 : Int32)) % (10 : Int32)).toInt64) * (100000000 : Int64))) + (((p6 &&& (2147483647 : Int32)) % (100000000 : Int32)).toInt64)) / (1 : Int64)) / (100000000 : Int64)) * (100000000 : Int64)) = (((p6 &&& (2147483647 : Int32)) % (100000000 : Int32)).toInt64)) :
    MetFree l x (head1 (Jvm.Cond.code x code maxLocals ret :: ws) room_1) (fun a U => a = #[(.int p1), (.int p2), (.int p3), (.int p4), (.int p5), (.int p6)] ∧ Z.Warmed39 U.vm ∧ U.heap = h0) (fun _ _ _ _ _ => True) (fun _ U o U' => ∃ v L, o = .returned v ∧ QLaw n0 v U'.heap L ∧ FrameEnd U o U' L room_1.cells room_1.slots) := by
  refine MetFree.of_bodySF (plainFor_of_name pn_com_example_strict_ledger_strictledger_CollationCounterFieldReadPinLaw) hisR ?_
  intro p e s m args below meth c s₁ Bd hml0 hP hK
  obtain ⟨rfl, hZ, hh⟩ := hP
  have hx := Bd.exec
  have hby := Bd.bytes
  have hml : c.maxLocals = 21 := hml0
  have hown : s.vm.findClass "com/example/strict_ledger/strictledger/CollationCounterFieldReadPinLaw" = some m.cls := findClass_of_methodNamed Bd.named
  have hnm := (name_of_methodNamed Bd.named Bd.method).1
  have X0 : Stand p l e room_1 s m #[(.int p1), (.int p2), (.int p3), (.int p4), (.int p5), (.int p6)] below meth c s₁ [] 0 0 := Stand.of_body Bd
  have e0 : s₁.heap = h0 := by rw [← hh, Bd.state]; rfl
  have N0 := Fr.nil n0
  refine own_pre (g' := mkF m 0 (lc0 p1 p2 p3 p4 p5 p6) []) (ef_1 m p1 p2 p3 p4 p5 p6) ?_
  refine own_go (U' := s₁.setTop (mkF m 11 (lc1 p1 p2 p3 p4 p5 p6 (((p1 &&& (2147483647 : Int32)) % (1000 : Int32)).toInt64)) [])) (fun t k => oiloadN X0 hx hby at_0 rfl (X0.ldcInt hx hown (mvT hZ (ww hw 0 rfl)) (g := (mkF m 1 (lc0 p1 p2 p3 p4 p5 p6) [(.int p1)])) rfl (hb hby at_1) _ (oiand X0 hx hby at_3 (osipush X0 hx hby at_4 (oirem X0 hx hby at_7 (by decide) (oi2l X0 hx hby at_8 (olstore X0 hx hby at_9 (lc1 p1 p2 p3 p4 p5 p6 (((p1 &&& (2147483647 : Int32)) % (1000 : Int32)).toInt64)) rfl k))))))) ?_
  obtain ⟨z7, hz7⟩ : ∃ z, z = (((p1 &&& (2147483647 : Int32)) % (1000 : Int32)).toInt64) := ⟨_, rfl⟩
  rw [← hz7]
  refine own_go (U' := s₁.setTop (mkF m 21 (lc2 p1 p2 p3 p4 p5 p6 z7 (((p2 &&& (2147483647 : Int32)) % (10 : Int32)).toInt64)) [])) (fun t k => oiloadN X0 hx hby at_11 rfl (X0.ldcInt hx hown (mvT hZ (ww hw 0 rfl)) (g := (mkF m 12 (lc1 p1 p2 p3 p4 p5 p6 z7) [(.int p2)])) rfl (hb hby at_12) _ (oiand X0 hx hby at_14 (obipush X0 hx hby at_15 (oirem X0 hx hby at_17 (by decide) (oi2l X0 hx hby at_18 (olstore X0 hx hby at_19 (lc2 p1 p2 p3 p4 p5 p6 z7 (((p2 &&& (2147483647 : Int32)) % (10 : Int32)).toInt64)) rfl k))))))) ?_
  obtain ⟨z8, hz8⟩ : ∃ z, z = (((p2 &&& (2147483647 : Int32)) % (10 : Int32)).toInt64) := ⟨_, rfl⟩
  rw [← hz8]
  refine own_go (U' := s₁.setTop (mkF m 31 (lc3 p1 p2 p3 p4 p5 p6 z7 z8 (((p3 &&& (2147483647 : Int32)) % (10 : Int32)).toInt64)) [])) (fun t k => oiloadN X0 hx hby at_21 rfl (X0.ldcInt hx hown (mvT hZ (ww hw 0 rfl)) (g := (mkF m 22 (lc2 p1 p2 p3 p4 p5 p6 z7 z8) [(.int p3)])) rfl (hb hby at_22) _ (oiand X0 hx hby at_24 (obipush X0 hx hby at_25 (oirem X0 hx hby at_27 (by decide) (oi2l X0 hx hby at_28 (olstore X0 hx hby at_29 (lc3 p1 p2 p3 p4 p5 p6 z7 z8 (((p3 &&& (2147483647 : Int32)) % (10 : Int32)).toInt64)) rfl k))))))) ?_
  obtain ⟨z9, hz9⟩ : ∃ z, z = (((p3 &&& (2147483647 : Int32)) % (10 : Int32)).toInt64) := ⟨_, rfl⟩
  rw [← hz9]
  refine own_go (U' := s₁.setTop (mkF m 41 (lc4 p1 p2 p3 p4 p5 p6 z7 z8 z9 (((p4 &&& (2147483647 : Int32)) % (10 : Int32)).toInt64)) [])) (fun t k => oiloadN X0 hx hby at_31 rfl (X0.ldcInt hx hown (mvT hZ (ww hw 0 rfl)) (g := (mkF m 32 (lc3 p1 p2 p3 p4 p5 p6 z7 z8 z9) [(.int p4)])) rfl (hb hby at_32) _ (oiand X0 hx hby at_34 (obipush X0 hx hby at_35 (oirem X0 hx hby at_37 (by decide) (oi2l X0 hx hby at_38 (olstore X0 hx hby at_39 (lc4 p1 p2 p3 p4 p5 p6 z7 z8 z9 (((p4 &&& (2147483647 : Int32)) % (10 : Int32)).toInt64)) rfl k))))))) ?_
  obtain ⟨z10, hz10⟩ : ∃ z, z = (((p4 &&& (2147483647 : Int32)) % (10 : Int32)).toInt64) := ⟨_, rfl⟩
  rw [← hz10]
  refine own_go (U' := s₁.setTop (mkF m 52 (lc5 p1 p2 p3 p4 p5 p6 z7 z8 z9 z10 (((p5 &&& (2147483647 : Int32)) % (10 : Int32)).toInt64)) [])) (fun t k => oiload X0 hx hby at_41 rfl (X0.ldcInt hx hown (mvT hZ (ww hw 0 rfl)) (g := (mkF m 43 (lc4 p1 p2 p3 p4 p5 p6 z7 z8 z9 z10) [(.int p5)])) rfl (hb hby at_43) _ (oiand X0 hx hby at_45 (obipush X0 hx hby at_46 (oirem X0 hx hby at_48 (by decide) (oi2l X0 hx hby at_49 (olstore X0 hx hby at_50 (lc5 p1 p2 p3 p4 p5 p6 z7 z8 z9 z10 (((p5 &&& (2147483647 : Int32)) % (10 : Int32)).toInt64)) rfl k))))))) ?_
  obtain ⟨z11, hz11⟩ : ∃ z, z = (((p5 &&& (2147483647 : Int32)) % (10 : Int32)).toInt64) := ⟨_, rfl⟩
  rw [← hz11]
  refine own_go (U' := s₁.setTop (mkF m 63 (lc6 p1 p2 p3 p4 p5 p6 z7 z8 z9 z10 z11 (((p6 &&& (2147483647 : Int32)) % (100000000 : Int32)).toInt64)) [])) (fun t k => oiload X0 hx hby at_52 rfl (X0.ldcInt hx hown (mvT hZ (ww hw 0 rfl)) (g := (mkF m 54 (lc5 p1 p2 p3 p4 p5 p6 z7 z8 z9 z10 z11) [(.int p6)])) rfl (hb hby at_54) _ (oiand X0 hx hby at_56 (X0.ldcInt hx hown (mvT hZ (ww hw 1 rfl)) (g := (mkF m 57 (lc5 p1 p2 p3 p4 p5 p6 z7 z8 z9 z10 z11) [(.int (p6 &&& (2147483647 : Int32)))])) rfl (hb hby at_57) _ (oirem X0 hx hby at_59 (by decide) (oi2l X0 hx hby at_60 (olstore X0 hx hby at_61 (lc6 p1 p2 p3 p4 p5 p6 z7 z8 z9 z10 z11 (((p6 &&& (2147483647 : Int32)) % (100000000 : Int32)).toInt64)) rfl k))))))) ?_
  obtain ⟨z12, hz12⟩ : ∃ z, z = (((p6 &&& (2147483647 : Int32)) % (100000000 : Int32)).toInt64) := ⟨_, rfl⟩
  rw [← hz12]
  refine own_go (U' := s₁.setTop (mkF m 102 (lc7 p1 p2 p3 p4 p5 p6 z7 z8 z9 z10 z11 z12 ((((((z7 * (1000000000000 : Int64)) + (z8 * (100000000000 : Int64))) + (z9 * (10000000000 : Int64))) + (z10 * (1000000000 : Int64))) + (z11 * (100000000 : Int64))) + z12)) [])) (fun t k => olload X0 hx hby at_63 rfl (X0.ldc2Long hx hown (mvT hZ (ww hw 2 rfl)) (g := (mkF m 65 (lc6 p1 p2 p3 p4 p5 p6 z7 z8 z9 z10 z11 z12) [(.long z7)])) rfl (hb hby at_65) _ (olmul X0 hx hby at_68 (olload X0 hx hby at_69 rfl (X0.ldc2Long hx hown (mvT hZ (ww hw 3 rfl)) (g := (mkF m 71 (lc6 p1 p2 p3 p4 p5 p6 z7 z8 z9 z10 z11 z12) [(.long z8), (.long (z7 * (1000000000000 : Int64)))])) rfl (hb hby at_71) _ (olmul X0 hx hby at_74 (oladd X0 hx hby at_75 (olload X0 hx hby at_76 rfl (X0.ldc2Long hx hown (mvT hZ (ww hw 4 rfl)) (g := (mkF m 78 (lc6 p1 p2 p3 p4 p5 p6 z7 z8 z9 z10 z11 z12) [(.long z9), (.long ((z7 * (1000000000000 : Int64)) + (z8 * (100000000000 : Int64))))])) rfl (hb hby at_78) _ (olmul X0 hx hby at_81 (oladd X0 hx hby at_82 (olload X0 hx hby at_83 rfl (X0.ldc2Long hx hown (mvT hZ (ww hw 5 rfl)) (g := (mkF m 85 (lc6 p1 p2 p3 p4 p5 p6 z7 z8 z9 z10 z11 z12) [(.long z10), (.long (((z7 * (1000000000000 : Int64)) + (z8 * (100000000000 : Int64))) + (z9 * (10000000000 : Int64))))])) rfl (hb hby at_85) _ (olmul X0 hx hby at_88 (oladd X0 hx hby at_89 (olload X0 hx hby at_90 rfl (X0.ldc2Long hx hown (mvT hZ (ww hw 6 rfl)) (g := (mkF m 92 (lc6 p1 p2 p3 p4 p5 p6 z7 z8 z9 z10 z11 z12) [(.long z11), (.long ((((z7 * (1000000000000 : Int64)) + (z8 * (100000000000 : Int64))) + (z9 * (10000000000 : Int64))) + (z10 * (1000000000 : Int64))))])) rfl (hb hby at_92) _ (olmul X0 hx hby at_95 (oladd X0 hx hby at_96 (olload X0 hx hby at_97 rfl (oladd X0 hx hby at_99 (olstore X0 hx hby at_100 (lc7 p1 p2 p3 p4 p5 p6 z7 z8 z9 z10 z11 z12 ((((((z7 * (1000000000000 : Int64)) + (z8 * (100000000000 : Int64))) + (z9 * (10000000000 : Int64))) + (z10 * (1000000000 : Int64))) + (z11 * (100000000 : Int64))) + z12)) rfl k)))))))))))))))))))))) ?_
  obtain ⟨z13, hz13⟩ : ∃ z, z = ((((((z7 * (1000000000000 : Int64)) + (z8 * (100000000000 : Int64))) + (z9 * (10000000000 : Int64))) + (z10 * (1000000000 : Int64))) + (z11 * (100000000 : Int64))) + z12) := ⟨_, rfl⟩
  rw [← hz13]
  refine own_go (U' := s₁.setTop (mkF m 107 (lc8 p1 p2 p3 p4 p5 p6 z7 z8 z9 z10 z11 z12 z13 1) [(.int 1)])) (fun t k => oiconst X0 hx hby at_102 (oistore X0 hx hby at_103 (lc8 p1 p2 p3 p4 p5 p6 z7 z8 z9 z10 z11 z12 z13 1) rfl (oiload X0 hx hby at_105 rfl k))) ?_
  obtain ⟨T16, X16, e16, st16⟩ := getS2 X0 hx hZ hown (host := "") (Or.inl (ww hw 7 rfl)) Via.refl e0 F15 (g := (mkF m 110 (lc8 p1 p2 p3 p4 p5 p6 z7 z8 z9 z10 z11 z12 z13 1) [])) rfl (hb hby at_110)
  obtain ⟨_, T17, L17, X17, hQ17, st17⟩ := ocallV X16 hx hZ zm0 zm0 hown (ww hw 10 rfl) (ww hw 11 rfl) (notFace_of_selects (args := #[]) (mvT hZ (ww hw 13 rfl))) (ww hw 13 rfl) (ww hw 12 rfl) (by decide) (ww hw 14 rfl) (ww hw 8 rfl) e16 F18 (rm1_0 l Z a0 hw [] a14 z13 h0 n0 Z0 F19 F20) (st := [(.long z13), (.ref a14)]) rfl 0 rfl (by decide) (pc := 115) (Ls := (lc8 p1 p2 p3 p4 p5 p6 z7 z8 z9 z10 z11 z12 z13 1)) hml rfl (lenOf pd_0 rfl) at_115 hby
  obtain ⟨rfl, N17q, e17⟩ := hQ17
  have N21 := Fr.app N0 N17q
  refine own_go (U' := T17.setTop (mkF m 121 (lc8 p1 p2 p3 p4 p5 p6 z7 z8 z9 z10 z11 z12 z13 1) [(.int (lcmpW ((z13 / (1000000000000 : Int64)) - ((z13 / (1000000000000 : Int64)) / (1000 : Int64)) * (1000 : Int64)) z7))])) (fun t k => oifN X0 hx hby at_107 (by decide) (st16 _ (olload X16 hx hby at_113 rfl (st17 _ (olload X17 hx hby at_118 rfl (olcmp X17 hx hby at_120 k)))))) ?_
  have hs23 : ((z13 / (1000000000000 : Int64)) - ((z13 / (1000000000000 : Int64)) / (1000 : Int64)) * (1000 : Int64)) = z7 := by rw [hz13, hz12, hz11, hz10, hz9, hz8, hz7]; exact hc22
  refine own_go (U' := T17.setTop (mkF m 133 (lc8 p1 p2 p3 p4 p5 p6 z7 z8 z9 z10 z11 z12 z13 1) [(.int 1)])) (fun t k => oifN X17 hx hby at_121 (own_ll_ne_f hs23) (oiconst X17 hx hby at_124 (ogoto (pc := 125) X17 hx hby at_125 129 (by decide) (oistore X17 hx hby at_129 (lc8 p1 p2 p3 p4 p5 p6 z7 z8 z9 z10 z11 z12 z13 1) rfl (oiload X17 hx hby at_131 rfl k))))) ?_
  obtain ⟨T26, X26, e26, st26⟩ := getS2 X17 hx hZ hown (host := "") (Or.inl (ww hw 19 rfl)) Via.refl e17 F25 (g := (mkF m 136 (lc8 p1 p2 p3 p4 p5 p6 z7 z8 z9 z10 z11 z12 z13 1) [])) rfl (hb hby at_136)
  obtain ⟨_, T27, L27, X27, hQ27, st27⟩ := ocallV X26 hx hZ zm0 zm0 hown (ww hw 10 rfl) (ww hw 11 rfl) (notFace_of_selects (args := #[]) (mvT hZ (ww hw 13 rfl))) (ww hw 13 rfl) (ww hw 12 rfl) (by decide) (ww hw 14 rfl) (ww hw 8 rfl) e26 F28 (rm1_1 l Z a0 hw [] a24 z13 h0 n0 Z0 F29 F30) (st := [(.long z13), (.ref a24)]) rfl 0 rfl (by decide) (pc := 141) (Ls := (lc8 p1 p2 p3 p4 p5 p6 z7 z8 z9 z10 z11 z12 z13 1)) hml rfl (lenOf pd_0 rfl) at_141 hby
  obtain ⟨rfl, N27q, e27⟩ := hQ27
  have N31 := Fr.app N21 N27q
  refine own_go (U' := T27.setTop (mkF m 147 (lc8 p1 p2 p3 p4 p5 p6 z7 z8 z9 z10 z11 z12 z13 1) [(.int (lcmpW ((z13 / (100000000000 : Int64)) - ((z13 / (100000000000 : Int64)) / (10 : Int64)) * (10 : Int64)) z8))])) (fun t k => oifN X17 hx hby at_133 (by decide) (st26 _ (olload X26 hx hby at_139 rfl (st27 _ (olload X27 hx hby at_144 rfl (olcmp X27 hx hby at_146 k)))))) ?_
  have hs33 : ((z13 / (100000000000 : Int64)) - ((z13 / (100000000000 : Int64)) / (10 : Int64)) * (10 : Int64)) = z8 := by rw [hz13, hz12, hz11, hz10, hz9, hz8, hz7]; exact hc32
  refine own_go (U' := T27.setTop (mkF m 159 (lc8 p1 p2 p3 p4 p5 p6 z7 z8 z9 z10 z11 z12 z13 1) [(.int 1)])) (fun t k => oifN X27 hx hby at_147 (own_ll_ne_f hs33) (oiconst X27 hx hby at_150 (ogoto (pc := 151) X27 hx hby at_151 155 (by decide) (oistore X27 hx hby at_155 (lc8 p1 p2 p3 p4 p5 p6 z7 z8 z9 z10 z11 z12 z13 1) rfl (oiload X27 hx hby at_157 rfl k))))) ?_
  obtain ⟨T36, X36, e36, st36⟩ := getS2 X27 hx hZ hown (host := "") (Or.inl (ww hw 21 rfl)) Via.refl e27 F35 (g := (mkF m 162 (lc8 p1 p2 p3 p4 p5 p6 z7 z8 z9 z10 z11 z12 z13 1) [])) rfl (hb hby at_162)
  obtain ⟨_, T37, L37, X37, hQ37, st37⟩ := ocallV X36 hx hZ zm0 zm0 hown (ww hw 10 rfl) (ww hw 11 rfl) (notFace_of_selects (args := #[]) (mvT hZ (ww hw 13 rfl))) (ww hw 13 rfl) (ww hw 12 rfl) (by decide) (ww hw 14 rfl) (ww hw 8 rfl) e36 F38 (rm1_2 l Z a0 hw [] a34 z13 h0 n0 Z0 F39 F40) (st := [(.long z13), (.ref a34)]) rfl 0 rfl (by decide) (pc := 167) (Ls := (lc8 p1 p2 p3 p4 p5 p6 z7 z8 z9 z10 z11 z12 z13 1)) hml rfl (lenOf pd_0 rfl) at_167 hby
  obtain ⟨rfl, N37q, e37⟩ := hQ37
  have N41 := Fr.app N31 N37q
  refine own_go (U' := T37.setTop (mkF m 173 (lc8 p1 p2 p3 p4 p5 p6 z7 z8 z9 z10 z11 z12 z13 1) [(.int (lcmpW ((z13 / (10000000000 : Int64)) - ((z13 / (10000000000 : Int64)) / (10 : Int64)) * (10 : Int64)) z9))])) (fun t k => oifN X27 hx hby at_159 (by decide) (st36 _ (olload X36 hx hby at_165 rfl (st37 _ (olload X37 hx hby at_170 rfl (olcmp X37 hx hby at_172 k)))))) ?_
  have hs43 : ((z13 / (10000000000 : Int64)) - ((z13 / (10000000000 : Int64)) / (10 : Int64)) * (10 : Int64)) = z9 := by rw [hz13, hz12, hz11, hz10, hz9, hz8, hz7]; exact hc42
  refine own_go (U' := T37.setTop (mkF m 185 (lc8 p1 p2 p3 p4 p5 p6 z7 z8 z9 z10 z11 z12 z13 1) [(.int 1)])) (fun t k => oifN X37 hx hby at_173 (own_ll_ne_f hs43) (oiconst X37 hx hby at_176 (ogoto (pc := 177) X37 hx hby at_177 181 (by decide) (oistore X37 hx hby at_181 (lc8 p1 p2 p3 p4 p5 p6 z7 z8 z9 z10 z11 z12 z13 1) rfl (oiload X37 hx hby at_183 rfl k))))) ?_
  obtain ⟨T46, X46, e46, st46⟩ := getS2 X37 hx hZ hown (host := "") (Or.inl (ww hw 23 rfl)) Via.refl e37 F45 (g := (mkF m 188 (lc8 p1 p2 p3 p4 p5 p6 z7 z8 z9 z10 z11 z12 z13 1) [])) rfl (hb hby at_188)
  obtain ⟨_, T47, L47, X47, hQ47, st47⟩ := ocallV X46 hx hZ zm0 zm0 hown (ww hw 10 rfl) (ww hw 11 rfl) (notFace_of_selects (args := #[]) (mvT hZ (ww hw 13 rfl))) (ww hw 13 rfl) (ww hw 12 rfl) (by decide) (ww hw 14 rfl) (ww hw 8 rfl) e46 F48 (rm1_3 l Z a0 hw [] a44 z13 h0 n0 Z0 F49 F50) (st := [(.long z13), (.ref a44)]) rfl 0 rfl (by decide) (pc := 193) (Ls := (lc8 p1 p2 p3 p4 p5 p6 z7 z8 z9 z10 z11 z12 z13 1)) hml rfl (lenOf pd_0 rfl) at_193 hby
  obtain ⟨rfl, N47q, e47⟩ := hQ47
  have N51 := Fr.app N41 N47q
  refine own_go (U' := T47.setTop (mkF m 199 (lc8 p1 p2 p3 p4 p5 p6 z7 z8 z9 z10 z11 z12 z13 1) [(.int (lcmpW ((z13 / (1000000000 : Int64)) - ((z13 / (1000000000 : Int64)) / (10 : Int64)) * (10 : Int64)) z10))])) (fun t k => oifN X37 hx hby at_185 (by decide) (st46 _ (olload X46 hx hby at_191 rfl (st47 _ (olload X47 hx hby at_196 rfl (olcmp X47 hx hby at_198 k)))))) ?_
  have hs53 : ((z13 / (1000000000 : Int64)) - ((z13 / (1000000000 : Int64)) / (10 : Int64)) * (10 : Int64)) = z10 := by rw [hz13, hz12, hz11, hz10, hz9, hz8, hz7]; exact hc52
  refine own_go (U' := T47.setTop (mkF m 211 (lc8 p1 p2 p3 p4 p5 p6 z7 z8 z9 z10 z11 z12 z13 1) [(.int 1)])) (fun t k => oifN X47 hx hby at_199 (own_ll_ne_f hs53) (oiconst X47 hx hby at_202 (ogoto (pc := 203) X47 hx hby at_203 207 (by decide) (oistore X47 hx hby at_207 (lc8 p1 p2 p3 p4 p5 p6 z7 z8 z9 z10 z11 z12 z13 1) rfl (oiload X47 hx hby at_209 rfl k))))) ?_
  obtain ⟨T56, X56, e56, st56⟩ := getS2 X47 hx hZ hown (host := "") (Or.inl (ww hw 25 rfl)) Via.refl e47 F55 (g := (mkF m 214 (lc8 p1 p2 p3 p4 p5 p6 z7 z8 z9 z10 z11 z12 z13 1) [])) rfl (hb hby at_214)
  obtain ⟨_, T57, L57, X57, hQ57, st57⟩ := ocallV X56 hx hZ zm0 zm0 hown (ww hw 10 rfl) (ww hw 11 rfl) (notFace_of_selects (args := #[]) (mvT hZ (ww hw 13 rfl))) (ww hw 13 rfl) (ww hw 12 rfl) (by decide) (ww hw 14 rfl) (ww hw 8 rfl) e56 F58 (rm1_4 l Z a0 hw [] a54 z13 h0 n0 Z0 F59 F60) (st := [(.long z13), (.ref a54)]) rfl 0 rfl (by decide) (pc := 219) (Ls := (lc8 p1 p2 p3 p4 p5 p6 z7 z8 z9 z10 z11 z12 z13 1)) hml rfl (lenOf pd_0 rfl) at_219 hby
  obtain ⟨rfl, N57q, e57⟩ := hQ57
  have N61 := Fr.app N51 N57q
  refine own_go (U' := T57.setTop (mkF m 225 (lc8 p1 p2 p3 p4 p5 p6 z7 z8 z9 z10 z11 z12 z13 1) [(.int (lcmpW ((z13 / (100000000 : Int64)) - ((z13 / (100000000 : Int64)) / (10 : Int64)) * (10 : Int64)) z11))])) (fun t k => oifN X47 hx hby at_211 (by decide) (st56 _ (olload X56 hx hby at_217 rfl (st57 _ (olload X57 hx hby at_222 rfl (olcmp X57 hx hby at_224 k)))))) ?_
  have hs63 : ((z13 / (100000000 : Int64)) - ((z13 / (100000000 : Int64)) / (10 : Int64)) * (10 : Int64)) = z11 := by rw [hz13, hz12, hz11, hz10, hz9, hz8, hz7]; exact hc62
  refine own_go (U' := T57.setTop (mkF m 237 (lc8 p1 p2 p3 p4 p5 p6 z7 z8 z9 z10 z11 z12 z13 1) [(.int 1)])) (fun t k => oifN X57 hx hby at_225 (own_ll_ne_f hs63) (oiconst X57 hx hby at_228 (ogoto (pc := 229) X57 hx hby at_229 233 (by decide) (oistore X57 hx hby at_233 (lc8 p1 p2 p3 p4 p5 p6 z7 z8 z9 z10 z11 z12 z13 1) rfl (oiload X57 hx hby at_235 rfl k))))) ?_
  obtain ⟨T66, X66, e66, st66⟩ := getS2 X57 hx hZ hown (host := "") (Or.inl (ww hw 27 rfl)) Via.refl e57 F65 (g := (mkF m 240 (lc8 p1 p2 p3 p4 p5 p6 z7 z8 z9 z10 z11 z12 z13 1) [])) rfl (hb hby at_240)
  obtain ⟨_, T67, L67, X67, hQ67, st67⟩ := ocallV X66 hx hZ zm0 zm0 hown (ww hw 10 rfl) (ww hw 11 rfl) (notFace_of_selects (args := #[]) (mvT hZ (ww hw 13 rfl))) (ww hw 13 rfl) (ww hw 12 rfl) (by decide) (ww hw 14 rfl) (ww hw 8 rfl) e66 F68 (rm1_5 l Z a0 hw [] a64 z13 h0 n0 Z0 F69 F70) (st := [(.long z13), (.ref a64)]) rfl 0 rfl (by decide) (pc := 245) (Ls := (lc8 p1 p2 p3 p4 p5 p6 z7 z8 z9 z10 z11 z12 z13 1)) hml rfl (lenOf pd_0 rfl) at_245 hby
  obtain ⟨rfl, N67q, e67⟩ := hQ67
  have N71 := Fr.app N61 N67q
  refine own_go (U' := T67.setTop (mkF m 251 (lc8 p1 p2 p3 p4 p5 p6 z7 z8 z9 z10 z11 z12 z13 1) [(.int (lcmpW ((z13 / (1 : Int64)) - ((z13 / (1 : Int64)) / (100000000 : Int64)) * (100000000 : Int64)) z12))])) (fun t k => oifN X57 hx hby at_237 (by decide) (st66 _ (olload X66 hx hby at_243 rfl (st67 _ (olload X67 hx hby at_248 rfl (olcmp X67 hx hby at_250 k)))))) ?_
  have hs73 : ((z13 / (1 : Int64)) - ((z13 / (1 : Int64)) / (100000000 : Int64)) * (100000000 : Int64)) = z12 := by rw [hz13, hz12, hz11, hz10, hz9, hz8, hz7]; exact hc72
  refine own_go (U' := T67.setTop (mkF m 263 (lc8 p1 p2 p3 p4 p5 p6 z7 z8 z9 z10 z11 z12 z13 1) [(.int 1)])) (fun t k => oifN X67 hx hby at_251 (own_ll_ne_f hs73) (oiconst X67 hx hby at_254 (ogoto (pc := 255) X67 hx hby at_255 259 (by decide) (oistore X67 hx hby at_259 (lc8 p1 p2 p3 p4 p5 p6 z7 z8 z9 z10 z11 z12 z13 1) rfl (oiload X67 hx hby at_261 rfl k))))) ?_
  obtain ⟨fs, hr, hrun, hended, hW, hsame⟩ := X67.leave (v := some (.int 1)) (fun h => by rw [Bd.returns] at h; cases h)
  refine own_out ⟨_, _, ?_, hrun, hended, _, _, rfl, ?_, ⟨_, rfl⟩, hW, hsame.mono (by decide) (by decide)⟩
  · exact retN X67 hx (t := .boolean) Bd.returns (by simp) (hb hby at_263) hr
  · exact ⟨rfl, N71⟩
set_option maxRecDepth 65536 in
set_option maxHeartbeats 40000000 in
theorem law_all (l : Launch) (Z : State) (a0 : Array Value) (hw : ∀ d ∈ tables_1, d.before a0 Z = true) (ws : List Jvm.Cond) (i0 : Int32) (i1 : Int32) (i2 : Int32) (i3 : Int32) (i4 : Int32) (i5 : Int32) (w0 : Addr) (w1 : Addr) (w2 : Addr) (w3 : Addr) (w4 : Addr) (w5 : Addr) (h0 : Heap) (n0 : Nat) (Z0 : n0 ≤ h0.size) (S0 : Sta Z h0 "com/example/strict_ledger/strictledger/CollationCounter$Field" "FIRST_LEG_ENTRIES" "Lcom/example/strict_ledger/strictledger/CollationCounter$Field;" (.ref w0)) (S1 : Exa Z h0 w0 "com/example/strict_ledger/strictledger/CollationCounter$Field") (S2 : Fld Z h0 w0 "com/example/strict_ledger/strictledger/CollationCounter$Field" "unit" "J" (.long 1000000000000)) (S3 : Fld Z h0 w0 "com/example/strict_ledger/strictledger/CollationCounter$Field" "span" "J" (.long 1000)) (S4 : Sta Z h0 "com/example/strict_ledger/strictledger/CollationCounter$Field" "CLOSED" "Lcom/example/strict_ledger/strictledger/CollationCounter$Field;" (.ref w1)) (S5 : Exa Z h0 w1 "com/example/strict_ledger/strictledger/CollationCounter$Field") (S6 : Fld Z h0 w1 "com/example/strict_ledger/strictledger/CollationCounter$Field" "unit" "J" (.long 100000000000)) (S7 : Fld Z h0 w1 "com/example/strict_ledger/strictledger/CollationCounter$Field" "span" "J" (.long 10)) (S8 : Sta Z h0 "com/example/strict_ledger/strictledger/CollationCounter$Field" "WORK_DONE" "Lcom/example/strict_ledger/strictledger/CollationCounter$Field;" (.ref w2)) (S9 : Exa Z h0 w2 "com/example/strict_ledger/strictledger/CollationCounter$Field") (S10 : Fld Z h0 w2 "com/example/strict_ledger/strictledger/CollationCounter$Field" "unit" "J" (.long 10000000000)) (S11 : Fld Z h0 w2 "com/example/strict_ledger/strictledger/CollationCounter$Field" "span" "J" (.long 10)) (S12 : Sta Z h0 "com/example/strict_ledger/strictledger/CollationCounter$Field" "CHILDREN_SPAWNED" "Lcom/example/strict_ledger/strictledger/CollationCounter$Field;" (.ref w3)) (S13 : Exa Z h0 w3 "com/example/strict_ledger/strictledger/CollationCounter$Field") (S14 : Fld Z h0 w3 "com/example/strict_ledger/strictledger/CollationCounter$Field" "unit" "J" (.long 1000000000)) (S15 : Fld Z h0 w3 "com/example/strict_ledger/strictledger/CollationCounter$Field" "span" "J" (.long 10)) (S16 : Sta Z h0 "com/example/strict_ledger/strictledger/CollationCounter$Field" "COMPLETION_DONE" "Lcom/example/strict_ledger/strictledger/CollationCounter$Field;" (.ref w4)) (S17 : Exa Z h0 w4 "com/example/strict_ledger/strictledger/CollationCounter$Field") (S18 : Fld Z h0 w4 "com/example/strict_ledger/strictledger/CollationCounter$Field" "unit" "J" (.long 100000000)) (S19 : Fld Z h0 w4 "com/example/strict_ledger/strictledger/CollationCounter$Field" "span" "J" (.long 10)) (S20 : Sta Z h0 "com/example/strict_ledger/strictledger/CollationCounter$Field" "ENTRIES" "Lcom/example/strict_ledger/strictledger/CollationCounter$Field;" (.ref w5)) (S21 : Exa Z h0 w5 "com/example/strict_ledger/strictledger/CollationCounter$Field") (S22 : Fld Z h0 w5 "com/example/strict_ledger/strictledger/CollationCounter$Field" "unit" "J" (.long 1)) (S23 : Fld Z h0 w5 "com/example/strict_ledger/strictledger/CollationCounter$Field" "span" "J" (.long 100000000)) :
    MetFree l x (head1 (Jvm.Cond.code x code maxLocals ret :: ws) room_1) (fun a U => a = #[(.int i0), (.int i1), (.int i2), (.int i3), (.int i4), (.int i5)] ∧ Z.Warmed39 U.vm ∧ U.heap = h0) (fun _ _ _ _ _ => True) (fun _ U o U' => ∃ v L, o = .returned v ∧ QLaw n0 v U'.heap L ∧ FrameEnd U o U' L room_1.cells room_1.slots) := by
  exact rm0_6 l Z a0 hw ws i0 i1 i2 i3 i4 i5 w0 w1 w2 w3 w4 w5 h0 n0 Z0 S0 S1 S2 S3 (own_d0 i0 i1 i2 i3 i4 i5) S4 S5 S6 S7 (own_d1 i0 i1 i2 i3 i4 i5) S8 S9 S10 S11 (own_d2 i0 i1 i2 i3 i4 i5) S12 S13 S14 S15 (own_d3 i0 i1 i2 i3 i4 i5) S16 S17 S18 S19 (own_d4 i0 i1 i2 i3 i4 i5) S20 S21 S22 S23 (own_d5 i0 i1 i2 i3 i4 i5)
set_option maxRecDepth 65536 in
set_option maxHeartbeats 40000000 in
theorem comes_1 {Post : Tables → Env → Array Value → State → Outcome → State → Prop} (hpost : ∀ tb e args s v u, (limb_1_1.after args s (.returned v) u = true ∧ limb_1_2.after args s (.returned v) u = true ∧ True) → FrameEnd s (.returned v) u (Jvm.fieldLocs frame_1_writes args s ++ Jvm.arrayLocs frame_1_arrays args s ++ Jvm.staticLocs frame_1_statics s) 0 0 → Post tb e args s (.returned v) u) :
    ArmFor flags0 classFile x code maxLocals ret World_1 tables_1 room_1 Calls_1 rest_1 Pre_1 Post := by
  intro l hfl _ _ p e ha hc hk s m args below hf hA hF happ hP
  obtain ⟨hcalls, hrest, hpre⟩ := hP
  obtain ⟨-, -, -, hnamed, -, -, -, hat⟩ := (Spec.applies_iff hf).mp happ
  obtain ⟨hg, hn⟩ := and_e (Cond.before_iff.mp (show (Jvm.Cond.and given_1 narrow_1).before args s = true from hpre))
  obtain ⟨g1, g2⟩ := and_e hg
  obtain ⟨g3, g4⟩ := and_e g2
  obtain ⟨g5, g6⟩ := and_e g4
  obtain ⟨g7, g8⟩ := and_e g6
  obtain ⟨g9, g10⟩ := and_e g8
  obtain ⟨g11, g12⟩ := and_e g10
  obtain ⟨v0, v1, v2, v3, v4, v5, rfl⟩ : ∃ v0 v1 v2 v3 v4 v5 : Value, args = #[v0, v1, v2, v3, v4, v5] := by
    have hs : args.size = 6 := by simpa [Cond.value, given_1] using g1
    obtain ⟨L⟩ := args
    match L, hs with
    | [v0, v1, v2, v3, v4, v5], _ => exact ⟨v0, v1, v2, v3, v4, v5, rfl⟩
  have hw := fun d (hd : d ∈ tables_1) => atoms_spec (ws := Jvm.Cond.code x code maxLocals ret :: tables_1) hat d (List.mem_cons_of_mem _ hd)
  obtain ⟨i0, ei0⟩ := is_v g3
  obtain rfl : v0 = (.int i0) := Option.some.inj ei0
  obtain ⟨i1, ei1⟩ := is_v g5
  obtain rfl : v1 = (.int i1) := Option.some.inj ei1
  obtain ⟨i2, ei2⟩ := is_v g7
  obtain rfl : v2 = (.int i2) := Option.some.inj ei2
  obtain ⟨i3, ei3⟩ := is_v g9
  obtain rfl : v3 = (.int i3) := Option.some.inj ei3
  obtain ⟨i4, ei4⟩ := is_v g11
  obtain rfl : v4 = (.int i4) := Option.some.inj ei4
  obtain ⟨i5, ei5⟩ := is_v g12
  obtain rfl : v5 = (.int i5) := Option.some.inj ei5
  have hfit : Fit s := fun {y c} hc i hi => by
    obtain ⟨ha, rfl⟩ := Array.getElem?_eq_some_iff.mp hc
    have q := List.all_eq_true.mp ((Array.all_eq_true_iff_forall_mem.mp hF) _ (Array.getElem_mem ha)) i (List.mem_range.mpr hi)
    simpa [Array.getElem?_eq_getElem hi] using q
  obtain ⟨g13, g14⟩ := and_e hn
  have c0 := g13
  obtain ⟨g15, g16⟩ := and_e g14
  have c1 := g15
  obtain ⟨g17, g18⟩ := and_e g16
  have c2 := g17
  obtain ⟨g19, g20⟩ := and_e g18
  have c3 := g19
  obtain ⟨g21, g22⟩ := and_e g20
  have c4 := g21
  obtain ⟨g23, g24⟩ := and_e g22
  have c5 := g23
  obtain ⟨g25, g26⟩ := and_e g24
  have c6 := g25
  obtain ⟨g27, g28⟩ := and_e g26
  have c7 := g27
  obtain ⟨g29, g30⟩ := and_e g28
  have c8 := g29
  obtain ⟨g31, g32⟩ := and_e g30
  have c9 := g31
  obtain ⟨g33, g34⟩ := and_e g32
  have c10 := g33
  obtain ⟨g35, g36⟩ := and_e g34
  have c11 := g35
  obtain ⟨g37, g38⟩ := and_e g36
  have c12 := g37
  obtain ⟨g39, g40⟩ := and_e g38
  have c13 := g39
  obtain ⟨g41, g42⟩ := and_e g40
  have c14 := g41
  obtain ⟨g43, g44⟩ := and_e g42
  have c15 := g43
  obtain ⟨g45, g46⟩ := and_e g44
  have c16 := g45
  have c17 := g46
  obtain ⟨w0, ew0⟩ := exa_v c0
  have S0 := Sta.start ew0 (Or.inr ⟨(ww hw 8 rfl), (ww hw 9 rfl)⟩)
  have S1 := Exa.start ew0 c0
  have S2 := own_fldJ ew0 c1
  have S3 := own_fldJ ew0 c2
  obtain ⟨w1, ew1⟩ := exa_v c3
  have S4 := Sta.start ew1 (Or.inr ⟨(ww hw 8 rfl), (ww hw 20 rfl)⟩)
  have S5 := Exa.start ew1 c3
  have S6 := own_fldJ ew1 c4
  have S7 := own_fldJ ew1 c5
  obtain ⟨w2, ew2⟩ := exa_v c6
  have S8 := Sta.start ew2 (Or.inr ⟨(ww hw 8 rfl), (ww hw 22 rfl)⟩)
  have S9 := Exa.start ew2 c6
  have S10 := own_fldJ ew2 c7
  have S11 := own_fldJ ew2 c8
  obtain ⟨w3, ew3⟩ := exa_v c9
  have S12 := Sta.start ew3 (Or.inr ⟨(ww hw 8 rfl), (ww hw 24 rfl)⟩)
  have S13 := Exa.start ew3 c9
  have S14 := own_fldJ ew3 c10
  have S15 := own_fldJ ew3 c11
  obtain ⟨w4, ew4⟩ := exa_v c12
  have S16 := Sta.start ew4 (Or.inr ⟨(ww hw 8 rfl), (ww hw 26 rfl)⟩)
  have S17 := Exa.start ew4 c12
  have S18 := own_fldJ ew4 c13
  have S19 := own_fldJ ew4 c14
  obtain ⟨w5, ew5⟩ := exa_v c15
  have S20 := Sta.start ew5 (Or.inr ⟨(ww hw 8 rfl), (ww hw 28 rfl)⟩)
  have S21 := Exa.start ew5 c15
  have S22 := own_fldJ ew5 c16
  have S23 := own_fldJ ew5 c17
  obtain ⟨n, o, h1, h2, h3, _, L, rfl, ⟨rfl, N⟩, hq⟩ := law_all l s _ hw tables_1 i0 i1 i2 i3 i4 i5 w0 w1 w2 w3 w4 w5 s.heap s.heap.size (Nat.le_refl _) S0 S1 S2 S3 S4 S5 S6 S7 S8 S9 S10 S11 S12 S13 S14 S15 S16 S17 S18 S19 S20 S21 S22 S23 p e ha hc hk s m _ below hf ((Spec.applies_iff_loose hf).mp happ).1 ⟨rfl, State.Warmed39.refl s, rfl⟩ trivial
  refine ⟨n, _, h1, h2, h3, hpost _ _ _ _ _ _ ⟨Cond.after_iff.mpr rfl, Cond.after_iff.mpr (eq_i res_at (Term.int_eval (1)) rfl), trivial⟩ ⟨hq.1, hq.2.1, (hq.2.2.sift fun y hy => Or.inr (N y hy)).mono (by decide) (by decide)⟩⟩
theorem main_1_1 : Claimed_1_1 := comes_1 fun _ _ _ _ _ _ h hF => ⟨h.1, hF⟩
theorem main_1_2 : Claimed_1_2 := comes_1 fun _ _ _ _ _ _ h hF => ⟨h.2.1, hF⟩
end Jvm.Pilot.@@N@@
namespace Jvm.Pilot.@@N@@
open Jvm Jvm.ClassFile Sem Op Lib Jvm.Free Jvm.Stand Jvm.Pilot.@@N@@.Jvm.D
/-! MADE BY PROGRAM (witnessworld.py) out of the Statement's table words and the real class files: 12 classes; the members and pool entries that the words name. The judged class is class 1, her method 1. -/
namespace start1
open Jvm.ClassFile
def u (s : String) : CpInfo := .utf8 (stringToUtf16 s)
/-- a pool by its gaps: so many unusable entries, then the entry; so many at the end -/
def gap : Nat → List CpInfo → List CpInfo
  | 0, r => r
  | n + 1, r => .unusable :: gap n r
def poolList (es : List (Nat × CpInfo)) (last : Nat) : List CpInfo := es.foldr (fun e r => gap e.1 (e.2 :: r)) (gap last [])
def pool (es : List (Nat × CpInfo)) (last : Nat) : Array CpInfo := ⟨poolList es last⟩
def fileOf (pool : Array CpInfo) (this : Nat) (attrs : Array Attribute := #[]) (ms : Array MethodInfo := #[]) (fl : Nat := 33) (sup : Nat := 0) (ifs : Array Nat := #[]) (fds : Array FieldInfo := #[]) : ClassFile where
  minorVersion := 0
  majorVersion := 65
  constantPool := pool
  accessFlags := fl
  thisClass := this
  superClass := sup
  interfaces := ifs
  fields := fds
  methods := ms
  attributes := attrs
def plain (name : String) (sup : Option ClassId) : Class where
  name := name
  kind := .ordinary
  loader := none
  accessFlags := 33
  super := sup
  interfaces := #[]
  cf := none
  fields := #[]
  methods := #[]
  instanceTypes := #[]
  staticTypes := #[]
  resolved := #[]
  callSites := []
  init := .initialized
  statics := none
  mirror := none

def pool0 : Array CpInfo := pool [(5, u "<init>"), (0, u "()V"), (1, .class_ 10), (1, u "java/lang/Object")] 113

def k0m0 : Method := { name := "<init>", desc := "()V", sig := { parameters := [], returnType := none }, accessFlags := 1, code := none }
/-- java/lang/Object -/
def k0 : Class := { plain "java/lang/Object" none with
  accessFlags := 33
  interfaces := #[]
  cf := some (fileOf pool0 8 #[] #[{ accessFlags := 1, nameIndex := 5, descriptorIndex := 6, attributes := #[] }] 33 0 #[] #[])
  fields := #[]
  methods := #[k0m0]
  instanceTypes := #[]
  staticTypes := #[]
  resolved := Array.replicate 124 none
  statics := none }

def pool1 : Array CpInfo := pool [(2, .class_ 4), (1, u "java/lang/Object"), (0, u "<init>"), (0, u "()V"), (0, .integer 2147483647), (0, .integer 100000000), (0, .long 1000000000000), (1, .long 100000000000), (1, .long 10000000000), (1, .long 1000000000), (1, .long 100000000), (1, .fieldref 20 21), (0, .class_ 22), (0, .nameAndType 23 24), (0, u "com/example/strict_ledger/strictledger/CollationCounter$Field"), (0, u "FIRST_LEG_ENTRIES"), (0, u "Lcom/example/strict_ledger/strictledger/CollationCounter$Field;"), (0, .methodref 20 26), (0, .nameAndType 27 28), (0, u "read"), (0, u "(J)J"), (0, .fieldref 20 30), (0, .nameAndType 31 24), (0, u "CLOSED"), (0, .fieldref 20 33), (0, .nameAndType 34 24), (0, u "WORK_DONE"), (0, .fieldref 20 36), (0, .nameAndType 37 24), (0, u "CHILDREN_SPAWNED"), (0, .fieldref 20 39), (0, .nameAndType 40 24), (0, u "COMPLETION_DONE"), (0, .fieldref 20 42), (0, .nameAndType 43 24), (0, u "ENTRIES"), (0, .class_ 45), (0, u "com/example/strict_ledger/strictledger/CollationCounterFieldReadPinLaw"), (2, u "law"), (0, u "(IIIIII)Z")] 7

def k1m0 : Method := { name := "<init>", desc := "()V", sig := { parameters := [], returnType := none }, accessFlags := 2, code := none }
def k1c1 : Code := { maxStack := 6, maxLocals := 21, code := code, exceptionTable := #[], attributes := #[] }
def k1m1 : Method := { name := "law", desc := "(IIIIII)Z", sig := { parameters := [.int, .int, .int, .int, .int, .int], returnType := some .boolean }, accessFlags := 9, code := some k1c1 }
/-- com/example/strict_ledger/strictledger/CollationCounterFieldReadPinLaw -/
def k1 : Class := { plain "com/example/strict_ledger/strictledger/CollationCounterFieldReadPinLaw" (some 0) with
  accessFlags := 49
  interfaces := #[]
  cf := some (fileOf pool1 44 #[] #[{ accessFlags := 2, nameIndex := 5, descriptorIndex := 6, attributes := #[] }, { accessFlags := 9, nameIndex := 48, descriptorIndex := 49, attributes := #[] }] 49 2 #[] #[])
  fields := #[]
  methods := #[k1m0, k1m1]
  instanceTypes := #[]
  staticTypes := #[]
  resolved := Array.replicate 57 none
  statics := none }

def pool2 : Array CpInfo := pool [(1, .class_ 2), (0, u "java/lang/constant/Constable"), (0, .class_ 4), (0, u "java/lang/Object")] 6

/-- java/lang/constant/Constable -/
def k2 : Class := { plain "java/lang/constant/Constable" (some 0) with
  accessFlags := 1537
  interfaces := #[]
  cf := some (fileOf pool2 1 #[] #[] 1537 3 #[] #[])
  fields := #[]
  methods := #[]
  instanceTypes := #[]
  staticTypes := #[]
  resolved := Array.replicate 11 none
  statics := none }

def pool3 : Array CpInfo := pool [(1, .class_ 2), (0, u "java/lang/Comparable"), (0, .class_ 4), (0, u "java/lang/Object")] 7

/-- java/lang/Comparable -/
def k3 : Class := { plain "java/lang/Comparable" (some 0) with
  accessFlags := 1537
  interfaces := #[]
  cf := some (fileOf pool3 1 #[] #[] 1537 3 #[] #[])
  fields := #[]
  methods := #[]
  instanceTypes := #[]
  staticTypes := #[]
  resolved := Array.replicate 12 none
  statics := none }

def pool4 : Array CpInfo := pool [(1, .class_ 2), (0, u "java/io/Serializable"), (0, .class_ 4), (0, u "java/lang/Object")] 2

/-- java/io/Serializable -/
def k4 : Class := { plain "java/io/Serializable" (some 0) with
  accessFlags := 1537
  interfaces := #[]
  cf := some (fileOf pool4 1 #[] #[] 1537 3 #[] #[])
  fields := #[]
  methods := #[]
  instanceTypes := #[]
  staticTypes := #[]
  resolved := Array.replicate 7 none
  statics := none }

def pool5 : Array CpInfo := pool [(2, .class_ 4), (1, u "java/lang/Enum"), (0, u "name"), (0, u "Ljava/lang/String;"), (2, u "ordinal"), (0, u "I"), (1, .class_ 14), (1, u "java/lang/Object"), (4, u "hash"), (86, .class_ 108), (1, u "java/lang/Enum$EnumDesc"), (2, .class_ 112), (0, u "java/lang/constant/Constable"), (0, .class_ 114), (0, u "java/lang/Comparable"), (0, .class_ 116), (0, u "java/io/Serializable")] 87

/-- java/lang/Enum -/
def k5 : Class := { plain "java/lang/Enum" (some 0) with
  accessFlags := 1057
  interfaces := #[2, 3, 4]
  cf := some (fileOf pool5 2 #[.nestMembers #[106]] #[] 1057 12 #[111, 113, 115] #[{ accessFlags := 18, nameIndex := 5, descriptorIndex := 6, attributes := #[] }, { accessFlags := 18, nameIndex := 9, descriptorIndex := 10, attributes := #[] }, { accessFlags := 2, nameIndex := 19, descriptorIndex := 10, attributes := #[] }])
  fields := #[{ name := "name", type := (.object "java/lang/String"), accessFlags := 18, slot := 0, constantValue := 0 }, { name := "ordinal", type := .int, accessFlags := 18, slot := 1, constantValue := 0 }, { name := "hash", type := .int, accessFlags := 2, slot := 2, constantValue := 0 }]
  methods := #[]
  instanceTypes := #[(.object "java/lang/String"), .int, .int]
  staticTypes := #[]
  resolved := Array.replicate 204 none
  statics := none }

def pool6 : Array CpInfo := pool [(1, .class_ 2), (0, u "com/example/strict_ledger/strictledger/CollationCounter$Field"), (2, u "FIRST_LEG_ENTRIES"), (0, u "Lcom/example/strict_ledger/strictledger/CollationCounter$Field;"), (2, u "CLOSED"), (2, u "WORK_DONE"), (2, u "CHILDREN_SPAWNED"), (2, u "COMPLETION_DONE"), (2, u "ENTRIES"), (2, u "$VALUES"), (0, u "[Lcom/example/strict_ledger/strictledger/CollationCounter$Field;"), (6, .class_ 34), (1, u "java/lang/Enum"), (8, u "positions"), (0, u "Ljava/lang/String;"), (0, .fieldref 1 46), (0, .nameAndType 47 48), (0, u "unit"), (0, u "J"), (0, .fieldref 1 50), (0, .nameAndType 51 48), (0, u "span"), (2, u "max"), (2, u "activityName"), (2, u "messageName"), (2, u "read"), (0, u "(J)J"), (95, .class_ 161), (0, u "com/example/strict_ledger/strictledger/CollationCounter")] 3

def k6c0 : Code := { maxStack := 4, maxLocals := 3, code := prog_6_method_7_code, exceptionTable := #[], attributes := #[] }
def k6m0 : Method := { name := "read", desc := "(J)J", sig := { parameters := [.long], returnType := some .long }, accessFlags := 0, code := some k6c0 }
/-- com/example/strict_ledger/strictledger/CollationCounter$Field -/
def k6 : Class := { plain "com/example/strict_ledger/strictledger/CollationCounter$Field" (some 5) with
  accessFlags := 16432
  interfaces := #[]
  cf := some (fileOf pool6 1 #[.nestHost 160] #[{ accessFlags := 0, nameIndex := 63, descriptorIndex := 64, attributes := #[] }] 16432 32 #[] #[{ accessFlags := 16409, nameIndex := 5, descriptorIndex := 6, attributes := #[] }, { accessFlags := 16409, nameIndex := 9, descriptorIndex := 6, attributes := #[] }, { accessFlags := 16409, nameIndex := 12, descriptorIndex := 6, attributes := #[] }, { accessFlags := 16409, nameIndex := 15, descriptorIndex := 6, attributes := #[] }, { accessFlags := 16409, nameIndex := 18, descriptorIndex := 6, attributes := #[] }, { accessFlags := 16409, nameIndex := 21, descriptorIndex := 6, attributes := #[] }, { accessFlags := 18, nameIndex := 43, descriptorIndex := 44, attributes := #[] }, { accessFlags := 18, nameIndex := 47, descriptorIndex := 48, attributes := #[] }, { accessFlags := 18, nameIndex := 51, descriptorIndex := 48, attributes := #[] }, { accessFlags := 18, nameIndex := 54, descriptorIndex := 48, attributes := #[] }, { accessFlags := 18, nameIndex := 57, descriptorIndex := 44, attributes := #[] }, { accessFlags := 18, nameIndex := 60, descriptorIndex := 44, attributes := #[] }, { accessFlags := 4122, nameIndex := 24, descriptorIndex := 25, attributes := #[] }])
  fields := #[{ name := "FIRST_LEG_ENTRIES", type := (.object "com/example/strict_ledger/strictledger/CollationCounter$Field"), accessFlags := 16409, slot := 0, constantValue := 0 }, { name := "CLOSED", type := (.object "com/example/strict_ledger/strictledger/CollationCounter$Field"), accessFlags := 16409, slot := 1, constantValue := 0 }, { name := "WORK_DONE", type := (.object "com/example/strict_ledger/strictledger/CollationCounter$Field"), accessFlags := 16409, slot := 2, constantValue := 0 }, { name := "CHILDREN_SPAWNED", type := (.object "com/example/strict_ledger/strictledger/CollationCounter$Field"), accessFlags := 16409, slot := 3, constantValue := 0 }, { name := "COMPLETION_DONE", type := (.object "com/example/strict_ledger/strictledger/CollationCounter$Field"), accessFlags := 16409, slot := 4, constantValue := 0 }, { name := "ENTRIES", type := (.object "com/example/strict_ledger/strictledger/CollationCounter$Field"), accessFlags := 16409, slot := 5, constantValue := 0 }, { name := "positions", type := (.object "java/lang/String"), accessFlags := 18, slot := 3, constantValue := 0 }, { name := "unit", type := .long, accessFlags := 18, slot := 4, constantValue := 0 }, { name := "span", type := .long, accessFlags := 18, slot := 5, constantValue := 0 }, { name := "max", type := .long, accessFlags := 18, slot := 6, constantValue := 0 }, { name := "activityName", type := (.object "java/lang/String"), accessFlags := 18, slot := 7, constantValue := 0 }, { name := "messageName", type := (.object "java/lang/String"), accessFlags := 18, slot := 8, constantValue := 0 }, { name := "$VALUES", type := (.array (.object "com/example/strict_ledger/strictledger/CollationCounter$Field")), accessFlags := 4122, slot := 6, constantValue := 0 }]
  methods := #[k6m0]
  instanceTypes := #[(.object "java/lang/String"), .int, .int, (.object "java/lang/String"), .long, .long, .long, (.object "java/lang/String"), (.object "java/lang/String")]
  staticTypes := #[(.object "com/example/strict_ledger/strictledger/CollationCounter$Field"), (.object "com/example/strict_ledger/strictledger/CollationCounter$Field"), (.object "com/example/strict_ledger/strictledger/CollationCounter$Field"), (.object "com/example/strict_ledger/strictledger/CollationCounter$Field"), (.object "com/example/strict_ledger/strictledger/CollationCounter$Field"), (.object "com/example/strict_ledger/strictledger/CollationCounter$Field"), (.array (.object "com/example/strict_ledger/strictledger/CollationCounter$Field"))]
  resolved := Array.replicate 165 none
  statics := some 0 }

def pool7 : Array CpInfo := pool [(1, u "java/lang/Cloneable"), (0, .class_ 1), (0, u "java/lang/Object"), (0, .class_ 3)] 3

/-- java/lang/Cloneable -/
def k7 : Class := { plain "java/lang/Cloneable" (some 0) with
  accessFlags := 1537
  interfaces := #[]
  cf := some (fileOf pool7 2 #[] #[] 1537 4 #[] #[])
  fields := #[]
  methods := #[]
  instanceTypes := #[]
  staticTypes := #[]
  resolved := Array.replicate 8 none
  statics := none }

/-- the primitive byte -/
def k8 : Class := { plain "byte" none with kind := .primitive 'B', accessFlags := 0x411 }
/-- [B -/
def k9 : Class := { plain "[B" (some 0) with kind := .array 8 .byte, interfaces := #[7, 4], accessFlags := 1041 }

/-- the primitive int -/
def k10 : Class := { plain "int" none with kind := .primitive 'I', accessFlags := 0x411 }
/-- [I -/
def k11 : Class := { plain "[I" (some 0) with kind := .array 10 .int, interfaces := #[7, 4], accessFlags := 1041 }

def heap : Heap := #[{ cls := 6, slots := #[.ref 1, .ref 2, .ref 3, .ref 4, .ref 5, .ref 6, .null], vm := .statics 6 },
  { cls := 6, slots := #[.null, .int 0, .int 0, .null, .long 1000000000000, .long 1000, .long 0, .null, .null], vm := .none },
  { cls := 6, slots := #[.null, .int 0, .int 0, .null, .long 100000000000, .long 10, .long 0, .null, .null], vm := .none },
  { cls := 6, slots := #[.null, .int 0, .int 0, .null, .long 10000000000, .long 10, .long 0, .null, .null], vm := .none },
  { cls := 6, slots := #[.null, .int 0, .int 0, .null, .long 1000000000, .long 10, .long 0, .null, .null], vm := .none },
  { cls := 6, slots := #[.null, .int 0, .int 0, .null, .long 100000000, .long 10, .long 0, .null, .null], vm := .none },
  { cls := 6, slots := #[.null, .int 0, .int 0, .null, .long 1, .long 100000000, .long 0, .null, .null], vm := .none }]
def classes : Array Class := #[k0, k1, k2, k3, k4, k5, k6, k7, k8, k9, k10, k11]
def interned : List (Array UInt16 × Addr) := []
def slotsUsed : Nat := 61
def theMethod : MethodId := ⟨1, 1⟩
def args0 : Array Value := #[.int 5, .int 5, .int 5, .int 5, .int 5, .int 5]
def aboutOver (below : List Frame) : State where
  vm := { classes := classes, interned := interned.toArray }
  heap := heap
  slotsUsed := slotsUsed
  threads := #[{ frames := .invoking theMethod args0 :: below }]
def below0 : List Frame := [.native { method := ⟨0, 0⟩, args := #[] }]
def about1 : State := aboutOver below0
def p0 : Program := .bare "" "" ""
def e0 : Env := launch0.env 0 0 0
theorem w_frames : about1.frames = Frame.invoking theMethod args0 :: below0 := rfl
set_option maxRecDepth 65536 in
theorem w_args : argsFit about1.vm theMethod args0 = true := by decide +kernel
set_option maxRecDepth 65536 in
theorem w_heap : heapFits about1 = true := by decide +kernel
set_option maxRecDepth 65536 in
theorem w_runnable : about1.curStatus? = some .runnable := by decide +kernel
set_option maxRecDepth 65536 in
theorem w_alone : about1.alone = true := by decide +kernel
set_option maxRecDepth 65536 in
theorem w_named : about1.methodNamed? x = some theMethod := by decide +kernel
set_option maxRecDepth 65536 in
theorem w_hears : about1.hears theMethod below0 = true := by decide +kernel
set_option maxRecDepth 65536 in
theorem w_ripe : about1.ripe theMethod args0 below0 = true := by decide +kernel
theorem w_running : about1.status = .running := rfl
set_option maxRecDepth 65536 in
theorem w_room : about1.hasRoom e0.platform room_1 = true :=
  launch0.hasRoom_least _ room_1 (by decide +kernel) (by decide +kernel) (by decide +kernel) (by decide +kernel) (by decide +kernel) (by decide +kernel)
theorem allAtoms_all (ts : List Jvm.Cond) (a : Array Jvm.Value) (st : Jvm.State) : (allAtoms ts).before a st = ts.all (fun c => c.before a st) := by
  induction ts with
  | nil => rfl
  | cons c t ih =>
    show (Jvm.Cond.and c (allAtoms t)).before a st = _
    rw [Jvm.Cond.before_and, ih, List.all_cons]
def words1 : List Jvm.Cond := Jvm.Cond.code x code maxLocals ret :: tables_1
/-- a 'code' word, met by the world's own term for the bytes: nothing is compared byte by byte -/
theorem code_word {y : MethodName} {bytes : ByteArray} {mx : Nat} {rt : Option FieldType} {a : Array Value} {s : State} {m : MethodId} {meth : Method} {c : Code} (h1 : s.methodNamed? y = some m) (h2 : s.vm.method? m = some meth) (h3 : meth.code = some c) (h4 : c.code = bytes)
    (h5 : (c.maxLocals == mx && c.exceptionTable.isEmpty && decide (c.maxStack ≤ mostOperands) && decide (meth.sig.returnType = rt) && !meth.locks && decide (parseMethodDescriptor y.desc = some meth.sig)) = true) : (Jvm.Cond.code y bytes mx rt).before a s = true := by
  simp only [Bool.and_eq_true, beq_iff_eq, Bool.not_eq_true', decide_eq_true_eq] at h5
  obtain ⟨⟨⟨⟨⟨g1, g2⟩, g3⟩, g4⟩, g5⟩, g6⟩ := h5
  simp [Cond.before, Cond.holds, Cond.value, h1, h2, h3, h4, g1, g2, g3, g4, g5, g6]
def isCode : Jvm.Cond → Bool
  | .code _ _ _ _ => true
  | _ => false
theorem all_split {L : List Jvm.Cond} {P : Jvm.Cond → Bool} (h1 : L.all (fun c => isCode c || P c) = true) (h2 : ∀ c ∈ L.filter isCode, P c = true) : L.all P = true := by
  refine List.all_eq_true.mpr fun c hc => ?_
  have h := List.all_eq_true.mp h1 c hc
  rcases Bool.eq_false_or_eq_true (isCode c) with hi | hi
  · exact h2 c (List.mem_filter.mpr ⟨hc, hi⟩)
  · simpa [hi] using h
set_option maxRecDepth 65536 in
theorem w_c0 : (Jvm.Cond.code x code maxLocals ret).before args0 about1 = true := code_word (m := ⟨1, 1⟩) (meth := k1m1) (c := k1c1) (by decide +kernel) rfl rfl rfl (by decide +kernel)
set_option maxRecDepth 65536 in
theorem w_c1 : (Jvm.Cond.code ({ cls := "com/example/strict_ledger/strictledger/CollationCounter$Field", name := "read", desc := "(J)J" } : Jvm.MethodName) prog_6_method_7_code (3 : Nat) (Option.some Jvm.ClassFile.FieldType.long)).before args0 about1 = true := code_word (m := ⟨6, 0⟩) (meth := k6m0) (c := k6c0) (by decide +kernel) rfl rfl rfl (by decide +kernel)
def codes1 : List Jvm.Cond := [Jvm.Cond.code x code maxLocals ret, Jvm.Cond.code ({ cls := "com/example/strict_ledger/strictledger/CollationCounter$Field", name := "read", desc := "(J)J" } : Jvm.MethodName) prog_6_method_7_code (3 : Nat) (Option.some Jvm.ClassFile.FieldType.long)]
set_option maxRecDepth 65536 in
theorem codes_eq : words1.filter isCode = codes1 := rfl
theorem w_codes : ∀ c ∈ words1.filter isCode, c.before args0 about1 = true := by
  rw [codes_eq]
  intro c hc
  simp only [codes1, List.mem_cons, List.not_mem_nil, or_false] at hc
  rcases hc with rfl | rfl
  · exact w_c0
  · exact w_c1
set_option maxRecDepth 65536 in
theorem w_t1 : (words1.take 24).all (fun c => isCode c || c.before args0 about1) = true := by decide +kernel
set_option maxRecDepth 65536 in
theorem w_t2 : (words1.drop 24).all (fun c => isCode c || c.before args0 about1) = true := by decide +kernel
theorem w_tables : (allAtoms (Jvm.Cond.code x code maxLocals ret :: tables_1)).before args0 about1 = true := by
  rw [allAtoms_all]
  show words1.all (fun c => c.before args0 about1) = true
  refine all_split ?_ w_codes
  rw [← List.take_append_drop 24 words1, List.all_append, w_t1, w_t2]
  rfl
set_option maxRecDepth 65536 in
theorem w_case : (Jvm.Cond.and given_1 narrow_1).before args0 about1 = true := by decide +kernel
theorem w_applies : (headSpec (Jvm.Cond.code x code maxLocals ret :: tables_1) room_1).applies x e0.platform about1 = true :=
  (Spec.applies_iff w_frames).mpr ⟨w_running, w_runnable, w_alone, w_named, w_hears, w_ripe, w_room, w_tables⟩
theorem atStart : AtStart classFile x code maxLocals ret World_1 tables_1 room_1 Calls_1 rest_1 Pre_1 launch0 p0 e0 about1 theMethod args0 below0 :=
  ⟨lists_1, trivial, launch0.admits_env _ _ _, launch0.least_env, fairChoices_fair.cas, fairChoices_fair.clock, w_frames, w_args, w_heap, w_applies, trivial, trivial, w_case⟩
end start1
theorem witness_1 : WitnessClaimed_1 := ⟨start1.p0, start1.e0, start1.about1, start1.theMethod, start1.args0, start1.below0, start1.atStart⟩
end Jvm.Pilot.@@N@@
