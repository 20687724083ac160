import JvmDerived
import JvmDerived.Pilot.@@N@@Statement
import JvmDerived.Pilot.@@N@@Code
set_option linter.unusedVariables false
set_option linter.unusedSimpArgs false
namespace Jvm.RoadKit
open Sem ClassFile Op Lib Jvm.Stand Jvm.Free Jvm.LawKit
section New
variable {p : Program} {l : Launch} {e : Env} {R : Room} {s : State} {m : MethodId} {args : Array Value} {below : List Frame} {meth : Method} {c : Code} {T : State} {locs : List Loc} {cells slots : Nat}
theorem retI (X : Stand p l e R s m args below meth c T locs cells slots) (hx : p.tables.exec = Jvm.exec) {pc : Nat} {Ls : Array Slot} {z : Int32} {rest : List Value} (hret : meth.sig.returnType = some .int) (hd : decode c.code pc = .ok (.ireturn, 1)) {fs : List Frame}
    (hl : ∀ (f : JFrame) (acts : List Action), f.method = m → f.locked = none → f.entered = [] → (doReturn e (T.setTop f) acts (some (.int z))).1 = T.setFrames fs) : Steps p.tables e below (T.setTop (mkF m pc Ls (.int z :: rest))) (T.setFrames fs) := by
  have hm' : T.vm.method? m = some meth := X.method'
  have hn : narrow .int (.int z) = .int z := rfl
  show Steps p.tables e below (T.setTop { method := m, pc := pc, locals := Ls, stack := _ :: rest, locked := none }) _
  jvm_step X.here [X.here.top, hx, hd, hm', hret, hn]
  first | (intro acts; rw [hl _ acts rfl rfl rfl]) | rw [hl _ _ rfl rfl rfl]
  exact Steps.refl _
end New
/-! the walk's own frame: a goal that is met by going on -/
section Own
variable {tb : Tables} {e : Env} {below : List Frame} {R : State → Outcome → Prop} {U U' T : State}
def own_G (tb : Tables) (e : Env) (below : List Frame) (R : State → Outcome → Prop) (U : State) : Prop := ∃ f o, Steps tb e below U f ∧ R f o
theorem own_pre {g g' : JFrame} (q : g = g') (h : own_G tb e below R (T.setTop g')) : ∃ f o, Steps tb e below (T.setTop g) f ∧ R f o := by rw [q]; exact h
theorem own_go (st : ∀ t, Steps tb e below U' t → Steps tb e below U t) (h : own_G tb e below R U') : own_G tb e below R U := by
  obtain ⟨f, o, h1, h2⟩ := h; exact ⟨f, o, st _ h1, h2⟩
theorem own_out (h : ∃ f o, Steps tb e below U f ∧ R f o) : own_G tb e below R U := h
end Own
section OwnFacts
variable {Z : State} {h h' : Heap} {a : Addr} {ws : List Addr} {C n d : String} {v : Value} {b : Bool}
def own_NS (h : Heap) (a : Addr) : Prop := ∃ c : Cell, h[a]? = some c ∧ c.vm.isStatics = false
theorem own_nsE (F : Exa Z h a C) : own_NS h a := by obtain ⟨c, k, h1, -, -, h4, -⟩ := F; exact ⟨c, h1, h4⟩
theorem own_nsF (F : Fld Z h a C n d v) : own_NS h a := by obtain ⟨c, _, _, _, _, h1, -, -, -, h5, -⟩ := F; exact ⟨c, h1, h5⟩
theorem own_nsV {k : ClassId} {ty : FieldType} {z : Int32} {vs : List Value} {dv : Value} (F : Arv Z h a k ty z vs dv) : own_NS h a := by obtain ⟨c, A, -⟩ := F; exact ⟨c, A.1, A.plain⟩
theorem own_staK (F : Sta Z h C n d v) (K : Keep h h' ws) (q : ∀ x ∈ ws, own_NS h x) : Sta Z h' C n d v := by
  obtain ⟨cf, i, k, f, st, cell, h1, h2, h3, h4, h5, h6, h7⟩ := F
  refine ⟨cf, i, k, f, st, cell, h1, h2, h3, h4, K.2.1 st cell h5 (fun hm => ?_), h6, h7⟩
  obtain ⟨c, e1, e2⟩ := q st hm
  cases h5.symm.trans e1
  rw [e2] at h6; cases h6
theorem own_insK (F : Ins Z h a C b) (K : Keep h h' ws) : Ins Z h' a C b := by
  obtain ⟨cell, cT, h1, h2, h3⟩ := F
  obtain ⟨c', e1, e2, e3, -⟩ := K.2.2 a cell h1
  exact ⟨c', cT, e1, h2, by rw [e2, e3]; exact h3⟩
theorem own_selP {s : State} {args : Array Value} {y : MethodName} {k : Nat} (wi : (Cond.instantiable y.cls k).before args s = true) (wp : (Cond.privateMethod y).before args s = true) (hi : (Cond.instanceMethod y).before args s = true) (hy : y.cls ≠ "java/lang/invoke/MethodHandle" ∧ y.cls ≠ "java/lang/invoke/VarHandle") : (Cond.selects y.cls y y).before args s = true := by
  obtain ⟨c, k, h1, h2, -, h4, -⟩ := Cond.instantiable_spec wi
  exact selects_self_of_private h1 h2 (by simp only [Bool.or_eq_false_iff] at h4; exact h4.1) (Cond.privateMethod_at wp) hi hy
theorem own_xnJ (x : Int64) : (x ^^^ (-1 : Int64)).toInt = -1 - x.toInt := by
  have h : x ^^^ (-1 : Int64) = ~~~ x := by
    rw [← Int64.toBitVec_inj]; simp
  rw [h]
  show (~~~ x.toBitVec).toInt = -1 - x.toBitVec.toInt
  rw [BitVec.toInt_not]
  have h1 := x.toBitVec.isLt
  rw [BitVec.toInt_eq_toNat_bmod]
  simp only [Int.bmod]
  split <;> split <;> omega
theorem own_insLt (F : Ins Z h a C b) : a < h.size := by obtain ⟨_, _, h1, -⟩ := F; exact (Array.getElem?_eq_some_iff.mp h1).1
variable {args : Array Value} {t u : Term} {x : Addr}
theorem own_fldI {k : Int32} (ev : t.eval args Z none [] Z = some (.ref x)) (hh : (Cond.eq (.field t C n d) (.int k)).value args Z none Z [] = some true) : Fld Z Z.heap x C n d (.int k) := by
  refine Fld.start ?_
  obtain ⟨y, w, e1, e2, k1, -⟩ := cmp_v (Or.inl hh)
  cases (Term.int_eval k).symm.trans e2
  rw [fld_at ev] at e1
  cases y <;> simp [Kin, Value.isRef] at k1
  rename_i q
  have e3 : (Term.field t C n d).eval args Z none [] Z = some (.int q) := by rw [fld_at ev]; exact e1
  simp [Cond.value, e3, Term.int_eval] at hh
  rw [e1, hh]
theorem own_fldJ {k : Int64} (ev : t.eval args Z none [] Z = some (.ref x)) (hh : (Cond.eq (.field t C n d) (.long k)).value args Z none Z [] = some true) : Fld Z Z.heap x C n d (.long k) := by
  refine Fld.start ?_
  obtain ⟨y, w, e1, e2, k1, -⟩ := cmp_v (Or.inl hh)
  cases (long_at k).symm.trans e2
  rw [fld_at ev] at e1
  cases y <;> simp [Kin, Value.isRef] at k1
  rename_i q
  have e3 : (Term.field t C n d).eval args Z none [] Z = some (.long q) := by rw [fld_at ev]; exact e1
  have e4 := gotT (eq_L e3 (long_at k)) hh
  rw [e1, e4]
theorem own_fldR {y : Addr} (ev : t.eval args Z none [] Z = some (.ref x)) (e2 : (Term.field t C n d).eval args Z none [] Z = some (.ref y)) : Fld Z Z.heap x C n d (.ref y) := Fld.start (by rw [← fld_at ev]; exact e2)
theorem own_len {cl : Cell} {ty : FieldType} {k : Int32} (ev : t.eval args Z none [] Z = some (.ref x)) (A : Arr Z Z.heap x cl ty) (hh : (Cond.eq (.length t) (.int k)).value args Z none Z [] = some true) : cl.slots.size < 2 ^ 31 ∧ cl.slots.size.toInt32 = k := by
  obtain ⟨y, w, e1, e2, k1, -⟩ := cmp_v (Or.inl hh)
  cases (Term.int_eval k).symm.trans e2
  have hA := A.fin (Vm.Alike.refl _)
  have hl : cl.slots.size < 2 ^ 31 := by
    rcases Nat.lt_or_ge cl.slots.size (2 ^ 31) with q | q
    · exact q
    · simp [Term.eval, ev, hA, Nat.not_lt.mpr q] at e1
  refine ⟨hl, ?_⟩
  have e3 := len_f ev hA hl
  simp [Cond.value, e3, Term.int_eval] at hh
  exact hh
theorem own_elI {cl : Cell} {ty : FieldType} {i k : Int32} (ev : t.eval args Z none [] Z = some (.ref x)) (A : Arr Z Z.heap x cl ty) (hh : (Cond.eq (.elem t (.int i)) (.int k)).value args Z none Z [] = some true) : cl.slots[i.toNatClampNeg]? = some (.int k) := by
  obtain ⟨y, w, e1, e2, k1, -⟩ := cmp_v (Or.inl hh)
  cases (Term.int_eval k).symm.trans e2
  cases y <;> simp [Kin, Value.isRef] at k1
  rename_i q
  simp [Cond.value, e1, Term.int_eval] at hh
  rw [← hh]; exact (elem_in e1 ev (Term.int_eval i) A.1).2
theorem own_elR {cl : Cell} {ty : FieldType} {i : Int32} {y : Addr} (ev : t.eval args Z none [] Z = some (.ref x)) (eu : u.eval args Z none [] Z = some (.ref y)) (A : Arr Z Z.heap x cl ty) (hh : (Cond.eq (.elem t (.int i)) u).value args Z none Z [] = some true) : cl.slots[i.toNatClampNeg]? = some (.ref y) := by
  obtain ⟨p, w, e1, e3, k1, k2⟩ := cmp_v (Or.inl hh)
  cases eu.symm.trans e3
  have k3 := gotT (eq_R e1 eu k2.2 rfl) hh
  rw [← k3]; exact (elem_in e1 ev (Term.int_eval i) A.1).2
theorem own_eqR {y : Addr} (e2 : u.eval args Z none [] Z = some (.ref y)) (hh : (Cond.eq t u).value args Z none Z [] = some true) : t.eval args Z none [] Z = some (.ref y) := by
  obtain ⟨p, w, e1, e3, k1, k2⟩ := cmp_v (Or.inl hh)
  cases e2.symm.trans e3
  have k3 := gotT (eq_R e1 e2 k2.2 rfl) hh
  rw [e1, k3]
end OwnFacts
/-- the cache of Longs: old objects, each with its number -/
def own_LC (Z : State) (h : Heap) (a : Addr) (n : Nat) : Prop := ∃ cl : Cell, Arr Z h a cl (.object "java/lang/Long") ∧ cl.slots.size = (256 : Int32).toNatClampNeg ∧ a < n ∧ ∀ j : Int32, ¬ j < 0 → j < 256 → ∃ b : Addr, cl.slots[j.toNatClampNeg]? = some (.ref b) ∧ b < n ∧ Exa Z h b "java/lang/Long" ∧ Fld Z h b "java/lang/Long" "value" "J" (.long (j - 128).toInt64)
theorem own_LC.keep {Z : State} {h h' : Heap} {a : Addr} {n : Nat} {ws : List Addr} (F : own_LC Z h a n) (K : Keep h h' ws) (q : ∀ x ∈ ws, n ≤ x) : own_LC Z h' a n := by
  obtain ⟨cl, A, S, ha, M⟩ := F
  refine ⟨cl, ⟨K.2.1 a cl A.1 (fun hm => absurd ha (Nat.not_lt.mpr (q a hm))), A.2⟩, S, ha, fun j h0 h1 => ?_⟩
  obtain ⟨b, h2, h3, E, F⟩ := M j h0 h1
  exact ⟨b, h2, h3, E.keep K, F.keep K (fun hm => absurd h3 (Nat.not_lt.mpr (q b hm)))⟩
theorem own_LC.ext {Z : State} {h h' : Heap} {a : Addr} {n : Nat} (F : own_LC Z h a n) (E : Ext h h') : own_LC Z h' a n := F.keep ((Keep.refl h []).ext E) all0
theorem own_lcq {q : Int64} (h1 : ¬ q < (-128 : Int64)) (h2 : ¬ (127 : Int64) < q) : (q.toInt32 + (128 : Int32) - 128).toInt64 = q := by
  have a1 : ¬ q.toInt < -128 := fun e => h1 (Int64.lt_iff_toInt_lt.mpr e)
  have a2 : ¬ 127 < q.toInt := fun e => h2 (Int64.lt_iff_toInt_lt.mpr e)
  refine Int64.toInt_inj.mp ?_
  rw [c_i2l]
  have b1 := c_isub (q.toInt32 + (128 : Int32)) 128; have b2 := c_iadd q.toInt32 128; have b3 := c_l2i q
  have e1 : (128 : Int32).toInt = 128 := by decide
  have r1 := rng32 q.toInt32; have r2 := rng32 (q.toInt32 + (128 : Int32)); have r3 := rng32 (q.toInt32 + (128 : Int32) - 128)
  omega
section OwnLong
open Jvm.Free.XT
variable {x y : Int64}
theorem own_ll_eq_t (h : x = y) : ifCond.holds .eq (lcmpW x y) = true := ll_eq_t h
theorem own_ll_eq_f (h : ¬ x = y) : ifCond.holds .eq (lcmpW x y) = false := ll_eq_f h
theorem own_ll_ne_t (h : ¬ x = y) : ifCond.holds .ne (lcmpW x y) = true := ll_ne_t h
theorem own_ll_ne_f (h : x = y) : ifCond.holds .ne (lcmpW x y) = false := ll_ne_f h
theorem own_ll_lt_t (h : x < y) : ifCond.holds .lt (lcmpW x y) = true := ll_lt_t h
theorem own_ll_lt_f (h : ¬ x < y) : ifCond.holds .lt (lcmpW x y) = false := ll_lt_f h
theorem own_ll_ge_t (h : ¬ x < y) : ifCond.holds .ge (lcmpW x y) = true := ll_ge_t h
theorem own_ll_ge_f (h : x < y) : ifCond.holds .ge (lcmpW x y) = false := ll_ge_f h
theorem own_ll_gt_t (h : y < x) : ifCond.holds .gt (lcmpW x y) = true := ll_gt_t h
theorem own_ll_gt_f (h : ¬ y < x) : ifCond.holds .gt (lcmpW x y) = false := ll_gt_f h
theorem own_ll_le_t (h : ¬ y < x) : ifCond.holds .le (lcmpW x y) = true := ll_le_t h
theorem own_ll_le_f (h : y < x) : ifCond.holds .le (lcmpW x y) = false := ll_le_f h
end OwnLong
section OwnSteps
variable {p : Program} {l : Launch} {e : Env} {R : Room} {s : State} {m : MethodId} {args : Array Value} {below : List Frame} {meth : Method} {c : Code} {T : State} {locs : List Loc} {cells slots : Nat} {bytes : ByteArray} {pc : Nat} {L : Array Slot} {S : List Value} {t : State}

theorem oiload (X : Stand p l e R s m args below meth c T locs cells slots) (hx : p.tables.exec = Jvm.exec) (hby : c.code = bytes) {k : Nat} {v : Int32} (hd : decode bytes pc = .ok (.iload k, 2)) (hl : L[k]? = some (.val (.int v))) (hr : Steps p.tables e below (T.setTop (mkF m (pc + 2) L (.int v :: S))) t) : Steps p.tables e below (T.setTop (mkF m pc L S)) t := XS.iload X.here hx rfl (hb hby hd) hl hr
theorem oiloadN (X : Stand p l e R s m args below meth c T locs cells slots) (hx : p.tables.exec = Jvm.exec) (hby : c.code = bytes) {k : Fin 4} {v : Int32} (hd : decode bytes pc = .ok (.iload_n k, 1)) (hl : L[k.val]? = some (.val (.int v))) (hr : Steps p.tables e below (T.setTop (mkF m (pc + 1) L (.int v :: S))) t) : Steps p.tables e below (T.setTop (mkF m pc L S)) t := XS.iloadN X.here hx rfl (hb hby hd) hl hr
theorem olload (X : Stand p l e R s m args below meth c T locs cells slots) (hx : p.tables.exec = Jvm.exec) (hby : c.code = bytes) {k : Nat} {v : Int64} (hd : decode bytes pc = .ok (.lload k, 2)) (hl : L[k]? = some (.val (.long v))) (hr : Steps p.tables e below (T.setTop (mkF m (pc + 2) L (.long v :: S))) t) : Steps p.tables e below (T.setTop (mkF m pc L S)) t := XS.lload X.here hx rfl (hb hby hd) hl hr
theorem olloadN (X : Stand p l e R s m args below meth c T locs cells slots) (hx : p.tables.exec = Jvm.exec) (hby : c.code = bytes) {k : Fin 4} {v : Int64} (hd : decode bytes pc = .ok (.lload_n k, 1)) (hl : L[k.val]? = some (.val (.long v))) (hr : Steps p.tables e below (T.setTop (mkF m (pc + 1) L (.long v :: S))) t) : Steps p.tables e below (T.setTop (mkF m pc L S)) t := XS.lloadN X.here hx rfl (hb hby hd) hl hr
theorem oaload (X : Stand p l e R s m args below meth c T locs cells slots) (hx : p.tables.exec = Jvm.exec) (hby : c.code = bytes) {k : Nat} {v : Value} (hd : decode bytes pc = .ok (.aload k, 2)) (hl : L[k]? = some (.val v)) (hv : v.isRef = true) (hr : Steps p.tables e below (T.setTop (mkF m (pc + 2) L (v :: S))) t) : Steps p.tables e below (T.setTop (mkF m pc L S)) t := XS.aload X.here hx rfl (hb hby hd) hl hv hr
theorem oaloadN (X : Stand p l e R s m args below meth c T locs cells slots) (hx : p.tables.exec = Jvm.exec) (hby : c.code = bytes) {k : Fin 4} {v : Value} (hd : decode bytes pc = .ok (.aload_n k, 1)) (hl : L[k.val]? = some (.val v)) (hv : v.isRef = true) (hr : Steps p.tables e below (T.setTop (mkF m (pc + 1) L (v :: S))) t) : Steps p.tables e below (T.setTop (mkF m pc L S)) t := XS.aloadN X.here hx rfl (hb hby hd) hl hv hr
theorem oistore (X : Stand p l e R s m args below meth c T locs cells slots) (hx : p.tables.exec = Jvm.exec) (hby : c.code = bytes) {k : Nat} {x : Int32} (hd : decode bytes pc = .ok (.istore k, 2)) (l' : Array Slot) (hl : storeLocals L k (.int x) = some l') (hr : Steps p.tables e below (T.setTop (mkF m (pc + 2) l' S)) t) : Steps p.tables e below (T.setTop (mkF m pc L (.int x :: S))) t := XS.istore X.here hx rfl (hb hby hd) rfl hl hr
theorem oistoreN (X : Stand p l e R s m args below meth c T locs cells slots) (hx : p.tables.exec = Jvm.exec) (hby : c.code = bytes) {k : Fin 4} {x : Int32} (hd : decode bytes pc = .ok (.istore_n k, 1)) (l' : Array Slot) (hl : storeLocals L k.val (.int x) = some l') (hr : Steps p.tables e below (T.setTop (mkF m (pc + 1) l' S)) t) : Steps p.tables e below (T.setTop (mkF m pc L (.int x :: S))) t := XS.istoreN X.here hx rfl (hb hby hd) rfl hl hr
theorem olstore (X : Stand p l e R s m args below meth c T locs cells slots) (hx : p.tables.exec = Jvm.exec) (hby : c.code = bytes) {k : Nat} {x : Int64} (hd : decode bytes pc = .ok (.lstore k, 2)) (l' : Array Slot) (hl : storeLocals L k (.long x) = some l') (hr : Steps p.tables e below (T.setTop (mkF m (pc + 2) l' S)) t) : Steps p.tables e below (T.setTop (mkF m pc L (.long x :: S))) t := XS.lstore X.here hx rfl (hb hby hd) rfl hl hr
theorem olstoreN (X : Stand p l e R s m args below meth c T locs cells slots) (hx : p.tables.exec = Jvm.exec) (hby : c.code = bytes) {k : Fin 4} {x : Int64} (hd : decode bytes pc = .ok (.lstore_n k, 1)) (l' : Array Slot) (hl : storeLocals L k.val (.long x) = some l') (hr : Steps p.tables e below (T.setTop (mkF m (pc + 1) l' S)) t) : Steps p.tables e below (T.setTop (mkF m pc L (.long x :: S))) t := XS.lstoreN X.here hx rfl (hb hby hd) rfl hl hr
theorem oastore (X : Stand p l e R s m args below meth c T locs cells slots) (hx : p.tables.exec = Jvm.exec) (hby : c.code = bytes) {k : Nat} {x : Value} (hd : decode bytes pc = .ok (.astore k, 2)) (l' : Array Slot) (hv : x.isRef = true) (hl : storeLocals L k x = some l') (hr : Steps p.tables e below (T.setTop (mkF m (pc + 2) l' S)) t) : Steps p.tables e below (T.setTop (mkF m pc L (x :: S))) t := XS.astore X.here hx rfl (hb hby hd) rfl hv hl hr
theorem oastoreN (X : Stand p l e R s m args below meth c T locs cells slots) (hx : p.tables.exec = Jvm.exec) (hby : c.code = bytes) {k : Fin 4} {x : Value} (hd : decode bytes pc = .ok (.astore_n k, 1)) (l' : Array Slot) (hv : x.isRef = true) (hl : storeLocals L k.val x = some l') (hr : Steps p.tables e below (T.setTop (mkF m (pc + 1) l' S)) t) : Steps p.tables e below (T.setTop (mkF m pc L (x :: S))) t := XS.astoreN X.here hx rfl (hb hby hd) rfl hv hl hr
theorem oiconst (X : Stand p l e R s m args below meth c T locs cells slots) (hx : p.tables.exec = Jvm.exec) (hby : c.code = bytes) {i : Int} (hd : decode bytes pc = .ok (.iconst i, 1)) (hr : Steps p.tables e below (T.setTop (mkF m (pc + 1) L (.int (Int32.ofInt i) :: S))) t) : Steps p.tables e below (T.setTop (mkF m pc L S)) t := XS.iconst X.here hx rfl (hb hby hd) hr
theorem obipush (X : Stand p l e R s m args below meth c T locs cells slots) (hx : p.tables.exec = Jvm.exec) (hby : c.code = bytes) {i : Int} (hd : decode bytes pc = .ok (.bipush i, 2)) (hr : Steps p.tables e below (T.setTop (mkF m (pc + 2) L (.int (Int8.ofInt i).toInt32 :: S))) t) : Steps p.tables e below (T.setTop (mkF m pc L S)) t := XS.bipush X.here hx rfl (hb hby hd) hr
theorem osipush (X : Stand p l e R s m args below meth c T locs cells slots) (hx : p.tables.exec = Jvm.exec) (hby : c.code = bytes) {i : Int} (hd : decode bytes pc = .ok (.sipush i, 3)) (hr : Steps p.tables e below (T.setTop (mkF m (pc + 3) L (.int (Int16.ofInt i).toInt32 :: S))) t) : Steps p.tables e below (T.setTop (mkF m pc L S)) t := XS.sipush X.here hx rfl (hb hby hd) hr
theorem olconst (X : Stand p l e R s m args below meth c T locs cells slots) (hx : p.tables.exec = Jvm.exec) (hby : c.code = bytes) {k : Fin 2} (hd : decode bytes pc = .ok (.lconst k, 1)) (hr : Steps p.tables e below (T.setTop (mkF m (pc + 1) L (.long (Int64.ofNat k) :: S))) t) : Steps p.tables e below (T.setTop (mkF m pc L S)) t := XS.lconst X.here hx rfl (hb hby hd) hr
theorem onull (X : Stand p l e R s m args below meth c T locs cells slots) (hx : p.tables.exec = Jvm.exec) (hby : c.code = bytes) (hd : decode bytes pc = .ok (.aconst_null, 1)) (hr : Steps p.tables e below (T.setTop (mkF m (pc + 1) L (.null :: S))) t) : Steps p.tables e below (T.setTop (mkF m pc L S)) t := XS.aconstNull X.here hx rfl (hb hby hd) hr
theorem oiadd (X : Stand p l e R s m args below meth c T locs cells slots) (hx : p.tables.exec = Jvm.exec) (hby : c.code = bytes) {x y : Int32} (hd : decode bytes pc = .ok (.iadd, 1)) (hr : Steps p.tables e below (T.setTop (mkF m (pc + 1) L (.int (x + y) :: S))) t) : Steps p.tables e below (T.setTop (mkF m pc L (.int y :: .int x :: S))) t := XS.iadd X.here hx rfl (hb hby hd) rfl hr
theorem oladd (X : Stand p l e R s m args below meth c T locs cells slots) (hx : p.tables.exec = Jvm.exec) (hby : c.code = bytes) {x y : Int64} (hd : decode bytes pc = .ok (.ladd, 1)) (hr : Steps p.tables e below (T.setTop (mkF m (pc + 1) L (.long (x + y) :: S))) t) : Steps p.tables e below (T.setTop (mkF m pc L (.long y :: .long x :: S))) t := XS.ladd X.here hx rfl (hb hby hd) rfl hr
theorem oisub (X : Stand p l e R s m args below meth c T locs cells slots) (hx : p.tables.exec = Jvm.exec) (hby : c.code = bytes) {x y : Int32} (hd : decode bytes pc = .ok (.isub, 1)) (hr : Steps p.tables e below (T.setTop (mkF m (pc + 1) L (.int (x - y) :: S))) t) : Steps p.tables e below (T.setTop (mkF m pc L (.int y :: .int x :: S))) t := XS.isub X.here hx rfl (hb hby hd) rfl hr
theorem olsub (X : Stand p l e R s m args below meth c T locs cells slots) (hx : p.tables.exec = Jvm.exec) (hby : c.code = bytes) {x y : Int64} (hd : decode bytes pc = .ok (.lsub, 1)) (hr : Steps p.tables e below (T.setTop (mkF m (pc + 1) L (.long (x - y) :: S))) t) : Steps p.tables e below (T.setTop (mkF m pc L (.long y :: .long x :: S))) t := XS.lsub X.here hx rfl (hb hby hd) rfl hr
theorem oimul (X : Stand p l e R s m args below meth c T locs cells slots) (hx : p.tables.exec = Jvm.exec) (hby : c.code = bytes) {x y : Int32} (hd : decode bytes pc = .ok (.imul, 1)) (hr : Steps p.tables e below (T.setTop (mkF m (pc + 1) L (.int (x * y) :: S))) t) : Steps p.tables e below (T.setTop (mkF m pc L (.int y :: .int x :: S))) t := XS.imul X.here hx rfl (hb hby hd) rfl hr
theorem olmul (X : Stand p l e R s m args below meth c T locs cells slots) (hx : p.tables.exec = Jvm.exec) (hby : c.code = bytes) {x y : Int64} (hd : decode bytes pc = .ok (.lmul, 1)) (hr : Steps p.tables e below (T.setTop (mkF m (pc + 1) L (.long (x * y) :: S))) t) : Steps p.tables e below (T.setTop (mkF m pc L (.long y :: .long x :: S))) t := XS.lmul X.here hx rfl (hb hby hd) rfl hr
theorem oiand (X : Stand p l e R s m args below meth c T locs cells slots) (hx : p.tables.exec = Jvm.exec) (hby : c.code = bytes) {x y : Int32} (hd : decode bytes pc = .ok (.iand, 1)) (hr : Steps p.tables e below (T.setTop (mkF m (pc + 1) L (.int (x &&& y) :: S))) t) : Steps p.tables e below (T.setTop (mkF m pc L (.int y :: .int x :: S))) t := XS.iand X.here hx rfl (hb hby hd) rfl hr
theorem oland (X : Stand p l e R s m args below meth c T locs cells slots) (hx : p.tables.exec = Jvm.exec) (hby : c.code = bytes) {x y : Int64} (hd : decode bytes pc = .ok (.land, 1)) (hr : Steps p.tables e below (T.setTop (mkF m (pc + 1) L (.long (x &&& y) :: S))) t) : Steps p.tables e below (T.setTop (mkF m pc L (.long y :: .long x :: S))) t := XS.land X.here hx rfl (hb hby hd) rfl hr
theorem oior (X : Stand p l e R s m args below meth c T locs cells slots) (hx : p.tables.exec = Jvm.exec) (hby : c.code = bytes) {x y : Int32} (hd : decode bytes pc = .ok (.ior, 1)) (hr : Steps p.tables e below (T.setTop (mkF m (pc + 1) L (.int (x ||| y) :: S))) t) : Steps p.tables e below (T.setTop (mkF m pc L (.int y :: .int x :: S))) t := XS.ior X.here hx rfl (hb hby hd) rfl hr
theorem olor (X : Stand p l e R s m args below meth c T locs cells slots) (hx : p.tables.exec = Jvm.exec) (hby : c.code = bytes) {x y : Int64} (hd : decode bytes pc = .ok (.lor, 1)) (hr : Steps p.tables e below (T.setTop (mkF m (pc + 1) L (.long (x ||| y) :: S))) t) : Steps p.tables e below (T.setTop (mkF m pc L (.long y :: .long x :: S))) t := XS.lor X.here hx rfl (hb hby hd) rfl hr
theorem oixor (X : Stand p l e R s m args below meth c T locs cells slots) (hx : p.tables.exec = Jvm.exec) (hby : c.code = bytes) {x y : Int32} (hd : decode bytes pc = .ok (.ixor, 1)) (hr : Steps p.tables e below (T.setTop (mkF m (pc + 1) L (.int (x ^^^ y) :: S))) t) : Steps p.tables e below (T.setTop (mkF m pc L (.int y :: .int x :: S))) t := XS.ixor X.here hx rfl (hb hby hd) rfl hr
theorem olxor (X : Stand p l e R s m args below meth c T locs cells slots) (hx : p.tables.exec = Jvm.exec) (hby : c.code = bytes) {x y : Int64} (hd : decode bytes pc = .ok (.lxor, 1)) (hr : Steps p.tables e below (T.setTop (mkF m (pc + 1) L (.long (x ^^^ y) :: S))) t) : Steps p.tables e below (T.setTop (mkF m pc L (.long y :: .long x :: S))) t := XS.lxor X.here hx rfl (hb hby hd) rfl hr
theorem oishl (X : Stand p l e R s m args below meth c T locs cells slots) (hx : p.tables.exec = Jvm.exec) (hby : c.code = bytes) {x y : Int32} (hd : decode bytes pc = .ok (.ishl, 1)) (hr : Steps p.tables e below (T.setTop (mkF m (pc + 1) L (.int (x <<< (y &&& 31)) :: S))) t) : Steps p.tables e below (T.setTop (mkF m pc L (.int y :: .int x :: S))) t := XS.ishl X.here hx rfl (hb hby hd) rfl hr
theorem oishr (X : Stand p l e R s m args below meth c T locs cells slots) (hx : p.tables.exec = Jvm.exec) (hby : c.code = bytes) {x y : Int32} (hd : decode bytes pc = .ok (.ishr, 1)) (hr : Steps p.tables e below (T.setTop (mkF m (pc + 1) L (.int (x >>> (y &&& 31)) :: S))) t) : Steps p.tables e below (T.setTop (mkF m pc L (.int y :: .int x :: S))) t := XS.ishr X.here hx rfl (hb hby hd) rfl hr
theorem oiushr (X : Stand p l e R s m args below meth c T locs cells slots) (hx : p.tables.exec = Jvm.exec) (hby : c.code = bytes) {x y : Int32} (hd : decode bytes pc = .ok (.iushr, 1)) (hr : Steps p.tables e below (T.setTop (mkF m (pc + 1) L (.int ((x.toUInt32 >>> (y &&& 31).toUInt32).toInt32) :: S))) t) : Steps p.tables e below (T.setTop (mkF m pc L (.int y :: .int x :: S))) t := XS.iushr X.here hx rfl (hb hby hd) rfl hr
theorem olshl (X : Stand p l e R s m args below meth c T locs cells slots) (hx : p.tables.exec = Jvm.exec) (hby : c.code = bytes) {x : Int64} {y : Int32} (hd : decode bytes pc = .ok (.lshl, 1)) (hr : Steps p.tables e below (T.setTop (mkF m (pc + 1) L (.long (x <<< (y &&& 0x3f).toInt64) :: S))) t) : Steps p.tables e below (T.setTop (mkF m pc L (.int y :: .long x :: S))) t := XS.lshl X.here hx rfl (hb hby hd) rfl hr
theorem olshr (X : Stand p l e R s m args below meth c T locs cells slots) (hx : p.tables.exec = Jvm.exec) (hby : c.code = bytes) {x : Int64} {y : Int32} (hd : decode bytes pc = .ok (.lshr, 1)) (hr : Steps p.tables e below (T.setTop (mkF m (pc + 1) L (.long (x >>> (y &&& 0x3f).toInt64) :: S))) t) : Steps p.tables e below (T.setTop (mkF m pc L (.int y :: .long x :: S))) t := XS.lshr X.here hx rfl (hb hby hd) rfl hr
theorem olushr (X : Stand p l e R s m args below meth c T locs cells slots) (hx : p.tables.exec = Jvm.exec) (hby : c.code = bytes) {x : Int64} {y : Int32} (hd : decode bytes pc = .ok (.lushr, 1)) (hr : Steps p.tables e below (T.setTop (mkF m (pc + 1) L (.long ((x.toUInt64 >>> (y &&& 0x3f).toInt64.toUInt64).toInt64) :: S))) t) : Steps p.tables e below (T.setTop (mkF m pc L (.int y :: .long x :: S))) t := XS.lushr X.here hx rfl (hb hby hd) rfl hr
theorem oineg (X : Stand p l e R s m args below meth c T locs cells slots) (hx : p.tables.exec = Jvm.exec) (hby : c.code = bytes) {x : Int32} (hd : decode bytes pc = .ok (.ineg, 1)) (hr : Steps p.tables e below (T.setTop (mkF m (pc + 1) L ((.int (-x)) :: S))) t) : Steps p.tables e below (T.setTop (mkF m pc L (.int x :: S))) t := XS.ineg X.here hx rfl (hb hby hd) rfl hr
theorem olneg (X : Stand p l e R s m args below meth c T locs cells slots) (hx : p.tables.exec = Jvm.exec) (hby : c.code = bytes) {x : Int64} (hd : decode bytes pc = .ok (.lneg, 1)) (hr : Steps p.tables e below (T.setTop (mkF m (pc + 1) L ((.long (-x)) :: S))) t) : Steps p.tables e below (T.setTop (mkF m pc L (.long x :: S))) t := XS.lneg X.here hx rfl (hb hby hd) rfl hr
theorem oi2l (X : Stand p l e R s m args below meth c T locs cells slots) (hx : p.tables.exec = Jvm.exec) (hby : c.code = bytes) {x : Int32} (hd : decode bytes pc = .ok (.i2l, 1)) (hr : Steps p.tables e below (T.setTop (mkF m (pc + 1) L ((.long (x.toInt64)) :: S))) t) : Steps p.tables e below (T.setTop (mkF m pc L (.int x :: S))) t := XS.i2l X.here hx rfl (hb hby hd) rfl hr
theorem ol2i (X : Stand p l e R s m args below meth c T locs cells slots) (hx : p.tables.exec = Jvm.exec) (hby : c.code = bytes) {x : Int64} (hd : decode bytes pc = .ok (.l2i, 1)) (hr : Steps p.tables e below (T.setTop (mkF m (pc + 1) L ((.int (x.toInt32)) :: S))) t) : Steps p.tables e below (T.setTop (mkF m pc L (.long x :: S))) t := XS.l2i X.here hx rfl (hb hby hd) rfl hr
theorem oi2b (X : Stand p l e R s m args below meth c T locs cells slots) (hx : p.tables.exec = Jvm.exec) (hby : c.code = bytes) {x : Int32} (hd : decode bytes pc = .ok (.i2b, 1)) (hr : Steps p.tables e below (T.setTop (mkF m (pc + 1) L ((.int (x.toInt8.toInt32)) :: S))) t) : Steps p.tables e below (T.setTop (mkF m pc L (.int x :: S))) t := XS.i2b X.here hx rfl (hb hby hd) rfl hr
theorem oi2s (X : Stand p l e R s m args below meth c T locs cells slots) (hx : p.tables.exec = Jvm.exec) (hby : c.code = bytes) {x : Int32} (hd : decode bytes pc = .ok (.i2s, 1)) (hr : Steps p.tables e below (T.setTop (mkF m (pc + 1) L ((.int (x.toInt16.toInt32)) :: S))) t) : Steps p.tables e below (T.setTop (mkF m pc L (.int x :: S))) t := XS.i2s X.here hx rfl (hb hby hd) rfl hr
theorem oi2c (X : Stand p l e R s m args below meth c T locs cells slots) (hx : p.tables.exec = Jvm.exec) (hby : c.code = bytes) {x : Int32} (hd : decode bytes pc = .ok (.i2c, 1)) (hr : Steps p.tables e below (T.setTop (mkF m (pc + 1) L ((.int (x.toUInt32.toUInt16.toUInt32.toInt32)) :: S))) t) : Steps p.tables e below (T.setTop (mkF m pc L (.int x :: S))) t := XS.i2c X.here hx rfl (hb hby hd) rfl hr
theorem oirem (X : Stand p l e R s m args below meth c T locs cells slots) (hx : p.tables.exec = Jvm.exec) (hby : c.code = bytes) {x y : Int32} (hd : decode bytes pc = .ok (.irem, 1)) (hy : y ≠ 0) (hr : Steps p.tables e below (T.setTop (mkF m (pc + 1) L (.int (x % y) :: S))) t) : Steps p.tables e below (T.setTop (mkF m pc L (.int y :: .int x :: S))) t := iremM X hx rfl (hb hby hd) rfl hy hr
theorem oidiv (X : Stand p l e R s m args below meth c T locs cells slots) (hx : p.tables.exec = Jvm.exec) (hby : c.code = bytes) {x y : Int32} (hd : decode bytes pc = .ok (.idiv, 1)) (hy : y ≠ 0) (hr : Steps p.tables e below (T.setTop (mkF m (pc + 1) L (.int (x / y) :: S))) t) : Steps p.tables e below (T.setTop (mkF m pc L (.int y :: .int x :: S))) t := XS.idiv X.here hx rfl (hb hby hd) rfl hy hr
theorem oldiv (X : Stand p l e R s m args below meth c T locs cells slots) (hx : p.tables.exec = Jvm.exec) (hby : c.code = bytes) {x y : Int64} (hd : decode bytes pc = .ok (.ldiv, 1)) (hy : y ≠ 0) (hr : Steps p.tables e below (T.setTop (mkF m (pc + 1) L (.long (x / y) :: S))) t) : Steps p.tables e below (T.setTop (mkF m pc L (.long y :: .long x :: S))) t := XS.ldiv X.here hx rfl (hb hby hd) rfl hy hr
theorem olrem (X : Stand p l e R s m args below meth c T locs cells slots) (hx : p.tables.exec = Jvm.exec) (hby : c.code = bytes) {x y : Int64} (hd : decode bytes pc = .ok (.lrem, 1)) (hy : y ≠ 0) (hr : Steps p.tables e below (T.setTop (mkF m (pc + 1) L (.long (x - (x / y) * y) :: S))) t) : Steps p.tables e below (T.setTop (mkF m pc L (.long y :: .long x :: S))) t := XS.lrem X.here hx rfl (hb hby hd) rfl hy hr
theorem olcmp (X : Stand p l e R s m args below meth c T locs cells slots) (hx : p.tables.exec = Jvm.exec) (hby : c.code = bytes) {x y : Int64} (hd : decode bytes pc = .ok (.lcmp, 1)) (hr : Steps p.tables e below (T.setTop (mkF m (pc + 1) L (.int (lcmpW x y) :: S))) t) : Steps p.tables e below (T.setTop (mkF m pc L (.long y :: .long x :: S))) t := XS.lcmp X.here hx rfl (hb hby hd) rfl hr
theorem oiinc (X : Stand p l e R s m args below meth c T locs cells slots) (hx : p.tables.exec = Jvm.exec) (hby : c.code = bytes) {k : Nat} {z : Int} {x : Int32} (hd : decode bytes pc = .ok (.iinc k z, 3)) (l' : Array Slot) (hl : L[k]? = some (.val (.int x))) (hl' : storeLocals L k (.int (x + Int32.ofInt z)) = some l') (hr : Steps p.tables e below (T.setTop (mkF m (pc + 3) l' S)) t) : Steps p.tables e below (T.setTop (mkF m pc L S)) t := XS.iinc X.here hx rfl (hb hby hd) hl hl' hr
theorem odup (X : Stand p l e R s m args below meth c T locs cells slots) (hx : p.tables.exec = Jvm.exec) (hby : c.code = bytes) {x : Value} (hd : decode bytes pc = .ok (.dup, 1)) (hc : x.category = 1) (hr : Steps p.tables e below (T.setTop (mkF m (pc + 1) L (x :: x :: S))) t) : Steps p.tables e below (T.setTop (mkF m pc L (x :: S))) t := XS.dup X.here hx rfl (hb hby hd) rfl hc hr
theorem opop (X : Stand p l e R s m args below meth c T locs cells slots) (hx : p.tables.exec = Jvm.exec) (hby : c.code = bytes) {x : Value} (hd : decode bytes pc = .ok (.pop, 1)) (hc : x.category = 1) (hr : Steps p.tables e below (T.setTop (mkF m (pc + 1) L S)) t) : Steps p.tables e below (T.setTop (mkF m pc L (x :: S))) t := XS.pop X.here hx rfl (hb hby hd) rfl hc hr
theorem odupx1 (X : Stand p l e R s m args below meth c T locs cells slots) (hx : p.tables.exec = Jvm.exec) (hby : c.code = bytes) {x y : Value} (hd : decode bytes pc = .ok (.dup_x1, 1)) (hc : x.category = 1) (hc' : y.category = 1) (hr : Steps p.tables e below (T.setTop (mkF m (pc + 1) L (x :: y :: x :: S))) t) : Steps p.tables e below (T.setTop (mkF m pc L (x :: y :: S))) t := XS.dupX1 X.here hx rfl (hb hby hd) rfl hc hc' hr
theorem odup2 (X : Stand p l e R s m args below meth c T locs cells slots) (hx : p.tables.exec = Jvm.exec) (hby : c.code = bytes) {x y : Value} (hd : decode bytes pc = .ok (.dup2, 1)) (hc : x.category = 1) (hc' : y.category = 1) (hr : Steps p.tables e below (T.setTop (mkF m (pc + 1) L (x :: y :: x :: y :: S))) t) : Steps p.tables e below (T.setTop (mkF m pc L (x :: y :: S))) t := Jvm.Free.XT.dup2 X.here hx rfl (hb hby hd) rfl hc hc' hr
theorem ogoto (X : Stand p l e R s m args below meth c T locs cells slots) (hx : p.tables.exec = Jvm.exec) (hby : c.code = bytes) {o : Int} (hd : decode bytes pc = .ok (.goto o, 3)) (pc' : Nat) (hp : 0 ≤ (pc : Int) + o ∧ ((pc : Int) + o).toNat = pc') (hr : Steps p.tables e below (T.setTop (mkF m pc' L S)) t) : Steps p.tables e below (T.setTop (mkF m pc L S)) t := XS.goto X.here hx rfl rfl (hb hby hd) hp.1 hp.2 hr
theorem oifY (X : Stand p l e R s m args below meth c T locs cells slots) (hx : p.tables.exec = Jvm.exec) (hby : c.code = bytes) {cd : ClassFile.Cond} {x : Int32} {o : Int} (hd : decode bytes pc = .ok (.ifCond cd o, 3)) (pc' : Nat) (hc : ifCond.holds cd x = true) (hp : 0 ≤ (pc : Int) + o ∧ ((pc : Int) + o).toNat = pc') (hr : Steps p.tables e below (T.setTop (mkF m pc' L S)) t) : Steps p.tables e below (T.setTop (mkF m pc L (.int x :: S))) t := XS.ifYes X.here hx rfl rfl (hb hby hd) rfl hc hp.1 hp.2 hr
theorem oifN (X : Stand p l e R s m args below meth c T locs cells slots) (hx : p.tables.exec = Jvm.exec) (hby : c.code = bytes) {cd : ClassFile.Cond} {x : Int32} {o : Int} (hd : decode bytes pc = .ok (.ifCond cd o, 3)) (hc : ifCond.holds cd x = false) (hr : Steps p.tables e below (T.setTop (mkF m (pc + 3) L S)) t) : Steps p.tables e below (T.setTop (mkF m pc L (.int x :: S))) t := XS.ifNo X.here hx rfl (hb hby hd) rfl hc hr
theorem oicY (X : Stand p l e R s m args below meth c T locs cells slots) (hx : p.tables.exec = Jvm.exec) (hby : c.code = bytes) {cd : ClassFile.Cond} {x y : Int32} {o : Int} (hd : decode bytes pc = .ok (.if_icmp cd o, 3)) (pc' : Nat) (hc : if_icmp.holds cd x y = true) (hp : 0 ≤ (pc : Int) + o ∧ ((pc : Int) + o).toNat = pc') (hr : Steps p.tables e below (T.setTop (mkF m pc' L S)) t) : Steps p.tables e below (T.setTop (mkF m pc L (.int y :: .int x :: S))) t := XS.icmpYes X.here hx rfl rfl (hb hby hd) rfl hc hp.1 hp.2 hr
theorem oicN (X : Stand p l e R s m args below meth c T locs cells slots) (hx : p.tables.exec = Jvm.exec) (hby : c.code = bytes) {cd : ClassFile.Cond} {x y : Int32} {o : Int} (hd : decode bytes pc = .ok (.if_icmp cd o, 3)) (hc : if_icmp.holds cd x y = false) (hr : Steps p.tables e below (T.setTop (mkF m (pc + 3) L S)) t) : Steps p.tables e below (T.setTop (mkF m pc L (.int y :: .int x :: S))) t := XS.icmpNo X.here hx rfl (hb hby hd) rfl hc hr
theorem oacmp (X : Stand p l e R s m args below meth c T locs cells slots) (hx : p.tables.exec = Jvm.exec) (hby : c.code = bytes) {cd : ACond} {x y : Value} {o : Int} (hd : decode bytes pc = .ok (.if_acmp cd o, 3)) (pc' : Nat) {same : Bool} (h1 : x.isRef = true) (h2 : y.isRef = true) (hq : decide (x = y) = same) (hp : 0 ≤ (pc : Int) + o ∧ pc' = if acV cd same = true then ((pc : Int) + o).toNat else pc + 3) (hr : Steps p.tables e below (T.setTop (mkF m pc' L S)) t) : Steps p.tables e below (T.setTop (mkF m pc L (y :: x :: S))) t := Jvm.RoadKit.acmp X hx rfl h1 h2 rfl (hb hby hd) rfl hq hp.1 hp.2 hr
theorem onlY (X : Stand p l e R s m args below meth c T locs cells slots) (hx : p.tables.exec = Jvm.exec) (hby : c.code = bytes) {o : Int} (hd : decode bytes pc = .ok (.ifnull o, 3)) (pc' : Nat) (hp : 0 ≤ (pc : Int) + o ∧ ((pc : Int) + o).toNat = pc') (hr : Steps p.tables e below (T.setTop (mkF m pc' L S)) t) : Steps p.tables e below (T.setTop (mkF m pc L (.null :: S))) t := XS.ifnullYes X.here hx rfl rfl (hb hby hd) rfl hp.1 hp.2 hr
theorem onlN (X : Stand p l e R s m args below meth c T locs cells slots) (hx : p.tables.exec = Jvm.exec) (hby : c.code = bytes) {o : Int} {a : Addr} (hd : decode bytes pc = .ok (.ifnull o, 3)) (hr : Steps p.tables e below (T.setTop (mkF m (pc + 3) L S)) t) : Steps p.tables e below (T.setTop (mkF m pc L (.ref a :: S))) t := XS.ifnullNo X.here hx rfl (hb hby hd) rfl hr
theorem onnY (X : Stand p l e R s m args below meth c T locs cells slots) (hx : p.tables.exec = Jvm.exec) (hby : c.code = bytes) {o : Int} {a : Addr} (hd : decode bytes pc = .ok (.ifnonnull o, 3)) (pc' : Nat) (hp : 0 ≤ (pc : Int) + o ∧ ((pc : Int) + o).toNat = pc') (hr : Steps p.tables e below (T.setTop (mkF m pc' L S)) t) : Steps p.tables e below (T.setTop (mkF m pc L (.ref a :: S))) t := XS.ifnonnullYes X.here hx rfl rfl (hb hby hd) rfl hp.1 hp.2 hr
theorem onnN (X : Stand p l e R s m args below meth c T locs cells slots) (hx : p.tables.exec = Jvm.exec) (hby : c.code = bytes) {o : Int} (hd : decode bytes pc = .ok (.ifnonnull o, 3)) (hr : Steps p.tables e below (T.setTop (mkF m (pc + 3) L S)) t) : Steps p.tables e below (T.setTop (mkF m pc L (.null :: S))) t := XS.ifnonnullNo X.here hx rfl (hb hby hd) rfl hr
end OwnSteps
section OwnCalls
variable {p : Program} {l : Launch} {e : Env} {R : Room} {s : State} {m : MethodId} {args : Array Value} {below : List Frame} {meth : Method} {c : Code} {T : State} {locs : List Loc} {cells slots : Nat} {Z : State} {a0 : Array Value} {h : Heap} {bytes : ByteArray}
theorem ocallS (X : Stand p l e R s m args below meth c T locs cells slots) (hx : p.tables.exec = Jvm.exec) (hZ : Z.Warmed39 s.vm) {cb : ByteArray} {maxL : Nat} {ret : Option FieldType} {rm : Room} {Q : Option Value → Heap → List Loc → Prop} {argsL rest : List Value} {index : Nat} {own : String} (y : MethodName) (hown : s.vm.findClass own = some m.cls) (w1 : (Cond.methodLink own index y).before a0 Z = true) (w2 : (Cond.static y).before a0 Z = true) (hy : y.cls ≠ "java/lang/invoke/MethodHandle" ∧ y.cls ≠ "java/lang/invoke/VarHandle") (w5 : (Cond.code y cb maxL ret).before a0 Z = true) (w6 : (Cond.initialized y.cls).before a0 Z = true) (eT : T.heap = h) (hM : MetFree l y (head1 [Cond.code y cb maxL ret] rm) (fun a U => a = argsL.toArray ∧ Z.Warmed39 U.vm ∧ U.heap = h) (fun _ _ _ _ _ => True) (fun _ U o U' => ∃ v L, o = .returned v ∧ Q v U'.heap L ∧ FrameEnd U o U' L rm.cells rm.slots)) {st : List Value} (hst : st = argsL.reverse ++ rest) (W : Nat) (hW : (rest.map fun v => v.category).sum = W) (hroom : rm.frames + 1 ≤ R.frames ∧ W + (maxL + 11) + rm.locals ≤ R.locals ∧ cells + rm.cells ≤ R.cells ∧ slots + rm.slots ≤ R.slots) {pc : Nat} {Ls : Array Slot} {nl : Nat} (hml : c.maxLocals = nl) (hsz : Ls.size = nl) (hlen : ∀ sig, parseMethodDescriptor y.desc = some sig → argsL.length = sig.parameters.length) (hd : decode bytes pc = .ok (.invokestatic index, 3)) (hby : c.code = bytes) : ∃ v T' L, Stand p l e R s m args below meth c T' (locs ++ L) (cells + rm.cells) (slots + rm.slots) ∧ Q v T'.heap L ∧ ∀ t, Steps p.tables e below (T'.setTop (mkF m (pc + 3) Ls (v.toList ++ rest))) t → Steps p.tables e below (T.setTop (mkF m pc Ls st)) t := by
  subst hst
  obtain ⟨_, _, ⟨T1, L1, k1, n1⟩, -, X1, ⟨Lc1, hQ1, l1, y1, z1⟩, st1⟩ := Jvm.LawKit.callS X hx hown (mvT hZ w1) (mvT hZ w2) (mvT hZ w6) (mvT hZ w5) hy (backOf (W := W) hM hZ w5 w6 hroom.1 hroom.2.1) (g := mkF m pc Ls (argsL.reverse ++ rest)) rfl (hsz.trans hml.symm) (argsL := argsL) (rest := rest) hlen rfl (by show 2 * 0 + _ ≤ _; rw [Nat.mul_zero, Nat.zero_add]; exact Nat.le_of_eq hW) (hb hby hd) (fun _ _ => ⟨rfl, eT, hroom.2.2.1, hroom.2.2.2⟩)
  dsimp only [Pt.U, Pt.locs, Pt.cells, Pt.slots] at X1 l1 y1 z1 st1 hQ1
  subst l1 y1 z1
  exact ⟨_, _, _, X1, hQ1, st1⟩
theorem ocallI (X : Stand p l e R s m args below meth c T locs cells slots) (hx : p.tables.exec = Jvm.exec) (hZ : Z.Warmed39 s.vm) {cb : ByteArray} {maxL : Nat} {rm : Room} {Q : Option Value → Heap → List Loc → Prop} {argsL rest : List Value} {index : Nat} {own : String} (y : MethodName) (hn : y.name = "<init>") (hown : s.vm.findClass own = some m.cls) (w1 : (Cond.methodLink own index y).before a0 Z = true) (w2 : (Cond.instanceMethod y).before a0 Z = true) (hy : y.cls ≠ "java/lang/invoke/MethodHandle" ∧ y.cls ≠ "java/lang/invoke/VarHandle") (w5 : (Cond.code y cb maxL none).before a0 Z = true) (w6 : (Cond.initialized y.cls).before a0 Z = true) (eT : T.heap = h) {b : Addr} (hM : MetFree l y (head1 [Cond.code y cb maxL none] rm) (fun a U => a = (.ref b :: argsL).toArray ∧ Z.Warmed39 U.vm ∧ U.heap = h) (fun _ _ _ _ _ => True) (fun _ U o U' => ∃ v L, o = .returned v ∧ Q v U'.heap L ∧ FrameEnd U o U' L rm.cells rm.slots)) {st : List Value} (hst : st = argsL.reverse ++ .ref b :: rest) (W : Nat) (hW : (rest.map fun v => v.category).sum = W) (hroom : rm.frames + 1 ≤ R.frames ∧ W + (maxL + 11) + rm.locals ≤ R.locals ∧ cells + rm.cells ≤ R.cells ∧ slots + rm.slots ≤ R.slots) {pc : Nat} {Ls : Array Slot} {nl : Nat} (hml : c.maxLocals = nl) (hsz : Ls.size = nl) (hlen : ∀ sig, parseMethodDescriptor y.desc = some sig → argsL.length = sig.parameters.length) (hd : decode bytes pc = .ok (.invokespecial index, 3)) (hby : c.code = bytes) : ∃ v T' L, Stand p l e R s m args below meth c T' (locs ++ L) (cells + rm.cells) (slots + rm.slots) ∧ Q v T'.heap L ∧ ∀ t, Steps p.tables e below (T'.setTop (mkF m (pc + 3) Ls (v.toList ++ rest))) t → Steps p.tables e below (T.setTop (mkF m pc Ls st)) t := by
  subst hst
  obtain ⟨_, _, ⟨T1, L1, k1, n1⟩, -, X1, ⟨Lc1, hQ1, l1, y1, z1⟩, st1⟩ := X.specialBack hx hn hown (mvT hZ w1) (mvT hZ w2) (mvT hZ w5) hy (backOf (W := W) hM hZ w5 w6 hroom.1 hroom.2.1) (g := mkF m pc Ls (argsL.reverse ++ .ref b :: rest)) rfl (hsz.trans hml.symm) (Steps.refl _) (a := b) (argsL := argsL) (rest := rest) hlen rfl (by show 2 * 0 + _ ≤ _; rw [Nat.mul_zero, Nat.zero_add]; exact Nat.le_of_eq hW) (hb hby hd) (fun _ _ => ⟨rfl, eT, hroom.2.2.1, hroom.2.2.2⟩)
  dsimp only [Pt.U, Pt.locs, Pt.cells, Pt.slots] at X1 l1 y1 z1 st1 hQ1
  subst l1 y1 z1
  exact ⟨_, _, _, X1, hQ1, fun _ k => st1.trans k⟩
theorem ocallV (X : Stand p l e R s m args below meth c T locs cells slots) (hx : p.tables.exec = Jvm.exec) (hZ : Z.Warmed39 s.vm) {cb : ByteArray} {maxL : Nat} {ret : Option FieldType} {rm : Room} {Q : Option Value → Heap → List Loc → Prop} {argsL rest : List Value} {index : Nat} {own : String} {C : String} (y z : MethodName) (hown : s.vm.findClass own = some m.cls) (w1 : (Cond.methodLink own index y).before a0 Z = true) (w2 : (Cond.declares y).before a0 Z = true) (nf : NotFace s y) (w4 : (Cond.selects C y z).before a0 Z = true) (w3 : (Cond.instanceMethod z).before a0 Z = true) (hy : y.cls ≠ "java/lang/invoke/MethodHandle" ∧ y.cls ≠ "java/lang/invoke/VarHandle") (w5 : (Cond.code z cb maxL ret).before a0 Z = true) (w6 : (Cond.initialized z.cls).before a0 Z = true) (eT : T.heap = h) {b : Addr} (E : Exa Z h b C) (hM : MetFree l z (head1 [Cond.code z cb maxL ret] rm) (fun a U => a = (.ref b :: argsL).toArray ∧ Z.Warmed39 U.vm ∧ U.heap = h) (fun _ _ _ _ _ => True) (fun _ U o U' => ∃ v L, o = .returned v ∧ Q v U'.heap L ∧ FrameEnd U o U' L rm.cells rm.slots)) {st : List Value} (hst : st = argsL.reverse ++ .ref b :: rest) (W : Nat) (hW : (rest.map fun v => v.category).sum = W) (hroom : rm.frames + 1 ≤ R.frames ∧ W + (maxL + 11) + rm.locals ≤ R.locals ∧ cells + rm.cells ≤ R.cells ∧ slots + rm.slots ≤ R.slots) {pc : Nat} {Ls : Array Slot} {nl : Nat} (hml : c.maxLocals = nl) (hsz : Ls.size = nl) (hlen : ∀ sig, parseMethodDescriptor y.desc = some sig → argsL.length = sig.parameters.length) (hd : decode bytes pc = .ok (.invokevirtual index, 3)) (hby : c.code = bytes) : ∃ v T' L, Stand p l e R s m args below meth c T' (locs ++ L) (cells + rm.cells) (slots + rm.slots) ∧ Q v T'.heap L ∧ ∀ t, Steps p.tables e below (T'.setTop (mkF m (pc + 3) Ls (v.toList ++ rest))) t → Steps p.tables e below (T.setTop (mkF m pc Ls st)) t := by
  subst hst
  obtain ⟨cq, kq, qa, qb, qc⟩ := isOf hZ eT E
  obtain ⟨_, _, ⟨T1, L1, k1, n1⟩, -, X1, ⟨Lc1, hQ1, l1, y1, z1⟩, st1⟩ := X.virtualBack hx hown (mvT hZ w1) (mvT hZ w2) nf (mvT hZ w4) (mvT hZ w3) hy (backOf (W := W) hM hZ w5 w6 hroom.1 hroom.2.1) qa qc (g := mkF m pc Ls (argsL.reverse ++ .ref b :: rest)) rfl (hsz.trans hml.symm) (Steps.refl _) (argsL := argsL) (rest := rest) hlen rfl (by show 2 * 0 + _ ≤ _; rw [Nat.mul_zero, Nat.zero_add]; exact Nat.le_of_eq hW) (hb hby hd) (fun _ _ => ⟨rfl, eT, hroom.2.2.1, hroom.2.2.2⟩)
  dsimp only [Pt.U, Pt.locs, Pt.cells, Pt.slots] at X1 l1 y1 z1 st1 hQ1
  subst l1 y1 z1
  exact ⟨_, _, _, X1, hQ1, fun _ k => st1.trans k⟩
theorem ocallU (X : Stand p l e R s m args below meth c T locs cells slots) (hx : p.tables.exec = Jvm.exec) (hZ : Z.Warmed39 s.vm) {cb : ByteArray} {maxL : Nat} {ret : Option FieldType} {rm : Room} {Q : Option Value → Heap → List Loc → Prop} {argsL rest : List Value} {index : Nat} {own : String} {C owner : String} (x y : MethodName) (hown : s.vm.findClass own = some m.cls) (w1 : (Cond.methodLink own index x).before a0 Z = true) (w2 : (Cond.sameMethod x.cls owner x.name x.desc).before a0 Z = true) (w7 : (Cond.declares ⟨owner, x.name, x.desc⟩).before a0 Z = true) (hy : owner ≠ "java/lang/invoke/MethodHandle" ∧ owner ≠ "java/lang/invoke/VarHandle") (w4 : (Cond.selects C x y).before a0 Z = true) (w3 : (Cond.instanceMethod y).before a0 Z = true) (w5 : (Cond.code y cb maxL ret).before a0 Z = true) (w6 : (Cond.initialized y.cls).before a0 Z = true) (eT : T.heap = h) {b : Addr} (E : Exa Z h b C) (hM : MetFree l y (head1 [Cond.code y cb maxL ret] rm) (fun a U => a = (.ref b :: argsL).toArray ∧ Z.Warmed39 U.vm ∧ U.heap = h) (fun _ _ _ _ _ => True) (fun _ U o U' => ∃ v L, o = .returned v ∧ Q v U'.heap L ∧ FrameEnd U o U' L rm.cells rm.slots)) {st : List Value} (hst : st = argsL.reverse ++ .ref b :: rest) (W : Nat) (hW : (rest.map fun v => v.category).sum = W) (hroom : rm.frames + 1 ≤ R.frames ∧ W + (maxL + 11) + rm.locals ≤ R.locals ∧ cells + rm.cells ≤ R.cells ∧ slots + rm.slots ≤ R.slots) {pc : Nat} {Ls : Array Slot} {nl : Nat} (hml : c.maxLocals = nl) (hsz : Ls.size = nl) (hlen : ∀ sig, parseMethodDescriptor x.desc = some sig → argsL.length = sig.parameters.length) (hd : decode bytes pc = .ok (.invokevirtual index, 3)) (hby : c.code = bytes) : ∃ v T' L, Stand p l e R s m args below meth c T' (locs ++ L) (cells + rm.cells) (slots + rm.slots) ∧ Q v T'.heap L ∧ ∀ t, Steps p.tables e below (T'.setTop (mkF m (pc + 3) Ls (v.toList ++ rest))) t → Steps p.tables e below (T.setTop (mkF m pc Ls st)) t := by
  subst hst
  obtain ⟨cq, kq, qa, qb, qc⟩ := isOf hZ eT E
  obtain ⟨_, _, ⟨T1, L1, k1, n1⟩, -, X1, ⟨Lc1, hQ1, l1, y1, z1⟩, st1⟩ := X.virtualBackUp hx hown (mvT hZ w1) (mvT hZ w2) (mvT hZ w7) hy (mvT hZ w4) (mvT hZ w3) (backOf (W := W) hM hZ w5 w6 hroom.1 hroom.2.1) qa qc (g := mkF m pc Ls (argsL.reverse ++ .ref b :: rest)) rfl (hsz.trans hml.symm) (Steps.refl _) (argsL := argsL) (rest := rest) hlen rfl (by show 2 * 0 + _ ≤ _; rw [Nat.mul_zero, Nat.zero_add]; exact Nat.le_of_eq hW) (hb hby hd) (fun _ _ => ⟨rfl, eT, hroom.2.2.1, hroom.2.2.2⟩)
  dsimp only [Pt.U, Pt.locs, Pt.cells, Pt.slots] at X1 l1 y1 z1 st1 hQ1
  subst l1 y1 z1
  exact ⟨_, _, _, X1, hQ1, fun _ k => st1.trans k⟩
theorem ocallP (X : Stand p l e R s m args below meth c T locs cells slots) (hx : p.tables.exec = Jvm.exec) (hZ : Z.Warmed39 s.vm) {cb : ByteArray} {maxL : Nat} {ret : Option FieldType} {rm : Room} {Q : Option Value → Heap → List Loc → Prop} {argsL rest : List Value} {index : Nat} {own : String} (y : MethodName) (hown : s.vm.findClass own = some m.cls) (w1 : (Cond.methodLink own index y).before a0 Z = true) (w2 : (Cond.instanceMethod y).before a0 Z = true) (w4 : (Cond.selects y.cls y y).before args s = true) (w3 : (Cond.privateMethod y).before a0 Z = true) (hy : y.cls ≠ "java/lang/invoke/MethodHandle" ∧ y.cls ≠ "java/lang/invoke/VarHandle") (w5 : (Cond.code y cb maxL ret).before a0 Z = true) (w6 : (Cond.initialized y.cls).before a0 Z = true) (eT : T.heap = h) {C : String} {b : Addr} (E : Exa Z h b C) (hM : MetFree l y (head1 [Cond.code y cb maxL ret] rm) (fun a U => a = (.ref b :: argsL).toArray ∧ Z.Warmed39 U.vm ∧ U.heap = h) (fun _ _ _ _ _ => True) (fun _ U o U' => ∃ v L, o = .returned v ∧ Q v U'.heap L ∧ FrameEnd U o U' L rm.cells rm.slots)) {st : List Value} (hst : st = argsL.reverse ++ .ref b :: rest) (W : Nat) (hW : (rest.map fun v => v.category).sum = W) (hroom : rm.frames + 1 ≤ R.frames ∧ W + (maxL + 11) + rm.locals ≤ R.locals ∧ cells + rm.cells ≤ R.cells ∧ slots + rm.slots ≤ R.slots) {pc : Nat} {Ls : Array Slot} {nl : Nat} (hml : c.maxLocals = nl) (hsz : Ls.size = nl) (hlen : ∀ sig, parseMethodDescriptor y.desc = some sig → argsL.length = sig.parameters.length) (hd : decode bytes pc = .ok (.invokevirtual index, 3)) (hby : c.code = bytes) : ∃ v T' L, Stand p l e R s m args below meth c T' (locs ++ L) (cells + rm.cells) (slots + rm.slots) ∧ Q v T'.heap L ∧ ∀ t, Steps p.tables e below (T'.setTop (mkF m (pc + 3) Ls (v.toList ++ rest))) t → Steps p.tables e below (T.setTop (mkF m pc Ls st)) t := by
  subst hst
  obtain ⟨cq, q1, q2⟩ := E.cell
  obtain ⟨_, _, ⟨T1, L1, k1, n1⟩, -, X1, ⟨Lc1, hQ1, l1, y1, z1⟩, st1⟩ := X.privateBack hx hown (mvT hZ w1) (mvT hZ w2) w4 (Cond.privateMethod_at (mvP hZ w3 (args := #[]))) (mvT hZ w5) hy (backOf (W := W) hM hZ w5 w6 hroom.1 hroom.2.1) (g := mkF m pc Ls (argsL.reverse ++ .ref b :: rest)) rfl (hsz.trans hml.symm) (Steps.refl _) (a := b) (by rw [eT]; exact q1) q2 (argsL := argsL) (rest := rest) hlen rfl (by show 2 * 0 + _ ≤ _; rw [Nat.mul_zero, Nat.zero_add]; exact Nat.le_of_eq hW) (hb hby hd) (fun _ _ => ⟨rfl, eT, hroom.2.2.1, hroom.2.2.2⟩)
  dsimp only [Pt.U, Pt.locs, Pt.cells, Pt.slots] at X1 l1 y1 z1 st1 hQ1
  subst l1 y1 z1
  exact ⟨_, _, _, X1, hQ1, fun _ k => st1.trans k⟩
theorem ocallN (X : Stand p l e R s m args below meth c T locs cells slots) (hx : p.tables.exec = Jvm.exec) (hZ : Z.Warmed39 s.vm) {cb : ByteArray} {maxL : Nat} {ret : Option FieldType} {rm : Room} {Q : Option Value → Heap → List Loc → Prop} {argsL rest : List Value} {index : Nat} {own : String} {C : String} (x y : MethodName) (hown : s.vm.findClass own = some m.cls) (w1 : (Cond.methodLink own index x).before a0 Z = true) (w2 : (Cond.declares x).before a0 Z = true) (w7 : (Cond.interfaceMethod x.cls x.cls x.name x.desc).before args s = true) (w4 : (Cond.selects C x y).before a0 Z = true) (w3 : (Cond.instanceMethod y).before a0 Z = true) (w8 : (Cond.publicMethod y).before a0 Z = true) (w9 : (Cond.unhidden C x.name x.desc).before a0 Z = true) (wa : (Cond.castable C x.cls).before a0 Z = true) (hy : x.cls ≠ "java/lang/invoke/MethodHandle" ∧ x.cls ≠ "java/lang/invoke/VarHandle") (w5 : (Cond.code y cb maxL ret).before a0 Z = true) (w6 : (Cond.initialized y.cls).before a0 Z = true) (eT : T.heap = h) {b : Addr} (E : Exa Z h b C) {cnt : Nat} (hM : MetFree l y (head1 [Cond.code y cb maxL ret] rm) (fun a U => a = (.ref b :: argsL).toArray ∧ Z.Warmed39 U.vm ∧ U.heap = h) (fun _ _ _ _ _ => True) (fun _ U o U' => ∃ v L, o = .returned v ∧ Q v U'.heap L ∧ FrameEnd U o U' L rm.cells rm.slots)) {st : List Value} (hst : st = argsL.reverse ++ .ref b :: rest) (W : Nat) (hW : (rest.map fun v => v.category).sum = W) (hroom : rm.frames + 1 ≤ R.frames ∧ W + (maxL + 11) + rm.locals ≤ R.locals ∧ cells + rm.cells ≤ R.cells ∧ slots + rm.slots ≤ R.slots) {pc : Nat} {Ls : Array Slot} {nl : Nat} (hml : c.maxLocals = nl) (hsz : Ls.size = nl) (hlen : ∀ sig, parseMethodDescriptor x.desc = some sig → argsL.length = sig.parameters.length) (hd : decode bytes pc = .ok (.invokeinterface index cnt, 5)) (hby : c.code = bytes) : ∃ v T' L, Stand p l e R s m args below meth c T' (locs ++ L) (cells + rm.cells) (slots + rm.slots) ∧ Q v T'.heap L ∧ ∀ t, Steps p.tables e below (T'.setTop (mkF m (pc + 5) Ls (v.toList ++ rest))) t → Steps p.tables e below (T.setTop (mkF m pc Ls st)) t := by
  subst hst
  obtain ⟨cq, kq, qa, qb, qc⟩ := isOf hZ eT E
  obtain ⟨_, _, ⟨T1, L1, k1, n1⟩, -, X1, ⟨Lc1, hQ1, l1, y1, z1⟩, st1⟩ := X.interfaceBack hx hown (mvT hZ w1) (mvT hZ w2) w7 (mvT hZ w4) (mvT hZ w3) (mvT hZ w8) (mvT hZ w9) (mvT hZ wa) hy (backOf (W := W) hM hZ w5 w6 hroom.1 hroom.2.1) qa qb qc (g := mkF m pc Ls (argsL.reverse ++ .ref b :: rest)) rfl (hsz.trans hml.symm) (Steps.refl _) (argsL := argsL) (rest := rest) hlen rfl (by show 2 * 0 + _ ≤ _; rw [Nat.mul_zero, Nat.zero_add]; exact Nat.le_of_eq hW) (hb hby hd) (fun _ _ => ⟨rfl, eT, hroom.2.2.1, hroom.2.2.2⟩)
  dsimp only [Pt.U, Pt.locs, Pt.cells, Pt.slots] at X1 l1 y1 z1 st1 hQ1
  subst l1 y1 z1
  exact ⟨_, _, _, X1, hQ1, fun _ k => st1.trans k⟩
end OwnCalls
end Jvm.RoadKit
namespace Jvm.Pilot.@@N@@
open Jvm Jvm.ClassFile Sem Op Lib Jvm.Free Jvm.Stand Jvm.LawKit Jvm.RoadKit Bundle Jvm.Pilot.@@N@@.Jvm.D
theorem ww {Z : State} {a0 : Array Value} (hw : ∀ d ∈ tables_1, d.before a0 Z = true) (i : Nat) {d : Jvm.Cond} (h : tables_1[i]? = some d) : d.before a0 Z = true := hw d (List.mem_of_getElem? h)
def QLaw (n0 : Nat) (v : Option Value) (h : Heap) (L : List Loc) : Prop := v = some (.int (1 : Int32)) ∧ Fr n0 L

theorem own_r2 (t : Int32) (h0 : 0 ≤ t.toInt) (h1 : t.toInt < 2) : t = (0 : Int32) ∨ t = (1 : Int32) := by
  have h : t.toInt = 0 ∨ t.toInt = 1 := by omega
  rcases h with h | h <;> simp [← Int32.toInt_inj, h]
theorem own_s2 (x : Int32) : x &&& (1 : Int32) = (0 : Int32) ∨ x &&& (1 : Int32) = (1 : Int32) := own_r2 _ (c_and x 1 (by decide)).1 (by have h := (c_and x 1 (by decide)).2; have e : (1 : Int32).toInt = 1 := (by decide); omega)
abbrev lc0 (x0 : Int32) (x1 : Int64) (x2 : Int64) : Array Slot := #[.val (.int x0), .val (.long x1), .second, .val (.long x2), .second, .unset, .unset, .unset, .unset, .unset, .unset, .unset, .unset, .unset]
abbrev lc1 (x0 : Int32) (x1 : Int64) (x2 : Int64) (x3 : Addr) : Array Slot := #[.val (.int x0), .val (.long x1), .second, .val (.long x2), .second, .val (.ref x3), .unset, .unset, .unset, .unset, .unset, .unset, .unset, .unset]
abbrev lc2 (x0 : Int32) (x1 : Int64) (x2 : Int64) (x3 : Addr) (x4 : Int32) : Array Slot := #[.val (.int x0), .val (.long x1), .second, .val (.long x2), .second, .val (.ref x3), .val (.int x4), .unset, .unset, .unset, .unset, .unset, .unset, .unset]
abbrev lc3 (x0 : Int32) (x1 : Int64) (x2 : Int64) (x3 : Addr) (x4 : Int32) (x5 : Int64) : Array Slot := #[.val (.int x0), .val (.long x1), .second, .val (.long x2), .second, .val (.ref x3), .val (.int x4), .val (.long x5), .second, .unset, .unset, .unset, .unset, .unset]
theorem d1_0 : decode prog_2_method_1_code 0 = .ok (.aload_n 0, 1) := by decide +kernel
theorem d1_1 : decode prog_2_method_1_code 1 = .ok (.invokespecial 1, 3) := by decide +kernel
abbrev lc4 (x0 : Addr) (x1 : Addr) : Array Slot := #[.val (.ref x0), .val (.ref x1)]
theorem d1_4 : decode prog_2_method_1_code 4 = .ok (.aload_n 0, 1) := by decide +kernel
theorem d1_5 : decode prog_2_method_1_code 5 = .ok (.bipush 16, 2) := by decide +kernel
theorem d1_7 : decode prog_2_method_1_code 7 = .ok (.anewarray 9, 3) := by decide +kernel
theorem d1_10 : decode prog_2_method_1_code 10 = .ok (.putfield 11, 3) := by decide +kernel
theorem d1_13 : decode prog_2_method_1_code 13 = .ok (.aload_n 0, 1) := by decide +kernel
theorem d1_14 : decode prog_2_method_1_code 14 = .ok (.bipush 16, 2) := by decide +kernel
theorem d1_16 : decode prog_2_method_1_code 16 = .ok (.newarray .long, 2) := by decide +kernel
theorem d1_18 : decode prog_2_method_1_code 18 = .ok (.putfield 15, 3) := by decide +kernel
theorem d1_21 : decode prog_2_method_1_code 21 = .ok (.aload_n 0, 1) := by decide +kernel
theorem d1_22 : decode prog_2_method_1_code 22 = .ok (.aload_n 1, 1) := by decide +kernel
theorem d1_23 : decode prog_2_method_1_code 23 = .ok (.putfield 19, 3) := by decide +kernel
theorem d1_26 : decode prog_2_method_1_code 26 = .ok (.return_, 1) := by decide +kernel
theorem ef_0 (m : MethodId) (x0 : Addr) (x1 : Addr) : entryFrame m #[(.ref x0), (.ref x1)] 2 = mkF m 0 #[.val (.ref x0), .val (.ref x1)] [] := by first | (simp [entryFrame, mkF, argsToLocals, Value.category, maxLocals]; done) | rfl
theorem pn_com_example_srok_srok_engine_BookSide : plainName "com/example/srok/srok/engine/BookSide" = true := by first | (simp [plainName, overriddenIn]; done) | decide +kernel
theorem pd_0 : parseMethodDescriptor "(Lcom/example/srok/srok/engine/Side;)V" = some ⟨[(.object "com/example/srok/srok/engine/Side")], none⟩ := by decide +kernel
abbrev lc5 (x0 : Int32) (x1 : Int64) (x2 : Int64) (x3 : Addr) (x4 : Int32) (x5 : Int64) (x6 : Addr) : Array Slot := #[.val (.int x0), .val (.long x1), .second, .val (.long x2), .second, .val (.ref x3), .val (.int x4), .val (.long x5), .second, .val (.ref x6), .unset, .unset, .unset, .unset]
theorem d3_0 : decode prog_2_method_2_code 0 = .ok (.aload_n 0, 1) := by decide +kernel
theorem d3_1 : decode prog_2_method_2_code 1 = .ok (.getfield 23, 3) := by decide +kernel
abbrev lc6 (x0 : Addr) : Array Slot := #[.val (.ref x0)]
theorem d3_4 : decode prog_2_method_2_code 4 = .ok (.ifCond .ne 7, 3) := by decide +kernel
theorem d3_7 : decode prog_2_method_2_code 7 = .ok (.iconst 1, 1) := by decide +kernel
theorem d3_8 : decode prog_2_method_2_code 8 = .ok (.goto 4, 3) := by decide +kernel
theorem d3_12 : decode prog_2_method_2_code 12 = .ok (.ireturn, 1) := by decide +kernel
theorem ef_1 (m : MethodId) (x0 : Addr) : entryFrame m #[(.ref x0)] 1 = mkF m 0 #[.val (.ref x0)] [] := by first | (simp [entryFrame, mkF, argsToLocals, Value.category, maxLocals]; done) | rfl
theorem pd_1 : parseMethodDescriptor "()Z" = some ⟨[], some .boolean⟩ := by decide +kernel
abbrev lc7 (x0 : Int32) (x1 : Int64) (x2 : Int64) (x3 : Addr) (x4 : Int32) (x5 : Int64) (x6 : Addr) (x7 : Int32) : Array Slot := #[.val (.int x0), .val (.long x1), .second, .val (.long x2), .second, .val (.ref x3), .val (.int x4), .val (.long x5), .second, .val (.ref x6), .val (.int x7), .unset, .unset, .unset]
abbrev lc8 (x0 : Int32) (x1 : Int64) (x2 : Int64) (x3 : Addr) (x4 : Int32) (x5 : Int64) (x6 : Addr) (x7 : Int32) (x8 : Int32) : Array Slot := #[.val (.int x0), .val (.long x1), .second, .val (.long x2), .second, .val (.ref x3), .val (.int x4), .val (.long x5), .second, .val (.ref x6), .val (.int x7), .val (.int x8), .unset, .unset]
theorem d4_0 : decode prog_2_method_3_code 0 = .ok (.aload_n 0, 1) := by decide +kernel
theorem d4_1 : decode prog_2_method_3_code 1 = .ok (.getfield 23, 3) := by decide +kernel
theorem d4_4 : decode prog_2_method_3_code 4 = .ok (.ifCond .ne 7, 3) := by decide +kernel
theorem d4_7 : decode prog_2_method_3_code 7 = .ok (.aconst_null, 1) := by decide +kernel
theorem d4_8 : decode prog_2_method_3_code 8 = .ok (.goto 14, 3) := by decide +kernel
theorem d4_22 : decode prog_2_method_3_code 22 = .ok (.areturn, 1) := by decide +kernel
theorem pd_2 : parseMethodDescriptor "()Lcom/example/srok/srok/engine/PriceLevel;" = some ⟨[], some (.object "com/example/srok/srok/engine/PriceLevel")⟩ := by decide +kernel
abbrev lc9 (x0 : Int32) (x1 : Int64) (x2 : Int64) (x3 : Addr) (x4 : Int32) (x5 : Int64) (x6 : Addr) (x7 : Int32) (x8 : Int32) : Array Slot := #[.val (.int x0), .val (.long x1), .second, .val (.long x2), .second, .val (.ref x3), .val (.int x4), .val (.long x5), .second, .val (.ref x6), .val (.int x7), .val (.int x8), .val .null, .unset]
abbrev lc10 (x0 : Int32) (x1 : Int64) (x2 : Int64) (x3 : Addr) (x4 : Int32) (x5 : Int64) (x6 : Addr) (x7 : Int32) (x8 : Int32) (x9 : Int32) : Array Slot := #[.val (.int x0), .val (.long x1), .second, .val (.long x2), .second, .val (.ref x3), .val (.int x4), .val (.long x5), .second, .val (.ref x6), .val (.int x7), .val (.int x8), .val .null, .val (.int x9)]
theorem ef_2 (m : MethodId) (x0 : Int32) (x1 : Int64) (x2 : Int64) : entryFrame m #[(.int x0), (.long x1), (.long x2)] maxLocals = mkF m 0 #[.val (.int x0), .val (.long x1), .second, .val (.long x2), .second, .unset, .unset, .unset, .unset, .unset, .unset, .unset, .unset, .unset] [] := by first | (simp [entryFrame, mkF, argsToLocals, Value.category, maxLocals]; done) | rfl
theorem pn_com_example_srok_srok_engine_BookSideIsEmptyPinLaw : plainName "com/example/srok/srok/engine/BookSideIsEmptyPinLaw" = true := by first | (simp [plainName, overriddenIn]; done) | decide +kernel
theorem d5_0 : decode prog_2_method_5_code 0 = .ok (.aload_n 0, 1) := by decide +kernel
theorem d5_1 : decode prog_2_method_5_code 1 = .ok (.lload_n 1, 1) := by decide +kernel
theorem d5_2 : decode prog_2_method_5_code 2 = .ok (.aload_n 3, 1) := by decide +kernel
theorem d5_3 : decode prog_2_method_5_code 3 = .ok (.invokevirtual 35, 3) := by decide +kernel
abbrev lc11 (x0 : Addr) (x1 : Int64) : Array Slot := #[.val (.ref x0), .val (.long x1), .second, .val .null, .unset, .unset, .unset]
theorem d6_0 : decode prog_2_method_8_code 0 = .ok (.aload_n 0, 1) := by decide +kernel
theorem d6_1 : decode prog_2_method_8_code 1 = .ok (.lload_n 1, 1) := by decide +kernel
theorem d6_2 : decode prog_2_method_8_code 2 = .ok (.invokevirtual 65, 3) := by decide +kernel
abbrev lc12 (x0 : Addr) (x1 : Int64) : Array Slot := #[.val (.ref x0), .val (.long x1), .second, .val .null, .unset, .unset, .unset, .unset, .unset, .unset, .unset]
theorem d7_0 : decode prog_2_method_7_code 0 = .ok (.aload_n 0, 1) := by decide +kernel
theorem d7_1 : decode prog_2_method_7_code 1 = .ok (.getfield 19, 3) := by decide +kernel
abbrev lc13 (x0 : Addr) (x1 : Int64) : Array Slot := #[.val (.ref x0), .val (.long x1), .second]
theorem d7_4 : decode prog_2_method_7_code 4 = .ok (.getstatic 73, 3) := by decide +kernel
theorem d7_7 : decode prog_2_method_7_code 7 = .ok (.if_acmp .ne 7, 3) := by decide +kernel
theorem d7_14 : decode prog_2_method_7_code 14 = .ok (.lload_n 1, 1) := by decide +kernel
theorem d7_15 : decode prog_2_method_7_code 15 = .ok (.ldc2_w 78, 3) := by decide +kernel
theorem d7_18 : decode prog_2_method_7_code 18 = .ok (.lxor, 1) := by decide +kernel
theorem d7_19 : decode prog_2_method_7_code 19 = .ok (.lreturn, 1) := by decide +kernel
theorem ef_3 (m : MethodId) (x0 : Addr) (x1 : Int64) : entryFrame m #[(.ref x0), (.long x1)] 3 = mkF m 0 #[.val (.ref x0), .val (.long x1), .second] [] := by first | (simp [entryFrame, mkF, argsToLocals, Value.category, maxLocals]; done) | rfl
theorem pd_3 : parseMethodDescriptor "(J)J" = some ⟨[.long], some .long⟩ := by decide +kernel
theorem d6_5 : decode prog_2_method_8_code 5 = .ok (.lstore 4, 2) := by decide +kernel
abbrev lc14 (x0 : Addr) (x1 : Int64) (x2 : Int64) : Array Slot := #[.val (.ref x0), .val (.long x1), .second, .val .null, .val (.long x2), .second, .unset, .unset, .unset, .unset, .unset]
theorem d6_7 : decode prog_2_method_8_code 7 = .ok (.aload_n 0, 1) := by decide +kernel
theorem d6_8 : decode prog_2_method_8_code 8 = .ok (.getfield 23, 3) := by decide +kernel
theorem d6_11 : decode prog_2_method_8_code 11 = .ok (.istore 6, 2) := by decide +kernel
abbrev lc15 (x0 : Addr) (x1 : Int64) (x2 : Int64) (x3 : Int32) : Array Slot := #[.val (.ref x0), .val (.long x1), .second, .val .null, .val (.long x2), .second, .val (.int x3), .unset, .unset, .unset, .unset]
theorem d6_13 : decode prog_2_method_8_code 13 = .ok (.iconst 1, 1) := by decide +kernel
theorem d6_14 : decode prog_2_method_8_code 14 = .ok (.istore 7, 2) := by decide +kernel
abbrev lc16 (x0 : Addr) (x1 : Int64) (x2 : Int64) (x3 : Int32) (x4 : Int32) : Array Slot := #[.val (.ref x0), .val (.long x1), .second, .val .null, .val (.long x2), .second, .val (.int x3), .val (.int x4), .unset, .unset, .unset]
theorem d6_16 : decode prog_2_method_8_code 16 = .ok (.iload 6, 2) := by decide +kernel
theorem d6_18 : decode prog_2_method_8_code 18 = .ok (.iload 7, 2) := by decide +kernel
theorem d6_20 : decode prog_2_method_8_code 20 = .ok (.isub, 1) := by decide +kernel
theorem d6_21 : decode prog_2_method_8_code 21 = .ok (.ifCond .lt 35, 3) := by decide +kernel
theorem d6_56 : decode prog_2_method_8_code 56 = .ok (.iconst 0, 1) := by decide +kernel
theorem d6_57 : decode prog_2_method_8_code 57 = .ok (.iload 6, 2) := by decide +kernel
theorem d6_59 : decode prog_2_method_8_code 59 = .ok (.iload 7, 2) := by decide +kernel
theorem d6_61 : decode prog_2_method_8_code 61 = .ok (.isub, 1) := by decide +kernel
theorem d6_62 : decode prog_2_method_8_code 62 = .ok (.iconst 1, 1) := by decide +kernel
theorem d6_63 : decode prog_2_method_8_code 63 = .ok (.iadd, 1) := by decide +kernel
theorem d6_64 : decode prog_2_method_8_code 64 = .ok (.invokestatic 80, 3) := by decide +kernel
theorem d8_0 : decode jdk_29_method_65_code 0 = .ok (.iload_n 0, 1) := by decide +kernel
theorem d8_1 : decode jdk_29_method_65_code 1 = .ok (.iload_n 1, 1) := by decide +kernel
theorem d8_2 : decode jdk_29_method_65_code 2 = .ok (.if_icmp .lt 7, 3) := by decide +kernel
abbrev lc17 (x0 : Int32) (x1 : Int32) : Array Slot := #[.val (.int x0), .val (.int x1)]
theorem d8_5 : decode jdk_29_method_65_code 5 = .ok (.iload_n 0, 1) := by decide +kernel
theorem d8_6 : decode jdk_29_method_65_code 6 = .ok (.goto 4, 3) := by decide +kernel
theorem d8_10 : decode jdk_29_method_65_code 10 = .ok (.ireturn, 1) := by decide +kernel
theorem ef_4 (m : MethodId) (x0 : Int32) (x1 : Int32) : entryFrame m #[(.int x0), (.int x1)] 2 = mkF m 0 #[.val (.int x0), .val (.int x1)] [] := by first | (simp [entryFrame, mkF, argsToLocals, Value.category, maxLocals]; done) | rfl
theorem pd_4 : parseMethodDescriptor "(II)I" = some ⟨[.int, .int], some .int⟩ := by decide +kernel
theorem d6_67 : decode prog_2_method_8_code 67 = .ok (.istore 8, 2) := by decide +kernel
abbrev lc18 (x0 : Addr) (x1 : Int64) (x2 : Int64) (x3 : Int32) (x4 : Int32) (x5 : Int32) : Array Slot := #[.val (.ref x0), .val (.long x1), .second, .val .null, .val (.long x2), .second, .val (.int x3), .val (.int x4), .val (.int x5), .unset, .unset]
theorem d6_69 : decode prog_2_method_8_code 69 = .ok (.iload 6, 2) := by decide +kernel
theorem d6_71 : decode prog_2_method_8_code 71 = .ok (.iload 8, 2) := by decide +kernel
theorem d6_73 : decode prog_2_method_8_code 73 = .ok (.isub, 1) := by decide +kernel
theorem d6_74 : decode prog_2_method_8_code 74 = .ok (.istore 9, 2) := by decide +kernel
abbrev lc19 (x0 : Addr) (x1 : Int64) (x2 : Int64) (x3 : Int32) (x4 : Int32) (x5 : Int32) (x6 : Int32) : Array Slot := #[.val (.ref x0), .val (.long x1), .second, .val .null, .val (.long x2), .second, .val (.int x3), .val (.int x4), .val (.int x5), .val (.int x6), .unset]
theorem d6_76 : decode prog_2_method_8_code 76 = .ok (.iload 9, 2) := by decide +kernel
theorem d6_78 : decode prog_2_method_8_code 78 = .ok (.iconst 1, 1) := by decide +kernel
theorem d6_79 : decode prog_2_method_8_code 79 = .ok (.if_icmp .le 49, 3) := by decide +kernel
theorem d6_128 : decode prog_2_method_8_code 128 = .ok (.iload 8, 2) := by decide +kernel
theorem d6_130 : decode prog_2_method_8_code 130 = .ok (.iload 6, 2) := by decide +kernel
theorem d6_132 : decode prog_2_method_8_code 132 = .ok (.if_icmp .ge 19, 3) := by decide +kernel
theorem d6_151 : decode prog_2_method_8_code 151 = .ok (.lload 4, 2) := by decide +kernel
theorem d6_153 : decode prog_2_method_8_code 153 = .ok (.ldc2_w 88, 3) := by decide +kernel
theorem d6_156 : decode prog_2_method_8_code 156 = .ok (.lcmp, 1) := by decide +kernel
theorem d6_157 : decode prog_2_method_8_code 157 = .ok (.ifCond .eq 16, 3) := by decide +kernel
theorem d6_173 : decode prog_2_method_8_code 173 = .ok (.iconst 0, 1) := by decide +kernel
theorem d6_174 : decode prog_2_method_8_code 174 = .ok (.istore 9, 2) := by decide +kernel
theorem d6_176 : decode prog_2_method_8_code 176 = .ok (.iload 9, 2) := by decide +kernel
theorem d6_178 : decode prog_2_method_8_code 178 = .ok (.ifCond .ne 49, 3) := by decide +kernel
theorem d6_181 : decode prog_2_method_8_code 181 = .ok (.iload 8, 2) := by decide +kernel
theorem d6_183 : decode prog_2_method_8_code 183 = .ok (.aload_n 0, 1) := by decide +kernel
theorem d6_184 : decode prog_2_method_8_code 184 = .ok (.getfield 23, 3) := by decide +kernel
theorem d6_187 : decode prog_2_method_8_code 187 = .ok (.if_icmp .ge 40, 3) := by decide +kernel
theorem d6_227 : decode prog_2_method_8_code 227 = .ok (.iload 8, 2) := by decide +kernel
theorem d6_229 : decode prog_2_method_8_code 229 = .ok (.aload_n 0, 1) := by decide +kernel
theorem d6_230 : decode prog_2_method_8_code 230 = .ok (.getfield 23, 3) := by decide +kernel
theorem d6_233 : decode prog_2_method_8_code 233 = .ok (.if_icmp .ge 42, 3) := by decide +kernel
theorem d6_275 : decode prog_2_method_8_code 275 = .ok (.iconst 0, 1) := by decide +kernel
theorem d6_276 : decode prog_2_method_8_code 276 = .ok (.istore 10, 2) := by decide +kernel
abbrev lc20 (x0 : Addr) (x1 : Int64) (x2 : Int64) (x3 : Int32) (x4 : Int32) (x5 : Int32) (x6 : Int32) (x7 : Int32) : Array Slot := #[.val (.ref x0), .val (.long x1), .second, .val .null, .val (.long x2), .second, .val (.int x3), .val (.int x4), .val (.int x5), .val (.int x6), .val (.int x7)]
theorem d6_278 : decode prog_2_method_8_code 278 = .ok (.iload 10, 2) := by decide +kernel
theorem d6_280 : decode prog_2_method_8_code 280 = .ok (.ifCond .eq 8, 3) := by decide +kernel
theorem d6_288 : decode prog_2_method_8_code 288 = .ok (.iconst (-1), 1) := by decide +kernel
theorem d6_289 : decode prog_2_method_8_code 289 = .ok (.iload 8, 2) := by decide +kernel
theorem d6_291 : decode prog_2_method_8_code 291 = .ok (.isub, 1) := by decide +kernel
theorem d6_292 : decode prog_2_method_8_code 292 = .ok (.ireturn, 1) := by decide +kernel
theorem d6_160 : decode prog_2_method_8_code 160 = .ok (.lload 4, 2) := by decide +kernel
theorem d6_162 : decode prog_2_method_8_code 162 = .ok (.ldc2_w 90, 3) := by decide +kernel
theorem d6_165 : decode prog_2_method_8_code 165 = .ok (.lcmp, 1) := by decide +kernel
theorem d6_166 : decode prog_2_method_8_code 166 = .ok (.ifCond .eq 7, 3) := by decide +kernel
theorem d6_169 : decode prog_2_method_8_code 169 = .ok (.iconst 1, 1) := by decide +kernel
theorem d6_170 : decode prog_2_method_8_code 170 = .ok (.goto 4, 3) := by decide +kernel
theorem ef_5 (m : MethodId) (x0 : Addr) (x1 : Int64) : entryFrame m #[(.ref x0), (.long x1), .null] 11 = mkF m 0 #[.val (.ref x0), .val (.long x1), .second, .val .null, .unset, .unset, .unset, .unset, .unset, .unset, .unset] [] := by first | (simp [entryFrame, mkF, argsToLocals, Value.category, maxLocals]; done) | rfl
theorem pd_5 : parseMethodDescriptor "(JLjava/math/BigDecimal;)I" = some ⟨[.long, (.object "java/math/BigDecimal")], some .int⟩ := by decide +kernel
theorem d5_6 : decode prog_2_method_5_code 6 = .ok (.istore 4, 2) := by decide +kernel
abbrev lc21 (x0 : Addr) (x1 : Int64) (x2 : Int32) : Array Slot := #[.val (.ref x0), .val (.long x1), .second, .val .null, .val (.int x2), .unset, .unset]
theorem d5_8 : decode prog_2_method_5_code 8 = .ok (.iload 4, 2) := by decide +kernel
theorem d5_10 : decode prog_2_method_5_code 10 = .ok (.ifCond .lt 34, 3) := by decide +kernel
theorem d5_44 : decode prog_2_method_5_code 44 = .ok (.iload 4, 2) := by decide +kernel
theorem d5_46 : decode prog_2_method_5_code 46 = .ok (.ineg, 1) := by decide +kernel
theorem d5_47 : decode prog_2_method_5_code 47 = .ok (.iconst 1, 1) := by decide +kernel
theorem d5_48 : decode prog_2_method_5_code 48 = .ok (.isub, 1) := by decide +kernel
theorem d5_49 : decode prog_2_method_5_code 49 = .ok (.istore 5, 2) := by decide +kernel
abbrev lc22 (x0 : Addr) (x1 : Int64) (x2 : Int32) (x3 : Int32) : Array Slot := #[.val (.ref x0), .val (.long x1), .second, .val .null, .val (.int x2), .val (.int x3), .unset]
theorem d5_51 : decode prog_2_method_5_code 51 = .ok (.aload_n 0, 1) := by decide +kernel
theorem d5_52 : decode prog_2_method_5_code 52 = .ok (.getfield 23, 3) := by decide +kernel
theorem d5_55 : decode prog_2_method_5_code 55 = .ok (.aload_n 0, 1) := by decide +kernel
theorem d5_56 : decode prog_2_method_5_code 56 = .ok (.getfield 11, 3) := by decide +kernel
theorem d5_59 : decode prog_2_method_5_code 59 = .ok (.arraylength, 1) := by decide +kernel
theorem d5_60 : decode prog_2_method_5_code 60 = .ok (.if_icmp .ne 40, 3) := by decide +kernel
theorem d5_100 : decode prog_2_method_5_code 100 = .ok (.aload_n 0, 1) := by decide +kernel
theorem d5_101 : decode prog_2_method_5_code 101 = .ok (.getfield 11, 3) := by decide +kernel
theorem d5_104 : decode prog_2_method_5_code 104 = .ok (.iload 5, 2) := by decide +kernel
theorem d5_106 : decode prog_2_method_5_code 106 = .ok (.aload_n 0, 1) := by decide +kernel
theorem d5_107 : decode prog_2_method_5_code 107 = .ok (.getfield 11, 3) := by decide +kernel
theorem d5_110 : decode prog_2_method_5_code 110 = .ok (.iload 5, 2) := by decide +kernel
theorem d5_112 : decode prog_2_method_5_code 112 = .ok (.iconst 1, 1) := by decide +kernel
theorem d5_113 : decode prog_2_method_5_code 113 = .ok (.iadd, 1) := by decide +kernel
theorem d5_114 : decode prog_2_method_5_code 114 = .ok (.aload_n 0, 1) := by decide +kernel
theorem d5_115 : decode prog_2_method_5_code 115 = .ok (.getfield 23, 3) := by decide +kernel
theorem d5_118 : decode prog_2_method_5_code 118 = .ok (.iload 5, 2) := by decide +kernel
theorem d5_120 : decode prog_2_method_5_code 120 = .ok (.isub, 1) := by decide +kernel
theorem d5_121 : decode prog_2_method_5_code 121 = .ok (.invokestatic 56, 3) := by decide +kernel
theorem d5_124 : decode prog_2_method_5_code 124 = .ok (.aload_n 0, 1) := by decide +kernel
theorem d5_125 : decode prog_2_method_5_code 125 = .ok (.getfield 15, 3) := by decide +kernel
theorem d5_128 : decode prog_2_method_5_code 128 = .ok (.iload 5, 2) := by decide +kernel
theorem d5_130 : decode prog_2_method_5_code 130 = .ok (.aload_n 0, 1) := by decide +kernel
theorem d5_131 : decode prog_2_method_5_code 131 = .ok (.getfield 15, 3) := by decide +kernel
theorem d5_134 : decode prog_2_method_5_code 134 = .ok (.iload 5, 2) := by decide +kernel
theorem d5_136 : decode prog_2_method_5_code 136 = .ok (.iconst 1, 1) := by decide +kernel
theorem d5_137 : decode prog_2_method_5_code 137 = .ok (.iadd, 1) := by decide +kernel
theorem d5_138 : decode prog_2_method_5_code 138 = .ok (.aload_n 0, 1) := by decide +kernel
theorem d5_139 : decode prog_2_method_5_code 139 = .ok (.getfield 23, 3) := by decide +kernel
theorem d5_142 : decode prog_2_method_5_code 142 = .ok (.iload 5, 2) := by decide +kernel
theorem d5_144 : decode prog_2_method_5_code 144 = .ok (.isub, 1) := by decide +kernel
theorem d5_145 : decode prog_2_method_5_code 145 = .ok (.invokestatic 56, 3) := by decide +kernel
theorem d5_148 : decode prog_2_method_5_code 148 = .ok (.new 9, 3) := by decide +kernel
theorem d5_151 : decode prog_2_method_5_code 151 = .ok (.dup, 1) := by decide +kernel
theorem d5_152 : decode prog_2_method_5_code 152 = .ok (.aload_n 3, 1) := by decide +kernel
theorem d5_153 : decode prog_2_method_5_code 153 = .ok (.lload_n 1, 1) := by decide +kernel
theorem d5_154 : decode prog_2_method_5_code 154 = .ok (.invokespecial 62, 3) := by decide +kernel
theorem d9_0 : decode prog_14_method_1_code 0 = .ok (.aload_n 0, 1) := by decide +kernel
theorem d9_1 : decode prog_14_method_1_code 1 = .ok (.invokespecial 1, 3) := by decide +kernel
abbrev lc23 (x0 : Addr) (x1 : Int64) : Array Slot := #[.val (.ref x0), .val .null, .val (.long x1), .second]
theorem d9_4 : decode prog_14_method_1_code 4 = .ok (.aload_n 0, 1) := by decide +kernel
theorem d9_5 : decode prog_14_method_1_code 5 = .ok (.aload_n 1, 1) := by decide +kernel
theorem d9_6 : decode prog_14_method_1_code 6 = .ok (.putfield 7, 3) := by decide +kernel
theorem d9_9 : decode prog_14_method_1_code 9 = .ok (.aload_n 0, 1) := by decide +kernel
theorem d9_10 : decode prog_14_method_1_code 10 = .ok (.lload_n 2, 1) := by decide +kernel
theorem d9_11 : decode prog_14_method_1_code 11 = .ok (.putfield 13, 3) := by decide +kernel
theorem d9_14 : decode prog_14_method_1_code 14 = .ok (.return_, 1) := by decide +kernel
theorem ef_6 (m : MethodId) (x0 : Addr) (x2 : Int64) : entryFrame m #[(.ref x0), .null, (.long x2)] 4 = mkF m 0 #[.val (.ref x0), .val .null, .val (.long x2), .second] [] := by first | (simp [entryFrame, mkF, argsToLocals, Value.category, maxLocals]; done) | rfl
theorem pn_com_example_srok_srok_engine_PriceLevel : plainName "com/example/srok/srok/engine/PriceLevel" = true := by first | (simp [plainName, overriddenIn]; done) | decide +kernel
theorem pd_6 : parseMethodDescriptor "(Ljava/math/BigDecimal;J)V" = some ⟨[(.object "java/math/BigDecimal"), .long], none⟩ := by decide +kernel
theorem d5_157 : decode prog_2_method_5_code 157 = .ok (.astore 6, 2) := by decide +kernel
abbrev lc24 (x0 : Addr) (x1 : Int64) (x2 : Int32) (x3 : Int32) (x4 : Addr) : Array Slot := #[.val (.ref x0), .val (.long x1), .second, .val .null, .val (.int x2), .val (.int x3), .val (.ref x4)]
theorem d5_159 : decode prog_2_method_5_code 159 = .ok (.aload_n 0, 1) := by decide +kernel
theorem d5_160 : decode prog_2_method_5_code 160 = .ok (.getfield 11, 3) := by decide +kernel
theorem d5_163 : decode prog_2_method_5_code 163 = .ok (.iload 5, 2) := by decide +kernel
theorem d5_165 : decode prog_2_method_5_code 165 = .ok (.aload 6, 2) := by decide +kernel
theorem d5_167 : decode prog_2_method_5_code 167 = .ok (.aastore, 1) := by decide +kernel
theorem d5_168 : decode prog_2_method_5_code 168 = .ok (.aload_n 0, 1) := by decide +kernel
theorem d5_169 : decode prog_2_method_5_code 169 = .ok (.getfield 15, 3) := by decide +kernel
theorem d5_172 : decode prog_2_method_5_code 172 = .ok (.iload 5, 2) := by decide +kernel
theorem d5_174 : decode prog_2_method_5_code 174 = .ok (.aload_n 0, 1) := by decide +kernel
theorem d5_175 : decode prog_2_method_5_code 175 = .ok (.lload_n 1, 1) := by decide +kernel
theorem d5_176 : decode prog_2_method_5_code 176 = .ok (.invokevirtual 65, 3) := by decide +kernel
theorem d5_179 : decode prog_2_method_5_code 179 = .ok (.lastore, 1) := by decide +kernel
theorem d5_180 : decode prog_2_method_5_code 180 = .ok (.aload_n 0, 1) := by decide +kernel
theorem d5_181 : decode prog_2_method_5_code 181 = .ok (.dup, 1) := by decide +kernel
theorem d5_182 : decode prog_2_method_5_code 182 = .ok (.getfield 23, 3) := by decide +kernel
theorem d5_185 : decode prog_2_method_5_code 185 = .ok (.iconst 1, 1) := by decide +kernel
theorem d5_186 : decode prog_2_method_5_code 186 = .ok (.iadd, 1) := by decide +kernel
theorem d5_187 : decode prog_2_method_5_code 187 = .ok (.putfield 23, 3) := by decide +kernel
theorem d5_190 : decode prog_2_method_5_code 190 = .ok (.aload 6, 2) := by decide +kernel
theorem d5_192 : decode prog_2_method_5_code 192 = .ok (.areturn, 1) := by decide +kernel
theorem ef_7 (m : MethodId) (x0 : Addr) (x1 : Int64) : entryFrame m #[(.ref x0), (.long x1), .null] 7 = mkF m 0 #[.val (.ref x0), .val (.long x1), .second, .val .null, .unset, .unset, .unset] [] := by first | (simp [entryFrame, mkF, argsToLocals, Value.category, maxLocals]; done) | rfl
theorem pd_7 : parseMethodDescriptor "(JLjava/math/BigDecimal;)Lcom/example/srok/srok/engine/PriceLevel;" = some ⟨[.long, (.object "java/math/BigDecimal")], some (.object "com/example/srok/srok/engine/PriceLevel")⟩ := by decide +kernel
theorem d3_11 : decode prog_2_method_2_code 11 = .ok (.iconst 0, 1) := by decide +kernel
theorem d4_11 : decode prog_2_method_3_code 11 = .ok (.aload_n 0, 1) := by decide +kernel
theorem d4_12 : decode prog_2_method_3_code 12 = .ok (.getfield 11, 3) := by decide +kernel
theorem d4_15 : decode prog_2_method_3_code 15 = .ok (.aload_n 0, 1) := by decide +kernel
theorem d4_16 : decode prog_2_method_3_code 16 = .ok (.getfield 23, 3) := by decide +kernel
theorem d4_19 : decode prog_2_method_3_code 19 = .ok (.iconst 1, 1) := by decide +kernel
theorem d4_20 : decode prog_2_method_3_code 20 = .ok (.isub, 1) := by decide +kernel
theorem d4_21 : decode prog_2_method_3_code 21 = .ok (.aaload, 1) := by decide +kernel
abbrev lc25 (x0 : Int32) (x1 : Int64) (x2 : Int64) (x3 : Addr) (x4 : Int32) (x5 : Int64) (x6 : Addr) (x7 : Int32) (x8 : Int32) (x9 : Addr) : Array Slot := #[.val (.int x0), .val (.long x1), .second, .val (.long x2), .second, .val (.ref x3), .val (.int x4), .val (.long x5), .second, .val (.ref x6), .val (.int x7), .val (.int x8), .val (.ref x9), .unset]
abbrev lc26 (x0 : Int32) (x1 : Int64) (x2 : Int64) (x3 : Addr) (x4 : Int32) (x5 : Int64) (x6 : Addr) (x7 : Int32) (x8 : Int32) (x9 : Addr) (x10 : Int32) : Array Slot := #[.val (.int x0), .val (.long x1), .second, .val (.long x2), .second, .val (.ref x3), .val (.int x4), .val (.long x5), .second, .val (.ref x6), .val (.int x7), .val (.int x8), .val (.ref x9), .val (.int x10)]
theorem d10_0 : decode prog_2_method_6_code 0 = .ok (.aload_n 0, 1) := by decide +kernel
theorem d10_1 : decode prog_2_method_6_code 1 = .ok (.dup, 1) := by decide +kernel
theorem d10_2 : decode prog_2_method_6_code 2 = .ok (.getfield 43, 3) := by decide +kernel
abbrev lc27 (x0 : Addr) (x1 : Addr) : Array Slot := #[.val (.ref x0), .val (.ref x1), .unset, .unset]
theorem d10_5 : decode prog_2_method_6_code 5 = .ok (.iconst 1, 1) := by decide +kernel
theorem d10_6 : decode prog_2_method_6_code 6 = .ok (.iadd, 1) := by decide +kernel
theorem d10_7 : decode prog_2_method_6_code 7 = .ok (.putfield 43, 3) := by decide +kernel
theorem d10_10 : decode prog_2_method_6_code 10 = .ok (.aload_n 0, 1) := by decide +kernel
theorem d10_11 : decode prog_2_method_6_code 11 = .ok (.getfield 23, 3) := by decide +kernel
theorem d10_14 : decode prog_2_method_6_code 14 = .ok (.ifCond .le 53, 3) := by decide +kernel
theorem d10_17 : decode prog_2_method_6_code 17 = .ok (.aload_n 0, 1) := by decide +kernel
theorem d10_18 : decode prog_2_method_6_code 18 = .ok (.getfield 11, 3) := by decide +kernel
theorem d10_21 : decode prog_2_method_6_code 21 = .ok (.aload_n 0, 1) := by decide +kernel
theorem d10_22 : decode prog_2_method_6_code 22 = .ok (.getfield 23, 3) := by decide +kernel
theorem d10_25 : decode prog_2_method_6_code 25 = .ok (.iconst 1, 1) := by decide +kernel
theorem d10_26 : decode prog_2_method_6_code 26 = .ok (.isub, 1) := by decide +kernel
theorem d10_27 : decode prog_2_method_6_code 27 = .ok (.aaload, 1) := by decide +kernel
theorem d10_28 : decode prog_2_method_6_code 28 = .ok (.invokevirtual 39, 3) := by decide +kernel
theorem d11_0 : decode prog_14_method_4_code 0 = .ok (.aload_n 0, 1) := by decide +kernel
theorem d11_1 : decode prog_14_method_4_code 1 = .ok (.getfield 17, 3) := by decide +kernel
theorem d11_4 : decode prog_14_method_4_code 4 = .ok (.ifnonnull 7, 3) := by decide +kernel
theorem d11_7 : decode prog_14_method_4_code 7 = .ok (.iconst 1, 1) := by decide +kernel
theorem d11_8 : decode prog_14_method_4_code 8 = .ok (.goto 4, 3) := by decide +kernel
theorem d11_12 : decode prog_14_method_4_code 12 = .ok (.ireturn, 1) := by decide +kernel
theorem d10_31 : decode prog_2_method_6_code 31 = .ok (.ifCond .eq 36, 3) := by decide +kernel
theorem d10_34 : decode prog_2_method_6_code 34 = .ok (.aload_n 0, 1) := by decide +kernel
theorem d10_35 : decode prog_2_method_6_code 35 = .ok (.dup, 1) := by decide +kernel
theorem d10_36 : decode prog_2_method_6_code 36 = .ok (.getfield 23, 3) := by decide +kernel
theorem d10_39 : decode prog_2_method_6_code 39 = .ok (.iconst 1, 1) := by decide +kernel
theorem d10_40 : decode prog_2_method_6_code 40 = .ok (.isub, 1) := by decide +kernel
theorem d10_41 : decode prog_2_method_6_code 41 = .ok (.putfield 23, 3) := by decide +kernel
theorem d10_44 : decode prog_2_method_6_code 44 = .ok (.aload_n 0, 1) := by decide +kernel
theorem d10_45 : decode prog_2_method_6_code 45 = .ok (.getfield 11, 3) := by decide +kernel
theorem d10_48 : decode prog_2_method_6_code 48 = .ok (.aload_n 0, 1) := by decide +kernel
theorem d10_49 : decode prog_2_method_6_code 49 = .ok (.getfield 23, 3) := by decide +kernel
theorem d10_52 : decode prog_2_method_6_code 52 = .ok (.aconst_null, 1) := by decide +kernel
theorem d10_53 : decode prog_2_method_6_code 53 = .ok (.aastore, 1) := by decide +kernel
theorem d10_54 : decode prog_2_method_6_code 54 = .ok (.aload_n 0, 1) := by decide +kernel
theorem d10_55 : decode prog_2_method_6_code 55 = .ok (.dup, 1) := by decide +kernel
theorem d10_56 : decode prog_2_method_6_code 56 = .ok (.getfield 43, 3) := by decide +kernel
theorem d10_59 : decode prog_2_method_6_code 59 = .ok (.iconst 1, 1) := by decide +kernel
theorem d10_60 : decode prog_2_method_6_code 60 = .ok (.isub, 1) := by decide +kernel
theorem d10_61 : decode prog_2_method_6_code 61 = .ok (.putfield 43, 3) := by decide +kernel
theorem d10_64 : decode prog_2_method_6_code 64 = .ok (.goto (-54), 3) := by decide +kernel
theorem d10_67 : decode prog_2_method_6_code 67 = .ok (.aload_n 0, 1) := by decide +kernel
theorem d10_68 : decode prog_2_method_6_code 68 = .ok (.getfield 43, 3) := by decide +kernel
theorem d10_71 : decode prog_2_method_6_code 71 = .ok (.iconst 2, 1) := by decide +kernel
theorem d10_72 : decode prog_2_method_6_code 72 = .ok (.imul, 1) := by decide +kernel
theorem d10_73 : decode prog_2_method_6_code 73 = .ok (.aload_n 0, 1) := by decide +kernel
theorem d10_74 : decode prog_2_method_6_code 74 = .ok (.getfield 23, 3) := by decide +kernel
theorem d10_77 : decode prog_2_method_6_code 77 = .ok (.if_icmp .gt 4, 3) := by decide +kernel
theorem d10_80 : decode prog_2_method_6_code 80 = .ok (.return_, 1) := by decide +kernel
theorem ef_8 (m : MethodId) (x0 : Addr) (x1 : Addr) : entryFrame m #[(.ref x0), (.ref x1)] 4 = mkF m 0 #[.val (.ref x0), .val (.ref x1), .unset, .unset] [] := by first | (simp [entryFrame, mkF, argsToLocals, Value.category, maxLocals]; done) | rfl
theorem pd_8 : parseMethodDescriptor "(Lcom/example/srok/srok/engine/PriceLevel;)V" = some ⟨[(.object "com/example/srok/srok/engine/PriceLevel")], none⟩ := by decide +kernel
theorem d6_24 : decode prog_2_method_8_code 24 = .ok (.aload_n 0, 1) := by decide +kernel
theorem d6_25 : decode prog_2_method_8_code 25 = .ok (.getfield 15, 3) := by decide +kernel
theorem d6_28 : decode prog_2_method_8_code 28 = .ok (.iload 6, 2) := by decide +kernel
theorem d6_30 : decode prog_2_method_8_code 30 = .ok (.iload 7, 2) := by decide +kernel
theorem d6_32 : decode prog_2_method_8_code 32 = .ok (.isub, 1) := by decide +kernel
theorem d6_33 : decode prog_2_method_8_code 33 = .ok (.laload, 1) := by decide +kernel
theorem d6_34 : decode prog_2_method_8_code 34 = .ok (.lload 4, 2) := by decide +kernel
theorem d6_36 : decode prog_2_method_8_code 36 = .ok (.lcmp, 1) := by decide +kernel
theorem d6_37 : decode prog_2_method_8_code 37 = .ok (.ifCond .lt 19, 3) := by decide +kernel
theorem d8_9 : decode jdk_29_method_65_code 9 = .ok (.iload_n 1, 1) := by decide +kernel
theorem d6_40 : decode prog_2_method_8_code 40 = .ok (.iload 6, 2) := by decide +kernel
theorem d6_42 : decode prog_2_method_8_code 42 = .ok (.iload 7, 2) := by decide +kernel
theorem d6_44 : decode prog_2_method_8_code 44 = .ok (.isub, 1) := by decide +kernel
theorem d6_45 : decode prog_2_method_8_code 45 = .ok (.istore 6, 2) := by decide +kernel
theorem d6_47 : decode prog_2_method_8_code 47 = .ok (.iload 7, 2) := by decide +kernel
theorem d6_49 : decode prog_2_method_8_code 49 = .ok (.iconst 2, 1) := by decide +kernel
theorem d6_50 : decode prog_2_method_8_code 50 = .ok (.imul, 1) := by decide +kernel
theorem d6_51 : decode prog_2_method_8_code 51 = .ok (.istore 7, 2) := by decide +kernel
theorem d6_53 : decode prog_2_method_8_code 53 = .ok (.goto (-37), 3) := by decide +kernel
theorem d6_190 : decode prog_2_method_8_code 190 = .ok (.aload_n 0, 1) := by decide +kernel
theorem d6_191 : decode prog_2_method_8_code 191 = .ok (.getfield 15, 3) := by decide +kernel
theorem d6_194 : decode prog_2_method_8_code 194 = .ok (.iload 8, 2) := by decide +kernel
theorem d6_196 : decode prog_2_method_8_code 196 = .ok (.laload, 1) := by decide +kernel
theorem d6_197 : decode prog_2_method_8_code 197 = .ok (.lload 4, 2) := by decide +kernel
theorem d6_199 : decode prog_2_method_8_code 199 = .ok (.lcmp, 1) := by decide +kernel
theorem d6_200 : decode prog_2_method_8_code 200 = .ok (.ifCond .ne 27, 3) := by decide +kernel
theorem d6_236 : decode prog_2_method_8_code 236 = .ok (.aload_n 0, 1) := by decide +kernel
theorem d6_237 : decode prog_2_method_8_code 237 = .ok (.getfield 15, 3) := by decide +kernel
theorem d6_240 : decode prog_2_method_8_code 240 = .ok (.iload 8, 2) := by decide +kernel
theorem d6_242 : decode prog_2_method_8_code 242 = .ok (.laload, 1) := by decide +kernel
theorem d6_243 : decode prog_2_method_8_code 243 = .ok (.lload 4, 2) := by decide +kernel
theorem d6_245 : decode prog_2_method_8_code 245 = .ok (.lcmp, 1) := by decide +kernel
theorem d6_246 : decode prog_2_method_8_code 246 = .ok (.ifCond .ne 29, 3) := by decide +kernel
theorem d7_10 : decode prog_2_method_7_code 10 = .ok (.lload_n 1, 1) := by decide +kernel
theorem d7_11 : decode prog_2_method_7_code 11 = .ok (.goto 8, 3) := by decide +kernel
abbrev zs0 : String := "com/example/srok/srok/engine/PriceLevel"
abbrev zs1 : String := "com/example/srok/srok/engine/BookSide"
abbrev zs2 : String := "[Lcom/example/srok/srok/engine/PriceLevel;"
abbrev zs3 : String := "Lcom/example/srok/srok/engine/Side;"
abbrev zs4 : String := "(Lcom/example/srok/srok/engine/Side;)V"
abbrev zs5 : String := "com/example/srok/srok/engine/Side"
abbrev zs6 : String := "()Lcom/example/srok/srok/engine/PriceLevel;"
abbrev zs7 : String := "java/lang/Math"
abbrev zs8 : String := "(JLjava/math/BigDecimal;)I"
abbrev zs9 : String := "Ljava/math/BigDecimal;"
abbrev zs10 : String := "Lcom/example/srok/srok/engine/Order;"
abbrev zs11 : String := "(Ljava/math/BigDecimal;J)V"
abbrev zs12 : String := "java/math/BigDecimal"
abbrev zs13 : String := "com/example/srok/srok/engine/Order"
abbrev zs14 : String := "(JLjava/math/BigDecimal;)Lcom/example/srok/srok/engine/PriceLevel;"
abbrev zs15 : String := "(Lcom/example/srok/srok/engine/PriceLevel;)V"
abbrev zm0 : MethodName := (⟨zs1, "<init>", zs4⟩ : MethodName)
abbrev zm1 : MethodName := (⟨zs1, "isEmpty", "()Z"⟩ : MethodName)
abbrev zm2 : MethodName := (⟨zs1, "best", zs6⟩ : MethodName)
abbrev zm3 : MethodName := (⟨zs1, "rank", "(J)J"⟩ : MethodName)
abbrev zm4 : MethodName := (⟨zs7, "max", "(II)I"⟩ : MethodName)
abbrev zm5 : MethodName := (⟨zs1, "indexOf", zs8⟩ : MethodName)
abbrev zm6 : MethodName := (⟨zs0, "<init>", zs11⟩ : MethodName)
abbrev zm7 : MethodName := (⟨zs1, "levelFor", zs14⟩ : MethodName)
abbrev zm8 : MethodName := (⟨zs0, "isEmpty", "()Z"⟩ : MethodName)
abbrev zm9 : MethodName := (⟨zs1, "emptied", zs15⟩ : MethodName)
def Q1_0 (Z : State) (a1 : Addr) (a2 : Addr) (h0 : Heap) (n0 : Nat) (v : Option Value) (h : Heap) (L : List Loc) : Prop := ∃ b4 : Addr, ∃ b18 : Addr, ∃ k4 : ClassId, ∃ k18 : ClassId, v = none ∧ Fr n0 L ∧ Keep h0 h [a1] ∧ h0.size ≤ b4 ∧ h0.size ≤ b18 ∧ b4 ≠ b18 ∧ Ovr Z k4 zs0 ∧ Fld Z h a1 zs1 "levels" zs2 (.ref b4) ∧ Fld Z h a1 zs1 "ranks" "[J" (.ref b18) ∧ Fld Z h a1 zs1 "side" zs3 (.ref a2) ∧ Fld Z h a1 zs1 "count" "I" (.int 0) ∧ Fld Z h a1 zs1 "emptyLevels" "I" (.int 0) ∧ Exa Z h b4 zs2 ∧ Arv Z h b4 k4 (.object zs0) (16 : Int32) [] .null ∧ Exa Z h b18 "[J" ∧ Arv Z h b18 k18 .long (16 : Int32) [] (.long (0 : Int64))
set_option maxRecDepth 65536 in
set_option maxHeartbeats 40000000 in
theorem rm1_0 (l : Launch) (Z : State) (a0 : Array Value) (hw : ∀ d ∈ tables_1, d.before a0 Z = true) (ws : List Jvm.Cond) (a1 : Addr) (a2 : Addr) (h0 : Heap) (n0 : Nat) (Z0 : n0 ≤ h0.size) (F6 : Fld Z h0 a1 zs1 "levels" zs2 .null) (F7 : Fld Z h0 a1 zs1 "ranks" "[J" .null) (F8 : Fld Z h0 a1 zs1 "side" zs3 .null) (F9 : Fld Z h0 a1 zs1 "count" "I" (.int 0)) (F10 : Fld Z h0 a1 zs1 "emptyLevels" "I" (.int 0)) (F12 : Exa Z h0 a1 zs1) (g15 : n0 ≤ a1) :
    MetFree l zm0 (head1 (Jvm.Cond.code zm0 prog_2_method_1_code 2 none :: ws) ({ frames := 1, cells := 2, slots := 32, locals := 12 } : Room)) (fun a U => a = #[(.ref a1), (.ref a2)] ∧ Z.Warmed39 U.vm ∧ U.heap = h0) (fun _ _ _ _ _ => True) (fun _ U o U' => ∃ v L, o = .returned v ∧ Q1_0 Z a1 a2 h0 n0 v U'.heap L ∧ FrameEnd U o U' L ({ frames := 1, cells := 2, slots := 32, locals := 12 } : Room).cells ({ frames := 1, cells := 2, slots := 32, locals := 12 } : Room).slots) := by
  refine MetFree.of_bodySF (plainFor_of_name pn_com_example_srok_srok_engine_BookSide) hisR ?_
  intro p e s m args below meth c s₁ Bd hml0 hP hK
  obtain ⟨rfl, hZ, hh⟩ := hP
  have hx := Bd.exec
  have hby := Bd.bytes
  have hml : c.maxLocals = 2 := hml0
  have hown : s.vm.findClass zs1 = some m.cls := findClass_of_methodNamed Bd.named
  have hnm := (name_of_methodNamed Bd.named Bd.method).1
  have X0 : Stand p l e ({ frames := 1, cells := 2, slots := 32, locals := 12 } : Room) s m #[(.ref a1), (.ref a2)] below meth c s₁ [] 0 0 := Stand.of_body Bd
  have e0 : s₁.heap = h0 := by rw [← hh, Bd.state]; rfl
  have N0 := Fr.nil n0
  refine own_pre (g' := mkF m 0 (lc4 a1 a2) []) (ef_0 m a1 a2) ?_
  obtain ⟨T3, X3, e3, st3⟩ := initO X0 hx hZ hown (ww hw 9 rfl) (ww hw 10 rfl) (ww hw 11 rfl) e0 (g := (mkF m 1 (lc4 a1 a2) [(.ref a1)])) rfl (by rw [hml]; rfl) rfl (hb hby d1_1) (by decide) (W := 0) (by show 2 * 0 + _ ≤ _; exact Nat.le_of_eq rfl) (by decide)
  obtain ⟨T4, h4, k4, X4, e4, E4, A4, B4, O4, st4⟩ := newRE X3 hx hZ hown (ww hw 12 rfl) (ww hw 13 rfl) e3 (g := (mkF m 7 (lc4 a1 a2) [(.int 16), (.ref a1)])) rfl (hb hby d1_7) rfl (by decide) (cap := 16) (by decide) (by decide) (by decide) (by decide) (ad := zs2) (by decide)
  obtain ⟨b4, g4⟩ : ∃ z, z = h0.size := ⟨_, rfl⟩
  rw [← g4] at A4 B4 st4
  have f5 : Arv Z h4 b4 k4 (.object zs0) (16 : Int32) [] .null := Arv.new A4 (by decide)
  have f11 : Fld Z h4 a1 zs1 "levels" zs2 .null := (Fld.ext E4 F6)
  have f13 : Exa Z h4 a1 zs1 := (Exa.ext E4 F12)
  obtain ⟨T14, h14, X14, e14, W14, st14⟩ := putF X4 hx hZ hown (host := "") (Or.inl (ww hw 14 rfl)) Via.refl e4 f11 f13 (Or.inl (ww hw 15 rfl)) (ww hw 4 rfl) (ty := (.array (.object zs0))) (by decide) rfl rfl (g := (mkF m 10 (lc4 a1 a2) [(.ref b4), (.ref a1)])) rfl rfl (hb hby d1_10)
  have N16 := Fr.snoc X14 N0 g15
  have f17 : Fld Z h14 a1 zs1 "levels" zs2 (.ref b4) := Fld.same W14 f11
  obtain ⟨T18, h18, k18, X18, e18, E18, A18, B18, st18⟩ := newPE X14 hx hZ (ww hw 16 rfl) e14 (g := (mkF m 16 (lc4 a1 a2) [(.int 16), (.ref a1)])) rfl (hb hby d1_16) rfl (by decide) (cap := 16) (by decide) (by decide) (by decide) (by decide) (ad := "[J") (by decide)
  obtain ⟨b18, g18⟩ : ∃ z, z = h14.size := ⟨_, rfl⟩
  rw [← g18] at A18 B18 st18
  have f19 : Arv Z h18 b18 k18 .long (16 : Int32) [] (.long (0 : Int64)) := Arv.new A18 (by decide)
  have f20 : Fld Z h18 a1 zs1 "ranks" "[J" .null := (Fld.ext E18 (Fld.other W14 (Fld.ext E4 F7) (Or.inr (slot_ne (Or.inl (ww hw 18 rfl)) (Or.inl (ww hw 15 rfl)) (by decide) (t := (.array .long)) (t' := (.array (.object zs0))) (by decide) (by decide)))))
  have f21 : Exa Z h18 a1 zs1 := (Exa.ext E18 (Exa.wr W14 f13))
  obtain ⟨T22, h22, X22, e22, W22, st22⟩ := putF X18 hx hZ hown (host := "") (Or.inl (ww hw 17 rfl)) Via.refl e18 f20 f21 (Or.inl (ww hw 18 rfl)) (ww hw 4 rfl) (ty := (.array .long)) (by decide) rfl rfl (g := (mkF m 18 (lc4 a1 a2) [(.ref b18), (.ref a1)])) rfl rfl (hb hby d1_18)
  have N23 := Fr.snoc X22 N16 g15
  have f24 : Fld Z h22 a1 zs1 "ranks" "[J" (.ref b18) := Fld.same W22 f20
  have f25 : Fld Z h22 a1 zs1 "side" zs3 .null := (Fld.other W22 (Fld.ext E18 (Fld.other W14 (Fld.ext E4 F8) (Or.inr (slot_ne (Or.inr (ww hw 20 rfl)) (Or.inl (ww hw 15 rfl)) (by decide) (t := (.object zs5)) (t' := (.array (.object zs0))) (by decide) (by decide))))) (Or.inr (slot_ne (Or.inr (ww hw 20 rfl)) (Or.inl (ww hw 18 rfl)) (by decide) (t := (.object zs5)) (t' := (.array .long)) (by decide) (by decide))))
  have f26 : Exa Z h22 a1 zs1 := (Exa.wr W22 f21)
  obtain ⟨T27, h27, X27, e27, W27, st27⟩ := putF X22 hx hZ hown (host := "") (Or.inl (ww hw 19 rfl)) Via.refl e22 f25 f26 (Or.inr ⟨(ww hw 20 rfl), rfl, hnm⟩) (ww hw 4 rfl) (ty := (.object zs5)) (by decide) rfl rfl (g := (mkF m 23 (lc4 a1 a2) [(.ref a2), (.ref a1)])) rfl rfl (hb hby d1_23)
  have N28 := Fr.snoc X27 N23 g15
  have f29 : Fld Z h27 a1 zs1 "side" zs3 (.ref a2) := Fld.same W27 f25
  refine own_go (U' := T27.setTop (mkF m 26 (lc4 a1 a2) [])) (fun t k => oaloadN X0 hx hby d1_0 rfl rfl (st3 _ (oaloadN X3 hx hby d1_4 rfl rfl (obipush X3 hx hby d1_5 (st4 _ (st14 _ (oaloadN X14 hx hby d1_13 rfl rfl (obipush X14 hx hby d1_14 (st18 _ (st22 _ (oaloadN X22 hx hby d1_21 rfl rfl (oaloadN X22 hx hby d1_22 rfl rfl (st27 _ k))))))))))))) ?_
  have f30 : Fld Z h27 a1 zs1 "levels" zs2 (.ref b4) := (Fld.other W27 (Fld.other W22 (Fld.ext E18 f17) (Or.inr (slot_ne (Or.inl (ww hw 15 rfl)) (Or.inl (ww hw 18 rfl)) (by decide) (t := (.array (.object zs0))) (t' := (.array .long)) (by decide) (by decide)))) (Or.inr (slot_ne (Or.inl (ww hw 15 rfl)) (Or.inr (ww hw 20 rfl)) (by decide) (t := (.array (.object zs0))) (t' := (.object zs5)) (by decide) (by decide))))
  have f31 : Fld Z h27 a1 zs1 "ranks" "[J" (.ref b18) := (Fld.other W27 f24 (Or.inr (slot_ne (Or.inl (ww hw 18 rfl)) (Or.inr (ww hw 20 rfl)) (by decide) (t := (.array .long)) (t' := (.object zs5)) (by decide) (by decide))))
  have f32 : Fld Z h27 a1 zs1 "count" "I" (.int 0) := (Fld.other W27 (Fld.other W22 (Fld.ext E18 (Fld.other W14 (Fld.ext E4 F9) (Or.inr (slot_ne (Or.inl (ww hw 27 rfl)) (Or.inl (ww hw 15 rfl)) (by decide) (t := .int) (t' := (.array (.object zs0))) (by decide) (by decide))))) (Or.inr (slot_ne (Or.inl (ww hw 27 rfl)) (Or.inl (ww hw 18 rfl)) (by decide) (t := .int) (t' := (.array .long)) (by decide) (by decide)))) (Or.inr (slot_ne (Or.inl (ww hw 27 rfl)) (Or.inr (ww hw 20 rfl)) (by decide) (t := .int) (t' := (.object zs5)) (by decide) (by decide))))
  have f33 : Fld Z h27 a1 zs1 "emptyLevels" "I" (.int 0) := (Fld.other W27 (Fld.other W22 (Fld.ext E18 (Fld.other W14 (Fld.ext E4 F10) (Or.inr (slot_ne (Or.inl (ww hw 76 rfl)) (Or.inl (ww hw 15 rfl)) (by decide) (t := .int) (t' := (.array (.object zs0))) (by decide) (by decide))))) (Or.inr (slot_ne (Or.inl (ww hw 76 rfl)) (Or.inl (ww hw 18 rfl)) (by decide) (t := .int) (t' := (.array .long)) (by decide) (by decide)))) (Or.inr (slot_ne (Or.inl (ww hw 76 rfl)) (Or.inr (ww hw 20 rfl)) (by decide) (t := .int) (t' := (.object zs5)) (by decide) (by decide))))
  have f34 : Exa Z h27 b4 zs2 := (Exa.wr W27 (Exa.wr W22 (Exa.ext E18 (Exa.wr W14 B4))))
  have ne35 : a1 ≠ b4 := Nat.ne_of_lt (Nat.lt_of_lt_of_le (F6.lt) (Nat.le_of_eq g4.symm))
  have f36 : Arv Z h27 b4 k4 (.object zs0) (16 : Int32) [] .null := ((((f5.other W14 (Ne.symm ne35)).ext E18).other W22 (Ne.symm ne35)).other W27 (Ne.symm ne35))
  have f37 : Exa Z h27 b18 "[J" := (Exa.wr W27 (Exa.wr W22 B18))
  have ne38 : a1 ≠ b18 := Nat.ne_of_lt (Nat.lt_of_lt_of_le (Nat.lt_of_lt_of_le (Nat.lt_of_lt_of_le (F6.lt) E4.1) (Keep.of_wr W14).1) (Nat.le_of_eq g18.symm))
  have f39 : Arv Z h27 b18 k18 .long (16 : Int32) [] (.long (0 : Int64)) := ((f19.other W22 (Ne.symm ne38)).other W27 (Ne.symm ne38))
  have ne40 : b4 ≠ b18 := Nat.ne_of_lt (Nat.lt_of_lt_of_le (Nat.lt_of_lt_of_le (B4.lt) (Keep.of_wr W14).1) (Nat.le_of_eq g18.symm))
  obtain ⟨fs, hr, hrun, hended, hW, hsame⟩ := X27.leave (v := none) (fun _ => rfl)
  refine own_out ⟨_, _, ?_, hrun, hended, _, _, rfl, ?_, ⟨_, rfl⟩, hW, hsame.mono (by decide) (by decide)⟩
  · exact X27.returnOut hx Bd.returns (hb hby d1_26) hr
  · show Q1_0 Z a1 a2 h0 n0 _ T27.heap _
    rw [e27]
    exact ⟨b4, b18, k4, k18, rfl, N28, ((((((Keep.refl h0 [a1]).ext E4).wr W14 (Or.inl (List.mem_of_getElem? (i := 0) rfl))).ext E18).wr W22 (Or.inl (List.mem_of_getElem? (i := 0) rfl))).wr W27 (Or.inl (List.mem_of_getElem? (i := 0) rfl))), (Nat.le_of_eq g4.symm), (Nat.le_trans E4.1 (Nat.le_trans (Keep.of_wr W14).1 (Nat.le_of_eq g18.symm))), ne40, O4, f30, f31, f29, f32, f33, f34, f36, f37, f39⟩
def Q3_1 (Z : State) (a1 : Addr) (h0 : Heap) (n0 : Nat) (v : Option Value) (h : Heap) (L : List Loc) : Prop := v = some (.int 1) ∧ Fr n0 L ∧ h = h0
set_option maxRecDepth 65536 in
set_option maxHeartbeats 40000000 in
theorem rm3_1 (l : Launch) (Z : State) (a0 : Array Value) (hw : ∀ d ∈ tables_1, d.before a0 Z = true) (ws : List Jvm.Cond) (a1 : Addr) (h0 : Heap) (n0 : Nat) (Z0 : n0 ≤ h0.size) (F2 : Fld Z h0 a1 zs1 "count" "I" (.int 0)) :
    MetFree l zm1 (head1 (Jvm.Cond.code zm1 prog_2_method_2_code 1 (some .boolean) :: ws) ({ frames := 0, cells := 0, slots := 0, locals := 0 } : Room)) (fun a U => a = #[(.ref a1)] ∧ Z.Warmed39 U.vm ∧ U.heap = h0) (fun _ _ _ _ _ => True) (fun _ U o U' => ∃ v L, o = .returned v ∧ Q3_1 Z a1 h0 n0 v U'.heap L ∧ FrameEnd U o U' L ({ frames := 0, cells := 0, slots := 0, locals := 0 } : Room).cells ({ frames := 0, cells := 0, slots := 0, locals := 0 } : Room).slots) := by
  refine MetFree.of_bodySF (plainFor_of_name pn_com_example_srok_srok_engine_BookSide) hisR ?_
  intro p e s m args below meth c s₁ Bd hml0 hP hK
  obtain ⟨rfl, hZ, hh⟩ := hP
  have hx := Bd.exec
  have hby := Bd.bytes
  have hml : c.maxLocals = 1 := hml0
  have hown : s.vm.findClass zs1 = some m.cls := findClass_of_methodNamed Bd.named
  have hnm := (name_of_methodNamed Bd.named Bd.method).1
  have X0 : Stand p l e ({ frames := 0, cells := 0, slots := 0, locals := 0 } : Room) s m #[(.ref a1)] below meth c s₁ [] 0 0 := Stand.of_body Bd
  have e0 : s₁.heap = h0 := by rw [← hh, Bd.state]; rfl
  have N0 := Fr.nil n0
  refine own_pre (g' := mkF m 0 (lc6 a1) []) (ef_1 m a1) ?_
  obtain ⟨T3, X3, e3, st3⟩ := getF X0 hx hZ hown (host := "") (Or.inl (ww hw 26 rfl)) Via.refl e0 F2 (g := (mkF m 1 (lc6 a1) [(.ref a1)])) rfl rfl (hb hby d3_1)
  refine own_go (U' := T3.setTop (mkF m 4 (lc6 a1) [(.int 0)])) (fun t k => oaloadN X0 hx hby d3_0 rfl rfl (st3 _ k)) ?_
  refine own_go (U' := T3.setTop (mkF m 12 (lc6 a1) [(.int 1)])) (fun t k => oifN X3 hx hby d3_4 (by decide) (oiconst X3 hx hby d3_7 (ogoto (pc := 8) X3 hx hby d3_8 12 (by decide) k))) ?_
  obtain ⟨fs, hr, hrun, hended, hW, hsame⟩ := X3.leave (v := some (.int 1)) (fun h => by rw [Bd.returns] at h; cases h)
  refine own_out ⟨_, _, ?_, hrun, hended, _, _, rfl, ?_, ⟨_, rfl⟩, hW, hsame.mono (by decide) (by decide)⟩
  · exact retN X3 hx (t := .boolean) Bd.returns (by simp) (hb hby d3_12) hr
  · show Q3_1 Z a1 h0 n0 _ T3.heap _
    rw [e3]
    exact ⟨rfl, N0, rfl⟩
def Q4_2 (Z : State) (a1 : Addr) (h0 : Heap) (n0 : Nat) (v : Option Value) (h : Heap) (L : List Loc) : Prop := v = some .null ∧ Fr n0 L ∧ h = h0
set_option maxRecDepth 65536 in
set_option maxHeartbeats 40000000 in
theorem rm4_2 (l : Launch) (Z : State) (a0 : Array Value) (hw : ∀ d ∈ tables_1, d.before a0 Z = true) (ws : List Jvm.Cond) (a1 : Addr) (h0 : Heap) (n0 : Nat) (Z0 : n0 ≤ h0.size) (F2 : Fld Z h0 a1 zs1 "count" "I" (.int 0)) :
    MetFree l zm2 (head1 (Jvm.Cond.code zm2 prog_2_method_3_code 1 (some (.object zs0)) :: ws) ({ frames := 0, cells := 0, slots := 0, locals := 0 } : Room)) (fun a U => a = #[(.ref a1)] ∧ Z.Warmed39 U.vm ∧ U.heap = h0) (fun _ _ _ _ _ => True) (fun _ U o U' => ∃ v L, o = .returned v ∧ Q4_2 Z a1 h0 n0 v U'.heap L ∧ FrameEnd U o U' L ({ frames := 0, cells := 0, slots := 0, locals := 0 } : Room).cells ({ frames := 0, cells := 0, slots := 0, locals := 0 } : Room).slots) := by
  refine MetFree.of_bodySF (plainFor_of_name pn_com_example_srok_srok_engine_BookSide) hisR ?_
  intro p e s m args below meth c s₁ Bd hml0 hP hK
  obtain ⟨rfl, hZ, hh⟩ := hP
  have hx := Bd.exec
  have hby := Bd.bytes
  have hml : c.maxLocals = 1 := hml0
  have hown : s.vm.findClass zs1 = some m.cls := findClass_of_methodNamed Bd.named
  have hnm := (name_of_methodNamed Bd.named Bd.method).1
  have X0 : Stand p l e ({ frames := 0, cells := 0, slots := 0, locals := 0 } : Room) s m #[(.ref a1)] below meth c s₁ [] 0 0 := Stand.of_body Bd
  have e0 : s₁.heap = h0 := by rw [← hh, Bd.state]; rfl
  have N0 := Fr.nil n0
  refine own_pre (g' := mkF m 0 (lc6 a1) []) (ef_1 m a1) ?_
  obtain ⟨T3, X3, e3, st3⟩ := getF X0 hx hZ hown (host := "") (Or.inl (ww hw 26 rfl)) Via.refl e0 F2 (g := (mkF m 1 (lc6 a1) [(.ref a1)])) rfl rfl (hb hby d4_1)
  refine own_go (U' := T3.setTop (mkF m 4 (lc6 a1) [(.int 0)])) (fun t k => oaloadN X0 hx hby d4_0 rfl rfl (st3 _ k)) ?_
  refine own_go (U' := T3.setTop (mkF m 22 (lc6 a1) [.null])) (fun t k => oifN X3 hx hby d4_4 (by decide) (onull X3 hx hby d4_7 (ogoto (pc := 8) X3 hx hby d4_8 22 (by decide) k))) ?_
  obtain ⟨fs, hr, hrun, hended, hW, hsame⟩ := X3.leave (v := some .null) (fun h => by rw [Bd.returns] at h; cases h)
  refine own_out ⟨_, _, ?_, hrun, hended, _, _, rfl, ?_, ⟨_, rfl⟩, hW, hsame.mono (by decide) (by decide)⟩
  · exact retOut X3 hx Bd.returns rfl (Or.inr (Or.inr (Or.inr (Or.inr ⟨rfl, rfl, rfl⟩)))) (hb hby d4_22) hr
  · show Q4_2 Z a1 h0 n0 _ T3.heap _
    rw [e3]
    exact ⟨rfl, N0, rfl⟩
def Q7_3 (Z : State) (a1 : Addr) (q2 : Int64) (a3 : Addr) (a6 : Addr) (h0 : Heap) (n0 : Nat) (v : Option Value) (h : Heap) (L : List Loc) : Prop := v = some (.long (q2 ^^^ (-1 : Int64))) ∧ Fr n0 L ∧ h = h0
set_option maxRecDepth 65536 in
set_option maxHeartbeats 40000000 in
theorem rm7_3 (l : Launch) (Z : State) (a0 : Array Value) (hw : ∀ d ∈ tables_1, d.before a0 Z = true) (ws : List Jvm.Cond) (a1 : Addr) (q2 : Int64) (a3 : Addr) (a6 : Addr) (h0 : Heap) (n0 : Nat) (Z0 : n0 ≤ h0.size) (F4 : Fld Z h0 a1 zs1 "side" zs3 (.ref a3)) (F7 : Sta Z h0 zs5 "BUY" zs3 (.ref a6)) (ha9 : a3 ≠ a6) :
    MetFree l zm3 (head1 (Jvm.Cond.code zm3 prog_2_method_7_code 3 (some .long) :: ws) ({ frames := 0, cells := 0, slots := 0, locals := 0 } : Room)) (fun a U => a = #[(.ref a1), (.long q2)] ∧ Z.Warmed39 U.vm ∧ U.heap = h0) (fun _ _ _ _ _ => True) (fun _ U o U' => ∃ v L, o = .returned v ∧ Q7_3 Z a1 q2 a3 a6 h0 n0 v U'.heap L ∧ FrameEnd U o U' L ({ frames := 0, cells := 0, slots := 0, locals := 0 } : Room).cells ({ frames := 0, cells := 0, slots := 0, locals := 0 } : Room).slots) := by
  refine MetFree.of_bodySF (plainFor_of_name pn_com_example_srok_srok_engine_BookSide) hisR ?_
  intro p e s m args below meth c s₁ Bd hml0 hP hK
  obtain ⟨rfl, hZ, hh⟩ := hP
  have hx := Bd.exec
  have hby := Bd.bytes
  have hml : c.maxLocals = 3 := hml0
  have hown : s.vm.findClass zs1 = some m.cls := findClass_of_methodNamed Bd.named
  have hnm := (name_of_methodNamed Bd.named Bd.method).1
  have X0 : Stand p l e ({ frames := 0, cells := 0, slots := 0, locals := 0 } : Room) s m #[(.ref a1), (.long q2)] below meth c s₁ [] 0 0 := Stand.of_body Bd
  have e0 : s₁.heap = h0 := by rw [← hh, Bd.state]; rfl
  have N0 := Fr.nil n0
  refine own_pre (g' := mkF m 0 (lc13 a1 q2) []) (ef_3 m a1 q2) ?_
  obtain ⟨T5, X5, e5, st5⟩ := getF X0 hx hZ hown (host := "") (Or.inl (ww hw 19 rfl)) Via.refl e0 F4 (g := (mkF m 1 (lc13 a1 q2) [(.ref a1)])) rfl rfl (hb hby d7_1)
  obtain ⟨T8, X8, e8, st8⟩ := getS2 X5 hx hZ hown (host := "") (Or.inl (ww hw 46 rfl)) Via.refl e5 F7 (g := (mkF m 4 (lc13 a1 q2) [(.ref a3)])) rfl (hb hby d7_4)
  refine own_go (U' := T8.setTop (mkF m 19 (lc13 a1 q2) [(.long (q2 ^^^ (-1 : Int64)))])) (fun t k => oaloadN X0 hx hby d7_0 rfl rfl (st5 _ (st8 _ (oacmp (pc := 7) X8 hx hby d7_7 14 (same := false) rfl rfl (decide_eq_false fun q => ha9 (Value.ref.inj q)) (by decide) (olloadN X8 hx hby d7_14 rfl (X8.ldc2Long hx hown (mvT hZ (ww hw 48 rfl)) (g := (mkF m 15 (lc13 a1 q2) [(.long q2)])) rfl (hb hby d7_15) _ (olxor X8 hx hby d7_18 k))))))) ?_
  obtain ⟨fs, hr, hrun, hended, hW, hsame⟩ := X8.leave (v := some (.long (q2 ^^^ (-1 : Int64)))) (fun h => by rw [Bd.returns] at h; cases h)
  refine own_out ⟨_, _, ?_, hrun, hended, _, _, rfl, ?_, ⟨_, rfl⟩, hW, hsame.mono (by decide) (by decide)⟩
  · exact retOut X8 hx Bd.returns rfl (Or.inr (Or.inl ⟨rfl, rfl, _, rfl⟩)) (hb hby d7_19) hr
  · show Q7_3 Z a1 q2 a3 a6 h0 n0 _ T8.heap _
    rw [e8]
    exact ⟨rfl, N0, rfl⟩
def Q8_4 (Z : State)  (h0 : Heap) (n0 : Nat) (v : Option Value) (h : Heap) (L : List Loc) : Prop := v = some (.int 0) ∧ Fr n0 L ∧ h = h0
set_option maxRecDepth 65536 in
set_option maxHeartbeats 40000000 in
theorem rm8_4 (l : Launch) (Z : State) (a0 : Array Value) (hw : ∀ d ∈ tables_1, d.before a0 Z = true) (ws : List Jvm.Cond)  (h0 : Heap) (n0 : Nat) (Z0 : n0 ≤ h0.size) :
    MetFree l zm4 (head1 (Jvm.Cond.code zm4 jdk_29_method_65_code 2 (some .int) :: ws) ({ frames := 0, cells := 0, slots := 0, locals := 0 } : Room)) (fun a U => a = #[(.int 0), (.int 0)] ∧ Z.Warmed39 U.vm ∧ U.heap = h0) (fun _ _ _ _ _ => True) (fun _ U o U' => ∃ v L, o = .returned v ∧ Q8_4 Z  h0 n0 v U'.heap L ∧ FrameEnd U o U' L ({ frames := 0, cells := 0, slots := 0, locals := 0 } : Room).cells ({ frames := 0, cells := 0, slots := 0, locals := 0 } : Room).slots) := by
  refine MetFree.of_bodySF (Jvm.Free.JP.mathPlain rfl (by decide +kernel)) hisR ?_
  intro p e s m args below meth c s₁ Bd hml0 hP hK
  obtain ⟨rfl, hZ, hh⟩ := hP
  have hx := Bd.exec
  have hby := Bd.bytes
  have hml : c.maxLocals = 2 := hml0
  have hown : s.vm.findClass zs7 = some m.cls := findClass_of_methodNamed Bd.named
  have hnm := (name_of_methodNamed Bd.named Bd.method).1
  have X0 : Stand p l e ({ frames := 0, cells := 0, slots := 0, locals := 0 } : Room) s m #[(.int 0), (.int 0)] below meth c s₁ [] 0 0 := Stand.of_body Bd
  have e0 : s₁.heap = h0 := by rw [← hh, Bd.state]; rfl
  have N0 := Fr.nil n0
  refine own_pre (g' := mkF m 0 (lc17 0 0) []) (ef_4 m (0 : Int32) (0 : Int32)) ?_
  refine own_go (U' := s₁.setTop (mkF m 2 (lc17 0 0) [(.int 0), (.int 0)])) (fun t k => oiloadN X0 hx hby d8_0 rfl (oiloadN X0 hx hby d8_1 rfl k)) ?_
  refine own_go (U' := s₁.setTop (mkF m 10 (lc17 0 0) [(.int 0)])) (fun t k => oicN X0 hx hby d8_2 (by decide) (oiloadN X0 hx hby d8_5 rfl (ogoto (pc := 6) X0 hx hby d8_6 10 (by decide) k))) ?_
  obtain ⟨fs, hr, hrun, hended, hW, hsame⟩ := X0.leave (v := some (.int 0)) (fun h => by rw [Bd.returns] at h; cases h)
  refine own_out ⟨_, _, ?_, hrun, hended, _, _, rfl, ?_, ⟨_, rfl⟩, hW, hsame.mono (by decide) (by decide)⟩
  · exact retI X0 hx Bd.returns (hb hby d8_10) hr
  · show Q8_4 Z  h0 n0 _ s₁.heap _
    rw [e0]
    exact ⟨rfl, N0, rfl⟩
def Q6_5 (Z : State) (a1 : Addr) (q2 : Int64) (a4 : Addr) (a6 : Addr) (h0 : Heap) (n0 : Nat) (v : Option Value) (h : Heap) (L : List Loc) : Prop := v = some (.int (-1)) ∧ Fr n0 L ∧ h = h0
set_option maxRecDepth 65536 in
set_option maxHeartbeats 40000000 in
theorem rm6_5 (l : Launch) (Z : State) (a0 : Array Value) (hw : ∀ d ∈ tables_1, d.before a0 Z = true) (ws : List Jvm.Cond) (a1 : Addr) (q2 : Int64) (a4 : Addr) (a6 : Addr) (h0 : Heap) (n0 : Nat) (Z0 : n0 ≤ h0.size) (F5 : Fld Z h0 a1 zs1 "side" zs3 (.ref a4)) (F7 : Sta Z h0 zs5 "BUY" zs3 (.ref a6)) (ha8 : a4 ≠ a6) (F9 : Exa Z h0 a1 zs1) (F12 : Fld Z h0 a1 zs1 "count" "I" (.int 0)) (hc16 : (q2 ^^^ (-1 : Int64)) = (-9223372036854775808 : Int64)) :
    MetFree l zm5 (head1 (Jvm.Cond.code zm5 prog_2_method_8_code 11 (some .int) :: ws) ({ frames := 1, cells := 0, slots := 0, locals := 14 } : Room)) (fun a U => a = #[(.ref a1), (.long q2), .null] ∧ Z.Warmed39 U.vm ∧ U.heap = h0) (fun _ _ _ _ _ => True) (fun _ U o U' => ∃ v L, o = .returned v ∧ Q6_5 Z a1 q2 a4 a6 h0 n0 v U'.heap L ∧ FrameEnd U o U' L ({ frames := 1, cells := 0, slots := 0, locals := 14 } : Room).cells ({ frames := 1, cells := 0, slots := 0, locals := 14 } : Room).slots) := by
  refine MetFree.of_bodySF (plainFor_of_name pn_com_example_srok_srok_engine_BookSide) hisR ?_
  intro p e s m args below meth c s₁ Bd hml0 hP hK
  obtain ⟨rfl, hZ, hh⟩ := hP
  have hx := Bd.exec
  have hby := Bd.bytes
  have hml : c.maxLocals = 11 := hml0
  have hown : s.vm.findClass zs1 = some m.cls := findClass_of_methodNamed Bd.named
  have hnm := (name_of_methodNamed Bd.named Bd.method).1
  have X0 : Stand p l e ({ frames := 1, cells := 0, slots := 0, locals := 14 } : Room) s m #[(.ref a1), (.long q2), .null] below meth c s₁ [] 0 0 := Stand.of_body Bd
  have e0 : s₁.heap = h0 := by rw [← hh, Bd.state]; rfl
  have N0 := Fr.nil n0
  refine own_pre (g' := mkF m 0 (lc12 a1 q2) []) (ef_5 m a1 q2) ?_
  obtain ⟨_, T3, L3, X3, hQ3, st3⟩ := ocallP X0 hx hZ zm3 hown (ww hw 42 rfl) (ww hw 43 rfl) (own_selP (mvT hZ (ww hw 4 rfl)) (mvP hZ (ww hw 44 rfl)) (mvT hZ (ww hw 43 rfl)) (by decide)) (ww hw 44 rfl) (by decide) (ww hw 45 rfl) (ww hw 5 rfl) e0 F9 (rm7_3 l Z a0 hw [] a1 q2 a4 a6 h0 n0 Z0 F5 F7 ha8) (st := [(.long q2), (.ref a1)]) rfl 0 rfl (by decide) (pc := 2) (Ls := (lc12 a1 q2)) hml rfl (lenOf pd_3 rfl) d6_2 hby
  obtain ⟨rfl, N3q, e3⟩ := hQ3
  have N10 := Fr.app N0 N3q
  refine own_go (U' := T3.setTop (mkF m 7 (lc14 a1 q2 (q2 ^^^ (-1 : Int64))) [])) (fun t k => oaloadN X0 hx hby d6_0 rfl rfl (olloadN X0 hx hby d6_1 rfl (st3 _ (olstore X3 hx hby d6_5 (lc14 a1 q2 (q2 ^^^ (-1 : Int64))) rfl k)))) ?_
  obtain ⟨z11, hz11⟩ : ∃ z, z = (q2 ^^^ (-1 : Int64)) := ⟨_, rfl⟩
  rw [← hz11]
  obtain ⟨T13, X13, e13, st13⟩ := getF X3 hx hZ hown (host := "") (Or.inl (ww hw 26 rfl)) Via.refl e3 F12 (g := (mkF m 8 (lc14 a1 q2 z11) [(.ref a1)])) rfl rfl (hb hby d6_8)
  refine own_go (U' := T13.setTop (mkF m 21 (lc16 a1 q2 z11 0 1) [(.int ((0 : Int32) - (1 : Int32)))])) (fun t k => oaloadN X3 hx hby d6_7 rfl rfl (st13 _ (oistore X13 hx hby d6_11 (lc15 a1 q2 z11 0) rfl (oiconst X13 hx hby d6_13 (oistore X13 hx hby d6_14 (lc16 a1 q2 z11 0 1) rfl (oiload X13 hx hby d6_16 rfl (oiload X13 hx hby d6_18 rfl (oisub X13 hx hby d6_20 k)))))))) ?_
  rw [show ((0 : Int32) - (1 : Int32)) = (-1 : Int32) from by decide]
  refine own_go (U' := T13.setTop (mkF m 62 (lc16 a1 q2 z11 0 1) [(.int ((0 : Int32) - (1 : Int32))), (.int 0)])) (fun t k => oifY (pc := 21) X13 hx hby d6_21 56 (by decide) (by decide) (oiconst X13 hx hby d6_56 (oiload X13 hx hby d6_57 rfl (oiload X13 hx hby d6_59 rfl (oisub X13 hx hby d6_61 k))))) ?_
  rw [show ((0 : Int32) - (1 : Int32)) = (-1 : Int32) from by decide]
  refine own_go (U' := T13.setTop (mkF m 64 (lc16 a1 q2 z11 0 1) [(.int ((-1 : Int32) + (1 : Int32))), (.int 0)])) (fun t k => oiconst X13 hx hby d6_62 (oiadd X13 hx hby d6_63 k)) ?_
  rw [show ((-1 : Int32) + (1 : Int32)) = (0 : Int32) from by decide]
  obtain ⟨_, T14, L14, X14, hQ14, st14⟩ := ocallS X13 hx hZ zm4 hown (ww hw 49 rfl) (ww hw 50 rfl) (by decide) (ww hw 52 rfl) (ww hw 51 rfl) e13 (rm8_4 l Z a0 hw []  h0 n0 Z0 ) (st := [(.int 0), (.int 0)]) rfl 0 rfl (by decide) (pc := 64) (Ls := (lc16 a1 q2 z11 0 1)) hml rfl (lenOf pd_4 rfl) d6_64 hby
  obtain ⟨rfl, N14q, e14⟩ := hQ14
  have N15 := Fr.app N10 N14q
  refine own_go (U' := T14.setTop (mkF m 79 (lc19 a1 q2 z11 0 1 0 0) [(.int 1), (.int 0)])) (fun t k => st14 _ (oistore X14 hx hby d6_67 (lc18 a1 q2 z11 0 1 0) rfl (oiload X14 hx hby d6_69 rfl (oiload X14 hx hby d6_71 rfl (oisub X14 hx hby d6_73 (oistore X14 hx hby d6_74 (lc19 a1 q2 z11 0 1 0 0) rfl (oiload X14 hx hby d6_76 rfl (oiconst X14 hx hby d6_78 k)))))))) ?_
  refine own_go (U' := T14.setTop (mkF m 132 (lc19 a1 q2 z11 0 1 0 0) [(.int 0), (.int 0)])) (fun t k => oicY (pc := 79) X14 hx hby d6_79 128 (by decide) (by decide) (oiload X14 hx hby d6_128 rfl (oiload X14 hx hby d6_130 rfl k))) ?_
  refine own_go (U' := T14.setTop (mkF m 157 (lc19 a1 q2 z11 0 1 0 0) [(.int (lcmpW z11 (-9223372036854775808 : Int64)))])) (fun t k => oicY (pc := 132) X14 hx hby d6_132 151 (by decide) (by decide) (olload X14 hx hby d6_151 rfl (X14.ldc2Long hx hown (mvT hZ (ww hw 53 rfl)) (g := (mkF m 153 (lc19 a1 q2 z11 0 1 0 0) [(.long z11)])) rfl (hb hby d6_153) _ (olcmp X14 hx hby d6_156 k)))) ?_
  have hs17 : z11 = (-9223372036854775808 : Int64) := by rw [hz11]; exact hc16
  refine own_go (U' := T14.setTop (mkF m 178 (lc19 a1 q2 z11 0 1 0 0) [(.int 0)])) (fun t k => oifY (pc := 157) X14 hx hby d6_157 173 (own_ll_eq_t hs17) (by decide) (oiconst X14 hx hby d6_173 (oistore X14 hx hby d6_174 (lc19 a1 q2 z11 0 1 0 0) rfl (oiload X14 hx hby d6_176 rfl k)))) ?_
  obtain ⟨T18, X18, e18, st18⟩ := getF X14 hx hZ hown (host := "") (Or.inl (ww hw 26 rfl)) Via.refl e14 F12 (g := (mkF m 184 (lc19 a1 q2 z11 0 1 0 0) [(.ref a1), (.int 0)])) rfl rfl (hb hby d6_184)
  refine own_go (U' := T18.setTop (mkF m 187 (lc19 a1 q2 z11 0 1 0 0) [(.int 0), (.int 0)])) (fun t k => oifN X14 hx hby d6_178 (by decide) (oiload X14 hx hby d6_181 rfl (oaloadN X14 hx hby d6_183 rfl rfl (st18 _ k)))) ?_
  obtain ⟨T19, X19, e19, st19⟩ := getF X18 hx hZ hown (host := "") (Or.inl (ww hw 26 rfl)) Via.refl e18 F12 (g := (mkF m 230 (lc19 a1 q2 z11 0 1 0 0) [(.ref a1), (.int 0)])) rfl rfl (hb hby d6_230)
  refine own_go (U' := T19.setTop (mkF m 233 (lc19 a1 q2 z11 0 1 0 0) [(.int 0), (.int 0)])) (fun t k => oicY (pc := 187) X18 hx hby d6_187 227 (by decide) (by decide) (oiload X18 hx hby d6_227 rfl (oaloadN X18 hx hby d6_229 rfl rfl (st19 _ k)))) ?_
  refine own_go (U' := T19.setTop (mkF m 280 (lc20 a1 q2 z11 0 1 0 0 0) [(.int 0)])) (fun t k => oicY (pc := 233) X19 hx hby d6_233 275 (by decide) (by decide) (oiconst X19 hx hby d6_275 (oistore X19 hx hby d6_276 (lc20 a1 q2 z11 0 1 0 0 0) rfl (oiload X19 hx hby d6_278 rfl k)))) ?_
  refine own_go (U' := T19.setTop (mkF m 292 (lc20 a1 q2 z11 0 1 0 0 0) [(.int ((-1 : Int32) - (0 : Int32)))])) (fun t k => oifY (pc := 280) X19 hx hby d6_280 288 (by decide) (by decide) (oiconst X19 hx hby d6_288 (oiload X19 hx hby d6_289 rfl (oisub X19 hx hby d6_291 k)))) ?_
  rw [show ((-1 : Int32) - (0 : Int32)) = (-1 : Int32) from by decide]
  obtain ⟨fs, hr, hrun, hended, hW, hsame⟩ := X19.leave (v := some (.int (-1))) (fun h => by rw [Bd.returns] at h; cases h)
  refine own_out ⟨_, _, ?_, hrun, hended, _, _, rfl, ?_, ⟨_, rfl⟩, hW, hsame.mono (by decide) (by decide)⟩
  · exact retI X19 hx Bd.returns (hb hby d6_292) hr
  · show Q6_5 Z a1 q2 a4 a6 h0 n0 _ T19.heap _
    rw [e19]
    exact ⟨rfl, N15, rfl⟩
def Q6_6 (Z : State) (a1 : Addr) (q2 : Int64) (a4 : Addr) (a6 : Addr) (h0 : Heap) (n0 : Nat) (v : Option Value) (h : Heap) (L : List Loc) : Prop := v = some (.int (-1)) ∧ Fr n0 L ∧ h = h0
set_option maxRecDepth 65536 in
set_option maxHeartbeats 40000000 in
theorem rm6_6 (l : Launch) (Z : State) (a0 : Array Value) (hw : ∀ d ∈ tables_1, d.before a0 Z = true) (ws : List Jvm.Cond) (a1 : Addr) (q2 : Int64) (a4 : Addr) (a6 : Addr) (h0 : Heap) (n0 : Nat) (Z0 : n0 ≤ h0.size) (F5 : Fld Z h0 a1 zs1 "side" zs3 (.ref a4)) (F7 : Sta Z h0 zs5 "BUY" zs3 (.ref a6)) (ha8 : a4 ≠ a6) (F9 : Exa Z h0 a1 zs1) (F12 : Fld Z h0 a1 zs1 "count" "I" (.int 0)) (hc16 : ¬ ((q2 ^^^ (-1 : Int64)) = (-9223372036854775808 : Int64))) (hc18 : (q2 ^^^ (-1 : Int64)) = (9223372036854775807 : Int64)) :
    MetFree l zm5 (head1 (Jvm.Cond.code zm5 prog_2_method_8_code 11 (some .int) :: ws) ({ frames := 1, cells := 0, slots := 0, locals := 14 } : Room)) (fun a U => a = #[(.ref a1), (.long q2), .null] ∧ Z.Warmed39 U.vm ∧ U.heap = h0) (fun _ _ _ _ _ => True) (fun _ U o U' => ∃ v L, o = .returned v ∧ Q6_6 Z a1 q2 a4 a6 h0 n0 v U'.heap L ∧ FrameEnd U o U' L ({ frames := 1, cells := 0, slots := 0, locals := 14 } : Room).cells ({ frames := 1, cells := 0, slots := 0, locals := 14 } : Room).slots) := by
  refine MetFree.of_bodySF (plainFor_of_name pn_com_example_srok_srok_engine_BookSide) hisR ?_
  intro p e s m args below meth c s₁ Bd hml0 hP hK
  obtain ⟨rfl, hZ, hh⟩ := hP
  have hx := Bd.exec
  have hby := Bd.bytes
  have hml : c.maxLocals = 11 := hml0
  have hown : s.vm.findClass zs1 = some m.cls := findClass_of_methodNamed Bd.named
  have hnm := (name_of_methodNamed Bd.named Bd.method).1
  have X0 : Stand p l e ({ frames := 1, cells := 0, slots := 0, locals := 14 } : Room) s m #[(.ref a1), (.long q2), .null] below meth c s₁ [] 0 0 := Stand.of_body Bd
  have e0 : s₁.heap = h0 := by rw [← hh, Bd.state]; rfl
  have N0 := Fr.nil n0
  refine own_pre (g' := mkF m 0 (lc12 a1 q2) []) (ef_5 m a1 q2) ?_
  obtain ⟨_, T3, L3, X3, hQ3, st3⟩ := ocallP X0 hx hZ zm3 hown (ww hw 42 rfl) (ww hw 43 rfl) (own_selP (mvT hZ (ww hw 4 rfl)) (mvP hZ (ww hw 44 rfl)) (mvT hZ (ww hw 43 rfl)) (by decide)) (ww hw 44 rfl) (by decide) (ww hw 45 rfl) (ww hw 5 rfl) e0 F9 (rm7_3 l Z a0 hw [] a1 q2 a4 a6 h0 n0 Z0 F5 F7 ha8) (st := [(.long q2), (.ref a1)]) rfl 0 rfl (by decide) (pc := 2) (Ls := (lc12 a1 q2)) hml rfl (lenOf pd_3 rfl) d6_2 hby
  obtain ⟨rfl, N3q, e3⟩ := hQ3
  have N10 := Fr.app N0 N3q
  refine own_go (U' := T3.setTop (mkF m 7 (lc14 a1 q2 (q2 ^^^ (-1 : Int64))) [])) (fun t k => oaloadN X0 hx hby d6_0 rfl rfl (olloadN X0 hx hby d6_1 rfl (st3 _ (olstore X3 hx hby d6_5 (lc14 a1 q2 (q2 ^^^ (-1 : Int64))) rfl k)))) ?_
  obtain ⟨z11, hz11⟩ : ∃ z, z = (q2 ^^^ (-1 : Int64)) := ⟨_, rfl⟩
  rw [← hz11]
  obtain ⟨T13, X13, e13, st13⟩ := getF X3 hx hZ hown (host := "") (Or.inl (ww hw 26 rfl)) Via.refl e3 F12 (g := (mkF m 8 (lc14 a1 q2 z11) [(.ref a1)])) rfl rfl (hb hby d6_8)
  refine own_go (U' := T13.setTop (mkF m 21 (lc16 a1 q2 z11 0 1) [(.int ((0 : Int32) - (1 : Int32)))])) (fun t k => oaloadN X3 hx hby d6_7 rfl rfl (st13 _ (oistore X13 hx hby d6_11 (lc15 a1 q2 z11 0) rfl (oiconst X13 hx hby d6_13 (oistore X13 hx hby d6_14 (lc16 a1 q2 z11 0 1) rfl (oiload X13 hx hby d6_16 rfl (oiload X13 hx hby d6_18 rfl (oisub X13 hx hby d6_20 k)))))))) ?_
  rw [show ((0 : Int32) - (1 : Int32)) = (-1 : Int32) from by decide]
  refine own_go (U' := T13.setTop (mkF m 62 (lc16 a1 q2 z11 0 1) [(.int ((0 : Int32) - (1 : Int32))), (.int 0)])) (fun t k => oifY (pc := 21) X13 hx hby d6_21 56 (by decide) (by decide) (oiconst X13 hx hby d6_56 (oiload X13 hx hby d6_57 rfl (oiload X13 hx hby d6_59 rfl (oisub X13 hx hby d6_61 k))))) ?_
  rw [show ((0 : Int32) - (1 : Int32)) = (-1 : Int32) from by decide]
  refine own_go (U' := T13.setTop (mkF m 64 (lc16 a1 q2 z11 0 1) [(.int ((-1 : Int32) + (1 : Int32))), (.int 0)])) (fun t k => oiconst X13 hx hby d6_62 (oiadd X13 hx hby d6_63 k)) ?_
  rw [show ((-1 : Int32) + (1 : Int32)) = (0 : Int32) from by decide]
  obtain ⟨_, T14, L14, X14, hQ14, st14⟩ := ocallS X13 hx hZ zm4 hown (ww hw 49 rfl) (ww hw 50 rfl) (by decide) (ww hw 52 rfl) (ww hw 51 rfl) e13 (rm8_4 l Z a0 hw []  h0 n0 Z0 ) (st := [(.int 0), (.int 0)]) rfl 0 rfl (by decide) (pc := 64) (Ls := (lc16 a1 q2 z11 0 1)) hml rfl (lenOf pd_4 rfl) d6_64 hby
  obtain ⟨rfl, N14q, e14⟩ := hQ14
  have N15 := Fr.app N10 N14q
  refine own_go (U' := T14.setTop (mkF m 79 (lc19 a1 q2 z11 0 1 0 0) [(.int 1), (.int 0)])) (fun t k => st14 _ (oistore X14 hx hby d6_67 (lc18 a1 q2 z11 0 1 0) rfl (oiload X14 hx hby d6_69 rfl (oiload X14 hx hby d6_71 rfl (oisub X14 hx hby d6_73 (oistore X14 hx hby d6_74 (lc19 a1 q2 z11 0 1 0 0) rfl (oiload X14 hx hby d6_76 rfl (oiconst X14 hx hby d6_78 k)))))))) ?_
  refine own_go (U' := T14.setTop (mkF m 132 (lc19 a1 q2 z11 0 1 0 0) [(.int 0), (.int 0)])) (fun t k => oicY (pc := 79) X14 hx hby d6_79 128 (by decide) (by decide) (oiload X14 hx hby d6_128 rfl (oiload X14 hx hby d6_130 rfl k))) ?_
  refine own_go (U' := T14.setTop (mkF m 157 (lc19 a1 q2 z11 0 1 0 0) [(.int (lcmpW z11 (-9223372036854775808 : Int64)))])) (fun t k => oicY (pc := 132) X14 hx hby d6_132 151 (by decide) (by decide) (olload X14 hx hby d6_151 rfl (X14.ldc2Long hx hown (mvT hZ (ww hw 53 rfl)) (g := (mkF m 153 (lc19 a1 q2 z11 0 1 0 0) [(.long z11)])) rfl (hb hby d6_153) _ (olcmp X14 hx hby d6_156 k)))) ?_
  have hs17 : ¬ (z11 = (-9223372036854775808 : Int64)) := by rw [hz11]; exact hc16
  refine own_go (U' := T14.setTop (mkF m 166 (lc19 a1 q2 z11 0 1 0 0) [(.int (lcmpW z11 (9223372036854775807 : Int64)))])) (fun t k => oifN X14 hx hby d6_157 (own_ll_eq_f hs17) (olload X14 hx hby d6_160 rfl (X14.ldc2Long hx hown (mvT hZ (ww hw 54 rfl)) (g := (mkF m 162 (lc19 a1 q2 z11 0 1 0 0) [(.long z11)])) rfl (hb hby d6_162) _ (olcmp X14 hx hby d6_165 k)))) ?_
  have hs19 : z11 = (9223372036854775807 : Int64) := by rw [hz11]; exact hc18
  refine own_go (U' := T14.setTop (mkF m 178 (lc19 a1 q2 z11 0 1 0 0) [(.int 0)])) (fun t k => oifY (pc := 166) X14 hx hby d6_166 173 (own_ll_eq_t hs19) (by decide) (oiconst X14 hx hby d6_173 (oistore X14 hx hby d6_174 (lc19 a1 q2 z11 0 1 0 0) rfl (oiload X14 hx hby d6_176 rfl k)))) ?_
  obtain ⟨T20, X20, e20, st20⟩ := getF X14 hx hZ hown (host := "") (Or.inl (ww hw 26 rfl)) Via.refl e14 F12 (g := (mkF m 184 (lc19 a1 q2 z11 0 1 0 0) [(.ref a1), (.int 0)])) rfl rfl (hb hby d6_184)
  refine own_go (U' := T20.setTop (mkF m 187 (lc19 a1 q2 z11 0 1 0 0) [(.int 0), (.int 0)])) (fun t k => oifN X14 hx hby d6_178 (by decide) (oiload X14 hx hby d6_181 rfl (oaloadN X14 hx hby d6_183 rfl rfl (st20 _ k)))) ?_
  obtain ⟨T21, X21, e21, st21⟩ := getF X20 hx hZ hown (host := "") (Or.inl (ww hw 26 rfl)) Via.refl e20 F12 (g := (mkF m 230 (lc19 a1 q2 z11 0 1 0 0) [(.ref a1), (.int 0)])) rfl rfl (hb hby d6_230)
  refine own_go (U' := T21.setTop (mkF m 233 (lc19 a1 q2 z11 0 1 0 0) [(.int 0), (.int 0)])) (fun t k => oicY (pc := 187) X20 hx hby d6_187 227 (by decide) (by decide) (oiload X20 hx hby d6_227 rfl (oaloadN X20 hx hby d6_229 rfl rfl (st21 _ k)))) ?_
  refine own_go (U' := T21.setTop (mkF m 280 (lc20 a1 q2 z11 0 1 0 0 0) [(.int 0)])) (fun t k => oicY (pc := 233) X21 hx hby d6_233 275 (by decide) (by decide) (oiconst X21 hx hby d6_275 (oistore X21 hx hby d6_276 (lc20 a1 q2 z11 0 1 0 0 0) rfl (oiload X21 hx hby d6_278 rfl k)))) ?_
  refine own_go (U' := T21.setTop (mkF m 292 (lc20 a1 q2 z11 0 1 0 0 0) [(.int ((-1 : Int32) - (0 : Int32)))])) (fun t k => oifY (pc := 280) X21 hx hby d6_280 288 (by decide) (by decide) (oiconst X21 hx hby d6_288 (oiload X21 hx hby d6_289 rfl (oisub X21 hx hby d6_291 k)))) ?_
  rw [show ((-1 : Int32) - (0 : Int32)) = (-1 : Int32) from by decide]
  obtain ⟨fs, hr, hrun, hended, hW, hsame⟩ := X21.leave (v := some (.int (-1))) (fun h => by rw [Bd.returns] at h; cases h)
  refine own_out ⟨_, _, ?_, hrun, hended, _, _, rfl, ?_, ⟨_, rfl⟩, hW, hsame.mono (by decide) (by decide)⟩
  · exact retI X21 hx Bd.returns (hb hby d6_292) hr
  · show Q6_6 Z a1 q2 a4 a6 h0 n0 _ T21.heap _
    rw [e21]
    exact ⟨rfl, N15, rfl⟩
def Q6_7 (Z : State) (a1 : Addr) (q2 : Int64) (a4 : Addr) (a6 : Addr) (h0 : Heap) (n0 : Nat) (v : Option Value) (h : Heap) (L : List Loc) : Prop := v = some (.int (-1)) ∧ Fr n0 L ∧ h = h0
set_option maxRecDepth 65536 in
set_option maxHeartbeats 40000000 in
theorem rm6_7 (l : Launch) (Z : State) (a0 : Array Value) (hw : ∀ d ∈ tables_1, d.before a0 Z = true) (ws : List Jvm.Cond) (a1 : Addr) (q2 : Int64) (a4 : Addr) (a6 : Addr) (h0 : Heap) (n0 : Nat) (Z0 : n0 ≤ h0.size) (F5 : Fld Z h0 a1 zs1 "side" zs3 (.ref a4)) (F7 : Sta Z h0 zs5 "BUY" zs3 (.ref a6)) (ha8 : a4 ≠ a6) (F9 : Exa Z h0 a1 zs1) (F12 : Fld Z h0 a1 zs1 "count" "I" (.int 0)) (hc16 : ¬ ((q2 ^^^ (-1 : Int64)) = (-9223372036854775808 : Int64))) (hc18 : ¬ ((q2 ^^^ (-1 : Int64)) = (9223372036854775807 : Int64))) :
    MetFree l zm5 (head1 (Jvm.Cond.code zm5 prog_2_method_8_code 11 (some .int) :: ws) ({ frames := 1, cells := 0, slots := 0, locals := 14 } : Room)) (fun a U => a = #[(.ref a1), (.long q2), .null] ∧ Z.Warmed39 U.vm ∧ U.heap = h0) (fun _ _ _ _ _ => True) (fun _ U o U' => ∃ v L, o = .returned v ∧ Q6_7 Z a1 q2 a4 a6 h0 n0 v U'.heap L ∧ FrameEnd U o U' L ({ frames := 1, cells := 0, slots := 0, locals := 14 } : Room).cells ({ frames := 1, cells := 0, slots := 0, locals := 14 } : Room).slots) := by
  refine MetFree.of_bodySF (plainFor_of_name pn_com_example_srok_srok_engine_BookSide) hisR ?_
  intro p e s m args below meth c s₁ Bd hml0 hP hK
  obtain ⟨rfl, hZ, hh⟩ := hP
  have hx := Bd.exec
  have hby := Bd.bytes
  have hml : c.maxLocals = 11 := hml0
  have hown : s.vm.findClass zs1 = some m.cls := findClass_of_methodNamed Bd.named
  have hnm := (name_of_methodNamed Bd.named Bd.method).1
  have X0 : Stand p l e ({ frames := 1, cells := 0, slots := 0, locals := 14 } : Room) s m #[(.ref a1), (.long q2), .null] below meth c s₁ [] 0 0 := Stand.of_body Bd
  have e0 : s₁.heap = h0 := by rw [← hh, Bd.state]; rfl
  have N0 := Fr.nil n0
  refine own_pre (g' := mkF m 0 (lc12 a1 q2) []) (ef_5 m a1 q2) ?_
  obtain ⟨_, T3, L3, X3, hQ3, st3⟩ := ocallP X0 hx hZ zm3 hown (ww hw 42 rfl) (ww hw 43 rfl) (own_selP (mvT hZ (ww hw 4 rfl)) (mvP hZ (ww hw 44 rfl)) (mvT hZ (ww hw 43 rfl)) (by decide)) (ww hw 44 rfl) (by decide) (ww hw 45 rfl) (ww hw 5 rfl) e0 F9 (rm7_3 l Z a0 hw [] a1 q2 a4 a6 h0 n0 Z0 F5 F7 ha8) (st := [(.long q2), (.ref a1)]) rfl 0 rfl (by decide) (pc := 2) (Ls := (lc12 a1 q2)) hml rfl (lenOf pd_3 rfl) d6_2 hby
  obtain ⟨rfl, N3q, e3⟩ := hQ3
  have N10 := Fr.app N0 N3q
  refine own_go (U' := T3.setTop (mkF m 7 (lc14 a1 q2 (q2 ^^^ (-1 : Int64))) [])) (fun t k => oaloadN X0 hx hby d6_0 rfl rfl (olloadN X0 hx hby d6_1 rfl (st3 _ (olstore X3 hx hby d6_5 (lc14 a1 q2 (q2 ^^^ (-1 : Int64))) rfl k)))) ?_
  obtain ⟨z11, hz11⟩ : ∃ z, z = (q2 ^^^ (-1 : Int64)) := ⟨_, rfl⟩
  rw [← hz11]
  obtain ⟨T13, X13, e13, st13⟩ := getF X3 hx hZ hown (host := "") (Or.inl (ww hw 26 rfl)) Via.refl e3 F12 (g := (mkF m 8 (lc14 a1 q2 z11) [(.ref a1)])) rfl rfl (hb hby d6_8)
  refine own_go (U' := T13.setTop (mkF m 21 (lc16 a1 q2 z11 0 1) [(.int ((0 : Int32) - (1 : Int32)))])) (fun t k => oaloadN X3 hx hby d6_7 rfl rfl (st13 _ (oistore X13 hx hby d6_11 (lc15 a1 q2 z11 0) rfl (oiconst X13 hx hby d6_13 (oistore X13 hx hby d6_14 (lc16 a1 q2 z11 0 1) rfl (oiload X13 hx hby d6_16 rfl (oiload X13 hx hby d6_18 rfl (oisub X13 hx hby d6_20 k)))))))) ?_
  rw [show ((0 : Int32) - (1 : Int32)) = (-1 : Int32) from by decide]
  refine own_go (U' := T13.setTop (mkF m 62 (lc16 a1 q2 z11 0 1) [(.int ((0 : Int32) - (1 : Int32))), (.int 0)])) (fun t k => oifY (pc := 21) X13 hx hby d6_21 56 (by decide) (by decide) (oiconst X13 hx hby d6_56 (oiload X13 hx hby d6_57 rfl (oiload X13 hx hby d6_59 rfl (oisub X13 hx hby d6_61 k))))) ?_
  rw [show ((0 : Int32) - (1 : Int32)) = (-1 : Int32) from by decide]
  refine own_go (U' := T13.setTop (mkF m 64 (lc16 a1 q2 z11 0 1) [(.int ((-1 : Int32) + (1 : Int32))), (.int 0)])) (fun t k => oiconst X13 hx hby d6_62 (oiadd X13 hx hby d6_63 k)) ?_
  rw [show ((-1 : Int32) + (1 : Int32)) = (0 : Int32) from by decide]
  obtain ⟨_, T14, L14, X14, hQ14, st14⟩ := ocallS X13 hx hZ zm4 hown (ww hw 49 rfl) (ww hw 50 rfl) (by decide) (ww hw 52 rfl) (ww hw 51 rfl) e13 (rm8_4 l Z a0 hw []  h0 n0 Z0 ) (st := [(.int 0), (.int 0)]) rfl 0 rfl (by decide) (pc := 64) (Ls := (lc16 a1 q2 z11 0 1)) hml rfl (lenOf pd_4 rfl) d6_64 hby
  obtain ⟨rfl, N14q, e14⟩ := hQ14
  have N15 := Fr.app N10 N14q
  refine own_go (U' := T14.setTop (mkF m 79 (lc19 a1 q2 z11 0 1 0 0) [(.int 1), (.int 0)])) (fun t k => st14 _ (oistore X14 hx hby d6_67 (lc18 a1 q2 z11 0 1 0) rfl (oiload X14 hx hby d6_69 rfl (oiload X14 hx hby d6_71 rfl (oisub X14 hx hby d6_73 (oistore X14 hx hby d6_74 (lc19 a1 q2 z11 0 1 0 0) rfl (oiload X14 hx hby d6_76 rfl (oiconst X14 hx hby d6_78 k)))))))) ?_
  refine own_go (U' := T14.setTop (mkF m 132 (lc19 a1 q2 z11 0 1 0 0) [(.int 0), (.int 0)])) (fun t k => oicY (pc := 79) X14 hx hby d6_79 128 (by decide) (by decide) (oiload X14 hx hby d6_128 rfl (oiload X14 hx hby d6_130 rfl k))) ?_
  refine own_go (U' := T14.setTop (mkF m 157 (lc19 a1 q2 z11 0 1 0 0) [(.int (lcmpW z11 (-9223372036854775808 : Int64)))])) (fun t k => oicY (pc := 132) X14 hx hby d6_132 151 (by decide) (by decide) (olload X14 hx hby d6_151 rfl (X14.ldc2Long hx hown (mvT hZ (ww hw 53 rfl)) (g := (mkF m 153 (lc19 a1 q2 z11 0 1 0 0) [(.long z11)])) rfl (hb hby d6_153) _ (olcmp X14 hx hby d6_156 k)))) ?_
  have hs17 : ¬ (z11 = (-9223372036854775808 : Int64)) := by rw [hz11]; exact hc16
  refine own_go (U' := T14.setTop (mkF m 166 (lc19 a1 q2 z11 0 1 0 0) [(.int (lcmpW z11 (9223372036854775807 : Int64)))])) (fun t k => oifN X14 hx hby d6_157 (own_ll_eq_f hs17) (olload X14 hx hby d6_160 rfl (X14.ldc2Long hx hown (mvT hZ (ww hw 54 rfl)) (g := (mkF m 162 (lc19 a1 q2 z11 0 1 0 0) [(.long z11)])) rfl (hb hby d6_162) _ (olcmp X14 hx hby d6_165 k)))) ?_
  have hs19 : ¬ (z11 = (9223372036854775807 : Int64)) := by rw [hz11]; exact hc18
  refine own_go (U' := T14.setTop (mkF m 178 (lc19 a1 q2 z11 0 1 0 1) [(.int 1)])) (fun t k => oifN X14 hx hby d6_166 (own_ll_eq_f hs19) (oiconst X14 hx hby d6_169 (ogoto (pc := 170) X14 hx hby d6_170 174 (by decide) (oistore X14 hx hby d6_174 (lc19 a1 q2 z11 0 1 0 1) rfl (oiload X14 hx hby d6_176 rfl k))))) ?_
  obtain ⟨T20, X20, e20, st20⟩ := getF X14 hx hZ hown (host := "") (Or.inl (ww hw 26 rfl)) Via.refl e14 F12 (g := (mkF m 230 (lc19 a1 q2 z11 0 1 0 1) [(.ref a1), (.int 0)])) rfl rfl (hb hby d6_230)
  refine own_go (U' := T20.setTop (mkF m 233 (lc19 a1 q2 z11 0 1 0 1) [(.int 0), (.int 0)])) (fun t k => oifY (pc := 178) X14 hx hby d6_178 227 (by decide) (by decide) (oiload X14 hx hby d6_227 rfl (oaloadN X14 hx hby d6_229 rfl rfl (st20 _ k)))) ?_
  refine own_go (U' := T20.setTop (mkF m 280 (lc20 a1 q2 z11 0 1 0 1 0) [(.int 0)])) (fun t k => oicY (pc := 233) X20 hx hby d6_233 275 (by decide) (by decide) (oiconst X20 hx hby d6_275 (oistore X20 hx hby d6_276 (lc20 a1 q2 z11 0 1 0 1 0) rfl (oiload X20 hx hby d6_278 rfl k)))) ?_
  refine own_go (U' := T20.setTop (mkF m 292 (lc20 a1 q2 z11 0 1 0 1 0) [(.int ((-1 : Int32) - (0 : Int32)))])) (fun t k => oifY (pc := 280) X20 hx hby d6_280 288 (by decide) (by decide) (oiconst X20 hx hby d6_288 (oiload X20 hx hby d6_289 rfl (oisub X20 hx hby d6_291 k)))) ?_
  rw [show ((-1 : Int32) - (0 : Int32)) = (-1 : Int32) from by decide]
  obtain ⟨fs, hr, hrun, hended, hW, hsame⟩ := X20.leave (v := some (.int (-1))) (fun h => by rw [Bd.returns] at h; cases h)
  refine own_out ⟨_, _, ?_, hrun, hended, _, _, rfl, ?_, ⟨_, rfl⟩, hW, hsame.mono (by decide) (by decide)⟩
  · exact retI X20 hx Bd.returns (hb hby d6_292) hr
  · show Q6_7 Z a1 q2 a4 a6 h0 n0 _ T20.heap _
    rw [e20]
    exact ⟨rfl, N15, rfl⟩
def Qmg6_8 (Z : State) (a1 : Addr) (q2 : Int64) (a3 : Addr) (a5 : Addr) (h0 : Heap) (n0 : Nat) (v : Option Value) (h : Heap) (L : List Loc) : Prop := v = some (.int (-1)) ∧ Fr n0 L ∧ h = h0
theorem mg6_8 (l : Launch) (Z : State) (a0 : Array Value) (hw : ∀ d ∈ tables_1, d.before a0 Z = true) (ws : List Jvm.Cond) (a1 : Addr) (q2 : Int64) (a3 : Addr) (a5 : Addr) (h0 : Heap) (n0 : Nat) (Z0 : n0 ≤ h0.size) (F4 : Fld Z h0 a1 zs1 "side" zs3 (.ref a3)) (F6 : Sta Z h0 zs5 "BUY" zs3 (.ref a5)) (ha7 : a3 ≠ a5) (F8 : Exa Z h0 a1 zs1) (F9 : Fld Z h0 a1 zs1 "count" "I" (.int 0)) :
    MetFree l zm5 (head1 (Jvm.Cond.code zm5 prog_2_method_8_code 11 (some .int) :: ws) ({ frames := 1, cells := 0, slots := 0, locals := 14 } : Room)) (fun a U => a = #[(.ref a1), (.long q2), .null] ∧ Z.Warmed39 U.vm ∧ U.heap = h0) (fun _ _ _ _ _ => True) (fun _ U o U' => ∃ v L, o = .returned v ∧ Qmg6_8 Z a1 q2 a3 a5 h0 n0 v U'.heap L ∧ FrameEnd U o U' L ({ frames := 1, cells := 0, slots := 0, locals := 14 } : Room).cells ({ frames := 1, cells := 0, slots := 0, locals := 14 } : Room).slots) := by
  by_cases hm1 : (q2 ^^^ (-1 : Int64)) = (-9223372036854775808 : Int64)
  · exact rm6_5 l Z a0 hw ws a1 q2 a3 a5 h0 n0 Z0 F4 F6 ha7 F8 F9 hm1
  · by_cases hm2 : (q2 ^^^ (-1 : Int64)) = (9223372036854775807 : Int64)
    · exact rm6_6 l Z a0 hw ws a1 q2 a3 a5 h0 n0 Z0 F4 F6 ha7 F8 F9 hm1 hm2
    · exact rm6_7 l Z a0 hw ws a1 q2 a3 a5 h0 n0 Z0 F4 F6 ha7 F8 F9 hm1 hm2
def Q9_9 (Z : State) (a1 : Addr) (q2 : Int64) (h0 : Heap) (n0 : Nat) (v : Option Value) (h : Heap) (L : List Loc) : Prop := v = none ∧ Fr n0 L ∧ Keep h0 h [a1] ∧ Fld Z h a1 zs0 "price" zs9 .null ∧ Fld Z h a1 zs0 "priceSteps" "J" (.long q2) ∧ Fld Z h a1 zs0 "first" zs10 .null
set_option maxRecDepth 65536 in
set_option maxHeartbeats 40000000 in
theorem rm9_9 (l : Launch) (Z : State) (a0 : Array Value) (hw : ∀ d ∈ tables_1, d.before a0 Z = true) (ws : List Jvm.Cond) (a1 : Addr) (q2 : Int64) (h0 : Heap) (n0 : Nat) (Z0 : n0 ≤ h0.size) (F4 : Fld Z h0 a1 zs0 "price" zs9 .null) (F5 : Fld Z h0 a1 zs0 "priceSteps" "J" (.long 0)) (F6 : Fld Z h0 a1 zs0 "first" zs10 .null) (F7 : Exa Z h0 a1 zs0) (g9 : n0 ≤ a1) :
    MetFree l zm6 (head1 (Jvm.Cond.code zm6 prog_14_method_1_code 4 none :: ws) ({ frames := 1, cells := 0, slots := 0, locals := 12 } : Room)) (fun a U => a = #[(.ref a1), .null, (.long q2)] ∧ Z.Warmed39 U.vm ∧ U.heap = h0) (fun _ _ _ _ _ => True) (fun _ U o U' => ∃ v L, o = .returned v ∧ Q9_9 Z a1 q2 h0 n0 v U'.heap L ∧ FrameEnd U o U' L ({ frames := 1, cells := 0, slots := 0, locals := 12 } : Room).cells ({ frames := 1, cells := 0, slots := 0, locals := 12 } : Room).slots) := by
  refine MetFree.of_bodySF (plainFor_of_name pn_com_example_srok_srok_engine_PriceLevel) hisR ?_
  intro p e s m args below meth c s₁ Bd hml0 hP hK
  obtain ⟨rfl, hZ, hh⟩ := hP
  have hx := Bd.exec
  have hby := Bd.bytes
  have hml : c.maxLocals = 4 := hml0
  have hown : s.vm.findClass zs0 = some m.cls := findClass_of_methodNamed Bd.named
  have hnm := (name_of_methodNamed Bd.named Bd.method).1
  have X0 : Stand p l e ({ frames := 1, cells := 0, slots := 0, locals := 12 } : Room) s m #[(.ref a1), .null, (.long q2)] below meth c s₁ [] 0 0 := Stand.of_body Bd
  have e0 : s₁.heap = h0 := by rw [← hh, Bd.state]; rfl
  have N0 := Fr.nil n0
  refine own_pre (g' := mkF m 0 (lc23 a1 q2) []) (ef_6 m a1 q2) ?_
  obtain ⟨T3, X3, e3, st3⟩ := initO X0 hx hZ hown (ww hw 64 rfl) (ww hw 10 rfl) (ww hw 11 rfl) e0 (g := (mkF m 1 (lc23 a1 q2) [(.ref a1)])) rfl (by rw [hml]; rfl) rfl (hb hby d9_1) (by decide) (W := 0) (by show 2 * 0 + _ ≤ _; exact Nat.le_of_eq rfl) (by decide)
  obtain ⟨T8, h8, X8, e8, W8, st8⟩ := putF X3 hx hZ hown (host := "") (Or.inl (ww hw 65 rfl)) Via.refl e3 F4 F7 (Or.inr ⟨(ww hw 66 rfl), rfl, hnm⟩) (ww hw 59 rfl) (ty := (.object zs12)) (by decide) rfl rfl (g := (mkF m 6 (lc23 a1 q2) [.null, (.ref a1)])) rfl rfl (hb hby d9_6)
  have N10 := Fr.snoc X8 N0 g9
  have f11 : Fld Z h8 a1 zs0 "price" zs9 .null := Fld.same W8 F4
  have f12 : Fld Z h8 a1 zs0 "priceSteps" "J" (.long 0) := (Fld.other W8 F5 (Or.inr (slot_ne (Or.inr (ww hw 68 rfl)) (Or.inr (ww hw 66 rfl)) (by decide) (t := .long) (t' := (.object zs12)) (by decide) (by decide))))
  have f13 : Exa Z h8 a1 zs0 := (Exa.wr W8 F7)
  obtain ⟨T14, h14, X14, e14, W14, st14⟩ := putF X8 hx hZ hown (host := "") (Or.inl (ww hw 67 rfl)) Via.refl e8 f12 f13 (Or.inr ⟨(ww hw 68 rfl), rfl, hnm⟩) (ww hw 59 rfl) (ty := .long) (by decide) rfl rfl (g := (mkF m 11 (lc23 a1 q2) [(.long q2), (.ref a1)])) rfl rfl (hb hby d9_11)
  have N15 := Fr.snoc X14 N10 g9
  have f16 : Fld Z h14 a1 zs0 "priceSteps" "J" (.long q2) := Fld.same W14 f12
  refine own_go (U' := T14.setTop (mkF m 14 (lc23 a1 q2) [])) (fun t k => oaloadN X0 hx hby d9_0 rfl rfl (st3 _ (oaloadN X3 hx hby d9_4 rfl rfl (oaloadN X3 hx hby d9_5 rfl rfl (st8 _ (oaloadN X8 hx hby d9_9 rfl rfl (olloadN X8 hx hby d9_10 rfl (st14 _ k)))))))) ?_
  have f17 : Fld Z h14 a1 zs0 "price" zs9 .null := (Fld.other W14 f11 (Or.inr (slot_ne (Or.inr (ww hw 66 rfl)) (Or.inr (ww hw 68 rfl)) (by decide) (t := (.object zs12)) (t' := .long) (by decide) (by decide))))
  have f18 : Fld Z h14 a1 zs0 "first" zs10 .null := (Fld.other W14 (Fld.other W8 F6 (Or.inr (slot_ne (Or.inl (ww hw 83 rfl)) (Or.inr (ww hw 66 rfl)) (by decide) (t := (.object zs13)) (t' := (.object zs12)) (by decide) (by decide)))) (Or.inr (slot_ne (Or.inl (ww hw 83 rfl)) (Or.inr (ww hw 68 rfl)) (by decide) (t := (.object zs13)) (t' := .long) (by decide) (by decide))))
  obtain ⟨fs, hr, hrun, hended, hW, hsame⟩ := X14.leave (v := none) (fun _ => rfl)
  refine own_out ⟨_, _, ?_, hrun, hended, _, _, rfl, ?_, ⟨_, rfl⟩, hW, hsame.mono (by decide) (by decide)⟩
  · exact X14.returnOut hx Bd.returns (hb hby d9_14) hr
  · show Q9_9 Z a1 q2 h0 n0 _ T14.heap _
    rw [e14]
    exact ⟨rfl, N15, (((Keep.refl h0 [a1]).wr W8 (Or.inl (List.mem_of_getElem? (i := 0) rfl))).wr W14 (Or.inl (List.mem_of_getElem? (i := 0) rfl))), f17, f16, f18⟩
def Q5_10 (Z : State) (a1 : Addr) (q2 : Int64) (a4 : Addr) (a6 : Addr) (a13 : Addr) (kc16 : ClassId) (a27 : Addr) (kc36 : ClassId) (h0 : Heap) (n0 : Nat) (v : Option Value) (h : Heap) (L : List Loc) : Prop := ∃ b43 : Addr, v = some (.ref b43) ∧ Fr n0 L ∧ Keep h0 h [a13, a27, a1] ∧ h0.size ≤ b43 ∧ Arv Z h a13 kc16 (.object zs0) (16 : Int32) [(.ref b43)] .null ∧ Arv Z h a27 kc36 .long (16 : Int32) [(.long (q2 ^^^ (-1 : Int64)))] (.long (0 : Int64)) ∧ Fld Z h a1 zs1 "side" zs3 (.ref a4) ∧ Fld Z h a1 zs1 "count" "I" (.int 1) ∧ Fld Z h a1 zs1 "levels" zs2 (.ref a13) ∧ Fld Z h a1 zs1 "ranks" "[J" (.ref a27) ∧ Fld Z h a1 zs1 "emptyLevels" "I" (.int 0) ∧ Exa Z h b43 zs0 ∧ Fld Z h b43 zs0 "price" zs9 .null ∧ Fld Z h b43 zs0 "priceSteps" "J" (.long q2) ∧ Fld Z h b43 zs0 "first" zs10 .null
set_option maxRecDepth 65536 in
set_option maxHeartbeats 40000000 in
theorem rm5_10 (l : Launch) (Z : State) (a0 : Array Value) (hw : ∀ d ∈ tables_1, d.before a0 Z = true) (ws : List Jvm.Cond) (a1 : Addr) (q2 : Int64) (a4 : Addr) (a6 : Addr) (a13 : Addr) (kc16 : ClassId) (a27 : Addr) (kc36 : ClassId) (h0 : Heap) (n0 : Nat) (Z0 : n0 ≤ h0.size) (F5 : Fld Z h0 a1 zs1 "side" zs3 (.ref a4)) (F7 : Sta Z h0 zs5 "BUY" zs3 (.ref a6)) (ha8 : a4 ≠ a6) (F9 : Exa Z h0 a1 zs1) (F10 : Fld Z h0 a1 zs1 "count" "I" (.int 0)) (F14 : Fld Z h0 a1 zs1 "levels" zs2 (.ref a13)) (F17 : Arv Z h0 a13 kc16 (.object zs0) (16 : Int32) [] .null) (g24 : n0 ≤ a13) (O25 : Ovr Z kc16 zs0) (F28 : Fld Z h0 a1 zs1 "ranks" "[J" (.ref a27)) (ne29 : a1 ≠ a13) (F37 : Arv Z h0 a27 kc36 .long (16 : Int32) [] (.long (0 : Int64))) (ne38 : a27 ≠ a13) (g41 : n0 ≤ a27) (ne53 : a1 ≠ a27) (F79 : Fld Z h0 a1 zs1 "emptyLevels" "I" (.int 0)) (g82 : n0 ≤ a1) :
    MetFree l zm7 (head1 (Jvm.Cond.code zm7 prog_2_method_5_code 7 (some (.object zs0)) :: ws) ({ frames := 2, cells := 1, slots := 4, locals := 36 } : Room)) (fun a U => a = #[(.ref a1), (.long q2), .null] ∧ Z.Warmed39 U.vm ∧ U.heap = h0) (fun _ _ _ _ _ => True) (fun _ U o U' => ∃ v L, o = .returned v ∧ Q5_10 Z a1 q2 a4 a6 a13 kc16 a27 kc36 h0 n0 v U'.heap L ∧ FrameEnd U o U' L ({ frames := 2, cells := 1, slots := 4, locals := 36 } : Room).cells ({ frames := 2, cells := 1, slots := 4, locals := 36 } : Room).slots) := by
  refine MetFree.of_bodySF (plainFor_of_name pn_com_example_srok_srok_engine_BookSide) hisR ?_
  intro p e s m args below meth c s₁ Bd hml0 hP hK
  obtain ⟨rfl, hZ, hh⟩ := hP
  have hx := Bd.exec
  have hby := Bd.bytes
  have hml : c.maxLocals = 7 := hml0
  have hown : s.vm.findClass zs1 = some m.cls := findClass_of_methodNamed Bd.named
  have hnm := (name_of_methodNamed Bd.named Bd.method).1
  have X0 : Stand p l e ({ frames := 2, cells := 1, slots := 4, locals := 36 } : Room) s m #[(.ref a1), (.long q2), .null] below meth c s₁ [] 0 0 := Stand.of_body Bd
  have e0 : s₁.heap = h0 := by rw [← hh, Bd.state]; rfl
  have N0 := Fr.nil n0
  refine own_pre (g' := mkF m 0 (lc11 a1 q2) []) (ef_7 m a1 q2) ?_
  obtain ⟨_, T3, L3, X3, hQ3, st3⟩ := ocallP X0 hx hZ zm5 hown (ww hw 38 rfl) (ww hw 39 rfl) (own_selP (mvT hZ (ww hw 4 rfl)) (mvP hZ (ww hw 40 rfl)) (mvT hZ (ww hw 39 rfl)) (by decide)) (ww hw 40 rfl) (by decide) (ww hw 41 rfl) (ww hw 5 rfl) e0 F9 (mg6_8 l Z a0 hw [] a1 q2 a4 a6 h0 n0 Z0 F5 F7 ha8 F9 F10) (st := [.null, (.long q2), (.ref a1)]) rfl 0 rfl (by decide) (pc := 3) (Ls := (lc11 a1 q2)) hml rfl (lenOf pd_5 rfl) d5_3 hby
  obtain ⟨rfl, N3q, e3⟩ := hQ3
  have N11 := Fr.app N0 N3q
  refine own_go (U' := T3.setTop (mkF m 10 (lc21 a1 q2 (-1)) [(.int (-1))])) (fun t k => oaloadN X0 hx hby d5_0 rfl rfl (olloadN X0 hx hby d5_1 rfl (oaloadN X0 hx hby d5_2 rfl rfl (st3 _ (oistore X3 hx hby d5_6 (lc21 a1 q2 (-1)) rfl (oiload X3 hx hby d5_8 rfl k)))))) ?_
  refine own_go (U' := T3.setTop (mkF m 47 (lc21 a1 q2 (-1)) [(.int (-(-1 : Int32)))])) (fun t k => oifY (pc := 10) X3 hx hby d5_10 44 (by decide) (by decide) (oiload X3 hx hby d5_44 rfl (oineg X3 hx hby d5_46 k))) ?_
  rw [show (-(-1 : Int32)) = (1 : Int32) from by decide]
  obtain ⟨T12, X12, e12, st12⟩ := getF X3 hx hZ hown (host := "") (Or.inl (ww hw 26 rfl)) Via.refl e3 F10 (g := (mkF m 52 (lc22 a1 q2 (-1) 0) [(.ref a1)])) rfl rfl (hb hby d5_52)
  obtain ⟨T15, X15, e15, st15⟩ := getF X12 hx hZ hown (host := "") (Or.inl (ww hw 14 rfl)) Via.refl e12 F14 (g := (mkF m 56 (lc22 a1 q2 (-1) 0) [(.ref a1), (.int 0)])) rfl rfl (hb hby d5_56)
  refine own_go (U' := T15.setTop (mkF m 59 (lc22 a1 q2 (-1) 0) [(.ref a13), (.int 0)])) (fun t k => oiconst X3 hx hby d5_47 (oisub X3 hx hby d5_48 (oistore X3 hx hby d5_49 (lc22 a1 q2 (-1) 0) rfl (oaloadN X3 hx hby d5_51 rfl rfl (st12 _ (oaloadN X12 hx hby d5_55 rfl rfl (st15 _ k))))))) ?_
  obtain ⟨cl18, Ar18, q18, S18, N18, H18, G18⟩ := id F17
  refine own_go (fun t k => X15.arraylength hx (by rw [e15]; exact Ar18.1) (State.isArrayOf_alike hZ.alike Ar18.2.1) (g := (mkF m 59 (lc22 a1 q2 (-1) 0) [(.ref a13), (.int 0)])) rfl rfl (hb hby d5_59) _ k) ?_
  rw [len_of S18 N18]
  obtain ⟨T19, X19, e19, st19⟩ := getF X15 hx hZ hown (host := "") (Or.inl (ww hw 14 rfl)) Via.refl e15 F14 (g := (mkF m 101 (lc22 a1 q2 (-1) 0) [(.ref a1)])) rfl rfl (hb hby d5_101)
  obtain ⟨T20, X20, e20, st20⟩ := getF X19 hx hZ hown (host := "") (Or.inl (ww hw 14 rfl)) Via.refl e19 F14 (g := (mkF m 107 (lc22 a1 q2 (-1) 0) [(.ref a1), (.int 0), (.ref a13)])) rfl rfl (hb hby d5_107)
  obtain ⟨T21, X21, e21, st21⟩ := getF X20 hx hZ hown (host := "") (Or.inl (ww hw 26 rfl)) Via.refl e20 F10 (g := (mkF m 115 (lc22 a1 q2 (-1) 0) [(.ref a1), (.int 1), (.ref a13), (.int 0), (.ref a13)])) rfl rfl (hb hby d5_115)
  have f23 : Arv Z h0 a13 kc16 (.object zs0) (16 : Int32) [.null] .null := F17.pad (pad_rep [] .null 1)
  obtain ⟨cl22, Ar22, q22, -⟩ := id f23
  obtain ⟨T22, h22, L22, X22, e22, N22, K22, V22, st22⟩ := cpA X21 hx hZ hown (ww hw 55 rfl) (ww hw 58 rfl) (ww hw 56 rfl) (ww hw 57 rfl) e21 (us := []) f23 f23 (Or.inr ⟨rfl, rfl, trivial⟩) (by decide) (by decide) (by decide) (by decide) (by decide) rfl (Nat.le_of_ble_eq_true rfl) N11 g24 (g := (mkF m 121 (lc22 a1 q2 (-1) 0) [(.int 0), (.int 1), (.ref a13), (.int 0), (.ref a13)])) rfl (by rw [hml]; rfl) rfl (hb hby d5_121) (by decide) (W := 0) (by show 2 * 0 + _ ≤ _; exact Nat.le_of_eq rfl) (by decide)
  have f26 : Arv Z h22 a13 kc16 (.object zs0) (16 : Int32) [.null] .null := V22
  have f30 : Fld Z h22 a1 zs1 "ranks" "[J" (.ref a27) := (F28.keep K22 (ninS ne29 nin0))
  obtain ⟨T31, X31, e31, st31⟩ := getF X22 hx hZ hown (host := "") (Or.inl (ww hw 17 rfl)) Via.refl e22 f30 (g := (mkF m 125 (lc22 a1 q2 (-1) 0) [(.ref a1)])) rfl rfl (hb hby d5_125)
  obtain ⟨T32, X32, e32, st32⟩ := getF X31 hx hZ hown (host := "") (Or.inl (ww hw 17 rfl)) Via.refl e31 f30 (g := (mkF m 131 (lc22 a1 q2 (-1) 0) [(.ref a1), (.int 0), (.ref a27)])) rfl rfl (hb hby d5_131)
  have f33 : Fld Z h22 a1 zs1 "count" "I" (.int 0) := (F10.keep K22 (ninS ne29 nin0))
  obtain ⟨T34, X34, e34, st34⟩ := getF X32 hx hZ hown (host := "") (Or.inl (ww hw 26 rfl)) Via.refl e32 f33 (g := (mkF m 139 (lc22 a1 q2 (-1) 0) [(.ref a1), (.int 1), (.ref a27), (.int 0), (.ref a27)])) rfl rfl (hb hby d5_139)
  have f39 : Arv Z h22 a27 kc36 .long (16 : Int32) [] (.long (0 : Int64)) := (F37.keep K22 (ninS ne38 nin0))
  have f40 : Arv Z h22 a27 kc36 .long (16 : Int32) [(.long 0)] (.long (0 : Int64)) := f39.pad (pad_rep [] (.long (0 : Int64)) 1)
  obtain ⟨T35, h35, L35, X35, e35, N35, K35, V35, st35⟩ := cpA X34 hx hZ hown (ww hw 55 rfl) (ww hw 58 rfl) (ww hw 56 rfl) (ww hw 57 rfl) e34 (us := []) f40 f40 (Or.inl ⟨rfl, rfl⟩) (by decide) (by decide) (by decide) (by decide) (by decide) rfl (Nat.le_of_ble_eq_true rfl) N22 g41 (g := (mkF m 145 (lc22 a1 q2 (-1) 0) [(.int 0), (.int 1), (.ref a27), (.int 0), (.ref a27)])) rfl (by rw [hml]; rfl) rfl (hb hby d5_145) (by decide) (W := 0) (by show 2 * 0 + _ ≤ _; exact Nat.le_of_eq rfl) (by decide)
  have f42 : Arv Z h35 a27 kc36 .long (16 : Int32) [(.long 0)] (.long (0 : Int64)) := V35
  obtain ⟨T43, h43, X43, e43, E43, A43, D43, -, st43⟩ := newO X35 hx hZ hown (ww hw 12 rfl) (ww hw 59 rfl) (ww hw 60 rfl) e35 (g := (mkF m 148 (lc22 a1 q2 (-1) 0) [])) rfl (hb hby d5_148) (by decide) (by decide)
  obtain ⟨b43, g43⟩ : ∃ z, z = h35.size := ⟨_, rfl⟩
  rw [← g43] at A43 D43 st43
  have f44 : Fld Z h43 b43 zs0 "price" zs9 .null := D43 (Or.inr (ww hw 66 rfl)) (ty := (.object zs12)) (by decide)
  have f45 : Fld Z h43 b43 zs0 "priceSteps" "J" (.long 0) := D43 (Or.inr (ww hw 68 rfl)) (ty := .long) (by decide)
  have f46 : Fld Z h43 b43 zs0 "first" zs10 .null := D43 (Or.inl (ww hw 83 rfl)) (ty := (.object zs13)) (by decide)
  have Z_1 : n0 ≤ h22.size := Nat.le_trans Z0 K22.1
  have Z_2 : n0 ≤ h35.size := Nat.le_trans Z_1 K35.1
  have g48 : n0 ≤ b43 := Nat.le_trans Z_2 (Nat.le_of_eq g43.symm)
  have Z_3 : n0 ≤ h43.size := Nat.le_trans Z_2 E43.1
  obtain ⟨_, T47, L47, X47, hQ47, st47⟩ := ocallI X43 hx hZ zm6 rfl hown (ww hw 61 rfl) (ww hw 62 rfl) (by decide) (ww hw 63 rfl) (ww hw 60 rfl) e43 (rm9_9 l Z a0 hw [] b43 q2 h43 n0 Z_3 f44 f45 f46 A43 g48) (st := [(.long q2), .null, (.ref b43), (.ref b43)]) rfl 1 rfl (by decide) (pc := 154) (Ls := (lc22 a1 q2 (-1) 0)) hml rfl (lenOf pd_6 rfl) d5_154 hby
  obtain ⟨rfl, N47q, K47, f49, f50, f51⟩ := hQ47
  have N52 := Fr.app N35 N47q
  have ne54 : a1 ≠ b43 := Nat.ne_of_lt (Nat.lt_of_lt_of_le (Nat.lt_of_lt_of_le (Nat.lt_of_lt_of_le (F5.lt) K22.1) K35.1) (Nat.le_of_eq g43.symm))
  have f55 : Fld Z T47.heap a1 zs1 "levels" zs2 (.ref a13) := ((Fld.ext E43 ((F14.keep K22 (ninS ne29 nin0)).keep K35 (ninS ne53 nin0))).keep K47 (ninS ne54 nin0))
  obtain ⟨T56, X56, e56, st56⟩ := getF X47 hx hZ hown (host := "") (Or.inl (ww hw 14 rfl)) Via.refl rfl f55 (g := (mkF m 160 (lc24 a1 q2 (-1) 0 b43) [(.ref a1)])) rfl rfl (hb hby d5_160)
  have ne57 : a13 ≠ b43 := Nat.ne_of_lt (Nat.lt_of_lt_of_le (Nat.lt_of_lt_of_le (f26.lt) K35.1) (Nat.le_of_eq g43.symm))
  have f58 : Arv Z T47.heap a13 kc16 (.object zs0) (16 : Int32) [.null] .null := (((f26.keep K35 (ninS (Ne.symm ne38) nin0)).ext E43).keep K47 (ninS ne57 nin0))
  have f59 : Exa Z T47.heap b43 zs0 := (A43.keep K47)
  obtain ⟨cl60, Ar60, q60, S60, N60, H60, G60⟩ := id f58
  have hin61 : ¬ ((0 : Int32) < 0 ∨ cl60.slots.size ≤ ((0 : Int32)).toNatClampNeg) := inb_of S60 ⟨by decide, by decide⟩
  obtain ⟨T61, h61, X61, e61, W61, st61⟩ := stR X56 hx hZ e56 Ar60 (j := (0 : Int32)) hin61 rfl (Sto.ofV Ar60 q60 O25 (Ins.self f59)) (g := (mkF m 167 (lc24 a1 q2 (-1) 0 b43) [(.ref b43), (.int 0), (.ref a13)])) rfl rfl (hb hby d5_167)
  have N62 := Fr.snoc X61 N52 g24
  have f63 : Arv Z h61 a13 kc16 (.object zs0) (16 : Int32) [(.ref b43)] .null := Arv.set Ar60 q60 S60 N60 H60 G60 (by rfl) W61 0 rfl (Nat.le_of_ble_eq_true rfl)
  have f64 : Fld Z h61 a1 zs1 "ranks" "[J" (.ref a27) := (Fld.other W61 ((Fld.ext E43 (f30.keep K35 (ninS ne53 nin0))).keep K47 (ninS ne54 nin0)) (Or.inl ne29))
  obtain ⟨T65, X65, e65, st65⟩ := getF X61 hx hZ hown (host := "") (Or.inl (ww hw 17 rfl)) Via.refl e61 f64 (g := (mkF m 169 (lc24 a1 q2 (-1) 0 b43) [(.ref a1)])) rfl rfl (hb hby d5_169)
  have f67 : Fld Z h61 a1 zs1 "side" zs3 (.ref a4) := (Fld.other W61 ((Fld.ext E43 ((F5.keep K22 (ninS ne29 nin0)).keep K35 (ninS ne53 nin0))).keep K47 (ninS ne54 nin0)) (Or.inl ne29))
  have f68 : Sta Z h61 zs5 "BUY" zs3 (.ref a6) := (Sta.wr W61 (own_staK (Sta.ext E43 (own_staK (own_staK F7 K22 (allS (own_nsV f23) all0)) K35 (allS (own_nsV f40) all0))) K47 (allS (own_nsF f44) all0)))
  have Z_4 : n0 ≤ T47.heap.size := Nat.le_trans Z_3 K47.1
  have Z_5 : n0 ≤ h61.size := Nat.le_trans Z_4 (Keep.of_wr W61).1
  have f69 : Exa Z h61 a1 zs1 := (Exa.wr W61 ((Exa.ext E43 ((F9.keep K22).keep K35)).keep K47))
  obtain ⟨_, T66, L66, X66, hQ66, st66⟩ := ocallP X65 hx hZ zm3 hown (ww hw 42 rfl) (ww hw 43 rfl) (own_selP (mvT hZ (ww hw 4 rfl)) (mvP hZ (ww hw 44 rfl)) (mvT hZ (ww hw 43 rfl)) (by decide)) (ww hw 44 rfl) (by decide) (ww hw 45 rfl) (ww hw 5 rfl) e65 f69 (rm7_3 l Z a0 hw [] a1 q2 a4 a6 h61 n0 Z_5 f67 f68 ha8) (st := [(.long q2), (.ref a1), (.int 0), (.ref a27)]) rfl 2 rfl (by decide) (pc := 176) (Ls := (lc24 a1 q2 (-1) 0 b43)) hml rfl (lenOf pd_3 rfl) d5_176 hby
  obtain ⟨rfl, N66q, e66⟩ := hQ66
  have N70 := Fr.app N62 N66q
  have ne71 : a27 ≠ b43 := Nat.ne_of_lt (Nat.lt_of_lt_of_le (f42.lt) (Nat.le_of_eq g43.symm))
  have f72 : Arv Z h61 a27 kc36 .long (16 : Int32) [(.long 0)] (.long (0 : Int64)) := (((f42.ext E43).keep K47 (ninS ne71 nin0)).other W61 ne38)
  obtain ⟨cl73, Ar73, q73, S73, N73, H73, G73⟩ := id f72
  have hin74 : ¬ ((0 : Int32) < 0 ∨ cl73.slots.size ≤ ((0 : Int32)).toNatClampNeg) := inb_of S73 ⟨by decide, by decide⟩
  obtain ⟨T74, h74, X74, e74, W74, st74⟩ := stJ X66 hx hZ e66 Ar73 (j := (0 : Int32)) hin74 (g := (mkF m 179 (lc24 a1 q2 (-1) 0 b43) [(.long (q2 ^^^ (-1 : Int64))), (.int 0), (.ref a27)])) rfl rfl (hb hby d5_179)
  have N75 := Fr.snoc X74 N70 g41
  have f76 : Arv Z h74 a27 kc36 .long (16 : Int32) [(.long (q2 ^^^ (-1 : Int64)))] (.long (0 : Int64)) := Arv.set Ar73 q73 S73 N73 H73 G73 (by rfl) W74 0 rfl (Nat.le_of_ble_eq_true rfl)
  have f77 : Fld Z h74 a1 zs1 "count" "I" (.int 0) := (Fld.other W74 (Fld.other W61 ((Fld.ext E43 (f33.keep K35 (ninS ne53 nin0))).keep K47 (ninS ne54 nin0)) (Or.inl ne29)) (Or.inl ne53))
  obtain ⟨T78, X78, e78, st78⟩ := getF X74 hx hZ hown (host := "") (Or.inl (ww hw 26 rfl)) Via.refl e74 f77 (g := (mkF m 182 (lc24 a1 q2 (-1) 0 b43) [(.ref a1), (.ref a1)])) rfl rfl (hb hby d5_182)
  have f80 : Exa Z h74 a1 zs1 := (Exa.wr W74 f69)
  obtain ⟨T81, h81, X81, e81, W81, st81⟩ := putF X78 hx hZ hown (host := "") (Or.inl (ww hw 26 rfl)) Via.refl e78 f77 f80 (Or.inl (ww hw 27 rfl)) (ww hw 4 rfl) (ty := .int) (by decide) rfl rfl (g := (mkF m 187 (lc24 a1 q2 (-1) 0 b43) [(.int 1), (.ref a1)])) rfl rfl (hb hby d5_187)
  have N83 := Fr.snoc X81 N75 g82
  have f84 : Fld Z h81 a1 zs1 "count" "I" (.int 1) := Fld.same W81 f77
  refine own_go (U' := T81.setTop (mkF m 192 (lc24 a1 q2 (-1) 0 b43) [(.ref b43)])) (fun t k => oicY (pc := 60) X15 hx hby d5_60 100 (by decide) (by decide) (oaloadN X15 hx hby d5_100 rfl rfl (st19 _ (oiload X19 hx hby d5_104 rfl (oaloadN X19 hx hby d5_106 rfl rfl (st20 _ (oiload X20 hx hby d5_110 rfl (oiconst X20 hx hby d5_112 (oiadd X20 hx hby d5_113 (oaloadN X20 hx hby d5_114 rfl rfl (st21 _ (oiload X21 hx hby d5_118 rfl (oisub X21 hx hby d5_120 (st22 _ (oaloadN X22 hx hby d5_124 rfl rfl (st31 _ (oiload X31 hx hby d5_128 rfl (oaloadN X31 hx hby d5_130 rfl rfl (st32 _ (oiload X32 hx hby d5_134 rfl (oiconst X32 hx hby d5_136 (oiadd X32 hx hby d5_137 (oaloadN X32 hx hby d5_138 rfl rfl (st34 _ (oiload X34 hx hby d5_142 rfl (oisub X34 hx hby d5_144 (st35 _ (st43 _ (odup X43 hx hby d5_151 rfl (oaloadN X43 hx hby d5_152 rfl rfl (olloadN X43 hx hby d5_153 rfl (st47 _ (oastore X47 hx hby d5_157 (lc24 a1 q2 (-1) 0 b43) rfl rfl (oaloadN X47 hx hby d5_159 rfl rfl (st56 _ (oiload X56 hx hby d5_163 rfl (oaload X56 hx hby d5_165 rfl rfl (st61 _ (oaloadN X61 hx hby d5_168 rfl rfl (st65 _ (oiload X65 hx hby d5_172 rfl (oaloadN X65 hx hby d5_174 rfl rfl (olloadN X65 hx hby d5_175 rfl (st66 _ (st74 _ (oaloadN X74 hx hby d5_180 rfl rfl (odup X74 hx hby d5_181 rfl (st78 _ (oiconst X78 hx hby d5_185 (oiadd X78 hx hby d5_186 (st81 _ (oaload X81 hx hby d5_190 rfl rfl k)))))))))))))))))))))))))))))))))))))))))))))))))))) ?_
  have f85 : Arv Z h81 a13 kc16 (.object zs0) (16 : Int32) [(.ref b43)] .null := ((f63.other W74 (Ne.symm ne38)).other W81 (Ne.symm ne29))
  have f86 : Arv Z h81 a27 kc36 .long (16 : Int32) [(.long (q2 ^^^ (-1 : Int64)))] (.long (0 : Int64)) := (f76.other W81 (Ne.symm ne53))
  have f87 : Fld Z h81 a1 zs1 "side" zs3 (.ref a4) := (Fld.other W81 (Fld.other W74 f67 (Or.inl ne53)) (Or.inr (slot_ne (Or.inr (ww hw 20 rfl)) (Or.inl (ww hw 27 rfl)) (by decide) (t := (.object zs5)) (t' := .int) (by decide) (by decide))))
  have f88 : Fld Z h81 a1 zs1 "levels" zs2 (.ref a13) := (Fld.other W81 (Fld.other W74 (Fld.other W61 f55 (Or.inl ne29)) (Or.inl ne53)) (Or.inr (slot_ne (Or.inl (ww hw 15 rfl)) (Or.inl (ww hw 27 rfl)) (by decide) (t := (.array (.object zs0))) (t' := .int) (by decide) (by decide))))
  have f89 : Fld Z h81 a1 zs1 "ranks" "[J" (.ref a27) := (Fld.other W81 (Fld.other W74 f64 (Or.inl ne53)) (Or.inr (slot_ne (Or.inl (ww hw 18 rfl)) (Or.inl (ww hw 27 rfl)) (by decide) (t := (.array .long)) (t' := .int) (by decide) (by decide))))
  have f90 : Fld Z h81 a1 zs1 "emptyLevels" "I" (.int 0) := (Fld.other W81 (Fld.other W74 (Fld.other W61 ((Fld.ext E43 ((F79.keep K22 (ninS ne29 nin0)).keep K35 (ninS ne53 nin0))).keep K47 (ninS ne54 nin0)) (Or.inl ne29)) (Or.inl ne53)) (Or.inr (slot_ne (Or.inl (ww hw 76 rfl)) (Or.inl (ww hw 27 rfl)) (by decide) (t := .int) (t' := .int) (by decide) (by decide))))
  have f91 : Exa Z h81 b43 zs0 := (Exa.wr W81 (Exa.wr W74 (Exa.wr W61 f59)))
  have f92 : Fld Z h81 b43 zs0 "price" zs9 .null := (Fld.other W81 (Fld.other W74 (Fld.other W61 f49 (Or.inl (Ne.symm ne57))) (Or.inl (Ne.symm ne71))) (Or.inl (Ne.symm ne54)))
  have f93 : Fld Z h81 b43 zs0 "priceSteps" "J" (.long q2) := (Fld.other W81 (Fld.other W74 (Fld.other W61 f50 (Or.inl (Ne.symm ne57))) (Or.inl (Ne.symm ne71))) (Or.inl (Ne.symm ne54)))
  have f94 : Fld Z h81 b43 zs0 "first" zs10 .null := (Fld.other W81 (Fld.other W74 (Fld.other W61 f51 (Or.inl (Ne.symm ne57))) (Or.inl (Ne.symm ne71))) (Or.inl (Ne.symm ne54)))
  obtain ⟨fs, hr, hrun, hended, hW, hsame⟩ := X81.leave (v := some (.ref b43)) (fun h => by rw [Bd.returns] at h; cases h)
  refine own_out ⟨_, _, ?_, hrun, hended, _, _, rfl, ?_, ⟨_, rfl⟩, hW, hsame.mono (by decide) (by decide)⟩
  · exact retOut X81 hx Bd.returns rfl (Or.inr (Or.inr (Or.inr (Or.inr ⟨rfl, rfl, rfl⟩)))) (hb hby d5_192) hr
  · show Q5_10 Z a1 q2 a4 a6 a13 kc16 a27 kc36 h0 n0 _ T81.heap _
    rw [e81]
    exact ⟨b43, rfl, N83, ((((Keep.trans ((Keep.trans (Keep.trans (Keep.refl h0 [a13, a27, a1]) K22 (allS (Or.inl (List.mem_of_getElem? (i := 0) rfl)) all0)) K35 (allS (Or.inl (List.mem_of_getElem? (i := 1) rfl)) all0)).ext E43) K47 (allS (Or.inr (Nat.le_trans K22.1 (Nat.le_trans K35.1 (Nat.le_of_eq g43.symm)))) all0)).wr W61 (Or.inl (List.mem_of_getElem? (i := 0) rfl))).wr W74 (Or.inl (List.mem_of_getElem? (i := 1) rfl))).wr W81 (Or.inl (List.mem_of_getElem? (i := 2) rfl))), (Nat.le_trans K22.1 (Nat.le_trans K35.1 (Nat.le_of_eq g43.symm))), f85, f86, f87, f84, f88, f89, f90, f91, f92, f93, f94⟩
def Q3_11 (Z : State) (a1 : Addr) (h0 : Heap) (n0 : Nat) (v : Option Value) (h : Heap) (L : List Loc) : Prop := v = some (.int 0) ∧ Fr n0 L ∧ h = h0
set_option maxRecDepth 65536 in
set_option maxHeartbeats 40000000 in
theorem rm3_11 (l : Launch) (Z : State) (a0 : Array Value) (hw : ∀ d ∈ tables_1, d.before a0 Z = true) (ws : List Jvm.Cond) (a1 : Addr) (h0 : Heap) (n0 : Nat) (Z0 : n0 ≤ h0.size) (F2 : Fld Z h0 a1 zs1 "count" "I" (.int 1)) :
    MetFree l zm1 (head1 (Jvm.Cond.code zm1 prog_2_method_2_code 1 (some .boolean) :: ws) ({ frames := 0, cells := 0, slots := 0, locals := 0 } : Room)) (fun a U => a = #[(.ref a1)] ∧ Z.Warmed39 U.vm ∧ U.heap = h0) (fun _ _ _ _ _ => True) (fun _ U o U' => ∃ v L, o = .returned v ∧ Q3_11 Z a1 h0 n0 v U'.heap L ∧ FrameEnd U o U' L ({ frames := 0, cells := 0, slots := 0, locals := 0 } : Room).cells ({ frames := 0, cells := 0, slots := 0, locals := 0 } : Room).slots) := by
  refine MetFree.of_bodySF (plainFor_of_name pn_com_example_srok_srok_engine_BookSide) hisR ?_
  intro p e s m args below meth c s₁ Bd hml0 hP hK
  obtain ⟨rfl, hZ, hh⟩ := hP
  have hx := Bd.exec
  have hby := Bd.bytes
  have hml : c.maxLocals = 1 := hml0
  have hown : s.vm.findClass zs1 = some m.cls := findClass_of_methodNamed Bd.named
  have hnm := (name_of_methodNamed Bd.named Bd.method).1
  have X0 : Stand p l e ({ frames := 0, cells := 0, slots := 0, locals := 0 } : Room) s m #[(.ref a1)] below meth c s₁ [] 0 0 := Stand.of_body Bd
  have e0 : s₁.heap = h0 := by rw [← hh, Bd.state]; rfl
  have N0 := Fr.nil n0
  refine own_pre (g' := mkF m 0 (lc6 a1) []) (ef_1 m a1) ?_
  obtain ⟨T3, X3, e3, st3⟩ := getF X0 hx hZ hown (host := "") (Or.inl (ww hw 26 rfl)) Via.refl e0 F2 (g := (mkF m 1 (lc6 a1) [(.ref a1)])) rfl rfl (hb hby d3_1)
  refine own_go (U' := T3.setTop (mkF m 4 (lc6 a1) [(.int 1)])) (fun t k => oaloadN X0 hx hby d3_0 rfl rfl (st3 _ k)) ?_
  refine own_go (U' := T3.setTop (mkF m 12 (lc6 a1) [(.int 0)])) (fun t k => oifY (pc := 4) X3 hx hby d3_4 11 (by decide) (by decide) (oiconst X3 hx hby d3_11 k)) ?_
  obtain ⟨fs, hr, hrun, hended, hW, hsame⟩ := X3.leave (v := some (.int 0)) (fun h => by rw [Bd.returns] at h; cases h)
  refine own_out ⟨_, _, ?_, hrun, hended, _, _, rfl, ?_, ⟨_, rfl⟩, hW, hsame.mono (by decide) (by decide)⟩
  · exact retN X3 hx (t := .boolean) Bd.returns (by simp) (hb hby d3_12) hr
  · show Q3_11 Z a1 h0 n0 _ T3.heap _
    rw [e3]
    exact ⟨rfl, N0, rfl⟩
def Q4_12 (Z : State) (a1 : Addr) (a4 : Addr) (a8 : Addr) (kc9 : ClassId) (h0 : Heap) (n0 : Nat) (v : Option Value) (h : Heap) (L : List Loc) : Prop := v = some (.ref a8) ∧ Fr n0 L ∧ h = h0
set_option maxRecDepth 65536 in
set_option maxHeartbeats 40000000 in
theorem rm4_12 (l : Launch) (Z : State) (a0 : Array Value) (hw : ∀ d ∈ tables_1, d.before a0 Z = true) (ws : List Jvm.Cond) (a1 : Addr) (a4 : Addr) (a8 : Addr) (kc9 : ClassId) (h0 : Heap) (n0 : Nat) (Z0 : n0 ≤ h0.size) (F2 : Fld Z h0 a1 zs1 "count" "I" (.int 1)) (F5 : Fld Z h0 a1 zs1 "levels" zs2 (.ref a4)) (F10 : Arv Z h0 a4 kc9 (.object zs0) (16 : Int32) [(.ref a8)] .null) :
    MetFree l zm2 (head1 (Jvm.Cond.code zm2 prog_2_method_3_code 1 (some (.object zs0)) :: ws) ({ frames := 0, cells := 0, slots := 0, locals := 0 } : Room)) (fun a U => a = #[(.ref a1)] ∧ Z.Warmed39 U.vm ∧ U.heap = h0) (fun _ _ _ _ _ => True) (fun _ U o U' => ∃ v L, o = .returned v ∧ Q4_12 Z a1 a4 a8 kc9 h0 n0 v U'.heap L ∧ FrameEnd U o U' L ({ frames := 0, cells := 0, slots := 0, locals := 0 } : Room).cells ({ frames := 0, cells := 0, slots := 0, locals := 0 } : Room).slots) := by
  refine MetFree.of_bodySF (plainFor_of_name pn_com_example_srok_srok_engine_BookSide) hisR ?_
  intro p e s m args below meth c s₁ Bd hml0 hP hK
  obtain ⟨rfl, hZ, hh⟩ := hP
  have hx := Bd.exec
  have hby := Bd.bytes
  have hml : c.maxLocals = 1 := hml0
  have hown : s.vm.findClass zs1 = some m.cls := findClass_of_methodNamed Bd.named
  have hnm := (name_of_methodNamed Bd.named Bd.method).1
  have X0 : Stand p l e ({ frames := 0, cells := 0, slots := 0, locals := 0 } : Room) s m #[(.ref a1)] below meth c s₁ [] 0 0 := Stand.of_body Bd
  have e0 : s₁.heap = h0 := by rw [← hh, Bd.state]; rfl
  have N0 := Fr.nil n0
  refine own_pre (g' := mkF m 0 (lc6 a1) []) (ef_1 m a1) ?_
  obtain ⟨T3, X3, e3, st3⟩ := getF X0 hx hZ hown (host := "") (Or.inl (ww hw 26 rfl)) Via.refl e0 F2 (g := (mkF m 1 (lc6 a1) [(.ref a1)])) rfl rfl (hb hby d4_1)
  refine own_go (U' := T3.setTop (mkF m 4 (lc6 a1) [(.int 1)])) (fun t k => oaloadN X0 hx hby d4_0 rfl rfl (st3 _ k)) ?_
  obtain ⟨T6, X6, e6, st6⟩ := getF X3 hx hZ hown (host := "") (Or.inl (ww hw 14 rfl)) Via.refl e3 F5 (g := (mkF m 12 (lc6 a1) [(.ref a1)])) rfl rfl (hb hby d4_12)
  obtain ⟨T7, X7, e7, st7⟩ := getF X6 hx hZ hown (host := "") (Or.inl (ww hw 26 rfl)) Via.refl e6 F2 (g := (mkF m 16 (lc6 a1) [(.ref a1), (.ref a4)])) rfl rfl (hb hby d4_16)
  obtain ⟨cl11, Ar11, q11, S11, N11, H11, G11⟩ := id F10
  have hin12 : ¬ ((0 : Int32) < 0 ∨ cl11.slots.size ≤ ((0 : Int32)).toNatClampNeg) := inb_of S11 ⟨by decide, by decide⟩
  have hat12 : cl11.slots[((0 : Int32)).toNatClampNeg]? = some (.ref a8) := Has.at H11 hin12 rfl
  refine own_go (U' := T7.setTop (mkF m 22 (lc6 a1) [(.ref a8)])) (fun t k => oifY (pc := 4) X3 hx hby d4_4 11 (by decide) (by decide) (oaloadN X3 hx hby d4_11 rfl rfl (st6 _ (oaloadN X6 hx hby d4_15 rfl rfl (st7 _ (oiconst X7 hx hby d4_19 (oisub X7 hx hby d4_20 (X7.aaload hx (j := (0 : Int32)) (v := (.ref a8)) (by rw [e7]; exact Ar11.1) (State.isArrayOf_alike hZ.alike Ar11.2.1) rfl Ar11.2.2 hin12 hat12 (g := (mkF m 21 (lc6 a1) [(.int 0), (.ref a4)])) rfl rfl (hb hby d4_21) _ k)))))))) ?_
  obtain ⟨fs, hr, hrun, hended, hW, hsame⟩ := X7.leave (v := some (.ref a8)) (fun h => by rw [Bd.returns] at h; cases h)
  refine own_out ⟨_, _, ?_, hrun, hended, _, _, rfl, ?_, ⟨_, rfl⟩, hW, hsame.mono (by decide) (by decide)⟩
  · exact retOut X7 hx Bd.returns rfl (Or.inr (Or.inr (Or.inr (Or.inr ⟨rfl, rfl, rfl⟩)))) (hb hby d4_22) hr
  · show Q4_12 Z a1 a4 a8 kc9 h0 n0 _ T7.heap _
    rw [e7]
    exact ⟨rfl, N0, rfl⟩
def Q11_13 (Z : State) (a1 : Addr) (h0 : Heap) (n0 : Nat) (v : Option Value) (h : Heap) (L : List Loc) : Prop := v = some (.int 1) ∧ Fr n0 L ∧ h = h0
set_option maxRecDepth 65536 in
set_option maxHeartbeats 40000000 in
theorem rm11_13 (l : Launch) (Z : State) (a0 : Array Value) (hw : ∀ d ∈ tables_1, d.before a0 Z = true) (ws : List Jvm.Cond) (a1 : Addr) (h0 : Heap) (n0 : Nat) (Z0 : n0 ≤ h0.size) (F2 : Fld Z h0 a1 zs0 "first" zs10 .null) :
    MetFree l zm8 (head1 (Jvm.Cond.code zm8 prog_14_method_4_code 1 (some .boolean) :: ws) ({ frames := 0, cells := 0, slots := 0, locals := 0 } : Room)) (fun a U => a = #[(.ref a1)] ∧ Z.Warmed39 U.vm ∧ U.heap = h0) (fun _ _ _ _ _ => True) (fun _ U o U' => ∃ v L, o = .returned v ∧ Q11_13 Z a1 h0 n0 v U'.heap L ∧ FrameEnd U o U' L ({ frames := 0, cells := 0, slots := 0, locals := 0 } : Room).cells ({ frames := 0, cells := 0, slots := 0, locals := 0 } : Room).slots) := by
  refine MetFree.of_bodySF (plainFor_of_name pn_com_example_srok_srok_engine_PriceLevel) hisR ?_
  intro p e s m args below meth c s₁ Bd hml0 hP hK
  obtain ⟨rfl, hZ, hh⟩ := hP
  have hx := Bd.exec
  have hby := Bd.bytes
  have hml : c.maxLocals = 1 := hml0
  have hown : s.vm.findClass zs0 = some m.cls := findClass_of_methodNamed Bd.named
  have hnm := (name_of_methodNamed Bd.named Bd.method).1
  have X0 : Stand p l e ({ frames := 0, cells := 0, slots := 0, locals := 0 } : Room) s m #[(.ref a1)] below meth c s₁ [] 0 0 := Stand.of_body Bd
  have e0 : s₁.heap = h0 := by rw [← hh, Bd.state]; rfl
  have N0 := Fr.nil n0
  refine own_pre (g' := mkF m 0 (lc6 a1) []) (ef_1 m a1) ?_
  obtain ⟨T3, X3, e3, st3⟩ := getF X0 hx hZ hown (host := "") (Or.inl (ww hw 82 rfl)) Via.refl e0 F2 (g := (mkF m 1 (lc6 a1) [(.ref a1)])) rfl rfl (hb hby d11_1)
  refine own_go (U' := T3.setTop (mkF m 12 (lc6 a1) [(.int 1)])) (fun t k => oaloadN X0 hx hby d11_0 rfl rfl (st3 _ (onnN X3 hx hby d11_4 (oiconst X3 hx hby d11_7 (ogoto (pc := 8) X3 hx hby d11_8 12 (by decide) k))))) ?_
  obtain ⟨fs, hr, hrun, hended, hW, hsame⟩ := X3.leave (v := some (.int 1)) (fun h => by rw [Bd.returns] at h; cases h)
  refine own_out ⟨_, _, ?_, hrun, hended, _, _, rfl, ?_, ⟨_, rfl⟩, hW, hsame.mono (by decide) (by decide)⟩
  · exact retN X3 hx (t := .boolean) Bd.returns (by simp) (hb hby d11_12) hr
  · show Q11_13 Z a1 h0 n0 _ T3.heap _
    rw [e3]
    exact ⟨rfl, N0, rfl⟩
def Q10_14 (Z : State) (a1 : Addr) (a2 : Addr) (a5 : Addr) (a8 : Addr) (a10 : Addr) (kc22 : ClassId) (h0 : Heap) (n0 : Nat) (v : Option Value) (h : Heap) (L : List Loc) : Prop := v = none ∧ Fr n0 L ∧ Keep h0 h [a1, a8] ∧ Fld Z h a1 zs1 "emptyLevels" "I" (.int 0) ∧ Fld Z h a1 zs1 "side" zs3 (.ref a5) ∧ Fld Z h a1 zs1 "count" "I" (.int 0) ∧ Fld Z h a1 zs1 "levels" zs2 (.ref a8) ∧ Fld Z h a1 zs1 "ranks" "[J" (.ref a10) ∧ Arv Z h a8 kc22 (.object zs0) (16 : Int32) [.null] .null
set_option maxRecDepth 65536 in
set_option maxHeartbeats 40000000 in
theorem rm10_14 (l : Launch) (Z : State) (a0 : Array Value) (hw : ∀ d ∈ tables_1, d.before a0 Z = true) (ws : List Jvm.Cond) (a1 : Addr) (a2 : Addr) (a5 : Addr) (a8 : Addr) (a10 : Addr) (kc22 : ClassId) (h0 : Heap) (n0 : Nat) (Z0 : n0 ≤ h0.size) (F3 : Fld Z h0 a1 zs1 "emptyLevels" "I" (.int 0)) (F6 : Fld Z h0 a1 zs1 "side" zs3 (.ref a5)) (F7 : Fld Z h0 a1 zs1 "count" "I" (.int 1)) (F9 : Fld Z h0 a1 zs1 "levels" zs2 (.ref a8)) (F11 : Fld Z h0 a1 zs1 "ranks" "[J" (.ref a10)) (F12 : Exa Z h0 a1 zs1) (g14 : n0 ≤ a1) (F23 : Arv Z h0 a8 kc22 (.object zs0) (16 : Int32) [(.ref a2)] .null) (ne24 : a8 ≠ a1) (F29 : Exa Z h0 a2 zs0) (F31 : Fld Z h0 a2 zs0 "first" zs10 .null) (ne32 : a2 ≠ a1) (g46 : n0 ≤ a8) :
    MetFree l zm9 (head1 (Jvm.Cond.code zm9 prog_2_method_6_code 4 none :: ws) ({ frames := 1, cells := 0, slots := 0, locals := 12 } : Room)) (fun a U => a = #[(.ref a1), (.ref a2)] ∧ Z.Warmed39 U.vm ∧ U.heap = h0) (fun _ _ _ _ _ => True) (fun _ U o U' => ∃ v L, o = .returned v ∧ Q10_14 Z a1 a2 a5 a8 a10 kc22 h0 n0 v U'.heap L ∧ FrameEnd U o U' L ({ frames := 1, cells := 0, slots := 0, locals := 12 } : Room).cells ({ frames := 1, cells := 0, slots := 0, locals := 12 } : Room).slots) := by
  refine MetFree.of_bodySF (plainFor_of_name pn_com_example_srok_srok_engine_BookSide) hisR ?_
  intro p e s m args below meth c s₁ Bd hml0 hP hK
  obtain ⟨rfl, hZ, hh⟩ := hP
  have hx := Bd.exec
  have hby := Bd.bytes
  have hml : c.maxLocals = 4 := hml0
  have hown : s.vm.findClass zs1 = some m.cls := findClass_of_methodNamed Bd.named
  have hnm := (name_of_methodNamed Bd.named Bd.method).1
  have X0 : Stand p l e ({ frames := 1, cells := 0, slots := 0, locals := 12 } : Room) s m #[(.ref a1), (.ref a2)] below meth c s₁ [] 0 0 := Stand.of_body Bd
  have e0 : s₁.heap = h0 := by rw [← hh, Bd.state]; rfl
  have N0 := Fr.nil n0
  refine own_pre (g' := mkF m 0 (lc27 a1 a2) []) (ef_8 m a1 a2) ?_
  obtain ⟨T4, X4, e4, st4⟩ := getF X0 hx hZ hown (host := "") (Or.inl (ww hw 75 rfl)) Via.refl e0 F3 (g := (mkF m 2 (lc27 a1 a2) [(.ref a1), (.ref a1)])) rfl rfl (hb hby d10_2)
  obtain ⟨T13, h13, X13, e13, W13, st13⟩ := putF X4 hx hZ hown (host := "") (Or.inl (ww hw 75 rfl)) Via.refl e4 F3 F12 (Or.inl (ww hw 76 rfl)) (ww hw 4 rfl) (ty := .int) (by decide) rfl rfl (g := (mkF m 7 (lc27 a1 a2) [(.int 1), (.ref a1)])) rfl rfl (hb hby d10_7)
  have N15 := Fr.snoc X13 N0 g14
  have f16 : Fld Z h13 a1 zs1 "emptyLevels" "I" (.int 1) := Fld.same W13 F3
  have f17 : Fld Z h13 a1 zs1 "count" "I" (.int 1) := (Fld.other W13 F7 (Or.inr (slot_ne (Or.inl (ww hw 27 rfl)) (Or.inl (ww hw 76 rfl)) (by decide) (t := .int) (t' := .int) (by decide) (by decide))))
  obtain ⟨T18, X18, e18, st18⟩ := getF X13 hx hZ hown (host := "") (Or.inl (ww hw 26 rfl)) Via.refl e13 f17 (g := (mkF m 11 (lc27 a1 a2) [(.ref a1)])) rfl rfl (hb hby d10_11)
  refine own_go (U' := T18.setTop (mkF m 14 (lc27 a1 a2) [(.int 1)])) (fun t k => oaloadN X0 hx hby d10_0 rfl rfl (odup X0 hx hby d10_1 rfl (st4 _ (oiconst X4 hx hby d10_5 (oiadd X4 hx hby d10_6 (st13 _ (oaloadN X13 hx hby d10_10 rfl rfl (st18 _ k)))))))) ?_
  have f19 : Fld Z h13 a1 zs1 "levels" zs2 (.ref a8) := (Fld.other W13 F9 (Or.inr (slot_ne (Or.inl (ww hw 15 rfl)) (Or.inl (ww hw 76 rfl)) (by decide) (t := (.array (.object zs0))) (t' := .int) (by decide) (by decide))))
  obtain ⟨T20, X20, e20, st20⟩ := getF X18 hx hZ hown (host := "") (Or.inl (ww hw 14 rfl)) Via.refl e18 f19 (g := (mkF m 18 (lc27 a1 a2) [(.ref a1)])) rfl rfl (hb hby d10_18)
  obtain ⟨T21, X21, e21, st21⟩ := getF X20 hx hZ hown (host := "") (Or.inl (ww hw 26 rfl)) Via.refl e20 f17 (g := (mkF m 22 (lc27 a1 a2) [(.ref a1), (.ref a8)])) rfl rfl (hb hby d10_22)
  have f25 : Arv Z h13 a8 kc22 (.object zs0) (16 : Int32) [(.ref a2)] .null := (F23.other W13 ne24)
  obtain ⟨cl26, Ar26, q26, S26, N26, H26, G26⟩ := id f25
  have hin27 : ¬ ((0 : Int32) < 0 ∨ cl26.slots.size ≤ ((0 : Int32)).toNatClampNeg) := inb_of S26 ⟨by decide, by decide⟩
  have hat27 : cl26.slots[((0 : Int32)).toNatClampNeg]? = some (.ref a2) := Has.at H26 hin27 rfl
  have f30 : Exa Z h13 a2 zs0 := (Exa.wr W13 F29)
  have f33 : Fld Z h13 a2 zs0 "first" zs10 .null := (Fld.other W13 F31 (Or.inl ne32))
  have Z_1 : n0 ≤ h13.size := Nat.le_trans Z0 (Keep.of_wr W13).1
  obtain ⟨_, T28, L28, X28, hQ28, st28⟩ := ocallV X21 hx hZ zm8 zm8 hown (ww hw 77 rfl) (ww hw 78 rfl) (notFace_of_selects (args := #[]) (mvT hZ (ww hw 80 rfl))) (ww hw 80 rfl) (ww hw 79 rfl) (by decide) (ww hw 81 rfl) (ww hw 60 rfl) e21 f30 (rm11_13 l Z a0 hw [] a2 h13 n0 Z_1 f33) (st := [(.ref a2)]) rfl 0 rfl (by decide) (pc := 28) (Ls := (lc27 a1 a2)) hml rfl (lenOf pd_1 rfl) d10_28 hby
  obtain ⟨rfl, N28q, e28⟩ := hQ28
  have N34 := Fr.app N15 N28q
  refine own_go (U' := T28.setTop (mkF m 31 (lc27 a1 a2) [(.int 1)])) (fun t k => oifN X18 hx hby d10_14 (by decide) (oaloadN X18 hx hby d10_17 rfl rfl (st20 _ (oaloadN X20 hx hby d10_21 rfl rfl (st21 _ (oiconst X21 hx hby d10_25 (oisub X21 hx hby d10_26 (X21.aaload hx (j := (0 : Int32)) (v := (.ref a2)) (by rw [e21]; exact Ar26.1) (State.isArrayOf_alike hZ.alike Ar26.2.1) rfl Ar26.2.2 hin27 hat27 (g := (mkF m 27 (lc27 a1 a2) [(.int 0), (.ref a8)])) rfl rfl (hb hby d10_27) _ (st28 _ k))))))))) ?_
  obtain ⟨T35, X35, e35, st35⟩ := getF X28 hx hZ hown (host := "") (Or.inl (ww hw 26 rfl)) Via.refl e28 f17 (g := (mkF m 36 (lc27 a1 a2) [(.ref a1), (.ref a1)])) rfl rfl (hb hby d10_36)
  have f36 : Exa Z h13 a1 zs1 := (Exa.wr W13 F12)
  obtain ⟨T37, h37, X37, e37, W37, st37⟩ := putF X35 hx hZ hown (host := "") (Or.inl (ww hw 26 rfl)) Via.refl e35 f17 f36 (Or.inl (ww hw 27 rfl)) (ww hw 4 rfl) (ty := .int) (by decide) rfl rfl (g := (mkF m 41 (lc27 a1 a2) [(.int 0), (.ref a1)])) rfl rfl (hb hby d10_41)
  have N38 := Fr.snoc X37 N34 g14
  have f39 : Fld Z h37 a1 zs1 "count" "I" (.int 0) := Fld.same W37 f17
  have f40 : Fld Z h37 a1 zs1 "levels" zs2 (.ref a8) := (Fld.other W37 f19 (Or.inr (slot_ne (Or.inl (ww hw 15 rfl)) (Or.inl (ww hw 27 rfl)) (by decide) (t := (.array (.object zs0))) (t' := .int) (by decide) (by decide))))
  obtain ⟨T41, X41, e41, st41⟩ := getF X37 hx hZ hown (host := "") (Or.inl (ww hw 14 rfl)) Via.refl e37 f40 (g := (mkF m 45 (lc27 a1 a2) [(.ref a1)])) rfl rfl (hb hby d10_45)
  obtain ⟨T42, X42, e42, st42⟩ := getF X41 hx hZ hown (host := "") (Or.inl (ww hw 26 rfl)) Via.refl e41 f39 (g := (mkF m 49 (lc27 a1 a2) [(.ref a1), (.ref a8)])) rfl rfl (hb hby d10_49)
  have f43 : Arv Z h37 a8 kc22 (.object zs0) (16 : Int32) [(.ref a2)] .null := (f25.other W37 ne24)
  obtain ⟨cl44, Ar44, q44, S44, N44, H44, G44⟩ := id f43
  have hin45 : ¬ ((0 : Int32) < 0 ∨ cl44.slots.size ≤ ((0 : Int32)).toNatClampNeg) := inb_of S44 ⟨by decide, by decide⟩
  obtain ⟨T45, h45, X45, e45, W45, st45⟩ := stR X42 hx hZ e42 Ar44 (j := (0 : Int32)) hin45 rfl (Or.inl rfl) (g := (mkF m 53 (lc27 a1 a2) [.null, (.int 0), (.ref a8)])) rfl rfl (hb hby d10_53)
  have N47 := Fr.snoc X45 N38 g46
  have f48 : Arv Z h45 a8 kc22 (.object zs0) (16 : Int32) [.null] .null := Arv.set Ar44 q44 S44 N44 H44 G44 (by rfl) W45 0 rfl (Nat.le_of_ble_eq_true rfl)
  have f49 : Fld Z h45 a1 zs1 "emptyLevels" "I" (.int 1) := (Fld.other W45 (Fld.other W37 f16 (Or.inr (slot_ne (Or.inl (ww hw 76 rfl)) (Or.inl (ww hw 27 rfl)) (by decide) (t := .int) (t' := .int) (by decide) (by decide)))) (Or.inl (Ne.symm ne24)))
  obtain ⟨T50, X50, e50, st50⟩ := getF X45 hx hZ hown (host := "") (Or.inl (ww hw 75 rfl)) Via.refl e45 f49 (g := (mkF m 56 (lc27 a1 a2) [(.ref a1), (.ref a1)])) rfl rfl (hb hby d10_56)
  have f51 : Exa Z h45 a1 zs1 := (Exa.wr W45 (Exa.wr W37 f36))
  obtain ⟨T52, h52, X52, e52, W52, st52⟩ := putF X50 hx hZ hown (host := "") (Or.inl (ww hw 75 rfl)) Via.refl e50 f49 f51 (Or.inl (ww hw 76 rfl)) (ww hw 4 rfl) (ty := .int) (by decide) rfl rfl (g := (mkF m 61 (lc27 a1 a2) [(.int 0), (.ref a1)])) rfl rfl (hb hby d10_61)
  have N53 := Fr.snoc X52 N47 g14
  have f54 : Fld Z h52 a1 zs1 "emptyLevels" "I" (.int 0) := Fld.same W52 f49
  have f55 : Fld Z h52 a1 zs1 "count" "I" (.int 0) := (Fld.other W52 (Fld.other W45 f39 (Or.inl (Ne.symm ne24))) (Or.inr (slot_ne (Or.inl (ww hw 27 rfl)) (Or.inl (ww hw 76 rfl)) (by decide) (t := .int) (t' := .int) (by decide) (by decide))))
  obtain ⟨T56, X56, e56, st56⟩ := getF X52 hx hZ hown (host := "") (Or.inl (ww hw 26 rfl)) Via.refl e52 f55 (g := (mkF m 11 (lc27 a1 a2) [(.ref a1)])) rfl rfl (hb hby d10_11)
  refine own_go (U' := T56.setTop (mkF m 14 (lc27 a1 a2) [(.int 0)])) (fun t k => oifN X28 hx hby d10_31 (by decide) (oaloadN X28 hx hby d10_34 rfl rfl (odup X28 hx hby d10_35 rfl (st35 _ (oiconst X35 hx hby d10_39 (oisub X35 hx hby d10_40 (st37 _ (oaloadN X37 hx hby d10_44 rfl rfl (st41 _ (oaloadN X41 hx hby d10_48 rfl rfl (st42 _ (onull X42 hx hby d10_52 (st45 _ (oaloadN X45 hx hby d10_54 rfl rfl (odup X45 hx hby d10_55 rfl (st50 _ (oiconst X50 hx hby d10_59 (oisub X50 hx hby d10_60 (st52 _ (ogoto (pc := 64) X52 hx hby d10_64 10 (by decide) (oaloadN X52 hx hby d10_10 rfl rfl (st56 _ k)))))))))))))))))))))) ?_
  obtain ⟨T57, X57, e57, st57⟩ := getF X56 hx hZ hown (host := "") (Or.inl (ww hw 75 rfl)) Via.refl e56 f54 (g := (mkF m 68 (lc27 a1 a2) [(.ref a1)])) rfl rfl (hb hby d10_68)
  obtain ⟨T58, X58, e58, st58⟩ := getF X57 hx hZ hown (host := "") (Or.inl (ww hw 26 rfl)) Via.refl e57 f55 (g := (mkF m 74 (lc27 a1 a2) [(.ref a1), (.int 0)])) rfl rfl (hb hby d10_74)
  refine own_go (U' := T58.setTop (mkF m 77 (lc27 a1 a2) [(.int 0), (.int 0)])) (fun t k => oifY (pc := 14) X56 hx hby d10_14 67 (by decide) (by decide) (oaloadN X56 hx hby d10_67 rfl rfl (st57 _ (oiconst X57 hx hby d10_71 (oimul X57 hx hby d10_72 (oaloadN X57 hx hby d10_73 rfl rfl (st58 _ k))))))) ?_
  refine own_go (U' := T58.setTop (mkF m 80 (lc27 a1 a2) [])) (fun t k => oicN X58 hx hby d10_77 (by decide) k) ?_
  have f59 : Fld Z h52 a1 zs1 "side" zs3 (.ref a5) := (Fld.other W52 (Fld.other W45 (Fld.other W37 (Fld.other W13 F6 (Or.inr (slot_ne (Or.inr (ww hw 20 rfl)) (Or.inl (ww hw 76 rfl)) (by decide) (t := (.object zs5)) (t' := .int) (by decide) (by decide)))) (Or.inr (slot_ne (Or.inr (ww hw 20 rfl)) (Or.inl (ww hw 27 rfl)) (by decide) (t := (.object zs5)) (t' := .int) (by decide) (by decide)))) (Or.inl (Ne.symm ne24))) (Or.inr (slot_ne (Or.inr (ww hw 20 rfl)) (Or.inl (ww hw 76 rfl)) (by decide) (t := (.object zs5)) (t' := .int) (by decide) (by decide))))
  have f60 : Fld Z h52 a1 zs1 "levels" zs2 (.ref a8) := (Fld.other W52 (Fld.other W45 f40 (Or.inl (Ne.symm ne24))) (Or.inr (slot_ne (Or.inl (ww hw 15 rfl)) (Or.inl (ww hw 76 rfl)) (by decide) (t := (.array (.object zs0))) (t' := .int) (by decide) (by decide))))
  have f61 : Fld Z h52 a1 zs1 "ranks" "[J" (.ref a10) := (Fld.other W52 (Fld.other W45 (Fld.other W37 (Fld.other W13 F11 (Or.inr (slot_ne (Or.inl (ww hw 18 rfl)) (Or.inl (ww hw 76 rfl)) (by decide) (t := (.array .long)) (t' := .int) (by decide) (by decide)))) (Or.inr (slot_ne (Or.inl (ww hw 18 rfl)) (Or.inl (ww hw 27 rfl)) (by decide) (t := (.array .long)) (t' := .int) (by decide) (by decide)))) (Or.inl (Ne.symm ne24))) (Or.inr (slot_ne (Or.inl (ww hw 18 rfl)) (Or.inl (ww hw 76 rfl)) (by decide) (t := (.array .long)) (t' := .int) (by decide) (by decide))))
  have f62 : Arv Z h52 a8 kc22 (.object zs0) (16 : Int32) [.null] .null := (f48.other W52 ne24)
  obtain ⟨fs, hr, hrun, hended, hW, hsame⟩ := X58.leave (v := none) (fun _ => rfl)
  refine own_out ⟨_, _, ?_, hrun, hended, _, _, rfl, ?_, ⟨_, rfl⟩, hW, hsame.mono (by decide) (by decide)⟩
  · exact X58.returnOut hx Bd.returns (hb hby d10_80) hr
  · show Q10_14 Z a1 a2 a5 a8 a10 kc22 h0 n0 _ T58.heap _
    rw [e58]
    exact ⟨rfl, N53, (((((Keep.refl h0 [a1, a8]).wr W13 (Or.inl (List.mem_of_getElem? (i := 0) rfl))).wr W37 (Or.inl (List.mem_of_getElem? (i := 0) rfl))).wr W45 (Or.inl (List.mem_of_getElem? (i := 1) rfl))).wr W52 (Or.inl (List.mem_of_getElem? (i := 0) rfl))), f54, f59, f55, f60, f61, f62⟩
def Q8_15 (Z : State)  (h0 : Heap) (n0 : Nat) (v : Option Value) (h : Heap) (L : List Loc) : Prop := v = some (.int 1) ∧ Fr n0 L ∧ h = h0
set_option maxRecDepth 65536 in
set_option maxHeartbeats 40000000 in
theorem rm8_15 (l : Launch) (Z : State) (a0 : Array Value) (hw : ∀ d ∈ tables_1, d.before a0 Z = true) (ws : List Jvm.Cond)  (h0 : Heap) (n0 : Nat) (Z0 : n0 ≤ h0.size) :
    MetFree l zm4 (head1 (Jvm.Cond.code zm4 jdk_29_method_65_code 2 (some .int) :: ws) ({ frames := 0, cells := 0, slots := 0, locals := 0 } : Room)) (fun a U => a = #[(.int 0), (.int 1)] ∧ Z.Warmed39 U.vm ∧ U.heap = h0) (fun _ _ _ _ _ => True) (fun _ U o U' => ∃ v L, o = .returned v ∧ Q8_15 Z  h0 n0 v U'.heap L ∧ FrameEnd U o U' L ({ frames := 0, cells := 0, slots := 0, locals := 0 } : Room).cells ({ frames := 0, cells := 0, slots := 0, locals := 0 } : Room).slots) := by
  refine MetFree.of_bodySF (Jvm.Free.JP.mathPlain rfl (by decide +kernel)) hisR ?_
  intro p e s m args below meth c s₁ Bd hml0 hP hK
  obtain ⟨rfl, hZ, hh⟩ := hP
  have hx := Bd.exec
  have hby := Bd.bytes
  have hml : c.maxLocals = 2 := hml0
  have hown : s.vm.findClass zs7 = some m.cls := findClass_of_methodNamed Bd.named
  have hnm := (name_of_methodNamed Bd.named Bd.method).1
  have X0 : Stand p l e ({ frames := 0, cells := 0, slots := 0, locals := 0 } : Room) s m #[(.int 0), (.int 1)] below meth c s₁ [] 0 0 := Stand.of_body Bd
  have e0 : s₁.heap = h0 := by rw [← hh, Bd.state]; rfl
  have N0 := Fr.nil n0
  refine own_pre (g' := mkF m 0 (lc17 0 1) []) (ef_4 m (0 : Int32) (1 : Int32)) ?_
  refine own_go (U' := s₁.setTop (mkF m 2 (lc17 0 1) [(.int 1), (.int 0)])) (fun t k => oiloadN X0 hx hby d8_0 rfl (oiloadN X0 hx hby d8_1 rfl k)) ?_
  refine own_go (U' := s₁.setTop (mkF m 10 (lc17 0 1) [(.int 1)])) (fun t k => oicY (pc := 2) X0 hx hby d8_2 9 (by decide) (by decide) (oiloadN X0 hx hby d8_9 rfl k)) ?_
  obtain ⟨fs, hr, hrun, hended, hW, hsame⟩ := X0.leave (v := some (.int 1)) (fun h => by rw [Bd.returns] at h; cases h)
  refine own_out ⟨_, _, ?_, hrun, hended, _, _, rfl, ?_, ⟨_, rfl⟩, hW, hsame.mono (by decide) (by decide)⟩
  · exact retI X0 hx Bd.returns (hb hby d8_10) hr
  · show Q8_15 Z  h0 n0 _ s₁.heap _
    rw [e0]
    exact ⟨rfl, N0, rfl⟩
def Q8_16 (Z : State)  (h0 : Heap) (n0 : Nat) (v : Option Value) (h : Heap) (L : List Loc) : Prop := v = some (.int 0) ∧ Fr n0 L ∧ h = h0
set_option maxRecDepth 65536 in
set_option maxHeartbeats 40000000 in
theorem rm8_16 (l : Launch) (Z : State) (a0 : Array Value) (hw : ∀ d ∈ tables_1, d.before a0 Z = true) (ws : List Jvm.Cond)  (h0 : Heap) (n0 : Nat) (Z0 : n0 ≤ h0.size) :
    MetFree l zm4 (head1 (Jvm.Cond.code zm4 jdk_29_method_65_code 2 (some .int) :: ws) ({ frames := 0, cells := 0, slots := 0, locals := 0 } : Room)) (fun a U => a = #[(.int 0), (.int (-1))] ∧ Z.Warmed39 U.vm ∧ U.heap = h0) (fun _ _ _ _ _ => True) (fun _ U o U' => ∃ v L, o = .returned v ∧ Q8_16 Z  h0 n0 v U'.heap L ∧ FrameEnd U o U' L ({ frames := 0, cells := 0, slots := 0, locals := 0 } : Room).cells ({ frames := 0, cells := 0, slots := 0, locals := 0 } : Room).slots) := by
  refine MetFree.of_bodySF (Jvm.Free.JP.mathPlain rfl (by decide +kernel)) hisR ?_
  intro p e s m args below meth c s₁ Bd hml0 hP hK
  obtain ⟨rfl, hZ, hh⟩ := hP
  have hx := Bd.exec
  have hby := Bd.bytes
  have hml : c.maxLocals = 2 := hml0
  have hown : s.vm.findClass zs7 = some m.cls := findClass_of_methodNamed Bd.named
  have hnm := (name_of_methodNamed Bd.named Bd.method).1
  have X0 : Stand p l e ({ frames := 0, cells := 0, slots := 0, locals := 0 } : Room) s m #[(.int 0), (.int (-1))] below meth c s₁ [] 0 0 := Stand.of_body Bd
  have e0 : s₁.heap = h0 := by rw [← hh, Bd.state]; rfl
  have N0 := Fr.nil n0
  refine own_pre (g' := mkF m 0 (lc17 0 (-1)) []) (ef_4 m (0 : Int32) (-1 : Int32)) ?_
  refine own_go (U' := s₁.setTop (mkF m 2 (lc17 0 (-1)) [(.int (-1)), (.int 0)])) (fun t k => oiloadN X0 hx hby d8_0 rfl (oiloadN X0 hx hby d8_1 rfl k)) ?_
  refine own_go (U' := s₁.setTop (mkF m 10 (lc17 0 (-1)) [(.int 0)])) (fun t k => oicN X0 hx hby d8_2 (by decide) (oiloadN X0 hx hby d8_5 rfl (ogoto (pc := 6) X0 hx hby d8_6 10 (by decide) k))) ?_
  obtain ⟨fs, hr, hrun, hended, hW, hsame⟩ := X0.leave (v := some (.int 0)) (fun h => by rw [Bd.returns] at h; cases h)
  refine own_out ⟨_, _, ?_, hrun, hended, _, _, rfl, ?_, ⟨_, rfl⟩, hW, hsame.mono (by decide) (by decide)⟩
  · exact retI X0 hx Bd.returns (hb hby d8_10) hr
  · show Q8_16 Z  h0 n0 _ s₁.heap _
    rw [e0]
    exact ⟨rfl, N0, rfl⟩
def Qmg6_17 (Z : State) (a1 : Addr) (q2 : Int64) (a3 : Addr) (a5 : Addr) (h0 : Heap) (n0 : Nat) (v : Option Value) (h : Heap) (L : List Loc) : Prop := v = some (.int (-1)) ∧ Fr n0 L ∧ h = h0
theorem mg6_17 (l : Launch) (Z : State) (a0 : Array Value) (hw : ∀ d ∈ tables_1, d.before a0 Z = true) (ws : List Jvm.Cond) (a1 : Addr) (q2 : Int64) (a3 : Addr) (a5 : Addr) (h0 : Heap) (n0 : Nat) (Z0 : n0 ≤ h0.size) (F4 : Fld Z h0 a1 zs1 "side" zs3 (.ref a3)) (F6 : Sta Z h0 zs5 "BUY" zs3 (.ref a5)) (ha7 : a3 ≠ a5) (F8 : Exa Z h0 a1 zs1) (F9 : Fld Z h0 a1 zs1 "count" "I" (.int 0)) (hc10 : ¬ ((q2 ^^^ (-1 : Int64)) = (9223372036854775807 : Int64))) :
    MetFree l zm5 (head1 (Jvm.Cond.code zm5 prog_2_method_8_code 11 (some .int) :: ws) ({ frames := 1, cells := 0, slots := 0, locals := 14 } : Room)) (fun a U => a = #[(.ref a1), (.long q2), .null] ∧ Z.Warmed39 U.vm ∧ U.heap = h0) (fun _ _ _ _ _ => True) (fun _ U o U' => ∃ v L, o = .returned v ∧ Qmg6_17 Z a1 q2 a3 a5 h0 n0 v U'.heap L ∧ FrameEnd U o U' L ({ frames := 1, cells := 0, slots := 0, locals := 14 } : Room).cells ({ frames := 1, cells := 0, slots := 0, locals := 14 } : Room).slots) := by
  by_cases hm1 : (q2 ^^^ (-1 : Int64)) = (-9223372036854775808 : Int64)
  · exact rm6_5 l Z a0 hw ws a1 q2 a3 a5 h0 n0 Z0 F4 F6 ha7 F8 F9 hm1
  · exact rm6_7 l Z a0 hw ws a1 q2 a3 a5 h0 n0 Z0 F4 F6 ha7 F8 F9 hm1 hc10
def Q5_18 (Z : State) (a1 : Addr) (q2 : Int64) (a4 : Addr) (a6 : Addr) (a14 : Addr) (kc17 : ClassId) (a28 : Addr) (kc37 : ClassId) (h0 : Heap) (n0 : Nat) (v : Option Value) (h : Heap) (L : List Loc) : Prop := ∃ b44 : Addr, v = some (.ref b44) ∧ Fr n0 L ∧ Keep h0 h [a14, a28, a1] ∧ h0.size ≤ b44 ∧ Arv Z h a14 kc17 (.object zs0) (16 : Int32) [(.ref b44)] .null ∧ Arv Z h a28 kc37 .long (16 : Int32) [(.long (q2 ^^^ (-1 : Int64)))] (.long (0 : Int64)) ∧ Fld Z h a1 zs1 "side" zs3 (.ref a4) ∧ Fld Z h a1 zs1 "count" "I" (.int 1) ∧ Fld Z h a1 zs1 "levels" zs2 (.ref a14) ∧ Fld Z h a1 zs1 "ranks" "[J" (.ref a28) ∧ Fld Z h a1 zs1 "emptyLevels" "I" (.int 0) ∧ Exa Z h b44 zs0 ∧ Fld Z h b44 zs0 "price" zs9 .null ∧ Fld Z h b44 zs0 "priceSteps" "J" (.long q2) ∧ Fld Z h b44 zs0 "first" zs10 .null
set_option maxRecDepth 65536 in
set_option maxHeartbeats 40000000 in
theorem rm5_18 (l : Launch) (Z : State) (a0 : Array Value) (hw : ∀ d ∈ tables_1, d.before a0 Z = true) (ws : List Jvm.Cond) (a1 : Addr) (q2 : Int64) (a4 : Addr) (a6 : Addr) (a14 : Addr) (kc17 : ClassId) (a28 : Addr) (kc37 : ClassId) (h0 : Heap) (n0 : Nat) (Z0 : n0 ≤ h0.size) (F5 : Fld Z h0 a1 zs1 "side" zs3 (.ref a4)) (F7 : Sta Z h0 zs5 "BUY" zs3 (.ref a6)) (ha8 : a4 ≠ a6) (F9 : Exa Z h0 a1 zs1) (F10 : Fld Z h0 a1 zs1 "count" "I" (.int 0)) (hc11 : ¬ ((q2 ^^^ (-1 : Int64)) = (9223372036854775807 : Int64))) (F15 : Fld Z h0 a1 zs1 "levels" zs2 (.ref a14)) (F18 : Arv Z h0 a14 kc17 (.object zs0) (16 : Int32) [] .null) (g25 : n0 ≤ a14) (O26 : Ovr Z kc17 zs0) (F29 : Fld Z h0 a1 zs1 "ranks" "[J" (.ref a28)) (ne30 : a1 ≠ a14) (F38 : Arv Z h0 a28 kc37 .long (16 : Int32) [] (.long (0 : Int64))) (ne39 : a28 ≠ a14) (g42 : n0 ≤ a28) (ne54 : a1 ≠ a28) (F80 : Fld Z h0 a1 zs1 "emptyLevels" "I" (.int 0)) (g83 : n0 ≤ a1) :
    MetFree l zm7 (head1 (Jvm.Cond.code zm7 prog_2_method_5_code 7 (some (.object zs0)) :: ws) ({ frames := 2, cells := 1, slots := 4, locals := 36 } : Room)) (fun a U => a = #[(.ref a1), (.long q2), .null] ∧ Z.Warmed39 U.vm ∧ U.heap = h0) (fun _ _ _ _ _ => True) (fun _ U o U' => ∃ v L, o = .returned v ∧ Q5_18 Z a1 q2 a4 a6 a14 kc17 a28 kc37 h0 n0 v U'.heap L ∧ FrameEnd U o U' L ({ frames := 2, cells := 1, slots := 4, locals := 36 } : Room).cells ({ frames := 2, cells := 1, slots := 4, locals := 36 } : Room).slots) := by
  refine MetFree.of_bodySF (plainFor_of_name pn_com_example_srok_srok_engine_BookSide) hisR ?_
  intro p e s m args below meth c s₁ Bd hml0 hP hK
  obtain ⟨rfl, hZ, hh⟩ := hP
  have hx := Bd.exec
  have hby := Bd.bytes
  have hml : c.maxLocals = 7 := hml0
  have hown : s.vm.findClass zs1 = some m.cls := findClass_of_methodNamed Bd.named
  have hnm := (name_of_methodNamed Bd.named Bd.method).1
  have X0 : Stand p l e ({ frames := 2, cells := 1, slots := 4, locals := 36 } : Room) s m #[(.ref a1), (.long q2), .null] below meth c s₁ [] 0 0 := Stand.of_body Bd
  have e0 : s₁.heap = h0 := by rw [← hh, Bd.state]; rfl
  have N0 := Fr.nil n0
  refine own_pre (g' := mkF m 0 (lc11 a1 q2) []) (ef_7 m a1 q2) ?_
  obtain ⟨_, T3, L3, X3, hQ3, st3⟩ := ocallP X0 hx hZ zm5 hown (ww hw 38 rfl) (ww hw 39 rfl) (own_selP (mvT hZ (ww hw 4 rfl)) (mvP hZ (ww hw 40 rfl)) (mvT hZ (ww hw 39 rfl)) (by decide)) (ww hw 40 rfl) (by decide) (ww hw 41 rfl) (ww hw 5 rfl) e0 F9 (mg6_17 l Z a0 hw [] a1 q2 a4 a6 h0 n0 Z0 F5 F7 ha8 F9 F10 hc11) (st := [.null, (.long q2), (.ref a1)]) rfl 0 rfl (by decide) (pc := 3) (Ls := (lc11 a1 q2)) hml rfl (lenOf pd_5 rfl) d5_3 hby
  obtain ⟨rfl, N3q, e3⟩ := hQ3
  have N12 := Fr.app N0 N3q
  refine own_go (U' := T3.setTop (mkF m 10 (lc21 a1 q2 (-1)) [(.int (-1))])) (fun t k => oaloadN X0 hx hby d5_0 rfl rfl (olloadN X0 hx hby d5_1 rfl (oaloadN X0 hx hby d5_2 rfl rfl (st3 _ (oistore X3 hx hby d5_6 (lc21 a1 q2 (-1)) rfl (oiload X3 hx hby d5_8 rfl k)))))) ?_
  refine own_go (U' := T3.setTop (mkF m 47 (lc21 a1 q2 (-1)) [(.int (-(-1 : Int32)))])) (fun t k => oifY (pc := 10) X3 hx hby d5_10 44 (by decide) (by decide) (oiload X3 hx hby d5_44 rfl (oineg X3 hx hby d5_46 k))) ?_
  rw [show (-(-1 : Int32)) = (1 : Int32) from by decide]
  obtain ⟨T13, X13, e13, st13⟩ := getF X3 hx hZ hown (host := "") (Or.inl (ww hw 26 rfl)) Via.refl e3 F10 (g := (mkF m 52 (lc22 a1 q2 (-1) 0) [(.ref a1)])) rfl rfl (hb hby d5_52)
  obtain ⟨T16, X16, e16, st16⟩ := getF X13 hx hZ hown (host := "") (Or.inl (ww hw 14 rfl)) Via.refl e13 F15 (g := (mkF m 56 (lc22 a1 q2 (-1) 0) [(.ref a1), (.int 0)])) rfl rfl (hb hby d5_56)
  refine own_go (U' := T16.setTop (mkF m 59 (lc22 a1 q2 (-1) 0) [(.ref a14), (.int 0)])) (fun t k => oiconst X3 hx hby d5_47 (oisub X3 hx hby d5_48 (oistore X3 hx hby d5_49 (lc22 a1 q2 (-1) 0) rfl (oaloadN X3 hx hby d5_51 rfl rfl (st13 _ (oaloadN X13 hx hby d5_55 rfl rfl (st16 _ k))))))) ?_
  obtain ⟨cl19, Ar19, q19, S19, N19, H19, G19⟩ := id F18
  refine own_go (fun t k => X16.arraylength hx (by rw [e16]; exact Ar19.1) (State.isArrayOf_alike hZ.alike Ar19.2.1) (g := (mkF m 59 (lc22 a1 q2 (-1) 0) [(.ref a14), (.int 0)])) rfl rfl (hb hby d5_59) _ k) ?_
  rw [len_of S19 N19]
  obtain ⟨T20, X20, e20, st20⟩ := getF X16 hx hZ hown (host := "") (Or.inl (ww hw 14 rfl)) Via.refl e16 F15 (g := (mkF m 101 (lc22 a1 q2 (-1) 0) [(.ref a1)])) rfl rfl (hb hby d5_101)
  obtain ⟨T21, X21, e21, st21⟩ := getF X20 hx hZ hown (host := "") (Or.inl (ww hw 14 rfl)) Via.refl e20 F15 (g := (mkF m 107 (lc22 a1 q2 (-1) 0) [(.ref a1), (.int 0), (.ref a14)])) rfl rfl (hb hby d5_107)
  obtain ⟨T22, X22, e22, st22⟩ := getF X21 hx hZ hown (host := "") (Or.inl (ww hw 26 rfl)) Via.refl e21 F10 (g := (mkF m 115 (lc22 a1 q2 (-1) 0) [(.ref a1), (.int 1), (.ref a14), (.int 0), (.ref a14)])) rfl rfl (hb hby d5_115)
  have f24 : Arv Z h0 a14 kc17 (.object zs0) (16 : Int32) [.null] .null := F18.pad (pad_rep [] .null 1)
  obtain ⟨cl23, Ar23, q23, -⟩ := id f24
  obtain ⟨T23, h23, L23, X23, e23, N23, K23, V23, st23⟩ := cpA X22 hx hZ hown (ww hw 55 rfl) (ww hw 58 rfl) (ww hw 56 rfl) (ww hw 57 rfl) e22 (us := []) f24 f24 (Or.inr ⟨rfl, rfl, trivial⟩) (by decide) (by decide) (by decide) (by decide) (by decide) rfl (Nat.le_of_ble_eq_true rfl) N12 g25 (g := (mkF m 121 (lc22 a1 q2 (-1) 0) [(.int 0), (.int 1), (.ref a14), (.int 0), (.ref a14)])) rfl (by rw [hml]; rfl) rfl (hb hby d5_121) (by decide) (W := 0) (by show 2 * 0 + _ ≤ _; exact Nat.le_of_eq rfl) (by decide)
  have f27 : Arv Z h23 a14 kc17 (.object zs0) (16 : Int32) [.null] .null := V23
  have f31 : Fld Z h23 a1 zs1 "ranks" "[J" (.ref a28) := (F29.keep K23 (ninS ne30 nin0))
  obtain ⟨T32, X32, e32, st32⟩ := getF X23 hx hZ hown (host := "") (Or.inl (ww hw 17 rfl)) Via.refl e23 f31 (g := (mkF m 125 (lc22 a1 q2 (-1) 0) [(.ref a1)])) rfl rfl (hb hby d5_125)
  obtain ⟨T33, X33, e33, st33⟩ := getF X32 hx hZ hown (host := "") (Or.inl (ww hw 17 rfl)) Via.refl e32 f31 (g := (mkF m 131 (lc22 a1 q2 (-1) 0) [(.ref a1), (.int 0), (.ref a28)])) rfl rfl (hb hby d5_131)
  have f34 : Fld Z h23 a1 zs1 "count" "I" (.int 0) := (F10.keep K23 (ninS ne30 nin0))
  obtain ⟨T35, X35, e35, st35⟩ := getF X33 hx hZ hown (host := "") (Or.inl (ww hw 26 rfl)) Via.refl e33 f34 (g := (mkF m 139 (lc22 a1 q2 (-1) 0) [(.ref a1), (.int 1), (.ref a28), (.int 0), (.ref a28)])) rfl rfl (hb hby d5_139)
  have f40 : Arv Z h23 a28 kc37 .long (16 : Int32) [] (.long (0 : Int64)) := (F38.keep K23 (ninS ne39 nin0))
  have f41 : Arv Z h23 a28 kc37 .long (16 : Int32) [(.long 0)] (.long (0 : Int64)) := f40.pad (pad_rep [] (.long (0 : Int64)) 1)
  obtain ⟨T36, h36, L36, X36, e36, N36, K36, V36, st36⟩ := cpA X35 hx hZ hown (ww hw 55 rfl) (ww hw 58 rfl) (ww hw 56 rfl) (ww hw 57 rfl) e35 (us := []) f41 f41 (Or.inl ⟨rfl, rfl⟩) (by decide) (by decide) (by decide) (by decide) (by decide) rfl (Nat.le_of_ble_eq_true rfl) N23 g42 (g := (mkF m 145 (lc22 a1 q2 (-1) 0) [(.int 0), (.int 1), (.ref a28), (.int 0), (.ref a28)])) rfl (by rw [hml]; rfl) rfl (hb hby d5_145) (by decide) (W := 0) (by show 2 * 0 + _ ≤ _; exact Nat.le_of_eq rfl) (by decide)
  have f43 : Arv Z h36 a28 kc37 .long (16 : Int32) [(.long 0)] (.long (0 : Int64)) := V36
  obtain ⟨T44, h44, X44, e44, E44, A44, D44, -, st44⟩ := newO X36 hx hZ hown (ww hw 12 rfl) (ww hw 59 rfl) (ww hw 60 rfl) e36 (g := (mkF m 148 (lc22 a1 q2 (-1) 0) [])) rfl (hb hby d5_148) (by decide) (by decide)
  obtain ⟨b44, g44⟩ : ∃ z, z = h36.size := ⟨_, rfl⟩
  rw [← g44] at A44 D44 st44
  have f45 : Fld Z h44 b44 zs0 "price" zs9 .null := D44 (Or.inr (ww hw 66 rfl)) (ty := (.object zs12)) (by decide)
  have f46 : Fld Z h44 b44 zs0 "priceSteps" "J" (.long 0) := D44 (Or.inr (ww hw 68 rfl)) (ty := .long) (by decide)
  have f47 : Fld Z h44 b44 zs0 "first" zs10 .null := D44 (Or.inl (ww hw 83 rfl)) (ty := (.object zs13)) (by decide)
  have Z_1 : n0 ≤ h23.size := Nat.le_trans Z0 K23.1
  have Z_2 : n0 ≤ h36.size := Nat.le_trans Z_1 K36.1
  have g49 : n0 ≤ b44 := Nat.le_trans Z_2 (Nat.le_of_eq g44.symm)
  have Z_3 : n0 ≤ h44.size := Nat.le_trans Z_2 E44.1
  obtain ⟨_, T48, L48, X48, hQ48, st48⟩ := ocallI X44 hx hZ zm6 rfl hown (ww hw 61 rfl) (ww hw 62 rfl) (by decide) (ww hw 63 rfl) (ww hw 60 rfl) e44 (rm9_9 l Z a0 hw [] b44 q2 h44 n0 Z_3 f45 f46 f47 A44 g49) (st := [(.long q2), .null, (.ref b44), (.ref b44)]) rfl 1 rfl (by decide) (pc := 154) (Ls := (lc22 a1 q2 (-1) 0)) hml rfl (lenOf pd_6 rfl) d5_154 hby
  obtain ⟨rfl, N48q, K48, f50, f51, f52⟩ := hQ48
  have N53 := Fr.app N36 N48q
  have ne55 : a1 ≠ b44 := Nat.ne_of_lt (Nat.lt_of_lt_of_le (Nat.lt_of_lt_of_le (Nat.lt_of_lt_of_le (F5.lt) K23.1) K36.1) (Nat.le_of_eq g44.symm))
  have f56 : Fld Z T48.heap a1 zs1 "levels" zs2 (.ref a14) := ((Fld.ext E44 ((F15.keep K23 (ninS ne30 nin0)).keep K36 (ninS ne54 nin0))).keep K48 (ninS ne55 nin0))
  obtain ⟨T57, X57, e57, st57⟩ := getF X48 hx hZ hown (host := "") (Or.inl (ww hw 14 rfl)) Via.refl rfl f56 (g := (mkF m 160 (lc24 a1 q2 (-1) 0 b44) [(.ref a1)])) rfl rfl (hb hby d5_160)
  have ne58 : a14 ≠ b44 := Nat.ne_of_lt (Nat.lt_of_lt_of_le (Nat.lt_of_lt_of_le (f27.lt) K36.1) (Nat.le_of_eq g44.symm))
  have f59 : Arv Z T48.heap a14 kc17 (.object zs0) (16 : Int32) [.null] .null := (((f27.keep K36 (ninS (Ne.symm ne39) nin0)).ext E44).keep K48 (ninS ne58 nin0))
  have f60 : Exa Z T48.heap b44 zs0 := (A44.keep K48)
  obtain ⟨cl61, Ar61, q61, S61, N61, H61, G61⟩ := id f59
  have hin62 : ¬ ((0 : Int32) < 0 ∨ cl61.slots.size ≤ ((0 : Int32)).toNatClampNeg) := inb_of S61 ⟨by decide, by decide⟩
  obtain ⟨T62, h62, X62, e62, W62, st62⟩ := stR X57 hx hZ e57 Ar61 (j := (0 : Int32)) hin62 rfl (Sto.ofV Ar61 q61 O26 (Ins.self f60)) (g := (mkF m 167 (lc24 a1 q2 (-1) 0 b44) [(.ref b44), (.int 0), (.ref a14)])) rfl rfl (hb hby d5_167)
  have N63 := Fr.snoc X62 N53 g25
  have f64 : Arv Z h62 a14 kc17 (.object zs0) (16 : Int32) [(.ref b44)] .null := Arv.set Ar61 q61 S61 N61 H61 G61 (by rfl) W62 0 rfl (Nat.le_of_ble_eq_true rfl)
  have f65 : Fld Z h62 a1 zs1 "ranks" "[J" (.ref a28) := (Fld.other W62 ((Fld.ext E44 (f31.keep K36 (ninS ne54 nin0))).keep K48 (ninS ne55 nin0)) (Or.inl ne30))
  obtain ⟨T66, X66, e66, st66⟩ := getF X62 hx hZ hown (host := "") (Or.inl (ww hw 17 rfl)) Via.refl e62 f65 (g := (mkF m 169 (lc24 a1 q2 (-1) 0 b44) [(.ref a1)])) rfl rfl (hb hby d5_169)
  have f68 : Fld Z h62 a1 zs1 "side" zs3 (.ref a4) := (Fld.other W62 ((Fld.ext E44 ((F5.keep K23 (ninS ne30 nin0)).keep K36 (ninS ne54 nin0))).keep K48 (ninS ne55 nin0)) (Or.inl ne30))
  have f69 : Sta Z h62 zs5 "BUY" zs3 (.ref a6) := (Sta.wr W62 (own_staK (Sta.ext E44 (own_staK (own_staK F7 K23 (allS (own_nsV f24) all0)) K36 (allS (own_nsV f41) all0))) K48 (allS (own_nsF f45) all0)))
  have Z_4 : n0 ≤ T48.heap.size := Nat.le_trans Z_3 K48.1
  have Z_5 : n0 ≤ h62.size := Nat.le_trans Z_4 (Keep.of_wr W62).1
  have f70 : Exa Z h62 a1 zs1 := (Exa.wr W62 ((Exa.ext E44 ((F9.keep K23).keep K36)).keep K48))
  obtain ⟨_, T67, L67, X67, hQ67, st67⟩ := ocallP X66 hx hZ zm3 hown (ww hw 42 rfl) (ww hw 43 rfl) (own_selP (mvT hZ (ww hw 4 rfl)) (mvP hZ (ww hw 44 rfl)) (mvT hZ (ww hw 43 rfl)) (by decide)) (ww hw 44 rfl) (by decide) (ww hw 45 rfl) (ww hw 5 rfl) e66 f70 (rm7_3 l Z a0 hw [] a1 q2 a4 a6 h62 n0 Z_5 f68 f69 ha8) (st := [(.long q2), (.ref a1), (.int 0), (.ref a28)]) rfl 2 rfl (by decide) (pc := 176) (Ls := (lc24 a1 q2 (-1) 0 b44)) hml rfl (lenOf pd_3 rfl) d5_176 hby
  obtain ⟨rfl, N67q, e67⟩ := hQ67
  have N71 := Fr.app N63 N67q
  have ne72 : a28 ≠ b44 := Nat.ne_of_lt (Nat.lt_of_lt_of_le (f43.lt) (Nat.le_of_eq g44.symm))
  have f73 : Arv Z h62 a28 kc37 .long (16 : Int32) [(.long 0)] (.long (0 : Int64)) := (((f43.ext E44).keep K48 (ninS ne72 nin0)).other W62 ne39)
  obtain ⟨cl74, Ar74, q74, S74, N74, H74, G74⟩ := id f73
  have hin75 : ¬ ((0 : Int32) < 0 ∨ cl74.slots.size ≤ ((0 : Int32)).toNatClampNeg) := inb_of S74 ⟨by decide, by decide⟩
  obtain ⟨T75, h75, X75, e75, W75, st75⟩ := stJ X67 hx hZ e67 Ar74 (j := (0 : Int32)) hin75 (g := (mkF m 179 (lc24 a1 q2 (-1) 0 b44) [(.long (q2 ^^^ (-1 : Int64))), (.int 0), (.ref a28)])) rfl rfl (hb hby d5_179)
  have N76 := Fr.snoc X75 N71 g42
  have f77 : Arv Z h75 a28 kc37 .long (16 : Int32) [(.long (q2 ^^^ (-1 : Int64)))] (.long (0 : Int64)) := Arv.set Ar74 q74 S74 N74 H74 G74 (by rfl) W75 0 rfl (Nat.le_of_ble_eq_true rfl)
  have f78 : Fld Z h75 a1 zs1 "count" "I" (.int 0) := (Fld.other W75 (Fld.other W62 ((Fld.ext E44 (f34.keep K36 (ninS ne54 nin0))).keep K48 (ninS ne55 nin0)) (Or.inl ne30)) (Or.inl ne54))
  obtain ⟨T79, X79, e79, st79⟩ := getF X75 hx hZ hown (host := "") (Or.inl (ww hw 26 rfl)) Via.refl e75 f78 (g := (mkF m 182 (lc24 a1 q2 (-1) 0 b44) [(.ref a1), (.ref a1)])) rfl rfl (hb hby d5_182)
  have f81 : Exa Z h75 a1 zs1 := (Exa.wr W75 f70)
  obtain ⟨T82, h82, X82, e82, W82, st82⟩ := putF X79 hx hZ hown (host := "") (Or.inl (ww hw 26 rfl)) Via.refl e79 f78 f81 (Or.inl (ww hw 27 rfl)) (ww hw 4 rfl) (ty := .int) (by decide) rfl rfl (g := (mkF m 187 (lc24 a1 q2 (-1) 0 b44) [(.int 1), (.ref a1)])) rfl rfl (hb hby d5_187)
  have N84 := Fr.snoc X82 N76 g83
  have f85 : Fld Z h82 a1 zs1 "count" "I" (.int 1) := Fld.same W82 f78
  refine own_go (U' := T82.setTop (mkF m 192 (lc24 a1 q2 (-1) 0 b44) [(.ref b44)])) (fun t k => oicY (pc := 60) X16 hx hby d5_60 100 (by decide) (by decide) (oaloadN X16 hx hby d5_100 rfl rfl (st20 _ (oiload X20 hx hby d5_104 rfl (oaloadN X20 hx hby d5_106 rfl rfl (st21 _ (oiload X21 hx hby d5_110 rfl (oiconst X21 hx hby d5_112 (oiadd X21 hx hby d5_113 (oaloadN X21 hx hby d5_114 rfl rfl (st22 _ (oiload X22 hx hby d5_118 rfl (oisub X22 hx hby d5_120 (st23 _ (oaloadN X23 hx hby d5_124 rfl rfl (st32 _ (oiload X32 hx hby d5_128 rfl (oaloadN X32 hx hby d5_130 rfl rfl (st33 _ (oiload X33 hx hby d5_134 rfl (oiconst X33 hx hby d5_136 (oiadd X33 hx hby d5_137 (oaloadN X33 hx hby d5_138 rfl rfl (st35 _ (oiload X35 hx hby d5_142 rfl (oisub X35 hx hby d5_144 (st36 _ (st44 _ (odup X44 hx hby d5_151 rfl (oaloadN X44 hx hby d5_152 rfl rfl (olloadN X44 hx hby d5_153 rfl (st48 _ (oastore X48 hx hby d5_157 (lc24 a1 q2 (-1) 0 b44) rfl rfl (oaloadN X48 hx hby d5_159 rfl rfl (st57 _ (oiload X57 hx hby d5_163 rfl (oaload X57 hx hby d5_165 rfl rfl (st62 _ (oaloadN X62 hx hby d5_168 rfl rfl (st66 _ (oiload X66 hx hby d5_172 rfl (oaloadN X66 hx hby d5_174 rfl rfl (olloadN X66 hx hby d5_175 rfl (st67 _ (st75 _ (oaloadN X75 hx hby d5_180 rfl rfl (odup X75 hx hby d5_181 rfl (st79 _ (oiconst X79 hx hby d5_185 (oiadd X79 hx hby d5_186 (st82 _ (oaload X82 hx hby d5_190 rfl rfl k)))))))))))))))))))))))))))))))))))))))))))))))))))) ?_
  have f86 : Arv Z h82 a14 kc17 (.object zs0) (16 : Int32) [(.ref b44)] .null := ((f64.other W75 (Ne.symm ne39)).other W82 (Ne.symm ne30))
  have f87 : Arv Z h82 a28 kc37 .long (16 : Int32) [(.long (q2 ^^^ (-1 : Int64)))] (.long (0 : Int64)) := (f77.other W82 (Ne.symm ne54))
  have f88 : Fld Z h82 a1 zs1 "side" zs3 (.ref a4) := (Fld.other W82 (Fld.other W75 f68 (Or.inl ne54)) (Or.inr (slot_ne (Or.inr (ww hw 20 rfl)) (Or.inl (ww hw 27 rfl)) (by decide) (t := (.object zs5)) (t' := .int) (by decide) (by decide))))
  have f89 : Fld Z h82 a1 zs1 "levels" zs2 (.ref a14) := (Fld.other W82 (Fld.other W75 (Fld.other W62 f56 (Or.inl ne30)) (Or.inl ne54)) (Or.inr (slot_ne (Or.inl (ww hw 15 rfl)) (Or.inl (ww hw 27 rfl)) (by decide) (t := (.array (.object zs0))) (t' := .int) (by decide) (by decide))))
  have f90 : Fld Z h82 a1 zs1 "ranks" "[J" (.ref a28) := (Fld.other W82 (Fld.other W75 f65 (Or.inl ne54)) (Or.inr (slot_ne (Or.inl (ww hw 18 rfl)) (Or.inl (ww hw 27 rfl)) (by decide) (t := (.array .long)) (t' := .int) (by decide) (by decide))))
  have f91 : Fld Z h82 a1 zs1 "emptyLevels" "I" (.int 0) := (Fld.other W82 (Fld.other W75 (Fld.other W62 ((Fld.ext E44 ((F80.keep K23 (ninS ne30 nin0)).keep K36 (ninS ne54 nin0))).keep K48 (ninS ne55 nin0)) (Or.inl ne30)) (Or.inl ne54)) (Or.inr (slot_ne (Or.inl (ww hw 76 rfl)) (Or.inl (ww hw 27 rfl)) (by decide) (t := .int) (t' := .int) (by decide) (by decide))))
  have f92 : Exa Z h82 b44 zs0 := (Exa.wr W82 (Exa.wr W75 (Exa.wr W62 f60)))
  have f93 : Fld Z h82 b44 zs0 "price" zs9 .null := (Fld.other W82 (Fld.other W75 (Fld.other W62 f50 (Or.inl (Ne.symm ne58))) (Or.inl (Ne.symm ne72))) (Or.inl (Ne.symm ne55)))
  have f94 : Fld Z h82 b44 zs0 "priceSteps" "J" (.long q2) := (Fld.other W82 (Fld.other W75 (Fld.other W62 f51 (Or.inl (Ne.symm ne58))) (Or.inl (Ne.symm ne72))) (Or.inl (Ne.symm ne55)))
  have f95 : Fld Z h82 b44 zs0 "first" zs10 .null := (Fld.other W82 (Fld.other W75 (Fld.other W62 f52 (Or.inl (Ne.symm ne58))) (Or.inl (Ne.symm ne72))) (Or.inl (Ne.symm ne55)))
  obtain ⟨fs, hr, hrun, hended, hW, hsame⟩ := X82.leave (v := some (.ref b44)) (fun h => by rw [Bd.returns] at h; cases h)
  refine own_out ⟨_, _, ?_, hrun, hended, _, _, rfl, ?_, ⟨_, rfl⟩, hW, hsame.mono (by decide) (by decide)⟩
  · exact retOut X82 hx Bd.returns rfl (Or.inr (Or.inr (Or.inr (Or.inr ⟨rfl, rfl, rfl⟩)))) (hb hby d5_192) hr
  · show Q5_18 Z a1 q2 a4 a6 a14 kc17 a28 kc37 h0 n0 _ T82.heap _
    rw [e82]
    exact ⟨b44, rfl, N84, ((((Keep.trans ((Keep.trans (Keep.trans (Keep.refl h0 [a14, a28, a1]) K23 (allS (Or.inl (List.mem_of_getElem? (i := 0) rfl)) all0)) K36 (allS (Or.inl (List.mem_of_getElem? (i := 1) rfl)) all0)).ext E44) K48 (allS (Or.inr (Nat.le_trans K23.1 (Nat.le_trans K36.1 (Nat.le_of_eq g44.symm)))) all0)).wr W62 (Or.inl (List.mem_of_getElem? (i := 0) rfl))).wr W75 (Or.inl (List.mem_of_getElem? (i := 1) rfl))).wr W82 (Or.inl (List.mem_of_getElem? (i := 2) rfl))), (Nat.le_trans K23.1 (Nat.le_trans K36.1 (Nat.le_of_eq g44.symm))), f86, f87, f88, f85, f89, f90, f91, f92, f93, f94, f95⟩
def Q6_19 (Z : State) (a1 : Addr) (q2 : Int64) (a4 : Addr) (a6 : Addr) (a14 : Addr) (q17 : Int64) (kc18 : ClassId) (h0 : Heap) (n0 : Nat) (v : Option Value) (h : Heap) (L : List Loc) : Prop := v = some (.int (-2)) ∧ Fr n0 L ∧ h = h0
set_option maxRecDepth 65536 in
set_option maxHeartbeats 40000000 in
theorem rm6_19 (l : Launch) (Z : State) (a0 : Array Value) (hw : ∀ d ∈ tables_1, d.before a0 Z = true) (ws : List Jvm.Cond) (a1 : Addr) (q2 : Int64) (a4 : Addr) (a6 : Addr) (a14 : Addr) (q17 : Int64) (kc18 : ClassId) (h0 : Heap) (n0 : Nat) (Z0 : n0 ≤ h0.size) (F5 : Fld Z h0 a1 zs1 "side" zs3 (.ref a4)) (F7 : Sta Z h0 zs5 "BUY" zs3 (.ref a6)) (ha8 : a4 ≠ a6) (F9 : Exa Z h0 a1 zs1) (F12 : Fld Z h0 a1 zs1 "count" "I" (.int 1)) (F15 : Fld Z h0 a1 zs1 "ranks" "[J" (.ref a14)) (F19 : Arv Z h0 a14 kc18 .long (16 : Int32) [(.long q17)] (.long (0 : Int64))) (hc22 : q17 < (q2 ^^^ (-1 : Int64))) (hc26 : ¬ ((q2 ^^^ (-1 : Int64)) = (-9223372036854775808 : Int64))) (hc28 : (q2 ^^^ (-1 : Int64)) = (9223372036854775807 : Int64)) :
    MetFree l zm5 (head1 (Jvm.Cond.code zm5 prog_2_method_8_code 11 (some .int) :: ws) ({ frames := 1, cells := 0, slots := 0, locals := 14 } : Room)) (fun a U => a = #[(.ref a1), (.long q2), .null] ∧ Z.Warmed39 U.vm ∧ U.heap = h0) (fun _ _ _ _ _ => True) (fun _ U o U' => ∃ v L, o = .returned v ∧ Q6_19 Z a1 q2 a4 a6 a14 q17 kc18 h0 n0 v U'.heap L ∧ FrameEnd U o U' L ({ frames := 1, cells := 0, slots := 0, locals := 14 } : Room).cells ({ frames := 1, cells := 0, slots := 0, locals := 14 } : Room).slots) := by
  refine MetFree.of_bodySF (plainFor_of_name pn_com_example_srok_srok_engine_BookSide) hisR ?_
  intro p e s m args below meth c s₁ Bd hml0 hP hK
  obtain ⟨rfl, hZ, hh⟩ := hP
  have hx := Bd.exec
  have hby := Bd.bytes
  have hml : c.maxLocals = 11 := hml0
  have hown : s.vm.findClass zs1 = some m.cls := findClass_of_methodNamed Bd.named
  have hnm := (name_of_methodNamed Bd.named Bd.method).1
  have X0 : Stand p l e ({ frames := 1, cells := 0, slots := 0, locals := 14 } : Room) s m #[(.ref a1), (.long q2), .null] below meth c s₁ [] 0 0 := Stand.of_body Bd
  have e0 : s₁.heap = h0 := by rw [← hh, Bd.state]; rfl
  have N0 := Fr.nil n0
  refine own_pre (g' := mkF m 0 (lc12 a1 q2) []) (ef_5 m a1 q2) ?_
  obtain ⟨_, T3, L3, X3, hQ3, st3⟩ := ocallP X0 hx hZ zm3 hown (ww hw 42 rfl) (ww hw 43 rfl) (own_selP (mvT hZ (ww hw 4 rfl)) (mvP hZ (ww hw 44 rfl)) (mvT hZ (ww hw 43 rfl)) (by decide)) (ww hw 44 rfl) (by decide) (ww hw 45 rfl) (ww hw 5 rfl) e0 F9 (rm7_3 l Z a0 hw [] a1 q2 a4 a6 h0 n0 Z0 F5 F7 ha8) (st := [(.long q2), (.ref a1)]) rfl 0 rfl (by decide) (pc := 2) (Ls := (lc12 a1 q2)) hml rfl (lenOf pd_3 rfl) d6_2 hby
  obtain ⟨rfl, N3q, e3⟩ := hQ3
  have N10 := Fr.app N0 N3q
  refine own_go (U' := T3.setTop (mkF m 7 (lc14 a1 q2 (q2 ^^^ (-1 : Int64))) [])) (fun t k => oaloadN X0 hx hby d6_0 rfl rfl (olloadN X0 hx hby d6_1 rfl (st3 _ (olstore X3 hx hby d6_5 (lc14 a1 q2 (q2 ^^^ (-1 : Int64))) rfl k)))) ?_
  obtain ⟨z11, hz11⟩ : ∃ z, z = (q2 ^^^ (-1 : Int64)) := ⟨_, rfl⟩
  rw [← hz11]
  obtain ⟨T13, X13, e13, st13⟩ := getF X3 hx hZ hown (host := "") (Or.inl (ww hw 26 rfl)) Via.refl e3 F12 (g := (mkF m 8 (lc14 a1 q2 z11) [(.ref a1)])) rfl rfl (hb hby d6_8)
  refine own_go (U' := T13.setTop (mkF m 21 (lc16 a1 q2 z11 1 1) [(.int 0)])) (fun t k => oaloadN X3 hx hby d6_7 rfl rfl (st13 _ (oistore X13 hx hby d6_11 (lc15 a1 q2 z11 1) rfl (oiconst X13 hx hby d6_13 (oistore X13 hx hby d6_14 (lc16 a1 q2 z11 1 1) rfl (oiload X13 hx hby d6_16 rfl (oiload X13 hx hby d6_18 rfl (oisub X13 hx hby d6_20 k)))))))) ?_
  obtain ⟨T16, X16, e16, st16⟩ := getF X13 hx hZ hown (host := "") (Or.inl (ww hw 17 rfl)) Via.refl e13 F15 (g := (mkF m 25 (lc16 a1 q2 z11 1 1) [(.ref a1)])) rfl rfl (hb hby d6_25)
  obtain ⟨cl20, Ar20, q20, S20, N20, H20, G20⟩ := id F19
  have hin21 : ¬ ((0 : Int32) < 0 ∨ cl20.slots.size ≤ ((0 : Int32)).toNatClampNeg) := inb_of S20 ⟨by decide, by decide⟩
  have hat21 : cl20.slots[((0 : Int32)).toNatClampNeg]? = some (.long q17) := Has.at H20 hin21 rfl
  refine own_go (U' := T16.setTop (mkF m 37 (lc16 a1 q2 z11 1 1) [(.int (lcmpW q17 z11))])) (fun t k => oifN X13 hx hby d6_21 (by decide) (oaloadN X13 hx hby d6_24 rfl rfl (st16 _ (oiload X16 hx hby d6_28 rfl (oiload X16 hx hby d6_30 rfl (oisub X16 hx hby d6_32 (X16.laload hx (j := (0 : Int32)) (v := (.long q17)) (by rw [e16]; exact Ar20.1) (State.isArrayOf_alike hZ.alike Ar20.2.1) Ar20.2.2 hin21 hat21 (g := (mkF m 33 (lc16 a1 q2 z11 1 1) [(.int 0), (.ref a14)])) rfl rfl (hb hby d6_33) _ (olload X16 hx hby d6_34 rfl (olcmp X16 hx hby d6_36 k))))))))) ?_
  have hs23 : q17 < z11 := by rw [hz11]; exact hc22
  obtain ⟨_, T24, L24, X24, hQ24, st24⟩ := ocallS X16 hx hZ zm4 hown (ww hw 49 rfl) (ww hw 50 rfl) (by decide) (ww hw 52 rfl) (ww hw 51 rfl) e16 (rm8_15 l Z a0 hw []  h0 n0 Z0 ) (st := [(.int 1), (.int 0)]) rfl 0 rfl (by decide) (pc := 64) (Ls := (lc16 a1 q2 z11 1 1)) hml rfl (lenOf pd_4 rfl) d6_64 hby
  obtain ⟨rfl, N24q, e24⟩ := hQ24
  have N25 := Fr.app N10 N24q
  refine own_go (U' := T24.setTop (mkF m 79 (lc19 a1 q2 z11 1 1 1 0) [(.int 1), (.int 0)])) (fun t k => oifY (pc := 37) X16 hx hby d6_37 56 (own_ll_lt_t hs23) (by decide) (oiconst X16 hx hby d6_56 (oiload X16 hx hby d6_57 rfl (oiload X16 hx hby d6_59 rfl (oisub X16 hx hby d6_61 (oiconst X16 hx hby d6_62 (oiadd X16 hx hby d6_63 (st24 _ (oistore X24 hx hby d6_67 (lc18 a1 q2 z11 1 1 1) rfl (oiload X24 hx hby d6_69 rfl (oiload X24 hx hby d6_71 rfl (oisub X24 hx hby d6_73 (oistore X24 hx hby d6_74 (lc19 a1 q2 z11 1 1 1 0) rfl (oiload X24 hx hby d6_76 rfl (oiconst X24 hx hby d6_78 k))))))))))))))) ?_
  refine own_go (U' := T24.setTop (mkF m 132 (lc19 a1 q2 z11 1 1 1 0) [(.int 1), (.int 1)])) (fun t k => oicY (pc := 79) X24 hx hby d6_79 128 (by decide) (by decide) (oiload X24 hx hby d6_128 rfl (oiload X24 hx hby d6_130 rfl k))) ?_
  refine own_go (U' := T24.setTop (mkF m 157 (lc19 a1 q2 z11 1 1 1 0) [(.int (lcmpW z11 (-9223372036854775808 : Int64)))])) (fun t k => oicY (pc := 132) X24 hx hby d6_132 151 (by decide) (by decide) (olload X24 hx hby d6_151 rfl (X24.ldc2Long hx hown (mvT hZ (ww hw 53 rfl)) (g := (mkF m 153 (lc19 a1 q2 z11 1 1 1 0) [(.long z11)])) rfl (hb hby d6_153) _ (olcmp X24 hx hby d6_156 k)))) ?_
  have hs27 : ¬ (z11 = (-9223372036854775808 : Int64)) := by rw [hz11]; exact hc26
  refine own_go (U' := T24.setTop (mkF m 166 (lc19 a1 q2 z11 1 1 1 0) [(.int (lcmpW z11 (9223372036854775807 : Int64)))])) (fun t k => oifN X24 hx hby d6_157 (own_ll_eq_f hs27) (olload X24 hx hby d6_160 rfl (X24.ldc2Long hx hown (mvT hZ (ww hw 54 rfl)) (g := (mkF m 162 (lc19 a1 q2 z11 1 1 1 0) [(.long z11)])) rfl (hb hby d6_162) _ (olcmp X24 hx hby d6_165 k)))) ?_
  have hs29 : z11 = (9223372036854775807 : Int64) := by rw [hz11]; exact hc28
  refine own_go (U' := T24.setTop (mkF m 178 (lc19 a1 q2 z11 1 1 1 0) [(.int 0)])) (fun t k => oifY (pc := 166) X24 hx hby d6_166 173 (own_ll_eq_t hs29) (by decide) (oiconst X24 hx hby d6_173 (oistore X24 hx hby d6_174 (lc19 a1 q2 z11 1 1 1 0) rfl (oiload X24 hx hby d6_176 rfl k)))) ?_
  obtain ⟨T30, X30, e30, st30⟩ := getF X24 hx hZ hown (host := "") (Or.inl (ww hw 26 rfl)) Via.refl e24 F12 (g := (mkF m 184 (lc19 a1 q2 z11 1 1 1 0) [(.ref a1), (.int 1)])) rfl rfl (hb hby d6_184)
  refine own_go (U' := T30.setTop (mkF m 187 (lc19 a1 q2 z11 1 1 1 0) [(.int 1), (.int 1)])) (fun t k => oifN X24 hx hby d6_178 (by decide) (oiload X24 hx hby d6_181 rfl (oaloadN X24 hx hby d6_183 rfl rfl (st30 _ k)))) ?_
  obtain ⟨T31, X31, e31, st31⟩ := getF X30 hx hZ hown (host := "") (Or.inl (ww hw 26 rfl)) Via.refl e30 F12 (g := (mkF m 230 (lc19 a1 q2 z11 1 1 1 0) [(.ref a1), (.int 1)])) rfl rfl (hb hby d6_230)
  refine own_go (U' := T31.setTop (mkF m 233 (lc19 a1 q2 z11 1 1 1 0) [(.int 1), (.int 1)])) (fun t k => oicY (pc := 187) X30 hx hby d6_187 227 (by decide) (by decide) (oiload X30 hx hby d6_227 rfl (oaloadN X30 hx hby d6_229 rfl rfl (st31 _ k)))) ?_
  refine own_go (U' := T31.setTop (mkF m 280 (lc20 a1 q2 z11 1 1 1 0 0) [(.int 0)])) (fun t k => oicY (pc := 233) X31 hx hby d6_233 275 (by decide) (by decide) (oiconst X31 hx hby d6_275 (oistore X31 hx hby d6_276 (lc20 a1 q2 z11 1 1 1 0 0) rfl (oiload X31 hx hby d6_278 rfl k)))) ?_
  refine own_go (U' := T31.setTop (mkF m 292 (lc20 a1 q2 z11 1 1 1 0 0) [(.int ((-1 : Int32) - (1 : Int32)))])) (fun t k => oifY (pc := 280) X31 hx hby d6_280 288 (by decide) (by decide) (oiconst X31 hx hby d6_288 (oiload X31 hx hby d6_289 rfl (oisub X31 hx hby d6_291 k)))) ?_
  rw [show ((-1 : Int32) - (1 : Int32)) = (-2 : Int32) from by decide]
  obtain ⟨fs, hr, hrun, hended, hW, hsame⟩ := X31.leave (v := some (.int (-2))) (fun h => by rw [Bd.returns] at h; cases h)
  refine own_out ⟨_, _, ?_, hrun, hended, _, _, rfl, ?_, ⟨_, rfl⟩, hW, hsame.mono (by decide) (by decide)⟩
  · exact retI X31 hx Bd.returns (hb hby d6_292) hr
  · show Q6_19 Z a1 q2 a4 a6 a14 q17 kc18 h0 n0 _ T31.heap _
    rw [e31]
    exact ⟨rfl, N25, rfl⟩
def Q6_20 (Z : State) (a1 : Addr) (q2 : Int64) (a4 : Addr) (a6 : Addr) (a14 : Addr) (q17 : Int64) (kc18 : ClassId) (h0 : Heap) (n0 : Nat) (v : Option Value) (h : Heap) (L : List Loc) : Prop := v = some (.int (-2)) ∧ Fr n0 L ∧ h = h0
set_option maxRecDepth 65536 in
set_option maxHeartbeats 40000000 in
theorem rm6_20 (l : Launch) (Z : State) (a0 : Array Value) (hw : ∀ d ∈ tables_1, d.before a0 Z = true) (ws : List Jvm.Cond) (a1 : Addr) (q2 : Int64) (a4 : Addr) (a6 : Addr) (a14 : Addr) (q17 : Int64) (kc18 : ClassId) (h0 : Heap) (n0 : Nat) (Z0 : n0 ≤ h0.size) (F5 : Fld Z h0 a1 zs1 "side" zs3 (.ref a4)) (F7 : Sta Z h0 zs5 "BUY" zs3 (.ref a6)) (ha8 : a4 ≠ a6) (F9 : Exa Z h0 a1 zs1) (F12 : Fld Z h0 a1 zs1 "count" "I" (.int 1)) (F15 : Fld Z h0 a1 zs1 "ranks" "[J" (.ref a14)) (F19 : Arv Z h0 a14 kc18 .long (16 : Int32) [(.long q17)] (.long (0 : Int64))) (hc22 : q17 < (q2 ^^^ (-1 : Int64))) (hc26 : ¬ ((q2 ^^^ (-1 : Int64)) = (-9223372036854775808 : Int64))) (hc28 : ¬ ((q2 ^^^ (-1 : Int64)) = (9223372036854775807 : Int64))) :
    MetFree l zm5 (head1 (Jvm.Cond.code zm5 prog_2_method_8_code 11 (some .int) :: ws) ({ frames := 1, cells := 0, slots := 0, locals := 14 } : Room)) (fun a U => a = #[(.ref a1), (.long q2), .null] ∧ Z.Warmed39 U.vm ∧ U.heap = h0) (fun _ _ _ _ _ => True) (fun _ U o U' => ∃ v L, o = .returned v ∧ Q6_20 Z a1 q2 a4 a6 a14 q17 kc18 h0 n0 v U'.heap L ∧ FrameEnd U o U' L ({ frames := 1, cells := 0, slots := 0, locals := 14 } : Room).cells ({ frames := 1, cells := 0, slots := 0, locals := 14 } : Room).slots) := by
  refine MetFree.of_bodySF (plainFor_of_name pn_com_example_srok_srok_engine_BookSide) hisR ?_
  intro p e s m args below meth c s₁ Bd hml0 hP hK
  obtain ⟨rfl, hZ, hh⟩ := hP
  have hx := Bd.exec
  have hby := Bd.bytes
  have hml : c.maxLocals = 11 := hml0
  have hown : s.vm.findClass zs1 = some m.cls := findClass_of_methodNamed Bd.named
  have hnm := (name_of_methodNamed Bd.named Bd.method).1
  have X0 : Stand p l e ({ frames := 1, cells := 0, slots := 0, locals := 14 } : Room) s m #[(.ref a1), (.long q2), .null] below meth c s₁ [] 0 0 := Stand.of_body Bd
  have e0 : s₁.heap = h0 := by rw [← hh, Bd.state]; rfl
  have N0 := Fr.nil n0
  refine own_pre (g' := mkF m 0 (lc12 a1 q2) []) (ef_5 m a1 q2) ?_
  obtain ⟨_, T3, L3, X3, hQ3, st3⟩ := ocallP X0 hx hZ zm3 hown (ww hw 42 rfl) (ww hw 43 rfl) (own_selP (mvT hZ (ww hw 4 rfl)) (mvP hZ (ww hw 44 rfl)) (mvT hZ (ww hw 43 rfl)) (by decide)) (ww hw 44 rfl) (by decide) (ww hw 45 rfl) (ww hw 5 rfl) e0 F9 (rm7_3 l Z a0 hw [] a1 q2 a4 a6 h0 n0 Z0 F5 F7 ha8) (st := [(.long q2), (.ref a1)]) rfl 0 rfl (by decide) (pc := 2) (Ls := (lc12 a1 q2)) hml rfl (lenOf pd_3 rfl) d6_2 hby
  obtain ⟨rfl, N3q, e3⟩ := hQ3
  have N10 := Fr.app N0 N3q
  refine own_go (U' := T3.setTop (mkF m 7 (lc14 a1 q2 (q2 ^^^ (-1 : Int64))) [])) (fun t k => oaloadN X0 hx hby d6_0 rfl rfl (olloadN X0 hx hby d6_1 rfl (st3 _ (olstore X3 hx hby d6_5 (lc14 a1 q2 (q2 ^^^ (-1 : Int64))) rfl k)))) ?_
  obtain ⟨z11, hz11⟩ : ∃ z, z = (q2 ^^^ (-1 : Int64)) := ⟨_, rfl⟩
  rw [← hz11]
  obtain ⟨T13, X13, e13, st13⟩ := getF X3 hx hZ hown (host := "") (Or.inl (ww hw 26 rfl)) Via.refl e3 F12 (g := (mkF m 8 (lc14 a1 q2 z11) [(.ref a1)])) rfl rfl (hb hby d6_8)
  refine own_go (U' := T13.setTop (mkF m 21 (lc16 a1 q2 z11 1 1) [(.int 0)])) (fun t k => oaloadN X3 hx hby d6_7 rfl rfl (st13 _ (oistore X13 hx hby d6_11 (lc15 a1 q2 z11 1) rfl (oiconst X13 hx hby d6_13 (oistore X13 hx hby d6_14 (lc16 a1 q2 z11 1 1) rfl (oiload X13 hx hby d6_16 rfl (oiload X13 hx hby d6_18 rfl (oisub X13 hx hby d6_20 k)))))))) ?_
  obtain ⟨T16, X16, e16, st16⟩ := getF X13 hx hZ hown (host := "") (Or.inl (ww hw 17 rfl)) Via.refl e13 F15 (g := (mkF m 25 (lc16 a1 q2 z11 1 1) [(.ref a1)])) rfl rfl (hb hby d6_25)
  obtain ⟨cl20, Ar20, q20, S20, N20, H20, G20⟩ := id F19
  have hin21 : ¬ ((0 : Int32) < 0 ∨ cl20.slots.size ≤ ((0 : Int32)).toNatClampNeg) := inb_of S20 ⟨by decide, by decide⟩
  have hat21 : cl20.slots[((0 : Int32)).toNatClampNeg]? = some (.long q17) := Has.at H20 hin21 rfl
  refine own_go (U' := T16.setTop (mkF m 37 (lc16 a1 q2 z11 1 1) [(.int (lcmpW q17 z11))])) (fun t k => oifN X13 hx hby d6_21 (by decide) (oaloadN X13 hx hby d6_24 rfl rfl (st16 _ (oiload X16 hx hby d6_28 rfl (oiload X16 hx hby d6_30 rfl (oisub X16 hx hby d6_32 (X16.laload hx (j := (0 : Int32)) (v := (.long q17)) (by rw [e16]; exact Ar20.1) (State.isArrayOf_alike hZ.alike Ar20.2.1) Ar20.2.2 hin21 hat21 (g := (mkF m 33 (lc16 a1 q2 z11 1 1) [(.int 0), (.ref a14)])) rfl rfl (hb hby d6_33) _ (olload X16 hx hby d6_34 rfl (olcmp X16 hx hby d6_36 k))))))))) ?_
  have hs23 : q17 < z11 := by rw [hz11]; exact hc22
  obtain ⟨_, T24, L24, X24, hQ24, st24⟩ := ocallS X16 hx hZ zm4 hown (ww hw 49 rfl) (ww hw 50 rfl) (by decide) (ww hw 52 rfl) (ww hw 51 rfl) e16 (rm8_15 l Z a0 hw []  h0 n0 Z0 ) (st := [(.int 1), (.int 0)]) rfl 0 rfl (by decide) (pc := 64) (Ls := (lc16 a1 q2 z11 1 1)) hml rfl (lenOf pd_4 rfl) d6_64 hby
  obtain ⟨rfl, N24q, e24⟩ := hQ24
  have N25 := Fr.app N10 N24q
  refine own_go (U' := T24.setTop (mkF m 79 (lc19 a1 q2 z11 1 1 1 0) [(.int 1), (.int 0)])) (fun t k => oifY (pc := 37) X16 hx hby d6_37 56 (own_ll_lt_t hs23) (by decide) (oiconst X16 hx hby d6_56 (oiload X16 hx hby d6_57 rfl (oiload X16 hx hby d6_59 rfl (oisub X16 hx hby d6_61 (oiconst X16 hx hby d6_62 (oiadd X16 hx hby d6_63 (st24 _ (oistore X24 hx hby d6_67 (lc18 a1 q2 z11 1 1 1) rfl (oiload X24 hx hby d6_69 rfl (oiload X24 hx hby d6_71 rfl (oisub X24 hx hby d6_73 (oistore X24 hx hby d6_74 (lc19 a1 q2 z11 1 1 1 0) rfl (oiload X24 hx hby d6_76 rfl (oiconst X24 hx hby d6_78 k))))))))))))))) ?_
  refine own_go (U' := T24.setTop (mkF m 132 (lc19 a1 q2 z11 1 1 1 0) [(.int 1), (.int 1)])) (fun t k => oicY (pc := 79) X24 hx hby d6_79 128 (by decide) (by decide) (oiload X24 hx hby d6_128 rfl (oiload X24 hx hby d6_130 rfl k))) ?_
  refine own_go (U' := T24.setTop (mkF m 157 (lc19 a1 q2 z11 1 1 1 0) [(.int (lcmpW z11 (-9223372036854775808 : Int64)))])) (fun t k => oicY (pc := 132) X24 hx hby d6_132 151 (by decide) (by decide) (olload X24 hx hby d6_151 rfl (X24.ldc2Long hx hown (mvT hZ (ww hw 53 rfl)) (g := (mkF m 153 (lc19 a1 q2 z11 1 1 1 0) [(.long z11)])) rfl (hb hby d6_153) _ (olcmp X24 hx hby d6_156 k)))) ?_
  have hs27 : ¬ (z11 = (-9223372036854775808 : Int64)) := by rw [hz11]; exact hc26
  refine own_go (U' := T24.setTop (mkF m 166 (lc19 a1 q2 z11 1 1 1 0) [(.int (lcmpW z11 (9223372036854775807 : Int64)))])) (fun t k => oifN X24 hx hby d6_157 (own_ll_eq_f hs27) (olload X24 hx hby d6_160 rfl (X24.ldc2Long hx hown (mvT hZ (ww hw 54 rfl)) (g := (mkF m 162 (lc19 a1 q2 z11 1 1 1 0) [(.long z11)])) rfl (hb hby d6_162) _ (olcmp X24 hx hby d6_165 k)))) ?_
  have hs29 : ¬ (z11 = (9223372036854775807 : Int64)) := by rw [hz11]; exact hc28
  refine own_go (U' := T24.setTop (mkF m 178 (lc19 a1 q2 z11 1 1 1 1) [(.int 1)])) (fun t k => oifN X24 hx hby d6_166 (own_ll_eq_f hs29) (oiconst X24 hx hby d6_169 (ogoto (pc := 170) X24 hx hby d6_170 174 (by decide) (oistore X24 hx hby d6_174 (lc19 a1 q2 z11 1 1 1 1) rfl (oiload X24 hx hby d6_176 rfl k))))) ?_
  obtain ⟨T30, X30, e30, st30⟩ := getF X24 hx hZ hown (host := "") (Or.inl (ww hw 26 rfl)) Via.refl e24 F12 (g := (mkF m 230 (lc19 a1 q2 z11 1 1 1 1) [(.ref a1), (.int 1)])) rfl rfl (hb hby d6_230)
  refine own_go (U' := T30.setTop (mkF m 233 (lc19 a1 q2 z11 1 1 1 1) [(.int 1), (.int 1)])) (fun t k => oifY (pc := 178) X24 hx hby d6_178 227 (by decide) (by decide) (oiload X24 hx hby d6_227 rfl (oaloadN X24 hx hby d6_229 rfl rfl (st30 _ k)))) ?_
  refine own_go (U' := T30.setTop (mkF m 280 (lc20 a1 q2 z11 1 1 1 1 0) [(.int 0)])) (fun t k => oicY (pc := 233) X30 hx hby d6_233 275 (by decide) (by decide) (oiconst X30 hx hby d6_275 (oistore X30 hx hby d6_276 (lc20 a1 q2 z11 1 1 1 1 0) rfl (oiload X30 hx hby d6_278 rfl k)))) ?_
  refine own_go (U' := T30.setTop (mkF m 292 (lc20 a1 q2 z11 1 1 1 1 0) [(.int ((-1 : Int32) - (1 : Int32)))])) (fun t k => oifY (pc := 280) X30 hx hby d6_280 288 (by decide) (by decide) (oiconst X30 hx hby d6_288 (oiload X30 hx hby d6_289 rfl (oisub X30 hx hby d6_291 k)))) ?_
  rw [show ((-1 : Int32) - (1 : Int32)) = (-2 : Int32) from by decide]
  obtain ⟨fs, hr, hrun, hended, hW, hsame⟩ := X30.leave (v := some (.int (-2))) (fun h => by rw [Bd.returns] at h; cases h)
  refine own_out ⟨_, _, ?_, hrun, hended, _, _, rfl, ?_, ⟨_, rfl⟩, hW, hsame.mono (by decide) (by decide)⟩
  · exact retI X30 hx Bd.returns (hb hby d6_292) hr
  · show Q6_20 Z a1 q2 a4 a6 a14 q17 kc18 h0 n0 _ T30.heap _
    rw [e30]
    exact ⟨rfl, N25, rfl⟩
def Qmg6_21 (Z : State) (a1 : Addr) (q2 : Int64) (a3 : Addr) (a5 : Addr) (a10 : Addr) (q12 : Int64) (kc13 : ClassId) (h0 : Heap) (n0 : Nat) (v : Option Value) (h : Heap) (L : List Loc) : Prop := v = some (.int (-2)) ∧ Fr n0 L ∧ h = h0
theorem mg6_21 (l : Launch) (Z : State) (a0 : Array Value) (hw : ∀ d ∈ tables_1, d.before a0 Z = true) (ws : List Jvm.Cond) (a1 : Addr) (q2 : Int64) (a3 : Addr) (a5 : Addr) (a10 : Addr) (q12 : Int64) (kc13 : ClassId) (h0 : Heap) (n0 : Nat) (Z0 : n0 ≤ h0.size) (F4 : Fld Z h0 a1 zs1 "side" zs3 (.ref a3)) (F6 : Sta Z h0 zs5 "BUY" zs3 (.ref a5)) (ha7 : a3 ≠ a5) (F8 : Exa Z h0 a1 zs1) (F9 : Fld Z h0 a1 zs1 "count" "I" (.int 1)) (F11 : Fld Z h0 a1 zs1 "ranks" "[J" (.ref a10)) (F14 : Arv Z h0 a10 kc13 .long (16 : Int32) [(.long q12)] (.long (0 : Int64))) (hc15 : q12 < (q2 ^^^ (-1 : Int64))) (hc16 : ¬ ((q2 ^^^ (-1 : Int64)) = (-9223372036854775808 : Int64))) :
    MetFree l zm5 (head1 (Jvm.Cond.code zm5 prog_2_method_8_code 11 (some .int) :: ws) ({ frames := 1, cells := 0, slots := 0, locals := 14 } : Room)) (fun a U => a = #[(.ref a1), (.long q2), .null] ∧ Z.Warmed39 U.vm ∧ U.heap = h0) (fun _ _ _ _ _ => True) (fun _ U o U' => ∃ v L, o = .returned v ∧ Qmg6_21 Z a1 q2 a3 a5 a10 q12 kc13 h0 n0 v U'.heap L ∧ FrameEnd U o U' L ({ frames := 1, cells := 0, slots := 0, locals := 14 } : Room).cells ({ frames := 1, cells := 0, slots := 0, locals := 14 } : Room).slots) := by
  by_cases hm1 : (q2 ^^^ (-1 : Int64)) = (9223372036854775807 : Int64)
  · exact rm6_19 l Z a0 hw ws a1 q2 a3 a5 a10 q12 kc13 h0 n0 Z0 F4 F6 ha7 F8 F9 F11 F14 hc15 hc16 hm1
  · exact rm6_20 l Z a0 hw ws a1 q2 a3 a5 a10 q12 kc13 h0 n0 Z0 F4 F6 ha7 F8 F9 F11 F14 hc15 hc16 hm1
def Q5_22 (Z : State) (a1 : Addr) (q2 : Int64) (a4 : Addr) (a6 : Addr) (a11 : Addr) (q13 : Int64) (kc14 : ClassId) (a20 : Addr) (a23 : Addr) (kc24 : ClassId) (h0 : Heap) (n0 : Nat) (v : Option Value) (h : Heap) (L : List Loc) : Prop := ∃ b47 : Addr, v = some (.ref b47) ∧ Fr n0 L ∧ Keep h0 h [a20, a11, a1] ∧ h0.size ≤ b47 ∧ Arv Z h a20 kc24 (.object zs0) (16 : Int32) [(.ref a23), (.ref b47)] .null ∧ Arv Z h a11 kc14 .long (16 : Int32) [(.long q13), (.long (q2 ^^^ (-1 : Int64)))] (.long (0 : Int64)) ∧ Fld Z h a1 zs1 "side" zs3 (.ref a4) ∧ Fld Z h a1 zs1 "count" "I" (.int 2) ∧ Fld Z h a1 zs1 "ranks" "[J" (.ref a11) ∧ Fld Z h a1 zs1 "levels" zs2 (.ref a20) ∧ Fld Z h a1 zs1 "emptyLevels" "I" (.int 0) ∧ Exa Z h b47 zs0 ∧ Fld Z h b47 zs0 "price" zs9 .null ∧ Fld Z h b47 zs0 "priceSteps" "J" (.long q2) ∧ Fld Z h b47 zs0 "first" zs10 .null
set_option maxRecDepth 65536 in
set_option maxHeartbeats 40000000 in
theorem rm5_22 (l : Launch) (Z : State) (a0 : Array Value) (hw : ∀ d ∈ tables_1, d.before a0 Z = true) (ws : List Jvm.Cond) (a1 : Addr) (q2 : Int64) (a4 : Addr) (a6 : Addr) (a11 : Addr) (q13 : Int64) (kc14 : ClassId) (a20 : Addr) (a23 : Addr) (kc24 : ClassId) (h0 : Heap) (n0 : Nat) (Z0 : n0 ≤ h0.size) (F5 : Fld Z h0 a1 zs1 "side" zs3 (.ref a4)) (F7 : Sta Z h0 zs5 "BUY" zs3 (.ref a6)) (ha8 : a4 ≠ a6) (F9 : Exa Z h0 a1 zs1) (F10 : Fld Z h0 a1 zs1 "count" "I" (.int 1)) (F12 : Fld Z h0 a1 zs1 "ranks" "[J" (.ref a11)) (F15 : Arv Z h0 a11 kc14 .long (16 : Int32) [(.long q13)] (.long (0 : Int64))) (hc16 : q13 < (q2 ^^^ (-1 : Int64))) (hc17 : ¬ ((q2 ^^^ (-1 : Int64)) = (-9223372036854775808 : Int64))) (F21 : Fld Z h0 a1 zs1 "levels" zs2 (.ref a20)) (F25 : Arv Z h0 a20 kc24 (.object zs0) (16 : Int32) [(.ref a23)] .null) (g32 : n0 ≤ a20) (O33 : Ovr Z kc24 zs0) (ne35 : a1 ≠ a20) (ne42 : a11 ≠ a20) (g45 : n0 ≤ a11) (ne57 : a1 ≠ a11) (F83 : Fld Z h0 a1 zs1 "emptyLevels" "I" (.int 0)) (g86 : n0 ≤ a1) :
    MetFree l zm7 (head1 (Jvm.Cond.code zm7 prog_2_method_5_code 7 (some (.object zs0)) :: ws) ({ frames := 2, cells := 1, slots := 4, locals := 36 } : Room)) (fun a U => a = #[(.ref a1), (.long q2), .null] ∧ Z.Warmed39 U.vm ∧ U.heap = h0) (fun _ _ _ _ _ => True) (fun _ U o U' => ∃ v L, o = .returned v ∧ Q5_22 Z a1 q2 a4 a6 a11 q13 kc14 a20 a23 kc24 h0 n0 v U'.heap L ∧ FrameEnd U o U' L ({ frames := 2, cells := 1, slots := 4, locals := 36 } : Room).cells ({ frames := 2, cells := 1, slots := 4, locals := 36 } : Room).slots) := by
  refine MetFree.of_bodySF (plainFor_of_name pn_com_example_srok_srok_engine_BookSide) hisR ?_
  intro p e s m args below meth c s₁ Bd hml0 hP hK
  obtain ⟨rfl, hZ, hh⟩ := hP
  have hx := Bd.exec
  have hby := Bd.bytes
  have hml : c.maxLocals = 7 := hml0
  have hown : s.vm.findClass zs1 = some m.cls := findClass_of_methodNamed Bd.named
  have hnm := (name_of_methodNamed Bd.named Bd.method).1
  have X0 : Stand p l e ({ frames := 2, cells := 1, slots := 4, locals := 36 } : Room) s m #[(.ref a1), (.long q2), .null] below meth c s₁ [] 0 0 := Stand.of_body Bd
  have e0 : s₁.heap = h0 := by rw [← hh, Bd.state]; rfl
  have N0 := Fr.nil n0
  refine own_pre (g' := mkF m 0 (lc11 a1 q2) []) (ef_7 m a1 q2) ?_
  obtain ⟨_, T3, L3, X3, hQ3, st3⟩ := ocallP X0 hx hZ zm5 hown (ww hw 38 rfl) (ww hw 39 rfl) (own_selP (mvT hZ (ww hw 4 rfl)) (mvP hZ (ww hw 40 rfl)) (mvT hZ (ww hw 39 rfl)) (by decide)) (ww hw 40 rfl) (by decide) (ww hw 41 rfl) (ww hw 5 rfl) e0 F9 (mg6_21 l Z a0 hw [] a1 q2 a4 a6 a11 q13 kc14 h0 n0 Z0 F5 F7 ha8 F9 F10 F12 F15 hc16 hc17) (st := [.null, (.long q2), (.ref a1)]) rfl 0 rfl (by decide) (pc := 3) (Ls := (lc11 a1 q2)) hml rfl (lenOf pd_5 rfl) d5_3 hby
  obtain ⟨rfl, N3q, e3⟩ := hQ3
  have N18 := Fr.app N0 N3q
  refine own_go (U' := T3.setTop (mkF m 10 (lc21 a1 q2 (-2)) [(.int (-2))])) (fun t k => oaloadN X0 hx hby d5_0 rfl rfl (olloadN X0 hx hby d5_1 rfl (oaloadN X0 hx hby d5_2 rfl rfl (st3 _ (oistore X3 hx hby d5_6 (lc21 a1 q2 (-2)) rfl (oiload X3 hx hby d5_8 rfl k)))))) ?_
  refine own_go (U' := T3.setTop (mkF m 47 (lc21 a1 q2 (-2)) [(.int (-(-2 : Int32)))])) (fun t k => oifY (pc := 10) X3 hx hby d5_10 44 (by decide) (by decide) (oiload X3 hx hby d5_44 rfl (oineg X3 hx hby d5_46 k))) ?_
  rw [show (-(-2 : Int32)) = (2 : Int32) from by decide]
  obtain ⟨T19, X19, e19, st19⟩ := getF X3 hx hZ hown (host := "") (Or.inl (ww hw 26 rfl)) Via.refl e3 F10 (g := (mkF m 52 (lc22 a1 q2 (-2) 1) [(.ref a1)])) rfl rfl (hb hby d5_52)
  obtain ⟨T22, X22, e22, st22⟩ := getF X19 hx hZ hown (host := "") (Or.inl (ww hw 14 rfl)) Via.refl e19 F21 (g := (mkF m 56 (lc22 a1 q2 (-2) 1) [(.ref a1), (.int 1)])) rfl rfl (hb hby d5_56)
  refine own_go (U' := T22.setTop (mkF m 59 (lc22 a1 q2 (-2) 1) [(.ref a20), (.int 1)])) (fun t k => oiconst X3 hx hby d5_47 (oisub X3 hx hby d5_48 (oistore X3 hx hby d5_49 (lc22 a1 q2 (-2) 1) rfl (oaloadN X3 hx hby d5_51 rfl rfl (st19 _ (oaloadN X19 hx hby d5_55 rfl rfl (st22 _ k))))))) ?_
  obtain ⟨cl26, Ar26, q26, S26, N26, H26, G26⟩ := id F25
  refine own_go (fun t k => X22.arraylength hx (by rw [e22]; exact Ar26.1) (State.isArrayOf_alike hZ.alike Ar26.2.1) (g := (mkF m 59 (lc22 a1 q2 (-2) 1) [(.ref a20), (.int 1)])) rfl rfl (hb hby d5_59) _ k) ?_
  rw [len_of S26 N26]
  obtain ⟨T27, X27, e27, st27⟩ := getF X22 hx hZ hown (host := "") (Or.inl (ww hw 14 rfl)) Via.refl e22 F21 (g := (mkF m 101 (lc22 a1 q2 (-2) 1) [(.ref a1)])) rfl rfl (hb hby d5_101)
  obtain ⟨T28, X28, e28, st28⟩ := getF X27 hx hZ hown (host := "") (Or.inl (ww hw 14 rfl)) Via.refl e27 F21 (g := (mkF m 107 (lc22 a1 q2 (-2) 1) [(.ref a1), (.int 1), (.ref a20)])) rfl rfl (hb hby d5_107)
  obtain ⟨T29, X29, e29, st29⟩ := getF X28 hx hZ hown (host := "") (Or.inl (ww hw 26 rfl)) Via.refl e28 F10 (g := (mkF m 115 (lc22 a1 q2 (-2) 1) [(.ref a1), (.int 2), (.ref a20), (.int 1), (.ref a20)])) rfl rfl (hb hby d5_115)
  have f31 : Arv Z h0 a20 kc24 (.object zs0) (16 : Int32) [(.ref a23), .null] .null := F25.pad (pad_rep [(.ref a23)] .null 1)
  obtain ⟨cl30, Ar30, q30, -⟩ := id f31
  obtain ⟨T30, h30, L30, X30, e30, N30, K30, V30, st30⟩ := cpA X29 hx hZ hown (ww hw 55 rfl) (ww hw 58 rfl) (ww hw 56 rfl) (ww hw 57 rfl) e29 (us := []) f31 f31 (Or.inr ⟨rfl, rfl, trivial⟩) (by decide) (by decide) (by decide) (by decide) (by decide) rfl (Nat.le_of_ble_eq_true rfl) N18 g32 (g := (mkF m 121 (lc22 a1 q2 (-2) 1) [(.int 0), (.int 2), (.ref a20), (.int 1), (.ref a20)])) rfl (by rw [hml]; rfl) rfl (hb hby d5_121) (by decide) (W := 0) (by show 2 * 0 + _ ≤ _; exact Nat.le_of_eq rfl) (by decide)
  have f34 : Arv Z h30 a20 kc24 (.object zs0) (16 : Int32) [(.ref a23), .null] .null := V30
  have f36 : Fld Z h30 a1 zs1 "ranks" "[J" (.ref a11) := (F12.keep K30 (ninS ne35 nin0))
  obtain ⟨T37, X37, e37, st37⟩ := getF X30 hx hZ hown (host := "") (Or.inl (ww hw 17 rfl)) Via.refl e30 f36 (g := (mkF m 125 (lc22 a1 q2 (-2) 1) [(.ref a1)])) rfl rfl (hb hby d5_125)
  obtain ⟨T38, X38, e38, st38⟩ := getF X37 hx hZ hown (host := "") (Or.inl (ww hw 17 rfl)) Via.refl e37 f36 (g := (mkF m 131 (lc22 a1 q2 (-2) 1) [(.ref a1), (.int 1), (.ref a11)])) rfl rfl (hb hby d5_131)
  have f39 : Fld Z h30 a1 zs1 "count" "I" (.int 1) := (F10.keep K30 (ninS ne35 nin0))
  obtain ⟨T40, X40, e40, st40⟩ := getF X38 hx hZ hown (host := "") (Or.inl (ww hw 26 rfl)) Via.refl e38 f39 (g := (mkF m 139 (lc22 a1 q2 (-2) 1) [(.ref a1), (.int 2), (.ref a11), (.int 1), (.ref a11)])) rfl rfl (hb hby d5_139)
  have f43 : Arv Z h30 a11 kc14 .long (16 : Int32) [(.long q13)] (.long (0 : Int64)) := (F15.keep K30 (ninS ne42 nin0))
  have f44 : Arv Z h30 a11 kc14 .long (16 : Int32) [(.long q13), (.long 0)] (.long (0 : Int64)) := f43.pad (pad_rep [(.long q13)] (.long (0 : Int64)) 1)
  obtain ⟨T41, h41, L41, X41, e41, N41, K41, V41, st41⟩ := cpA X40 hx hZ hown (ww hw 55 rfl) (ww hw 58 rfl) (ww hw 56 rfl) (ww hw 57 rfl) e40 (us := []) f44 f44 (Or.inl ⟨rfl, rfl⟩) (by decide) (by decide) (by decide) (by decide) (by decide) rfl (Nat.le_of_ble_eq_true rfl) N30 g45 (g := (mkF m 145 (lc22 a1 q2 (-2) 1) [(.int 0), (.int 2), (.ref a11), (.int 1), (.ref a11)])) rfl (by rw [hml]; rfl) rfl (hb hby d5_145) (by decide) (W := 0) (by show 2 * 0 + _ ≤ _; exact Nat.le_of_eq rfl) (by decide)
  have f46 : Arv Z h41 a11 kc14 .long (16 : Int32) [(.long q13), (.long 0)] (.long (0 : Int64)) := V41
  obtain ⟨T47, h47, X47, e47, E47, A47, D47, -, st47⟩ := newO X41 hx hZ hown (ww hw 12 rfl) (ww hw 59 rfl) (ww hw 60 rfl) e41 (g := (mkF m 148 (lc22 a1 q2 (-2) 1) [])) rfl (hb hby d5_148) (by decide) (by decide)
  obtain ⟨b47, g47⟩ : ∃ z, z = h41.size := ⟨_, rfl⟩
  rw [← g47] at A47 D47 st47
  have f48 : Fld Z h47 b47 zs0 "price" zs9 .null := D47 (Or.inr (ww hw 66 rfl)) (ty := (.object zs12)) (by decide)
  have f49 : Fld Z h47 b47 zs0 "priceSteps" "J" (.long 0) := D47 (Or.inr (ww hw 68 rfl)) (ty := .long) (by decide)
  have f50 : Fld Z h47 b47 zs0 "first" zs10 .null := D47 (Or.inl (ww hw 83 rfl)) (ty := (.object zs13)) (by decide)
  have Z_1 : n0 ≤ h30.size := Nat.le_trans Z0 K30.1
  have Z_2 : n0 ≤ h41.size := Nat.le_trans Z_1 K41.1
  have g52 : n0 ≤ b47 := Nat.le_trans Z_2 (Nat.le_of_eq g47.symm)
  have Z_3 : n0 ≤ h47.size := Nat.le_trans Z_2 E47.1
  obtain ⟨_, T51, L51, X51, hQ51, st51⟩ := ocallI X47 hx hZ zm6 rfl hown (ww hw 61 rfl) (ww hw 62 rfl) (by decide) (ww hw 63 rfl) (ww hw 60 rfl) e47 (rm9_9 l Z a0 hw [] b47 q2 h47 n0 Z_3 f48 f49 f50 A47 g52) (st := [(.long q2), .null, (.ref b47), (.ref b47)]) rfl 1 rfl (by decide) (pc := 154) (Ls := (lc22 a1 q2 (-2) 1)) hml rfl (lenOf pd_6 rfl) d5_154 hby
  obtain ⟨rfl, N51q, K51, f53, f54, f55⟩ := hQ51
  have N56 := Fr.app N41 N51q
  have ne58 : a1 ≠ b47 := Nat.ne_of_lt (Nat.lt_of_lt_of_le (Nat.lt_of_lt_of_le (Nat.lt_of_lt_of_le (F5.lt) K30.1) K41.1) (Nat.le_of_eq g47.symm))
  have f59 : Fld Z T51.heap a1 zs1 "levels" zs2 (.ref a20) := ((Fld.ext E47 ((F21.keep K30 (ninS ne35 nin0)).keep K41 (ninS ne57 nin0))).keep K51 (ninS ne58 nin0))
  obtain ⟨T60, X60, e60, st60⟩ := getF X51 hx hZ hown (host := "") (Or.inl (ww hw 14 rfl)) Via.refl rfl f59 (g := (mkF m 160 (lc24 a1 q2 (-2) 1 b47) [(.ref a1)])) rfl rfl (hb hby d5_160)
  have ne61 : a20 ≠ b47 := Nat.ne_of_lt (Nat.lt_of_lt_of_le (Nat.lt_of_lt_of_le (f34.lt) K41.1) (Nat.le_of_eq g47.symm))
  have f62 : Arv Z T51.heap a20 kc24 (.object zs0) (16 : Int32) [(.ref a23), .null] .null := (((f34.keep K41 (ninS (Ne.symm ne42) nin0)).ext E47).keep K51 (ninS ne61 nin0))
  have f63 : Exa Z T51.heap b47 zs0 := (A47.keep K51)
  obtain ⟨cl64, Ar64, q64, S64, N64, H64, G64⟩ := id f62
  have hin65 : ¬ ((1 : Int32) < 0 ∨ cl64.slots.size ≤ ((1 : Int32)).toNatClampNeg) := inb_of S64 ⟨by decide, by decide⟩
  obtain ⟨T65, h65, X65, e65, W65, st65⟩ := stR X60 hx hZ e60 Ar64 (j := (1 : Int32)) hin65 rfl (Sto.ofV Ar64 q64 O33 (Ins.self f63)) (g := (mkF m 167 (lc24 a1 q2 (-2) 1 b47) [(.ref b47), (.int 1), (.ref a20)])) rfl rfl (hb hby d5_167)
  have N66 := Fr.snoc X65 N56 g32
  have f67 : Arv Z h65 a20 kc24 (.object zs0) (16 : Int32) [(.ref a23), (.ref b47)] .null := Arv.set Ar64 q64 S64 N64 H64 G64 (by rfl) W65 1 rfl (Nat.le_of_ble_eq_true rfl)
  have f68 : Fld Z h65 a1 zs1 "ranks" "[J" (.ref a11) := (Fld.other W65 ((Fld.ext E47 (f36.keep K41 (ninS ne57 nin0))).keep K51 (ninS ne58 nin0)) (Or.inl ne35))
  obtain ⟨T69, X69, e69, st69⟩ := getF X65 hx hZ hown (host := "") (Or.inl (ww hw 17 rfl)) Via.refl e65 f68 (g := (mkF m 169 (lc24 a1 q2 (-2) 1 b47) [(.ref a1)])) rfl rfl (hb hby d5_169)
  have f71 : Fld Z h65 a1 zs1 "side" zs3 (.ref a4) := (Fld.other W65 ((Fld.ext E47 ((F5.keep K30 (ninS ne35 nin0)).keep K41 (ninS ne57 nin0))).keep K51 (ninS ne58 nin0)) (Or.inl ne35))
  have f72 : Sta Z h65 zs5 "BUY" zs3 (.ref a6) := (Sta.wr W65 (own_staK (Sta.ext E47 (own_staK (own_staK F7 K30 (allS (own_nsV f31) all0)) K41 (allS (own_nsV f44) all0))) K51 (allS (own_nsF f48) all0)))
  have Z_4 : n0 ≤ T51.heap.size := Nat.le_trans Z_3 K51.1
  have Z_5 : n0 ≤ h65.size := Nat.le_trans Z_4 (Keep.of_wr W65).1
  have f73 : Exa Z h65 a1 zs1 := (Exa.wr W65 ((Exa.ext E47 ((F9.keep K30).keep K41)).keep K51))
  obtain ⟨_, T70, L70, X70, hQ70, st70⟩ := ocallP X69 hx hZ zm3 hown (ww hw 42 rfl) (ww hw 43 rfl) (own_selP (mvT hZ (ww hw 4 rfl)) (mvP hZ (ww hw 44 rfl)) (mvT hZ (ww hw 43 rfl)) (by decide)) (ww hw 44 rfl) (by decide) (ww hw 45 rfl) (ww hw 5 rfl) e69 f73 (rm7_3 l Z a0 hw [] a1 q2 a4 a6 h65 n0 Z_5 f71 f72 ha8) (st := [(.long q2), (.ref a1), (.int 1), (.ref a11)]) rfl 2 rfl (by decide) (pc := 176) (Ls := (lc24 a1 q2 (-2) 1 b47)) hml rfl (lenOf pd_3 rfl) d5_176 hby
  obtain ⟨rfl, N70q, e70⟩ := hQ70
  have N74 := Fr.app N66 N70q
  have ne75 : a11 ≠ b47 := Nat.ne_of_lt (Nat.lt_of_lt_of_le (f46.lt) (Nat.le_of_eq g47.symm))
  have f76 : Arv Z h65 a11 kc14 .long (16 : Int32) [(.long q13), (.long 0)] (.long (0 : Int64)) := (((f46.ext E47).keep K51 (ninS ne75 nin0)).other W65 ne42)
  obtain ⟨cl77, Ar77, q77, S77, N77, H77, G77⟩ := id f76
  have hin78 : ¬ ((1 : Int32) < 0 ∨ cl77.slots.size ≤ ((1 : Int32)).toNatClampNeg) := inb_of S77 ⟨by decide, by decide⟩
  obtain ⟨T78, h78, X78, e78, W78, st78⟩ := stJ X70 hx hZ e70 Ar77 (j := (1 : Int32)) hin78 (g := (mkF m 179 (lc24 a1 q2 (-2) 1 b47) [(.long (q2 ^^^ (-1 : Int64))), (.int 1), (.ref a11)])) rfl rfl (hb hby d5_179)
  have N79 := Fr.snoc X78 N74 g45
  have f80 : Arv Z h78 a11 kc14 .long (16 : Int32) [(.long q13), (.long (q2 ^^^ (-1 : Int64)))] (.long (0 : Int64)) := Arv.set Ar77 q77 S77 N77 H77 G77 (by rfl) W78 1 rfl (Nat.le_of_ble_eq_true rfl)
  have f81 : Fld Z h78 a1 zs1 "count" "I" (.int 1) := (Fld.other W78 (Fld.other W65 ((Fld.ext E47 (f39.keep K41 (ninS ne57 nin0))).keep K51 (ninS ne58 nin0)) (Or.inl ne35)) (Or.inl ne57))
  obtain ⟨T82, X82, e82, st82⟩ := getF X78 hx hZ hown (host := "") (Or.inl (ww hw 26 rfl)) Via.refl e78 f81 (g := (mkF m 182 (lc24 a1 q2 (-2) 1 b47) [(.ref a1), (.ref a1)])) rfl rfl (hb hby d5_182)
  have f84 : Exa Z h78 a1 zs1 := (Exa.wr W78 f73)
  obtain ⟨T85, h85, X85, e85, W85, st85⟩ := putF X82 hx hZ hown (host := "") (Or.inl (ww hw 26 rfl)) Via.refl e82 f81 f84 (Or.inl (ww hw 27 rfl)) (ww hw 4 rfl) (ty := .int) (by decide) rfl rfl (g := (mkF m 187 (lc24 a1 q2 (-2) 1 b47) [(.int 2), (.ref a1)])) rfl rfl (hb hby d5_187)
  have N87 := Fr.snoc X85 N79 g86
  have f88 : Fld Z h85 a1 zs1 "count" "I" (.int 2) := Fld.same W85 f81
  refine own_go (U' := T85.setTop (mkF m 192 (lc24 a1 q2 (-2) 1 b47) [(.ref b47)])) (fun t k => oicY (pc := 60) X22 hx hby d5_60 100 (by decide) (by decide) (oaloadN X22 hx hby d5_100 rfl rfl (st27 _ (oiload X27 hx hby d5_104 rfl (oaloadN X27 hx hby d5_106 rfl rfl (st28 _ (oiload X28 hx hby d5_110 rfl (oiconst X28 hx hby d5_112 (oiadd X28 hx hby d5_113 (oaloadN X28 hx hby d5_114 rfl rfl (st29 _ (oiload X29 hx hby d5_118 rfl (oisub X29 hx hby d5_120 (st30 _ (oaloadN X30 hx hby d5_124 rfl rfl (st37 _ (oiload X37 hx hby d5_128 rfl (oaloadN X37 hx hby d5_130 rfl rfl (st38 _ (oiload X38 hx hby d5_134 rfl (oiconst X38 hx hby d5_136 (oiadd X38 hx hby d5_137 (oaloadN X38 hx hby d5_138 rfl rfl (st40 _ (oiload X40 hx hby d5_142 rfl (oisub X40 hx hby d5_144 (st41 _ (st47 _ (odup X47 hx hby d5_151 rfl (oaloadN X47 hx hby d5_152 rfl rfl (olloadN X47 hx hby d5_153 rfl (st51 _ (oastore X51 hx hby d5_157 (lc24 a1 q2 (-2) 1 b47) rfl rfl (oaloadN X51 hx hby d5_159 rfl rfl (st60 _ (oiload X60 hx hby d5_163 rfl (oaload X60 hx hby d5_165 rfl rfl (st65 _ (oaloadN X65 hx hby d5_168 rfl rfl (st69 _ (oiload X69 hx hby d5_172 rfl (oaloadN X69 hx hby d5_174 rfl rfl (olloadN X69 hx hby d5_175 rfl (st70 _ (st78 _ (oaloadN X78 hx hby d5_180 rfl rfl (odup X78 hx hby d5_181 rfl (st82 _ (oiconst X82 hx hby d5_185 (oiadd X82 hx hby d5_186 (st85 _ (oaload X85 hx hby d5_190 rfl rfl k)))))))))))))))))))))))))))))))))))))))))))))))))))) ?_
  have f89 : Arv Z h85 a20 kc24 (.object zs0) (16 : Int32) [(.ref a23), (.ref b47)] .null := ((f67.other W78 (Ne.symm ne42)).other W85 (Ne.symm ne35))
  have f90 : Arv Z h85 a11 kc14 .long (16 : Int32) [(.long q13), (.long (q2 ^^^ (-1 : Int64)))] (.long (0 : Int64)) := (f80.other W85 (Ne.symm ne57))
  have f91 : Fld Z h85 a1 zs1 "side" zs3 (.ref a4) := (Fld.other W85 (Fld.other W78 f71 (Or.inl ne57)) (Or.inr (slot_ne (Or.inr (ww hw 20 rfl)) (Or.inl (ww hw 27 rfl)) (by decide) (t := (.object zs5)) (t' := .int) (by decide) (by decide))))
  have f92 : Fld Z h85 a1 zs1 "ranks" "[J" (.ref a11) := (Fld.other W85 (Fld.other W78 f68 (Or.inl ne57)) (Or.inr (slot_ne (Or.inl (ww hw 18 rfl)) (Or.inl (ww hw 27 rfl)) (by decide) (t := (.array .long)) (t' := .int) (by decide) (by decide))))
  have f93 : Fld Z h85 a1 zs1 "levels" zs2 (.ref a20) := (Fld.other W85 (Fld.other W78 (Fld.other W65 f59 (Or.inl ne35)) (Or.inl ne57)) (Or.inr (slot_ne (Or.inl (ww hw 15 rfl)) (Or.inl (ww hw 27 rfl)) (by decide) (t := (.array (.object zs0))) (t' := .int) (by decide) (by decide))))
  have f94 : Fld Z h85 a1 zs1 "emptyLevels" "I" (.int 0) := (Fld.other W85 (Fld.other W78 (Fld.other W65 ((Fld.ext E47 ((F83.keep K30 (ninS ne35 nin0)).keep K41 (ninS ne57 nin0))).keep K51 (ninS ne58 nin0)) (Or.inl ne35)) (Or.inl ne57)) (Or.inr (slot_ne (Or.inl (ww hw 76 rfl)) (Or.inl (ww hw 27 rfl)) (by decide) (t := .int) (t' := .int) (by decide) (by decide))))
  have f95 : Exa Z h85 b47 zs0 := (Exa.wr W85 (Exa.wr W78 (Exa.wr W65 f63)))
  have f96 : Fld Z h85 b47 zs0 "price" zs9 .null := (Fld.other W85 (Fld.other W78 (Fld.other W65 f53 (Or.inl (Ne.symm ne61))) (Or.inl (Ne.symm ne75))) (Or.inl (Ne.symm ne58)))
  have f97 : Fld Z h85 b47 zs0 "priceSteps" "J" (.long q2) := (Fld.other W85 (Fld.other W78 (Fld.other W65 f54 (Or.inl (Ne.symm ne61))) (Or.inl (Ne.symm ne75))) (Or.inl (Ne.symm ne58)))
  have f98 : Fld Z h85 b47 zs0 "first" zs10 .null := (Fld.other W85 (Fld.other W78 (Fld.other W65 f55 (Or.inl (Ne.symm ne61))) (Or.inl (Ne.symm ne75))) (Or.inl (Ne.symm ne58)))
  obtain ⟨fs, hr, hrun, hended, hW, hsame⟩ := X85.leave (v := some (.ref b47)) (fun h => by rw [Bd.returns] at h; cases h)
  refine own_out ⟨_, _, ?_, hrun, hended, _, _, rfl, ?_, ⟨_, rfl⟩, hW, hsame.mono (by decide) (by decide)⟩
  · exact retOut X85 hx Bd.returns rfl (Or.inr (Or.inr (Or.inr (Or.inr ⟨rfl, rfl, rfl⟩)))) (hb hby d5_192) hr
  · show Q5_22 Z a1 q2 a4 a6 a11 q13 kc14 a20 a23 kc24 h0 n0 _ T85.heap _
    rw [e85]
    exact ⟨b47, rfl, N87, ((((Keep.trans ((Keep.trans (Keep.trans (Keep.refl h0 [a20, a11, a1]) K30 (allS (Or.inl (List.mem_of_getElem? (i := 0) rfl)) all0)) K41 (allS (Or.inl (List.mem_of_getElem? (i := 1) rfl)) all0)).ext E47) K51 (allS (Or.inr (Nat.le_trans K30.1 (Nat.le_trans K41.1 (Nat.le_of_eq g47.symm)))) all0)).wr W65 (Or.inl (List.mem_of_getElem? (i := 0) rfl))).wr W78 (Or.inl (List.mem_of_getElem? (i := 1) rfl))).wr W85 (Or.inl (List.mem_of_getElem? (i := 2) rfl))), (Nat.le_trans K30.1 (Nat.le_trans K41.1 (Nat.le_of_eq g47.symm))), f89, f90, f91, f88, f92, f93, f94, f95, f96, f97, f98⟩
def Q3_23 (Z : State) (a1 : Addr) (h0 : Heap) (n0 : Nat) (v : Option Value) (h : Heap) (L : List Loc) : Prop := v = some (.int 0) ∧ Fr n0 L ∧ h = h0
set_option maxRecDepth 65536 in
set_option maxHeartbeats 40000000 in
theorem rm3_23 (l : Launch) (Z : State) (a0 : Array Value) (hw : ∀ d ∈ tables_1, d.before a0 Z = true) (ws : List Jvm.Cond) (a1 : Addr) (h0 : Heap) (n0 : Nat) (Z0 : n0 ≤ h0.size) (F2 : Fld Z h0 a1 zs1 "count" "I" (.int 2)) :
    MetFree l zm1 (head1 (Jvm.Cond.code zm1 prog_2_method_2_code 1 (some .boolean) :: ws) ({ frames := 0, cells := 0, slots := 0, locals := 0 } : Room)) (fun a U => a = #[(.ref a1)] ∧ Z.Warmed39 U.vm ∧ U.heap = h0) (fun _ _ _ _ _ => True) (fun _ U o U' => ∃ v L, o = .returned v ∧ Q3_23 Z a1 h0 n0 v U'.heap L ∧ FrameEnd U o U' L ({ frames := 0, cells := 0, slots := 0, locals := 0 } : Room).cells ({ frames := 0, cells := 0, slots := 0, locals := 0 } : Room).slots) := by
  refine MetFree.of_bodySF (plainFor_of_name pn_com_example_srok_srok_engine_BookSide) hisR ?_
  intro p e s m args below meth c s₁ Bd hml0 hP hK
  obtain ⟨rfl, hZ, hh⟩ := hP
  have hx := Bd.exec
  have hby := Bd.bytes
  have hml : c.maxLocals = 1 := hml0
  have hown : s.vm.findClass zs1 = some m.cls := findClass_of_methodNamed Bd.named
  have hnm := (name_of_methodNamed Bd.named Bd.method).1
  have X0 : Stand p l e ({ frames := 0, cells := 0, slots := 0, locals := 0 } : Room) s m #[(.ref a1)] below meth c s₁ [] 0 0 := Stand.of_body Bd
  have e0 : s₁.heap = h0 := by rw [← hh, Bd.state]; rfl
  have N0 := Fr.nil n0
  refine own_pre (g' := mkF m 0 (lc6 a1) []) (ef_1 m a1) ?_
  obtain ⟨T3, X3, e3, st3⟩ := getF X0 hx hZ hown (host := "") (Or.inl (ww hw 26 rfl)) Via.refl e0 F2 (g := (mkF m 1 (lc6 a1) [(.ref a1)])) rfl rfl (hb hby d3_1)
  refine own_go (U' := T3.setTop (mkF m 4 (lc6 a1) [(.int 2)])) (fun t k => oaloadN X0 hx hby d3_0 rfl rfl (st3 _ k)) ?_
  refine own_go (U' := T3.setTop (mkF m 12 (lc6 a1) [(.int 0)])) (fun t k => oifY (pc := 4) X3 hx hby d3_4 11 (by decide) (by decide) (oiconst X3 hx hby d3_11 k)) ?_
  obtain ⟨fs, hr, hrun, hended, hW, hsame⟩ := X3.leave (v := some (.int 0)) (fun h => by rw [Bd.returns] at h; cases h)
  refine own_out ⟨_, _, ?_, hrun, hended, _, _, rfl, ?_, ⟨_, rfl⟩, hW, hsame.mono (by decide) (by decide)⟩
  · exact retN X3 hx (t := .boolean) Bd.returns (by simp) (hb hby d3_12) hr
  · show Q3_23 Z a1 h0 n0 _ T3.heap _
    rw [e3]
    exact ⟨rfl, N0, rfl⟩
def Q4_24 (Z : State) (a1 : Addr) (a4 : Addr) (a8 : Addr) (a9 : Addr) (kc10 : ClassId) (h0 : Heap) (n0 : Nat) (v : Option Value) (h : Heap) (L : List Loc) : Prop := v = some (.ref a9) ∧ Fr n0 L ∧ h = h0
set_option maxRecDepth 65536 in
set_option maxHeartbeats 40000000 in
theorem rm4_24 (l : Launch) (Z : State) (a0 : Array Value) (hw : ∀ d ∈ tables_1, d.before a0 Z = true) (ws : List Jvm.Cond) (a1 : Addr) (a4 : Addr) (a8 : Addr) (a9 : Addr) (kc10 : ClassId) (h0 : Heap) (n0 : Nat) (Z0 : n0 ≤ h0.size) (F2 : Fld Z h0 a1 zs1 "count" "I" (.int 2)) (F5 : Fld Z h0 a1 zs1 "levels" zs2 (.ref a4)) (F11 : Arv Z h0 a4 kc10 (.object zs0) (16 : Int32) [(.ref a8), (.ref a9)] .null) :
    MetFree l zm2 (head1 (Jvm.Cond.code zm2 prog_2_method_3_code 1 (some (.object zs0)) :: ws) ({ frames := 0, cells := 0, slots := 0, locals := 0 } : Room)) (fun a U => a = #[(.ref a1)] ∧ Z.Warmed39 U.vm ∧ U.heap = h0) (fun _ _ _ _ _ => True) (fun _ U o U' => ∃ v L, o = .returned v ∧ Q4_24 Z a1 a4 a8 a9 kc10 h0 n0 v U'.heap L ∧ FrameEnd U o U' L ({ frames := 0, cells := 0, slots := 0, locals := 0 } : Room).cells ({ frames := 0, cells := 0, slots := 0, locals := 0 } : Room).slots) := by
  refine MetFree.of_bodySF (plainFor_of_name pn_com_example_srok_srok_engine_BookSide) hisR ?_
  intro p e s m args below meth c s₁ Bd hml0 hP hK
  obtain ⟨rfl, hZ, hh⟩ := hP
  have hx := Bd.exec
  have hby := Bd.bytes
  have hml : c.maxLocals = 1 := hml0
  have hown : s.vm.findClass zs1 = some m.cls := findClass_of_methodNamed Bd.named
  have hnm := (name_of_methodNamed Bd.named Bd.method).1
  have X0 : Stand p l e ({ frames := 0, cells := 0, slots := 0, locals := 0 } : Room) s m #[(.ref a1)] below meth c s₁ [] 0 0 := Stand.of_body Bd
  have e0 : s₁.heap = h0 := by rw [← hh, Bd.state]; rfl
  have N0 := Fr.nil n0
  refine own_pre (g' := mkF m 0 (lc6 a1) []) (ef_1 m a1) ?_
  obtain ⟨T3, X3, e3, st3⟩ := getF X0 hx hZ hown (host := "") (Or.inl (ww hw 26 rfl)) Via.refl e0 F2 (g := (mkF m 1 (lc6 a1) [(.ref a1)])) rfl rfl (hb hby d4_1)
  refine own_go (U' := T3.setTop (mkF m 4 (lc6 a1) [(.int 2)])) (fun t k => oaloadN X0 hx hby d4_0 rfl rfl (st3 _ k)) ?_
  obtain ⟨T6, X6, e6, st6⟩ := getF X3 hx hZ hown (host := "") (Or.inl (ww hw 14 rfl)) Via.refl e3 F5 (g := (mkF m 12 (lc6 a1) [(.ref a1)])) rfl rfl (hb hby d4_12)
  obtain ⟨T7, X7, e7, st7⟩ := getF X6 hx hZ hown (host := "") (Or.inl (ww hw 26 rfl)) Via.refl e6 F2 (g := (mkF m 16 (lc6 a1) [(.ref a1), (.ref a4)])) rfl rfl (hb hby d4_16)
  obtain ⟨cl12, Ar12, q12, S12, N12, H12, G12⟩ := id F11
  have hin13 : ¬ ((1 : Int32) < 0 ∨ cl12.slots.size ≤ ((1 : Int32)).toNatClampNeg) := inb_of S12 ⟨by decide, by decide⟩
  have hat13 : cl12.slots[((1 : Int32)).toNatClampNeg]? = some (.ref a9) := Has.at H12 hin13 rfl
  refine own_go (U' := T7.setTop (mkF m 22 (lc6 a1) [(.ref a9)])) (fun t k => oifY (pc := 4) X3 hx hby d4_4 11 (by decide) (by decide) (oaloadN X3 hx hby d4_11 rfl rfl (st6 _ (oaloadN X6 hx hby d4_15 rfl rfl (st7 _ (oiconst X7 hx hby d4_19 (oisub X7 hx hby d4_20 (X7.aaload hx (j := (1 : Int32)) (v := (.ref a9)) (by rw [e7]; exact Ar12.1) (State.isArrayOf_alike hZ.alike Ar12.2.1) rfl Ar12.2.2 hin13 hat13 (g := (mkF m 21 (lc6 a1) [(.int 1), (.ref a4)])) rfl rfl (hb hby d4_21) _ k)))))))) ?_
  obtain ⟨fs, hr, hrun, hended, hW, hsame⟩ := X7.leave (v := some (.ref a9)) (fun h => by rw [Bd.returns] at h; cases h)
  refine own_out ⟨_, _, ?_, hrun, hended, _, _, rfl, ?_, ⟨_, rfl⟩, hW, hsame.mono (by decide) (by decide)⟩
  · exact retOut X7 hx Bd.returns rfl (Or.inr (Or.inr (Or.inr (Or.inr ⟨rfl, rfl, rfl⟩)))) (hb hby d4_22) hr
  · show Q4_24 Z a1 a4 a8 a9 kc10 h0 n0 _ T7.heap _
    rw [e7]
    exact ⟨rfl, N0, rfl⟩
def Q10_25 (Z : State) (a1 : Addr) (a2 : Addr) (a5 : Addr) (a8 : Addr) (a10 : Addr) (a22 : Addr) (kc23 : ClassId) (h0 : Heap) (n0 : Nat) (v : Option Value) (h : Heap) (L : List Loc) : Prop := v = none ∧ Fr n0 L ∧ Keep h0 h [a1, a10] ∧ Fld Z h a1 zs1 "emptyLevels" "I" (.int (-1)) ∧ Fld Z h a1 zs1 "side" zs3 (.ref a5) ∧ Fld Z h a1 zs1 "count" "I" (.int 0) ∧ Fld Z h a1 zs1 "ranks" "[J" (.ref a8) ∧ Fld Z h a1 zs1 "levels" zs2 (.ref a10) ∧ Arv Z h a10 kc23 (.object zs0) (16 : Int32) [.null, .null] .null
set_option maxRecDepth 65536 in
set_option maxHeartbeats 40000000 in
theorem rm10_25 (l : Launch) (Z : State) (a0 : Array Value) (hw : ∀ d ∈ tables_1, d.before a0 Z = true) (ws : List Jvm.Cond) (a1 : Addr) (a2 : Addr) (a5 : Addr) (a8 : Addr) (a10 : Addr) (a22 : Addr) (kc23 : ClassId) (h0 : Heap) (n0 : Nat) (Z0 : n0 ≤ h0.size) (F3 : Fld Z h0 a1 zs1 "emptyLevels" "I" (.int 0)) (F6 : Fld Z h0 a1 zs1 "side" zs3 (.ref a5)) (F7 : Fld Z h0 a1 zs1 "count" "I" (.int 2)) (F9 : Fld Z h0 a1 zs1 "ranks" "[J" (.ref a8)) (F11 : Fld Z h0 a1 zs1 "levels" zs2 (.ref a10)) (F12 : Exa Z h0 a1 zs1) (g14 : n0 ≤ a1) (F24 : Arv Z h0 a10 kc23 (.object zs0) (16 : Int32) [(.ref a22), (.ref a2)] .null) (ne25 : a10 ≠ a1) (F30 : Exa Z h0 a2 zs0) (F32 : Fld Z h0 a2 zs0 "first" zs10 .null) (ne33 : a2 ≠ a1) (g47 : n0 ≤ a10) (F65 : Exa Z h0 a22 zs0) (F67 : Fld Z h0 a22 zs0 "first" zs10 .null) (ne68 : a22 ≠ a1) (ne69 : a22 ≠ a10) :
    MetFree l zm9 (head1 (Jvm.Cond.code zm9 prog_2_method_6_code 4 none :: ws) ({ frames := 1, cells := 0, slots := 0, locals := 12 } : Room)) (fun a U => a = #[(.ref a1), (.ref a2)] ∧ Z.Warmed39 U.vm ∧ U.heap = h0) (fun _ _ _ _ _ => True) (fun _ U o U' => ∃ v L, o = .returned v ∧ Q10_25 Z a1 a2 a5 a8 a10 a22 kc23 h0 n0 v U'.heap L ∧ FrameEnd U o U' L ({ frames := 1, cells := 0, slots := 0, locals := 12 } : Room).cells ({ frames := 1, cells := 0, slots := 0, locals := 12 } : Room).slots) := by
  refine MetFree.of_bodySF (plainFor_of_name pn_com_example_srok_srok_engine_BookSide) hisR ?_
  intro p e s m args below meth c s₁ Bd hml0 hP hK
  obtain ⟨rfl, hZ, hh⟩ := hP
  have hx := Bd.exec
  have hby := Bd.bytes
  have hml : c.maxLocals = 4 := hml0
  have hown : s.vm.findClass zs1 = some m.cls := findClass_of_methodNamed Bd.named
  have hnm := (name_of_methodNamed Bd.named Bd.method).1
  have X0 : Stand p l e ({ frames := 1, cells := 0, slots := 0, locals := 12 } : Room) s m #[(.ref a1), (.ref a2)] below meth c s₁ [] 0 0 := Stand.of_body Bd
  have e0 : s₁.heap = h0 := by rw [← hh, Bd.state]; rfl
  have N0 := Fr.nil n0
  refine own_pre (g' := mkF m 0 (lc27 a1 a2) []) (ef_8 m a1 a2) ?_
  obtain ⟨T4, X4, e4, st4⟩ := getF X0 hx hZ hown (host := "") (Or.inl (ww hw 75 rfl)) Via.refl e0 F3 (g := (mkF m 2 (lc27 a1 a2) [(.ref a1), (.ref a1)])) rfl rfl (hb hby d10_2)
  obtain ⟨T13, h13, X13, e13, W13, st13⟩ := putF X4 hx hZ hown (host := "") (Or.inl (ww hw 75 rfl)) Via.refl e4 F3 F12 (Or.inl (ww hw 76 rfl)) (ww hw 4 rfl) (ty := .int) (by decide) rfl rfl (g := (mkF m 7 (lc27 a1 a2) [(.int 1), (.ref a1)])) rfl rfl (hb hby d10_7)
  have N15 := Fr.snoc X13 N0 g14
  have f16 : Fld Z h13 a1 zs1 "emptyLevels" "I" (.int 1) := Fld.same W13 F3
  have f17 : Fld Z h13 a1 zs1 "count" "I" (.int 2) := (Fld.other W13 F7 (Or.inr (slot_ne (Or.inl (ww hw 27 rfl)) (Or.inl (ww hw 76 rfl)) (by decide) (t := .int) (t' := .int) (by decide) (by decide))))
  obtain ⟨T18, X18, e18, st18⟩ := getF X13 hx hZ hown (host := "") (Or.inl (ww hw 26 rfl)) Via.refl e13 f17 (g := (mkF m 11 (lc27 a1 a2) [(.ref a1)])) rfl rfl (hb hby d10_11)
  refine own_go (U' := T18.setTop (mkF m 14 (lc27 a1 a2) [(.int 2)])) (fun t k => oaloadN X0 hx hby d10_0 rfl rfl (odup X0 hx hby d10_1 rfl (st4 _ (oiconst X4 hx hby d10_5 (oiadd X4 hx hby d10_6 (st13 _ (oaloadN X13 hx hby d10_10 rfl rfl (st18 _ k)))))))) ?_
  have f19 : Fld Z h13 a1 zs1 "levels" zs2 (.ref a10) := (Fld.other W13 F11 (Or.inr (slot_ne (Or.inl (ww hw 15 rfl)) (Or.inl (ww hw 76 rfl)) (by decide) (t := (.array (.object zs0))) (t' := .int) (by decide) (by decide))))
  obtain ⟨T20, X20, e20, st20⟩ := getF X18 hx hZ hown (host := "") (Or.inl (ww hw 14 rfl)) Via.refl e18 f19 (g := (mkF m 18 (lc27 a1 a2) [(.ref a1)])) rfl rfl (hb hby d10_18)
  obtain ⟨T21, X21, e21, st21⟩ := getF X20 hx hZ hown (host := "") (Or.inl (ww hw 26 rfl)) Via.refl e20 f17 (g := (mkF m 22 (lc27 a1 a2) [(.ref a1), (.ref a10)])) rfl rfl (hb hby d10_22)
  have f26 : Arv Z h13 a10 kc23 (.object zs0) (16 : Int32) [(.ref a22), (.ref a2)] .null := (F24.other W13 ne25)
  obtain ⟨cl27, Ar27, q27, S27, N27, H27, G27⟩ := id f26
  have hin28 : ¬ ((1 : Int32) < 0 ∨ cl27.slots.size ≤ ((1 : Int32)).toNatClampNeg) := inb_of S27 ⟨by decide, by decide⟩
  have hat28 : cl27.slots[((1 : Int32)).toNatClampNeg]? = some (.ref a2) := Has.at H27 hin28 rfl
  have f31 : Exa Z h13 a2 zs0 := (Exa.wr W13 F30)
  have f34 : Fld Z h13 a2 zs0 "first" zs10 .null := (Fld.other W13 F32 (Or.inl ne33))
  have Z_1 : n0 ≤ h13.size := Nat.le_trans Z0 (Keep.of_wr W13).1
  obtain ⟨_, T29, L29, X29, hQ29, st29⟩ := ocallV X21 hx hZ zm8 zm8 hown (ww hw 77 rfl) (ww hw 78 rfl) (notFace_of_selects (args := #[]) (mvT hZ (ww hw 80 rfl))) (ww hw 80 rfl) (ww hw 79 rfl) (by decide) (ww hw 81 rfl) (ww hw 60 rfl) e21 f31 (rm11_13 l Z a0 hw [] a2 h13 n0 Z_1 f34) (st := [(.ref a2)]) rfl 0 rfl (by decide) (pc := 28) (Ls := (lc27 a1 a2)) hml rfl (lenOf pd_1 rfl) d10_28 hby
  obtain ⟨rfl, N29q, e29⟩ := hQ29
  have N35 := Fr.app N15 N29q
  refine own_go (U' := T29.setTop (mkF m 31 (lc27 a1 a2) [(.int 1)])) (fun t k => oifN X18 hx hby d10_14 (by decide) (oaloadN X18 hx hby d10_17 rfl rfl (st20 _ (oaloadN X20 hx hby d10_21 rfl rfl (st21 _ (oiconst X21 hx hby d10_25 (oisub X21 hx hby d10_26 (X21.aaload hx (j := (1 : Int32)) (v := (.ref a2)) (by rw [e21]; exact Ar27.1) (State.isArrayOf_alike hZ.alike Ar27.2.1) rfl Ar27.2.2 hin28 hat28 (g := (mkF m 27 (lc27 a1 a2) [(.int 1), (.ref a10)])) rfl rfl (hb hby d10_27) _ (st29 _ k))))))))) ?_
  obtain ⟨T36, X36, e36, st36⟩ := getF X29 hx hZ hown (host := "") (Or.inl (ww hw 26 rfl)) Via.refl e29 f17 (g := (mkF m 36 (lc27 a1 a2) [(.ref a1), (.ref a1)])) rfl rfl (hb hby d10_36)
  have f37 : Exa Z h13 a1 zs1 := (Exa.wr W13 F12)
  obtain ⟨T38, h38, X38, e38, W38, st38⟩ := putF X36 hx hZ hown (host := "") (Or.inl (ww hw 26 rfl)) Via.refl e36 f17 f37 (Or.inl (ww hw 27 rfl)) (ww hw 4 rfl) (ty := .int) (by decide) rfl rfl (g := (mkF m 41 (lc27 a1 a2) [(.int 1), (.ref a1)])) rfl rfl (hb hby d10_41)
  have N39 := Fr.snoc X38 N35 g14
  have f40 : Fld Z h38 a1 zs1 "count" "I" (.int 1) := Fld.same W38 f17
  have f41 : Fld Z h38 a1 zs1 "levels" zs2 (.ref a10) := (Fld.other W38 f19 (Or.inr (slot_ne (Or.inl (ww hw 15 rfl)) (Or.inl (ww hw 27 rfl)) (by decide) (t := (.array (.object zs0))) (t' := .int) (by decide) (by decide))))
  obtain ⟨T42, X42, e42, st42⟩ := getF X38 hx hZ hown (host := "") (Or.inl (ww hw 14 rfl)) Via.refl e38 f41 (g := (mkF m 45 (lc27 a1 a2) [(.ref a1)])) rfl rfl (hb hby d10_45)
  obtain ⟨T43, X43, e43, st43⟩ := getF X42 hx hZ hown (host := "") (Or.inl (ww hw 26 rfl)) Via.refl e42 f40 (g := (mkF m 49 (lc27 a1 a2) [(.ref a1), (.ref a10)])) rfl rfl (hb hby d10_49)
  have f44 : Arv Z h38 a10 kc23 (.object zs0) (16 : Int32) [(.ref a22), (.ref a2)] .null := (f26.other W38 ne25)
  obtain ⟨cl45, Ar45, q45, S45, N45, H45, G45⟩ := id f44
  have hin46 : ¬ ((1 : Int32) < 0 ∨ cl45.slots.size ≤ ((1 : Int32)).toNatClampNeg) := inb_of S45 ⟨by decide, by decide⟩
  obtain ⟨T46, h46, X46, e46, W46, st46⟩ := stR X43 hx hZ e43 Ar45 (j := (1 : Int32)) hin46 rfl (Or.inl rfl) (g := (mkF m 53 (lc27 a1 a2) [.null, (.int 1), (.ref a10)])) rfl rfl (hb hby d10_53)
  have N48 := Fr.snoc X46 N39 g47
  have f49 : Arv Z h46 a10 kc23 (.object zs0) (16 : Int32) [(.ref a22), .null] .null := Arv.set Ar45 q45 S45 N45 H45 G45 (by rfl) W46 1 rfl (Nat.le_of_ble_eq_true rfl)
  have f50 : Fld Z h46 a1 zs1 "emptyLevels" "I" (.int 1) := (Fld.other W46 (Fld.other W38 f16 (Or.inr (slot_ne (Or.inl (ww hw 76 rfl)) (Or.inl (ww hw 27 rfl)) (by decide) (t := .int) (t' := .int) (by decide) (by decide)))) (Or.inl (Ne.symm ne25)))
  obtain ⟨T51, X51, e51, st51⟩ := getF X46 hx hZ hown (host := "") (Or.inl (ww hw 75 rfl)) Via.refl e46 f50 (g := (mkF m 56 (lc27 a1 a2) [(.ref a1), (.ref a1)])) rfl rfl (hb hby d10_56)
  have f52 : Exa Z h46 a1 zs1 := (Exa.wr W46 (Exa.wr W38 f37))
  obtain ⟨T53, h53, X53, e53, W53, st53⟩ := putF X51 hx hZ hown (host := "") (Or.inl (ww hw 75 rfl)) Via.refl e51 f50 f52 (Or.inl (ww hw 76 rfl)) (ww hw 4 rfl) (ty := .int) (by decide) rfl rfl (g := (mkF m 61 (lc27 a1 a2) [(.int 0), (.ref a1)])) rfl rfl (hb hby d10_61)
  have N54 := Fr.snoc X53 N48 g14
  have f55 : Fld Z h53 a1 zs1 "emptyLevels" "I" (.int 0) := Fld.same W53 f50
  have f56 : Fld Z h53 a1 zs1 "count" "I" (.int 1) := (Fld.other W53 (Fld.other W46 f40 (Or.inl (Ne.symm ne25))) (Or.inr (slot_ne (Or.inl (ww hw 27 rfl)) (Or.inl (ww hw 76 rfl)) (by decide) (t := .int) (t' := .int) (by decide) (by decide))))
  obtain ⟨T57, X57, e57, st57⟩ := getF X53 hx hZ hown (host := "") (Or.inl (ww hw 26 rfl)) Via.refl e53 f56 (g := (mkF m 11 (lc27 a1 a2) [(.ref a1)])) rfl rfl (hb hby d10_11)
  refine own_go (U' := T57.setTop (mkF m 14 (lc27 a1 a2) [(.int 1)])) (fun t k => oifN X29 hx hby d10_31 (by decide) (oaloadN X29 hx hby d10_34 rfl rfl (odup X29 hx hby d10_35 rfl (st36 _ (oiconst X36 hx hby d10_39 (oisub X36 hx hby d10_40 (st38 _ (oaloadN X38 hx hby d10_44 rfl rfl (st42 _ (oaloadN X42 hx hby d10_48 rfl rfl (st43 _ (onull X43 hx hby d10_52 (st46 _ (oaloadN X46 hx hby d10_54 rfl rfl (odup X46 hx hby d10_55 rfl (st51 _ (oiconst X51 hx hby d10_59 (oisub X51 hx hby d10_60 (st53 _ (ogoto (pc := 64) X53 hx hby d10_64 10 (by decide) (oaloadN X53 hx hby d10_10 rfl rfl (st57 _ k)))))))))))))))))))))) ?_
  have f58 : Fld Z h53 a1 zs1 "levels" zs2 (.ref a10) := (Fld.other W53 (Fld.other W46 f41 (Or.inl (Ne.symm ne25))) (Or.inr (slot_ne (Or.inl (ww hw 15 rfl)) (Or.inl (ww hw 76 rfl)) (by decide) (t := (.array (.object zs0))) (t' := .int) (by decide) (by decide))))
  obtain ⟨T59, X59, e59, st59⟩ := getF X57 hx hZ hown (host := "") (Or.inl (ww hw 14 rfl)) Via.refl e57 f58 (g := (mkF m 18 (lc27 a1 a2) [(.ref a1)])) rfl rfl (hb hby d10_18)
  obtain ⟨T60, X60, e60, st60⟩ := getF X59 hx hZ hown (host := "") (Or.inl (ww hw 26 rfl)) Via.refl e59 f56 (g := (mkF m 22 (lc27 a1 a2) [(.ref a1), (.ref a10)])) rfl rfl (hb hby d10_22)
  have f61 : Arv Z h53 a10 kc23 (.object zs0) (16 : Int32) [(.ref a22), .null] .null := (f49.other W53 ne25)
  obtain ⟨cl62, Ar62, q62, S62, N62, H62, G62⟩ := id f61
  have hin63 : ¬ ((0 : Int32) < 0 ∨ cl62.slots.size ≤ ((0 : Int32)).toNatClampNeg) := inb_of S62 ⟨by decide, by decide⟩
  have hat63 : cl62.slots[((0 : Int32)).toNatClampNeg]? = some (.ref a22) := Has.at H62 hin63 rfl
  have f66 : Exa Z h53 a22 zs0 := (Exa.wr W53 (Exa.wr W46 (Exa.wr W38 (Exa.wr W13 F65))))
  have f70 : Fld Z h53 a22 zs0 "first" zs10 .null := (Fld.other W53 (Fld.other W46 (Fld.other W38 (Fld.other W13 F67 (Or.inl ne68)) (Or.inl ne68)) (Or.inl ne69)) (Or.inl ne68))
  have Z_2 : n0 ≤ h38.size := Nat.le_trans Z_1 (Keep.of_wr W38).1
  have Z_3 : n0 ≤ h46.size := Nat.le_trans Z_2 (Keep.of_wr W46).1
  have Z_4 : n0 ≤ h53.size := Nat.le_trans Z_3 (Keep.of_wr W53).1
  obtain ⟨_, T64, L64, X64, hQ64, st64⟩ := ocallV X60 hx hZ zm8 zm8 hown (ww hw 77 rfl) (ww hw 78 rfl) (notFace_of_selects (args := #[]) (mvT hZ (ww hw 80 rfl))) (ww hw 80 rfl) (ww hw 79 rfl) (by decide) (ww hw 81 rfl) (ww hw 60 rfl) e60 f66 (rm11_13 l Z a0 hw [] a22 h53 n0 Z_4 f70) (st := [(.ref a22)]) rfl 0 rfl (by decide) (pc := 28) (Ls := (lc27 a1 a2)) hml rfl (lenOf pd_1 rfl) d10_28 hby
  obtain ⟨rfl, N64q, e64⟩ := hQ64
  have N71 := Fr.app N54 N64q
  refine own_go (U' := T64.setTop (mkF m 31 (lc27 a1 a2) [(.int 1)])) (fun t k => oifN X57 hx hby d10_14 (by decide) (oaloadN X57 hx hby d10_17 rfl rfl (st59 _ (oaloadN X59 hx hby d10_21 rfl rfl (st60 _ (oiconst X60 hx hby d10_25 (oisub X60 hx hby d10_26 (X60.aaload hx (j := (0 : Int32)) (v := (.ref a22)) (by rw [e60]; exact Ar62.1) (State.isArrayOf_alike hZ.alike Ar62.2.1) rfl Ar62.2.2 hin63 hat63 (g := (mkF m 27 (lc27 a1 a2) [(.int 0), (.ref a10)])) rfl rfl (hb hby d10_27) _ (st64 _ k))))))))) ?_
  obtain ⟨T72, X72, e72, st72⟩ := getF X64 hx hZ hown (host := "") (Or.inl (ww hw 26 rfl)) Via.refl e64 f56 (g := (mkF m 36 (lc27 a1 a2) [(.ref a1), (.ref a1)])) rfl rfl (hb hby d10_36)
  have f73 : Exa Z h53 a1 zs1 := (Exa.wr W53 f52)
  obtain ⟨T74, h74, X74, e74, W74, st74⟩ := putF X72 hx hZ hown (host := "") (Or.inl (ww hw 26 rfl)) Via.refl e72 f56 f73 (Or.inl (ww hw 27 rfl)) (ww hw 4 rfl) (ty := .int) (by decide) rfl rfl (g := (mkF m 41 (lc27 a1 a2) [(.int 0), (.ref a1)])) rfl rfl (hb hby d10_41)
  have N75 := Fr.snoc X74 N71 g14
  have f76 : Fld Z h74 a1 zs1 "count" "I" (.int 0) := Fld.same W74 f56
  have f77 : Fld Z h74 a1 zs1 "levels" zs2 (.ref a10) := (Fld.other W74 f58 (Or.inr (slot_ne (Or.inl (ww hw 15 rfl)) (Or.inl (ww hw 27 rfl)) (by decide) (t := (.array (.object zs0))) (t' := .int) (by decide) (by decide))))
  obtain ⟨T78, X78, e78, st78⟩ := getF X74 hx hZ hown (host := "") (Or.inl (ww hw 14 rfl)) Via.refl e74 f77 (g := (mkF m 45 (lc27 a1 a2) [(.ref a1)])) rfl rfl (hb hby d10_45)
  obtain ⟨T79, X79, e79, st79⟩ := getF X78 hx hZ hown (host := "") (Or.inl (ww hw 26 rfl)) Via.refl e78 f76 (g := (mkF m 49 (lc27 a1 a2) [(.ref a1), (.ref a10)])) rfl rfl (hb hby d10_49)
  have f80 : Arv Z h74 a10 kc23 (.object zs0) (16 : Int32) [(.ref a22), .null] .null := (f61.other W74 ne25)
  obtain ⟨cl81, Ar81, q81, S81, N81, H81, G81⟩ := id f80
  have hin82 : ¬ ((0 : Int32) < 0 ∨ cl81.slots.size ≤ ((0 : Int32)).toNatClampNeg) := inb_of S81 ⟨by decide, by decide⟩
  obtain ⟨T82, h82, X82, e82, W82, st82⟩ := stR X79 hx hZ e79 Ar81 (j := (0 : Int32)) hin82 rfl (Or.inl rfl) (g := (mkF m 53 (lc27 a1 a2) [.null, (.int 0), (.ref a10)])) rfl rfl (hb hby d10_53)
  have N83 := Fr.snoc X82 N75 g47
  have f84 : Arv Z h82 a10 kc23 (.object zs0) (16 : Int32) [.null, .null] .null := Arv.set Ar81 q81 S81 N81 H81 G81 (by rfl) W82 0 rfl (Nat.le_of_ble_eq_true rfl)
  have f85 : Fld Z h82 a1 zs1 "emptyLevels" "I" (.int 0) := (Fld.other W82 (Fld.other W74 f55 (Or.inr (slot_ne (Or.inl (ww hw 76 rfl)) (Or.inl (ww hw 27 rfl)) (by decide) (t := .int) (t' := .int) (by decide) (by decide)))) (Or.inl (Ne.symm ne25)))
  obtain ⟨T86, X86, e86, st86⟩ := getF X82 hx hZ hown (host := "") (Or.inl (ww hw 75 rfl)) Via.refl e82 f85 (g := (mkF m 56 (lc27 a1 a2) [(.ref a1), (.ref a1)])) rfl rfl (hb hby d10_56)
  refine own_go (U' := T86.setTop (mkF m 61 (lc27 a1 a2) [(.int ((0 : Int32) - (1 : Int32))), (.ref a1)])) (fun t k => oifN X64 hx hby d10_31 (by decide) (oaloadN X64 hx hby d10_34 rfl rfl (odup X64 hx hby d10_35 rfl (st72 _ (oiconst X72 hx hby d10_39 (oisub X72 hx hby d10_40 (st74 _ (oaloadN X74 hx hby d10_44 rfl rfl (st78 _ (oaloadN X78 hx hby d10_48 rfl rfl (st79 _ (onull X79 hx hby d10_52 (st82 _ (oaloadN X82 hx hby d10_54 rfl rfl (odup X82 hx hby d10_55 rfl (st86 _ (oiconst X86 hx hby d10_59 (oisub X86 hx hby d10_60 k)))))))))))))))))) ?_
  rw [show ((0 : Int32) - (1 : Int32)) = (-1 : Int32) from by decide]
  have f87 : Exa Z h82 a1 zs1 := (Exa.wr W82 (Exa.wr W74 f73))
  obtain ⟨T88, h88, X88, e88, W88, st88⟩ := putF X86 hx hZ hown (host := "") (Or.inl (ww hw 75 rfl)) Via.refl e86 f85 f87 (Or.inl (ww hw 76 rfl)) (ww hw 4 rfl) (ty := .int) (by decide) rfl rfl (g := (mkF m 61 (lc27 a1 a2) [(.int (-1)), (.ref a1)])) rfl rfl (hb hby d10_61)
  have N89 := Fr.snoc X88 N83 g14
  have f90 : Fld Z h88 a1 zs1 "emptyLevels" "I" (.int (-1)) := Fld.same W88 f85
  have f91 : Fld Z h88 a1 zs1 "count" "I" (.int 0) := (Fld.other W88 (Fld.other W82 f76 (Or.inl (Ne.symm ne25))) (Or.inr (slot_ne (Or.inl (ww hw 27 rfl)) (Or.inl (ww hw 76 rfl)) (by decide) (t := .int) (t' := .int) (by decide) (by decide))))
  obtain ⟨T92, X92, e92, st92⟩ := getF X88 hx hZ hown (host := "") (Or.inl (ww hw 26 rfl)) Via.refl e88 f91 (g := (mkF m 11 (lc27 a1 a2) [(.ref a1)])) rfl rfl (hb hby d10_11)
  refine own_go (U' := T92.setTop (mkF m 14 (lc27 a1 a2) [(.int 0)])) (fun t k => st88 _ (ogoto (pc := 64) X88 hx hby d10_64 10 (by decide) (oaloadN X88 hx hby d10_10 rfl rfl (st92 _ k)))) ?_
  obtain ⟨T93, X93, e93, st93⟩ := getF X92 hx hZ hown (host := "") (Or.inl (ww hw 75 rfl)) Via.refl e92 f90 (g := (mkF m 68 (lc27 a1 a2) [(.ref a1)])) rfl rfl (hb hby d10_68)
  refine own_go (U' := T93.setTop (mkF m 73 (lc27 a1 a2) [(.int ((-1 : Int32) * (2 : Int32)))])) (fun t k => oifY (pc := 14) X92 hx hby d10_14 67 (by decide) (by decide) (oaloadN X92 hx hby d10_67 rfl rfl (st93 _ (oiconst X93 hx hby d10_71 (oimul X93 hx hby d10_72 k))))) ?_
  rw [show ((-1 : Int32) * (2 : Int32)) = (-2 : Int32) from by decide]
  obtain ⟨T94, X94, e94, st94⟩ := getF X93 hx hZ hown (host := "") (Or.inl (ww hw 26 rfl)) Via.refl e93 f91 (g := (mkF m 74 (lc27 a1 a2) [(.ref a1), (.int (-2))])) rfl rfl (hb hby d10_74)
  refine own_go (U' := T94.setTop (mkF m 77 (lc27 a1 a2) [(.int 0), (.int (-2))])) (fun t k => oaloadN X93 hx hby d10_73 rfl rfl (st94 _ k)) ?_
  refine own_go (U' := T94.setTop (mkF m 80 (lc27 a1 a2) [])) (fun t k => oicN X94 hx hby d10_77 (by decide) k) ?_
  have f95 : Fld Z h88 a1 zs1 "side" zs3 (.ref a5) := (Fld.other W88 (Fld.other W82 (Fld.other W74 (Fld.other W53 (Fld.other W46 (Fld.other W38 (Fld.other W13 F6 (Or.inr (slot_ne (Or.inr (ww hw 20 rfl)) (Or.inl (ww hw 76 rfl)) (by decide) (t := (.object zs5)) (t' := .int) (by decide) (by decide)))) (Or.inr (slot_ne (Or.inr (ww hw 20 rfl)) (Or.inl (ww hw 27 rfl)) (by decide) (t := (.object zs5)) (t' := .int) (by decide) (by decide)))) (Or.inl (Ne.symm ne25))) (Or.inr (slot_ne (Or.inr (ww hw 20 rfl)) (Or.inl (ww hw 76 rfl)) (by decide) (t := (.object zs5)) (t' := .int) (by decide) (by decide)))) (Or.inr (slot_ne (Or.inr (ww hw 20 rfl)) (Or.inl (ww hw 27 rfl)) (by decide) (t := (.object zs5)) (t' := .int) (by decide) (by decide)))) (Or.inl (Ne.symm ne25))) (Or.inr (slot_ne (Or.inr (ww hw 20 rfl)) (Or.inl (ww hw 76 rfl)) (by decide) (t := (.object zs5)) (t' := .int) (by decide) (by decide))))
  have f96 : Fld Z h88 a1 zs1 "ranks" "[J" (.ref a8) := (Fld.other W88 (Fld.other W82 (Fld.other W74 (Fld.other W53 (Fld.other W46 (Fld.other W38 (Fld.other W13 F9 (Or.inr (slot_ne (Or.inl (ww hw 18 rfl)) (Or.inl (ww hw 76 rfl)) (by decide) (t := (.array .long)) (t' := .int) (by decide) (by decide)))) (Or.inr (slot_ne (Or.inl (ww hw 18 rfl)) (Or.inl (ww hw 27 rfl)) (by decide) (t := (.array .long)) (t' := .int) (by decide) (by decide)))) (Or.inl (Ne.symm ne25))) (Or.inr (slot_ne (Or.inl (ww hw 18 rfl)) (Or.inl (ww hw 76 rfl)) (by decide) (t := (.array .long)) (t' := .int) (by decide) (by decide)))) (Or.inr (slot_ne (Or.inl (ww hw 18 rfl)) (Or.inl (ww hw 27 rfl)) (by decide) (t := (.array .long)) (t' := .int) (by decide) (by decide)))) (Or.inl (Ne.symm ne25))) (Or.inr (slot_ne (Or.inl (ww hw 18 rfl)) (Or.inl (ww hw 76 rfl)) (by decide) (t := (.array .long)) (t' := .int) (by decide) (by decide))))
  have f97 : Fld Z h88 a1 zs1 "levels" zs2 (.ref a10) := (Fld.other W88 (Fld.other W82 f77 (Or.inl (Ne.symm ne25))) (Or.inr (slot_ne (Or.inl (ww hw 15 rfl)) (Or.inl (ww hw 76 rfl)) (by decide) (t := (.array (.object zs0))) (t' := .int) (by decide) (by decide))))
  have f98 : Arv Z h88 a10 kc23 (.object zs0) (16 : Int32) [.null, .null] .null := (f84.other W88 ne25)
  obtain ⟨fs, hr, hrun, hended, hW, hsame⟩ := X94.leave (v := none) (fun _ => rfl)
  refine own_out ⟨_, _, ?_, hrun, hended, _, _, rfl, ?_, ⟨_, rfl⟩, hW, hsame.mono (by decide) (by decide)⟩
  · exact X94.returnOut hx Bd.returns (hb hby d10_80) hr
  · show Q10_25 Z a1 a2 a5 a8 a10 a22 kc23 h0 n0 _ T94.heap _
    rw [e94]
    exact ⟨rfl, N89, ((((((((Keep.refl h0 [a1, a10]).wr W13 (Or.inl (List.mem_of_getElem? (i := 0) rfl))).wr W38 (Or.inl (List.mem_of_getElem? (i := 0) rfl))).wr W46 (Or.inl (List.mem_of_getElem? (i := 1) rfl))).wr W53 (Or.inl (List.mem_of_getElem? (i := 0) rfl))).wr W74 (Or.inl (List.mem_of_getElem? (i := 0) rfl))).wr W82 (Or.inl (List.mem_of_getElem? (i := 1) rfl))).wr W88 (Or.inl (List.mem_of_getElem? (i := 0) rfl))), f90, f95, f91, f96, f97, f98⟩
def Qmg6_26 (Z : State) (a1 : Addr) (q2 : Int64) (a3 : Addr) (a5 : Addr) (h0 : Heap) (n0 : Nat) (v : Option Value) (h : Heap) (L : List Loc) : Prop := v = some (.int (-1)) ∧ Fr n0 L ∧ h = h0
theorem mg6_26 (l : Launch) (Z : State) (a0 : Array Value) (hw : ∀ d ∈ tables_1, d.before a0 Z = true) (ws : List Jvm.Cond) (a1 : Addr) (q2 : Int64) (a3 : Addr) (a5 : Addr) (h0 : Heap) (n0 : Nat) (Z0 : n0 ≤ h0.size) (F4 : Fld Z h0 a1 zs1 "side" zs3 (.ref a3)) (F6 : Sta Z h0 zs5 "BUY" zs3 (.ref a5)) (ha7 : a3 ≠ a5) (F8 : Exa Z h0 a1 zs1) (F9 : Fld Z h0 a1 zs1 "count" "I" (.int 0)) (hc10 : ¬ ((q2 ^^^ (-1 : Int64)) = (-9223372036854775808 : Int64))) :
    MetFree l zm5 (head1 (Jvm.Cond.code zm5 prog_2_method_8_code 11 (some .int) :: ws) ({ frames := 1, cells := 0, slots := 0, locals := 14 } : Room)) (fun a U => a = #[(.ref a1), (.long q2), .null] ∧ Z.Warmed39 U.vm ∧ U.heap = h0) (fun _ _ _ _ _ => True) (fun _ U o U' => ∃ v L, o = .returned v ∧ Qmg6_26 Z a1 q2 a3 a5 h0 n0 v U'.heap L ∧ FrameEnd U o U' L ({ frames := 1, cells := 0, slots := 0, locals := 14 } : Room).cells ({ frames := 1, cells := 0, slots := 0, locals := 14 } : Room).slots) := by
  by_cases hm1 : (q2 ^^^ (-1 : Int64)) = (9223372036854775807 : Int64)
  · exact rm6_6 l Z a0 hw ws a1 q2 a3 a5 h0 n0 Z0 F4 F6 ha7 F8 F9 hc10 hm1
  · exact rm6_7 l Z a0 hw ws a1 q2 a3 a5 h0 n0 Z0 F4 F6 ha7 F8 F9 hc10 hm1
def Q5_27 (Z : State) (a1 : Addr) (q2 : Int64) (a4 : Addr) (a6 : Addr) (a14 : Addr) (kc17 : ClassId) (a28 : Addr) (kc37 : ClassId) (h0 : Heap) (n0 : Nat) (v : Option Value) (h : Heap) (L : List Loc) : Prop := ∃ b44 : Addr, v = some (.ref b44) ∧ Fr n0 L ∧ Keep h0 h [a14, a28, a1] ∧ h0.size ≤ b44 ∧ Arv Z h a14 kc17 (.object zs0) (16 : Int32) [(.ref b44)] .null ∧ Arv Z h a28 kc37 .long (16 : Int32) [(.long (q2 ^^^ (-1 : Int64)))] (.long (0 : Int64)) ∧ Fld Z h a1 zs1 "side" zs3 (.ref a4) ∧ Fld Z h a1 zs1 "count" "I" (.int 1) ∧ Fld Z h a1 zs1 "levels" zs2 (.ref a14) ∧ Fld Z h a1 zs1 "ranks" "[J" (.ref a28) ∧ Fld Z h a1 zs1 "emptyLevels" "I" (.int 0) ∧ Exa Z h b44 zs0 ∧ Fld Z h b44 zs0 "price" zs9 .null ∧ Fld Z h b44 zs0 "priceSteps" "J" (.long q2) ∧ Fld Z h b44 zs0 "first" zs10 .null
set_option maxRecDepth 65536 in
set_option maxHeartbeats 40000000 in
theorem rm5_27 (l : Launch) (Z : State) (a0 : Array Value) (hw : ∀ d ∈ tables_1, d.before a0 Z = true) (ws : List Jvm.Cond) (a1 : Addr) (q2 : Int64) (a4 : Addr) (a6 : Addr) (a14 : Addr) (kc17 : ClassId) (a28 : Addr) (kc37 : ClassId) (h0 : Heap) (n0 : Nat) (Z0 : n0 ≤ h0.size) (F5 : Fld Z h0 a1 zs1 "side" zs3 (.ref a4)) (F7 : Sta Z h0 zs5 "BUY" zs3 (.ref a6)) (ha8 : a4 ≠ a6) (F9 : Exa Z h0 a1 zs1) (F10 : Fld Z h0 a1 zs1 "count" "I" (.int 0)) (hc11 : ¬ ((q2 ^^^ (-1 : Int64)) = (-9223372036854775808 : Int64))) (F15 : Fld Z h0 a1 zs1 "levels" zs2 (.ref a14)) (F18 : Arv Z h0 a14 kc17 (.object zs0) (16 : Int32) [] .null) (g25 : n0 ≤ a14) (O26 : Ovr Z kc17 zs0) (F29 : Fld Z h0 a1 zs1 "ranks" "[J" (.ref a28)) (ne30 : a1 ≠ a14) (F38 : Arv Z h0 a28 kc37 .long (16 : Int32) [] (.long (0 : Int64))) (ne39 : a28 ≠ a14) (g42 : n0 ≤ a28) (ne54 : a1 ≠ a28) (F80 : Fld Z h0 a1 zs1 "emptyLevels" "I" (.int 0)) (g83 : n0 ≤ a1) :
    MetFree l zm7 (head1 (Jvm.Cond.code zm7 prog_2_method_5_code 7 (some (.object zs0)) :: ws) ({ frames := 2, cells := 1, slots := 4, locals := 36 } : Room)) (fun a U => a = #[(.ref a1), (.long q2), .null] ∧ Z.Warmed39 U.vm ∧ U.heap = h0) (fun _ _ _ _ _ => True) (fun _ U o U' => ∃ v L, o = .returned v ∧ Q5_27 Z a1 q2 a4 a6 a14 kc17 a28 kc37 h0 n0 v U'.heap L ∧ FrameEnd U o U' L ({ frames := 2, cells := 1, slots := 4, locals := 36 } : Room).cells ({ frames := 2, cells := 1, slots := 4, locals := 36 } : Room).slots) := by
  refine MetFree.of_bodySF (plainFor_of_name pn_com_example_srok_srok_engine_BookSide) hisR ?_
  intro p e s m args below meth c s₁ Bd hml0 hP hK
  obtain ⟨rfl, hZ, hh⟩ := hP
  have hx := Bd.exec
  have hby := Bd.bytes
  have hml : c.maxLocals = 7 := hml0
  have hown : s.vm.findClass zs1 = some m.cls := findClass_of_methodNamed Bd.named
  have hnm := (name_of_methodNamed Bd.named Bd.method).1
  have X0 : Stand p l e ({ frames := 2, cells := 1, slots := 4, locals := 36 } : Room) s m #[(.ref a1), (.long q2), .null] below meth c s₁ [] 0 0 := Stand.of_body Bd
  have e0 : s₁.heap = h0 := by rw [← hh, Bd.state]; rfl
  have N0 := Fr.nil n0
  refine own_pre (g' := mkF m 0 (lc11 a1 q2) []) (ef_7 m a1 q2) ?_
  obtain ⟨_, T3, L3, X3, hQ3, st3⟩ := ocallP X0 hx hZ zm5 hown (ww hw 38 rfl) (ww hw 39 rfl) (own_selP (mvT hZ (ww hw 4 rfl)) (mvP hZ (ww hw 40 rfl)) (mvT hZ (ww hw 39 rfl)) (by decide)) (ww hw 40 rfl) (by decide) (ww hw 41 rfl) (ww hw 5 rfl) e0 F9 (mg6_26 l Z a0 hw [] a1 q2 a4 a6 h0 n0 Z0 F5 F7 ha8 F9 F10 hc11) (st := [.null, (.long q2), (.ref a1)]) rfl 0 rfl (by decide) (pc := 3) (Ls := (lc11 a1 q2)) hml rfl (lenOf pd_5 rfl) d5_3 hby
  obtain ⟨rfl, N3q, e3⟩ := hQ3
  have N12 := Fr.app N0 N3q
  refine own_go (U' := T3.setTop (mkF m 10 (lc21 a1 q2 (-1)) [(.int (-1))])) (fun t k => oaloadN X0 hx hby d5_0 rfl rfl (olloadN X0 hx hby d5_1 rfl (oaloadN X0 hx hby d5_2 rfl rfl (st3 _ (oistore X3 hx hby d5_6 (lc21 a1 q2 (-1)) rfl (oiload X3 hx hby d5_8 rfl k)))))) ?_
  refine own_go (U' := T3.setTop (mkF m 47 (lc21 a1 q2 (-1)) [(.int (-(-1 : Int32)))])) (fun t k => oifY (pc := 10) X3 hx hby d5_10 44 (by decide) (by decide) (oiload X3 hx hby d5_44 rfl (oineg X3 hx hby d5_46 k))) ?_
  rw [show (-(-1 : Int32)) = (1 : Int32) from by decide]
  obtain ⟨T13, X13, e13, st13⟩ := getF X3 hx hZ hown (host := "") (Or.inl (ww hw 26 rfl)) Via.refl e3 F10 (g := (mkF m 52 (lc22 a1 q2 (-1) 0) [(.ref a1)])) rfl rfl (hb hby d5_52)
  obtain ⟨T16, X16, e16, st16⟩ := getF X13 hx hZ hown (host := "") (Or.inl (ww hw 14 rfl)) Via.refl e13 F15 (g := (mkF m 56 (lc22 a1 q2 (-1) 0) [(.ref a1), (.int 0)])) rfl rfl (hb hby d5_56)
  refine own_go (U' := T16.setTop (mkF m 59 (lc22 a1 q2 (-1) 0) [(.ref a14), (.int 0)])) (fun t k => oiconst X3 hx hby d5_47 (oisub X3 hx hby d5_48 (oistore X3 hx hby d5_49 (lc22 a1 q2 (-1) 0) rfl (oaloadN X3 hx hby d5_51 rfl rfl (st13 _ (oaloadN X13 hx hby d5_55 rfl rfl (st16 _ k))))))) ?_
  obtain ⟨cl19, Ar19, q19, S19, N19, H19, G19⟩ := id F18
  refine own_go (fun t k => X16.arraylength hx (by rw [e16]; exact Ar19.1) (State.isArrayOf_alike hZ.alike Ar19.2.1) (g := (mkF m 59 (lc22 a1 q2 (-1) 0) [(.ref a14), (.int 0)])) rfl rfl (hb hby d5_59) _ k) ?_
  rw [len_of S19 N19]
  obtain ⟨T20, X20, e20, st20⟩ := getF X16 hx hZ hown (host := "") (Or.inl (ww hw 14 rfl)) Via.refl e16 F15 (g := (mkF m 101 (lc22 a1 q2 (-1) 0) [(.ref a1)])) rfl rfl (hb hby d5_101)
  obtain ⟨T21, X21, e21, st21⟩ := getF X20 hx hZ hown (host := "") (Or.inl (ww hw 14 rfl)) Via.refl e20 F15 (g := (mkF m 107 (lc22 a1 q2 (-1) 0) [(.ref a1), (.int 0), (.ref a14)])) rfl rfl (hb hby d5_107)
  obtain ⟨T22, X22, e22, st22⟩ := getF X21 hx hZ hown (host := "") (Or.inl (ww hw 26 rfl)) Via.refl e21 F10 (g := (mkF m 115 (lc22 a1 q2 (-1) 0) [(.ref a1), (.int 1), (.ref a14), (.int 0), (.ref a14)])) rfl rfl (hb hby d5_115)
  have f24 : Arv Z h0 a14 kc17 (.object zs0) (16 : Int32) [.null] .null := F18.pad (pad_rep [] .null 1)
  obtain ⟨cl23, Ar23, q23, -⟩ := id f24
  obtain ⟨T23, h23, L23, X23, e23, N23, K23, V23, st23⟩ := cpA X22 hx hZ hown (ww hw 55 rfl) (ww hw 58 rfl) (ww hw 56 rfl) (ww hw 57 rfl) e22 (us := []) f24 f24 (Or.inr ⟨rfl, rfl, trivial⟩) (by decide) (by decide) (by decide) (by decide) (by decide) rfl (Nat.le_of_ble_eq_true rfl) N12 g25 (g := (mkF m 121 (lc22 a1 q2 (-1) 0) [(.int 0), (.int 1), (.ref a14), (.int 0), (.ref a14)])) rfl (by rw [hml]; rfl) rfl (hb hby d5_121) (by decide) (W := 0) (by show 2 * 0 + _ ≤ _; exact Nat.le_of_eq rfl) (by decide)
  have f27 : Arv Z h23 a14 kc17 (.object zs0) (16 : Int32) [.null] .null := V23
  have f31 : Fld Z h23 a1 zs1 "ranks" "[J" (.ref a28) := (F29.keep K23 (ninS ne30 nin0))
  obtain ⟨T32, X32, e32, st32⟩ := getF X23 hx hZ hown (host := "") (Or.inl (ww hw 17 rfl)) Via.refl e23 f31 (g := (mkF m 125 (lc22 a1 q2 (-1) 0) [(.ref a1)])) rfl rfl (hb hby d5_125)
  obtain ⟨T33, X33, e33, st33⟩ := getF X32 hx hZ hown (host := "") (Or.inl (ww hw 17 rfl)) Via.refl e32 f31 (g := (mkF m 131 (lc22 a1 q2 (-1) 0) [(.ref a1), (.int 0), (.ref a28)])) rfl rfl (hb hby d5_131)
  have f34 : Fld Z h23 a1 zs1 "count" "I" (.int 0) := (F10.keep K23 (ninS ne30 nin0))
  obtain ⟨T35, X35, e35, st35⟩ := getF X33 hx hZ hown (host := "") (Or.inl (ww hw 26 rfl)) Via.refl e33 f34 (g := (mkF m 139 (lc22 a1 q2 (-1) 0) [(.ref a1), (.int 1), (.ref a28), (.int 0), (.ref a28)])) rfl rfl (hb hby d5_139)
  have f40 : Arv Z h23 a28 kc37 .long (16 : Int32) [] (.long (0 : Int64)) := (F38.keep K23 (ninS ne39 nin0))
  have f41 : Arv Z h23 a28 kc37 .long (16 : Int32) [(.long 0)] (.long (0 : Int64)) := f40.pad (pad_rep [] (.long (0 : Int64)) 1)
  obtain ⟨T36, h36, L36, X36, e36, N36, K36, V36, st36⟩ := cpA X35 hx hZ hown (ww hw 55 rfl) (ww hw 58 rfl) (ww hw 56 rfl) (ww hw 57 rfl) e35 (us := []) f41 f41 (Or.inl ⟨rfl, rfl⟩) (by decide) (by decide) (by decide) (by decide) (by decide) rfl (Nat.le_of_ble_eq_true rfl) N23 g42 (g := (mkF m 145 (lc22 a1 q2 (-1) 0) [(.int 0), (.int 1), (.ref a28), (.int 0), (.ref a28)])) rfl (by rw [hml]; rfl) rfl (hb hby d5_145) (by decide) (W := 0) (by show 2 * 0 + _ ≤ _; exact Nat.le_of_eq rfl) (by decide)
  have f43 : Arv Z h36 a28 kc37 .long (16 : Int32) [(.long 0)] (.long (0 : Int64)) := V36
  obtain ⟨T44, h44, X44, e44, E44, A44, D44, -, st44⟩ := newO X36 hx hZ hown (ww hw 12 rfl) (ww hw 59 rfl) (ww hw 60 rfl) e36 (g := (mkF m 148 (lc22 a1 q2 (-1) 0) [])) rfl (hb hby d5_148) (by decide) (by decide)
  obtain ⟨b44, g44⟩ : ∃ z, z = h36.size := ⟨_, rfl⟩
  rw [← g44] at A44 D44 st44
  have f45 : Fld Z h44 b44 zs0 "price" zs9 .null := D44 (Or.inr (ww hw 66 rfl)) (ty := (.object zs12)) (by decide)
  have f46 : Fld Z h44 b44 zs0 "priceSteps" "J" (.long 0) := D44 (Or.inr (ww hw 68 rfl)) (ty := .long) (by decide)
  have f47 : Fld Z h44 b44 zs0 "first" zs10 .null := D44 (Or.inl (ww hw 83 rfl)) (ty := (.object zs13)) (by decide)
  have Z_1 : n0 ≤ h23.size := Nat.le_trans Z0 K23.1
  have Z_2 : n0 ≤ h36.size := Nat.le_trans Z_1 K36.1
  have g49 : n0 ≤ b44 := Nat.le_trans Z_2 (Nat.le_of_eq g44.symm)
  have Z_3 : n0 ≤ h44.size := Nat.le_trans Z_2 E44.1
  obtain ⟨_, T48, L48, X48, hQ48, st48⟩ := ocallI X44 hx hZ zm6 rfl hown (ww hw 61 rfl) (ww hw 62 rfl) (by decide) (ww hw 63 rfl) (ww hw 60 rfl) e44 (rm9_9 l Z a0 hw [] b44 q2 h44 n0 Z_3 f45 f46 f47 A44 g49) (st := [(.long q2), .null, (.ref b44), (.ref b44)]) rfl 1 rfl (by decide) (pc := 154) (Ls := (lc22 a1 q2 (-1) 0)) hml rfl (lenOf pd_6 rfl) d5_154 hby
  obtain ⟨rfl, N48q, K48, f50, f51, f52⟩ := hQ48
  have N53 := Fr.app N36 N48q
  have ne55 : a1 ≠ b44 := Nat.ne_of_lt (Nat.lt_of_lt_of_le (Nat.lt_of_lt_of_le (Nat.lt_of_lt_of_le (F5.lt) K23.1) K36.1) (Nat.le_of_eq g44.symm))
  have f56 : Fld Z T48.heap a1 zs1 "levels" zs2 (.ref a14) := ((Fld.ext E44 ((F15.keep K23 (ninS ne30 nin0)).keep K36 (ninS ne54 nin0))).keep K48 (ninS ne55 nin0))
  obtain ⟨T57, X57, e57, st57⟩ := getF X48 hx hZ hown (host := "") (Or.inl (ww hw 14 rfl)) Via.refl rfl f56 (g := (mkF m 160 (lc24 a1 q2 (-1) 0 b44) [(.ref a1)])) rfl rfl (hb hby d5_160)
  have ne58 : a14 ≠ b44 := Nat.ne_of_lt (Nat.lt_of_lt_of_le (Nat.lt_of_lt_of_le (f27.lt) K36.1) (Nat.le_of_eq g44.symm))
  have f59 : Arv Z T48.heap a14 kc17 (.object zs0) (16 : Int32) [.null] .null := (((f27.keep K36 (ninS (Ne.symm ne39) nin0)).ext E44).keep K48 (ninS ne58 nin0))
  have f60 : Exa Z T48.heap b44 zs0 := (A44.keep K48)
  obtain ⟨cl61, Ar61, q61, S61, N61, H61, G61⟩ := id f59
  have hin62 : ¬ ((0 : Int32) < 0 ∨ cl61.slots.size ≤ ((0 : Int32)).toNatClampNeg) := inb_of S61 ⟨by decide, by decide⟩
  obtain ⟨T62, h62, X62, e62, W62, st62⟩ := stR X57 hx hZ e57 Ar61 (j := (0 : Int32)) hin62 rfl (Sto.ofV Ar61 q61 O26 (Ins.self f60)) (g := (mkF m 167 (lc24 a1 q2 (-1) 0 b44) [(.ref b44), (.int 0), (.ref a14)])) rfl rfl (hb hby d5_167)
  have N63 := Fr.snoc X62 N53 g25
  have f64 : Arv Z h62 a14 kc17 (.object zs0) (16 : Int32) [(.ref b44)] .null := Arv.set Ar61 q61 S61 N61 H61 G61 (by rfl) W62 0 rfl (Nat.le_of_ble_eq_true rfl)
  have f65 : Fld Z h62 a1 zs1 "ranks" "[J" (.ref a28) := (Fld.other W62 ((Fld.ext E44 (f31.keep K36 (ninS ne54 nin0))).keep K48 (ninS ne55 nin0)) (Or.inl ne30))
  obtain ⟨T66, X66, e66, st66⟩ := getF X62 hx hZ hown (host := "") (Or.inl (ww hw 17 rfl)) Via.refl e62 f65 (g := (mkF m 169 (lc24 a1 q2 (-1) 0 b44) [(.ref a1)])) rfl rfl (hb hby d5_169)
  have f68 : Fld Z h62 a1 zs1 "side" zs3 (.ref a4) := (Fld.other W62 ((Fld.ext E44 ((F5.keep K23 (ninS ne30 nin0)).keep K36 (ninS ne54 nin0))).keep K48 (ninS ne55 nin0)) (Or.inl ne30))
  have f69 : Sta Z h62 zs5 "BUY" zs3 (.ref a6) := (Sta.wr W62 (own_staK (Sta.ext E44 (own_staK (own_staK F7 K23 (allS (own_nsV f24) all0)) K36 (allS (own_nsV f41) all0))) K48 (allS (own_nsF f45) all0)))
  have Z_4 : n0 ≤ T48.heap.size := Nat.le_trans Z_3 K48.1
  have Z_5 : n0 ≤ h62.size := Nat.le_trans Z_4 (Keep.of_wr W62).1
  have f70 : Exa Z h62 a1 zs1 := (Exa.wr W62 ((Exa.ext E44 ((F9.keep K23).keep K36)).keep K48))
  obtain ⟨_, T67, L67, X67, hQ67, st67⟩ := ocallP X66 hx hZ zm3 hown (ww hw 42 rfl) (ww hw 43 rfl) (own_selP (mvT hZ (ww hw 4 rfl)) (mvP hZ (ww hw 44 rfl)) (mvT hZ (ww hw 43 rfl)) (by decide)) (ww hw 44 rfl) (by decide) (ww hw 45 rfl) (ww hw 5 rfl) e66 f70 (rm7_3 l Z a0 hw [] a1 q2 a4 a6 h62 n0 Z_5 f68 f69 ha8) (st := [(.long q2), (.ref a1), (.int 0), (.ref a28)]) rfl 2 rfl (by decide) (pc := 176) (Ls := (lc24 a1 q2 (-1) 0 b44)) hml rfl (lenOf pd_3 rfl) d5_176 hby
  obtain ⟨rfl, N67q, e67⟩ := hQ67
  have N71 := Fr.app N63 N67q
  have ne72 : a28 ≠ b44 := Nat.ne_of_lt (Nat.lt_of_lt_of_le (f43.lt) (Nat.le_of_eq g44.symm))
  have f73 : Arv Z h62 a28 kc37 .long (16 : Int32) [(.long 0)] (.long (0 : Int64)) := (((f43.ext E44).keep K48 (ninS ne72 nin0)).other W62 ne39)
  obtain ⟨cl74, Ar74, q74, S74, N74, H74, G74⟩ := id f73
  have hin75 : ¬ ((0 : Int32) < 0 ∨ cl74.slots.size ≤ ((0 : Int32)).toNatClampNeg) := inb_of S74 ⟨by decide, by decide⟩
  obtain ⟨T75, h75, X75, e75, W75, st75⟩ := stJ X67 hx hZ e67 Ar74 (j := (0 : Int32)) hin75 (g := (mkF m 179 (lc24 a1 q2 (-1) 0 b44) [(.long (q2 ^^^ (-1 : Int64))), (.int 0), (.ref a28)])) rfl rfl (hb hby d5_179)
  have N76 := Fr.snoc X75 N71 g42
  have f77 : Arv Z h75 a28 kc37 .long (16 : Int32) [(.long (q2 ^^^ (-1 : Int64)))] (.long (0 : Int64)) := Arv.set Ar74 q74 S74 N74 H74 G74 (by rfl) W75 0 rfl (Nat.le_of_ble_eq_true rfl)
  have f78 : Fld Z h75 a1 zs1 "count" "I" (.int 0) := (Fld.other W75 (Fld.other W62 ((Fld.ext E44 (f34.keep K36 (ninS ne54 nin0))).keep K48 (ninS ne55 nin0)) (Or.inl ne30)) (Or.inl ne54))
  obtain ⟨T79, X79, e79, st79⟩ := getF X75 hx hZ hown (host := "") (Or.inl (ww hw 26 rfl)) Via.refl e75 f78 (g := (mkF m 182 (lc24 a1 q2 (-1) 0 b44) [(.ref a1), (.ref a1)])) rfl rfl (hb hby d5_182)
  have f81 : Exa Z h75 a1 zs1 := (Exa.wr W75 f70)
  obtain ⟨T82, h82, X82, e82, W82, st82⟩ := putF X79 hx hZ hown (host := "") (Or.inl (ww hw 26 rfl)) Via.refl e79 f78 f81 (Or.inl (ww hw 27 rfl)) (ww hw 4 rfl) (ty := .int) (by decide) rfl rfl (g := (mkF m 187 (lc24 a1 q2 (-1) 0 b44) [(.int 1), (.ref a1)])) rfl rfl (hb hby d5_187)
  have N84 := Fr.snoc X82 N76 g83
  have f85 : Fld Z h82 a1 zs1 "count" "I" (.int 1) := Fld.same W82 f78
  refine own_go (U' := T82.setTop (mkF m 192 (lc24 a1 q2 (-1) 0 b44) [(.ref b44)])) (fun t k => oicY (pc := 60) X16 hx hby d5_60 100 (by decide) (by decide) (oaloadN X16 hx hby d5_100 rfl rfl (st20 _ (oiload X20 hx hby d5_104 rfl (oaloadN X20 hx hby d5_106 rfl rfl (st21 _ (oiload X21 hx hby d5_110 rfl (oiconst X21 hx hby d5_112 (oiadd X21 hx hby d5_113 (oaloadN X21 hx hby d5_114 rfl rfl (st22 _ (oiload X22 hx hby d5_118 rfl (oisub X22 hx hby d5_120 (st23 _ (oaloadN X23 hx hby d5_124 rfl rfl (st32 _ (oiload X32 hx hby d5_128 rfl (oaloadN X32 hx hby d5_130 rfl rfl (st33 _ (oiload X33 hx hby d5_134 rfl (oiconst X33 hx hby d5_136 (oiadd X33 hx hby d5_137 (oaloadN X33 hx hby d5_138 rfl rfl (st35 _ (oiload X35 hx hby d5_142 rfl (oisub X35 hx hby d5_144 (st36 _ (st44 _ (odup X44 hx hby d5_151 rfl (oaloadN X44 hx hby d5_152 rfl rfl (olloadN X44 hx hby d5_153 rfl (st48 _ (oastore X48 hx hby d5_157 (lc24 a1 q2 (-1) 0 b44) rfl rfl (oaloadN X48 hx hby d5_159 rfl rfl (st57 _ (oiload X57 hx hby d5_163 rfl (oaload X57 hx hby d5_165 rfl rfl (st62 _ (oaloadN X62 hx hby d5_168 rfl rfl (st66 _ (oiload X66 hx hby d5_172 rfl (oaloadN X66 hx hby d5_174 rfl rfl (olloadN X66 hx hby d5_175 rfl (st67 _ (st75 _ (oaloadN X75 hx hby d5_180 rfl rfl (odup X75 hx hby d5_181 rfl (st79 _ (oiconst X79 hx hby d5_185 (oiadd X79 hx hby d5_186 (st82 _ (oaload X82 hx hby d5_190 rfl rfl k)))))))))))))))))))))))))))))))))))))))))))))))))))) ?_
  have f86 : Arv Z h82 a14 kc17 (.object zs0) (16 : Int32) [(.ref b44)] .null := ((f64.other W75 (Ne.symm ne39)).other W82 (Ne.symm ne30))
  have f87 : Arv Z h82 a28 kc37 .long (16 : Int32) [(.long (q2 ^^^ (-1 : Int64)))] (.long (0 : Int64)) := (f77.other W82 (Ne.symm ne54))
  have f88 : Fld Z h82 a1 zs1 "side" zs3 (.ref a4) := (Fld.other W82 (Fld.other W75 f68 (Or.inl ne54)) (Or.inr (slot_ne (Or.inr (ww hw 20 rfl)) (Or.inl (ww hw 27 rfl)) (by decide) (t := (.object zs5)) (t' := .int) (by decide) (by decide))))
  have f89 : Fld Z h82 a1 zs1 "levels" zs2 (.ref a14) := (Fld.other W82 (Fld.other W75 (Fld.other W62 f56 (Or.inl ne30)) (Or.inl ne54)) (Or.inr (slot_ne (Or.inl (ww hw 15 rfl)) (Or.inl (ww hw 27 rfl)) (by decide) (t := (.array (.object zs0))) (t' := .int) (by decide) (by decide))))
  have f90 : Fld Z h82 a1 zs1 "ranks" "[J" (.ref a28) := (Fld.other W82 (Fld.other W75 f65 (Or.inl ne54)) (Or.inr (slot_ne (Or.inl (ww hw 18 rfl)) (Or.inl (ww hw 27 rfl)) (by decide) (t := (.array .long)) (t' := .int) (by decide) (by decide))))
  have f91 : Fld Z h82 a1 zs1 "emptyLevels" "I" (.int 0) := (Fld.other W82 (Fld.other W75 (Fld.other W62 ((Fld.ext E44 ((F80.keep K23 (ninS ne30 nin0)).keep K36 (ninS ne54 nin0))).keep K48 (ninS ne55 nin0)) (Or.inl ne30)) (Or.inl ne54)) (Or.inr (slot_ne (Or.inl (ww hw 76 rfl)) (Or.inl (ww hw 27 rfl)) (by decide) (t := .int) (t' := .int) (by decide) (by decide))))
  have f92 : Exa Z h82 b44 zs0 := (Exa.wr W82 (Exa.wr W75 (Exa.wr W62 f60)))
  have f93 : Fld Z h82 b44 zs0 "price" zs9 .null := (Fld.other W82 (Fld.other W75 (Fld.other W62 f50 (Or.inl (Ne.symm ne58))) (Or.inl (Ne.symm ne72))) (Or.inl (Ne.symm ne55)))
  have f94 : Fld Z h82 b44 zs0 "priceSteps" "J" (.long q2) := (Fld.other W82 (Fld.other W75 (Fld.other W62 f51 (Or.inl (Ne.symm ne58))) (Or.inl (Ne.symm ne72))) (Or.inl (Ne.symm ne55)))
  have f95 : Fld Z h82 b44 zs0 "first" zs10 .null := (Fld.other W82 (Fld.other W75 (Fld.other W62 f52 (Or.inl (Ne.symm ne58))) (Or.inl (Ne.symm ne72))) (Or.inl (Ne.symm ne55)))
  obtain ⟨fs, hr, hrun, hended, hW, hsame⟩ := X82.leave (v := some (.ref b44)) (fun h => by rw [Bd.returns] at h; cases h)
  refine own_out ⟨_, _, ?_, hrun, hended, _, _, rfl, ?_, ⟨_, rfl⟩, hW, hsame.mono (by decide) (by decide)⟩
  · exact retOut X82 hx Bd.returns rfl (Or.inr (Or.inr (Or.inr (Or.inr ⟨rfl, rfl, rfl⟩)))) (hb hby d5_192) hr
  · show Q5_27 Z a1 q2 a4 a6 a14 kc17 a28 kc37 h0 n0 _ T82.heap _
    rw [e82]
    exact ⟨b44, rfl, N84, ((((Keep.trans ((Keep.trans (Keep.trans (Keep.refl h0 [a14, a28, a1]) K23 (allS (Or.inl (List.mem_of_getElem? (i := 0) rfl)) all0)) K36 (allS (Or.inl (List.mem_of_getElem? (i := 1) rfl)) all0)).ext E44) K48 (allS (Or.inr (Nat.le_trans K23.1 (Nat.le_trans K36.1 (Nat.le_of_eq g44.symm)))) all0)).wr W62 (Or.inl (List.mem_of_getElem? (i := 0) rfl))).wr W75 (Or.inl (List.mem_of_getElem? (i := 1) rfl))).wr W82 (Or.inl (List.mem_of_getElem? (i := 2) rfl))), (Nat.le_trans K23.1 (Nat.le_trans K36.1 (Nat.le_of_eq g44.symm))), f86, f87, f88, f85, f89, f90, f91, f92, f93, f94, f95⟩
def Q6_28 (Z : State) (a1 : Addr) (q2 : Int64) (a4 : Addr) (a6 : Addr) (a14 : Addr) (q17 : Int64) (kc18 : ClassId) (h0 : Heap) (n0 : Nat) (v : Option Value) (h : Heap) (L : List Loc) : Prop := v = some (.int (-1)) ∧ Fr n0 L ∧ h = h0
set_option maxRecDepth 65536 in
set_option maxHeartbeats 40000000 in
theorem rm6_28 (l : Launch) (Z : State) (a0 : Array Value) (hw : ∀ d ∈ tables_1, d.before a0 Z = true) (ws : List Jvm.Cond) (a1 : Addr) (q2 : Int64) (a4 : Addr) (a6 : Addr) (a14 : Addr) (q17 : Int64) (kc18 : ClassId) (h0 : Heap) (n0 : Nat) (Z0 : n0 ≤ h0.size) (F5 : Fld Z h0 a1 zs1 "side" zs3 (.ref a4)) (F7 : Sta Z h0 zs5 "BUY" zs3 (.ref a6)) (ha8 : a4 ≠ a6) (F9 : Exa Z h0 a1 zs1) (F12 : Fld Z h0 a1 zs1 "count" "I" (.int 1)) (F15 : Fld Z h0 a1 zs1 "ranks" "[J" (.ref a14)) (F19 : Arv Z h0 a14 kc18 .long (16 : Int32) [(.long q17)] (.long (0 : Int64))) (hc22 : ¬ (q17 < (q2 ^^^ (-1 : Int64)))) (hc26 : (q2 ^^^ (-1 : Int64)) = (-9223372036854775808 : Int64)) (hc32 : ¬ (q17 = (q2 ^^^ (-1 : Int64)))) :
    MetFree l zm5 (head1 (Jvm.Cond.code zm5 prog_2_method_8_code 11 (some .int) :: ws) ({ frames := 1, cells := 0, slots := 0, locals := 14 } : Room)) (fun a U => a = #[(.ref a1), (.long q2), .null] ∧ Z.Warmed39 U.vm ∧ U.heap = h0) (fun _ _ _ _ _ => True) (fun _ U o U' => ∃ v L, o = .returned v ∧ Q6_28 Z a1 q2 a4 a6 a14 q17 kc18 h0 n0 v U'.heap L ∧ FrameEnd U o U' L ({ frames := 1, cells := 0, slots := 0, locals := 14 } : Room).cells ({ frames := 1, cells := 0, slots := 0, locals := 14 } : Room).slots) := by
  refine MetFree.of_bodySF (plainFor_of_name pn_com_example_srok_srok_engine_BookSide) hisR ?_
  intro p e s m args below meth c s₁ Bd hml0 hP hK
  obtain ⟨rfl, hZ, hh⟩ := hP
  have hx := Bd.exec
  have hby := Bd.bytes
  have hml : c.maxLocals = 11 := hml0
  have hown : s.vm.findClass zs1 = some m.cls := findClass_of_methodNamed Bd.named
  have hnm := (name_of_methodNamed Bd.named Bd.method).1
  have X0 : Stand p l e ({ frames := 1, cells := 0, slots := 0, locals := 14 } : Room) s m #[(.ref a1), (.long q2), .null] below meth c s₁ [] 0 0 := Stand.of_body Bd
  have e0 : s₁.heap = h0 := by rw [← hh, Bd.state]; rfl
  have N0 := Fr.nil n0
  refine own_pre (g' := mkF m 0 (lc12 a1 q2) []) (ef_5 m a1 q2) ?_
  obtain ⟨_, T3, L3, X3, hQ3, st3⟩ := ocallP X0 hx hZ zm3 hown (ww hw 42 rfl) (ww hw 43 rfl) (own_selP (mvT hZ (ww hw 4 rfl)) (mvP hZ (ww hw 44 rfl)) (mvT hZ (ww hw 43 rfl)) (by decide)) (ww hw 44 rfl) (by decide) (ww hw 45 rfl) (ww hw 5 rfl) e0 F9 (rm7_3 l Z a0 hw [] a1 q2 a4 a6 h0 n0 Z0 F5 F7 ha8) (st := [(.long q2), (.ref a1)]) rfl 0 rfl (by decide) (pc := 2) (Ls := (lc12 a1 q2)) hml rfl (lenOf pd_3 rfl) d6_2 hby
  obtain ⟨rfl, N3q, e3⟩ := hQ3
  have N10 := Fr.app N0 N3q
  refine own_go (U' := T3.setTop (mkF m 7 (lc14 a1 q2 (q2 ^^^ (-1 : Int64))) [])) (fun t k => oaloadN X0 hx hby d6_0 rfl rfl (olloadN X0 hx hby d6_1 rfl (st3 _ (olstore X3 hx hby d6_5 (lc14 a1 q2 (q2 ^^^ (-1 : Int64))) rfl k)))) ?_
  obtain ⟨z11, hz11⟩ : ∃ z, z = (q2 ^^^ (-1 : Int64)) := ⟨_, rfl⟩
  rw [← hz11]
  obtain ⟨T13, X13, e13, st13⟩ := getF X3 hx hZ hown (host := "") (Or.inl (ww hw 26 rfl)) Via.refl e3 F12 (g := (mkF m 8 (lc14 a1 q2 z11) [(.ref a1)])) rfl rfl (hb hby d6_8)
  refine own_go (U' := T13.setTop (mkF m 21 (lc16 a1 q2 z11 1 1) [(.int 0)])) (fun t k => oaloadN X3 hx hby d6_7 rfl rfl (st13 _ (oistore X13 hx hby d6_11 (lc15 a1 q2 z11 1) rfl (oiconst X13 hx hby d6_13 (oistore X13 hx hby d6_14 (lc16 a1 q2 z11 1 1) rfl (oiload X13 hx hby d6_16 rfl (oiload X13 hx hby d6_18 rfl (oisub X13 hx hby d6_20 k)))))))) ?_
  obtain ⟨T16, X16, e16, st16⟩ := getF X13 hx hZ hown (host := "") (Or.inl (ww hw 17 rfl)) Via.refl e13 F15 (g := (mkF m 25 (lc16 a1 q2 z11 1 1) [(.ref a1)])) rfl rfl (hb hby d6_25)
  obtain ⟨cl20, Ar20, q20, S20, N20, H20, G20⟩ := id F19
  have hin21 : ¬ ((0 : Int32) < 0 ∨ cl20.slots.size ≤ ((0 : Int32)).toNatClampNeg) := inb_of S20 ⟨by decide, by decide⟩
  have hat21 : cl20.slots[((0 : Int32)).toNatClampNeg]? = some (.long q17) := Has.at H20 hin21 rfl
  refine own_go (U' := T16.setTop (mkF m 37 (lc16 a1 q2 z11 1 1) [(.int (lcmpW q17 z11))])) (fun t k => oifN X13 hx hby d6_21 (by decide) (oaloadN X13 hx hby d6_24 rfl rfl (st16 _ (oiload X16 hx hby d6_28 rfl (oiload X16 hx hby d6_30 rfl (oisub X16 hx hby d6_32 (X16.laload hx (j := (0 : Int32)) (v := (.long q17)) (by rw [e16]; exact Ar20.1) (State.isArrayOf_alike hZ.alike Ar20.2.1) Ar20.2.2 hin21 hat21 (g := (mkF m 33 (lc16 a1 q2 z11 1 1) [(.int 0), (.ref a14)])) rfl rfl (hb hby d6_33) _ (olload X16 hx hby d6_34 rfl (olcmp X16 hx hby d6_36 k))))))))) ?_
  have hs23 : ¬ (q17 < z11) := by rw [hz11]; exact hc22
  refine own_go (U' := T16.setTop (mkF m 16 (lc16 a1 q2 z11 0 2) [])) (fun t k => oifN X16 hx hby d6_37 (own_ll_lt_f hs23) (oiload X16 hx hby d6_40 rfl (oiload X16 hx hby d6_42 rfl (oisub X16 hx hby d6_44 (oistore X16 hx hby d6_45 (lc16 a1 q2 z11 0 1) rfl (oiload X16 hx hby d6_47 rfl (oiconst X16 hx hby d6_49 (oimul X16 hx hby d6_50 (oistore X16 hx hby d6_51 (lc16 a1 q2 z11 0 2) rfl (ogoto (pc := 53) X16 hx hby d6_53 16 (by decide) k)))))))))) ?_
  refine own_go (U' := T16.setTop (mkF m 21 (lc16 a1 q2 z11 0 2) [(.int ((0 : Int32) - (2 : Int32)))])) (fun t k => oiload X16 hx hby d6_16 rfl (oiload X16 hx hby d6_18 rfl (oisub X16 hx hby d6_20 k))) ?_
  rw [show ((0 : Int32) - (2 : Int32)) = (-2 : Int32) from by decide]
  refine own_go (U' := T16.setTop (mkF m 62 (lc16 a1 q2 z11 0 2) [(.int ((0 : Int32) - (2 : Int32))), (.int 0)])) (fun t k => oifY (pc := 21) X16 hx hby d6_21 56 (by decide) (by decide) (oiconst X16 hx hby d6_56 (oiload X16 hx hby d6_57 rfl (oiload X16 hx hby d6_59 rfl (oisub X16 hx hby d6_61 k))))) ?_
  rw [show ((0 : Int32) - (2 : Int32)) = (-2 : Int32) from by decide]
  refine own_go (U' := T16.setTop (mkF m 64 (lc16 a1 q2 z11 0 2) [(.int ((-2 : Int32) + (1 : Int32))), (.int 0)])) (fun t k => oiconst X16 hx hby d6_62 (oiadd X16 hx hby d6_63 k)) ?_
  rw [show ((-2 : Int32) + (1 : Int32)) = (-1 : Int32) from by decide]
  obtain ⟨_, T24, L24, X24, hQ24, st24⟩ := ocallS X16 hx hZ zm4 hown (ww hw 49 rfl) (ww hw 50 rfl) (by decide) (ww hw 52 rfl) (ww hw 51 rfl) e16 (rm8_16 l Z a0 hw []  h0 n0 Z0 ) (st := [(.int (-1)), (.int 0)]) rfl 0 rfl (by decide) (pc := 64) (Ls := (lc16 a1 q2 z11 0 2)) hml rfl (lenOf pd_4 rfl) d6_64 hby
  obtain ⟨rfl, N24q, e24⟩ := hQ24
  have N25 := Fr.app N10 N24q
  refine own_go (U' := T24.setTop (mkF m 79 (lc19 a1 q2 z11 0 2 0 0) [(.int 1), (.int 0)])) (fun t k => st24 _ (oistore X24 hx hby d6_67 (lc18 a1 q2 z11 0 2 0) rfl (oiload X24 hx hby d6_69 rfl (oiload X24 hx hby d6_71 rfl (oisub X24 hx hby d6_73 (oistore X24 hx hby d6_74 (lc19 a1 q2 z11 0 2 0 0) rfl (oiload X24 hx hby d6_76 rfl (oiconst X24 hx hby d6_78 k)))))))) ?_
  refine own_go (U' := T24.setTop (mkF m 132 (lc19 a1 q2 z11 0 2 0 0) [(.int 0), (.int 0)])) (fun t k => oicY (pc := 79) X24 hx hby d6_79 128 (by decide) (by decide) (oiload X24 hx hby d6_128 rfl (oiload X24 hx hby d6_130 rfl k))) ?_
  refine own_go (U' := T24.setTop (mkF m 157 (lc19 a1 q2 z11 0 2 0 0) [(.int (lcmpW z11 (-9223372036854775808 : Int64)))])) (fun t k => oicY (pc := 132) X24 hx hby d6_132 151 (by decide) (by decide) (olload X24 hx hby d6_151 rfl (X24.ldc2Long hx hown (mvT hZ (ww hw 53 rfl)) (g := (mkF m 153 (lc19 a1 q2 z11 0 2 0 0) [(.long z11)])) rfl (hb hby d6_153) _ (olcmp X24 hx hby d6_156 k)))) ?_
  have hs27 : z11 = (-9223372036854775808 : Int64) := by rw [hz11]; exact hc26
  refine own_go (U' := T24.setTop (mkF m 178 (lc19 a1 q2 z11 0 2 0 0) [(.int 0)])) (fun t k => oifY (pc := 157) X24 hx hby d6_157 173 (own_ll_eq_t hs27) (by decide) (oiconst X24 hx hby d6_173 (oistore X24 hx hby d6_174 (lc19 a1 q2 z11 0 2 0 0) rfl (oiload X24 hx hby d6_176 rfl k)))) ?_
  obtain ⟨T28, X28, e28, st28⟩ := getF X24 hx hZ hown (host := "") (Or.inl (ww hw 26 rfl)) Via.refl e24 F12 (g := (mkF m 184 (lc19 a1 q2 z11 0 2 0 0) [(.ref a1), (.int 0)])) rfl rfl (hb hby d6_184)
  refine own_go (U' := T28.setTop (mkF m 187 (lc19 a1 q2 z11 0 2 0 0) [(.int 1), (.int 0)])) (fun t k => oifN X24 hx hby d6_178 (by decide) (oiload X24 hx hby d6_181 rfl (oaloadN X24 hx hby d6_183 rfl rfl (st28 _ k)))) ?_
  obtain ⟨T29, X29, e29, st29⟩ := getF X28 hx hZ hown (host := "") (Or.inl (ww hw 17 rfl)) Via.refl e28 F15 (g := (mkF m 191 (lc19 a1 q2 z11 0 2 0 0) [(.ref a1)])) rfl rfl (hb hby d6_191)
  obtain ⟨cl30, Ar30, q30, S30, N30, H30, G30⟩ := id F19
  have hin31 : ¬ ((0 : Int32) < 0 ∨ cl30.slots.size ≤ ((0 : Int32)).toNatClampNeg) := inb_of S30 ⟨by decide, by decide⟩
  have hat31 : cl30.slots[((0 : Int32)).toNatClampNeg]? = some (.long q17) := Has.at H30 hin31 rfl
  refine own_go (U' := T29.setTop (mkF m 200 (lc19 a1 q2 z11 0 2 0 0) [(.int (lcmpW q17 z11))])) (fun t k => oicN X28 hx hby d6_187 (by decide) (oaloadN X28 hx hby d6_190 rfl rfl (st29 _ (oiload X29 hx hby d6_194 rfl (X29.laload hx (j := (0 : Int32)) (v := (.long q17)) (by rw [e29]; exact Ar30.1) (State.isArrayOf_alike hZ.alike Ar30.2.1) Ar30.2.2 hin31 hat31 (g := (mkF m 196 (lc19 a1 q2 z11 0 2 0 0) [(.int 0), (.ref a14)])) rfl rfl (hb hby d6_196) _ (olload X29 hx hby d6_197 rfl (olcmp X29 hx hby d6_199 k))))))) ?_
  have hs33 : ¬ (q17 = z11) := by rw [hz11]; exact hc32
  obtain ⟨T34, X34, e34, st34⟩ := getF X29 hx hZ hown (host := "") (Or.inl (ww hw 26 rfl)) Via.refl e29 F12 (g := (mkF m 230 (lc19 a1 q2 z11 0 2 0 0) [(.ref a1), (.int 0)])) rfl rfl (hb hby d6_230)
  refine own_go (U' := T34.setTop (mkF m 233 (lc19 a1 q2 z11 0 2 0 0) [(.int 1), (.int 0)])) (fun t k => oifY (pc := 200) X29 hx hby d6_200 227 (own_ll_ne_t hs33) (by decide) (oiload X29 hx hby d6_227 rfl (oaloadN X29 hx hby d6_229 rfl rfl (st34 _ k)))) ?_
  obtain ⟨T35, X35, e35, st35⟩ := getF X34 hx hZ hown (host := "") (Or.inl (ww hw 17 rfl)) Via.refl e34 F15 (g := (mkF m 237 (lc19 a1 q2 z11 0 2 0 0) [(.ref a1)])) rfl rfl (hb hby d6_237)
  obtain ⟨cl36, Ar36, q36, S36, N36, H36, G36⟩ := id F19
  have hin37 : ¬ ((0 : Int32) < 0 ∨ cl36.slots.size ≤ ((0 : Int32)).toNatClampNeg) := inb_of S36 ⟨by decide, by decide⟩
  have hat37 : cl36.slots[((0 : Int32)).toNatClampNeg]? = some (.long q17) := Has.at H36 hin37 rfl
  refine own_go (U' := T35.setTop (mkF m 246 (lc19 a1 q2 z11 0 2 0 0) [(.int (lcmpW q17 z11))])) (fun t k => oicN X34 hx hby d6_233 (by decide) (oaloadN X34 hx hby d6_236 rfl rfl (st35 _ (oiload X35 hx hby d6_240 rfl (X35.laload hx (j := (0 : Int32)) (v := (.long q17)) (by rw [e35]; exact Ar36.1) (State.isArrayOf_alike hZ.alike Ar36.2.1) Ar36.2.2 hin37 hat37 (g := (mkF m 242 (lc19 a1 q2 z11 0 2 0 0) [(.int 0), (.ref a14)])) rfl rfl (hb hby d6_242) _ (olload X35 hx hby d6_243 rfl (olcmp X35 hx hby d6_245 k))))))) ?_
  refine own_go (U' := T35.setTop (mkF m 280 (lc20 a1 q2 z11 0 2 0 0 0) [(.int 0)])) (fun t k => oifY (pc := 246) X35 hx hby d6_246 275 (own_ll_ne_t hs33) (by decide) (oiconst X35 hx hby d6_275 (oistore X35 hx hby d6_276 (lc20 a1 q2 z11 0 2 0 0 0) rfl (oiload X35 hx hby d6_278 rfl k)))) ?_
  refine own_go (U' := T35.setTop (mkF m 292 (lc20 a1 q2 z11 0 2 0 0 0) [(.int ((-1 : Int32) - (0 : Int32)))])) (fun t k => oifY (pc := 280) X35 hx hby d6_280 288 (by decide) (by decide) (oiconst X35 hx hby d6_288 (oiload X35 hx hby d6_289 rfl (oisub X35 hx hby d6_291 k)))) ?_
  rw [show ((-1 : Int32) - (0 : Int32)) = (-1 : Int32) from by decide]
  obtain ⟨fs, hr, hrun, hended, hW, hsame⟩ := X35.leave (v := some (.int (-1))) (fun h => by rw [Bd.returns] at h; cases h)
  refine own_out ⟨_, _, ?_, hrun, hended, _, _, rfl, ?_, ⟨_, rfl⟩, hW, hsame.mono (by decide) (by decide)⟩
  · exact retI X35 hx Bd.returns (hb hby d6_292) hr
  · show Q6_28 Z a1 q2 a4 a6 a14 q17 kc18 h0 n0 _ T35.heap _
    rw [e35]
    exact ⟨rfl, N25, rfl⟩
def Q6_29 (Z : State) (a1 : Addr) (q2 : Int64) (a4 : Addr) (a6 : Addr) (a14 : Addr) (q17 : Int64) (kc18 : ClassId) (h0 : Heap) (n0 : Nat) (v : Option Value) (h : Heap) (L : List Loc) : Prop := v = some (.int (-1)) ∧ Fr n0 L ∧ h = h0
set_option maxRecDepth 65536 in
set_option maxHeartbeats 40000000 in
theorem rm6_29 (l : Launch) (Z : State) (a0 : Array Value) (hw : ∀ d ∈ tables_1, d.before a0 Z = true) (ws : List Jvm.Cond) (a1 : Addr) (q2 : Int64) (a4 : Addr) (a6 : Addr) (a14 : Addr) (q17 : Int64) (kc18 : ClassId) (h0 : Heap) (n0 : Nat) (Z0 : n0 ≤ h0.size) (F5 : Fld Z h0 a1 zs1 "side" zs3 (.ref a4)) (F7 : Sta Z h0 zs5 "BUY" zs3 (.ref a6)) (ha8 : a4 ≠ a6) (F9 : Exa Z h0 a1 zs1) (F12 : Fld Z h0 a1 zs1 "count" "I" (.int 1)) (F15 : Fld Z h0 a1 zs1 "ranks" "[J" (.ref a14)) (F19 : Arv Z h0 a14 kc18 .long (16 : Int32) [(.long q17)] (.long (0 : Int64))) (hc22 : ¬ (q17 < (q2 ^^^ (-1 : Int64)))) (hc26 : ¬ ((q2 ^^^ (-1 : Int64)) = (-9223372036854775808 : Int64))) (hc28 : ¬ ((q2 ^^^ (-1 : Int64)) = (9223372036854775807 : Int64))) (hc34 : ¬ (q17 = (q2 ^^^ (-1 : Int64)))) :
    MetFree l zm5 (head1 (Jvm.Cond.code zm5 prog_2_method_8_code 11 (some .int) :: ws) ({ frames := 1, cells := 0, slots := 0, locals := 14 } : Room)) (fun a U => a = #[(.ref a1), (.long q2), .null] ∧ Z.Warmed39 U.vm ∧ U.heap = h0) (fun _ _ _ _ _ => True) (fun _ U o U' => ∃ v L, o = .returned v ∧ Q6_29 Z a1 q2 a4 a6 a14 q17 kc18 h0 n0 v U'.heap L ∧ FrameEnd U o U' L ({ frames := 1, cells := 0, slots := 0, locals := 14 } : Room).cells ({ frames := 1, cells := 0, slots := 0, locals := 14 } : Room).slots) := by
  refine MetFree.of_bodySF (plainFor_of_name pn_com_example_srok_srok_engine_BookSide) hisR ?_
  intro p e s m args below meth c s₁ Bd hml0 hP hK
  obtain ⟨rfl, hZ, hh⟩ := hP
  have hx := Bd.exec
  have hby := Bd.bytes
  have hml : c.maxLocals = 11 := hml0
  have hown : s.vm.findClass zs1 = some m.cls := findClass_of_methodNamed Bd.named
  have hnm := (name_of_methodNamed Bd.named Bd.method).1
  have X0 : Stand p l e ({ frames := 1, cells := 0, slots := 0, locals := 14 } : Room) s m #[(.ref a1), (.long q2), .null] below meth c s₁ [] 0 0 := Stand.of_body Bd
  have e0 : s₁.heap = h0 := by rw [← hh, Bd.state]; rfl
  have N0 := Fr.nil n0
  refine own_pre (g' := mkF m 0 (lc12 a1 q2) []) (ef_5 m a1 q2) ?_
  obtain ⟨_, T3, L3, X3, hQ3, st3⟩ := ocallP X0 hx hZ zm3 hown (ww hw 42 rfl) (ww hw 43 rfl) (own_selP (mvT hZ (ww hw 4 rfl)) (mvP hZ (ww hw 44 rfl)) (mvT hZ (ww hw 43 rfl)) (by decide)) (ww hw 44 rfl) (by decide) (ww hw 45 rfl) (ww hw 5 rfl) e0 F9 (rm7_3 l Z a0 hw [] a1 q2 a4 a6 h0 n0 Z0 F5 F7 ha8) (st := [(.long q2), (.ref a1)]) rfl 0 rfl (by decide) (pc := 2) (Ls := (lc12 a1 q2)) hml rfl (lenOf pd_3 rfl) d6_2 hby
  obtain ⟨rfl, N3q, e3⟩ := hQ3
  have N10 := Fr.app N0 N3q
  refine own_go (U' := T3.setTop (mkF m 7 (lc14 a1 q2 (q2 ^^^ (-1 : Int64))) [])) (fun t k => oaloadN X0 hx hby d6_0 rfl rfl (olloadN X0 hx hby d6_1 rfl (st3 _ (olstore X3 hx hby d6_5 (lc14 a1 q2 (q2 ^^^ (-1 : Int64))) rfl k)))) ?_
  obtain ⟨z11, hz11⟩ : ∃ z, z = (q2 ^^^ (-1 : Int64)) := ⟨_, rfl⟩
  rw [← hz11]
  obtain ⟨T13, X13, e13, st13⟩ := getF X3 hx hZ hown (host := "") (Or.inl (ww hw 26 rfl)) Via.refl e3 F12 (g := (mkF m 8 (lc14 a1 q2 z11) [(.ref a1)])) rfl rfl (hb hby d6_8)
  refine own_go (U' := T13.setTop (mkF m 21 (lc16 a1 q2 z11 1 1) [(.int 0)])) (fun t k => oaloadN X3 hx hby d6_7 rfl rfl (st13 _ (oistore X13 hx hby d6_11 (lc15 a1 q2 z11 1) rfl (oiconst X13 hx hby d6_13 (oistore X13 hx hby d6_14 (lc16 a1 q2 z11 1 1) rfl (oiload X13 hx hby d6_16 rfl (oiload X13 hx hby d6_18 rfl (oisub X13 hx hby d6_20 k)))))))) ?_
  obtain ⟨T16, X16, e16, st16⟩ := getF X13 hx hZ hown (host := "") (Or.inl (ww hw 17 rfl)) Via.refl e13 F15 (g := (mkF m 25 (lc16 a1 q2 z11 1 1) [(.ref a1)])) rfl rfl (hb hby d6_25)
  obtain ⟨cl20, Ar20, q20, S20, N20, H20, G20⟩ := id F19
  have hin21 : ¬ ((0 : Int32) < 0 ∨ cl20.slots.size ≤ ((0 : Int32)).toNatClampNeg) := inb_of S20 ⟨by decide, by decide⟩
  have hat21 : cl20.slots[((0 : Int32)).toNatClampNeg]? = some (.long q17) := Has.at H20 hin21 rfl
  refine own_go (U' := T16.setTop (mkF m 37 (lc16 a1 q2 z11 1 1) [(.int (lcmpW q17 z11))])) (fun t k => oifN X13 hx hby d6_21 (by decide) (oaloadN X13 hx hby d6_24 rfl rfl (st16 _ (oiload X16 hx hby d6_28 rfl (oiload X16 hx hby d6_30 rfl (oisub X16 hx hby d6_32 (X16.laload hx (j := (0 : Int32)) (v := (.long q17)) (by rw [e16]; exact Ar20.1) (State.isArrayOf_alike hZ.alike Ar20.2.1) Ar20.2.2 hin21 hat21 (g := (mkF m 33 (lc16 a1 q2 z11 1 1) [(.int 0), (.ref a14)])) rfl rfl (hb hby d6_33) _ (olload X16 hx hby d6_34 rfl (olcmp X16 hx hby d6_36 k))))))))) ?_
  have hs23 : ¬ (q17 < z11) := by rw [hz11]; exact hc22
  refine own_go (U' := T16.setTop (mkF m 16 (lc16 a1 q2 z11 0 2) [])) (fun t k => oifN X16 hx hby d6_37 (own_ll_lt_f hs23) (oiload X16 hx hby d6_40 rfl (oiload X16 hx hby d6_42 rfl (oisub X16 hx hby d6_44 (oistore X16 hx hby d6_45 (lc16 a1 q2 z11 0 1) rfl (oiload X16 hx hby d6_47 rfl (oiconst X16 hx hby d6_49 (oimul X16 hx hby d6_50 (oistore X16 hx hby d6_51 (lc16 a1 q2 z11 0 2) rfl (ogoto (pc := 53) X16 hx hby d6_53 16 (by decide) k)))))))))) ?_
  refine own_go (U' := T16.setTop (mkF m 21 (lc16 a1 q2 z11 0 2) [(.int ((0 : Int32) - (2 : Int32)))])) (fun t k => oiload X16 hx hby d6_16 rfl (oiload X16 hx hby d6_18 rfl (oisub X16 hx hby d6_20 k))) ?_
  rw [show ((0 : Int32) - (2 : Int32)) = (-2 : Int32) from by decide]
  refine own_go (U' := T16.setTop (mkF m 62 (lc16 a1 q2 z11 0 2) [(.int ((0 : Int32) - (2 : Int32))), (.int 0)])) (fun t k => oifY (pc := 21) X16 hx hby d6_21 56 (by decide) (by decide) (oiconst X16 hx hby d6_56 (oiload X16 hx hby d6_57 rfl (oiload X16 hx hby d6_59 rfl (oisub X16 hx hby d6_61 k))))) ?_
  rw [show ((0 : Int32) - (2 : Int32)) = (-2 : Int32) from by decide]
  refine own_go (U' := T16.setTop (mkF m 64 (lc16 a1 q2 z11 0 2) [(.int ((-2 : Int32) + (1 : Int32))), (.int 0)])) (fun t k => oiconst X16 hx hby d6_62 (oiadd X16 hx hby d6_63 k)) ?_
  rw [show ((-2 : Int32) + (1 : Int32)) = (-1 : Int32) from by decide]
  obtain ⟨_, T24, L24, X24, hQ24, st24⟩ := ocallS X16 hx hZ zm4 hown (ww hw 49 rfl) (ww hw 50 rfl) (by decide) (ww hw 52 rfl) (ww hw 51 rfl) e16 (rm8_16 l Z a0 hw []  h0 n0 Z0 ) (st := [(.int (-1)), (.int 0)]) rfl 0 rfl (by decide) (pc := 64) (Ls := (lc16 a1 q2 z11 0 2)) hml rfl (lenOf pd_4 rfl) d6_64 hby
  obtain ⟨rfl, N24q, e24⟩ := hQ24
  have N25 := Fr.app N10 N24q
  refine own_go (U' := T24.setTop (mkF m 79 (lc19 a1 q2 z11 0 2 0 0) [(.int 1), (.int 0)])) (fun t k => st24 _ (oistore X24 hx hby d6_67 (lc18 a1 q2 z11 0 2 0) rfl (oiload X24 hx hby d6_69 rfl (oiload X24 hx hby d6_71 rfl (oisub X24 hx hby d6_73 (oistore X24 hx hby d6_74 (lc19 a1 q2 z11 0 2 0 0) rfl (oiload X24 hx hby d6_76 rfl (oiconst X24 hx hby d6_78 k)))))))) ?_
  refine own_go (U' := T24.setTop (mkF m 132 (lc19 a1 q2 z11 0 2 0 0) [(.int 0), (.int 0)])) (fun t k => oicY (pc := 79) X24 hx hby d6_79 128 (by decide) (by decide) (oiload X24 hx hby d6_128 rfl (oiload X24 hx hby d6_130 rfl k))) ?_
  refine own_go (U' := T24.setTop (mkF m 157 (lc19 a1 q2 z11 0 2 0 0) [(.int (lcmpW z11 (-9223372036854775808 : Int64)))])) (fun t k => oicY (pc := 132) X24 hx hby d6_132 151 (by decide) (by decide) (olload X24 hx hby d6_151 rfl (X24.ldc2Long hx hown (mvT hZ (ww hw 53 rfl)) (g := (mkF m 153 (lc19 a1 q2 z11 0 2 0 0) [(.long z11)])) rfl (hb hby d6_153) _ (olcmp X24 hx hby d6_156 k)))) ?_
  have hs27 : ¬ (z11 = (-9223372036854775808 : Int64)) := by rw [hz11]; exact hc26
  refine own_go (U' := T24.setTop (mkF m 166 (lc19 a1 q2 z11 0 2 0 0) [(.int (lcmpW z11 (9223372036854775807 : Int64)))])) (fun t k => oifN X24 hx hby d6_157 (own_ll_eq_f hs27) (olload X24 hx hby d6_160 rfl (X24.ldc2Long hx hown (mvT hZ (ww hw 54 rfl)) (g := (mkF m 162 (lc19 a1 q2 z11 0 2 0 0) [(.long z11)])) rfl (hb hby d6_162) _ (olcmp X24 hx hby d6_165 k)))) ?_
  have hs29 : ¬ (z11 = (9223372036854775807 : Int64)) := by rw [hz11]; exact hc28
  refine own_go (U' := T24.setTop (mkF m 178 (lc19 a1 q2 z11 0 2 0 1) [(.int 1)])) (fun t k => oifN X24 hx hby d6_166 (own_ll_eq_f hs29) (oiconst X24 hx hby d6_169 (ogoto (pc := 170) X24 hx hby d6_170 174 (by decide) (oistore X24 hx hby d6_174 (lc19 a1 q2 z11 0 2 0 1) rfl (oiload X24 hx hby d6_176 rfl k))))) ?_
  obtain ⟨T30, X30, e30, st30⟩ := getF X24 hx hZ hown (host := "") (Or.inl (ww hw 26 rfl)) Via.refl e24 F12 (g := (mkF m 230 (lc19 a1 q2 z11 0 2 0 1) [(.ref a1), (.int 0)])) rfl rfl (hb hby d6_230)
  refine own_go (U' := T30.setTop (mkF m 233 (lc19 a1 q2 z11 0 2 0 1) [(.int 1), (.int 0)])) (fun t k => oifY (pc := 178) X24 hx hby d6_178 227 (by decide) (by decide) (oiload X24 hx hby d6_227 rfl (oaloadN X24 hx hby d6_229 rfl rfl (st30 _ k)))) ?_
  obtain ⟨T31, X31, e31, st31⟩ := getF X30 hx hZ hown (host := "") (Or.inl (ww hw 17 rfl)) Via.refl e30 F15 (g := (mkF m 237 (lc19 a1 q2 z11 0 2 0 1) [(.ref a1)])) rfl rfl (hb hby d6_237)
  obtain ⟨cl32, Ar32, q32, S32, N32, H32, G32⟩ := id F19
  have hin33 : ¬ ((0 : Int32) < 0 ∨ cl32.slots.size ≤ ((0 : Int32)).toNatClampNeg) := inb_of S32 ⟨by decide, by decide⟩
  have hat33 : cl32.slots[((0 : Int32)).toNatClampNeg]? = some (.long q17) := Has.at H32 hin33 rfl
  refine own_go (U' := T31.setTop (mkF m 246 (lc19 a1 q2 z11 0 2 0 1) [(.int (lcmpW q17 z11))])) (fun t k => oicN X30 hx hby d6_233 (by decide) (oaloadN X30 hx hby d6_236 rfl rfl (st31 _ (oiload X31 hx hby d6_240 rfl (X31.laload hx (j := (0 : Int32)) (v := (.long q17)) (by rw [e31]; exact Ar32.1) (State.isArrayOf_alike hZ.alike Ar32.2.1) Ar32.2.2 hin33 hat33 (g := (mkF m 242 (lc19 a1 q2 z11 0 2 0 1) [(.int 0), (.ref a14)])) rfl rfl (hb hby d6_242) _ (olload X31 hx hby d6_243 rfl (olcmp X31 hx hby d6_245 k))))))) ?_
  have hs35 : ¬ (q17 = z11) := by rw [hz11]; exact hc34
  refine own_go (U' := T31.setTop (mkF m 280 (lc20 a1 q2 z11 0 2 0 1 0) [(.int 0)])) (fun t k => oifY (pc := 246) X31 hx hby d6_246 275 (own_ll_ne_t hs35) (by decide) (oiconst X31 hx hby d6_275 (oistore X31 hx hby d6_276 (lc20 a1 q2 z11 0 2 0 1 0) rfl (oiload X31 hx hby d6_278 rfl k)))) ?_
  refine own_go (U' := T31.setTop (mkF m 292 (lc20 a1 q2 z11 0 2 0 1 0) [(.int ((-1 : Int32) - (0 : Int32)))])) (fun t k => oifY (pc := 280) X31 hx hby d6_280 288 (by decide) (by decide) (oiconst X31 hx hby d6_288 (oiload X31 hx hby d6_289 rfl (oisub X31 hx hby d6_291 k)))) ?_
  rw [show ((-1 : Int32) - (0 : Int32)) = (-1 : Int32) from by decide]
  obtain ⟨fs, hr, hrun, hended, hW, hsame⟩ := X31.leave (v := some (.int (-1))) (fun h => by rw [Bd.returns] at h; cases h)
  refine own_out ⟨_, _, ?_, hrun, hended, _, _, rfl, ?_, ⟨_, rfl⟩, hW, hsame.mono (by decide) (by decide)⟩
  · exact retI X31 hx Bd.returns (hb hby d6_292) hr
  · show Q6_29 Z a1 q2 a4 a6 a14 q17 kc18 h0 n0 _ T31.heap _
    rw [e31]
    exact ⟨rfl, N25, rfl⟩
def Qmg6_30 (Z : State) (a1 : Addr) (q2 : Int64) (a3 : Addr) (a5 : Addr) (a10 : Addr) (q12 : Int64) (kc13 : ClassId) (h0 : Heap) (n0 : Nat) (v : Option Value) (h : Heap) (L : List Loc) : Prop := v = some (.int (-1)) ∧ Fr n0 L ∧ h = h0
theorem mg6_30 (l : Launch) (Z : State) (a0 : Array Value) (hw : ∀ d ∈ tables_1, d.before a0 Z = true) (ws : List Jvm.Cond) (a1 : Addr) (q2 : Int64) (a3 : Addr) (a5 : Addr) (a10 : Addr) (q12 : Int64) (kc13 : ClassId) (h0 : Heap) (n0 : Nat) (Z0 : n0 ≤ h0.size) (F4 : Fld Z h0 a1 zs1 "side" zs3 (.ref a3)) (F6 : Sta Z h0 zs5 "BUY" zs3 (.ref a5)) (ha7 : a3 ≠ a5) (F8 : Exa Z h0 a1 zs1) (F9 : Fld Z h0 a1 zs1 "count" "I" (.int 1)) (F11 : Fld Z h0 a1 zs1 "ranks" "[J" (.ref a10)) (F14 : Arv Z h0 a10 kc13 .long (16 : Int32) [(.long q12)] (.long (0 : Int64))) (hc15 : ¬ (q12 < (q2 ^^^ (-1 : Int64)))) (hc16 : ¬ (q12 = (q2 ^^^ (-1 : Int64)))) (hc17 : ¬ ((q2 ^^^ (-1 : Int64)) = (9223372036854775807 : Int64))) :
    MetFree l zm5 (head1 (Jvm.Cond.code zm5 prog_2_method_8_code 11 (some .int) :: ws) ({ frames := 1, cells := 0, slots := 0, locals := 14 } : Room)) (fun a U => a = #[(.ref a1), (.long q2), .null] ∧ Z.Warmed39 U.vm ∧ U.heap = h0) (fun _ _ _ _ _ => True) (fun _ U o U' => ∃ v L, o = .returned v ∧ Qmg6_30 Z a1 q2 a3 a5 a10 q12 kc13 h0 n0 v U'.heap L ∧ FrameEnd U o U' L ({ frames := 1, cells := 0, slots := 0, locals := 14 } : Room).cells ({ frames := 1, cells := 0, slots := 0, locals := 14 } : Room).slots) := by
  by_cases hm1 : (q2 ^^^ (-1 : Int64)) = (-9223372036854775808 : Int64)
  · exact rm6_28 l Z a0 hw ws a1 q2 a3 a5 a10 q12 kc13 h0 n0 Z0 F4 F6 ha7 F8 F9 F11 F14 hc15 hm1 hc16
  · exact rm6_29 l Z a0 hw ws a1 q2 a3 a5 a10 q12 kc13 h0 n0 Z0 F4 F6 ha7 F8 F9 F11 F14 hc15 hm1 hc17 hc16
def Q5_31 (Z : State) (a1 : Addr) (q2 : Int64) (a4 : Addr) (a6 : Addr) (a11 : Addr) (q13 : Int64) (kc14 : ClassId) (a21 : Addr) (a24 : Addr) (kc25 : ClassId) (h0 : Heap) (n0 : Nat) (v : Option Value) (h : Heap) (L : List Loc) : Prop := ∃ b49 : Addr, v = some (.ref b49) ∧ Fr n0 L ∧ Keep h0 h [a21, a11, a1] ∧ h0.size ≤ b49 ∧ Arv Z h a21 kc25 (.object zs0) (16 : Int32) [(.ref b49), (.ref a24)] .null ∧ Arv Z h a11 kc14 .long (16 : Int32) [(.long (q2 ^^^ (-1 : Int64))), (.long q13)] (.long (0 : Int64)) ∧ Fld Z h a1 zs1 "side" zs3 (.ref a4) ∧ Fld Z h a1 zs1 "count" "I" (.int 2) ∧ Fld Z h a1 zs1 "ranks" "[J" (.ref a11) ∧ Fld Z h a1 zs1 "levels" zs2 (.ref a21) ∧ Fld Z h a1 zs1 "emptyLevels" "I" (.int 0) ∧ Exa Z h b49 zs0 ∧ Fld Z h b49 zs0 "price" zs9 .null ∧ Fld Z h b49 zs0 "priceSteps" "J" (.long q2) ∧ Fld Z h b49 zs0 "first" zs10 .null
set_option maxRecDepth 65536 in
set_option maxHeartbeats 40000000 in
theorem rm5_31 (l : Launch) (Z : State) (a0 : Array Value) (hw : ∀ d ∈ tables_1, d.before a0 Z = true) (ws : List Jvm.Cond) (a1 : Addr) (q2 : Int64) (a4 : Addr) (a6 : Addr) (a11 : Addr) (q13 : Int64) (kc14 : ClassId) (a21 : Addr) (a24 : Addr) (kc25 : ClassId) (h0 : Heap) (n0 : Nat) (Z0 : n0 ≤ h0.size) (F5 : Fld Z h0 a1 zs1 "side" zs3 (.ref a4)) (F7 : Sta Z h0 zs5 "BUY" zs3 (.ref a6)) (ha8 : a4 ≠ a6) (F9 : Exa Z h0 a1 zs1) (F10 : Fld Z h0 a1 zs1 "count" "I" (.int 1)) (F12 : Fld Z h0 a1 zs1 "ranks" "[J" (.ref a11)) (F15 : Arv Z h0 a11 kc14 .long (16 : Int32) [(.long q13)] (.long (0 : Int64))) (hc16 : ¬ (q13 < (q2 ^^^ (-1 : Int64)))) (hc17 : ¬ (q13 = (q2 ^^^ (-1 : Int64)))) (hc18 : ¬ ((q2 ^^^ (-1 : Int64)) = (9223372036854775807 : Int64))) (F22 : Fld Z h0 a1 zs1 "levels" zs2 (.ref a21)) (F26 : Arv Z h0 a21 kc25 (.object zs0) (16 : Int32) [(.ref a24)] .null) (g33 : n0 ≤ a21) (O34 : Ovr Z kc25 zs0) (F35 : Exa Z h0 a24 zs0) (ne37 : a1 ≠ a21) (ne44 : a11 ≠ a21) (g47 : n0 ≤ a11) (ne59 : a1 ≠ a11) (F85 : Fld Z h0 a1 zs1 "emptyLevels" "I" (.int 0)) (g88 : n0 ≤ a1) :
    MetFree l zm7 (head1 (Jvm.Cond.code zm7 prog_2_method_5_code 7 (some (.object zs0)) :: ws) ({ frames := 2, cells := 1, slots := 4, locals := 36 } : Room)) (fun a U => a = #[(.ref a1), (.long q2), .null] ∧ Z.Warmed39 U.vm ∧ U.heap = h0) (fun _ _ _ _ _ => True) (fun _ U o U' => ∃ v L, o = .returned v ∧ Q5_31 Z a1 q2 a4 a6 a11 q13 kc14 a21 a24 kc25 h0 n0 v U'.heap L ∧ FrameEnd U o U' L ({ frames := 2, cells := 1, slots := 4, locals := 36 } : Room).cells ({ frames := 2, cells := 1, slots := 4, locals := 36 } : Room).slots) := by
  refine MetFree.of_bodySF (plainFor_of_name pn_com_example_srok_srok_engine_BookSide) hisR ?_
  intro p e s m args below meth c s₁ Bd hml0 hP hK
  obtain ⟨rfl, hZ, hh⟩ := hP
  have hx := Bd.exec
  have hby := Bd.bytes
  have hml : c.maxLocals = 7 := hml0
  have hown : s.vm.findClass zs1 = some m.cls := findClass_of_methodNamed Bd.named
  have hnm := (name_of_methodNamed Bd.named Bd.method).1
  have X0 : Stand p l e ({ frames := 2, cells := 1, slots := 4, locals := 36 } : Room) s m #[(.ref a1), (.long q2), .null] below meth c s₁ [] 0 0 := Stand.of_body Bd
  have e0 : s₁.heap = h0 := by rw [← hh, Bd.state]; rfl
  have N0 := Fr.nil n0
  refine own_pre (g' := mkF m 0 (lc11 a1 q2) []) (ef_7 m a1 q2) ?_
  obtain ⟨_, T3, L3, X3, hQ3, st3⟩ := ocallP X0 hx hZ zm5 hown (ww hw 38 rfl) (ww hw 39 rfl) (own_selP (mvT hZ (ww hw 4 rfl)) (mvP hZ (ww hw 40 rfl)) (mvT hZ (ww hw 39 rfl)) (by decide)) (ww hw 40 rfl) (by decide) (ww hw 41 rfl) (ww hw 5 rfl) e0 F9 (mg6_30 l Z a0 hw [] a1 q2 a4 a6 a11 q13 kc14 h0 n0 Z0 F5 F7 ha8 F9 F10 F12 F15 hc16 hc17 hc18) (st := [.null, (.long q2), (.ref a1)]) rfl 0 rfl (by decide) (pc := 3) (Ls := (lc11 a1 q2)) hml rfl (lenOf pd_5 rfl) d5_3 hby
  obtain ⟨rfl, N3q, e3⟩ := hQ3
  have N19 := Fr.app N0 N3q
  refine own_go (U' := T3.setTop (mkF m 10 (lc21 a1 q2 (-1)) [(.int (-1))])) (fun t k => oaloadN X0 hx hby d5_0 rfl rfl (olloadN X0 hx hby d5_1 rfl (oaloadN X0 hx hby d5_2 rfl rfl (st3 _ (oistore X3 hx hby d5_6 (lc21 a1 q2 (-1)) rfl (oiload X3 hx hby d5_8 rfl k)))))) ?_
  refine own_go (U' := T3.setTop (mkF m 47 (lc21 a1 q2 (-1)) [(.int (-(-1 : Int32)))])) (fun t k => oifY (pc := 10) X3 hx hby d5_10 44 (by decide) (by decide) (oiload X3 hx hby d5_44 rfl (oineg X3 hx hby d5_46 k))) ?_
  rw [show (-(-1 : Int32)) = (1 : Int32) from by decide]
  obtain ⟨T20, X20, e20, st20⟩ := getF X3 hx hZ hown (host := "") (Or.inl (ww hw 26 rfl)) Via.refl e3 F10 (g := (mkF m 52 (lc22 a1 q2 (-1) 0) [(.ref a1)])) rfl rfl (hb hby d5_52)
  obtain ⟨T23, X23, e23, st23⟩ := getF X20 hx hZ hown (host := "") (Or.inl (ww hw 14 rfl)) Via.refl e20 F22 (g := (mkF m 56 (lc22 a1 q2 (-1) 0) [(.ref a1), (.int 1)])) rfl rfl (hb hby d5_56)
  refine own_go (U' := T23.setTop (mkF m 59 (lc22 a1 q2 (-1) 0) [(.ref a21), (.int 1)])) (fun t k => oiconst X3 hx hby d5_47 (oisub X3 hx hby d5_48 (oistore X3 hx hby d5_49 (lc22 a1 q2 (-1) 0) rfl (oaloadN X3 hx hby d5_51 rfl rfl (st20 _ (oaloadN X20 hx hby d5_55 rfl rfl (st23 _ k))))))) ?_
  obtain ⟨cl27, Ar27, q27, S27, N27, H27, G27⟩ := id F26
  refine own_go (fun t k => X23.arraylength hx (by rw [e23]; exact Ar27.1) (State.isArrayOf_alike hZ.alike Ar27.2.1) (g := (mkF m 59 (lc22 a1 q2 (-1) 0) [(.ref a21), (.int 1)])) rfl rfl (hb hby d5_59) _ k) ?_
  rw [len_of S27 N27]
  obtain ⟨T28, X28, e28, st28⟩ := getF X23 hx hZ hown (host := "") (Or.inl (ww hw 14 rfl)) Via.refl e23 F22 (g := (mkF m 101 (lc22 a1 q2 (-1) 0) [(.ref a1)])) rfl rfl (hb hby d5_101)
  obtain ⟨T29, X29, e29, st29⟩ := getF X28 hx hZ hown (host := "") (Or.inl (ww hw 14 rfl)) Via.refl e28 F22 (g := (mkF m 107 (lc22 a1 q2 (-1) 0) [(.ref a1), (.int 0), (.ref a21)])) rfl rfl (hb hby d5_107)
  obtain ⟨T30, X30, e30, st30⟩ := getF X29 hx hZ hown (host := "") (Or.inl (ww hw 26 rfl)) Via.refl e29 F10 (g := (mkF m 115 (lc22 a1 q2 (-1) 0) [(.ref a1), (.int 1), (.ref a21), (.int 0), (.ref a21)])) rfl rfl (hb hby d5_115)
  have f32 : Arv Z h0 a21 kc25 (.object zs0) (16 : Int32) [(.ref a24), .null] .null := F26.pad (pad_rep [(.ref a24)] .null 1)
  obtain ⟨cl31, Ar31, q31, -⟩ := id f32
  obtain ⟨T31, h31, L31, X31, e31, N31, K31, V31, st31⟩ := cpA X30 hx hZ hown (ww hw 55 rfl) (ww hw 58 rfl) (ww hw 56 rfl) (ww hw 57 rfl) e30 (us := [(.ref a24)]) f32 f32 (Or.inr ⟨rfl, rfl, ⟨(Sto.ofV Ar31 q31 O34 (Ins.self F35)), trivial⟩⟩) (by decide) (by decide) (by decide) (by decide) (by decide) rfl (Nat.le_of_ble_eq_true rfl) N19 g33 (g := (mkF m 121 (lc22 a1 q2 (-1) 0) [(.int 1), (.int 1), (.ref a21), (.int 0), (.ref a21)])) rfl (by rw [hml]; rfl) rfl (hb hby d5_121) (by decide) (W := 0) (by show 2 * 0 + _ ≤ _; exact Nat.le_of_eq rfl) (by decide)
  have f36 : Arv Z h31 a21 kc25 (.object zs0) (16 : Int32) [(.ref a24), (.ref a24)] .null := V31
  have f38 : Fld Z h31 a1 zs1 "ranks" "[J" (.ref a11) := (F12.keep K31 (ninS ne37 nin0))
  obtain ⟨T39, X39, e39, st39⟩ := getF X31 hx hZ hown (host := "") (Or.inl (ww hw 17 rfl)) Via.refl e31 f38 (g := (mkF m 125 (lc22 a1 q2 (-1) 0) [(.ref a1)])) rfl rfl (hb hby d5_125)
  obtain ⟨T40, X40, e40, st40⟩ := getF X39 hx hZ hown (host := "") (Or.inl (ww hw 17 rfl)) Via.refl e39 f38 (g := (mkF m 131 (lc22 a1 q2 (-1) 0) [(.ref a1), (.int 0), (.ref a11)])) rfl rfl (hb hby d5_131)
  have f41 : Fld Z h31 a1 zs1 "count" "I" (.int 1) := (F10.keep K31 (ninS ne37 nin0))
  obtain ⟨T42, X42, e42, st42⟩ := getF X40 hx hZ hown (host := "") (Or.inl (ww hw 26 rfl)) Via.refl e40 f41 (g := (mkF m 139 (lc22 a1 q2 (-1) 0) [(.ref a1), (.int 1), (.ref a11), (.int 0), (.ref a11)])) rfl rfl (hb hby d5_139)
  have f45 : Arv Z h31 a11 kc14 .long (16 : Int32) [(.long q13)] (.long (0 : Int64)) := (F15.keep K31 (ninS ne44 nin0))
  have f46 : Arv Z h31 a11 kc14 .long (16 : Int32) [(.long q13), (.long 0)] (.long (0 : Int64)) := f45.pad (pad_rep [(.long q13)] (.long (0 : Int64)) 1)
  obtain ⟨T43, h43, L43, X43, e43, N43, K43, V43, st43⟩ := cpA X42 hx hZ hown (ww hw 55 rfl) (ww hw 58 rfl) (ww hw 56 rfl) (ww hw 57 rfl) e42 (us := [(.long q13)]) f46 f46 (Or.inl ⟨rfl, rfl⟩) (by decide) (by decide) (by decide) (by decide) (by decide) rfl (Nat.le_of_ble_eq_true rfl) N31 g47 (g := (mkF m 145 (lc22 a1 q2 (-1) 0) [(.int 1), (.int 1), (.ref a11), (.int 0), (.ref a11)])) rfl (by rw [hml]; rfl) rfl (hb hby d5_145) (by decide) (W := 0) (by show 2 * 0 + _ ≤ _; exact Nat.le_of_eq rfl) (by decide)
  have f48 : Arv Z h43 a11 kc14 .long (16 : Int32) [(.long q13), (.long q13)] (.long (0 : Int64)) := V43
  obtain ⟨T49, h49, X49, e49, E49, A49, D49, -, st49⟩ := newO X43 hx hZ hown (ww hw 12 rfl) (ww hw 59 rfl) (ww hw 60 rfl) e43 (g := (mkF m 148 (lc22 a1 q2 (-1) 0) [])) rfl (hb hby d5_148) (by decide) (by decide)
  obtain ⟨b49, g49⟩ : ∃ z, z = h43.size := ⟨_, rfl⟩
  rw [← g49] at A49 D49 st49
  have f50 : Fld Z h49 b49 zs0 "price" zs9 .null := D49 (Or.inr (ww hw 66 rfl)) (ty := (.object zs12)) (by decide)
  have f51 : Fld Z h49 b49 zs0 "priceSteps" "J" (.long 0) := D49 (Or.inr (ww hw 68 rfl)) (ty := .long) (by decide)
  have f52 : Fld Z h49 b49 zs0 "first" zs10 .null := D49 (Or.inl (ww hw 83 rfl)) (ty := (.object zs13)) (by decide)
  have Z_1 : n0 ≤ h31.size := Nat.le_trans Z0 K31.1
  have Z_2 : n0 ≤ h43.size := Nat.le_trans Z_1 K43.1
  have g54 : n0 ≤ b49 := Nat.le_trans Z_2 (Nat.le_of_eq g49.symm)
  have Z_3 : n0 ≤ h49.size := Nat.le_trans Z_2 E49.1
  obtain ⟨_, T53, L53, X53, hQ53, st53⟩ := ocallI X49 hx hZ zm6 rfl hown (ww hw 61 rfl) (ww hw 62 rfl) (by decide) (ww hw 63 rfl) (ww hw 60 rfl) e49 (rm9_9 l Z a0 hw [] b49 q2 h49 n0 Z_3 f50 f51 f52 A49 g54) (st := [(.long q2), .null, (.ref b49), (.ref b49)]) rfl 1 rfl (by decide) (pc := 154) (Ls := (lc22 a1 q2 (-1) 0)) hml rfl (lenOf pd_6 rfl) d5_154 hby
  obtain ⟨rfl, N53q, K53, f55, f56, f57⟩ := hQ53
  have N58 := Fr.app N43 N53q
  have ne60 : a1 ≠ b49 := Nat.ne_of_lt (Nat.lt_of_lt_of_le (Nat.lt_of_lt_of_le (Nat.lt_of_lt_of_le (F5.lt) K31.1) K43.1) (Nat.le_of_eq g49.symm))
  have f61 : Fld Z T53.heap a1 zs1 "levels" zs2 (.ref a21) := ((Fld.ext E49 ((F22.keep K31 (ninS ne37 nin0)).keep K43 (ninS ne59 nin0))).keep K53 (ninS ne60 nin0))
  obtain ⟨T62, X62, e62, st62⟩ := getF X53 hx hZ hown (host := "") (Or.inl (ww hw 14 rfl)) Via.refl rfl f61 (g := (mkF m 160 (lc24 a1 q2 (-1) 0 b49) [(.ref a1)])) rfl rfl (hb hby d5_160)
  have ne63 : a21 ≠ b49 := Nat.ne_of_lt (Nat.lt_of_lt_of_le (Nat.lt_of_lt_of_le (f36.lt) K43.1) (Nat.le_of_eq g49.symm))
  have f64 : Arv Z T53.heap a21 kc25 (.object zs0) (16 : Int32) [(.ref a24), (.ref a24)] .null := (((f36.keep K43 (ninS (Ne.symm ne44) nin0)).ext E49).keep K53 (ninS ne63 nin0))
  have f65 : Exa Z T53.heap b49 zs0 := (A49.keep K53)
  obtain ⟨cl66, Ar66, q66, S66, N66, H66, G66⟩ := id f64
  have hin67 : ¬ ((0 : Int32) < 0 ∨ cl66.slots.size ≤ ((0 : Int32)).toNatClampNeg) := inb_of S66 ⟨by decide, by decide⟩
  obtain ⟨T67, h67, X67, e67, W67, st67⟩ := stR X62 hx hZ e62 Ar66 (j := (0 : Int32)) hin67 rfl (Sto.ofV Ar66 q66 O34 (Ins.self f65)) (g := (mkF m 167 (lc24 a1 q2 (-1) 0 b49) [(.ref b49), (.int 0), (.ref a21)])) rfl rfl (hb hby d5_167)
  have N68 := Fr.snoc X67 N58 g33
  have f69 : Arv Z h67 a21 kc25 (.object zs0) (16 : Int32) [(.ref b49), (.ref a24)] .null := Arv.set Ar66 q66 S66 N66 H66 G66 (by rfl) W67 0 rfl (Nat.le_of_ble_eq_true rfl)
  have f70 : Fld Z h67 a1 zs1 "ranks" "[J" (.ref a11) := (Fld.other W67 ((Fld.ext E49 (f38.keep K43 (ninS ne59 nin0))).keep K53 (ninS ne60 nin0)) (Or.inl ne37))
  obtain ⟨T71, X71, e71, st71⟩ := getF X67 hx hZ hown (host := "") (Or.inl (ww hw 17 rfl)) Via.refl e67 f70 (g := (mkF m 169 (lc24 a1 q2 (-1) 0 b49) [(.ref a1)])) rfl rfl (hb hby d5_169)
  have f73 : Fld Z h67 a1 zs1 "side" zs3 (.ref a4) := (Fld.other W67 ((Fld.ext E49 ((F5.keep K31 (ninS ne37 nin0)).keep K43 (ninS ne59 nin0))).keep K53 (ninS ne60 nin0)) (Or.inl ne37))
  have f74 : Sta Z h67 zs5 "BUY" zs3 (.ref a6) := (Sta.wr W67 (own_staK (Sta.ext E49 (own_staK (own_staK F7 K31 (allS (own_nsV f32) all0)) K43 (allS (own_nsV f46) all0))) K53 (allS (own_nsF f50) all0)))
  have Z_4 : n0 ≤ T53.heap.size := Nat.le_trans Z_3 K53.1
  have Z_5 : n0 ≤ h67.size := Nat.le_trans Z_4 (Keep.of_wr W67).1
  have f75 : Exa Z h67 a1 zs1 := (Exa.wr W67 ((Exa.ext E49 ((F9.keep K31).keep K43)).keep K53))
  obtain ⟨_, T72, L72, X72, hQ72, st72⟩ := ocallP X71 hx hZ zm3 hown (ww hw 42 rfl) (ww hw 43 rfl) (own_selP (mvT hZ (ww hw 4 rfl)) (mvP hZ (ww hw 44 rfl)) (mvT hZ (ww hw 43 rfl)) (by decide)) (ww hw 44 rfl) (by decide) (ww hw 45 rfl) (ww hw 5 rfl) e71 f75 (rm7_3 l Z a0 hw [] a1 q2 a4 a6 h67 n0 Z_5 f73 f74 ha8) (st := [(.long q2), (.ref a1), (.int 0), (.ref a11)]) rfl 2 rfl (by decide) (pc := 176) (Ls := (lc24 a1 q2 (-1) 0 b49)) hml rfl (lenOf pd_3 rfl) d5_176 hby
  obtain ⟨rfl, N72q, e72⟩ := hQ72
  have N76 := Fr.app N68 N72q
  have ne77 : a11 ≠ b49 := Nat.ne_of_lt (Nat.lt_of_lt_of_le (f48.lt) (Nat.le_of_eq g49.symm))
  have f78 : Arv Z h67 a11 kc14 .long (16 : Int32) [(.long q13), (.long q13)] (.long (0 : Int64)) := (((f48.ext E49).keep K53 (ninS ne77 nin0)).other W67 ne44)
  obtain ⟨cl79, Ar79, q79, S79, N79, H79, G79⟩ := id f78
  have hin80 : ¬ ((0 : Int32) < 0 ∨ cl79.slots.size ≤ ((0 : Int32)).toNatClampNeg) := inb_of S79 ⟨by decide, by decide⟩
  obtain ⟨T80, h80, X80, e80, W80, st80⟩ := stJ X72 hx hZ e72 Ar79 (j := (0 : Int32)) hin80 (g := (mkF m 179 (lc24 a1 q2 (-1) 0 b49) [(.long (q2 ^^^ (-1 : Int64))), (.int 0), (.ref a11)])) rfl rfl (hb hby d5_179)
  have N81 := Fr.snoc X80 N76 g47
  have f82 : Arv Z h80 a11 kc14 .long (16 : Int32) [(.long (q2 ^^^ (-1 : Int64))), (.long q13)] (.long (0 : Int64)) := Arv.set Ar79 q79 S79 N79 H79 G79 (by rfl) W80 0 rfl (Nat.le_of_ble_eq_true rfl)
  have f83 : Fld Z h80 a1 zs1 "count" "I" (.int 1) := (Fld.other W80 (Fld.other W67 ((Fld.ext E49 (f41.keep K43 (ninS ne59 nin0))).keep K53 (ninS ne60 nin0)) (Or.inl ne37)) (Or.inl ne59))
  obtain ⟨T84, X84, e84, st84⟩ := getF X80 hx hZ hown (host := "") (Or.inl (ww hw 26 rfl)) Via.refl e80 f83 (g := (mkF m 182 (lc24 a1 q2 (-1) 0 b49) [(.ref a1), (.ref a1)])) rfl rfl (hb hby d5_182)
  have f86 : Exa Z h80 a1 zs1 := (Exa.wr W80 f75)
  obtain ⟨T87, h87, X87, e87, W87, st87⟩ := putF X84 hx hZ hown (host := "") (Or.inl (ww hw 26 rfl)) Via.refl e84 f83 f86 (Or.inl (ww hw 27 rfl)) (ww hw 4 rfl) (ty := .int) (by decide) rfl rfl (g := (mkF m 187 (lc24 a1 q2 (-1) 0 b49) [(.int 2), (.ref a1)])) rfl rfl (hb hby d5_187)
  have N89 := Fr.snoc X87 N81 g88
  have f90 : Fld Z h87 a1 zs1 "count" "I" (.int 2) := Fld.same W87 f83
  refine own_go (U' := T87.setTop (mkF m 192 (lc24 a1 q2 (-1) 0 b49) [(.ref b49)])) (fun t k => oicY (pc := 60) X23 hx hby d5_60 100 (by decide) (by decide) (oaloadN X23 hx hby d5_100 rfl rfl (st28 _ (oiload X28 hx hby d5_104 rfl (oaloadN X28 hx hby d5_106 rfl rfl (st29 _ (oiload X29 hx hby d5_110 rfl (oiconst X29 hx hby d5_112 (oiadd X29 hx hby d5_113 (oaloadN X29 hx hby d5_114 rfl rfl (st30 _ (oiload X30 hx hby d5_118 rfl (oisub X30 hx hby d5_120 (st31 _ (oaloadN X31 hx hby d5_124 rfl rfl (st39 _ (oiload X39 hx hby d5_128 rfl (oaloadN X39 hx hby d5_130 rfl rfl (st40 _ (oiload X40 hx hby d5_134 rfl (oiconst X40 hx hby d5_136 (oiadd X40 hx hby d5_137 (oaloadN X40 hx hby d5_138 rfl rfl (st42 _ (oiload X42 hx hby d5_142 rfl (oisub X42 hx hby d5_144 (st43 _ (st49 _ (odup X49 hx hby d5_151 rfl (oaloadN X49 hx hby d5_152 rfl rfl (olloadN X49 hx hby d5_153 rfl (st53 _ (oastore X53 hx hby d5_157 (lc24 a1 q2 (-1) 0 b49) rfl rfl (oaloadN X53 hx hby d5_159 rfl rfl (st62 _ (oiload X62 hx hby d5_163 rfl (oaload X62 hx hby d5_165 rfl rfl (st67 _ (oaloadN X67 hx hby d5_168 rfl rfl (st71 _ (oiload X71 hx hby d5_172 rfl (oaloadN X71 hx hby d5_174 rfl rfl (olloadN X71 hx hby d5_175 rfl (st72 _ (st80 _ (oaloadN X80 hx hby d5_180 rfl rfl (odup X80 hx hby d5_181 rfl (st84 _ (oiconst X84 hx hby d5_185 (oiadd X84 hx hby d5_186 (st87 _ (oaload X87 hx hby d5_190 rfl rfl k)))))))))))))))))))))))))))))))))))))))))))))))))))) ?_
  have f91 : Arv Z h87 a21 kc25 (.object zs0) (16 : Int32) [(.ref b49), (.ref a24)] .null := ((f69.other W80 (Ne.symm ne44)).other W87 (Ne.symm ne37))
  have f92 : Arv Z h87 a11 kc14 .long (16 : Int32) [(.long (q2 ^^^ (-1 : Int64))), (.long q13)] (.long (0 : Int64)) := (f82.other W87 (Ne.symm ne59))
  have f93 : Fld Z h87 a1 zs1 "side" zs3 (.ref a4) := (Fld.other W87 (Fld.other W80 f73 (Or.inl ne59)) (Or.inr (slot_ne (Or.inr (ww hw 20 rfl)) (Or.inl (ww hw 27 rfl)) (by decide) (t := (.object zs5)) (t' := .int) (by decide) (by decide))))
  have f94 : Fld Z h87 a1 zs1 "ranks" "[J" (.ref a11) := (Fld.other W87 (Fld.other W80 f70 (Or.inl ne59)) (Or.inr (slot_ne (Or.inl (ww hw 18 rfl)) (Or.inl (ww hw 27 rfl)) (by decide) (t := (.array .long)) (t' := .int) (by decide) (by decide))))
  have f95 : Fld Z h87 a1 zs1 "levels" zs2 (.ref a21) := (Fld.other W87 (Fld.other W80 (Fld.other W67 f61 (Or.inl ne37)) (Or.inl ne59)) (Or.inr (slot_ne (Or.inl (ww hw 15 rfl)) (Or.inl (ww hw 27 rfl)) (by decide) (t := (.array (.object zs0))) (t' := .int) (by decide) (by decide))))
  have f96 : Fld Z h87 a1 zs1 "emptyLevels" "I" (.int 0) := (Fld.other W87 (Fld.other W80 (Fld.other W67 ((Fld.ext E49 ((F85.keep K31 (ninS ne37 nin0)).keep K43 (ninS ne59 nin0))).keep K53 (ninS ne60 nin0)) (Or.inl ne37)) (Or.inl ne59)) (Or.inr (slot_ne (Or.inl (ww hw 76 rfl)) (Or.inl (ww hw 27 rfl)) (by decide) (t := .int) (t' := .int) (by decide) (by decide))))
  have f97 : Exa Z h87 b49 zs0 := (Exa.wr W87 (Exa.wr W80 (Exa.wr W67 f65)))
  have f98 : Fld Z h87 b49 zs0 "price" zs9 .null := (Fld.other W87 (Fld.other W80 (Fld.other W67 f55 (Or.inl (Ne.symm ne63))) (Or.inl (Ne.symm ne77))) (Or.inl (Ne.symm ne60)))
  have f99 : Fld Z h87 b49 zs0 "priceSteps" "J" (.long q2) := (Fld.other W87 (Fld.other W80 (Fld.other W67 f56 (Or.inl (Ne.symm ne63))) (Or.inl (Ne.symm ne77))) (Or.inl (Ne.symm ne60)))
  have f100 : Fld Z h87 b49 zs0 "first" zs10 .null := (Fld.other W87 (Fld.other W80 (Fld.other W67 f57 (Or.inl (Ne.symm ne63))) (Or.inl (Ne.symm ne77))) (Or.inl (Ne.symm ne60)))
  obtain ⟨fs, hr, hrun, hended, hW, hsame⟩ := X87.leave (v := some (.ref b49)) (fun h => by rw [Bd.returns] at h; cases h)
  refine own_out ⟨_, _, ?_, hrun, hended, _, _, rfl, ?_, ⟨_, rfl⟩, hW, hsame.mono (by decide) (by decide)⟩
  · exact retOut X87 hx Bd.returns rfl (Or.inr (Or.inr (Or.inr (Or.inr ⟨rfl, rfl, rfl⟩)))) (hb hby d5_192) hr
  · show Q5_31 Z a1 q2 a4 a6 a11 q13 kc14 a21 a24 kc25 h0 n0 _ T87.heap _
    rw [e87]
    exact ⟨b49, rfl, N89, ((((Keep.trans ((Keep.trans (Keep.trans (Keep.refl h0 [a21, a11, a1]) K31 (allS (Or.inl (List.mem_of_getElem? (i := 0) rfl)) all0)) K43 (allS (Or.inl (List.mem_of_getElem? (i := 1) rfl)) all0)).ext E49) K53 (allS (Or.inr (Nat.le_trans K31.1 (Nat.le_trans K43.1 (Nat.le_of_eq g49.symm)))) all0)).wr W67 (Or.inl (List.mem_of_getElem? (i := 0) rfl))).wr W80 (Or.inl (List.mem_of_getElem? (i := 1) rfl))).wr W87 (Or.inl (List.mem_of_getElem? (i := 2) rfl))), (Nat.le_trans K31.1 (Nat.le_trans K43.1 (Nat.le_of_eq g49.symm))), f91, f92, f93, f90, f94, f95, f96, f97, f98, f99, f100⟩
def Q7_32 (Z : State) (a1 : Addr) (q2 : Int64) (a3 : Addr) (h0 : Heap) (n0 : Nat) (v : Option Value) (h : Heap) (L : List Loc) : Prop := v = some (.long q2) ∧ Fr n0 L ∧ h = h0
set_option maxRecDepth 65536 in
set_option maxHeartbeats 40000000 in
theorem rm7_32 (l : Launch) (Z : State) (a0 : Array Value) (hw : ∀ d ∈ tables_1, d.before a0 Z = true) (ws : List Jvm.Cond) (a1 : Addr) (q2 : Int64) (a3 : Addr) (h0 : Heap) (n0 : Nat) (Z0 : n0 ≤ h0.size) (F4 : Fld Z h0 a1 zs1 "side" zs3 (.ref a3)) (F6 : Sta Z h0 zs5 "BUY" zs3 (.ref a3)) :
    MetFree l zm3 (head1 (Jvm.Cond.code zm3 prog_2_method_7_code 3 (some .long) :: ws) ({ frames := 0, cells := 0, slots := 0, locals := 0 } : Room)) (fun a U => a = #[(.ref a1), (.long q2)] ∧ Z.Warmed39 U.vm ∧ U.heap = h0) (fun _ _ _ _ _ => True) (fun _ U o U' => ∃ v L, o = .returned v ∧ Q7_32 Z a1 q2 a3 h0 n0 v U'.heap L ∧ FrameEnd U o U' L ({ frames := 0, cells := 0, slots := 0, locals := 0 } : Room).cells ({ frames := 0, cells := 0, slots := 0, locals := 0 } : Room).slots) := by
  refine MetFree.of_bodySF (plainFor_of_name pn_com_example_srok_srok_engine_BookSide) hisR ?_
  intro p e s m args below meth c s₁ Bd hml0 hP hK
  obtain ⟨rfl, hZ, hh⟩ := hP
  have hx := Bd.exec
  have hby := Bd.bytes
  have hml : c.maxLocals = 3 := hml0
  have hown : s.vm.findClass zs1 = some m.cls := findClass_of_methodNamed Bd.named
  have hnm := (name_of_methodNamed Bd.named Bd.method).1
  have X0 : Stand p l e ({ frames := 0, cells := 0, slots := 0, locals := 0 } : Room) s m #[(.ref a1), (.long q2)] below meth c s₁ [] 0 0 := Stand.of_body Bd
  have e0 : s₁.heap = h0 := by rw [← hh, Bd.state]; rfl
  have N0 := Fr.nil n0
  refine own_pre (g' := mkF m 0 (lc13 a1 q2) []) (ef_3 m a1 q2) ?_
  obtain ⟨T5, X5, e5, st5⟩ := getF X0 hx hZ hown (host := "") (Or.inl (ww hw 19 rfl)) Via.refl e0 F4 (g := (mkF m 1 (lc13 a1 q2) [(.ref a1)])) rfl rfl (hb hby d7_1)
  obtain ⟨T7, X7, e7, st7⟩ := getS2 X5 hx hZ hown (host := "") (Or.inl (ww hw 46 rfl)) Via.refl e5 F6 (g := (mkF m 4 (lc13 a1 q2) [(.ref a3)])) rfl (hb hby d7_4)
  refine own_go (U' := T7.setTop (mkF m 19 (lc13 a1 q2) [(.long q2)])) (fun t k => oaloadN X0 hx hby d7_0 rfl rfl (st5 _ (st7 _ (oacmp (pc := 7) X7 hx hby d7_7 10 (same := true) rfl rfl (decide_eq_true rfl) (by decide) (olloadN X7 hx hby d7_10 rfl (ogoto (pc := 11) X7 hx hby d7_11 19 (by decide) k)))))) ?_
  obtain ⟨fs, hr, hrun, hended, hW, hsame⟩ := X7.leave (v := some (.long q2)) (fun h => by rw [Bd.returns] at h; cases h)
  refine own_out ⟨_, _, ?_, hrun, hended, _, _, rfl, ?_, ⟨_, rfl⟩, hW, hsame.mono (by decide) (by decide)⟩
  · exact retOut X7 hx Bd.returns rfl (Or.inr (Or.inl ⟨rfl, rfl, _, rfl⟩)) (hb hby d7_19) hr
  · show Q7_32 Z a1 q2 a3 h0 n0 _ T7.heap _
    rw [e7]
    exact ⟨rfl, N0, rfl⟩
def Q6_33 (Z : State) (a1 : Addr) (q2 : Int64) (a4 : Addr) (h0 : Heap) (n0 : Nat) (v : Option Value) (h : Heap) (L : List Loc) : Prop := v = some (.int (-1)) ∧ Fr n0 L ∧ h = h0
set_option maxRecDepth 65536 in
set_option maxHeartbeats 40000000 in
theorem rm6_33 (l : Launch) (Z : State) (a0 : Array Value) (hw : ∀ d ∈ tables_1, d.before a0 Z = true) (ws : List Jvm.Cond) (a1 : Addr) (q2 : Int64) (a4 : Addr) (h0 : Heap) (n0 : Nat) (Z0 : n0 ≤ h0.size) (F5 : Fld Z h0 a1 zs1 "side" zs3 (.ref a4)) (F6 : Sta Z h0 zs5 "BUY" zs3 (.ref a4)) (F7 : Exa Z h0 a1 zs1) (F9 : Fld Z h0 a1 zs1 "count" "I" (.int 0)) (hc13 : q2 = (-9223372036854775808 : Int64)) :
    MetFree l zm5 (head1 (Jvm.Cond.code zm5 prog_2_method_8_code 11 (some .int) :: ws) ({ frames := 1, cells := 0, slots := 0, locals := 14 } : Room)) (fun a U => a = #[(.ref a1), (.long q2), .null] ∧ Z.Warmed39 U.vm ∧ U.heap = h0) (fun _ _ _ _ _ => True) (fun _ U o U' => ∃ v L, o = .returned v ∧ Q6_33 Z a1 q2 a4 h0 n0 v U'.heap L ∧ FrameEnd U o U' L ({ frames := 1, cells := 0, slots := 0, locals := 14 } : Room).cells ({ frames := 1, cells := 0, slots := 0, locals := 14 } : Room).slots) := by
  refine MetFree.of_bodySF (plainFor_of_name pn_com_example_srok_srok_engine_BookSide) hisR ?_
  intro p e s m args below meth c s₁ Bd hml0 hP hK
  obtain ⟨rfl, hZ, hh⟩ := hP
  have hx := Bd.exec
  have hby := Bd.bytes
  have hml : c.maxLocals = 11 := hml0
  have hown : s.vm.findClass zs1 = some m.cls := findClass_of_methodNamed Bd.named
  have hnm := (name_of_methodNamed Bd.named Bd.method).1
  have X0 : Stand p l e ({ frames := 1, cells := 0, slots := 0, locals := 14 } : Room) s m #[(.ref a1), (.long q2), .null] below meth c s₁ [] 0 0 := Stand.of_body Bd
  have e0 : s₁.heap = h0 := by rw [← hh, Bd.state]; rfl
  have N0 := Fr.nil n0
  refine own_pre (g' := mkF m 0 (lc12 a1 q2) []) (ef_5 m a1 q2) ?_
  obtain ⟨_, T3, L3, X3, hQ3, st3⟩ := ocallP X0 hx hZ zm3 hown (ww hw 42 rfl) (ww hw 43 rfl) (own_selP (mvT hZ (ww hw 4 rfl)) (mvP hZ (ww hw 44 rfl)) (mvT hZ (ww hw 43 rfl)) (by decide)) (ww hw 44 rfl) (by decide) (ww hw 45 rfl) (ww hw 5 rfl) e0 F7 (rm7_32 l Z a0 hw [] a1 q2 a4 h0 n0 Z0 F5 F6) (st := [(.long q2), (.ref a1)]) rfl 0 rfl (by decide) (pc := 2) (Ls := (lc12 a1 q2)) hml rfl (lenOf pd_3 rfl) d6_2 hby
  obtain ⟨rfl, N3q, e3⟩ := hQ3
  have N8 := Fr.app N0 N3q
  obtain ⟨T10, X10, e10, st10⟩ := getF X3 hx hZ hown (host := "") (Or.inl (ww hw 26 rfl)) Via.refl e3 F9 (g := (mkF m 8 (lc14 a1 q2 q2) [(.ref a1)])) rfl rfl (hb hby d6_8)
  refine own_go (U' := T10.setTop (mkF m 21 (lc16 a1 q2 q2 0 1) [(.int ((0 : Int32) - (1 : Int32)))])) (fun t k => oaloadN X0 hx hby d6_0 rfl rfl (olloadN X0 hx hby d6_1 rfl (st3 _ (olstore X3 hx hby d6_5 (lc14 a1 q2 q2) rfl (oaloadN X3 hx hby d6_7 rfl rfl (st10 _ (oistore X10 hx hby d6_11 (lc15 a1 q2 q2 0) rfl (oiconst X10 hx hby d6_13 (oistore X10 hx hby d6_14 (lc16 a1 q2 q2 0 1) rfl (oiload X10 hx hby d6_16 rfl (oiload X10 hx hby d6_18 rfl (oisub X10 hx hby d6_20 k)))))))))))) ?_
  rw [show ((0 : Int32) - (1 : Int32)) = (-1 : Int32) from by decide]
  refine own_go (U' := T10.setTop (mkF m 62 (lc16 a1 q2 q2 0 1) [(.int ((0 : Int32) - (1 : Int32))), (.int 0)])) (fun t k => oifY (pc := 21) X10 hx hby d6_21 56 (by decide) (by decide) (oiconst X10 hx hby d6_56 (oiload X10 hx hby d6_57 rfl (oiload X10 hx hby d6_59 rfl (oisub X10 hx hby d6_61 k))))) ?_
  rw [show ((0 : Int32) - (1 : Int32)) = (-1 : Int32) from by decide]
  refine own_go (U' := T10.setTop (mkF m 64 (lc16 a1 q2 q2 0 1) [(.int ((-1 : Int32) + (1 : Int32))), (.int 0)])) (fun t k => oiconst X10 hx hby d6_62 (oiadd X10 hx hby d6_63 k)) ?_
  rw [show ((-1 : Int32) + (1 : Int32)) = (0 : Int32) from by decide]
  obtain ⟨_, T11, L11, X11, hQ11, st11⟩ := ocallS X10 hx hZ zm4 hown (ww hw 49 rfl) (ww hw 50 rfl) (by decide) (ww hw 52 rfl) (ww hw 51 rfl) e10 (rm8_4 l Z a0 hw []  h0 n0 Z0 ) (st := [(.int 0), (.int 0)]) rfl 0 rfl (by decide) (pc := 64) (Ls := (lc16 a1 q2 q2 0 1)) hml rfl (lenOf pd_4 rfl) d6_64 hby
  obtain ⟨rfl, N11q, e11⟩ := hQ11
  have N12 := Fr.app N8 N11q
  refine own_go (U' := T11.setTop (mkF m 79 (lc19 a1 q2 q2 0 1 0 0) [(.int 1), (.int 0)])) (fun t k => st11 _ (oistore X11 hx hby d6_67 (lc18 a1 q2 q2 0 1 0) rfl (oiload X11 hx hby d6_69 rfl (oiload X11 hx hby d6_71 rfl (oisub X11 hx hby d6_73 (oistore X11 hx hby d6_74 (lc19 a1 q2 q2 0 1 0 0) rfl (oiload X11 hx hby d6_76 rfl (oiconst X11 hx hby d6_78 k)))))))) ?_
  refine own_go (U' := T11.setTop (mkF m 132 (lc19 a1 q2 q2 0 1 0 0) [(.int 0), (.int 0)])) (fun t k => oicY (pc := 79) X11 hx hby d6_79 128 (by decide) (by decide) (oiload X11 hx hby d6_128 rfl (oiload X11 hx hby d6_130 rfl k))) ?_
  refine own_go (U' := T11.setTop (mkF m 157 (lc19 a1 q2 q2 0 1 0 0) [(.int (lcmpW q2 (-9223372036854775808 : Int64)))])) (fun t k => oicY (pc := 132) X11 hx hby d6_132 151 (by decide) (by decide) (olload X11 hx hby d6_151 rfl (X11.ldc2Long hx hown (mvT hZ (ww hw 53 rfl)) (g := (mkF m 153 (lc19 a1 q2 q2 0 1 0 0) [(.long q2)])) rfl (hb hby d6_153) _ (olcmp X11 hx hby d6_156 k)))) ?_
  refine own_go (U' := T11.setTop (mkF m 178 (lc19 a1 q2 q2 0 1 0 0) [(.int 0)])) (fun t k => oifY (pc := 157) X11 hx hby d6_157 173 (own_ll_eq_t hc13) (by decide) (oiconst X11 hx hby d6_173 (oistore X11 hx hby d6_174 (lc19 a1 q2 q2 0 1 0 0) rfl (oiload X11 hx hby d6_176 rfl k)))) ?_
  obtain ⟨T14, X14, e14, st14⟩ := getF X11 hx hZ hown (host := "") (Or.inl (ww hw 26 rfl)) Via.refl e11 F9 (g := (mkF m 184 (lc19 a1 q2 q2 0 1 0 0) [(.ref a1), (.int 0)])) rfl rfl (hb hby d6_184)
  refine own_go (U' := T14.setTop (mkF m 187 (lc19 a1 q2 q2 0 1 0 0) [(.int 0), (.int 0)])) (fun t k => oifN X11 hx hby d6_178 (by decide) (oiload X11 hx hby d6_181 rfl (oaloadN X11 hx hby d6_183 rfl rfl (st14 _ k)))) ?_
  obtain ⟨T15, X15, e15, st15⟩ := getF X14 hx hZ hown (host := "") (Or.inl (ww hw 26 rfl)) Via.refl e14 F9 (g := (mkF m 230 (lc19 a1 q2 q2 0 1 0 0) [(.ref a1), (.int 0)])) rfl rfl (hb hby d6_230)
  refine own_go (U' := T15.setTop (mkF m 233 (lc19 a1 q2 q2 0 1 0 0) [(.int 0), (.int 0)])) (fun t k => oicY (pc := 187) X14 hx hby d6_187 227 (by decide) (by decide) (oiload X14 hx hby d6_227 rfl (oaloadN X14 hx hby d6_229 rfl rfl (st15 _ k)))) ?_
  refine own_go (U' := T15.setTop (mkF m 280 (lc20 a1 q2 q2 0 1 0 0 0) [(.int 0)])) (fun t k => oicY (pc := 233) X15 hx hby d6_233 275 (by decide) (by decide) (oiconst X15 hx hby d6_275 (oistore X15 hx hby d6_276 (lc20 a1 q2 q2 0 1 0 0 0) rfl (oiload X15 hx hby d6_278 rfl k)))) ?_
  refine own_go (U' := T15.setTop (mkF m 292 (lc20 a1 q2 q2 0 1 0 0 0) [(.int ((-1 : Int32) - (0 : Int32)))])) (fun t k => oifY (pc := 280) X15 hx hby d6_280 288 (by decide) (by decide) (oiconst X15 hx hby d6_288 (oiload X15 hx hby d6_289 rfl (oisub X15 hx hby d6_291 k)))) ?_
  rw [show ((-1 : Int32) - (0 : Int32)) = (-1 : Int32) from by decide]
  obtain ⟨fs, hr, hrun, hended, hW, hsame⟩ := X15.leave (v := some (.int (-1))) (fun h => by rw [Bd.returns] at h; cases h)
  refine own_out ⟨_, _, ?_, hrun, hended, _, _, rfl, ?_, ⟨_, rfl⟩, hW, hsame.mono (by decide) (by decide)⟩
  · exact retI X15 hx Bd.returns (hb hby d6_292) hr
  · show Q6_33 Z a1 q2 a4 h0 n0 _ T15.heap _
    rw [e15]
    exact ⟨rfl, N12, rfl⟩
def Q6_34 (Z : State) (a1 : Addr) (q2 : Int64) (a4 : Addr) (h0 : Heap) (n0 : Nat) (v : Option Value) (h : Heap) (L : List Loc) : Prop := v = some (.int (-1)) ∧ Fr n0 L ∧ h = h0
set_option maxRecDepth 65536 in
set_option maxHeartbeats 40000000 in
theorem rm6_34 (l : Launch) (Z : State) (a0 : Array Value) (hw : ∀ d ∈ tables_1, d.before a0 Z = true) (ws : List Jvm.Cond) (a1 : Addr) (q2 : Int64) (a4 : Addr) (h0 : Heap) (n0 : Nat) (Z0 : n0 ≤ h0.size) (F5 : Fld Z h0 a1 zs1 "side" zs3 (.ref a4)) (F6 : Sta Z h0 zs5 "BUY" zs3 (.ref a4)) (F7 : Exa Z h0 a1 zs1) (F9 : Fld Z h0 a1 zs1 "count" "I" (.int 0)) (hc13 : ¬ (q2 = (-9223372036854775808 : Int64))) (hc14 : q2 = (9223372036854775807 : Int64)) :
    MetFree l zm5 (head1 (Jvm.Cond.code zm5 prog_2_method_8_code 11 (some .int) :: ws) ({ frames := 1, cells := 0, slots := 0, locals := 14 } : Room)) (fun a U => a = #[(.ref a1), (.long q2), .null] ∧ Z.Warmed39 U.vm ∧ U.heap = h0) (fun _ _ _ _ _ => True) (fun _ U o U' => ∃ v L, o = .returned v ∧ Q6_34 Z a1 q2 a4 h0 n0 v U'.heap L ∧ FrameEnd U o U' L ({ frames := 1, cells := 0, slots := 0, locals := 14 } : Room).cells ({ frames := 1, cells := 0, slots := 0, locals := 14 } : Room).slots) := by
  refine MetFree.of_bodySF (plainFor_of_name pn_com_example_srok_srok_engine_BookSide) hisR ?_
  intro p e s m args below meth c s₁ Bd hml0 hP hK
  obtain ⟨rfl, hZ, hh⟩ := hP
  have hx := Bd.exec
  have hby := Bd.bytes
  have hml : c.maxLocals = 11 := hml0
  have hown : s.vm.findClass zs1 = some m.cls := findClass_of_methodNamed Bd.named
  have hnm := (name_of_methodNamed Bd.named Bd.method).1
  have X0 : Stand p l e ({ frames := 1, cells := 0, slots := 0, locals := 14 } : Room) s m #[(.ref a1), (.long q2), .null] below meth c s₁ [] 0 0 := Stand.of_body Bd
  have e0 : s₁.heap = h0 := by rw [← hh, Bd.state]; rfl
  have N0 := Fr.nil n0
  refine own_pre (g' := mkF m 0 (lc12 a1 q2) []) (ef_5 m a1 q2) ?_
  obtain ⟨_, T3, L3, X3, hQ3, st3⟩ := ocallP X0 hx hZ zm3 hown (ww hw 42 rfl) (ww hw 43 rfl) (own_selP (mvT hZ (ww hw 4 rfl)) (mvP hZ (ww hw 44 rfl)) (mvT hZ (ww hw 43 rfl)) (by decide)) (ww hw 44 rfl) (by decide) (ww hw 45 rfl) (ww hw 5 rfl) e0 F7 (rm7_32 l Z a0 hw [] a1 q2 a4 h0 n0 Z0 F5 F6) (st := [(.long q2), (.ref a1)]) rfl 0 rfl (by decide) (pc := 2) (Ls := (lc12 a1 q2)) hml rfl (lenOf pd_3 rfl) d6_2 hby
  obtain ⟨rfl, N3q, e3⟩ := hQ3
  have N8 := Fr.app N0 N3q
  obtain ⟨T10, X10, e10, st10⟩ := getF X3 hx hZ hown (host := "") (Or.inl (ww hw 26 rfl)) Via.refl e3 F9 (g := (mkF m 8 (lc14 a1 q2 q2) [(.ref a1)])) rfl rfl (hb hby d6_8)
  refine own_go (U' := T10.setTop (mkF m 21 (lc16 a1 q2 q2 0 1) [(.int ((0 : Int32) - (1 : Int32)))])) (fun t k => oaloadN X0 hx hby d6_0 rfl rfl (olloadN X0 hx hby d6_1 rfl (st3 _ (olstore X3 hx hby d6_5 (lc14 a1 q2 q2) rfl (oaloadN X3 hx hby d6_7 rfl rfl (st10 _ (oistore X10 hx hby d6_11 (lc15 a1 q2 q2 0) rfl (oiconst X10 hx hby d6_13 (oistore X10 hx hby d6_14 (lc16 a1 q2 q2 0 1) rfl (oiload X10 hx hby d6_16 rfl (oiload X10 hx hby d6_18 rfl (oisub X10 hx hby d6_20 k)))))))))))) ?_
  rw [show ((0 : Int32) - (1 : Int32)) = (-1 : Int32) from by decide]
  refine own_go (U' := T10.setTop (mkF m 62 (lc16 a1 q2 q2 0 1) [(.int ((0 : Int32) - (1 : Int32))), (.int 0)])) (fun t k => oifY (pc := 21) X10 hx hby d6_21 56 (by decide) (by decide) (oiconst X10 hx hby d6_56 (oiload X10 hx hby d6_57 rfl (oiload X10 hx hby d6_59 rfl (oisub X10 hx hby d6_61 k))))) ?_
  rw [show ((0 : Int32) - (1 : Int32)) = (-1 : Int32) from by decide]
  refine own_go (U' := T10.setTop (mkF m 64 (lc16 a1 q2 q2 0 1) [(.int ((-1 : Int32) + (1 : Int32))), (.int 0)])) (fun t k => oiconst X10 hx hby d6_62 (oiadd X10 hx hby d6_63 k)) ?_
  rw [show ((-1 : Int32) + (1 : Int32)) = (0 : Int32) from by decide]
  obtain ⟨_, T11, L11, X11, hQ11, st11⟩ := ocallS X10 hx hZ zm4 hown (ww hw 49 rfl) (ww hw 50 rfl) (by decide) (ww hw 52 rfl) (ww hw 51 rfl) e10 (rm8_4 l Z a0 hw []  h0 n0 Z0 ) (st := [(.int 0), (.int 0)]) rfl 0 rfl (by decide) (pc := 64) (Ls := (lc16 a1 q2 q2 0 1)) hml rfl (lenOf pd_4 rfl) d6_64 hby
  obtain ⟨rfl, N11q, e11⟩ := hQ11
  have N12 := Fr.app N8 N11q
  refine own_go (U' := T11.setTop (mkF m 79 (lc19 a1 q2 q2 0 1 0 0) [(.int 1), (.int 0)])) (fun t k => st11 _ (oistore X11 hx hby d6_67 (lc18 a1 q2 q2 0 1 0) rfl (oiload X11 hx hby d6_69 rfl (oiload X11 hx hby d6_71 rfl (oisub X11 hx hby d6_73 (oistore X11 hx hby d6_74 (lc19 a1 q2 q2 0 1 0 0) rfl (oiload X11 hx hby d6_76 rfl (oiconst X11 hx hby d6_78 k)))))))) ?_
  refine own_go (U' := T11.setTop (mkF m 132 (lc19 a1 q2 q2 0 1 0 0) [(.int 0), (.int 0)])) (fun t k => oicY (pc := 79) X11 hx hby d6_79 128 (by decide) (by decide) (oiload X11 hx hby d6_128 rfl (oiload X11 hx hby d6_130 rfl k))) ?_
  refine own_go (U' := T11.setTop (mkF m 157 (lc19 a1 q2 q2 0 1 0 0) [(.int (lcmpW q2 (-9223372036854775808 : Int64)))])) (fun t k => oicY (pc := 132) X11 hx hby d6_132 151 (by decide) (by decide) (olload X11 hx hby d6_151 rfl (X11.ldc2Long hx hown (mvT hZ (ww hw 53 rfl)) (g := (mkF m 153 (lc19 a1 q2 q2 0 1 0 0) [(.long q2)])) rfl (hb hby d6_153) _ (olcmp X11 hx hby d6_156 k)))) ?_
  refine own_go (U' := T11.setTop (mkF m 166 (lc19 a1 q2 q2 0 1 0 0) [(.int (lcmpW q2 (9223372036854775807 : Int64)))])) (fun t k => oifN X11 hx hby d6_157 (own_ll_eq_f hc13) (olload X11 hx hby d6_160 rfl (X11.ldc2Long hx hown (mvT hZ (ww hw 54 rfl)) (g := (mkF m 162 (lc19 a1 q2 q2 0 1 0 0) [(.long q2)])) rfl (hb hby d6_162) _ (olcmp X11 hx hby d6_165 k)))) ?_
  refine own_go (U' := T11.setTop (mkF m 178 (lc19 a1 q2 q2 0 1 0 0) [(.int 0)])) (fun t k => oifY (pc := 166) X11 hx hby d6_166 173 (own_ll_eq_t hc14) (by decide) (oiconst X11 hx hby d6_173 (oistore X11 hx hby d6_174 (lc19 a1 q2 q2 0 1 0 0) rfl (oiload X11 hx hby d6_176 rfl k)))) ?_
  obtain ⟨T15, X15, e15, st15⟩ := getF X11 hx hZ hown (host := "") (Or.inl (ww hw 26 rfl)) Via.refl e11 F9 (g := (mkF m 184 (lc19 a1 q2 q2 0 1 0 0) [(.ref a1), (.int 0)])) rfl rfl (hb hby d6_184)
  refine own_go (U' := T15.setTop (mkF m 187 (lc19 a1 q2 q2 0 1 0 0) [(.int 0), (.int 0)])) (fun t k => oifN X11 hx hby d6_178 (by decide) (oiload X11 hx hby d6_181 rfl (oaloadN X11 hx hby d6_183 rfl rfl (st15 _ k)))) ?_
  obtain ⟨T16, X16, e16, st16⟩ := getF X15 hx hZ hown (host := "") (Or.inl (ww hw 26 rfl)) Via.refl e15 F9 (g := (mkF m 230 (lc19 a1 q2 q2 0 1 0 0) [(.ref a1), (.int 0)])) rfl rfl (hb hby d6_230)
  refine own_go (U' := T16.setTop (mkF m 233 (lc19 a1 q2 q2 0 1 0 0) [(.int 0), (.int 0)])) (fun t k => oicY (pc := 187) X15 hx hby d6_187 227 (by decide) (by decide) (oiload X15 hx hby d6_227 rfl (oaloadN X15 hx hby d6_229 rfl rfl (st16 _ k)))) ?_
  refine own_go (U' := T16.setTop (mkF m 280 (lc20 a1 q2 q2 0 1 0 0 0) [(.int 0)])) (fun t k => oicY (pc := 233) X16 hx hby d6_233 275 (by decide) (by decide) (oiconst X16 hx hby d6_275 (oistore X16 hx hby d6_276 (lc20 a1 q2 q2 0 1 0 0 0) rfl (oiload X16 hx hby d6_278 rfl k)))) ?_
  refine own_go (U' := T16.setTop (mkF m 292 (lc20 a1 q2 q2 0 1 0 0 0) [(.int ((-1 : Int32) - (0 : Int32)))])) (fun t k => oifY (pc := 280) X16 hx hby d6_280 288 (by decide) (by decide) (oiconst X16 hx hby d6_288 (oiload X16 hx hby d6_289 rfl (oisub X16 hx hby d6_291 k)))) ?_
  rw [show ((-1 : Int32) - (0 : Int32)) = (-1 : Int32) from by decide]
  obtain ⟨fs, hr, hrun, hended, hW, hsame⟩ := X16.leave (v := some (.int (-1))) (fun h => by rw [Bd.returns] at h; cases h)
  refine own_out ⟨_, _, ?_, hrun, hended, _, _, rfl, ?_, ⟨_, rfl⟩, hW, hsame.mono (by decide) (by decide)⟩
  · exact retI X16 hx Bd.returns (hb hby d6_292) hr
  · show Q6_34 Z a1 q2 a4 h0 n0 _ T16.heap _
    rw [e16]
    exact ⟨rfl, N12, rfl⟩
def Q6_35 (Z : State) (a1 : Addr) (q2 : Int64) (a4 : Addr) (h0 : Heap) (n0 : Nat) (v : Option Value) (h : Heap) (L : List Loc) : Prop := v = some (.int (-1)) ∧ Fr n0 L ∧ h = h0
set_option maxRecDepth 65536 in
set_option maxHeartbeats 40000000 in
theorem rm6_35 (l : Launch) (Z : State) (a0 : Array Value) (hw : ∀ d ∈ tables_1, d.before a0 Z = true) (ws : List Jvm.Cond) (a1 : Addr) (q2 : Int64) (a4 : Addr) (h0 : Heap) (n0 : Nat) (Z0 : n0 ≤ h0.size) (F5 : Fld Z h0 a1 zs1 "side" zs3 (.ref a4)) (F6 : Sta Z h0 zs5 "BUY" zs3 (.ref a4)) (F7 : Exa Z h0 a1 zs1) (F9 : Fld Z h0 a1 zs1 "count" "I" (.int 0)) (hc13 : ¬ (q2 = (-9223372036854775808 : Int64))) (hc14 : ¬ (q2 = (9223372036854775807 : Int64))) :
    MetFree l zm5 (head1 (Jvm.Cond.code zm5 prog_2_method_8_code 11 (some .int) :: ws) ({ frames := 1, cells := 0, slots := 0, locals := 14 } : Room)) (fun a U => a = #[(.ref a1), (.long q2), .null] ∧ Z.Warmed39 U.vm ∧ U.heap = h0) (fun _ _ _ _ _ => True) (fun _ U o U' => ∃ v L, o = .returned v ∧ Q6_35 Z a1 q2 a4 h0 n0 v U'.heap L ∧ FrameEnd U o U' L ({ frames := 1, cells := 0, slots := 0, locals := 14 } : Room).cells ({ frames := 1, cells := 0, slots := 0, locals := 14 } : Room).slots) := by
  refine MetFree.of_bodySF (plainFor_of_name pn_com_example_srok_srok_engine_BookSide) hisR ?_
  intro p e s m args below meth c s₁ Bd hml0 hP hK
  obtain ⟨rfl, hZ, hh⟩ := hP
  have hx := Bd.exec
  have hby := Bd.bytes
  have hml : c.maxLocals = 11 := hml0
  have hown : s.vm.findClass zs1 = some m.cls := findClass_of_methodNamed Bd.named
  have hnm := (name_of_methodNamed Bd.named Bd.method).1
  have X0 : Stand p l e ({ frames := 1, cells := 0, slots := 0, locals := 14 } : Room) s m #[(.ref a1), (.long q2), .null] below meth c s₁ [] 0 0 := Stand.of_body Bd
  have e0 : s₁.heap = h0 := by rw [← hh, Bd.state]; rfl
  have N0 := Fr.nil n0
  refine own_pre (g' := mkF m 0 (lc12 a1 q2) []) (ef_5 m a1 q2) ?_
  obtain ⟨_, T3, L3, X3, hQ3, st3⟩ := ocallP X0 hx hZ zm3 hown (ww hw 42 rfl) (ww hw 43 rfl) (own_selP (mvT hZ (ww hw 4 rfl)) (mvP hZ (ww hw 44 rfl)) (mvT hZ (ww hw 43 rfl)) (by decide)) (ww hw 44 rfl) (by decide) (ww hw 45 rfl) (ww hw 5 rfl) e0 F7 (rm7_32 l Z a0 hw [] a1 q2 a4 h0 n0 Z0 F5 F6) (st := [(.long q2), (.ref a1)]) rfl 0 rfl (by decide) (pc := 2) (Ls := (lc12 a1 q2)) hml rfl (lenOf pd_3 rfl) d6_2 hby
  obtain ⟨rfl, N3q, e3⟩ := hQ3
  have N8 := Fr.app N0 N3q
  obtain ⟨T10, X10, e10, st10⟩ := getF X3 hx hZ hown (host := "") (Or.inl (ww hw 26 rfl)) Via.refl e3 F9 (g := (mkF m 8 (lc14 a1 q2 q2) [(.ref a1)])) rfl rfl (hb hby d6_8)
  refine own_go (U' := T10.setTop (mkF m 21 (lc16 a1 q2 q2 0 1) [(.int ((0 : Int32) - (1 : Int32)))])) (fun t k => oaloadN X0 hx hby d6_0 rfl rfl (olloadN X0 hx hby d6_1 rfl (st3 _ (olstore X3 hx hby d6_5 (lc14 a1 q2 q2) rfl (oaloadN X3 hx hby d6_7 rfl rfl (st10 _ (oistore X10 hx hby d6_11 (lc15 a1 q2 q2 0) rfl (oiconst X10 hx hby d6_13 (oistore X10 hx hby d6_14 (lc16 a1 q2 q2 0 1) rfl (oiload X10 hx hby d6_16 rfl (oiload X10 hx hby d6_18 rfl (oisub X10 hx hby d6_20 k)))))))))))) ?_
  rw [show ((0 : Int32) - (1 : Int32)) = (-1 : Int32) from by decide]
  refine own_go (U' := T10.setTop (mkF m 62 (lc16 a1 q2 q2 0 1) [(.int ((0 : Int32) - (1 : Int32))), (.int 0)])) (fun t k => oifY (pc := 21) X10 hx hby d6_21 56 (by decide) (by decide) (oiconst X10 hx hby d6_56 (oiload X10 hx hby d6_57 rfl (oiload X10 hx hby d6_59 rfl (oisub X10 hx hby d6_61 k))))) ?_
  rw [show ((0 : Int32) - (1 : Int32)) = (-1 : Int32) from by decide]
  refine own_go (U' := T10.setTop (mkF m 64 (lc16 a1 q2 q2 0 1) [(.int ((-1 : Int32) + (1 : Int32))), (.int 0)])) (fun t k => oiconst X10 hx hby d6_62 (oiadd X10 hx hby d6_63 k)) ?_
  rw [show ((-1 : Int32) + (1 : Int32)) = (0 : Int32) from by decide]
  obtain ⟨_, T11, L11, X11, hQ11, st11⟩ := ocallS X10 hx hZ zm4 hown (ww hw 49 rfl) (ww hw 50 rfl) (by decide) (ww hw 52 rfl) (ww hw 51 rfl) e10 (rm8_4 l Z a0 hw []  h0 n0 Z0 ) (st := [(.int 0), (.int 0)]) rfl 0 rfl (by decide) (pc := 64) (Ls := (lc16 a1 q2 q2 0 1)) hml rfl (lenOf pd_4 rfl) d6_64 hby
  obtain ⟨rfl, N11q, e11⟩ := hQ11
  have N12 := Fr.app N8 N11q
  refine own_go (U' := T11.setTop (mkF m 79 (lc19 a1 q2 q2 0 1 0 0) [(.int 1), (.int 0)])) (fun t k => st11 _ (oistore X11 hx hby d6_67 (lc18 a1 q2 q2 0 1 0) rfl (oiload X11 hx hby d6_69 rfl (oiload X11 hx hby d6_71 rfl (oisub X11 hx hby d6_73 (oistore X11 hx hby d6_74 (lc19 a1 q2 q2 0 1 0 0) rfl (oiload X11 hx hby d6_76 rfl (oiconst X11 hx hby d6_78 k)))))))) ?_
  refine own_go (U' := T11.setTop (mkF m 132 (lc19 a1 q2 q2 0 1 0 0) [(.int 0), (.int 0)])) (fun t k => oicY (pc := 79) X11 hx hby d6_79 128 (by decide) (by decide) (oiload X11 hx hby d6_128 rfl (oiload X11 hx hby d6_130 rfl k))) ?_
  refine own_go (U' := T11.setTop (mkF m 157 (lc19 a1 q2 q2 0 1 0 0) [(.int (lcmpW q2 (-9223372036854775808 : Int64)))])) (fun t k => oicY (pc := 132) X11 hx hby d6_132 151 (by decide) (by decide) (olload X11 hx hby d6_151 rfl (X11.ldc2Long hx hown (mvT hZ (ww hw 53 rfl)) (g := (mkF m 153 (lc19 a1 q2 q2 0 1 0 0) [(.long q2)])) rfl (hb hby d6_153) _ (olcmp X11 hx hby d6_156 k)))) ?_
  refine own_go (U' := T11.setTop (mkF m 166 (lc19 a1 q2 q2 0 1 0 0) [(.int (lcmpW q2 (9223372036854775807 : Int64)))])) (fun t k => oifN X11 hx hby d6_157 (own_ll_eq_f hc13) (olload X11 hx hby d6_160 rfl (X11.ldc2Long hx hown (mvT hZ (ww hw 54 rfl)) (g := (mkF m 162 (lc19 a1 q2 q2 0 1 0 0) [(.long q2)])) rfl (hb hby d6_162) _ (olcmp X11 hx hby d6_165 k)))) ?_
  refine own_go (U' := T11.setTop (mkF m 178 (lc19 a1 q2 q2 0 1 0 1) [(.int 1)])) (fun t k => oifN X11 hx hby d6_166 (own_ll_eq_f hc14) (oiconst X11 hx hby d6_169 (ogoto (pc := 170) X11 hx hby d6_170 174 (by decide) (oistore X11 hx hby d6_174 (lc19 a1 q2 q2 0 1 0 1) rfl (oiload X11 hx hby d6_176 rfl k))))) ?_
  obtain ⟨T15, X15, e15, st15⟩ := getF X11 hx hZ hown (host := "") (Or.inl (ww hw 26 rfl)) Via.refl e11 F9 (g := (mkF m 230 (lc19 a1 q2 q2 0 1 0 1) [(.ref a1), (.int 0)])) rfl rfl (hb hby d6_230)
  refine own_go (U' := T15.setTop (mkF m 233 (lc19 a1 q2 q2 0 1 0 1) [(.int 0), (.int 0)])) (fun t k => oifY (pc := 178) X11 hx hby d6_178 227 (by decide) (by decide) (oiload X11 hx hby d6_227 rfl (oaloadN X11 hx hby d6_229 rfl rfl (st15 _ k)))) ?_
  refine own_go (U' := T15.setTop (mkF m 280 (lc20 a1 q2 q2 0 1 0 1 0) [(.int 0)])) (fun t k => oicY (pc := 233) X15 hx hby d6_233 275 (by decide) (by decide) (oiconst X15 hx hby d6_275 (oistore X15 hx hby d6_276 (lc20 a1 q2 q2 0 1 0 1 0) rfl (oiload X15 hx hby d6_278 rfl k)))) ?_
  refine own_go (U' := T15.setTop (mkF m 292 (lc20 a1 q2 q2 0 1 0 1 0) [(.int ((-1 : Int32) - (0 : Int32)))])) (fun t k => oifY (pc := 280) X15 hx hby d6_280 288 (by decide) (by decide) (oiconst X15 hx hby d6_288 (oiload X15 hx hby d6_289 rfl (oisub X15 hx hby d6_291 k)))) ?_
  rw [show ((-1 : Int32) - (0 : Int32)) = (-1 : Int32) from by decide]
  obtain ⟨fs, hr, hrun, hended, hW, hsame⟩ := X15.leave (v := some (.int (-1))) (fun h => by rw [Bd.returns] at h; cases h)
  refine own_out ⟨_, _, ?_, hrun, hended, _, _, rfl, ?_, ⟨_, rfl⟩, hW, hsame.mono (by decide) (by decide)⟩
  · exact retI X15 hx Bd.returns (hb hby d6_292) hr
  · show Q6_35 Z a1 q2 a4 h0 n0 _ T15.heap _
    rw [e15]
    exact ⟨rfl, N12, rfl⟩
def Qmg6_36 (Z : State) (a1 : Addr) (q2 : Int64) (a3 : Addr) (h0 : Heap) (n0 : Nat) (v : Option Value) (h : Heap) (L : List Loc) : Prop := v = some (.int (-1)) ∧ Fr n0 L ∧ h = h0
theorem mg6_36 (l : Launch) (Z : State) (a0 : Array Value) (hw : ∀ d ∈ tables_1, d.before a0 Z = true) (ws : List Jvm.Cond) (a1 : Addr) (q2 : Int64) (a3 : Addr) (h0 : Heap) (n0 : Nat) (Z0 : n0 ≤ h0.size) (F4 : Fld Z h0 a1 zs1 "side" zs3 (.ref a3)) (F5 : Sta Z h0 zs5 "BUY" zs3 (.ref a3)) (F6 : Exa Z h0 a1 zs1) (F7 : Fld Z h0 a1 zs1 "count" "I" (.int 0)) :
    MetFree l zm5 (head1 (Jvm.Cond.code zm5 prog_2_method_8_code 11 (some .int) :: ws) ({ frames := 1, cells := 0, slots := 0, locals := 14 } : Room)) (fun a U => a = #[(.ref a1), (.long q2), .null] ∧ Z.Warmed39 U.vm ∧ U.heap = h0) (fun _ _ _ _ _ => True) (fun _ U o U' => ∃ v L, o = .returned v ∧ Qmg6_36 Z a1 q2 a3 h0 n0 v U'.heap L ∧ FrameEnd U o U' L ({ frames := 1, cells := 0, slots := 0, locals := 14 } : Room).cells ({ frames := 1, cells := 0, slots := 0, locals := 14 } : Room).slots) := by
  by_cases hm1 : q2 = (-9223372036854775808 : Int64)
  · exact rm6_33 l Z a0 hw ws a1 q2 a3 h0 n0 Z0 F4 F5 F6 F7 hm1
  · by_cases hm2 : q2 = (9223372036854775807 : Int64)
    · exact rm6_34 l Z a0 hw ws a1 q2 a3 h0 n0 Z0 F4 F5 F6 F7 hm1 hm2
    · exact rm6_35 l Z a0 hw ws a1 q2 a3 h0 n0 Z0 F4 F5 F6 F7 hm1 hm2
def Q5_37 (Z : State) (a1 : Addr) (q2 : Int64) (a4 : Addr) (a11 : Addr) (kc14 : ClassId) (a25 : Addr) (kc34 : ClassId) (h0 : Heap) (n0 : Nat) (v : Option Value) (h : Heap) (L : List Loc) : Prop := ∃ b41 : Addr, v = some (.ref b41) ∧ Fr n0 L ∧ Keep h0 h [a11, a25, a1] ∧ h0.size ≤ b41 ∧ Arv Z h a11 kc14 (.object zs0) (16 : Int32) [(.ref b41)] .null ∧ Arv Z h a25 kc34 .long (16 : Int32) [(.long q2)] (.long (0 : Int64)) ∧ Fld Z h a1 zs1 "side" zs3 (.ref a4) ∧ Fld Z h a1 zs1 "count" "I" (.int 1) ∧ Fld Z h a1 zs1 "levels" zs2 (.ref a11) ∧ Fld Z h a1 zs1 "ranks" "[J" (.ref a25) ∧ Fld Z h a1 zs1 "emptyLevels" "I" (.int 0) ∧ Exa Z h b41 zs0 ∧ Fld Z h b41 zs0 "price" zs9 .null ∧ Fld Z h b41 zs0 "priceSteps" "J" (.long q2) ∧ Fld Z h b41 zs0 "first" zs10 .null
set_option maxRecDepth 65536 in
set_option maxHeartbeats 40000000 in
theorem rm5_37 (l : Launch) (Z : State) (a0 : Array Value) (hw : ∀ d ∈ tables_1, d.before a0 Z = true) (ws : List Jvm.Cond) (a1 : Addr) (q2 : Int64) (a4 : Addr) (a11 : Addr) (kc14 : ClassId) (a25 : Addr) (kc34 : ClassId) (h0 : Heap) (n0 : Nat) (Z0 : n0 ≤ h0.size) (F5 : Fld Z h0 a1 zs1 "side" zs3 (.ref a4)) (F6 : Sta Z h0 zs5 "BUY" zs3 (.ref a4)) (F7 : Exa Z h0 a1 zs1) (F8 : Fld Z h0 a1 zs1 "count" "I" (.int 0)) (F12 : Fld Z h0 a1 zs1 "levels" zs2 (.ref a11)) (F15 : Arv Z h0 a11 kc14 (.object zs0) (16 : Int32) [] .null) (g22 : n0 ≤ a11) (O23 : Ovr Z kc14 zs0) (F26 : Fld Z h0 a1 zs1 "ranks" "[J" (.ref a25)) (ne27 : a1 ≠ a11) (F35 : Arv Z h0 a25 kc34 .long (16 : Int32) [] (.long (0 : Int64))) (ne36 : a25 ≠ a11) (g39 : n0 ≤ a25) (ne51 : a1 ≠ a25) (F77 : Fld Z h0 a1 zs1 "emptyLevels" "I" (.int 0)) (g80 : n0 ≤ a1) :
    MetFree l zm7 (head1 (Jvm.Cond.code zm7 prog_2_method_5_code 7 (some (.object zs0)) :: ws) ({ frames := 2, cells := 1, slots := 4, locals := 36 } : Room)) (fun a U => a = #[(.ref a1), (.long q2), .null] ∧ Z.Warmed39 U.vm ∧ U.heap = h0) (fun _ _ _ _ _ => True) (fun _ U o U' => ∃ v L, o = .returned v ∧ Q5_37 Z a1 q2 a4 a11 kc14 a25 kc34 h0 n0 v U'.heap L ∧ FrameEnd U o U' L ({ frames := 2, cells := 1, slots := 4, locals := 36 } : Room).cells ({ frames := 2, cells := 1, slots := 4, locals := 36 } : Room).slots) := by
  refine MetFree.of_bodySF (plainFor_of_name pn_com_example_srok_srok_engine_BookSide) hisR ?_
  intro p e s m args below meth c s₁ Bd hml0 hP hK
  obtain ⟨rfl, hZ, hh⟩ := hP
  have hx := Bd.exec
  have hby := Bd.bytes
  have hml : c.maxLocals = 7 := hml0
  have hown : s.vm.findClass zs1 = some m.cls := findClass_of_methodNamed Bd.named
  have hnm := (name_of_methodNamed Bd.named Bd.method).1
  have X0 : Stand p l e ({ frames := 2, cells := 1, slots := 4, locals := 36 } : Room) s m #[(.ref a1), (.long q2), .null] below meth c s₁ [] 0 0 := Stand.of_body Bd
  have e0 : s₁.heap = h0 := by rw [← hh, Bd.state]; rfl
  have N0 := Fr.nil n0
  refine own_pre (g' := mkF m 0 (lc11 a1 q2) []) (ef_7 m a1 q2) ?_
  obtain ⟨_, T3, L3, X3, hQ3, st3⟩ := ocallP X0 hx hZ zm5 hown (ww hw 38 rfl) (ww hw 39 rfl) (own_selP (mvT hZ (ww hw 4 rfl)) (mvP hZ (ww hw 40 rfl)) (mvT hZ (ww hw 39 rfl)) (by decide)) (ww hw 40 rfl) (by decide) (ww hw 41 rfl) (ww hw 5 rfl) e0 F7 (mg6_36 l Z a0 hw [] a1 q2 a4 h0 n0 Z0 F5 F6 F7 F8) (st := [.null, (.long q2), (.ref a1)]) rfl 0 rfl (by decide) (pc := 3) (Ls := (lc11 a1 q2)) hml rfl (lenOf pd_5 rfl) d5_3 hby
  obtain ⟨rfl, N3q, e3⟩ := hQ3
  have N9 := Fr.app N0 N3q
  refine own_go (U' := T3.setTop (mkF m 10 (lc21 a1 q2 (-1)) [(.int (-1))])) (fun t k => oaloadN X0 hx hby d5_0 rfl rfl (olloadN X0 hx hby d5_1 rfl (oaloadN X0 hx hby d5_2 rfl rfl (st3 _ (oistore X3 hx hby d5_6 (lc21 a1 q2 (-1)) rfl (oiload X3 hx hby d5_8 rfl k)))))) ?_
  refine own_go (U' := T3.setTop (mkF m 47 (lc21 a1 q2 (-1)) [(.int (-(-1 : Int32)))])) (fun t k => oifY (pc := 10) X3 hx hby d5_10 44 (by decide) (by decide) (oiload X3 hx hby d5_44 rfl (oineg X3 hx hby d5_46 k))) ?_
  rw [show (-(-1 : Int32)) = (1 : Int32) from by decide]
  obtain ⟨T10, X10, e10, st10⟩ := getF X3 hx hZ hown (host := "") (Or.inl (ww hw 26 rfl)) Via.refl e3 F8 (g := (mkF m 52 (lc22 a1 q2 (-1) 0) [(.ref a1)])) rfl rfl (hb hby d5_52)
  obtain ⟨T13, X13, e13, st13⟩ := getF X10 hx hZ hown (host := "") (Or.inl (ww hw 14 rfl)) Via.refl e10 F12 (g := (mkF m 56 (lc22 a1 q2 (-1) 0) [(.ref a1), (.int 0)])) rfl rfl (hb hby d5_56)
  refine own_go (U' := T13.setTop (mkF m 59 (lc22 a1 q2 (-1) 0) [(.ref a11), (.int 0)])) (fun t k => oiconst X3 hx hby d5_47 (oisub X3 hx hby d5_48 (oistore X3 hx hby d5_49 (lc22 a1 q2 (-1) 0) rfl (oaloadN X3 hx hby d5_51 rfl rfl (st10 _ (oaloadN X10 hx hby d5_55 rfl rfl (st13 _ k))))))) ?_
  obtain ⟨cl16, Ar16, q16, S16, N16, H16, G16⟩ := id F15
  refine own_go (fun t k => X13.arraylength hx (by rw [e13]; exact Ar16.1) (State.isArrayOf_alike hZ.alike Ar16.2.1) (g := (mkF m 59 (lc22 a1 q2 (-1) 0) [(.ref a11), (.int 0)])) rfl rfl (hb hby d5_59) _ k) ?_
  rw [len_of S16 N16]
  obtain ⟨T17, X17, e17, st17⟩ := getF X13 hx hZ hown (host := "") (Or.inl (ww hw 14 rfl)) Via.refl e13 F12 (g := (mkF m 101 (lc22 a1 q2 (-1) 0) [(.ref a1)])) rfl rfl (hb hby d5_101)
  obtain ⟨T18, X18, e18, st18⟩ := getF X17 hx hZ hown (host := "") (Or.inl (ww hw 14 rfl)) Via.refl e17 F12 (g := (mkF m 107 (lc22 a1 q2 (-1) 0) [(.ref a1), (.int 0), (.ref a11)])) rfl rfl (hb hby d5_107)
  obtain ⟨T19, X19, e19, st19⟩ := getF X18 hx hZ hown (host := "") (Or.inl (ww hw 26 rfl)) Via.refl e18 F8 (g := (mkF m 115 (lc22 a1 q2 (-1) 0) [(.ref a1), (.int 1), (.ref a11), (.int 0), (.ref a11)])) rfl rfl (hb hby d5_115)
  have f21 : Arv Z h0 a11 kc14 (.object zs0) (16 : Int32) [.null] .null := F15.pad (pad_rep [] .null 1)
  obtain ⟨cl20, Ar20, q20, -⟩ := id f21
  obtain ⟨T20, h20, L20, X20, e20, N20, K20, V20, st20⟩ := cpA X19 hx hZ hown (ww hw 55 rfl) (ww hw 58 rfl) (ww hw 56 rfl) (ww hw 57 rfl) e19 (us := []) f21 f21 (Or.inr ⟨rfl, rfl, trivial⟩) (by decide) (by decide) (by decide) (by decide) (by decide) rfl (Nat.le_of_ble_eq_true rfl) N9 g22 (g := (mkF m 121 (lc22 a1 q2 (-1) 0) [(.int 0), (.int 1), (.ref a11), (.int 0), (.ref a11)])) rfl (by rw [hml]; rfl) rfl (hb hby d5_121) (by decide) (W := 0) (by show 2 * 0 + _ ≤ _; exact Nat.le_of_eq rfl) (by decide)
  have f24 : Arv Z h20 a11 kc14 (.object zs0) (16 : Int32) [.null] .null := V20
  have f28 : Fld Z h20 a1 zs1 "ranks" "[J" (.ref a25) := (F26.keep K20 (ninS ne27 nin0))
  obtain ⟨T29, X29, e29, st29⟩ := getF X20 hx hZ hown (host := "") (Or.inl (ww hw 17 rfl)) Via.refl e20 f28 (g := (mkF m 125 (lc22 a1 q2 (-1) 0) [(.ref a1)])) rfl rfl (hb hby d5_125)
  obtain ⟨T30, X30, e30, st30⟩ := getF X29 hx hZ hown (host := "") (Or.inl (ww hw 17 rfl)) Via.refl e29 f28 (g := (mkF m 131 (lc22 a1 q2 (-1) 0) [(.ref a1), (.int 0), (.ref a25)])) rfl rfl (hb hby d5_131)
  have f31 : Fld Z h20 a1 zs1 "count" "I" (.int 0) := (F8.keep K20 (ninS ne27 nin0))
  obtain ⟨T32, X32, e32, st32⟩ := getF X30 hx hZ hown (host := "") (Or.inl (ww hw 26 rfl)) Via.refl e30 f31 (g := (mkF m 139 (lc22 a1 q2 (-1) 0) [(.ref a1), (.int 1), (.ref a25), (.int 0), (.ref a25)])) rfl rfl (hb hby d5_139)
  have f37 : Arv Z h20 a25 kc34 .long (16 : Int32) [] (.long (0 : Int64)) := (F35.keep K20 (ninS ne36 nin0))
  have f38 : Arv Z h20 a25 kc34 .long (16 : Int32) [(.long 0)] (.long (0 : Int64)) := f37.pad (pad_rep [] (.long (0 : Int64)) 1)
  obtain ⟨T33, h33, L33, X33, e33, N33, K33, V33, st33⟩ := cpA X32 hx hZ hown (ww hw 55 rfl) (ww hw 58 rfl) (ww hw 56 rfl) (ww hw 57 rfl) e32 (us := []) f38 f38 (Or.inl ⟨rfl, rfl⟩) (by decide) (by decide) (by decide) (by decide) (by decide) rfl (Nat.le_of_ble_eq_true rfl) N20 g39 (g := (mkF m 145 (lc22 a1 q2 (-1) 0) [(.int 0), (.int 1), (.ref a25), (.int 0), (.ref a25)])) rfl (by rw [hml]; rfl) rfl (hb hby d5_145) (by decide) (W := 0) (by show 2 * 0 + _ ≤ _; exact Nat.le_of_eq rfl) (by decide)
  have f40 : Arv Z h33 a25 kc34 .long (16 : Int32) [(.long 0)] (.long (0 : Int64)) := V33
  obtain ⟨T41, h41, X41, e41, E41, A41, D41, -, st41⟩ := newO X33 hx hZ hown (ww hw 12 rfl) (ww hw 59 rfl) (ww hw 60 rfl) e33 (g := (mkF m 148 (lc22 a1 q2 (-1) 0) [])) rfl (hb hby d5_148) (by decide) (by decide)
  obtain ⟨b41, g41⟩ : ∃ z, z = h33.size := ⟨_, rfl⟩
  rw [← g41] at A41 D41 st41
  have f42 : Fld Z h41 b41 zs0 "price" zs9 .null := D41 (Or.inr (ww hw 66 rfl)) (ty := (.object zs12)) (by decide)
  have f43 : Fld Z h41 b41 zs0 "priceSteps" "J" (.long 0) := D41 (Or.inr (ww hw 68 rfl)) (ty := .long) (by decide)
  have f44 : Fld Z h41 b41 zs0 "first" zs10 .null := D41 (Or.inl (ww hw 83 rfl)) (ty := (.object zs13)) (by decide)
  have Z_1 : n0 ≤ h20.size := Nat.le_trans Z0 K20.1
  have Z_2 : n0 ≤ h33.size := Nat.le_trans Z_1 K33.1
  have g46 : n0 ≤ b41 := Nat.le_trans Z_2 (Nat.le_of_eq g41.symm)
  have Z_3 : n0 ≤ h41.size := Nat.le_trans Z_2 E41.1
  obtain ⟨_, T45, L45, X45, hQ45, st45⟩ := ocallI X41 hx hZ zm6 rfl hown (ww hw 61 rfl) (ww hw 62 rfl) (by decide) (ww hw 63 rfl) (ww hw 60 rfl) e41 (rm9_9 l Z a0 hw [] b41 q2 h41 n0 Z_3 f42 f43 f44 A41 g46) (st := [(.long q2), .null, (.ref b41), (.ref b41)]) rfl 1 rfl (by decide) (pc := 154) (Ls := (lc22 a1 q2 (-1) 0)) hml rfl (lenOf pd_6 rfl) d5_154 hby
  obtain ⟨rfl, N45q, K45, f47, f48, f49⟩ := hQ45
  have N50 := Fr.app N33 N45q
  have ne52 : a1 ≠ b41 := Nat.ne_of_lt (Nat.lt_of_lt_of_le (Nat.lt_of_lt_of_le (Nat.lt_of_lt_of_le (F5.lt) K20.1) K33.1) (Nat.le_of_eq g41.symm))
  have f53 : Fld Z T45.heap a1 zs1 "levels" zs2 (.ref a11) := ((Fld.ext E41 ((F12.keep K20 (ninS ne27 nin0)).keep K33 (ninS ne51 nin0))).keep K45 (ninS ne52 nin0))
  obtain ⟨T54, X54, e54, st54⟩ := getF X45 hx hZ hown (host := "") (Or.inl (ww hw 14 rfl)) Via.refl rfl f53 (g := (mkF m 160 (lc24 a1 q2 (-1) 0 b41) [(.ref a1)])) rfl rfl (hb hby d5_160)
  have ne55 : a11 ≠ b41 := Nat.ne_of_lt (Nat.lt_of_lt_of_le (Nat.lt_of_lt_of_le (f24.lt) K33.1) (Nat.le_of_eq g41.symm))
  have f56 : Arv Z T45.heap a11 kc14 (.object zs0) (16 : Int32) [.null] .null := (((f24.keep K33 (ninS (Ne.symm ne36) nin0)).ext E41).keep K45 (ninS ne55 nin0))
  have f57 : Exa Z T45.heap b41 zs0 := (A41.keep K45)
  obtain ⟨cl58, Ar58, q58, S58, N58, H58, G58⟩ := id f56
  have hin59 : ¬ ((0 : Int32) < 0 ∨ cl58.slots.size ≤ ((0 : Int32)).toNatClampNeg) := inb_of S58 ⟨by decide, by decide⟩
  obtain ⟨T59, h59, X59, e59, W59, st59⟩ := stR X54 hx hZ e54 Ar58 (j := (0 : Int32)) hin59 rfl (Sto.ofV Ar58 q58 O23 (Ins.self f57)) (g := (mkF m 167 (lc24 a1 q2 (-1) 0 b41) [(.ref b41), (.int 0), (.ref a11)])) rfl rfl (hb hby d5_167)
  have N60 := Fr.snoc X59 N50 g22
  have f61 : Arv Z h59 a11 kc14 (.object zs0) (16 : Int32) [(.ref b41)] .null := Arv.set Ar58 q58 S58 N58 H58 G58 (by rfl) W59 0 rfl (Nat.le_of_ble_eq_true rfl)
  have f62 : Fld Z h59 a1 zs1 "ranks" "[J" (.ref a25) := (Fld.other W59 ((Fld.ext E41 (f28.keep K33 (ninS ne51 nin0))).keep K45 (ninS ne52 nin0)) (Or.inl ne27))
  obtain ⟨T63, X63, e63, st63⟩ := getF X59 hx hZ hown (host := "") (Or.inl (ww hw 17 rfl)) Via.refl e59 f62 (g := (mkF m 169 (lc24 a1 q2 (-1) 0 b41) [(.ref a1)])) rfl rfl (hb hby d5_169)
  have f65 : Fld Z h59 a1 zs1 "side" zs3 (.ref a4) := (Fld.other W59 ((Fld.ext E41 ((F5.keep K20 (ninS ne27 nin0)).keep K33 (ninS ne51 nin0))).keep K45 (ninS ne52 nin0)) (Or.inl ne27))
  have f66 : Sta Z h59 zs5 "BUY" zs3 (.ref a4) := (Sta.wr W59 (own_staK (Sta.ext E41 (own_staK (own_staK F6 K20 (allS (own_nsV f21) all0)) K33 (allS (own_nsV f38) all0))) K45 (allS (own_nsF f42) all0)))
  have Z_4 : n0 ≤ T45.heap.size := Nat.le_trans Z_3 K45.1
  have Z_5 : n0 ≤ h59.size := Nat.le_trans Z_4 (Keep.of_wr W59).1
  have f67 : Exa Z h59 a1 zs1 := (Exa.wr W59 ((Exa.ext E41 ((F7.keep K20).keep K33)).keep K45))
  obtain ⟨_, T64, L64, X64, hQ64, st64⟩ := ocallP X63 hx hZ zm3 hown (ww hw 42 rfl) (ww hw 43 rfl) (own_selP (mvT hZ (ww hw 4 rfl)) (mvP hZ (ww hw 44 rfl)) (mvT hZ (ww hw 43 rfl)) (by decide)) (ww hw 44 rfl) (by decide) (ww hw 45 rfl) (ww hw 5 rfl) e63 f67 (rm7_32 l Z a0 hw [] a1 q2 a4 h59 n0 Z_5 f65 f66) (st := [(.long q2), (.ref a1), (.int 0), (.ref a25)]) rfl 2 rfl (by decide) (pc := 176) (Ls := (lc24 a1 q2 (-1) 0 b41)) hml rfl (lenOf pd_3 rfl) d5_176 hby
  obtain ⟨rfl, N64q, e64⟩ := hQ64
  have N68 := Fr.app N60 N64q
  have ne69 : a25 ≠ b41 := Nat.ne_of_lt (Nat.lt_of_lt_of_le (f40.lt) (Nat.le_of_eq g41.symm))
  have f70 : Arv Z h59 a25 kc34 .long (16 : Int32) [(.long 0)] (.long (0 : Int64)) := (((f40.ext E41).keep K45 (ninS ne69 nin0)).other W59 ne36)
  obtain ⟨cl71, Ar71, q71, S71, N71, H71, G71⟩ := id f70
  have hin72 : ¬ ((0 : Int32) < 0 ∨ cl71.slots.size ≤ ((0 : Int32)).toNatClampNeg) := inb_of S71 ⟨by decide, by decide⟩
  obtain ⟨T72, h72, X72, e72, W72, st72⟩ := stJ X64 hx hZ e64 Ar71 (j := (0 : Int32)) hin72 (g := (mkF m 179 (lc24 a1 q2 (-1) 0 b41) [(.long q2), (.int 0), (.ref a25)])) rfl rfl (hb hby d5_179)
  have N73 := Fr.snoc X72 N68 g39
  have f74 : Arv Z h72 a25 kc34 .long (16 : Int32) [(.long q2)] (.long (0 : Int64)) := Arv.set Ar71 q71 S71 N71 H71 G71 (by rfl) W72 0 rfl (Nat.le_of_ble_eq_true rfl)
  have f75 : Fld Z h72 a1 zs1 "count" "I" (.int 0) := (Fld.other W72 (Fld.other W59 ((Fld.ext E41 (f31.keep K33 (ninS ne51 nin0))).keep K45 (ninS ne52 nin0)) (Or.inl ne27)) (Or.inl ne51))
  obtain ⟨T76, X76, e76, st76⟩ := getF X72 hx hZ hown (host := "") (Or.inl (ww hw 26 rfl)) Via.refl e72 f75 (g := (mkF m 182 (lc24 a1 q2 (-1) 0 b41) [(.ref a1), (.ref a1)])) rfl rfl (hb hby d5_182)
  have f78 : Exa Z h72 a1 zs1 := (Exa.wr W72 f67)
  obtain ⟨T79, h79, X79, e79, W79, st79⟩ := putF X76 hx hZ hown (host := "") (Or.inl (ww hw 26 rfl)) Via.refl e76 f75 f78 (Or.inl (ww hw 27 rfl)) (ww hw 4 rfl) (ty := .int) (by decide) rfl rfl (g := (mkF m 187 (lc24 a1 q2 (-1) 0 b41) [(.int 1), (.ref a1)])) rfl rfl (hb hby d5_187)
  have N81 := Fr.snoc X79 N73 g80
  have f82 : Fld Z h79 a1 zs1 "count" "I" (.int 1) := Fld.same W79 f75
  refine own_go (U' := T79.setTop (mkF m 192 (lc24 a1 q2 (-1) 0 b41) [(.ref b41)])) (fun t k => oicY (pc := 60) X13 hx hby d5_60 100 (by decide) (by decide) (oaloadN X13 hx hby d5_100 rfl rfl (st17 _ (oiload X17 hx hby d5_104 rfl (oaloadN X17 hx hby d5_106 rfl rfl (st18 _ (oiload X18 hx hby d5_110 rfl (oiconst X18 hx hby d5_112 (oiadd X18 hx hby d5_113 (oaloadN X18 hx hby d5_114 rfl rfl (st19 _ (oiload X19 hx hby d5_118 rfl (oisub X19 hx hby d5_120 (st20 _ (oaloadN X20 hx hby d5_124 rfl rfl (st29 _ (oiload X29 hx hby d5_128 rfl (oaloadN X29 hx hby d5_130 rfl rfl (st30 _ (oiload X30 hx hby d5_134 rfl (oiconst X30 hx hby d5_136 (oiadd X30 hx hby d5_137 (oaloadN X30 hx hby d5_138 rfl rfl (st32 _ (oiload X32 hx hby d5_142 rfl (oisub X32 hx hby d5_144 (st33 _ (st41 _ (odup X41 hx hby d5_151 rfl (oaloadN X41 hx hby d5_152 rfl rfl (olloadN X41 hx hby d5_153 rfl (st45 _ (oastore X45 hx hby d5_157 (lc24 a1 q2 (-1) 0 b41) rfl rfl (oaloadN X45 hx hby d5_159 rfl rfl (st54 _ (oiload X54 hx hby d5_163 rfl (oaload X54 hx hby d5_165 rfl rfl (st59 _ (oaloadN X59 hx hby d5_168 rfl rfl (st63 _ (oiload X63 hx hby d5_172 rfl (oaloadN X63 hx hby d5_174 rfl rfl (olloadN X63 hx hby d5_175 rfl (st64 _ (st72 _ (oaloadN X72 hx hby d5_180 rfl rfl (odup X72 hx hby d5_181 rfl (st76 _ (oiconst X76 hx hby d5_185 (oiadd X76 hx hby d5_186 (st79 _ (oaload X79 hx hby d5_190 rfl rfl k)))))))))))))))))))))))))))))))))))))))))))))))))))) ?_
  have f83 : Arv Z h79 a11 kc14 (.object zs0) (16 : Int32) [(.ref b41)] .null := ((f61.other W72 (Ne.symm ne36)).other W79 (Ne.symm ne27))
  have f84 : Arv Z h79 a25 kc34 .long (16 : Int32) [(.long q2)] (.long (0 : Int64)) := (f74.other W79 (Ne.symm ne51))
  have f85 : Fld Z h79 a1 zs1 "side" zs3 (.ref a4) := (Fld.other W79 (Fld.other W72 f65 (Or.inl ne51)) (Or.inr (slot_ne (Or.inr (ww hw 20 rfl)) (Or.inl (ww hw 27 rfl)) (by decide) (t := (.object zs5)) (t' := .int) (by decide) (by decide))))
  have f86 : Fld Z h79 a1 zs1 "levels" zs2 (.ref a11) := (Fld.other W79 (Fld.other W72 (Fld.other W59 f53 (Or.inl ne27)) (Or.inl ne51)) (Or.inr (slot_ne (Or.inl (ww hw 15 rfl)) (Or.inl (ww hw 27 rfl)) (by decide) (t := (.array (.object zs0))) (t' := .int) (by decide) (by decide))))
  have f87 : Fld Z h79 a1 zs1 "ranks" "[J" (.ref a25) := (Fld.other W79 (Fld.other W72 f62 (Or.inl ne51)) (Or.inr (slot_ne (Or.inl (ww hw 18 rfl)) (Or.inl (ww hw 27 rfl)) (by decide) (t := (.array .long)) (t' := .int) (by decide) (by decide))))
  have f88 : Fld Z h79 a1 zs1 "emptyLevels" "I" (.int 0) := (Fld.other W79 (Fld.other W72 (Fld.other W59 ((Fld.ext E41 ((F77.keep K20 (ninS ne27 nin0)).keep K33 (ninS ne51 nin0))).keep K45 (ninS ne52 nin0)) (Or.inl ne27)) (Or.inl ne51)) (Or.inr (slot_ne (Or.inl (ww hw 76 rfl)) (Or.inl (ww hw 27 rfl)) (by decide) (t := .int) (t' := .int) (by decide) (by decide))))
  have f89 : Exa Z h79 b41 zs0 := (Exa.wr W79 (Exa.wr W72 (Exa.wr W59 f57)))
  have f90 : Fld Z h79 b41 zs0 "price" zs9 .null := (Fld.other W79 (Fld.other W72 (Fld.other W59 f47 (Or.inl (Ne.symm ne55))) (Or.inl (Ne.symm ne69))) (Or.inl (Ne.symm ne52)))
  have f91 : Fld Z h79 b41 zs0 "priceSteps" "J" (.long q2) := (Fld.other W79 (Fld.other W72 (Fld.other W59 f48 (Or.inl (Ne.symm ne55))) (Or.inl (Ne.symm ne69))) (Or.inl (Ne.symm ne52)))
  have f92 : Fld Z h79 b41 zs0 "first" zs10 .null := (Fld.other W79 (Fld.other W72 (Fld.other W59 f49 (Or.inl (Ne.symm ne55))) (Or.inl (Ne.symm ne69))) (Or.inl (Ne.symm ne52)))
  obtain ⟨fs, hr, hrun, hended, hW, hsame⟩ := X79.leave (v := some (.ref b41)) (fun h => by rw [Bd.returns] at h; cases h)
  refine own_out ⟨_, _, ?_, hrun, hended, _, _, rfl, ?_, ⟨_, rfl⟩, hW, hsame.mono (by decide) (by decide)⟩
  · exact retOut X79 hx Bd.returns rfl (Or.inr (Or.inr (Or.inr (Or.inr ⟨rfl, rfl, rfl⟩)))) (hb hby d5_192) hr
  · show Q5_37 Z a1 q2 a4 a11 kc14 a25 kc34 h0 n0 _ T79.heap _
    rw [e79]
    exact ⟨b41, rfl, N81, ((((Keep.trans ((Keep.trans (Keep.trans (Keep.refl h0 [a11, a25, a1]) K20 (allS (Or.inl (List.mem_of_getElem? (i := 0) rfl)) all0)) K33 (allS (Or.inl (List.mem_of_getElem? (i := 1) rfl)) all0)).ext E41) K45 (allS (Or.inr (Nat.le_trans K20.1 (Nat.le_trans K33.1 (Nat.le_of_eq g41.symm)))) all0)).wr W59 (Or.inl (List.mem_of_getElem? (i := 0) rfl))).wr W72 (Or.inl (List.mem_of_getElem? (i := 1) rfl))).wr W79 (Or.inl (List.mem_of_getElem? (i := 2) rfl))), (Nat.le_trans K20.1 (Nat.le_trans K33.1 (Nat.le_of_eq g41.symm))), f83, f84, f85, f82, f86, f87, f88, f89, f90, f91, f92⟩
def Qmg6_38 (Z : State) (a1 : Addr) (q2 : Int64) (a3 : Addr) (h0 : Heap) (n0 : Nat) (v : Option Value) (h : Heap) (L : List Loc) : Prop := v = some (.int (-1)) ∧ Fr n0 L ∧ h = h0
theorem mg6_38 (l : Launch) (Z : State) (a0 : Array Value) (hw : ∀ d ∈ tables_1, d.before a0 Z = true) (ws : List Jvm.Cond) (a1 : Addr) (q2 : Int64) (a3 : Addr) (h0 : Heap) (n0 : Nat) (Z0 : n0 ≤ h0.size) (F4 : Fld Z h0 a1 zs1 "side" zs3 (.ref a3)) (F5 : Sta Z h0 zs5 "BUY" zs3 (.ref a3)) (F6 : Exa Z h0 a1 zs1) (F7 : Fld Z h0 a1 zs1 "count" "I" (.int 0)) (hc8 : ¬ (q2 = (9223372036854775807 : Int64))) :
    MetFree l zm5 (head1 (Jvm.Cond.code zm5 prog_2_method_8_code 11 (some .int) :: ws) ({ frames := 1, cells := 0, slots := 0, locals := 14 } : Room)) (fun a U => a = #[(.ref a1), (.long q2), .null] ∧ Z.Warmed39 U.vm ∧ U.heap = h0) (fun _ _ _ _ _ => True) (fun _ U o U' => ∃ v L, o = .returned v ∧ Qmg6_38 Z a1 q2 a3 h0 n0 v U'.heap L ∧ FrameEnd U o U' L ({ frames := 1, cells := 0, slots := 0, locals := 14 } : Room).cells ({ frames := 1, cells := 0, slots := 0, locals := 14 } : Room).slots) := by
  by_cases hm1 : q2 = (-9223372036854775808 : Int64)
  · exact rm6_33 l Z a0 hw ws a1 q2 a3 h0 n0 Z0 F4 F5 F6 F7 hm1
  · exact rm6_35 l Z a0 hw ws a1 q2 a3 h0 n0 Z0 F4 F5 F6 F7 hm1 hc8
def Q5_39 (Z : State) (a1 : Addr) (q2 : Int64) (a4 : Addr) (a12 : Addr) (kc15 : ClassId) (a26 : Addr) (kc35 : ClassId) (h0 : Heap) (n0 : Nat) (v : Option Value) (h : Heap) (L : List Loc) : Prop := ∃ b42 : Addr, v = some (.ref b42) ∧ Fr n0 L ∧ Keep h0 h [a12, a26, a1] ∧ h0.size ≤ b42 ∧ Arv Z h a12 kc15 (.object zs0) (16 : Int32) [(.ref b42)] .null ∧ Arv Z h a26 kc35 .long (16 : Int32) [(.long q2)] (.long (0 : Int64)) ∧ Fld Z h a1 zs1 "side" zs3 (.ref a4) ∧ Fld Z h a1 zs1 "count" "I" (.int 1) ∧ Fld Z h a1 zs1 "levels" zs2 (.ref a12) ∧ Fld Z h a1 zs1 "ranks" "[J" (.ref a26) ∧ Fld Z h a1 zs1 "emptyLevels" "I" (.int 0) ∧ Exa Z h b42 zs0 ∧ Fld Z h b42 zs0 "price" zs9 .null ∧ Fld Z h b42 zs0 "priceSteps" "J" (.long q2) ∧ Fld Z h b42 zs0 "first" zs10 .null
set_option maxRecDepth 65536 in
set_option maxHeartbeats 40000000 in
theorem rm5_39 (l : Launch) (Z : State) (a0 : Array Value) (hw : ∀ d ∈ tables_1, d.before a0 Z = true) (ws : List Jvm.Cond) (a1 : Addr) (q2 : Int64) (a4 : Addr) (a12 : Addr) (kc15 : ClassId) (a26 : Addr) (kc35 : ClassId) (h0 : Heap) (n0 : Nat) (Z0 : n0 ≤ h0.size) (F5 : Fld Z h0 a1 zs1 "side" zs3 (.ref a4)) (F6 : Sta Z h0 zs5 "BUY" zs3 (.ref a4)) (F7 : Exa Z h0 a1 zs1) (F8 : Fld Z h0 a1 zs1 "count" "I" (.int 0)) (hc9 : ¬ (q2 = (9223372036854775807 : Int64))) (F13 : Fld Z h0 a1 zs1 "levels" zs2 (.ref a12)) (F16 : Arv Z h0 a12 kc15 (.object zs0) (16 : Int32) [] .null) (g23 : n0 ≤ a12) (O24 : Ovr Z kc15 zs0) (F27 : Fld Z h0 a1 zs1 "ranks" "[J" (.ref a26)) (ne28 : a1 ≠ a12) (F36 : Arv Z h0 a26 kc35 .long (16 : Int32) [] (.long (0 : Int64))) (ne37 : a26 ≠ a12) (g40 : n0 ≤ a26) (ne52 : a1 ≠ a26) (F78 : Fld Z h0 a1 zs1 "emptyLevels" "I" (.int 0)) (g81 : n0 ≤ a1) :
    MetFree l zm7 (head1 (Jvm.Cond.code zm7 prog_2_method_5_code 7 (some (.object zs0)) :: ws) ({ frames := 2, cells := 1, slots := 4, locals := 36 } : Room)) (fun a U => a = #[(.ref a1), (.long q2), .null] ∧ Z.Warmed39 U.vm ∧ U.heap = h0) (fun _ _ _ _ _ => True) (fun _ U o U' => ∃ v L, o = .returned v ∧ Q5_39 Z a1 q2 a4 a12 kc15 a26 kc35 h0 n0 v U'.heap L ∧ FrameEnd U o U' L ({ frames := 2, cells := 1, slots := 4, locals := 36 } : Room).cells ({ frames := 2, cells := 1, slots := 4, locals := 36 } : Room).slots) := by
  refine MetFree.of_bodySF (plainFor_of_name pn_com_example_srok_srok_engine_BookSide) hisR ?_
  intro p e s m args below meth c s₁ Bd hml0 hP hK
  obtain ⟨rfl, hZ, hh⟩ := hP
  have hx := Bd.exec
  have hby := Bd.bytes
  have hml : c.maxLocals = 7 := hml0
  have hown : s.vm.findClass zs1 = some m.cls := findClass_of_methodNamed Bd.named
  have hnm := (name_of_methodNamed Bd.named Bd.method).1
  have X0 : Stand p l e ({ frames := 2, cells := 1, slots := 4, locals := 36 } : Room) s m #[(.ref a1), (.long q2), .null] below meth c s₁ [] 0 0 := Stand.of_body Bd
  have e0 : s₁.heap = h0 := by rw [← hh, Bd.state]; rfl
  have N0 := Fr.nil n0
  refine own_pre (g' := mkF m 0 (lc11 a1 q2) []) (ef_7 m a1 q2) ?_
  obtain ⟨_, T3, L3, X3, hQ3, st3⟩ := ocallP X0 hx hZ zm5 hown (ww hw 38 rfl) (ww hw 39 rfl) (own_selP (mvT hZ (ww hw 4 rfl)) (mvP hZ (ww hw 40 rfl)) (mvT hZ (ww hw 39 rfl)) (by decide)) (ww hw 40 rfl) (by decide) (ww hw 41 rfl) (ww hw 5 rfl) e0 F7 (mg6_38 l Z a0 hw [] a1 q2 a4 h0 n0 Z0 F5 F6 F7 F8 hc9) (st := [.null, (.long q2), (.ref a1)]) rfl 0 rfl (by decide) (pc := 3) (Ls := (lc11 a1 q2)) hml rfl (lenOf pd_5 rfl) d5_3 hby
  obtain ⟨rfl, N3q, e3⟩ := hQ3
  have N10 := Fr.app N0 N3q
  refine own_go (U' := T3.setTop (mkF m 10 (lc21 a1 q2 (-1)) [(.int (-1))])) (fun t k => oaloadN X0 hx hby d5_0 rfl rfl (olloadN X0 hx hby d5_1 rfl (oaloadN X0 hx hby d5_2 rfl rfl (st3 _ (oistore X3 hx hby d5_6 (lc21 a1 q2 (-1)) rfl (oiload X3 hx hby d5_8 rfl k)))))) ?_
  refine own_go (U' := T3.setTop (mkF m 47 (lc21 a1 q2 (-1)) [(.int (-(-1 : Int32)))])) (fun t k => oifY (pc := 10) X3 hx hby d5_10 44 (by decide) (by decide) (oiload X3 hx hby d5_44 rfl (oineg X3 hx hby d5_46 k))) ?_
  rw [show (-(-1 : Int32)) = (1 : Int32) from by decide]
  obtain ⟨T11, X11, e11, st11⟩ := getF X3 hx hZ hown (host := "") (Or.inl (ww hw 26 rfl)) Via.refl e3 F8 (g := (mkF m 52 (lc22 a1 q2 (-1) 0) [(.ref a1)])) rfl rfl (hb hby d5_52)
  obtain ⟨T14, X14, e14, st14⟩ := getF X11 hx hZ hown (host := "") (Or.inl (ww hw 14 rfl)) Via.refl e11 F13 (g := (mkF m 56 (lc22 a1 q2 (-1) 0) [(.ref a1), (.int 0)])) rfl rfl (hb hby d5_56)
  refine own_go (U' := T14.setTop (mkF m 59 (lc22 a1 q2 (-1) 0) [(.ref a12), (.int 0)])) (fun t k => oiconst X3 hx hby d5_47 (oisub X3 hx hby d5_48 (oistore X3 hx hby d5_49 (lc22 a1 q2 (-1) 0) rfl (oaloadN X3 hx hby d5_51 rfl rfl (st11 _ (oaloadN X11 hx hby d5_55 rfl rfl (st14 _ k))))))) ?_
  obtain ⟨cl17, Ar17, q17, S17, N17, H17, G17⟩ := id F16
  refine own_go (fun t k => X14.arraylength hx (by rw [e14]; exact Ar17.1) (State.isArrayOf_alike hZ.alike Ar17.2.1) (g := (mkF m 59 (lc22 a1 q2 (-1) 0) [(.ref a12), (.int 0)])) rfl rfl (hb hby d5_59) _ k) ?_
  rw [len_of S17 N17]
  obtain ⟨T18, X18, e18, st18⟩ := getF X14 hx hZ hown (host := "") (Or.inl (ww hw 14 rfl)) Via.refl e14 F13 (g := (mkF m 101 (lc22 a1 q2 (-1) 0) [(.ref a1)])) rfl rfl (hb hby d5_101)
  obtain ⟨T19, X19, e19, st19⟩ := getF X18 hx hZ hown (host := "") (Or.inl (ww hw 14 rfl)) Via.refl e18 F13 (g := (mkF m 107 (lc22 a1 q2 (-1) 0) [(.ref a1), (.int 0), (.ref a12)])) rfl rfl (hb hby d5_107)
  obtain ⟨T20, X20, e20, st20⟩ := getF X19 hx hZ hown (host := "") (Or.inl (ww hw 26 rfl)) Via.refl e19 F8 (g := (mkF m 115 (lc22 a1 q2 (-1) 0) [(.ref a1), (.int 1), (.ref a12), (.int 0), (.ref a12)])) rfl rfl (hb hby d5_115)
  have f22 : Arv Z h0 a12 kc15 (.object zs0) (16 : Int32) [.null] .null := F16.pad (pad_rep [] .null 1)
  obtain ⟨cl21, Ar21, q21, -⟩ := id f22
  obtain ⟨T21, h21, L21, X21, e21, N21, K21, V21, st21⟩ := cpA X20 hx hZ hown (ww hw 55 rfl) (ww hw 58 rfl) (ww hw 56 rfl) (ww hw 57 rfl) e20 (us := []) f22 f22 (Or.inr ⟨rfl, rfl, trivial⟩) (by decide) (by decide) (by decide) (by decide) (by decide) rfl (Nat.le_of_ble_eq_true rfl) N10 g23 (g := (mkF m 121 (lc22 a1 q2 (-1) 0) [(.int 0), (.int 1), (.ref a12), (.int 0), (.ref a12)])) rfl (by rw [hml]; rfl) rfl (hb hby d5_121) (by decide) (W := 0) (by show 2 * 0 + _ ≤ _; exact Nat.le_of_eq rfl) (by decide)
  have f25 : Arv Z h21 a12 kc15 (.object zs0) (16 : Int32) [.null] .null := V21
  have f29 : Fld Z h21 a1 zs1 "ranks" "[J" (.ref a26) := (F27.keep K21 (ninS ne28 nin0))
  obtain ⟨T30, X30, e30, st30⟩ := getF X21 hx hZ hown (host := "") (Or.inl (ww hw 17 rfl)) Via.refl e21 f29 (g := (mkF m 125 (lc22 a1 q2 (-1) 0) [(.ref a1)])) rfl rfl (hb hby d5_125)
  obtain ⟨T31, X31, e31, st31⟩ := getF X30 hx hZ hown (host := "") (Or.inl (ww hw 17 rfl)) Via.refl e30 f29 (g := (mkF m 131 (lc22 a1 q2 (-1) 0) [(.ref a1), (.int 0), (.ref a26)])) rfl rfl (hb hby d5_131)
  have f32 : Fld Z h21 a1 zs1 "count" "I" (.int 0) := (F8.keep K21 (ninS ne28 nin0))
  obtain ⟨T33, X33, e33, st33⟩ := getF X31 hx hZ hown (host := "") (Or.inl (ww hw 26 rfl)) Via.refl e31 f32 (g := (mkF m 139 (lc22 a1 q2 (-1) 0) [(.ref a1), (.int 1), (.ref a26), (.int 0), (.ref a26)])) rfl rfl (hb hby d5_139)
  have f38 : Arv Z h21 a26 kc35 .long (16 : Int32) [] (.long (0 : Int64)) := (F36.keep K21 (ninS ne37 nin0))
  have f39 : Arv Z h21 a26 kc35 .long (16 : Int32) [(.long 0)] (.long (0 : Int64)) := f38.pad (pad_rep [] (.long (0 : Int64)) 1)
  obtain ⟨T34, h34, L34, X34, e34, N34, K34, V34, st34⟩ := cpA X33 hx hZ hown (ww hw 55 rfl) (ww hw 58 rfl) (ww hw 56 rfl) (ww hw 57 rfl) e33 (us := []) f39 f39 (Or.inl ⟨rfl, rfl⟩) (by decide) (by decide) (by decide) (by decide) (by decide) rfl (Nat.le_of_ble_eq_true rfl) N21 g40 (g := (mkF m 145 (lc22 a1 q2 (-1) 0) [(.int 0), (.int 1), (.ref a26), (.int 0), (.ref a26)])) rfl (by rw [hml]; rfl) rfl (hb hby d5_145) (by decide) (W := 0) (by show 2 * 0 + _ ≤ _; exact Nat.le_of_eq rfl) (by decide)
  have f41 : Arv Z h34 a26 kc35 .long (16 : Int32) [(.long 0)] (.long (0 : Int64)) := V34
  obtain ⟨T42, h42, X42, e42, E42, A42, D42, -, st42⟩ := newO X34 hx hZ hown (ww hw 12 rfl) (ww hw 59 rfl) (ww hw 60 rfl) e34 (g := (mkF m 148 (lc22 a1 q2 (-1) 0) [])) rfl (hb hby d5_148) (by decide) (by decide)
  obtain ⟨b42, g42⟩ : ∃ z, z = h34.size := ⟨_, rfl⟩
  rw [← g42] at A42 D42 st42
  have f43 : Fld Z h42 b42 zs0 "price" zs9 .null := D42 (Or.inr (ww hw 66 rfl)) (ty := (.object zs12)) (by decide)
  have f44 : Fld Z h42 b42 zs0 "priceSteps" "J" (.long 0) := D42 (Or.inr (ww hw 68 rfl)) (ty := .long) (by decide)
  have f45 : Fld Z h42 b42 zs0 "first" zs10 .null := D42 (Or.inl (ww hw 83 rfl)) (ty := (.object zs13)) (by decide)
  have Z_1 : n0 ≤ h21.size := Nat.le_trans Z0 K21.1
  have Z_2 : n0 ≤ h34.size := Nat.le_trans Z_1 K34.1
  have g47 : n0 ≤ b42 := Nat.le_trans Z_2 (Nat.le_of_eq g42.symm)
  have Z_3 : n0 ≤ h42.size := Nat.le_trans Z_2 E42.1
  obtain ⟨_, T46, L46, X46, hQ46, st46⟩ := ocallI X42 hx hZ zm6 rfl hown (ww hw 61 rfl) (ww hw 62 rfl) (by decide) (ww hw 63 rfl) (ww hw 60 rfl) e42 (rm9_9 l Z a0 hw [] b42 q2 h42 n0 Z_3 f43 f44 f45 A42 g47) (st := [(.long q2), .null, (.ref b42), (.ref b42)]) rfl 1 rfl (by decide) (pc := 154) (Ls := (lc22 a1 q2 (-1) 0)) hml rfl (lenOf pd_6 rfl) d5_154 hby
  obtain ⟨rfl, N46q, K46, f48, f49, f50⟩ := hQ46
  have N51 := Fr.app N34 N46q
  have ne53 : a1 ≠ b42 := Nat.ne_of_lt (Nat.lt_of_lt_of_le (Nat.lt_of_lt_of_le (Nat.lt_of_lt_of_le (F5.lt) K21.1) K34.1) (Nat.le_of_eq g42.symm))
  have f54 : Fld Z T46.heap a1 zs1 "levels" zs2 (.ref a12) := ((Fld.ext E42 ((F13.keep K21 (ninS ne28 nin0)).keep K34 (ninS ne52 nin0))).keep K46 (ninS ne53 nin0))
  obtain ⟨T55, X55, e55, st55⟩ := getF X46 hx hZ hown (host := "") (Or.inl (ww hw 14 rfl)) Via.refl rfl f54 (g := (mkF m 160 (lc24 a1 q2 (-1) 0 b42) [(.ref a1)])) rfl rfl (hb hby d5_160)
  have ne56 : a12 ≠ b42 := Nat.ne_of_lt (Nat.lt_of_lt_of_le (Nat.lt_of_lt_of_le (f25.lt) K34.1) (Nat.le_of_eq g42.symm))
  have f57 : Arv Z T46.heap a12 kc15 (.object zs0) (16 : Int32) [.null] .null := (((f25.keep K34 (ninS (Ne.symm ne37) nin0)).ext E42).keep K46 (ninS ne56 nin0))
  have f58 : Exa Z T46.heap b42 zs0 := (A42.keep K46)
  obtain ⟨cl59, Ar59, q59, S59, N59, H59, G59⟩ := id f57
  have hin60 : ¬ ((0 : Int32) < 0 ∨ cl59.slots.size ≤ ((0 : Int32)).toNatClampNeg) := inb_of S59 ⟨by decide, by decide⟩
  obtain ⟨T60, h60, X60, e60, W60, st60⟩ := stR X55 hx hZ e55 Ar59 (j := (0 : Int32)) hin60 rfl (Sto.ofV Ar59 q59 O24 (Ins.self f58)) (g := (mkF m 167 (lc24 a1 q2 (-1) 0 b42) [(.ref b42), (.int 0), (.ref a12)])) rfl rfl (hb hby d5_167)
  have N61 := Fr.snoc X60 N51 g23
  have f62 : Arv Z h60 a12 kc15 (.object zs0) (16 : Int32) [(.ref b42)] .null := Arv.set Ar59 q59 S59 N59 H59 G59 (by rfl) W60 0 rfl (Nat.le_of_ble_eq_true rfl)
  have f63 : Fld Z h60 a1 zs1 "ranks" "[J" (.ref a26) := (Fld.other W60 ((Fld.ext E42 (f29.keep K34 (ninS ne52 nin0))).keep K46 (ninS ne53 nin0)) (Or.inl ne28))
  obtain ⟨T64, X64, e64, st64⟩ := getF X60 hx hZ hown (host := "") (Or.inl (ww hw 17 rfl)) Via.refl e60 f63 (g := (mkF m 169 (lc24 a1 q2 (-1) 0 b42) [(.ref a1)])) rfl rfl (hb hby d5_169)
  have f66 : Fld Z h60 a1 zs1 "side" zs3 (.ref a4) := (Fld.other W60 ((Fld.ext E42 ((F5.keep K21 (ninS ne28 nin0)).keep K34 (ninS ne52 nin0))).keep K46 (ninS ne53 nin0)) (Or.inl ne28))
  have f67 : Sta Z h60 zs5 "BUY" zs3 (.ref a4) := (Sta.wr W60 (own_staK (Sta.ext E42 (own_staK (own_staK F6 K21 (allS (own_nsV f22) all0)) K34 (allS (own_nsV f39) all0))) K46 (allS (own_nsF f43) all0)))
  have Z_4 : n0 ≤ T46.heap.size := Nat.le_trans Z_3 K46.1
  have Z_5 : n0 ≤ h60.size := Nat.le_trans Z_4 (Keep.of_wr W60).1
  have f68 : Exa Z h60 a1 zs1 := (Exa.wr W60 ((Exa.ext E42 ((F7.keep K21).keep K34)).keep K46))
  obtain ⟨_, T65, L65, X65, hQ65, st65⟩ := ocallP X64 hx hZ zm3 hown (ww hw 42 rfl) (ww hw 43 rfl) (own_selP (mvT hZ (ww hw 4 rfl)) (mvP hZ (ww hw 44 rfl)) (mvT hZ (ww hw 43 rfl)) (by decide)) (ww hw 44 rfl) (by decide) (ww hw 45 rfl) (ww hw 5 rfl) e64 f68 (rm7_32 l Z a0 hw [] a1 q2 a4 h60 n0 Z_5 f66 f67) (st := [(.long q2), (.ref a1), (.int 0), (.ref a26)]) rfl 2 rfl (by decide) (pc := 176) (Ls := (lc24 a1 q2 (-1) 0 b42)) hml rfl (lenOf pd_3 rfl) d5_176 hby
  obtain ⟨rfl, N65q, e65⟩ := hQ65
  have N69 := Fr.app N61 N65q
  have ne70 : a26 ≠ b42 := Nat.ne_of_lt (Nat.lt_of_lt_of_le (f41.lt) (Nat.le_of_eq g42.symm))
  have f71 : Arv Z h60 a26 kc35 .long (16 : Int32) [(.long 0)] (.long (0 : Int64)) := (((f41.ext E42).keep K46 (ninS ne70 nin0)).other W60 ne37)
  obtain ⟨cl72, Ar72, q72, S72, N72, H72, G72⟩ := id f71
  have hin73 : ¬ ((0 : Int32) < 0 ∨ cl72.slots.size ≤ ((0 : Int32)).toNatClampNeg) := inb_of S72 ⟨by decide, by decide⟩
  obtain ⟨T73, h73, X73, e73, W73, st73⟩ := stJ X65 hx hZ e65 Ar72 (j := (0 : Int32)) hin73 (g := (mkF m 179 (lc24 a1 q2 (-1) 0 b42) [(.long q2), (.int 0), (.ref a26)])) rfl rfl (hb hby d5_179)
  have N74 := Fr.snoc X73 N69 g40
  have f75 : Arv Z h73 a26 kc35 .long (16 : Int32) [(.long q2)] (.long (0 : Int64)) := Arv.set Ar72 q72 S72 N72 H72 G72 (by rfl) W73 0 rfl (Nat.le_of_ble_eq_true rfl)
  have f76 : Fld Z h73 a1 zs1 "count" "I" (.int 0) := (Fld.other W73 (Fld.other W60 ((Fld.ext E42 (f32.keep K34 (ninS ne52 nin0))).keep K46 (ninS ne53 nin0)) (Or.inl ne28)) (Or.inl ne52))
  obtain ⟨T77, X77, e77, st77⟩ := getF X73 hx hZ hown (host := "") (Or.inl (ww hw 26 rfl)) Via.refl e73 f76 (g := (mkF m 182 (lc24 a1 q2 (-1) 0 b42) [(.ref a1), (.ref a1)])) rfl rfl (hb hby d5_182)
  have f79 : Exa Z h73 a1 zs1 := (Exa.wr W73 f68)
  obtain ⟨T80, h80, X80, e80, W80, st80⟩ := putF X77 hx hZ hown (host := "") (Or.inl (ww hw 26 rfl)) Via.refl e77 f76 f79 (Or.inl (ww hw 27 rfl)) (ww hw 4 rfl) (ty := .int) (by decide) rfl rfl (g := (mkF m 187 (lc24 a1 q2 (-1) 0 b42) [(.int 1), (.ref a1)])) rfl rfl (hb hby d5_187)
  have N82 := Fr.snoc X80 N74 g81
  have f83 : Fld Z h80 a1 zs1 "count" "I" (.int 1) := Fld.same W80 f76
  refine own_go (U' := T80.setTop (mkF m 192 (lc24 a1 q2 (-1) 0 b42) [(.ref b42)])) (fun t k => oicY (pc := 60) X14 hx hby d5_60 100 (by decide) (by decide) (oaloadN X14 hx hby d5_100 rfl rfl (st18 _ (oiload X18 hx hby d5_104 rfl (oaloadN X18 hx hby d5_106 rfl rfl (st19 _ (oiload X19 hx hby d5_110 rfl (oiconst X19 hx hby d5_112 (oiadd X19 hx hby d5_113 (oaloadN X19 hx hby d5_114 rfl rfl (st20 _ (oiload X20 hx hby d5_118 rfl (oisub X20 hx hby d5_120 (st21 _ (oaloadN X21 hx hby d5_124 rfl rfl (st30 _ (oiload X30 hx hby d5_128 rfl (oaloadN X30 hx hby d5_130 rfl rfl (st31 _ (oiload X31 hx hby d5_134 rfl (oiconst X31 hx hby d5_136 (oiadd X31 hx hby d5_137 (oaloadN X31 hx hby d5_138 rfl rfl (st33 _ (oiload X33 hx hby d5_142 rfl (oisub X33 hx hby d5_144 (st34 _ (st42 _ (odup X42 hx hby d5_151 rfl (oaloadN X42 hx hby d5_152 rfl rfl (olloadN X42 hx hby d5_153 rfl (st46 _ (oastore X46 hx hby d5_157 (lc24 a1 q2 (-1) 0 b42) rfl rfl (oaloadN X46 hx hby d5_159 rfl rfl (st55 _ (oiload X55 hx hby d5_163 rfl (oaload X55 hx hby d5_165 rfl rfl (st60 _ (oaloadN X60 hx hby d5_168 rfl rfl (st64 _ (oiload X64 hx hby d5_172 rfl (oaloadN X64 hx hby d5_174 rfl rfl (olloadN X64 hx hby d5_175 rfl (st65 _ (st73 _ (oaloadN X73 hx hby d5_180 rfl rfl (odup X73 hx hby d5_181 rfl (st77 _ (oiconst X77 hx hby d5_185 (oiadd X77 hx hby d5_186 (st80 _ (oaload X80 hx hby d5_190 rfl rfl k)))))))))))))))))))))))))))))))))))))))))))))))))))) ?_
  have f84 : Arv Z h80 a12 kc15 (.object zs0) (16 : Int32) [(.ref b42)] .null := ((f62.other W73 (Ne.symm ne37)).other W80 (Ne.symm ne28))
  have f85 : Arv Z h80 a26 kc35 .long (16 : Int32) [(.long q2)] (.long (0 : Int64)) := (f75.other W80 (Ne.symm ne52))
  have f86 : Fld Z h80 a1 zs1 "side" zs3 (.ref a4) := (Fld.other W80 (Fld.other W73 f66 (Or.inl ne52)) (Or.inr (slot_ne (Or.inr (ww hw 20 rfl)) (Or.inl (ww hw 27 rfl)) (by decide) (t := (.object zs5)) (t' := .int) (by decide) (by decide))))
  have f87 : Fld Z h80 a1 zs1 "levels" zs2 (.ref a12) := (Fld.other W80 (Fld.other W73 (Fld.other W60 f54 (Or.inl ne28)) (Or.inl ne52)) (Or.inr (slot_ne (Or.inl (ww hw 15 rfl)) (Or.inl (ww hw 27 rfl)) (by decide) (t := (.array (.object zs0))) (t' := .int) (by decide) (by decide))))
  have f88 : Fld Z h80 a1 zs1 "ranks" "[J" (.ref a26) := (Fld.other W80 (Fld.other W73 f63 (Or.inl ne52)) (Or.inr (slot_ne (Or.inl (ww hw 18 rfl)) (Or.inl (ww hw 27 rfl)) (by decide) (t := (.array .long)) (t' := .int) (by decide) (by decide))))
  have f89 : Fld Z h80 a1 zs1 "emptyLevels" "I" (.int 0) := (Fld.other W80 (Fld.other W73 (Fld.other W60 ((Fld.ext E42 ((F78.keep K21 (ninS ne28 nin0)).keep K34 (ninS ne52 nin0))).keep K46 (ninS ne53 nin0)) (Or.inl ne28)) (Or.inl ne52)) (Or.inr (slot_ne (Or.inl (ww hw 76 rfl)) (Or.inl (ww hw 27 rfl)) (by decide) (t := .int) (t' := .int) (by decide) (by decide))))
  have f90 : Exa Z h80 b42 zs0 := (Exa.wr W80 (Exa.wr W73 (Exa.wr W60 f58)))
  have f91 : Fld Z h80 b42 zs0 "price" zs9 .null := (Fld.other W80 (Fld.other W73 (Fld.other W60 f48 (Or.inl (Ne.symm ne56))) (Or.inl (Ne.symm ne70))) (Or.inl (Ne.symm ne53)))
  have f92 : Fld Z h80 b42 zs0 "priceSteps" "J" (.long q2) := (Fld.other W80 (Fld.other W73 (Fld.other W60 f49 (Or.inl (Ne.symm ne56))) (Or.inl (Ne.symm ne70))) (Or.inl (Ne.symm ne53)))
  have f93 : Fld Z h80 b42 zs0 "first" zs10 .null := (Fld.other W80 (Fld.other W73 (Fld.other W60 f50 (Or.inl (Ne.symm ne56))) (Or.inl (Ne.symm ne70))) (Or.inl (Ne.symm ne53)))
  obtain ⟨fs, hr, hrun, hended, hW, hsame⟩ := X80.leave (v := some (.ref b42)) (fun h => by rw [Bd.returns] at h; cases h)
  refine own_out ⟨_, _, ?_, hrun, hended, _, _, rfl, ?_, ⟨_, rfl⟩, hW, hsame.mono (by decide) (by decide)⟩
  · exact retOut X80 hx Bd.returns rfl (Or.inr (Or.inr (Or.inr (Or.inr ⟨rfl, rfl, rfl⟩)))) (hb hby d5_192) hr
  · show Q5_39 Z a1 q2 a4 a12 kc15 a26 kc35 h0 n0 _ T80.heap _
    rw [e80]
    exact ⟨b42, rfl, N82, ((((Keep.trans ((Keep.trans (Keep.trans (Keep.refl h0 [a12, a26, a1]) K21 (allS (Or.inl (List.mem_of_getElem? (i := 0) rfl)) all0)) K34 (allS (Or.inl (List.mem_of_getElem? (i := 1) rfl)) all0)).ext E42) K46 (allS (Or.inr (Nat.le_trans K21.1 (Nat.le_trans K34.1 (Nat.le_of_eq g42.symm)))) all0)).wr W60 (Or.inl (List.mem_of_getElem? (i := 0) rfl))).wr W73 (Or.inl (List.mem_of_getElem? (i := 1) rfl))).wr W80 (Or.inl (List.mem_of_getElem? (i := 2) rfl))), (Nat.le_trans K21.1 (Nat.le_trans K34.1 (Nat.le_of_eq g42.symm))), f84, f85, f86, f83, f87, f88, f89, f90, f91, f92, f93⟩
def Q6_40 (Z : State) (a1 : Addr) (q2 : Int64) (a4 : Addr) (a11 : Addr) (q14 : Int64) (kc15 : ClassId) (h0 : Heap) (n0 : Nat) (v : Option Value) (h : Heap) (L : List Loc) : Prop := v = some (.int (-2)) ∧ Fr n0 L ∧ h = h0
set_option maxRecDepth 65536 in
set_option maxHeartbeats 40000000 in
theorem rm6_40 (l : Launch) (Z : State) (a0 : Array Value) (hw : ∀ d ∈ tables_1, d.before a0 Z = true) (ws : List Jvm.Cond) (a1 : Addr) (q2 : Int64) (a4 : Addr) (a11 : Addr) (q14 : Int64) (kc15 : ClassId) (h0 : Heap) (n0 : Nat) (Z0 : n0 ≤ h0.size) (F5 : Fld Z h0 a1 zs1 "side" zs3 (.ref a4)) (F6 : Sta Z h0 zs5 "BUY" zs3 (.ref a4)) (F7 : Exa Z h0 a1 zs1) (F9 : Fld Z h0 a1 zs1 "count" "I" (.int 1)) (F12 : Fld Z h0 a1 zs1 "ranks" "[J" (.ref a11)) (F16 : Arv Z h0 a11 kc15 .long (16 : Int32) [(.long q14)] (.long (0 : Int64))) (hc19 : q14 < q2) (hc22 : ¬ (q2 = (-9223372036854775808 : Int64))) (hc23 : q2 = (9223372036854775807 : Int64)) :
    MetFree l zm5 (head1 (Jvm.Cond.code zm5 prog_2_method_8_code 11 (some .int) :: ws) ({ frames := 1, cells := 0, slots := 0, locals := 14 } : Room)) (fun a U => a = #[(.ref a1), (.long q2), .null] ∧ Z.Warmed39 U.vm ∧ U.heap = h0) (fun _ _ _ _ _ => True) (fun _ U o U' => ∃ v L, o = .returned v ∧ Q6_40 Z a1 q2 a4 a11 q14 kc15 h0 n0 v U'.heap L ∧ FrameEnd U o U' L ({ frames := 1, cells := 0, slots := 0, locals := 14 } : Room).cells ({ frames := 1, cells := 0, slots := 0, locals := 14 } : Room).slots) := by
  refine MetFree.of_bodySF (plainFor_of_name pn_com_example_srok_srok_engine_BookSide) hisR ?_
  intro p e s m args below meth c s₁ Bd hml0 hP hK
  obtain ⟨rfl, hZ, hh⟩ := hP
  have hx := Bd.exec
  have hby := Bd.bytes
  have hml : c.maxLocals = 11 := hml0
  have hown : s.vm.findClass zs1 = some m.cls := findClass_of_methodNamed Bd.named
  have hnm := (name_of_methodNamed Bd.named Bd.method).1
  have X0 : Stand p l e ({ frames := 1, cells := 0, slots := 0, locals := 14 } : Room) s m #[(.ref a1), (.long q2), .null] below meth c s₁ [] 0 0 := Stand.of_body Bd
  have e0 : s₁.heap = h0 := by rw [← hh, Bd.state]; rfl
  have N0 := Fr.nil n0
  refine own_pre (g' := mkF m 0 (lc12 a1 q2) []) (ef_5 m a1 q2) ?_
  obtain ⟨_, T3, L3, X3, hQ3, st3⟩ := ocallP X0 hx hZ zm3 hown (ww hw 42 rfl) (ww hw 43 rfl) (own_selP (mvT hZ (ww hw 4 rfl)) (mvP hZ (ww hw 44 rfl)) (mvT hZ (ww hw 43 rfl)) (by decide)) (ww hw 44 rfl) (by decide) (ww hw 45 rfl) (ww hw 5 rfl) e0 F7 (rm7_32 l Z a0 hw [] a1 q2 a4 h0 n0 Z0 F5 F6) (st := [(.long q2), (.ref a1)]) rfl 0 rfl (by decide) (pc := 2) (Ls := (lc12 a1 q2)) hml rfl (lenOf pd_3 rfl) d6_2 hby
  obtain ⟨rfl, N3q, e3⟩ := hQ3
  have N8 := Fr.app N0 N3q
  obtain ⟨T10, X10, e10, st10⟩ := getF X3 hx hZ hown (host := "") (Or.inl (ww hw 26 rfl)) Via.refl e3 F9 (g := (mkF m 8 (lc14 a1 q2 q2) [(.ref a1)])) rfl rfl (hb hby d6_8)
  refine own_go (U' := T10.setTop (mkF m 21 (lc16 a1 q2 q2 1 1) [(.int 0)])) (fun t k => oaloadN X0 hx hby d6_0 rfl rfl (olloadN X0 hx hby d6_1 rfl (st3 _ (olstore X3 hx hby d6_5 (lc14 a1 q2 q2) rfl (oaloadN X3 hx hby d6_7 rfl rfl (st10 _ (oistore X10 hx hby d6_11 (lc15 a1 q2 q2 1) rfl (oiconst X10 hx hby d6_13 (oistore X10 hx hby d6_14 (lc16 a1 q2 q2 1 1) rfl (oiload X10 hx hby d6_16 rfl (oiload X10 hx hby d6_18 rfl (oisub X10 hx hby d6_20 k)))))))))))) ?_
  obtain ⟨T13, X13, e13, st13⟩ := getF X10 hx hZ hown (host := "") (Or.inl (ww hw 17 rfl)) Via.refl e10 F12 (g := (mkF m 25 (lc16 a1 q2 q2 1 1) [(.ref a1)])) rfl rfl (hb hby d6_25)
  obtain ⟨cl17, Ar17, q17, S17, N17, H17, G17⟩ := id F16
  have hin18 : ¬ ((0 : Int32) < 0 ∨ cl17.slots.size ≤ ((0 : Int32)).toNatClampNeg) := inb_of S17 ⟨by decide, by decide⟩
  have hat18 : cl17.slots[((0 : Int32)).toNatClampNeg]? = some (.long q14) := Has.at H17 hin18 rfl
  refine own_go (U' := T13.setTop (mkF m 37 (lc16 a1 q2 q2 1 1) [(.int (lcmpW q14 q2))])) (fun t k => oifN X10 hx hby d6_21 (by decide) (oaloadN X10 hx hby d6_24 rfl rfl (st13 _ (oiload X13 hx hby d6_28 rfl (oiload X13 hx hby d6_30 rfl (oisub X13 hx hby d6_32 (X13.laload hx (j := (0 : Int32)) (v := (.long q14)) (by rw [e13]; exact Ar17.1) (State.isArrayOf_alike hZ.alike Ar17.2.1) Ar17.2.2 hin18 hat18 (g := (mkF m 33 (lc16 a1 q2 q2 1 1) [(.int 0), (.ref a11)])) rfl rfl (hb hby d6_33) _ (olload X13 hx hby d6_34 rfl (olcmp X13 hx hby d6_36 k))))))))) ?_
  obtain ⟨_, T20, L20, X20, hQ20, st20⟩ := ocallS X13 hx hZ zm4 hown (ww hw 49 rfl) (ww hw 50 rfl) (by decide) (ww hw 52 rfl) (ww hw 51 rfl) e13 (rm8_15 l Z a0 hw []  h0 n0 Z0 ) (st := [(.int 1), (.int 0)]) rfl 0 rfl (by decide) (pc := 64) (Ls := (lc16 a1 q2 q2 1 1)) hml rfl (lenOf pd_4 rfl) d6_64 hby
  obtain ⟨rfl, N20q, e20⟩ := hQ20
  have N21 := Fr.app N8 N20q
  refine own_go (U' := T20.setTop (mkF m 79 (lc19 a1 q2 q2 1 1 1 0) [(.int 1), (.int 0)])) (fun t k => oifY (pc := 37) X13 hx hby d6_37 56 (own_ll_lt_t hc19) (by decide) (oiconst X13 hx hby d6_56 (oiload X13 hx hby d6_57 rfl (oiload X13 hx hby d6_59 rfl (oisub X13 hx hby d6_61 (oiconst X13 hx hby d6_62 (oiadd X13 hx hby d6_63 (st20 _ (oistore X20 hx hby d6_67 (lc18 a1 q2 q2 1 1 1) rfl (oiload X20 hx hby d6_69 rfl (oiload X20 hx hby d6_71 rfl (oisub X20 hx hby d6_73 (oistore X20 hx hby d6_74 (lc19 a1 q2 q2 1 1 1 0) rfl (oiload X20 hx hby d6_76 rfl (oiconst X20 hx hby d6_78 k))))))))))))))) ?_
  refine own_go (U' := T20.setTop (mkF m 132 (lc19 a1 q2 q2 1 1 1 0) [(.int 1), (.int 1)])) (fun t k => oicY (pc := 79) X20 hx hby d6_79 128 (by decide) (by decide) (oiload X20 hx hby d6_128 rfl (oiload X20 hx hby d6_130 rfl k))) ?_
  refine own_go (U' := T20.setTop (mkF m 157 (lc19 a1 q2 q2 1 1 1 0) [(.int (lcmpW q2 (-9223372036854775808 : Int64)))])) (fun t k => oicY (pc := 132) X20 hx hby d6_132 151 (by decide) (by decide) (olload X20 hx hby d6_151 rfl (X20.ldc2Long hx hown (mvT hZ (ww hw 53 rfl)) (g := (mkF m 153 (lc19 a1 q2 q2 1 1 1 0) [(.long q2)])) rfl (hb hby d6_153) _ (olcmp X20 hx hby d6_156 k)))) ?_
  refine own_go (U' := T20.setTop (mkF m 166 (lc19 a1 q2 q2 1 1 1 0) [(.int (lcmpW q2 (9223372036854775807 : Int64)))])) (fun t k => oifN X20 hx hby d6_157 (own_ll_eq_f hc22) (olload X20 hx hby d6_160 rfl (X20.ldc2Long hx hown (mvT hZ (ww hw 54 rfl)) (g := (mkF m 162 (lc19 a1 q2 q2 1 1 1 0) [(.long q2)])) rfl (hb hby d6_162) _ (olcmp X20 hx hby d6_165 k)))) ?_
  refine own_go (U' := T20.setTop (mkF m 178 (lc19 a1 q2 q2 1 1 1 0) [(.int 0)])) (fun t k => oifY (pc := 166) X20 hx hby d6_166 173 (own_ll_eq_t hc23) (by decide) (oiconst X20 hx hby d6_173 (oistore X20 hx hby d6_174 (lc19 a1 q2 q2 1 1 1 0) rfl (oiload X20 hx hby d6_176 rfl k)))) ?_
  obtain ⟨T24, X24, e24, st24⟩ := getF X20 hx hZ hown (host := "") (Or.inl (ww hw 26 rfl)) Via.refl e20 F9 (g := (mkF m 184 (lc19 a1 q2 q2 1 1 1 0) [(.ref a1), (.int 1)])) rfl rfl (hb hby d6_184)
  refine own_go (U' := T24.setTop (mkF m 187 (lc19 a1 q2 q2 1 1 1 0) [(.int 1), (.int 1)])) (fun t k => oifN X20 hx hby d6_178 (by decide) (oiload X20 hx hby d6_181 rfl (oaloadN X20 hx hby d6_183 rfl rfl (st24 _ k)))) ?_
  obtain ⟨T25, X25, e25, st25⟩ := getF X24 hx hZ hown (host := "") (Or.inl (ww hw 26 rfl)) Via.refl e24 F9 (g := (mkF m 230 (lc19 a1 q2 q2 1 1 1 0) [(.ref a1), (.int 1)])) rfl rfl (hb hby d6_230)
  refine own_go (U' := T25.setTop (mkF m 233 (lc19 a1 q2 q2 1 1 1 0) [(.int 1), (.int 1)])) (fun t k => oicY (pc := 187) X24 hx hby d6_187 227 (by decide) (by decide) (oiload X24 hx hby d6_227 rfl (oaloadN X24 hx hby d6_229 rfl rfl (st25 _ k)))) ?_
  refine own_go (U' := T25.setTop (mkF m 280 (lc20 a1 q2 q2 1 1 1 0 0) [(.int 0)])) (fun t k => oicY (pc := 233) X25 hx hby d6_233 275 (by decide) (by decide) (oiconst X25 hx hby d6_275 (oistore X25 hx hby d6_276 (lc20 a1 q2 q2 1 1 1 0 0) rfl (oiload X25 hx hby d6_278 rfl k)))) ?_
  refine own_go (U' := T25.setTop (mkF m 292 (lc20 a1 q2 q2 1 1 1 0 0) [(.int ((-1 : Int32) - (1 : Int32)))])) (fun t k => oifY (pc := 280) X25 hx hby d6_280 288 (by decide) (by decide) (oiconst X25 hx hby d6_288 (oiload X25 hx hby d6_289 rfl (oisub X25 hx hby d6_291 k)))) ?_
  rw [show ((-1 : Int32) - (1 : Int32)) = (-2 : Int32) from by decide]
  obtain ⟨fs, hr, hrun, hended, hW, hsame⟩ := X25.leave (v := some (.int (-2))) (fun h => by rw [Bd.returns] at h; cases h)
  refine own_out ⟨_, _, ?_, hrun, hended, _, _, rfl, ?_, ⟨_, rfl⟩, hW, hsame.mono (by decide) (by decide)⟩
  · exact retI X25 hx Bd.returns (hb hby d6_292) hr
  · show Q6_40 Z a1 q2 a4 a11 q14 kc15 h0 n0 _ T25.heap _
    rw [e25]
    exact ⟨rfl, N21, rfl⟩
def Q6_41 (Z : State) (a1 : Addr) (q2 : Int64) (a4 : Addr) (a11 : Addr) (q14 : Int64) (kc15 : ClassId) (h0 : Heap) (n0 : Nat) (v : Option Value) (h : Heap) (L : List Loc) : Prop := v = some (.int (-2)) ∧ Fr n0 L ∧ h = h0
set_option maxRecDepth 65536 in
set_option maxHeartbeats 40000000 in
theorem rm6_41 (l : Launch) (Z : State) (a0 : Array Value) (hw : ∀ d ∈ tables_1, d.before a0 Z = true) (ws : List Jvm.Cond) (a1 : Addr) (q2 : Int64) (a4 : Addr) (a11 : Addr) (q14 : Int64) (kc15 : ClassId) (h0 : Heap) (n0 : Nat) (Z0 : n0 ≤ h0.size) (F5 : Fld Z h0 a1 zs1 "side" zs3 (.ref a4)) (F6 : Sta Z h0 zs5 "BUY" zs3 (.ref a4)) (F7 : Exa Z h0 a1 zs1) (F9 : Fld Z h0 a1 zs1 "count" "I" (.int 1)) (F12 : Fld Z h0 a1 zs1 "ranks" "[J" (.ref a11)) (F16 : Arv Z h0 a11 kc15 .long (16 : Int32) [(.long q14)] (.long (0 : Int64))) (hc19 : q14 < q2) (hc22 : ¬ (q2 = (-9223372036854775808 : Int64))) (hc23 : ¬ (q2 = (9223372036854775807 : Int64))) :
    MetFree l zm5 (head1 (Jvm.Cond.code zm5 prog_2_method_8_code 11 (some .int) :: ws) ({ frames := 1, cells := 0, slots := 0, locals := 14 } : Room)) (fun a U => a = #[(.ref a1), (.long q2), .null] ∧ Z.Warmed39 U.vm ∧ U.heap = h0) (fun _ _ _ _ _ => True) (fun _ U o U' => ∃ v L, o = .returned v ∧ Q6_41 Z a1 q2 a4 a11 q14 kc15 h0 n0 v U'.heap L ∧ FrameEnd U o U' L ({ frames := 1, cells := 0, slots := 0, locals := 14 } : Room).cells ({ frames := 1, cells := 0, slots := 0, locals := 14 } : Room).slots) := by
  refine MetFree.of_bodySF (plainFor_of_name pn_com_example_srok_srok_engine_BookSide) hisR ?_
  intro p e s m args below meth c s₁ Bd hml0 hP hK
  obtain ⟨rfl, hZ, hh⟩ := hP
  have hx := Bd.exec
  have hby := Bd.bytes
  have hml : c.maxLocals = 11 := hml0
  have hown : s.vm.findClass zs1 = some m.cls := findClass_of_methodNamed Bd.named
  have hnm := (name_of_methodNamed Bd.named Bd.method).1
  have X0 : Stand p l e ({ frames := 1, cells := 0, slots := 0, locals := 14 } : Room) s m #[(.ref a1), (.long q2), .null] below meth c s₁ [] 0 0 := Stand.of_body Bd
  have e0 : s₁.heap = h0 := by rw [← hh, Bd.state]; rfl
  have N0 := Fr.nil n0
  refine own_pre (g' := mkF m 0 (lc12 a1 q2) []) (ef_5 m a1 q2) ?_
  obtain ⟨_, T3, L3, X3, hQ3, st3⟩ := ocallP X0 hx hZ zm3 hown (ww hw 42 rfl) (ww hw 43 rfl) (own_selP (mvT hZ (ww hw 4 rfl)) (mvP hZ (ww hw 44 rfl)) (mvT hZ (ww hw 43 rfl)) (by decide)) (ww hw 44 rfl) (by decide) (ww hw 45 rfl) (ww hw 5 rfl) e0 F7 (rm7_32 l Z a0 hw [] a1 q2 a4 h0 n0 Z0 F5 F6) (st := [(.long q2), (.ref a1)]) rfl 0 rfl (by decide) (pc := 2) (Ls := (lc12 a1 q2)) hml rfl (lenOf pd_3 rfl) d6_2 hby
  obtain ⟨rfl, N3q, e3⟩ := hQ3
  have N8 := Fr.app N0 N3q
  obtain ⟨T10, X10, e10, st10⟩ := getF X3 hx hZ hown (host := "") (Or.inl (ww hw 26 rfl)) Via.refl e3 F9 (g := (mkF m 8 (lc14 a1 q2 q2) [(.ref a1)])) rfl rfl (hb hby d6_8)
  refine own_go (U' := T10.setTop (mkF m 21 (lc16 a1 q2 q2 1 1) [(.int 0)])) (fun t k => oaloadN X0 hx hby d6_0 rfl rfl (olloadN X0 hx hby d6_1 rfl (st3 _ (olstore X3 hx hby d6_5 (lc14 a1 q2 q2) rfl (oaloadN X3 hx hby d6_7 rfl rfl (st10 _ (oistore X10 hx hby d6_11 (lc15 a1 q2 q2 1) rfl (oiconst X10 hx hby d6_13 (oistore X10 hx hby d6_14 (lc16 a1 q2 q2 1 1) rfl (oiload X10 hx hby d6_16 rfl (oiload X10 hx hby d6_18 rfl (oisub X10 hx hby d6_20 k)))))))))))) ?_
  obtain ⟨T13, X13, e13, st13⟩ := getF X10 hx hZ hown (host := "") (Or.inl (ww hw 17 rfl)) Via.refl e10 F12 (g := (mkF m 25 (lc16 a1 q2 q2 1 1) [(.ref a1)])) rfl rfl (hb hby d6_25)
  obtain ⟨cl17, Ar17, q17, S17, N17, H17, G17⟩ := id F16
  have hin18 : ¬ ((0 : Int32) < 0 ∨ cl17.slots.size ≤ ((0 : Int32)).toNatClampNeg) := inb_of S17 ⟨by decide, by decide⟩
  have hat18 : cl17.slots[((0 : Int32)).toNatClampNeg]? = some (.long q14) := Has.at H17 hin18 rfl
  refine own_go (U' := T13.setTop (mkF m 37 (lc16 a1 q2 q2 1 1) [(.int (lcmpW q14 q2))])) (fun t k => oifN X10 hx hby d6_21 (by decide) (oaloadN X10 hx hby d6_24 rfl rfl (st13 _ (oiload X13 hx hby d6_28 rfl (oiload X13 hx hby d6_30 rfl (oisub X13 hx hby d6_32 (X13.laload hx (j := (0 : Int32)) (v := (.long q14)) (by rw [e13]; exact Ar17.1) (State.isArrayOf_alike hZ.alike Ar17.2.1) Ar17.2.2 hin18 hat18 (g := (mkF m 33 (lc16 a1 q2 q2 1 1) [(.int 0), (.ref a11)])) rfl rfl (hb hby d6_33) _ (olload X13 hx hby d6_34 rfl (olcmp X13 hx hby d6_36 k))))))))) ?_
  obtain ⟨_, T20, L20, X20, hQ20, st20⟩ := ocallS X13 hx hZ zm4 hown (ww hw 49 rfl) (ww hw 50 rfl) (by decide) (ww hw 52 rfl) (ww hw 51 rfl) e13 (rm8_15 l Z a0 hw []  h0 n0 Z0 ) (st := [(.int 1), (.int 0)]) rfl 0 rfl (by decide) (pc := 64) (Ls := (lc16 a1 q2 q2 1 1)) hml rfl (lenOf pd_4 rfl) d6_64 hby
  obtain ⟨rfl, N20q, e20⟩ := hQ20
  have N21 := Fr.app N8 N20q
  refine own_go (U' := T20.setTop (mkF m 79 (lc19 a1 q2 q2 1 1 1 0) [(.int 1), (.int 0)])) (fun t k => oifY (pc := 37) X13 hx hby d6_37 56 (own_ll_lt_t hc19) (by decide) (oiconst X13 hx hby d6_56 (oiload X13 hx hby d6_57 rfl (oiload X13 hx hby d6_59 rfl (oisub X13 hx hby d6_61 (oiconst X13 hx hby d6_62 (oiadd X13 hx hby d6_63 (st20 _ (oistore X20 hx hby d6_67 (lc18 a1 q2 q2 1 1 1) rfl (oiload X20 hx hby d6_69 rfl (oiload X20 hx hby d6_71 rfl (oisub X20 hx hby d6_73 (oistore X20 hx hby d6_74 (lc19 a1 q2 q2 1 1 1 0) rfl (oiload X20 hx hby d6_76 rfl (oiconst X20 hx hby d6_78 k))))))))))))))) ?_
  refine own_go (U' := T20.setTop (mkF m 132 (lc19 a1 q2 q2 1 1 1 0) [(.int 1), (.int 1)])) (fun t k => oicY (pc := 79) X20 hx hby d6_79 128 (by decide) (by decide) (oiload X20 hx hby d6_128 rfl (oiload X20 hx hby d6_130 rfl k))) ?_
  refine own_go (U' := T20.setTop (mkF m 157 (lc19 a1 q2 q2 1 1 1 0) [(.int (lcmpW q2 (-9223372036854775808 : Int64)))])) (fun t k => oicY (pc := 132) X20 hx hby d6_132 151 (by decide) (by decide) (olload X20 hx hby d6_151 rfl (X20.ldc2Long hx hown (mvT hZ (ww hw 53 rfl)) (g := (mkF m 153 (lc19 a1 q2 q2 1 1 1 0) [(.long q2)])) rfl (hb hby d6_153) _ (olcmp X20 hx hby d6_156 k)))) ?_
  refine own_go (U' := T20.setTop (mkF m 166 (lc19 a1 q2 q2 1 1 1 0) [(.int (lcmpW q2 (9223372036854775807 : Int64)))])) (fun t k => oifN X20 hx hby d6_157 (own_ll_eq_f hc22) (olload X20 hx hby d6_160 rfl (X20.ldc2Long hx hown (mvT hZ (ww hw 54 rfl)) (g := (mkF m 162 (lc19 a1 q2 q2 1 1 1 0) [(.long q2)])) rfl (hb hby d6_162) _ (olcmp X20 hx hby d6_165 k)))) ?_
  refine own_go (U' := T20.setTop (mkF m 178 (lc19 a1 q2 q2 1 1 1 1) [(.int 1)])) (fun t k => oifN X20 hx hby d6_166 (own_ll_eq_f hc23) (oiconst X20 hx hby d6_169 (ogoto (pc := 170) X20 hx hby d6_170 174 (by decide) (oistore X20 hx hby d6_174 (lc19 a1 q2 q2 1 1 1 1) rfl (oiload X20 hx hby d6_176 rfl k))))) ?_
  obtain ⟨T24, X24, e24, st24⟩ := getF X20 hx hZ hown (host := "") (Or.inl (ww hw 26 rfl)) Via.refl e20 F9 (g := (mkF m 230 (lc19 a1 q2 q2 1 1 1 1) [(.ref a1), (.int 1)])) rfl rfl (hb hby d6_230)
  refine own_go (U' := T24.setTop (mkF m 233 (lc19 a1 q2 q2 1 1 1 1) [(.int 1), (.int 1)])) (fun t k => oifY (pc := 178) X20 hx hby d6_178 227 (by decide) (by decide) (oiload X20 hx hby d6_227 rfl (oaloadN X20 hx hby d6_229 rfl rfl (st24 _ k)))) ?_
  refine own_go (U' := T24.setTop (mkF m 280 (lc20 a1 q2 q2 1 1 1 1 0) [(.int 0)])) (fun t k => oicY (pc := 233) X24 hx hby d6_233 275 (by decide) (by decide) (oiconst X24 hx hby d6_275 (oistore X24 hx hby d6_276 (lc20 a1 q2 q2 1 1 1 1 0) rfl (oiload X24 hx hby d6_278 rfl k)))) ?_
  refine own_go (U' := T24.setTop (mkF m 292 (lc20 a1 q2 q2 1 1 1 1 0) [(.int ((-1 : Int32) - (1 : Int32)))])) (fun t k => oifY (pc := 280) X24 hx hby d6_280 288 (by decide) (by decide) (oiconst X24 hx hby d6_288 (oiload X24 hx hby d6_289 rfl (oisub X24 hx hby d6_291 k)))) ?_
  rw [show ((-1 : Int32) - (1 : Int32)) = (-2 : Int32) from by decide]
  obtain ⟨fs, hr, hrun, hended, hW, hsame⟩ := X24.leave (v := some (.int (-2))) (fun h => by rw [Bd.returns] at h; cases h)
  refine own_out ⟨_, _, ?_, hrun, hended, _, _, rfl, ?_, ⟨_, rfl⟩, hW, hsame.mono (by decide) (by decide)⟩
  · exact retI X24 hx Bd.returns (hb hby d6_292) hr
  · show Q6_41 Z a1 q2 a4 a11 q14 kc15 h0 n0 _ T24.heap _
    rw [e24]
    exact ⟨rfl, N21, rfl⟩
def Qmg6_42 (Z : State) (a1 : Addr) (q2 : Int64) (a3 : Addr) (a8 : Addr) (q10 : Int64) (kc11 : ClassId) (h0 : Heap) (n0 : Nat) (v : Option Value) (h : Heap) (L : List Loc) : Prop := v = some (.int (-2)) ∧ Fr n0 L ∧ h = h0
theorem mg6_42 (l : Launch) (Z : State) (a0 : Array Value) (hw : ∀ d ∈ tables_1, d.before a0 Z = true) (ws : List Jvm.Cond) (a1 : Addr) (q2 : Int64) (a3 : Addr) (a8 : Addr) (q10 : Int64) (kc11 : ClassId) (h0 : Heap) (n0 : Nat) (Z0 : n0 ≤ h0.size) (F4 : Fld Z h0 a1 zs1 "side" zs3 (.ref a3)) (F5 : Sta Z h0 zs5 "BUY" zs3 (.ref a3)) (F6 : Exa Z h0 a1 zs1) (F7 : Fld Z h0 a1 zs1 "count" "I" (.int 1)) (F9 : Fld Z h0 a1 zs1 "ranks" "[J" (.ref a8)) (F12 : Arv Z h0 a8 kc11 .long (16 : Int32) [(.long q10)] (.long (0 : Int64))) (hc13 : q10 < q2) (hc14 : ¬ (q2 = (-9223372036854775808 : Int64))) :
    MetFree l zm5 (head1 (Jvm.Cond.code zm5 prog_2_method_8_code 11 (some .int) :: ws) ({ frames := 1, cells := 0, slots := 0, locals := 14 } : Room)) (fun a U => a = #[(.ref a1), (.long q2), .null] ∧ Z.Warmed39 U.vm ∧ U.heap = h0) (fun _ _ _ _ _ => True) (fun _ U o U' => ∃ v L, o = .returned v ∧ Qmg6_42 Z a1 q2 a3 a8 q10 kc11 h0 n0 v U'.heap L ∧ FrameEnd U o U' L ({ frames := 1, cells := 0, slots := 0, locals := 14 } : Room).cells ({ frames := 1, cells := 0, slots := 0, locals := 14 } : Room).slots) := by
  by_cases hm1 : q2 = (9223372036854775807 : Int64)
  · exact rm6_40 l Z a0 hw ws a1 q2 a3 a8 q10 kc11 h0 n0 Z0 F4 F5 F6 F7 F9 F12 hc13 hc14 hm1
  · exact rm6_41 l Z a0 hw ws a1 q2 a3 a8 q10 kc11 h0 n0 Z0 F4 F5 F6 F7 F9 F12 hc13 hc14 hm1
def Q5_43 (Z : State) (a1 : Addr) (q2 : Int64) (a4 : Addr) (a9 : Addr) (q11 : Int64) (kc12 : ClassId) (a18 : Addr) (a21 : Addr) (kc22 : ClassId) (h0 : Heap) (n0 : Nat) (v : Option Value) (h : Heap) (L : List Loc) : Prop := ∃ b45 : Addr, v = some (.ref b45) ∧ Fr n0 L ∧ Keep h0 h [a18, a9, a1] ∧ h0.size ≤ b45 ∧ Arv Z h a18 kc22 (.object zs0) (16 : Int32) [(.ref a21), (.ref b45)] .null ∧ Arv Z h a9 kc12 .long (16 : Int32) [(.long q11), (.long q2)] (.long (0 : Int64)) ∧ Fld Z h a1 zs1 "side" zs3 (.ref a4) ∧ Fld Z h a1 zs1 "count" "I" (.int 2) ∧ Fld Z h a1 zs1 "ranks" "[J" (.ref a9) ∧ Fld Z h a1 zs1 "levels" zs2 (.ref a18) ∧ Fld Z h a1 zs1 "emptyLevels" "I" (.int 0) ∧ Exa Z h b45 zs0 ∧ Fld Z h b45 zs0 "price" zs9 .null ∧ Fld Z h b45 zs0 "priceSteps" "J" (.long q2) ∧ Fld Z h b45 zs0 "first" zs10 .null
set_option maxRecDepth 65536 in
set_option maxHeartbeats 40000000 in
theorem rm5_43 (l : Launch) (Z : State) (a0 : Array Value) (hw : ∀ d ∈ tables_1, d.before a0 Z = true) (ws : List Jvm.Cond) (a1 : Addr) (q2 : Int64) (a4 : Addr) (a9 : Addr) (q11 : Int64) (kc12 : ClassId) (a18 : Addr) (a21 : Addr) (kc22 : ClassId) (h0 : Heap) (n0 : Nat) (Z0 : n0 ≤ h0.size) (F5 : Fld Z h0 a1 zs1 "side" zs3 (.ref a4)) (F6 : Sta Z h0 zs5 "BUY" zs3 (.ref a4)) (F7 : Exa Z h0 a1 zs1) (F8 : Fld Z h0 a1 zs1 "count" "I" (.int 1)) (F10 : Fld Z h0 a1 zs1 "ranks" "[J" (.ref a9)) (F13 : Arv Z h0 a9 kc12 .long (16 : Int32) [(.long q11)] (.long (0 : Int64))) (hc14 : q11 < q2) (hc15 : ¬ (q2 = (-9223372036854775808 : Int64))) (F19 : Fld Z h0 a1 zs1 "levels" zs2 (.ref a18)) (F23 : Arv Z h0 a18 kc22 (.object zs0) (16 : Int32) [(.ref a21)] .null) (g30 : n0 ≤ a18) (O31 : Ovr Z kc22 zs0) (ne33 : a1 ≠ a18) (ne40 : a9 ≠ a18) (g43 : n0 ≤ a9) (ne55 : a1 ≠ a9) (F81 : Fld Z h0 a1 zs1 "emptyLevels" "I" (.int 0)) (g84 : n0 ≤ a1) :
    MetFree l zm7 (head1 (Jvm.Cond.code zm7 prog_2_method_5_code 7 (some (.object zs0)) :: ws) ({ frames := 2, cells := 1, slots := 4, locals := 36 } : Room)) (fun a U => a = #[(.ref a1), (.long q2), .null] ∧ Z.Warmed39 U.vm ∧ U.heap = h0) (fun _ _ _ _ _ => True) (fun _ U o U' => ∃ v L, o = .returned v ∧ Q5_43 Z a1 q2 a4 a9 q11 kc12 a18 a21 kc22 h0 n0 v U'.heap L ∧ FrameEnd U o U' L ({ frames := 2, cells := 1, slots := 4, locals := 36 } : Room).cells ({ frames := 2, cells := 1, slots := 4, locals := 36 } : Room).slots) := by
  refine MetFree.of_bodySF (plainFor_of_name pn_com_example_srok_srok_engine_BookSide) hisR ?_
  intro p e s m args below meth c s₁ Bd hml0 hP hK
  obtain ⟨rfl, hZ, hh⟩ := hP
  have hx := Bd.exec
  have hby := Bd.bytes
  have hml : c.maxLocals = 7 := hml0
  have hown : s.vm.findClass zs1 = some m.cls := findClass_of_methodNamed Bd.named
  have hnm := (name_of_methodNamed Bd.named Bd.method).1
  have X0 : Stand p l e ({ frames := 2, cells := 1, slots := 4, locals := 36 } : Room) s m #[(.ref a1), (.long q2), .null] below meth c s₁ [] 0 0 := Stand.of_body Bd
  have e0 : s₁.heap = h0 := by rw [← hh, Bd.state]; rfl
  have N0 := Fr.nil n0
  refine own_pre (g' := mkF m 0 (lc11 a1 q2) []) (ef_7 m a1 q2) ?_
  obtain ⟨_, T3, L3, X3, hQ3, st3⟩ := ocallP X0 hx hZ zm5 hown (ww hw 38 rfl) (ww hw 39 rfl) (own_selP (mvT hZ (ww hw 4 rfl)) (mvP hZ (ww hw 40 rfl)) (mvT hZ (ww hw 39 rfl)) (by decide)) (ww hw 40 rfl) (by decide) (ww hw 41 rfl) (ww hw 5 rfl) e0 F7 (mg6_42 l Z a0 hw [] a1 q2 a4 a9 q11 kc12 h0 n0 Z0 F5 F6 F7 F8 F10 F13 hc14 hc15) (st := [.null, (.long q2), (.ref a1)]) rfl 0 rfl (by decide) (pc := 3) (Ls := (lc11 a1 q2)) hml rfl (lenOf pd_5 rfl) d5_3 hby
  obtain ⟨rfl, N3q, e3⟩ := hQ3
  have N16 := Fr.app N0 N3q
  refine own_go (U' := T3.setTop (mkF m 10 (lc21 a1 q2 (-2)) [(.int (-2))])) (fun t k => oaloadN X0 hx hby d5_0 rfl rfl (olloadN X0 hx hby d5_1 rfl (oaloadN X0 hx hby d5_2 rfl rfl (st3 _ (oistore X3 hx hby d5_6 (lc21 a1 q2 (-2)) rfl (oiload X3 hx hby d5_8 rfl k)))))) ?_
  refine own_go (U' := T3.setTop (mkF m 47 (lc21 a1 q2 (-2)) [(.int (-(-2 : Int32)))])) (fun t k => oifY (pc := 10) X3 hx hby d5_10 44 (by decide) (by decide) (oiload X3 hx hby d5_44 rfl (oineg X3 hx hby d5_46 k))) ?_
  rw [show (-(-2 : Int32)) = (2 : Int32) from by decide]
  obtain ⟨T17, X17, e17, st17⟩ := getF X3 hx hZ hown (host := "") (Or.inl (ww hw 26 rfl)) Via.refl e3 F8 (g := (mkF m 52 (lc22 a1 q2 (-2) 1) [(.ref a1)])) rfl rfl (hb hby d5_52)
  obtain ⟨T20, X20, e20, st20⟩ := getF X17 hx hZ hown (host := "") (Or.inl (ww hw 14 rfl)) Via.refl e17 F19 (g := (mkF m 56 (lc22 a1 q2 (-2) 1) [(.ref a1), (.int 1)])) rfl rfl (hb hby d5_56)
  refine own_go (U' := T20.setTop (mkF m 59 (lc22 a1 q2 (-2) 1) [(.ref a18), (.int 1)])) (fun t k => oiconst X3 hx hby d5_47 (oisub X3 hx hby d5_48 (oistore X3 hx hby d5_49 (lc22 a1 q2 (-2) 1) rfl (oaloadN X3 hx hby d5_51 rfl rfl (st17 _ (oaloadN X17 hx hby d5_55 rfl rfl (st20 _ k))))))) ?_
  obtain ⟨cl24, Ar24, q24, S24, N24, H24, G24⟩ := id F23
  refine own_go (fun t k => X20.arraylength hx (by rw [e20]; exact Ar24.1) (State.isArrayOf_alike hZ.alike Ar24.2.1) (g := (mkF m 59 (lc22 a1 q2 (-2) 1) [(.ref a18), (.int 1)])) rfl rfl (hb hby d5_59) _ k) ?_
  rw [len_of S24 N24]
  obtain ⟨T25, X25, e25, st25⟩ := getF X20 hx hZ hown (host := "") (Or.inl (ww hw 14 rfl)) Via.refl e20 F19 (g := (mkF m 101 (lc22 a1 q2 (-2) 1) [(.ref a1)])) rfl rfl (hb hby d5_101)
  obtain ⟨T26, X26, e26, st26⟩ := getF X25 hx hZ hown (host := "") (Or.inl (ww hw 14 rfl)) Via.refl e25 F19 (g := (mkF m 107 (lc22 a1 q2 (-2) 1) [(.ref a1), (.int 1), (.ref a18)])) rfl rfl (hb hby d5_107)
  obtain ⟨T27, X27, e27, st27⟩ := getF X26 hx hZ hown (host := "") (Or.inl (ww hw 26 rfl)) Via.refl e26 F8 (g := (mkF m 115 (lc22 a1 q2 (-2) 1) [(.ref a1), (.int 2), (.ref a18), (.int 1), (.ref a18)])) rfl rfl (hb hby d5_115)
  have f29 : Arv Z h0 a18 kc22 (.object zs0) (16 : Int32) [(.ref a21), .null] .null := F23.pad (pad_rep [(.ref a21)] .null 1)
  obtain ⟨cl28, Ar28, q28, -⟩ := id f29
  obtain ⟨T28, h28, L28, X28, e28, N28, K28, V28, st28⟩ := cpA X27 hx hZ hown (ww hw 55 rfl) (ww hw 58 rfl) (ww hw 56 rfl) (ww hw 57 rfl) e27 (us := []) f29 f29 (Or.inr ⟨rfl, rfl, trivial⟩) (by decide) (by decide) (by decide) (by decide) (by decide) rfl (Nat.le_of_ble_eq_true rfl) N16 g30 (g := (mkF m 121 (lc22 a1 q2 (-2) 1) [(.int 0), (.int 2), (.ref a18), (.int 1), (.ref a18)])) rfl (by rw [hml]; rfl) rfl (hb hby d5_121) (by decide) (W := 0) (by show 2 * 0 + _ ≤ _; exact Nat.le_of_eq rfl) (by decide)
  have f32 : Arv Z h28 a18 kc22 (.object zs0) (16 : Int32) [(.ref a21), .null] .null := V28
  have f34 : Fld Z h28 a1 zs1 "ranks" "[J" (.ref a9) := (F10.keep K28 (ninS ne33 nin0))
  obtain ⟨T35, X35, e35, st35⟩ := getF X28 hx hZ hown (host := "") (Or.inl (ww hw 17 rfl)) Via.refl e28 f34 (g := (mkF m 125 (lc22 a1 q2 (-2) 1) [(.ref a1)])) rfl rfl (hb hby d5_125)
  obtain ⟨T36, X36, e36, st36⟩ := getF X35 hx hZ hown (host := "") (Or.inl (ww hw 17 rfl)) Via.refl e35 f34 (g := (mkF m 131 (lc22 a1 q2 (-2) 1) [(.ref a1), (.int 1), (.ref a9)])) rfl rfl (hb hby d5_131)
  have f37 : Fld Z h28 a1 zs1 "count" "I" (.int 1) := (F8.keep K28 (ninS ne33 nin0))
  obtain ⟨T38, X38, e38, st38⟩ := getF X36 hx hZ hown (host := "") (Or.inl (ww hw 26 rfl)) Via.refl e36 f37 (g := (mkF m 139 (lc22 a1 q2 (-2) 1) [(.ref a1), (.int 2), (.ref a9), (.int 1), (.ref a9)])) rfl rfl (hb hby d5_139)
  have f41 : Arv Z h28 a9 kc12 .long (16 : Int32) [(.long q11)] (.long (0 : Int64)) := (F13.keep K28 (ninS ne40 nin0))
  have f42 : Arv Z h28 a9 kc12 .long (16 : Int32) [(.long q11), (.long 0)] (.long (0 : Int64)) := f41.pad (pad_rep [(.long q11)] (.long (0 : Int64)) 1)
  obtain ⟨T39, h39, L39, X39, e39, N39, K39, V39, st39⟩ := cpA X38 hx hZ hown (ww hw 55 rfl) (ww hw 58 rfl) (ww hw 56 rfl) (ww hw 57 rfl) e38 (us := []) f42 f42 (Or.inl ⟨rfl, rfl⟩) (by decide) (by decide) (by decide) (by decide) (by decide) rfl (Nat.le_of_ble_eq_true rfl) N28 g43 (g := (mkF m 145 (lc22 a1 q2 (-2) 1) [(.int 0), (.int 2), (.ref a9), (.int 1), (.ref a9)])) rfl (by rw [hml]; rfl) rfl (hb hby d5_145) (by decide) (W := 0) (by show 2 * 0 + _ ≤ _; exact Nat.le_of_eq rfl) (by decide)
  have f44 : Arv Z h39 a9 kc12 .long (16 : Int32) [(.long q11), (.long 0)] (.long (0 : Int64)) := V39
  obtain ⟨T45, h45, X45, e45, E45, A45, D45, -, st45⟩ := newO X39 hx hZ hown (ww hw 12 rfl) (ww hw 59 rfl) (ww hw 60 rfl) e39 (g := (mkF m 148 (lc22 a1 q2 (-2) 1) [])) rfl (hb hby d5_148) (by decide) (by decide)
  obtain ⟨b45, g45⟩ : ∃ z, z = h39.size := ⟨_, rfl⟩
  rw [← g45] at A45 D45 st45
  have f46 : Fld Z h45 b45 zs0 "price" zs9 .null := D45 (Or.inr (ww hw 66 rfl)) (ty := (.object zs12)) (by decide)
  have f47 : Fld Z h45 b45 zs0 "priceSteps" "J" (.long 0) := D45 (Or.inr (ww hw 68 rfl)) (ty := .long) (by decide)
  have f48 : Fld Z h45 b45 zs0 "first" zs10 .null := D45 (Or.inl (ww hw 83 rfl)) (ty := (.object zs13)) (by decide)
  have Z_1 : n0 ≤ h28.size := Nat.le_trans Z0 K28.1
  have Z_2 : n0 ≤ h39.size := Nat.le_trans Z_1 K39.1
  have g50 : n0 ≤ b45 := Nat.le_trans Z_2 (Nat.le_of_eq g45.symm)
  have Z_3 : n0 ≤ h45.size := Nat.le_trans Z_2 E45.1
  obtain ⟨_, T49, L49, X49, hQ49, st49⟩ := ocallI X45 hx hZ zm6 rfl hown (ww hw 61 rfl) (ww hw 62 rfl) (by decide) (ww hw 63 rfl) (ww hw 60 rfl) e45 (rm9_9 l Z a0 hw [] b45 q2 h45 n0 Z_3 f46 f47 f48 A45 g50) (st := [(.long q2), .null, (.ref b45), (.ref b45)]) rfl 1 rfl (by decide) (pc := 154) (Ls := (lc22 a1 q2 (-2) 1)) hml rfl (lenOf pd_6 rfl) d5_154 hby
  obtain ⟨rfl, N49q, K49, f51, f52, f53⟩ := hQ49
  have N54 := Fr.app N39 N49q
  have ne56 : a1 ≠ b45 := Nat.ne_of_lt (Nat.lt_of_lt_of_le (Nat.lt_of_lt_of_le (Nat.lt_of_lt_of_le (F5.lt) K28.1) K39.1) (Nat.le_of_eq g45.symm))
  have f57 : Fld Z T49.heap a1 zs1 "levels" zs2 (.ref a18) := ((Fld.ext E45 ((F19.keep K28 (ninS ne33 nin0)).keep K39 (ninS ne55 nin0))).keep K49 (ninS ne56 nin0))
  obtain ⟨T58, X58, e58, st58⟩ := getF X49 hx hZ hown (host := "") (Or.inl (ww hw 14 rfl)) Via.refl rfl f57 (g := (mkF m 160 (lc24 a1 q2 (-2) 1 b45) [(.ref a1)])) rfl rfl (hb hby d5_160)
  have ne59 : a18 ≠ b45 := Nat.ne_of_lt (Nat.lt_of_lt_of_le (Nat.lt_of_lt_of_le (f32.lt) K39.1) (Nat.le_of_eq g45.symm))
  have f60 : Arv Z T49.heap a18 kc22 (.object zs0) (16 : Int32) [(.ref a21), .null] .null := (((f32.keep K39 (ninS (Ne.symm ne40) nin0)).ext E45).keep K49 (ninS ne59 nin0))
  have f61 : Exa Z T49.heap b45 zs0 := (A45.keep K49)
  obtain ⟨cl62, Ar62, q62, S62, N62, H62, G62⟩ := id f60
  have hin63 : ¬ ((1 : Int32) < 0 ∨ cl62.slots.size ≤ ((1 : Int32)).toNatClampNeg) := inb_of S62 ⟨by decide, by decide⟩
  obtain ⟨T63, h63, X63, e63, W63, st63⟩ := stR X58 hx hZ e58 Ar62 (j := (1 : Int32)) hin63 rfl (Sto.ofV Ar62 q62 O31 (Ins.self f61)) (g := (mkF m 167 (lc24 a1 q2 (-2) 1 b45) [(.ref b45), (.int 1), (.ref a18)])) rfl rfl (hb hby d5_167)
  have N64 := Fr.snoc X63 N54 g30
  have f65 : Arv Z h63 a18 kc22 (.object zs0) (16 : Int32) [(.ref a21), (.ref b45)] .null := Arv.set Ar62 q62 S62 N62 H62 G62 (by rfl) W63 1 rfl (Nat.le_of_ble_eq_true rfl)
  have f66 : Fld Z h63 a1 zs1 "ranks" "[J" (.ref a9) := (Fld.other W63 ((Fld.ext E45 (f34.keep K39 (ninS ne55 nin0))).keep K49 (ninS ne56 nin0)) (Or.inl ne33))
  obtain ⟨T67, X67, e67, st67⟩ := getF X63 hx hZ hown (host := "") (Or.inl (ww hw 17 rfl)) Via.refl e63 f66 (g := (mkF m 169 (lc24 a1 q2 (-2) 1 b45) [(.ref a1)])) rfl rfl (hb hby d5_169)
  have f69 : Fld Z h63 a1 zs1 "side" zs3 (.ref a4) := (Fld.other W63 ((Fld.ext E45 ((F5.keep K28 (ninS ne33 nin0)).keep K39 (ninS ne55 nin0))).keep K49 (ninS ne56 nin0)) (Or.inl ne33))
  have f70 : Sta Z h63 zs5 "BUY" zs3 (.ref a4) := (Sta.wr W63 (own_staK (Sta.ext E45 (own_staK (own_staK F6 K28 (allS (own_nsV f29) all0)) K39 (allS (own_nsV f42) all0))) K49 (allS (own_nsF f46) all0)))
  have Z_4 : n0 ≤ T49.heap.size := Nat.le_trans Z_3 K49.1
  have Z_5 : n0 ≤ h63.size := Nat.le_trans Z_4 (Keep.of_wr W63).1
  have f71 : Exa Z h63 a1 zs1 := (Exa.wr W63 ((Exa.ext E45 ((F7.keep K28).keep K39)).keep K49))
  obtain ⟨_, T68, L68, X68, hQ68, st68⟩ := ocallP X67 hx hZ zm3 hown (ww hw 42 rfl) (ww hw 43 rfl) (own_selP (mvT hZ (ww hw 4 rfl)) (mvP hZ (ww hw 44 rfl)) (mvT hZ (ww hw 43 rfl)) (by decide)) (ww hw 44 rfl) (by decide) (ww hw 45 rfl) (ww hw 5 rfl) e67 f71 (rm7_32 l Z a0 hw [] a1 q2 a4 h63 n0 Z_5 f69 f70) (st := [(.long q2), (.ref a1), (.int 1), (.ref a9)]) rfl 2 rfl (by decide) (pc := 176) (Ls := (lc24 a1 q2 (-2) 1 b45)) hml rfl (lenOf pd_3 rfl) d5_176 hby
  obtain ⟨rfl, N68q, e68⟩ := hQ68
  have N72 := Fr.app N64 N68q
  have ne73 : a9 ≠ b45 := Nat.ne_of_lt (Nat.lt_of_lt_of_le (f44.lt) (Nat.le_of_eq g45.symm))
  have f74 : Arv Z h63 a9 kc12 .long (16 : Int32) [(.long q11), (.long 0)] (.long (0 : Int64)) := (((f44.ext E45).keep K49 (ninS ne73 nin0)).other W63 ne40)
  obtain ⟨cl75, Ar75, q75, S75, N75, H75, G75⟩ := id f74
  have hin76 : ¬ ((1 : Int32) < 0 ∨ cl75.slots.size ≤ ((1 : Int32)).toNatClampNeg) := inb_of S75 ⟨by decide, by decide⟩
  obtain ⟨T76, h76, X76, e76, W76, st76⟩ := stJ X68 hx hZ e68 Ar75 (j := (1 : Int32)) hin76 (g := (mkF m 179 (lc24 a1 q2 (-2) 1 b45) [(.long q2), (.int 1), (.ref a9)])) rfl rfl (hb hby d5_179)
  have N77 := Fr.snoc X76 N72 g43
  have f78 : Arv Z h76 a9 kc12 .long (16 : Int32) [(.long q11), (.long q2)] (.long (0 : Int64)) := Arv.set Ar75 q75 S75 N75 H75 G75 (by rfl) W76 1 rfl (Nat.le_of_ble_eq_true rfl)
  have f79 : Fld Z h76 a1 zs1 "count" "I" (.int 1) := (Fld.other W76 (Fld.other W63 ((Fld.ext E45 (f37.keep K39 (ninS ne55 nin0))).keep K49 (ninS ne56 nin0)) (Or.inl ne33)) (Or.inl ne55))
  obtain ⟨T80, X80, e80, st80⟩ := getF X76 hx hZ hown (host := "") (Or.inl (ww hw 26 rfl)) Via.refl e76 f79 (g := (mkF m 182 (lc24 a1 q2 (-2) 1 b45) [(.ref a1), (.ref a1)])) rfl rfl (hb hby d5_182)
  have f82 : Exa Z h76 a1 zs1 := (Exa.wr W76 f71)
  obtain ⟨T83, h83, X83, e83, W83, st83⟩ := putF X80 hx hZ hown (host := "") (Or.inl (ww hw 26 rfl)) Via.refl e80 f79 f82 (Or.inl (ww hw 27 rfl)) (ww hw 4 rfl) (ty := .int) (by decide) rfl rfl (g := (mkF m 187 (lc24 a1 q2 (-2) 1 b45) [(.int 2), (.ref a1)])) rfl rfl (hb hby d5_187)
  have N85 := Fr.snoc X83 N77 g84
  have f86 : Fld Z h83 a1 zs1 "count" "I" (.int 2) := Fld.same W83 f79
  refine own_go (U' := T83.setTop (mkF m 192 (lc24 a1 q2 (-2) 1 b45) [(.ref b45)])) (fun t k => oicY (pc := 60) X20 hx hby d5_60 100 (by decide) (by decide) (oaloadN X20 hx hby d5_100 rfl rfl (st25 _ (oiload X25 hx hby d5_104 rfl (oaloadN X25 hx hby d5_106 rfl rfl (st26 _ (oiload X26 hx hby d5_110 rfl (oiconst X26 hx hby d5_112 (oiadd X26 hx hby d5_113 (oaloadN X26 hx hby d5_114 rfl rfl (st27 _ (oiload X27 hx hby d5_118 rfl (oisub X27 hx hby d5_120 (st28 _ (oaloadN X28 hx hby d5_124 rfl rfl (st35 _ (oiload X35 hx hby d5_128 rfl (oaloadN X35 hx hby d5_130 rfl rfl (st36 _ (oiload X36 hx hby d5_134 rfl (oiconst X36 hx hby d5_136 (oiadd X36 hx hby d5_137 (oaloadN X36 hx hby d5_138 rfl rfl (st38 _ (oiload X38 hx hby d5_142 rfl (oisub X38 hx hby d5_144 (st39 _ (st45 _ (odup X45 hx hby d5_151 rfl (oaloadN X45 hx hby d5_152 rfl rfl (olloadN X45 hx hby d5_153 rfl (st49 _ (oastore X49 hx hby d5_157 (lc24 a1 q2 (-2) 1 b45) rfl rfl (oaloadN X49 hx hby d5_159 rfl rfl (st58 _ (oiload X58 hx hby d5_163 rfl (oaload X58 hx hby d5_165 rfl rfl (st63 _ (oaloadN X63 hx hby d5_168 rfl rfl (st67 _ (oiload X67 hx hby d5_172 rfl (oaloadN X67 hx hby d5_174 rfl rfl (olloadN X67 hx hby d5_175 rfl (st68 _ (st76 _ (oaloadN X76 hx hby d5_180 rfl rfl (odup X76 hx hby d5_181 rfl (st80 _ (oiconst X80 hx hby d5_185 (oiadd X80 hx hby d5_186 (st83 _ (oaload X83 hx hby d5_190 rfl rfl k)))))))))))))))))))))))))))))))))))))))))))))))))))) ?_
  have f87 : Arv Z h83 a18 kc22 (.object zs0) (16 : Int32) [(.ref a21), (.ref b45)] .null := ((f65.other W76 (Ne.symm ne40)).other W83 (Ne.symm ne33))
  have f88 : Arv Z h83 a9 kc12 .long (16 : Int32) [(.long q11), (.long q2)] (.long (0 : Int64)) := (f78.other W83 (Ne.symm ne55))
  have f89 : Fld Z h83 a1 zs1 "side" zs3 (.ref a4) := (Fld.other W83 (Fld.other W76 f69 (Or.inl ne55)) (Or.inr (slot_ne (Or.inr (ww hw 20 rfl)) (Or.inl (ww hw 27 rfl)) (by decide) (t := (.object zs5)) (t' := .int) (by decide) (by decide))))
  have f90 : Fld Z h83 a1 zs1 "ranks" "[J" (.ref a9) := (Fld.other W83 (Fld.other W76 f66 (Or.inl ne55)) (Or.inr (slot_ne (Or.inl (ww hw 18 rfl)) (Or.inl (ww hw 27 rfl)) (by decide) (t := (.array .long)) (t' := .int) (by decide) (by decide))))
  have f91 : Fld Z h83 a1 zs1 "levels" zs2 (.ref a18) := (Fld.other W83 (Fld.other W76 (Fld.other W63 f57 (Or.inl ne33)) (Or.inl ne55)) (Or.inr (slot_ne (Or.inl (ww hw 15 rfl)) (Or.inl (ww hw 27 rfl)) (by decide) (t := (.array (.object zs0))) (t' := .int) (by decide) (by decide))))
  have f92 : Fld Z h83 a1 zs1 "emptyLevels" "I" (.int 0) := (Fld.other W83 (Fld.other W76 (Fld.other W63 ((Fld.ext E45 ((F81.keep K28 (ninS ne33 nin0)).keep K39 (ninS ne55 nin0))).keep K49 (ninS ne56 nin0)) (Or.inl ne33)) (Or.inl ne55)) (Or.inr (slot_ne (Or.inl (ww hw 76 rfl)) (Or.inl (ww hw 27 rfl)) (by decide) (t := .int) (t' := .int) (by decide) (by decide))))
  have f93 : Exa Z h83 b45 zs0 := (Exa.wr W83 (Exa.wr W76 (Exa.wr W63 f61)))
  have f94 : Fld Z h83 b45 zs0 "price" zs9 .null := (Fld.other W83 (Fld.other W76 (Fld.other W63 f51 (Or.inl (Ne.symm ne59))) (Or.inl (Ne.symm ne73))) (Or.inl (Ne.symm ne56)))
  have f95 : Fld Z h83 b45 zs0 "priceSteps" "J" (.long q2) := (Fld.other W83 (Fld.other W76 (Fld.other W63 f52 (Or.inl (Ne.symm ne59))) (Or.inl (Ne.symm ne73))) (Or.inl (Ne.symm ne56)))
  have f96 : Fld Z h83 b45 zs0 "first" zs10 .null := (Fld.other W83 (Fld.other W76 (Fld.other W63 f53 (Or.inl (Ne.symm ne59))) (Or.inl (Ne.symm ne73))) (Or.inl (Ne.symm ne56)))
  obtain ⟨fs, hr, hrun, hended, hW, hsame⟩ := X83.leave (v := some (.ref b45)) (fun h => by rw [Bd.returns] at h; cases h)
  refine own_out ⟨_, _, ?_, hrun, hended, _, _, rfl, ?_, ⟨_, rfl⟩, hW, hsame.mono (by decide) (by decide)⟩
  · exact retOut X83 hx Bd.returns rfl (Or.inr (Or.inr (Or.inr (Or.inr ⟨rfl, rfl, rfl⟩)))) (hb hby d5_192) hr
  · show Q5_43 Z a1 q2 a4 a9 q11 kc12 a18 a21 kc22 h0 n0 _ T83.heap _
    rw [e83]
    exact ⟨b45, rfl, N85, ((((Keep.trans ((Keep.trans (Keep.trans (Keep.refl h0 [a18, a9, a1]) K28 (allS (Or.inl (List.mem_of_getElem? (i := 0) rfl)) all0)) K39 (allS (Or.inl (List.mem_of_getElem? (i := 1) rfl)) all0)).ext E45) K49 (allS (Or.inr (Nat.le_trans K28.1 (Nat.le_trans K39.1 (Nat.le_of_eq g45.symm)))) all0)).wr W63 (Or.inl (List.mem_of_getElem? (i := 0) rfl))).wr W76 (Or.inl (List.mem_of_getElem? (i := 1) rfl))).wr W83 (Or.inl (List.mem_of_getElem? (i := 2) rfl))), (Nat.le_trans K28.1 (Nat.le_trans K39.1 (Nat.le_of_eq g45.symm))), f87, f88, f89, f86, f90, f91, f92, f93, f94, f95, f96⟩
def Qmg6_44 (Z : State) (a1 : Addr) (q2 : Int64) (a3 : Addr) (h0 : Heap) (n0 : Nat) (v : Option Value) (h : Heap) (L : List Loc) : Prop := v = some (.int (-1)) ∧ Fr n0 L ∧ h = h0
theorem mg6_44 (l : Launch) (Z : State) (a0 : Array Value) (hw : ∀ d ∈ tables_1, d.before a0 Z = true) (ws : List Jvm.Cond) (a1 : Addr) (q2 : Int64) (a3 : Addr) (h0 : Heap) (n0 : Nat) (Z0 : n0 ≤ h0.size) (F4 : Fld Z h0 a1 zs1 "side" zs3 (.ref a3)) (F5 : Sta Z h0 zs5 "BUY" zs3 (.ref a3)) (F6 : Exa Z h0 a1 zs1) (F7 : Fld Z h0 a1 zs1 "count" "I" (.int 0)) (hc8 : ¬ (q2 = (-9223372036854775808 : Int64))) :
    MetFree l zm5 (head1 (Jvm.Cond.code zm5 prog_2_method_8_code 11 (some .int) :: ws) ({ frames := 1, cells := 0, slots := 0, locals := 14 } : Room)) (fun a U => a = #[(.ref a1), (.long q2), .null] ∧ Z.Warmed39 U.vm ∧ U.heap = h0) (fun _ _ _ _ _ => True) (fun _ U o U' => ∃ v L, o = .returned v ∧ Qmg6_44 Z a1 q2 a3 h0 n0 v U'.heap L ∧ FrameEnd U o U' L ({ frames := 1, cells := 0, slots := 0, locals := 14 } : Room).cells ({ frames := 1, cells := 0, slots := 0, locals := 14 } : Room).slots) := by
  by_cases hm1 : q2 = (9223372036854775807 : Int64)
  · exact rm6_34 l Z a0 hw ws a1 q2 a3 h0 n0 Z0 F4 F5 F6 F7 hc8 hm1
  · exact rm6_35 l Z a0 hw ws a1 q2 a3 h0 n0 Z0 F4 F5 F6 F7 hc8 hm1
def Q5_45 (Z : State) (a1 : Addr) (q2 : Int64) (a4 : Addr) (a12 : Addr) (kc15 : ClassId) (a26 : Addr) (kc35 : ClassId) (h0 : Heap) (n0 : Nat) (v : Option Value) (h : Heap) (L : List Loc) : Prop := ∃ b42 : Addr, v = some (.ref b42) ∧ Fr n0 L ∧ Keep h0 h [a12, a26, a1] ∧ h0.size ≤ b42 ∧ Arv Z h a12 kc15 (.object zs0) (16 : Int32) [(.ref b42)] .null ∧ Arv Z h a26 kc35 .long (16 : Int32) [(.long q2)] (.long (0 : Int64)) ∧ Fld Z h a1 zs1 "side" zs3 (.ref a4) ∧ Fld Z h a1 zs1 "count" "I" (.int 1) ∧ Fld Z h a1 zs1 "levels" zs2 (.ref a12) ∧ Fld Z h a1 zs1 "ranks" "[J" (.ref a26) ∧ Fld Z h a1 zs1 "emptyLevels" "I" (.int 0) ∧ Exa Z h b42 zs0 ∧ Fld Z h b42 zs0 "price" zs9 .null ∧ Fld Z h b42 zs0 "priceSteps" "J" (.long q2) ∧ Fld Z h b42 zs0 "first" zs10 .null
set_option maxRecDepth 65536 in
set_option maxHeartbeats 40000000 in
theorem rm5_45 (l : Launch) (Z : State) (a0 : Array Value) (hw : ∀ d ∈ tables_1, d.before a0 Z = true) (ws : List Jvm.Cond) (a1 : Addr) (q2 : Int64) (a4 : Addr) (a12 : Addr) (kc15 : ClassId) (a26 : Addr) (kc35 : ClassId) (h0 : Heap) (n0 : Nat) (Z0 : n0 ≤ h0.size) (F5 : Fld Z h0 a1 zs1 "side" zs3 (.ref a4)) (F6 : Sta Z h0 zs5 "BUY" zs3 (.ref a4)) (F7 : Exa Z h0 a1 zs1) (F8 : Fld Z h0 a1 zs1 "count" "I" (.int 0)) (hc9 : ¬ (q2 = (-9223372036854775808 : Int64))) (F13 : Fld Z h0 a1 zs1 "levels" zs2 (.ref a12)) (F16 : Arv Z h0 a12 kc15 (.object zs0) (16 : Int32) [] .null) (g23 : n0 ≤ a12) (O24 : Ovr Z kc15 zs0) (F27 : Fld Z h0 a1 zs1 "ranks" "[J" (.ref a26)) (ne28 : a1 ≠ a12) (F36 : Arv Z h0 a26 kc35 .long (16 : Int32) [] (.long (0 : Int64))) (ne37 : a26 ≠ a12) (g40 : n0 ≤ a26) (ne52 : a1 ≠ a26) (F78 : Fld Z h0 a1 zs1 "emptyLevels" "I" (.int 0)) (g81 : n0 ≤ a1) :
    MetFree l zm7 (head1 (Jvm.Cond.code zm7 prog_2_method_5_code 7 (some (.object zs0)) :: ws) ({ frames := 2, cells := 1, slots := 4, locals := 36 } : Room)) (fun a U => a = #[(.ref a1), (.long q2), .null] ∧ Z.Warmed39 U.vm ∧ U.heap = h0) (fun _ _ _ _ _ => True) (fun _ U o U' => ∃ v L, o = .returned v ∧ Q5_45 Z a1 q2 a4 a12 kc15 a26 kc35 h0 n0 v U'.heap L ∧ FrameEnd U o U' L ({ frames := 2, cells := 1, slots := 4, locals := 36 } : Room).cells ({ frames := 2, cells := 1, slots := 4, locals := 36 } : Room).slots) := by
  refine MetFree.of_bodySF (plainFor_of_name pn_com_example_srok_srok_engine_BookSide) hisR ?_
  intro p e s m args below meth c s₁ Bd hml0 hP hK
  obtain ⟨rfl, hZ, hh⟩ := hP
  have hx := Bd.exec
  have hby := Bd.bytes
  have hml : c.maxLocals = 7 := hml0
  have hown : s.vm.findClass zs1 = some m.cls := findClass_of_methodNamed Bd.named
  have hnm := (name_of_methodNamed Bd.named Bd.method).1
  have X0 : Stand p l e ({ frames := 2, cells := 1, slots := 4, locals := 36 } : Room) s m #[(.ref a1), (.long q2), .null] below meth c s₁ [] 0 0 := Stand.of_body Bd
  have e0 : s₁.heap = h0 := by rw [← hh, Bd.state]; rfl
  have N0 := Fr.nil n0
  refine own_pre (g' := mkF m 0 (lc11 a1 q2) []) (ef_7 m a1 q2) ?_
  obtain ⟨_, T3, L3, X3, hQ3, st3⟩ := ocallP X0 hx hZ zm5 hown (ww hw 38 rfl) (ww hw 39 rfl) (own_selP (mvT hZ (ww hw 4 rfl)) (mvP hZ (ww hw 40 rfl)) (mvT hZ (ww hw 39 rfl)) (by decide)) (ww hw 40 rfl) (by decide) (ww hw 41 rfl) (ww hw 5 rfl) e0 F7 (mg6_44 l Z a0 hw [] a1 q2 a4 h0 n0 Z0 F5 F6 F7 F8 hc9) (st := [.null, (.long q2), (.ref a1)]) rfl 0 rfl (by decide) (pc := 3) (Ls := (lc11 a1 q2)) hml rfl (lenOf pd_5 rfl) d5_3 hby
  obtain ⟨rfl, N3q, e3⟩ := hQ3
  have N10 := Fr.app N0 N3q
  refine own_go (U' := T3.setTop (mkF m 10 (lc21 a1 q2 (-1)) [(.int (-1))])) (fun t k => oaloadN X0 hx hby d5_0 rfl rfl (olloadN X0 hx hby d5_1 rfl (oaloadN X0 hx hby d5_2 rfl rfl (st3 _ (oistore X3 hx hby d5_6 (lc21 a1 q2 (-1)) rfl (oiload X3 hx hby d5_8 rfl k)))))) ?_
  refine own_go (U' := T3.setTop (mkF m 47 (lc21 a1 q2 (-1)) [(.int (-(-1 : Int32)))])) (fun t k => oifY (pc := 10) X3 hx hby d5_10 44 (by decide) (by decide) (oiload X3 hx hby d5_44 rfl (oineg X3 hx hby d5_46 k))) ?_
  rw [show (-(-1 : Int32)) = (1 : Int32) from by decide]
  obtain ⟨T11, X11, e11, st11⟩ := getF X3 hx hZ hown (host := "") (Or.inl (ww hw 26 rfl)) Via.refl e3 F8 (g := (mkF m 52 (lc22 a1 q2 (-1) 0) [(.ref a1)])) rfl rfl (hb hby d5_52)
  obtain ⟨T14, X14, e14, st14⟩ := getF X11 hx hZ hown (host := "") (Or.inl (ww hw 14 rfl)) Via.refl e11 F13 (g := (mkF m 56 (lc22 a1 q2 (-1) 0) [(.ref a1), (.int 0)])) rfl rfl (hb hby d5_56)
  refine own_go (U' := T14.setTop (mkF m 59 (lc22 a1 q2 (-1) 0) [(.ref a12), (.int 0)])) (fun t k => oiconst X3 hx hby d5_47 (oisub X3 hx hby d5_48 (oistore X3 hx hby d5_49 (lc22 a1 q2 (-1) 0) rfl (oaloadN X3 hx hby d5_51 rfl rfl (st11 _ (oaloadN X11 hx hby d5_55 rfl rfl (st14 _ k))))))) ?_
  obtain ⟨cl17, Ar17, q17, S17, N17, H17, G17⟩ := id F16
  refine own_go (fun t k => X14.arraylength hx (by rw [e14]; exact Ar17.1) (State.isArrayOf_alike hZ.alike Ar17.2.1) (g := (mkF m 59 (lc22 a1 q2 (-1) 0) [(.ref a12), (.int 0)])) rfl rfl (hb hby d5_59) _ k) ?_
  rw [len_of S17 N17]
  obtain ⟨T18, X18, e18, st18⟩ := getF X14 hx hZ hown (host := "") (Or.inl (ww hw 14 rfl)) Via.refl e14 F13 (g := (mkF m 101 (lc22 a1 q2 (-1) 0) [(.ref a1)])) rfl rfl (hb hby d5_101)
  obtain ⟨T19, X19, e19, st19⟩ := getF X18 hx hZ hown (host := "") (Or.inl (ww hw 14 rfl)) Via.refl e18 F13 (g := (mkF m 107 (lc22 a1 q2 (-1) 0) [(.ref a1), (.int 0), (.ref a12)])) rfl rfl (hb hby d5_107)
  obtain ⟨T20, X20, e20, st20⟩ := getF X19 hx hZ hown (host := "") (Or.inl (ww hw 26 rfl)) Via.refl e19 F8 (g := (mkF m 115 (lc22 a1 q2 (-1) 0) [(.ref a1), (.int 1), (.ref a12), (.int 0), (.ref a12)])) rfl rfl (hb hby d5_115)
  have f22 : Arv Z h0 a12 kc15 (.object zs0) (16 : Int32) [.null] .null := F16.pad (pad_rep [] .null 1)
  obtain ⟨cl21, Ar21, q21, -⟩ := id f22
  obtain ⟨T21, h21, L21, X21, e21, N21, K21, V21, st21⟩ := cpA X20 hx hZ hown (ww hw 55 rfl) (ww hw 58 rfl) (ww hw 56 rfl) (ww hw 57 rfl) e20 (us := []) f22 f22 (Or.inr ⟨rfl, rfl, trivial⟩) (by decide) (by decide) (by decide) (by decide) (by decide) rfl (Nat.le_of_ble_eq_true rfl) N10 g23 (g := (mkF m 121 (lc22 a1 q2 (-1) 0) [(.int 0), (.int 1), (.ref a12), (.int 0), (.ref a12)])) rfl (by rw [hml]; rfl) rfl (hb hby d5_121) (by decide) (W := 0) (by show 2 * 0 + _ ≤ _; exact Nat.le_of_eq rfl) (by decide)
  have f25 : Arv Z h21 a12 kc15 (.object zs0) (16 : Int32) [.null] .null := V21
  have f29 : Fld Z h21 a1 zs1 "ranks" "[J" (.ref a26) := (F27.keep K21 (ninS ne28 nin0))
  obtain ⟨T30, X30, e30, st30⟩ := getF X21 hx hZ hown (host := "") (Or.inl (ww hw 17 rfl)) Via.refl e21 f29 (g := (mkF m 125 (lc22 a1 q2 (-1) 0) [(.ref a1)])) rfl rfl (hb hby d5_125)
  obtain ⟨T31, X31, e31, st31⟩ := getF X30 hx hZ hown (host := "") (Or.inl (ww hw 17 rfl)) Via.refl e30 f29 (g := (mkF m 131 (lc22 a1 q2 (-1) 0) [(.ref a1), (.int 0), (.ref a26)])) rfl rfl (hb hby d5_131)
  have f32 : Fld Z h21 a1 zs1 "count" "I" (.int 0) := (F8.keep K21 (ninS ne28 nin0))
  obtain ⟨T33, X33, e33, st33⟩ := getF X31 hx hZ hown (host := "") (Or.inl (ww hw 26 rfl)) Via.refl e31 f32 (g := (mkF m 139 (lc22 a1 q2 (-1) 0) [(.ref a1), (.int 1), (.ref a26), (.int 0), (.ref a26)])) rfl rfl (hb hby d5_139)
  have f38 : Arv Z h21 a26 kc35 .long (16 : Int32) [] (.long (0 : Int64)) := (F36.keep K21 (ninS ne37 nin0))
  have f39 : Arv Z h21 a26 kc35 .long (16 : Int32) [(.long 0)] (.long (0 : Int64)) := f38.pad (pad_rep [] (.long (0 : Int64)) 1)
  obtain ⟨T34, h34, L34, X34, e34, N34, K34, V34, st34⟩ := cpA X33 hx hZ hown (ww hw 55 rfl) (ww hw 58 rfl) (ww hw 56 rfl) (ww hw 57 rfl) e33 (us := []) f39 f39 (Or.inl ⟨rfl, rfl⟩) (by decide) (by decide) (by decide) (by decide) (by decide) rfl (Nat.le_of_ble_eq_true rfl) N21 g40 (g := (mkF m 145 (lc22 a1 q2 (-1) 0) [(.int 0), (.int 1), (.ref a26), (.int 0), (.ref a26)])) rfl (by rw [hml]; rfl) rfl (hb hby d5_145) (by decide) (W := 0) (by show 2 * 0 + _ ≤ _; exact Nat.le_of_eq rfl) (by decide)
  have f41 : Arv Z h34 a26 kc35 .long (16 : Int32) [(.long 0)] (.long (0 : Int64)) := V34
  obtain ⟨T42, h42, X42, e42, E42, A42, D42, -, st42⟩ := newO X34 hx hZ hown (ww hw 12 rfl) (ww hw 59 rfl) (ww hw 60 rfl) e34 (g := (mkF m 148 (lc22 a1 q2 (-1) 0) [])) rfl (hb hby d5_148) (by decide) (by decide)
  obtain ⟨b42, g42⟩ : ∃ z, z = h34.size := ⟨_, rfl⟩
  rw [← g42] at A42 D42 st42
  have f43 : Fld Z h42 b42 zs0 "price" zs9 .null := D42 (Or.inr (ww hw 66 rfl)) (ty := (.object zs12)) (by decide)
  have f44 : Fld Z h42 b42 zs0 "priceSteps" "J" (.long 0) := D42 (Or.inr (ww hw 68 rfl)) (ty := .long) (by decide)
  have f45 : Fld Z h42 b42 zs0 "first" zs10 .null := D42 (Or.inl (ww hw 83 rfl)) (ty := (.object zs13)) (by decide)
  have Z_1 : n0 ≤ h21.size := Nat.le_trans Z0 K21.1
  have Z_2 : n0 ≤ h34.size := Nat.le_trans Z_1 K34.1
  have g47 : n0 ≤ b42 := Nat.le_trans Z_2 (Nat.le_of_eq g42.symm)
  have Z_3 : n0 ≤ h42.size := Nat.le_trans Z_2 E42.1
  obtain ⟨_, T46, L46, X46, hQ46, st46⟩ := ocallI X42 hx hZ zm6 rfl hown (ww hw 61 rfl) (ww hw 62 rfl) (by decide) (ww hw 63 rfl) (ww hw 60 rfl) e42 (rm9_9 l Z a0 hw [] b42 q2 h42 n0 Z_3 f43 f44 f45 A42 g47) (st := [(.long q2), .null, (.ref b42), (.ref b42)]) rfl 1 rfl (by decide) (pc := 154) (Ls := (lc22 a1 q2 (-1) 0)) hml rfl (lenOf pd_6 rfl) d5_154 hby
  obtain ⟨rfl, N46q, K46, f48, f49, f50⟩ := hQ46
  have N51 := Fr.app N34 N46q
  have ne53 : a1 ≠ b42 := Nat.ne_of_lt (Nat.lt_of_lt_of_le (Nat.lt_of_lt_of_le (Nat.lt_of_lt_of_le (F5.lt) K21.1) K34.1) (Nat.le_of_eq g42.symm))
  have f54 : Fld Z T46.heap a1 zs1 "levels" zs2 (.ref a12) := ((Fld.ext E42 ((F13.keep K21 (ninS ne28 nin0)).keep K34 (ninS ne52 nin0))).keep K46 (ninS ne53 nin0))
  obtain ⟨T55, X55, e55, st55⟩ := getF X46 hx hZ hown (host := "") (Or.inl (ww hw 14 rfl)) Via.refl rfl f54 (g := (mkF m 160 (lc24 a1 q2 (-1) 0 b42) [(.ref a1)])) rfl rfl (hb hby d5_160)
  have ne56 : a12 ≠ b42 := Nat.ne_of_lt (Nat.lt_of_lt_of_le (Nat.lt_of_lt_of_le (f25.lt) K34.1) (Nat.le_of_eq g42.symm))
  have f57 : Arv Z T46.heap a12 kc15 (.object zs0) (16 : Int32) [.null] .null := (((f25.keep K34 (ninS (Ne.symm ne37) nin0)).ext E42).keep K46 (ninS ne56 nin0))
  have f58 : Exa Z T46.heap b42 zs0 := (A42.keep K46)
  obtain ⟨cl59, Ar59, q59, S59, N59, H59, G59⟩ := id f57
  have hin60 : ¬ ((0 : Int32) < 0 ∨ cl59.slots.size ≤ ((0 : Int32)).toNatClampNeg) := inb_of S59 ⟨by decide, by decide⟩
  obtain ⟨T60, h60, X60, e60, W60, st60⟩ := stR X55 hx hZ e55 Ar59 (j := (0 : Int32)) hin60 rfl (Sto.ofV Ar59 q59 O24 (Ins.self f58)) (g := (mkF m 167 (lc24 a1 q2 (-1) 0 b42) [(.ref b42), (.int 0), (.ref a12)])) rfl rfl (hb hby d5_167)
  have N61 := Fr.snoc X60 N51 g23
  have f62 : Arv Z h60 a12 kc15 (.object zs0) (16 : Int32) [(.ref b42)] .null := Arv.set Ar59 q59 S59 N59 H59 G59 (by rfl) W60 0 rfl (Nat.le_of_ble_eq_true rfl)
  have f63 : Fld Z h60 a1 zs1 "ranks" "[J" (.ref a26) := (Fld.other W60 ((Fld.ext E42 (f29.keep K34 (ninS ne52 nin0))).keep K46 (ninS ne53 nin0)) (Or.inl ne28))
  obtain ⟨T64, X64, e64, st64⟩ := getF X60 hx hZ hown (host := "") (Or.inl (ww hw 17 rfl)) Via.refl e60 f63 (g := (mkF m 169 (lc24 a1 q2 (-1) 0 b42) [(.ref a1)])) rfl rfl (hb hby d5_169)
  have f66 : Fld Z h60 a1 zs1 "side" zs3 (.ref a4) := (Fld.other W60 ((Fld.ext E42 ((F5.keep K21 (ninS ne28 nin0)).keep K34 (ninS ne52 nin0))).keep K46 (ninS ne53 nin0)) (Or.inl ne28))
  have f67 : Sta Z h60 zs5 "BUY" zs3 (.ref a4) := (Sta.wr W60 (own_staK (Sta.ext E42 (own_staK (own_staK F6 K21 (allS (own_nsV f22) all0)) K34 (allS (own_nsV f39) all0))) K46 (allS (own_nsF f43) all0)))
  have Z_4 : n0 ≤ T46.heap.size := Nat.le_trans Z_3 K46.1
  have Z_5 : n0 ≤ h60.size := Nat.le_trans Z_4 (Keep.of_wr W60).1
  have f68 : Exa Z h60 a1 zs1 := (Exa.wr W60 ((Exa.ext E42 ((F7.keep K21).keep K34)).keep K46))
  obtain ⟨_, T65, L65, X65, hQ65, st65⟩ := ocallP X64 hx hZ zm3 hown (ww hw 42 rfl) (ww hw 43 rfl) (own_selP (mvT hZ (ww hw 4 rfl)) (mvP hZ (ww hw 44 rfl)) (mvT hZ (ww hw 43 rfl)) (by decide)) (ww hw 44 rfl) (by decide) (ww hw 45 rfl) (ww hw 5 rfl) e64 f68 (rm7_32 l Z a0 hw [] a1 q2 a4 h60 n0 Z_5 f66 f67) (st := [(.long q2), (.ref a1), (.int 0), (.ref a26)]) rfl 2 rfl (by decide) (pc := 176) (Ls := (lc24 a1 q2 (-1) 0 b42)) hml rfl (lenOf pd_3 rfl) d5_176 hby
  obtain ⟨rfl, N65q, e65⟩ := hQ65
  have N69 := Fr.app N61 N65q
  have ne70 : a26 ≠ b42 := Nat.ne_of_lt (Nat.lt_of_lt_of_le (f41.lt) (Nat.le_of_eq g42.symm))
  have f71 : Arv Z h60 a26 kc35 .long (16 : Int32) [(.long 0)] (.long (0 : Int64)) := (((f41.ext E42).keep K46 (ninS ne70 nin0)).other W60 ne37)
  obtain ⟨cl72, Ar72, q72, S72, N72, H72, G72⟩ := id f71
  have hin73 : ¬ ((0 : Int32) < 0 ∨ cl72.slots.size ≤ ((0 : Int32)).toNatClampNeg) := inb_of S72 ⟨by decide, by decide⟩
  obtain ⟨T73, h73, X73, e73, W73, st73⟩ := stJ X65 hx hZ e65 Ar72 (j := (0 : Int32)) hin73 (g := (mkF m 179 (lc24 a1 q2 (-1) 0 b42) [(.long q2), (.int 0), (.ref a26)])) rfl rfl (hb hby d5_179)
  have N74 := Fr.snoc X73 N69 g40
  have f75 : Arv Z h73 a26 kc35 .long (16 : Int32) [(.long q2)] (.long (0 : Int64)) := Arv.set Ar72 q72 S72 N72 H72 G72 (by rfl) W73 0 rfl (Nat.le_of_ble_eq_true rfl)
  have f76 : Fld Z h73 a1 zs1 "count" "I" (.int 0) := (Fld.other W73 (Fld.other W60 ((Fld.ext E42 (f32.keep K34 (ninS ne52 nin0))).keep K46 (ninS ne53 nin0)) (Or.inl ne28)) (Or.inl ne52))
  obtain ⟨T77, X77, e77, st77⟩ := getF X73 hx hZ hown (host := "") (Or.inl (ww hw 26 rfl)) Via.refl e73 f76 (g := (mkF m 182 (lc24 a1 q2 (-1) 0 b42) [(.ref a1), (.ref a1)])) rfl rfl (hb hby d5_182)
  have f79 : Exa Z h73 a1 zs1 := (Exa.wr W73 f68)
  obtain ⟨T80, h80, X80, e80, W80, st80⟩ := putF X77 hx hZ hown (host := "") (Or.inl (ww hw 26 rfl)) Via.refl e77 f76 f79 (Or.inl (ww hw 27 rfl)) (ww hw 4 rfl) (ty := .int) (by decide) rfl rfl (g := (mkF m 187 (lc24 a1 q2 (-1) 0 b42) [(.int 1), (.ref a1)])) rfl rfl (hb hby d5_187)
  have N82 := Fr.snoc X80 N74 g81
  have f83 : Fld Z h80 a1 zs1 "count" "I" (.int 1) := Fld.same W80 f76
  refine own_go (U' := T80.setTop (mkF m 192 (lc24 a1 q2 (-1) 0 b42) [(.ref b42)])) (fun t k => oicY (pc := 60) X14 hx hby d5_60 100 (by decide) (by decide) (oaloadN X14 hx hby d5_100 rfl rfl (st18 _ (oiload X18 hx hby d5_104 rfl (oaloadN X18 hx hby d5_106 rfl rfl (st19 _ (oiload X19 hx hby d5_110 rfl (oiconst X19 hx hby d5_112 (oiadd X19 hx hby d5_113 (oaloadN X19 hx hby d5_114 rfl rfl (st20 _ (oiload X20 hx hby d5_118 rfl (oisub X20 hx hby d5_120 (st21 _ (oaloadN X21 hx hby d5_124 rfl rfl (st30 _ (oiload X30 hx hby d5_128 rfl (oaloadN X30 hx hby d5_130 rfl rfl (st31 _ (oiload X31 hx hby d5_134 rfl (oiconst X31 hx hby d5_136 (oiadd X31 hx hby d5_137 (oaloadN X31 hx hby d5_138 rfl rfl (st33 _ (oiload X33 hx hby d5_142 rfl (oisub X33 hx hby d5_144 (st34 _ (st42 _ (odup X42 hx hby d5_151 rfl (oaloadN X42 hx hby d5_152 rfl rfl (olloadN X42 hx hby d5_153 rfl (st46 _ (oastore X46 hx hby d5_157 (lc24 a1 q2 (-1) 0 b42) rfl rfl (oaloadN X46 hx hby d5_159 rfl rfl (st55 _ (oiload X55 hx hby d5_163 rfl (oaload X55 hx hby d5_165 rfl rfl (st60 _ (oaloadN X60 hx hby d5_168 rfl rfl (st64 _ (oiload X64 hx hby d5_172 rfl (oaloadN X64 hx hby d5_174 rfl rfl (olloadN X64 hx hby d5_175 rfl (st65 _ (st73 _ (oaloadN X73 hx hby d5_180 rfl rfl (odup X73 hx hby d5_181 rfl (st77 _ (oiconst X77 hx hby d5_185 (oiadd X77 hx hby d5_186 (st80 _ (oaload X80 hx hby d5_190 rfl rfl k)))))))))))))))))))))))))))))))))))))))))))))))))))) ?_
  have f84 : Arv Z h80 a12 kc15 (.object zs0) (16 : Int32) [(.ref b42)] .null := ((f62.other W73 (Ne.symm ne37)).other W80 (Ne.symm ne28))
  have f85 : Arv Z h80 a26 kc35 .long (16 : Int32) [(.long q2)] (.long (0 : Int64)) := (f75.other W80 (Ne.symm ne52))
  have f86 : Fld Z h80 a1 zs1 "side" zs3 (.ref a4) := (Fld.other W80 (Fld.other W73 f66 (Or.inl ne52)) (Or.inr (slot_ne (Or.inr (ww hw 20 rfl)) (Or.inl (ww hw 27 rfl)) (by decide) (t := (.object zs5)) (t' := .int) (by decide) (by decide))))
  have f87 : Fld Z h80 a1 zs1 "levels" zs2 (.ref a12) := (Fld.other W80 (Fld.other W73 (Fld.other W60 f54 (Or.inl ne28)) (Or.inl ne52)) (Or.inr (slot_ne (Or.inl (ww hw 15 rfl)) (Or.inl (ww hw 27 rfl)) (by decide) (t := (.array (.object zs0))) (t' := .int) (by decide) (by decide))))
  have f88 : Fld Z h80 a1 zs1 "ranks" "[J" (.ref a26) := (Fld.other W80 (Fld.other W73 f63 (Or.inl ne52)) (Or.inr (slot_ne (Or.inl (ww hw 18 rfl)) (Or.inl (ww hw 27 rfl)) (by decide) (t := (.array .long)) (t' := .int) (by decide) (by decide))))
  have f89 : Fld Z h80 a1 zs1 "emptyLevels" "I" (.int 0) := (Fld.other W80 (Fld.other W73 (Fld.other W60 ((Fld.ext E42 ((F78.keep K21 (ninS ne28 nin0)).keep K34 (ninS ne52 nin0))).keep K46 (ninS ne53 nin0)) (Or.inl ne28)) (Or.inl ne52)) (Or.inr (slot_ne (Or.inl (ww hw 76 rfl)) (Or.inl (ww hw 27 rfl)) (by decide) (t := .int) (t' := .int) (by decide) (by decide))))
  have f90 : Exa Z h80 b42 zs0 := (Exa.wr W80 (Exa.wr W73 (Exa.wr W60 f58)))
  have f91 : Fld Z h80 b42 zs0 "price" zs9 .null := (Fld.other W80 (Fld.other W73 (Fld.other W60 f48 (Or.inl (Ne.symm ne56))) (Or.inl (Ne.symm ne70))) (Or.inl (Ne.symm ne53)))
  have f92 : Fld Z h80 b42 zs0 "priceSteps" "J" (.long q2) := (Fld.other W80 (Fld.other W73 (Fld.other W60 f49 (Or.inl (Ne.symm ne56))) (Or.inl (Ne.symm ne70))) (Or.inl (Ne.symm ne53)))
  have f93 : Fld Z h80 b42 zs0 "first" zs10 .null := (Fld.other W80 (Fld.other W73 (Fld.other W60 f50 (Or.inl (Ne.symm ne56))) (Or.inl (Ne.symm ne70))) (Or.inl (Ne.symm ne53)))
  obtain ⟨fs, hr, hrun, hended, hW, hsame⟩ := X80.leave (v := some (.ref b42)) (fun h => by rw [Bd.returns] at h; cases h)
  refine own_out ⟨_, _, ?_, hrun, hended, _, _, rfl, ?_, ⟨_, rfl⟩, hW, hsame.mono (by decide) (by decide)⟩
  · exact retOut X80 hx Bd.returns rfl (Or.inr (Or.inr (Or.inr (Or.inr ⟨rfl, rfl, rfl⟩)))) (hb hby d5_192) hr
  · show Q5_45 Z a1 q2 a4 a12 kc15 a26 kc35 h0 n0 _ T80.heap _
    rw [e80]
    exact ⟨b42, rfl, N82, ((((Keep.trans ((Keep.trans (Keep.trans (Keep.refl h0 [a12, a26, a1]) K21 (allS (Or.inl (List.mem_of_getElem? (i := 0) rfl)) all0)) K34 (allS (Or.inl (List.mem_of_getElem? (i := 1) rfl)) all0)).ext E42) K46 (allS (Or.inr (Nat.le_trans K21.1 (Nat.le_trans K34.1 (Nat.le_of_eq g42.symm)))) all0)).wr W60 (Or.inl (List.mem_of_getElem? (i := 0) rfl))).wr W73 (Or.inl (List.mem_of_getElem? (i := 1) rfl))).wr W80 (Or.inl (List.mem_of_getElem? (i := 2) rfl))), (Nat.le_trans K21.1 (Nat.le_trans K34.1 (Nat.le_of_eq g42.symm))), f84, f85, f86, f83, f87, f88, f89, f90, f91, f92, f93⟩
def Q6_46 (Z : State) (a1 : Addr) (q2 : Int64) (a4 : Addr) (a11 : Addr) (q14 : Int64) (kc15 : ClassId) (h0 : Heap) (n0 : Nat) (v : Option Value) (h : Heap) (L : List Loc) : Prop := v = some (.int (-1)) ∧ Fr n0 L ∧ h = h0
set_option maxRecDepth 65536 in
set_option maxHeartbeats 40000000 in
theorem rm6_46 (l : Launch) (Z : State) (a0 : Array Value) (hw : ∀ d ∈ tables_1, d.before a0 Z = true) (ws : List Jvm.Cond) (a1 : Addr) (q2 : Int64) (a4 : Addr) (a11 : Addr) (q14 : Int64) (kc15 : ClassId) (h0 : Heap) (n0 : Nat) (Z0 : n0 ≤ h0.size) (F5 : Fld Z h0 a1 zs1 "side" zs3 (.ref a4)) (F6 : Sta Z h0 zs5 "BUY" zs3 (.ref a4)) (F7 : Exa Z h0 a1 zs1) (F9 : Fld Z h0 a1 zs1 "count" "I" (.int 1)) (F12 : Fld Z h0 a1 zs1 "ranks" "[J" (.ref a11)) (F16 : Arv Z h0 a11 kc15 .long (16 : Int32) [(.long q14)] (.long (0 : Int64))) (hc19 : ¬ (q14 < q2)) (hc22 : q2 = (-9223372036854775808 : Int64)) (hc27 : ¬ (q14 = q2)) :
    MetFree l zm5 (head1 (Jvm.Cond.code zm5 prog_2_method_8_code 11 (some .int) :: ws) ({ frames := 1, cells := 0, slots := 0, locals := 14 } : Room)) (fun a U => a = #[(.ref a1), (.long q2), .null] ∧ Z.Warmed39 U.vm ∧ U.heap = h0) (fun _ _ _ _ _ => True) (fun _ U o U' => ∃ v L, o = .returned v ∧ Q6_46 Z a1 q2 a4 a11 q14 kc15 h0 n0 v U'.heap L ∧ FrameEnd U o U' L ({ frames := 1, cells := 0, slots := 0, locals := 14 } : Room).cells ({ frames := 1, cells := 0, slots := 0, locals := 14 } : Room).slots) := by
  refine MetFree.of_bodySF (plainFor_of_name pn_com_example_srok_srok_engine_BookSide) hisR ?_
  intro p e s m args below meth c s₁ Bd hml0 hP hK
  obtain ⟨rfl, hZ, hh⟩ := hP
  have hx := Bd.exec
  have hby := Bd.bytes
  have hml : c.maxLocals = 11 := hml0
  have hown : s.vm.findClass zs1 = some m.cls := findClass_of_methodNamed Bd.named
  have hnm := (name_of_methodNamed Bd.named Bd.method).1
  have X0 : Stand p l e ({ frames := 1, cells := 0, slots := 0, locals := 14 } : Room) s m #[(.ref a1), (.long q2), .null] below meth c s₁ [] 0 0 := Stand.of_body Bd
  have e0 : s₁.heap = h0 := by rw [← hh, Bd.state]; rfl
  have N0 := Fr.nil n0
  refine own_pre (g' := mkF m 0 (lc12 a1 q2) []) (ef_5 m a1 q2) ?_
  obtain ⟨_, T3, L3, X3, hQ3, st3⟩ := ocallP X0 hx hZ zm3 hown (ww hw 42 rfl) (ww hw 43 rfl) (own_selP (mvT hZ (ww hw 4 rfl)) (mvP hZ (ww hw 44 rfl)) (mvT hZ (ww hw 43 rfl)) (by decide)) (ww hw 44 rfl) (by decide) (ww hw 45 rfl) (ww hw 5 rfl) e0 F7 (rm7_32 l Z a0 hw [] a1 q2 a4 h0 n0 Z0 F5 F6) (st := [(.long q2), (.ref a1)]) rfl 0 rfl (by decide) (pc := 2) (Ls := (lc12 a1 q2)) hml rfl (lenOf pd_3 rfl) d6_2 hby
  obtain ⟨rfl, N3q, e3⟩ := hQ3
  have N8 := Fr.app N0 N3q
  obtain ⟨T10, X10, e10, st10⟩ := getF X3 hx hZ hown (host := "") (Or.inl (ww hw 26 rfl)) Via.refl e3 F9 (g := (mkF m 8 (lc14 a1 q2 q2) [(.ref a1)])) rfl rfl (hb hby d6_8)
  refine own_go (U' := T10.setTop (mkF m 21 (lc16 a1 q2 q2 1 1) [(.int 0)])) (fun t k => oaloadN X0 hx hby d6_0 rfl rfl (olloadN X0 hx hby d6_1 rfl (st3 _ (olstore X3 hx hby d6_5 (lc14 a1 q2 q2) rfl (oaloadN X3 hx hby d6_7 rfl rfl (st10 _ (oistore X10 hx hby d6_11 (lc15 a1 q2 q2 1) rfl (oiconst X10 hx hby d6_13 (oistore X10 hx hby d6_14 (lc16 a1 q2 q2 1 1) rfl (oiload X10 hx hby d6_16 rfl (oiload X10 hx hby d6_18 rfl (oisub X10 hx hby d6_20 k)))))))))))) ?_
  obtain ⟨T13, X13, e13, st13⟩ := getF X10 hx hZ hown (host := "") (Or.inl (ww hw 17 rfl)) Via.refl e10 F12 (g := (mkF m 25 (lc16 a1 q2 q2 1 1) [(.ref a1)])) rfl rfl (hb hby d6_25)
  obtain ⟨cl17, Ar17, q17, S17, N17, H17, G17⟩ := id F16
  have hin18 : ¬ ((0 : Int32) < 0 ∨ cl17.slots.size ≤ ((0 : Int32)).toNatClampNeg) := inb_of S17 ⟨by decide, by decide⟩
  have hat18 : cl17.slots[((0 : Int32)).toNatClampNeg]? = some (.long q14) := Has.at H17 hin18 rfl
  refine own_go (U' := T13.setTop (mkF m 37 (lc16 a1 q2 q2 1 1) [(.int (lcmpW q14 q2))])) (fun t k => oifN X10 hx hby d6_21 (by decide) (oaloadN X10 hx hby d6_24 rfl rfl (st13 _ (oiload X13 hx hby d6_28 rfl (oiload X13 hx hby d6_30 rfl (oisub X13 hx hby d6_32 (X13.laload hx (j := (0 : Int32)) (v := (.long q14)) (by rw [e13]; exact Ar17.1) (State.isArrayOf_alike hZ.alike Ar17.2.1) Ar17.2.2 hin18 hat18 (g := (mkF m 33 (lc16 a1 q2 q2 1 1) [(.int 0), (.ref a11)])) rfl rfl (hb hby d6_33) _ (olload X13 hx hby d6_34 rfl (olcmp X13 hx hby d6_36 k))))))))) ?_
  refine own_go (U' := T13.setTop (mkF m 16 (lc16 a1 q2 q2 0 2) [])) (fun t k => oifN X13 hx hby d6_37 (own_ll_lt_f hc19) (oiload X13 hx hby d6_40 rfl (oiload X13 hx hby d6_42 rfl (oisub X13 hx hby d6_44 (oistore X13 hx hby d6_45 (lc16 a1 q2 q2 0 1) rfl (oiload X13 hx hby d6_47 rfl (oiconst X13 hx hby d6_49 (oimul X13 hx hby d6_50 (oistore X13 hx hby d6_51 (lc16 a1 q2 q2 0 2) rfl (ogoto (pc := 53) X13 hx hby d6_53 16 (by decide) k)))))))))) ?_
  refine own_go (U' := T13.setTop (mkF m 21 (lc16 a1 q2 q2 0 2) [(.int ((0 : Int32) - (2 : Int32)))])) (fun t k => oiload X13 hx hby d6_16 rfl (oiload X13 hx hby d6_18 rfl (oisub X13 hx hby d6_20 k))) ?_
  rw [show ((0 : Int32) - (2 : Int32)) = (-2 : Int32) from by decide]
  refine own_go (U' := T13.setTop (mkF m 62 (lc16 a1 q2 q2 0 2) [(.int ((0 : Int32) - (2 : Int32))), (.int 0)])) (fun t k => oifY (pc := 21) X13 hx hby d6_21 56 (by decide) (by decide) (oiconst X13 hx hby d6_56 (oiload X13 hx hby d6_57 rfl (oiload X13 hx hby d6_59 rfl (oisub X13 hx hby d6_61 k))))) ?_
  rw [show ((0 : Int32) - (2 : Int32)) = (-2 : Int32) from by decide]
  refine own_go (U' := T13.setTop (mkF m 64 (lc16 a1 q2 q2 0 2) [(.int ((-2 : Int32) + (1 : Int32))), (.int 0)])) (fun t k => oiconst X13 hx hby d6_62 (oiadd X13 hx hby d6_63 k)) ?_
  rw [show ((-2 : Int32) + (1 : Int32)) = (-1 : Int32) from by decide]
  obtain ⟨_, T20, L20, X20, hQ20, st20⟩ := ocallS X13 hx hZ zm4 hown (ww hw 49 rfl) (ww hw 50 rfl) (by decide) (ww hw 52 rfl) (ww hw 51 rfl) e13 (rm8_16 l Z a0 hw []  h0 n0 Z0 ) (st := [(.int (-1)), (.int 0)]) rfl 0 rfl (by decide) (pc := 64) (Ls := (lc16 a1 q2 q2 0 2)) hml rfl (lenOf pd_4 rfl) d6_64 hby
  obtain ⟨rfl, N20q, e20⟩ := hQ20
  have N21 := Fr.app N8 N20q
  refine own_go (U' := T20.setTop (mkF m 79 (lc19 a1 q2 q2 0 2 0 0) [(.int 1), (.int 0)])) (fun t k => st20 _ (oistore X20 hx hby d6_67 (lc18 a1 q2 q2 0 2 0) rfl (oiload X20 hx hby d6_69 rfl (oiload X20 hx hby d6_71 rfl (oisub X20 hx hby d6_73 (oistore X20 hx hby d6_74 (lc19 a1 q2 q2 0 2 0 0) rfl (oiload X20 hx hby d6_76 rfl (oiconst X20 hx hby d6_78 k)))))))) ?_
  refine own_go (U' := T20.setTop (mkF m 132 (lc19 a1 q2 q2 0 2 0 0) [(.int 0), (.int 0)])) (fun t k => oicY (pc := 79) X20 hx hby d6_79 128 (by decide) (by decide) (oiload X20 hx hby d6_128 rfl (oiload X20 hx hby d6_130 rfl k))) ?_
  refine own_go (U' := T20.setTop (mkF m 157 (lc19 a1 q2 q2 0 2 0 0) [(.int (lcmpW q2 (-9223372036854775808 : Int64)))])) (fun t k => oicY (pc := 132) X20 hx hby d6_132 151 (by decide) (by decide) (olload X20 hx hby d6_151 rfl (X20.ldc2Long hx hown (mvT hZ (ww hw 53 rfl)) (g := (mkF m 153 (lc19 a1 q2 q2 0 2 0 0) [(.long q2)])) rfl (hb hby d6_153) _ (olcmp X20 hx hby d6_156 k)))) ?_
  refine own_go (U' := T20.setTop (mkF m 178 (lc19 a1 q2 q2 0 2 0 0) [(.int 0)])) (fun t k => oifY (pc := 157) X20 hx hby d6_157 173 (own_ll_eq_t hc22) (by decide) (oiconst X20 hx hby d6_173 (oistore X20 hx hby d6_174 (lc19 a1 q2 q2 0 2 0 0) rfl (oiload X20 hx hby d6_176 rfl k)))) ?_
  obtain ⟨T23, X23, e23, st23⟩ := getF X20 hx hZ hown (host := "") (Or.inl (ww hw 26 rfl)) Via.refl e20 F9 (g := (mkF m 184 (lc19 a1 q2 q2 0 2 0 0) [(.ref a1), (.int 0)])) rfl rfl (hb hby d6_184)
  refine own_go (U' := T23.setTop (mkF m 187 (lc19 a1 q2 q2 0 2 0 0) [(.int 1), (.int 0)])) (fun t k => oifN X20 hx hby d6_178 (by decide) (oiload X20 hx hby d6_181 rfl (oaloadN X20 hx hby d6_183 rfl rfl (st23 _ k)))) ?_
  obtain ⟨T24, X24, e24, st24⟩ := getF X23 hx hZ hown (host := "") (Or.inl (ww hw 17 rfl)) Via.refl e23 F12 (g := (mkF m 191 (lc19 a1 q2 q2 0 2 0 0) [(.ref a1)])) rfl rfl (hb hby d6_191)
  obtain ⟨cl25, Ar25, q25, S25, N25, H25, G25⟩ := id F16
  have hin26 : ¬ ((0 : Int32) < 0 ∨ cl25.slots.size ≤ ((0 : Int32)).toNatClampNeg) := inb_of S25 ⟨by decide, by decide⟩
  have hat26 : cl25.slots[((0 : Int32)).toNatClampNeg]? = some (.long q14) := Has.at H25 hin26 rfl
  refine own_go (U' := T24.setTop (mkF m 200 (lc19 a1 q2 q2 0 2 0 0) [(.int (lcmpW q14 q2))])) (fun t k => oicN X23 hx hby d6_187 (by decide) (oaloadN X23 hx hby d6_190 rfl rfl (st24 _ (oiload X24 hx hby d6_194 rfl (X24.laload hx (j := (0 : Int32)) (v := (.long q14)) (by rw [e24]; exact Ar25.1) (State.isArrayOf_alike hZ.alike Ar25.2.1) Ar25.2.2 hin26 hat26 (g := (mkF m 196 (lc19 a1 q2 q2 0 2 0 0) [(.int 0), (.ref a11)])) rfl rfl (hb hby d6_196) _ (olload X24 hx hby d6_197 rfl (olcmp X24 hx hby d6_199 k))))))) ?_
  obtain ⟨T28, X28, e28, st28⟩ := getF X24 hx hZ hown (host := "") (Or.inl (ww hw 26 rfl)) Via.refl e24 F9 (g := (mkF m 230 (lc19 a1 q2 q2 0 2 0 0) [(.ref a1), (.int 0)])) rfl rfl (hb hby d6_230)
  refine own_go (U' := T28.setTop (mkF m 233 (lc19 a1 q2 q2 0 2 0 0) [(.int 1), (.int 0)])) (fun t k => oifY (pc := 200) X24 hx hby d6_200 227 (own_ll_ne_t hc27) (by decide) (oiload X24 hx hby d6_227 rfl (oaloadN X24 hx hby d6_229 rfl rfl (st28 _ k)))) ?_
  obtain ⟨T29, X29, e29, st29⟩ := getF X28 hx hZ hown (host := "") (Or.inl (ww hw 17 rfl)) Via.refl e28 F12 (g := (mkF m 237 (lc19 a1 q2 q2 0 2 0 0) [(.ref a1)])) rfl rfl (hb hby d6_237)
  obtain ⟨cl30, Ar30, q30, S30, N30, H30, G30⟩ := id F16
  have hin31 : ¬ ((0 : Int32) < 0 ∨ cl30.slots.size ≤ ((0 : Int32)).toNatClampNeg) := inb_of S30 ⟨by decide, by decide⟩
  have hat31 : cl30.slots[((0 : Int32)).toNatClampNeg]? = some (.long q14) := Has.at H30 hin31 rfl
  refine own_go (U' := T29.setTop (mkF m 246 (lc19 a1 q2 q2 0 2 0 0) [(.int (lcmpW q14 q2))])) (fun t k => oicN X28 hx hby d6_233 (by decide) (oaloadN X28 hx hby d6_236 rfl rfl (st29 _ (oiload X29 hx hby d6_240 rfl (X29.laload hx (j := (0 : Int32)) (v := (.long q14)) (by rw [e29]; exact Ar30.1) (State.isArrayOf_alike hZ.alike Ar30.2.1) Ar30.2.2 hin31 hat31 (g := (mkF m 242 (lc19 a1 q2 q2 0 2 0 0) [(.int 0), (.ref a11)])) rfl rfl (hb hby d6_242) _ (olload X29 hx hby d6_243 rfl (olcmp X29 hx hby d6_245 k))))))) ?_
  refine own_go (U' := T29.setTop (mkF m 280 (lc20 a1 q2 q2 0 2 0 0 0) [(.int 0)])) (fun t k => oifY (pc := 246) X29 hx hby d6_246 275 (own_ll_ne_t hc27) (by decide) (oiconst X29 hx hby d6_275 (oistore X29 hx hby d6_276 (lc20 a1 q2 q2 0 2 0 0 0) rfl (oiload X29 hx hby d6_278 rfl k)))) ?_
  refine own_go (U' := T29.setTop (mkF m 292 (lc20 a1 q2 q2 0 2 0 0 0) [(.int ((-1 : Int32) - (0 : Int32)))])) (fun t k => oifY (pc := 280) X29 hx hby d6_280 288 (by decide) (by decide) (oiconst X29 hx hby d6_288 (oiload X29 hx hby d6_289 rfl (oisub X29 hx hby d6_291 k)))) ?_
  rw [show ((-1 : Int32) - (0 : Int32)) = (-1 : Int32) from by decide]
  obtain ⟨fs, hr, hrun, hended, hW, hsame⟩ := X29.leave (v := some (.int (-1))) (fun h => by rw [Bd.returns] at h; cases h)
  refine own_out ⟨_, _, ?_, hrun, hended, _, _, rfl, ?_, ⟨_, rfl⟩, hW, hsame.mono (by decide) (by decide)⟩
  · exact retI X29 hx Bd.returns (hb hby d6_292) hr
  · show Q6_46 Z a1 q2 a4 a11 q14 kc15 h0 n0 _ T29.heap _
    rw [e29]
    exact ⟨rfl, N21, rfl⟩
def Q6_47 (Z : State) (a1 : Addr) (q2 : Int64) (a4 : Addr) (a11 : Addr) (q14 : Int64) (kc15 : ClassId) (h0 : Heap) (n0 : Nat) (v : Option Value) (h : Heap) (L : List Loc) : Prop := v = some (.int (-1)) ∧ Fr n0 L ∧ h = h0
set_option maxRecDepth 65536 in
set_option maxHeartbeats 40000000 in
theorem rm6_47 (l : Launch) (Z : State) (a0 : Array Value) (hw : ∀ d ∈ tables_1, d.before a0 Z = true) (ws : List Jvm.Cond) (a1 : Addr) (q2 : Int64) (a4 : Addr) (a11 : Addr) (q14 : Int64) (kc15 : ClassId) (h0 : Heap) (n0 : Nat) (Z0 : n0 ≤ h0.size) (F5 : Fld Z h0 a1 zs1 "side" zs3 (.ref a4)) (F6 : Sta Z h0 zs5 "BUY" zs3 (.ref a4)) (F7 : Exa Z h0 a1 zs1) (F9 : Fld Z h0 a1 zs1 "count" "I" (.int 1)) (F12 : Fld Z h0 a1 zs1 "ranks" "[J" (.ref a11)) (F16 : Arv Z h0 a11 kc15 .long (16 : Int32) [(.long q14)] (.long (0 : Int64))) (hc19 : ¬ (q14 < q2)) (hc22 : ¬ (q2 = (-9223372036854775808 : Int64))) (hc23 : ¬ (q2 = (9223372036854775807 : Int64))) (hc28 : ¬ (q14 = q2)) :
    MetFree l zm5 (head1 (Jvm.Cond.code zm5 prog_2_method_8_code 11 (some .int) :: ws) ({ frames := 1, cells := 0, slots := 0, locals := 14 } : Room)) (fun a U => a = #[(.ref a1), (.long q2), .null] ∧ Z.Warmed39 U.vm ∧ U.heap = h0) (fun _ _ _ _ _ => True) (fun _ U o U' => ∃ v L, o = .returned v ∧ Q6_47 Z a1 q2 a4 a11 q14 kc15 h0 n0 v U'.heap L ∧ FrameEnd U o U' L ({ frames := 1, cells := 0, slots := 0, locals := 14 } : Room).cells ({ frames := 1, cells := 0, slots := 0, locals := 14 } : Room).slots) := by
  refine MetFree.of_bodySF (plainFor_of_name pn_com_example_srok_srok_engine_BookSide) hisR ?_
  intro p e s m args below meth c s₁ Bd hml0 hP hK
  obtain ⟨rfl, hZ, hh⟩ := hP
  have hx := Bd.exec
  have hby := Bd.bytes
  have hml : c.maxLocals = 11 := hml0
  have hown : s.vm.findClass zs1 = some m.cls := findClass_of_methodNamed Bd.named
  have hnm := (name_of_methodNamed Bd.named Bd.method).1
  have X0 : Stand p l e ({ frames := 1, cells := 0, slots := 0, locals := 14 } : Room) s m #[(.ref a1), (.long q2), .null] below meth c s₁ [] 0 0 := Stand.of_body Bd
  have e0 : s₁.heap = h0 := by rw [← hh, Bd.state]; rfl
  have N0 := Fr.nil n0
  refine own_pre (g' := mkF m 0 (lc12 a1 q2) []) (ef_5 m a1 q2) ?_
  obtain ⟨_, T3, L3, X3, hQ3, st3⟩ := ocallP X0 hx hZ zm3 hown (ww hw 42 rfl) (ww hw 43 rfl) (own_selP (mvT hZ (ww hw 4 rfl)) (mvP hZ (ww hw 44 rfl)) (mvT hZ (ww hw 43 rfl)) (by decide)) (ww hw 44 rfl) (by decide) (ww hw 45 rfl) (ww hw 5 rfl) e0 F7 (rm7_32 l Z a0 hw [] a1 q2 a4 h0 n0 Z0 F5 F6) (st := [(.long q2), (.ref a1)]) rfl 0 rfl (by decide) (pc := 2) (Ls := (lc12 a1 q2)) hml rfl (lenOf pd_3 rfl) d6_2 hby
  obtain ⟨rfl, N3q, e3⟩ := hQ3
  have N8 := Fr.app N0 N3q
  obtain ⟨T10, X10, e10, st10⟩ := getF X3 hx hZ hown (host := "") (Or.inl (ww hw 26 rfl)) Via.refl e3 F9 (g := (mkF m 8 (lc14 a1 q2 q2) [(.ref a1)])) rfl rfl (hb hby d6_8)
  refine own_go (U' := T10.setTop (mkF m 21 (lc16 a1 q2 q2 1 1) [(.int 0)])) (fun t k => oaloadN X0 hx hby d6_0 rfl rfl (olloadN X0 hx hby d6_1 rfl (st3 _ (olstore X3 hx hby d6_5 (lc14 a1 q2 q2) rfl (oaloadN X3 hx hby d6_7 rfl rfl (st10 _ (oistore X10 hx hby d6_11 (lc15 a1 q2 q2 1) rfl (oiconst X10 hx hby d6_13 (oistore X10 hx hby d6_14 (lc16 a1 q2 q2 1 1) rfl (oiload X10 hx hby d6_16 rfl (oiload X10 hx hby d6_18 rfl (oisub X10 hx hby d6_20 k)))))))))))) ?_
  obtain ⟨T13, X13, e13, st13⟩ := getF X10 hx hZ hown (host := "") (Or.inl (ww hw 17 rfl)) Via.refl e10 F12 (g := (mkF m 25 (lc16 a1 q2 q2 1 1) [(.ref a1)])) rfl rfl (hb hby d6_25)
  obtain ⟨cl17, Ar17, q17, S17, N17, H17, G17⟩ := id F16
  have hin18 : ¬ ((0 : Int32) < 0 ∨ cl17.slots.size ≤ ((0 : Int32)).toNatClampNeg) := inb_of S17 ⟨by decide, by decide⟩
  have hat18 : cl17.slots[((0 : Int32)).toNatClampNeg]? = some (.long q14) := Has.at H17 hin18 rfl
  refine own_go (U' := T13.setTop (mkF m 37 (lc16 a1 q2 q2 1 1) [(.int (lcmpW q14 q2))])) (fun t k => oifN X10 hx hby d6_21 (by decide) (oaloadN X10 hx hby d6_24 rfl rfl (st13 _ (oiload X13 hx hby d6_28 rfl (oiload X13 hx hby d6_30 rfl (oisub X13 hx hby d6_32 (X13.laload hx (j := (0 : Int32)) (v := (.long q14)) (by rw [e13]; exact Ar17.1) (State.isArrayOf_alike hZ.alike Ar17.2.1) Ar17.2.2 hin18 hat18 (g := (mkF m 33 (lc16 a1 q2 q2 1 1) [(.int 0), (.ref a11)])) rfl rfl (hb hby d6_33) _ (olload X13 hx hby d6_34 rfl (olcmp X13 hx hby d6_36 k))))))))) ?_
  refine own_go (U' := T13.setTop (mkF m 16 (lc16 a1 q2 q2 0 2) [])) (fun t k => oifN X13 hx hby d6_37 (own_ll_lt_f hc19) (oiload X13 hx hby d6_40 rfl (oiload X13 hx hby d6_42 rfl (oisub X13 hx hby d6_44 (oistore X13 hx hby d6_45 (lc16 a1 q2 q2 0 1) rfl (oiload X13 hx hby d6_47 rfl (oiconst X13 hx hby d6_49 (oimul X13 hx hby d6_50 (oistore X13 hx hby d6_51 (lc16 a1 q2 q2 0 2) rfl (ogoto (pc := 53) X13 hx hby d6_53 16 (by decide) k)))))))))) ?_
  refine own_go (U' := T13.setTop (mkF m 21 (lc16 a1 q2 q2 0 2) [(.int ((0 : Int32) - (2 : Int32)))])) (fun t k => oiload X13 hx hby d6_16 rfl (oiload X13 hx hby d6_18 rfl (oisub X13 hx hby d6_20 k))) ?_
  rw [show ((0 : Int32) - (2 : Int32)) = (-2 : Int32) from by decide]
  refine own_go (U' := T13.setTop (mkF m 62 (lc16 a1 q2 q2 0 2) [(.int ((0 : Int32) - (2 : Int32))), (.int 0)])) (fun t k => oifY (pc := 21) X13 hx hby d6_21 56 (by decide) (by decide) (oiconst X13 hx hby d6_56 (oiload X13 hx hby d6_57 rfl (oiload X13 hx hby d6_59 rfl (oisub X13 hx hby d6_61 k))))) ?_
  rw [show ((0 : Int32) - (2 : Int32)) = (-2 : Int32) from by decide]
  refine own_go (U' := T13.setTop (mkF m 64 (lc16 a1 q2 q2 0 2) [(.int ((-2 : Int32) + (1 : Int32))), (.int 0)])) (fun t k => oiconst X13 hx hby d6_62 (oiadd X13 hx hby d6_63 k)) ?_
  rw [show ((-2 : Int32) + (1 : Int32)) = (-1 : Int32) from by decide]
  obtain ⟨_, T20, L20, X20, hQ20, st20⟩ := ocallS X13 hx hZ zm4 hown (ww hw 49 rfl) (ww hw 50 rfl) (by decide) (ww hw 52 rfl) (ww hw 51 rfl) e13 (rm8_16 l Z a0 hw []  h0 n0 Z0 ) (st := [(.int (-1)), (.int 0)]) rfl 0 rfl (by decide) (pc := 64) (Ls := (lc16 a1 q2 q2 0 2)) hml rfl (lenOf pd_4 rfl) d6_64 hby
  obtain ⟨rfl, N20q, e20⟩ := hQ20
  have N21 := Fr.app N8 N20q
  refine own_go (U' := T20.setTop (mkF m 79 (lc19 a1 q2 q2 0 2 0 0) [(.int 1), (.int 0)])) (fun t k => st20 _ (oistore X20 hx hby d6_67 (lc18 a1 q2 q2 0 2 0) rfl (oiload X20 hx hby d6_69 rfl (oiload X20 hx hby d6_71 rfl (oisub X20 hx hby d6_73 (oistore X20 hx hby d6_74 (lc19 a1 q2 q2 0 2 0 0) rfl (oiload X20 hx hby d6_76 rfl (oiconst X20 hx hby d6_78 k)))))))) ?_
  refine own_go (U' := T20.setTop (mkF m 132 (lc19 a1 q2 q2 0 2 0 0) [(.int 0), (.int 0)])) (fun t k => oicY (pc := 79) X20 hx hby d6_79 128 (by decide) (by decide) (oiload X20 hx hby d6_128 rfl (oiload X20 hx hby d6_130 rfl k))) ?_
  refine own_go (U' := T20.setTop (mkF m 157 (lc19 a1 q2 q2 0 2 0 0) [(.int (lcmpW q2 (-9223372036854775808 : Int64)))])) (fun t k => oicY (pc := 132) X20 hx hby d6_132 151 (by decide) (by decide) (olload X20 hx hby d6_151 rfl (X20.ldc2Long hx hown (mvT hZ (ww hw 53 rfl)) (g := (mkF m 153 (lc19 a1 q2 q2 0 2 0 0) [(.long q2)])) rfl (hb hby d6_153) _ (olcmp X20 hx hby d6_156 k)))) ?_
  refine own_go (U' := T20.setTop (mkF m 166 (lc19 a1 q2 q2 0 2 0 0) [(.int (lcmpW q2 (9223372036854775807 : Int64)))])) (fun t k => oifN X20 hx hby d6_157 (own_ll_eq_f hc22) (olload X20 hx hby d6_160 rfl (X20.ldc2Long hx hown (mvT hZ (ww hw 54 rfl)) (g := (mkF m 162 (lc19 a1 q2 q2 0 2 0 0) [(.long q2)])) rfl (hb hby d6_162) _ (olcmp X20 hx hby d6_165 k)))) ?_
  refine own_go (U' := T20.setTop (mkF m 178 (lc19 a1 q2 q2 0 2 0 1) [(.int 1)])) (fun t k => oifN X20 hx hby d6_166 (own_ll_eq_f hc23) (oiconst X20 hx hby d6_169 (ogoto (pc := 170) X20 hx hby d6_170 174 (by decide) (oistore X20 hx hby d6_174 (lc19 a1 q2 q2 0 2 0 1) rfl (oiload X20 hx hby d6_176 rfl k))))) ?_
  obtain ⟨T24, X24, e24, st24⟩ := getF X20 hx hZ hown (host := "") (Or.inl (ww hw 26 rfl)) Via.refl e20 F9 (g := (mkF m 230 (lc19 a1 q2 q2 0 2 0 1) [(.ref a1), (.int 0)])) rfl rfl (hb hby d6_230)
  refine own_go (U' := T24.setTop (mkF m 233 (lc19 a1 q2 q2 0 2 0 1) [(.int 1), (.int 0)])) (fun t k => oifY (pc := 178) X20 hx hby d6_178 227 (by decide) (by decide) (oiload X20 hx hby d6_227 rfl (oaloadN X20 hx hby d6_229 rfl rfl (st24 _ k)))) ?_
  obtain ⟨T25, X25, e25, st25⟩ := getF X24 hx hZ hown (host := "") (Or.inl (ww hw 17 rfl)) Via.refl e24 F12 (g := (mkF m 237 (lc19 a1 q2 q2 0 2 0 1) [(.ref a1)])) rfl rfl (hb hby d6_237)
  obtain ⟨cl26, Ar26, q26, S26, N26, H26, G26⟩ := id F16
  have hin27 : ¬ ((0 : Int32) < 0 ∨ cl26.slots.size ≤ ((0 : Int32)).toNatClampNeg) := inb_of S26 ⟨by decide, by decide⟩
  have hat27 : cl26.slots[((0 : Int32)).toNatClampNeg]? = some (.long q14) := Has.at H26 hin27 rfl
  refine own_go (U' := T25.setTop (mkF m 246 (lc19 a1 q2 q2 0 2 0 1) [(.int (lcmpW q14 q2))])) (fun t k => oicN X24 hx hby d6_233 (by decide) (oaloadN X24 hx hby d6_236 rfl rfl (st25 _ (oiload X25 hx hby d6_240 rfl (X25.laload hx (j := (0 : Int32)) (v := (.long q14)) (by rw [e25]; exact Ar26.1) (State.isArrayOf_alike hZ.alike Ar26.2.1) Ar26.2.2 hin27 hat27 (g := (mkF m 242 (lc19 a1 q2 q2 0 2 0 1) [(.int 0), (.ref a11)])) rfl rfl (hb hby d6_242) _ (olload X25 hx hby d6_243 rfl (olcmp X25 hx hby d6_245 k))))))) ?_
  refine own_go (U' := T25.setTop (mkF m 280 (lc20 a1 q2 q2 0 2 0 1 0) [(.int 0)])) (fun t k => oifY (pc := 246) X25 hx hby d6_246 275 (own_ll_ne_t hc28) (by decide) (oiconst X25 hx hby d6_275 (oistore X25 hx hby d6_276 (lc20 a1 q2 q2 0 2 0 1 0) rfl (oiload X25 hx hby d6_278 rfl k)))) ?_
  refine own_go (U' := T25.setTop (mkF m 292 (lc20 a1 q2 q2 0 2 0 1 0) [(.int ((-1 : Int32) - (0 : Int32)))])) (fun t k => oifY (pc := 280) X25 hx hby d6_280 288 (by decide) (by decide) (oiconst X25 hx hby d6_288 (oiload X25 hx hby d6_289 rfl (oisub X25 hx hby d6_291 k)))) ?_
  rw [show ((-1 : Int32) - (0 : Int32)) = (-1 : Int32) from by decide]
  obtain ⟨fs, hr, hrun, hended, hW, hsame⟩ := X25.leave (v := some (.int (-1))) (fun h => by rw [Bd.returns] at h; cases h)
  refine own_out ⟨_, _, ?_, hrun, hended, _, _, rfl, ?_, ⟨_, rfl⟩, hW, hsame.mono (by decide) (by decide)⟩
  · exact retI X25 hx Bd.returns (hb hby d6_292) hr
  · show Q6_47 Z a1 q2 a4 a11 q14 kc15 h0 n0 _ T25.heap _
    rw [e25]
    exact ⟨rfl, N21, rfl⟩
def Qmg6_48 (Z : State) (a1 : Addr) (q2 : Int64) (a3 : Addr) (a8 : Addr) (q10 : Int64) (kc11 : ClassId) (h0 : Heap) (n0 : Nat) (v : Option Value) (h : Heap) (L : List Loc) : Prop := v = some (.int (-1)) ∧ Fr n0 L ∧ h = h0
theorem mg6_48 (l : Launch) (Z : State) (a0 : Array Value) (hw : ∀ d ∈ tables_1, d.before a0 Z = true) (ws : List Jvm.Cond) (a1 : Addr) (q2 : Int64) (a3 : Addr) (a8 : Addr) (q10 : Int64) (kc11 : ClassId) (h0 : Heap) (n0 : Nat) (Z0 : n0 ≤ h0.size) (F4 : Fld Z h0 a1 zs1 "side" zs3 (.ref a3)) (F5 : Sta Z h0 zs5 "BUY" zs3 (.ref a3)) (F6 : Exa Z h0 a1 zs1) (F7 : Fld Z h0 a1 zs1 "count" "I" (.int 1)) (F9 : Fld Z h0 a1 zs1 "ranks" "[J" (.ref a8)) (F12 : Arv Z h0 a8 kc11 .long (16 : Int32) [(.long q10)] (.long (0 : Int64))) (hc13 : ¬ (q10 < q2)) (hc14 : ¬ (q10 = q2)) (hc15 : ¬ (q2 = (9223372036854775807 : Int64))) :
    MetFree l zm5 (head1 (Jvm.Cond.code zm5 prog_2_method_8_code 11 (some .int) :: ws) ({ frames := 1, cells := 0, slots := 0, locals := 14 } : Room)) (fun a U => a = #[(.ref a1), (.long q2), .null] ∧ Z.Warmed39 U.vm ∧ U.heap = h0) (fun _ _ _ _ _ => True) (fun _ U o U' => ∃ v L, o = .returned v ∧ Qmg6_48 Z a1 q2 a3 a8 q10 kc11 h0 n0 v U'.heap L ∧ FrameEnd U o U' L ({ frames := 1, cells := 0, slots := 0, locals := 14 } : Room).cells ({ frames := 1, cells := 0, slots := 0, locals := 14 } : Room).slots) := by
  by_cases hm1 : q2 = (-9223372036854775808 : Int64)
  · exact rm6_46 l Z a0 hw ws a1 q2 a3 a8 q10 kc11 h0 n0 Z0 F4 F5 F6 F7 F9 F12 hc13 hm1 hc14
  · exact rm6_47 l Z a0 hw ws a1 q2 a3 a8 q10 kc11 h0 n0 Z0 F4 F5 F6 F7 F9 F12 hc13 hm1 hc15 hc14
def Q5_49 (Z : State) (a1 : Addr) (q2 : Int64) (a4 : Addr) (a9 : Addr) (q11 : Int64) (kc12 : ClassId) (a19 : Addr) (a22 : Addr) (kc23 : ClassId) (h0 : Heap) (n0 : Nat) (v : Option Value) (h : Heap) (L : List Loc) : Prop := ∃ b47 : Addr, v = some (.ref b47) ∧ Fr n0 L ∧ Keep h0 h [a19, a9, a1] ∧ h0.size ≤ b47 ∧ Arv Z h a19 kc23 (.object zs0) (16 : Int32) [(.ref b47), (.ref a22)] .null ∧ Arv Z h a9 kc12 .long (16 : Int32) [(.long q2), (.long q11)] (.long (0 : Int64)) ∧ Fld Z h a1 zs1 "side" zs3 (.ref a4) ∧ Fld Z h a1 zs1 "count" "I" (.int 2) ∧ Fld Z h a1 zs1 "ranks" "[J" (.ref a9) ∧ Fld Z h a1 zs1 "levels" zs2 (.ref a19) ∧ Fld Z h a1 zs1 "emptyLevels" "I" (.int 0) ∧ Exa Z h b47 zs0 ∧ Fld Z h b47 zs0 "price" zs9 .null ∧ Fld Z h b47 zs0 "priceSteps" "J" (.long q2) ∧ Fld Z h b47 zs0 "first" zs10 .null
set_option maxRecDepth 65536 in
set_option maxHeartbeats 40000000 in
theorem rm5_49 (l : Launch) (Z : State) (a0 : Array Value) (hw : ∀ d ∈ tables_1, d.before a0 Z = true) (ws : List Jvm.Cond) (a1 : Addr) (q2 : Int64) (a4 : Addr) (a9 : Addr) (q11 : Int64) (kc12 : ClassId) (a19 : Addr) (a22 : Addr) (kc23 : ClassId) (h0 : Heap) (n0 : Nat) (Z0 : n0 ≤ h0.size) (F5 : Fld Z h0 a1 zs1 "side" zs3 (.ref a4)) (F6 : Sta Z h0 zs5 "BUY" zs3 (.ref a4)) (F7 : Exa Z h0 a1 zs1) (F8 : Fld Z h0 a1 zs1 "count" "I" (.int 1)) (F10 : Fld Z h0 a1 zs1 "ranks" "[J" (.ref a9)) (F13 : Arv Z h0 a9 kc12 .long (16 : Int32) [(.long q11)] (.long (0 : Int64))) (hc14 : ¬ (q11 < q2)) (hc15 : ¬ (q11 = q2)) (hc16 : ¬ (q2 = (9223372036854775807 : Int64))) (F20 : Fld Z h0 a1 zs1 "levels" zs2 (.ref a19)) (F24 : Arv Z h0 a19 kc23 (.object zs0) (16 : Int32) [(.ref a22)] .null) (g31 : n0 ≤ a19) (O32 : Ovr Z kc23 zs0) (F33 : Exa Z h0 a22 zs0) (ne35 : a1 ≠ a19) (ne42 : a9 ≠ a19) (g45 : n0 ≤ a9) (ne57 : a1 ≠ a9) (F83 : Fld Z h0 a1 zs1 "emptyLevels" "I" (.int 0)) (g86 : n0 ≤ a1) :
    MetFree l zm7 (head1 (Jvm.Cond.code zm7 prog_2_method_5_code 7 (some (.object zs0)) :: ws) ({ frames := 2, cells := 1, slots := 4, locals := 36 } : Room)) (fun a U => a = #[(.ref a1), (.long q2), .null] ∧ Z.Warmed39 U.vm ∧ U.heap = h0) (fun _ _ _ _ _ => True) (fun _ U o U' => ∃ v L, o = .returned v ∧ Q5_49 Z a1 q2 a4 a9 q11 kc12 a19 a22 kc23 h0 n0 v U'.heap L ∧ FrameEnd U o U' L ({ frames := 2, cells := 1, slots := 4, locals := 36 } : Room).cells ({ frames := 2, cells := 1, slots := 4, locals := 36 } : Room).slots) := by
  refine MetFree.of_bodySF (plainFor_of_name pn_com_example_srok_srok_engine_BookSide) hisR ?_
  intro p e s m args below meth c s₁ Bd hml0 hP hK
  obtain ⟨rfl, hZ, hh⟩ := hP
  have hx := Bd.exec
  have hby := Bd.bytes
  have hml : c.maxLocals = 7 := hml0
  have hown : s.vm.findClass zs1 = some m.cls := findClass_of_methodNamed Bd.named
  have hnm := (name_of_methodNamed Bd.named Bd.method).1
  have X0 : Stand p l e ({ frames := 2, cells := 1, slots := 4, locals := 36 } : Room) s m #[(.ref a1), (.long q2), .null] below meth c s₁ [] 0 0 := Stand.of_body Bd
  have e0 : s₁.heap = h0 := by rw [← hh, Bd.state]; rfl
  have N0 := Fr.nil n0
  refine own_pre (g' := mkF m 0 (lc11 a1 q2) []) (ef_7 m a1 q2) ?_
  obtain ⟨_, T3, L3, X3, hQ3, st3⟩ := ocallP X0 hx hZ zm5 hown (ww hw 38 rfl) (ww hw 39 rfl) (own_selP (mvT hZ (ww hw 4 rfl)) (mvP hZ (ww hw 40 rfl)) (mvT hZ (ww hw 39 rfl)) (by decide)) (ww hw 40 rfl) (by decide) (ww hw 41 rfl) (ww hw 5 rfl) e0 F7 (mg6_48 l Z a0 hw [] a1 q2 a4 a9 q11 kc12 h0 n0 Z0 F5 F6 F7 F8 F10 F13 hc14 hc15 hc16) (st := [.null, (.long q2), (.ref a1)]) rfl 0 rfl (by decide) (pc := 3) (Ls := (lc11 a1 q2)) hml rfl (lenOf pd_5 rfl) d5_3 hby
  obtain ⟨rfl, N3q, e3⟩ := hQ3
  have N17 := Fr.app N0 N3q
  refine own_go (U' := T3.setTop (mkF m 10 (lc21 a1 q2 (-1)) [(.int (-1))])) (fun t k => oaloadN X0 hx hby d5_0 rfl rfl (olloadN X0 hx hby d5_1 rfl (oaloadN X0 hx hby d5_2 rfl rfl (st3 _ (oistore X3 hx hby d5_6 (lc21 a1 q2 (-1)) rfl (oiload X3 hx hby d5_8 rfl k)))))) ?_
  refine own_go (U' := T3.setTop (mkF m 47 (lc21 a1 q2 (-1)) [(.int (-(-1 : Int32)))])) (fun t k => oifY (pc := 10) X3 hx hby d5_10 44 (by decide) (by decide) (oiload X3 hx hby d5_44 rfl (oineg X3 hx hby d5_46 k))) ?_
  rw [show (-(-1 : Int32)) = (1 : Int32) from by decide]
  obtain ⟨T18, X18, e18, st18⟩ := getF X3 hx hZ hown (host := "") (Or.inl (ww hw 26 rfl)) Via.refl e3 F8 (g := (mkF m 52 (lc22 a1 q2 (-1) 0) [(.ref a1)])) rfl rfl (hb hby d5_52)
  obtain ⟨T21, X21, e21, st21⟩ := getF X18 hx hZ hown (host := "") (Or.inl (ww hw 14 rfl)) Via.refl e18 F20 (g := (mkF m 56 (lc22 a1 q2 (-1) 0) [(.ref a1), (.int 1)])) rfl rfl (hb hby d5_56)
  refine own_go (U' := T21.setTop (mkF m 59 (lc22 a1 q2 (-1) 0) [(.ref a19), (.int 1)])) (fun t k => oiconst X3 hx hby d5_47 (oisub X3 hx hby d5_48 (oistore X3 hx hby d5_49 (lc22 a1 q2 (-1) 0) rfl (oaloadN X3 hx hby d5_51 rfl rfl (st18 _ (oaloadN X18 hx hby d5_55 rfl rfl (st21 _ k))))))) ?_
  obtain ⟨cl25, Ar25, q25, S25, N25, H25, G25⟩ := id F24
  refine own_go (fun t k => X21.arraylength hx (by rw [e21]; exact Ar25.1) (State.isArrayOf_alike hZ.alike Ar25.2.1) (g := (mkF m 59 (lc22 a1 q2 (-1) 0) [(.ref a19), (.int 1)])) rfl rfl (hb hby d5_59) _ k) ?_
  rw [len_of S25 N25]
  obtain ⟨T26, X26, e26, st26⟩ := getF X21 hx hZ hown (host := "") (Or.inl (ww hw 14 rfl)) Via.refl e21 F20 (g := (mkF m 101 (lc22 a1 q2 (-1) 0) [(.ref a1)])) rfl rfl (hb hby d5_101)
  obtain ⟨T27, X27, e27, st27⟩ := getF X26 hx hZ hown (host := "") (Or.inl (ww hw 14 rfl)) Via.refl e26 F20 (g := (mkF m 107 (lc22 a1 q2 (-1) 0) [(.ref a1), (.int 0), (.ref a19)])) rfl rfl (hb hby d5_107)
  obtain ⟨T28, X28, e28, st28⟩ := getF X27 hx hZ hown (host := "") (Or.inl (ww hw 26 rfl)) Via.refl e27 F8 (g := (mkF m 115 (lc22 a1 q2 (-1) 0) [(.ref a1), (.int 1), (.ref a19), (.int 0), (.ref a19)])) rfl rfl (hb hby d5_115)
  have f30 : Arv Z h0 a19 kc23 (.object zs0) (16 : Int32) [(.ref a22), .null] .null := F24.pad (pad_rep [(.ref a22)] .null 1)
  obtain ⟨cl29, Ar29, q29, -⟩ := id f30
  obtain ⟨T29, h29, L29, X29, e29, N29, K29, V29, st29⟩ := cpA X28 hx hZ hown (ww hw 55 rfl) (ww hw 58 rfl) (ww hw 56 rfl) (ww hw 57 rfl) e28 (us := [(.ref a22)]) f30 f30 (Or.inr ⟨rfl, rfl, ⟨(Sto.ofV Ar29 q29 O32 (Ins.self F33)), trivial⟩⟩) (by decide) (by decide) (by decide) (by decide) (by decide) rfl (Nat.le_of_ble_eq_true rfl) N17 g31 (g := (mkF m 121 (lc22 a1 q2 (-1) 0) [(.int 1), (.int 1), (.ref a19), (.int 0), (.ref a19)])) rfl (by rw [hml]; rfl) rfl (hb hby d5_121) (by decide) (W := 0) (by show 2 * 0 + _ ≤ _; exact Nat.le_of_eq rfl) (by decide)
  have f34 : Arv Z h29 a19 kc23 (.object zs0) (16 : Int32) [(.ref a22), (.ref a22)] .null := V29
  have f36 : Fld Z h29 a1 zs1 "ranks" "[J" (.ref a9) := (F10.keep K29 (ninS ne35 nin0))
  obtain ⟨T37, X37, e37, st37⟩ := getF X29 hx hZ hown (host := "") (Or.inl (ww hw 17 rfl)) Via.refl e29 f36 (g := (mkF m 125 (lc22 a1 q2 (-1) 0) [(.ref a1)])) rfl rfl (hb hby d5_125)
  obtain ⟨T38, X38, e38, st38⟩ := getF X37 hx hZ hown (host := "") (Or.inl (ww hw 17 rfl)) Via.refl e37 f36 (g := (mkF m 131 (lc22 a1 q2 (-1) 0) [(.ref a1), (.int 0), (.ref a9)])) rfl rfl (hb hby d5_131)
  have f39 : Fld Z h29 a1 zs1 "count" "I" (.int 1) := (F8.keep K29 (ninS ne35 nin0))
  obtain ⟨T40, X40, e40, st40⟩ := getF X38 hx hZ hown (host := "") (Or.inl (ww hw 26 rfl)) Via.refl e38 f39 (g := (mkF m 139 (lc22 a1 q2 (-1) 0) [(.ref a1), (.int 1), (.ref a9), (.int 0), (.ref a9)])) rfl rfl (hb hby d5_139)
  have f43 : Arv Z h29 a9 kc12 .long (16 : Int32) [(.long q11)] (.long (0 : Int64)) := (F13.keep K29 (ninS ne42 nin0))
  have f44 : Arv Z h29 a9 kc12 .long (16 : Int32) [(.long q11), (.long 0)] (.long (0 : Int64)) := f43.pad (pad_rep [(.long q11)] (.long (0 : Int64)) 1)
  obtain ⟨T41, h41, L41, X41, e41, N41, K41, V41, st41⟩ := cpA X40 hx hZ hown (ww hw 55 rfl) (ww hw 58 rfl) (ww hw 56 rfl) (ww hw 57 rfl) e40 (us := [(.long q11)]) f44 f44 (Or.inl ⟨rfl, rfl⟩) (by decide) (by decide) (by decide) (by decide) (by decide) rfl (Nat.le_of_ble_eq_true rfl) N29 g45 (g := (mkF m 145 (lc22 a1 q2 (-1) 0) [(.int 1), (.int 1), (.ref a9), (.int 0), (.ref a9)])) rfl (by rw [hml]; rfl) rfl (hb hby d5_145) (by decide) (W := 0) (by show 2 * 0 + _ ≤ _; exact Nat.le_of_eq rfl) (by decide)
  have f46 : Arv Z h41 a9 kc12 .long (16 : Int32) [(.long q11), (.long q11)] (.long (0 : Int64)) := V41
  obtain ⟨T47, h47, X47, e47, E47, A47, D47, -, st47⟩ := newO X41 hx hZ hown (ww hw 12 rfl) (ww hw 59 rfl) (ww hw 60 rfl) e41 (g := (mkF m 148 (lc22 a1 q2 (-1) 0) [])) rfl (hb hby d5_148) (by decide) (by decide)
  obtain ⟨b47, g47⟩ : ∃ z, z = h41.size := ⟨_, rfl⟩
  rw [← g47] at A47 D47 st47
  have f48 : Fld Z h47 b47 zs0 "price" zs9 .null := D47 (Or.inr (ww hw 66 rfl)) (ty := (.object zs12)) (by decide)
  have f49 : Fld Z h47 b47 zs0 "priceSteps" "J" (.long 0) := D47 (Or.inr (ww hw 68 rfl)) (ty := .long) (by decide)
  have f50 : Fld Z h47 b47 zs0 "first" zs10 .null := D47 (Or.inl (ww hw 83 rfl)) (ty := (.object zs13)) (by decide)
  have Z_1 : n0 ≤ h29.size := Nat.le_trans Z0 K29.1
  have Z_2 : n0 ≤ h41.size := Nat.le_trans Z_1 K41.1
  have g52 : n0 ≤ b47 := Nat.le_trans Z_2 (Nat.le_of_eq g47.symm)
  have Z_3 : n0 ≤ h47.size := Nat.le_trans Z_2 E47.1
  obtain ⟨_, T51, L51, X51, hQ51, st51⟩ := ocallI X47 hx hZ zm6 rfl hown (ww hw 61 rfl) (ww hw 62 rfl) (by decide) (ww hw 63 rfl) (ww hw 60 rfl) e47 (rm9_9 l Z a0 hw [] b47 q2 h47 n0 Z_3 f48 f49 f50 A47 g52) (st := [(.long q2), .null, (.ref b47), (.ref b47)]) rfl 1 rfl (by decide) (pc := 154) (Ls := (lc22 a1 q2 (-1) 0)) hml rfl (lenOf pd_6 rfl) d5_154 hby
  obtain ⟨rfl, N51q, K51, f53, f54, f55⟩ := hQ51
  have N56 := Fr.app N41 N51q
  have ne58 : a1 ≠ b47 := Nat.ne_of_lt (Nat.lt_of_lt_of_le (Nat.lt_of_lt_of_le (Nat.lt_of_lt_of_le (F5.lt) K29.1) K41.1) (Nat.le_of_eq g47.symm))
  have f59 : Fld Z T51.heap a1 zs1 "levels" zs2 (.ref a19) := ((Fld.ext E47 ((F20.keep K29 (ninS ne35 nin0)).keep K41 (ninS ne57 nin0))).keep K51 (ninS ne58 nin0))
  obtain ⟨T60, X60, e60, st60⟩ := getF X51 hx hZ hown (host := "") (Or.inl (ww hw 14 rfl)) Via.refl rfl f59 (g := (mkF m 160 (lc24 a1 q2 (-1) 0 b47) [(.ref a1)])) rfl rfl (hb hby d5_160)
  have ne61 : a19 ≠ b47 := Nat.ne_of_lt (Nat.lt_of_lt_of_le (Nat.lt_of_lt_of_le (f34.lt) K41.1) (Nat.le_of_eq g47.symm))
  have f62 : Arv Z T51.heap a19 kc23 (.object zs0) (16 : Int32) [(.ref a22), (.ref a22)] .null := (((f34.keep K41 (ninS (Ne.symm ne42) nin0)).ext E47).keep K51 (ninS ne61 nin0))
  have f63 : Exa Z T51.heap b47 zs0 := (A47.keep K51)
  obtain ⟨cl64, Ar64, q64, S64, N64, H64, G64⟩ := id f62
  have hin65 : ¬ ((0 : Int32) < 0 ∨ cl64.slots.size ≤ ((0 : Int32)).toNatClampNeg) := inb_of S64 ⟨by decide, by decide⟩
  obtain ⟨T65, h65, X65, e65, W65, st65⟩ := stR X60 hx hZ e60 Ar64 (j := (0 : Int32)) hin65 rfl (Sto.ofV Ar64 q64 O32 (Ins.self f63)) (g := (mkF m 167 (lc24 a1 q2 (-1) 0 b47) [(.ref b47), (.int 0), (.ref a19)])) rfl rfl (hb hby d5_167)
  have N66 := Fr.snoc X65 N56 g31
  have f67 : Arv Z h65 a19 kc23 (.object zs0) (16 : Int32) [(.ref b47), (.ref a22)] .null := Arv.set Ar64 q64 S64 N64 H64 G64 (by rfl) W65 0 rfl (Nat.le_of_ble_eq_true rfl)
  have f68 : Fld Z h65 a1 zs1 "ranks" "[J" (.ref a9) := (Fld.other W65 ((Fld.ext E47 (f36.keep K41 (ninS ne57 nin0))).keep K51 (ninS ne58 nin0)) (Or.inl ne35))
  obtain ⟨T69, X69, e69, st69⟩ := getF X65 hx hZ hown (host := "") (Or.inl (ww hw 17 rfl)) Via.refl e65 f68 (g := (mkF m 169 (lc24 a1 q2 (-1) 0 b47) [(.ref a1)])) rfl rfl (hb hby d5_169)
  have f71 : Fld Z h65 a1 zs1 "side" zs3 (.ref a4) := (Fld.other W65 ((Fld.ext E47 ((F5.keep K29 (ninS ne35 nin0)).keep K41 (ninS ne57 nin0))).keep K51 (ninS ne58 nin0)) (Or.inl ne35))
  have f72 : Sta Z h65 zs5 "BUY" zs3 (.ref a4) := (Sta.wr W65 (own_staK (Sta.ext E47 (own_staK (own_staK F6 K29 (allS (own_nsV f30) all0)) K41 (allS (own_nsV f44) all0))) K51 (allS (own_nsF f48) all0)))
  have Z_4 : n0 ≤ T51.heap.size := Nat.le_trans Z_3 K51.1
  have Z_5 : n0 ≤ h65.size := Nat.le_trans Z_4 (Keep.of_wr W65).1
  have f73 : Exa Z h65 a1 zs1 := (Exa.wr W65 ((Exa.ext E47 ((F7.keep K29).keep K41)).keep K51))
  obtain ⟨_, T70, L70, X70, hQ70, st70⟩ := ocallP X69 hx hZ zm3 hown (ww hw 42 rfl) (ww hw 43 rfl) (own_selP (mvT hZ (ww hw 4 rfl)) (mvP hZ (ww hw 44 rfl)) (mvT hZ (ww hw 43 rfl)) (by decide)) (ww hw 44 rfl) (by decide) (ww hw 45 rfl) (ww hw 5 rfl) e69 f73 (rm7_32 l Z a0 hw [] a1 q2 a4 h65 n0 Z_5 f71 f72) (st := [(.long q2), (.ref a1), (.int 0), (.ref a9)]) rfl 2 rfl (by decide) (pc := 176) (Ls := (lc24 a1 q2 (-1) 0 b47)) hml rfl (lenOf pd_3 rfl) d5_176 hby
  obtain ⟨rfl, N70q, e70⟩ := hQ70
  have N74 := Fr.app N66 N70q
  have ne75 : a9 ≠ b47 := Nat.ne_of_lt (Nat.lt_of_lt_of_le (f46.lt) (Nat.le_of_eq g47.symm))
  have f76 : Arv Z h65 a9 kc12 .long (16 : Int32) [(.long q11), (.long q11)] (.long (0 : Int64)) := (((f46.ext E47).keep K51 (ninS ne75 nin0)).other W65 ne42)
  obtain ⟨cl77, Ar77, q77, S77, N77, H77, G77⟩ := id f76
  have hin78 : ¬ ((0 : Int32) < 0 ∨ cl77.slots.size ≤ ((0 : Int32)).toNatClampNeg) := inb_of S77 ⟨by decide, by decide⟩
  obtain ⟨T78, h78, X78, e78, W78, st78⟩ := stJ X70 hx hZ e70 Ar77 (j := (0 : Int32)) hin78 (g := (mkF m 179 (lc24 a1 q2 (-1) 0 b47) [(.long q2), (.int 0), (.ref a9)])) rfl rfl (hb hby d5_179)
  have N79 := Fr.snoc X78 N74 g45
  have f80 : Arv Z h78 a9 kc12 .long (16 : Int32) [(.long q2), (.long q11)] (.long (0 : Int64)) := Arv.set Ar77 q77 S77 N77 H77 G77 (by rfl) W78 0 rfl (Nat.le_of_ble_eq_true rfl)
  have f81 : Fld Z h78 a1 zs1 "count" "I" (.int 1) := (Fld.other W78 (Fld.other W65 ((Fld.ext E47 (f39.keep K41 (ninS ne57 nin0))).keep K51 (ninS ne58 nin0)) (Or.inl ne35)) (Or.inl ne57))
  obtain ⟨T82, X82, e82, st82⟩ := getF X78 hx hZ hown (host := "") (Or.inl (ww hw 26 rfl)) Via.refl e78 f81 (g := (mkF m 182 (lc24 a1 q2 (-1) 0 b47) [(.ref a1), (.ref a1)])) rfl rfl (hb hby d5_182)
  have f84 : Exa Z h78 a1 zs1 := (Exa.wr W78 f73)
  obtain ⟨T85, h85, X85, e85, W85, st85⟩ := putF X82 hx hZ hown (host := "") (Or.inl (ww hw 26 rfl)) Via.refl e82 f81 f84 (Or.inl (ww hw 27 rfl)) (ww hw 4 rfl) (ty := .int) (by decide) rfl rfl (g := (mkF m 187 (lc24 a1 q2 (-1) 0 b47) [(.int 2), (.ref a1)])) rfl rfl (hb hby d5_187)
  have N87 := Fr.snoc X85 N79 g86
  have f88 : Fld Z h85 a1 zs1 "count" "I" (.int 2) := Fld.same W85 f81
  refine own_go (U' := T85.setTop (mkF m 192 (lc24 a1 q2 (-1) 0 b47) [(.ref b47)])) (fun t k => oicY (pc := 60) X21 hx hby d5_60 100 (by decide) (by decide) (oaloadN X21 hx hby d5_100 rfl rfl (st26 _ (oiload X26 hx hby d5_104 rfl (oaloadN X26 hx hby d5_106 rfl rfl (st27 _ (oiload X27 hx hby d5_110 rfl (oiconst X27 hx hby d5_112 (oiadd X27 hx hby d5_113 (oaloadN X27 hx hby d5_114 rfl rfl (st28 _ (oiload X28 hx hby d5_118 rfl (oisub X28 hx hby d5_120 (st29 _ (oaloadN X29 hx hby d5_124 rfl rfl (st37 _ (oiload X37 hx hby d5_128 rfl (oaloadN X37 hx hby d5_130 rfl rfl (st38 _ (oiload X38 hx hby d5_134 rfl (oiconst X38 hx hby d5_136 (oiadd X38 hx hby d5_137 (oaloadN X38 hx hby d5_138 rfl rfl (st40 _ (oiload X40 hx hby d5_142 rfl (oisub X40 hx hby d5_144 (st41 _ (st47 _ (odup X47 hx hby d5_151 rfl (oaloadN X47 hx hby d5_152 rfl rfl (olloadN X47 hx hby d5_153 rfl (st51 _ (oastore X51 hx hby d5_157 (lc24 a1 q2 (-1) 0 b47) rfl rfl (oaloadN X51 hx hby d5_159 rfl rfl (st60 _ (oiload X60 hx hby d5_163 rfl (oaload X60 hx hby d5_165 rfl rfl (st65 _ (oaloadN X65 hx hby d5_168 rfl rfl (st69 _ (oiload X69 hx hby d5_172 rfl (oaloadN X69 hx hby d5_174 rfl rfl (olloadN X69 hx hby d5_175 rfl (st70 _ (st78 _ (oaloadN X78 hx hby d5_180 rfl rfl (odup X78 hx hby d5_181 rfl (st82 _ (oiconst X82 hx hby d5_185 (oiadd X82 hx hby d5_186 (st85 _ (oaload X85 hx hby d5_190 rfl rfl k)))))))))))))))))))))))))))))))))))))))))))))))))))) ?_
  have f89 : Arv Z h85 a19 kc23 (.object zs0) (16 : Int32) [(.ref b47), (.ref a22)] .null := ((f67.other W78 (Ne.symm ne42)).other W85 (Ne.symm ne35))
  have f90 : Arv Z h85 a9 kc12 .long (16 : Int32) [(.long q2), (.long q11)] (.long (0 : Int64)) := (f80.other W85 (Ne.symm ne57))
  have f91 : Fld Z h85 a1 zs1 "side" zs3 (.ref a4) := (Fld.other W85 (Fld.other W78 f71 (Or.inl ne57)) (Or.inr (slot_ne (Or.inr (ww hw 20 rfl)) (Or.inl (ww hw 27 rfl)) (by decide) (t := (.object zs5)) (t' := .int) (by decide) (by decide))))
  have f92 : Fld Z h85 a1 zs1 "ranks" "[J" (.ref a9) := (Fld.other W85 (Fld.other W78 f68 (Or.inl ne57)) (Or.inr (slot_ne (Or.inl (ww hw 18 rfl)) (Or.inl (ww hw 27 rfl)) (by decide) (t := (.array .long)) (t' := .int) (by decide) (by decide))))
  have f93 : Fld Z h85 a1 zs1 "levels" zs2 (.ref a19) := (Fld.other W85 (Fld.other W78 (Fld.other W65 f59 (Or.inl ne35)) (Or.inl ne57)) (Or.inr (slot_ne (Or.inl (ww hw 15 rfl)) (Or.inl (ww hw 27 rfl)) (by decide) (t := (.array (.object zs0))) (t' := .int) (by decide) (by decide))))
  have f94 : Fld Z h85 a1 zs1 "emptyLevels" "I" (.int 0) := (Fld.other W85 (Fld.other W78 (Fld.other W65 ((Fld.ext E47 ((F83.keep K29 (ninS ne35 nin0)).keep K41 (ninS ne57 nin0))).keep K51 (ninS ne58 nin0)) (Or.inl ne35)) (Or.inl ne57)) (Or.inr (slot_ne (Or.inl (ww hw 76 rfl)) (Or.inl (ww hw 27 rfl)) (by decide) (t := .int) (t' := .int) (by decide) (by decide))))
  have f95 : Exa Z h85 b47 zs0 := (Exa.wr W85 (Exa.wr W78 (Exa.wr W65 f63)))
  have f96 : Fld Z h85 b47 zs0 "price" zs9 .null := (Fld.other W85 (Fld.other W78 (Fld.other W65 f53 (Or.inl (Ne.symm ne61))) (Or.inl (Ne.symm ne75))) (Or.inl (Ne.symm ne58)))
  have f97 : Fld Z h85 b47 zs0 "priceSteps" "J" (.long q2) := (Fld.other W85 (Fld.other W78 (Fld.other W65 f54 (Or.inl (Ne.symm ne61))) (Or.inl (Ne.symm ne75))) (Or.inl (Ne.symm ne58)))
  have f98 : Fld Z h85 b47 zs0 "first" zs10 .null := (Fld.other W85 (Fld.other W78 (Fld.other W65 f55 (Or.inl (Ne.symm ne61))) (Or.inl (Ne.symm ne75))) (Or.inl (Ne.symm ne58)))
  obtain ⟨fs, hr, hrun, hended, hW, hsame⟩ := X85.leave (v := some (.ref b47)) (fun h => by rw [Bd.returns] at h; cases h)
  refine own_out ⟨_, _, ?_, hrun, hended, _, _, rfl, ?_, ⟨_, rfl⟩, hW, hsame.mono (by decide) (by decide)⟩
  · exact retOut X85 hx Bd.returns rfl (Or.inr (Or.inr (Or.inr (Or.inr ⟨rfl, rfl, rfl⟩)))) (hb hby d5_192) hr
  · show Q5_49 Z a1 q2 a4 a9 q11 kc12 a19 a22 kc23 h0 n0 _ T85.heap _
    rw [e85]
    exact ⟨b47, rfl, N87, ((((Keep.trans ((Keep.trans (Keep.trans (Keep.refl h0 [a19, a9, a1]) K29 (allS (Or.inl (List.mem_of_getElem? (i := 0) rfl)) all0)) K41 (allS (Or.inl (List.mem_of_getElem? (i := 1) rfl)) all0)).ext E47) K51 (allS (Or.inr (Nat.le_trans K29.1 (Nat.le_trans K41.1 (Nat.le_of_eq g47.symm)))) all0)).wr W65 (Or.inl (List.mem_of_getElem? (i := 0) rfl))).wr W78 (Or.inl (List.mem_of_getElem? (i := 1) rfl))).wr W85 (Or.inl (List.mem_of_getElem? (i := 2) rfl))), (Nat.le_trans K29.1 (Nat.le_trans K41.1 (Nat.le_of_eq g47.symm))), f89, f90, f91, f88, f92, f93, f94, f95, f96, f97, f98⟩
set_option maxRecDepth 65536 in
set_option maxHeartbeats 40000000 in
theorem law_all (l : Launch) (Z : State) (a0 : Array Value) (hw : ∀ d ∈ tables_1, d.before a0 Z = true) (ws : List Jvm.Cond) (i0 : Int32) (i1 : Int64) (i2 : Int64) (w0 : Addr) (w1 : Addr) (h0 : Heap) (n0 : Nat) (Z0 : n0 ≤ h0.size) (S0 : Sta Z h0 "com/example/srok/srok/engine/Side" "SELL" "Lcom/example/srok/srok/engine/Side;" (.ref w0)) (S1 : Exa Z h0 w0 "com/example/srok/srok/engine/Side") (S2 : Sta Z h0 "com/example/srok/srok/engine/Side" "BUY" "Lcom/example/srok/srok/engine/Side;" (.ref w1)) (S3 : Exa Z h0 w1 "com/example/srok/srok/engine/Side") (S4 : Fld Z h0 w0 "java/lang/Enum" "ordinal" "I" (.int 1)) (S5 : Fld Z h0 w1 "java/lang/Enum" "ordinal" "I" (.int 0)) :
    MetFree l x (head1 (Jvm.Cond.code x code maxLocals ret :: ws) room_1) (fun a U => a = #[(.int i0), (.long i1), (.long i2)] ∧ Z.Warmed39 U.vm ∧ U.heap = h0) (fun _ _ _ _ _ => True) (fun _ U o U' => ∃ v L, o = .returned v ∧ QLaw n0 v U'.heap L ∧ FrameEnd U o U' L room_1.cells room_1.slots) := by
  refine MetFree.of_bodySF (plainFor_of_name pn_com_example_srok_srok_engine_BookSideIsEmptyPinLaw) hisR ?_
  intro p e s m args below meth c s₁ Bd hml0 hP hK
  obtain ⟨rfl, hZ, hh⟩ := hP
  have hx := Bd.exec
  have hby := Bd.bytes
  have hml : c.maxLocals = 14 := hml0
  have hown : s.vm.findClass "com/example/srok/srok/engine/BookSideIsEmptyPinLaw" = some m.cls := findClass_of_methodNamed Bd.named
  have hnm := (name_of_methodNamed Bd.named Bd.method).1
  have X0 : Stand p l e room_1 s m #[(.int i0), (.long i1), (.long i2)] below meth c s₁ [] 0 0 := Stand.of_body Bd
  have e0 : s₁.heap = h0 := by rw [← hh, Bd.state]; rfl
  have N0 := Fr.nil n0
  refine own_pre (g' := mkF m 0 (lc0 i0 i1 i2) []) (ef_2 m i0 i1 i2) ?_
  refine own_go (U' := s₁.setTop (mkF m 3 (lc0 i0 i1 i2) [(.int (i0 &&& (1 : Int32)))])) (fun t k => oiloadN X0 hx hby at_0 rfl (oiconst X0 hx hby at_1 (oiand X0 hx hby at_2 k))) ?_
  rcases own_s2 i0 with hk1 | hk1
  · have hv0 : (i0 &&& (1 : Int32)) = (0 : Int32) := hk1
    rw [hv0]
    obtain ⟨Tr1, Xr1, er1, str1⟩ := getS2 X0 hx hZ hown (host := "") (Or.inl (ww hw 0 rfl)) Via.refl e0 S0 (g := (mkF m 12 (lc0 i0 i1 i2) [])) rfl (hb hby at_12)
    refine own_go (U' := Tr1.setTop (mkF m 24 (lc2 i0 i1 i2 w0 (((i0.toUInt32 >>> ((1 : Int32) &&& 31).toUInt32).toInt32) % (3 : Int32))) [])) (fun t k => oifY (pc := 3) X0 hx hby at_3 12 (by decide) (by decide) (str1 _ (oastore Xr1 hx hby at_15 (lc1 i0 i1 i2 w0) rfl rfl (oiloadN Xr1 hx hby at_17 rfl (oiconst Xr1 hx hby at_18 (oiushr Xr1 hx hby at_19 (oiconst Xr1 hx hby at_20 (oirem Xr1 hx hby at_21 (by decide) (oistore Xr1 hx hby at_22 (lc2 i0 i1 i2 w0 (((i0.toUInt32 >>> ((1 : Int32) &&& 31).toUInt32).toInt32) % (3 : Int32))) rfl k))))))))) ?_
    obtain ⟨z1, hz1⟩ : ∃ z, z = (((i0.toUInt32 >>> ((1 : Int32) &&& 31).toUInt32).toInt32) % (3 : Int32)) := ⟨_, rfl⟩
    rw [← hz1]
    refine own_go (U' := Tr1.setTop (mkF m 27 (lc2 i0 i1 i2 w0 z1) [(.int (lcmpW i2 i1))])) (fun t k => olloadN Xr1 hx hby at_24 rfl (olloadN Xr1 hx hby at_25 rfl (olcmp Xr1 hx hby at_26 k))) ?_
    by_cases hk2 : i2 = i1
    · have hc1 : i2 = i1 := hk2
      refine own_go (U' := Tr1.setTop (mkF m 41 (lc3 i0 i1 i2 w0 z1 (i1 ^^^ (-1 : Int64))) [])) (fun t k => oifN Xr1 hx hby at_27 (own_ll_ne_f hc1) (olloadN Xr1 hx hby at_30 rfl (Xr1.ldc2Long hx hown (mvT hZ (ww hw 85 rfl)) (g := (mkF m 31 (lc2 i0 i1 i2 w0 z1) [(.long i1)])) rfl (hb hby at_31) _ (olxor Xr1 hx hby at_34 (ogoto (pc := 35) Xr1 hx hby at_35 39 (by decide) (olstore Xr1 hx hby at_39 (lc3 i0 i1 i2 w0 z1 (i1 ^^^ (-1 : Int64))) rfl k)))))) ?_
      obtain ⟨z2, hz2⟩ : ∃ z, z = (i1 ^^^ (-1 : Int64)) := ⟨_, rfl⟩
      rw [← hz2]
      obtain ⟨Tr2, hr2, Xr2, er2, Er2, Ar2, Dr2, -, str2⟩ := newO Xr1 hx hZ hown (ww hw 3 rfl) (ww hw 4 rfl) (ww hw 5 rfl) er1 (g := (mkF m 41 (lc3 i0 i1 i2 w0 z1 z2) [])) rfl (hb hby at_41) (by decide) (by decide)
      obtain ⟨br2, gr2⟩ : ∃ z, z = h0.size := ⟨_, rfl⟩
      rw [← gr2] at Ar2 Dr2 str2
      have f1 : Fld Z hr2 br2 zs1 "levels" zs2 .null := Dr2 (Or.inl (ww hw 15 rfl)) (ty := (.array (.object zs0))) (by decide)
      have f2 : Fld Z hr2 br2 zs1 "ranks" "[J" .null := Dr2 (Or.inl (ww hw 18 rfl)) (ty := (.array .long)) (by decide)
      have f3 : Fld Z hr2 br2 zs1 "side" zs3 .null := Dr2 (Or.inr (ww hw 20 rfl)) (ty := (.object zs5)) (by decide)
      have f4 : Fld Z hr2 br2 zs1 "count" "I" (.int 0) := Dr2 (Or.inl (ww hw 27 rfl)) (ty := .int) (by decide)
      have f5 : Fld Z hr2 br2 zs1 "emptyLevels" "I" (.int 0) := Dr2 (Or.inl (ww hw 76 rfl)) (ty := .int) (by decide)
      have g1 : n0 ≤ br2 := Nat.le_trans Z0 (Nat.le_of_eq gr2.symm)
      have Z_1 : n0 ≤ hr2.size := Nat.le_trans Z0 Er2.1
      obtain ⟨_, Tr3, Lr3, Xr3, hQr3, str3⟩ := ocallI Xr2 hx hZ zm0 rfl hown (ww hw 6 rfl) (ww hw 7 rfl) (by decide) (ww hw 8 rfl) (ww hw 5 rfl) er2 (rm1_0 l Z a0 hw [] br2 w0 hr2 n0 Z_1 f1 f2 f3 f4 f5 Ar2 g1) (st := [(.ref w0), (.ref br2), (.ref br2)]) rfl 1 rfl (by decide) (pc := 47) (Ls := (lc3 i0 i1 i2 w0 z1 z2)) hml rfl (lenOf pd_0 rfl) at_47 hby
      obtain ⟨b1, b2, k1, k2, rfl, Nr3q, Kr3, sz1, sz2, ne1, O1, f6, f7, f8, f9, f10, f11, f12, f13, f14⟩ := hQr3
      have N1 := Fr.app N0 Nr3q
      have f15 : Exa Z Tr3.heap br2 zs1 := (Ar2.keep Kr3)
      have Z_2 : n0 ≤ Tr3.heap.size := Nat.le_trans Z_1 Kr3.1
      obtain ⟨_, Tr4, Lr4, Xr4, hQr4, str4⟩ := ocallV Xr3 hx hZ zm1 zm1 hown (ww hw 21 rfl) (ww hw 22 rfl) (notFace_of_selects (args := #[]) (mvT hZ (ww hw 24 rfl))) (ww hw 24 rfl) (ww hw 23 rfl) (by decide) (ww hw 25 rfl) (ww hw 5 rfl) rfl f15 (rm3_1 l Z a0 hw [] br2 Tr3.heap n0 Z_2 f9) (st := [(.ref br2)]) rfl 0 rfl (by decide) (pc := 54) (Ls := (lc5 i0 i1 i2 w0 z1 z2 br2)) hml rfl (lenOf pd_1 rfl) at_54 hby
      obtain ⟨rfl, Nr4q, er4⟩ := hQr4
      have N2 := Fr.app N1 Nr4q
      refine own_go (U' := Tr4.setTop (mkF m 62 (lc7 i0 i1 i2 w0 z1 z2 br2 1) [(.int 1), (.int z1)])) (fun t k => str2 _ (odup Xr2 hx hby at_44 rfl (oaload Xr2 hx hby at_45 rfl rfl (str3 _ (oastore Xr3 hx hby at_50 (lc5 i0 i1 i2 w0 z1 z2 br2) rfl rfl (oaload Xr3 hx hby at_52 rfl rfl (str4 _ (oistore Xr4 hx hby at_57 (lc7 i0 i1 i2 w0 z1 z2 br2 1) rfl (oiload Xr4 hx hby at_59 rfl (oiconst Xr4 hx hby at_61 k)))))))))) ?_
      by_cases hk3 : (((i0.toUInt32 >>> ((1 : Int32) &&& 31).toUInt32).toInt32) % (3 : Int32)) < (1 : Int32)
      · have hc2 : (((i0.toUInt32 >>> ((1 : Int32) &&& 31).toUInt32).toInt32) % (3 : Int32)) < (1 : Int32) := hk3
        have hs3 : z1 < (1 : Int32) := by rw [hz1]; exact hc2
        refine own_go (U' := Tr4.setTop (mkF m 76 (lc7 i0 i1 i2 w0 z1 z2 br2 1) [(.int 2), (.int z1)])) (fun t k => oicY (pc := 62) Xr4 hx hby at_62 73 (tlt hs3).1 (by decide) (oiload Xr4 hx hby at_73 rfl (oiconst Xr4 hx hby at_75 k))) ?_
        obtain ⟨_, Tr5, Lr5, Xr5, hQr5, str5⟩ := ocallV Xr4 hx hZ zm1 zm1 hown (ww hw 21 rfl) (ww hw 22 rfl) (notFace_of_selects (args := #[]) (mvT hZ (ww hw 24 rfl))) (ww hw 24 rfl) (ww hw 23 rfl) (by decide) (ww hw 25 rfl) (ww hw 5 rfl) er4 f15 (rm3_1 l Z a0 hw [] br2 Tr3.heap n0 Z_2 f9) (st := [(.ref br2)]) rfl 0 rfl (by decide) (pc := 90) (Ls := (lc7 i0 i1 i2 w0 z1 z2 br2 1)) hml rfl (lenOf pd_1 rfl) at_90 hby
        obtain ⟨rfl, Nr5q, er5⟩ := hQr5
        have N3 := Fr.app N2 Nr5q
        obtain ⟨_, Tr6, Lr6, Xr6, hQr6, str6⟩ := ocallV Xr5 hx hZ zm2 zm2 hown (ww hw 28 rfl) (ww hw 29 rfl) (notFace_of_selects (args := #[]) (mvT hZ (ww hw 31 rfl))) (ww hw 31 rfl) (ww hw 30 rfl) (by decide) (ww hw 32 rfl) (ww hw 5 rfl) er5 f15 (rm4_2 l Z a0 hw [] br2 Tr3.heap n0 Z_2 f9) (st := [(.ref br2)]) rfl 0 rfl (by decide) (pc := 97) (Ls := (lc8 i0 i1 i2 w0 z1 z2 br2 1 1)) hml rfl (lenOf pd_2 rfl) at_97 hby
        obtain ⟨rfl, Nr6q, er6⟩ := hQr6
        have N4 := Fr.app N3 Nr6q
        have hc4 : (((i0.toUInt32 >>> ((1 : Int32) &&& 31).toUInt32).toInt32) % (3 : Int32)) < (2 : Int32) := (Int32.lt_iff_toInt_lt.mpr (by have := Int32.lt_iff_toInt_lt.mp hk3; have := c_iushr i0 (1 : Int32) 1 (by decide) (by decide); have := rng32 i0; have := c_irem ((i0.toUInt32 >>> ((1 : Int32) &&& 31).toUInt32).toInt32) (3 : Int32) 3 (by decide); have := Int.emod_nonneg (((i0.toUInt32 >>> ((1 : Int32) &&& 31).toUInt32).toInt32)).toInt (show (3 : Int) ≠ 0 by decide); have := Int.emod_lt_of_pos (((i0.toUInt32 >>> ((1 : Int32) &&& 31).toUInt32).toInt32)).toInt (show (0 : Int) < 3 by decide); have := (by decide : ((2 : Int32)).toInt = 2); have := (by decide : ((1 : Int32)).toInt = 1); omega))
        have hs5 : z1 < (2 : Int32) := by rw [hz1]; exact hc4
        refine own_go (U' := Tr6.setTop (mkF m 104 (lc9 i0 i1 i2 w0 z1 z2 br2 1 1) [(.int 1)])) (fun t k => oicY (pc := 76) Xr4 hx hby at_76 88 (tlt hs5).1 (by decide) (oaload Xr4 hx hby at_88 rfl rfl (str5 _ (oistore Xr5 hx hby at_93 (lc8 i0 i1 i2 w0 z1 z2 br2 1 1) rfl (oaload Xr5 hx hby at_95 rfl rfl (str6 _ (oastore Xr6 hx hby at_100 (lc9 i0 i1 i2 w0 z1 z2 br2 1 1) rfl rfl (oiload Xr6 hx hby at_102 rfl k)))))))) ?_
        refine own_go (U' := Tr6.setTop (mkF m 111 (lc9 i0 i1 i2 w0 z1 z2 br2 1 1) [(.int z1), (.int 1)])) (fun t k => oifN Xr6 hx hby at_104 (by decide) (oiload Xr6 hx hby at_107 rfl (oiload Xr6 hx hby at_109 rfl k))) ?_
        have hc6 : (((i0.toUInt32 >>> ((1 : Int32) &&& 31).toUInt32).toInt32) % (3 : Int32)) = (0 : Int32) := (Int32.toInt_inj.mp (by have := Int32.lt_iff_toInt_lt.mp hk3; have := c_iushr i0 (1 : Int32) 1 (by decide) (by decide); have := rng32 i0; have := c_irem ((i0.toUInt32 >>> ((1 : Int32) &&& 31).toUInt32).toInt32) (3 : Int32) 3 (by decide); have := Int.emod_nonneg (((i0.toUInt32 >>> ((1 : Int32) &&& 31).toUInt32).toInt32)).toInt (show (3 : Int) ≠ 0 by decide); have := Int.emod_lt_of_pos (((i0.toUInt32 >>> ((1 : Int32) &&& 31).toUInt32).toInt32)).toInt (show (0 : Int) < 3 by decide); have := (by decide : ((0 : Int32)).toInt = 0); have := (by decide : ((1 : Int32)).toInt = 1); omega))
        have hs7 : z1 = (0 : Int32) := by rw [hz1]; exact hc6
        refine own_go (U' := Tr6.setTop (mkF m 119 (lc9 i0 i1 i2 w0 z1 z2 br2 1 1) [(.int 1), (.int 1)])) (fun t k => oifN Xr6 hx hby at_111 ((if0 _ _).trans (teq hs7).2) (oiconst Xr6 hx hby at_114 (ogoto (pc := 115) Xr6 hx hby at_115 119 (by decide) k))) ?_
        refine own_go (U' := Tr6.setTop (mkF m 134 (lc9 i0 i1 i2 w0 z1 z2 br2 1 1) [(.int z1), (.int 1)])) (fun t k => oicN Xr6 hx hby at_119 (by decide) (oaload Xr6 hx hby at_122 rfl rfl (onnN Xr6 hx hby at_124 (oiconst Xr6 hx hby at_127 (ogoto (pc := 128) Xr6 hx hby at_128 132 (by decide) (oiload Xr6 hx hby at_132 rfl k)))))) ?_
        refine own_go (U' := Tr6.setTop (mkF m 142 (lc9 i0 i1 i2 w0 z1 z2 br2 1 1) [(.int 1), (.int 1)])) (fun t k => oifN Xr6 hx hby at_134 ((if0 _ _).trans (teq hs7).2) (oiconst Xr6 hx hby at_137 (ogoto (pc := 138) Xr6 hx hby at_138 142 (by decide) k))) ?_
        refine own_go (U' := Tr6.setTop (mkF m 186 (lc10 i0 i1 i2 w0 z1 z2 br2 1 1 1) [(.int 1)])) (fun t k => oicN Xr6 hx hby at_142 (by decide) (oiconst Xr6 hx hby at_145 (ogoto (pc := 146) Xr6 hx hby at_146 150 (by decide) (oistore Xr6 hx hby at_150 (lc10 i0 i1 i2 w0 z1 z2 br2 1 1 1) rfl (oaload Xr6 hx hby at_152 rfl rfl (onlY (pc := 154) Xr6 hx hby at_154 184 (by decide) (oiload Xr6 hx hby at_184 rfl k))))))) ?_
        obtain ⟨fs, hr, hrun, hended, hW, hsame⟩ := Xr6.leave (v := some (.int 1)) (fun h => by rw [Bd.returns] at h; cases h)
        refine own_out ⟨_, _, ?_, hrun, hended, _, _, rfl, ?_, ⟨_, rfl⟩, hW, hsame.mono (by decide) (by decide)⟩
        · exact retN Xr6 hx (t := .boolean) Bd.returns (by simp) (hb hby at_186) hr
        · exact ⟨rfl, N4⟩
      · have f16 : Sta Z Tr3.heap zs5 "BUY" zs3 (.ref w1) := (own_staK (Sta.ext Er2 S2) Kr3 (allS (own_nsF f1) all0))
        have g2 : n0 ≤ b1 := Nat.le_trans Z_1 sz1
        have ne2 : br2 ≠ b1 := Nat.ne_of_lt (Nat.lt_of_lt_of_le (f1.lt) sz1)
        have g3 : n0 ≤ b2 := Nat.le_trans Z_1 sz2
        have ne3 : br2 ≠ b2 := Nat.ne_of_lt (Nat.lt_of_lt_of_le (f1.lt) sz2)
        have ha10 : w0 ≠ w1 := (Fld.ne S4 S5 (by decide))
        by_cases hk4 : (((i0.toUInt32 >>> ((1 : Int32) &&& 31).toUInt32).toInt32) % (3 : Int32)) < (2 : Int32)
        · obtain ⟨_, Tr5, Lr5, Xr5, hQr5, str5⟩ := ocallV Xr4 hx hZ zm7 zm7 hown (ww hw 33 rfl) (ww hw 34 rfl) (notFace_of_selects (args := #[]) (mvT hZ (ww hw 36 rfl))) (ww hw 36 rfl) (ww hw 35 rfl) (by decide) (ww hw 37 rfl) (ww hw 5 rfl) er4 f15 (rm5_10 l Z a0 hw [] br2 i1 w0 w1 b1 k1 b2 k2 Tr3.heap n0 Z_2 f8 f16 ha10 f15 f9 f6 f12 g2 O1 f7 ne2 f14 (Ne.symm ne1) g3 ne3 f10 g1) (st := [.null, (.long i1), (.ref br2)]) rfl 0 rfl (by decide) (pc := 69) (Ls := (lc7 i0 i1 i2 w0 z1 z2 br2 1)) hml rfl (lenOf pd_7 rfl) at_69 hby
          obtain ⟨b3, rfl, Nr5q, Kr5, sz3, f17, f18, f19, f20, f21, f22, f23, f24, f25, f26, f27⟩ := hQr5
          have N3 := Fr.app N2 Nr5q
          have hc8 : ¬ ((((i0.toUInt32 >>> ((1 : Int32) &&& 31).toUInt32).toInt32) % (3 : Int32)) < (1 : Int32)) := hk3
          have hs9 : ¬ (z1 < (1 : Int32)) := by rw [hz1]; exact hc8
          refine own_go (U' := Tr5.setTop (mkF m 76 (lc7 i0 i1 i2 w0 z1 z2 br2 1) [(.int 2), (.int z1)])) (fun t k => oicN Xr4 hx hby at_62 (flt hs9).1 (oaload Xr4 hx hby at_65 rfl rfl (olloadN Xr4 hx hby at_67 rfl (onull Xr4 hx hby at_68 (str5 _ (opop Xr5 hx hby at_72 rfl (oiload Xr5 hx hby at_73 rfl (oiconst Xr5 hx hby at_75 k)))))))) ?_
          have f28 : Exa Z Tr5.heap br2 zs1 := (f15.keep Kr5)
          have Z_3 : n0 ≤ Tr5.heap.size := Nat.le_trans Z_2 Kr5.1
          obtain ⟨_, Tr6, Lr6, Xr6, hQr6, str6⟩ := ocallV Xr5 hx hZ zm1 zm1 hown (ww hw 21 rfl) (ww hw 22 rfl) (notFace_of_selects (args := #[]) (mvT hZ (ww hw 24 rfl))) (ww hw 24 rfl) (ww hw 23 rfl) (by decide) (ww hw 25 rfl) (ww hw 5 rfl) rfl f28 (rm3_11 l Z a0 hw [] br2 Tr5.heap n0 Z_3 f20) (st := [(.ref br2)]) rfl 0 rfl (by decide) (pc := 90) (Ls := (lc7 i0 i1 i2 w0 z1 z2 br2 1)) hml rfl (lenOf pd_1 rfl) at_90 hby
          obtain ⟨rfl, Nr6q, er6⟩ := hQr6
          have N4 := Fr.app N3 Nr6q
          obtain ⟨_, Tr7, Lr7, Xr7, hQr7, str7⟩ := ocallV Xr6 hx hZ zm2 zm2 hown (ww hw 28 rfl) (ww hw 29 rfl) (notFace_of_selects (args := #[]) (mvT hZ (ww hw 31 rfl))) (ww hw 31 rfl) (ww hw 30 rfl) (by decide) (ww hw 32 rfl) (ww hw 5 rfl) er6 f28 (rm4_12 l Z a0 hw [] br2 b1 b3 k1 Tr5.heap n0 Z_3 f20 f21 f17) (st := [(.ref br2)]) rfl 0 rfl (by decide) (pc := 97) (Ls := (lc8 i0 i1 i2 w0 z1 z2 br2 1 0)) hml rfl (lenOf pd_2 rfl) at_97 hby
          obtain ⟨rfl, Nr7q, er7⟩ := hQr7
          have N5 := Fr.app N4 Nr7q
          have hc4 : (((i0.toUInt32 >>> ((1 : Int32) &&& 31).toUInt32).toInt32) % (3 : Int32)) < (2 : Int32) := hk4
          have hs5 : z1 < (2 : Int32) := by rw [hz1]; exact hc4
          refine own_go (U' := Tr7.setTop (mkF m 104 (lc25 i0 i1 i2 w0 z1 z2 br2 1 0 b3) [(.int 1)])) (fun t k => oicY (pc := 76) Xr5 hx hby at_76 88 (tlt hs5).1 (by decide) (oaload Xr5 hx hby at_88 rfl rfl (str6 _ (oistore Xr6 hx hby at_93 (lc8 i0 i1 i2 w0 z1 z2 br2 1 0) rfl (oaload Xr6 hx hby at_95 rfl rfl (str7 _ (oastore Xr7 hx hby at_100 (lc25 i0 i1 i2 w0 z1 z2 br2 1 0 b3) rfl rfl (oiload Xr7 hx hby at_102 rfl k)))))))) ?_
          refine own_go (U' := Tr7.setTop (mkF m 111 (lc25 i0 i1 i2 w0 z1 z2 br2 1 0 b3) [(.int z1), (.int 0)])) (fun t k => oifN Xr7 hx hby at_104 (by decide) (oiload Xr7 hx hby at_107 rfl (oiload Xr7 hx hby at_109 rfl k))) ?_
          have hc11 : ¬ ((((i0.toUInt32 >>> ((1 : Int32) &&& 31).toUInt32).toInt32) % (3 : Int32)) = (0 : Int32)) := (fun e => by have := congrArg Int32.toInt e; have : ¬ ((((i0.toUInt32 >>> ((1 : Int32) &&& 31).toUInt32).toInt32) % (3 : Int32))).toInt < ((1 : Int32)).toInt := fun e => hk3 (Int32.lt_iff_toInt_lt.mpr e); have := c_iushr i0 (1 : Int32) 1 (by decide) (by decide); have := rng32 i0; have := c_irem ((i0.toUInt32 >>> ((1 : Int32) &&& 31).toUInt32).toInt32) (3 : Int32) 3 (by decide); have := Int.emod_nonneg (((i0.toUInt32 >>> ((1 : Int32) &&& 31).toUInt32).toInt32)).toInt (show (3 : Int) ≠ 0 by decide); have := Int.emod_lt_of_pos (((i0.toUInt32 >>> ((1 : Int32) &&& 31).toUInt32).toInt32)).toInt (show (0 : Int) < 3 by decide); have := (by decide : ((0 : Int32)).toInt = 0); have := (by decide : ((1 : Int32)).toInt = 1); omega)
          have hs12 : ¬ (z1 = (0 : Int32)) := by rw [hz1]; exact hc11
          refine own_go (U' := Tr7.setTop (mkF m 119 (lc25 i0 i1 i2 w0 z1 z2 br2 1 0 b3) [(.int 0), (.int 0)])) (fun t k => oifY (pc := 111) Xr7 hx hby at_111 118 ((if0 _ _).trans (feq hs12).2) (by decide) (oiconst Xr7 hx hby at_118 k)) ?_
          refine own_go (U' := Tr7.setTop (mkF m 134 (lc25 i0 i1 i2 w0 z1 z2 br2 1 0 b3) [(.int z1), (.int 0)])) (fun t k => oicN Xr7 hx hby at_119 (by decide) (oaload Xr7 hx hby at_122 rfl rfl (onnY (pc := 124) Xr7 hx hby at_124 131 (by decide) (oiconst Xr7 hx hby at_131 (oiload Xr7 hx hby at_132 rfl k))))) ?_
          refine own_go (U' := Tr7.setTop (mkF m 142 (lc25 i0 i1 i2 w0 z1 z2 br2 1 0 b3) [(.int 0), (.int 0)])) (fun t k => oifY (pc := 134) Xr7 hx hby at_134 141 ((if0 _ _).trans (feq hs12).2) (by decide) (oiconst Xr7 hx hby at_141 k)) ?_
          have ne4 : br2 ≠ b3 := Nat.ne_of_lt (Nat.lt_of_lt_of_le (Nat.lt_of_lt_of_le (f1.lt) Kr3.1) sz3)
          obtain ⟨_, Tr8, Lr8, Xr8, hQr8, str8⟩ := ocallV Xr7 hx hZ zm9 zm9 hown (ww hw 70 rfl) (ww hw 71 rfl) (notFace_of_selects (args := #[]) (mvT hZ (ww hw 73 rfl))) (ww hw 73 rfl) (ww hw 72 rfl) (by decide) (ww hw 74 rfl) (ww hw 5 rfl) er7 f28 (rm10_14 l Z a0 hw [] br2 b3 w0 b1 b2 k1 Tr5.heap n0 Z_3 f23 f19 f20 f21 f22 f28 g1 f17 (Ne.symm ne2) f24 f27 (Ne.symm ne4) g2) (st := [(.ref b3), (.ref br2)]) rfl 0 rfl (by decide) (pc := 161) (Ls := (lc26 i0 i1 i2 w0 z1 z2 br2 1 0 b3 1)) hml rfl (lenOf pd_8 rfl) at_161 hby
          obtain ⟨rfl, Nr8q, Kr8, f29, f30, f31, f32, f33, f34⟩ := hQr8
          have N6 := Fr.app N5 Nr8q
          refine own_go (U' := Tr8.setTop (mkF m 166 (lc26 i0 i1 i2 w0 z1 z2 br2 1 0 b3 1) [(.int 1)])) (fun t k => oicN Xr7 hx hby at_142 (by decide) (oiconst Xr7 hx hby at_145 (ogoto (pc := 146) Xr7 hx hby at_146 150 (by decide) (oistore Xr7 hx hby at_150 (lc26 i0 i1 i2 w0 z1 z2 br2 1 0 b3 1) rfl (oaload Xr7 hx hby at_152 rfl rfl (onlN Xr7 hx hby at_154 (oaload Xr7 hx hby at_157 rfl rfl (oaload Xr7 hx hby at_159 rfl rfl (str8 _ (oiload Xr8 hx hby at_164 rfl k)))))))))) ?_
          have f35 : Exa Z Tr8.heap br2 zs1 := (f28.keep Kr8)
          have Z_4 : n0 ≤ Tr8.heap.size := Nat.le_trans Z_3 Kr8.1
          obtain ⟨_, Tr9, Lr9, Xr9, hQr9, str9⟩ := ocallV Xr8 hx hZ zm1 zm1 hown (ww hw 21 rfl) (ww hw 22 rfl) (notFace_of_selects (args := #[]) (mvT hZ (ww hw 24 rfl))) (ww hw 24 rfl) (ww hw 23 rfl) (by decide) (ww hw 25 rfl) (ww hw 5 rfl) rfl f35 (rm3_1 l Z a0 hw [] br2 Tr8.heap n0 Z_4 f31) (st := [(.ref br2)]) rfl 0 rfl (by decide) (pc := 171) (Ls := (lc26 i0 i1 i2 w0 z1 z2 br2 1 0 b3 1)) hml rfl (lenOf pd_1 rfl) at_171 hby
          obtain ⟨rfl, Nr9q, er9⟩ := hQr9
          have N7 := Fr.app N6 Nr9q
          refine own_go (U' := Tr9.setTop (mkF m 174 (lc26 i0 i1 i2 w0 z1 z2 br2 1 0 b3 1) [(.int 1)])) (fun t k => oifN Xr8 hx hby at_166 (by decide) (oaload Xr8 hx hby at_169 rfl rfl (str9 _ k))) ?_
          refine own_go (U' := Tr9.setTop (mkF m 186 (lc26 i0 i1 i2 w0 z1 z2 br2 1 0 b3 1) [(.int 1)])) (fun t k => oifN Xr9 hx hby at_174 (by decide) (oiconst Xr9 hx hby at_177 (ogoto (pc := 178) Xr9 hx hby at_178 182 (by decide) (oistore Xr9 hx hby at_182 (lc26 i0 i1 i2 w0 z1 z2 br2 1 0 b3 1) rfl (oiload Xr9 hx hby at_184 rfl k))))) ?_
          obtain ⟨fs, hr, hrun, hended, hW, hsame⟩ := Xr9.leave (v := some (.int 1)) (fun h => by rw [Bd.returns] at h; cases h)
          refine own_out ⟨_, _, ?_, hrun, hended, _, _, rfl, ?_, ⟨_, rfl⟩, hW, hsame.mono (by decide) (by decide)⟩
          · exact retN Xr9 hx (t := .boolean) Bd.returns (by simp) (hb hby at_186) hr
          · exact ⟨rfl, N7⟩
        · by_cases hk5 : (i1 ^^^ (-1 : Int64)) < ((i1 ^^^ (-1 : Int64)) ^^^ (-1 : Int64))
          · have hc17 : ¬ ((i1 ^^^ (-1 : Int64)) = (9223372036854775807 : Int64)) := (fun e => by have := congrArg Int64.toInt e; have := Int64.lt_iff_toInt_lt.mp hk5; have := rng64 i1; have := own_xnJ i1; have := (by decide : ((9223372036854775807 : Int64)).toInt = 9223372036854775807); have := own_xnJ (i1 ^^^ (-1 : Int64)); omega)
            obtain ⟨_, Tr5, Lr5, Xr5, hQr5, str5⟩ := ocallV Xr4 hx hZ zm7 zm7 hown (ww hw 33 rfl) (ww hw 34 rfl) (notFace_of_selects (args := #[]) (mvT hZ (ww hw 36 rfl))) (ww hw 36 rfl) (ww hw 35 rfl) (by decide) (ww hw 37 rfl) (ww hw 5 rfl) er4 f15 (rm5_18 l Z a0 hw [] br2 i1 w0 w1 b1 k1 b2 k2 Tr3.heap n0 Z_2 f8 f16 ha10 f15 f9 hc17 f6 f12 g2 O1 f7 ne2 f14 (Ne.symm ne1) g3 ne3 f10 g1) (st := [.null, (.long i1), (.ref br2)]) rfl 0 rfl (by decide) (pc := 69) (Ls := (lc7 i0 i1 i2 w0 z1 z2 br2 1)) hml rfl (lenOf pd_7 rfl) at_69 hby
            obtain ⟨b3, rfl, Nr5q, Kr5, sz3, f17, f18, f19, f20, f21, f22, f23, f24, f25, f26, f27⟩ := hQr5
            have N3 := Fr.app N2 Nr5q
            have hc8 : ¬ ((((i0.toUInt32 >>> ((1 : Int32) &&& 31).toUInt32).toInt32) % (3 : Int32)) < (1 : Int32)) := hk3
            have hs9 : ¬ (z1 < (1 : Int32)) := by rw [hz1]; exact hc8
            refine own_go (U' := Tr5.setTop (mkF m 76 (lc7 i0 i1 i2 w0 z1 z2 br2 1) [(.int 2), (.int z1)])) (fun t k => oicN Xr4 hx hby at_62 (flt hs9).1 (oaload Xr4 hx hby at_65 rfl rfl (olloadN Xr4 hx hby at_67 rfl (onull Xr4 hx hby at_68 (str5 _ (opop Xr5 hx hby at_72 rfl (oiload Xr5 hx hby at_73 rfl (oiconst Xr5 hx hby at_75 k)))))))) ?_
            have f28 : Exa Z Tr5.heap br2 zs1 := (f15.keep Kr5)
            have f29 : Sta Z Tr5.heap zs5 "BUY" zs3 (.ref w1) := (own_staK f16 Kr5 (allS (own_nsE f11) (allS (own_nsE f13) (allS (own_nsE (Ar2.keep Kr3)) all0))))
            have Z_3 : n0 ≤ Tr5.heap.size := Nat.le_trans Z_2 Kr5.1
            have hc18 : (i1 ^^^ (-1 : Int64)) < ((i1 ^^^ (-1 : Int64)) ^^^ (-1 : Int64)) := hk5
            have hs19 : (i1 ^^^ (-1 : Int64)) < (z2 ^^^ (-1 : Int64)) := by rw [hz2]; exact hc18
            have hc20 : ¬ (((i1 ^^^ (-1 : Int64)) ^^^ (-1 : Int64)) = (-9223372036854775808 : Int64)) := (fun e => by have := congrArg Int64.toInt e; have := Int64.lt_iff_toInt_lt.mp hk5; have := rng64 i1; have := own_xnJ i1; have := own_xnJ (i1 ^^^ (-1 : Int64)); have := (by decide : ((-9223372036854775808 : Int64)).toInt = -9223372036854775808); omega)
            have hs21 : ¬ ((z2 ^^^ (-1 : Int64)) = (-9223372036854775808 : Int64)) := by rw [hz2]; exact hc20
            obtain ⟨_, Tr6, Lr6, Xr6, hQr6, str6⟩ := ocallV Xr5 hx hZ zm7 zm7 hown (ww hw 33 rfl) (ww hw 34 rfl) (notFace_of_selects (args := #[]) (mvT hZ (ww hw 36 rfl))) (ww hw 36 rfl) (ww hw 35 rfl) (by decide) (ww hw 37 rfl) (ww hw 5 rfl) rfl f28 (rm5_22 l Z a0 hw [] br2 z2 w0 w1 b2 (i1 ^^^ (-1 : Int64)) k2 b1 b3 k1 Tr5.heap n0 Z_3 f19 f29 ha10 f28 f20 f22 f18 hs19 hs21 f21 f17 g2 O1 ne2 (Ne.symm ne1) g3 ne3 f23 g1) (st := [.null, (.long z2), (.ref br2)]) rfl 0 rfl (by decide) (pc := 84) (Ls := (lc7 i0 i1 i2 w0 z1 z2 br2 1)) hml rfl (lenOf pd_7 rfl) at_84 hby
            obtain ⟨b4, rfl, Nr6q, Kr6, sz4, f30, f31, f32, f33, f34, f35, f36, f37, f38, f39, f40⟩ := hQr6
            have N4 := Fr.app N3 Nr6q
            have f41 : Exa Z Tr6.heap br2 zs1 := (f28.keep Kr6)
            have Z_4 : n0 ≤ Tr6.heap.size := Nat.le_trans Z_3 Kr6.1
            obtain ⟨_, Tr7, Lr7, Xr7, hQr7, str7⟩ := ocallV Xr6 hx hZ zm1 zm1 hown (ww hw 21 rfl) (ww hw 22 rfl) (notFace_of_selects (args := #[]) (mvT hZ (ww hw 24 rfl))) (ww hw 24 rfl) (ww hw 23 rfl) (by decide) (ww hw 25 rfl) (ww hw 5 rfl) rfl f41 (rm3_23 l Z a0 hw [] br2 Tr6.heap n0 Z_4 f33) (st := [(.ref br2)]) rfl 0 rfl (by decide) (pc := 90) (Ls := (lc7 i0 i1 i2 w0 z1 z2 br2 1)) hml rfl (lenOf pd_1 rfl) at_90 hby
            obtain ⟨rfl, Nr7q, er7⟩ := hQr7
            have N5 := Fr.app N4 Nr7q
            obtain ⟨_, Tr8, Lr8, Xr8, hQr8, str8⟩ := ocallV Xr7 hx hZ zm2 zm2 hown (ww hw 28 rfl) (ww hw 29 rfl) (notFace_of_selects (args := #[]) (mvT hZ (ww hw 31 rfl))) (ww hw 31 rfl) (ww hw 30 rfl) (by decide) (ww hw 32 rfl) (ww hw 5 rfl) er7 f41 (rm4_24 l Z a0 hw [] br2 b1 b3 b4 k1 Tr6.heap n0 Z_4 f33 f35 f30) (st := [(.ref br2)]) rfl 0 rfl (by decide) (pc := 97) (Ls := (lc8 i0 i1 i2 w0 z1 z2 br2 1 0)) hml rfl (lenOf pd_2 rfl) at_97 hby
            obtain ⟨rfl, Nr8q, er8⟩ := hQr8
            have N6 := Fr.app N5 Nr8q
            have hc13 : ¬ ((((i0.toUInt32 >>> ((1 : Int32) &&& 31).toUInt32).toInt32) % (3 : Int32)) < (2 : Int32)) := hk4
            have hs14 : ¬ (z1 < (2 : Int32)) := by rw [hz1]; exact hc13
            refine own_go (U' := Tr8.setTop (mkF m 104 (lc25 i0 i1 i2 w0 z1 z2 br2 1 0 b4) [(.int 1)])) (fun t k => oicN Xr5 hx hby at_76 (flt hs14).1 (oaload Xr5 hx hby at_79 rfl rfl (olload Xr5 hx hby at_81 rfl (onull Xr5 hx hby at_83 (str6 _ (opop Xr6 hx hby at_87 rfl (oaload Xr6 hx hby at_88 rfl rfl (str7 _ (oistore Xr7 hx hby at_93 (lc8 i0 i1 i2 w0 z1 z2 br2 1 0) rfl (oaload Xr7 hx hby at_95 rfl rfl (str8 _ (oastore Xr8 hx hby at_100 (lc25 i0 i1 i2 w0 z1 z2 br2 1 0 b4) rfl rfl (oiload Xr8 hx hby at_102 rfl k))))))))))))) ?_
            refine own_go (U' := Tr8.setTop (mkF m 111 (lc25 i0 i1 i2 w0 z1 z2 br2 1 0 b4) [(.int z1), (.int 0)])) (fun t k => oifN Xr8 hx hby at_104 (by decide) (oiload Xr8 hx hby at_107 rfl (oiload Xr8 hx hby at_109 rfl k))) ?_
            have hc11 : ¬ ((((i0.toUInt32 >>> ((1 : Int32) &&& 31).toUInt32).toInt32) % (3 : Int32)) = (0 : Int32)) := (fun e => by have := congrArg Int32.toInt e; have : ¬ ((((i0.toUInt32 >>> ((1 : Int32) &&& 31).toUInt32).toInt32) % (3 : Int32))).toInt < ((1 : Int32)).toInt := fun e => hk3 (Int32.lt_iff_toInt_lt.mpr e); have := c_iushr i0 (1 : Int32) 1 (by decide) (by decide); have := rng32 i0; have := c_irem ((i0.toUInt32 >>> ((1 : Int32) &&& 31).toUInt32).toInt32) (3 : Int32) 3 (by decide); have := Int.emod_nonneg (((i0.toUInt32 >>> ((1 : Int32) &&& 31).toUInt32).toInt32)).toInt (show (3 : Int) ≠ 0 by decide); have := Int.emod_lt_of_pos (((i0.toUInt32 >>> ((1 : Int32) &&& 31).toUInt32).toInt32)).toInt (show (0 : Int) < 3 by decide); have := (by decide : ((0 : Int32)).toInt = 0); have := (by decide : ((1 : Int32)).toInt = 1); omega)
            have hs12 : ¬ (z1 = (0 : Int32)) := by rw [hz1]; exact hc11
            refine own_go (U' := Tr8.setTop (mkF m 119 (lc25 i0 i1 i2 w0 z1 z2 br2 1 0 b4) [(.int 0), (.int 0)])) (fun t k => oifY (pc := 111) Xr8 hx hby at_111 118 ((if0 _ _).trans (feq hs12).2) (by decide) (oiconst Xr8 hx hby at_118 k)) ?_
            refine own_go (U' := Tr8.setTop (mkF m 134 (lc25 i0 i1 i2 w0 z1 z2 br2 1 0 b4) [(.int z1), (.int 0)])) (fun t k => oicN Xr8 hx hby at_119 (by decide) (oaload Xr8 hx hby at_122 rfl rfl (onnY (pc := 124) Xr8 hx hby at_124 131 (by decide) (oiconst Xr8 hx hby at_131 (oiload Xr8 hx hby at_132 rfl k))))) ?_
            refine own_go (U' := Tr8.setTop (mkF m 142 (lc25 i0 i1 i2 w0 z1 z2 br2 1 0 b4) [(.int 0), (.int 0)])) (fun t k => oifY (pc := 134) Xr8 hx hby at_134 141 ((if0 _ _).trans (feq hs12).2) (by decide) (oiconst Xr8 hx hby at_141 k)) ?_
            have ne4 : br2 ≠ b4 := Nat.ne_of_lt (Nat.lt_of_lt_of_le (Nat.lt_of_lt_of_le (Nat.lt_of_lt_of_le (f1.lt) Kr3.1) Kr5.1) sz4)
            have f42 : Exa Z Tr6.heap b3 zs0 := (f24.keep Kr6)
            have ne5 : br2 ≠ b3 := Nat.ne_of_lt (Nat.lt_of_lt_of_le (Nat.lt_of_lt_of_le (f1.lt) Kr3.1) sz3)
            have ne6 : b2 ≠ b3 := Nat.ne_of_lt (Nat.lt_of_lt_of_le (f13.lt) sz3)
            have ne7 : b1 ≠ b3 := Nat.ne_of_lt (Nat.lt_of_lt_of_le (f11.lt) sz3)
            have f43 : Fld Z Tr6.heap b3 zs0 "first" zs10 .null := (f27.keep Kr6 (ninS (Ne.symm ne7) (ninS (Ne.symm ne6) (ninS (Ne.symm ne5) nin0))))
            obtain ⟨_, Tr9, Lr9, Xr9, hQr9, str9⟩ := ocallV Xr8 hx hZ zm9 zm9 hown (ww hw 70 rfl) (ww hw 71 rfl) (notFace_of_selects (args := #[]) (mvT hZ (ww hw 73 rfl))) (ww hw 73 rfl) (ww hw 72 rfl) (by decide) (ww hw 74 rfl) (ww hw 5 rfl) er8 f41 (rm10_25 l Z a0 hw [] br2 b4 w0 b2 b1 b3 k1 Tr6.heap n0 Z_4 f36 f32 f33 f34 f35 f41 g1 f30 (Ne.symm ne2) f37 f40 (Ne.symm ne4) g2 f42 f43 (Ne.symm ne5) (Ne.symm ne7)) (st := [(.ref b4), (.ref br2)]) rfl 0 rfl (by decide) (pc := 161) (Ls := (lc26 i0 i1 i2 w0 z1 z2 br2 1 0 b4 1)) hml rfl (lenOf pd_8 rfl) at_161 hby
            obtain ⟨rfl, Nr9q, Kr9, f44, f45, f46, f47, f48, f49⟩ := hQr9
            have N7 := Fr.app N6 Nr9q
            refine own_go (U' := Tr9.setTop (mkF m 166 (lc26 i0 i1 i2 w0 z1 z2 br2 1 0 b4 1) [(.int 1)])) (fun t k => oicN Xr8 hx hby at_142 (by decide) (oiconst Xr8 hx hby at_145 (ogoto (pc := 146) Xr8 hx hby at_146 150 (by decide) (oistore Xr8 hx hby at_150 (lc26 i0 i1 i2 w0 z1 z2 br2 1 0 b4 1) rfl (oaload Xr8 hx hby at_152 rfl rfl (onlN Xr8 hx hby at_154 (oaload Xr8 hx hby at_157 rfl rfl (oaload Xr8 hx hby at_159 rfl rfl (str9 _ (oiload Xr9 hx hby at_164 rfl k)))))))))) ?_
            have f50 : Exa Z Tr9.heap br2 zs1 := (f41.keep Kr9)
            have Z_5 : n0 ≤ Tr9.heap.size := Nat.le_trans Z_4 Kr9.1
            obtain ⟨_, Tr10, Lr10, Xr10, hQr10, str10⟩ := ocallV Xr9 hx hZ zm1 zm1 hown (ww hw 21 rfl) (ww hw 22 rfl) (notFace_of_selects (args := #[]) (mvT hZ (ww hw 24 rfl))) (ww hw 24 rfl) (ww hw 23 rfl) (by decide) (ww hw 25 rfl) (ww hw 5 rfl) rfl f50 (rm3_1 l Z a0 hw [] br2 Tr9.heap n0 Z_5 f46) (st := [(.ref br2)]) rfl 0 rfl (by decide) (pc := 171) (Ls := (lc26 i0 i1 i2 w0 z1 z2 br2 1 0 b4 1)) hml rfl (lenOf pd_1 rfl) at_171 hby
            obtain ⟨rfl, Nr10q, er10⟩ := hQr10
            have N8 := Fr.app N7 Nr10q
            refine own_go (U' := Tr10.setTop (mkF m 174 (lc26 i0 i1 i2 w0 z1 z2 br2 1 0 b4 1) [(.int 1)])) (fun t k => oifN Xr9 hx hby at_166 (by decide) (oaload Xr9 hx hby at_169 rfl rfl (str10 _ k))) ?_
            refine own_go (U' := Tr10.setTop (mkF m 186 (lc26 i0 i1 i2 w0 z1 z2 br2 1 0 b4 1) [(.int 1)])) (fun t k => oifN Xr10 hx hby at_174 (by decide) (oiconst Xr10 hx hby at_177 (ogoto (pc := 178) Xr10 hx hby at_178 182 (by decide) (oistore Xr10 hx hby at_182 (lc26 i0 i1 i2 w0 z1 z2 br2 1 0 b4 1) rfl (oiload Xr10 hx hby at_184 rfl k))))) ?_
            obtain ⟨fs, hr, hrun, hended, hW, hsame⟩ := Xr10.leave (v := some (.int 1)) (fun h => by rw [Bd.returns] at h; cases h)
            refine own_out ⟨_, _, ?_, hrun, hended, _, _, rfl, ?_, ⟨_, rfl⟩, hW, hsame.mono (by decide) (by decide)⟩
            · exact retN Xr10 hx (t := .boolean) Bd.returns (by simp) (hb hby at_186) hr
            · exact ⟨rfl, N8⟩
          · have hc22 : ¬ ((i1 ^^^ (-1 : Int64)) = (-9223372036854775808 : Int64)) := (fun e => by have := congrArg Int64.toInt e; have : ¬ ((i1 ^^^ (-1 : Int64))).toInt < (((i1 ^^^ (-1 : Int64)) ^^^ (-1 : Int64))).toInt := fun e => hk5 (Int64.lt_iff_toInt_lt.mpr e); have := rng64 i1; have := own_xnJ i1; have := (by decide : ((-9223372036854775808 : Int64)).toInt = -9223372036854775808); have := own_xnJ (i1 ^^^ (-1 : Int64)); omega)
            obtain ⟨_, Tr5, Lr5, Xr5, hQr5, str5⟩ := ocallV Xr4 hx hZ zm7 zm7 hown (ww hw 33 rfl) (ww hw 34 rfl) (notFace_of_selects (args := #[]) (mvT hZ (ww hw 36 rfl))) (ww hw 36 rfl) (ww hw 35 rfl) (by decide) (ww hw 37 rfl) (ww hw 5 rfl) er4 f15 (rm5_27 l Z a0 hw [] br2 i1 w0 w1 b1 k1 b2 k2 Tr3.heap n0 Z_2 f8 f16 ha10 f15 f9 hc22 f6 f12 g2 O1 f7 ne2 f14 (Ne.symm ne1) g3 ne3 f10 g1) (st := [.null, (.long i1), (.ref br2)]) rfl 0 rfl (by decide) (pc := 69) (Ls := (lc7 i0 i1 i2 w0 z1 z2 br2 1)) hml rfl (lenOf pd_7 rfl) at_69 hby
            obtain ⟨b3, rfl, Nr5q, Kr5, sz3, f17, f18, f19, f20, f21, f22, f23, f24, f25, f26, f27⟩ := hQr5
            have N3 := Fr.app N2 Nr5q
            have hc8 : ¬ ((((i0.toUInt32 >>> ((1 : Int32) &&& 31).toUInt32).toInt32) % (3 : Int32)) < (1 : Int32)) := hk3
            have hs9 : ¬ (z1 < (1 : Int32)) := by rw [hz1]; exact hc8
            refine own_go (U' := Tr5.setTop (mkF m 76 (lc7 i0 i1 i2 w0 z1 z2 br2 1) [(.int 2), (.int z1)])) (fun t k => oicN Xr4 hx hby at_62 (flt hs9).1 (oaload Xr4 hx hby at_65 rfl rfl (olloadN Xr4 hx hby at_67 rfl (onull Xr4 hx hby at_68 (str5 _ (opop Xr5 hx hby at_72 rfl (oiload Xr5 hx hby at_73 rfl (oiconst Xr5 hx hby at_75 k)))))))) ?_
            have f28 : Exa Z Tr5.heap br2 zs1 := (f15.keep Kr5)
            have f29 : Sta Z Tr5.heap zs5 "BUY" zs3 (.ref w1) := (own_staK f16 Kr5 (allS (own_nsE f11) (allS (own_nsE f13) (allS (own_nsE (Ar2.keep Kr3)) all0))))
            have Z_3 : n0 ≤ Tr5.heap.size := Nat.le_trans Z_2 Kr5.1
            have hc23 : ¬ ((i1 ^^^ (-1 : Int64)) < ((i1 ^^^ (-1 : Int64)) ^^^ (-1 : Int64))) := hk5
            have hs24 : ¬ ((i1 ^^^ (-1 : Int64)) < (z2 ^^^ (-1 : Int64))) := by rw [hz2]; exact hc23
            have hc15 : ¬ ((i1 ^^^ (-1 : Int64)) = ((i1 ^^^ (-1 : Int64)) ^^^ (-1 : Int64))) := (fun e => by have := congrArg Int64.toInt e; have := rng64 i1; have := own_xnJ i1; have := own_xnJ (i1 ^^^ (-1 : Int64)); omega)
            have hs16 : ¬ ((i1 ^^^ (-1 : Int64)) = (z2 ^^^ (-1 : Int64))) := by rw [hz2]; exact hc15
            have hc25 : ¬ (((i1 ^^^ (-1 : Int64)) ^^^ (-1 : Int64)) = (9223372036854775807 : Int64)) := (fun e => by have := congrArg Int64.toInt e; have : ¬ ((i1 ^^^ (-1 : Int64))).toInt < (((i1 ^^^ (-1 : Int64)) ^^^ (-1 : Int64))).toInt := fun e => hk5 (Int64.lt_iff_toInt_lt.mpr e); have := rng64 i1; have := own_xnJ i1; have := own_xnJ (i1 ^^^ (-1 : Int64)); have := (by decide : ((9223372036854775807 : Int64)).toInt = 9223372036854775807); omega)
            have hs26 : ¬ ((z2 ^^^ (-1 : Int64)) = (9223372036854775807 : Int64)) := by rw [hz2]; exact hc25
            obtain ⟨_, Tr6, Lr6, Xr6, hQr6, str6⟩ := ocallV Xr5 hx hZ zm7 zm7 hown (ww hw 33 rfl) (ww hw 34 rfl) (notFace_of_selects (args := #[]) (mvT hZ (ww hw 36 rfl))) (ww hw 36 rfl) (ww hw 35 rfl) (by decide) (ww hw 37 rfl) (ww hw 5 rfl) rfl f28 (rm5_31 l Z a0 hw [] br2 z2 w0 w1 b2 (i1 ^^^ (-1 : Int64)) k2 b1 b3 k1 Tr5.heap n0 Z_3 f19 f29 ha10 f28 f20 f22 f18 hs24 hs16 hs26 f21 f17 g2 O1 f24 ne2 (Ne.symm ne1) g3 ne3 f23 g1) (st := [.null, (.long z2), (.ref br2)]) rfl 0 rfl (by decide) (pc := 84) (Ls := (lc7 i0 i1 i2 w0 z1 z2 br2 1)) hml rfl (lenOf pd_7 rfl) at_84 hby
            obtain ⟨b4, rfl, Nr6q, Kr6, sz4, f30, f31, f32, f33, f34, f35, f36, f37, f38, f39, f40⟩ := hQr6
            have N4 := Fr.app N3 Nr6q
            have f41 : Exa Z Tr6.heap br2 zs1 := (f28.keep Kr6)
            have Z_4 : n0 ≤ Tr6.heap.size := Nat.le_trans Z_3 Kr6.1
            obtain ⟨_, Tr7, Lr7, Xr7, hQr7, str7⟩ := ocallV Xr6 hx hZ zm1 zm1 hown (ww hw 21 rfl) (ww hw 22 rfl) (notFace_of_selects (args := #[]) (mvT hZ (ww hw 24 rfl))) (ww hw 24 rfl) (ww hw 23 rfl) (by decide) (ww hw 25 rfl) (ww hw 5 rfl) rfl f41 (rm3_23 l Z a0 hw [] br2 Tr6.heap n0 Z_4 f33) (st := [(.ref br2)]) rfl 0 rfl (by decide) (pc := 90) (Ls := (lc7 i0 i1 i2 w0 z1 z2 br2 1)) hml rfl (lenOf pd_1 rfl) at_90 hby
            obtain ⟨rfl, Nr7q, er7⟩ := hQr7
            have N5 := Fr.app N4 Nr7q
            obtain ⟨_, Tr8, Lr8, Xr8, hQr8, str8⟩ := ocallV Xr7 hx hZ zm2 zm2 hown (ww hw 28 rfl) (ww hw 29 rfl) (notFace_of_selects (args := #[]) (mvT hZ (ww hw 31 rfl))) (ww hw 31 rfl) (ww hw 30 rfl) (by decide) (ww hw 32 rfl) (ww hw 5 rfl) er7 f41 (rm4_24 l Z a0 hw [] br2 b1 b4 b3 k1 Tr6.heap n0 Z_4 f33 f35 f30) (st := [(.ref br2)]) rfl 0 rfl (by decide) (pc := 97) (Ls := (lc8 i0 i1 i2 w0 z1 z2 br2 1 0)) hml rfl (lenOf pd_2 rfl) at_97 hby
            obtain ⟨rfl, Nr8q, er8⟩ := hQr8
            have N6 := Fr.app N5 Nr8q
            have hc13 : ¬ ((((i0.toUInt32 >>> ((1 : Int32) &&& 31).toUInt32).toInt32) % (3 : Int32)) < (2 : Int32)) := hk4
            have hs14 : ¬ (z1 < (2 : Int32)) := by rw [hz1]; exact hc13
            refine own_go (U' := Tr8.setTop (mkF m 104 (lc25 i0 i1 i2 w0 z1 z2 br2 1 0 b3) [(.int 1)])) (fun t k => oicN Xr5 hx hby at_76 (flt hs14).1 (oaload Xr5 hx hby at_79 rfl rfl (olload Xr5 hx hby at_81 rfl (onull Xr5 hx hby at_83 (str6 _ (opop Xr6 hx hby at_87 rfl (oaload Xr6 hx hby at_88 rfl rfl (str7 _ (oistore Xr7 hx hby at_93 (lc8 i0 i1 i2 w0 z1 z2 br2 1 0) rfl (oaload Xr7 hx hby at_95 rfl rfl (str8 _ (oastore Xr8 hx hby at_100 (lc25 i0 i1 i2 w0 z1 z2 br2 1 0 b3) rfl rfl (oiload Xr8 hx hby at_102 rfl k))))))))))))) ?_
            refine own_go (U' := Tr8.setTop (mkF m 111 (lc25 i0 i1 i2 w0 z1 z2 br2 1 0 b3) [(.int z1), (.int 0)])) (fun t k => oifN Xr8 hx hby at_104 (by decide) (oiload Xr8 hx hby at_107 rfl (oiload Xr8 hx hby at_109 rfl k))) ?_
            have hc11 : ¬ ((((i0.toUInt32 >>> ((1 : Int32) &&& 31).toUInt32).toInt32) % (3 : Int32)) = (0 : Int32)) := (fun e => by have := congrArg Int32.toInt e; have : ¬ ((((i0.toUInt32 >>> ((1 : Int32) &&& 31).toUInt32).toInt32) % (3 : Int32))).toInt < ((1 : Int32)).toInt := fun e => hk3 (Int32.lt_iff_toInt_lt.mpr e); have := c_iushr i0 (1 : Int32) 1 (by decide) (by decide); have := rng32 i0; have := c_irem ((i0.toUInt32 >>> ((1 : Int32) &&& 31).toUInt32).toInt32) (3 : Int32) 3 (by decide); have := Int.emod_nonneg (((i0.toUInt32 >>> ((1 : Int32) &&& 31).toUInt32).toInt32)).toInt (show (3 : Int) ≠ 0 by decide); have := Int.emod_lt_of_pos (((i0.toUInt32 >>> ((1 : Int32) &&& 31).toUInt32).toInt32)).toInt (show (0 : Int) < 3 by decide); have := (by decide : ((0 : Int32)).toInt = 0); have := (by decide : ((1 : Int32)).toInt = 1); omega)
            have hs12 : ¬ (z1 = (0 : Int32)) := by rw [hz1]; exact hc11
            refine own_go (U' := Tr8.setTop (mkF m 119 (lc25 i0 i1 i2 w0 z1 z2 br2 1 0 b3) [(.int 0), (.int 0)])) (fun t k => oifY (pc := 111) Xr8 hx hby at_111 118 ((if0 _ _).trans (feq hs12).2) (by decide) (oiconst Xr8 hx hby at_118 k)) ?_
            refine own_go (U' := Tr8.setTop (mkF m 134 (lc25 i0 i1 i2 w0 z1 z2 br2 1 0 b3) [(.int z1), (.int 0)])) (fun t k => oicN Xr8 hx hby at_119 (by decide) (oaload Xr8 hx hby at_122 rfl rfl (onnY (pc := 124) Xr8 hx hby at_124 131 (by decide) (oiconst Xr8 hx hby at_131 (oiload Xr8 hx hby at_132 rfl k))))) ?_
            refine own_go (U' := Tr8.setTop (mkF m 142 (lc25 i0 i1 i2 w0 z1 z2 br2 1 0 b3) [(.int 0), (.int 0)])) (fun t k => oifY (pc := 134) Xr8 hx hby at_134 141 ((if0 _ _).trans (feq hs12).2) (by decide) (oiconst Xr8 hx hby at_141 k)) ?_
            have f42 : Exa Z Tr6.heap b3 zs0 := (f24.keep Kr6)
            have ne4 : br2 ≠ b3 := Nat.ne_of_lt (Nat.lt_of_lt_of_le (Nat.lt_of_lt_of_le (f1.lt) Kr3.1) sz3)
            have ne5 : b2 ≠ b3 := Nat.ne_of_lt (Nat.lt_of_lt_of_le (f13.lt) sz3)
            have ne6 : b1 ≠ b3 := Nat.ne_of_lt (Nat.lt_of_lt_of_le (f11.lt) sz3)
            have f43 : Fld Z Tr6.heap b3 zs0 "first" zs10 .null := (f27.keep Kr6 (ninS (Ne.symm ne6) (ninS (Ne.symm ne5) (ninS (Ne.symm ne4) nin0))))
            have ne7 : br2 ≠ b4 := Nat.ne_of_lt (Nat.lt_of_lt_of_le (Nat.lt_of_lt_of_le (Nat.lt_of_lt_of_le (f1.lt) Kr3.1) Kr5.1) sz4)
            have ne8 : b1 ≠ b4 := Nat.ne_of_lt (Nat.lt_of_lt_of_le (Nat.lt_of_lt_of_le (f11.lt) Kr5.1) sz4)
            obtain ⟨_, Tr9, Lr9, Xr9, hQr9, str9⟩ := ocallV Xr8 hx hZ zm9 zm9 hown (ww hw 70 rfl) (ww hw 71 rfl) (notFace_of_selects (args := #[]) (mvT hZ (ww hw 73 rfl))) (ww hw 73 rfl) (ww hw 72 rfl) (by decide) (ww hw 74 rfl) (ww hw 5 rfl) er8 f41 (rm10_25 l Z a0 hw [] br2 b3 w0 b2 b1 b4 k1 Tr6.heap n0 Z_4 f36 f32 f33 f34 f35 f41 g1 f30 (Ne.symm ne2) f42 f43 (Ne.symm ne4) g2 f37 f40 (Ne.symm ne7) (Ne.symm ne8)) (st := [(.ref b3), (.ref br2)]) rfl 0 rfl (by decide) (pc := 161) (Ls := (lc26 i0 i1 i2 w0 z1 z2 br2 1 0 b3 1)) hml rfl (lenOf pd_8 rfl) at_161 hby
            obtain ⟨rfl, Nr9q, Kr9, f44, f45, f46, f47, f48, f49⟩ := hQr9
            have N7 := Fr.app N6 Nr9q
            refine own_go (U' := Tr9.setTop (mkF m 166 (lc26 i0 i1 i2 w0 z1 z2 br2 1 0 b3 1) [(.int 1)])) (fun t k => oicN Xr8 hx hby at_142 (by decide) (oiconst Xr8 hx hby at_145 (ogoto (pc := 146) Xr8 hx hby at_146 150 (by decide) (oistore Xr8 hx hby at_150 (lc26 i0 i1 i2 w0 z1 z2 br2 1 0 b3 1) rfl (oaload Xr8 hx hby at_152 rfl rfl (onlN Xr8 hx hby at_154 (oaload Xr8 hx hby at_157 rfl rfl (oaload Xr8 hx hby at_159 rfl rfl (str9 _ (oiload Xr9 hx hby at_164 rfl k)))))))))) ?_
            have f50 : Exa Z Tr9.heap br2 zs1 := (f41.keep Kr9)
            have Z_5 : n0 ≤ Tr9.heap.size := Nat.le_trans Z_4 Kr9.1
            obtain ⟨_, Tr10, Lr10, Xr10, hQr10, str10⟩ := ocallV Xr9 hx hZ zm1 zm1 hown (ww hw 21 rfl) (ww hw 22 rfl) (notFace_of_selects (args := #[]) (mvT hZ (ww hw 24 rfl))) (ww hw 24 rfl) (ww hw 23 rfl) (by decide) (ww hw 25 rfl) (ww hw 5 rfl) rfl f50 (rm3_1 l Z a0 hw [] br2 Tr9.heap n0 Z_5 f46) (st := [(.ref br2)]) rfl 0 rfl (by decide) (pc := 171) (Ls := (lc26 i0 i1 i2 w0 z1 z2 br2 1 0 b3 1)) hml rfl (lenOf pd_1 rfl) at_171 hby
            obtain ⟨rfl, Nr10q, er10⟩ := hQr10
            have N8 := Fr.app N7 Nr10q
            refine own_go (U' := Tr10.setTop (mkF m 174 (lc26 i0 i1 i2 w0 z1 z2 br2 1 0 b3 1) [(.int 1)])) (fun t k => oifN Xr9 hx hby at_166 (by decide) (oaload Xr9 hx hby at_169 rfl rfl (str10 _ k))) ?_
            refine own_go (U' := Tr10.setTop (mkF m 186 (lc26 i0 i1 i2 w0 z1 z2 br2 1 0 b3 1) [(.int 1)])) (fun t k => oifN Xr10 hx hby at_174 (by decide) (oiconst Xr10 hx hby at_177 (ogoto (pc := 178) Xr10 hx hby at_178 182 (by decide) (oistore Xr10 hx hby at_182 (lc26 i0 i1 i2 w0 z1 z2 br2 1 0 b3 1) rfl (oiload Xr10 hx hby at_184 rfl k))))) ?_
            obtain ⟨fs, hr, hrun, hended, hW, hsame⟩ := Xr10.leave (v := some (.int 1)) (fun h => by rw [Bd.returns] at h; cases h)
            refine own_out ⟨_, _, ?_, hrun, hended, _, _, rfl, ?_, ⟨_, rfl⟩, hW, hsame.mono (by decide) (by decide)⟩
            · exact retN Xr10 hx (t := .boolean) Bd.returns (by simp) (hb hby at_186) hr
            · exact ⟨rfl, N8⟩
    · obtain ⟨Tr2, hr2, Xr2, er2, Er2, Ar2, Dr2, -, str2⟩ := newO Xr1 hx hZ hown (ww hw 3 rfl) (ww hw 4 rfl) (ww hw 5 rfl) er1 (g := (mkF m 41 (lc3 i0 i1 i2 w0 z1 i2) [])) rfl (hb hby at_41) (by decide) (by decide)
      obtain ⟨br2, gr2⟩ : ∃ z, z = h0.size := ⟨_, rfl⟩
      rw [← gr2] at Ar2 Dr2 str2
      have f1 : Fld Z hr2 br2 zs1 "levels" zs2 .null := Dr2 (Or.inl (ww hw 15 rfl)) (ty := (.array (.object zs0))) (by decide)
      have f2 : Fld Z hr2 br2 zs1 "ranks" "[J" .null := Dr2 (Or.inl (ww hw 18 rfl)) (ty := (.array .long)) (by decide)
      have f3 : Fld Z hr2 br2 zs1 "side" zs3 .null := Dr2 (Or.inr (ww hw 20 rfl)) (ty := (.object zs5)) (by decide)
      have f4 : Fld Z hr2 br2 zs1 "count" "I" (.int 0) := Dr2 (Or.inl (ww hw 27 rfl)) (ty := .int) (by decide)
      have f5 : Fld Z hr2 br2 zs1 "emptyLevels" "I" (.int 0) := Dr2 (Or.inl (ww hw 76 rfl)) (ty := .int) (by decide)
      have g1 : n0 ≤ br2 := Nat.le_trans Z0 (Nat.le_of_eq gr2.symm)
      have Z_1 : n0 ≤ hr2.size := Nat.le_trans Z0 Er2.1
      obtain ⟨_, Tr3, Lr3, Xr3, hQr3, str3⟩ := ocallI Xr2 hx hZ zm0 rfl hown (ww hw 6 rfl) (ww hw 7 rfl) (by decide) (ww hw 8 rfl) (ww hw 5 rfl) er2 (rm1_0 l Z a0 hw [] br2 w0 hr2 n0 Z_1 f1 f2 f3 f4 f5 Ar2 g1) (st := [(.ref w0), (.ref br2), (.ref br2)]) rfl 1 rfl (by decide) (pc := 47) (Ls := (lc3 i0 i1 i2 w0 z1 i2)) hml rfl (lenOf pd_0 rfl) at_47 hby
      obtain ⟨b1, b2, k1, k2, rfl, Nr3q, Kr3, sz1, sz2, ne1, O1, f6, f7, f8, f9, f10, f11, f12, f13, f14⟩ := hQr3
      have N1 := Fr.app N0 Nr3q
      have f15 : Exa Z Tr3.heap br2 zs1 := (Ar2.keep Kr3)
      have Z_2 : n0 ≤ Tr3.heap.size := Nat.le_trans Z_1 Kr3.1
      obtain ⟨_, Tr4, Lr4, Xr4, hQr4, str4⟩ := ocallV Xr3 hx hZ zm1 zm1 hown (ww hw 21 rfl) (ww hw 22 rfl) (notFace_of_selects (args := #[]) (mvT hZ (ww hw 24 rfl))) (ww hw 24 rfl) (ww hw 23 rfl) (by decide) (ww hw 25 rfl) (ww hw 5 rfl) rfl f15 (rm3_1 l Z a0 hw [] br2 Tr3.heap n0 Z_2 f9) (st := [(.ref br2)]) rfl 0 rfl (by decide) (pc := 54) (Ls := (lc5 i0 i1 i2 w0 z1 i2 br2)) hml rfl (lenOf pd_1 rfl) at_54 hby
      obtain ⟨rfl, Nr4q, er4⟩ := hQr4
      have N2 := Fr.app N1 Nr4q
      have hc27 : ¬ (i2 = i1) := hk2
      refine own_go (U' := Tr4.setTop (mkF m 62 (lc7 i0 i1 i2 w0 z1 i2 br2 1) [(.int 1), (.int z1)])) (fun t k => oifY (pc := 27) Xr1 hx hby at_27 38 (own_ll_ne_t hc27) (by decide) (olloadN Xr1 hx hby at_38 rfl (olstore Xr1 hx hby at_39 (lc3 i0 i1 i2 w0 z1 i2) rfl (str2 _ (odup Xr2 hx hby at_44 rfl (oaload Xr2 hx hby at_45 rfl rfl (str3 _ (oastore Xr3 hx hby at_50 (lc5 i0 i1 i2 w0 z1 i2 br2) rfl rfl (oaload Xr3 hx hby at_52 rfl rfl (str4 _ (oistore Xr4 hx hby at_57 (lc7 i0 i1 i2 w0 z1 i2 br2 1) rfl (oiload Xr4 hx hby at_59 rfl (oiconst Xr4 hx hby at_61 k))))))))))))) ?_
      by_cases hk6 : (((i0.toUInt32 >>> ((1 : Int32) &&& 31).toUInt32).toInt32) % (3 : Int32)) < (1 : Int32)
      · have hc2 : (((i0.toUInt32 >>> ((1 : Int32) &&& 31).toUInt32).toInt32) % (3 : Int32)) < (1 : Int32) := hk6
        have hs3 : z1 < (1 : Int32) := by rw [hz1]; exact hc2
        refine own_go (U' := Tr4.setTop (mkF m 76 (lc7 i0 i1 i2 w0 z1 i2 br2 1) [(.int 2), (.int z1)])) (fun t k => oicY (pc := 62) Xr4 hx hby at_62 73 (tlt hs3).1 (by decide) (oiload Xr4 hx hby at_73 rfl (oiconst Xr4 hx hby at_75 k))) ?_
        obtain ⟨_, Tr5, Lr5, Xr5, hQr5, str5⟩ := ocallV Xr4 hx hZ zm1 zm1 hown (ww hw 21 rfl) (ww hw 22 rfl) (notFace_of_selects (args := #[]) (mvT hZ (ww hw 24 rfl))) (ww hw 24 rfl) (ww hw 23 rfl) (by decide) (ww hw 25 rfl) (ww hw 5 rfl) er4 f15 (rm3_1 l Z a0 hw [] br2 Tr3.heap n0 Z_2 f9) (st := [(.ref br2)]) rfl 0 rfl (by decide) (pc := 90) (Ls := (lc7 i0 i1 i2 w0 z1 i2 br2 1)) hml rfl (lenOf pd_1 rfl) at_90 hby
        obtain ⟨rfl, Nr5q, er5⟩ := hQr5
        have N3 := Fr.app N2 Nr5q
        obtain ⟨_, Tr6, Lr6, Xr6, hQr6, str6⟩ := ocallV Xr5 hx hZ zm2 zm2 hown (ww hw 28 rfl) (ww hw 29 rfl) (notFace_of_selects (args := #[]) (mvT hZ (ww hw 31 rfl))) (ww hw 31 rfl) (ww hw 30 rfl) (by decide) (ww hw 32 rfl) (ww hw 5 rfl) er5 f15 (rm4_2 l Z a0 hw [] br2 Tr3.heap n0 Z_2 f9) (st := [(.ref br2)]) rfl 0 rfl (by decide) (pc := 97) (Ls := (lc8 i0 i1 i2 w0 z1 i2 br2 1 1)) hml rfl (lenOf pd_2 rfl) at_97 hby
        obtain ⟨rfl, Nr6q, er6⟩ := hQr6
        have N4 := Fr.app N3 Nr6q
        have hc4 : (((i0.toUInt32 >>> ((1 : Int32) &&& 31).toUInt32).toInt32) % (3 : Int32)) < (2 : Int32) := (Int32.lt_iff_toInt_lt.mpr (by have := Int32.lt_iff_toInt_lt.mp hk6; have := c_iushr i0 (1 : Int32) 1 (by decide) (by decide); have := rng32 i0; have := c_irem ((i0.toUInt32 >>> ((1 : Int32) &&& 31).toUInt32).toInt32) (3 : Int32) 3 (by decide); have := Int.emod_nonneg (((i0.toUInt32 >>> ((1 : Int32) &&& 31).toUInt32).toInt32)).toInt (show (3 : Int) ≠ 0 by decide); have := Int.emod_lt_of_pos (((i0.toUInt32 >>> ((1 : Int32) &&& 31).toUInt32).toInt32)).toInt (show (0 : Int) < 3 by decide); have := (by decide : ((2 : Int32)).toInt = 2); have := (by decide : ((1 : Int32)).toInt = 1); omega))
        have hs5 : z1 < (2 : Int32) := by rw [hz1]; exact hc4
        refine own_go (U' := Tr6.setTop (mkF m 104 (lc9 i0 i1 i2 w0 z1 i2 br2 1 1) [(.int 1)])) (fun t k => oicY (pc := 76) Xr4 hx hby at_76 88 (tlt hs5).1 (by decide) (oaload Xr4 hx hby at_88 rfl rfl (str5 _ (oistore Xr5 hx hby at_93 (lc8 i0 i1 i2 w0 z1 i2 br2 1 1) rfl (oaload Xr5 hx hby at_95 rfl rfl (str6 _ (oastore Xr6 hx hby at_100 (lc9 i0 i1 i2 w0 z1 i2 br2 1 1) rfl rfl (oiload Xr6 hx hby at_102 rfl k)))))))) ?_
        refine own_go (U' := Tr6.setTop (mkF m 111 (lc9 i0 i1 i2 w0 z1 i2 br2 1 1) [(.int z1), (.int 1)])) (fun t k => oifN Xr6 hx hby at_104 (by decide) (oiload Xr6 hx hby at_107 rfl (oiload Xr6 hx hby at_109 rfl k))) ?_
        have hc6 : (((i0.toUInt32 >>> ((1 : Int32) &&& 31).toUInt32).toInt32) % (3 : Int32)) = (0 : Int32) := (Int32.toInt_inj.mp (by have := Int32.lt_iff_toInt_lt.mp hk6; have := c_iushr i0 (1 : Int32) 1 (by decide) (by decide); have := rng32 i0; have := c_irem ((i0.toUInt32 >>> ((1 : Int32) &&& 31).toUInt32).toInt32) (3 : Int32) 3 (by decide); have := Int.emod_nonneg (((i0.toUInt32 >>> ((1 : Int32) &&& 31).toUInt32).toInt32)).toInt (show (3 : Int) ≠ 0 by decide); have := Int.emod_lt_of_pos (((i0.toUInt32 >>> ((1 : Int32) &&& 31).toUInt32).toInt32)).toInt (show (0 : Int) < 3 by decide); have := (by decide : ((0 : Int32)).toInt = 0); have := (by decide : ((1 : Int32)).toInt = 1); omega))
        have hs7 : z1 = (0 : Int32) := by rw [hz1]; exact hc6
        refine own_go (U' := Tr6.setTop (mkF m 119 (lc9 i0 i1 i2 w0 z1 i2 br2 1 1) [(.int 1), (.int 1)])) (fun t k => oifN Xr6 hx hby at_111 ((if0 _ _).trans (teq hs7).2) (oiconst Xr6 hx hby at_114 (ogoto (pc := 115) Xr6 hx hby at_115 119 (by decide) k))) ?_
        refine own_go (U' := Tr6.setTop (mkF m 134 (lc9 i0 i1 i2 w0 z1 i2 br2 1 1) [(.int z1), (.int 1)])) (fun t k => oicN Xr6 hx hby at_119 (by decide) (oaload Xr6 hx hby at_122 rfl rfl (onnN Xr6 hx hby at_124 (oiconst Xr6 hx hby at_127 (ogoto (pc := 128) Xr6 hx hby at_128 132 (by decide) (oiload Xr6 hx hby at_132 rfl k)))))) ?_
        refine own_go (U' := Tr6.setTop (mkF m 142 (lc9 i0 i1 i2 w0 z1 i2 br2 1 1) [(.int 1), (.int 1)])) (fun t k => oifN Xr6 hx hby at_134 ((if0 _ _).trans (teq hs7).2) (oiconst Xr6 hx hby at_137 (ogoto (pc := 138) Xr6 hx hby at_138 142 (by decide) k))) ?_
        refine own_go (U' := Tr6.setTop (mkF m 186 (lc10 i0 i1 i2 w0 z1 i2 br2 1 1 1) [(.int 1)])) (fun t k => oicN Xr6 hx hby at_142 (by decide) (oiconst Xr6 hx hby at_145 (ogoto (pc := 146) Xr6 hx hby at_146 150 (by decide) (oistore Xr6 hx hby at_150 (lc10 i0 i1 i2 w0 z1 i2 br2 1 1 1) rfl (oaload Xr6 hx hby at_152 rfl rfl (onlY (pc := 154) Xr6 hx hby at_154 184 (by decide) (oiload Xr6 hx hby at_184 rfl k))))))) ?_
        obtain ⟨fs, hr, hrun, hended, hW, hsame⟩ := Xr6.leave (v := some (.int 1)) (fun h => by rw [Bd.returns] at h; cases h)
        refine own_out ⟨_, _, ?_, hrun, hended, _, _, rfl, ?_, ⟨_, rfl⟩, hW, hsame.mono (by decide) (by decide)⟩
        · exact retN Xr6 hx (t := .boolean) Bd.returns (by simp) (hb hby at_186) hr
        · exact ⟨rfl, N4⟩
      · have f16 : Sta Z Tr3.heap zs5 "BUY" zs3 (.ref w1) := (own_staK (Sta.ext Er2 S2) Kr3 (allS (own_nsF f1) all0))
        have g2 : n0 ≤ b1 := Nat.le_trans Z_1 sz1
        have ne2 : br2 ≠ b1 := Nat.ne_of_lt (Nat.lt_of_lt_of_le (f1.lt) sz1)
        have g3 : n0 ≤ b2 := Nat.le_trans Z_1 sz2
        have ne3 : br2 ≠ b2 := Nat.ne_of_lt (Nat.lt_of_lt_of_le (f1.lt) sz2)
        have ha10 : w0 ≠ w1 := (Fld.ne S4 S5 (by decide))
        by_cases hk7 : (((i0.toUInt32 >>> ((1 : Int32) &&& 31).toUInt32).toInt32) % (3 : Int32)) < (2 : Int32)
        · obtain ⟨_, Tr5, Lr5, Xr5, hQr5, str5⟩ := ocallV Xr4 hx hZ zm7 zm7 hown (ww hw 33 rfl) (ww hw 34 rfl) (notFace_of_selects (args := #[]) (mvT hZ (ww hw 36 rfl))) (ww hw 36 rfl) (ww hw 35 rfl) (by decide) (ww hw 37 rfl) (ww hw 5 rfl) er4 f15 (rm5_10 l Z a0 hw [] br2 i1 w0 w1 b1 k1 b2 k2 Tr3.heap n0 Z_2 f8 f16 ha10 f15 f9 f6 f12 g2 O1 f7 ne2 f14 (Ne.symm ne1) g3 ne3 f10 g1) (st := [.null, (.long i1), (.ref br2)]) rfl 0 rfl (by decide) (pc := 69) (Ls := (lc7 i0 i1 i2 w0 z1 i2 br2 1)) hml rfl (lenOf pd_7 rfl) at_69 hby
          obtain ⟨b3, rfl, Nr5q, Kr5, sz3, f17, f18, f19, f20, f21, f22, f23, f24, f25, f26, f27⟩ := hQr5
          have N3 := Fr.app N2 Nr5q
          have hc8 : ¬ ((((i0.toUInt32 >>> ((1 : Int32) &&& 31).toUInt32).toInt32) % (3 : Int32)) < (1 : Int32)) := hk6
          have hs9 : ¬ (z1 < (1 : Int32)) := by rw [hz1]; exact hc8
          refine own_go (U' := Tr5.setTop (mkF m 76 (lc7 i0 i1 i2 w0 z1 i2 br2 1) [(.int 2), (.int z1)])) (fun t k => oicN Xr4 hx hby at_62 (flt hs9).1 (oaload Xr4 hx hby at_65 rfl rfl (olloadN Xr4 hx hby at_67 rfl (onull Xr4 hx hby at_68 (str5 _ (opop Xr5 hx hby at_72 rfl (oiload Xr5 hx hby at_73 rfl (oiconst Xr5 hx hby at_75 k)))))))) ?_
          have f28 : Exa Z Tr5.heap br2 zs1 := (f15.keep Kr5)
          have Z_3 : n0 ≤ Tr5.heap.size := Nat.le_trans Z_2 Kr5.1
          obtain ⟨_, Tr6, Lr6, Xr6, hQr6, str6⟩ := ocallV Xr5 hx hZ zm1 zm1 hown (ww hw 21 rfl) (ww hw 22 rfl) (notFace_of_selects (args := #[]) (mvT hZ (ww hw 24 rfl))) (ww hw 24 rfl) (ww hw 23 rfl) (by decide) (ww hw 25 rfl) (ww hw 5 rfl) rfl f28 (rm3_11 l Z a0 hw [] br2 Tr5.heap n0 Z_3 f20) (st := [(.ref br2)]) rfl 0 rfl (by decide) (pc := 90) (Ls := (lc7 i0 i1 i2 w0 z1 i2 br2 1)) hml rfl (lenOf pd_1 rfl) at_90 hby
          obtain ⟨rfl, Nr6q, er6⟩ := hQr6
          have N4 := Fr.app N3 Nr6q
          obtain ⟨_, Tr7, Lr7, Xr7, hQr7, str7⟩ := ocallV Xr6 hx hZ zm2 zm2 hown (ww hw 28 rfl) (ww hw 29 rfl) (notFace_of_selects (args := #[]) (mvT hZ (ww hw 31 rfl))) (ww hw 31 rfl) (ww hw 30 rfl) (by decide) (ww hw 32 rfl) (ww hw 5 rfl) er6 f28 (rm4_12 l Z a0 hw [] br2 b1 b3 k1 Tr5.heap n0 Z_3 f20 f21 f17) (st := [(.ref br2)]) rfl 0 rfl (by decide) (pc := 97) (Ls := (lc8 i0 i1 i2 w0 z1 i2 br2 1 0)) hml rfl (lenOf pd_2 rfl) at_97 hby
          obtain ⟨rfl, Nr7q, er7⟩ := hQr7
          have N5 := Fr.app N4 Nr7q
          have hc4 : (((i0.toUInt32 >>> ((1 : Int32) &&& 31).toUInt32).toInt32) % (3 : Int32)) < (2 : Int32) := hk7
          have hs5 : z1 < (2 : Int32) := by rw [hz1]; exact hc4
          refine own_go (U' := Tr7.setTop (mkF m 104 (lc25 i0 i1 i2 w0 z1 i2 br2 1 0 b3) [(.int 1)])) (fun t k => oicY (pc := 76) Xr5 hx hby at_76 88 (tlt hs5).1 (by decide) (oaload Xr5 hx hby at_88 rfl rfl (str6 _ (oistore Xr6 hx hby at_93 (lc8 i0 i1 i2 w0 z1 i2 br2 1 0) rfl (oaload Xr6 hx hby at_95 rfl rfl (str7 _ (oastore Xr7 hx hby at_100 (lc25 i0 i1 i2 w0 z1 i2 br2 1 0 b3) rfl rfl (oiload Xr7 hx hby at_102 rfl k)))))))) ?_
          refine own_go (U' := Tr7.setTop (mkF m 111 (lc25 i0 i1 i2 w0 z1 i2 br2 1 0 b3) [(.int z1), (.int 0)])) (fun t k => oifN Xr7 hx hby at_104 (by decide) (oiload Xr7 hx hby at_107 rfl (oiload Xr7 hx hby at_109 rfl k))) ?_
          have hc11 : ¬ ((((i0.toUInt32 >>> ((1 : Int32) &&& 31).toUInt32).toInt32) % (3 : Int32)) = (0 : Int32)) := (fun e => by have := congrArg Int32.toInt e; have : ¬ ((((i0.toUInt32 >>> ((1 : Int32) &&& 31).toUInt32).toInt32) % (3 : Int32))).toInt < ((1 : Int32)).toInt := fun e => hk6 (Int32.lt_iff_toInt_lt.mpr e); have := c_iushr i0 (1 : Int32) 1 (by decide) (by decide); have := rng32 i0; have := c_irem ((i0.toUInt32 >>> ((1 : Int32) &&& 31).toUInt32).toInt32) (3 : Int32) 3 (by decide); have := Int.emod_nonneg (((i0.toUInt32 >>> ((1 : Int32) &&& 31).toUInt32).toInt32)).toInt (show (3 : Int) ≠ 0 by decide); have := Int.emod_lt_of_pos (((i0.toUInt32 >>> ((1 : Int32) &&& 31).toUInt32).toInt32)).toInt (show (0 : Int) < 3 by decide); have := (by decide : ((0 : Int32)).toInt = 0); have := (by decide : ((1 : Int32)).toInt = 1); omega)
          have hs12 : ¬ (z1 = (0 : Int32)) := by rw [hz1]; exact hc11
          refine own_go (U' := Tr7.setTop (mkF m 119 (lc25 i0 i1 i2 w0 z1 i2 br2 1 0 b3) [(.int 0), (.int 0)])) (fun t k => oifY (pc := 111) Xr7 hx hby at_111 118 ((if0 _ _).trans (feq hs12).2) (by decide) (oiconst Xr7 hx hby at_118 k)) ?_
          refine own_go (U' := Tr7.setTop (mkF m 134 (lc25 i0 i1 i2 w0 z1 i2 br2 1 0 b3) [(.int z1), (.int 0)])) (fun t k => oicN Xr7 hx hby at_119 (by decide) (oaload Xr7 hx hby at_122 rfl rfl (onnY (pc := 124) Xr7 hx hby at_124 131 (by decide) (oiconst Xr7 hx hby at_131 (oiload Xr7 hx hby at_132 rfl k))))) ?_
          refine own_go (U' := Tr7.setTop (mkF m 142 (lc25 i0 i1 i2 w0 z1 i2 br2 1 0 b3) [(.int 0), (.int 0)])) (fun t k => oifY (pc := 134) Xr7 hx hby at_134 141 ((if0 _ _).trans (feq hs12).2) (by decide) (oiconst Xr7 hx hby at_141 k)) ?_
          have ne4 : br2 ≠ b3 := Nat.ne_of_lt (Nat.lt_of_lt_of_le (Nat.lt_of_lt_of_le (f1.lt) Kr3.1) sz3)
          obtain ⟨_, Tr8, Lr8, Xr8, hQr8, str8⟩ := ocallV Xr7 hx hZ zm9 zm9 hown (ww hw 70 rfl) (ww hw 71 rfl) (notFace_of_selects (args := #[]) (mvT hZ (ww hw 73 rfl))) (ww hw 73 rfl) (ww hw 72 rfl) (by decide) (ww hw 74 rfl) (ww hw 5 rfl) er7 f28 (rm10_14 l Z a0 hw [] br2 b3 w0 b1 b2 k1 Tr5.heap n0 Z_3 f23 f19 f20 f21 f22 f28 g1 f17 (Ne.symm ne2) f24 f27 (Ne.symm ne4) g2) (st := [(.ref b3), (.ref br2)]) rfl 0 rfl (by decide) (pc := 161) (Ls := (lc26 i0 i1 i2 w0 z1 i2 br2 1 0 b3 1)) hml rfl (lenOf pd_8 rfl) at_161 hby
          obtain ⟨rfl, Nr8q, Kr8, f29, f30, f31, f32, f33, f34⟩ := hQr8
          have N6 := Fr.app N5 Nr8q
          refine own_go (U' := Tr8.setTop (mkF m 166 (lc26 i0 i1 i2 w0 z1 i2 br2 1 0 b3 1) [(.int 1)])) (fun t k => oicN Xr7 hx hby at_142 (by decide) (oiconst Xr7 hx hby at_145 (ogoto (pc := 146) Xr7 hx hby at_146 150 (by decide) (oistore Xr7 hx hby at_150 (lc26 i0 i1 i2 w0 z1 i2 br2 1 0 b3 1) rfl (oaload Xr7 hx hby at_152 rfl rfl (onlN Xr7 hx hby at_154 (oaload Xr7 hx hby at_157 rfl rfl (oaload Xr7 hx hby at_159 rfl rfl (str8 _ (oiload Xr8 hx hby at_164 rfl k)))))))))) ?_
          have f35 : Exa Z Tr8.heap br2 zs1 := (f28.keep Kr8)
          have Z_4 : n0 ≤ Tr8.heap.size := Nat.le_trans Z_3 Kr8.1
          obtain ⟨_, Tr9, Lr9, Xr9, hQr9, str9⟩ := ocallV Xr8 hx hZ zm1 zm1 hown (ww hw 21 rfl) (ww hw 22 rfl) (notFace_of_selects (args := #[]) (mvT hZ (ww hw 24 rfl))) (ww hw 24 rfl) (ww hw 23 rfl) (by decide) (ww hw 25 rfl) (ww hw 5 rfl) rfl f35 (rm3_1 l Z a0 hw [] br2 Tr8.heap n0 Z_4 f31) (st := [(.ref br2)]) rfl 0 rfl (by decide) (pc := 171) (Ls := (lc26 i0 i1 i2 w0 z1 i2 br2 1 0 b3 1)) hml rfl (lenOf pd_1 rfl) at_171 hby
          obtain ⟨rfl, Nr9q, er9⟩ := hQr9
          have N7 := Fr.app N6 Nr9q
          refine own_go (U' := Tr9.setTop (mkF m 174 (lc26 i0 i1 i2 w0 z1 i2 br2 1 0 b3 1) [(.int 1)])) (fun t k => oifN Xr8 hx hby at_166 (by decide) (oaload Xr8 hx hby at_169 rfl rfl (str9 _ k))) ?_
          refine own_go (U' := Tr9.setTop (mkF m 186 (lc26 i0 i1 i2 w0 z1 i2 br2 1 0 b3 1) [(.int 1)])) (fun t k => oifN Xr9 hx hby at_174 (by decide) (oiconst Xr9 hx hby at_177 (ogoto (pc := 178) Xr9 hx hby at_178 182 (by decide) (oistore Xr9 hx hby at_182 (lc26 i0 i1 i2 w0 z1 i2 br2 1 0 b3 1) rfl (oiload Xr9 hx hby at_184 rfl k))))) ?_
          obtain ⟨fs, hr, hrun, hended, hW, hsame⟩ := Xr9.leave (v := some (.int 1)) (fun h => by rw [Bd.returns] at h; cases h)
          refine own_out ⟨_, _, ?_, hrun, hended, _, _, rfl, ?_, ⟨_, rfl⟩, hW, hsame.mono (by decide) (by decide)⟩
          · exact retN Xr9 hx (t := .boolean) Bd.returns (by simp) (hb hby at_186) hr
          · exact ⟨rfl, N7⟩
        · by_cases hk8 : (i1 ^^^ (-1 : Int64)) < (i2 ^^^ (-1 : Int64))
          · have hc17 : ¬ ((i1 ^^^ (-1 : Int64)) = (9223372036854775807 : Int64)) := (fun e => by have := congrArg Int64.toInt e; have := Int64.lt_iff_toInt_lt.mp hk8; have := rng64 i1; have := own_xnJ i1; have := (by decide : ((9223372036854775807 : Int64)).toInt = 9223372036854775807); have := rng64 i2; have := own_xnJ i2; omega)
            obtain ⟨_, Tr5, Lr5, Xr5, hQr5, str5⟩ := ocallV Xr4 hx hZ zm7 zm7 hown (ww hw 33 rfl) (ww hw 34 rfl) (notFace_of_selects (args := #[]) (mvT hZ (ww hw 36 rfl))) (ww hw 36 rfl) (ww hw 35 rfl) (by decide) (ww hw 37 rfl) (ww hw 5 rfl) er4 f15 (rm5_18 l Z a0 hw [] br2 i1 w0 w1 b1 k1 b2 k2 Tr3.heap n0 Z_2 f8 f16 ha10 f15 f9 hc17 f6 f12 g2 O1 f7 ne2 f14 (Ne.symm ne1) g3 ne3 f10 g1) (st := [.null, (.long i1), (.ref br2)]) rfl 0 rfl (by decide) (pc := 69) (Ls := (lc7 i0 i1 i2 w0 z1 i2 br2 1)) hml rfl (lenOf pd_7 rfl) at_69 hby
            obtain ⟨b3, rfl, Nr5q, Kr5, sz3, f17, f18, f19, f20, f21, f22, f23, f24, f25, f26, f27⟩ := hQr5
            have N3 := Fr.app N2 Nr5q
            have hc8 : ¬ ((((i0.toUInt32 >>> ((1 : Int32) &&& 31).toUInt32).toInt32) % (3 : Int32)) < (1 : Int32)) := hk6
            have hs9 : ¬ (z1 < (1 : Int32)) := by rw [hz1]; exact hc8
            refine own_go (U' := Tr5.setTop (mkF m 76 (lc7 i0 i1 i2 w0 z1 i2 br2 1) [(.int 2), (.int z1)])) (fun t k => oicN Xr4 hx hby at_62 (flt hs9).1 (oaload Xr4 hx hby at_65 rfl rfl (olloadN Xr4 hx hby at_67 rfl (onull Xr4 hx hby at_68 (str5 _ (opop Xr5 hx hby at_72 rfl (oiload Xr5 hx hby at_73 rfl (oiconst Xr5 hx hby at_75 k)))))))) ?_
            have f28 : Exa Z Tr5.heap br2 zs1 := (f15.keep Kr5)
            have f29 : Sta Z Tr5.heap zs5 "BUY" zs3 (.ref w1) := (own_staK f16 Kr5 (allS (own_nsE f11) (allS (own_nsE f13) (allS (own_nsE (Ar2.keep Kr3)) all0))))
            have Z_3 : n0 ≤ Tr5.heap.size := Nat.le_trans Z_2 Kr5.1
            have hc29 : (i1 ^^^ (-1 : Int64)) < (i2 ^^^ (-1 : Int64)) := hk8
            have hc30 : ¬ ((i2 ^^^ (-1 : Int64)) = (-9223372036854775808 : Int64)) := (fun e => by have := congrArg Int64.toInt e; have := Int64.lt_iff_toInt_lt.mp hk8; have := rng64 i2; have := own_xnJ i2; have := (by decide : ((-9223372036854775808 : Int64)).toInt = -9223372036854775808); have := rng64 i1; have := own_xnJ i1; omega)
            obtain ⟨_, Tr6, Lr6, Xr6, hQr6, str6⟩ := ocallV Xr5 hx hZ zm7 zm7 hown (ww hw 33 rfl) (ww hw 34 rfl) (notFace_of_selects (args := #[]) (mvT hZ (ww hw 36 rfl))) (ww hw 36 rfl) (ww hw 35 rfl) (by decide) (ww hw 37 rfl) (ww hw 5 rfl) rfl f28 (rm5_22 l Z a0 hw [] br2 i2 w0 w1 b2 (i1 ^^^ (-1 : Int64)) k2 b1 b3 k1 Tr5.heap n0 Z_3 f19 f29 ha10 f28 f20 f22 f18 hc29 hc30 f21 f17 g2 O1 ne2 (Ne.symm ne1) g3 ne3 f23 g1) (st := [.null, (.long i2), (.ref br2)]) rfl 0 rfl (by decide) (pc := 84) (Ls := (lc7 i0 i1 i2 w0 z1 i2 br2 1)) hml rfl (lenOf pd_7 rfl) at_84 hby
            obtain ⟨b4, rfl, Nr6q, Kr6, sz4, f30, f31, f32, f33, f34, f35, f36, f37, f38, f39, f40⟩ := hQr6
            have N4 := Fr.app N3 Nr6q
            have f41 : Exa Z Tr6.heap br2 zs1 := (f28.keep Kr6)
            have Z_4 : n0 ≤ Tr6.heap.size := Nat.le_trans Z_3 Kr6.1
            obtain ⟨_, Tr7, Lr7, Xr7, hQr7, str7⟩ := ocallV Xr6 hx hZ zm1 zm1 hown (ww hw 21 rfl) (ww hw 22 rfl) (notFace_of_selects (args := #[]) (mvT hZ (ww hw 24 rfl))) (ww hw 24 rfl) (ww hw 23 rfl) (by decide) (ww hw 25 rfl) (ww hw 5 rfl) rfl f41 (rm3_23 l Z a0 hw [] br2 Tr6.heap n0 Z_4 f33) (st := [(.ref br2)]) rfl 0 rfl (by decide) (pc := 90) (Ls := (lc7 i0 i1 i2 w0 z1 i2 br2 1)) hml rfl (lenOf pd_1 rfl) at_90 hby
            obtain ⟨rfl, Nr7q, er7⟩ := hQr7
            have N5 := Fr.app N4 Nr7q
            obtain ⟨_, Tr8, Lr8, Xr8, hQr8, str8⟩ := ocallV Xr7 hx hZ zm2 zm2 hown (ww hw 28 rfl) (ww hw 29 rfl) (notFace_of_selects (args := #[]) (mvT hZ (ww hw 31 rfl))) (ww hw 31 rfl) (ww hw 30 rfl) (by decide) (ww hw 32 rfl) (ww hw 5 rfl) er7 f41 (rm4_24 l Z a0 hw [] br2 b1 b3 b4 k1 Tr6.heap n0 Z_4 f33 f35 f30) (st := [(.ref br2)]) rfl 0 rfl (by decide) (pc := 97) (Ls := (lc8 i0 i1 i2 w0 z1 i2 br2 1 0)) hml rfl (lenOf pd_2 rfl) at_97 hby
            obtain ⟨rfl, Nr8q, er8⟩ := hQr8
            have N6 := Fr.app N5 Nr8q
            have hc13 : ¬ ((((i0.toUInt32 >>> ((1 : Int32) &&& 31).toUInt32).toInt32) % (3 : Int32)) < (2 : Int32)) := hk7
            have hs14 : ¬ (z1 < (2 : Int32)) := by rw [hz1]; exact hc13
            refine own_go (U' := Tr8.setTop (mkF m 104 (lc25 i0 i1 i2 w0 z1 i2 br2 1 0 b4) [(.int 1)])) (fun t k => oicN Xr5 hx hby at_76 (flt hs14).1 (oaload Xr5 hx hby at_79 rfl rfl (olload Xr5 hx hby at_81 rfl (onull Xr5 hx hby at_83 (str6 _ (opop Xr6 hx hby at_87 rfl (oaload Xr6 hx hby at_88 rfl rfl (str7 _ (oistore Xr7 hx hby at_93 (lc8 i0 i1 i2 w0 z1 i2 br2 1 0) rfl (oaload Xr7 hx hby at_95 rfl rfl (str8 _ (oastore Xr8 hx hby at_100 (lc25 i0 i1 i2 w0 z1 i2 br2 1 0 b4) rfl rfl (oiload Xr8 hx hby at_102 rfl k))))))))))))) ?_
            refine own_go (U' := Tr8.setTop (mkF m 111 (lc25 i0 i1 i2 w0 z1 i2 br2 1 0 b4) [(.int z1), (.int 0)])) (fun t k => oifN Xr8 hx hby at_104 (by decide) (oiload Xr8 hx hby at_107 rfl (oiload Xr8 hx hby at_109 rfl k))) ?_
            have hc11 : ¬ ((((i0.toUInt32 >>> ((1 : Int32) &&& 31).toUInt32).toInt32) % (3 : Int32)) = (0 : Int32)) := (fun e => by have := congrArg Int32.toInt e; have : ¬ ((((i0.toUInt32 >>> ((1 : Int32) &&& 31).toUInt32).toInt32) % (3 : Int32))).toInt < ((1 : Int32)).toInt := fun e => hk6 (Int32.lt_iff_toInt_lt.mpr e); have := c_iushr i0 (1 : Int32) 1 (by decide) (by decide); have := rng32 i0; have := c_irem ((i0.toUInt32 >>> ((1 : Int32) &&& 31).toUInt32).toInt32) (3 : Int32) 3 (by decide); have := Int.emod_nonneg (((i0.toUInt32 >>> ((1 : Int32) &&& 31).toUInt32).toInt32)).toInt (show (3 : Int) ≠ 0 by decide); have := Int.emod_lt_of_pos (((i0.toUInt32 >>> ((1 : Int32) &&& 31).toUInt32).toInt32)).toInt (show (0 : Int) < 3 by decide); have := (by decide : ((0 : Int32)).toInt = 0); have := (by decide : ((1 : Int32)).toInt = 1); omega)
            have hs12 : ¬ (z1 = (0 : Int32)) := by rw [hz1]; exact hc11
            refine own_go (U' := Tr8.setTop (mkF m 119 (lc25 i0 i1 i2 w0 z1 i2 br2 1 0 b4) [(.int 0), (.int 0)])) (fun t k => oifY (pc := 111) Xr8 hx hby at_111 118 ((if0 _ _).trans (feq hs12).2) (by decide) (oiconst Xr8 hx hby at_118 k)) ?_
            refine own_go (U' := Tr8.setTop (mkF m 134 (lc25 i0 i1 i2 w0 z1 i2 br2 1 0 b4) [(.int z1), (.int 0)])) (fun t k => oicN Xr8 hx hby at_119 (by decide) (oaload Xr8 hx hby at_122 rfl rfl (onnY (pc := 124) Xr8 hx hby at_124 131 (by decide) (oiconst Xr8 hx hby at_131 (oiload Xr8 hx hby at_132 rfl k))))) ?_
            refine own_go (U' := Tr8.setTop (mkF m 142 (lc25 i0 i1 i2 w0 z1 i2 br2 1 0 b4) [(.int 0), (.int 0)])) (fun t k => oifY (pc := 134) Xr8 hx hby at_134 141 ((if0 _ _).trans (feq hs12).2) (by decide) (oiconst Xr8 hx hby at_141 k)) ?_
            have ne4 : br2 ≠ b4 := Nat.ne_of_lt (Nat.lt_of_lt_of_le (Nat.lt_of_lt_of_le (Nat.lt_of_lt_of_le (f1.lt) Kr3.1) Kr5.1) sz4)
            have f42 : Exa Z Tr6.heap b3 zs0 := (f24.keep Kr6)
            have ne5 : br2 ≠ b3 := Nat.ne_of_lt (Nat.lt_of_lt_of_le (Nat.lt_of_lt_of_le (f1.lt) Kr3.1) sz3)
            have ne6 : b2 ≠ b3 := Nat.ne_of_lt (Nat.lt_of_lt_of_le (f13.lt) sz3)
            have ne7 : b1 ≠ b3 := Nat.ne_of_lt (Nat.lt_of_lt_of_le (f11.lt) sz3)
            have f43 : Fld Z Tr6.heap b3 zs0 "first" zs10 .null := (f27.keep Kr6 (ninS (Ne.symm ne7) (ninS (Ne.symm ne6) (ninS (Ne.symm ne5) nin0))))
            obtain ⟨_, Tr9, Lr9, Xr9, hQr9, str9⟩ := ocallV Xr8 hx hZ zm9 zm9 hown (ww hw 70 rfl) (ww hw 71 rfl) (notFace_of_selects (args := #[]) (mvT hZ (ww hw 73 rfl))) (ww hw 73 rfl) (ww hw 72 rfl) (by decide) (ww hw 74 rfl) (ww hw 5 rfl) er8 f41 (rm10_25 l Z a0 hw [] br2 b4 w0 b2 b1 b3 k1 Tr6.heap n0 Z_4 f36 f32 f33 f34 f35 f41 g1 f30 (Ne.symm ne2) f37 f40 (Ne.symm ne4) g2 f42 f43 (Ne.symm ne5) (Ne.symm ne7)) (st := [(.ref b4), (.ref br2)]) rfl 0 rfl (by decide) (pc := 161) (Ls := (lc26 i0 i1 i2 w0 z1 i2 br2 1 0 b4 1)) hml rfl (lenOf pd_8 rfl) at_161 hby
            obtain ⟨rfl, Nr9q, Kr9, f44, f45, f46, f47, f48, f49⟩ := hQr9
            have N7 := Fr.app N6 Nr9q
            refine own_go (U' := Tr9.setTop (mkF m 166 (lc26 i0 i1 i2 w0 z1 i2 br2 1 0 b4 1) [(.int 1)])) (fun t k => oicN Xr8 hx hby at_142 (by decide) (oiconst Xr8 hx hby at_145 (ogoto (pc := 146) Xr8 hx hby at_146 150 (by decide) (oistore Xr8 hx hby at_150 (lc26 i0 i1 i2 w0 z1 i2 br2 1 0 b4 1) rfl (oaload Xr8 hx hby at_152 rfl rfl (onlN Xr8 hx hby at_154 (oaload Xr8 hx hby at_157 rfl rfl (oaload Xr8 hx hby at_159 rfl rfl (str9 _ (oiload Xr9 hx hby at_164 rfl k)))))))))) ?_
            have f50 : Exa Z Tr9.heap br2 zs1 := (f41.keep Kr9)
            have Z_5 : n0 ≤ Tr9.heap.size := Nat.le_trans Z_4 Kr9.1
            obtain ⟨_, Tr10, Lr10, Xr10, hQr10, str10⟩ := ocallV Xr9 hx hZ zm1 zm1 hown (ww hw 21 rfl) (ww hw 22 rfl) (notFace_of_selects (args := #[]) (mvT hZ (ww hw 24 rfl))) (ww hw 24 rfl) (ww hw 23 rfl) (by decide) (ww hw 25 rfl) (ww hw 5 rfl) rfl f50 (rm3_1 l Z a0 hw [] br2 Tr9.heap n0 Z_5 f46) (st := [(.ref br2)]) rfl 0 rfl (by decide) (pc := 171) (Ls := (lc26 i0 i1 i2 w0 z1 i2 br2 1 0 b4 1)) hml rfl (lenOf pd_1 rfl) at_171 hby
            obtain ⟨rfl, Nr10q, er10⟩ := hQr10
            have N8 := Fr.app N7 Nr10q
            refine own_go (U' := Tr10.setTop (mkF m 174 (lc26 i0 i1 i2 w0 z1 i2 br2 1 0 b4 1) [(.int 1)])) (fun t k => oifN Xr9 hx hby at_166 (by decide) (oaload Xr9 hx hby at_169 rfl rfl (str10 _ k))) ?_
            refine own_go (U' := Tr10.setTop (mkF m 186 (lc26 i0 i1 i2 w0 z1 i2 br2 1 0 b4 1) [(.int 1)])) (fun t k => oifN Xr10 hx hby at_174 (by decide) (oiconst Xr10 hx hby at_177 (ogoto (pc := 178) Xr10 hx hby at_178 182 (by decide) (oistore Xr10 hx hby at_182 (lc26 i0 i1 i2 w0 z1 i2 br2 1 0 b4 1) rfl (oiload Xr10 hx hby at_184 rfl k))))) ?_
            obtain ⟨fs, hr, hrun, hended, hW, hsame⟩ := Xr10.leave (v := some (.int 1)) (fun h => by rw [Bd.returns] at h; cases h)
            refine own_out ⟨_, _, ?_, hrun, hended, _, _, rfl, ?_, ⟨_, rfl⟩, hW, hsame.mono (by decide) (by decide)⟩
            · exact retN Xr10 hx (t := .boolean) Bd.returns (by simp) (hb hby at_186) hr
            · exact ⟨rfl, N8⟩
          · have hc22 : ¬ ((i1 ^^^ (-1 : Int64)) = (-9223372036854775808 : Int64)) := (fun e => by have := congrArg Int64.toInt e; have : ¬ (i2).toInt = (i1).toInt := fun e => hk2 (Int64.toInt_inj.mp e); have : ¬ ((i1 ^^^ (-1 : Int64))).toInt < ((i2 ^^^ (-1 : Int64))).toInt := fun e => hk8 (Int64.lt_iff_toInt_lt.mpr e); have := rng64 i1; have := own_xnJ i1; have := (by decide : ((-9223372036854775808 : Int64)).toInt = -9223372036854775808); have := rng64 i2; have := own_xnJ i2; omega)
            obtain ⟨_, Tr5, Lr5, Xr5, hQr5, str5⟩ := ocallV Xr4 hx hZ zm7 zm7 hown (ww hw 33 rfl) (ww hw 34 rfl) (notFace_of_selects (args := #[]) (mvT hZ (ww hw 36 rfl))) (ww hw 36 rfl) (ww hw 35 rfl) (by decide) (ww hw 37 rfl) (ww hw 5 rfl) er4 f15 (rm5_27 l Z a0 hw [] br2 i1 w0 w1 b1 k1 b2 k2 Tr3.heap n0 Z_2 f8 f16 ha10 f15 f9 hc22 f6 f12 g2 O1 f7 ne2 f14 (Ne.symm ne1) g3 ne3 f10 g1) (st := [.null, (.long i1), (.ref br2)]) rfl 0 rfl (by decide) (pc := 69) (Ls := (lc7 i0 i1 i2 w0 z1 i2 br2 1)) hml rfl (lenOf pd_7 rfl) at_69 hby
            obtain ⟨b3, rfl, Nr5q, Kr5, sz3, f17, f18, f19, f20, f21, f22, f23, f24, f25, f26, f27⟩ := hQr5
            have N3 := Fr.app N2 Nr5q
            have hc8 : ¬ ((((i0.toUInt32 >>> ((1 : Int32) &&& 31).toUInt32).toInt32) % (3 : Int32)) < (1 : Int32)) := hk6
            have hs9 : ¬ (z1 < (1 : Int32)) := by rw [hz1]; exact hc8
            refine own_go (U' := Tr5.setTop (mkF m 76 (lc7 i0 i1 i2 w0 z1 i2 br2 1) [(.int 2), (.int z1)])) (fun t k => oicN Xr4 hx hby at_62 (flt hs9).1 (oaload Xr4 hx hby at_65 rfl rfl (olloadN Xr4 hx hby at_67 rfl (onull Xr4 hx hby at_68 (str5 _ (opop Xr5 hx hby at_72 rfl (oiload Xr5 hx hby at_73 rfl (oiconst Xr5 hx hby at_75 k)))))))) ?_
            have f28 : Exa Z Tr5.heap br2 zs1 := (f15.keep Kr5)
            have f29 : Sta Z Tr5.heap zs5 "BUY" zs3 (.ref w1) := (own_staK f16 Kr5 (allS (own_nsE f11) (allS (own_nsE f13) (allS (own_nsE (Ar2.keep Kr3)) all0))))
            have Z_3 : n0 ≤ Tr5.heap.size := Nat.le_trans Z_2 Kr5.1
            have hc31 : ¬ ((i1 ^^^ (-1 : Int64)) < (i2 ^^^ (-1 : Int64))) := hk8
            have hc28 : ¬ ((i1 ^^^ (-1 : Int64)) = (i2 ^^^ (-1 : Int64))) := (fun e => by have := congrArg Int64.toInt e; have : ¬ (i2).toInt = (i1).toInt := fun e => hk2 (Int64.toInt_inj.mp e); have := rng64 i1; have := own_xnJ i1; have := rng64 i2; have := own_xnJ i2; omega)
            have hc32 : ¬ ((i2 ^^^ (-1 : Int64)) = (9223372036854775807 : Int64)) := (fun e => by have := congrArg Int64.toInt e; have : ¬ (i2).toInt = (i1).toInt := fun e => hk2 (Int64.toInt_inj.mp e); have : ¬ ((i1 ^^^ (-1 : Int64))).toInt < ((i2 ^^^ (-1 : Int64))).toInt := fun e => hk8 (Int64.lt_iff_toInt_lt.mpr e); have := rng64 i2; have := own_xnJ i2; have := (by decide : ((9223372036854775807 : Int64)).toInt = 9223372036854775807); have := rng64 i1; have := own_xnJ i1; omega)
            obtain ⟨_, Tr6, Lr6, Xr6, hQr6, str6⟩ := ocallV Xr5 hx hZ zm7 zm7 hown (ww hw 33 rfl) (ww hw 34 rfl) (notFace_of_selects (args := #[]) (mvT hZ (ww hw 36 rfl))) (ww hw 36 rfl) (ww hw 35 rfl) (by decide) (ww hw 37 rfl) (ww hw 5 rfl) rfl f28 (rm5_31 l Z a0 hw [] br2 i2 w0 w1 b2 (i1 ^^^ (-1 : Int64)) k2 b1 b3 k1 Tr5.heap n0 Z_3 f19 f29 ha10 f28 f20 f22 f18 hc31 hc28 hc32 f21 f17 g2 O1 f24 ne2 (Ne.symm ne1) g3 ne3 f23 g1) (st := [.null, (.long i2), (.ref br2)]) rfl 0 rfl (by decide) (pc := 84) (Ls := (lc7 i0 i1 i2 w0 z1 i2 br2 1)) hml rfl (lenOf pd_7 rfl) at_84 hby
            obtain ⟨b4, rfl, Nr6q, Kr6, sz4, f30, f31, f32, f33, f34, f35, f36, f37, f38, f39, f40⟩ := hQr6
            have N4 := Fr.app N3 Nr6q
            have f41 : Exa Z Tr6.heap br2 zs1 := (f28.keep Kr6)
            have Z_4 : n0 ≤ Tr6.heap.size := Nat.le_trans Z_3 Kr6.1
            obtain ⟨_, Tr7, Lr7, Xr7, hQr7, str7⟩ := ocallV Xr6 hx hZ zm1 zm1 hown (ww hw 21 rfl) (ww hw 22 rfl) (notFace_of_selects (args := #[]) (mvT hZ (ww hw 24 rfl))) (ww hw 24 rfl) (ww hw 23 rfl) (by decide) (ww hw 25 rfl) (ww hw 5 rfl) rfl f41 (rm3_23 l Z a0 hw [] br2 Tr6.heap n0 Z_4 f33) (st := [(.ref br2)]) rfl 0 rfl (by decide) (pc := 90) (Ls := (lc7 i0 i1 i2 w0 z1 i2 br2 1)) hml rfl (lenOf pd_1 rfl) at_90 hby
            obtain ⟨rfl, Nr7q, er7⟩ := hQr7
            have N5 := Fr.app N4 Nr7q
            obtain ⟨_, Tr8, Lr8, Xr8, hQr8, str8⟩ := ocallV Xr7 hx hZ zm2 zm2 hown (ww hw 28 rfl) (ww hw 29 rfl) (notFace_of_selects (args := #[]) (mvT hZ (ww hw 31 rfl))) (ww hw 31 rfl) (ww hw 30 rfl) (by decide) (ww hw 32 rfl) (ww hw 5 rfl) er7 f41 (rm4_24 l Z a0 hw [] br2 b1 b4 b3 k1 Tr6.heap n0 Z_4 f33 f35 f30) (st := [(.ref br2)]) rfl 0 rfl (by decide) (pc := 97) (Ls := (lc8 i0 i1 i2 w0 z1 i2 br2 1 0)) hml rfl (lenOf pd_2 rfl) at_97 hby
            obtain ⟨rfl, Nr8q, er8⟩ := hQr8
            have N6 := Fr.app N5 Nr8q
            have hc13 : ¬ ((((i0.toUInt32 >>> ((1 : Int32) &&& 31).toUInt32).toInt32) % (3 : Int32)) < (2 : Int32)) := hk7
            have hs14 : ¬ (z1 < (2 : Int32)) := by rw [hz1]; exact hc13
            refine own_go (U' := Tr8.setTop (mkF m 104 (lc25 i0 i1 i2 w0 z1 i2 br2 1 0 b3) [(.int 1)])) (fun t k => oicN Xr5 hx hby at_76 (flt hs14).1 (oaload Xr5 hx hby at_79 rfl rfl (olload Xr5 hx hby at_81 rfl (onull Xr5 hx hby at_83 (str6 _ (opop Xr6 hx hby at_87 rfl (oaload Xr6 hx hby at_88 rfl rfl (str7 _ (oistore Xr7 hx hby at_93 (lc8 i0 i1 i2 w0 z1 i2 br2 1 0) rfl (oaload Xr7 hx hby at_95 rfl rfl (str8 _ (oastore Xr8 hx hby at_100 (lc25 i0 i1 i2 w0 z1 i2 br2 1 0 b3) rfl rfl (oiload Xr8 hx hby at_102 rfl k))))))))))))) ?_
            refine own_go (U' := Tr8.setTop (mkF m 111 (lc25 i0 i1 i2 w0 z1 i2 br2 1 0 b3) [(.int z1), (.int 0)])) (fun t k => oifN Xr8 hx hby at_104 (by decide) (oiload Xr8 hx hby at_107 rfl (oiload Xr8 hx hby at_109 rfl k))) ?_
            have hc11 : ¬ ((((i0.toUInt32 >>> ((1 : Int32) &&& 31).toUInt32).toInt32) % (3 : Int32)) = (0 : Int32)) := (fun e => by have := congrArg Int32.toInt e; have : ¬ ((((i0.toUInt32 >>> ((1 : Int32) &&& 31).toUInt32).toInt32) % (3 : Int32))).toInt < ((1 : Int32)).toInt := fun e => hk6 (Int32.lt_iff_toInt_lt.mpr e); have := c_iushr i0 (1 : Int32) 1 (by decide) (by decide); have := rng32 i0; have := c_irem ((i0.toUInt32 >>> ((1 : Int32) &&& 31).toUInt32).toInt32) (3 : Int32) 3 (by decide); have := Int.emod_nonneg (((i0.toUInt32 >>> ((1 : Int32) &&& 31).toUInt32).toInt32)).toInt (show (3 : Int) ≠ 0 by decide); have := Int.emod_lt_of_pos (((i0.toUInt32 >>> ((1 : Int32) &&& 31).toUInt32).toInt32)).toInt (show (0 : Int) < 3 by decide); have := (by decide : ((0 : Int32)).toInt = 0); have := (by decide : ((1 : Int32)).toInt = 1); omega)
            have hs12 : ¬ (z1 = (0 : Int32)) := by rw [hz1]; exact hc11
            refine own_go (U' := Tr8.setTop (mkF m 119 (lc25 i0 i1 i2 w0 z1 i2 br2 1 0 b3) [(.int 0), (.int 0)])) (fun t k => oifY (pc := 111) Xr8 hx hby at_111 118 ((if0 _ _).trans (feq hs12).2) (by decide) (oiconst Xr8 hx hby at_118 k)) ?_
            refine own_go (U' := Tr8.setTop (mkF m 134 (lc25 i0 i1 i2 w0 z1 i2 br2 1 0 b3) [(.int z1), (.int 0)])) (fun t k => oicN Xr8 hx hby at_119 (by decide) (oaload Xr8 hx hby at_122 rfl rfl (onnY (pc := 124) Xr8 hx hby at_124 131 (by decide) (oiconst Xr8 hx hby at_131 (oiload Xr8 hx hby at_132 rfl k))))) ?_
            refine own_go (U' := Tr8.setTop (mkF m 142 (lc25 i0 i1 i2 w0 z1 i2 br2 1 0 b3) [(.int 0), (.int 0)])) (fun t k => oifY (pc := 134) Xr8 hx hby at_134 141 ((if0 _ _).trans (feq hs12).2) (by decide) (oiconst Xr8 hx hby at_141 k)) ?_
            have f42 : Exa Z Tr6.heap b3 zs0 := (f24.keep Kr6)
            have ne4 : br2 ≠ b3 := Nat.ne_of_lt (Nat.lt_of_lt_of_le (Nat.lt_of_lt_of_le (f1.lt) Kr3.1) sz3)
            have ne5 : b2 ≠ b3 := Nat.ne_of_lt (Nat.lt_of_lt_of_le (f13.lt) sz3)
            have ne6 : b1 ≠ b3 := Nat.ne_of_lt (Nat.lt_of_lt_of_le (f11.lt) sz3)
            have f43 : Fld Z Tr6.heap b3 zs0 "first" zs10 .null := (f27.keep Kr6 (ninS (Ne.symm ne6) (ninS (Ne.symm ne5) (ninS (Ne.symm ne4) nin0))))
            have ne7 : br2 ≠ b4 := Nat.ne_of_lt (Nat.lt_of_lt_of_le (Nat.lt_of_lt_of_le (Nat.lt_of_lt_of_le (f1.lt) Kr3.1) Kr5.1) sz4)
            have ne8 : b1 ≠ b4 := Nat.ne_of_lt (Nat.lt_of_lt_of_le (Nat.lt_of_lt_of_le (f11.lt) Kr5.1) sz4)
            obtain ⟨_, Tr9, Lr9, Xr9, hQr9, str9⟩ := ocallV Xr8 hx hZ zm9 zm9 hown (ww hw 70 rfl) (ww hw 71 rfl) (notFace_of_selects (args := #[]) (mvT hZ (ww hw 73 rfl))) (ww hw 73 rfl) (ww hw 72 rfl) (by decide) (ww hw 74 rfl) (ww hw 5 rfl) er8 f41 (rm10_25 l Z a0 hw [] br2 b3 w0 b2 b1 b4 k1 Tr6.heap n0 Z_4 f36 f32 f33 f34 f35 f41 g1 f30 (Ne.symm ne2) f42 f43 (Ne.symm ne4) g2 f37 f40 (Ne.symm ne7) (Ne.symm ne8)) (st := [(.ref b3), (.ref br2)]) rfl 0 rfl (by decide) (pc := 161) (Ls := (lc26 i0 i1 i2 w0 z1 i2 br2 1 0 b3 1)) hml rfl (lenOf pd_8 rfl) at_161 hby
            obtain ⟨rfl, Nr9q, Kr9, f44, f45, f46, f47, f48, f49⟩ := hQr9
            have N7 := Fr.app N6 Nr9q
            refine own_go (U' := Tr9.setTop (mkF m 166 (lc26 i0 i1 i2 w0 z1 i2 br2 1 0 b3 1) [(.int 1)])) (fun t k => oicN Xr8 hx hby at_142 (by decide) (oiconst Xr8 hx hby at_145 (ogoto (pc := 146) Xr8 hx hby at_146 150 (by decide) (oistore Xr8 hx hby at_150 (lc26 i0 i1 i2 w0 z1 i2 br2 1 0 b3 1) rfl (oaload Xr8 hx hby at_152 rfl rfl (onlN Xr8 hx hby at_154 (oaload Xr8 hx hby at_157 rfl rfl (oaload Xr8 hx hby at_159 rfl rfl (str9 _ (oiload Xr9 hx hby at_164 rfl k)))))))))) ?_
            have f50 : Exa Z Tr9.heap br2 zs1 := (f41.keep Kr9)
            have Z_5 : n0 ≤ Tr9.heap.size := Nat.le_trans Z_4 Kr9.1
            obtain ⟨_, Tr10, Lr10, Xr10, hQr10, str10⟩ := ocallV Xr9 hx hZ zm1 zm1 hown (ww hw 21 rfl) (ww hw 22 rfl) (notFace_of_selects (args := #[]) (mvT hZ (ww hw 24 rfl))) (ww hw 24 rfl) (ww hw 23 rfl) (by decide) (ww hw 25 rfl) (ww hw 5 rfl) rfl f50 (rm3_1 l Z a0 hw [] br2 Tr9.heap n0 Z_5 f46) (st := [(.ref br2)]) rfl 0 rfl (by decide) (pc := 171) (Ls := (lc26 i0 i1 i2 w0 z1 i2 br2 1 0 b3 1)) hml rfl (lenOf pd_1 rfl) at_171 hby
            obtain ⟨rfl, Nr10q, er10⟩ := hQr10
            have N8 := Fr.app N7 Nr10q
            refine own_go (U' := Tr10.setTop (mkF m 174 (lc26 i0 i1 i2 w0 z1 i2 br2 1 0 b3 1) [(.int 1)])) (fun t k => oifN Xr9 hx hby at_166 (by decide) (oaload Xr9 hx hby at_169 rfl rfl (str10 _ k))) ?_
            refine own_go (U' := Tr10.setTop (mkF m 186 (lc26 i0 i1 i2 w0 z1 i2 br2 1 0 b3 1) [(.int 1)])) (fun t k => oifN Xr10 hx hby at_174 (by decide) (oiconst Xr10 hx hby at_177 (ogoto (pc := 178) Xr10 hx hby at_178 182 (by decide) (oistore Xr10 hx hby at_182 (lc26 i0 i1 i2 w0 z1 i2 br2 1 0 b3 1) rfl (oiload Xr10 hx hby at_184 rfl k))))) ?_
            obtain ⟨fs, hr, hrun, hended, hW, hsame⟩ := Xr10.leave (v := some (.int 1)) (fun h => by rw [Bd.returns] at h; cases h)
            refine own_out ⟨_, _, ?_, hrun, hended, _, _, rfl, ?_, ⟨_, rfl⟩, hW, hsame.mono (by decide) (by decide)⟩
            · exact retN Xr10 hx (t := .boolean) Bd.returns (by simp) (hb hby at_186) hr
            · exact ⟨rfl, N8⟩
  · have hv33 : (i0 &&& (1 : Int32)) = (1 : Int32) := hk1
    rw [hv33]
    obtain ⟨Tr1, Xr1, er1, str1⟩ := getS2 X0 hx hZ hown (host := "") (Or.inl (ww hw 84 rfl)) Via.refl e0 S2 (g := (mkF m 6 (lc0 i0 i1 i2) [])) rfl (hb hby at_6)
    refine own_go (U' := Tr1.setTop (mkF m 24 (lc2 i0 i1 i2 w1 (((i0.toUInt32 >>> ((1 : Int32) &&& 31).toUInt32).toInt32) % (3 : Int32))) [])) (fun t k => oifN X0 hx hby at_3 (by decide) (str1 _ (ogoto (pc := 9) Xr1 hx hby at_9 15 (by decide) (oastore Xr1 hx hby at_15 (lc1 i0 i1 i2 w1) rfl rfl (oiloadN Xr1 hx hby at_17 rfl (oiconst Xr1 hx hby at_18 (oiushr Xr1 hx hby at_19 (oiconst Xr1 hx hby at_20 (oirem Xr1 hx hby at_21 (by decide) (oistore Xr1 hx hby at_22 (lc2 i0 i1 i2 w1 (((i0.toUInt32 >>> ((1 : Int32) &&& 31).toUInt32).toInt32) % (3 : Int32))) rfl k)))))))))) ?_
    obtain ⟨z1, hz1⟩ : ∃ z, z = (((i0.toUInt32 >>> ((1 : Int32) &&& 31).toUInt32).toInt32) % (3 : Int32)) := ⟨_, rfl⟩
    rw [← hz1]
    refine own_go (U' := Tr1.setTop (mkF m 27 (lc2 i0 i1 i2 w1 z1) [(.int (lcmpW i2 i1))])) (fun t k => olloadN Xr1 hx hby at_24 rfl (olloadN Xr1 hx hby at_25 rfl (olcmp Xr1 hx hby at_26 k))) ?_
    by_cases hk9 : i2 = i1
    · have hc1 : i2 = i1 := hk9
      refine own_go (U' := Tr1.setTop (mkF m 41 (lc3 i0 i1 i2 w1 z1 (i1 ^^^ (-1 : Int64))) [])) (fun t k => oifN Xr1 hx hby at_27 (own_ll_ne_f hc1) (olloadN Xr1 hx hby at_30 rfl (Xr1.ldc2Long hx hown (mvT hZ (ww hw 85 rfl)) (g := (mkF m 31 (lc2 i0 i1 i2 w1 z1) [(.long i1)])) rfl (hb hby at_31) _ (olxor Xr1 hx hby at_34 (ogoto (pc := 35) Xr1 hx hby at_35 39 (by decide) (olstore Xr1 hx hby at_39 (lc3 i0 i1 i2 w1 z1 (i1 ^^^ (-1 : Int64))) rfl k)))))) ?_
      obtain ⟨z2, hz2⟩ : ∃ z, z = (i1 ^^^ (-1 : Int64)) := ⟨_, rfl⟩
      rw [← hz2]
      obtain ⟨Tr2, hr2, Xr2, er2, Er2, Ar2, Dr2, -, str2⟩ := newO Xr1 hx hZ hown (ww hw 3 rfl) (ww hw 4 rfl) (ww hw 5 rfl) er1 (g := (mkF m 41 (lc3 i0 i1 i2 w1 z1 z2) [])) rfl (hb hby at_41) (by decide) (by decide)
      obtain ⟨br2, gr2⟩ : ∃ z, z = h0.size := ⟨_, rfl⟩
      rw [← gr2] at Ar2 Dr2 str2
      have f1 : Fld Z hr2 br2 zs1 "levels" zs2 .null := Dr2 (Or.inl (ww hw 15 rfl)) (ty := (.array (.object zs0))) (by decide)
      have f2 : Fld Z hr2 br2 zs1 "ranks" "[J" .null := Dr2 (Or.inl (ww hw 18 rfl)) (ty := (.array .long)) (by decide)
      have f3 : Fld Z hr2 br2 zs1 "side" zs3 .null := Dr2 (Or.inr (ww hw 20 rfl)) (ty := (.object zs5)) (by decide)
      have f4 : Fld Z hr2 br2 zs1 "count" "I" (.int 0) := Dr2 (Or.inl (ww hw 27 rfl)) (ty := .int) (by decide)
      have f5 : Fld Z hr2 br2 zs1 "emptyLevels" "I" (.int 0) := Dr2 (Or.inl (ww hw 76 rfl)) (ty := .int) (by decide)
      have g1 : n0 ≤ br2 := Nat.le_trans Z0 (Nat.le_of_eq gr2.symm)
      have Z_1 : n0 ≤ hr2.size := Nat.le_trans Z0 Er2.1
      obtain ⟨_, Tr3, Lr3, Xr3, hQr3, str3⟩ := ocallI Xr2 hx hZ zm0 rfl hown (ww hw 6 rfl) (ww hw 7 rfl) (by decide) (ww hw 8 rfl) (ww hw 5 rfl) er2 (rm1_0 l Z a0 hw [] br2 w1 hr2 n0 Z_1 f1 f2 f3 f4 f5 Ar2 g1) (st := [(.ref w1), (.ref br2), (.ref br2)]) rfl 1 rfl (by decide) (pc := 47) (Ls := (lc3 i0 i1 i2 w1 z1 z2)) hml rfl (lenOf pd_0 rfl) at_47 hby
      obtain ⟨b1, b2, k1, k2, rfl, Nr3q, Kr3, sz1, sz2, ne1, O1, f6, f7, f8, f9, f10, f11, f12, f13, f14⟩ := hQr3
      have N1 := Fr.app N0 Nr3q
      have f15 : Exa Z Tr3.heap br2 zs1 := (Ar2.keep Kr3)
      have Z_2 : n0 ≤ Tr3.heap.size := Nat.le_trans Z_1 Kr3.1
      obtain ⟨_, Tr4, Lr4, Xr4, hQr4, str4⟩ := ocallV Xr3 hx hZ zm1 zm1 hown (ww hw 21 rfl) (ww hw 22 rfl) (notFace_of_selects (args := #[]) (mvT hZ (ww hw 24 rfl))) (ww hw 24 rfl) (ww hw 23 rfl) (by decide) (ww hw 25 rfl) (ww hw 5 rfl) rfl f15 (rm3_1 l Z a0 hw [] br2 Tr3.heap n0 Z_2 f9) (st := [(.ref br2)]) rfl 0 rfl (by decide) (pc := 54) (Ls := (lc5 i0 i1 i2 w1 z1 z2 br2)) hml rfl (lenOf pd_1 rfl) at_54 hby
      obtain ⟨rfl, Nr4q, er4⟩ := hQr4
      have N2 := Fr.app N1 Nr4q
      refine own_go (U' := Tr4.setTop (mkF m 62 (lc7 i0 i1 i2 w1 z1 z2 br2 1) [(.int 1), (.int z1)])) (fun t k => str2 _ (odup Xr2 hx hby at_44 rfl (oaload Xr2 hx hby at_45 rfl rfl (str3 _ (oastore Xr3 hx hby at_50 (lc5 i0 i1 i2 w1 z1 z2 br2) rfl rfl (oaload Xr3 hx hby at_52 rfl rfl (str4 _ (oistore Xr4 hx hby at_57 (lc7 i0 i1 i2 w1 z1 z2 br2 1) rfl (oiload Xr4 hx hby at_59 rfl (oiconst Xr4 hx hby at_61 k)))))))))) ?_
      by_cases hk10 : (((i0.toUInt32 >>> ((1 : Int32) &&& 31).toUInt32).toInt32) % (3 : Int32)) < (1 : Int32)
      · have hc2 : (((i0.toUInt32 >>> ((1 : Int32) &&& 31).toUInt32).toInt32) % (3 : Int32)) < (1 : Int32) := hk10
        have hs3 : z1 < (1 : Int32) := by rw [hz1]; exact hc2
        refine own_go (U' := Tr4.setTop (mkF m 76 (lc7 i0 i1 i2 w1 z1 z2 br2 1) [(.int 2), (.int z1)])) (fun t k => oicY (pc := 62) Xr4 hx hby at_62 73 (tlt hs3).1 (by decide) (oiload Xr4 hx hby at_73 rfl (oiconst Xr4 hx hby at_75 k))) ?_
        obtain ⟨_, Tr5, Lr5, Xr5, hQr5, str5⟩ := ocallV Xr4 hx hZ zm1 zm1 hown (ww hw 21 rfl) (ww hw 22 rfl) (notFace_of_selects (args := #[]) (mvT hZ (ww hw 24 rfl))) (ww hw 24 rfl) (ww hw 23 rfl) (by decide) (ww hw 25 rfl) (ww hw 5 rfl) er4 f15 (rm3_1 l Z a0 hw [] br2 Tr3.heap n0 Z_2 f9) (st := [(.ref br2)]) rfl 0 rfl (by decide) (pc := 90) (Ls := (lc7 i0 i1 i2 w1 z1 z2 br2 1)) hml rfl (lenOf pd_1 rfl) at_90 hby
        obtain ⟨rfl, Nr5q, er5⟩ := hQr5
        have N3 := Fr.app N2 Nr5q
        obtain ⟨_, Tr6, Lr6, Xr6, hQr6, str6⟩ := ocallV Xr5 hx hZ zm2 zm2 hown (ww hw 28 rfl) (ww hw 29 rfl) (notFace_of_selects (args := #[]) (mvT hZ (ww hw 31 rfl))) (ww hw 31 rfl) (ww hw 30 rfl) (by decide) (ww hw 32 rfl) (ww hw 5 rfl) er5 f15 (rm4_2 l Z a0 hw [] br2 Tr3.heap n0 Z_2 f9) (st := [(.ref br2)]) rfl 0 rfl (by decide) (pc := 97) (Ls := (lc8 i0 i1 i2 w1 z1 z2 br2 1 1)) hml rfl (lenOf pd_2 rfl) at_97 hby
        obtain ⟨rfl, Nr6q, er6⟩ := hQr6
        have N4 := Fr.app N3 Nr6q
        have hc4 : (((i0.toUInt32 >>> ((1 : Int32) &&& 31).toUInt32).toInt32) % (3 : Int32)) < (2 : Int32) := (Int32.lt_iff_toInt_lt.mpr (by have := Int32.lt_iff_toInt_lt.mp hk10; have := c_iushr i0 (1 : Int32) 1 (by decide) (by decide); have := rng32 i0; have := c_irem ((i0.toUInt32 >>> ((1 : Int32) &&& 31).toUInt32).toInt32) (3 : Int32) 3 (by decide); have := Int.emod_nonneg (((i0.toUInt32 >>> ((1 : Int32) &&& 31).toUInt32).toInt32)).toInt (show (3 : Int) ≠ 0 by decide); have := Int.emod_lt_of_pos (((i0.toUInt32 >>> ((1 : Int32) &&& 31).toUInt32).toInt32)).toInt (show (0 : Int) < 3 by decide); have := (by decide : ((2 : Int32)).toInt = 2); have := (by decide : ((1 : Int32)).toInt = 1); omega))
        have hs5 : z1 < (2 : Int32) := by rw [hz1]; exact hc4
        refine own_go (U' := Tr6.setTop (mkF m 104 (lc9 i0 i1 i2 w1 z1 z2 br2 1 1) [(.int 1)])) (fun t k => oicY (pc := 76) Xr4 hx hby at_76 88 (tlt hs5).1 (by decide) (oaload Xr4 hx hby at_88 rfl rfl (str5 _ (oistore Xr5 hx hby at_93 (lc8 i0 i1 i2 w1 z1 z2 br2 1 1) rfl (oaload Xr5 hx hby at_95 rfl rfl (str6 _ (oastore Xr6 hx hby at_100 (lc9 i0 i1 i2 w1 z1 z2 br2 1 1) rfl rfl (oiload Xr6 hx hby at_102 rfl k)))))))) ?_
        refine own_go (U' := Tr6.setTop (mkF m 111 (lc9 i0 i1 i2 w1 z1 z2 br2 1 1) [(.int z1), (.int 1)])) (fun t k => oifN Xr6 hx hby at_104 (by decide) (oiload Xr6 hx hby at_107 rfl (oiload Xr6 hx hby at_109 rfl k))) ?_
        have hc6 : (((i0.toUInt32 >>> ((1 : Int32) &&& 31).toUInt32).toInt32) % (3 : Int32)) = (0 : Int32) := (Int32.toInt_inj.mp (by have := Int32.lt_iff_toInt_lt.mp hk10; have := c_iushr i0 (1 : Int32) 1 (by decide) (by decide); have := rng32 i0; have := c_irem ((i0.toUInt32 >>> ((1 : Int32) &&& 31).toUInt32).toInt32) (3 : Int32) 3 (by decide); have := Int.emod_nonneg (((i0.toUInt32 >>> ((1 : Int32) &&& 31).toUInt32).toInt32)).toInt (show (3 : Int) ≠ 0 by decide); have := Int.emod_lt_of_pos (((i0.toUInt32 >>> ((1 : Int32) &&& 31).toUInt32).toInt32)).toInt (show (0 : Int) < 3 by decide); have := (by decide : ((0 : Int32)).toInt = 0); have := (by decide : ((1 : Int32)).toInt = 1); omega))
        have hs7 : z1 = (0 : Int32) := by rw [hz1]; exact hc6
        refine own_go (U' := Tr6.setTop (mkF m 119 (lc9 i0 i1 i2 w1 z1 z2 br2 1 1) [(.int 1), (.int 1)])) (fun t k => oifN Xr6 hx hby at_111 ((if0 _ _).trans (teq hs7).2) (oiconst Xr6 hx hby at_114 (ogoto (pc := 115) Xr6 hx hby at_115 119 (by decide) k))) ?_
        refine own_go (U' := Tr6.setTop (mkF m 134 (lc9 i0 i1 i2 w1 z1 z2 br2 1 1) [(.int z1), (.int 1)])) (fun t k => oicN Xr6 hx hby at_119 (by decide) (oaload Xr6 hx hby at_122 rfl rfl (onnN Xr6 hx hby at_124 (oiconst Xr6 hx hby at_127 (ogoto (pc := 128) Xr6 hx hby at_128 132 (by decide) (oiload Xr6 hx hby at_132 rfl k)))))) ?_
        refine own_go (U' := Tr6.setTop (mkF m 142 (lc9 i0 i1 i2 w1 z1 z2 br2 1 1) [(.int 1), (.int 1)])) (fun t k => oifN Xr6 hx hby at_134 ((if0 _ _).trans (teq hs7).2) (oiconst Xr6 hx hby at_137 (ogoto (pc := 138) Xr6 hx hby at_138 142 (by decide) k))) ?_
        refine own_go (U' := Tr6.setTop (mkF m 186 (lc10 i0 i1 i2 w1 z1 z2 br2 1 1 1) [(.int 1)])) (fun t k => oicN Xr6 hx hby at_142 (by decide) (oiconst Xr6 hx hby at_145 (ogoto (pc := 146) Xr6 hx hby at_146 150 (by decide) (oistore Xr6 hx hby at_150 (lc10 i0 i1 i2 w1 z1 z2 br2 1 1 1) rfl (oaload Xr6 hx hby at_152 rfl rfl (onlY (pc := 154) Xr6 hx hby at_154 184 (by decide) (oiload Xr6 hx hby at_184 rfl k))))))) ?_
        obtain ⟨fs, hr, hrun, hended, hW, hsame⟩ := Xr6.leave (v := some (.int 1)) (fun h => by rw [Bd.returns] at h; cases h)
        refine own_out ⟨_, _, ?_, hrun, hended, _, _, rfl, ?_, ⟨_, rfl⟩, hW, hsame.mono (by decide) (by decide)⟩
        · exact retN Xr6 hx (t := .boolean) Bd.returns (by simp) (hb hby at_186) hr
        · exact ⟨rfl, N4⟩
      · have f16 : Sta Z Tr3.heap zs5 "BUY" zs3 (.ref w1) := (own_staK (Sta.ext Er2 S2) Kr3 (allS (own_nsF f1) all0))
        have g2 : n0 ≤ b1 := Nat.le_trans Z_1 sz1
        have ne2 : br2 ≠ b1 := Nat.ne_of_lt (Nat.lt_of_lt_of_le (f1.lt) sz1)
        have g3 : n0 ≤ b2 := Nat.le_trans Z_1 sz2
        have ne3 : br2 ≠ b2 := Nat.ne_of_lt (Nat.lt_of_lt_of_le (f1.lt) sz2)
        by_cases hk11 : (((i0.toUInt32 >>> ((1 : Int32) &&& 31).toUInt32).toInt32) % (3 : Int32)) < (2 : Int32)
        · obtain ⟨_, Tr5, Lr5, Xr5, hQr5, str5⟩ := ocallV Xr4 hx hZ zm7 zm7 hown (ww hw 33 rfl) (ww hw 34 rfl) (notFace_of_selects (args := #[]) (mvT hZ (ww hw 36 rfl))) (ww hw 36 rfl) (ww hw 35 rfl) (by decide) (ww hw 37 rfl) (ww hw 5 rfl) er4 f15 (rm5_37 l Z a0 hw [] br2 i1 w1 b1 k1 b2 k2 Tr3.heap n0 Z_2 f8 f16 f15 f9 f6 f12 g2 O1 f7 ne2 f14 (Ne.symm ne1) g3 ne3 f10 g1) (st := [.null, (.long i1), (.ref br2)]) rfl 0 rfl (by decide) (pc := 69) (Ls := (lc7 i0 i1 i2 w1 z1 z2 br2 1)) hml rfl (lenOf pd_7 rfl) at_69 hby
          obtain ⟨b3, rfl, Nr5q, Kr5, sz3, f17, f18, f19, f20, f21, f22, f23, f24, f25, f26, f27⟩ := hQr5
          have N3 := Fr.app N2 Nr5q
          have hc8 : ¬ ((((i0.toUInt32 >>> ((1 : Int32) &&& 31).toUInt32).toInt32) % (3 : Int32)) < (1 : Int32)) := hk10
          have hs9 : ¬ (z1 < (1 : Int32)) := by rw [hz1]; exact hc8
          refine own_go (U' := Tr5.setTop (mkF m 76 (lc7 i0 i1 i2 w1 z1 z2 br2 1) [(.int 2), (.int z1)])) (fun t k => oicN Xr4 hx hby at_62 (flt hs9).1 (oaload Xr4 hx hby at_65 rfl rfl (olloadN Xr4 hx hby at_67 rfl (onull Xr4 hx hby at_68 (str5 _ (opop Xr5 hx hby at_72 rfl (oiload Xr5 hx hby at_73 rfl (oiconst Xr5 hx hby at_75 k)))))))) ?_
          have f28 : Exa Z Tr5.heap br2 zs1 := (f15.keep Kr5)
          have Z_3 : n0 ≤ Tr5.heap.size := Nat.le_trans Z_2 Kr5.1
          obtain ⟨_, Tr6, Lr6, Xr6, hQr6, str6⟩ := ocallV Xr5 hx hZ zm1 zm1 hown (ww hw 21 rfl) (ww hw 22 rfl) (notFace_of_selects (args := #[]) (mvT hZ (ww hw 24 rfl))) (ww hw 24 rfl) (ww hw 23 rfl) (by decide) (ww hw 25 rfl) (ww hw 5 rfl) rfl f28 (rm3_11 l Z a0 hw [] br2 Tr5.heap n0 Z_3 f20) (st := [(.ref br2)]) rfl 0 rfl (by decide) (pc := 90) (Ls := (lc7 i0 i1 i2 w1 z1 z2 br2 1)) hml rfl (lenOf pd_1 rfl) at_90 hby
          obtain ⟨rfl, Nr6q, er6⟩ := hQr6
          have N4 := Fr.app N3 Nr6q
          obtain ⟨_, Tr7, Lr7, Xr7, hQr7, str7⟩ := ocallV Xr6 hx hZ zm2 zm2 hown (ww hw 28 rfl) (ww hw 29 rfl) (notFace_of_selects (args := #[]) (mvT hZ (ww hw 31 rfl))) (ww hw 31 rfl) (ww hw 30 rfl) (by decide) (ww hw 32 rfl) (ww hw 5 rfl) er6 f28 (rm4_12 l Z a0 hw [] br2 b1 b3 k1 Tr5.heap n0 Z_3 f20 f21 f17) (st := [(.ref br2)]) rfl 0 rfl (by decide) (pc := 97) (Ls := (lc8 i0 i1 i2 w1 z1 z2 br2 1 0)) hml rfl (lenOf pd_2 rfl) at_97 hby
          obtain ⟨rfl, Nr7q, er7⟩ := hQr7
          have N5 := Fr.app N4 Nr7q
          have hc4 : (((i0.toUInt32 >>> ((1 : Int32) &&& 31).toUInt32).toInt32) % (3 : Int32)) < (2 : Int32) := hk11
          have hs5 : z1 < (2 : Int32) := by rw [hz1]; exact hc4
          refine own_go (U' := Tr7.setTop (mkF m 104 (lc25 i0 i1 i2 w1 z1 z2 br2 1 0 b3) [(.int 1)])) (fun t k => oicY (pc := 76) Xr5 hx hby at_76 88 (tlt hs5).1 (by decide) (oaload Xr5 hx hby at_88 rfl rfl (str6 _ (oistore Xr6 hx hby at_93 (lc8 i0 i1 i2 w1 z1 z2 br2 1 0) rfl (oaload Xr6 hx hby at_95 rfl rfl (str7 _ (oastore Xr7 hx hby at_100 (lc25 i0 i1 i2 w1 z1 z2 br2 1 0 b3) rfl rfl (oiload Xr7 hx hby at_102 rfl k)))))))) ?_
          refine own_go (U' := Tr7.setTop (mkF m 111 (lc25 i0 i1 i2 w1 z1 z2 br2 1 0 b3) [(.int z1), (.int 0)])) (fun t k => oifN Xr7 hx hby at_104 (by decide) (oiload Xr7 hx hby at_107 rfl (oiload Xr7 hx hby at_109 rfl k))) ?_
          have hc11 : ¬ ((((i0.toUInt32 >>> ((1 : Int32) &&& 31).toUInt32).toInt32) % (3 : Int32)) = (0 : Int32)) := (fun e => by have := congrArg Int32.toInt e; have : ¬ ((((i0.toUInt32 >>> ((1 : Int32) &&& 31).toUInt32).toInt32) % (3 : Int32))).toInt < ((1 : Int32)).toInt := fun e => hk10 (Int32.lt_iff_toInt_lt.mpr e); have := c_iushr i0 (1 : Int32) 1 (by decide) (by decide); have := rng32 i0; have := c_irem ((i0.toUInt32 >>> ((1 : Int32) &&& 31).toUInt32).toInt32) (3 : Int32) 3 (by decide); have := Int.emod_nonneg (((i0.toUInt32 >>> ((1 : Int32) &&& 31).toUInt32).toInt32)).toInt (show (3 : Int) ≠ 0 by decide); have := Int.emod_lt_of_pos (((i0.toUInt32 >>> ((1 : Int32) &&& 31).toUInt32).toInt32)).toInt (show (0 : Int) < 3 by decide); have := (by decide : ((0 : Int32)).toInt = 0); have := (by decide : ((1 : Int32)).toInt = 1); omega)
          have hs12 : ¬ (z1 = (0 : Int32)) := by rw [hz1]; exact hc11
          refine own_go (U' := Tr7.setTop (mkF m 119 (lc25 i0 i1 i2 w1 z1 z2 br2 1 0 b3) [(.int 0), (.int 0)])) (fun t k => oifY (pc := 111) Xr7 hx hby at_111 118 ((if0 _ _).trans (feq hs12).2) (by decide) (oiconst Xr7 hx hby at_118 k)) ?_
          refine own_go (U' := Tr7.setTop (mkF m 134 (lc25 i0 i1 i2 w1 z1 z2 br2 1 0 b3) [(.int z1), (.int 0)])) (fun t k => oicN Xr7 hx hby at_119 (by decide) (oaload Xr7 hx hby at_122 rfl rfl (onnY (pc := 124) Xr7 hx hby at_124 131 (by decide) (oiconst Xr7 hx hby at_131 (oiload Xr7 hx hby at_132 rfl k))))) ?_
          refine own_go (U' := Tr7.setTop (mkF m 142 (lc25 i0 i1 i2 w1 z1 z2 br2 1 0 b3) [(.int 0), (.int 0)])) (fun t k => oifY (pc := 134) Xr7 hx hby at_134 141 ((if0 _ _).trans (feq hs12).2) (by decide) (oiconst Xr7 hx hby at_141 k)) ?_
          have ne4 : br2 ≠ b3 := Nat.ne_of_lt (Nat.lt_of_lt_of_le (Nat.lt_of_lt_of_le (f1.lt) Kr3.1) sz3)
          obtain ⟨_, Tr8, Lr8, Xr8, hQr8, str8⟩ := ocallV Xr7 hx hZ zm9 zm9 hown (ww hw 70 rfl) (ww hw 71 rfl) (notFace_of_selects (args := #[]) (mvT hZ (ww hw 73 rfl))) (ww hw 73 rfl) (ww hw 72 rfl) (by decide) (ww hw 74 rfl) (ww hw 5 rfl) er7 f28 (rm10_14 l Z a0 hw [] br2 b3 w1 b1 b2 k1 Tr5.heap n0 Z_3 f23 f19 f20 f21 f22 f28 g1 f17 (Ne.symm ne2) f24 f27 (Ne.symm ne4) g2) (st := [(.ref b3), (.ref br2)]) rfl 0 rfl (by decide) (pc := 161) (Ls := (lc26 i0 i1 i2 w1 z1 z2 br2 1 0 b3 1)) hml rfl (lenOf pd_8 rfl) at_161 hby
          obtain ⟨rfl, Nr8q, Kr8, f29, f30, f31, f32, f33, f34⟩ := hQr8
          have N6 := Fr.app N5 Nr8q
          refine own_go (U' := Tr8.setTop (mkF m 166 (lc26 i0 i1 i2 w1 z1 z2 br2 1 0 b3 1) [(.int 1)])) (fun t k => oicN Xr7 hx hby at_142 (by decide) (oiconst Xr7 hx hby at_145 (ogoto (pc := 146) Xr7 hx hby at_146 150 (by decide) (oistore Xr7 hx hby at_150 (lc26 i0 i1 i2 w1 z1 z2 br2 1 0 b3 1) rfl (oaload Xr7 hx hby at_152 rfl rfl (onlN Xr7 hx hby at_154 (oaload Xr7 hx hby at_157 rfl rfl (oaload Xr7 hx hby at_159 rfl rfl (str8 _ (oiload Xr8 hx hby at_164 rfl k)))))))))) ?_
          have f35 : Exa Z Tr8.heap br2 zs1 := (f28.keep Kr8)
          have Z_4 : n0 ≤ Tr8.heap.size := Nat.le_trans Z_3 Kr8.1
          obtain ⟨_, Tr9, Lr9, Xr9, hQr9, str9⟩ := ocallV Xr8 hx hZ zm1 zm1 hown (ww hw 21 rfl) (ww hw 22 rfl) (notFace_of_selects (args := #[]) (mvT hZ (ww hw 24 rfl))) (ww hw 24 rfl) (ww hw 23 rfl) (by decide) (ww hw 25 rfl) (ww hw 5 rfl) rfl f35 (rm3_1 l Z a0 hw [] br2 Tr8.heap n0 Z_4 f31) (st := [(.ref br2)]) rfl 0 rfl (by decide) (pc := 171) (Ls := (lc26 i0 i1 i2 w1 z1 z2 br2 1 0 b3 1)) hml rfl (lenOf pd_1 rfl) at_171 hby
          obtain ⟨rfl, Nr9q, er9⟩ := hQr9
          have N7 := Fr.app N6 Nr9q
          refine own_go (U' := Tr9.setTop (mkF m 174 (lc26 i0 i1 i2 w1 z1 z2 br2 1 0 b3 1) [(.int 1)])) (fun t k => oifN Xr8 hx hby at_166 (by decide) (oaload Xr8 hx hby at_169 rfl rfl (str9 _ k))) ?_
          refine own_go (U' := Tr9.setTop (mkF m 186 (lc26 i0 i1 i2 w1 z1 z2 br2 1 0 b3 1) [(.int 1)])) (fun t k => oifN Xr9 hx hby at_174 (by decide) (oiconst Xr9 hx hby at_177 (ogoto (pc := 178) Xr9 hx hby at_178 182 (by decide) (oistore Xr9 hx hby at_182 (lc26 i0 i1 i2 w1 z1 z2 br2 1 0 b3 1) rfl (oiload Xr9 hx hby at_184 rfl k))))) ?_
          obtain ⟨fs, hr, hrun, hended, hW, hsame⟩ := Xr9.leave (v := some (.int 1)) (fun h => by rw [Bd.returns] at h; cases h)
          refine own_out ⟨_, _, ?_, hrun, hended, _, _, rfl, ?_, ⟨_, rfl⟩, hW, hsame.mono (by decide) (by decide)⟩
          · exact retN Xr9 hx (t := .boolean) Bd.returns (by simp) (hb hby at_186) hr
          · exact ⟨rfl, N7⟩
        · by_cases hk12 : i1 < (i1 ^^^ (-1 : Int64))
          · have hc36 : ¬ (i1 = (9223372036854775807 : Int64)) := (fun e => by have := congrArg Int64.toInt e; have := Int64.lt_iff_toInt_lt.mp hk12; have := rng64 i1; have := (by decide : ((9223372036854775807 : Int64)).toInt = 9223372036854775807); have := own_xnJ i1; omega)
            obtain ⟨_, Tr5, Lr5, Xr5, hQr5, str5⟩ := ocallV Xr4 hx hZ zm7 zm7 hown (ww hw 33 rfl) (ww hw 34 rfl) (notFace_of_selects (args := #[]) (mvT hZ (ww hw 36 rfl))) (ww hw 36 rfl) (ww hw 35 rfl) (by decide) (ww hw 37 rfl) (ww hw 5 rfl) er4 f15 (rm5_39 l Z a0 hw [] br2 i1 w1 b1 k1 b2 k2 Tr3.heap n0 Z_2 f8 f16 f15 f9 hc36 f6 f12 g2 O1 f7 ne2 f14 (Ne.symm ne1) g3 ne3 f10 g1) (st := [.null, (.long i1), (.ref br2)]) rfl 0 rfl (by decide) (pc := 69) (Ls := (lc7 i0 i1 i2 w1 z1 z2 br2 1)) hml rfl (lenOf pd_7 rfl) at_69 hby
            obtain ⟨b3, rfl, Nr5q, Kr5, sz3, f17, f18, f19, f20, f21, f22, f23, f24, f25, f26, f27⟩ := hQr5
            have N3 := Fr.app N2 Nr5q
            have hc8 : ¬ ((((i0.toUInt32 >>> ((1 : Int32) &&& 31).toUInt32).toInt32) % (3 : Int32)) < (1 : Int32)) := hk10
            have hs9 : ¬ (z1 < (1 : Int32)) := by rw [hz1]; exact hc8
            refine own_go (U' := Tr5.setTop (mkF m 76 (lc7 i0 i1 i2 w1 z1 z2 br2 1) [(.int 2), (.int z1)])) (fun t k => oicN Xr4 hx hby at_62 (flt hs9).1 (oaload Xr4 hx hby at_65 rfl rfl (olloadN Xr4 hx hby at_67 rfl (onull Xr4 hx hby at_68 (str5 _ (opop Xr5 hx hby at_72 rfl (oiload Xr5 hx hby at_73 rfl (oiconst Xr5 hx hby at_75 k)))))))) ?_
            have f28 : Exa Z Tr5.heap br2 zs1 := (f15.keep Kr5)
            have f29 : Sta Z Tr5.heap zs5 "BUY" zs3 (.ref w1) := (own_staK f16 Kr5 (allS (own_nsE f11) (allS (own_nsE f13) (allS (own_nsE (Ar2.keep Kr3)) all0))))
            have Z_3 : n0 ≤ Tr5.heap.size := Nat.le_trans Z_2 Kr5.1
            have hc37 : i1 < (i1 ^^^ (-1 : Int64)) := hk12
            have hs38 : i1 < z2 := by rw [hz2]; exact hc37
            have hc22 : ¬ ((i1 ^^^ (-1 : Int64)) = (-9223372036854775808 : Int64)) := (fun e => by have := congrArg Int64.toInt e; have := Int64.lt_iff_toInt_lt.mp hk12; have := rng64 i1; have := own_xnJ i1; have := (by decide : ((-9223372036854775808 : Int64)).toInt = -9223372036854775808); omega)
            have hs39 : ¬ (z2 = (-9223372036854775808 : Int64)) := by rw [hz2]; exact hc22
            obtain ⟨_, Tr6, Lr6, Xr6, hQr6, str6⟩ := ocallV Xr5 hx hZ zm7 zm7 hown (ww hw 33 rfl) (ww hw 34 rfl) (notFace_of_selects (args := #[]) (mvT hZ (ww hw 36 rfl))) (ww hw 36 rfl) (ww hw 35 rfl) (by decide) (ww hw 37 rfl) (ww hw 5 rfl) rfl f28 (rm5_43 l Z a0 hw [] br2 z2 w1 b2 i1 k2 b1 b3 k1 Tr5.heap n0 Z_3 f19 f29 f28 f20 f22 f18 hs38 hs39 f21 f17 g2 O1 ne2 (Ne.symm ne1) g3 ne3 f23 g1) (st := [.null, (.long z2), (.ref br2)]) rfl 0 rfl (by decide) (pc := 84) (Ls := (lc7 i0 i1 i2 w1 z1 z2 br2 1)) hml rfl (lenOf pd_7 rfl) at_84 hby
            obtain ⟨b4, rfl, Nr6q, Kr6, sz4, f30, f31, f32, f33, f34, f35, f36, f37, f38, f39, f40⟩ := hQr6
            have N4 := Fr.app N3 Nr6q
            have f41 : Exa Z Tr6.heap br2 zs1 := (f28.keep Kr6)
            have Z_4 : n0 ≤ Tr6.heap.size := Nat.le_trans Z_3 Kr6.1
            obtain ⟨_, Tr7, Lr7, Xr7, hQr7, str7⟩ := ocallV Xr6 hx hZ zm1 zm1 hown (ww hw 21 rfl) (ww hw 22 rfl) (notFace_of_selects (args := #[]) (mvT hZ (ww hw 24 rfl))) (ww hw 24 rfl) (ww hw 23 rfl) (by decide) (ww hw 25 rfl) (ww hw 5 rfl) rfl f41 (rm3_23 l Z a0 hw [] br2 Tr6.heap n0 Z_4 f33) (st := [(.ref br2)]) rfl 0 rfl (by decide) (pc := 90) (Ls := (lc7 i0 i1 i2 w1 z1 z2 br2 1)) hml rfl (lenOf pd_1 rfl) at_90 hby
            obtain ⟨rfl, Nr7q, er7⟩ := hQr7
            have N5 := Fr.app N4 Nr7q
            obtain ⟨_, Tr8, Lr8, Xr8, hQr8, str8⟩ := ocallV Xr7 hx hZ zm2 zm2 hown (ww hw 28 rfl) (ww hw 29 rfl) (notFace_of_selects (args := #[]) (mvT hZ (ww hw 31 rfl))) (ww hw 31 rfl) (ww hw 30 rfl) (by decide) (ww hw 32 rfl) (ww hw 5 rfl) er7 f41 (rm4_24 l Z a0 hw [] br2 b1 b3 b4 k1 Tr6.heap n0 Z_4 f33 f35 f30) (st := [(.ref br2)]) rfl 0 rfl (by decide) (pc := 97) (Ls := (lc8 i0 i1 i2 w1 z1 z2 br2 1 0)) hml rfl (lenOf pd_2 rfl) at_97 hby
            obtain ⟨rfl, Nr8q, er8⟩ := hQr8
            have N6 := Fr.app N5 Nr8q
            have hc13 : ¬ ((((i0.toUInt32 >>> ((1 : Int32) &&& 31).toUInt32).toInt32) % (3 : Int32)) < (2 : Int32)) := hk11
            have hs14 : ¬ (z1 < (2 : Int32)) := by rw [hz1]; exact hc13
            refine own_go (U' := Tr8.setTop (mkF m 104 (lc25 i0 i1 i2 w1 z1 z2 br2 1 0 b4) [(.int 1)])) (fun t k => oicN Xr5 hx hby at_76 (flt hs14).1 (oaload Xr5 hx hby at_79 rfl rfl (olload Xr5 hx hby at_81 rfl (onull Xr5 hx hby at_83 (str6 _ (opop Xr6 hx hby at_87 rfl (oaload Xr6 hx hby at_88 rfl rfl (str7 _ (oistore Xr7 hx hby at_93 (lc8 i0 i1 i2 w1 z1 z2 br2 1 0) rfl (oaload Xr7 hx hby at_95 rfl rfl (str8 _ (oastore Xr8 hx hby at_100 (lc25 i0 i1 i2 w1 z1 z2 br2 1 0 b4) rfl rfl (oiload Xr8 hx hby at_102 rfl k))))))))))))) ?_
            refine own_go (U' := Tr8.setTop (mkF m 111 (lc25 i0 i1 i2 w1 z1 z2 br2 1 0 b4) [(.int z1), (.int 0)])) (fun t k => oifN Xr8 hx hby at_104 (by decide) (oiload Xr8 hx hby at_107 rfl (oiload Xr8 hx hby at_109 rfl k))) ?_
            have hc11 : ¬ ((((i0.toUInt32 >>> ((1 : Int32) &&& 31).toUInt32).toInt32) % (3 : Int32)) = (0 : Int32)) := (fun e => by have := congrArg Int32.toInt e; have : ¬ ((((i0.toUInt32 >>> ((1 : Int32) &&& 31).toUInt32).toInt32) % (3 : Int32))).toInt < ((1 : Int32)).toInt := fun e => hk10 (Int32.lt_iff_toInt_lt.mpr e); have := c_iushr i0 (1 : Int32) 1 (by decide) (by decide); have := rng32 i0; have := c_irem ((i0.toUInt32 >>> ((1 : Int32) &&& 31).toUInt32).toInt32) (3 : Int32) 3 (by decide); have := Int.emod_nonneg (((i0.toUInt32 >>> ((1 : Int32) &&& 31).toUInt32).toInt32)).toInt (show (3 : Int) ≠ 0 by decide); have := Int.emod_lt_of_pos (((i0.toUInt32 >>> ((1 : Int32) &&& 31).toUInt32).toInt32)).toInt (show (0 : Int) < 3 by decide); have := (by decide : ((0 : Int32)).toInt = 0); have := (by decide : ((1 : Int32)).toInt = 1); omega)
            have hs12 : ¬ (z1 = (0 : Int32)) := by rw [hz1]; exact hc11
            refine own_go (U' := Tr8.setTop (mkF m 119 (lc25 i0 i1 i2 w1 z1 z2 br2 1 0 b4) [(.int 0), (.int 0)])) (fun t k => oifY (pc := 111) Xr8 hx hby at_111 118 ((if0 _ _).trans (feq hs12).2) (by decide) (oiconst Xr8 hx hby at_118 k)) ?_
            refine own_go (U' := Tr8.setTop (mkF m 134 (lc25 i0 i1 i2 w1 z1 z2 br2 1 0 b4) [(.int z1), (.int 0)])) (fun t k => oicN Xr8 hx hby at_119 (by decide) (oaload Xr8 hx hby at_122 rfl rfl (onnY (pc := 124) Xr8 hx hby at_124 131 (by decide) (oiconst Xr8 hx hby at_131 (oiload Xr8 hx hby at_132 rfl k))))) ?_
            refine own_go (U' := Tr8.setTop (mkF m 142 (lc25 i0 i1 i2 w1 z1 z2 br2 1 0 b4) [(.int 0), (.int 0)])) (fun t k => oifY (pc := 134) Xr8 hx hby at_134 141 ((if0 _ _).trans (feq hs12).2) (by decide) (oiconst Xr8 hx hby at_141 k)) ?_
            have ne4 : br2 ≠ b4 := Nat.ne_of_lt (Nat.lt_of_lt_of_le (Nat.lt_of_lt_of_le (Nat.lt_of_lt_of_le (f1.lt) Kr3.1) Kr5.1) sz4)
            have f42 : Exa Z Tr6.heap b3 zs0 := (f24.keep Kr6)
            have ne5 : br2 ≠ b3 := Nat.ne_of_lt (Nat.lt_of_lt_of_le (Nat.lt_of_lt_of_le (f1.lt) Kr3.1) sz3)
            have ne6 : b2 ≠ b3 := Nat.ne_of_lt (Nat.lt_of_lt_of_le (f13.lt) sz3)
            have ne7 : b1 ≠ b3 := Nat.ne_of_lt (Nat.lt_of_lt_of_le (f11.lt) sz3)
            have f43 : Fld Z Tr6.heap b3 zs0 "first" zs10 .null := (f27.keep Kr6 (ninS (Ne.symm ne7) (ninS (Ne.symm ne6) (ninS (Ne.symm ne5) nin0))))
            obtain ⟨_, Tr9, Lr9, Xr9, hQr9, str9⟩ := ocallV Xr8 hx hZ zm9 zm9 hown (ww hw 70 rfl) (ww hw 71 rfl) (notFace_of_selects (args := #[]) (mvT hZ (ww hw 73 rfl))) (ww hw 73 rfl) (ww hw 72 rfl) (by decide) (ww hw 74 rfl) (ww hw 5 rfl) er8 f41 (rm10_25 l Z a0 hw [] br2 b4 w1 b2 b1 b3 k1 Tr6.heap n0 Z_4 f36 f32 f33 f34 f35 f41 g1 f30 (Ne.symm ne2) f37 f40 (Ne.symm ne4) g2 f42 f43 (Ne.symm ne5) (Ne.symm ne7)) (st := [(.ref b4), (.ref br2)]) rfl 0 rfl (by decide) (pc := 161) (Ls := (lc26 i0 i1 i2 w1 z1 z2 br2 1 0 b4 1)) hml rfl (lenOf pd_8 rfl) at_161 hby
            obtain ⟨rfl, Nr9q, Kr9, f44, f45, f46, f47, f48, f49⟩ := hQr9
            have N7 := Fr.app N6 Nr9q
            refine own_go (U' := Tr9.setTop (mkF m 166 (lc26 i0 i1 i2 w1 z1 z2 br2 1 0 b4 1) [(.int 1)])) (fun t k => oicN Xr8 hx hby at_142 (by decide) (oiconst Xr8 hx hby at_145 (ogoto (pc := 146) Xr8 hx hby at_146 150 (by decide) (oistore Xr8 hx hby at_150 (lc26 i0 i1 i2 w1 z1 z2 br2 1 0 b4 1) rfl (oaload Xr8 hx hby at_152 rfl rfl (onlN Xr8 hx hby at_154 (oaload Xr8 hx hby at_157 rfl rfl (oaload Xr8 hx hby at_159 rfl rfl (str9 _ (oiload Xr9 hx hby at_164 rfl k)))))))))) ?_
            have f50 : Exa Z Tr9.heap br2 zs1 := (f41.keep Kr9)
            have Z_5 : n0 ≤ Tr9.heap.size := Nat.le_trans Z_4 Kr9.1
            obtain ⟨_, Tr10, Lr10, Xr10, hQr10, str10⟩ := ocallV Xr9 hx hZ zm1 zm1 hown (ww hw 21 rfl) (ww hw 22 rfl) (notFace_of_selects (args := #[]) (mvT hZ (ww hw 24 rfl))) (ww hw 24 rfl) (ww hw 23 rfl) (by decide) (ww hw 25 rfl) (ww hw 5 rfl) rfl f50 (rm3_1 l Z a0 hw [] br2 Tr9.heap n0 Z_5 f46) (st := [(.ref br2)]) rfl 0 rfl (by decide) (pc := 171) (Ls := (lc26 i0 i1 i2 w1 z1 z2 br2 1 0 b4 1)) hml rfl (lenOf pd_1 rfl) at_171 hby
            obtain ⟨rfl, Nr10q, er10⟩ := hQr10
            have N8 := Fr.app N7 Nr10q
            refine own_go (U' := Tr10.setTop (mkF m 174 (lc26 i0 i1 i2 w1 z1 z2 br2 1 0 b4 1) [(.int 1)])) (fun t k => oifN Xr9 hx hby at_166 (by decide) (oaload Xr9 hx hby at_169 rfl rfl (str10 _ k))) ?_
            refine own_go (U' := Tr10.setTop (mkF m 186 (lc26 i0 i1 i2 w1 z1 z2 br2 1 0 b4 1) [(.int 1)])) (fun t k => oifN Xr10 hx hby at_174 (by decide) (oiconst Xr10 hx hby at_177 (ogoto (pc := 178) Xr10 hx hby at_178 182 (by decide) (oistore Xr10 hx hby at_182 (lc26 i0 i1 i2 w1 z1 z2 br2 1 0 b4 1) rfl (oiload Xr10 hx hby at_184 rfl k))))) ?_
            obtain ⟨fs, hr, hrun, hended, hW, hsame⟩ := Xr10.leave (v := some (.int 1)) (fun h => by rw [Bd.returns] at h; cases h)
            refine own_out ⟨_, _, ?_, hrun, hended, _, _, rfl, ?_, ⟨_, rfl⟩, hW, hsame.mono (by decide) (by decide)⟩
            · exact retN Xr10 hx (t := .boolean) Bd.returns (by simp) (hb hby at_186) hr
            · exact ⟨rfl, N8⟩
          · have hc40 : ¬ (i1 = (-9223372036854775808 : Int64)) := (fun e => by have := congrArg Int64.toInt e; have : ¬ (i1).toInt < ((i1 ^^^ (-1 : Int64))).toInt := fun e => hk12 (Int64.lt_iff_toInt_lt.mpr e); have := rng64 i1; have := (by decide : ((-9223372036854775808 : Int64)).toInt = -9223372036854775808); have := own_xnJ i1; omega)
            obtain ⟨_, Tr5, Lr5, Xr5, hQr5, str5⟩ := ocallV Xr4 hx hZ zm7 zm7 hown (ww hw 33 rfl) (ww hw 34 rfl) (notFace_of_selects (args := #[]) (mvT hZ (ww hw 36 rfl))) (ww hw 36 rfl) (ww hw 35 rfl) (by decide) (ww hw 37 rfl) (ww hw 5 rfl) er4 f15 (rm5_45 l Z a0 hw [] br2 i1 w1 b1 k1 b2 k2 Tr3.heap n0 Z_2 f8 f16 f15 f9 hc40 f6 f12 g2 O1 f7 ne2 f14 (Ne.symm ne1) g3 ne3 f10 g1) (st := [.null, (.long i1), (.ref br2)]) rfl 0 rfl (by decide) (pc := 69) (Ls := (lc7 i0 i1 i2 w1 z1 z2 br2 1)) hml rfl (lenOf pd_7 rfl) at_69 hby
            obtain ⟨b3, rfl, Nr5q, Kr5, sz3, f17, f18, f19, f20, f21, f22, f23, f24, f25, f26, f27⟩ := hQr5
            have N3 := Fr.app N2 Nr5q
            have hc8 : ¬ ((((i0.toUInt32 >>> ((1 : Int32) &&& 31).toUInt32).toInt32) % (3 : Int32)) < (1 : Int32)) := hk10
            have hs9 : ¬ (z1 < (1 : Int32)) := by rw [hz1]; exact hc8
            refine own_go (U' := Tr5.setTop (mkF m 76 (lc7 i0 i1 i2 w1 z1 z2 br2 1) [(.int 2), (.int z1)])) (fun t k => oicN Xr4 hx hby at_62 (flt hs9).1 (oaload Xr4 hx hby at_65 rfl rfl (olloadN Xr4 hx hby at_67 rfl (onull Xr4 hx hby at_68 (str5 _ (opop Xr5 hx hby at_72 rfl (oiload Xr5 hx hby at_73 rfl (oiconst Xr5 hx hby at_75 k)))))))) ?_
            have f28 : Exa Z Tr5.heap br2 zs1 := (f15.keep Kr5)
            have f29 : Sta Z Tr5.heap zs5 "BUY" zs3 (.ref w1) := (own_staK f16 Kr5 (allS (own_nsE f11) (allS (own_nsE f13) (allS (own_nsE (Ar2.keep Kr3)) all0))))
            have Z_3 : n0 ≤ Tr5.heap.size := Nat.le_trans Z_2 Kr5.1
            have hc41 : ¬ (i1 < (i1 ^^^ (-1 : Int64))) := hk12
            have hs42 : ¬ (i1 < z2) := by rw [hz2]; exact hc41
            have hc34 : ¬ (i1 = (i1 ^^^ (-1 : Int64))) := (fun e => by have := congrArg Int64.toInt e; have := rng64 i1; have := own_xnJ i1; omega)
            have hs35 : ¬ (i1 = z2) := by rw [hz2]; exact hc34
            have hc17 : ¬ ((i1 ^^^ (-1 : Int64)) = (9223372036854775807 : Int64)) := (fun e => by have := congrArg Int64.toInt e; have : ¬ (i1).toInt < ((i1 ^^^ (-1 : Int64))).toInt := fun e => hk12 (Int64.lt_iff_toInt_lt.mpr e); have := rng64 i1; have := own_xnJ i1; have := (by decide : ((9223372036854775807 : Int64)).toInt = 9223372036854775807); omega)
            have hs43 : ¬ (z2 = (9223372036854775807 : Int64)) := by rw [hz2]; exact hc17
            obtain ⟨_, Tr6, Lr6, Xr6, hQr6, str6⟩ := ocallV Xr5 hx hZ zm7 zm7 hown (ww hw 33 rfl) (ww hw 34 rfl) (notFace_of_selects (args := #[]) (mvT hZ (ww hw 36 rfl))) (ww hw 36 rfl) (ww hw 35 rfl) (by decide) (ww hw 37 rfl) (ww hw 5 rfl) rfl f28 (rm5_49 l Z a0 hw [] br2 z2 w1 b2 i1 k2 b1 b3 k1 Tr5.heap n0 Z_3 f19 f29 f28 f20 f22 f18 hs42 hs35 hs43 f21 f17 g2 O1 f24 ne2 (Ne.symm ne1) g3 ne3 f23 g1) (st := [.null, (.long z2), (.ref br2)]) rfl 0 rfl (by decide) (pc := 84) (Ls := (lc7 i0 i1 i2 w1 z1 z2 br2 1)) hml rfl (lenOf pd_7 rfl) at_84 hby
            obtain ⟨b4, rfl, Nr6q, Kr6, sz4, f30, f31, f32, f33, f34, f35, f36, f37, f38, f39, f40⟩ := hQr6
            have N4 := Fr.app N3 Nr6q
            have f41 : Exa Z Tr6.heap br2 zs1 := (f28.keep Kr6)
            have Z_4 : n0 ≤ Tr6.heap.size := Nat.le_trans Z_3 Kr6.1
            obtain ⟨_, Tr7, Lr7, Xr7, hQr7, str7⟩ := ocallV Xr6 hx hZ zm1 zm1 hown (ww hw 21 rfl) (ww hw 22 rfl) (notFace_of_selects (args := #[]) (mvT hZ (ww hw 24 rfl))) (ww hw 24 rfl) (ww hw 23 rfl) (by decide) (ww hw 25 rfl) (ww hw 5 rfl) rfl f41 (rm3_23 l Z a0 hw [] br2 Tr6.heap n0 Z_4 f33) (st := [(.ref br2)]) rfl 0 rfl (by decide) (pc := 90) (Ls := (lc7 i0 i1 i2 w1 z1 z2 br2 1)) hml rfl (lenOf pd_1 rfl) at_90 hby
            obtain ⟨rfl, Nr7q, er7⟩ := hQr7
            have N5 := Fr.app N4 Nr7q
            obtain ⟨_, Tr8, Lr8, Xr8, hQr8, str8⟩ := ocallV Xr7 hx hZ zm2 zm2 hown (ww hw 28 rfl) (ww hw 29 rfl) (notFace_of_selects (args := #[]) (mvT hZ (ww hw 31 rfl))) (ww hw 31 rfl) (ww hw 30 rfl) (by decide) (ww hw 32 rfl) (ww hw 5 rfl) er7 f41 (rm4_24 l Z a0 hw [] br2 b1 b4 b3 k1 Tr6.heap n0 Z_4 f33 f35 f30) (st := [(.ref br2)]) rfl 0 rfl (by decide) (pc := 97) (Ls := (lc8 i0 i1 i2 w1 z1 z2 br2 1 0)) hml rfl (lenOf pd_2 rfl) at_97 hby
            obtain ⟨rfl, Nr8q, er8⟩ := hQr8
            have N6 := Fr.app N5 Nr8q
            have hc13 : ¬ ((((i0.toUInt32 >>> ((1 : Int32) &&& 31).toUInt32).toInt32) % (3 : Int32)) < (2 : Int32)) := hk11
            have hs14 : ¬ (z1 < (2 : Int32)) := by rw [hz1]; exact hc13
            refine own_go (U' := Tr8.setTop (mkF m 104 (lc25 i0 i1 i2 w1 z1 z2 br2 1 0 b3) [(.int 1)])) (fun t k => oicN Xr5 hx hby at_76 (flt hs14).1 (oaload Xr5 hx hby at_79 rfl rfl (olload Xr5 hx hby at_81 rfl (onull Xr5 hx hby at_83 (str6 _ (opop Xr6 hx hby at_87 rfl (oaload Xr6 hx hby at_88 rfl rfl (str7 _ (oistore Xr7 hx hby at_93 (lc8 i0 i1 i2 w1 z1 z2 br2 1 0) rfl (oaload Xr7 hx hby at_95 rfl rfl (str8 _ (oastore Xr8 hx hby at_100 (lc25 i0 i1 i2 w1 z1 z2 br2 1 0 b3) rfl rfl (oiload Xr8 hx hby at_102 rfl k))))))))))))) ?_
            refine own_go (U' := Tr8.setTop (mkF m 111 (lc25 i0 i1 i2 w1 z1 z2 br2 1 0 b3) [(.int z1), (.int 0)])) (fun t k => oifN Xr8 hx hby at_104 (by decide) (oiload Xr8 hx hby at_107 rfl (oiload Xr8 hx hby at_109 rfl k))) ?_
            have hc11 : ¬ ((((i0.toUInt32 >>> ((1 : Int32) &&& 31).toUInt32).toInt32) % (3 : Int32)) = (0 : Int32)) := (fun e => by have := congrArg Int32.toInt e; have : ¬ ((((i0.toUInt32 >>> ((1 : Int32) &&& 31).toUInt32).toInt32) % (3 : Int32))).toInt < ((1 : Int32)).toInt := fun e => hk10 (Int32.lt_iff_toInt_lt.mpr e); have := c_iushr i0 (1 : Int32) 1 (by decide) (by decide); have := rng32 i0; have := c_irem ((i0.toUInt32 >>> ((1 : Int32) &&& 31).toUInt32).toInt32) (3 : Int32) 3 (by decide); have := Int.emod_nonneg (((i0.toUInt32 >>> ((1 : Int32) &&& 31).toUInt32).toInt32)).toInt (show (3 : Int) ≠ 0 by decide); have := Int.emod_lt_of_pos (((i0.toUInt32 >>> ((1 : Int32) &&& 31).toUInt32).toInt32)).toInt (show (0 : Int) < 3 by decide); have := (by decide : ((0 : Int32)).toInt = 0); have := (by decide : ((1 : Int32)).toInt = 1); omega)
            have hs12 : ¬ (z1 = (0 : Int32)) := by rw [hz1]; exact hc11
            refine own_go (U' := Tr8.setTop (mkF m 119 (lc25 i0 i1 i2 w1 z1 z2 br2 1 0 b3) [(.int 0), (.int 0)])) (fun t k => oifY (pc := 111) Xr8 hx hby at_111 118 ((if0 _ _).trans (feq hs12).2) (by decide) (oiconst Xr8 hx hby at_118 k)) ?_
            refine own_go (U' := Tr8.setTop (mkF m 134 (lc25 i0 i1 i2 w1 z1 z2 br2 1 0 b3) [(.int z1), (.int 0)])) (fun t k => oicN Xr8 hx hby at_119 (by decide) (oaload Xr8 hx hby at_122 rfl rfl (onnY (pc := 124) Xr8 hx hby at_124 131 (by decide) (oiconst Xr8 hx hby at_131 (oiload Xr8 hx hby at_132 rfl k))))) ?_
            refine own_go (U' := Tr8.setTop (mkF m 142 (lc25 i0 i1 i2 w1 z1 z2 br2 1 0 b3) [(.int 0), (.int 0)])) (fun t k => oifY (pc := 134) Xr8 hx hby at_134 141 ((if0 _ _).trans (feq hs12).2) (by decide) (oiconst Xr8 hx hby at_141 k)) ?_
            have f42 : Exa Z Tr6.heap b3 zs0 := (f24.keep Kr6)
            have ne4 : br2 ≠ b3 := Nat.ne_of_lt (Nat.lt_of_lt_of_le (Nat.lt_of_lt_of_le (f1.lt) Kr3.1) sz3)
            have ne5 : b2 ≠ b3 := Nat.ne_of_lt (Nat.lt_of_lt_of_le (f13.lt) sz3)
            have ne6 : b1 ≠ b3 := Nat.ne_of_lt (Nat.lt_of_lt_of_le (f11.lt) sz3)
            have f43 : Fld Z Tr6.heap b3 zs0 "first" zs10 .null := (f27.keep Kr6 (ninS (Ne.symm ne6) (ninS (Ne.symm ne5) (ninS (Ne.symm ne4) nin0))))
            have ne7 : br2 ≠ b4 := Nat.ne_of_lt (Nat.lt_of_lt_of_le (Nat.lt_of_lt_of_le (Nat.lt_of_lt_of_le (f1.lt) Kr3.1) Kr5.1) sz4)
            have ne8 : b1 ≠ b4 := Nat.ne_of_lt (Nat.lt_of_lt_of_le (Nat.lt_of_lt_of_le (f11.lt) Kr5.1) sz4)
            obtain ⟨_, Tr9, Lr9, Xr9, hQr9, str9⟩ := ocallV Xr8 hx hZ zm9 zm9 hown (ww hw 70 rfl) (ww hw 71 rfl) (notFace_of_selects (args := #[]) (mvT hZ (ww hw 73 rfl))) (ww hw 73 rfl) (ww hw 72 rfl) (by decide) (ww hw 74 rfl) (ww hw 5 rfl) er8 f41 (rm10_25 l Z a0 hw [] br2 b3 w1 b2 b1 b4 k1 Tr6.heap n0 Z_4 f36 f32 f33 f34 f35 f41 g1 f30 (Ne.symm ne2) f42 f43 (Ne.symm ne4) g2 f37 f40 (Ne.symm ne7) (Ne.symm ne8)) (st := [(.ref b3), (.ref br2)]) rfl 0 rfl (by decide) (pc := 161) (Ls := (lc26 i0 i1 i2 w1 z1 z2 br2 1 0 b3 1)) hml rfl (lenOf pd_8 rfl) at_161 hby
            obtain ⟨rfl, Nr9q, Kr9, f44, f45, f46, f47, f48, f49⟩ := hQr9
            have N7 := Fr.app N6 Nr9q
            refine own_go (U' := Tr9.setTop (mkF m 166 (lc26 i0 i1 i2 w1 z1 z2 br2 1 0 b3 1) [(.int 1)])) (fun t k => oicN Xr8 hx hby at_142 (by decide) (oiconst Xr8 hx hby at_145 (ogoto (pc := 146) Xr8 hx hby at_146 150 (by decide) (oistore Xr8 hx hby at_150 (lc26 i0 i1 i2 w1 z1 z2 br2 1 0 b3 1) rfl (oaload Xr8 hx hby at_152 rfl rfl (onlN Xr8 hx hby at_154 (oaload Xr8 hx hby at_157 rfl rfl (oaload Xr8 hx hby at_159 rfl rfl (str9 _ (oiload Xr9 hx hby at_164 rfl k)))))))))) ?_
            have f50 : Exa Z Tr9.heap br2 zs1 := (f41.keep Kr9)
            have Z_5 : n0 ≤ Tr9.heap.size := Nat.le_trans Z_4 Kr9.1
            obtain ⟨_, Tr10, Lr10, Xr10, hQr10, str10⟩ := ocallV Xr9 hx hZ zm1 zm1 hown (ww hw 21 rfl) (ww hw 22 rfl) (notFace_of_selects (args := #[]) (mvT hZ (ww hw 24 rfl))) (ww hw 24 rfl) (ww hw 23 rfl) (by decide) (ww hw 25 rfl) (ww hw 5 rfl) rfl f50 (rm3_1 l Z a0 hw [] br2 Tr9.heap n0 Z_5 f46) (st := [(.ref br2)]) rfl 0 rfl (by decide) (pc := 171) (Ls := (lc26 i0 i1 i2 w1 z1 z2 br2 1 0 b3 1)) hml rfl (lenOf pd_1 rfl) at_171 hby
            obtain ⟨rfl, Nr10q, er10⟩ := hQr10
            have N8 := Fr.app N7 Nr10q
            refine own_go (U' := Tr10.setTop (mkF m 174 (lc26 i0 i1 i2 w1 z1 z2 br2 1 0 b3 1) [(.int 1)])) (fun t k => oifN Xr9 hx hby at_166 (by decide) (oaload Xr9 hx hby at_169 rfl rfl (str10 _ k))) ?_
            refine own_go (U' := Tr10.setTop (mkF m 186 (lc26 i0 i1 i2 w1 z1 z2 br2 1 0 b3 1) [(.int 1)])) (fun t k => oifN Xr10 hx hby at_174 (by decide) (oiconst Xr10 hx hby at_177 (ogoto (pc := 178) Xr10 hx hby at_178 182 (by decide) (oistore Xr10 hx hby at_182 (lc26 i0 i1 i2 w1 z1 z2 br2 1 0 b3 1) rfl (oiload Xr10 hx hby at_184 rfl k))))) ?_
            obtain ⟨fs, hr, hrun, hended, hW, hsame⟩ := Xr10.leave (v := some (.int 1)) (fun h => by rw [Bd.returns] at h; cases h)
            refine own_out ⟨_, _, ?_, hrun, hended, _, _, rfl, ?_, ⟨_, rfl⟩, hW, hsame.mono (by decide) (by decide)⟩
            · exact retN Xr10 hx (t := .boolean) Bd.returns (by simp) (hb hby at_186) hr
            · exact ⟨rfl, N8⟩
    · obtain ⟨Tr2, hr2, Xr2, er2, Er2, Ar2, Dr2, -, str2⟩ := newO Xr1 hx hZ hown (ww hw 3 rfl) (ww hw 4 rfl) (ww hw 5 rfl) er1 (g := (mkF m 41 (lc3 i0 i1 i2 w1 z1 i2) [])) rfl (hb hby at_41) (by decide) (by decide)
      obtain ⟨br2, gr2⟩ : ∃ z, z = h0.size := ⟨_, rfl⟩
      rw [← gr2] at Ar2 Dr2 str2
      have f1 : Fld Z hr2 br2 zs1 "levels" zs2 .null := Dr2 (Or.inl (ww hw 15 rfl)) (ty := (.array (.object zs0))) (by decide)
      have f2 : Fld Z hr2 br2 zs1 "ranks" "[J" .null := Dr2 (Or.inl (ww hw 18 rfl)) (ty := (.array .long)) (by decide)
      have f3 : Fld Z hr2 br2 zs1 "side" zs3 .null := Dr2 (Or.inr (ww hw 20 rfl)) (ty := (.object zs5)) (by decide)
      have f4 : Fld Z hr2 br2 zs1 "count" "I" (.int 0) := Dr2 (Or.inl (ww hw 27 rfl)) (ty := .int) (by decide)
      have f5 : Fld Z hr2 br2 zs1 "emptyLevels" "I" (.int 0) := Dr2 (Or.inl (ww hw 76 rfl)) (ty := .int) (by decide)
      have g1 : n0 ≤ br2 := Nat.le_trans Z0 (Nat.le_of_eq gr2.symm)
      have Z_1 : n0 ≤ hr2.size := Nat.le_trans Z0 Er2.1
      obtain ⟨_, Tr3, Lr3, Xr3, hQr3, str3⟩ := ocallI Xr2 hx hZ zm0 rfl hown (ww hw 6 rfl) (ww hw 7 rfl) (by decide) (ww hw 8 rfl) (ww hw 5 rfl) er2 (rm1_0 l Z a0 hw [] br2 w1 hr2 n0 Z_1 f1 f2 f3 f4 f5 Ar2 g1) (st := [(.ref w1), (.ref br2), (.ref br2)]) rfl 1 rfl (by decide) (pc := 47) (Ls := (lc3 i0 i1 i2 w1 z1 i2)) hml rfl (lenOf pd_0 rfl) at_47 hby
      obtain ⟨b1, b2, k1, k2, rfl, Nr3q, Kr3, sz1, sz2, ne1, O1, f6, f7, f8, f9, f10, f11, f12, f13, f14⟩ := hQr3
      have N1 := Fr.app N0 Nr3q
      have f15 : Exa Z Tr3.heap br2 zs1 := (Ar2.keep Kr3)
      have Z_2 : n0 ≤ Tr3.heap.size := Nat.le_trans Z_1 Kr3.1
      obtain ⟨_, Tr4, Lr4, Xr4, hQr4, str4⟩ := ocallV Xr3 hx hZ zm1 zm1 hown (ww hw 21 rfl) (ww hw 22 rfl) (notFace_of_selects (args := #[]) (mvT hZ (ww hw 24 rfl))) (ww hw 24 rfl) (ww hw 23 rfl) (by decide) (ww hw 25 rfl) (ww hw 5 rfl) rfl f15 (rm3_1 l Z a0 hw [] br2 Tr3.heap n0 Z_2 f9) (st := [(.ref br2)]) rfl 0 rfl (by decide) (pc := 54) (Ls := (lc5 i0 i1 i2 w1 z1 i2 br2)) hml rfl (lenOf pd_1 rfl) at_54 hby
      obtain ⟨rfl, Nr4q, er4⟩ := hQr4
      have N2 := Fr.app N1 Nr4q
      have hc27 : ¬ (i2 = i1) := hk9
      refine own_go (U' := Tr4.setTop (mkF m 62 (lc7 i0 i1 i2 w1 z1 i2 br2 1) [(.int 1), (.int z1)])) (fun t k => oifY (pc := 27) Xr1 hx hby at_27 38 (own_ll_ne_t hc27) (by decide) (olloadN Xr1 hx hby at_38 rfl (olstore Xr1 hx hby at_39 (lc3 i0 i1 i2 w1 z1 i2) rfl (str2 _ (odup Xr2 hx hby at_44 rfl (oaload Xr2 hx hby at_45 rfl rfl (str3 _ (oastore Xr3 hx hby at_50 (lc5 i0 i1 i2 w1 z1 i2 br2) rfl rfl (oaload Xr3 hx hby at_52 rfl rfl (str4 _ (oistore Xr4 hx hby at_57 (lc7 i0 i1 i2 w1 z1 i2 br2 1) rfl (oiload Xr4 hx hby at_59 rfl (oiconst Xr4 hx hby at_61 k))))))))))))) ?_
      by_cases hk13 : (((i0.toUInt32 >>> ((1 : Int32) &&& 31).toUInt32).toInt32) % (3 : Int32)) < (1 : Int32)
      · have hc2 : (((i0.toUInt32 >>> ((1 : Int32) &&& 31).toUInt32).toInt32) % (3 : Int32)) < (1 : Int32) := hk13
        have hs3 : z1 < (1 : Int32) := by rw [hz1]; exact hc2
        refine own_go (U' := Tr4.setTop (mkF m 76 (lc7 i0 i1 i2 w1 z1 i2 br2 1) [(.int 2), (.int z1)])) (fun t k => oicY (pc := 62) Xr4 hx hby at_62 73 (tlt hs3).1 (by decide) (oiload Xr4 hx hby at_73 rfl (oiconst Xr4 hx hby at_75 k))) ?_
        obtain ⟨_, Tr5, Lr5, Xr5, hQr5, str5⟩ := ocallV Xr4 hx hZ zm1 zm1 hown (ww hw 21 rfl) (ww hw 22 rfl) (notFace_of_selects (args := #[]) (mvT hZ (ww hw 24 rfl))) (ww hw 24 rfl) (ww hw 23 rfl) (by decide) (ww hw 25 rfl) (ww hw 5 rfl) er4 f15 (rm3_1 l Z a0 hw [] br2 Tr3.heap n0 Z_2 f9) (st := [(.ref br2)]) rfl 0 rfl (by decide) (pc := 90) (Ls := (lc7 i0 i1 i2 w1 z1 i2 br2 1)) hml rfl (lenOf pd_1 rfl) at_90 hby
        obtain ⟨rfl, Nr5q, er5⟩ := hQr5
        have N3 := Fr.app N2 Nr5q
        obtain ⟨_, Tr6, Lr6, Xr6, hQr6, str6⟩ := ocallV Xr5 hx hZ zm2 zm2 hown (ww hw 28 rfl) (ww hw 29 rfl) (notFace_of_selects (args := #[]) (mvT hZ (ww hw 31 rfl))) (ww hw 31 rfl) (ww hw 30 rfl) (by decide) (ww hw 32 rfl) (ww hw 5 rfl) er5 f15 (rm4_2 l Z a0 hw [] br2 Tr3.heap n0 Z_2 f9) (st := [(.ref br2)]) rfl 0 rfl (by decide) (pc := 97) (Ls := (lc8 i0 i1 i2 w1 z1 i2 br2 1 1)) hml rfl (lenOf pd_2 rfl) at_97 hby
        obtain ⟨rfl, Nr6q, er6⟩ := hQr6
        have N4 := Fr.app N3 Nr6q
        have hc4 : (((i0.toUInt32 >>> ((1 : Int32) &&& 31).toUInt32).toInt32) % (3 : Int32)) < (2 : Int32) := (Int32.lt_iff_toInt_lt.mpr (by have := Int32.lt_iff_toInt_lt.mp hk13; have := c_iushr i0 (1 : Int32) 1 (by decide) (by decide); have := rng32 i0; have := c_irem ((i0.toUInt32 >>> ((1 : Int32) &&& 31).toUInt32).toInt32) (3 : Int32) 3 (by decide); have := Int.emod_nonneg (((i0.toUInt32 >>> ((1 : Int32) &&& 31).toUInt32).toInt32)).toInt (show (3 : Int) ≠ 0 by decide); have := Int.emod_lt_of_pos (((i0.toUInt32 >>> ((1 : Int32) &&& 31).toUInt32).toInt32)).toInt (show (0 : Int) < 3 by decide); have := (by decide : ((2 : Int32)).toInt = 2); have := (by decide : ((1 : Int32)).toInt = 1); omega))
        have hs5 : z1 < (2 : Int32) := by rw [hz1]; exact hc4
        refine own_go (U' := Tr6.setTop (mkF m 104 (lc9 i0 i1 i2 w1 z1 i2 br2 1 1) [(.int 1)])) (fun t k => oicY (pc := 76) Xr4 hx hby at_76 88 (tlt hs5).1 (by decide) (oaload Xr4 hx hby at_88 rfl rfl (str5 _ (oistore Xr5 hx hby at_93 (lc8 i0 i1 i2 w1 z1 i2 br2 1 1) rfl (oaload Xr5 hx hby at_95 rfl rfl (str6 _ (oastore Xr6 hx hby at_100 (lc9 i0 i1 i2 w1 z1 i2 br2 1 1) rfl rfl (oiload Xr6 hx hby at_102 rfl k)))))))) ?_
        refine own_go (U' := Tr6.setTop (mkF m 111 (lc9 i0 i1 i2 w1 z1 i2 br2 1 1) [(.int z1), (.int 1)])) (fun t k => oifN Xr6 hx hby at_104 (by decide) (oiload Xr6 hx hby at_107 rfl (oiload Xr6 hx hby at_109 rfl k))) ?_
        have hc6 : (((i0.toUInt32 >>> ((1 : Int32) &&& 31).toUInt32).toInt32) % (3 : Int32)) = (0 : Int32) := (Int32.toInt_inj.mp (by have := Int32.lt_iff_toInt_lt.mp hk13; have := c_iushr i0 (1 : Int32) 1 (by decide) (by decide); have := rng32 i0; have := c_irem ((i0.toUInt32 >>> ((1 : Int32) &&& 31).toUInt32).toInt32) (3 : Int32) 3 (by decide); have := Int.emod_nonneg (((i0.toUInt32 >>> ((1 : Int32) &&& 31).toUInt32).toInt32)).toInt (show (3 : Int) ≠ 0 by decide); have := Int.emod_lt_of_pos (((i0.toUInt32 >>> ((1 : Int32) &&& 31).toUInt32).toInt32)).toInt (show (0 : Int) < 3 by decide); have := (by decide : ((0 : Int32)).toInt = 0); have := (by decide : ((1 : Int32)).toInt = 1); omega))
        have hs7 : z1 = (0 : Int32) := by rw [hz1]; exact hc6
        refine own_go (U' := Tr6.setTop (mkF m 119 (lc9 i0 i1 i2 w1 z1 i2 br2 1 1) [(.int 1), (.int 1)])) (fun t k => oifN Xr6 hx hby at_111 ((if0 _ _).trans (teq hs7).2) (oiconst Xr6 hx hby at_114 (ogoto (pc := 115) Xr6 hx hby at_115 119 (by decide) k))) ?_
        refine own_go (U' := Tr6.setTop (mkF m 134 (lc9 i0 i1 i2 w1 z1 i2 br2 1 1) [(.int z1), (.int 1)])) (fun t k => oicN Xr6 hx hby at_119 (by decide) (oaload Xr6 hx hby at_122 rfl rfl (onnN Xr6 hx hby at_124 (oiconst Xr6 hx hby at_127 (ogoto (pc := 128) Xr6 hx hby at_128 132 (by decide) (oiload Xr6 hx hby at_132 rfl k)))))) ?_
        refine own_go (U' := Tr6.setTop (mkF m 142 (lc9 i0 i1 i2 w1 z1 i2 br2 1 1) [(.int 1), (.int 1)])) (fun t k => oifN Xr6 hx hby at_134 ((if0 _ _).trans (teq hs7).2) (oiconst Xr6 hx hby at_137 (ogoto (pc := 138) Xr6 hx hby at_138 142 (by decide) k))) ?_
        refine own_go (U' := Tr6.setTop (mkF m 186 (lc10 i0 i1 i2 w1 z1 i2 br2 1 1 1) [(.int 1)])) (fun t k => oicN Xr6 hx hby at_142 (by decide) (oiconst Xr6 hx hby at_145 (ogoto (pc := 146) Xr6 hx hby at_146 150 (by decide) (oistore Xr6 hx hby at_150 (lc10 i0 i1 i2 w1 z1 i2 br2 1 1 1) rfl (oaload Xr6 hx hby at_152 rfl rfl (onlY (pc := 154) Xr6 hx hby at_154 184 (by decide) (oiload Xr6 hx hby at_184 rfl k))))))) ?_
        obtain ⟨fs, hr, hrun, hended, hW, hsame⟩ := Xr6.leave (v := some (.int 1)) (fun h => by rw [Bd.returns] at h; cases h)
        refine own_out ⟨_, _, ?_, hrun, hended, _, _, rfl, ?_, ⟨_, rfl⟩, hW, hsame.mono (by decide) (by decide)⟩
        · exact retN Xr6 hx (t := .boolean) Bd.returns (by simp) (hb hby at_186) hr
        · exact ⟨rfl, N4⟩
      · have f16 : Sta Z Tr3.heap zs5 "BUY" zs3 (.ref w1) := (own_staK (Sta.ext Er2 S2) Kr3 (allS (own_nsF f1) all0))
        have g2 : n0 ≤ b1 := Nat.le_trans Z_1 sz1
        have ne2 : br2 ≠ b1 := Nat.ne_of_lt (Nat.lt_of_lt_of_le (f1.lt) sz1)
        have g3 : n0 ≤ b2 := Nat.le_trans Z_1 sz2
        have ne3 : br2 ≠ b2 := Nat.ne_of_lt (Nat.lt_of_lt_of_le (f1.lt) sz2)
        by_cases hk14 : (((i0.toUInt32 >>> ((1 : Int32) &&& 31).toUInt32).toInt32) % (3 : Int32)) < (2 : Int32)
        · obtain ⟨_, Tr5, Lr5, Xr5, hQr5, str5⟩ := ocallV Xr4 hx hZ zm7 zm7 hown (ww hw 33 rfl) (ww hw 34 rfl) (notFace_of_selects (args := #[]) (mvT hZ (ww hw 36 rfl))) (ww hw 36 rfl) (ww hw 35 rfl) (by decide) (ww hw 37 rfl) (ww hw 5 rfl) er4 f15 (rm5_37 l Z a0 hw [] br2 i1 w1 b1 k1 b2 k2 Tr3.heap n0 Z_2 f8 f16 f15 f9 f6 f12 g2 O1 f7 ne2 f14 (Ne.symm ne1) g3 ne3 f10 g1) (st := [.null, (.long i1), (.ref br2)]) rfl 0 rfl (by decide) (pc := 69) (Ls := (lc7 i0 i1 i2 w1 z1 i2 br2 1)) hml rfl (lenOf pd_7 rfl) at_69 hby
          obtain ⟨b3, rfl, Nr5q, Kr5, sz3, f17, f18, f19, f20, f21, f22, f23, f24, f25, f26, f27⟩ := hQr5
          have N3 := Fr.app N2 Nr5q
          have hc8 : ¬ ((((i0.toUInt32 >>> ((1 : Int32) &&& 31).toUInt32).toInt32) % (3 : Int32)) < (1 : Int32)) := hk13
          have hs9 : ¬ (z1 < (1 : Int32)) := by rw [hz1]; exact hc8
          refine own_go (U' := Tr5.setTop (mkF m 76 (lc7 i0 i1 i2 w1 z1 i2 br2 1) [(.int 2), (.int z1)])) (fun t k => oicN Xr4 hx hby at_62 (flt hs9).1 (oaload Xr4 hx hby at_65 rfl rfl (olloadN Xr4 hx hby at_67 rfl (onull Xr4 hx hby at_68 (str5 _ (opop Xr5 hx hby at_72 rfl (oiload Xr5 hx hby at_73 rfl (oiconst Xr5 hx hby at_75 k)))))))) ?_
          have f28 : Exa Z Tr5.heap br2 zs1 := (f15.keep Kr5)
          have Z_3 : n0 ≤ Tr5.heap.size := Nat.le_trans Z_2 Kr5.1
          obtain ⟨_, Tr6, Lr6, Xr6, hQr6, str6⟩ := ocallV Xr5 hx hZ zm1 zm1 hown (ww hw 21 rfl) (ww hw 22 rfl) (notFace_of_selects (args := #[]) (mvT hZ (ww hw 24 rfl))) (ww hw 24 rfl) (ww hw 23 rfl) (by decide) (ww hw 25 rfl) (ww hw 5 rfl) rfl f28 (rm3_11 l Z a0 hw [] br2 Tr5.heap n0 Z_3 f20) (st := [(.ref br2)]) rfl 0 rfl (by decide) (pc := 90) (Ls := (lc7 i0 i1 i2 w1 z1 i2 br2 1)) hml rfl (lenOf pd_1 rfl) at_90 hby
          obtain ⟨rfl, Nr6q, er6⟩ := hQr6
          have N4 := Fr.app N3 Nr6q
          obtain ⟨_, Tr7, Lr7, Xr7, hQr7, str7⟩ := ocallV Xr6 hx hZ zm2 zm2 hown (ww hw 28 rfl) (ww hw 29 rfl) (notFace_of_selects (args := #[]) (mvT hZ (ww hw 31 rfl))) (ww hw 31 rfl) (ww hw 30 rfl) (by decide) (ww hw 32 rfl) (ww hw 5 rfl) er6 f28 (rm4_12 l Z a0 hw [] br2 b1 b3 k1 Tr5.heap n0 Z_3 f20 f21 f17) (st := [(.ref br2)]) rfl 0 rfl (by decide) (pc := 97) (Ls := (lc8 i0 i1 i2 w1 z1 i2 br2 1 0)) hml rfl (lenOf pd_2 rfl) at_97 hby
          obtain ⟨rfl, Nr7q, er7⟩ := hQr7
          have N5 := Fr.app N4 Nr7q
          have hc4 : (((i0.toUInt32 >>> ((1 : Int32) &&& 31).toUInt32).toInt32) % (3 : Int32)) < (2 : Int32) := hk14
          have hs5 : z1 < (2 : Int32) := by rw [hz1]; exact hc4
          refine own_go (U' := Tr7.setTop (mkF m 104 (lc25 i0 i1 i2 w1 z1 i2 br2 1 0 b3) [(.int 1)])) (fun t k => oicY (pc := 76) Xr5 hx hby at_76 88 (tlt hs5).1 (by decide) (oaload Xr5 hx hby at_88 rfl rfl (str6 _ (oistore Xr6 hx hby at_93 (lc8 i0 i1 i2 w1 z1 i2 br2 1 0) rfl (oaload Xr6 hx hby at_95 rfl rfl (str7 _ (oastore Xr7 hx hby at_100 (lc25 i0 i1 i2 w1 z1 i2 br2 1 0 b3) rfl rfl (oiload Xr7 hx hby at_102 rfl k)))))))) ?_
          refine own_go (U' := Tr7.setTop (mkF m 111 (lc25 i0 i1 i2 w1 z1 i2 br2 1 0 b3) [(.int z1), (.int 0)])) (fun t k => oifN Xr7 hx hby at_104 (by decide) (oiload Xr7 hx hby at_107 rfl (oiload Xr7 hx hby at_109 rfl k))) ?_
          have hc11 : ¬ ((((i0.toUInt32 >>> ((1 : Int32) &&& 31).toUInt32).toInt32) % (3 : Int32)) = (0 : Int32)) := (fun e => by have := congrArg Int32.toInt e; have : ¬ ((((i0.toUInt32 >>> ((1 : Int32) &&& 31).toUInt32).toInt32) % (3 : Int32))).toInt < ((1 : Int32)).toInt := fun e => hk13 (Int32.lt_iff_toInt_lt.mpr e); have := c_iushr i0 (1 : Int32) 1 (by decide) (by decide); have := rng32 i0; have := c_irem ((i0.toUInt32 >>> ((1 : Int32) &&& 31).toUInt32).toInt32) (3 : Int32) 3 (by decide); have := Int.emod_nonneg (((i0.toUInt32 >>> ((1 : Int32) &&& 31).toUInt32).toInt32)).toInt (show (3 : Int) ≠ 0 by decide); have := Int.emod_lt_of_pos (((i0.toUInt32 >>> ((1 : Int32) &&& 31).toUInt32).toInt32)).toInt (show (0 : Int) < 3 by decide); have := (by decide : ((0 : Int32)).toInt = 0); have := (by decide : ((1 : Int32)).toInt = 1); omega)
          have hs12 : ¬ (z1 = (0 : Int32)) := by rw [hz1]; exact hc11
          refine own_go (U' := Tr7.setTop (mkF m 119 (lc25 i0 i1 i2 w1 z1 i2 br2 1 0 b3) [(.int 0), (.int 0)])) (fun t k => oifY (pc := 111) Xr7 hx hby at_111 118 ((if0 _ _).trans (feq hs12).2) (by decide) (oiconst Xr7 hx hby at_118 k)) ?_
          refine own_go (U' := Tr7.setTop (mkF m 134 (lc25 i0 i1 i2 w1 z1 i2 br2 1 0 b3) [(.int z1), (.int 0)])) (fun t k => oicN Xr7 hx hby at_119 (by decide) (oaload Xr7 hx hby at_122 rfl rfl (onnY (pc := 124) Xr7 hx hby at_124 131 (by decide) (oiconst Xr7 hx hby at_131 (oiload Xr7 hx hby at_132 rfl k))))) ?_
          refine own_go (U' := Tr7.setTop (mkF m 142 (lc25 i0 i1 i2 w1 z1 i2 br2 1 0 b3) [(.int 0), (.int 0)])) (fun t k => oifY (pc := 134) Xr7 hx hby at_134 141 ((if0 _ _).trans (feq hs12).2) (by decide) (oiconst Xr7 hx hby at_141 k)) ?_
          have ne4 : br2 ≠ b3 := Nat.ne_of_lt (Nat.lt_of_lt_of_le (Nat.lt_of_lt_of_le (f1.lt) Kr3.1) sz3)
          obtain ⟨_, Tr8, Lr8, Xr8, hQr8, str8⟩ := ocallV Xr7 hx hZ zm9 zm9 hown (ww hw 70 rfl) (ww hw 71 rfl) (notFace_of_selects (args := #[]) (mvT hZ (ww hw 73 rfl))) (ww hw 73 rfl) (ww hw 72 rfl) (by decide) (ww hw 74 rfl) (ww hw 5 rfl) er7 f28 (rm10_14 l Z a0 hw [] br2 b3 w1 b1 b2 k1 Tr5.heap n0 Z_3 f23 f19 f20 f21 f22 f28 g1 f17 (Ne.symm ne2) f24 f27 (Ne.symm ne4) g2) (st := [(.ref b3), (.ref br2)]) rfl 0 rfl (by decide) (pc := 161) (Ls := (lc26 i0 i1 i2 w1 z1 i2 br2 1 0 b3 1)) hml rfl (lenOf pd_8 rfl) at_161 hby
          obtain ⟨rfl, Nr8q, Kr8, f29, f30, f31, f32, f33, f34⟩ := hQr8
          have N6 := Fr.app N5 Nr8q
          refine own_go (U' := Tr8.setTop (mkF m 166 (lc26 i0 i1 i2 w1 z1 i2 br2 1 0 b3 1) [(.int 1)])) (fun t k => oicN Xr7 hx hby at_142 (by decide) (oiconst Xr7 hx hby at_145 (ogoto (pc := 146) Xr7 hx hby at_146 150 (by decide) (oistore Xr7 hx hby at_150 (lc26 i0 i1 i2 w1 z1 i2 br2 1 0 b3 1) rfl (oaload Xr7 hx hby at_152 rfl rfl (onlN Xr7 hx hby at_154 (oaload Xr7 hx hby at_157 rfl rfl (oaload Xr7 hx hby at_159 rfl rfl (str8 _ (oiload Xr8 hx hby at_164 rfl k)))))))))) ?_
          have f35 : Exa Z Tr8.heap br2 zs1 := (f28.keep Kr8)
          have Z_4 : n0 ≤ Tr8.heap.size := Nat.le_trans Z_3 Kr8.1
          obtain ⟨_, Tr9, Lr9, Xr9, hQr9, str9⟩ := ocallV Xr8 hx hZ zm1 zm1 hown (ww hw 21 rfl) (ww hw 22 rfl) (notFace_of_selects (args := #[]) (mvT hZ (ww hw 24 rfl))) (ww hw 24 rfl) (ww hw 23 rfl) (by decide) (ww hw 25 rfl) (ww hw 5 rfl) rfl f35 (rm3_1 l Z a0 hw [] br2 Tr8.heap n0 Z_4 f31) (st := [(.ref br2)]) rfl 0 rfl (by decide) (pc := 171) (Ls := (lc26 i0 i1 i2 w1 z1 i2 br2 1 0 b3 1)) hml rfl (lenOf pd_1 rfl) at_171 hby
          obtain ⟨rfl, Nr9q, er9⟩ := hQr9
          have N7 := Fr.app N6 Nr9q
          refine own_go (U' := Tr9.setTop (mkF m 174 (lc26 i0 i1 i2 w1 z1 i2 br2 1 0 b3 1) [(.int 1)])) (fun t k => oifN Xr8 hx hby at_166 (by decide) (oaload Xr8 hx hby at_169 rfl rfl (str9 _ k))) ?_
          refine own_go (U' := Tr9.setTop (mkF m 186 (lc26 i0 i1 i2 w1 z1 i2 br2 1 0 b3 1) [(.int 1)])) (fun t k => oifN Xr9 hx hby at_174 (by decide) (oiconst Xr9 hx hby at_177 (ogoto (pc := 178) Xr9 hx hby at_178 182 (by decide) (oistore Xr9 hx hby at_182 (lc26 i0 i1 i2 w1 z1 i2 br2 1 0 b3 1) rfl (oiload Xr9 hx hby at_184 rfl k))))) ?_
          obtain ⟨fs, hr, hrun, hended, hW, hsame⟩ := Xr9.leave (v := some (.int 1)) (fun h => by rw [Bd.returns] at h; cases h)
          refine own_out ⟨_, _, ?_, hrun, hended, _, _, rfl, ?_, ⟨_, rfl⟩, hW, hsame.mono (by decide) (by decide)⟩
          · exact retN Xr9 hx (t := .boolean) Bd.returns (by simp) (hb hby at_186) hr
          · exact ⟨rfl, N7⟩
        · by_cases hk15 : i1 < i2
          · have hc36 : ¬ (i1 = (9223372036854775807 : Int64)) := (fun e => by have := congrArg Int64.toInt e; have := Int64.lt_iff_toInt_lt.mp hk15; have := rng64 i1; have := (by decide : ((9223372036854775807 : Int64)).toInt = 9223372036854775807); have := rng64 i2; omega)
            obtain ⟨_, Tr5, Lr5, Xr5, hQr5, str5⟩ := ocallV Xr4 hx hZ zm7 zm7 hown (ww hw 33 rfl) (ww hw 34 rfl) (notFace_of_selects (args := #[]) (mvT hZ (ww hw 36 rfl))) (ww hw 36 rfl) (ww hw 35 rfl) (by decide) (ww hw 37 rfl) (ww hw 5 rfl) er4 f15 (rm5_39 l Z a0 hw [] br2 i1 w1 b1 k1 b2 k2 Tr3.heap n0 Z_2 f8 f16 f15 f9 hc36 f6 f12 g2 O1 f7 ne2 f14 (Ne.symm ne1) g3 ne3 f10 g1) (st := [.null, (.long i1), (.ref br2)]) rfl 0 rfl (by decide) (pc := 69) (Ls := (lc7 i0 i1 i2 w1 z1 i2 br2 1)) hml rfl (lenOf pd_7 rfl) at_69 hby
            obtain ⟨b3, rfl, Nr5q, Kr5, sz3, f17, f18, f19, f20, f21, f22, f23, f24, f25, f26, f27⟩ := hQr5
            have N3 := Fr.app N2 Nr5q
            have hc8 : ¬ ((((i0.toUInt32 >>> ((1 : Int32) &&& 31).toUInt32).toInt32) % (3 : Int32)) < (1 : Int32)) := hk13
            have hs9 : ¬ (z1 < (1 : Int32)) := by rw [hz1]; exact hc8
            refine own_go (U' := Tr5.setTop (mkF m 76 (lc7 i0 i1 i2 w1 z1 i2 br2 1) [(.int 2), (.int z1)])) (fun t k => oicN Xr4 hx hby at_62 (flt hs9).1 (oaload Xr4 hx hby at_65 rfl rfl (olloadN Xr4 hx hby at_67 rfl (onull Xr4 hx hby at_68 (str5 _ (opop Xr5 hx hby at_72 rfl (oiload Xr5 hx hby at_73 rfl (oiconst Xr5 hx hby at_75 k)))))))) ?_
            have f28 : Exa Z Tr5.heap br2 zs1 := (f15.keep Kr5)
            have f29 : Sta Z Tr5.heap zs5 "BUY" zs3 (.ref w1) := (own_staK f16 Kr5 (allS (own_nsE f11) (allS (own_nsE f13) (allS (own_nsE (Ar2.keep Kr3)) all0))))
            have Z_3 : n0 ≤ Tr5.heap.size := Nat.le_trans Z_2 Kr5.1
            have hc45 : i1 < i2 := hk15
            have hc46 : ¬ (i2 = (-9223372036854775808 : Int64)) := (fun e => by have := congrArg Int64.toInt e; have := Int64.lt_iff_toInt_lt.mp hk15; have := rng64 i2; have := (by decide : ((-9223372036854775808 : Int64)).toInt = -9223372036854775808); have := rng64 i1; omega)
            obtain ⟨_, Tr6, Lr6, Xr6, hQr6, str6⟩ := ocallV Xr5 hx hZ zm7 zm7 hown (ww hw 33 rfl) (ww hw 34 rfl) (notFace_of_selects (args := #[]) (mvT hZ (ww hw 36 rfl))) (ww hw 36 rfl) (ww hw 35 rfl) (by decide) (ww hw 37 rfl) (ww hw 5 rfl) rfl f28 (rm5_43 l Z a0 hw [] br2 i2 w1 b2 i1 k2 b1 b3 k1 Tr5.heap n0 Z_3 f19 f29 f28 f20 f22 f18 hc45 hc46 f21 f17 g2 O1 ne2 (Ne.symm ne1) g3 ne3 f23 g1) (st := [.null, (.long i2), (.ref br2)]) rfl 0 rfl (by decide) (pc := 84) (Ls := (lc7 i0 i1 i2 w1 z1 i2 br2 1)) hml rfl (lenOf pd_7 rfl) at_84 hby
            obtain ⟨b4, rfl, Nr6q, Kr6, sz4, f30, f31, f32, f33, f34, f35, f36, f37, f38, f39, f40⟩ := hQr6
            have N4 := Fr.app N3 Nr6q
            have f41 : Exa Z Tr6.heap br2 zs1 := (f28.keep Kr6)
            have Z_4 : n0 ≤ Tr6.heap.size := Nat.le_trans Z_3 Kr6.1
            obtain ⟨_, Tr7, Lr7, Xr7, hQr7, str7⟩ := ocallV Xr6 hx hZ zm1 zm1 hown (ww hw 21 rfl) (ww hw 22 rfl) (notFace_of_selects (args := #[]) (mvT hZ (ww hw 24 rfl))) (ww hw 24 rfl) (ww hw 23 rfl) (by decide) (ww hw 25 rfl) (ww hw 5 rfl) rfl f41 (rm3_23 l Z a0 hw [] br2 Tr6.heap n0 Z_4 f33) (st := [(.ref br2)]) rfl 0 rfl (by decide) (pc := 90) (Ls := (lc7 i0 i1 i2 w1 z1 i2 br2 1)) hml rfl (lenOf pd_1 rfl) at_90 hby
            obtain ⟨rfl, Nr7q, er7⟩ := hQr7
            have N5 := Fr.app N4 Nr7q
            obtain ⟨_, Tr8, Lr8, Xr8, hQr8, str8⟩ := ocallV Xr7 hx hZ zm2 zm2 hown (ww hw 28 rfl) (ww hw 29 rfl) (notFace_of_selects (args := #[]) (mvT hZ (ww hw 31 rfl))) (ww hw 31 rfl) (ww hw 30 rfl) (by decide) (ww hw 32 rfl) (ww hw 5 rfl) er7 f41 (rm4_24 l Z a0 hw [] br2 b1 b3 b4 k1 Tr6.heap n0 Z_4 f33 f35 f30) (st := [(.ref br2)]) rfl 0 rfl (by decide) (pc := 97) (Ls := (lc8 i0 i1 i2 w1 z1 i2 br2 1 0)) hml rfl (lenOf pd_2 rfl) at_97 hby
            obtain ⟨rfl, Nr8q, er8⟩ := hQr8
            have N6 := Fr.app N5 Nr8q
            have hc13 : ¬ ((((i0.toUInt32 >>> ((1 : Int32) &&& 31).toUInt32).toInt32) % (3 : Int32)) < (2 : Int32)) := hk14
            have hs14 : ¬ (z1 < (2 : Int32)) := by rw [hz1]; exact hc13
            refine own_go (U' := Tr8.setTop (mkF m 104 (lc25 i0 i1 i2 w1 z1 i2 br2 1 0 b4) [(.int 1)])) (fun t k => oicN Xr5 hx hby at_76 (flt hs14).1 (oaload Xr5 hx hby at_79 rfl rfl (olload Xr5 hx hby at_81 rfl (onull Xr5 hx hby at_83 (str6 _ (opop Xr6 hx hby at_87 rfl (oaload Xr6 hx hby at_88 rfl rfl (str7 _ (oistore Xr7 hx hby at_93 (lc8 i0 i1 i2 w1 z1 i2 br2 1 0) rfl (oaload Xr7 hx hby at_95 rfl rfl (str8 _ (oastore Xr8 hx hby at_100 (lc25 i0 i1 i2 w1 z1 i2 br2 1 0 b4) rfl rfl (oiload Xr8 hx hby at_102 rfl k))))))))))))) ?_
            refine own_go (U' := Tr8.setTop (mkF m 111 (lc25 i0 i1 i2 w1 z1 i2 br2 1 0 b4) [(.int z1), (.int 0)])) (fun t k => oifN Xr8 hx hby at_104 (by decide) (oiload Xr8 hx hby at_107 rfl (oiload Xr8 hx hby at_109 rfl k))) ?_
            have hc11 : ¬ ((((i0.toUInt32 >>> ((1 : Int32) &&& 31).toUInt32).toInt32) % (3 : Int32)) = (0 : Int32)) := (fun e => by have := congrArg Int32.toInt e; have : ¬ ((((i0.toUInt32 >>> ((1 : Int32) &&& 31).toUInt32).toInt32) % (3 : Int32))).toInt < ((1 : Int32)).toInt := fun e => hk13 (Int32.lt_iff_toInt_lt.mpr e); have := c_iushr i0 (1 : Int32) 1 (by decide) (by decide); have := rng32 i0; have := c_irem ((i0.toUInt32 >>> ((1 : Int32) &&& 31).toUInt32).toInt32) (3 : Int32) 3 (by decide); have := Int.emod_nonneg (((i0.toUInt32 >>> ((1 : Int32) &&& 31).toUInt32).toInt32)).toInt (show (3 : Int) ≠ 0 by decide); have := Int.emod_lt_of_pos (((i0.toUInt32 >>> ((1 : Int32) &&& 31).toUInt32).toInt32)).toInt (show (0 : Int) < 3 by decide); have := (by decide : ((0 : Int32)).toInt = 0); have := (by decide : ((1 : Int32)).toInt = 1); omega)
            have hs12 : ¬ (z1 = (0 : Int32)) := by rw [hz1]; exact hc11
            refine own_go (U' := Tr8.setTop (mkF m 119 (lc25 i0 i1 i2 w1 z1 i2 br2 1 0 b4) [(.int 0), (.int 0)])) (fun t k => oifY (pc := 111) Xr8 hx hby at_111 118 ((if0 _ _).trans (feq hs12).2) (by decide) (oiconst Xr8 hx hby at_118 k)) ?_
            refine own_go (U' := Tr8.setTop (mkF m 134 (lc25 i0 i1 i2 w1 z1 i2 br2 1 0 b4) [(.int z1), (.int 0)])) (fun t k => oicN Xr8 hx hby at_119 (by decide) (oaload Xr8 hx hby at_122 rfl rfl (onnY (pc := 124) Xr8 hx hby at_124 131 (by decide) (oiconst Xr8 hx hby at_131 (oiload Xr8 hx hby at_132 rfl k))))) ?_
            refine own_go (U' := Tr8.setTop (mkF m 142 (lc25 i0 i1 i2 w1 z1 i2 br2 1 0 b4) [(.int 0), (.int 0)])) (fun t k => oifY (pc := 134) Xr8 hx hby at_134 141 ((if0 _ _).trans (feq hs12).2) (by decide) (oiconst Xr8 hx hby at_141 k)) ?_
            have ne4 : br2 ≠ b4 := Nat.ne_of_lt (Nat.lt_of_lt_of_le (Nat.lt_of_lt_of_le (Nat.lt_of_lt_of_le (f1.lt) Kr3.1) Kr5.1) sz4)
            have f42 : Exa Z Tr6.heap b3 zs0 := (f24.keep Kr6)
            have ne5 : br2 ≠ b3 := Nat.ne_of_lt (Nat.lt_of_lt_of_le (Nat.lt_of_lt_of_le (f1.lt) Kr3.1) sz3)
            have ne6 : b2 ≠ b3 := Nat.ne_of_lt (Nat.lt_of_lt_of_le (f13.lt) sz3)
            have ne7 : b1 ≠ b3 := Nat.ne_of_lt (Nat.lt_of_lt_of_le (f11.lt) sz3)
            have f43 : Fld Z Tr6.heap b3 zs0 "first" zs10 .null := (f27.keep Kr6 (ninS (Ne.symm ne7) (ninS (Ne.symm ne6) (ninS (Ne.symm ne5) nin0))))
            obtain ⟨_, Tr9, Lr9, Xr9, hQr9, str9⟩ := ocallV Xr8 hx hZ zm9 zm9 hown (ww hw 70 rfl) (ww hw 71 rfl) (notFace_of_selects (args := #[]) (mvT hZ (ww hw 73 rfl))) (ww hw 73 rfl) (ww hw 72 rfl) (by decide) (ww hw 74 rfl) (ww hw 5 rfl) er8 f41 (rm10_25 l Z a0 hw [] br2 b4 w1 b2 b1 b3 k1 Tr6.heap n0 Z_4 f36 f32 f33 f34 f35 f41 g1 f30 (Ne.symm ne2) f37 f40 (Ne.symm ne4) g2 f42 f43 (Ne.symm ne5) (Ne.symm ne7)) (st := [(.ref b4), (.ref br2)]) rfl 0 rfl (by decide) (pc := 161) (Ls := (lc26 i0 i1 i2 w1 z1 i2 br2 1 0 b4 1)) hml rfl (lenOf pd_8 rfl) at_161 hby
            obtain ⟨rfl, Nr9q, Kr9, f44, f45, f46, f47, f48, f49⟩ := hQr9
            have N7 := Fr.app N6 Nr9q
            refine own_go (U' := Tr9.setTop (mkF m 166 (lc26 i0 i1 i2 w1 z1 i2 br2 1 0 b4 1) [(.int 1)])) (fun t k => oicN Xr8 hx hby at_142 (by decide) (oiconst Xr8 hx hby at_145 (ogoto (pc := 146) Xr8 hx hby at_146 150 (by decide) (oistore Xr8 hx hby at_150 (lc26 i0 i1 i2 w1 z1 i2 br2 1 0 b4 1) rfl (oaload Xr8 hx hby at_152 rfl rfl (onlN Xr8 hx hby at_154 (oaload Xr8 hx hby at_157 rfl rfl (oaload Xr8 hx hby at_159 rfl rfl (str9 _ (oiload Xr9 hx hby at_164 rfl k)))))))))) ?_
            have f50 : Exa Z Tr9.heap br2 zs1 := (f41.keep Kr9)
            have Z_5 : n0 ≤ Tr9.heap.size := Nat.le_trans Z_4 Kr9.1
            obtain ⟨_, Tr10, Lr10, Xr10, hQr10, str10⟩ := ocallV Xr9 hx hZ zm1 zm1 hown (ww hw 21 rfl) (ww hw 22 rfl) (notFace_of_selects (args := #[]) (mvT hZ (ww hw 24 rfl))) (ww hw 24 rfl) (ww hw 23 rfl) (by decide) (ww hw 25 rfl) (ww hw 5 rfl) rfl f50 (rm3_1 l Z a0 hw [] br2 Tr9.heap n0 Z_5 f46) (st := [(.ref br2)]) rfl 0 rfl (by decide) (pc := 171) (Ls := (lc26 i0 i1 i2 w1 z1 i2 br2 1 0 b4 1)) hml rfl (lenOf pd_1 rfl) at_171 hby
            obtain ⟨rfl, Nr10q, er10⟩ := hQr10
            have N8 := Fr.app N7 Nr10q
            refine own_go (U' := Tr10.setTop (mkF m 174 (lc26 i0 i1 i2 w1 z1 i2 br2 1 0 b4 1) [(.int 1)])) (fun t k => oifN Xr9 hx hby at_166 (by decide) (oaload Xr9 hx hby at_169 rfl rfl (str10 _ k))) ?_
            refine own_go (U' := Tr10.setTop (mkF m 186 (lc26 i0 i1 i2 w1 z1 i2 br2 1 0 b4 1) [(.int 1)])) (fun t k => oifN Xr10 hx hby at_174 (by decide) (oiconst Xr10 hx hby at_177 (ogoto (pc := 178) Xr10 hx hby at_178 182 (by decide) (oistore Xr10 hx hby at_182 (lc26 i0 i1 i2 w1 z1 i2 br2 1 0 b4 1) rfl (oiload Xr10 hx hby at_184 rfl k))))) ?_
            obtain ⟨fs, hr, hrun, hended, hW, hsame⟩ := Xr10.leave (v := some (.int 1)) (fun h => by rw [Bd.returns] at h; cases h)
            refine own_out ⟨_, _, ?_, hrun, hended, _, _, rfl, ?_, ⟨_, rfl⟩, hW, hsame.mono (by decide) (by decide)⟩
            · exact retN Xr10 hx (t := .boolean) Bd.returns (by simp) (hb hby at_186) hr
            · exact ⟨rfl, N8⟩
          · have hc40 : ¬ (i1 = (-9223372036854775808 : Int64)) := (fun e => by have := congrArg Int64.toInt e; have : ¬ (i2).toInt = (i1).toInt := fun e => hk9 (Int64.toInt_inj.mp e); have : ¬ (i1).toInt < (i2).toInt := fun e => hk15 (Int64.lt_iff_toInt_lt.mpr e); have := rng64 i1; have := (by decide : ((-9223372036854775808 : Int64)).toInt = -9223372036854775808); have := rng64 i2; omega)
            obtain ⟨_, Tr5, Lr5, Xr5, hQr5, str5⟩ := ocallV Xr4 hx hZ zm7 zm7 hown (ww hw 33 rfl) (ww hw 34 rfl) (notFace_of_selects (args := #[]) (mvT hZ (ww hw 36 rfl))) (ww hw 36 rfl) (ww hw 35 rfl) (by decide) (ww hw 37 rfl) (ww hw 5 rfl) er4 f15 (rm5_45 l Z a0 hw [] br2 i1 w1 b1 k1 b2 k2 Tr3.heap n0 Z_2 f8 f16 f15 f9 hc40 f6 f12 g2 O1 f7 ne2 f14 (Ne.symm ne1) g3 ne3 f10 g1) (st := [.null, (.long i1), (.ref br2)]) rfl 0 rfl (by decide) (pc := 69) (Ls := (lc7 i0 i1 i2 w1 z1 i2 br2 1)) hml rfl (lenOf pd_7 rfl) at_69 hby
            obtain ⟨b3, rfl, Nr5q, Kr5, sz3, f17, f18, f19, f20, f21, f22, f23, f24, f25, f26, f27⟩ := hQr5
            have N3 := Fr.app N2 Nr5q
            have hc8 : ¬ ((((i0.toUInt32 >>> ((1 : Int32) &&& 31).toUInt32).toInt32) % (3 : Int32)) < (1 : Int32)) := hk13
            have hs9 : ¬ (z1 < (1 : Int32)) := by rw [hz1]; exact hc8
            refine own_go (U' := Tr5.setTop (mkF m 76 (lc7 i0 i1 i2 w1 z1 i2 br2 1) [(.int 2), (.int z1)])) (fun t k => oicN Xr4 hx hby at_62 (flt hs9).1 (oaload Xr4 hx hby at_65 rfl rfl (olloadN Xr4 hx hby at_67 rfl (onull Xr4 hx hby at_68 (str5 _ (opop Xr5 hx hby at_72 rfl (oiload Xr5 hx hby at_73 rfl (oiconst Xr5 hx hby at_75 k)))))))) ?_
            have f28 : Exa Z Tr5.heap br2 zs1 := (f15.keep Kr5)
            have f29 : Sta Z Tr5.heap zs5 "BUY" zs3 (.ref w1) := (own_staK f16 Kr5 (allS (own_nsE f11) (allS (own_nsE f13) (allS (own_nsE (Ar2.keep Kr3)) all0))))
            have Z_3 : n0 ≤ Tr5.heap.size := Nat.le_trans Z_2 Kr5.1
            have hc47 : ¬ (i1 < i2) := hk15
            have hc44 : ¬ (i1 = i2) := (fun e => by have := congrArg Int64.toInt e; have : ¬ (i2).toInt = (i1).toInt := fun e => hk9 (Int64.toInt_inj.mp e); have := rng64 i1; have := rng64 i2; omega)
            have hc48 : ¬ (i2 = (9223372036854775807 : Int64)) := (fun e => by have := congrArg Int64.toInt e; have : ¬ (i2).toInt = (i1).toInt := fun e => hk9 (Int64.toInt_inj.mp e); have : ¬ (i1).toInt < (i2).toInt := fun e => hk15 (Int64.lt_iff_toInt_lt.mpr e); have := rng64 i2; have := (by decide : ((9223372036854775807 : Int64)).toInt = 9223372036854775807); have := rng64 i1; omega)
            obtain ⟨_, Tr6, Lr6, Xr6, hQr6, str6⟩ := ocallV Xr5 hx hZ zm7 zm7 hown (ww hw 33 rfl) (ww hw 34 rfl) (notFace_of_selects (args := #[]) (mvT hZ (ww hw 36 rfl))) (ww hw 36 rfl) (ww hw 35 rfl) (by decide) (ww hw 37 rfl) (ww hw 5 rfl) rfl f28 (rm5_49 l Z a0 hw [] br2 i2 w1 b2 i1 k2 b1 b3 k1 Tr5.heap n0 Z_3 f19 f29 f28 f20 f22 f18 hc47 hc44 hc48 f21 f17 g2 O1 f24 ne2 (Ne.symm ne1) g3 ne3 f23 g1) (st := [.null, (.long i2), (.ref br2)]) rfl 0 rfl (by decide) (pc := 84) (Ls := (lc7 i0 i1 i2 w1 z1 i2 br2 1)) hml rfl (lenOf pd_7 rfl) at_84 hby
            obtain ⟨b4, rfl, Nr6q, Kr6, sz4, f30, f31, f32, f33, f34, f35, f36, f37, f38, f39, f40⟩ := hQr6
            have N4 := Fr.app N3 Nr6q
            have f41 : Exa Z Tr6.heap br2 zs1 := (f28.keep Kr6)
            have Z_4 : n0 ≤ Tr6.heap.size := Nat.le_trans Z_3 Kr6.1
            obtain ⟨_, Tr7, Lr7, Xr7, hQr7, str7⟩ := ocallV Xr6 hx hZ zm1 zm1 hown (ww hw 21 rfl) (ww hw 22 rfl) (notFace_of_selects (args := #[]) (mvT hZ (ww hw 24 rfl))) (ww hw 24 rfl) (ww hw 23 rfl) (by decide) (ww hw 25 rfl) (ww hw 5 rfl) rfl f41 (rm3_23 l Z a0 hw [] br2 Tr6.heap n0 Z_4 f33) (st := [(.ref br2)]) rfl 0 rfl (by decide) (pc := 90) (Ls := (lc7 i0 i1 i2 w1 z1 i2 br2 1)) hml rfl (lenOf pd_1 rfl) at_90 hby
            obtain ⟨rfl, Nr7q, er7⟩ := hQr7
            have N5 := Fr.app N4 Nr7q
            obtain ⟨_, Tr8, Lr8, Xr8, hQr8, str8⟩ := ocallV Xr7 hx hZ zm2 zm2 hown (ww hw 28 rfl) (ww hw 29 rfl) (notFace_of_selects (args := #[]) (mvT hZ (ww hw 31 rfl))) (ww hw 31 rfl) (ww hw 30 rfl) (by decide) (ww hw 32 rfl) (ww hw 5 rfl) er7 f41 (rm4_24 l Z a0 hw [] br2 b1 b4 b3 k1 Tr6.heap n0 Z_4 f33 f35 f30) (st := [(.ref br2)]) rfl 0 rfl (by decide) (pc := 97) (Ls := (lc8 i0 i1 i2 w1 z1 i2 br2 1 0)) hml rfl (lenOf pd_2 rfl) at_97 hby
            obtain ⟨rfl, Nr8q, er8⟩ := hQr8
            have N6 := Fr.app N5 Nr8q
            have hc13 : ¬ ((((i0.toUInt32 >>> ((1 : Int32) &&& 31).toUInt32).toInt32) % (3 : Int32)) < (2 : Int32)) := hk14
            have hs14 : ¬ (z1 < (2 : Int32)) := by rw [hz1]; exact hc13
            refine own_go (U' := Tr8.setTop (mkF m 104 (lc25 i0 i1 i2 w1 z1 i2 br2 1 0 b3) [(.int 1)])) (fun t k => oicN Xr5 hx hby at_76 (flt hs14).1 (oaload Xr5 hx hby at_79 rfl rfl (olload Xr5 hx hby at_81 rfl (onull Xr5 hx hby at_83 (str6 _ (opop Xr6 hx hby at_87 rfl (oaload Xr6 hx hby at_88 rfl rfl (str7 _ (oistore Xr7 hx hby at_93 (lc8 i0 i1 i2 w1 z1 i2 br2 1 0) rfl (oaload Xr7 hx hby at_95 rfl rfl (str8 _ (oastore Xr8 hx hby at_100 (lc25 i0 i1 i2 w1 z1 i2 br2 1 0 b3) rfl rfl (oiload Xr8 hx hby at_102 rfl k))))))))))))) ?_
            refine own_go (U' := Tr8.setTop (mkF m 111 (lc25 i0 i1 i2 w1 z1 i2 br2 1 0 b3) [(.int z1), (.int 0)])) (fun t k => oifN Xr8 hx hby at_104 (by decide) (oiload Xr8 hx hby at_107 rfl (oiload Xr8 hx hby at_109 rfl k))) ?_
            have hc11 : ¬ ((((i0.toUInt32 >>> ((1 : Int32) &&& 31).toUInt32).toInt32) % (3 : Int32)) = (0 : Int32)) := (fun e => by have := congrArg Int32.toInt e; have : ¬ ((((i0.toUInt32 >>> ((1 : Int32) &&& 31).toUInt32).toInt32) % (3 : Int32))).toInt < ((1 : Int32)).toInt := fun e => hk13 (Int32.lt_iff_toInt_lt.mpr e); have := c_iushr i0 (1 : Int32) 1 (by decide) (by decide); have := rng32 i0; have := c_irem ((i0.toUInt32 >>> ((1 : Int32) &&& 31).toUInt32).toInt32) (3 : Int32) 3 (by decide); have := Int.emod_nonneg (((i0.toUInt32 >>> ((1 : Int32) &&& 31).toUInt32).toInt32)).toInt (show (3 : Int) ≠ 0 by decide); have := Int.emod_lt_of_pos (((i0.toUInt32 >>> ((1 : Int32) &&& 31).toUInt32).toInt32)).toInt (show (0 : Int) < 3 by decide); have := (by decide : ((0 : Int32)).toInt = 0); have := (by decide : ((1 : Int32)).toInt = 1); omega)
            have hs12 : ¬ (z1 = (0 : Int32)) := by rw [hz1]; exact hc11
            refine own_go (U' := Tr8.setTop (mkF m 119 (lc25 i0 i1 i2 w1 z1 i2 br2 1 0 b3) [(.int 0), (.int 0)])) (fun t k => oifY (pc := 111) Xr8 hx hby at_111 118 ((if0 _ _).trans (feq hs12).2) (by decide) (oiconst Xr8 hx hby at_118 k)) ?_
            refine own_go (U' := Tr8.setTop (mkF m 134 (lc25 i0 i1 i2 w1 z1 i2 br2 1 0 b3) [(.int z1), (.int 0)])) (fun t k => oicN Xr8 hx hby at_119 (by decide) (oaload Xr8 hx hby at_122 rfl rfl (onnY (pc := 124) Xr8 hx hby at_124 131 (by decide) (oiconst Xr8 hx hby at_131 (oiload Xr8 hx hby at_132 rfl k))))) ?_
            refine own_go (U' := Tr8.setTop (mkF m 142 (lc25 i0 i1 i2 w1 z1 i2 br2 1 0 b3) [(.int 0), (.int 0)])) (fun t k => oifY (pc := 134) Xr8 hx hby at_134 141 ((if0 _ _).trans (feq hs12).2) (by decide) (oiconst Xr8 hx hby at_141 k)) ?_
            have f42 : Exa Z Tr6.heap b3 zs0 := (f24.keep Kr6)
            have ne4 : br2 ≠ b3 := Nat.ne_of_lt (Nat.lt_of_lt_of_le (Nat.lt_of_lt_of_le (f1.lt) Kr3.1) sz3)
            have ne5 : b2 ≠ b3 := Nat.ne_of_lt (Nat.lt_of_lt_of_le (f13.lt) sz3)
            have ne6 : b1 ≠ b3 := Nat.ne_of_lt (Nat.lt_of_lt_of_le (f11.lt) sz3)
            have f43 : Fld Z Tr6.heap b3 zs0 "first" zs10 .null := (f27.keep Kr6 (ninS (Ne.symm ne6) (ninS (Ne.symm ne5) (ninS (Ne.symm ne4) nin0))))
            have ne7 : br2 ≠ b4 := Nat.ne_of_lt (Nat.lt_of_lt_of_le (Nat.lt_of_lt_of_le (Nat.lt_of_lt_of_le (f1.lt) Kr3.1) Kr5.1) sz4)
            have ne8 : b1 ≠ b4 := Nat.ne_of_lt (Nat.lt_of_lt_of_le (Nat.lt_of_lt_of_le (f11.lt) Kr5.1) sz4)
            obtain ⟨_, Tr9, Lr9, Xr9, hQr9, str9⟩ := ocallV Xr8 hx hZ zm9 zm9 hown (ww hw 70 rfl) (ww hw 71 rfl) (notFace_of_selects (args := #[]) (mvT hZ (ww hw 73 rfl))) (ww hw 73 rfl) (ww hw 72 rfl) (by decide) (ww hw 74 rfl) (ww hw 5 rfl) er8 f41 (rm10_25 l Z a0 hw [] br2 b3 w1 b2 b1 b4 k1 Tr6.heap n0 Z_4 f36 f32 f33 f34 f35 f41 g1 f30 (Ne.symm ne2) f42 f43 (Ne.symm ne4) g2 f37 f40 (Ne.symm ne7) (Ne.symm ne8)) (st := [(.ref b3), (.ref br2)]) rfl 0 rfl (by decide) (pc := 161) (Ls := (lc26 i0 i1 i2 w1 z1 i2 br2 1 0 b3 1)) hml rfl (lenOf pd_8 rfl) at_161 hby
            obtain ⟨rfl, Nr9q, Kr9, f44, f45, f46, f47, f48, f49⟩ := hQr9
            have N7 := Fr.app N6 Nr9q
            refine own_go (U' := Tr9.setTop (mkF m 166 (lc26 i0 i1 i2 w1 z1 i2 br2 1 0 b3 1) [(.int 1)])) (fun t k => oicN Xr8 hx hby at_142 (by decide) (oiconst Xr8 hx hby at_145 (ogoto (pc := 146) Xr8 hx hby at_146 150 (by decide) (oistore Xr8 hx hby at_150 (lc26 i0 i1 i2 w1 z1 i2 br2 1 0 b3 1) rfl (oaload Xr8 hx hby at_152 rfl rfl (onlN Xr8 hx hby at_154 (oaload Xr8 hx hby at_157 rfl rfl (oaload Xr8 hx hby at_159 rfl rfl (str9 _ (oiload Xr9 hx hby at_164 rfl k)))))))))) ?_
            have f50 : Exa Z Tr9.heap br2 zs1 := (f41.keep Kr9)
            have Z_5 : n0 ≤ Tr9.heap.size := Nat.le_trans Z_4 Kr9.1
            obtain ⟨_, Tr10, Lr10, Xr10, hQr10, str10⟩ := ocallV Xr9 hx hZ zm1 zm1 hown (ww hw 21 rfl) (ww hw 22 rfl) (notFace_of_selects (args := #[]) (mvT hZ (ww hw 24 rfl))) (ww hw 24 rfl) (ww hw 23 rfl) (by decide) (ww hw 25 rfl) (ww hw 5 rfl) rfl f50 (rm3_1 l Z a0 hw [] br2 Tr9.heap n0 Z_5 f46) (st := [(.ref br2)]) rfl 0 rfl (by decide) (pc := 171) (Ls := (lc26 i0 i1 i2 w1 z1 i2 br2 1 0 b3 1)) hml rfl (lenOf pd_1 rfl) at_171 hby
            obtain ⟨rfl, Nr10q, er10⟩ := hQr10
            have N8 := Fr.app N7 Nr10q
            refine own_go (U' := Tr10.setTop (mkF m 174 (lc26 i0 i1 i2 w1 z1 i2 br2 1 0 b3 1) [(.int 1)])) (fun t k => oifN Xr9 hx hby at_166 (by decide) (oaload Xr9 hx hby at_169 rfl rfl (str10 _ k))) ?_
            refine own_go (U' := Tr10.setTop (mkF m 186 (lc26 i0 i1 i2 w1 z1 i2 br2 1 0 b3 1) [(.int 1)])) (fun t k => oifN Xr10 hx hby at_174 (by decide) (oiconst Xr10 hx hby at_177 (ogoto (pc := 178) Xr10 hx hby at_178 182 (by decide) (oistore Xr10 hx hby at_182 (lc26 i0 i1 i2 w1 z1 i2 br2 1 0 b3 1) rfl (oiload Xr10 hx hby at_184 rfl k))))) ?_
            obtain ⟨fs, hr, hrun, hended, hW, hsame⟩ := Xr10.leave (v := some (.int 1)) (fun h => by rw [Bd.returns] at h; cases h)
            refine own_out ⟨_, _, ?_, hrun, hended, _, _, rfl, ?_, ⟨_, rfl⟩, hW, hsame.mono (by decide) (by decide)⟩
            · exact retN Xr10 hx (t := .boolean) Bd.returns (by simp) (hb hby at_186) hr
            · exact ⟨rfl, N8⟩
set_option maxRecDepth 65536 in
set_option maxHeartbeats 40000000 in
theorem comes_1 {Post : Tables → Env → Array Value → State → Outcome → State → Prop} (hpost : ∀ tb e args s v u, (limb_1_1.after args s (.returned v) u = true ∧ limb_1_2.after args s (.returned v) u = true ∧ True) → FrameEnd s (.returned v) u (Jvm.fieldLocs frame_1_writes args s ++ Jvm.arrayLocs frame_1_arrays args s ++ Jvm.staticLocs frame_1_statics s) 24 192 → Post tb e args s (.returned v) u) :
    ArmFor flags0 classFile x code maxLocals ret World_1 tables_1 room_1 Calls_1 rest_1 Pre_1 Post := by
  intro l hfl _ _ p e ha hc hk s m args below hf hA hF happ hP
  obtain ⟨hcalls, hrest, hpre⟩ := hP
  obtain ⟨-, -, -, hnamed, -, -, -, hat⟩ := (Spec.applies_iff hf).mp happ
  obtain ⟨hg, hn⟩ := and_e (Cond.before_iff.mp (show (Jvm.Cond.and given_1 narrow_1).before args s = true from hpre))
  obtain ⟨g16, g17⟩ := and_e hg
  obtain ⟨g18, g19⟩ := and_e g17
  obtain ⟨g20, g21⟩ := and_e g19
  obtain ⟨v0, v1, v2, rfl⟩ : ∃ v0 v1 v2 : Value, args = #[v0, v1, v2] := by
    have hs : args.size = 3 := by simpa [Cond.value, given_1] using g16
    obtain ⟨L⟩ := args
    match L, hs with
    | [v0, v1, v2], _ => exact ⟨v0, v1, v2, rfl⟩
  have hw := fun d (hd : d ∈ tables_1) => atoms_spec (ws := Jvm.Cond.code x code maxLocals ret :: tables_1) hat d (List.mem_cons_of_mem _ hd)
  obtain ⟨i0, ei0⟩ := is_v g18
  obtain rfl : v0 = (.int i0) := Option.some.inj ei0
  obtain ⟨i1, ei1⟩ := isL_v g20
  obtain rfl : v1 = (.long i1) := Option.some.inj ei1
  obtain ⟨i2, ei2⟩ := isL_v g21
  obtain rfl : v2 = (.long i2) := Option.some.inj ei2
  have hfit : Fit s := fun {y c} hc i hi => by
    obtain ⟨ha, rfl⟩ := Array.getElem?_eq_some_iff.mp hc
    have q := List.all_eq_true.mp ((Array.all_eq_true_iff_forall_mem.mp hF) _ (Array.getElem_mem ha)) i (List.mem_range.mpr hi)
    simpa [Array.getElem?_eq_getElem hi] using q
  obtain ⟨g22, g23⟩ := and_e hn
  have c0 := g22
  obtain ⟨g24, g25⟩ := and_e g23
  have c1 := g24
  obtain ⟨g26, g27⟩ := and_e g25
  have c2 := g26
  have c3 := g27
  obtain ⟨w0, ew0⟩ := exa_v c0
  have S0 := Sta.start ew0 (Or.inr ⟨(ww hw 1 rfl), (ww hw 2 rfl)⟩)
  have S1 := Exa.start ew0 c0
  obtain ⟨w1, ew1⟩ := exa_v c1
  have S2 := Sta.start ew1 (Or.inr ⟨(ww hw 1 rfl), (ww hw 47 rfl)⟩)
  have S3 := Exa.start ew1 c1
  have S4 := own_fldI ew0 c2
  have S5 := own_fldI ew1 c3
  obtain ⟨n, o, h1, h2, h3, _, L, rfl, ⟨rfl, N⟩, hq⟩ := law_all l s _ hw tables_1 i0 i1 i2 w0 w1 s.heap s.heap.size (Nat.le_refl _) S0 S1 S2 S3 S4 S5 p e ha hc hk s m _ below hf ((Spec.applies_iff_loose hf).mp happ).1 ⟨rfl, State.Warmed39.refl s, rfl⟩ trivial
  refine ⟨n, _, h1, h2, h3, hpost _ _ _ _ _ _ ⟨Cond.after_iff.mpr rfl, Cond.after_iff.mpr (eq_i res_at (Term.int_eval (1)) rfl), trivial⟩ ⟨hq.1, hq.2.1, (hq.2.2.sift fun y hy => Or.inr (N y hy)).mono (by decide) (by decide)⟩⟩
theorem main_1_1 : Claimed_1_1 := comes_1 fun _ _ _ _ _ _ h hF => ⟨h.1, hF⟩
theorem main_1_2 : Claimed_1_2 := comes_1 fun _ _ _ _ _ _ h hF => ⟨h.2.1, hF⟩
end Jvm.Pilot.@@N@@
namespace Jvm.Pilot.@@N@@
open Jvm Jvm.ClassFile Sem Op Lib Jvm.Free Jvm.Stand Jvm.Pilot.@@N@@.Jvm.D
/-! MADE BY PROGRAM (witnessworld.py) out of the Statement's table words and the real class files: 19 classes; the members and pool entries that the words name. The judged class is class 1, her method 1. -/
namespace start1
open Jvm.ClassFile
def u (s : String) : CpInfo := .utf8 (stringToUtf16 s)
/-- a pool by its gaps: so many unusable entries, then the entry; so many at the end -/
def gap : Nat → List CpInfo → List CpInfo
  | 0, r => r
  | n + 1, r => .unusable :: gap n r
def poolList (es : List (Nat × CpInfo)) (last : Nat) : List CpInfo := es.foldr (fun e r => gap e.1 (e.2 :: r)) (gap last [])
def pool (es : List (Nat × CpInfo)) (last : Nat) : Array CpInfo := ⟨poolList es last⟩
def fileOf (pool : Array CpInfo) (this : Nat) (attrs : Array Attribute := #[]) (ms : Array MethodInfo := #[]) (fl : Nat := 33) (sup : Nat := 0) (ifs : Array Nat := #[]) (fds : Array FieldInfo := #[]) : ClassFile where
  minorVersion := 0
  majorVersion := 65
  constantPool := pool
  accessFlags := fl
  thisClass := this
  superClass := sup
  interfaces := ifs
  fields := fds
  methods := ms
  attributes := attrs
def plain (name : String) (sup : Option ClassId) : Class where
  name := name
  kind := .ordinary
  loader := none
  accessFlags := 33
  super := sup
  interfaces := #[]
  cf := none
  fields := #[]
  methods := #[]
  instanceTypes := #[]
  staticTypes := #[]
  resolved := #[]
  callSites := []
  init := .initialized
  statics := none
  mirror := none

def pool0 : Array CpInfo := pool [(5, u "<init>"), (0, u "()V"), (1, .class_ 10), (1, u "java/lang/Object")] 113

def k0c0 : Code := { maxStack := 0, maxLocals := 1, code := object_method_1_code, exceptionTable := #[], attributes := #[] }
def k0m0 : Method := { name := "<init>", desc := "()V", sig := { parameters := [], returnType := none }, accessFlags := 1, code := some k0c0 }
/-- java/lang/Object -/
def k0 : Class := { plain "java/lang/Object" none with
  accessFlags := 33
  interfaces := #[]
  cf := some (fileOf pool0 8 #[] #[{ accessFlags := 1, nameIndex := 5, descriptorIndex := 6, attributes := #[] }] 33 0 #[] #[])
  fields := #[]
  methods := #[k0m0]
  instanceTypes := #[]
  staticTypes := #[]
  resolved := Array.replicate 124 none
  statics := none }

def pool1 : Array CpInfo := pool [(2, .class_ 4), (1, u "java/lang/Object"), (0, u "<init>"), (0, u "()V"), (0, .fieldref 8 9), (0, .class_ 10), (0, .nameAndType 11 12), (0, u "com/example/srok/srok/engine/Side"), (0, u "BUY"), (0, u "Lcom/example/srok/srok/engine/Side;"), (0, .fieldref 8 14), (0, .nameAndType 15 12), (0, u "SELL"), (0, .long 18446744073709551615), (1, .class_ 19), (0, u "com/example/srok/srok/engine/BookSide"), (0, .methodref 18 21), (0, .nameAndType 5 22), (0, u "(Lcom/example/srok/srok/engine/Side;)V"), (0, .methodref 18 24), (0, .nameAndType 25 26), (0, u "isEmpty"), (0, u "()Z"), (0, .methodref 18 28), (0, .nameAndType 29 30), (0, u "levelFor"), (0, u "(JLjava/math/BigDecimal;)Lcom/example/srok/srok/engine/PriceLevel;"), (0, .methodref 18 32), (0, .nameAndType 33 34), (0, u "best"), (0, u "()Lcom/example/srok/srok/engine/PriceLevel;"), (0, .methodref 18 36), (0, .nameAndType 37 38), (0, u "emptied"), (0, u "(Lcom/example/srok/srok/engine/PriceLevel;)V"), (0, .class_ 40), (0, u "com/example/srok/srok/engine/BookSideIsEmptyPinLaw"), (2, u "law"), (0, u "(IJJ)Z")] 5

def k1m0 : Method := { name := "<init>", desc := "()V", sig := { parameters := [], returnType := none }, accessFlags := 1, code := none }
def k1c1 : Code := { maxStack := 4, maxLocals := 14, code := code, exceptionTable := #[], attributes := #[] }
def k1m1 : Method := { name := "law", desc := "(IJJ)Z", sig := { parameters := [.int, .long, .long], returnType := some .boolean }, accessFlags := 9, code := some k1c1 }
/-- com/example/srok/srok/engine/BookSideIsEmptyPinLaw -/
def k1 : Class := { plain "com/example/srok/srok/engine/BookSideIsEmptyPinLaw" (some 0) with
  accessFlags := 49
  interfaces := #[]
  cf := some (fileOf pool1 39 #[] #[{ accessFlags := 1, nameIndex := 5, descriptorIndex := 6, attributes := #[] }, { accessFlags := 9, nameIndex := 43, descriptorIndex := 44, attributes := #[] }] 49 2 #[] #[])
  fields := #[]
  methods := #[k1m0, k1m1]
  instanceTypes := #[]
  staticTypes := #[]
  resolved := Array.replicate 50 none
  statics := none }

def pool2 : Array CpInfo := pool [(1, .class_ 2), (0, u "java/lang/constant/Constable"), (0, .class_ 4), (0, u "java/lang/Object")] 6

/-- java/lang/constant/Constable -/
def k2 : Class := { plain "java/lang/constant/Constable" (some 0) with
  accessFlags := 1537
  interfaces := #[]
  cf := some (fileOf pool2 1 #[] #[] 1537 3 #[] #[])
  fields := #[]
  methods := #[]
  instanceTypes := #[]
  staticTypes := #[]
  resolved := Array.replicate 11 none
  statics := none }

def pool3 : Array CpInfo := pool [(1, .class_ 2), (0, u "java/lang/Comparable"), (0, .class_ 4), (0, u "java/lang/Object")] 7

/-- java/lang/Comparable -/
def k3 : Class := { plain "java/lang/Comparable" (some 0) with
  accessFlags := 1537
  interfaces := #[]
  cf := some (fileOf pool3 1 #[] #[] 1537 3 #[] #[])
  fields := #[]
  methods := #[]
  instanceTypes := #[]
  staticTypes := #[]
  resolved := Array.replicate 12 none
  statics := none }

def pool4 : Array CpInfo := pool [(1, .class_ 2), (0, u "java/io/Serializable"), (0, .class_ 4), (0, u "java/lang/Object")] 2

/-- java/io/Serializable -/
def k4 : Class := { plain "java/io/Serializable" (some 0) with
  accessFlags := 1537
  interfaces := #[]
  cf := some (fileOf pool4 1 #[] #[] 1537 3 #[] #[])
  fields := #[]
  methods := #[]
  instanceTypes := #[]
  staticTypes := #[]
  resolved := Array.replicate 7 none
  statics := none }

def pool5 : Array CpInfo := pool [(2, .class_ 4), (1, u "java/lang/Enum"), (0, u "name"), (0, u "Ljava/lang/String;"), (2, u "ordinal"), (0, u "I"), (1, .class_ 14), (1, u "java/lang/Object"), (4, u "hash"), (86, .class_ 108), (1, u "java/lang/Enum$EnumDesc"), (2, .class_ 112), (0, u "java/lang/constant/Constable"), (0, .class_ 114), (0, u "java/lang/Comparable"), (0, .class_ 116), (0, u "java/io/Serializable")] 87

/-- java/lang/Enum -/
def k5 : Class := { plain "java/lang/Enum" (some 0) with
  accessFlags := 1057
  interfaces := #[2, 3, 4]
  cf := some (fileOf pool5 2 #[.nestMembers #[106]] #[] 1057 12 #[111, 113, 115] #[{ accessFlags := 18, nameIndex := 5, descriptorIndex := 6, attributes := #[] }, { accessFlags := 18, nameIndex := 9, descriptorIndex := 10, attributes := #[] }, { accessFlags := 2, nameIndex := 19, descriptorIndex := 10, attributes := #[] }])
  fields := #[{ name := "name", type := (.object "java/lang/String"), accessFlags := 18, slot := 0, constantValue := 0 }, { name := "ordinal", type := .int, accessFlags := 18, slot := 1, constantValue := 0 }, { name := "hash", type := .int, accessFlags := 2, slot := 2, constantValue := 0 }]
  methods := #[]
  instanceTypes := #[(.object "java/lang/String"), .int, .int]
  staticTypes := #[]
  resolved := Array.replicate 204 none
  statics := none }

def pool6 : Array CpInfo := pool [(1, .class_ 2), (0, u "com/example/srok/srok/engine/Side"), (2, u "BUY"), (0, u "Lcom/example/srok/srok/engine/Side;"), (2, u "SELL"), (2, u "$VALUES"), (0, u "[Lcom/example/srok/srok/engine/Side;"), (6, .class_ 22), (1, u "java/lang/Enum"), (8, u "word"), (0, u "Ljava/lang/String;")] 26

/-- com/example/srok/srok/engine/Side -/
def k6 : Class := { plain "com/example/srok/srok/engine/Side" (some 5) with
  accessFlags := 16433
  interfaces := #[]
  cf := some (fileOf pool6 1 #[] #[] 16433 20 #[] #[{ accessFlags := 16409, nameIndex := 5, descriptorIndex := 6, attributes := #[] }, { accessFlags := 16409, nameIndex := 9, descriptorIndex := 6, attributes := #[] }, { accessFlags := 18, nameIndex := 31, descriptorIndex := 32, attributes := #[] }, { accessFlags := 4122, nameIndex := 12, descriptorIndex := 13, attributes := #[] }])
  fields := #[{ name := "BUY", type := (.object "com/example/srok/srok/engine/Side"), accessFlags := 16409, slot := 0, constantValue := 0 }, { name := "SELL", type := (.object "com/example/srok/srok/engine/Side"), accessFlags := 16409, slot := 1, constantValue := 0 }, { name := "word", type := (.object "java/lang/String"), accessFlags := 18, slot := 3, constantValue := 0 }, { name := "$VALUES", type := (.array (.object "com/example/srok/srok/engine/Side")), accessFlags := 4122, slot := 2, constantValue := 0 }]
  methods := #[]
  instanceTypes := #[(.object "java/lang/String"), .int, .int, (.object "java/lang/String")]
  staticTypes := #[(.object "com/example/srok/srok/engine/Side"), (.object "com/example/srok/srok/engine/Side"), (.array (.object "com/example/srok/srok/engine/Side"))]
  resolved := Array.replicate 59 none
  statics := some 0 }

def pool7 : Array CpInfo := pool [(1, .methodref 2 3), (0, .class_ 4), (0, .nameAndType 5 6), (0, u "java/lang/Object"), (0, u "<init>"), (0, u "()V"), (0, .class_ 8), (0, u "com/example/srok/srok/engine/BookSide"), (0, .class_ 10), (0, u "com/example/srok/srok/engine/PriceLevel"), (0, .fieldref 7 12), (0, .nameAndType 13 14), (0, u "levels"), (0, u "[Lcom/example/srok/srok/engine/PriceLevel;"), (0, .fieldref 7 16), (0, .nameAndType 17 18), (0, u "ranks"), (0, u "[J"), (0, .fieldref 7 20), (0, .nameAndType 21 22), (0, u "side"), (0, u "Lcom/example/srok/srok/engine/Side;"), (0, .fieldref 7 24), (0, .nameAndType 25 26), (0, u "count"), (0, u "I"), (8, .methodref 7 36), (0, .nameAndType 37 38), (0, u "indexOf"), (0, u "(JLjava/math/BigDecimal;)I"), (0, .methodref 9 40), (0, .nameAndType 41 42), (0, u "isEmpty"), (0, u "()Z"), (0, .fieldref 7 44), (0, .nameAndType 45 26), (0, u "emptyLevels"), (10, .methodref 57 58), (0, .class_ 59), (0, .nameAndType 60 61), (0, u "java/lang/System"), (0, u "arraycopy"), (0, u "(Ljava/lang/Object;ILjava/lang/Object;II)V"), (0, .methodref 9 63), (0, .nameAndType 5 64), (0, u "(Ljava/math/BigDecimal;J)V"), (0, .methodref 7 66), (0, .nameAndType 67 68), (0, u "rank"), (0, u "(J)J"), (4, .fieldref 74 75), (0, .class_ 76), (0, .nameAndType 77 22), (0, u "com/example/srok/srok/engine/Side"), (0, u "BUY"), (0, .long 18446744073709551615), (1, .methodref 81 82), (0, .class_ 83), (0, .nameAndType 84 85), (0, u "java/lang/Math"), (0, u "max"), (0, u "(II)I"), (2, .long 9223372036854775808), (1, .long 9223372036854775807), (11, u "INITIAL_LEVELS"), (2, u "(Lcom/example/srok/srok/engine/Side;)V"), (3, u "best"), (0, u "()Lcom/example/srok/srok/engine/PriceLevel;"), (2, u "levelFor"), (0, u "(JLjava/math/BigDecimal;)Lcom/example/srok/srok/engine/PriceLevel;"), (0, u "emptied"), (0, u "(Lcom/example/srok/srok/engine/PriceLevel;)V")] 2

def k7c0 : Code := { maxStack := 2, maxLocals := 2, code := prog_2_method_1_code, exceptionTable := #[], attributes := #[] }
def k7m0 : Method := { name := "<init>", desc := "(Lcom/example/srok/srok/engine/Side;)V", sig := { parameters := [(.object "com/example/srok/srok/engine/Side")], returnType := none }, accessFlags := 0, code := some k7c0 }
def k7c1 : Code := { maxStack := 1, maxLocals := 1, code := prog_2_method_2_code, exceptionTable := #[], attributes := #[] }
def k7m1 : Method := { name := "isEmpty", desc := "()Z", sig := { parameters := [], returnType := some .boolean }, accessFlags := 0, code := some k7c1 }
def k7c2 : Code := { maxStack := 3, maxLocals := 1, code := prog_2_method_3_code, exceptionTable := #[], attributes := #[] }
def k7m2 : Method := { name := "best", desc := "()Lcom/example/srok/srok/engine/PriceLevel;", sig := { parameters := [], returnType := some (.object "com/example/srok/srok/engine/PriceLevel") }, accessFlags := 0, code := some k7c2 }
def k7c3 : Code := { maxStack := 6, maxLocals := 7, code := prog_2_method_5_code, exceptionTable := #[], attributes := #[] }
def k7m3 : Method := { name := "levelFor", desc := "(JLjava/math/BigDecimal;)Lcom/example/srok/srok/engine/PriceLevel;", sig := { parameters := [.long, (.object "java/math/BigDecimal")], returnType := some (.object "com/example/srok/srok/engine/PriceLevel") }, accessFlags := 0, code := some k7c3 }
def k7c4 : Code := { maxStack := 4, maxLocals := 4, code := prog_2_method_6_code, exceptionTable := #[], attributes := #[] }
def k7m4 : Method := { name := "emptied", desc := "(Lcom/example/srok/srok/engine/PriceLevel;)V", sig := { parameters := [(.object "com/example/srok/srok/engine/PriceLevel")], returnType := none }, accessFlags := 0, code := some k7c4 }
def k7c5 : Code := { maxStack := 4, maxLocals := 3, code := prog_2_method_7_code, exceptionTable := #[], attributes := #[] }
def k7m5 : Method := { name := "rank", desc := "(J)J", sig := { parameters := [.long], returnType := some .long }, accessFlags := 2, code := some k7c5 }
def k7c6 : Code := { maxStack := 4, maxLocals := 11, code := prog_2_method_8_code, exceptionTable := #[], attributes := #[] }
def k7m6 : Method := { name := "indexOf", desc := "(JLjava/math/BigDecimal;)I", sig := { parameters := [.long, (.object "java/math/BigDecimal")], returnType := some .int }, accessFlags := 2, code := some k7c6 }
/-- com/example/srok/srok/engine/BookSide -/
def k7 : Class := { plain "com/example/srok/srok/engine/BookSide" (some 0) with
  accessFlags := 48
  interfaces := #[]
  cf := some (fileOf pool7 7 #[] #[{ accessFlags := 0, nameIndex := 5, descriptorIndex := 105, attributes := #[] }, { accessFlags := 0, nameIndex := 41, descriptorIndex := 42, attributes := #[] }, { accessFlags := 0, nameIndex := 109, descriptorIndex := 110, attributes := #[] }, { accessFlags := 0, nameIndex := 113, descriptorIndex := 114, attributes := #[] }, { accessFlags := 0, nameIndex := 115, descriptorIndex := 116, attributes := #[] }, { accessFlags := 2, nameIndex := 67, descriptorIndex := 68, attributes := #[] }, { accessFlags := 2, nameIndex := 37, descriptorIndex := 38, attributes := #[] }] 48 2 #[] #[{ accessFlags := 26, nameIndex := 102, descriptorIndex := 26, attributes := #[] }, { accessFlags := 18, nameIndex := 21, descriptorIndex := 22, attributes := #[] }, { accessFlags := 2, nameIndex := 13, descriptorIndex := 14, attributes := #[] }, { accessFlags := 2, nameIndex := 17, descriptorIndex := 18, attributes := #[] }, { accessFlags := 2, nameIndex := 25, descriptorIndex := 26, attributes := #[] }, { accessFlags := 2, nameIndex := 45, descriptorIndex := 26, attributes := #[] }])
  fields := #[{ name := "INITIAL_LEVELS", type := .int, accessFlags := 26, slot := 0, constantValue := 0 }, { name := "side", type := (.object "com/example/srok/srok/engine/Side"), accessFlags := 18, slot := 0, constantValue := 0 }, { name := "levels", type := (.array (.object "com/example/srok/srok/engine/PriceLevel")), accessFlags := 2, slot := 1, constantValue := 0 }, { name := "ranks", type := (.array .long), accessFlags := 2, slot := 2, constantValue := 0 }, { name := "count", type := .int, accessFlags := 2, slot := 3, constantValue := 0 }, { name := "emptyLevels", type := .int, accessFlags := 2, slot := 4, constantValue := 0 }]
  methods := #[k7m0, k7m1, k7m2, k7m3, k7m4, k7m5, k7m6]
  instanceTypes := #[(.object "com/example/srok/srok/engine/Side"), (.array (.object "com/example/srok/srok/engine/PriceLevel")), (.array .long), .int, .int]
  staticTypes := #[.int]
  resolved := Array.replicate 119 none
  statics := none }

def pool8 : Array CpInfo := pool [(1, .methodref 2 3), (0, .class_ 4), (0, .nameAndType 5 6), (0, u "java/lang/Object"), (0, u "<init>"), (0, u "()V"), (0, .fieldref 8 9), (0, .class_ 10), (0, .nameAndType 11 12), (0, u "com/example/srok/srok/engine/PriceLevel"), (0, u "price"), (0, u "Ljava/math/BigDecimal;"), (0, .fieldref 8 14), (0, .nameAndType 15 16), (0, u "priceSteps"), (0, u "J"), (0, .fieldref 8 18), (0, .nameAndType 19 20), (0, u "first"), (0, u "Lcom/example/srok/srok/engine/Order;"), (8, u "last"), (6, u "(Ljava/math/BigDecimal;J)V"), (4, u "isEmpty"), (0, u "()Z")] 7

def k8c0 : Code := { maxStack := 3, maxLocals := 4, code := prog_14_method_1_code, exceptionTable := #[], attributes := #[] }
def k8m0 : Method := { name := "<init>", desc := "(Ljava/math/BigDecimal;J)V", sig := { parameters := [(.object "java/math/BigDecimal"), .long], returnType := none }, accessFlags := 0, code := some k8c0 }
def k8c1 : Code := { maxStack := 1, maxLocals := 1, code := prog_14_method_4_code, exceptionTable := #[], attributes := #[] }
def k8m1 : Method := { name := "isEmpty", desc := "()Z", sig := { parameters := [], returnType := some .boolean }, accessFlags := 0, code := some k8c1 }
/-- com/example/srok/srok/engine/PriceLevel -/
def k8 : Class := { plain "com/example/srok/srok/engine/PriceLevel" (some 0) with
  accessFlags := 48
  interfaces := #[]
  cf := some (fileOf pool8 8 #[] #[{ accessFlags := 0, nameIndex := 5, descriptorIndex := 36, attributes := #[] }, { accessFlags := 0, nameIndex := 41, descriptorIndex := 42, attributes := #[] }] 48 2 #[] #[{ accessFlags := 18, nameIndex := 11, descriptorIndex := 12, attributes := #[] }, { accessFlags := 18, nameIndex := 15, descriptorIndex := 16, attributes := #[] }, { accessFlags := 2, nameIndex := 19, descriptorIndex := 20, attributes := #[] }, { accessFlags := 2, nameIndex := 29, descriptorIndex := 20, attributes := #[] }])
  fields := #[{ name := "price", type := (.object "java/math/BigDecimal"), accessFlags := 18, slot := 0, constantValue := 0 }, { name := "priceSteps", type := .long, accessFlags := 18, slot := 1, constantValue := 0 }, { name := "first", type := (.object "com/example/srok/srok/engine/Order"), accessFlags := 2, slot := 2, constantValue := 0 }, { name := "last", type := (.object "com/example/srok/srok/engine/Order"), accessFlags := 2, slot := 3, constantValue := 0 }]
  methods := #[k8m0, k8m1]
  instanceTypes := #[(.object "java/math/BigDecimal"), .long, (.object "com/example/srok/srok/engine/Order"), (.object "com/example/srok/srok/engine/Order")]
  staticTypes := #[]
  resolved := Array.replicate 50 none
  statics := none }

def pool9 : Array CpInfo := pool [(1, .class_ 2), (0, u "java/lang/Math"), (1, .class_ 6), (1, u "java/lang/Object"), (0, u "<init>"), (0, u "()V"), (89, .class_ 100), (1, u "java/lang/Math$RandomNumberGeneratorHolder"), (71, u "negativeZeroFloatBits"), (0, u "J"), (2, u "negativeZeroDoubleBits"), (21, u "max"), (46, u "$assertionsDisabled"), (0, u "Z"), (88, u "(II)I"), (2, u "twoToTheDoubleScaleDown"), (0, u "D"), (4, u "twoToTheDoubleScaleUp"), (9, u "E"), (3, u "PI"), (2, u "TAU"), (2, u "DEGREES_TO_RADIANS"), (0, u "RADIANS_TO_DEGREES")] 94

def k9m0 : Method := { name := "<init>", desc := "()V", sig := { parameters := [], returnType := none }, accessFlags := 2, code := none }
def k9c1 : Code := { maxStack := 2, maxLocals := 2, code := jdk_29_method_65_code, exceptionTable := #[], attributes := #[] }
def k9m1 : Method := { name := "max", desc := "(II)I", sig := { parameters := [.int, .int], returnType := some .int }, accessFlags := 9, code := some k9c1 }
/-- java/lang/Math -/
def k9 : Class := { plain "java/lang/Math" (some 0) with
  accessFlags := 49
  interfaces := #[]
  cf := some (fileOf pool9 1 #[.nestMembers #[98]] #[{ accessFlags := 2, nameIndex := 7, descriptorIndex := 8, attributes := #[] }, { accessFlags := 9, nameIndex := 198, descriptorIndex := 335, attributes := #[] }] 49 4 #[] #[{ accessFlags := 25, nameIndex := 354, descriptorIndex := 339, attributes := #[] }, { accessFlags := 25, nameIndex := 358, descriptorIndex := 339, attributes := #[] }, { accessFlags := 25, nameIndex := 361, descriptorIndex := 339, attributes := #[] }, { accessFlags := 26, nameIndex := 364, descriptorIndex := 339, attributes := #[] }, { accessFlags := 26, nameIndex := 365, descriptorIndex := 339, attributes := #[] }, { accessFlags := 26, nameIndex := 172, descriptorIndex := 173, attributes := #[] }, { accessFlags := 26, nameIndex := 176, descriptorIndex := 173, attributes := #[] }, { accessFlags := 8, nameIndex := 344, descriptorIndex := 339, attributes := #[] }, { accessFlags := 8, nameIndex := 338, descriptorIndex := 339, attributes := #[] }, { accessFlags := 4120, nameIndex := 245, descriptorIndex := 246, attributes := #[] }])
  fields := #[{ name := "E", type := .double, accessFlags := 25, slot := 0, constantValue := 0 }, { name := "PI", type := .double, accessFlags := 25, slot := 1, constantValue := 0 }, { name := "TAU", type := .double, accessFlags := 25, slot := 2, constantValue := 0 }, { name := "DEGREES_TO_RADIANS", type := .double, accessFlags := 26, slot := 3, constantValue := 0 }, { name := "RADIANS_TO_DEGREES", type := .double, accessFlags := 26, slot := 4, constantValue := 0 }, { name := "negativeZeroFloatBits", type := .long, accessFlags := 26, slot := 5, constantValue := 0 }, { name := "negativeZeroDoubleBits", type := .long, accessFlags := 26, slot := 6, constantValue := 0 }, { name := "twoToTheDoubleScaleUp", type := .double, accessFlags := 8, slot := 7, constantValue := 0 }, { name := "twoToTheDoubleScaleDown", type := .double, accessFlags := 8, slot := 8, constantValue := 0 }, { name := "$assertionsDisabled", type := .boolean, accessFlags := 4120, slot := 9, constantValue := 0 }]
  methods := #[k9m0, k9m1]
  instanceTypes := #[]
  staticTypes := #[.double, .double, .double, .double, .double, .long, .long, .double, .double, .boolean]
  resolved := Array.replicate 460 none
  statics := none }

def pool10 : Array CpInfo := pool [(2, .class_ 4), (1, u "java/lang/Object"), (0, u "<init>"), (0, u "()V"), (1, .class_ 10), (1, u "java/lang/System"), (0, u "allowSecurityManager"), (0, u "I"), (16, u "cons"), (0, u "Ljava/io/Console;"), (77, .class_ 110), (1, u "java/lang/System$CallersHolder"), (43, u "initialErrStream"), (0, u "Ljava/io/PrintStream;"), (19, u "security"), (0, u "Ljava/lang/SecurityManager;"), (31, .class_ 209), (0, u "java/lang/System$1"), (7, u "props"), (0, u "Ljava/util/Properties;"), (2, u "lineSeparator"), (0, u "Ljava/lang/String;"), (96, .class_ 321), (1, u "java/lang/System$LoggerFinder"), (5, .class_ 328), (0, u "java/lang/System$Logger"), (67, u "err"), (2, u "out"), (91, u "notSupportedJnuEncoding"), (15, u "in"), (17, u "initialIn"), (0, u "Ljava/io/InputStream;"), (35, u "bootLayer"), (0, u "Ljava/lang/ModuleLayer;"), (99, .class_ 664), (0, u "java/lang/System$2"), (9, u "NEVER"), (2, u "MAYBE"), (49, u "arraycopy"), (0, u "(Ljava/lang/Object;ILjava/lang/Object;II)V"), (72, .class_ 802), (0, u "java/lang/System$Logger$Level")] 31

def k10m0 : Method := { name := "<init>", desc := "()V", sig := { parameters := [], returnType := none }, accessFlags := 2, code := none }
def k10m1 : Method := { name := "arraycopy", desc := "(Ljava/lang/Object;ILjava/lang/Object;II)V", sig := { parameters := [(.object "java/lang/Object"), .int, (.object "java/lang/Object"), .int, .int], returnType := none }, accessFlags := 265, code := none }
/-- java/lang/System -/
def k10 : Class := { plain "java/lang/System" (some 0) with
  accessFlags := 49
  interfaces := #[]
  cf := some (fileOf pool10 8 #[.nestMembers #[319, 327, 801, 108, 663, 208]] #[{ accessFlags := 2, nameIndex := 5, descriptorIndex := 6, attributes := #[] }, { accessFlags := 265, nameIndex := 727, descriptorIndex := 728, attributes := #[] }] 49 2 #[] #[{ accessFlags := 25, nameIndex := 507, descriptorIndex := 526, attributes := #[] }, { accessFlags := 25, nameIndex := 399, descriptorIndex := 155, attributes := #[] }, { accessFlags := 25, nameIndex := 396, descriptorIndex := 155, attributes := #[] }, { accessFlags := 10, nameIndex := 525, descriptorIndex := 526, attributes := #[] }, { accessFlags := 26, nameIndex := 674, descriptorIndex := 12, attributes := #[] }, { accessFlags := 26, nameIndex := 677, descriptorIndex := 12, attributes := #[] }, { accessFlags := 10, nameIndex := 11, descriptorIndex := 12, attributes := #[] }, { accessFlags := 74, nameIndex := 175, descriptorIndex := 176, attributes := #[] }, { accessFlags := 10, nameIndex := 491, descriptorIndex := 222, attributes := #[] }, { accessFlags := 74, nameIndex := 29, descriptorIndex := 30, attributes := #[] }, { accessFlags := 74, nameIndex := 154, descriptorIndex := 155, attributes := #[] }, { accessFlags := 10, nameIndex := 217, descriptorIndex := 218, attributes := #[] }, { accessFlags := 10, nameIndex := 221, descriptorIndex := 222, attributes := #[] }, { accessFlags := 8, nameIndex := 562, descriptorIndex := 563, attributes := #[] }])
  fields := #[{ name := "in", type := (.object "java/io/InputStream"), accessFlags := 25, slot := 0, constantValue := 0 }, { name := "out", type := (.object "java/io/PrintStream"), accessFlags := 25, slot := 1, constantValue := 0 }, { name := "err", type := (.object "java/io/PrintStream"), accessFlags := 25, slot := 2, constantValue := 0 }, { name := "initialIn", type := (.object "java/io/InputStream"), accessFlags := 10, slot := 3, constantValue := 0 }, { name := "NEVER", type := .int, accessFlags := 26, slot := 4, constantValue := 0 }, { name := "MAYBE", type := .int, accessFlags := 26, slot := 5, constantValue := 0 }, { name := "allowSecurityManager", type := .int, accessFlags := 10, slot := 6, constantValue := 0 }, { name := "security", type := (.object "java/lang/SecurityManager"), accessFlags := 74, slot := 7, constantValue := 0 }, { name := "notSupportedJnuEncoding", type := (.object "java/lang/String"), accessFlags := 10, slot := 8, constantValue := 0 }, { name := "cons", type := (.object "java/io/Console"), accessFlags := 74, slot := 9, constantValue := 0 }, { name := "initialErrStream", type := (.object "java/io/PrintStream"), accessFlags := 74, slot := 10, constantValue := 0 }, { name := "props", type := (.object "java/util/Properties"), accessFlags := 10, slot := 11, constantValue := 0 }, { name := "lineSeparator", type := (.object "java/lang/String"), accessFlags := 10, slot := 12, constantValue := 0 }, { name := "bootLayer", type := (.object "java/lang/ModuleLayer"), accessFlags := 8, slot := 13, constantValue := 0 }]
  methods := #[k10m0, k10m1]
  instanceTypes := #[]
  staticTypes := #[(.object "java/io/InputStream"), (.object "java/io/PrintStream"), (.object "java/io/PrintStream"), (.object "java/io/InputStream"), .int, .int, .int, (.object "java/lang/SecurityManager"), (.object "java/lang/String"), (.object "java/io/Console"), (.object "java/io/PrintStream"), (.object "java/util/Properties"), (.object "java/lang/String"), (.object "java/lang/ModuleLayer")]
  resolved := Array.replicate 834 none
  statics := none }

def pool11 : Array CpInfo := pool [(1, u "java/lang/Cloneable"), (0, .class_ 1), (0, u "java/lang/Object"), (0, .class_ 3)] 3

/-- java/lang/Cloneable -/
def k11 : Class := { plain "java/lang/Cloneable" (some 0) with
  accessFlags := 1537
  interfaces := #[]
  cf := some (fileOf pool11 2 #[] #[] 1537 4 #[] #[])
  fields := #[]
  methods := #[]
  instanceTypes := #[]
  staticTypes := #[]
  resolved := Array.replicate 8 none
  statics := none }

/-- the primitive byte -/
def k12 : Class := { plain "byte" none with kind := .primitive 'B', accessFlags := 0x411 }
/-- [B -/
def k13 : Class := { plain "[B" (some 0) with kind := .array 12 .byte, interfaces := #[11, 4], accessFlags := 1041 }

/-- the primitive int -/
def k14 : Class := { plain "int" none with kind := .primitive 'I', accessFlags := 0x411 }
/-- [I -/
def k15 : Class := { plain "[I" (some 0) with kind := .array 14 .int, interfaces := #[11, 4], accessFlags := 1041 }

/-- the primitive long -/
def k16 : Class := { plain "long" none with kind := .primitive 'J', accessFlags := 0x411 }
/-- [J -/
def k17 : Class := { plain "[J" (some 0) with kind := .array 16 .long, interfaces := #[11, 4], accessFlags := 1041 }

/-- [Lcom/example/srok/srok/engine/PriceLevel; -/
def k18 : Class := { plain "[Lcom/example/srok/srok/engine/PriceLevel;" (some 0) with kind := .array 8 (.object "com/example/srok/srok/engine/PriceLevel"), interfaces := #[11, 4], accessFlags := 1041 }

def heap : Heap := #[{ cls := 6, slots := #[.ref 2, .ref 1, .null], vm := .statics 6 },
  { cls := 6, slots := #[.null, .int 1, .int 0, .null], vm := .none },
  { cls := 6, slots := #[.null, .int 0, .int 0, .null], vm := .none }]
def classes : Array Class := #[k0, k1, k2, k3, k4, k5, k6, k7, k8, k9, k10, k11, k12, k13, k14, k15, k16, k17, k18]
def interned : List (Array UInt16 × Addr) := []
def slotsUsed : Nat := 11
def theMethod : MethodId := ⟨1, 1⟩
def args0 : Array Value := #[.int 5, .long 5, .long 5]
def aboutOver (below : List Frame) : State where
  vm := { classes := classes, interned := interned.toArray }
  heap := heap
  slotsUsed := slotsUsed
  threads := #[{ frames := .invoking theMethod args0 :: below }]
def below0 : List Frame := [.native { method := ⟨0, 0⟩, args := #[] }]
def about1 : State := aboutOver below0
def p0 : Program := .bare "" "" ""
def e0 : Env := launch0.env 0 0 0
theorem w_frames : about1.frames = Frame.invoking theMethod args0 :: below0 := rfl
set_option maxRecDepth 65536 in
theorem w_args : argsFit about1.vm theMethod args0 = true := by decide +kernel
set_option maxRecDepth 65536 in
theorem w_heap : heapFits about1 = true := by decide +kernel
set_option maxRecDepth 65536 in
theorem w_runnable : about1.curStatus? = some .runnable := by decide +kernel
set_option maxRecDepth 65536 in
theorem w_alone : about1.alone = true := by decide +kernel
set_option maxRecDepth 65536 in
theorem w_named : about1.methodNamed? x = some theMethod := by decide +kernel
set_option maxRecDepth 65536 in
theorem w_hears : about1.hears theMethod below0 = true := by decide +kernel
set_option maxRecDepth 65536 in
theorem w_ripe : about1.ripe theMethod args0 below0 = true := by decide +kernel
theorem w_running : about1.status = .running := rfl
set_option maxRecDepth 65536 in
theorem w_room : about1.hasRoom e0.platform room_1 = true :=
  launch0.hasRoom_least _ room_1 (by decide +kernel) (by decide +kernel) (by decide +kernel) (by decide +kernel) (by decide +kernel) (by decide +kernel)
theorem allAtoms_all (ts : List Jvm.Cond) (a : Array Jvm.Value) (st : Jvm.State) : (allAtoms ts).before a st = ts.all (fun c => c.before a st) := by
  induction ts with
  | nil => rfl
  | cons c t ih =>
    show (Jvm.Cond.and c (allAtoms t)).before a st = _
    rw [Jvm.Cond.before_and, ih, List.all_cons]
def words1 : List Jvm.Cond := Jvm.Cond.code x code maxLocals ret :: tables_1
/-- a 'code' word, met by the world's own term for the bytes: nothing is compared byte by byte -/
theorem code_word {y : MethodName} {bytes : ByteArray} {mx : Nat} {rt : Option FieldType} {a : Array Value} {s : State} {m : MethodId} {meth : Method} {c : Code} (h1 : s.methodNamed? y = some m) (h2 : s.vm.method? m = some meth) (h3 : meth.code = some c) (h4 : c.code = bytes)
    (h5 : (c.maxLocals == mx && c.exceptionTable.isEmpty && decide (c.maxStack ≤ mostOperands) && decide (meth.sig.returnType = rt) && !meth.locks && decide (parseMethodDescriptor y.desc = some meth.sig)) = true) : (Jvm.Cond.code y bytes mx rt).before a s = true := by
  simp only [Bool.and_eq_true, beq_iff_eq, Bool.not_eq_true', decide_eq_true_eq] at h5
  obtain ⟨⟨⟨⟨⟨g1, g2⟩, g3⟩, g4⟩, g5⟩, g6⟩ := h5
  simp [Cond.before, Cond.holds, Cond.value, h1, h2, h3, h4, g1, g2, g3, g4, g5, g6]
def isCode : Jvm.Cond → Bool
  | .code _ _ _ _ => true
  | _ => false
theorem all_split {L : List Jvm.Cond} {P : Jvm.Cond → Bool} (h1 : L.all (fun c => isCode c || P c) = true) (h2 : ∀ c ∈ L.filter isCode, P c = true) : L.all P = true := by
  refine List.all_eq_true.mpr fun c hc => ?_
  have h := List.all_eq_true.mp h1 c hc
  rcases Bool.eq_false_or_eq_true (isCode c) with hi | hi
  · exact h2 c (List.mem_filter.mpr ⟨hc, hi⟩)
  · simpa [hi] using h
set_option maxRecDepth 65536 in
theorem w_c0 : (Jvm.Cond.code x code maxLocals ret).before args0 about1 = true := code_word (m := ⟨1, 1⟩) (meth := k1m1) (c := k1c1) (by decide +kernel) rfl rfl rfl (by decide +kernel)
set_option maxRecDepth 65536 in
theorem w_c1 : (Jvm.Cond.code ({ cls := "com/example/srok/srok/engine/BookSide", name := "<init>", desc := "(Lcom/example/srok/srok/engine/Side;)V" } : Jvm.MethodName) prog_2_method_1_code (2 : Nat) (Option.none : Option Jvm.ClassFile.FieldType)).before args0 about1 = true := code_word (m := ⟨7, 0⟩) (meth := k7m0) (c := k7c0) (by decide +kernel) rfl rfl rfl (by decide +kernel)
set_option maxRecDepth 65536 in
theorem w_c2 : (Jvm.Cond.code ({ cls := "java/lang/Object", name := "<init>", desc := "()V" } : Jvm.MethodName) object_method_1_code (1 : Nat) (Option.none : Option Jvm.ClassFile.FieldType)).before args0 about1 = true := code_word (m := ⟨0, 0⟩) (meth := k0m0) (c := k0c0) (by decide +kernel) rfl rfl rfl (by decide +kernel)
set_option maxRecDepth 65536 in
theorem w_c3 : (Jvm.Cond.code ({ cls := "com/example/srok/srok/engine/BookSide", name := "isEmpty", desc := "()Z" } : Jvm.MethodName) prog_2_method_2_code (1 : Nat) (Option.some Jvm.ClassFile.FieldType.boolean)).before args0 about1 = true := code_word (m := ⟨7, 1⟩) (meth := k7m1) (c := k7c1) (by decide +kernel) rfl rfl rfl (by decide +kernel)
set_option maxRecDepth 65536 in
theorem w_c4 : (Jvm.Cond.code ({ cls := "com/example/srok/srok/engine/BookSide", name := "best", desc := "()Lcom/example/srok/srok/engine/PriceLevel;" } : Jvm.MethodName) prog_2_method_3_code (1 : Nat) (Option.some (Jvm.ClassFile.FieldType.object "com/example/srok/srok/engine/PriceLevel"))).before args0 about1 = true := code_word (m := ⟨7, 2⟩) (meth := k7m2) (c := k7c2) (by decide +kernel) rfl rfl rfl (by decide +kernel)
set_option maxRecDepth 65536 in
theorem w_c5 : (Jvm.Cond.code ({ cls := "com/example/srok/srok/engine/BookSide", name := "levelFor", desc := "(JLjava/math/BigDecimal;)Lcom/example/srok/srok/engine/PriceLevel;" } : Jvm.MethodName) prog_2_method_5_code (7 : Nat) (Option.some (Jvm.ClassFile.FieldType.object "com/example/srok/srok/engine/PriceLevel"))).before args0 about1 = true := code_word (m := ⟨7, 3⟩) (meth := k7m3) (c := k7c3) (by decide +kernel) rfl rfl rfl (by decide +kernel)
set_option maxRecDepth 65536 in
theorem w_c6 : (Jvm.Cond.code ({ cls := "com/example/srok/srok/engine/BookSide", name := "indexOf", desc := "(JLjava/math/BigDecimal;)I" } : Jvm.MethodName) prog_2_method_8_code (11 : Nat) (Option.some Jvm.ClassFile.FieldType.int)).before args0 about1 = true := code_word (m := ⟨7, 6⟩) (meth := k7m6) (c := k7c6) (by decide +kernel) rfl rfl rfl (by decide +kernel)
set_option maxRecDepth 65536 in
theorem w_c7 : (Jvm.Cond.code ({ cls := "com/example/srok/srok/engine/BookSide", name := "rank", desc := "(J)J" } : Jvm.MethodName) prog_2_method_7_code (3 : Nat) (Option.some Jvm.ClassFile.FieldType.long)).before args0 about1 = true := code_word (m := ⟨7, 5⟩) (meth := k7m5) (c := k7c5) (by decide +kernel) rfl rfl rfl (by decide +kernel)
set_option maxRecDepth 65536 in
theorem w_c8 : (Jvm.Cond.code ({ cls := "java/lang/Math", name := "max", desc := "(II)I" } : Jvm.MethodName) jdk_29_method_65_code (2 : Nat) (Option.some Jvm.ClassFile.FieldType.int)).before args0 about1 = true := code_word (m := ⟨9, 1⟩) (meth := k9m1) (c := k9c1) (by decide +kernel) rfl rfl rfl (by decide +kernel)
set_option maxRecDepth 65536 in
theorem w_c9 : (Jvm.Cond.code ({ cls := "com/example/srok/srok/engine/PriceLevel", name := "<init>", desc := "(Ljava/math/BigDecimal;J)V" } : Jvm.MethodName) prog_14_method_1_code (4 : Nat) (Option.none : Option Jvm.ClassFile.FieldType)).before args0 about1 = true := code_word (m := ⟨8, 0⟩) (meth := k8m0) (c := k8c0) (by decide +kernel) rfl rfl rfl (by decide +kernel)
set_option maxRecDepth 65536 in
theorem w_c10 : (Jvm.Cond.code ({ cls := "com/example/srok/srok/engine/BookSide", name := "emptied", desc := "(Lcom/example/srok/srok/engine/PriceLevel;)V" } : Jvm.MethodName) prog_2_method_6_code (4 : Nat) (Option.none : Option Jvm.ClassFile.FieldType)).before args0 about1 = true := code_word (m := ⟨7, 4⟩) (meth := k7m4) (c := k7c4) (by decide +kernel) rfl rfl rfl (by decide +kernel)
set_option maxRecDepth 65536 in
theorem w_c11 : (Jvm.Cond.code ({ cls := "com/example/srok/srok/engine/PriceLevel", name := "isEmpty", desc := "()Z" } : Jvm.MethodName) prog_14_method_4_code (1 : Nat) (Option.some Jvm.ClassFile.FieldType.boolean)).before args0 about1 = true := code_word (m := ⟨8, 1⟩) (meth := k8m1) (c := k8c1) (by decide +kernel) rfl rfl rfl (by decide +kernel)
def codes1 : List Jvm.Cond := [Jvm.Cond.code x code maxLocals ret, Jvm.Cond.code ({ cls := "com/example/srok/srok/engine/BookSide", name := "<init>", desc := "(Lcom/example/srok/srok/engine/Side;)V" } : Jvm.MethodName) prog_2_method_1_code (2 : Nat) (Option.none : Option Jvm.ClassFile.FieldType), Jvm.Cond.code ({ cls := "java/lang/Object", name := "<init>", desc := "()V" } : Jvm.MethodName) object_method_1_code (1 : Nat) (Option.none : Option Jvm.ClassFile.FieldType), Jvm.Cond.code ({ cls := "com/example/srok/srok/engine/BookSide", name := "isEmpty", desc := "()Z" } : Jvm.MethodName) prog_2_method_2_code (1 : Nat) (Option.some Jvm.ClassFile.FieldType.boolean), Jvm.Cond.code ({ cls := "com/example/srok/srok/engine/BookSide", name := "best", desc := "()Lcom/example/srok/srok/engine/PriceLevel;" } : Jvm.MethodName) prog_2_method_3_code (1 : Nat) (Option.some (Jvm.ClassFile.FieldType.object "com/example/srok/srok/engine/PriceLevel")), Jvm.Cond.code ({ cls := "com/example/srok/srok/engine/BookSide", name := "levelFor", desc := "(JLjava/math/BigDecimal;)Lcom/example/srok/srok/engine/PriceLevel;" } : Jvm.MethodName) prog_2_method_5_code (7 : Nat) (Option.some (Jvm.ClassFile.FieldType.object "com/example/srok/srok/engine/PriceLevel")), Jvm.Cond.code ({ cls := "com/example/srok/srok/engine/BookSide", name := "indexOf", desc := "(JLjava/math/BigDecimal;)I" } : Jvm.MethodName) prog_2_method_8_code (11 : Nat) (Option.some Jvm.ClassFile.FieldType.int), Jvm.Cond.code ({ cls := "com/example/srok/srok/engine/BookSide", name := "rank", desc := "(J)J" } : Jvm.MethodName) prog_2_method_7_code (3 : Nat) (Option.some Jvm.ClassFile.FieldType.long), Jvm.Cond.code ({ cls := "java/lang/Math", name := "max", desc := "(II)I" } : Jvm.MethodName) jdk_29_method_65_code (2 : Nat) (Option.some Jvm.ClassFile.FieldType.int), Jvm.Cond.code ({ cls := "com/example/srok/srok/engine/PriceLevel", name := "<init>", desc := "(Ljava/math/BigDecimal;J)V" } : Jvm.MethodName) prog_14_method_1_code (4 : Nat) (Option.none : Option Jvm.ClassFile.FieldType), Jvm.Cond.code ({ cls := "com/example/srok/srok/engine/BookSide", name := "emptied", desc := "(Lcom/example/srok/srok/engine/PriceLevel;)V" } : Jvm.MethodName) prog_2_method_6_code (4 : Nat) (Option.none : Option Jvm.ClassFile.FieldType), Jvm.Cond.code ({ cls := "com/example/srok/srok/engine/PriceLevel", name := "isEmpty", desc := "()Z" } : Jvm.MethodName) prog_14_method_4_code (1 : Nat) (Option.some Jvm.ClassFile.FieldType.boolean)]
set_option maxRecDepth 65536 in
theorem codes_eq : words1.filter isCode = codes1 := rfl
theorem w_codes : ∀ c ∈ words1.filter isCode, c.before args0 about1 = true := by
  rw [codes_eq]
  intro c hc
  simp only [codes1, List.mem_cons, List.not_mem_nil, or_false] at hc
  rcases hc with rfl | rfl | rfl | rfl | rfl | rfl | rfl | rfl | rfl | rfl | rfl | rfl
  · exact w_c0
  · exact w_c1
  · exact w_c2
  · exact w_c3
  · exact w_c4
  · exact w_c5
  · exact w_c6
  · exact w_c7
  · exact w_c8
  · exact w_c9
  · exact w_c10
  · exact w_c11
set_option maxRecDepth 65536 in
theorem w_t1 : (words1.take 24).all (fun c => isCode c || c.before args0 about1) = true := by decide +kernel
set_option maxRecDepth 65536 in
theorem w_t2 : ((words1.drop 24).take 24).all (fun c => isCode c || c.before args0 about1) = true := by decide +kernel
set_option maxRecDepth 65536 in
theorem w_t3 : (((words1.drop 24).drop 24).take 24).all (fun c => isCode c || c.before args0 about1) = true := by decide +kernel
set_option maxRecDepth 65536 in
theorem w_t4 : (((words1.drop 24).drop 24).drop 24).all (fun c => isCode c || c.before args0 about1) = true := by decide +kernel
theorem w_tables : (allAtoms (Jvm.Cond.code x code maxLocals ret :: tables_1)).before args0 about1 = true := by
  rw [allAtoms_all]
  show words1.all (fun c => c.before args0 about1) = true
  refine all_split ?_ w_codes
  rw [← List.take_append_drop 24 words1, List.all_append, w_t1, ← List.take_append_drop 24 (words1.drop 24), List.all_append, w_t2, ← List.take_append_drop 24 ((words1.drop 24).drop 24), List.all_append, w_t3, w_t4]
  rfl
set_option maxRecDepth 65536 in
theorem w_case : (Jvm.Cond.and given_1 narrow_1).before args0 about1 = true := by decide +kernel
theorem w_applies : (headSpec (Jvm.Cond.code x code maxLocals ret :: tables_1) room_1).applies x e0.platform about1 = true :=
  (Spec.applies_iff w_frames).mpr ⟨w_running, w_runnable, w_alone, w_named, w_hears, w_ripe, w_room, w_tables⟩
theorem atStart : AtStart classFile x code maxLocals ret World_1 tables_1 room_1 Calls_1 rest_1 Pre_1 launch0 p0 e0 about1 theMethod args0 below0 :=
  ⟨lists_1, trivial, launch0.admits_env _ _ _, launch0.least_env, fairChoices_fair.cas, fairChoices_fair.clock, w_frames, w_args, w_heap, w_applies, trivial, trivial, w_case⟩
end start1
theorem witness_1 : WitnessClaimed_1 := ⟨start1.p0, start1.e0, start1.about1, start1.theMethod, start1.args0, start1.below0, start1.atStart⟩
end Jvm.Pilot.@@N@@
