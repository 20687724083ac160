import JvmDerived
import JvmDerived.Pilot.@@N@@Statement
import JvmDerived.Pilot.@@N@@Code
set_option linter.unusedVariables false
set_option linter.unusedSimpArgs false
namespace Jvm.RoadKit
open Sem ClassFile Op Lib Jvm.Stand Jvm.Free Jvm.LawKit
section New
variable {p : Program} {l : Launch} {e : Env} {R : Room} {s : State} {m : MethodId} {args : Array Value} {below : List Frame} {meth : Method} {c : Code} {T : State} {locs : List Loc} {cells slots : Nat}
theorem retI (X : Stand p l e R s m args below meth c T locs cells slots) (hx : p.tables.exec = Jvm.exec) {pc : Nat} {Ls : Array Slot} {z : Int32} {rest : List Value} (hret : meth.sig.returnType = some .int) (hd : decode c.code pc = .ok (.ireturn, 1)) {fs : List Frame}
    (hl : ∀ (f : JFrame) (acts : List Action), f.method = m → f.locked = none → f.entered = [] → (doReturn e (T.setTop f) acts (some (.int z))).1 = T.setFrames fs) : Steps p.tables e below (T.setTop (mkF m pc Ls (.int z :: rest))) (T.setFrames fs) := by
  have hm' : T.vm.method? m = some meth := X.method'
  have hn : narrow .int (.int z) = .int z := rfl
  show Steps p.tables e below (T.setTop { method := m, pc := pc, locals := Ls, stack := _ :: rest, locked := none }) _
  jvm_step X.here [X.here.top, hx, hd, hm', hret, hn]
  first | (intro acts; rw [hl _ acts rfl rfl rfl]) | rw [hl _ _ rfl rfl rfl]
  exact Steps.refl _
end New
/-! the walk's own frame: a goal that is met by going on -/
section Own
variable {tb : Tables} {e : Env} {below : List Frame} {R : State → Outcome → Prop} {U U' T : State}
def own_G (tb : Tables) (e : Env) (below : List Frame) (R : State → Outcome → Prop) (U : State) : Prop := ∃ f o, Steps tb e below U f ∧ R f o
theorem own_pre {g g' : JFrame} (q : g = g') (h : own_G tb e below R (T.setTop g')) : ∃ f o, Steps tb e below (T.setTop g) f ∧ R f o := by rw [q]; exact h
theorem own_go (st : ∀ t, Steps tb e below U' t → Steps tb e below U t) (h : own_G tb e below R U') : own_G tb e below R U := by
  obtain ⟨f, o, h1, h2⟩ := h; exact ⟨f, o, st _ h1, h2⟩
theorem own_out (h : ∃ f o, Steps tb e below U f ∧ R f o) : own_G tb e below R U := h
end Own
section OwnFacts
variable {Z : State} {h h' : Heap} {a : Addr} {ws : List Addr} {C n d : String} {v : Value} {b : Bool}
def own_NS (h : Heap) (a : Addr) : Prop := ∃ c : Cell, h[a]? = some c ∧ c.vm.isStatics = false
theorem own_nsE (F : Exa Z h a C) : own_NS h a := by obtain ⟨c, k, h1, -, -, h4, -⟩ := F; exact ⟨c, h1, h4⟩
theorem own_nsF (F : Fld Z h a C n d v) : own_NS h a := by obtain ⟨c, _, _, _, _, h1, -, -, -, h5, -⟩ := F; exact ⟨c, h1, h5⟩
theorem own_staK (F : Sta Z h C n d v) (K : Keep h h' ws) (q : ∀ x ∈ ws, own_NS h x) : Sta Z h' C n d v := by
  obtain ⟨cf, i, k, f, st, cell, h1, h2, h3, h4, h5, h6, h7⟩ := F
  refine ⟨cf, i, k, f, st, cell, h1, h2, h3, h4, K.2.1 st cell h5 (fun hm => ?_), h6, h7⟩
  obtain ⟨c, e1, e2⟩ := q st hm
  cases h5.symm.trans e1
  rw [e2] at h6; cases h6
theorem own_notI {s : State} {args : Array Value} {C : String} {x y : MethodName} (w : (Cond.selects C x y).before args s = true) : ∃ c k, s.vm.findClass y.cls = some c ∧ s.vm.classes[c]? = some k ∧ k.isInterface = false := by
  obtain ⟨c2, r2, m2, q1, q2, q3, q4, kP, hkP, hkPi⟩ := Cond.selects_spec w
  exact ⟨_, kP, findClass_of_methodNamed q3, hkP, hkPi⟩
theorem own_selQ {s : State} {args : Array Value} {C : String} {x z y : MethodName} (w : (Cond.selects C x z).before args s = true) (e : z.cls = y.cls) (wp : (Cond.privateMethod y).before args s = true) (hi : (Cond.instanceMethod y).before args s = true) (hy : y.cls ≠ "java/lang/invoke/MethodHandle" ∧ y.cls ≠ "java/lang/invoke/VarHandle") : (Cond.selects y.cls y y).before args s = true := by
  obtain ⟨c, k, h1, h2, h3⟩ := own_notI w
  exact selects_self_of_private (e ▸ h1) h2 h3 (Cond.privateMethod_at wp) hi hy
theorem own_nfS {s : State} {args : Array Value} {C : String} {x z y : MethodName} (w : (Cond.selects C x z).before args s = true) (e : z.cls = y.cls) : NotFace s y := fun r0 h0 => by
  obtain ⟨c, k, h1, h2, h3⟩ := own_notI w
  have hc := findClass_of_methodNamed h0
  rw [e] at h1
  cases h1.symm.trans hc
  exact ⟨k, h2, h3⟩
theorem own_smM {s : State} {args : Array Value} {C : String} {x z y : MethodName} (w : (Cond.selects C x z).before args s = true) (e : z.cls = y.cls) (wd : (Cond.declares y).before args s = true) (hy : y.cls ≠ "java/lang/invoke/MethodHandle" ∧ y.cls ≠ "java/lang/invoke/VarHandle") : (Cond.sameMethod y.cls y.cls y.name y.desc).before args s = true := by
  obtain ⟨c, k, h1, h2, h3⟩ := own_notI w
  rw [e] at h1
  obtain ⟨r0, r, hn, hrm, -, -⟩ := Cond.declares_spec wd
  have hf := State.methodFound?_of_named hn hy
  refine Cond.before_iff.mpr ?_
  simp only [Cond.value, h1, hf, show s.methodNamed? ⟨y.cls, y.name, y.desc⟩ = some r0 from hn, h2]
  simp [h3]
theorem nlt {a b c : Nat} (h : a < b) (k : b ≤ c) : a < c := Nat.lt_of_lt_of_le h k
theorem own_at {h h' : Heap} {a : Addr} {c : Cell} (e : h' = h) (g : h[a]? = some c) : h'[a]? = some c := by rw [e]; exact g
variable {args : Array Value} {t u : Term} {x : Addr}
theorem own_fldI {k : Int32} (ev : t.eval args Z none [] Z = some (.ref x)) (hh : (Cond.eq (.field t C n d) (.int k)).value args Z none Z [] = some true) : Fld Z Z.heap x C n d (.int k) := by
  refine Fld.start ?_
  obtain ⟨y, w, e1, e2, k1, -⟩ := cmp_v (Or.inl hh)
  cases (Term.int_eval k).symm.trans e2
  rw [fld_at ev] at e1
  cases y <;> simp [Kin, Value.isRef] at k1
  rename_i q
  have e3 : (Term.field t C n d).eval args Z none [] Z = some (.int q) := by rw [fld_at ev]; exact e1
  simp [Cond.value, e3, Term.int_eval] at hh
  rw [e1, hh]
theorem own_isR (hh : (Cond.isRef t).value args Z none Z [] = some true) : ∃ v, t.eval args Z none [] Z = some v ∧ v.isRef = true := by
  simp only [Cond.value, Option.map_eq_some_iff] at hh
  obtain ⟨v, h1, h2⟩ := hh
  exact ⟨v, h1, by cases v <;> simp_all [Value.isRef]⟩
def own_rf (v : Value) : Addr := match v with | .ref a => a | _ => 0
theorem own_yN {v : Value} (e : v = .null) (F : Sta Z h C n d v) : Sta Z h C n d .null := e ▸ F
theorem own_yR {v : Value} (hv : v.isRef = true) (e : ¬ (v = .null)) (F : Sta Z h C n d v) : Sta Z h C n d (.ref (own_rf v)) := by
  cases v <;> simp_all [Value.isRef, own_rf]
theorem own_neI {k q : Int32} (ev : t.eval args Z none [] Z = some (.int q)) (hh : (Cond.not (.eq t (.int k))).value args Z none Z [] = some true) : ¬ (q = k) := by simpa [Cond.value, ev, Term.int_eval] using hh
theorem own_fldR {y : Addr} (ev : t.eval args Z none [] Z = some (.ref x)) (e2 : (Term.field t C n d).eval args Z none [] Z = some (.ref y)) : Fld Z Z.heap x C n d (.ref y) := Fld.start (by rw [← fld_at ev]; exact e2)
theorem own_len {cl : Cell} {ty : FieldType} {k : Int32} (ev : t.eval args Z none [] Z = some (.ref x)) (A : Arr Z Z.heap x cl ty) (hh : (Cond.eq (.length t) (.int k)).value args Z none Z [] = some true) : cl.slots.size < 2 ^ 31 ∧ cl.slots.size.toInt32 = k := by
  obtain ⟨y, w, e1, e2, k1, -⟩ := cmp_v (Or.inl hh)
  cases (Term.int_eval k).symm.trans e2
  have hA := A.fin (Vm.Alike.refl _)
  have hl : cl.slots.size < 2 ^ 31 := by
    rcases Nat.lt_or_ge cl.slots.size (2 ^ 31) with q | q
    · exact q
    · simp [Term.eval, ev, hA, Nat.not_lt.mpr q] at e1
  refine ⟨hl, ?_⟩
  have e3 := len_f ev hA hl
  simp [Cond.value, e3, Term.int_eval] at hh
  exact hh
theorem own_elI {cl : Cell} {ty : FieldType} {i k : Int32} (ev : t.eval args Z none [] Z = some (.ref x)) (A : Arr Z Z.heap x cl ty) (hh : (Cond.eq (.elem t (.int i)) (.int k)).value args Z none Z [] = some true) : cl.slots[i.toNatClampNeg]? = some (.int k) := by
  obtain ⟨y, w, e1, e2, k1, -⟩ := cmp_v (Or.inl hh)
  cases (Term.int_eval k).symm.trans e2
  cases y <;> simp [Kin, Value.isRef] at k1
  rename_i q
  simp [Cond.value, e1, Term.int_eval] at hh
  rw [← hh]; exact (elem_in e1 ev (Term.int_eval i) A.1).2
end OwnFacts
theorem own_u16 (u : UInt16) : (u.toUInt32.toInt32).toInt = u.toNat := by
  have hu := u.toNat_lt
  show ((u.toUInt32).toBitVec).toInt = _
  have hm : (u.toUInt32).toBitVec.toNat = u.toNat := by
    show (u.toUInt32).toNat = _
    simp
  rw [BitVec.toInt_eq_toNat_of_lt (by rw [hm]; omega), hm]
theorem own_i2c {x : Int32} (h0 : ¬ x < (0 : Int32)) (h1 : x < (65536 : Int32)) : x.toUInt32.toUInt16.toUInt32.toInt32 = x := by
  have a0 : ¬ x.toInt < 0 := fun e => h0 (Int32.lt_iff_toInt_lt.mpr e)
  have a1 : x.toInt < 65536 := Int32.lt_iff_toInt_lt.mp h1
  apply Int32.toInt_inj.mp
  rw [own_u16, UInt32.toNat_toUInt16]
  have h2 : x.toUInt32.toNat = x.toInt.toNat := by
    show x.toBitVec.toNat = x.toBitVec.toInt.toNat
    have := x.toBitVec.isLt
    have e : x.toInt = x.toBitVec.toInt := rfl
    rw [e, BitVec.toInt_eq_toNat_bmod] at a0
    rw [BitVec.toInt_eq_toNat_bmod]
    simp only [Int.bmod] at a0 ⊢
    split at a0 <;> split <;> omega
  rw [h2]; omega
theorem own_i2b {x : Int32} (h0 : ¬ x < (0 : Int32)) (h1 : x < (256 : Int32)) : x.toInt8.toInt32.toInt = if x.toInt < 128 then x.toInt else x.toInt - 256 := by
  have a0 : ¬ x.toInt < 0 := fun e => h0 (Int32.lt_iff_toInt_lt.mpr e)
  have a1 : x.toInt < 256 := Int32.lt_iff_toInt_lt.mp h1
  have h : x.toInt8.toInt32.toInt = x.toInt.bmod 256 := by simp
  rw [h]; simp only [Int.bmod]; split <;> split <;> omega
theorem own_i2bs {x : Int32} (h0 : ¬ x < (0 : Int32)) (h1 : x < (128 : Int32)) : x.toInt8.toInt32 = x := by
  have a1 : x.toInt < 128 := Int32.lt_iff_toInt_lt.mp h1
  apply Int32.toInt_inj.mp
  rw [own_i2b h0 (Int32.lt_iff_toInt_lt.mpr (by have e : (256 : Int32).toInt = 256 := (by decide); omega)), if_pos a1]
theorem own_fitB {x : Int32} (h0 : ¬ x < (0 : Int32)) (h1 : x < (128 : Int32)) : fits .byte (.int x) = true := by
  have a0 : ¬ x.toInt < 0 := fun e => h0 (Int32.lt_iff_toInt_lt.mpr e)
  have a1 : x.toInt < 128 := Int32.lt_iff_toInt_lt.mp h1
  have e1 : (-128 : Int32).toInt = -128 := by decide
  have e2 : (127 : Int32).toInt = 127 := by decide
  show (decide ((-128 : Int32) ≤ x) && decide (x ≤ (127 : Int32))) = true
  rw [Bool.and_eq_true]
  exact ⟨decide_eq_true (Int32.le_iff_toInt_le.mpr (by omega)), decide_eq_true (Int32.le_iff_toInt_le.mpr (by omega))⟩
theorem own_fitC {x : Int32} (h0 : ¬ x < (0 : Int32)) (h1 : x < (65536 : Int32)) : fits .char (.int x) = true := by
  have a0 : ¬ x.toInt < 0 := fun e => h0 (Int32.lt_iff_toInt_lt.mpr e)
  have a1 : x.toInt < 65536 := Int32.lt_iff_toInt_lt.mp h1
  have e1 : (0 : Int32).toInt = 0 := by decide
  have e2 : (65535 : Int32).toInt = 65535 := by decide
  show (decide ((0 : Int32) ≤ x) && decide (x ≤ (65535 : Int32))) = true
  rw [Bool.and_eq_true]
  exact ⟨decide_eq_true (Int32.le_iff_toInt_le.mpr (by omega)), decide_eq_true (Int32.le_iff_toInt_le.mpr (by omega))⟩
theorem own_bff : ∀ n : Nat, n < 256 → ((Int32.ofNat n).toInt8.toInt32 &&& (255 : Int32)) = Int32.ofNat n := by decide +kernel
theorem own_i2bff {x : Int32} (h0 : ¬ x < (0 : Int32)) (h1 : x < (256 : Int32)) : x.toInt8.toInt32 &&& (255 : Int32) = x := by
  have a0 : ¬ x.toInt < 0 := fun e => h0 (Int32.lt_iff_toInt_lt.mpr e)
  have a1 : x.toInt < 256 := Int32.lt_iff_toInt_lt.mp h1
  have e : x = Int32.ofNat x.toInt.toNat := by
    apply Int32.toInt_inj.mp
    rw [Int32.toInt_ofNat_of_lt (by omega)]; omega
  rw [e]; exact own_bff _ (by omega)
theorem own_and255 {x : Int32} (h0 : ¬ x < (0 : Int32)) (h1 : x < (128 : Int32)) : x &&& (255 : Int32) = x := by
  have e := own_i2bff h0 (Int32.lt_iff_toInt_lt.mpr (by have a1 : x.toInt < 128 := Int32.lt_iff_toInt_lt.mp h1; have e : (256 : Int32).toInt = 256 := (by decide); omega))
  rw [own_i2bs h0 h1] at e; exact e
/-- of an array of bytes: its length, one of its elements -/
def own_us (s : List Value) (sp nn : Int32) : List Value := (List.range nn.toNatClampNeg).map fun i => s.getD (sp.toNatClampNeg + i) (.int (0 : Int32))
def own_cp (d us : List Value) (dp nn : Int32) : List Value := d.take dp.toNatClampNeg ++ us ++ d.drop (dp.toNatClampNeg + nn.toNatClampNeg)
def own_rep (n : Int32) : List Value := [] ++ List.replicate n.toNatClampNeg (.int (0 : Int32))
def own_Ln (Z : State) (h : Heap) (a : Addr) (n : Int32) : Prop := ∃ cl : Cell, Arr Z h a cl .byte ∧ cl.slots.size = n.toNatClampNeg ∧ ¬ n < 0
def own_El (Z : State) (h : Heap) (a : Addr) (j c : Int32) : Prop := ∃ cl : Cell, Arr Z h a cl .byte ∧ ¬ (j < 0 ∨ cl.slots.size ≤ j.toNatClampNeg) ∧ cl.slots[j.toNatClampNeg]? = some (.int c)
theorem own_lnV {Z : State} {h : Heap} {a : Addr} {k : ClassId} {n : Int32} {vs : List Value} {dv : Value} (F : Arv Z h a k .byte n vs dv) : own_Ln Z h a n := by
  obtain ⟨cl, A, -, S, N, -, -⟩ := F; exact ⟨cl, A, S, N⟩
theorem own_elV {Z : State} {h : Heap} {a : Addr} {k : ClassId} {n j c : Int32} {vs : List Value} {dv : Value} (F : Arv Z h a k .byte n vs dv) (h0 : ¬ j < 0) (h1 : j < n) (e : vs.getD j.toNatClampNeg dv = .int c) : own_El Z h a j c := by
  obtain ⟨cl, A, -, S, N, H, -⟩ := F
  have q := inb_of S ⟨h0, h1⟩
  exact ⟨cl, A, q, Has.at H q e⟩
/-- the cache of Longs: old objects, each with its number -/
def own_LC (Z : State) (h : Heap) (a : Addr) (n : Nat) : Prop := ∃ cl : Cell, Arr Z h a cl (.object "java/lang/Long") ∧ cl.slots.size = (256 : Int32).toNatClampNeg ∧ a < n ∧ ∀ j : Int32, ¬ j < 0 → j < 256 → ∃ b : Addr, cl.slots[j.toNatClampNeg]? = some (.ref b) ∧ b < n ∧ Exa Z h b "java/lang/Long" ∧ Fld Z h b "java/lang/Long" "value" "J" (.long (j - 128).toInt64)
theorem own_LC.keep {Z : State} {h h' : Heap} {a : Addr} {n : Nat} {ws : List Addr} (F : own_LC Z h a n) (K : Keep h h' ws) (q : ∀ x ∈ ws, n ≤ x) : own_LC Z h' a n := by
  obtain ⟨cl, A, S, ha, M⟩ := F
  refine ⟨cl, ⟨K.2.1 a cl A.1 (fun hm => absurd ha (Nat.not_lt.mpr (q a hm))), A.2⟩, S, ha, fun j h0 h1 => ?_⟩
  obtain ⟨b, h2, h3, E, F⟩ := M j h0 h1
  exact ⟨b, h2, h3, E.keep K, F.keep K (fun hm => absurd h3 (Nat.not_lt.mpr (q b hm)))⟩
theorem own_LC.ext {Z : State} {h h' : Heap} {a : Addr} {n : Nat} (F : own_LC Z h a n) (E : Ext h h') : own_LC Z h' a n := F.keep ((Keep.refl h []).ext E) all0
theorem own_LC.start {Z : State} {args : Array Value} {C n d : String} {x : Addr} (ev : (Term.static C n d).eval args Z none [] Z = some (.ref x)) (hA : (Cond.arrayOf (.static C n d) (.object "java/lang/Long")).value args Z none Z [] = some true) (hL : (Cond.eq (.length (.static C n d)) (.int 256)).value args Z none Z [] = some true)
    (hall : (Cond.all (.static C n d) (.and (.exactly (.elem (.static C n d) (.index 0)) "java/lang/Long") (.eq (.field (.elem (.static C n d) (.index 0)) "java/lang/Long" "value" "J") (.op1 .i2l (.sub (.index 0) (.int 128)))))).value args Z none Z [] = some true) : own_LC Z Z.heap x Z.heap.size := by
  obtain ⟨cl, A⟩ := Arr.start ev hA
  have L := own_len ev A hL
  have hsz : cl.slots.size = 256 := by
    have h1 := congrArg Int32.toInt L.2
    have h2 : (cl.slots.size.toInt32).toInt = (cl.slots.size : Int) := by
      have := L.1
      exact Int32.toInt_ofNat_of_lt this
    have h3 : (256 : Int32).toInt = 256 := by decide
    omega
  have hat := A.fin (Vm.Alike.refl _)
  refine ⟨cl, A, by rw [hsz]; decide, (Array.getElem?_eq_some_iff.mp A.1).1, fun j h0 h1 => ?_⟩
  have j0 : 0 ≤ j.toInt := by
    have := fun q => h0 (Int32.lt_iff_toInt_lt.mpr q)
    simp at this; exact this
  have j1 : j.toInt < 256 := by
    have := Int32.lt_iff_toInt_lt.mp h1
    simpa using this
  have hj : j.toNatClampNeg = j.toInt.toNat := rfl
  have hm : j.toNatClampNeg < cl.slots.size := by rw [hsz, hj]; omega
  have hj3 : j.toNatClampNeg.toInt32 = j := by
    apply Int32.toInt_inj.mp
    have q : j.toNatClampNeg < 2 ^ 31 := by rw [hj]; omega
    rw [show j.toNatClampNeg.toInt32 = Int32.ofNat j.toNatClampNeg from rfl, Int32.toInt_ofNat_of_lt q, hj]; omega
  have hx := Cond.all_elim ev hat hall _ hm
  have ev' : (Term.static C n d).eval args Z none [j.toNatClampNeg] Z = some (.ref x) := by simpa only [Term.eval] using ev
  have hi : (Term.index 0).eval args Z none [j.toNatClampNeg] Z = some (.int j) := by simp [Term.eval, hj3]
  simp only [Cond.value] at hx
  split at hx
  · rename_i hex
    split at hex
    · rename_i b c0 eb ec
      have hb := (elem_in eb ev' hi A.1).2
      have E : Exa Z Z.heap b "java/lang/Long" := Exa.start (args := #[.ref b]) (t := .arg 0) rfl (by
        simp only [Cond.value, Term.eval]; simpa [ec] using hex)
      refine ⟨b, hb, ?_, E, ?_⟩
      · obtain ⟨c1, k1, h1, -⟩ := E
        exact (Array.getElem?_eq_some_iff.mp h1).1
      · refine Fld.start ?_
        have e2 : (Term.op1 .i2l (.sub (.index 0) (.int 128))).eval args Z none [j.toNatClampNeg] Z = some (.long (j - 128).toInt64) := by
          simp [Term.eval, hj3, Unary.apply]
        rw [e2, fld_at eb] at hx
        cases hv : Z.fieldOf? b "java/lang/Long" "value" "J" with
        | none => simp [hv] at hx
        | some v => cases v <;> simp [hv] at hx ⊢ ; exact hx
    · simp at hex
    · simp at hex
  · rename_i hne; exact absurd hx (hne)
section OwnLong
open Jvm.Free.XT
variable {x y : Int64}
end OwnLong
abbrev own_R (f c s l : Nat) : Room := { frames := f, cells := c, slots := s, locals := l }
abbrev own_MF (l : Launch) (x : MethodName) (cb : ByteArray) (n : Nat) (ret : Option FieldType) (rm : Room) (A : Array Value) (Z : State) (h0 : Heap) (Q : Option Value → Heap → List Loc → Prop) : Prop := MetFree l x (head1 [Cond.code x cb n ret] rm) (fun a U => a = A ∧ Z.Warmed39 U.vm ∧ U.heap = h0) (fun _ _ _ _ _ => True) (fun _ U o U' => ∃ v L, o = .returned v ∧ Q v U'.heap L ∧ FrameEnd U o U' L rm.cells rm.slots)
theorem own_st {l : Launch} {x : MethodName} {cb : ByteArray} {n : Nat} {ret : Option FieldType} {rm : Room} {A : Array Value} {Z : State} {h0 : Heap} {Q : Option Value → Heap → List Loc → Prop} {L : Array Slot} {own : String} (hp : plainFor x = true) (ho : x.cls = own) (ef : ∀ m, entryFrame m A n = mkF m 0 L [])
    (H : ∀ p e s m below meth c s₁, BodyLoose p l x (head1 [Cond.code x cb n ret] rm) cb n ret e s m A below meth c s₁ → c.maxLocals = n → Z.Warmed39 s.vm → s.heap = h0 → p.tables.exec = Jvm.exec → c.code = cb → s.vm.findClass own = some m.cls → meth.name = x.name → Stand p l e rm s m A below meth c s₁ [] 0 0 → s₁.heap = h0 → own_G p.tables e below (fun f o => f.status = .running ∧ Ended f below o ∧ ∃ v L, o = .returned v ∧ Q v f.heap L ∧ FrameEnd s o f L rm.cells rm.slots) (s₁.setTop (mkF m 0 L []))) : own_MF l x cb n ret rm A Z h0 Q := by
  refine MetFree.of_bodySF hp hisR ?_
  intro p e s m args below meth c s₁ Bd hml hP hK
  obtain ⟨rfl, hZ, hh⟩ := hP
  refine own_pre (ef m) (H p e s m below meth c s₁ Bd hml hZ hh Bd.exec Bd.bytes (ho ▸ findClass_of_methodNamed Bd.named) (name_of_methodNamed Bd.named Bd.method).1 (Stand.of_body Bd) ?_)
  rw [← hh, Bd.state]; rfl
section OwnSteps
variable {p : Program} {l : Launch} {e : Env} {R : Room} {s : State} {m : MethodId} {args : Array Value} {below : List Frame} {meth : Method} {c : Code} {T : State} {locs : List Loc} {cells slots : Nat} {bytes : ByteArray} {pc : Nat} {L : Array Slot} {S : List Value} {t : State}

theorem oiload (X : Stand p l e R s m args below meth c T locs cells slots) (hx : p.tables.exec = Jvm.exec) (hby : c.code = bytes) {k : Nat} {v : Int32} (hd : decode bytes pc = .ok (.iload k, 2)) (hl : L[k]? = some (.val (.int v))) (hr : Steps p.tables e below (T.setTop (mkF m (pc + 2) L (.int v :: S))) t) : Steps p.tables e below (T.setTop (mkF m pc L S)) t := XS.iload X.here hx rfl (hb hby hd) hl hr
theorem oiloadN (X : Stand p l e R s m args below meth c T locs cells slots) (hx : p.tables.exec = Jvm.exec) (hby : c.code = bytes) {k : Fin 4} {v : Int32} (hd : decode bytes pc = .ok (.iload_n k, 1)) (hl : L[k.val]? = some (.val (.int v))) (hr : Steps p.tables e below (T.setTop (mkF m (pc + 1) L (.int v :: S))) t) : Steps p.tables e below (T.setTop (mkF m pc L S)) t := XS.iloadN X.here hx rfl (hb hby hd) hl hr
theorem oaload (X : Stand p l e R s m args below meth c T locs cells slots) (hx : p.tables.exec = Jvm.exec) (hby : c.code = bytes) {k : Nat} {v : Value} (hd : decode bytes pc = .ok (.aload k, 2)) (hl : L[k]? = some (.val v)) (hv : v.isRef = true) (hr : Steps p.tables e below (T.setTop (mkF m (pc + 2) L (v :: S))) t) : Steps p.tables e below (T.setTop (mkF m pc L S)) t := XS.aload X.here hx rfl (hb hby hd) hl hv hr
theorem oaloadN (X : Stand p l e R s m args below meth c T locs cells slots) (hx : p.tables.exec = Jvm.exec) (hby : c.code = bytes) {k : Fin 4} {v : Value} (hd : decode bytes pc = .ok (.aload_n k, 1)) (hl : L[k.val]? = some (.val v)) (hv : v.isRef = true) (hr : Steps p.tables e below (T.setTop (mkF m (pc + 1) L (v :: S))) t) : Steps p.tables e below (T.setTop (mkF m pc L S)) t := XS.aloadN X.here hx rfl (hb hby hd) hl hv hr
theorem oistore (X : Stand p l e R s m args below meth c T locs cells slots) (hx : p.tables.exec = Jvm.exec) (hby : c.code = bytes) {k : Nat} {x : Int32} (hd : decode bytes pc = .ok (.istore k, 2)) (l' : Array Slot) (hl : storeLocals L k (.int x) = some l') (hr : Steps p.tables e below (T.setTop (mkF m (pc + 2) l' S)) t) : Steps p.tables e below (T.setTop (mkF m pc L (.int x :: S))) t := XS.istore X.here hx rfl (hb hby hd) rfl hl hr
theorem oistoreN (X : Stand p l e R s m args below meth c T locs cells slots) (hx : p.tables.exec = Jvm.exec) (hby : c.code = bytes) {k : Fin 4} {x : Int32} (hd : decode bytes pc = .ok (.istore_n k, 1)) (l' : Array Slot) (hl : storeLocals L k.val (.int x) = some l') (hr : Steps p.tables e below (T.setTop (mkF m (pc + 1) l' S)) t) : Steps p.tables e below (T.setTop (mkF m pc L (.int x :: S))) t := XS.istoreN X.here hx rfl (hb hby hd) rfl hl hr
theorem oastore (X : Stand p l e R s m args below meth c T locs cells slots) (hx : p.tables.exec = Jvm.exec) (hby : c.code = bytes) {k : Nat} {x : Value} (hd : decode bytes pc = .ok (.astore k, 2)) (l' : Array Slot) (hv : x.isRef = true) (hl : storeLocals L k x = some l') (hr : Steps p.tables e below (T.setTop (mkF m (pc + 2) l' S)) t) : Steps p.tables e below (T.setTop (mkF m pc L (x :: S))) t := XS.astore X.here hx rfl (hb hby hd) rfl hv hl hr
theorem oastoreN (X : Stand p l e R s m args below meth c T locs cells slots) (hx : p.tables.exec = Jvm.exec) (hby : c.code = bytes) {k : Fin 4} {x : Value} (hd : decode bytes pc = .ok (.astore_n k, 1)) (l' : Array Slot) (hv : x.isRef = true) (hl : storeLocals L k.val x = some l') (hr : Steps p.tables e below (T.setTop (mkF m (pc + 1) l' S)) t) : Steps p.tables e below (T.setTop (mkF m pc L (x :: S))) t := XS.astoreN X.here hx rfl (hb hby hd) rfl hv hl hr
theorem oiconst (X : Stand p l e R s m args below meth c T locs cells slots) (hx : p.tables.exec = Jvm.exec) (hby : c.code = bytes) {i : Int} (hd : decode bytes pc = .ok (.iconst i, 1)) (hr : Steps p.tables e below (T.setTop (mkF m (pc + 1) L (.int (Int32.ofInt i) :: S))) t) : Steps p.tables e below (T.setTop (mkF m pc L S)) t := XS.iconst X.here hx rfl (hb hby hd) hr
theorem obipush (X : Stand p l e R s m args below meth c T locs cells slots) (hx : p.tables.exec = Jvm.exec) (hby : c.code = bytes) {i : Int} (hd : decode bytes pc = .ok (.bipush i, 2)) (hr : Steps p.tables e below (T.setTop (mkF m (pc + 2) L (.int (Int8.ofInt i).toInt32 :: S))) t) : Steps p.tables e below (T.setTop (mkF m pc L S)) t := XS.bipush X.here hx rfl (hb hby hd) hr
theorem osipush (X : Stand p l e R s m args below meth c T locs cells slots) (hx : p.tables.exec = Jvm.exec) (hby : c.code = bytes) {i : Int} (hd : decode bytes pc = .ok (.sipush i, 3)) (hr : Steps p.tables e below (T.setTop (mkF m (pc + 3) L (.int (Int16.ofInt i).toInt32 :: S))) t) : Steps p.tables e below (T.setTop (mkF m pc L S)) t := XS.sipush X.here hx rfl (hb hby hd) hr
theorem onull (X : Stand p l e R s m args below meth c T locs cells slots) (hx : p.tables.exec = Jvm.exec) (hby : c.code = bytes) (hd : decode bytes pc = .ok (.aconst_null, 1)) (hr : Steps p.tables e below (T.setTop (mkF m (pc + 1) L (.null :: S))) t) : Steps p.tables e below (T.setTop (mkF m pc L S)) t := XS.aconstNull X.here hx rfl (hb hby hd) hr
theorem oiadd (X : Stand p l e R s m args below meth c T locs cells slots) (hx : p.tables.exec = Jvm.exec) (hby : c.code = bytes) {x y : Int32} (hd : decode bytes pc = .ok (.iadd, 1)) (hr : Steps p.tables e below (T.setTop (mkF m (pc + 1) L (.int (x + y) :: S))) t) : Steps p.tables e below (T.setTop (mkF m pc L (.int y :: .int x :: S))) t := XS.iadd X.here hx rfl (hb hby hd) rfl hr
theorem oisub (X : Stand p l e R s m args below meth c T locs cells slots) (hx : p.tables.exec = Jvm.exec) (hby : c.code = bytes) {x y : Int32} (hd : decode bytes pc = .ok (.isub, 1)) (hr : Steps p.tables e below (T.setTop (mkF m (pc + 1) L (.int (x - y) :: S))) t) : Steps p.tables e below (T.setTop (mkF m pc L (.int y :: .int x :: S))) t := XS.isub X.here hx rfl (hb hby hd) rfl hr
theorem oiand (X : Stand p l e R s m args below meth c T locs cells slots) (hx : p.tables.exec = Jvm.exec) (hby : c.code = bytes) {x y : Int32} (hd : decode bytes pc = .ok (.iand, 1)) (hr : Steps p.tables e below (T.setTop (mkF m (pc + 1) L (.int (x &&& y) :: S))) t) : Steps p.tables e below (T.setTop (mkF m pc L (.int y :: .int x :: S))) t := XS.iand X.here hx rfl (hb hby hd) rfl hr
theorem oishl (X : Stand p l e R s m args below meth c T locs cells slots) (hx : p.tables.exec = Jvm.exec) (hby : c.code = bytes) {x y : Int32} (hd : decode bytes pc = .ok (.ishl, 1)) (hr : Steps p.tables e below (T.setTop (mkF m (pc + 1) L (.int (x <<< (y &&& 31)) :: S))) t) : Steps p.tables e below (T.setTop (mkF m pc L (.int y :: .int x :: S))) t := XS.ishl X.here hx rfl (hb hby hd) rfl hr
theorem oishr (X : Stand p l e R s m args below meth c T locs cells slots) (hx : p.tables.exec = Jvm.exec) (hby : c.code = bytes) {x y : Int32} (hd : decode bytes pc = .ok (.ishr, 1)) (hr : Steps p.tables e below (T.setTop (mkF m (pc + 1) L (.int (x >>> (y &&& 31)) :: S))) t) : Steps p.tables e below (T.setTop (mkF m pc L (.int y :: .int x :: S))) t := XS.ishr X.here hx rfl (hb hby hd) rfl hr
theorem oiushr (X : Stand p l e R s m args below meth c T locs cells slots) (hx : p.tables.exec = Jvm.exec) (hby : c.code = bytes) {x y : Int32} (hd : decode bytes pc = .ok (.iushr, 1)) (hr : Steps p.tables e below (T.setTop (mkF m (pc + 1) L (.int ((x.toUInt32 >>> (y &&& 31).toUInt32).toInt32) :: S))) t) : Steps p.tables e below (T.setTop (mkF m pc L (.int y :: .int x :: S))) t := XS.iushr X.here hx rfl (hb hby hd) rfl hr
theorem oi2b (X : Stand p l e R s m args below meth c T locs cells slots) (hx : p.tables.exec = Jvm.exec) (hby : c.code = bytes) {x : Int32} (hd : decode bytes pc = .ok (.i2b, 1)) (hr : Steps p.tables e below (T.setTop (mkF m (pc + 1) L ((.int (x.toInt8.toInt32)) :: S))) t) : Steps p.tables e below (T.setTop (mkF m pc L (.int x :: S))) t := XS.i2b X.here hx rfl (hb hby hd) rfl hr
theorem oi2c (X : Stand p l e R s m args below meth c T locs cells slots) (hx : p.tables.exec = Jvm.exec) (hby : c.code = bytes) {x : Int32} (hd : decode bytes pc = .ok (.i2c, 1)) (hr : Steps p.tables e below (T.setTop (mkF m (pc + 1) L ((.int (x.toUInt32.toUInt16.toUInt32.toInt32)) :: S))) t) : Steps p.tables e below (T.setTop (mkF m pc L (.int x :: S))) t := XS.i2c X.here hx rfl (hb hby hd) rfl hr
theorem oirem (X : Stand p l e R s m args below meth c T locs cells slots) (hx : p.tables.exec = Jvm.exec) (hby : c.code = bytes) {x y : Int32} (hd : decode bytes pc = .ok (.irem, 1)) (hy : y ≠ 0) (hr : Steps p.tables e below (T.setTop (mkF m (pc + 1) L (.int (x % y) :: S))) t) : Steps p.tables e below (T.setTop (mkF m pc L (.int y :: .int x :: S))) t := iremM X hx rfl (hb hby hd) rfl hy hr
theorem oiinc (X : Stand p l e R s m args below meth c T locs cells slots) (hx : p.tables.exec = Jvm.exec) (hby : c.code = bytes) {k : Nat} {z : Int} {x : Int32} (hd : decode bytes pc = .ok (.iinc k z, 3)) (l' : Array Slot) (hl : L[k]? = some (.val (.int x))) (hl' : storeLocals L k (.int (x + Int32.ofInt z)) = some l') (hr : Steps p.tables e below (T.setTop (mkF m (pc + 3) l' S)) t) : Steps p.tables e below (T.setTop (mkF m pc L S)) t := XS.iinc X.here hx rfl (hb hby hd) hl hl' hr
theorem odup (X : Stand p l e R s m args below meth c T locs cells slots) (hx : p.tables.exec = Jvm.exec) (hby : c.code = bytes) {x : Value} (hd : decode bytes pc = .ok (.dup, 1)) (hc : x.category = 1) (hr : Steps p.tables e below (T.setTop (mkF m (pc + 1) L (x :: x :: S))) t) : Steps p.tables e below (T.setTop (mkF m pc L (x :: S))) t := XS.dup X.here hx rfl (hb hby hd) rfl hc hr
theorem opop (X : Stand p l e R s m args below meth c T locs cells slots) (hx : p.tables.exec = Jvm.exec) (hby : c.code = bytes) {x : Value} (hd : decode bytes pc = .ok (.pop, 1)) (hc : x.category = 1) (hr : Steps p.tables e below (T.setTop (mkF m (pc + 1) L S)) t) : Steps p.tables e below (T.setTop (mkF m pc L (x :: S))) t := XS.pop X.here hx rfl (hb hby hd) rfl hc hr
theorem ogoto (X : Stand p l e R s m args below meth c T locs cells slots) (hx : p.tables.exec = Jvm.exec) (hby : c.code = bytes) {o : Int} (hd : decode bytes pc = .ok (.goto o, 3)) (pc' : Nat) (hp : 0 ≤ (pc : Int) + o ∧ ((pc : Int) + o).toNat = pc') (hr : Steps p.tables e below (T.setTop (mkF m pc' L S)) t) : Steps p.tables e below (T.setTop (mkF m pc L S)) t := XS.goto X.here hx rfl rfl (hb hby hd) hp.1 hp.2 hr
theorem oifY (X : Stand p l e R s m args below meth c T locs cells slots) (hx : p.tables.exec = Jvm.exec) (hby : c.code = bytes) {cd : ClassFile.Cond} {x : Int32} {o : Int} (hd : decode bytes pc = .ok (.ifCond cd o, 3)) (pc' : Nat) (hc : ifCond.holds cd x = true) (hp : 0 ≤ (pc : Int) + o ∧ ((pc : Int) + o).toNat = pc') (hr : Steps p.tables e below (T.setTop (mkF m pc' L S)) t) : Steps p.tables e below (T.setTop (mkF m pc L (.int x :: S))) t := XS.ifYes X.here hx rfl rfl (hb hby hd) rfl hc hp.1 hp.2 hr
theorem oifN (X : Stand p l e R s m args below meth c T locs cells slots) (hx : p.tables.exec = Jvm.exec) (hby : c.code = bytes) {cd : ClassFile.Cond} {x : Int32} {o : Int} (hd : decode bytes pc = .ok (.ifCond cd o, 3)) (hc : ifCond.holds cd x = false) (hr : Steps p.tables e below (T.setTop (mkF m (pc + 3) L S)) t) : Steps p.tables e below (T.setTop (mkF m pc L (.int x :: S))) t := XS.ifNo X.here hx rfl (hb hby hd) rfl hc hr
theorem oicY (X : Stand p l e R s m args below meth c T locs cells slots) (hx : p.tables.exec = Jvm.exec) (hby : c.code = bytes) {cd : ClassFile.Cond} {x y : Int32} {o : Int} (hd : decode bytes pc = .ok (.if_icmp cd o, 3)) (pc' : Nat) (hc : if_icmp.holds cd x y = true) (hp : 0 ≤ (pc : Int) + o ∧ ((pc : Int) + o).toNat = pc') (hr : Steps p.tables e below (T.setTop (mkF m pc' L S)) t) : Steps p.tables e below (T.setTop (mkF m pc L (.int y :: .int x :: S))) t := XS.icmpYes X.here hx rfl rfl (hb hby hd) rfl hc hp.1 hp.2 hr
theorem oicN (X : Stand p l e R s m args below meth c T locs cells slots) (hx : p.tables.exec = Jvm.exec) (hby : c.code = bytes) {cd : ClassFile.Cond} {x y : Int32} {o : Int} (hd : decode bytes pc = .ok (.if_icmp cd o, 3)) (hc : if_icmp.holds cd x y = false) (hr : Steps p.tables e below (T.setTop (mkF m (pc + 3) L S)) t) : Steps p.tables e below (T.setTop (mkF m pc L (.int y :: .int x :: S))) t := XS.icmpNo X.here hx rfl (hb hby hd) rfl hc hr
theorem oacmp (X : Stand p l e R s m args below meth c T locs cells slots) (hx : p.tables.exec = Jvm.exec) (hby : c.code = bytes) {cd : ACond} {x y : Value} {o : Int} (hd : decode bytes pc = .ok (.if_acmp cd o, 3)) (pc' : Nat) {same : Bool} (h1 : x.isRef = true) (h2 : y.isRef = true) (hq : decide (x = y) = same) (hp : 0 ≤ (pc : Int) + o ∧ pc' = if acV cd same = true then ((pc : Int) + o).toNat else pc + 3) (hr : Steps p.tables e below (T.setTop (mkF m pc' L S)) t) : Steps p.tables e below (T.setTop (mkF m pc L (y :: x :: S))) t := Jvm.RoadKit.acmp X hx rfl h1 h2 rfl (hb hby hd) rfl hq hp.1 hp.2 hr
theorem onnY (X : Stand p l e R s m args below meth c T locs cells slots) (hx : p.tables.exec = Jvm.exec) (hby : c.code = bytes) {o : Int} {a : Addr} (hd : decode bytes pc = .ok (.ifnonnull o, 3)) (pc' : Nat) (hp : 0 ≤ (pc : Int) + o ∧ ((pc : Int) + o).toNat = pc') (hr : Steps p.tables e below (T.setTop (mkF m pc' L S)) t) : Steps p.tables e below (T.setTop (mkF m pc L (.ref a :: S))) t := XS.ifnonnullYes X.here hx rfl rfl (hb hby hd) rfl hp.1 hp.2 hr
end OwnSteps
section OwnCalls
variable {p : Program} {l : Launch} {e : Env} {R : Room} {s : State} {m : MethodId} {args : Array Value} {below : List Frame} {meth : Method} {c : Code} {T : State} {locs : List Loc} {cells slots : Nat} {Z : State} {a0 : Array Value} {h : Heap} {bytes : ByteArray}
theorem ocallS (X : Stand p l e R s m args below meth c T locs cells slots) (hx : p.tables.exec = Jvm.exec) (hZ : Z.Warmed39 s.vm) {cb : ByteArray} {maxL : Nat} {ret : Option FieldType} {rm : Room} {Q : Option Value → Heap → List Loc → Prop} {argsL rest : List Value} {index : Nat} {own : String} (y : MethodName) (hown : s.vm.findClass own = some m.cls) (w1 : (Cond.methodLink own index y).before a0 Z = true) (w2 : (Cond.static y).before a0 Z = true) (hy : y.cls ≠ "java/lang/invoke/MethodHandle" ∧ y.cls ≠ "java/lang/invoke/VarHandle") (w5 : (Cond.code y cb maxL ret).before a0 Z = true) (w6 : (Cond.initialized y.cls).before a0 Z = true) (eT : T.heap = h) (hM : own_MF l y cb maxL ret rm argsL.toArray Z h Q) {st : List Value} (hst : st = argsL.reverse ++ rest) (W : Nat) (hW : (rest.map fun v => v.category).sum = W) (hroom : rm.frames + 1 ≤ R.frames ∧ W + (maxL + 11) + rm.locals ≤ R.locals ∧ cells + rm.cells ≤ R.cells ∧ slots + rm.slots ≤ R.slots) {pc : Nat} {Ls : Array Slot} {nl : Nat} (hml : c.maxLocals = nl) (hsz : Ls.size = nl) (hlen : ∀ sig, parseMethodDescriptor y.desc = some sig → argsL.length = sig.parameters.length) (hd : decode bytes pc = .ok (.invokestatic index, 3)) (hby : c.code = bytes) : ∃ v T' L, Stand p l e R s m args below meth c T' (locs ++ L) (cells + rm.cells) (slots + rm.slots) ∧ Q v T'.heap L ∧ ∀ t, Steps p.tables e below (T'.setTop (mkF m (pc + 3) Ls (v.toList ++ rest))) t → Steps p.tables e below (T.setTop (mkF m pc Ls st)) t := by
  subst hst
  obtain ⟨_, _, ⟨T1, L1, k1, n1⟩, -, X1, ⟨Lc1, hQ1, l1, y1, z1⟩, st1⟩ := Jvm.LawKit.callS X hx hown (mvT hZ w1) (mvT hZ w2) (mvT hZ w6) (mvT hZ w5) hy (backOf (W := W) hM hZ w5 w6 hroom.1 hroom.2.1) (g := mkF m pc Ls (argsL.reverse ++ rest)) rfl (hsz.trans hml.symm) (argsL := argsL) (rest := rest) hlen rfl (by show 2 * 0 + _ ≤ _; rw [Nat.mul_zero, Nat.zero_add]; exact Nat.le_of_eq hW) (hb hby hd) (fun _ _ => ⟨rfl, eT, hroom.2.2.1, hroom.2.2.2⟩)
  dsimp only [Pt.U, Pt.locs, Pt.cells, Pt.slots] at X1 l1 y1 z1 st1 hQ1
  subst l1 y1 z1
  exact ⟨_, _, _, X1, hQ1, st1⟩
theorem ocallI (X : Stand p l e R s m args below meth c T locs cells slots) (hx : p.tables.exec = Jvm.exec) (hZ : Z.Warmed39 s.vm) {cb : ByteArray} {maxL : Nat} {rm : Room} {Q : Option Value → Heap → List Loc → Prop} {argsL rest : List Value} {index : Nat} {own : String} (y : MethodName) (hn : y.name = "<init>") (hown : s.vm.findClass own = some m.cls) (w1 : (Cond.methodLink own index y).before a0 Z = true) (w2 : (Cond.instanceMethod y).before a0 Z = true) (hy : y.cls ≠ "java/lang/invoke/MethodHandle" ∧ y.cls ≠ "java/lang/invoke/VarHandle") (w5 : (Cond.code y cb maxL none).before a0 Z = true) (w6 : (Cond.initialized y.cls).before a0 Z = true) (eT : T.heap = h) {b : Addr} (hM : own_MF l y cb maxL none rm (.ref b :: argsL).toArray Z h Q) {st : List Value} (hst : st = argsL.reverse ++ .ref b :: rest) (W : Nat) (hW : (rest.map fun v => v.category).sum = W) (hroom : rm.frames + 1 ≤ R.frames ∧ W + (maxL + 11) + rm.locals ≤ R.locals ∧ cells + rm.cells ≤ R.cells ∧ slots + rm.slots ≤ R.slots) {pc : Nat} {Ls : Array Slot} {nl : Nat} (hml : c.maxLocals = nl) (hsz : Ls.size = nl) (hlen : ∀ sig, parseMethodDescriptor y.desc = some sig → argsL.length = sig.parameters.length) (hd : decode bytes pc = .ok (.invokespecial index, 3)) (hby : c.code = bytes) : ∃ v T' L, Stand p l e R s m args below meth c T' (locs ++ L) (cells + rm.cells) (slots + rm.slots) ∧ Q v T'.heap L ∧ ∀ t, Steps p.tables e below (T'.setTop (mkF m (pc + 3) Ls (v.toList ++ rest))) t → Steps p.tables e below (T.setTop (mkF m pc Ls st)) t := by
  subst hst
  obtain ⟨_, _, ⟨T1, L1, k1, n1⟩, -, X1, ⟨Lc1, hQ1, l1, y1, z1⟩, st1⟩ := X.specialBack hx hn hown (mvT hZ w1) (mvT hZ w2) (mvT hZ w5) hy (backOf (W := W) hM hZ w5 w6 hroom.1 hroom.2.1) (g := mkF m pc Ls (argsL.reverse ++ .ref b :: rest)) rfl (hsz.trans hml.symm) (Steps.refl _) (a := b) (argsL := argsL) (rest := rest) hlen rfl (by show 2 * 0 + _ ≤ _; rw [Nat.mul_zero, Nat.zero_add]; exact Nat.le_of_eq hW) (hb hby hd) (fun _ _ => ⟨rfl, eT, hroom.2.2.1, hroom.2.2.2⟩)
  dsimp only [Pt.U, Pt.locs, Pt.cells, Pt.slots] at X1 l1 y1 z1 st1 hQ1
  subst l1 y1 z1
  exact ⟨_, _, _, X1, hQ1, fun _ k => st1.trans k⟩
theorem own_backH {EL : List (String × Nat)} {SL : List Addr} {vm0 : Vm} {y : MethodName} {cb : ByteArray} {maxL : Nat} {ret : Option FieldType} {rm : Room} {len W : Nat} {as' : Array Value} {Q : Option Value → Heap → List Loc → Prop} (hM : MetFree l y (head1 [Cond.code y cb maxL ret] rm) (fun a U => a = as' ∧ Z.Warmed39 U.vm ∧ U.heap = h ∧ CHv Z EL U.vm h ∧ ∀ x ∈ SL, Safe Z EL U.vm h x) (fun _ _ _ _ _ => True) (fun _ U o U' => ∃ v L, o = .returned v ∧ Q v U'.heap L ∧ CHr Z EL U.vm U.heap U'.vm U'.heap ∧ ReturnedEndW U o U' L rm.cells rm.slots))
    (hZ : Z.Warmed39 vm0) (wc : (Cond.code y cb maxL ret).before a0 Z = true) (wz : (Cond.initialized y.cls).before a0 Z = true) (hf : rm.frames + 1 ≤ R.frames) (hl : W + (maxL + 11) + rm.locals ≤ R.locals) (hEL : EW Z a0 EL) (H : CHv Z EL vm0 h) (hSL : ∀ x ∈ SL, x < h.size ∧ Safe Z EL vm0 h x) :
    BackS l R p e below (s.setVm vm0) args y len W (fun A a => a = as' ∧ A.U.heap = h ∧ A.cells + rm.cells ≤ R.cells ∧ A.slots + rm.slots ≤ R.slots)
      (fun A _ v B => ∃ L, Q v B.U.heap L ∧ B.locs = A.locs ++ L ∧ B.cells = A.cells + rm.cells ∧ B.slots = A.slots + rm.slots ∧ CHr Z EL vm0 h B.U.vm B.U.heap) :=
  BackS.of_freeW (bytes := cb) (maxL := maxL) (ret := ret) (E := fun _ first o t L k n => k = rm.cells ∧ n = rm.slots ∧ (∃ v, o = .returned v ∧ Q v t.heap L) ∧ CHr Z EL first.vm first.heap t.vm t.heap) hM hf hl
    (fun m meth c A a Y hp => have hU : Z.Warmed39 A.U.vm := wtrans (s := s.setVm vm0) hZ Y.warmed
      ⟨by show (Cond.and _ .tt).before a A.U = true; rw [Cond.before_and, mv hU wc]; rfl, mv hU wc, mv hU wz, hp.2.2.1, hp.2.2.2⟩)
    (fun m meth c A a g mk Y hp => ⟨hp.1, wtrans (s := s.setVm vm0) hZ Y.warmed, hp.2.1, (CHv.at Y hZ hEL H).1, fun x hx => (CHv.at Y hZ hEL H).safe (hSL x hx).1 (hSL x hx).2⟩) (fun _ _ _ _ _ _ _ _ _ => trivial)
    (fun _ _ _ _ ⟨v, L, h1, h2, h3, h4⟩ => ⟨L, _, _, h4, rfl, rfl, ⟨v, h1, h2⟩, h3⟩)
    (fun m meth c A a g mk v t L k n Y hp _ _ ⟨e1, e2, ⟨v', e3, e4⟩, e5⟩ => by
      cases e3; subst e1 e2
      refine ⟨L, e4, rfl, rfl, rfl, (CHv.at Y hZ hEL H).trans ?_⟩
      rw [← hp.2.1]; exact e5)
theorem ocallIH {vm0 : Vm} {k0 : Nat} {EL : List (String × Nat)} {SL : List Addr} (X : Stand p l e R (s.setVm vm0) m args below meth c T locs cells slots) (hx : p.tables.exec = Jvm.exec) (hZ : Z.Warmed39 (s.setVm vm0).vm) {cb : ByteArray} {maxL : Nat} {rm : Room} {Q : Option Value → Heap → List Loc → Prop} {argsL rest : List Value} {index : Nat} {own : String} (y : MethodName) (hn : y.name = "<init>") (hown : (s.setVm vm0).vm.findClass own = some m.cls) (w1 : (Cond.methodLink own index y).before a0 Z = true) (w2 : (Cond.instanceMethod y).before a0 Z = true) (hy : y.cls ≠ "java/lang/invoke/MethodHandle" ∧ y.cls ≠ "java/lang/invoke/VarHandle") (w5 : (Cond.code y cb maxL none).before a0 Z = true) (w6 : (Cond.initialized y.cls).before a0 Z = true) (eT : T.heap = h) {b : Addr} (hM : MetFree l y (head1 [Cond.code y cb maxL none] rm) (fun a U => a = (.ref b :: argsL).toArray ∧ Z.Warmed39 U.vm ∧ U.heap = h ∧ CHv Z EL U.vm h ∧ ∀ x ∈ SL, Safe Z EL U.vm h x) (fun _ _ _ _ _ => True) (fun _ U o U' => ∃ v L, o = .returned v ∧ Q v U'.heap L ∧ CHr Z EL U.vm U.heap U'.vm U'.heap ∧ ReturnedEndW U o U' L rm.cells rm.slots)) {st : List Value} (hst : st = argsL.reverse ++ .ref b :: rest) (W : Nat) (hW : (rest.map fun v => v.category).sum = W) (hroom : rm.frames + 1 ≤ R.frames ∧ W + (maxL + 11) + rm.locals ≤ R.locals ∧ cells + rm.cells ≤ R.cells ∧ slots + rm.slots ≤ R.slots) {pc : Nat} {Ls : Array Slot} {nl : Nat} (hml : c.maxLocals = nl) (hsz : Ls.size = nl) (hlen : ∀ sig, parseMethodDescriptor y.desc = some sig → argsL.length = sig.parameters.length) (hd : decode bytes pc = .ok (.invokespecial index, 3)) (hby : c.code = bytes) (hS : s.Since vm0 k0) (hk : k0 ≤ h.size) (hEL : EW Z a0 EL) (H : CHv Z EL vm0 h) (hSL : ∀ x ∈ SL, x < h.size ∧ Safe Z EL vm0 h x) : ∃ v T' L, Stand p l e R (s.setVm T'.vm) m args below meth c T' (locs ++ L) (cells + rm.cells) (slots + rm.slots) ∧ Q v T'.heap L ∧ s.Since T'.vm T'.heap.size ∧ Z.Warmed39 (s.setVm T'.vm).vm ∧ (s.setVm T'.vm).vm.findClass own = some m.cls ∧ CHr Z EL vm0 h T'.vm T'.heap ∧ ∀ t, Steps p.tables e below (T'.setTop (mkF m (pc + 3) Ls (v.toList ++ rest))) t → Steps p.tables e below (T.setTop (mkF m pc Ls st)) t := by
  subst hst
  obtain ⟨_, _, ⟨T1, L1, k1, n1⟩, -, X1, S1, G1, ⟨Lc1, hQ1, l1, y1, z1, C1⟩, st1⟩ := X.specialBackS hx hn hown (mvT hZ w1) (mvT hZ w2) (mvT hZ w5) hy (own_backH (W := W) hM hZ w5 w6 hroom.1 hroom.2.1 hEL H hSL) (g := mkF m pc Ls (argsL.reverse ++ .ref b :: rest)) rfl (hsz.trans hml.symm) (Steps.refl _) (a := b) (argsL := argsL) (rest := rest) hlen rfl (by show 2 * 0 + _ ≤ _; rw [Nat.mul_zero, Nat.zero_add]; exact Nat.le_of_eq hW) (hb hby hd) (fun _ _ => ⟨rfl, eT, hroom.2.2.1, hroom.2.2.2⟩)
  dsimp only [Pt.U, Pt.locs, Pt.cells, Pt.slots] at X1 S1 G1 l1 y1 z1 st1 hQ1
  subst l1 y1 z1
  obtain ⟨Y1, Y2, Y3, Y4⟩ := rebS (T := T1) hS (by rw [eT]; exact hk) X1 S1 G1 hZ hown
  exact ⟨_, _, _, Y1, hQ1, Y2, Y3, Y4, C1, fun _ k => st1.trans k⟩
theorem ocallVH {vm0 : Vm} {k0 : Nat} {EL : List (String × Nat)} {SL : List Addr} (X : Stand p l e R (s.setVm vm0) m args below meth c T locs cells slots) (hx : p.tables.exec = Jvm.exec) (hZ : Z.Warmed39 (s.setVm vm0).vm) {cb : ByteArray} {maxL : Nat} {ret : Option FieldType} {rm : Room} {Q : Option Value → Heap → List Loc → Prop} {argsL rest : List Value} {index : Nat} {own : String} {C : String} (y z : MethodName) (hown : (s.setVm vm0).vm.findClass own = some m.cls) (w1 : (Cond.methodLink own index y).before a0 Z = true) (w2 : (Cond.declares y).before a0 Z = true) (nf : NotFace (s.setVm vm0) y) (w4 : (Cond.selects C y z).before a0 Z = true) (w3 : (Cond.instanceMethod z).before a0 Z = true) (hy : y.cls ≠ "java/lang/invoke/MethodHandle" ∧ y.cls ≠ "java/lang/invoke/VarHandle") (w5 : (Cond.code z cb maxL ret).before a0 Z = true) (w6 : (Cond.initialized z.cls).before a0 Z = true) (eT : T.heap = h) {b : Addr} (E : Exa Z h b C) (hM : MetFree l z (head1 [Cond.code z cb maxL ret] rm) (fun a U => a = (.ref b :: argsL).toArray ∧ Z.Warmed39 U.vm ∧ U.heap = h ∧ CHv Z EL U.vm h ∧ ∀ x ∈ SL, Safe Z EL U.vm h x) (fun _ _ _ _ _ => True) (fun _ U o U' => ∃ v L, o = .returned v ∧ Q v U'.heap L ∧ CHr Z EL U.vm U.heap U'.vm U'.heap ∧ ReturnedEndW U o U' L rm.cells rm.slots)) {st : List Value} (hst : st = argsL.reverse ++ .ref b :: rest) (W : Nat) (hW : (rest.map fun v => v.category).sum = W) (hroom : rm.frames + 1 ≤ R.frames ∧ W + (maxL + 11) + rm.locals ≤ R.locals ∧ cells + rm.cells ≤ R.cells ∧ slots + rm.slots ≤ R.slots) {pc : Nat} {Ls : Array Slot} {nl : Nat} (hml : c.maxLocals = nl) (hsz : Ls.size = nl) (hlen : ∀ sig, parseMethodDescriptor y.desc = some sig → argsL.length = sig.parameters.length) (hd : decode bytes pc = .ok (.invokevirtual index, 3)) (hby : c.code = bytes) (hS : s.Since vm0 k0) (hk : k0 ≤ h.size) (hEL : EW Z a0 EL) (H : CHv Z EL vm0 h) (hSL : ∀ x ∈ SL, x < h.size ∧ Safe Z EL vm0 h x) : ∃ v T' L, Stand p l e R (s.setVm T'.vm) m args below meth c T' (locs ++ L) (cells + rm.cells) (slots + rm.slots) ∧ Q v T'.heap L ∧ s.Since T'.vm T'.heap.size ∧ Z.Warmed39 (s.setVm T'.vm).vm ∧ (s.setVm T'.vm).vm.findClass own = some m.cls ∧ CHr Z EL vm0 h T'.vm T'.heap ∧ ∀ t, Steps p.tables e below (T'.setTop (mkF m (pc + 3) Ls (v.toList ++ rest))) t → Steps p.tables e below (T.setTop (mkF m pc Ls st)) t := by
  subst hst
  obtain ⟨cq, kq, qa, qb, qc⟩ := isOf hZ eT E
  obtain ⟨_, _, ⟨T1, L1, k1, n1⟩, -, X1, S1, G1, ⟨Lc1, hQ1, l1, y1, z1, C1⟩, st1⟩ := X.virtualBackS hx hown (mvT hZ w1) (mvT hZ w2) nf (mvT hZ w4) (mvT hZ w3) hy (own_backH (W := W) hM hZ w5 w6 hroom.1 hroom.2.1 hEL H hSL) qa qc (g := mkF m pc Ls (argsL.reverse ++ .ref b :: rest)) rfl (hsz.trans hml.symm) (Steps.refl _) (argsL := argsL) (rest := rest) hlen rfl (by show 2 * 0 + _ ≤ _; rw [Nat.mul_zero, Nat.zero_add]; exact Nat.le_of_eq hW) (hb hby hd) (fun _ _ => ⟨rfl, eT, hroom.2.2.1, hroom.2.2.2⟩)
  dsimp only [Pt.U, Pt.locs, Pt.cells, Pt.slots] at X1 S1 G1 l1 y1 z1 st1 hQ1
  subst l1 y1 z1
  obtain ⟨Y1, Y2, Y3, Y4⟩ := rebS (T := T1) hS (by rw [eT]; exact hk) X1 S1 G1 hZ hown
  exact ⟨_, _, _, Y1, hQ1, Y2, Y3, Y4, C1, fun _ k => st1.trans k⟩
theorem ocallV (X : Stand p l e R s m args below meth c T locs cells slots) (hx : p.tables.exec = Jvm.exec) (hZ : Z.Warmed39 s.vm) {cb : ByteArray} {maxL : Nat} {ret : Option FieldType} {rm : Room} {Q : Option Value → Heap → List Loc → Prop} {argsL rest : List Value} {index : Nat} {own : String} {C : String} (y z : MethodName) (hown : s.vm.findClass own = some m.cls) (w1 : (Cond.methodLink own index y).before a0 Z = true) (w2 : (Cond.declares y).before a0 Z = true) (nf : NotFace s y) (w4 : (Cond.selects C y z).before a0 Z = true) (w3 : (Cond.instanceMethod z).before a0 Z = true) (hy : y.cls ≠ "java/lang/invoke/MethodHandle" ∧ y.cls ≠ "java/lang/invoke/VarHandle") (w5 : (Cond.code z cb maxL ret).before a0 Z = true) (w6 : (Cond.initialized z.cls).before a0 Z = true) (eT : T.heap = h) {b : Addr} (E : Exa Z h b C) (hM : own_MF l z cb maxL ret rm (.ref b :: argsL).toArray Z h Q) {st : List Value} (hst : st = argsL.reverse ++ .ref b :: rest) (W : Nat) (hW : (rest.map fun v => v.category).sum = W) (hroom : rm.frames + 1 ≤ R.frames ∧ W + (maxL + 11) + rm.locals ≤ R.locals ∧ cells + rm.cells ≤ R.cells ∧ slots + rm.slots ≤ R.slots) {pc : Nat} {Ls : Array Slot} {nl : Nat} (hml : c.maxLocals = nl) (hsz : Ls.size = nl) (hlen : ∀ sig, parseMethodDescriptor y.desc = some sig → argsL.length = sig.parameters.length) (hd : decode bytes pc = .ok (.invokevirtual index, 3)) (hby : c.code = bytes) : ∃ v T' L, Stand p l e R s m args below meth c T' (locs ++ L) (cells + rm.cells) (slots + rm.slots) ∧ Q v T'.heap L ∧ ∀ t, Steps p.tables e below (T'.setTop (mkF m (pc + 3) Ls (v.toList ++ rest))) t → Steps p.tables e below (T.setTop (mkF m pc Ls st)) t := by
  subst hst
  obtain ⟨cq, kq, qa, qb, qc⟩ := isOf hZ eT E
  obtain ⟨_, _, ⟨T1, L1, k1, n1⟩, -, X1, ⟨Lc1, hQ1, l1, y1, z1⟩, st1⟩ := X.virtualBack hx hown (mvT hZ w1) (mvT hZ w2) nf (mvT hZ w4) (mvT hZ w3) hy (backOf (W := W) hM hZ w5 w6 hroom.1 hroom.2.1) qa qc (g := mkF m pc Ls (argsL.reverse ++ .ref b :: rest)) rfl (hsz.trans hml.symm) (Steps.refl _) (argsL := argsL) (rest := rest) hlen rfl (by show 2 * 0 + _ ≤ _; rw [Nat.mul_zero, Nat.zero_add]; exact Nat.le_of_eq hW) (hb hby hd) (fun _ _ => ⟨rfl, eT, hroom.2.2.1, hroom.2.2.2⟩)
  dsimp only [Pt.U, Pt.locs, Pt.cells, Pt.slots] at X1 l1 y1 z1 st1 hQ1
  subst l1 y1 z1
  exact ⟨_, _, _, X1, hQ1, fun _ k => st1.trans k⟩
theorem ocallP (X : Stand p l e R s m args below meth c T locs cells slots) (hx : p.tables.exec = Jvm.exec) (hZ : Z.Warmed39 s.vm) {cb : ByteArray} {maxL : Nat} {ret : Option FieldType} {rm : Room} {Q : Option Value → Heap → List Loc → Prop} {argsL rest : List Value} {index : Nat} {own : String} (y : MethodName) (hown : s.vm.findClass own = some m.cls) (w1 : (Cond.methodLink own index y).before a0 Z = true) (w2 : (Cond.instanceMethod y).before a0 Z = true) (w4 : (Cond.selects y.cls y y).before args s = true) (w3 : (Cond.privateMethod y).before a0 Z = true) (hy : y.cls ≠ "java/lang/invoke/MethodHandle" ∧ y.cls ≠ "java/lang/invoke/VarHandle") (w5 : (Cond.code y cb maxL ret).before a0 Z = true) (w6 : (Cond.initialized y.cls).before a0 Z = true) (eT : T.heap = h) {C : String} {b : Addr} (E : Exa Z h b C) (hM : own_MF l y cb maxL ret rm (.ref b :: argsL).toArray Z h Q) {st : List Value} (hst : st = argsL.reverse ++ .ref b :: rest) (W : Nat) (hW : (rest.map fun v => v.category).sum = W) (hroom : rm.frames + 1 ≤ R.frames ∧ W + (maxL + 11) + rm.locals ≤ R.locals ∧ cells + rm.cells ≤ R.cells ∧ slots + rm.slots ≤ R.slots) {pc : Nat} {Ls : Array Slot} {nl : Nat} (hml : c.maxLocals = nl) (hsz : Ls.size = nl) (hlen : ∀ sig, parseMethodDescriptor y.desc = some sig → argsL.length = sig.parameters.length) (hd : decode bytes pc = .ok (.invokevirtual index, 3)) (hby : c.code = bytes) : ∃ v T' L, Stand p l e R s m args below meth c T' (locs ++ L) (cells + rm.cells) (slots + rm.slots) ∧ Q v T'.heap L ∧ ∀ t, Steps p.tables e below (T'.setTop (mkF m (pc + 3) Ls (v.toList ++ rest))) t → Steps p.tables e below (T.setTop (mkF m pc Ls st)) t := by
  subst hst
  obtain ⟨cq, q1, q2⟩ := E.cell
  obtain ⟨_, _, ⟨T1, L1, k1, n1⟩, -, X1, ⟨Lc1, hQ1, l1, y1, z1⟩, st1⟩ := X.privateBack hx hown (mvT hZ w1) (mvT hZ w2) w4 (Cond.privateMethod_at (mvP hZ w3 (args := #[]))) (mvT hZ w5) hy (backOf (W := W) hM hZ w5 w6 hroom.1 hroom.2.1) (g := mkF m pc Ls (argsL.reverse ++ .ref b :: rest)) rfl (hsz.trans hml.symm) (Steps.refl _) (a := b) (by rw [eT]; exact q1) q2 (argsL := argsL) (rest := rest) hlen rfl (by show 2 * 0 + _ ≤ _; rw [Nat.mul_zero, Nat.zero_add]; exact Nat.le_of_eq hW) (hb hby hd) (fun _ _ => ⟨rfl, eT, hroom.2.2.1, hroom.2.2.2⟩)
  dsimp only [Pt.U, Pt.locs, Pt.cells, Pt.slots] at X1 l1 y1 z1 st1 hQ1
  subst l1 y1 z1
  exact ⟨_, _, _, X1, hQ1, fun _ k => st1.trans k⟩
theorem ocallX (X : Stand p l e R s m args below meth c T locs cells slots) (hx : p.tables.exec = Jvm.exec) (hZ : Z.Warmed39 s.vm) {cb : ByteArray} {maxL : Nat} {ret : Option FieldType} {rm : Room} {Q : Option Value → Heap → List Loc → Prop} {argsL rest : List Value} {index : Nat} {own : String} (y : MethodName) (hown : s.vm.findClass own = some m.cls) (w1 : (Cond.methodLink own index y).before a0 Z = true) (wd : (Cond.sameMethod y.cls y.cls y.name y.desc).before a0 Z = true) (w2 : (Cond.instanceMethod y).before a0 Z = true) (w4 : (Cond.superclass own y.cls).before a0 Z = true) (hn : y.name ≠ "<init>") (w5 : (Cond.code y cb maxL ret).before a0 Z = true) (w6 : (Cond.initialized y.cls).before a0 Z = true) (eT : T.heap = h) {C : String} {b : Addr} (E : Ins Z h b C true) (hM : own_MF l y cb maxL ret rm (.ref b :: argsL).toArray Z h Q) {st : List Value} (hst : st = argsL.reverse ++ .ref b :: rest) (W : Nat) (hW : (rest.map fun v => v.category).sum = W) (hroom : rm.frames + 1 ≤ R.frames ∧ W + (maxL + 11) + rm.locals ≤ R.locals ∧ cells + rm.cells ≤ R.cells ∧ slots + rm.slots ≤ R.slots) {pc : Nat} {Ls : Array Slot} {nl : Nat} (hml : c.maxLocals = nl) (hsz : Ls.size = nl) (hlen : ∀ sig, parseMethodDescriptor y.desc = some sig → argsL.length = sig.parameters.length) (hd : decode bytes pc = .ok (.invokespecial index, 3)) (hby : c.code = bytes) : ∃ v T' L, Stand p l e R s m args below meth c T' (locs ++ L) (cells + rm.cells) (slots + rm.slots) ∧ Q v T'.heap L ∧ ∀ t, Steps p.tables e below (T'.setTop (mkF m (pc + 3) Ls (v.toList ++ rest))) t → Steps p.tables e below (T.setTop (mkF m pc Ls st)) t := by
  subst hst
  obtain ⟨_, _, ⟨T1, L1, k1, n1⟩, -, X1, ⟨Lc1, hQ1, l1, y1, z1⟩, st1⟩ := Jvm.RoadKit.superBack X hx hZ hown w1 wd w2 w4 hn (backOf (W := W) hM hZ w5 w6 hroom.1 hroom.2.1) eT E (g := mkF m pc Ls (argsL.reverse ++ .ref b :: rest)) rfl (hsz.trans hml.symm) w5 (argsL := argsL) (rest := rest) hlen rfl (by show 2 * 0 + _ ≤ _; rw [Nat.mul_zero, Nat.zero_add]; exact Nat.le_of_eq hW) (hb hby hd) (fun _ _ => ⟨rfl, eT, hroom.2.2.1, hroom.2.2.2⟩)
  dsimp only [Pt.U, Pt.locs, Pt.cells, Pt.slots] at X1 l1 y1 z1 st1 hQ1
  subst l1 y1 z1
  exact ⟨_, _, _, X1, hQ1, fun _ k => st1.trans k⟩
end OwnCalls
end Jvm.RoadKit
namespace Jvm.Pilot.@@N@@
open Jvm Jvm.ClassFile Sem Op Lib Jvm.Free Jvm.Stand Jvm.LawKit Jvm.RoadKit Bundle Jvm.Pilot.@@N@@.Jvm.D
set_option maxRecDepth 65536
set_option maxHeartbeats 40000000
abbrev own_W (Z : State) (a0 : Array Value) : Prop := ∀ d ∈ tables_1, d.before a0 Z = true
theorem ww {Z : State} {a0 : Array Value} (hw : ∀ d ∈ tables_1, d.before a0 Z = true) (i : Nat) {d : Jvm.Cond} (h : tables_1[i]? = some d) : d.before a0 Z = true := hw d (List.mem_of_getElem? h)
theorem own_wS {Z : State} {a0 : Array Value} (hw : ∀ d ∈ tables_1, d.before a0 Z = true) : ∀ a ∈ Bundle.stringAtoms, a.before a0 Z = true := by
  intro a ha
  simp only [Bundle.stringAtoms, List.mem_cons, List.not_mem_nil, or_false] at ha
  rcases ha with rfl | rfl | rfl | rfl | rfl | rfl | rfl
  · exact (ww hw 8 rfl)
  · exact (ww hw 7 rfl)
  · exact (ww hw 24 rfl)
  · exact (ww hw 34 rfl)
  · exact (ww hw 32 rfl)
  · exact (ww hw 36 rfl)
  · exact (ww hw 37 rfl)
set_option maxRecDepth 65536 in
theorem own_EW {Z : State} {a0 : Array Value} (hw : ∀ d ∈ tables_1, d.before a0 Z = true) : EW Z a0 consts_1 := (EW.cons (ww hw 61 rfl) (by decide) (EW.cons (ww hw 105 rfl) (by decide) (EW.cons (ww hw 107 rfl) (by decide) (EW.cons (ww hw 177 rfl) (by decide) (EW.cons (ww hw 35 rfl) (by decide) (EW.cons (ww hw 48 rfl) (by decide) (EW.cons (ww hw 113 rfl) (by decide) (EW.cons (ww hw 241 rfl) (by decide) (EW.cons (ww hw 238 rfl) (by decide) (EW.cons (ww hw 235 rfl) (by decide) EW.nil))))))))))
def QLaw (n0 : Nat) (v : Option Value) (h : Heap) (L : List Loc) : Prop := v = some (.int (1 : Int32)) ∧ Fr n0 L

def own_ok (c : Int32) : Prop := (97 ≤ c.toInt ∧ c.toInt ≤ 122) ∨ (65 ≤ c.toInt ∧ c.toInt ≤ 90) ∨ (48 ≤ c.toInt ∧ c.toInt ≤ 57) ∨ c.toInt = 46 ∨ c.toInt = 45 ∨ c.toInt = 95
def own_dot1 (a : Int32) : Int32 := if a = (46 : Int32) then (1 : Int32) else (0 : Int32)
def own_dot2 (a b : Int32) : Int32 := if a = (46 : Int32) then (if b = (46 : Int32) then (1 : Int32) else (0 : Int32)) else (0 : Int32)
def own_pk (x : Int32) : Int32 := if ((x &&& (2147483647 : Int32)) % (65 : Int32)) < (26 : Int32) then (97 : Int32) + ((x &&& (2147483647 : Int32)) % (65 : Int32)) else if ((x &&& (2147483647 : Int32)) % (65 : Int32)) < (52 : Int32) then (65 : Int32) + (((x &&& (2147483647 : Int32)) % (65 : Int32)) - (26 : Int32)) else if ((x &&& (2147483647 : Int32)) % (65 : Int32)) < (62 : Int32) then (48 : Int32) + (((x &&& (2147483647 : Int32)) % (65 : Int32)) - (52 : Int32)) else if ((x &&& (2147483647 : Int32)) % (65 : Int32)) = (62 : Int32) then (46 : Int32) else if ((x &&& (2147483647 : Int32)) % (65 : Int32)) = (63 : Int32) then (45 : Int32) else (95 : Int32)
theorem own_pk_ok (x : Int32) : own_ok (own_pk x) := by
  have e := (c_irem (x &&& (2147483647 : Int32)) (65 : Int32) 65 (by decide)).1 (c_and x 2147483647 (by decide)).1
  have h0 : 0 ≤ ((x &&& (2147483647 : Int32)) % (65 : Int32)).toInt := by rw [e]; exact Int.emod_nonneg _ (by decide)
  have h1 : ((x &&& (2147483647 : Int32)) % (65 : Int32)).toInt < 65 := by rw [e]; exact Int.emod_lt_of_pos _ (by decide)
  unfold own_pk own_ok
  generalize ((x &&& (2147483647 : Int32)) % (65 : Int32)) = k at *
  have c1 := c_iadd (97 : Int32) k; have c2 := c_isub k (26 : Int32); have c3 := c_iadd (65 : Int32) (k - (26 : Int32)); have c4 := c_isub k (52 : Int32); have c5 := c_iadd (48 : Int32) (k - (52 : Int32))
  have d1 := rng32 ((97 : Int32) + k); have d2 := rng32 (k - (26 : Int32)); have d3 := rng32 ((65 : Int32) + (k - (26 : Int32))); have d4 := rng32 (k - (52 : Int32)); have d5 := rng32 ((48 : Int32) + (k - (52 : Int32)))
  have e1 : (97 : Int32).toInt = 97 := by decide
  have e2 : (26 : Int32).toInt = 26 := by decide
  have e3 : (65 : Int32).toInt = 65 := by decide
  have e4 : (52 : Int32).toInt = 52 := by decide
  have e5 : (48 : Int32).toInt = 48 := by decide
  have e6 : (62 : Int32).toInt = 62 := by decide
  have e7 : (46 : Int32).toInt = 46 := by decide
  have e8 : (45 : Int32).toInt = 45 := by decide
  have e9 : (95 : Int32).toInt = 95 := by decide
  split
  · rename_i q; have q := Int32.lt_iff_toInt_lt.mp q; omega
  · rename_i q; have q : ¬ k.toInt < (26 : Int32).toInt := fun e => q (Int32.lt_iff_toInt_lt.mpr e)
    split
    · rename_i q2; have q2 := Int32.lt_iff_toInt_lt.mp q2; omega
    · rename_i q2; have q2 : ¬ k.toInt < (52 : Int32).toInt := fun e => q2 (Int32.lt_iff_toInt_lt.mpr e)
      split
      · rename_i q3; have q3 := Int32.lt_iff_toInt_lt.mp q3; omega
      · split
        · omega
        · split <;> omega
theorem own_pk_b (x : Int32) : 45 ≤ (own_pk x).toInt ∧ (own_pk x).toInt ≤ 122 := by
  have h := own_pk_ok x; unfold own_ok at h; omega
theorem own_r3 (t : Int32) (h0 : 0 ≤ t.toInt) (h1 : t.toInt < 3) : t = (0 : Int32) ∨ t = (1 : Int32) ∨ t = (2 : Int32) := by
  have h : t.toInt = 0 ∨ t.toInt = 1 ∨ t.toInt = 2 := by omega
  rcases h with h | h | h <;> simp [← Int32.toInt_inj, h]
theorem own_m3_2147483647 (x : Int32) : (x &&& (2147483647 : Int32)) % (3 : Int32) = (0 : Int32) ∨ (x &&& (2147483647 : Int32)) % (3 : Int32) = (1 : Int32) ∨ (x &&& (2147483647 : Int32)) % (3 : Int32) = (2 : Int32) := own_r3 _ (by have h := (c_and x 2147483647 (by decide)).1; have e := (c_irem (x &&& 2147483647) 3 3 (by decide)).1 h; omega) (by have h := (c_and x 2147483647 (by decide)).1; have e := (c_irem (x &&& 2147483647) 3 3 (by decide)).1 h; omega)
abbrev lc0 (x0 x1 x2 x3 x4 x5 : Int32) : Array Slot := #[.val (.int x0), .val (.int x1), .val (.int x2), .val (.int x3), .val (.int x4), .val (.int x5), .unset, .unset, .unset, .unset, .unset, .unset, .unset, .unset, .unset, .unset, .unset, .unset, .unset, .unset]
abbrev lc1 (x0 x1 x2 x3 x4 x5 x6 : Int32) : Array Slot := #[.val (.int x0), .val (.int x1), .val (.int x2), .val (.int x3), .val (.int x4), .val (.int x5), .val (.int x6), .unset, .unset, .unset, .unset, .unset, .unset, .unset, .unset, .unset, .unset, .unset, .unset, .unset]
abbrev c_1 : ByteArray := method_4_code
theorem d1_0 : decode c_1 0 = .ok (.iload_n 0, 1) := by decide +kernel
theorem d1_1 : decode c_1 1 = .ok (.ldc 7, 2) := by decide +kernel
abbrev lc2 (x0 : Int32) : Array Slot := #[.val (.int x0), .unset]
theorem d1_3 : decode c_1 3 = .ok (.iand, 1) := by decide +kernel
theorem d1_4 : decode c_1 4 = .ok (.bipush 65, 2) := by decide +kernel
theorem d1_6 : decode c_1 6 = .ok (.irem, 1) := by decide +kernel
theorem d1_7 : decode c_1 7 = .ok (.istore_n 1, 1) := by decide +kernel
abbrev lc3 (x0 x1 : Int32) : Array Slot := #[.val (.int x0), .val (.int x1)]
theorem d1_8 : decode c_1 8 = .ok (.iload_n 1, 1) := by decide +kernel
theorem d1_9 : decode c_1 9 = .ok (.bipush 26, 2) := by decide +kernel
theorem d1_11 : decode c_1 11 = .ok (.if_icmp .ge 9, 3) := by decide +kernel
theorem d1_14 : decode c_1 14 = .ok (.bipush 97, 2) := by decide +kernel
theorem d1_16 : decode c_1 16 = .ok (.iload_n 1, 1) := by decide +kernel
theorem d1_17 : decode c_1 17 = .ok (.iadd, 1) := by decide +kernel
theorem d1_18 : decode c_1 18 = .ok (.i2c, 1) := by decide +kernel
theorem d1_19 : decode c_1 19 = .ok (.ireturn, 1) := by decide +kernel
theorem d1_20 : decode c_1 20 = .ok (.iload_n 1, 1) := by decide +kernel
theorem d1_21 : decode c_1 21 = .ok (.bipush 52, 2) := by decide +kernel
theorem d1_23 : decode c_1 23 = .ok (.if_icmp .ge 12, 3) := by decide +kernel
theorem d1_26 : decode c_1 26 = .ok (.bipush 65, 2) := by decide +kernel
theorem d1_28 : decode c_1 28 = .ok (.iload_n 1, 1) := by decide +kernel
theorem d1_29 : decode c_1 29 = .ok (.bipush 26, 2) := by decide +kernel
theorem d1_31 : decode c_1 31 = .ok (.isub, 1) := by decide +kernel
theorem d1_32 : decode c_1 32 = .ok (.iadd, 1) := by decide +kernel
theorem d1_33 : decode c_1 33 = .ok (.i2c, 1) := by decide +kernel
theorem d1_34 : decode c_1 34 = .ok (.ireturn, 1) := by decide +kernel
theorem d1_35 : decode c_1 35 = .ok (.iload_n 1, 1) := by decide +kernel
theorem d1_36 : decode c_1 36 = .ok (.bipush 62, 2) := by decide +kernel
theorem d1_38 : decode c_1 38 = .ok (.if_icmp .ge 12, 3) := by decide +kernel
theorem d1_41 : decode c_1 41 = .ok (.bipush 48, 2) := by decide +kernel
theorem d1_43 : decode c_1 43 = .ok (.iload_n 1, 1) := by decide +kernel
theorem d1_44 : decode c_1 44 = .ok (.bipush 52, 2) := by decide +kernel
theorem d1_46 : decode c_1 46 = .ok (.isub, 1) := by decide +kernel
theorem d1_47 : decode c_1 47 = .ok (.iadd, 1) := by decide +kernel
theorem d1_48 : decode c_1 48 = .ok (.i2c, 1) := by decide +kernel
theorem d1_49 : decode c_1 49 = .ok (.ireturn, 1) := by decide +kernel
theorem d1_50 : decode c_1 50 = .ok (.iload_n 1, 1) := by decide +kernel
theorem d1_51 : decode c_1 51 = .ok (.bipush 62, 2) := by decide +kernel
theorem d1_53 : decode c_1 53 = .ok (.if_icmp .ne 6, 3) := by decide +kernel
theorem d1_56 : decode c_1 56 = .ok (.bipush 46, 2) := by decide +kernel
theorem d1_58 : decode c_1 58 = .ok (.ireturn, 1) := by decide +kernel
theorem d1_59 : decode c_1 59 = .ok (.iload_n 1, 1) := by decide +kernel
theorem d1_60 : decode c_1 60 = .ok (.bipush 63, 2) := by decide +kernel
theorem d1_62 : decode c_1 62 = .ok (.if_icmp .ne 6, 3) := by decide +kernel
theorem d1_65 : decode c_1 65 = .ok (.bipush 45, 2) := by decide +kernel
theorem d1_67 : decode c_1 67 = .ok (.ireturn, 1) := by decide +kernel
theorem d1_68 : decode c_1 68 = .ok (.bipush 95, 2) := by decide +kernel
theorem d1_70 : decode c_1 70 = .ok (.ireturn, 1) := by decide +kernel
theorem ef_0 (m : MethodId) (x0 : Int32) : entryFrame m #[(.int x0)] 2 = mkF m 0 #[.val (.int x0), .unset] [] := by first | (simp [entryFrame, mkF, argsToLocals, Value.category, maxLocals]; done) | rfl
theorem pn_0 : plainName "com/example/fair_lock/fairlock/RequestKindDescribePinLaw" = true := by first | (simp [plainName, overriddenIn]; done) | decide +kernel
theorem pd_0 : parseMethodDescriptor "(I)C" = some ⟨[.int], some .char⟩ := by decide +kernel
abbrev lc4 (x0 x1 x2 x3 x4 x5 x6 x7 : Int32) : Array Slot := #[.val (.int x0), .val (.int x1), .val (.int x2), .val (.int x3), .val (.int x4), .val (.int x5), .val (.int x6), .val (.int x7), .unset, .unset, .unset, .unset, .unset, .unset, .unset, .unset, .unset, .unset, .unset, .unset]
abbrev lc5 (x0 x1 x2 x3 x4 x5 x6 x7 x8 : Int32) : Array Slot := #[.val (.int x0), .val (.int x1), .val (.int x2), .val (.int x3), .val (.int x4), .val (.int x5), .val (.int x6), .val (.int x7), .val (.int x8), .unset, .unset, .unset, .unset, .unset, .unset, .unset, .unset, .unset, .unset, .unset]
abbrev lc6 (x0 x1 x2 x3 x4 x5 x6 x7 x8 x9 : Int32) : Array Slot := #[.val (.int x0), .val (.int x1), .val (.int x2), .val (.int x3), .val (.int x4), .val (.int x5), .val (.int x6), .val (.int x7), .val (.int x8), .val (.int x9), .unset, .unset, .unset, .unset, .unset, .unset, .unset, .unset, .unset, .unset]
abbrev lc7 (x0 x1 x2 x3 x4 x5 x6 x7 x8 x9 : Int32) (x10 : Addr) : Array Slot := #[.val (.int x0), .val (.int x1), .val (.int x2), .val (.int x3), .val (.int x4), .val (.int x5), .val (.int x6), .val (.int x7), .val (.int x8), .val (.int x9), .val (.ref x10), .unset, .unset, .unset, .unset, .unset, .unset, .unset, .unset, .unset]
abbrev c_2 : ByteArray := jdk_42_method_3_code
theorem d2_0 : decode c_2 0 = .ok (.aload_n 0, 1) := by decide +kernel
theorem d2_1 : decode c_2 1 = .ok (.aload_n 1, 1) := by decide +kernel
theorem d2_2 : decode c_2 2 = .ok (.iconst 0, 1) := by decide +kernel
theorem d2_3 : decode c_2 3 = .ok (.aload_n 1, 1) := by decide +kernel
theorem d2_4 : decode c_2 4 = .ok (.arraylength, 1) := by decide +kernel
abbrev lc8 (x0 x1 : Addr) : Array Slot := #[.val (.ref x0), .val (.ref x1)]
theorem d2_5 : decode c_2 5 = .ok (.aconst_null, 1) := by decide +kernel
theorem d2_6 : decode c_2 6 = .ok (.invokespecial 27, 3) := by decide +kernel
abbrev c_3 : ByteArray := jdk_42_method_149_code
theorem d3_0 : decode c_3 0 = .ok (.aload_n 0, 1) := by decide +kernel
theorem d3_1 : decode c_3 1 = .ok (.invokespecial 1, 3) := by decide +kernel
abbrev lc9 (x0 x1 : Addr) (x2 x3 : Int32) : Array Slot := #[.val (.ref x0), .val (.ref x1), .val (.int x2), .val (.int x3), .val .null, .unset]
theorem d3_4 : decode c_3 4 = .ok (.iload_n 3, 1) := by decide +kernel
theorem d3_5 : decode c_3 5 = .ok (.ifCond .ne 22, 3) := by decide +kernel
theorem d3_27 : decode c_3 27 = .ok (.getstatic 38, 3) := by decide +kernel
theorem d3_30 : decode c_3 30 = .ok (.ifCond .eq 28, 3) := by decide +kernel
theorem d3_33 : decode c_3 33 = .ok (.aload_n 1, 1) := by decide +kernel
theorem d3_34 : decode c_3 34 = .ok (.iload_n 2, 1) := by decide +kernel
theorem d3_35 : decode c_3 35 = .ok (.iload_n 3, 1) := by decide +kernel
theorem d3_36 : decode c_3 36 = .ok (.invokestatic 177, 3) := by decide +kernel
abbrev c_5 : ByteArray := jdk_52_method_16_code
theorem d5_0 : decode c_5 0 = .ok (.iload_n 2, 1) := by decide +kernel
theorem d5_1 : decode c_5 1 = .ok (.newarray .byte, 2) := by decide +kernel
abbrev lc10 (x0 : Addr) (x1 x2 : Int32) : Array Slot := #[.val (.ref x0), .val (.int x1), .val (.int x2), .unset, .unset, .unset]
theorem d5_3 : decode c_5 3 = .ok (.astore_n 3, 1) := by decide +kernel
abbrev lc11 (x0 : Addr) (x1 x2 : Int32) (x3 : Addr) : Array Slot := #[.val (.ref x0), .val (.int x1), .val (.int x2), .val (.ref x3), .unset, .unset]
theorem d5_4 : decode c_5 4 = .ok (.aload_n 0, 1) := by decide +kernel
theorem d5_5 : decode c_5 5 = .ok (.iload_n 1, 1) := by decide +kernel
theorem d5_6 : decode c_5 6 = .ok (.aload_n 3, 1) := by decide +kernel
theorem d5_7 : decode c_5 7 = .ok (.iconst 0, 1) := by decide +kernel
theorem d5_8 : decode c_5 8 = .ok (.iload_n 2, 1) := by decide +kernel
theorem d5_9 : decode c_5 9 = .ok (.invokestatic 115, 3) := by decide +kernel
abbrev c_6 : ByteArray := jdk_52_method_21_code
theorem d6_0 : decode c_6 0 = .ok (.iconst 0, 1) := by decide +kernel
theorem d6_1 : decode c_6 1 = .ok (.istore 5, 2) := by decide +kernel
abbrev lc12 (x0 : Addr) (x1 : Int32) (x2 : Addr) (x3 x4 x5 : Int32) : Array Slot := #[.val (.ref x0), .val (.int x1), .val (.ref x2), .val (.int x3), .val (.int x4), .val (.int x5), .unset]
theorem d6_3 : decode c_6 3 = .ok (.iload 5, 2) := by decide +kernel
theorem d6_5 : decode c_6 5 = .ok (.iload 4, 2) := by decide +kernel
theorem d6_7 : decode c_6 7 = .ok (.if_icmp .ge 37, 3) := by decide +kernel
theorem d6_10 : decode c_6 10 = .ok (.aload_n 0, 1) := by decide +kernel
theorem d6_11 : decode c_6 11 = .ok (.iload_n 1, 1) := by decide +kernel
theorem d6_12 : decode c_6 12 = .ok (.caload, 1) := by decide +kernel
theorem d6_13 : decode c_6 13 = .ok (.istore 6, 2) := by decide +kernel
abbrev lc13 (x0 : Addr) (x1 : Int32) (x2 : Addr) (x3 x4 x5 x6 : Int32) : Array Slot := #[.val (.ref x0), .val (.int x1), .val (.ref x2), .val (.int x3), .val (.int x4), .val (.int x5), .val (.int x6)]
theorem d6_15 : decode c_6 15 = .ok (.iload 6, 2) := by decide +kernel
theorem d6_17 : decode c_6 17 = .ok (.sipush 255, 3) := by decide +kernel
theorem d6_20 : decode c_6 20 = .ok (.if_icmp .le 6, 3) := by decide +kernel
theorem d6_26 : decode c_6 26 = .ok (.aload_n 2, 1) := by decide +kernel
theorem d6_27 : decode c_6 27 = .ok (.iload_n 3, 1) := by decide +kernel
theorem d6_28 : decode c_6 28 = .ok (.iload 6, 2) := by decide +kernel
theorem d6_30 : decode c_6 30 = .ok (.i2b, 1) := by decide +kernel
theorem d6_31 : decode c_6 31 = .ok (.bastore, 1) := by decide +kernel
theorem d6_32 : decode c_6 32 = .ok (.iinc 1 1, 3) := by decide +kernel
theorem d6_35 : decode c_6 35 = .ok (.iinc 3 1, 3) := by decide +kernel
theorem d6_38 : decode c_6 38 = .ok (.iinc 5 1, 3) := by decide +kernel
theorem d6_41 : decode c_6 41 = .ok (.goto (-38), 3) := by decide +kernel
theorem d6_44 : decode c_6 44 = .ok (.iload 4, 2) := by decide +kernel
theorem d6_46 : decode c_6 46 = .ok (.ireturn, 1) := by decide +kernel
theorem ef_1 (m : MethodId) (x0 : Addr) (x1 : Int32) (x2 : Addr) (x3 x4 : Int32) : entryFrame m #[(.ref x0), (.int x1), (.ref x2), (.int x3), (.int x4)] 7 = mkF m 0 #[.val (.ref x0), .val (.int x1), .val (.ref x2), .val (.int x3), .val (.int x4), .unset, .unset] [] := by first | (simp [entryFrame, mkF, argsToLocals, Value.category, maxLocals]; done) | rfl
theorem pn_1 : plainName "java/lang/StringUTF16" = true := by first | (simp [plainName, overriddenIn]; done) | decide +kernel
abbrev lc14 (x0 : Addr) (x1 : Int32) (x2 : Addr) (x3 x4 : Int32) : Array Slot := #[.val (.ref x0), .val (.int x1), .val (.ref x2), .val (.int x3), .val (.int x4), .unset, .unset]
theorem pd_1 : parseMethodDescriptor "([CI[BII)I" = some ⟨[(.array .char), .int, (.array .byte), .int, .int], some .int⟩ := by decide +kernel
theorem d5_12 : decode c_5 12 = .ok (.istore 4, 2) := by decide +kernel
abbrev lc15 (x0 : Addr) (x1 x2 : Int32) (x3 : Addr) (x4 : Int32) : Array Slot := #[.val (.ref x0), .val (.int x1), .val (.int x2), .val (.ref x3), .val (.int x4), .unset]
theorem d5_14 : decode c_5 14 = .ok (.iload 4, 2) := by decide +kernel
theorem d5_16 : decode c_5 16 = .ok (.iload_n 2, 1) := by decide +kernel
theorem d5_17 : decode c_5 17 = .ok (.if_icmp .eq 40, 3) := by decide +kernel
theorem d5_57 : decode c_5 57 = .ok (.aload_n 3, 1) := by decide +kernel
theorem d5_58 : decode c_5 58 = .ok (.areturn, 1) := by decide +kernel
theorem ef_2 (m : MethodId) (x0 : Addr) (x1 x2 : Int32) : entryFrame m #[(.ref x0), (.int x1), (.int x2)] 6 = mkF m 0 #[.val (.ref x0), .val (.int x1), .val (.int x2), .unset, .unset, .unset] [] := by first | (simp [entryFrame, mkF, argsToLocals, Value.category, maxLocals]; done) | rfl
theorem pd_2 : parseMethodDescriptor "([CII)[B" = some ⟨[(.array .char), .int, .int], some (.array .byte)⟩ := by decide +kernel
theorem d3_39 : decode c_3 39 = .ok (.astore 5, 2) := by decide +kernel
abbrev lc16 (x0 x1 : Addr) (x2 x3 : Int32) (x4 : Addr) : Array Slot := #[.val (.ref x0), .val (.ref x1), .val (.int x2), .val (.int x3), .val .null, .val (.ref x4)]
theorem d3_41 : decode c_3 41 = .ok (.aload_n 0, 1) := by decide +kernel
theorem d3_42 : decode c_3 42 = .ok (.aload 5, 2) := by decide +kernel
theorem d3_44 : decode c_3 44 = .ok (.iload_n 3, 1) := by decide +kernel
theorem d3_45 : decode c_3 45 = .ok (.invokestatic 47, 3) := by decide +kernel
abbrev c_7 : ByteArray := jdk_52_method_15_code
theorem d7_0 : decode c_7 0 = .ok (.iload_n 1, 1) := by decide +kernel
theorem d7_1 : decode c_7 1 = .ok (.aload_n 0, 1) := by decide +kernel
theorem d7_2 : decode c_7 2 = .ok (.arraylength, 1) := by decide +kernel
abbrev lc17 (x0 : Addr) (x1 : Int32) : Array Slot := #[.val (.ref x0), .val (.int x1)]
theorem d7_3 : decode c_7 3 = .ok (.isub, 1) := by decide +kernel
theorem d7_4 : decode c_7 4 = .ok (.bipush 31, 2) := by decide +kernel
theorem d7_6 : decode c_7 6 = .ok (.iushr, 1) := by decide +kernel
theorem d7_7 : decode c_7 7 = .ok (.i2b, 1) := by decide +kernel
theorem d7_8 : decode c_7 8 = .ok (.ireturn, 1) := by decide +kernel
theorem ef_3 (m : MethodId) (x0 : Addr) (x1 : Int32) : entryFrame m #[(.ref x0), (.int x1)] 2 = mkF m 0 #[.val (.ref x0), .val (.int x1)] [] := by first | (simp [entryFrame, mkF, argsToLocals, Value.category, maxLocals]; done) | rfl
theorem pd_3 : parseMethodDescriptor "([BI)B" = some ⟨[(.array .byte), .int], some .byte⟩ := by decide +kernel
theorem d3_48 : decode c_3 48 = .ok (.putfield 15, 3) := by decide +kernel
theorem d3_51 : decode c_3 51 = .ok (.aload_n 0, 1) := by decide +kernel
theorem d3_52 : decode c_3 52 = .ok (.aload 5, 2) := by decide +kernel
theorem d3_54 : decode c_3 54 = .ok (.putfield 9, 3) := by decide +kernel
theorem d3_57 : decode c_3 57 = .ok (.return_, 1) := by decide +kernel
theorem ef_4 (m : MethodId) (x0 x1 : Addr) (x2 x3 : Int32) : entryFrame m #[(.ref x0), (.ref x1), (.int x2), (.int x3), .null] 6 = mkF m 0 #[.val (.ref x0), .val (.ref x1), .val (.int x2), .val (.int x3), .val .null, .unset] [] := by first | (simp [entryFrame, mkF, argsToLocals, Value.category, maxLocals]; done) | rfl
theorem pn_2 : plainName "java/lang/String" = true := by first | (simp [plainName, overriddenIn]; done) | decide +kernel
theorem pd_4 : parseMethodDescriptor "([CIILjava/lang/Void;)V" = some ⟨[(.array .char), .int, .int, (.object "java/lang/Void")], none⟩ := by decide +kernel
theorem d2_9 : decode c_2 9 = .ok (.return_, 1) := by decide +kernel
theorem ef_5 (m : MethodId) (x0 x1 : Addr) : entryFrame m #[(.ref x0), (.ref x1)] 2 = mkF m 0 #[.val (.ref x0), .val (.ref x1)] [] := by first | (simp [entryFrame, mkF, argsToLocals, Value.category, maxLocals]; done) | rfl
theorem pd_5 : parseMethodDescriptor "([C)V" = some ⟨[(.array .char)], none⟩ := by decide +kernel
abbrev lc18 (x0 x1 x2 x3 x4 x5 x6 x7 x8 x9 : Int32) (x10 x11 : Addr) : Array Slot := #[.val (.int x0), .val (.int x1), .val (.int x2), .val (.int x3), .val (.int x4), .val (.int x5), .val (.int x6), .val (.int x7), .val (.int x8), .val (.int x9), .val (.ref x10), .val (.ref x11), .unset, .unset, .unset, .unset, .unset, .unset, .unset, .unset]
abbrev c_8 : ByteArray := jdk_42_method_66_code
theorem d8_0 : decode c_8 0 = .ok (.aload_n 0, 1) := by decide +kernel
theorem d8_1 : decode c_8 1 = .ok (.aload_n 1, 1) := by decide +kernel
theorem d8_2 : decode c_8 2 = .ok (.if_acmp .ne 5, 3) := by decide +kernel
theorem d8_7 : decode c_8 7 = .ok (.aload_n 1, 1) := by decide +kernel
theorem d8_8 : decode c_8 8 = .ok (.instanceof 10, 3) := by decide +kernel
abbrev lc19 (x0 x1 : Addr) : Array Slot := #[.val (.ref x0), .val (.ref x1), .unset]
theorem d8_11 : decode c_8 11 = .ok (.ifCond .eq 43, 3) := by decide +kernel
theorem d8_14 : decode c_8 14 = .ok (.aload_n 1, 1) := by decide +kernel
theorem d8_15 : decode c_8 15 = .ok (.checkcast 10, 3) := by decide +kernel
theorem d8_18 : decode c_8 18 = .ok (.astore_n 2, 1) := by decide +kernel
abbrev lc20 (x0 x1 x2 : Addr) : Array Slot := #[.val (.ref x0), .val (.ref x1), .val (.ref x2)]
theorem d8_19 : decode c_8 19 = .ok (.getstatic 38, 3) := by decide +kernel
theorem d8_22 : decode c_8 22 = .ok (.ifCond .eq 14, 3) := by decide +kernel
theorem d8_25 : decode c_8 25 = .ok (.aload_n 0, 1) := by decide +kernel
theorem d8_26 : decode c_8 26 = .ok (.getfield 15, 3) := by decide +kernel
theorem d8_29 : decode c_8 29 = .ok (.aload_n 2, 1) := by decide +kernel
theorem d8_30 : decode c_8 30 = .ok (.getfield 15, 3) := by decide +kernel
theorem d8_33 : decode c_8 33 = .ok (.if_icmp .ne 21, 3) := by decide +kernel
theorem d8_36 : decode c_8 36 = .ok (.aload_n 0, 1) := by decide +kernel
theorem d8_37 : decode c_8 37 = .ok (.getfield 9, 3) := by decide +kernel
theorem d8_40 : decode c_8 40 = .ok (.aload_n 2, 1) := by decide +kernel
theorem d8_41 : decode c_8 41 = .ok (.getfield 9, 3) := by decide +kernel
theorem d8_44 : decode c_8 44 = .ok (.invokestatic 541, 3) := by decide +kernel
abbrev c_9 : ByteArray := jdk_43_method_13_code
theorem d9_0 : decode c_9 0 = .ok (.aload_n 0, 1) := by decide +kernel
theorem d9_1 : decode c_9 1 = .ok (.arraylength, 1) := by decide +kernel
theorem d9_2 : decode c_9 2 = .ok (.aload_n 1, 1) := by decide +kernel
theorem d9_3 : decode c_9 3 = .ok (.arraylength, 1) := by decide +kernel
theorem d9_4 : decode c_9 4 = .ok (.if_icmp .ne 30, 3) := by decide +kernel
theorem d9_7 : decode c_9 7 = .ok (.iconst 0, 1) := by decide +kernel
theorem d9_8 : decode c_9 8 = .ok (.istore_n 2, 1) := by decide +kernel
abbrev lc21 (x0 x1 : Addr) (x2 : Int32) : Array Slot := #[.val (.ref x0), .val (.ref x1), .val (.int x2)]
theorem d9_9 : decode c_9 9 = .ok (.iload_n 2, 1) := by decide +kernel
theorem d9_10 : decode c_9 10 = .ok (.aload_n 0, 1) := by decide +kernel
theorem d9_11 : decode c_9 11 = .ok (.arraylength, 1) := by decide +kernel
theorem d9_12 : decode c_9 12 = .ok (.if_icmp .ge 20, 3) := by decide +kernel
theorem d9_15 : decode c_9 15 = .ok (.aload_n 0, 1) := by decide +kernel
theorem d9_16 : decode c_9 16 = .ok (.iload_n 2, 1) := by decide +kernel
theorem d9_17 : decode c_9 17 = .ok (.baload, 1) := by decide +kernel
theorem d9_18 : decode c_9 18 = .ok (.aload_n 1, 1) := by decide +kernel
theorem d9_19 : decode c_9 19 = .ok (.iload_n 2, 1) := by decide +kernel
theorem d9_20 : decode c_9 20 = .ok (.baload, 1) := by decide +kernel
theorem d9_21 : decode c_9 21 = .ok (.if_icmp .eq 5, 3) := by decide +kernel
theorem d9_26 : decode c_9 26 = .ok (.iinc 2 1, 3) := by decide +kernel
theorem d9_29 : decode c_9 29 = .ok (.goto (-20), 3) := by decide +kernel
theorem d9_32 : decode c_9 32 = .ok (.iconst 1, 1) := by decide +kernel
theorem d9_33 : decode c_9 33 = .ok (.ireturn, 1) := by decide +kernel
theorem ef_6 (m : MethodId) (x0 x1 : Addr) : entryFrame m #[(.ref x0), (.ref x1)] 3 = mkF m 0 #[.val (.ref x0), .val (.ref x1), .unset] [] := by first | (simp [entryFrame, mkF, argsToLocals, Value.category, maxLocals]; done) | rfl
theorem pn_3 : plainName "java/lang/StringLatin1" = true := by first | (simp [plainName, overriddenIn]; done) | decide +kernel
theorem pd_6 : parseMethodDescriptor "([B[B)Z" = some ⟨[(.array .byte), (.array .byte)], some .boolean⟩ := by decide +kernel
theorem d8_47 : decode c_8 47 = .ok (.ifCond .eq 7, 3) := by decide +kernel
theorem d8_50 : decode c_8 50 = .ok (.iconst 1, 1) := by decide +kernel
theorem d8_51 : decode c_8 51 = .ok (.goto 4, 3) := by decide +kernel
theorem d8_55 : decode c_8 55 = .ok (.ireturn, 1) := by decide +kernel
theorem d9_24 : decode c_9 24 = .ok (.iconst 0, 1) := by decide +kernel
theorem d9_25 : decode c_9 25 = .ok (.ireturn, 1) := by decide +kernel
theorem d8_54 : decode c_8 54 = .ok (.iconst 0, 1) := by decide +kernel
theorem pd_7 : parseMethodDescriptor "(Ljava/lang/Object;)Z" = some ⟨[(.object "java/lang/Object")], some .boolean⟩ := by decide +kernel
theorem d9_34 : decode c_9 34 = .ok (.iconst 0, 1) := by decide +kernel
theorem d9_35 : decode c_9 35 = .ok (.ireturn, 1) := by decide +kernel
abbrev c_10 : ByteArray := prog_5_method_1_code
theorem d10_0 : decode c_10 0 = .ok (.aload_n 0, 1) := by decide +kernel
theorem d10_1 : decode c_10 1 = .ok (.invokespecial 1, 3) := by decide +kernel
abbrev lc22 (x0 x1 : Addr) : Array Slot := #[.val (.ref x0), .val (.ref x1), .unset, .unset]
abbrev c_11 : ByteArray := jdk_30_method_1_code
theorem d11_0 : decode c_11 0 = .ok (.aload_n 0, 1) := by decide +kernel
theorem d11_1 : decode c_11 1 = .ok (.invokespecial 1, 3) := by decide +kernel
abbrev lc23 (x0 : Addr) : Array Slot := #[.val (.ref x0)]
theorem d11_4 : decode c_11 4 = .ok (.return_, 1) := by decide +kernel
theorem ef_7 (m : MethodId) (x0 : Addr) : entryFrame m #[(.ref x0)] 1 = mkF m 0 #[.val (.ref x0)] [] := by first | (simp [entryFrame, mkF, argsToLocals, Value.category, maxLocals]; done) | rfl
theorem pn_4 : plainName "java/lang/Record" = true := by first | (simp [plainName, overriddenIn]; done) | decide +kernel
theorem pd_8 : parseMethodDescriptor "()V" = some ⟨[], none⟩ := by decide +kernel
theorem d10_4 : decode c_10 4 = .ok (.aload_n 1, 1) := by decide +kernel
theorem d10_5 : decode c_10 5 = .ok (.ldc 7, 2) := by decide +kernel
theorem d10_7 : decode c_10 7 = .ok (.invokestatic 9, 3) := by decide +kernel
abbrev c_12 : ByteArray := jdk_31_method_11_code
theorem d12_0 : decode c_12 0 = .ok (.aload_n 0, 1) := by decide +kernel
theorem d12_1 : decode c_12 1 = .ok (.ifnonnull 12, 3) := by decide +kernel
theorem d12_13 : decode c_12 13 = .ok (.aload_n 0, 1) := by decide +kernel
theorem d12_14 : decode c_12 14 = .ok (.areturn, 1) := by decide +kernel
theorem pn_5 : plainName "java/util/Objects" = true := by first | (simp [plainName, overriddenIn]; done) | decide +kernel
theorem pd_9 : parseMethodDescriptor "(Ljava/lang/Object;Ljava/lang/String;)Ljava/lang/Object;" = some ⟨[(.object "java/lang/Object"), (.object "java/lang/String")], some (.object "java/lang/Object")⟩ := by decide +kernel
theorem d10_10 : decode c_10 10 = .ok (.pop, 1) := by decide +kernel
theorem d10_11 : decode c_10 11 = .ok (.aload_n 1, 1) := by decide +kernel
theorem d10_12 : decode c_10 12 = .ok (.invokevirtual 15, 3) := by decide +kernel
abbrev c_13 : ByteArray := jdk_42_method_55_code
theorem d13_0 : decode c_13 0 = .ok (.aload_n 0, 1) := by decide +kernel
theorem d13_1 : decode c_13 1 = .ok (.getfield 9, 3) := by decide +kernel
theorem d13_4 : decode c_13 4 = .ok (.arraylength, 1) := by decide +kernel
theorem d13_5 : decode c_13 5 = .ok (.ifCond .ne 7, 3) := by decide +kernel
theorem d13_12 : decode c_13 12 = .ok (.iconst 0, 1) := by decide +kernel
theorem d13_13 : decode c_13 13 = .ok (.ireturn, 1) := by decide +kernel
theorem pd_10 : parseMethodDescriptor "()Z" = some ⟨[], some .boolean⟩ := by decide +kernel
theorem d10_15 : decode c_10 15 = .ok (.ifCond .ne 13, 3) := by decide +kernel
theorem d10_18 : decode c_10 18 = .ok (.aload_n 1, 1) := by decide +kernel
theorem d10_19 : decode c_10 19 = .ok (.invokevirtual 21, 3) := by decide +kernel
abbrev c_14 : ByteArray := jdk_42_method_54_code
theorem d14_0 : decode c_14 0 = .ok (.aload_n 0, 1) := by decide +kernel
theorem d14_1 : decode c_14 1 = .ok (.getfield 9, 3) := by decide +kernel
theorem d14_4 : decode c_14 4 = .ok (.arraylength, 1) := by decide +kernel
theorem d14_5 : decode c_14 5 = .ok (.aload_n 0, 1) := by decide +kernel
theorem d14_6 : decode c_14 6 = .ok (.invokevirtual 335, 3) := by decide +kernel
abbrev c_15 : ByteArray := jdk_42_method_152_code
theorem d15_0 : decode c_15 0 = .ok (.getstatic 38, 3) := by decide +kernel
theorem d15_3 : decode c_15 3 = .ok (.ifCond .eq 10, 3) := by decide +kernel
theorem d15_6 : decode c_15 6 = .ok (.aload_n 0, 1) := by decide +kernel
theorem d15_7 : decode c_15 7 = .ok (.getfield 15, 3) := by decide +kernel
theorem d15_10 : decode c_15 10 = .ok (.goto 4, 3) := by decide +kernel
theorem d15_14 : decode c_15 14 = .ok (.ireturn, 1) := by decide +kernel
theorem pd_11 : parseMethodDescriptor "()B" = some ⟨[], some .byte⟩ := by decide +kernel
theorem d14_9 : decode c_14 9 = .ok (.ishr, 1) := by decide +kernel
theorem d14_10 : decode c_14 10 = .ok (.ireturn, 1) := by decide +kernel
theorem pd_12 : parseMethodDescriptor "()I" = some ⟨[], some .int⟩ := by decide +kernel
theorem d10_22 : decode c_10 22 = .ok (.sipush 255, 3) := by decide +kernel
theorem d10_25 : decode c_10 25 = .ok (.if_icmp .le 33, 3) := by decide +kernel
theorem d10_58 : decode c_10 58 = .ok (.iconst 0, 1) := by decide +kernel
theorem d10_59 : decode c_10 59 = .ok (.istore_n 2, 1) := by decide +kernel
abbrev lc24 (x0 x1 : Addr) (x2 : Int32) : Array Slot := #[.val (.ref x0), .val (.ref x1), .val (.int x2), .unset]
theorem d10_60 : decode c_10 60 = .ok (.iload_n 2, 1) := by decide +kernel
theorem d10_61 : decode c_10 61 = .ok (.aload_n 1, 1) := by decide +kernel
theorem d10_62 : decode c_10 62 = .ok (.invokevirtual 21, 3) := by decide +kernel
theorem d10_65 : decode c_10 65 = .ok (.if_icmp .ge 57, 3) := by decide +kernel
theorem d10_68 : decode c_10 68 = .ok (.aload_n 1, 1) := by decide +kernel
theorem d10_69 : decode c_10 69 = .ok (.iload_n 2, 1) := by decide +kernel
theorem d10_70 : decode c_10 70 = .ok (.invokevirtual 48, 3) := by decide +kernel
abbrev c_16 : ByteArray := jdk_42_method_56_code
theorem d16_0 : decode c_16 0 = .ok (.aload_n 0, 1) := by decide +kernel
theorem d16_1 : decode c_16 1 = .ok (.invokevirtual 492, 3) := by decide +kernel
abbrev c_17 : ByteArray := jdk_42_method_154_code
theorem d17_0 : decode c_17 0 = .ok (.getstatic 38, 3) := by decide +kernel
theorem d17_3 : decode c_17 3 = .ok (.ifCond .eq 14, 3) := by decide +kernel
theorem d17_6 : decode c_17 6 = .ok (.aload_n 0, 1) := by decide +kernel
theorem d17_7 : decode c_17 7 = .ok (.getfield 15, 3) := by decide +kernel
theorem d17_10 : decode c_17 10 = .ok (.ifCond .ne 7, 3) := by decide +kernel
theorem d17_13 : decode c_17 13 = .ok (.iconst 1, 1) := by decide +kernel
theorem d17_14 : decode c_17 14 = .ok (.goto 4, 3) := by decide +kernel
theorem d17_18 : decode c_17 18 = .ok (.ireturn, 1) := by decide +kernel
theorem d16_4 : decode c_16 4 = .ok (.ifCond .eq 12, 3) := by decide +kernel
theorem d16_7 : decode c_16 7 = .ok (.aload_n 0, 1) := by decide +kernel
theorem d16_8 : decode c_16 8 = .ok (.getfield 9, 3) := by decide +kernel
theorem d16_11 : decode c_16 11 = .ok (.iload_n 1, 1) := by decide +kernel
theorem d16_12 : decode c_16 12 = .ok (.invokestatic 495, 3) := by decide +kernel
abbrev c_18 : ByteArray := jdk_43_method_2_code
theorem d18_0 : decode c_18 0 = .ok (.iload_n 1, 1) := by decide +kernel
theorem d18_1 : decode c_18 1 = .ok (.aload_n 0, 1) := by decide +kernel
theorem d18_2 : decode c_18 2 = .ok (.arraylength, 1) := by decide +kernel
theorem d18_3 : decode c_18 3 = .ok (.invokestatic 9, 3) := by decide +kernel
abbrev c_19 : ByteArray := jdk_42_method_155_code
theorem d19_0 : decode c_19 0 = .ok (.iload_n 0, 1) := by decide +kernel
theorem d19_1 : decode c_19 1 = .ok (.iload_n 1, 1) := by decide +kernel
theorem d19_2 : decode c_19 2 = .ok (.getstatic 1053, 3) := by decide +kernel
theorem d19_5 : decode c_19 5 = .ok (.invokestatic 1059, 3) := by decide +kernel
abbrev c_20 : ByteArray := jdk_41_method_11_code
theorem d20_0 : decode c_20 0 = .ok (.iload_n 0, 1) := by decide +kernel
theorem d20_1 : decode c_20 1 = .ok (.ifCond .lt 8, 3) := by decide +kernel
abbrev lc25 (x0 x1 : Int32) : Array Slot := #[.val (.int x0), .val (.int x1), .val .null]
theorem d20_4 : decode c_20 4 = .ok (.iload_n 0, 1) := by decide +kernel
theorem d20_5 : decode c_20 5 = .ok (.iload_n 1, 1) := by decide +kernel
theorem d20_6 : decode c_20 6 = .ok (.if_icmp .lt 10, 3) := by decide +kernel
theorem d20_16 : decode c_20 16 = .ok (.iload_n 0, 1) := by decide +kernel
theorem d20_17 : decode c_20 17 = .ok (.ireturn, 1) := by decide +kernel
theorem ef_8 (m : MethodId) (x0 x1 : Int32) : entryFrame m #[(.int x0), (.int x1), .null] 3 = mkF m 0 #[.val (.int x0), .val (.int x1), .val .null] [] := by first | (simp [entryFrame, mkF, argsToLocals, Value.category, maxLocals]; done) | rfl
theorem pn_6 : plainName "jdk/internal/util/Preconditions" = true := by first | (simp [plainName, overriddenIn]; done) | decide +kernel
theorem pd_13 : parseMethodDescriptor "(IILjava/util/function/BiFunction;)I" = some ⟨[.int, .int, (.object "java/util/function/BiFunction")], some .int⟩ := by decide +kernel
theorem d19_8 : decode c_19 8 = .ok (.pop, 1) := by decide +kernel
theorem d19_9 : decode c_19 9 = .ok (.return_, 1) := by decide +kernel
abbrev lc26 (x0 x1 : Int32) (x2 : Addr) : Array Slot := #[.val (.int x0), .val (.int x1), .val (.ref x2)]
theorem ef_9 (m : MethodId) (x0 x1 : Int32) (x2 : Addr) : entryFrame m #[(.int x0), (.int x1), (.ref x2)] 3 = mkF m 0 #[.val (.int x0), .val (.int x1), .val (.ref x2)] [] := by first | (simp [entryFrame, mkF, argsToLocals, Value.category, maxLocals]; done) | rfl
theorem ef_10 (m : MethodId) (x0 x1 : Int32) : entryFrame m #[(.int x0), (.int x1)] 2 = mkF m 0 #[.val (.int x0), .val (.int x1)] [] := by first | (simp [entryFrame, mkF, argsToLocals, Value.category, maxLocals]; done) | rfl
theorem pd_14 : parseMethodDescriptor "(II)V" = some ⟨[.int, .int], none⟩ := by decide +kernel
theorem d18_6 : decode c_18 6 = .ok (.aload_n 0, 1) := by decide +kernel
theorem d18_7 : decode c_18 7 = .ok (.iload_n 1, 1) := by decide +kernel
theorem d18_8 : decode c_18 8 = .ok (.baload, 1) := by decide +kernel
theorem d18_9 : decode c_18 9 = .ok (.sipush 255, 3) := by decide +kernel
theorem d18_12 : decode c_18 12 = .ok (.iand, 1) := by decide +kernel
theorem d18_13 : decode c_18 13 = .ok (.i2c, 1) := by decide +kernel
theorem d18_14 : decode c_18 14 = .ok (.ireturn, 1) := by decide +kernel
theorem pd_15 : parseMethodDescriptor "([BI)C" = some ⟨[(.array .byte), .int], some .char⟩ := by decide +kernel
theorem d16_15 : decode c_16 15 = .ok (.ireturn, 1) := by decide +kernel
theorem d10_73 : decode c_10 73 = .ok (.istore_n 3, 1) := by decide +kernel
abbrev lc27 (x0 x1 : Addr) (x2 x3 : Int32) : Array Slot := #[.val (.ref x0), .val (.ref x1), .val (.int x2), .val (.int x3)]
theorem d10_74 : decode c_10 74 = .ok (.iload_n 3, 1) := by decide +kernel
theorem d10_75 : decode c_10 75 = .ok (.invokestatic 52, 3) := by decide +kernel
abbrev c_21 : ByteArray := prog_5_method_2_code
theorem d21_0 : decode c_21 0 = .ok (.iload_n 0, 1) := by decide +kernel
theorem d21_1 : decode c_21 1 = .ok (.bipush 97, 2) := by decide +kernel
theorem d21_3 : decode c_21 3 = .ok (.if_icmp .lt 9, 3) := by decide +kernel
abbrev lc28 (x0 : Int32) : Array Slot := #[.val (.int x0)]
theorem d21_12 : decode c_21 12 = .ok (.iload_n 0, 1) := by decide +kernel
theorem d21_13 : decode c_21 13 = .ok (.bipush 65, 2) := by decide +kernel
theorem d21_15 : decode c_21 15 = .ok (.if_icmp .lt 9, 3) := by decide +kernel
theorem d21_24 : decode c_21 24 = .ok (.iload_n 0, 1) := by decide +kernel
theorem d21_25 : decode c_21 25 = .ok (.bipush 48, 2) := by decide +kernel
theorem d21_27 : decode c_21 27 = .ok (.if_icmp .lt 9, 3) := by decide +kernel
theorem d21_36 : decode c_21 36 = .ok (.iload_n 0, 1) := by decide +kernel
theorem d21_37 : decode c_21 37 = .ok (.bipush 46, 2) := by decide +kernel
theorem d21_39 : decode c_21 39 = .ok (.if_icmp .eq 15, 3) := by decide +kernel
theorem d21_54 : decode c_21 54 = .ok (.iconst 1, 1) := by decide +kernel
theorem d21_55 : decode c_21 55 = .ok (.goto 4, 3) := by decide +kernel
theorem d21_59 : decode c_21 59 = .ok (.ireturn, 1) := by decide +kernel
theorem d21_42 : decode c_21 42 = .ok (.iload_n 0, 1) := by decide +kernel
theorem d21_43 : decode c_21 43 = .ok (.bipush 45, 2) := by decide +kernel
theorem d21_45 : decode c_21 45 = .ok (.if_icmp .eq 9, 3) := by decide +kernel
theorem d21_48 : decode c_21 48 = .ok (.iload_n 0, 1) := by decide +kernel
theorem d21_49 : decode c_21 49 = .ok (.bipush 95, 2) := by decide +kernel
theorem d21_51 : decode c_21 51 = .ok (.if_icmp .ne 7, 3) := by decide +kernel
theorem d21_58 : decode c_21 58 = .ok (.iconst 0, 1) := by decide +kernel
theorem d21_30 : decode c_21 30 = .ok (.iload_n 0, 1) := by decide +kernel
theorem d21_31 : decode c_21 31 = .ok (.bipush 57, 2) := by decide +kernel
theorem d21_33 : decode c_21 33 = .ok (.if_icmp .le 21, 3) := by decide +kernel
theorem d21_18 : decode c_21 18 = .ok (.iload_n 0, 1) := by decide +kernel
theorem d21_19 : decode c_21 19 = .ok (.bipush 90, 2) := by decide +kernel
theorem d21_21 : decode c_21 21 = .ok (.if_icmp .le 33, 3) := by decide +kernel
theorem d21_6 : decode c_21 6 = .ok (.iload_n 0, 1) := by decide +kernel
theorem d21_7 : decode c_21 7 = .ok (.bipush 122, 2) := by decide +kernel
theorem d21_9 : decode c_21 9 = .ok (.if_icmp .le 45, 3) := by decide +kernel
theorem ef_11 (m : MethodId) (x0 : Int32) : entryFrame m #[(.int x0)] 1 = mkF m 0 #[.val (.int x0)] [] := by first | (simp [entryFrame, mkF, argsToLocals, Value.category, maxLocals]; done) | rfl
theorem pn_7 : plainName "com/example/fair_lock/fairlock/LockName" = true := by first | (simp [plainName, overriddenIn]; done) | decide +kernel
theorem pd_16 : parseMethodDescriptor "(C)Z" = some ⟨[.char], some .boolean⟩ := by decide +kernel
theorem d10_78 : decode c_10 78 = .ok (.ifCond .ne 38, 3) := by decide +kernel
theorem d10_116 : decode c_10 116 = .ok (.iinc 2 1, 3) := by decide +kernel
theorem d10_119 : decode c_10 119 = .ok (.goto (-59), 3) := by decide +kernel
theorem d10_122 : decode c_10 122 = .ok (.aload_n 1, 1) := by decide +kernel
theorem d10_123 : decode c_10 123 = .ok (.ldc 70, 2) := by decide +kernel
theorem d10_125 : decode c_10 125 = .ok (.invokevirtual 72, 3) := by decide +kernel
theorem d10_128 : decode c_10 128 = .ok (.ifCond .ne 12, 3) := by decide +kernel
theorem d10_131 : decode c_10 131 = .ok (.aload_n 1, 1) := by decide +kernel
theorem d10_132 : decode c_10 132 = .ok (.ldc 76, 2) := by decide +kernel
theorem d10_134 : decode c_10 134 = .ok (.invokevirtual 72, 3) := by decide +kernel
theorem d10_137 : decode c_10 137 = .ok (.ifCond .eq 35, 3) := by decide +kernel
theorem d10_172 : decode c_10 172 = .ok (.aload_n 0, 1) := by decide +kernel
theorem d10_173 : decode c_10 173 = .ok (.aload_n 1, 1) := by decide +kernel
theorem d10_174 : decode c_10 174 = .ok (.putfield 82, 3) := by decide +kernel
theorem d10_177 : decode c_10 177 = .ok (.return_, 1) := by decide +kernel
theorem ef_12 (m : MethodId) (x0 x1 : Addr) : entryFrame m #[(.ref x0), (.ref x1)] 4 = mkF m 0 #[.val (.ref x0), .val (.ref x1), .unset, .unset] [] := by first | (simp [entryFrame, mkF, argsToLocals, Value.category, maxLocals]; done) | rfl
theorem pd_17 : parseMethodDescriptor "(Ljava/lang/String;)V" = some ⟨[(.object "java/lang/String")], none⟩ := by decide +kernel
abbrev lc29 (x0 x1 x2 x3 x4 x5 x6 x7 x8 x9 : Int32) (x10 x11 x12 : Addr) : Array Slot := #[.val (.int x0), .val (.int x1), .val (.int x2), .val (.int x3), .val (.int x4), .val (.int x5), .val (.int x6), .val (.int x7), .val (.int x8), .val (.int x9), .val (.ref x10), .val (.ref x11), .val (.ref x12), .unset, .unset, .unset, .unset, .unset, .unset, .unset]
abbrev lc30 (x0 x1 x2 x3 x4 x5 x6 x7 x8 x9 : Int32) (x10 x11 x12 x13 : Addr) : Array Slot := #[.val (.int x0), .val (.int x1), .val (.int x2), .val (.int x3), .val (.int x4), .val (.int x5), .val (.int x6), .val (.int x7), .val (.int x8), .val (.int x9), .val (.ref x10), .val (.ref x11), .val (.ref x12), .val (.ref x13), .unset, .unset, .unset, .unset, .unset, .unset]
abbrev lc31 (x0 x1 x2 x3 x4 x5 x6 x7 x8 x9 : Int32) (x10 x11 x12 x13 x14 : Addr) : Array Slot := #[.val (.int x0), .val (.int x1), .val (.int x2), .val (.int x3), .val (.int x4), .val (.int x5), .val (.int x6), .val (.int x7), .val (.int x8), .val (.int x9), .val (.ref x10), .val (.ref x11), .val (.ref x12), .val (.ref x13), .val (.ref x14), .unset, .unset, .unset, .unset, .unset]
abbrev c_22 : ByteArray := prog_7_method_6_code
theorem d22_0 : decode c_22 0 = .ok (.new 43, 3) := by decide +kernel
theorem d22_3 : decode c_22 3 = .ok (.dup, 1) := by decide +kernel
theorem d22_4 : decode c_22 4 = .ok (.invokespecial 45, 3) := by decide +kernel
abbrev c_23 : ByteArray := jdk_67_method_1_code
theorem d23_0 : decode c_23 0 = .ok (.aload_n 0, 1) := by decide +kernel
theorem d23_1 : decode c_23 1 = .ok (.bipush 16, 2) := by decide +kernel
theorem d23_3 : decode c_23 3 = .ok (.invokespecial 1, 3) := by decide +kernel
abbrev c_24 : ByteArray := jdk_68_method_2_code
theorem d24_0 : decode c_24 0 = .ok (.aload_n 0, 1) := by decide +kernel
theorem d24_1 : decode c_24 1 = .ok (.invokespecial 3, 3) := by decide +kernel
theorem d24_4 : decode c_24 4 = .ok (.getstatic 18, 3) := by decide +kernel
theorem d24_7 : decode c_24 7 = .ok (.ifCond .eq 18, 3) := by decide +kernel
theorem d24_10 : decode c_24 10 = .ok (.aload_n 0, 1) := by decide +kernel
theorem d24_11 : decode c_24 11 = .ok (.iload_n 1, 1) := by decide +kernel
theorem d24_12 : decode c_24 12 = .ok (.newarray .byte, 2) := by decide +kernel
theorem d24_14 : decode c_24 14 = .ok (.putfield 15, 3) := by decide +kernel
theorem d24_17 : decode c_24 17 = .ok (.aload_n 0, 1) := by decide +kernel
theorem d24_18 : decode c_24 18 = .ok (.iconst 0, 1) := by decide +kernel
theorem d24_19 : decode c_24 19 = .ok (.putfield 22, 3) := by decide +kernel
theorem d24_22 : decode c_24 22 = .ok (.goto 16, 3) := by decide +kernel
theorem d24_38 : decode c_24 38 = .ok (.return_, 1) := by decide +kernel
theorem pn_8 : plainName "java/lang/AbstractStringBuilder" = true := by first | (simp [plainName, overriddenIn]; done) | decide +kernel
theorem pd_18 : parseMethodDescriptor "(I)V" = some ⟨[.int], none⟩ := by decide +kernel
theorem d23_6 : decode c_23 6 = .ok (.return_, 1) := by decide +kernel
theorem pn_9 : plainName "java/lang/StringBuilder" = true := by first | (simp [plainName, overriddenIn]; done) | decide +kernel
theorem d22_7 : decode c_22 7 = .ok (.aload_n 0, 1) := by decide +kernel
theorem d22_8 : decode c_22 8 = .ok (.getfield 35, 3) := by decide +kernel
theorem d22_11 : decode c_22 11 = .ok (.invokevirtual 48, 3) := by decide +kernel
abbrev c_25 : ByteArray := jdk_67_method_7_code
theorem d25_0 : decode c_25 0 = .ok (.aload_n 0, 1) := by decide +kernel
theorem d25_1 : decode c_25 1 = .ok (.aload_n 1, 1) := by decide +kernel
theorem d25_2 : decode c_25 2 = .ok (.invokespecial 29, 3) := by decide +kernel
abbrev c_26 : ByteArray := jdk_68_method_22_code
theorem d26_0 : decode c_26 0 = .ok (.aload_n 1, 1) := by decide +kernel
theorem d26_1 : decode c_26 1 = .ok (.ifnonnull 8, 3) := by decide +kernel
theorem d26_9 : decode c_26 9 = .ok (.aload_n 1, 1) := by decide +kernel
theorem d26_10 : decode c_26 10 = .ok (.invokevirtual 32, 3) := by decide +kernel
theorem d26_13 : decode c_26 13 = .ok (.istore_n 2, 1) := by decide +kernel
theorem d26_14 : decode c_26 14 = .ok (.aload_n 0, 1) := by decide +kernel
theorem d26_15 : decode c_26 15 = .ok (.aload_n 0, 1) := by decide +kernel
theorem d26_16 : decode c_26 16 = .ok (.getfield 79, 3) := by decide +kernel
theorem d26_19 : decode c_26 19 = .ok (.iload_n 2, 1) := by decide +kernel
theorem d26_20 : decode c_26 20 = .ok (.iadd, 1) := by decide +kernel
theorem d26_21 : decode c_26 21 = .ok (.invokevirtual 100, 3) := by decide +kernel
abbrev c_27 : ByteArray := jdk_68_method_9_code
theorem d27_0 : decode c_27 0 = .ok (.aload_n 0, 1) := by decide +kernel
theorem d27_1 : decode c_27 1 = .ok (.getfield 15, 3) := by decide +kernel
abbrev lc32 (x0 : Addr) (x1 : Int32) : Array Slot := #[.val (.ref x0), .val (.int x1), .unset]
theorem d27_4 : decode c_27 4 = .ok (.arraylength, 1) := by decide +kernel
theorem d27_5 : decode c_27 5 = .ok (.aload_n 0, 1) := by decide +kernel
theorem d27_6 : decode c_27 6 = .ok (.getfield 22, 3) := by decide +kernel
theorem d27_9 : decode c_27 9 = .ok (.ishr, 1) := by decide +kernel
theorem d27_10 : decode c_27 10 = .ok (.istore_n 2, 1) := by decide +kernel
abbrev lc33 (x0 : Addr) (x1 x2 : Int32) : Array Slot := #[.val (.ref x0), .val (.int x1), .val (.int x2)]
theorem d27_11 : decode c_27 11 = .ok (.iload_n 1, 1) := by decide +kernel
theorem d27_12 : decode c_27 12 = .ok (.iload_n 2, 1) := by decide +kernel
theorem d27_13 : decode c_27 13 = .ok (.isub, 1) := by decide +kernel
theorem d27_14 : decode c_27 14 = .ok (.ifCond .le 24, 3) := by decide +kernel
theorem d27_38 : decode c_27 38 = .ok (.return_, 1) := by decide +kernel
theorem ef_13 (m : MethodId) (x0 : Addr) (x1 : Int32) : entryFrame m #[(.ref x0), (.int x1)] 3 = mkF m 0 #[.val (.ref x0), .val (.int x1), .unset] [] := by first | (simp [entryFrame, mkF, argsToLocals, Value.category, maxLocals]; done) | rfl
theorem d26_24 : decode c_26 24 = .ok (.aload_n 0, 1) := by decide +kernel
theorem d26_25 : decode c_26 25 = .ok (.aload_n 0, 1) := by decide +kernel
theorem d26_26 : decode c_26 26 = .ok (.getfield 79, 3) := by decide +kernel
theorem d26_29 : decode c_26 29 = .ok (.aload_n 1, 1) := by decide +kernel
theorem d26_30 : decode c_26 30 = .ok (.invokevirtual 208, 3) := by decide +kernel
abbrev c_28 : ByteArray := jdk_68_method_73_code
theorem d28_0 : decode c_28 0 = .ok (.aload_n 0, 1) := by decide +kernel
theorem d28_1 : decode c_28 1 = .ok (.aload_n 2, 1) := by decide +kernel
theorem d28_2 : decode c_28 2 = .ok (.invokevirtual 397, 3) := by decide +kernel
abbrev lc34 (x0 : Addr) (x1 : Int32) (x2 : Addr) : Array Slot := #[.val (.ref x0), .val (.int x1), .val (.ref x2)]
abbrev c_29 : ByteArray := jdk_68_method_71_code
theorem d29_0 : decode c_29 0 = .ok (.getstatic 18, 3) := by decide +kernel
theorem d29_3 : decode c_29 3 = .ok (.ifCond .eq 18, 3) := by decide +kernel
theorem d29_6 : decode c_29 6 = .ok (.aload_n 0, 1) := by decide +kernel
theorem d29_7 : decode c_29 7 = .ok (.getfield 22, 3) := by decide +kernel
theorem d29_10 : decode c_29 10 = .ok (.aload_n 1, 1) := by decide +kernel
theorem d29_11 : decode c_29 11 = .ok (.invokevirtual 40, 3) := by decide +kernel
theorem d29_14 : decode c_29 14 = .ok (.if_icmp .eq 7, 3) := by decide +kernel
theorem d29_21 : decode c_29 21 = .ok (.return_, 1) := by decide +kernel
theorem d28_5 : decode c_28 5 = .ok (.aload_n 2, 1) := by decide +kernel
theorem d28_6 : decode c_28 6 = .ok (.aload_n 0, 1) := by decide +kernel
theorem d28_7 : decode c_28 7 = .ok (.getfield 15, 3) := by decide +kernel
theorem d28_10 : decode c_28 10 = .ok (.iload_n 1, 1) := by decide +kernel
theorem d28_11 : decode c_28 11 = .ok (.aload_n 0, 1) := by decide +kernel
theorem d28_12 : decode c_28 12 = .ok (.getfield 22, 3) := by decide +kernel
theorem d28_15 : decode c_28 15 = .ok (.invokevirtual 399, 3) := by decide +kernel
abbrev c_30 : ByteArray := jdk_42_method_147_code
theorem d30_0 : decode c_30 0 = .ok (.aload_n 0, 1) := by decide +kernel
theorem d30_1 : decode c_30 1 = .ok (.invokevirtual 335, 3) := by decide +kernel
theorem d30_4 : decode c_30 4 = .ok (.iload_n 3, 1) := by decide +kernel
theorem d30_5 : decode c_30 5 = .ok (.if_icmp .ne 23, 3) := by decide +kernel
theorem d30_8 : decode c_30 8 = .ok (.aload_n 0, 1) := by decide +kernel
theorem d30_9 : decode c_30 9 = .ok (.getfield 9, 3) := by decide +kernel
theorem d30_12 : decode c_30 12 = .ok (.iconst 0, 1) := by decide +kernel
theorem d30_13 : decode c_30 13 = .ok (.aload_n 1, 1) := by decide +kernel
theorem d30_14 : decode c_30 14 = .ok (.iload_n 2, 1) := by decide +kernel
theorem d30_15 : decode c_30 15 = .ok (.iload_n 3, 1) := by decide +kernel
theorem d30_16 : decode c_30 16 = .ok (.ishl, 1) := by decide +kernel
theorem d30_17 : decode c_30 17 = .ok (.aload_n 0, 1) := by decide +kernel
theorem d30_18 : decode c_30 18 = .ok (.getfield 9, 3) := by decide +kernel
theorem d30_21 : decode c_30 21 = .ok (.arraylength, 1) := by decide +kernel
theorem d30_22 : decode c_30 22 = .ok (.invokestatic 212, 3) := by decide +kernel
theorem d30_25 : decode c_30 25 = .ok (.goto 18, 3) := by decide +kernel
theorem d30_43 : decode c_30 43 = .ok (.return_, 1) := by decide +kernel
theorem ef_14 (m : MethodId) (x0 x1 : Addr) (x2 x3 : Int32) : entryFrame m #[(.ref x0), (.ref x1), (.int x2), (.int x3)] 4 = mkF m 0 #[.val (.ref x0), .val (.ref x1), .val (.int x2), .val (.int x3)] [] := by first | (simp [entryFrame, mkF, argsToLocals, Value.category, maxLocals]; done) | rfl
theorem pd_19 : parseMethodDescriptor "([BIB)V" = some ⟨[(.array .byte), .int, .byte], none⟩ := by decide +kernel
theorem d28_18 : decode c_28 18 = .ok (.return_, 1) := by decide +kernel
theorem ef_15 (m : MethodId) (x0 : Addr) (x1 : Int32) (x2 : Addr) : entryFrame m #[(.ref x0), (.int x1), (.ref x2)] 3 = mkF m 0 #[.val (.ref x0), .val (.int x1), .val (.ref x2)] [] := by first | (simp [entryFrame, mkF, argsToLocals, Value.category, maxLocals]; done) | rfl
theorem pd_20 : parseMethodDescriptor "(ILjava/lang/String;)V" = some ⟨[.int, (.object "java/lang/String")], none⟩ := by decide +kernel
theorem d26_33 : decode c_26 33 = .ok (.aload_n 0, 1) := by decide +kernel
theorem d26_34 : decode c_26 34 = .ok (.dup, 1) := by decide +kernel
theorem d26_35 : decode c_26 35 = .ok (.getfield 79, 3) := by decide +kernel
theorem d26_38 : decode c_26 38 = .ok (.iload_n 2, 1) := by decide +kernel
theorem d26_39 : decode c_26 39 = .ok (.iadd, 1) := by decide +kernel
theorem d26_40 : decode c_26 40 = .ok (.putfield 79, 3) := by decide +kernel
theorem d26_43 : decode c_26 43 = .ok (.aload_n 0, 1) := by decide +kernel
theorem d26_44 : decode c_26 44 = .ok (.areturn, 1) := by decide +kernel
theorem pd_21 : parseMethodDescriptor "(Ljava/lang/String;)Ljava/lang/AbstractStringBuilder;" = some ⟨[(.object "java/lang/String")], some (.object "java/lang/AbstractStringBuilder")⟩ := by decide +kernel
theorem d25_5 : decode c_25 5 = .ok (.pop, 1) := by decide +kernel
theorem d25_6 : decode c_25 6 = .ok (.aload_n 0, 1) := by decide +kernel
theorem d25_7 : decode c_25 7 = .ok (.areturn, 1) := by decide +kernel
theorem pd_22 : parseMethodDescriptor "(Ljava/lang/String;)Ljava/lang/StringBuilder;" = some ⟨[(.object "java/lang/String")], some (.object "java/lang/StringBuilder")⟩ := by decide +kernel
theorem d22_14 : decode c_22 14 = .ok (.ldc 52, 2) := by decide +kernel
theorem d22_16 : decode c_22 16 = .ok (.invokevirtual 48, 3) := by decide +kernel
theorem d22_19 : decode c_22 19 = .ok (.aload_n 1, 1) := by decide +kernel
theorem d22_20 : decode c_22 20 = .ok (.invokevirtual 54, 3) := by decide +kernel
abbrev c_31 : ByteArray := prog_5_method_6_code
theorem d31_0 : decode c_31 0 = .ok (.aload_n 0, 1) := by decide +kernel
theorem d31_1 : decode c_31 1 = .ok (.getfield 82, 3) := by decide +kernel
theorem d31_4 : decode c_31 4 = .ok (.areturn, 1) := by decide +kernel
theorem pd_23 : parseMethodDescriptor "()Ljava/lang/String;" = some ⟨[], some (.object "java/lang/String")⟩ := by decide +kernel
theorem d22_23 : decode c_22 23 = .ok (.invokevirtual 48, 3) := by decide +kernel
theorem d22_26 : decode c_22 26 = .ok (.invokevirtual 60, 3) := by decide +kernel
abbrev c_32 : ByteArray := jdk_67_method_42_code
theorem d32_0 : decode c_32 0 = .ok (.new 18, 3) := by decide +kernel
theorem d32_3 : decode c_32 3 = .ok (.dup, 1) := by decide +kernel
theorem d32_4 : decode c_32 4 = .ok (.aload_n 0, 1) := by decide +kernel
theorem d32_5 : decode c_32 5 = .ok (.invokespecial 137, 3) := by decide +kernel
abbrev c_33 : ByteArray := jdk_42_method_53_code
theorem d33_0 : decode c_33 0 = .ok (.aload_n 0, 1) := by decide +kernel
theorem d33_1 : decode c_33 1 = .ok (.aload_n 1, 1) := by decide +kernel
theorem d33_2 : decode c_33 2 = .ok (.aconst_null, 1) := by decide +kernel
theorem d33_3 : decode c_33 3 = .ok (.invokespecial 489, 3) := by decide +kernel
abbrev c_34 : ByteArray := jdk_42_method_150_code
theorem d34_0 : decode c_34 0 = .ok (.aload_n 0, 1) := by decide +kernel
theorem d34_1 : decode c_34 1 = .ok (.invokespecial 1, 3) := by decide +kernel
abbrev lc35 (x0 x1 : Addr) : Array Slot := #[.val (.ref x0), .val (.ref x1), .val .null, .unset, .unset]
theorem d34_4 : decode c_34 4 = .ok (.aload_n 1, 1) := by decide +kernel
theorem d34_5 : decode c_34 5 = .ok (.invokevirtual 552, 3) := by decide +kernel
abbrev c_35 : ByteArray := jdk_68_method_64_code
theorem d35_0 : decode c_35 0 = .ok (.aload_n 0, 1) := by decide +kernel
theorem d35_1 : decode c_35 1 = .ok (.getfield 15, 3) := by decide +kernel
theorem d35_4 : decode c_35 4 = .ok (.areturn, 1) := by decide +kernel
theorem pd_24 : parseMethodDescriptor "()[B" = some ⟨[], some (.array .byte)⟩ := by decide +kernel
theorem d34_8 : decode c_34 8 = .ok (.astore_n 3, 1) := by decide +kernel
abbrev lc36 (x0 x1 x2 : Addr) : Array Slot := #[.val (.ref x0), .val (.ref x1), .val .null, .val (.ref x2), .unset]
theorem d34_9 : decode c_34 9 = .ok (.aload_n 1, 1) := by decide +kernel
theorem d34_10 : decode c_34 10 = .ok (.invokevirtual 549, 3) := by decide +kernel
abbrev c_36 : ByteArray := jdk_67_method_93_code
theorem d36_0 : decode c_36 0 = .ok (.aload_n 0, 1) := by decide +kernel
theorem d36_1 : decode c_36 1 = .ok (.invokespecial 343, 3) := by decide +kernel
abbrev c_37 : ByteArray := jdk_68_method_6_code
theorem d37_0 : decode c_37 0 = .ok (.aload_n 0, 1) := by decide +kernel
theorem d37_1 : decode c_37 1 = .ok (.getfield 79, 3) := by decide +kernel
theorem d37_4 : decode c_37 4 = .ok (.ireturn, 1) := by decide +kernel
theorem d36_4 : decode c_36 4 = .ok (.ireturn, 1) := by decide +kernel
theorem d34_13 : decode c_34 13 = .ok (.istore 4, 2) := by decide +kernel
abbrev lc37 (x0 x1 x2 : Addr) (x3 : Int32) : Array Slot := #[.val (.ref x0), .val (.ref x1), .val .null, .val (.ref x2), .val (.int x3)]
theorem d34_15 : decode c_34 15 = .ok (.aload_n 1, 1) := by decide +kernel
theorem d34_16 : decode c_34 16 = .ok (.invokevirtual 1047, 3) := by decide +kernel
abbrev c_38 : ByteArray := jdk_68_method_68_code
theorem d38_0 : decode c_38 0 = .ok (.getstatic 18, 3) := by decide +kernel
theorem d38_3 : decode c_38 3 = .ok (.ifCond .eq 14, 3) := by decide +kernel
theorem d38_6 : decode c_38 6 = .ok (.aload_n 0, 1) := by decide +kernel
theorem d38_7 : decode c_38 7 = .ok (.getfield 22, 3) := by decide +kernel
theorem d38_10 : decode c_38 10 = .ok (.ifCond .ne 7, 3) := by decide +kernel
theorem d38_13 : decode c_38 13 = .ok (.iconst 1, 1) := by decide +kernel
theorem d38_14 : decode c_38 14 = .ok (.goto 4, 3) := by decide +kernel
theorem d38_18 : decode c_38 18 = .ok (.ireturn, 1) := by decide +kernel
theorem d34_19 : decode c_34 19 = .ok (.ifCond .eq 22, 3) := by decide +kernel
theorem d34_22 : decode c_34 22 = .ok (.aload_n 0, 1) := by decide +kernel
theorem d34_23 : decode c_34 23 = .ok (.iconst 0, 1) := by decide +kernel
theorem d34_24 : decode c_34 24 = .ok (.putfield 15, 3) := by decide +kernel
theorem d34_27 : decode c_34 27 = .ok (.aload_n 0, 1) := by decide +kernel
theorem d34_28 : decode c_34 28 = .ok (.aload_n 3, 1) := by decide +kernel
theorem d34_29 : decode c_34 29 = .ok (.iconst 0, 1) := by decide +kernel
theorem d34_30 : decode c_34 30 = .ok (.iload 4, 2) := by decide +kernel
theorem d34_32 : decode c_34 32 = .ok (.invokestatic 54, 3) := by decide +kernel
abbrev c_39 : ByteArray := jdk_65_method_132_code
theorem d39_0 : decode c_39 0 = .ok (.iload_n 1, 1) := by decide +kernel
theorem d39_1 : decode c_39 1 = .ok (.ifCond .ne 9, 3) := by decide +kernel
theorem d39_4 : decode c_39 4 = .ok (.iload_n 2, 1) := by decide +kernel
theorem d39_5 : decode c_39 5 = .ok (.aload_n 0, 1) := by decide +kernel
theorem d39_6 : decode c_39 6 = .ok (.arraylength, 1) := by decide +kernel
theorem d39_7 : decode c_39 7 = .ok (.if_icmp .eq 10, 3) := by decide +kernel
theorem d39_10 : decode c_39 10 = .ok (.aload_n 0, 1) := by decide +kernel
theorem d39_11 : decode c_39 11 = .ok (.iload_n 1, 1) := by decide +kernel
theorem d39_12 : decode c_39 12 = .ok (.iload_n 2, 1) := by decide +kernel
theorem d39_13 : decode c_39 13 = .ok (.invokestatic 339, 3) := by decide +kernel
abbrev c_40 : ByteArray := jdk_65_method_133_code
theorem d40_0 : decode c_40 0 = .ok (.iload_n 1, 1) := by decide +kernel
theorem d40_1 : decode c_40 1 = .ok (.iload_n 2, 1) := by decide +kernel
theorem d40_2 : decode c_40 2 = .ok (.invokestatic 343, 3) := by decide +kernel
abbrev lc38 (x0 : Addr) (x1 x2 : Int32) : Array Slot := #[.val (.ref x0), .val (.int x1), .val (.int x2), .unset, .unset]
abbrev c_41 : ByteArray := jdk_65_method_131_code
theorem d41_0 : decode c_41 0 = .ok (.iload_n 1, 1) := by decide +kernel
theorem d41_1 : decode c_41 1 = .ok (.iload_n 0, 1) := by decide +kernel
theorem d41_2 : decode c_41 2 = .ok (.if_icmp .ge 35, 3) := by decide +kernel
theorem d41_37 : decode c_41 37 = .ok (.return_, 1) := by decide +kernel
theorem pn_10 : plainName "java/util/Arrays" = true := by first | (simp [plainName, overriddenIn]; done) | decide +kernel
theorem d40_5 : decode c_40 5 = .ok (.iload_n 2, 1) := by decide +kernel
theorem d40_6 : decode c_40 6 = .ok (.iload_n 1, 1) := by decide +kernel
theorem d40_7 : decode c_40 7 = .ok (.isub, 1) := by decide +kernel
theorem d40_8 : decode c_40 8 = .ok (.istore_n 3, 1) := by decide +kernel
abbrev lc39 (x0 : Addr) (x1 x2 x3 : Int32) : Array Slot := #[.val (.ref x0), .val (.int x1), .val (.int x2), .val (.int x3), .unset]
theorem d40_9 : decode c_40 9 = .ok (.iload_n 3, 1) := by decide +kernel
theorem d40_10 : decode c_40 10 = .ok (.newarray .byte, 2) := by decide +kernel
theorem d40_12 : decode c_40 12 = .ok (.astore 4, 2) := by decide +kernel
abbrev lc40 (x0 : Addr) (x1 x2 x3 : Int32) (x4 : Addr) : Array Slot := #[.val (.ref x0), .val (.int x1), .val (.int x2), .val (.int x3), .val (.ref x4)]
theorem d40_14 : decode c_40 14 = .ok (.aload_n 0, 1) := by decide +kernel
theorem d40_15 : decode c_40 15 = .ok (.iload_n 1, 1) := by decide +kernel
theorem d40_16 : decode c_40 16 = .ok (.aload 4, 2) := by decide +kernel
theorem d40_18 : decode c_40 18 = .ok (.iconst 0, 1) := by decide +kernel
theorem d40_19 : decode c_40 19 = .ok (.aload_n 0, 1) := by decide +kernel
theorem d40_20 : decode c_40 20 = .ok (.arraylength, 1) := by decide +kernel
theorem d40_21 : decode c_40 21 = .ok (.iload_n 1, 1) := by decide +kernel
theorem d40_22 : decode c_40 22 = .ok (.isub, 1) := by decide +kernel
theorem d40_23 : decode c_40 23 = .ok (.iload_n 3, 1) := by decide +kernel
theorem d40_24 : decode c_40 24 = .ok (.invokestatic 304, 3) := by decide +kernel
abbrev c_42 : ByteArray := jdk_29_method_69_code
theorem d42_0 : decode c_42 0 = .ok (.iload_n 0, 1) := by decide +kernel
theorem d42_1 : decode c_42 1 = .ok (.iload_n 1, 1) := by decide +kernel
theorem d42_2 : decode c_42 2 = .ok (.if_icmp .gt 7, 3) := by decide +kernel
theorem d42_9 : decode c_42 9 = .ok (.iload_n 1, 1) := by decide +kernel
theorem d42_10 : decode c_42 10 = .ok (.ireturn, 1) := by decide +kernel
theorem pd_25 : parseMethodDescriptor "(II)I" = some ⟨[.int, .int], some .int⟩ := by decide +kernel
theorem d40_27 : decode c_40 27 = .ok (.invokestatic 150, 3) := by decide +kernel
theorem d40_30 : decode c_40 30 = .ok (.aload 4, 2) := by decide +kernel
theorem d40_32 : decode c_40 32 = .ok (.areturn, 1) := by decide +kernel
theorem ef_16 (m : MethodId) (x0 : Addr) (x1 x2 : Int32) : entryFrame m #[(.ref x0), (.int x1), (.int x2)] 5 = mkF m 0 #[.val (.ref x0), .val (.int x1), .val (.int x2), .unset, .unset] [] := by first | (simp [entryFrame, mkF, argsToLocals, Value.category, maxLocals]; done) | rfl
theorem pd_26 : parseMethodDescriptor "([BII)[B" = some ⟨[(.array .byte), .int, .int], some (.array .byte)⟩ := by decide +kernel
theorem d39_16 : decode c_39 16 = .ok (.areturn, 1) := by decide +kernel
theorem ef_17 (m : MethodId) (x0 : Addr) (x1 x2 : Int32) : entryFrame m #[(.ref x0), (.int x1), (.int x2)] 3 = mkF m 0 #[.val (.ref x0), .val (.int x1), .val (.int x2)] [] := by first | (simp [entryFrame, mkF, argsToLocals, Value.category, maxLocals]; done) | rfl
theorem d34_35 : decode c_34 35 = .ok (.putfield 9, 3) := by decide +kernel
theorem d34_38 : decode c_34 38 = .ok (.goto 59, 3) := by decide +kernel
theorem d34_97 : decode c_34 97 = .ok (.return_, 1) := by decide +kernel
theorem ef_18 (m : MethodId) (x0 x1 : Addr) : entryFrame m #[(.ref x0), (.ref x1), .null] 5 = mkF m 0 #[.val (.ref x0), .val (.ref x1), .val .null, .unset, .unset] [] := by first | (simp [entryFrame, mkF, argsToLocals, Value.category, maxLocals]; done) | rfl
theorem pd_27 : parseMethodDescriptor "(Ljava/lang/AbstractStringBuilder;Ljava/lang/Void;)V" = some ⟨[(.object "java/lang/AbstractStringBuilder"), (.object "java/lang/Void")], none⟩ := by decide +kernel
theorem d33_6 : decode c_33 6 = .ok (.return_, 1) := by decide +kernel
theorem pd_28 : parseMethodDescriptor "(Ljava/lang/StringBuilder;)V" = some ⟨[(.object "java/lang/StringBuilder")], none⟩ := by decide +kernel
theorem d32_8 : decode c_32 8 = .ok (.areturn, 1) := by decide +kernel
theorem d22_29 : decode c_22 29 = .ok (.areturn, 1) := by decide +kernel
theorem pn_11 : plainName "com/example/fair_lock/fairlock/RequestKind" = true := by first | (simp [plainName, overriddenIn]; done) | decide +kernel
theorem pd_29 : parseMethodDescriptor "(Lcom/example/fair_lock/fairlock/LockName;)Ljava/lang/String;" = some ⟨[(.object "com/example/fair_lock/fairlock/LockName")], some (.object "java/lang/String")⟩ := by decide +kernel
abbrev lc41 (x0 x1 x2 x3 x4 x5 x6 x7 x8 x9 : Int32) (x10 x11 x12 x13 x14 x15 : Addr) : Array Slot := #[.val (.int x0), .val (.int x1), .val (.int x2), .val (.int x3), .val (.int x4), .val (.int x5), .val (.int x6), .val (.int x7), .val (.int x8), .val (.int x9), .val (.ref x10), .val (.ref x11), .val (.ref x12), .val (.ref x13), .val (.ref x14), .val (.ref x15), .unset, .unset, .unset, .unset]
abbrev lc42 (x0 x1 x2 x3 x4 x5 x6 x7 x8 x9 : Int32) (x10 x11 x12 x13 x14 x15 : Addr) (x16 : Int32) : Array Slot := #[.val (.int x0), .val (.int x1), .val (.int x2), .val (.int x3), .val (.int x4), .val (.int x5), .val (.int x6), .val (.int x7), .val (.int x8), .val (.int x9), .val (.ref x10), .val (.ref x11), .val (.ref x12), .val (.ref x13), .val (.ref x14), .val (.ref x15), .val (.int x16), .unset, .unset, .unset]
abbrev c_43 : ByteArray := method_3_code
theorem d43_0 : decode c_43 0 = .ok (.iload_n 3, 1) := by decide +kernel
theorem d43_1 : decode c_43 1 = .ok (.aload_n 2, 1) := by decide +kernel
theorem d43_2 : decode c_43 2 = .ok (.invokevirtual 59, 3) := by decide +kernel
abbrev lc43 (x0 : Addr) (x1 : Int32) (x2 : Addr) (x3 : Int32) : Array Slot := #[.val (.ref x0), .val (.int x1), .val (.ref x2), .val (.int x3)]
theorem d43_5 : decode c_43 5 = .ok (.if_icmp .ge 18, 3) := by decide +kernel
theorem d43_8 : decode c_43 8 = .ok (.aload_n 0, 1) := by decide +kernel
theorem d43_9 : decode c_43 9 = .ok (.iload_n 1, 1) := by decide +kernel
theorem d43_10 : decode c_43 10 = .ok (.iload_n 3, 1) := by decide +kernel
theorem d43_11 : decode c_43 11 = .ok (.iadd, 1) := by decide +kernel
theorem d43_12 : decode c_43 12 = .ok (.invokevirtual 67, 3) := by decide +kernel
theorem d43_15 : decode c_43 15 = .ok (.aload_n 2, 1) := by decide +kernel
theorem d43_16 : decode c_43 16 = .ok (.iload_n 3, 1) := by decide +kernel
theorem d43_17 : decode c_43 17 = .ok (.invokevirtual 67, 3) := by decide +kernel
theorem d43_20 : decode c_43 20 = .ok (.if_icmp .ne 7, 3) := by decide +kernel
theorem d43_23 : decode c_43 23 = .ok (.iconst 1, 1) := by decide +kernel
theorem d43_24 : decode c_43 24 = .ok (.goto 4, 3) := by decide +kernel
theorem d43_28 : decode c_43 28 = .ok (.ireturn, 1) := by decide +kernel
theorem ef_19 (m : MethodId) (x0 : Addr) (x1 : Int32) (x2 : Addr) (x3 : Int32) : entryFrame m #[(.ref x0), (.int x1), (.ref x2), (.int x3)] 4 = mkF m 0 #[.val (.ref x0), .val (.int x1), .val (.ref x2), .val (.int x3)] [] := by first | (simp [entryFrame, mkF, argsToLocals, Value.category, maxLocals]; done) | rfl
theorem pd_30 : parseMethodDescriptor "(Ljava/lang/String;ILjava/lang/String;I)Z" = some ⟨[(.object "java/lang/String"), .int, (.object "java/lang/String"), .int], some .boolean⟩ := by decide +kernel
abbrev lc44 (x0 x1 x2 x3 x4 x5 x6 x7 x8 x9 : Int32) (x10 x11 x12 x13 x14 x15 : Addr) (x16 x17 : Int32) : Array Slot := #[.val (.int x0), .val (.int x1), .val (.int x2), .val (.int x3), .val (.int x4), .val (.int x5), .val (.int x6), .val (.int x7), .val (.int x8), .val (.int x9), .val (.ref x10), .val (.ref x11), .val (.ref x12), .val (.ref x13), .val (.ref x14), .val (.ref x15), .val (.int x16), .val (.int x17), .unset, .unset]
abbrev lc45 (x0 x1 x2 x3 x4 x5 x6 x7 x8 x9 : Int32) (x10 x11 x12 x13 x14 x15 : Addr) (x16 x17 x18 : Int32) : Array Slot := #[.val (.int x0), .val (.int x1), .val (.int x2), .val (.int x3), .val (.int x4), .val (.int x5), .val (.int x6), .val (.int x7), .val (.int x8), .val (.int x9), .val (.ref x10), .val (.ref x11), .val (.ref x12), .val (.ref x13), .val (.ref x14), .val (.ref x15), .val (.int x16), .val (.int x17), .val (.int x18), .unset]
abbrev lc46 (x0 x1 x2 x3 x4 x5 x6 x7 x8 x9 : Int32) (x10 x11 x12 x13 x14 x15 : Addr) (x16 x17 x18 x19 : Int32) : Array Slot := #[.val (.int x0), .val (.int x1), .val (.int x2), .val (.int x3), .val (.int x4), .val (.int x5), .val (.int x6), .val (.int x7), .val (.int x8), .val (.int x9), .val (.ref x10), .val (.ref x11), .val (.ref x12), .val (.ref x13), .val (.ref x14), .val (.ref x15), .val (.int x16), .val (.int x17), .val (.int x18), .val (.int x19)]
theorem ef_20 (m : MethodId) (x0 x1 x2 x3 x4 : Int32) : entryFrame m #[(.int x0), (.int x1), (.int x2), (.int x3), (.int x4)] maxLocals = mkF m 0 #[.val (.int x0), .val (.int x1), .val (.int x2), .val (.int x3), .val (.int x4), .unset, .unset, .unset, .unset, .unset, .unset, .unset, .unset, .unset, .unset, .unset, .unset, .unset, .unset, .unset] [] := by first | (simp [entryFrame, mkF, argsToLocals, Value.category, maxLocals]; done) | rfl
abbrev lc47 (x0 x1 x2 x3 x4 : Int32) : Array Slot := #[.val (.int x0), .val (.int x1), .val (.int x2), .val (.int x3), .val (.int x4), .unset, .unset, .unset, .unset, .unset, .unset, .unset, .unset, .unset, .unset, .unset, .unset, .unset, .unset, .unset]
abbrev zs0 : String := "com/example/fair_lock/fairlock/RequestKindDescribePinLaw"
abbrev zs1 : String := "java/lang/StringUTF16"
abbrev zs2 : String := "compress"
abbrev zs3 : String := "([CI[BII)I"
abbrev zs4 : String := "([CII)[B"
abbrev zs5 : String := "coderFromArrayLen"
abbrev zs6 : String := "java/lang/String"
abbrev zs7 : String := "COMPACT_STRINGS"
abbrev zs8 : String := "([CIILjava/lang/Void;)V"
abbrev zs9 : String := "java/lang/StringLatin1"
abbrev zs10 : String := "(Ljava/lang/Object;)Z"
abbrev zs11 : String := "java/lang/Record"
abbrev zs12 : String := "java/util/Objects"
abbrev zs13 : String := "requireNonNull"
abbrev zs14 : String := "(Ljava/lang/Object;Ljava/lang/String;)Ljava/lang/Object;"
abbrev zs15 : String := "isLatin1"
abbrev zs16 : String := "jdk/internal/util/Preconditions"
abbrev zs17 : String := "checkIndex"
abbrev zs18 : String := "(IILjava/util/function/BiFunction;)I"
abbrev zs19 : String := "SIOOBE_FORMATTER"
abbrev zs20 : String := "Ljava/util/function/BiFunction;"
abbrev zs21 : String := "com/example/fair_lock/fairlock/LockName"
abbrev zs22 : String := "isAllowed"
abbrev zs23 : String := "Ljava/lang/String;"
abbrev zs24 : String := "(Ljava/lang/String;)V"
abbrev zs25 : String := "java/lang/AbstractStringBuilder"
abbrev zs26 : String := "java/lang/StringBuilder"
abbrev zs27 : String := "getBytes"
abbrev zs28 : String := "(Ljava/lang/String;)Ljava/lang/StringBuilder;"
abbrev zs29 : String := "()Ljava/lang/String;"
abbrev zs30 : String := "getValue"
abbrev zs31 : String := "java/util/Arrays"
abbrev zs32 : String := "java/lang/Math"
abbrev zs33 : String := "([BII)[B"
abbrev zs34 : String := "toString"
abbrev zs35 : String := "com/example/fair_lock/fairlock/RequestKind"
abbrev zs36 : String := "describe"
abbrev zs37 : String := "(Lcom/example/fair_lock/fairlock/LockName;)Ljava/lang/String;"
abbrev zs38 : String := "(Ljava/lang/String;ILjava/lang/String;I)Z"
abbrev zs39 : String := "Lcom/example/fair_lock/fairlock/RequestKind;"
abbrev zs40 : String := "CANDIDATE"
abbrev zm0 : MethodName := (⟨zs0, "pick", "(I)C"⟩ : MethodName)
abbrev zm1 : MethodName := (⟨zs1, zs2, zs3⟩ : MethodName)
abbrev zm2 : MethodName := (⟨zs1, zs2, zs4⟩ : MethodName)
abbrev zm3 : MethodName := (⟨zs1, zs5, "([BI)B"⟩ : MethodName)
abbrev zm4 : MethodName := (⟨zs6, "<init>", zs8⟩ : MethodName)
abbrev zm5 : MethodName := (⟨zs6, "<init>", "([C)V"⟩ : MethodName)
abbrev zm6 : MethodName := (⟨zs9, "equals", "([B[B)Z"⟩ : MethodName)
abbrev zm7 : MethodName := (⟨zs6, "equals", zs10⟩ : MethodName)
abbrev zm8 : MethodName := (⟨zs11, "<init>", "()V"⟩ : MethodName)
abbrev zm9 : MethodName := (⟨zs12, zs13, zs14⟩ : MethodName)
abbrev zm10 : MethodName := (⟨zs6, "isEmpty", "()Z"⟩ : MethodName)
abbrev zm11 : MethodName := (⟨zs6, "coder", "()B"⟩ : MethodName)
abbrev zm12 : MethodName := (⟨zs6, "length", "()I"⟩ : MethodName)
abbrev zm13 : MethodName := (⟨zs6, zs15, "()Z"⟩ : MethodName)
abbrev zm14 : MethodName := (⟨zs16, zs17, zs18⟩ : MethodName)
abbrev zm15 : MethodName := (⟨zs6, zs17, "(II)V"⟩ : MethodName)
abbrev zm16 : MethodName := (⟨zs9, "charAt", "([BI)C"⟩ : MethodName)
abbrev zm17 : MethodName := (⟨zs6, "charAt", "(I)C"⟩ : MethodName)
abbrev zm18 : MethodName := (⟨zs21, zs22, "(C)Z"⟩ : MethodName)
abbrev zm19 : MethodName := (⟨zs21, "<init>", zs24⟩ : MethodName)
abbrev zm20 : MethodName := (⟨zs6, zs27, "([BIB)V"⟩ : MethodName)
abbrev zm21 : MethodName := (⟨zs26, "append", zs28⟩ : MethodName)
abbrev zm22 : MethodName := (⟨zs21, "value", zs29⟩ : MethodName)
abbrev zm23 : MethodName := (⟨zs25, zs30, "()[B"⟩ : MethodName)
abbrev zm24 : MethodName := (⟨zs25, "length", "()I"⟩ : MethodName)
abbrev zm25 : MethodName := (⟨zs25, zs15, "()Z"⟩ : MethodName)
abbrev zm26 : MethodName := (⟨zs26, zs34, zs29⟩ : MethodName)
abbrev zm27 : MethodName := (⟨zs35, zs36, zs37⟩ : MethodName)
abbrev zm28 : MethodName := (⟨zs0, "same", zs38⟩ : MethodName)
def Q1_0 (Z : State) (p1 : Int32) (h0 : Heap) (n0 : Nat) (v : Option Value) (h : Heap) (L : List Loc) : Prop := v = some (.int (own_pk p1)) ∧ Fr n0 L ∧ h = h0
theorem rm1_0 (l : Launch) {Z : State} {a0 : Array Value} (hw : own_W Z a0) (p1 : Int32) (h0 : Heap) (n0 : Nat) (Z0 : n0 ≤ h0.size) (hc3 : ((p1 &&& (2147483647 : Int32)) % (65 : Int32)) < (26 : Int32)) (hc5 : ¬ (((97 : Int32) + ((p1 &&& (2147483647 : Int32)) % (65 : Int32))) < (0 : Int32))) (hc7 : ((97 : Int32) + ((p1 &&& (2147483647 : Int32)) % (65 : Int32))) < (65536 : Int32)) :
    own_MF l zm0 c_1 2 (some .char) (own_R 0 0 0 0) #[(.int p1)] Z h0 (Q1_0 Z p1 h0 n0) := by
  refine own_st (L := (lc2 p1)) (own := zs0) (plainFor_of_name pn_0) rfl (fun m => ef_0 m p1) fun p e s m below meth c s₁ Bd hml hZ hh hx hby hown hnm X0 e0 => ?_
  have N0 := Fr.nil n0
  refine own_go (U' := s₁.setTop (mkF m 8 (lc3 p1 ((p1 &&& (2147483647 : Int32)) % (65 : Int32))) [])) (fun t k => oiloadN X0 hx hby d1_0 rfl (X0.ldcInt hx hown (mvT hZ (ww hw 0 rfl)) (g := (mkF m 1 (lc2 p1) [(.int p1)])) rfl (hb hby d1_1) _ (oiand X0 hx hby d1_3 (obipush X0 hx hby d1_4 (oirem X0 hx hby d1_6 (by decide) (oistoreN X0 hx hby d1_7 (lc3 p1 ((p1 &&& (2147483647 : Int32)) % (65 : Int32))) rfl k)))))) ?_
  obtain ⟨z2, hz2⟩ : ∃ z, z = ((p1 &&& (2147483647 : Int32)) % (65 : Int32)) := ⟨_, rfl⟩
  rw [← hz2]
  refine own_go (U' := s₁.setTop (mkF m 11 (lc3 p1 z2) [(.int 26), (.int z2)])) (fun t k => oiloadN X0 hx hby d1_8 rfl (obipush X0 hx hby d1_9 k)) ?_
  have hs4 : z2 < (26 : Int32) := by rw [hz2]; exact hc3
  have hs6 : ¬ (((97 : Int32) + z2) < (0 : Int32)) := by rw [hz2]; exact hc5
  have hs8 : ((97 : Int32) + z2) < (65536 : Int32) := by rw [hz2]; exact hc7
  refine own_go (U' := s₁.setTop (mkF m 19 (lc3 p1 z2) [(.int (((97 : Int32) + z2).toUInt32.toUInt16.toUInt32.toInt32))])) (fun t k => oicN X0 hx hby d1_11 (tlt hs4).2.1 (obipush X0 hx hby d1_14 (oiloadN X0 hx hby d1_16 rfl (oiadd X0 hx hby d1_17 (oi2c X0 hx hby d1_18 k))))) ?_
  rw [own_i2c (x := ((97 : Int32) + z2)) hs6 hs8]
  obtain ⟨fs, hr, hrun, hended, hW, hsame⟩ := X0.leave (v := some (.int ((97 : Int32) + z2))) (fun h => by rw [Bd.returns] at h; cases h)
  refine own_out ⟨_, _, ?_, hrun, hended, _, _, rfl, ?_, ⟨_, rfl⟩, hW, hsame.mono (by decide) (by decide)⟩
  · exact retOut X0 hx Bd.returns (show narrow .char (.int ((97 : Int32) + z2)) = _ from congrArg Value.int (own_i2c hs6 hs8)) (Or.inl ⟨rfl, Or.inr (Or.inr (Or.inr (Or.inl rfl))), _, rfl⟩) (hb hby d1_19) hr
  · show Q1_0 Z p1 h0 n0 _ s₁.heap _
    rw [e0]
    exact ⟨(by simp [own_pk, hc3, hc5, hc7, hz2]), N0, rfl⟩
def Q1_1 (Z : State) (p1 : Int32) (h0 : Heap) (n0 : Nat) (v : Option Value) (h : Heap) (L : List Loc) : Prop := v = some (.int (own_pk p1)) ∧ Fr n0 L ∧ h = h0
theorem rm1_1 (l : Launch) {Z : State} {a0 : Array Value} (hw : own_W Z a0) (p1 : Int32) (h0 : Heap) (n0 : Nat) (Z0 : n0 ≤ h0.size) (hc3 : ¬ (((p1 &&& (2147483647 : Int32)) % (65 : Int32)) < (26 : Int32))) (hc5 : ((p1 &&& (2147483647 : Int32)) % (65 : Int32)) < (52 : Int32)) (hc7 : ¬ (((65 : Int32) + (((p1 &&& (2147483647 : Int32)) % (65 : Int32)) - (26 : Int32))) < (0 : Int32))) (hc9 : ((65 : Int32) + (((p1 &&& (2147483647 : Int32)) % (65 : Int32)) - (26 : Int32))) < (65536 : Int32)) :
    own_MF l zm0 c_1 2 (some .char) (own_R 0 0 0 0) #[(.int p1)] Z h0 (Q1_1 Z p1 h0 n0) := by
  refine own_st (L := (lc2 p1)) (own := zs0) (plainFor_of_name pn_0) rfl (fun m => ef_0 m p1) fun p e s m below meth c s₁ Bd hml hZ hh hx hby hown hnm X0 e0 => ?_
  have N0 := Fr.nil n0
  refine own_go (U' := s₁.setTop (mkF m 8 (lc3 p1 ((p1 &&& (2147483647 : Int32)) % (65 : Int32))) [])) (fun t k => oiloadN X0 hx hby d1_0 rfl (X0.ldcInt hx hown (mvT hZ (ww hw 0 rfl)) (g := (mkF m 1 (lc2 p1) [(.int p1)])) rfl (hb hby d1_1) _ (oiand X0 hx hby d1_3 (obipush X0 hx hby d1_4 (oirem X0 hx hby d1_6 (by decide) (oistoreN X0 hx hby d1_7 (lc3 p1 ((p1 &&& (2147483647 : Int32)) % (65 : Int32))) rfl k)))))) ?_
  obtain ⟨z2, hz2⟩ : ∃ z, z = ((p1 &&& (2147483647 : Int32)) % (65 : Int32)) := ⟨_, rfl⟩
  rw [← hz2]
  refine own_go (U' := s₁.setTop (mkF m 11 (lc3 p1 z2) [(.int 26), (.int z2)])) (fun t k => oiloadN X0 hx hby d1_8 rfl (obipush X0 hx hby d1_9 k)) ?_
  have hs4 : ¬ (z2 < (26 : Int32)) := by rw [hz2]; exact hc3
  refine own_go (U' := s₁.setTop (mkF m 23 (lc3 p1 z2) [(.int 52), (.int z2)])) (fun t k => oicY (pc := 11) X0 hx hby d1_11 20 (flt hs4).2.1 (by decide) (oiloadN X0 hx hby d1_20 rfl (obipush X0 hx hby d1_21 k))) ?_
  have hs6 : z2 < (52 : Int32) := by rw [hz2]; exact hc5
  have hs8 : ¬ (((65 : Int32) + (z2 - (26 : Int32))) < (0 : Int32)) := by rw [hz2]; exact hc7
  have hs10 : ((65 : Int32) + (z2 - (26 : Int32))) < (65536 : Int32) := by rw [hz2]; exact hc9
  refine own_go (U' := s₁.setTop (mkF m 34 (lc3 p1 z2) [(.int (((65 : Int32) + (z2 - (26 : Int32))).toUInt32.toUInt16.toUInt32.toInt32))])) (fun t k => oicN X0 hx hby d1_23 (tlt hs6).2.1 (obipush X0 hx hby d1_26 (oiloadN X0 hx hby d1_28 rfl (obipush X0 hx hby d1_29 (oisub X0 hx hby d1_31 (oiadd X0 hx hby d1_32 (oi2c X0 hx hby d1_33 k))))))) ?_
  rw [own_i2c (x := ((65 : Int32) + (z2 - (26 : Int32)))) hs8 hs10]
  obtain ⟨fs, hr, hrun, hended, hW, hsame⟩ := X0.leave (v := some (.int ((65 : Int32) + (z2 - (26 : Int32))))) (fun h => by rw [Bd.returns] at h; cases h)
  refine own_out ⟨_, _, ?_, hrun, hended, _, _, rfl, ?_, ⟨_, rfl⟩, hW, hsame.mono (by decide) (by decide)⟩
  · exact retOut X0 hx Bd.returns (show narrow .char (.int ((65 : Int32) + (z2 - (26 : Int32)))) = _ from congrArg Value.int (own_i2c hs8 hs10)) (Or.inl ⟨rfl, Or.inr (Or.inr (Or.inr (Or.inl rfl))), _, rfl⟩) (hb hby d1_34) hr
  · show Q1_1 Z p1 h0 n0 _ s₁.heap _
    rw [e0]
    exact ⟨(by simp [own_pk, hc3, hc5, hc7, hc9, hz2]), N0, rfl⟩
def Q1_2 (Z : State) (p1 : Int32) (h0 : Heap) (n0 : Nat) (v : Option Value) (h : Heap) (L : List Loc) : Prop := v = some (.int (own_pk p1)) ∧ Fr n0 L ∧ h = h0
theorem rm1_2 (l : Launch) {Z : State} {a0 : Array Value} (hw : own_W Z a0) (p1 : Int32) (h0 : Heap) (n0 : Nat) (Z0 : n0 ≤ h0.size) (hc3 : ¬ (((p1 &&& (2147483647 : Int32)) % (65 : Int32)) < (26 : Int32))) (hc5 : ¬ (((p1 &&& (2147483647 : Int32)) % (65 : Int32)) < (52 : Int32))) (hc7 : ((p1 &&& (2147483647 : Int32)) % (65 : Int32)) < (62 : Int32)) (hc9 : ¬ (((48 : Int32) + (((p1 &&& (2147483647 : Int32)) % (65 : Int32)) - (52 : Int32))) < (0 : Int32))) (hc11 : ((48 : Int32) + (((p1 &&& (2147483647 : Int32)) % (65 : Int32)) - (52 : Int32))) < (65536 : Int32)) :
    own_MF l zm0 c_1 2 (some .char) (own_R 0 0 0 0) #[(.int p1)] Z h0 (Q1_2 Z p1 h0 n0) := by
  refine own_st (L := (lc2 p1)) (own := zs0) (plainFor_of_name pn_0) rfl (fun m => ef_0 m p1) fun p e s m below meth c s₁ Bd hml hZ hh hx hby hown hnm X0 e0 => ?_
  have N0 := Fr.nil n0
  refine own_go (U' := s₁.setTop (mkF m 8 (lc3 p1 ((p1 &&& (2147483647 : Int32)) % (65 : Int32))) [])) (fun t k => oiloadN X0 hx hby d1_0 rfl (X0.ldcInt hx hown (mvT hZ (ww hw 0 rfl)) (g := (mkF m 1 (lc2 p1) [(.int p1)])) rfl (hb hby d1_1) _ (oiand X0 hx hby d1_3 (obipush X0 hx hby d1_4 (oirem X0 hx hby d1_6 (by decide) (oistoreN X0 hx hby d1_7 (lc3 p1 ((p1 &&& (2147483647 : Int32)) % (65 : Int32))) rfl k)))))) ?_
  obtain ⟨z2, hz2⟩ : ∃ z, z = ((p1 &&& (2147483647 : Int32)) % (65 : Int32)) := ⟨_, rfl⟩
  rw [← hz2]
  refine own_go (U' := s₁.setTop (mkF m 11 (lc3 p1 z2) [(.int 26), (.int z2)])) (fun t k => oiloadN X0 hx hby d1_8 rfl (obipush X0 hx hby d1_9 k)) ?_
  have hs4 : ¬ (z2 < (26 : Int32)) := by rw [hz2]; exact hc3
  refine own_go (U' := s₁.setTop (mkF m 23 (lc3 p1 z2) [(.int 52), (.int z2)])) (fun t k => oicY (pc := 11) X0 hx hby d1_11 20 (flt hs4).2.1 (by decide) (oiloadN X0 hx hby d1_20 rfl (obipush X0 hx hby d1_21 k))) ?_
  have hs6 : ¬ (z2 < (52 : Int32)) := by rw [hz2]; exact hc5
  refine own_go (U' := s₁.setTop (mkF m 38 (lc3 p1 z2) [(.int 62), (.int z2)])) (fun t k => oicY (pc := 23) X0 hx hby d1_23 35 (flt hs6).2.1 (by decide) (oiloadN X0 hx hby d1_35 rfl (obipush X0 hx hby d1_36 k))) ?_
  have hs8 : z2 < (62 : Int32) := by rw [hz2]; exact hc7
  have hs10 : ¬ (((48 : Int32) + (z2 - (52 : Int32))) < (0 : Int32)) := by rw [hz2]; exact hc9
  have hs12 : ((48 : Int32) + (z2 - (52 : Int32))) < (65536 : Int32) := by rw [hz2]; exact hc11
  refine own_go (U' := s₁.setTop (mkF m 49 (lc3 p1 z2) [(.int (((48 : Int32) + (z2 - (52 : Int32))).toUInt32.toUInt16.toUInt32.toInt32))])) (fun t k => oicN X0 hx hby d1_38 (tlt hs8).2.1 (obipush X0 hx hby d1_41 (oiloadN X0 hx hby d1_43 rfl (obipush X0 hx hby d1_44 (oisub X0 hx hby d1_46 (oiadd X0 hx hby d1_47 (oi2c X0 hx hby d1_48 k))))))) ?_
  rw [own_i2c (x := ((48 : Int32) + (z2 - (52 : Int32)))) hs10 hs12]
  obtain ⟨fs, hr, hrun, hended, hW, hsame⟩ := X0.leave (v := some (.int ((48 : Int32) + (z2 - (52 : Int32))))) (fun h => by rw [Bd.returns] at h; cases h)
  refine own_out ⟨_, _, ?_, hrun, hended, _, _, rfl, ?_, ⟨_, rfl⟩, hW, hsame.mono (by decide) (by decide)⟩
  · exact retOut X0 hx Bd.returns (show narrow .char (.int ((48 : Int32) + (z2 - (52 : Int32)))) = _ from congrArg Value.int (own_i2c hs10 hs12)) (Or.inl ⟨rfl, Or.inr (Or.inr (Or.inr (Or.inl rfl))), _, rfl⟩) (hb hby d1_49) hr
  · show Q1_2 Z p1 h0 n0 _ s₁.heap _
    rw [e0]
    exact ⟨(by simp [own_pk, hc3, hc5, hc7, hc9, hc11, hz2]), N0, rfl⟩
def Q1_3 (Z : State) (p1 : Int32) (h0 : Heap) (n0 : Nat) (v : Option Value) (h : Heap) (L : List Loc) : Prop := v = some (.int (own_pk p1)) ∧ Fr n0 L ∧ h = h0
theorem rm1_3 (l : Launch) {Z : State} {a0 : Array Value} (hw : own_W Z a0) (p1 : Int32) (h0 : Heap) (n0 : Nat) (Z0 : n0 ≤ h0.size) (hc3 : ¬ (((p1 &&& (2147483647 : Int32)) % (65 : Int32)) < (26 : Int32))) (hc5 : ¬ (((p1 &&& (2147483647 : Int32)) % (65 : Int32)) < (52 : Int32))) (hc7 : ¬ (((p1 &&& (2147483647 : Int32)) % (65 : Int32)) < (62 : Int32))) (hc9 : ((p1 &&& (2147483647 : Int32)) % (65 : Int32)) = (62 : Int32)) :
    own_MF l zm0 c_1 2 (some .char) (own_R 0 0 0 0) #[(.int p1)] Z h0 (Q1_3 Z p1 h0 n0) := by
  refine own_st (L := (lc2 p1)) (own := zs0) (plainFor_of_name pn_0) rfl (fun m => ef_0 m p1) fun p e s m below meth c s₁ Bd hml hZ hh hx hby hown hnm X0 e0 => ?_
  have N0 := Fr.nil n0
  refine own_go (U' := s₁.setTop (mkF m 8 (lc3 p1 ((p1 &&& (2147483647 : Int32)) % (65 : Int32))) [])) (fun t k => oiloadN X0 hx hby d1_0 rfl (X0.ldcInt hx hown (mvT hZ (ww hw 0 rfl)) (g := (mkF m 1 (lc2 p1) [(.int p1)])) rfl (hb hby d1_1) _ (oiand X0 hx hby d1_3 (obipush X0 hx hby d1_4 (oirem X0 hx hby d1_6 (by decide) (oistoreN X0 hx hby d1_7 (lc3 p1 ((p1 &&& (2147483647 : Int32)) % (65 : Int32))) rfl k)))))) ?_
  obtain ⟨z2, hz2⟩ : ∃ z, z = ((p1 &&& (2147483647 : Int32)) % (65 : Int32)) := ⟨_, rfl⟩
  rw [← hz2]
  refine own_go (U' := s₁.setTop (mkF m 11 (lc3 p1 z2) [(.int 26), (.int z2)])) (fun t k => oiloadN X0 hx hby d1_8 rfl (obipush X0 hx hby d1_9 k)) ?_
  have hs4 : ¬ (z2 < (26 : Int32)) := by rw [hz2]; exact hc3
  refine own_go (U' := s₁.setTop (mkF m 23 (lc3 p1 z2) [(.int 52), (.int z2)])) (fun t k => oicY (pc := 11) X0 hx hby d1_11 20 (flt hs4).2.1 (by decide) (oiloadN X0 hx hby d1_20 rfl (obipush X0 hx hby d1_21 k))) ?_
  have hs6 : ¬ (z2 < (52 : Int32)) := by rw [hz2]; exact hc5
  refine own_go (U' := s₁.setTop (mkF m 38 (lc3 p1 z2) [(.int 62), (.int z2)])) (fun t k => oicY (pc := 23) X0 hx hby d1_23 35 (flt hs6).2.1 (by decide) (oiloadN X0 hx hby d1_35 rfl (obipush X0 hx hby d1_36 k))) ?_
  have hs8 : ¬ (z2 < (62 : Int32)) := by rw [hz2]; exact hc7
  refine own_go (U' := s₁.setTop (mkF m 53 (lc3 p1 z2) [(.int 62), (.int z2)])) (fun t k => oicY (pc := 38) X0 hx hby d1_38 50 (flt hs8).2.1 (by decide) (oiloadN X0 hx hby d1_50 rfl (obipush X0 hx hby d1_51 k))) ?_
  have hs10 : z2 = (62 : Int32) := by rw [hz2]; exact hc9
  refine own_go (U' := s₁.setTop (mkF m 58 (lc3 p1 z2) [(.int 46)])) (fun t k => oicN X0 hx hby d1_53 (teq hs10).2 (obipush X0 hx hby d1_56 k)) ?_
  obtain ⟨fs, hr, hrun, hended, hW, hsame⟩ := X0.leave (v := some (.int 46)) (fun h => by rw [Bd.returns] at h; cases h)
  refine own_out ⟨_, _, ?_, hrun, hended, _, _, rfl, ?_, ⟨_, rfl⟩, hW, hsame.mono (by decide) (by decide)⟩
  · exact retN X0 hx (t := .char) Bd.returns (by simp) (hb hby d1_58) hr
  · show Q1_3 Z p1 h0 n0 _ s₁.heap _
    rw [e0]
    exact ⟨(by simp [own_pk, hc3, hc5, hc7, hc9, hz2]), N0, rfl⟩
def Q1_4 (Z : State) (p1 : Int32) (h0 : Heap) (n0 : Nat) (v : Option Value) (h : Heap) (L : List Loc) : Prop := v = some (.int (own_pk p1)) ∧ Fr n0 L ∧ h = h0
theorem rm1_4 (l : Launch) {Z : State} {a0 : Array Value} (hw : own_W Z a0) (p1 : Int32) (h0 : Heap) (n0 : Nat) (Z0 : n0 ≤ h0.size) (hc3 : ¬ (((p1 &&& (2147483647 : Int32)) % (65 : Int32)) < (26 : Int32))) (hc5 : ¬ (((p1 &&& (2147483647 : Int32)) % (65 : Int32)) < (52 : Int32))) (hc7 : ¬ (((p1 &&& (2147483647 : Int32)) % (65 : Int32)) < (62 : Int32))) (hc9 : ¬ (((p1 &&& (2147483647 : Int32)) % (65 : Int32)) = (62 : Int32))) (hc11 : ((p1 &&& (2147483647 : Int32)) % (65 : Int32)) = (63 : Int32)) :
    own_MF l zm0 c_1 2 (some .char) (own_R 0 0 0 0) #[(.int p1)] Z h0 (Q1_4 Z p1 h0 n0) := by
  refine own_st (L := (lc2 p1)) (own := zs0) (plainFor_of_name pn_0) rfl (fun m => ef_0 m p1) fun p e s m below meth c s₁ Bd hml hZ hh hx hby hown hnm X0 e0 => ?_
  have N0 := Fr.nil n0
  refine own_go (U' := s₁.setTop (mkF m 8 (lc3 p1 ((p1 &&& (2147483647 : Int32)) % (65 : Int32))) [])) (fun t k => oiloadN X0 hx hby d1_0 rfl (X0.ldcInt hx hown (mvT hZ (ww hw 0 rfl)) (g := (mkF m 1 (lc2 p1) [(.int p1)])) rfl (hb hby d1_1) _ (oiand X0 hx hby d1_3 (obipush X0 hx hby d1_4 (oirem X0 hx hby d1_6 (by decide) (oistoreN X0 hx hby d1_7 (lc3 p1 ((p1 &&& (2147483647 : Int32)) % (65 : Int32))) rfl k)))))) ?_
  obtain ⟨z2, hz2⟩ : ∃ z, z = ((p1 &&& (2147483647 : Int32)) % (65 : Int32)) := ⟨_, rfl⟩
  rw [← hz2]
  refine own_go (U' := s₁.setTop (mkF m 11 (lc3 p1 z2) [(.int 26), (.int z2)])) (fun t k => oiloadN X0 hx hby d1_8 rfl (obipush X0 hx hby d1_9 k)) ?_
  have hs4 : ¬ (z2 < (26 : Int32)) := by rw [hz2]; exact hc3
  refine own_go (U' := s₁.setTop (mkF m 23 (lc3 p1 z2) [(.int 52), (.int z2)])) (fun t k => oicY (pc := 11) X0 hx hby d1_11 20 (flt hs4).2.1 (by decide) (oiloadN X0 hx hby d1_20 rfl (obipush X0 hx hby d1_21 k))) ?_
  have hs6 : ¬ (z2 < (52 : Int32)) := by rw [hz2]; exact hc5
  refine own_go (U' := s₁.setTop (mkF m 38 (lc3 p1 z2) [(.int 62), (.int z2)])) (fun t k => oicY (pc := 23) X0 hx hby d1_23 35 (flt hs6).2.1 (by decide) (oiloadN X0 hx hby d1_35 rfl (obipush X0 hx hby d1_36 k))) ?_
  have hs8 : ¬ (z2 < (62 : Int32)) := by rw [hz2]; exact hc7
  refine own_go (U' := s₁.setTop (mkF m 53 (lc3 p1 z2) [(.int 62), (.int z2)])) (fun t k => oicY (pc := 38) X0 hx hby d1_38 50 (flt hs8).2.1 (by decide) (oiloadN X0 hx hby d1_50 rfl (obipush X0 hx hby d1_51 k))) ?_
  have hs10 : ¬ (z2 = (62 : Int32)) := by rw [hz2]; exact hc9
  refine own_go (U' := s₁.setTop (mkF m 62 (lc3 p1 z2) [(.int 63), (.int z2)])) (fun t k => oicY (pc := 53) X0 hx hby d1_53 59 (feq hs10).2 (by decide) (oiloadN X0 hx hby d1_59 rfl (obipush X0 hx hby d1_60 k))) ?_
  have hs12 : z2 = (63 : Int32) := by rw [hz2]; exact hc11
  refine own_go (U' := s₁.setTop (mkF m 67 (lc3 p1 z2) [(.int 45)])) (fun t k => oicN X0 hx hby d1_62 (teq hs12).2 (obipush X0 hx hby d1_65 k)) ?_
  obtain ⟨fs, hr, hrun, hended, hW, hsame⟩ := X0.leave (v := some (.int 45)) (fun h => by rw [Bd.returns] at h; cases h)
  refine own_out ⟨_, _, ?_, hrun, hended, _, _, rfl, ?_, ⟨_, rfl⟩, hW, hsame.mono (by decide) (by decide)⟩
  · exact retN X0 hx (t := .char) Bd.returns (by simp) (hb hby d1_67) hr
  · show Q1_4 Z p1 h0 n0 _ s₁.heap _
    rw [e0]
    exact ⟨(by simp [own_pk, hc3, hc5, hc7, hc9, hc11, hz2]), N0, rfl⟩
def Q1_5 (Z : State) (p1 : Int32) (h0 : Heap) (n0 : Nat) (v : Option Value) (h : Heap) (L : List Loc) : Prop := v = some (.int (own_pk p1)) ∧ Fr n0 L ∧ h = h0
theorem rm1_5 (l : Launch) {Z : State} {a0 : Array Value} (hw : own_W Z a0) (p1 : Int32) (h0 : Heap) (n0 : Nat) (Z0 : n0 ≤ h0.size) (hc3 : ¬ (((p1 &&& (2147483647 : Int32)) % (65 : Int32)) < (26 : Int32))) (hc5 : ¬ (((p1 &&& (2147483647 : Int32)) % (65 : Int32)) < (52 : Int32))) (hc7 : ¬ (((p1 &&& (2147483647 : Int32)) % (65 : Int32)) < (62 : Int32))) (hc9 : ¬ (((p1 &&& (2147483647 : Int32)) % (65 : Int32)) = (62 : Int32))) (hc11 : ¬ (((p1 &&& (2147483647 : Int32)) % (65 : Int32)) = (63 : Int32))) :
    own_MF l zm0 c_1 2 (some .char) (own_R 0 0 0 0) #[(.int p1)] Z h0 (Q1_5 Z p1 h0 n0) := by
  refine own_st (L := (lc2 p1)) (own := zs0) (plainFor_of_name pn_0) rfl (fun m => ef_0 m p1) fun p e s m below meth c s₁ Bd hml hZ hh hx hby hown hnm X0 e0 => ?_
  have N0 := Fr.nil n0
  refine own_go (U' := s₁.setTop (mkF m 8 (lc3 p1 ((p1 &&& (2147483647 : Int32)) % (65 : Int32))) [])) (fun t k => oiloadN X0 hx hby d1_0 rfl (X0.ldcInt hx hown (mvT hZ (ww hw 0 rfl)) (g := (mkF m 1 (lc2 p1) [(.int p1)])) rfl (hb hby d1_1) _ (oiand X0 hx hby d1_3 (obipush X0 hx hby d1_4 (oirem X0 hx hby d1_6 (by decide) (oistoreN X0 hx hby d1_7 (lc3 p1 ((p1 &&& (2147483647 : Int32)) % (65 : Int32))) rfl k)))))) ?_
  obtain ⟨z2, hz2⟩ : ∃ z, z = ((p1 &&& (2147483647 : Int32)) % (65 : Int32)) := ⟨_, rfl⟩
  rw [← hz2]
  refine own_go (U' := s₁.setTop (mkF m 11 (lc3 p1 z2) [(.int 26), (.int z2)])) (fun t k => oiloadN X0 hx hby d1_8 rfl (obipush X0 hx hby d1_9 k)) ?_
  have hs4 : ¬ (z2 < (26 : Int32)) := by rw [hz2]; exact hc3
  refine own_go (U' := s₁.setTop (mkF m 23 (lc3 p1 z2) [(.int 52), (.int z2)])) (fun t k => oicY (pc := 11) X0 hx hby d1_11 20 (flt hs4).2.1 (by decide) (oiloadN X0 hx hby d1_20 rfl (obipush X0 hx hby d1_21 k))) ?_
  have hs6 : ¬ (z2 < (52 : Int32)) := by rw [hz2]; exact hc5
  refine own_go (U' := s₁.setTop (mkF m 38 (lc3 p1 z2) [(.int 62), (.int z2)])) (fun t k => oicY (pc := 23) X0 hx hby d1_23 35 (flt hs6).2.1 (by decide) (oiloadN X0 hx hby d1_35 rfl (obipush X0 hx hby d1_36 k))) ?_
  have hs8 : ¬ (z2 < (62 : Int32)) := by rw [hz2]; exact hc7
  refine own_go (U' := s₁.setTop (mkF m 53 (lc3 p1 z2) [(.int 62), (.int z2)])) (fun t k => oicY (pc := 38) X0 hx hby d1_38 50 (flt hs8).2.1 (by decide) (oiloadN X0 hx hby d1_50 rfl (obipush X0 hx hby d1_51 k))) ?_
  have hs10 : ¬ (z2 = (62 : Int32)) := by rw [hz2]; exact hc9
  refine own_go (U' := s₁.setTop (mkF m 62 (lc3 p1 z2) [(.int 63), (.int z2)])) (fun t k => oicY (pc := 53) X0 hx hby d1_53 59 (feq hs10).2 (by decide) (oiloadN X0 hx hby d1_59 rfl (obipush X0 hx hby d1_60 k))) ?_
  have hs12 : ¬ (z2 = (63 : Int32)) := by rw [hz2]; exact hc11
  refine own_go (U' := s₁.setTop (mkF m 70 (lc3 p1 z2) [(.int 95)])) (fun t k => oicY (pc := 62) X0 hx hby d1_62 68 (feq hs12).2 (by decide) (obipush X0 hx hby d1_68 k)) ?_
  obtain ⟨fs, hr, hrun, hended, hW, hsame⟩ := X0.leave (v := some (.int 95)) (fun h => by rw [Bd.returns] at h; cases h)
  refine own_out ⟨_, _, ?_, hrun, hended, _, _, rfl, ?_, ⟨_, rfl⟩, hW, hsame.mono (by decide) (by decide)⟩
  · exact retN X0 hx (t := .char) Bd.returns (by simp) (hb hby d1_70) hr
  · show Q1_5 Z p1 h0 n0 _ s₁.heap _
    rw [e0]
    exact ⟨(by simp [own_pk, hc3, hc5, hc7, hc9, hc11, hz2]), N0, rfl⟩
def Qmg1_6 (Z : State) (p1 : Int32) (h0 : Heap) (n0 : Nat) (v : Option Value) (h : Heap) (L : List Loc) : Prop := v = some (.int (own_pk p1)) ∧ Fr n0 L ∧ h = h0
theorem mg1_6 (l : Launch) {Z : State} {a0 : Array Value} (hw : own_W Z a0) (p1 : Int32) (h0 : Heap) (n0 : Nat) (Z0 : n0 ≤ h0.size) :
    own_MF l zm0 c_1 2 (some .char) (own_R 0 0 0 0) #[(.int p1)] Z h0 (Qmg1_6 Z p1 h0 n0) := by
  by_cases hm1 : ((p1 &&& (2147483647 : Int32)) % (65 : Int32)) < (26 : Int32)
  · exact rm1_0 l hw p1 h0 n0 Z0 hm1 (fun e => by have := Int32.lt_iff_toInt_lt.mp e; have := (by decide : ((97 : Int32)).toInt = 97); have := c_and p1 (2147483647 : Int32) (by decide); have := (by decide : ((2147483647 : Int32)).toInt = 2147483647); have := c_irem (p1 &&& (2147483647 : Int32)) (65 : Int32) 65 (by decide); have := Int.emod_nonneg ((p1 &&& (2147483647 : Int32))).toInt (show (65 : Int) ≠ 0 by decide); have := Int.emod_lt_of_pos ((p1 &&& (2147483647 : Int32))).toInt (show (0 : Int) < 65 by decide); have := c_iadd (97 : Int32) ((p1 &&& (2147483647 : Int32)) % (65 : Int32)); have := rng32 ((97 : Int32) + ((p1 &&& (2147483647 : Int32)) % (65 : Int32))); have := (by decide : ((0 : Int32)).toInt = 0); omega) (Int32.lt_iff_toInt_lt.mpr (by have := (by decide : ((97 : Int32)).toInt = 97); have := c_and p1 (2147483647 : Int32) (by decide); have := (by decide : ((2147483647 : Int32)).toInt = 2147483647); have := c_irem (p1 &&& (2147483647 : Int32)) (65 : Int32) 65 (by decide); have := Int.emod_nonneg ((p1 &&& (2147483647 : Int32))).toInt (show (65 : Int) ≠ 0 by decide); have := Int.emod_lt_of_pos ((p1 &&& (2147483647 : Int32))).toInt (show (0 : Int) < 65 by decide); have := c_iadd (97 : Int32) ((p1 &&& (2147483647 : Int32)) % (65 : Int32)); have := rng32 ((97 : Int32) + ((p1 &&& (2147483647 : Int32)) % (65 : Int32))); have := (by decide : ((65536 : Int32)).toInt = 65536); omega))
  · by_cases hm2 : ((p1 &&& (2147483647 : Int32)) % (65 : Int32)) < (52 : Int32)
    · exact rm1_1 l hw p1 h0 n0 Z0 hm1 hm2 (fun e => by have := Int32.lt_iff_toInt_lt.mp e; have := (by decide : ((65 : Int32)).toInt = 65); have := c_and p1 (2147483647 : Int32) (by decide); have := (by decide : ((2147483647 : Int32)).toInt = 2147483647); have := c_irem (p1 &&& (2147483647 : Int32)) (65 : Int32) 65 (by decide); have := Int.emod_nonneg ((p1 &&& (2147483647 : Int32))).toInt (show (65 : Int) ≠ 0 by decide); have := Int.emod_lt_of_pos ((p1 &&& (2147483647 : Int32))).toInt (show (0 : Int) < 65 by decide); have := (by decide : ((26 : Int32)).toInt = 26); have := c_isub ((p1 &&& (2147483647 : Int32)) % (65 : Int32)) (26 : Int32); have := rng32 (((p1 &&& (2147483647 : Int32)) % (65 : Int32)) - (26 : Int32)); have := c_iadd (65 : Int32) (((p1 &&& (2147483647 : Int32)) % (65 : Int32)) - (26 : Int32)); have := rng32 ((65 : Int32) + (((p1 &&& (2147483647 : Int32)) % (65 : Int32)) - (26 : Int32))); have := (by decide : ((0 : Int32)).toInt = 0); omega) (Int32.lt_iff_toInt_lt.mpr (by have := (by decide : ((65 : Int32)).toInt = 65); have := c_and p1 (2147483647 : Int32) (by decide); have := (by decide : ((2147483647 : Int32)).toInt = 2147483647); have := c_irem (p1 &&& (2147483647 : Int32)) (65 : Int32) 65 (by decide); have := Int.emod_nonneg ((p1 &&& (2147483647 : Int32))).toInt (show (65 : Int) ≠ 0 by decide); have := Int.emod_lt_of_pos ((p1 &&& (2147483647 : Int32))).toInt (show (0 : Int) < 65 by decide); have := (by decide : ((26 : Int32)).toInt = 26); have := c_isub ((p1 &&& (2147483647 : Int32)) % (65 : Int32)) (26 : Int32); have := rng32 (((p1 &&& (2147483647 : Int32)) % (65 : Int32)) - (26 : Int32)); have := c_iadd (65 : Int32) (((p1 &&& (2147483647 : Int32)) % (65 : Int32)) - (26 : Int32)); have := rng32 ((65 : Int32) + (((p1 &&& (2147483647 : Int32)) % (65 : Int32)) - (26 : Int32))); have := (by decide : ((65536 : Int32)).toInt = 65536); omega))
    · by_cases hm3 : ((p1 &&& (2147483647 : Int32)) % (65 : Int32)) < (62 : Int32)
      · exact rm1_2 l hw p1 h0 n0 Z0 hm1 hm2 hm3 (fun e => by have := Int32.lt_iff_toInt_lt.mp e; have : ¬ (((p1 &&& (2147483647 : Int32)) % (65 : Int32))).toInt < ((26 : Int32)).toInt := fun e => hm1 (Int32.lt_iff_toInt_lt.mpr e); have := (by decide : ((48 : Int32)).toInt = 48); have := c_and p1 (2147483647 : Int32) (by decide); have := (by decide : ((2147483647 : Int32)).toInt = 2147483647); have := c_irem (p1 &&& (2147483647 : Int32)) (65 : Int32) 65 (by decide); have := Int.emod_nonneg ((p1 &&& (2147483647 : Int32))).toInt (show (65 : Int) ≠ 0 by decide); have := Int.emod_lt_of_pos ((p1 &&& (2147483647 : Int32))).toInt (show (0 : Int) < 65 by decide); have := (by decide : ((52 : Int32)).toInt = 52); have := c_isub ((p1 &&& (2147483647 : Int32)) % (65 : Int32)) (52 : Int32); have := rng32 (((p1 &&& (2147483647 : Int32)) % (65 : Int32)) - (52 : Int32)); have := c_iadd (48 : Int32) (((p1 &&& (2147483647 : Int32)) % (65 : Int32)) - (52 : Int32)); have := rng32 ((48 : Int32) + (((p1 &&& (2147483647 : Int32)) % (65 : Int32)) - (52 : Int32))); have := (by decide : ((0 : Int32)).toInt = 0); have := (by decide : ((26 : Int32)).toInt = 26); omega) (Int32.lt_iff_toInt_lt.mpr (by have := (by decide : ((48 : Int32)).toInt = 48); have := c_and p1 (2147483647 : Int32) (by decide); have := (by decide : ((2147483647 : Int32)).toInt = 2147483647); have := c_irem (p1 &&& (2147483647 : Int32)) (65 : Int32) 65 (by decide); have := Int.emod_nonneg ((p1 &&& (2147483647 : Int32))).toInt (show (65 : Int) ≠ 0 by decide); have := Int.emod_lt_of_pos ((p1 &&& (2147483647 : Int32))).toInt (show (0 : Int) < 65 by decide); have := (by decide : ((52 : Int32)).toInt = 52); have := c_isub ((p1 &&& (2147483647 : Int32)) % (65 : Int32)) (52 : Int32); have := rng32 (((p1 &&& (2147483647 : Int32)) % (65 : Int32)) - (52 : Int32)); have := c_iadd (48 : Int32) (((p1 &&& (2147483647 : Int32)) % (65 : Int32)) - (52 : Int32)); have := rng32 ((48 : Int32) + (((p1 &&& (2147483647 : Int32)) % (65 : Int32)) - (52 : Int32))); have := (by decide : ((65536 : Int32)).toInt = 65536); omega))
      · by_cases hm4 : ((p1 &&& (2147483647 : Int32)) % (65 : Int32)) = (62 : Int32)
        · exact rm1_3 l hw p1 h0 n0 Z0 hm1 hm2 hm3 hm4
        · by_cases hm5 : ((p1 &&& (2147483647 : Int32)) % (65 : Int32)) = (63 : Int32)
          · exact rm1_4 l hw p1 h0 n0 Z0 hm1 hm2 hm3 hm4 hm5
          · exact rm1_5 l hw p1 h0 n0 Z0 hm1 hm2 hm3 hm4 hm5
def Q6_7 (Z : State) (a1 a2 : Addr) (p3 : Int32) (kc4 : ClassId) (kc11 : ClassId) (h0 : Heap) (n0 : Nat) (v : Option Value) (h : Heap) (L : List Loc) : Prop := v = some (.int 1) ∧ Fr n0 L ∧ Keep h0 h [a2] ∧ Arv Z h a2 kc11 .byte (1 : Int32) [(.int p3)] (.int (0 : Int32))
theorem rm6_7 (l : Launch) {Z : State} {a0 : Array Value} (hw : own_W Z a0) (a1 a2 : Addr) (p3 : Int32) (kc4 : ClassId) (kc11 : ClassId) (h0 : Heap) (n0 : Nat) (Z0 : n0 ≤ h0.size) (F5 : Arv Z h0 a1 kc4 .char (1 : Int32) [(.int p3)] (.int (0 : Int32))) (hc8 : ¬ ((255 : Int32) < p3)) (hc9 : ¬ (p3 < (0 : Int32))) (hc10 : p3 < (128 : Int32)) (F12 : Arv Z h0 a2 kc11 .byte (1 : Int32) [] (.int (0 : Int32))) (g16 : n0 ≤ a2) :
    own_MF l zm1 c_6 7 (some .int) (own_R 0 0 0 0) #[(.ref a1), (.int 0), (.ref a2), (.int 0), (.int 1)] Z h0 (Q6_7 Z a1 a2 p3 kc4 kc11 h0 n0) := by
  refine own_st (L := (lc14 a1 0 a2 0 1)) (own := zs1) (plainFor_of_name pn_1) rfl (fun m => ef_1 m a1 0 a2 0 1) fun p e s m below meth c s₁ Bd hml hZ hh hx hby hown hnm X0 e0 => ?_
  have N0 := Fr.nil n0
  refine own_go (U' := s₁.setTop (mkF m 7 (lc12 a1 0 a2 0 1 0) [(.int 1), (.int 0)])) (fun t k => oiconst X0 hx hby d6_0 (oistore X0 hx hby d6_1 (lc12 a1 0 a2 0 1 0) rfl (oiload X0 hx hby d6_3 rfl (oiload X0 hx hby d6_5 rfl k)))) ?_
  obtain ⟨cl6, Ar6, q6, S6, N6, H6, G6⟩ := id F5
  have hin7 : ¬ ((0 : Int32) < 0 ∨ cl6.slots.size ≤ ((0 : Int32)).toNatClampNeg) := inb_of S6 ⟨by decide, by decide⟩
  have hat7 : cl6.slots[((0 : Int32)).toNatClampNeg]? = some (.int p3) := Has.at H6 hin7 rfl
  refine own_go (U' := s₁.setTop (mkF m 20 (lc13 a1 0 a2 0 1 0 p3) [(.int 255), (.int p3)])) (fun t k => oicN X0 hx hby d6_7 (by decide) (oaloadN X0 hx hby d6_10 rfl rfl (oiloadN X0 hx hby d6_11 rfl (X0.caload hx (j := (0 : Int32)) (v := (.int p3)) (own_at e0 Ar6.1) (State.isArrayOf_alike hZ.alike Ar6.2.1) Ar6.2.2 hin7 hat7 (g := (mkF m 12 (lc12 a1 0 a2 0 1 0) [(.int 0), (.ref a1)])) rfl rfl (hb hby d6_12) _ (oistore X0 hx hby d6_13 (lc13 a1 0 a2 0 1 0 p3) rfl (oiload X0 hx hby d6_15 rfl (osipush X0 hx hby d6_17 k))))))) ?_
  refine own_go (U' := s₁.setTop (mkF m 31 (lc13 a1 0 a2 0 1 0 p3) [(.int (p3.toInt8.toInt32)), (.int 0), (.ref a2)])) (fun t k => oicY (pc := 20) X0 hx hby d6_20 26 (flt hc8).2.2.2 (by decide) (oaloadN X0 hx hby d6_26 rfl rfl (oiloadN X0 hx hby d6_27 rfl (oiload X0 hx hby d6_28 rfl (oi2b X0 hx hby d6_30 k))))) ?_
  rw [own_i2bs (x := p3) hc9 hc10]
  have f13 : Arv Z h0 a2 kc11 .byte (1 : Int32) [(.int 0)] (.int (0 : Int32)) := F12.pad (pad_rep [] (.int (0 : Int32)) 1)
  obtain ⟨cl14, Ar14, q14, S14, N14, H14, G14⟩ := id f13
  have hin15 : ¬ ((0 : Int32) < 0 ∨ cl14.slots.size ≤ ((0 : Int32)).toNatClampNeg) := inb_of S14 ⟨by decide, by decide⟩
  obtain ⟨T15, h15, X15, e15, W15, st15⟩ := stB X0 hx hZ e0 Ar14 (j := (0 : Int32)) hin15 (g := (mkF m 31 (lc13 a1 0 a2 0 1 0 p3) [(.int p3), (.int 0), (.ref a2)])) rfl rfl (hb hby d6_31)
  rw [show nar .byte p3 = p3 from own_i2bs hc9 hc10] at W15
  have N17 := Fr.snoc X15 N0 g16
  have f18 : Arv Z h15 a2 kc11 .byte (1 : Int32) [(.int p3)] (.int (0 : Int32)) := Arv.set Ar14 q14 S14 N14 H14 G14 (own_fitB hc9 hc10) W15 0 rfl (Nat.le_of_ble_eq_true rfl)
  refine own_go (U' := T15.setTop (mkF m 7 (lc13 a1 1 a2 1 1 1 p3) [(.int 1), (.int 1)])) (fun t k => st15 _ (oiinc X15 hx hby d6_32 (lc13 a1 1 a2 0 1 0 p3) rfl rfl (oiinc X15 hx hby d6_35 (lc13 a1 1 a2 1 1 0 p3) rfl rfl (oiinc X15 hx hby d6_38 (lc13 a1 1 a2 1 1 1 p3) rfl rfl (ogoto (pc := 41) X15 hx hby d6_41 3 (by decide) (oiload X15 hx hby d6_3 rfl (oiload X15 hx hby d6_5 rfl k))))))) ?_
  refine own_go (U' := T15.setTop (mkF m 46 (lc13 a1 1 a2 1 1 1 p3) [(.int 1)])) (fun t k => oicY (pc := 7) X15 hx hby d6_7 44 (by decide) (by decide) (oiload X15 hx hby d6_44 rfl k)) ?_
  obtain ⟨fs, hr, hrun, hended, hW, hsame⟩ := X15.leave (v := some (.int 1)) (fun h => by rw [Bd.returns] at h; cases h)
  refine own_out ⟨_, _, ?_, hrun, hended, _, _, rfl, ?_, ⟨_, rfl⟩, hW, hsame.mono (by decide) (by decide)⟩
  · exact retI X15 hx Bd.returns (hb hby d6_46) hr
  · show Q6_7 Z a1 a2 p3 kc4 kc11 h0 n0 _ T15.heap _
    rw [e15]
    exact ⟨rfl, N17, ((Keep.refl h0 [a2]).wr W15 (Or.inl (List.mem_of_getElem? (i := 0) rfl))), f18⟩
def Q5_8 (Z : State) (a1 : Addr) (p5 : Int32) (kc6 : ClassId) (h0 : Heap) (n0 : Nat) (v : Option Value) (h : Heap) (L : List Loc) : Prop := ∃ b2 : Addr, ∃ k2 : ClassId, v = some (.ref b2) ∧ Fr n0 L ∧ Keep h0 h [] ∧ h0.size ≤ b2 ∧ Exa Z h b2 "[B" ∧ Arv Z h b2 k2 .byte (1 : Int32) [(.int p5)] (.int (0 : Int32))
theorem rm5_8 (l : Launch) {Z : State} {a0 : Array Value} (hw : own_W Z a0) (a1 : Addr) (p5 : Int32) (kc6 : ClassId) (h0 : Heap) (n0 : Nat) (Z0 : n0 ≤ h0.size) (F7 : Arv Z h0 a1 kc6 .char (1 : Int32) [(.int p5)] (.int (0 : Int32))) (hc9 : ¬ ((255 : Int32) < p5)) (hc10 : ¬ (p5 < (0 : Int32))) (hc11 : p5 < (128 : Int32)) :
    own_MF l zm2 c_5 6 (some (.array .byte)) (own_R 1 1 1 18) #[(.ref a1), (.int 0), (.int 1)] Z h0 (Q5_8 Z a1 p5 kc6 h0 n0) := by
  refine own_st (L := (lc10 a1 0 1)) (own := zs1) (plainFor_of_name pn_1) rfl (fun m => ef_2 m a1 0 1) fun p e s m below meth c s₁ Bd hml hZ hh hx hby hown hnm X0 e0 => ?_
  have N0 := Fr.nil n0
  obtain ⟨T2, h2, k2, X2, e2, E2, A2, B2, st2⟩ := newPE X0 hx hZ (ww hw 24 rfl) e0 (g := (mkF m 1 (lc10 a1 0 1) [(.int 1)])) rfl (hb hby d5_1) rfl (by decide) (cap := 1) (by decide) (by decide) (by decide) (by decide) (ad := "[B") (by decide)
  obtain ⟨b2, g2⟩ : ∃ z, z = h0.size := ⟨_, rfl⟩
  rw [← g2] at A2 B2 st2
  have f3 : Arv Z h2 b2 k2 .byte (1 : Int32) [] (.int (0 : Int32)) := Arv.new A2 (by decide)
  have f8 : Arv Z h2 a1 kc6 .char (1 : Int32) [(.int p5)] (.int (0 : Int32)) := (F7.ext E2)
  have g12 : n0 ≤ b2 := Nat.le_trans Z0 (Nat.le_of_eq g2.symm)
  have Z_1 : n0 ≤ h2.size := Nat.le_trans Z0 E2.1
  obtain ⟨_, T4, L4, X4, hQ4, st4⟩ := ocallS X2 hx hZ zm1 hown (ww hw 25 rfl) (ww hw 26 rfl) (by decide) (ww hw 27 rfl) (ww hw 22 rfl) e2 (rm6_7 l hw a1 b2 p5 kc6 k2 h2 n0 Z_1 f8 hc9 hc10 hc11 f3 g12) (st := [(.int 1), (.int 0), (.ref b2), (.int 0), (.ref a1)]) rfl 0 rfl (by decide) (pc := 9) (Ls := (lc11 a1 0 1 b2)) hml rfl (lenOf pd_1 rfl) d5_9 hby
  obtain ⟨rfl, N4q, K4, f13⟩ := hQ4
  have N14 := Fr.app N0 N4q
  refine own_go (U' := T4.setTop (mkF m 17 (lc15 a1 0 1 b2 1) [(.int 1), (.int 1)])) (fun t k => oiloadN X0 hx hby d5_0 rfl (st2 _ (oastoreN X2 hx hby d5_3 (lc11 a1 0 1 b2) rfl rfl (oaloadN X2 hx hby d5_4 rfl rfl (oiloadN X2 hx hby d5_5 rfl (oaloadN X2 hx hby d5_6 rfl rfl (oiconst X2 hx hby d5_7 (oiloadN X2 hx hby d5_8 rfl (st4 _ (oistore X4 hx hby d5_12 (lc15 a1 0 1 b2 1) rfl (oiload X4 hx hby d5_14 rfl (oiloadN X4 hx hby d5_16 rfl k)))))))))))) ?_
  refine own_go (U' := T4.setTop (mkF m 58 (lc15 a1 0 1 b2 1) [(.ref b2)])) (fun t k => oicY (pc := 17) X4 hx hby d5_17 57 (by decide) (by decide) (oaloadN X4 hx hby d5_57 rfl rfl k)) ?_
  have f15 : Exa Z T4.heap b2 "[B" := (B2.keep K4)
  obtain ⟨fs, hr, hrun, hended, hW, hsame⟩ := X4.leave (v := some (.ref b2)) (fun h => by rw [Bd.returns] at h; cases h)
  refine own_out ⟨_, _, ?_, hrun, hended, _, _, rfl, ?_, ⟨_, rfl⟩, hW, hsame.mono (by decide) (by decide)⟩
  · exact retOut X4 hx Bd.returns rfl (Or.inr (Or.inr (Or.inr (Or.inr ⟨rfl, rfl, rfl⟩)))) (hb hby d5_58) hr
  · show Q5_8 Z a1 p5 kc6 h0 n0 _ T4.heap _
    exact ⟨b2, k2, rfl, N14, (Keep.trans ((Keep.refl h0 []).ext E2) K4 (allS (Or.inr (Nat.le_of_eq g2.symm)) all0)), (Nat.le_of_eq g2.symm), f15, f13⟩
def Q7_9 (Z : State) (a1 : Addr) (p2 : Int32) (kc3 : ClassId) (h0 : Heap) (n0 : Nat) (v : Option Value) (h : Heap) (L : List Loc) : Prop := v = some (.int 0) ∧ Fr n0 L ∧ h = h0
theorem rm7_9 (l : Launch) {Z : State} {a0 : Array Value} (hw : own_W Z a0) (a1 : Addr) (p2 : Int32) (kc3 : ClassId) (h0 : Heap) (n0 : Nat) (Z0 : n0 ≤ h0.size) (F4 : Arv Z h0 a1 kc3 .byte (1 : Int32) [(.int p2)] (.int (0 : Int32))) :
    own_MF l zm3 c_7 2 (some .byte) (own_R 0 0 0 0) #[(.ref a1), (.int 1)] Z h0 (Q7_9 Z a1 p2 kc3 h0 n0) := by
  refine own_st (L := (lc17 a1 1)) (own := zs1) (plainFor_of_name pn_1) rfl (fun m => ef_3 m a1 1) fun p e s m below meth c s₁ Bd hml hZ hh hx hby hown hnm X0 e0 => ?_
  have N0 := Fr.nil n0
  refine own_go (U' := s₁.setTop (mkF m 2 (lc17 a1 1) [(.ref a1), (.int 1)])) (fun t k => oiloadN X0 hx hby d7_0 rfl (oaloadN X0 hx hby d7_1 rfl rfl k)) ?_
  obtain ⟨cl5, Ar5, q5, S5, N5, H5, G5⟩ := id F4
  refine own_go (fun t k => X0.arraylength hx (own_at e0 Ar5.1) (State.isArrayOf_alike hZ.alike Ar5.2.1) (g := (mkF m 2 (lc17 a1 1) [(.ref a1), (.int 1)])) rfl rfl (hb hby d7_2) _ k) ?_
  rw [len_of S5 N5]
  refine own_go (U' := s₁.setTop (mkF m 8 (lc17 a1 1) [(.int 0)])) (fun t k => oisub X0 hx hby d7_3 (obipush X0 hx hby d7_4 (oiushr X0 hx hby d7_6 (oi2b X0 hx hby d7_7 k)))) ?_
  obtain ⟨fs, hr, hrun, hended, hW, hsame⟩ := X0.leave (v := some (.int 0)) (fun h => by rw [Bd.returns] at h; cases h)
  refine own_out ⟨_, _, ?_, hrun, hended, _, _, rfl, ?_, ⟨_, rfl⟩, hW, hsame.mono (by decide) (by decide)⟩
  · exact retN X0 hx (t := .byte) Bd.returns (by simp) (hb hby d7_8) hr
  · show Q7_9 Z a1 p2 kc3 h0 n0 _ s₁.heap _
    rw [e0]
    exact ⟨rfl, N0, rfl⟩
def Q3_10 (Z : State) (a1 a2 : Addr) (p4 p9 : Int32) (kc10 : ClassId) (h0 : Heap) (n0 : Nat) (v : Option Value) (h : Heap) (L : List Loc) : Prop := ∃ b15 : Addr, ∃ k16 : ClassId, v = none ∧ Fr n0 L ∧ Keep h0 h [a1] ∧ h0.size ≤ b15 ∧ Fld Z h a1 zs6 "coder" "B" (.int 0) ∧ Fld Z h a1 zs6 "value" "[B" (.ref b15) ∧ Exa Z h b15 "[B" ∧ Arv Z h b15 k16 .byte (1 : Int32) [(.int p9)] (.int (0 : Int32))
theorem rm3_10 (l : Launch) {Z : State} {a0 : Array Value} (hw : own_W Z a0) (a1 a2 : Addr) (p4 p9 : Int32) (kc10 : ClassId) (h0 : Heap) (n0 : Nat) (Z0 : n0 ≤ h0.size) (F5 : Sta Z h0 zs6 zs7 "Z" (.int p4)) (hc7 : ¬ (p4 = (0 : Int32))) (F11 : Arv Z h0 a2 kc10 .char (1 : Int32) [(.int p9)] (.int (0 : Int32))) (hc12 : ¬ ((255 : Int32) < p9)) (hc13 : ¬ (p9 < (0 : Int32))) (hc14 : p9 < (128 : Int32)) (F23 : Fld Z h0 a1 zs6 "coder" "B" (.int 0)) (F24 : Fld Z h0 a1 zs6 "value" "[B" .null) (F26 : Exa Z h0 a1 zs6) (g29 : n0 ≤ a1) :
    own_MF l zm4 c_3 6 none (own_R 2 1 1 35) #[(.ref a1), (.ref a2), (.int 0), (.int 1), .null] Z h0 (Q3_10 Z a1 a2 p4 p9 kc10 h0 n0) := by
  refine own_st (L := (lc9 a1 a2 0 1)) (own := zs6) (plainFor_of_name pn_2) rfl (fun m => ef_4 m a1 a2 0 1) fun p e s m below meth c s₁ Bd hml hZ hh hx hby hown hnm X0 e0 => ?_
  have N0 := Fr.nil n0
  obtain ⟨T3, X3, e3, st3⟩ := initO X0 hx hZ hown (ww hw 16 rfl) (ww hw 17 rfl) (ww hw 18 rfl) e0 (g := (mkF m 1 (lc9 a1 a2 0 1) [(.ref a1)])) rfl (by rw [hml]; rfl) rfl (hb hby d3_1) (by decide) (W := 0) (by show 2 * 0 + _ ≤ _; exact Nat.le_of_eq rfl) (by decide)
  refine own_go (U' := T3.setTop (mkF m 5 (lc9 a1 a2 0 1) [(.int 1)])) (fun t k => oaloadN X0 hx hby d3_0 rfl rfl (st3 _ (oiloadN X3 hx hby d3_4 rfl k))) ?_
  obtain ⟨T6, X6, e6, st6⟩ := getS2 X3 hx hZ hown (host := "") (Or.inl (ww hw 19 rfl)) Via.refl e3 F5 (g := (mkF m 27 (lc9 a1 a2 0 1) [])) rfl (hb hby d3_27)
  refine own_go (U' := T6.setTop (mkF m 30 (lc9 a1 a2 0 1) [(.int p4)])) (fun t k => oifY (pc := 5) X3 hx hby d3_5 27 (by decide) (by decide) (st6 _ k)) ?_
  obtain ⟨_, T8, L8, X8, hQ8, st8⟩ := ocallS X6 hx hZ zm2 hown (ww hw 20 rfl) (ww hw 21 rfl) (by decide) (ww hw 23 rfl) (ww hw 22 rfl) e6 (rm5_8 l hw a2 p9 kc10 h0 n0 Z0 F11 hc12 hc13 hc14) (st := [(.int 1), (.int 0), (.ref a2)]) rfl 0 rfl (by decide) (pc := 36) (Ls := (lc9 a1 a2 0 1)) hml rfl (lenOf pd_2 rfl) d3_36 hby
  obtain ⟨b15, k16, rfl, N8q, K8, sz17, f18, f19⟩ := hQ8
  have N20 := Fr.app N0 N8q
  have Z_1 : n0 ≤ T8.heap.size := Nat.le_trans Z0 K8.1
  obtain ⟨_, T21, L21, X21, hQ21, st21⟩ := ocallS X8 hx hZ zm3 hown (ww hw 28 rfl) (ww hw 29 rfl) (by decide) (ww hw 30 rfl) (ww hw 22 rfl) rfl (rm7_9 l hw b15 p9 k16 T8.heap n0 Z_1 f19) (st := [(.int 1), (.ref b15), (.ref a1)]) rfl 1 rfl (by decide) (pc := 45) (Ls := (lc16 a1 a2 0 1 b15)) hml rfl (lenOf pd_3 rfl) d3_45 hby
  obtain ⟨rfl, N21q, e21⟩ := hQ21
  have N22 := Fr.app N20 N21q
  have f25 : Fld Z T8.heap a1 zs6 "coder" "B" (.int 0) := (F23.keep K8 nin0)
  have f27 : Exa Z T8.heap a1 zs6 := (F26.keep K8)
  obtain ⟨T28, h28, X28, e28, W28, st28⟩ := putFN X21 hx hZ hown (ww hw 31 rfl) Via.refl e21 f25 f27 (Or.inr ⟨(ww hw 32 rfl), rfl, hnm⟩) (ww hw 7 rfl) (ty := .byte) (v' := (.int 0)) (by decide) rfl (by decide) (g := (mkF m 48 (lc16 a1 a2 0 1 b15) [(.int 0), (.ref a1)])) rfl rfl (hb hby d3_48)
  have N30 := Fr.snoc X28 N22 g29
  have f31 : Fld Z h28 a1 zs6 "coder" "B" (.int 0) := Fld.same W28 f25
  have f32 : Fld Z h28 a1 zs6 "value" "[B" .null := (Fld.other W28 (F24.keep K8 nin0) (Or.inr (slot_ne (Or.inr (ww hw 34 rfl)) (Or.inr (ww hw 32 rfl)) (by decide) (t := (.array .byte)) (t' := .byte) (by decide) (by decide))))
  have f33 : Exa Z h28 a1 zs6 := (Exa.wr W28 f27)
  obtain ⟨T34, h34, X34, e34, W34, st34⟩ := putF X28 hx hZ hown (host := "") (Or.inl (ww hw 33 rfl)) Via.refl e28 f32 f33 (Or.inr ⟨(ww hw 34 rfl), rfl, hnm⟩) (ww hw 7 rfl) (ty := (.array .byte)) (by decide) rfl rfl (g := (mkF m 54 (lc16 a1 a2 0 1 b15) [(.ref b15), (.ref a1)])) rfl rfl (hb hby d3_54)
  have N35 := Fr.snoc X34 N30 g29
  have f36 : Fld Z h34 a1 zs6 "value" "[B" (.ref b15) := Fld.same W34 f32
  refine own_go (U' := T34.setTop (mkF m 57 (lc16 a1 a2 0 1 b15) [])) (fun t k => oifN X6 hx hby d3_30 ((if0 _ _).trans (feq hc7).1) (oaloadN X6 hx hby d3_33 rfl rfl (oiloadN X6 hx hby d3_34 rfl (oiloadN X6 hx hby d3_35 rfl (st8 _ (oastore X8 hx hby d3_39 (lc16 a1 a2 0 1 b15) rfl rfl (oaloadN X8 hx hby d3_41 rfl rfl (oaload X8 hx hby d3_42 rfl rfl (oiloadN X8 hx hby d3_44 rfl (st21 _ (st28 _ (oaloadN X28 hx hby d3_51 rfl rfl (oaload X28 hx hby d3_52 rfl rfl (st34 _ k)))))))))))))) ?_
  have f37 : Fld Z h34 a1 zs6 "coder" "B" (.int 0) := (Fld.other W34 f31 (Or.inr (slot_ne (Or.inr (ww hw 32 rfl)) (Or.inr (ww hw 34 rfl)) (by decide) (t := .byte) (t' := (.array .byte)) (by decide) (by decide))))
  have f38 : Exa Z h34 b15 "[B" := (Exa.wr W34 (Exa.wr W28 f18))
  have ne39 : a1 ≠ b15 := Nat.ne_of_lt (nlt (F23.lt) sz17)
  have f40 : Arv Z h34 b15 k16 .byte (1 : Int32) [(.int p9)] (.int (0 : Int32)) := ((f19.other W28 (Ne.symm ne39)).other W34 (Ne.symm ne39))
  obtain ⟨fs, hr, hrun, hended, hW, hsame⟩ := X34.leave (v := none) (fun _ => rfl)
  refine own_out ⟨_, _, ?_, hrun, hended, _, _, rfl, ?_, ⟨_, rfl⟩, hW, hsame.mono (by decide) (by decide)⟩
  · exact X34.returnOut hx Bd.returns (hb hby d3_57) hr
  · show Q3_10 Z a1 a2 p4 p9 kc10 h0 n0 _ T34.heap _
    rw [e34]
    exact ⟨b15, k16, rfl, N35, (((Keep.trans (Keep.refl h0 [a1]) K8 all0).wr W28 (Or.inl (List.mem_of_getElem? (i := 0) rfl))).wr W34 (Or.inl (List.mem_of_getElem? (i := 0) rfl))), sz17, f37, f36, f38, f40⟩
def Q2_11 (Z : State) (a1 a2 : Addr) (p3 : Int32) (kc4 : ClassId) (p8 : Int32) (h0 : Heap) (n0 : Nat) (v : Option Value) (h : Heap) (L : List Loc) : Prop := ∃ b18 : Addr, ∃ k19 : ClassId, v = none ∧ Fr n0 L ∧ Keep h0 h [a1] ∧ h0.size ≤ b18 ∧ Fld Z h a1 zs6 "coder" "B" (.int 0) ∧ Fld Z h a1 zs6 "value" "[B" (.ref b18) ∧ Exa Z h b18 "[B" ∧ Arv Z h b18 k19 .byte (1 : Int32) [(.int p3)] (.int (0 : Int32))
theorem rm2_11 (l : Launch) {Z : State} {a0 : Array Value} (hw : own_W Z a0) (a1 a2 : Addr) (p3 : Int32) (kc4 : ClassId) (p8 : Int32) (h0 : Heap) (n0 : Nat) (Z0 : n0 ≤ h0.size) (F5 : Arv Z h0 a2 kc4 .char (1 : Int32) [(.int p3)] (.int (0 : Int32))) (F9 : Sta Z h0 zs6 zs7 "Z" (.int p8)) (hc10 : ¬ (p8 = (0 : Int32))) (hc11 : ¬ ((255 : Int32) < p3)) (hc12 : ¬ (p3 < (0 : Int32))) (hc13 : p3 < (128 : Int32)) (F14 : Fld Z h0 a1 zs6 "coder" "B" (.int 0)) (F15 : Fld Z h0 a1 zs6 "value" "[B" .null) (F16 : Exa Z h0 a1 zs6) (g17 : n0 ≤ a1) :
    own_MF l zm5 c_2 2 none (own_R 3 1 1 52) #[(.ref a1), (.ref a2)] Z h0 (Q2_11 Z a1 a2 p3 kc4 p8 h0 n0) := by
  refine own_st (L := (lc8 a1 a2)) (own := zs6) (plainFor_of_name pn_2) rfl (fun m => ef_5 m a1 a2) fun p e s m below meth c s₁ Bd hml hZ hh hx hby hown hnm X0 e0 => ?_
  have N0 := Fr.nil n0
  refine own_go (U' := s₁.setTop (mkF m 4 (lc8 a1 a2) [(.ref a2), (.int 0), (.ref a2), (.ref a1)])) (fun t k => oaloadN X0 hx hby d2_0 rfl rfl (oaloadN X0 hx hby d2_1 rfl rfl (oiconst X0 hx hby d2_2 (oaloadN X0 hx hby d2_3 rfl rfl k)))) ?_
  obtain ⟨cl6, Ar6, q6, S6, N6, H6, G6⟩ := id F5
  refine own_go (fun t k => X0.arraylength hx (own_at e0 Ar6.1) (State.isArrayOf_alike hZ.alike Ar6.2.1) (g := (mkF m 4 (lc8 a1 a2) [(.ref a2), (.int 0), (.ref a2), (.ref a1)])) rfl rfl (hb hby d2_4) _ k) ?_
  rw [len_of S6 N6]
  obtain ⟨_, T7, L7, X7, hQ7, st7⟩ := ocallI X0 hx hZ zm4 rfl hown (ww hw 12 rfl) (ww hw 13 rfl) (by decide) (ww hw 15 rfl) (ww hw 8 rfl) e0 (rm3_10 l hw a1 a2 p8 p3 kc4 h0 n0 Z0 F9 hc10 F5 hc11 hc12 hc13 F14 F15 F16 g17) (st := [.null, (.int 1), (.int 0), (.ref a2), (.ref a1)]) rfl 0 rfl (by decide) (pc := 6) (Ls := (lc8 a1 a2)) hml rfl (lenOf pd_4 rfl) d2_6 hby
  obtain ⟨b18, k19, rfl, N7q, K7, sz20, f21, f22, f23, f24⟩ := hQ7
  have N25 := Fr.app N0 N7q
  refine own_go (U' := T7.setTop (mkF m 9 (lc8 a1 a2) [])) (fun t k => onull X0 hx hby d2_5 (st7 _ k)) ?_
  obtain ⟨fs, hr, hrun, hended, hW, hsame⟩ := X7.leave (v := none) (fun _ => rfl)
  refine own_out ⟨_, _, ?_, hrun, hended, _, _, rfl, ?_, ⟨_, rfl⟩, hW, hsame.mono (by decide) (by decide)⟩
  · exact X7.returnOut hx Bd.returns (hb hby d2_9) hr
  · show Q2_11 Z a1 a2 p3 kc4 p8 h0 n0 _ T7.heap _
    exact ⟨b18, k19, rfl, N25, (Keep.trans (Keep.refl h0 [a1]) K7 (allS (Or.inl (List.mem_of_getElem? (i := 0) rfl)) all0)), sz20, f21, f22, f23, f24⟩
def Q9_12 (Z : State) (a1 a2 : Addr) (p3 : Int32) (kc4 : ClassId) (kc7 : ClassId) (h0 : Heap) (n0 : Nat) (v : Option Value) (h : Heap) (L : List Loc) : Prop := v = some (.int 1) ∧ Fr n0 L ∧ h = h0
theorem rm9_12 (l : Launch) {Z : State} {a0 : Array Value} (hw : own_W Z a0) (a1 a2 : Addr) (p3 : Int32) (kc4 : ClassId) (kc7 : ClassId) (h0 : Heap) (n0 : Nat) (Z0 : n0 ≤ h0.size) (F5 : Arv Z h0 a1 kc4 .byte (1 : Int32) [(.int p3)] (.int (0 : Int32))) (F8 : Arv Z h0 a2 kc7 .byte (1 : Int32) [(.int 46)] (.int (0 : Int32))) (hc15 : p3 = (46 : Int32)) :
    own_MF l zm6 c_9 3 (some .boolean) (own_R 0 0 0 0) #[(.ref a1), (.ref a2)] Z h0 (Q9_12 Z a1 a2 p3 kc4 kc7 h0 n0) := by
  refine own_st (L := (lc19 a1 a2)) (own := zs9) (plainFor_of_name pn_3) rfl (fun m => ef_6 m a1 a2) fun p e s m below meth c s₁ Bd hml hZ hh hx hby hown hnm X0 e0 => ?_
  have N0 := Fr.nil n0
  refine own_go (U' := s₁.setTop (mkF m 1 (lc19 a1 a2) [(.ref a1)])) (fun t k => oaloadN X0 hx hby d9_0 rfl rfl k) ?_
  obtain ⟨cl6, Ar6, q6, S6, N6, H6, G6⟩ := id F5
  refine own_go (fun t k => X0.arraylength hx (own_at e0 Ar6.1) (State.isArrayOf_alike hZ.alike Ar6.2.1) (g := (mkF m 1 (lc19 a1 a2) [(.ref a1)])) rfl rfl (hb hby d9_1) _ k) ?_
  rw [len_of S6 N6]
  refine own_go (U' := s₁.setTop (mkF m 3 (lc19 a1 a2) [(.ref a2), (.int 1)])) (fun t k => oaloadN X0 hx hby d9_2 rfl rfl k) ?_
  obtain ⟨cl9, Ar9, q9, S9, N9, H9, G9⟩ := id F8
  refine own_go (fun t k => X0.arraylength hx (own_at e0 Ar9.1) (State.isArrayOf_alike hZ.alike Ar9.2.1) (g := (mkF m 3 (lc19 a1 a2) [(.ref a2), (.int 1)])) rfl rfl (hb hby d9_3) _ k) ?_
  rw [len_of S9 N9]
  refine own_go (U' := s₁.setTop (mkF m 11 (lc21 a1 a2 0) [(.ref a1), (.int 0)])) (fun t k => oicN X0 hx hby d9_4 (by decide) (oiconst X0 hx hby d9_7 (oistoreN X0 hx hby d9_8 (lc21 a1 a2 0) rfl (oiloadN X0 hx hby d9_9 rfl (oaloadN X0 hx hby d9_10 rfl rfl k))))) ?_
  obtain ⟨cl10, Ar10, q10, S10, N10, H10, G10⟩ := id F5
  refine own_go (fun t k => X0.arraylength hx (own_at e0 Ar10.1) (State.isArrayOf_alike hZ.alike Ar10.2.1) (g := (mkF m 11 (lc21 a1 a2 0) [(.ref a1), (.int 0)])) rfl rfl (hb hby d9_11) _ k) ?_
  rw [len_of S10 N10]
  obtain ⟨cl11, Ar11, q11, S11, N11, H11, G11⟩ := id F5
  have hin12 : ¬ ((0 : Int32) < 0 ∨ cl11.slots.size ≤ ((0 : Int32)).toNatClampNeg) := inb_of S11 ⟨by decide, by decide⟩
  have hat12 : cl11.slots[((0 : Int32)).toNatClampNeg]? = some (.int p3) := Has.at H11 hin12 rfl
  obtain ⟨cl13, Ar13, q13, S13, N13, H13, G13⟩ := id F8
  have hin14 : ¬ ((0 : Int32) < 0 ∨ cl13.slots.size ≤ ((0 : Int32)).toNatClampNeg) := inb_of S13 ⟨by decide, by decide⟩
  have hat14 : cl13.slots[((0 : Int32)).toNatClampNeg]? = some (.int 46) := Has.at H13 hin14 rfl
  refine own_go (U' := s₁.setTop (mkF m 21 (lc21 a1 a2 0) [(.int 46), (.int p3)])) (fun t k => oicN X0 hx hby d9_12 (by decide) (oaloadN X0 hx hby d9_15 rfl rfl (oiloadN X0 hx hby d9_16 rfl (X0.baloadBytes hx (j := (0 : Int32)) (v := (.int p3)) (own_at e0 Ar11.1) (State.isArrayOf_alike hZ.alike Ar11.2.1) Ar11.2.2 hin12 hat12 (g := (mkF m 17 (lc21 a1 a2 0) [(.int 0), (.ref a1)])) rfl rfl (hb hby d9_17) _ (oaloadN X0 hx hby d9_18 rfl rfl (oiloadN X0 hx hby d9_19 rfl (X0.baloadBytes hx (j := (0 : Int32)) (v := (.int 46)) (own_at e0 Ar13.1) (State.isArrayOf_alike hZ.alike Ar13.2.1) Ar13.2.2 hin14 hat14 (g := (mkF m 20 (lc21 a1 a2 0) [(.int 0), (.ref a2), (.int p3)])) rfl rfl (hb hby d9_20) _ k))))))) ?_
  refine own_go (U' := s₁.setTop (mkF m 11 (lc21 a1 a2 1) [(.ref a1), (.int 1)])) (fun t k => oicY (pc := 21) X0 hx hby d9_21 26 (teq hc15).1 (by decide) (oiinc X0 hx hby d9_26 (lc21 a1 a2 1) rfl rfl (ogoto (pc := 29) X0 hx hby d9_29 9 (by decide) (oiloadN X0 hx hby d9_9 rfl (oaloadN X0 hx hby d9_10 rfl rfl k))))) ?_
  obtain ⟨cl16, Ar16, q16, S16, N16, H16, G16⟩ := id F5
  refine own_go (fun t k => X0.arraylength hx (own_at e0 Ar16.1) (State.isArrayOf_alike hZ.alike Ar16.2.1) (g := (mkF m 11 (lc21 a1 a2 1) [(.ref a1), (.int 1)])) rfl rfl (hb hby d9_11) _ k) ?_
  rw [len_of S16 N16]
  refine own_go (U' := s₁.setTop (mkF m 33 (lc21 a1 a2 1) [(.int 1)])) (fun t k => oicY (pc := 12) X0 hx hby d9_12 32 (by decide) (by decide) (oiconst X0 hx hby d9_32 k)) ?_
  obtain ⟨fs, hr, hrun, hended, hW, hsame⟩ := X0.leave (v := some (.int 1)) (fun h => by rw [Bd.returns] at h; cases h)
  refine own_out ⟨_, _, ?_, hrun, hended, _, _, rfl, ?_, ⟨_, rfl⟩, hW, hsame.mono (by decide) (by decide)⟩
  · exact retN X0 hx (t := .boolean) Bd.returns (by simp) (hb hby d9_33) hr
  · show Q9_12 Z a1 a2 p3 kc4 kc7 h0 n0 _ s₁.heap _
    rw [e0]
    exact ⟨rfl, N0, rfl⟩
def Q9_13 (Z : State) (a1 a2 : Addr) (p3 : Int32) (kc4 : ClassId) (kc7 : ClassId) (h0 : Heap) (n0 : Nat) (v : Option Value) (h : Heap) (L : List Loc) : Prop := v = some (.int 0) ∧ Fr n0 L ∧ h = h0
theorem rm9_13 (l : Launch) {Z : State} {a0 : Array Value} (hw : own_W Z a0) (a1 a2 : Addr) (p3 : Int32) (kc4 : ClassId) (kc7 : ClassId) (h0 : Heap) (n0 : Nat) (Z0 : n0 ≤ h0.size) (F5 : Arv Z h0 a1 kc4 .byte (1 : Int32) [(.int p3)] (.int (0 : Int32))) (F8 : Arv Z h0 a2 kc7 .byte (1 : Int32) [(.int 46)] (.int (0 : Int32))) (hc15 : ¬ (p3 = (46 : Int32))) :
    own_MF l zm6 c_9 3 (some .boolean) (own_R 0 0 0 0) #[(.ref a1), (.ref a2)] Z h0 (Q9_13 Z a1 a2 p3 kc4 kc7 h0 n0) := by
  refine own_st (L := (lc19 a1 a2)) (own := zs9) (plainFor_of_name pn_3) rfl (fun m => ef_6 m a1 a2) fun p e s m below meth c s₁ Bd hml hZ hh hx hby hown hnm X0 e0 => ?_
  have N0 := Fr.nil n0
  refine own_go (U' := s₁.setTop (mkF m 1 (lc19 a1 a2) [(.ref a1)])) (fun t k => oaloadN X0 hx hby d9_0 rfl rfl k) ?_
  obtain ⟨cl6, Ar6, q6, S6, N6, H6, G6⟩ := id F5
  refine own_go (fun t k => X0.arraylength hx (own_at e0 Ar6.1) (State.isArrayOf_alike hZ.alike Ar6.2.1) (g := (mkF m 1 (lc19 a1 a2) [(.ref a1)])) rfl rfl (hb hby d9_1) _ k) ?_
  rw [len_of S6 N6]
  refine own_go (U' := s₁.setTop (mkF m 3 (lc19 a1 a2) [(.ref a2), (.int 1)])) (fun t k => oaloadN X0 hx hby d9_2 rfl rfl k) ?_
  obtain ⟨cl9, Ar9, q9, S9, N9, H9, G9⟩ := id F8
  refine own_go (fun t k => X0.arraylength hx (own_at e0 Ar9.1) (State.isArrayOf_alike hZ.alike Ar9.2.1) (g := (mkF m 3 (lc19 a1 a2) [(.ref a2), (.int 1)])) rfl rfl (hb hby d9_3) _ k) ?_
  rw [len_of S9 N9]
  refine own_go (U' := s₁.setTop (mkF m 11 (lc21 a1 a2 0) [(.ref a1), (.int 0)])) (fun t k => oicN X0 hx hby d9_4 (by decide) (oiconst X0 hx hby d9_7 (oistoreN X0 hx hby d9_8 (lc21 a1 a2 0) rfl (oiloadN X0 hx hby d9_9 rfl (oaloadN X0 hx hby d9_10 rfl rfl k))))) ?_
  obtain ⟨cl10, Ar10, q10, S10, N10, H10, G10⟩ := id F5
  refine own_go (fun t k => X0.arraylength hx (own_at e0 Ar10.1) (State.isArrayOf_alike hZ.alike Ar10.2.1) (g := (mkF m 11 (lc21 a1 a2 0) [(.ref a1), (.int 0)])) rfl rfl (hb hby d9_11) _ k) ?_
  rw [len_of S10 N10]
  obtain ⟨cl11, Ar11, q11, S11, N11, H11, G11⟩ := id F5
  have hin12 : ¬ ((0 : Int32) < 0 ∨ cl11.slots.size ≤ ((0 : Int32)).toNatClampNeg) := inb_of S11 ⟨by decide, by decide⟩
  have hat12 : cl11.slots[((0 : Int32)).toNatClampNeg]? = some (.int p3) := Has.at H11 hin12 rfl
  obtain ⟨cl13, Ar13, q13, S13, N13, H13, G13⟩ := id F8
  have hin14 : ¬ ((0 : Int32) < 0 ∨ cl13.slots.size ≤ ((0 : Int32)).toNatClampNeg) := inb_of S13 ⟨by decide, by decide⟩
  have hat14 : cl13.slots[((0 : Int32)).toNatClampNeg]? = some (.int 46) := Has.at H13 hin14 rfl
  refine own_go (U' := s₁.setTop (mkF m 21 (lc21 a1 a2 0) [(.int 46), (.int p3)])) (fun t k => oicN X0 hx hby d9_12 (by decide) (oaloadN X0 hx hby d9_15 rfl rfl (oiloadN X0 hx hby d9_16 rfl (X0.baloadBytes hx (j := (0 : Int32)) (v := (.int p3)) (own_at e0 Ar11.1) (State.isArrayOf_alike hZ.alike Ar11.2.1) Ar11.2.2 hin12 hat12 (g := (mkF m 17 (lc21 a1 a2 0) [(.int 0), (.ref a1)])) rfl rfl (hb hby d9_17) _ (oaloadN X0 hx hby d9_18 rfl rfl (oiloadN X0 hx hby d9_19 rfl (X0.baloadBytes hx (j := (0 : Int32)) (v := (.int 46)) (own_at e0 Ar13.1) (State.isArrayOf_alike hZ.alike Ar13.2.1) Ar13.2.2 hin14 hat14 (g := (mkF m 20 (lc21 a1 a2 0) [(.int 0), (.ref a2), (.int p3)])) rfl rfl (hb hby d9_20) _ k))))))) ?_
  refine own_go (U' := s₁.setTop (mkF m 25 (lc21 a1 a2 0) [(.int 0)])) (fun t k => oicN X0 hx hby d9_21 (feq hc15).1 (oiconst X0 hx hby d9_24 k)) ?_
  obtain ⟨fs, hr, hrun, hended, hW, hsame⟩ := X0.leave (v := some (.int 0)) (fun h => by rw [Bd.returns] at h; cases h)
  refine own_out ⟨_, _, ?_, hrun, hended, _, _, rfl, ?_, ⟨_, rfl⟩, hW, hsame.mono (by decide) (by decide)⟩
  · exact retN X0 hx (t := .boolean) Bd.returns (by simp) (hb hby d9_25) hr
  · show Q9_13 Z a1 a2 p3 kc4 kc7 h0 n0 _ s₁.heap _
    rw [e0]
    exact ⟨rfl, N0, rfl⟩
def Q8_14 (Z : State) (a1 a2 : Addr) (p7 : Int32) (a15 a18 : Addr) (p22 : Int32) (kc23 : ClassId) (kc25 : ClassId) (h0 : Heap) (n0 : Nat) (v : Option Value) (h : Heap) (L : List Loc) : Prop := v = some (.int (own_dot1 p22)) ∧ Fr n0 L ∧ h = h0
theorem rm8_14 (l : Launch) {Z : State} {a0 : Array Value} (hw : own_W Z a0) (a1 a2 : Addr) (p7 : Int32) (a15 a18 : Addr) (p22 : Int32) (kc23 : ClassId) (kc25 : ClassId) (h0 : Heap) (n0 : Nat) (Z0 : n0 ≤ h0.size) (ha3 : a1 ≠ a2) (F4 : Exa Z h0 a2 zs6) (F8 : Sta Z h0 zs6 zs7 "Z" (.int p7)) (hc10 : ¬ (p7 = (0 : Int32))) (F11 : Fld Z h0 a1 zs6 "coder" "B" (.int 0)) (F13 : Fld Z h0 a2 zs6 "coder" "B" (.int 0)) (F16 : Fld Z h0 a1 zs6 "value" "[B" (.ref a15)) (F19 : Fld Z h0 a2 zs6 "value" "[B" (.ref a18)) (F24 : Arv Z h0 a15 kc23 .byte (1 : Int32) [(.int p22)] (.int (0 : Int32))) (F26 : Arv Z h0 a18 kc25 .byte (1 : Int32) [(.int 46)] (.int (0 : Int32))) (hc27 : p22 = (46 : Int32)) :
    own_MF l zm7 c_8 3 (some .boolean) (own_R 1 0 0 14) #[(.ref a1), (.ref a2)] Z h0 (Q8_14 Z a1 a2 p7 a15 a18 p22 kc23 kc25 h0 n0) := by
  refine own_st (L := (lc19 a1 a2)) (own := zs6) (plainFor_of_name pn_2) rfl (fun m => ef_6 m a1 a2) fun p e s m below meth c s₁ Bd hml hZ hh hx hby hown hnm X0 e0 => ?_
  have N0 := Fr.nil n0
  obtain ⟨T5, X5, e5, st5⟩ := instY X0 hx hZ hown (ww hw 43 rfl) e0 (Ins.self F4) (g := (mkF m 8 (lc19 a1 a2) [(.ref a2)])) rfl rfl (hb hby d8_8)
  refine own_go (U' := T5.setTop (mkF m 11 (lc19 a1 a2) [(.int 1)])) (fun t k => oaloadN X0 hx hby d8_0 rfl rfl (oaloadN X0 hx hby d8_1 rfl rfl (oacmp (pc := 2) X0 hx hby d8_2 7 (same := false) rfl rfl (decide_eq_false fun q => ha3 (Value.ref.inj q)) (by decide) (oaloadN X0 hx hby d8_7 rfl rfl (st5 _ k))))) ?_
  obtain ⟨T6, X6, e6, st6⟩ := castY X5 hx hZ hown (ww hw 43 rfl) e5 (Ins.self F4) (g := (mkF m 15 (lc19 a1 a2) [(.ref a2)])) rfl rfl (hb hby d8_15)
  obtain ⟨T9, X9, e9, st9⟩ := getS2 X6 hx hZ hown (host := "") (Or.inl (ww hw 19 rfl)) Via.refl e6 F8 (g := (mkF m 19 (lc20 a1 a2 a2) [])) rfl (hb hby d8_19)
  refine own_go (U' := T9.setTop (mkF m 22 (lc20 a1 a2 a2) [(.int p7)])) (fun t k => oifN X5 hx hby d8_11 (by decide) (oaloadN X5 hx hby d8_14 rfl rfl (st6 _ (oastoreN X6 hx hby d8_18 (lc20 a1 a2 a2) rfl rfl (st9 _ k))))) ?_
  obtain ⟨T12, X12, e12, st12⟩ := getF X9 hx hZ hown (host := "") (Or.inl (ww hw 31 rfl)) Via.refl e9 F11 (g := (mkF m 26 (lc20 a1 a2 a2) [(.ref a1)])) rfl rfl (hb hby d8_26)
  obtain ⟨T14, X14, e14, st14⟩ := getF X12 hx hZ hown (host := "") (Or.inl (ww hw 31 rfl)) Via.refl e12 F13 (g := (mkF m 30 (lc20 a1 a2 a2) [(.ref a2), (.int 0)])) rfl rfl (hb hby d8_30)
  refine own_go (U' := T14.setTop (mkF m 33 (lc20 a1 a2 a2) [(.int 0), (.int 0)])) (fun t k => oifN X9 hx hby d8_22 ((if0 _ _).trans (feq hc10).1) (oaloadN X9 hx hby d8_25 rfl rfl (st12 _ (oaloadN X12 hx hby d8_29 rfl rfl (st14 _ k))))) ?_
  obtain ⟨T17, X17, e17, st17⟩ := getF X14 hx hZ hown (host := "") (Or.inl (ww hw 33 rfl)) Via.refl e14 F16 (g := (mkF m 37 (lc20 a1 a2 a2) [(.ref a1)])) rfl rfl (hb hby d8_37)
  obtain ⟨T20, X20, e20, st20⟩ := getF X17 hx hZ hown (host := "") (Or.inl (ww hw 33 rfl)) Via.refl e17 F19 (g := (mkF m 41 (lc20 a1 a2 a2) [(.ref a2), (.ref a15)])) rfl rfl (hb hby d8_41)
  obtain ⟨_, T21, L21, X21, hQ21, st21⟩ := ocallS X20 hx hZ zm6 hown (ww hw 44 rfl) (ww hw 45 rfl) (by decide) (ww hw 47 rfl) (ww hw 46 rfl) e20 (rm9_12 l hw a15 a18 p22 kc23 kc25 h0 n0 Z0 F24 F26 hc27) (st := [(.ref a18), (.ref a15)]) rfl 0 rfl (by decide) (pc := 44) (Ls := (lc20 a1 a2 a2)) hml rfl (lenOf pd_6 rfl) d8_44 hby
  obtain ⟨rfl, N21q, e21⟩ := hQ21
  have N28 := Fr.app N0 N21q
  refine own_go (U' := T21.setTop (mkF m 47 (lc20 a1 a2 a2) [(.int 1)])) (fun t k => oicN X14 hx hby d8_33 (by decide) (oaloadN X14 hx hby d8_36 rfl rfl (st17 _ (oaloadN X17 hx hby d8_40 rfl rfl (st20 _ (st21 _ k)))))) ?_
  refine own_go (U' := T21.setTop (mkF m 55 (lc20 a1 a2 a2) [(.int 1)])) (fun t k => oifN X21 hx hby d8_47 (by decide) (oiconst X21 hx hby d8_50 (ogoto (pc := 51) X21 hx hby d8_51 55 (by decide) k))) ?_
  obtain ⟨fs, hr, hrun, hended, hW, hsame⟩ := X21.leave (v := some (.int 1)) (fun h => by rw [Bd.returns] at h; cases h)
  refine own_out ⟨_, _, ?_, hrun, hended, _, _, rfl, ?_, ⟨_, rfl⟩, hW, hsame.mono (by decide) (by decide)⟩
  · exact retN X21 hx (t := .boolean) Bd.returns (by simp) (hb hby d8_55) hr
  · show Q8_14 Z a1 a2 p7 a15 a18 p22 kc23 kc25 h0 n0 _ T21.heap _
    rw [e21]
    exact ⟨(by simp [own_dot1, hc10, hc27]), N28, rfl⟩
def Q8_15 (Z : State) (a1 a2 : Addr) (p7 : Int32) (a15 a18 : Addr) (p22 : Int32) (kc23 : ClassId) (kc25 : ClassId) (h0 : Heap) (n0 : Nat) (v : Option Value) (h : Heap) (L : List Loc) : Prop := v = some (.int (own_dot1 p22)) ∧ Fr n0 L ∧ h = h0
theorem rm8_15 (l : Launch) {Z : State} {a0 : Array Value} (hw : own_W Z a0) (a1 a2 : Addr) (p7 : Int32) (a15 a18 : Addr) (p22 : Int32) (kc23 : ClassId) (kc25 : ClassId) (h0 : Heap) (n0 : Nat) (Z0 : n0 ≤ h0.size) (ha3 : a1 ≠ a2) (F4 : Exa Z h0 a2 zs6) (F8 : Sta Z h0 zs6 zs7 "Z" (.int p7)) (hc10 : ¬ (p7 = (0 : Int32))) (F11 : Fld Z h0 a1 zs6 "coder" "B" (.int 0)) (F13 : Fld Z h0 a2 zs6 "coder" "B" (.int 0)) (F16 : Fld Z h0 a1 zs6 "value" "[B" (.ref a15)) (F19 : Fld Z h0 a2 zs6 "value" "[B" (.ref a18)) (F24 : Arv Z h0 a15 kc23 .byte (1 : Int32) [(.int p22)] (.int (0 : Int32))) (F26 : Arv Z h0 a18 kc25 .byte (1 : Int32) [(.int 46)] (.int (0 : Int32))) (hc27 : ¬ (p22 = (46 : Int32))) :
    own_MF l zm7 c_8 3 (some .boolean) (own_R 1 0 0 14) #[(.ref a1), (.ref a2)] Z h0 (Q8_15 Z a1 a2 p7 a15 a18 p22 kc23 kc25 h0 n0) := by
  refine own_st (L := (lc19 a1 a2)) (own := zs6) (plainFor_of_name pn_2) rfl (fun m => ef_6 m a1 a2) fun p e s m below meth c s₁ Bd hml hZ hh hx hby hown hnm X0 e0 => ?_
  have N0 := Fr.nil n0
  obtain ⟨T5, X5, e5, st5⟩ := instY X0 hx hZ hown (ww hw 43 rfl) e0 (Ins.self F4) (g := (mkF m 8 (lc19 a1 a2) [(.ref a2)])) rfl rfl (hb hby d8_8)
  refine own_go (U' := T5.setTop (mkF m 11 (lc19 a1 a2) [(.int 1)])) (fun t k => oaloadN X0 hx hby d8_0 rfl rfl (oaloadN X0 hx hby d8_1 rfl rfl (oacmp (pc := 2) X0 hx hby d8_2 7 (same := false) rfl rfl (decide_eq_false fun q => ha3 (Value.ref.inj q)) (by decide) (oaloadN X0 hx hby d8_7 rfl rfl (st5 _ k))))) ?_
  obtain ⟨T6, X6, e6, st6⟩ := castY X5 hx hZ hown (ww hw 43 rfl) e5 (Ins.self F4) (g := (mkF m 15 (lc19 a1 a2) [(.ref a2)])) rfl rfl (hb hby d8_15)
  obtain ⟨T9, X9, e9, st9⟩ := getS2 X6 hx hZ hown (host := "") (Or.inl (ww hw 19 rfl)) Via.refl e6 F8 (g := (mkF m 19 (lc20 a1 a2 a2) [])) rfl (hb hby d8_19)
  refine own_go (U' := T9.setTop (mkF m 22 (lc20 a1 a2 a2) [(.int p7)])) (fun t k => oifN X5 hx hby d8_11 (by decide) (oaloadN X5 hx hby d8_14 rfl rfl (st6 _ (oastoreN X6 hx hby d8_18 (lc20 a1 a2 a2) rfl rfl (st9 _ k))))) ?_
  obtain ⟨T12, X12, e12, st12⟩ := getF X9 hx hZ hown (host := "") (Or.inl (ww hw 31 rfl)) Via.refl e9 F11 (g := (mkF m 26 (lc20 a1 a2 a2) [(.ref a1)])) rfl rfl (hb hby d8_26)
  obtain ⟨T14, X14, e14, st14⟩ := getF X12 hx hZ hown (host := "") (Or.inl (ww hw 31 rfl)) Via.refl e12 F13 (g := (mkF m 30 (lc20 a1 a2 a2) [(.ref a2), (.int 0)])) rfl rfl (hb hby d8_30)
  refine own_go (U' := T14.setTop (mkF m 33 (lc20 a1 a2 a2) [(.int 0), (.int 0)])) (fun t k => oifN X9 hx hby d8_22 ((if0 _ _).trans (feq hc10).1) (oaloadN X9 hx hby d8_25 rfl rfl (st12 _ (oaloadN X12 hx hby d8_29 rfl rfl (st14 _ k))))) ?_
  obtain ⟨T17, X17, e17, st17⟩ := getF X14 hx hZ hown (host := "") (Or.inl (ww hw 33 rfl)) Via.refl e14 F16 (g := (mkF m 37 (lc20 a1 a2 a2) [(.ref a1)])) rfl rfl (hb hby d8_37)
  obtain ⟨T20, X20, e20, st20⟩ := getF X17 hx hZ hown (host := "") (Or.inl (ww hw 33 rfl)) Via.refl e17 F19 (g := (mkF m 41 (lc20 a1 a2 a2) [(.ref a2), (.ref a15)])) rfl rfl (hb hby d8_41)
  obtain ⟨_, T21, L21, X21, hQ21, st21⟩ := ocallS X20 hx hZ zm6 hown (ww hw 44 rfl) (ww hw 45 rfl) (by decide) (ww hw 47 rfl) (ww hw 46 rfl) e20 (rm9_13 l hw a15 a18 p22 kc23 kc25 h0 n0 Z0 F24 F26 hc27) (st := [(.ref a18), (.ref a15)]) rfl 0 rfl (by decide) (pc := 44) (Ls := (lc20 a1 a2 a2)) hml rfl (lenOf pd_6 rfl) d8_44 hby
  obtain ⟨rfl, N21q, e21⟩ := hQ21
  have N28 := Fr.app N0 N21q
  refine own_go (U' := T21.setTop (mkF m 47 (lc20 a1 a2 a2) [(.int 0)])) (fun t k => oicN X14 hx hby d8_33 (by decide) (oaloadN X14 hx hby d8_36 rfl rfl (st17 _ (oaloadN X17 hx hby d8_40 rfl rfl (st20 _ (st21 _ k)))))) ?_
  refine own_go (U' := T21.setTop (mkF m 55 (lc20 a1 a2 a2) [(.int 0)])) (fun t k => oifY (pc := 47) X21 hx hby d8_47 54 (by decide) (by decide) (oiconst X21 hx hby d8_54 k)) ?_
  obtain ⟨fs, hr, hrun, hended, hW, hsame⟩ := X21.leave (v := some (.int 0)) (fun h => by rw [Bd.returns] at h; cases h)
  refine own_out ⟨_, _, ?_, hrun, hended, _, _, rfl, ?_, ⟨_, rfl⟩, hW, hsame.mono (by decide) (by decide)⟩
  · exact retN X21 hx (t := .boolean) Bd.returns (by simp) (hb hby d8_55) hr
  · show Q8_15 Z a1 a2 p7 a15 a18 p22 kc23 kc25 h0 n0 _ T21.heap _
    rw [e21]
    exact ⟨(by simp [own_dot1, hc10, hc27]), N28, rfl⟩
def Qmg8_16 (Z : State) (a1 a2 : Addr) (p5 : Int32) (a10 a12 : Addr) (p14 : Int32) (kc15 : ClassId) (kc17 : ClassId) (h0 : Heap) (n0 : Nat) (v : Option Value) (h : Heap) (L : List Loc) : Prop := v = some (.int (own_dot1 p14)) ∧ Fr n0 L ∧ h = h0
theorem mg8_16 (l : Launch) {Z : State} {a0 : Array Value} (hw : own_W Z a0) (a1 a2 : Addr) (p5 : Int32) (a10 a12 : Addr) (p14 : Int32) (kc15 : ClassId) (kc17 : ClassId) (h0 : Heap) (n0 : Nat) (Z0 : n0 ≤ h0.size) (ha3 : a1 ≠ a2) (F4 : Exa Z h0 a2 zs6) (F6 : Sta Z h0 zs6 zs7 "Z" (.int p5)) (hc7 : ¬ (p5 = (0 : Int32))) (F8 : Fld Z h0 a1 zs6 "coder" "B" (.int 0)) (F9 : Fld Z h0 a2 zs6 "coder" "B" (.int 0)) (F11 : Fld Z h0 a1 zs6 "value" "[B" (.ref a10)) (F13 : Fld Z h0 a2 zs6 "value" "[B" (.ref a12)) (F16 : Arv Z h0 a10 kc15 .byte (1 : Int32) [(.int p14)] (.int (0 : Int32))) (F18 : Arv Z h0 a12 kc17 .byte (1 : Int32) [(.int 46)] (.int (0 : Int32))) :
    own_MF l zm7 c_8 3 (some .boolean) (own_R 1 0 0 14) #[(.ref a1), (.ref a2)] Z h0 (Qmg8_16 Z a1 a2 p5 a10 a12 p14 kc15 kc17 h0 n0) := by
  by_cases hm1 : p14 = (46 : Int32)
  · exact rm8_14 l hw a1 a2 p5 a10 a12 p14 kc15 kc17 h0 n0 Z0 ha3 F4 F6 hc7 F8 F9 F11 F13 F16 F18 hm1
  · exact rm8_15 l hw a1 a2 p5 a10 a12 p14 kc15 kc17 h0 n0 Z0 ha3 F4 F6 hc7 F8 F9 F11 F13 F16 F18 hm1
def Q9_17 (Z : State) (a1 a2 : Addr) (p3 : Int32) (kc4 : ClassId) (kc7 : ClassId) (h0 : Heap) (n0 : Nat) (v : Option Value) (h : Heap) (L : List Loc) : Prop := v = some (.int 0) ∧ Fr n0 L ∧ h = h0
theorem rm9_17 (l : Launch) {Z : State} {a0 : Array Value} (hw : own_W Z a0) (a1 a2 : Addr) (p3 : Int32) (kc4 : ClassId) (kc7 : ClassId) (h0 : Heap) (n0 : Nat) (Z0 : n0 ≤ h0.size) (F5 : Arv Z h0 a1 kc4 .byte (1 : Int32) [(.int p3)] (.int (0 : Int32))) (F8 : Arv Z h0 a2 kc7 .byte (2 : Int32) [(.int 46), (.int 46)] (.int (0 : Int32))) :
    own_MF l zm6 c_9 3 (some .boolean) (own_R 0 0 0 0) #[(.ref a1), (.ref a2)] Z h0 (Q9_17 Z a1 a2 p3 kc4 kc7 h0 n0) := by
  refine own_st (L := (lc19 a1 a2)) (own := zs9) (plainFor_of_name pn_3) rfl (fun m => ef_6 m a1 a2) fun p e s m below meth c s₁ Bd hml hZ hh hx hby hown hnm X0 e0 => ?_
  have N0 := Fr.nil n0
  refine own_go (U' := s₁.setTop (mkF m 1 (lc19 a1 a2) [(.ref a1)])) (fun t k => oaloadN X0 hx hby d9_0 rfl rfl k) ?_
  obtain ⟨cl6, Ar6, q6, S6, N6, H6, G6⟩ := id F5
  refine own_go (fun t k => X0.arraylength hx (own_at e0 Ar6.1) (State.isArrayOf_alike hZ.alike Ar6.2.1) (g := (mkF m 1 (lc19 a1 a2) [(.ref a1)])) rfl rfl (hb hby d9_1) _ k) ?_
  rw [len_of S6 N6]
  refine own_go (U' := s₁.setTop (mkF m 3 (lc19 a1 a2) [(.ref a2), (.int 1)])) (fun t k => oaloadN X0 hx hby d9_2 rfl rfl k) ?_
  obtain ⟨cl9, Ar9, q9, S9, N9, H9, G9⟩ := id F8
  refine own_go (fun t k => X0.arraylength hx (own_at e0 Ar9.1) (State.isArrayOf_alike hZ.alike Ar9.2.1) (g := (mkF m 3 (lc19 a1 a2) [(.ref a2), (.int 1)])) rfl rfl (hb hby d9_3) _ k) ?_
  rw [len_of S9 N9]
  refine own_go (U' := s₁.setTop (mkF m 35 (lc19 a1 a2) [(.int 0)])) (fun t k => oicY (pc := 4) X0 hx hby d9_4 34 (by decide) (by decide) (oiconst X0 hx hby d9_34 k)) ?_
  obtain ⟨fs, hr, hrun, hended, hW, hsame⟩ := X0.leave (v := some (.int 0)) (fun h => by rw [Bd.returns] at h; cases h)
  refine own_out ⟨_, _, ?_, hrun, hended, _, _, rfl, ?_, ⟨_, rfl⟩, hW, hsame.mono (by decide) (by decide)⟩
  · exact retN X0 hx (t := .boolean) Bd.returns (by simp) (hb hby d9_35) hr
  · show Q9_17 Z a1 a2 p3 kc4 kc7 h0 n0 _ s₁.heap _
    rw [e0]
    exact ⟨rfl, N0, rfl⟩
def Q8_18 (Z : State) (a1 a2 : Addr) (p7 : Int32) (a15 a18 : Addr) (p22 : Int32) (kc23 : ClassId) (kc25 : ClassId) (h0 : Heap) (n0 : Nat) (v : Option Value) (h : Heap) (L : List Loc) : Prop := v = some (.int 0) ∧ Fr n0 L ∧ h = h0
theorem rm8_18 (l : Launch) {Z : State} {a0 : Array Value} (hw : own_W Z a0) (a1 a2 : Addr) (p7 : Int32) (a15 a18 : Addr) (p22 : Int32) (kc23 : ClassId) (kc25 : ClassId) (h0 : Heap) (n0 : Nat) (Z0 : n0 ≤ h0.size) (ha3 : a1 ≠ a2) (F4 : Exa Z h0 a2 zs6) (F8 : Sta Z h0 zs6 zs7 "Z" (.int p7)) (hc10 : ¬ (p7 = (0 : Int32))) (F11 : Fld Z h0 a1 zs6 "coder" "B" (.int 0)) (F13 : Fld Z h0 a2 zs6 "coder" "B" (.int 0)) (F16 : Fld Z h0 a1 zs6 "value" "[B" (.ref a15)) (F19 : Fld Z h0 a2 zs6 "value" "[B" (.ref a18)) (F24 : Arv Z h0 a15 kc23 .byte (1 : Int32) [(.int p22)] (.int (0 : Int32))) (F26 : Arv Z h0 a18 kc25 .byte (2 : Int32) [(.int 46), (.int 46)] (.int (0 : Int32))) :
    own_MF l zm7 c_8 3 (some .boolean) (own_R 1 0 0 14) #[(.ref a1), (.ref a2)] Z h0 (Q8_18 Z a1 a2 p7 a15 a18 p22 kc23 kc25 h0 n0) := by
  refine own_st (L := (lc19 a1 a2)) (own := zs6) (plainFor_of_name pn_2) rfl (fun m => ef_6 m a1 a2) fun p e s m below meth c s₁ Bd hml hZ hh hx hby hown hnm X0 e0 => ?_
  have N0 := Fr.nil n0
  obtain ⟨T5, X5, e5, st5⟩ := instY X0 hx hZ hown (ww hw 43 rfl) e0 (Ins.self F4) (g := (mkF m 8 (lc19 a1 a2) [(.ref a2)])) rfl rfl (hb hby d8_8)
  refine own_go (U' := T5.setTop (mkF m 11 (lc19 a1 a2) [(.int 1)])) (fun t k => oaloadN X0 hx hby d8_0 rfl rfl (oaloadN X0 hx hby d8_1 rfl rfl (oacmp (pc := 2) X0 hx hby d8_2 7 (same := false) rfl rfl (decide_eq_false fun q => ha3 (Value.ref.inj q)) (by decide) (oaloadN X0 hx hby d8_7 rfl rfl (st5 _ k))))) ?_
  obtain ⟨T6, X6, e6, st6⟩ := castY X5 hx hZ hown (ww hw 43 rfl) e5 (Ins.self F4) (g := (mkF m 15 (lc19 a1 a2) [(.ref a2)])) rfl rfl (hb hby d8_15)
  obtain ⟨T9, X9, e9, st9⟩ := getS2 X6 hx hZ hown (host := "") (Or.inl (ww hw 19 rfl)) Via.refl e6 F8 (g := (mkF m 19 (lc20 a1 a2 a2) [])) rfl (hb hby d8_19)
  refine own_go (U' := T9.setTop (mkF m 22 (lc20 a1 a2 a2) [(.int p7)])) (fun t k => oifN X5 hx hby d8_11 (by decide) (oaloadN X5 hx hby d8_14 rfl rfl (st6 _ (oastoreN X6 hx hby d8_18 (lc20 a1 a2 a2) rfl rfl (st9 _ k))))) ?_
  obtain ⟨T12, X12, e12, st12⟩ := getF X9 hx hZ hown (host := "") (Or.inl (ww hw 31 rfl)) Via.refl e9 F11 (g := (mkF m 26 (lc20 a1 a2 a2) [(.ref a1)])) rfl rfl (hb hby d8_26)
  obtain ⟨T14, X14, e14, st14⟩ := getF X12 hx hZ hown (host := "") (Or.inl (ww hw 31 rfl)) Via.refl e12 F13 (g := (mkF m 30 (lc20 a1 a2 a2) [(.ref a2), (.int 0)])) rfl rfl (hb hby d8_30)
  refine own_go (U' := T14.setTop (mkF m 33 (lc20 a1 a2 a2) [(.int 0), (.int 0)])) (fun t k => oifN X9 hx hby d8_22 ((if0 _ _).trans (feq hc10).1) (oaloadN X9 hx hby d8_25 rfl rfl (st12 _ (oaloadN X12 hx hby d8_29 rfl rfl (st14 _ k))))) ?_
  obtain ⟨T17, X17, e17, st17⟩ := getF X14 hx hZ hown (host := "") (Or.inl (ww hw 33 rfl)) Via.refl e14 F16 (g := (mkF m 37 (lc20 a1 a2 a2) [(.ref a1)])) rfl rfl (hb hby d8_37)
  obtain ⟨T20, X20, e20, st20⟩ := getF X17 hx hZ hown (host := "") (Or.inl (ww hw 33 rfl)) Via.refl e17 F19 (g := (mkF m 41 (lc20 a1 a2 a2) [(.ref a2), (.ref a15)])) rfl rfl (hb hby d8_41)
  obtain ⟨_, T21, L21, X21, hQ21, st21⟩ := ocallS X20 hx hZ zm6 hown (ww hw 44 rfl) (ww hw 45 rfl) (by decide) (ww hw 47 rfl) (ww hw 46 rfl) e20 (rm9_17 l hw a15 a18 p22 kc23 kc25 h0 n0 Z0 F24 F26) (st := [(.ref a18), (.ref a15)]) rfl 0 rfl (by decide) (pc := 44) (Ls := (lc20 a1 a2 a2)) hml rfl (lenOf pd_6 rfl) d8_44 hby
  obtain ⟨rfl, N21q, e21⟩ := hQ21
  have N27 := Fr.app N0 N21q
  refine own_go (U' := T21.setTop (mkF m 47 (lc20 a1 a2 a2) [(.int 0)])) (fun t k => oicN X14 hx hby d8_33 (by decide) (oaloadN X14 hx hby d8_36 rfl rfl (st17 _ (oaloadN X17 hx hby d8_40 rfl rfl (st20 _ (st21 _ k)))))) ?_
  refine own_go (U' := T21.setTop (mkF m 55 (lc20 a1 a2 a2) [(.int 0)])) (fun t k => oifY (pc := 47) X21 hx hby d8_47 54 (by decide) (by decide) (oiconst X21 hx hby d8_54 k)) ?_
  obtain ⟨fs, hr, hrun, hended, hW, hsame⟩ := X21.leave (v := some (.int 0)) (fun h => by rw [Bd.returns] at h; cases h)
  refine own_out ⟨_, _, ?_, hrun, hended, _, _, rfl, ?_, ⟨_, rfl⟩, hW, hsame.mono (by decide) (by decide)⟩
  · exact retN X21 hx (t := .boolean) Bd.returns (by simp) (hb hby d8_55) hr
  · show Q8_18 Z a1 a2 p7 a15 a18 p22 kc23 kc25 h0 n0 _ T21.heap _
    rw [e21]
    exact ⟨rfl, N27, rfl⟩
def Qmg8_19 (Z : State) (a1 a2 : Addr) (p5 : Int32) (a10 a12 : Addr) (p14 : Int32) (kc15 : ClassId) (kc17 : ClassId) (h0 : Heap) (n0 : Nat) (v : Option Value) (h : Heap) (L : List Loc) : Prop := v = some (.int 0) ∧ Fr n0 L ∧ h = h0
theorem mg8_19 (l : Launch) {Z : State} {a0 : Array Value} (hw : own_W Z a0) (a1 a2 : Addr) (p5 : Int32) (a10 a12 : Addr) (p14 : Int32) (kc15 : ClassId) (kc17 : ClassId) (h0 : Heap) (n0 : Nat) (Z0 : n0 ≤ h0.size) (ha3 : a1 ≠ a2) (F4 : Exa Z h0 a2 zs6) (F6 : Sta Z h0 zs6 zs7 "Z" (.int p5)) (hc7 : ¬ (p5 = (0 : Int32))) (F8 : Fld Z h0 a1 zs6 "coder" "B" (.int 0)) (F9 : Fld Z h0 a2 zs6 "coder" "B" (.int 0)) (F11 : Fld Z h0 a1 zs6 "value" "[B" (.ref a10)) (F13 : Fld Z h0 a2 zs6 "value" "[B" (.ref a12)) (F16 : Arv Z h0 a10 kc15 .byte (1 : Int32) [(.int p14)] (.int (0 : Int32))) (F18 : Arv Z h0 a12 kc17 .byte (2 : Int32) [(.int 46), (.int 46)] (.int (0 : Int32))) :
    own_MF l zm7 c_8 3 (some .boolean) (own_R 1 0 0 14) #[(.ref a1), (.ref a2)] Z h0 (Qmg8_19 Z a1 a2 p5 a10 a12 p14 kc15 kc17 h0 n0) := by
  exact rm8_18 l hw a1 a2 p5 a10 a12 p14 kc15 kc17 h0 n0 Z0 ha3 F4 F6 hc7 F8 F9 F11 F13 F16 F18
def Q11_20 (Z : State) (a1 : Addr) (h0 : Heap) (n0 : Nat) (v : Option Value) (h : Heap) (L : List Loc) : Prop := v = none ∧ Fr n0 L ∧ h = h0
theorem rm11_20 (l : Launch) {Z : State} {a0 : Array Value} (hw : own_W Z a0) (a1 : Addr) (h0 : Heap) (n0 : Nat) (Z0 : n0 ≤ h0.size) :
    own_MF l zm8 c_11 1 none (own_R 1 0 0 12) #[(.ref a1)] Z h0 (Q11_20 Z a1 h0 n0) := by
  refine own_st (L := (lc23 a1)) (own := zs11) (plainFor_of_name pn_4) rfl (fun m => ef_7 m a1) fun p e s m below meth c s₁ Bd hml hZ hh hx hby hown hnm X0 e0 => ?_
  have N0 := Fr.nil n0
  obtain ⟨T2, X2, e2, st2⟩ := initO X0 hx hZ hown (ww hw 60 rfl) (ww hw 17 rfl) (ww hw 18 rfl) e0 (g := (mkF m 1 (lc23 a1) [(.ref a1)])) rfl (by rw [hml]; rfl) rfl (hb hby d11_1) (by decide) (W := 0) (by show 2 * 0 + _ ≤ _; exact Nat.le_of_eq rfl) (by decide)
  refine own_go (U' := T2.setTop (mkF m 4 (lc23 a1) [])) (fun t k => oaloadN X0 hx hby d11_0 rfl rfl (st2 _ k)) ?_
  obtain ⟨fs, hr, hrun, hended, hW, hsame⟩ := X2.leave (v := none) (fun _ => rfl)
  refine own_out ⟨_, _, ?_, hrun, hended, _, _, rfl, ?_, ⟨_, rfl⟩, hW, hsame.mono (by decide) (by decide)⟩
  · exact X2.returnOut hx Bd.returns (hb hby d11_4) hr
  · show Q11_20 Z a1 h0 n0 _ T2.heap _
    rw [e2]
    exact ⟨rfl, N0, rfl⟩
def Q12_21 (Z : State) (a1 a2 : Addr) (h0 : Heap) (n0 : Nat) (v : Option Value) (h : Heap) (L : List Loc) : Prop := v = some (.ref a1) ∧ Fr n0 L ∧ h = h0
theorem rm12_21 (l : Launch) {Z : State} {a0 : Array Value} (hw : own_W Z a0) (a1 a2 : Addr) (h0 : Heap) (n0 : Nat) (Z0 : n0 ≤ h0.size) :
    own_MF l zm9 c_12 2 (some (.object "java/lang/Object")) (own_R 0 0 0 0) #[(.ref a1), (.ref a2)] Z h0 (Q12_21 Z a1 a2 h0 n0) := by
  refine own_st (L := (lc8 a1 a2)) (own := zs12) (plainFor_of_name pn_5) rfl (fun m => ef_5 m a1 a2) fun p e s m below meth c s₁ Bd hml hZ hh hx hby hown hnm X0 e0 => ?_
  have N0 := Fr.nil n0
  refine own_go (U' := s₁.setTop (mkF m 14 (lc8 a1 a2) [(.ref a1)])) (fun t k => oaloadN X0 hx hby d12_0 rfl rfl (onnY (pc := 1) X0 hx hby d12_1 13 (by decide) (oaloadN X0 hx hby d12_13 rfl rfl k))) ?_
  obtain ⟨fs, hr, hrun, hended, hW, hsame⟩ := X0.leave (v := some (.ref a1)) (fun h => by rw [Bd.returns] at h; cases h)
  refine own_out ⟨_, _, ?_, hrun, hended, _, _, rfl, ?_, ⟨_, rfl⟩, hW, hsame.mono (by decide) (by decide)⟩
  · exact retOut X0 hx Bd.returns rfl (Or.inr (Or.inr (Or.inr (Or.inr ⟨rfl, rfl, rfl⟩)))) (hb hby d12_14) hr
  · show Q12_21 Z a1 a2 h0 n0 _ s₁.heap _
    rw [e0]
    exact ⟨rfl, N0, rfl⟩
def Q13_22 (Z : State) (a1 a2 : Addr) (p5 : Int32) (kc6 : ClassId) (h0 : Heap) (n0 : Nat) (v : Option Value) (h : Heap) (L : List Loc) : Prop := v = some (.int 0) ∧ Fr n0 L ∧ h = h0
theorem rm13_22 (l : Launch) {Z : State} {a0 : Array Value} (hw : own_W Z a0) (a1 a2 : Addr) (p5 : Int32) (kc6 : ClassId) (h0 : Heap) (n0 : Nat) (Z0 : n0 ≤ h0.size) (F3 : Fld Z h0 a1 zs6 "value" "[B" (.ref a2)) (F7 : Arv Z h0 a2 kc6 .byte (1 : Int32) [(.int p5)] (.int (0 : Int32))) :
    own_MF l zm10 c_13 1 (some .boolean) (own_R 0 0 0 0) #[(.ref a1)] Z h0 (Q13_22 Z a1 a2 p5 kc6 h0 n0) := by
  refine own_st (L := (lc23 a1)) (own := zs6) (plainFor_of_name pn_2) rfl (fun m => ef_7 m a1) fun p e s m below meth c s₁ Bd hml hZ hh hx hby hown hnm X0 e0 => ?_
  have N0 := Fr.nil n0
  obtain ⟨T4, X4, e4, st4⟩ := getF X0 hx hZ hown (host := "") (Or.inl (ww hw 33 rfl)) Via.refl e0 F3 (g := (mkF m 1 (lc23 a1) [(.ref a1)])) rfl rfl (hb hby d13_1)
  refine own_go (U' := T4.setTop (mkF m 4 (lc23 a1) [(.ref a2)])) (fun t k => oaloadN X0 hx hby d13_0 rfl rfl (st4 _ k)) ?_
  obtain ⟨cl8, Ar8, q8, S8, N8, H8, G8⟩ := id F7
  refine own_go (fun t k => X4.arraylength hx (own_at e4 Ar8.1) (State.isArrayOf_alike hZ.alike Ar8.2.1) (g := (mkF m 4 (lc23 a1) [(.ref a2)])) rfl rfl (hb hby d13_4) _ k) ?_
  rw [len_of S8 N8]
  refine own_go (U' := T4.setTop (mkF m 13 (lc23 a1) [(.int 0)])) (fun t k => oifY (pc := 5) X4 hx hby d13_5 12 (by decide) (by decide) (oiconst X4 hx hby d13_12 k)) ?_
  obtain ⟨fs, hr, hrun, hended, hW, hsame⟩ := X4.leave (v := some (.int 0)) (fun h => by rw [Bd.returns] at h; cases h)
  refine own_out ⟨_, _, ?_, hrun, hended, _, _, rfl, ?_, ⟨_, rfl⟩, hW, hsame.mono (by decide) (by decide)⟩
  · exact retN X4 hx (t := .boolean) Bd.returns (by simp) (hb hby d13_13) hr
  · show Q13_22 Z a1 a2 p5 kc6 h0 n0 _ T4.heap _
    rw [e4]
    exact ⟨rfl, N0, rfl⟩
def Q15_23 (Z : State) (a1 : Addr) (p2 : Int32) (h0 : Heap) (n0 : Nat) (v : Option Value) (h : Heap) (L : List Loc) : Prop := v = some (.int 0) ∧ Fr n0 L ∧ h = h0
theorem rm15_23 (l : Launch) {Z : State} {a0 : Array Value} (hw : own_W Z a0) (a1 : Addr) (p2 : Int32) (h0 : Heap) (n0 : Nat) (Z0 : n0 ≤ h0.size) (F3 : Sta Z h0 zs6 zs7 "Z" (.int p2)) (hc5 : ¬ (p2 = (0 : Int32))) (F6 : Fld Z h0 a1 zs6 "coder" "B" (.int 0)) :
    own_MF l zm11 c_15 1 (some .byte) (own_R 0 0 0 0) #[(.ref a1)] Z h0 (Q15_23 Z a1 p2 h0 n0) := by
  refine own_st (L := (lc23 a1)) (own := zs6) (plainFor_of_name pn_2) rfl (fun m => ef_7 m a1) fun p e s m below meth c s₁ Bd hml hZ hh hx hby hown hnm X0 e0 => ?_
  have N0 := Fr.nil n0
  obtain ⟨T4, X4, e4, st4⟩ := getS2 X0 hx hZ hown (host := "") (Or.inl (ww hw 19 rfl)) Via.refl e0 F3 (g := (mkF m 0 (lc23 a1) [])) rfl (hb hby d15_0)
  refine own_go (U' := T4.setTop (mkF m 3 (lc23 a1) [(.int p2)])) (fun t k => st4 _ k) ?_
  obtain ⟨T7, X7, e7, st7⟩ := getF X4 hx hZ hown (host := "") (Or.inl (ww hw 31 rfl)) Via.refl e4 F6 (g := (mkF m 7 (lc23 a1) [(.ref a1)])) rfl rfl (hb hby d15_7)
  refine own_go (U' := T7.setTop (mkF m 14 (lc23 a1) [(.int 0)])) (fun t k => oifN X4 hx hby d15_3 ((if0 _ _).trans (feq hc5).1) (oaloadN X4 hx hby d15_6 rfl rfl (st7 _ (ogoto (pc := 10) X7 hx hby d15_10 14 (by decide) k)))) ?_
  obtain ⟨fs, hr, hrun, hended, hW, hsame⟩ := X7.leave (v := some (.int 0)) (fun h => by rw [Bd.returns] at h; cases h)
  refine own_out ⟨_, _, ?_, hrun, hended, _, _, rfl, ?_, ⟨_, rfl⟩, hW, hsame.mono (by decide) (by decide)⟩
  · exact retN X7 hx (t := .byte) Bd.returns (by simp) (hb hby d15_14) hr
  · show Q15_23 Z a1 p2 h0 n0 _ T7.heap _
    rw [e7]
    exact ⟨rfl, N0, rfl⟩
def Q14_24 (Z : State) (a1 a2 : Addr) (p6 p10 p15 : Int32) (h0 : Heap) (n0 : Nat) (v : Option Value) (h : Heap) (L : List Loc) : Prop := v = some (.int p15) ∧ Fr n0 L ∧ h = h0
theorem rm14_24 (l : Launch) {Z : State} {a0 : Array Value} (hw : own_W Z a0) (a1 a2 : Addr) (p6 p10 p15 : Int32) (h0 : Heap) (n0 : Nat) (Z0 : n0 ≤ h0.size) (F3 : Fld Z h0 a1 zs6 "value" "[B" (.ref a2)) (F5 : own_Ln Z h0 a2 p6) (F9 : Exa Z h0 a1 zs6) (F11 : Sta Z h0 zs6 zs7 "Z" (.int p10)) (hc12 : ¬ (p10 = (0 : Int32))) (F13 : Fld Z h0 a1 zs6 "coder" "B" (.int 0)) (hv16 : (p6 >>> ((0 : Int32) &&& 31)) = p15) :
    own_MF l zm12 c_14 1 (some .int) (own_R 1 0 0 13) #[(.ref a1)] Z h0 (Q14_24 Z a1 a2 p6 p10 p15 h0 n0) := by
  refine own_st (L := (lc23 a1)) (own := zs6) (plainFor_of_name pn_2) rfl (fun m => ef_7 m a1) fun p e s m below meth c s₁ Bd hml hZ hh hx hby hown hnm X0 e0 => ?_
  have N0 := Fr.nil n0
  obtain ⟨T4, X4, e4, st4⟩ := getF X0 hx hZ hown (host := "") (Or.inl (ww hw 33 rfl)) Via.refl e0 F3 (g := (mkF m 1 (lc23 a1) [(.ref a1)])) rfl rfl (hb hby d14_1)
  refine own_go (U' := T4.setTop (mkF m 4 (lc23 a1) [(.ref a2)])) (fun t k => oaloadN X0 hx hby d14_0 rfl rfl (st4 _ k)) ?_
  obtain ⟨cl7, Ar7, S7, N7⟩ := id F5
  refine own_go (fun t k => X4.arraylength hx (own_at e4 Ar7.1) (State.isArrayOf_alike hZ.alike Ar7.2.1) (g := (mkF m 4 (lc23 a1) [(.ref a2)])) rfl rfl (hb hby d14_4) _ k) ?_
  rw [len_of S7 N7]
  obtain ⟨_, T8, L8, X8, hQ8, st8⟩ := ocallV X4 hx hZ zm11 zm11 hown (ww hw 76 rfl) (ww hw 77 rfl) (notFace_of_selects (args := #[]) (mvT hZ (ww hw 79 rfl))) (ww hw 79 rfl) (ww hw 78 rfl) (by decide) (ww hw 80 rfl) (ww hw 8 rfl) e4 F9 (rm15_23 l hw a1 p10 h0 n0 Z0 F11 hc12 F13) (st := [(.ref a1), (.int p6)]) rfl 1 rfl (by decide) (pc := 6) (Ls := (lc23 a1)) hml rfl (lenOf pd_11 rfl) d14_6 hby
  obtain ⟨rfl, N8q, e8⟩ := hQ8
  have N14 := Fr.app N0 N8q
  refine own_go (U' := T8.setTop (mkF m 10 (lc23 a1) [(.int (p6 >>> ((0 : Int32) &&& 31)))])) (fun t k => oaloadN X4 hx hby d14_5 rfl rfl (st8 _ (oishr X8 hx hby d14_9 k))) ?_
  rw [hv16]
  obtain ⟨fs, hr, hrun, hended, hW, hsame⟩ := X8.leave (v := some (.int p15)) (fun h => by rw [Bd.returns] at h; cases h)
  refine own_out ⟨_, _, ?_, hrun, hended, _, _, rfl, ?_, ⟨_, rfl⟩, hW, hsame.mono (by decide) (by decide)⟩
  · exact retI X8 hx Bd.returns (hb hby d14_10) hr
  · show Q14_24 Z a1 a2 p6 p10 p15 h0 n0 _ T8.heap _
    rw [e8]
    exact ⟨rfl, N14, rfl⟩
def Q17_25 (Z : State) (a1 : Addr) (p2 : Int32) (h0 : Heap) (n0 : Nat) (v : Option Value) (h : Heap) (L : List Loc) : Prop := v = some (.int 1) ∧ Fr n0 L ∧ h = h0
theorem rm17_25 (l : Launch) {Z : State} {a0 : Array Value} (hw : own_W Z a0) (a1 : Addr) (p2 : Int32) (h0 : Heap) (n0 : Nat) (Z0 : n0 ≤ h0.size) (F3 : Sta Z h0 zs6 zs7 "Z" (.int p2)) (hc5 : ¬ (p2 = (0 : Int32))) (F6 : Fld Z h0 a1 zs6 "coder" "B" (.int 0)) :
    own_MF l zm13 c_17 1 (some .boolean) (own_R 0 0 0 0) #[(.ref a1)] Z h0 (Q17_25 Z a1 p2 h0 n0) := by
  refine own_st (L := (lc23 a1)) (own := zs6) (plainFor_of_name pn_2) rfl (fun m => ef_7 m a1) fun p e s m below meth c s₁ Bd hml hZ hh hx hby hown hnm X0 e0 => ?_
  have N0 := Fr.nil n0
  obtain ⟨T4, X4, e4, st4⟩ := getS2 X0 hx hZ hown (host := "") (Or.inl (ww hw 19 rfl)) Via.refl e0 F3 (g := (mkF m 0 (lc23 a1) [])) rfl (hb hby d17_0)
  refine own_go (U' := T4.setTop (mkF m 3 (lc23 a1) [(.int p2)])) (fun t k => st4 _ k) ?_
  obtain ⟨T7, X7, e7, st7⟩ := getF X4 hx hZ hown (host := "") (Or.inl (ww hw 31 rfl)) Via.refl e4 F6 (g := (mkF m 7 (lc23 a1) [(.ref a1)])) rfl rfl (hb hby d17_7)
  refine own_go (U' := T7.setTop (mkF m 10 (lc23 a1) [(.int 0)])) (fun t k => oifN X4 hx hby d17_3 ((if0 _ _).trans (feq hc5).1) (oaloadN X4 hx hby d17_6 rfl rfl (st7 _ k))) ?_
  refine own_go (U' := T7.setTop (mkF m 18 (lc23 a1) [(.int 1)])) (fun t k => oifN X7 hx hby d17_10 (by decide) (oiconst X7 hx hby d17_13 (ogoto (pc := 14) X7 hx hby d17_14 18 (by decide) k))) ?_
  obtain ⟨fs, hr, hrun, hended, hW, hsame⟩ := X7.leave (v := some (.int 1)) (fun h => by rw [Bd.returns] at h; cases h)
  refine own_out ⟨_, _, ?_, hrun, hended, _, _, rfl, ?_, ⟨_, rfl⟩, hW, hsame.mono (by decide) (by decide)⟩
  · exact retN X7 hx (t := .boolean) Bd.returns (by simp) (hb hby d17_18) hr
  · show Q17_25 Z a1 p2 h0 n0 _ T7.heap _
    rw [e7]
    exact ⟨rfl, N0, rfl⟩
def Q20_26 (Z : State) (p1 p2 : Int32) (h0 : Heap) (n0 : Nat) (v : Option Value) (h : Heap) (L : List Loc) : Prop := v = some (.int p1) ∧ Fr n0 L ∧ h = h0
theorem rm20_26 (l : Launch) {Z : State} {a0 : Array Value} (hw : own_W Z a0) (p1 p2 : Int32) (h0 : Heap) (n0 : Nat) (Z0 : n0 ≤ h0.size) (hc3 : ¬ (p1 < (0 : Int32))) (hc4 : p1 < p2) :
    own_MF l zm14 c_20 3 (some .int) (own_R 0 0 0 0) #[(.int p1), (.int p2), .null] Z h0 (Q20_26 Z p1 p2 h0 n0) := by
  refine own_st (L := (lc25 p1 p2)) (own := zs16) (plainFor_of_name pn_6) rfl (fun m => ef_8 m p1 p2) fun p e s m below meth c s₁ Bd hml hZ hh hx hby hown hnm X0 e0 => ?_
  have N0 := Fr.nil n0
  refine own_go (U' := s₁.setTop (mkF m 1 (lc25 p1 p2) [(.int p1)])) (fun t k => oiloadN X0 hx hby d20_0 rfl k) ?_
  refine own_go (U' := s₁.setTop (mkF m 6 (lc25 p1 p2) [(.int p2), (.int p1)])) (fun t k => oifN X0 hx hby d20_1 ((if0 _ _).trans (flt hc3).1) (oiloadN X0 hx hby d20_4 rfl (oiloadN X0 hx hby d20_5 rfl k))) ?_
  refine own_go (U' := s₁.setTop (mkF m 17 (lc25 p1 p2) [(.int p1)])) (fun t k => oicY (pc := 6) X0 hx hby d20_6 16 (tlt hc4).1 (by decide) (oiloadN X0 hx hby d20_16 rfl k)) ?_
  obtain ⟨fs, hr, hrun, hended, hW, hsame⟩ := X0.leave (v := some (.int p1)) (fun h => by rw [Bd.returns] at h; cases h)
  refine own_out ⟨_, _, ?_, hrun, hended, _, _, rfl, ?_, ⟨_, rfl⟩, hW, hsame.mono (by decide) (by decide)⟩
  · exact retI X0 hx Bd.returns (hb hby d20_17) hr
  · show Q20_26 Z p1 p2 h0 n0 _ s₁.heap _
    rw [e0]
    exact ⟨rfl, N0, rfl⟩
def Q20_27 (Z : State) (p1 p2 : Int32) (a3 : Addr) (h0 : Heap) (n0 : Nat) (v : Option Value) (h : Heap) (L : List Loc) : Prop := v = some (.int p1) ∧ Fr n0 L ∧ h = h0
theorem rm20_27 (l : Launch) {Z : State} {a0 : Array Value} (hw : own_W Z a0) (p1 p2 : Int32) (a3 : Addr) (h0 : Heap) (n0 : Nat) (Z0 : n0 ≤ h0.size) (hc4 : ¬ (p1 < (0 : Int32))) (hc5 : p1 < p2) :
    own_MF l zm14 c_20 3 (some .int) (own_R 0 0 0 0) #[(.int p1), (.int p2), (.ref a3)] Z h0 (Q20_27 Z p1 p2 a3 h0 n0) := by
  refine own_st (L := (lc26 p1 p2 a3)) (own := zs16) (plainFor_of_name pn_6) rfl (fun m => ef_9 m p1 p2 a3) fun p e s m below meth c s₁ Bd hml hZ hh hx hby hown hnm X0 e0 => ?_
  have N0 := Fr.nil n0
  refine own_go (U' := s₁.setTop (mkF m 1 (lc26 p1 p2 a3) [(.int p1)])) (fun t k => oiloadN X0 hx hby d20_0 rfl k) ?_
  refine own_go (U' := s₁.setTop (mkF m 6 (lc26 p1 p2 a3) [(.int p2), (.int p1)])) (fun t k => oifN X0 hx hby d20_1 ((if0 _ _).trans (flt hc4).1) (oiloadN X0 hx hby d20_4 rfl (oiloadN X0 hx hby d20_5 rfl k))) ?_
  refine own_go (U' := s₁.setTop (mkF m 17 (lc26 p1 p2 a3) [(.int p1)])) (fun t k => oicY (pc := 6) X0 hx hby d20_6 16 (tlt hc5).1 (by decide) (oiloadN X0 hx hby d20_16 rfl k)) ?_
  obtain ⟨fs, hr, hrun, hended, hW, hsame⟩ := X0.leave (v := some (.int p1)) (fun h => by rw [Bd.returns] at h; cases h)
  refine own_out ⟨_, _, ?_, hrun, hended, _, _, rfl, ?_, ⟨_, rfl⟩, hW, hsame.mono (by decide) (by decide)⟩
  · exact retI X0 hx Bd.returns (hb hby d20_17) hr
  · show Q20_27 Z p1 p2 a3 h0 n0 _ s₁.heap _
    rw [e0]
    exact ⟨rfl, N0, rfl⟩
def Q19_28 (Z : State) (p1 p2 : Int32) (vy0 : Value) (h0 : Heap) (n0 : Nat) (v : Option Value) (h : Heap) (L : List Loc) : Prop := v = none ∧ Fr n0 L ∧ h = h0
theorem rm19_28 (l : Launch) {Z : State} {a0 : Array Value} (hw : own_W Z a0) (p1 p2 : Int32) (vy0 : Value) (h0 : Heap) (n0 : Nat) (Z0 : n0 ≤ h0.size) (F3 : Sta Z h0 zs16 zs19 zs20 vy0) (hc5 : vy0 = Value.null) (hc7 : ¬ (p1 < (0 : Int32))) (hc8 : p1 < p2) :
    own_MF l zm15 c_19 2 none (own_R 1 0 0 14) #[(.int p1), (.int p2)] Z h0 (Q19_28 Z p1 p2 vy0 h0 n0) := by
  refine own_st (L := (lc3 p1 p2)) (own := zs6) (plainFor_of_name pn_2) rfl (fun m => ef_10 m p1 p2) fun p e s m below meth c s₁ Bd hml hZ hh hx hby hown hnm X0 e0 => ?_
  have N0 := Fr.nil n0
  obtain ⟨T4, X4, e4, st4⟩ := getS2 X0 hx hZ hown (host := "") (Or.inl (ww hw 97 rfl)) Via.refl e0 (own_yN hc5 F3) (g := (mkF m 2 (lc3 p1 p2) [(.int p2), (.int p1)])) rfl (hb hby d19_2)
  obtain ⟨_, T6, L6, X6, hQ6, st6⟩ := ocallS X4 hx hZ zm14 hown (ww hw 99 rfl) (ww hw 100 rfl) (by decide) (ww hw 101 rfl) (ww hw 98 rfl) e4 (rm20_26 l hw p1 p2 h0 n0 Z0 hc7 hc8) (st := [.null, (.int p2), (.int p1)]) rfl 0 rfl (by decide) (pc := 5) (Ls := (lc3 p1 p2)) hml rfl (lenOf pd_13 rfl) d19_5 hby
  obtain ⟨rfl, N6q, e6⟩ := hQ6
  have N9 := Fr.app N0 N6q
  refine own_go (U' := T6.setTop (mkF m 9 (lc3 p1 p2) [])) (fun t k => oiloadN X0 hx hby d19_0 rfl (oiloadN X0 hx hby d19_1 rfl (st4 _ (st6 _ (opop X6 hx hby d19_8 rfl k))))) ?_
  obtain ⟨fs, hr, hrun, hended, hW, hsame⟩ := X6.leave (v := none) (fun _ => rfl)
  refine own_out ⟨_, _, ?_, hrun, hended, _, _, rfl, ?_, ⟨_, rfl⟩, hW, hsame.mono (by decide) (by decide)⟩
  · exact X6.returnOut hx Bd.returns (hb hby d19_9) hr
  · show Q19_28 Z p1 p2 vy0 h0 n0 _ T6.heap _
    rw [e6]
    exact ⟨rfl, N9, rfl⟩
def Q19_29 (Z : State) (p1 p2 : Int32) (vy0 : Value) (h0 : Heap) (n0 : Nat) (v : Option Value) (h : Heap) (L : List Loc) : Prop := v = none ∧ Fr n0 L ∧ h = h0
theorem rm19_29 (l : Launch) {Z : State} {a0 : Array Value} (hw : own_W Z a0) (p1 p2 : Int32) (vy0 : Value) (h0 : Heap) (n0 : Nat) (Z0 : n0 ≤ h0.size) (F3 : Sta Z h0 zs16 zs19 zs20 vy0) (hc5 : ¬ (vy0 = Value.null)) (hc6 : vy0.isRef = true) (hc8 : ¬ (p1 < (0 : Int32))) (hc9 : p1 < p2) :
    own_MF l zm15 c_19 2 none (own_R 1 0 0 14) #[(.int p1), (.int p2)] Z h0 (Q19_29 Z p1 p2 vy0 h0 n0) := by
  refine own_st (L := (lc3 p1 p2)) (own := zs6) (plainFor_of_name pn_2) rfl (fun m => ef_10 m p1 p2) fun p e s m below meth c s₁ Bd hml hZ hh hx hby hown hnm X0 e0 => ?_
  have N0 := Fr.nil n0
  obtain ⟨T4, X4, e4, st4⟩ := getS2 X0 hx hZ hown (host := "") (Or.inl (ww hw 97 rfl)) Via.refl e0 (own_yR hc6 hc5 F3) (g := (mkF m 2 (lc3 p1 p2) [(.int p2), (.int p1)])) rfl (hb hby d19_2)
  obtain ⟨_, T7, L7, X7, hQ7, st7⟩ := ocallS X4 hx hZ zm14 hown (ww hw 99 rfl) (ww hw 100 rfl) (by decide) (ww hw 101 rfl) (ww hw 98 rfl) e4 (rm20_27 l hw p1 p2 (own_rf vy0) h0 n0 Z0 hc8 hc9) (st := [(.ref (own_rf vy0)), (.int p2), (.int p1)]) rfl 0 rfl (by decide) (pc := 5) (Ls := (lc3 p1 p2)) hml rfl (lenOf pd_13 rfl) d19_5 hby
  obtain ⟨rfl, N7q, e7⟩ := hQ7
  have N10 := Fr.app N0 N7q
  refine own_go (U' := T7.setTop (mkF m 9 (lc3 p1 p2) [])) (fun t k => oiloadN X0 hx hby d19_0 rfl (oiloadN X0 hx hby d19_1 rfl (st4 _ (st7 _ (opop X7 hx hby d19_8 rfl k))))) ?_
  obtain ⟨fs, hr, hrun, hended, hW, hsame⟩ := X7.leave (v := none) (fun _ => rfl)
  refine own_out ⟨_, _, ?_, hrun, hended, _, _, rfl, ?_, ⟨_, rfl⟩, hW, hsame.mono (by decide) (by decide)⟩
  · exact X7.returnOut hx Bd.returns (hb hby d19_9) hr
  · show Q19_29 Z p1 p2 vy0 h0 n0 _ T7.heap _
    rw [e7]
    exact ⟨rfl, N10, rfl⟩
def Qmg19_30 (Z : State) (p1 p2 : Int32) (vy0 : Value) (h0 : Heap) (n0 : Nat) (v : Option Value) (h : Heap) (L : List Loc) : Prop := v = none ∧ Fr n0 L ∧ h = h0
theorem mg19_30 (l : Launch) {Z : State} {a0 : Array Value} (hw : own_W Z a0) (p1 p2 : Int32) (vy0 : Value) (h0 : Heap) (n0 : Nat) (Z0 : n0 ≤ h0.size) (F3 : Sta Z h0 zs16 zs19 zs20 vy0) (hc4 : ¬ (p1 < (0 : Int32))) (hc5 : p1 < p2) (hc6 : vy0.isRef = true) :
    own_MF l zm15 c_19 2 none (own_R 1 0 0 14) #[(.int p1), (.int p2)] Z h0 (Qmg19_30 Z p1 p2 vy0 h0 n0) := by
  by_cases hm1 : vy0 = Value.null
  · exact rm19_28 l hw p1 p2 vy0 h0 n0 Z0 F3 hm1 hc4 hc5
  · exact rm19_29 l hw p1 p2 vy0 h0 n0 Z0 F3 hm1 hc6 hc4 hc5
def Q18_31 (Z : State) (a1 : Addr) (p2 p4 : Int32) (vy0 : Value) (p13 : Int32) (h0 : Heap) (n0 : Nat) (v : Option Value) (h : Heap) (L : List Loc) : Prop := v = some (.int p13) ∧ Fr n0 L ∧ h = h0
theorem rm18_31 (l : Launch) {Z : State} {a0 : Array Value} (hw : own_W Z a0) (a1 : Addr) (p2 p4 : Int32) (vy0 : Value) (p13 : Int32) (h0 : Heap) (n0 : Nat) (Z0 : n0 ≤ h0.size) (F3 : own_Ln Z h0 a1 p4) (F7 : Sta Z h0 zs16 zs19 zs20 vy0) (hc8 : ¬ (p2 < (0 : Int32))) (hc9 : p2 < p4) (hc10 : vy0.isRef = true) (F12 : own_El Z h0 a1 p2 p13) (hc15 : ¬ (p13 < (0 : Int32))) (hc16 : p13 < (128 : Int32)) (hc17 : p13 < (65536 : Int32)) :
    own_MF l zm16 c_18 2 (some .char) (own_R 2 0 0 27) #[(.ref a1), (.int p2)] Z h0 (Q18_31 Z a1 p2 p4 vy0 p13 h0 n0) := by
  refine own_st (L := (lc17 a1 p2)) (own := zs9) (plainFor_of_name pn_3) rfl (fun m => ef_3 m a1 p2) fun p e s m below meth c s₁ Bd hml hZ hh hx hby hown hnm X0 e0 => ?_
  have N0 := Fr.nil n0
  refine own_go (U' := s₁.setTop (mkF m 2 (lc17 a1 p2) [(.ref a1), (.int p2)])) (fun t k => oiloadN X0 hx hby d18_0 rfl (oaloadN X0 hx hby d18_1 rfl rfl k)) ?_
  obtain ⟨cl5, Ar5, S5, N5⟩ := id F3
  refine own_go (fun t k => X0.arraylength hx (own_at e0 Ar5.1) (State.isArrayOf_alike hZ.alike Ar5.2.1) (g := (mkF m 2 (lc17 a1 p2) [(.ref a1), (.int p2)])) rfl rfl (hb hby d18_2) _ k) ?_
  rw [len_of S5 N5]
  obtain ⟨_, T6, L6, X6, hQ6, st6⟩ := ocallS X0 hx hZ zm15 hown (ww hw 94 rfl) (ww hw 95 rfl) (by decide) (ww hw 96 rfl) (ww hw 8 rfl) e0 (mg19_30 l hw p2 p4 vy0 h0 n0 Z0 F7 hc8 hc9 hc10) (st := [(.int p4), (.int p2)]) rfl 0 rfl (by decide) (pc := 3) (Ls := (lc17 a1 p2)) hml rfl (lenOf pd_14 rfl) d18_3 hby
  obtain ⟨rfl, N6q, e6⟩ := hQ6
  have N11 := Fr.app N0 N6q
  obtain ⟨cl14, Ar14, hin14, hat14⟩ := id F12
  refine own_go (U' := T6.setTop (mkF m 13 (lc17 a1 p2) [(.int (p13 &&& (255 : Int32)))])) (fun t k => st6 _ (oaloadN X6 hx hby d18_6 rfl rfl (oiloadN X6 hx hby d18_7 rfl (X6.baloadBytes hx (j := p2) (v := (.int p13)) (own_at e6 Ar14.1) (State.isArrayOf_alike hZ.alike Ar14.2.1) Ar14.2.2 hin14 hat14 (g := (mkF m 8 (lc17 a1 p2) [(.int p2), (.ref a1)])) rfl rfl (hb hby d18_8) _ (osipush X6 hx hby d18_9 (oiand X6 hx hby d18_12 k)))))) ?_
  rw [own_and255 (x := p13) hc15 hc16]
  refine own_go (U' := T6.setTop (mkF m 14 (lc17 a1 p2) [(.int (p13.toUInt32.toUInt16.toUInt32.toInt32))])) (fun t k => oi2c X6 hx hby d18_13 k) ?_
  rw [own_i2c (x := p13) hc15 hc17]
  obtain ⟨fs, hr, hrun, hended, hW, hsame⟩ := X6.leave (v := some (.int p13)) (fun h => by rw [Bd.returns] at h; cases h)
  refine own_out ⟨_, _, ?_, hrun, hended, _, _, rfl, ?_, ⟨_, rfl⟩, hW, hsame.mono (by decide) (by decide)⟩
  · exact retOut X6 hx Bd.returns (show narrow .char (.int p13) = _ from congrArg Value.int (own_i2c hc15 hc17)) (Or.inl ⟨rfl, Or.inr (Or.inr (Or.inr (Or.inl rfl))), _, rfl⟩) (hb hby d18_14) hr
  · show Q18_31 Z a1 p2 p4 vy0 p13 h0 n0 _ T6.heap _
    rw [e6]
    exact ⟨rfl, N11, rfl⟩
def Q16_32 (Z : State) (a1 : Addr) (p2 p5 : Int32) (a10 : Addr) (p15 : Int32) (vy0 : Value) (p21 : Int32) (h0 : Heap) (n0 : Nat) (v : Option Value) (h : Heap) (L : List Loc) : Prop := v = some (.int p21) ∧ Fr n0 L ∧ h = h0
theorem rm16_32 (l : Launch) {Z : State} {a0 : Array Value} (hw : own_W Z a0) (a1 : Addr) (p2 p5 : Int32) (a10 : Addr) (p15 : Int32) (vy0 : Value) (p21 : Int32) (h0 : Heap) (n0 : Nat) (Z0 : n0 ≤ h0.size) (F4 : Exa Z h0 a1 zs6) (F6 : Sta Z h0 zs6 zs7 "Z" (.int p5)) (hc7 : ¬ (p5 = (0 : Int32))) (F8 : Fld Z h0 a1 zs6 "coder" "B" (.int 0)) (F11 : Fld Z h0 a1 zs6 "value" "[B" (.ref a10)) (F14 : own_Ln Z h0 a10 p15) (F16 : Sta Z h0 zs16 zs19 zs20 vy0) (hc19 : vy0.isRef = true) (F20 : own_El Z h0 a10 p2 p21) (hc22 : ¬ (p21 < (0 : Int32))) (hc23 : p21 < (128 : Int32)) (hc24 : p21 < (65536 : Int32)) (hB : ¬ (p2 < (0 : Int32)) ∧ p2 < p15) :
    own_MF l zm17 c_16 2 (some .char) (own_R 3 0 0 40) #[(.ref a1), (.int p2)] Z h0 (Q16_32 Z a1 p2 p5 a10 p15 vy0 p21 h0 n0) := by
  refine own_st (L := (lc17 a1 p2)) (own := zs6) (plainFor_of_name pn_2) rfl (fun m => ef_3 m a1 p2) fun p e s m below meth c s₁ Bd hml hZ hh hx hby hown hnm X0 e0 => ?_
  have N0 := Fr.nil n0
  obtain ⟨hc17, hc18⟩ := hB
  obtain ⟨_, T3, L3, X3, hQ3, st3⟩ := ocallV X0 hx hZ zm13 zm13 hown (ww hw 86 rfl) (ww hw 87 rfl) (notFace_of_selects (args := #[]) (mvT hZ (ww hw 89 rfl))) (ww hw 89 rfl) (ww hw 88 rfl) (by decide) (ww hw 90 rfl) (ww hw 8 rfl) e0 F4 (rm17_25 l hw a1 p5 h0 n0 Z0 F6 hc7 F8) (st := [(.ref a1)]) rfl 0 rfl (by decide) (pc := 1) (Ls := (lc17 a1 p2)) hml rfl (lenOf pd_10 rfl) d16_1 hby
  obtain ⟨rfl, N3q, e3⟩ := hQ3
  have N9 := Fr.app N0 N3q
  refine own_go (U' := T3.setTop (mkF m 4 (lc17 a1 p2) [(.int 1)])) (fun t k => oaloadN X0 hx hby d16_0 rfl rfl (st3 _ k)) ?_
  obtain ⟨T12, X12, e12, st12⟩ := getF X3 hx hZ hown (host := "") (Or.inl (ww hw 33 rfl)) Via.refl e3 F11 (g := (mkF m 8 (lc17 a1 p2) [(.ref a1)])) rfl rfl (hb hby d16_8)
  obtain ⟨_, T13, L13, X13, hQ13, st13⟩ := ocallS X12 hx hZ zm16 hown (ww hw 91 rfl) (ww hw 92 rfl) (by decide) (ww hw 93 rfl) (ww hw 46 rfl) e12 (rm18_31 l hw a10 p2 p15 vy0 p21 h0 n0 Z0 F14 F16 hc17 hc18 hc19 F20 hc22 hc23 hc24) (st := [(.int p2), (.ref a10)]) rfl 0 rfl (by decide) (pc := 12) (Ls := (lc17 a1 p2)) hml rfl (lenOf pd_15 rfl) d16_12 hby
  obtain ⟨rfl, N13q, e13⟩ := hQ13
  have N25 := Fr.app N9 N13q
  refine own_go (U' := T13.setTop (mkF m 15 (lc17 a1 p2) [(.int p21)])) (fun t k => oifN X3 hx hby d16_4 (by decide) (oaloadN X3 hx hby d16_7 rfl rfl (st12 _ (oiloadN X12 hx hby d16_11 rfl (st13 _ k))))) ?_
  obtain ⟨fs, hr, hrun, hended, hW, hsame⟩ := X13.leave (v := some (.int p21)) (fun h => by rw [Bd.returns] at h; cases h)
  refine own_out ⟨_, _, ?_, hrun, hended, _, _, rfl, ?_, ⟨_, rfl⟩, hW, hsame.mono (by decide) (by decide)⟩
  · exact retOut X13 hx Bd.returns (show narrow .char (.int p21) = _ from congrArg Value.int (own_i2c hc22 hc24)) (Or.inl ⟨rfl, Or.inr (Or.inr (Or.inr (Or.inl rfl))), _, rfl⟩) (hb hby d16_15) hr
  · show Q16_32 Z a1 p2 p5 a10 p15 vy0 p21 h0 n0 _ T13.heap _
    rw [e13]
    exact ⟨rfl, N25, rfl⟩
def Q21_33 (Z : State) (p1 : Int32) (h0 : Heap) (n0 : Nat) (v : Option Value) (h : Heap) (L : List Loc) : Prop := v = some (.int 1) ∧ Fr n0 L ∧ h = h0
theorem rm21_33 (l : Launch) {Z : State} {a0 : Array Value} (hw : own_W Z a0) (p1 : Int32) (h0 : Heap) (n0 : Nat) (Z0 : n0 ≤ h0.size) (hc2 : p1 < (97 : Int32)) (hc3 : p1 < (65 : Int32)) (hc4 : p1 < (48 : Int32)) (hc5 : p1 = (46 : Int32)) :
    own_MF l zm18 c_21 1 (some .boolean) (own_R 0 0 0 0) #[(.int p1)] Z h0 (Q21_33 Z p1 h0 n0) := by
  refine own_st (L := (lc28 p1)) (own := zs21) (plainFor_of_name pn_7) rfl (fun m => ef_11 m p1) fun p e s m below meth c s₁ Bd hml hZ hh hx hby hown hnm X0 e0 => ?_
  have N0 := Fr.nil n0
  refine own_go (U' := s₁.setTop (mkF m 3 (lc28 p1) [(.int 97), (.int p1)])) (fun t k => oiloadN X0 hx hby d21_0 rfl (obipush X0 hx hby d21_1 k)) ?_
  refine own_go (U' := s₁.setTop (mkF m 15 (lc28 p1) [(.int 65), (.int p1)])) (fun t k => oicY (pc := 3) X0 hx hby d21_3 12 (tlt hc2).1 (by decide) (oiloadN X0 hx hby d21_12 rfl (obipush X0 hx hby d21_13 k))) ?_
  refine own_go (U' := s₁.setTop (mkF m 27 (lc28 p1) [(.int 48), (.int p1)])) (fun t k => oicY (pc := 15) X0 hx hby d21_15 24 (tlt hc3).1 (by decide) (oiloadN X0 hx hby d21_24 rfl (obipush X0 hx hby d21_25 k))) ?_
  refine own_go (U' := s₁.setTop (mkF m 39 (lc28 p1) [(.int 46), (.int p1)])) (fun t k => oicY (pc := 27) X0 hx hby d21_27 36 (tlt hc4).1 (by decide) (oiloadN X0 hx hby d21_36 rfl (obipush X0 hx hby d21_37 k))) ?_
  refine own_go (U' := s₁.setTop (mkF m 59 (lc28 p1) [(.int 1)])) (fun t k => oicY (pc := 39) X0 hx hby d21_39 54 (teq hc5).1 (by decide) (oiconst X0 hx hby d21_54 (ogoto (pc := 55) X0 hx hby d21_55 59 (by decide) k))) ?_
  obtain ⟨fs, hr, hrun, hended, hW, hsame⟩ := X0.leave (v := some (.int 1)) (fun h => by rw [Bd.returns] at h; cases h)
  refine own_out ⟨_, _, ?_, hrun, hended, _, _, rfl, ?_, ⟨_, rfl⟩, hW, hsame.mono (by decide) (by decide)⟩
  · exact retN X0 hx (t := .boolean) Bd.returns (by simp) (hb hby d21_59) hr
  · show Q21_33 Z p1 h0 n0 _ s₁.heap _
    rw [e0]
    exact ⟨rfl, N0, rfl⟩
def Q21_34 (Z : State) (p1 : Int32) (h0 : Heap) (n0 : Nat) (v : Option Value) (h : Heap) (L : List Loc) : Prop := v = some (.int 1) ∧ Fr n0 L ∧ h = h0
theorem rm21_34 (l : Launch) {Z : State} {a0 : Array Value} (hw : own_W Z a0) (p1 : Int32) (h0 : Heap) (n0 : Nat) (Z0 : n0 ≤ h0.size) (hc2 : p1 < (97 : Int32)) (hc3 : p1 < (65 : Int32)) (hc4 : p1 < (48 : Int32)) (hc5 : ¬ (p1 = (46 : Int32))) (hc6 : p1 = (45 : Int32)) :
    own_MF l zm18 c_21 1 (some .boolean) (own_R 0 0 0 0) #[(.int p1)] Z h0 (Q21_34 Z p1 h0 n0) := by
  refine own_st (L := (lc28 p1)) (own := zs21) (plainFor_of_name pn_7) rfl (fun m => ef_11 m p1) fun p e s m below meth c s₁ Bd hml hZ hh hx hby hown hnm X0 e0 => ?_
  have N0 := Fr.nil n0
  refine own_go (U' := s₁.setTop (mkF m 3 (lc28 p1) [(.int 97), (.int p1)])) (fun t k => oiloadN X0 hx hby d21_0 rfl (obipush X0 hx hby d21_1 k)) ?_
  refine own_go (U' := s₁.setTop (mkF m 15 (lc28 p1) [(.int 65), (.int p1)])) (fun t k => oicY (pc := 3) X0 hx hby d21_3 12 (tlt hc2).1 (by decide) (oiloadN X0 hx hby d21_12 rfl (obipush X0 hx hby d21_13 k))) ?_
  refine own_go (U' := s₁.setTop (mkF m 27 (lc28 p1) [(.int 48), (.int p1)])) (fun t k => oicY (pc := 15) X0 hx hby d21_15 24 (tlt hc3).1 (by decide) (oiloadN X0 hx hby d21_24 rfl (obipush X0 hx hby d21_25 k))) ?_
  refine own_go (U' := s₁.setTop (mkF m 39 (lc28 p1) [(.int 46), (.int p1)])) (fun t k => oicY (pc := 27) X0 hx hby d21_27 36 (tlt hc4).1 (by decide) (oiloadN X0 hx hby d21_36 rfl (obipush X0 hx hby d21_37 k))) ?_
  refine own_go (U' := s₁.setTop (mkF m 45 (lc28 p1) [(.int 45), (.int p1)])) (fun t k => oicN X0 hx hby d21_39 (feq hc5).1 (oiloadN X0 hx hby d21_42 rfl (obipush X0 hx hby d21_43 k))) ?_
  refine own_go (U' := s₁.setTop (mkF m 59 (lc28 p1) [(.int 1)])) (fun t k => oicY (pc := 45) X0 hx hby d21_45 54 (teq hc6).1 (by decide) (oiconst X0 hx hby d21_54 (ogoto (pc := 55) X0 hx hby d21_55 59 (by decide) k))) ?_
  obtain ⟨fs, hr, hrun, hended, hW, hsame⟩ := X0.leave (v := some (.int 1)) (fun h => by rw [Bd.returns] at h; cases h)
  refine own_out ⟨_, _, ?_, hrun, hended, _, _, rfl, ?_, ⟨_, rfl⟩, hW, hsame.mono (by decide) (by decide)⟩
  · exact retN X0 hx (t := .boolean) Bd.returns (by simp) (hb hby d21_59) hr
  · show Q21_34 Z p1 h0 n0 _ s₁.heap _
    rw [e0]
    exact ⟨rfl, N0, rfl⟩
def Q21_35 (Z : State) (p1 : Int32) (h0 : Heap) (n0 : Nat) (v : Option Value) (h : Heap) (L : List Loc) : Prop := v = some (.int 1) ∧ Fr n0 L ∧ h = h0
theorem rm21_35 (l : Launch) {Z : State} {a0 : Array Value} (hw : own_W Z a0) (p1 : Int32) (h0 : Heap) (n0 : Nat) (Z0 : n0 ≤ h0.size) (hc2 : p1 < (97 : Int32)) (hc3 : p1 < (65 : Int32)) (hc4 : ¬ (p1 < (48 : Int32))) (hc5 : ¬ ((57 : Int32) < p1)) :
    own_MF l zm18 c_21 1 (some .boolean) (own_R 0 0 0 0) #[(.int p1)] Z h0 (Q21_35 Z p1 h0 n0) := by
  refine own_st (L := (lc28 p1)) (own := zs21) (plainFor_of_name pn_7) rfl (fun m => ef_11 m p1) fun p e s m below meth c s₁ Bd hml hZ hh hx hby hown hnm X0 e0 => ?_
  have N0 := Fr.nil n0
  refine own_go (U' := s₁.setTop (mkF m 3 (lc28 p1) [(.int 97), (.int p1)])) (fun t k => oiloadN X0 hx hby d21_0 rfl (obipush X0 hx hby d21_1 k)) ?_
  refine own_go (U' := s₁.setTop (mkF m 15 (lc28 p1) [(.int 65), (.int p1)])) (fun t k => oicY (pc := 3) X0 hx hby d21_3 12 (tlt hc2).1 (by decide) (oiloadN X0 hx hby d21_12 rfl (obipush X0 hx hby d21_13 k))) ?_
  refine own_go (U' := s₁.setTop (mkF m 27 (lc28 p1) [(.int 48), (.int p1)])) (fun t k => oicY (pc := 15) X0 hx hby d21_15 24 (tlt hc3).1 (by decide) (oiloadN X0 hx hby d21_24 rfl (obipush X0 hx hby d21_25 k))) ?_
  refine own_go (U' := s₁.setTop (mkF m 33 (lc28 p1) [(.int 57), (.int p1)])) (fun t k => oicN X0 hx hby d21_27 (flt hc4).1 (oiloadN X0 hx hby d21_30 rfl (obipush X0 hx hby d21_31 k))) ?_
  refine own_go (U' := s₁.setTop (mkF m 59 (lc28 p1) [(.int 1)])) (fun t k => oicY (pc := 33) X0 hx hby d21_33 54 (flt hc5).2.2.2 (by decide) (oiconst X0 hx hby d21_54 (ogoto (pc := 55) X0 hx hby d21_55 59 (by decide) k))) ?_
  obtain ⟨fs, hr, hrun, hended, hW, hsame⟩ := X0.leave (v := some (.int 1)) (fun h => by rw [Bd.returns] at h; cases h)
  refine own_out ⟨_, _, ?_, hrun, hended, _, _, rfl, ?_, ⟨_, rfl⟩, hW, hsame.mono (by decide) (by decide)⟩
  · exact retN X0 hx (t := .boolean) Bd.returns (by simp) (hb hby d21_59) hr
  · show Q21_35 Z p1 h0 n0 _ s₁.heap _
    rw [e0]
    exact ⟨rfl, N0, rfl⟩
def Q21_36 (Z : State) (p1 : Int32) (h0 : Heap) (n0 : Nat) (v : Option Value) (h : Heap) (L : List Loc) : Prop := v = some (.int 1) ∧ Fr n0 L ∧ h = h0
theorem rm21_36 (l : Launch) {Z : State} {a0 : Array Value} (hw : own_W Z a0) (p1 : Int32) (h0 : Heap) (n0 : Nat) (Z0 : n0 ≤ h0.size) (hc2 : p1 < (97 : Int32)) (hc3 : ¬ (p1 < (65 : Int32))) (hc4 : (90 : Int32) < p1) (hc5 : ¬ (p1 < (48 : Int32))) (hc6 : (57 : Int32) < p1) (hc7 : ¬ (p1 = (46 : Int32))) (hc8 : ¬ (p1 = (45 : Int32))) (hc9 : p1 = (95 : Int32)) :
    own_MF l zm18 c_21 1 (some .boolean) (own_R 0 0 0 0) #[(.int p1)] Z h0 (Q21_36 Z p1 h0 n0) := by
  refine own_st (L := (lc28 p1)) (own := zs21) (plainFor_of_name pn_7) rfl (fun m => ef_11 m p1) fun p e s m below meth c s₁ Bd hml hZ hh hx hby hown hnm X0 e0 => ?_
  have N0 := Fr.nil n0
  refine own_go (U' := s₁.setTop (mkF m 3 (lc28 p1) [(.int 97), (.int p1)])) (fun t k => oiloadN X0 hx hby d21_0 rfl (obipush X0 hx hby d21_1 k)) ?_
  refine own_go (U' := s₁.setTop (mkF m 15 (lc28 p1) [(.int 65), (.int p1)])) (fun t k => oicY (pc := 3) X0 hx hby d21_3 12 (tlt hc2).1 (by decide) (oiloadN X0 hx hby d21_12 rfl (obipush X0 hx hby d21_13 k))) ?_
  refine own_go (U' := s₁.setTop (mkF m 21 (lc28 p1) [(.int 90), (.int p1)])) (fun t k => oicN X0 hx hby d21_15 (flt hc3).1 (oiloadN X0 hx hby d21_18 rfl (obipush X0 hx hby d21_19 k))) ?_
  refine own_go (U' := s₁.setTop (mkF m 27 (lc28 p1) [(.int 48), (.int p1)])) (fun t k => oicN X0 hx hby d21_21 (tlt hc4).2.2.2 (oiloadN X0 hx hby d21_24 rfl (obipush X0 hx hby d21_25 k))) ?_
  refine own_go (U' := s₁.setTop (mkF m 33 (lc28 p1) [(.int 57), (.int p1)])) (fun t k => oicN X0 hx hby d21_27 (flt hc5).1 (oiloadN X0 hx hby d21_30 rfl (obipush X0 hx hby d21_31 k))) ?_
  refine own_go (U' := s₁.setTop (mkF m 39 (lc28 p1) [(.int 46), (.int p1)])) (fun t k => oicN X0 hx hby d21_33 (tlt hc6).2.2.2 (oiloadN X0 hx hby d21_36 rfl (obipush X0 hx hby d21_37 k))) ?_
  refine own_go (U' := s₁.setTop (mkF m 45 (lc28 p1) [(.int 45), (.int p1)])) (fun t k => oicN X0 hx hby d21_39 (feq hc7).1 (oiloadN X0 hx hby d21_42 rfl (obipush X0 hx hby d21_43 k))) ?_
  refine own_go (U' := s₁.setTop (mkF m 51 (lc28 p1) [(.int 95), (.int p1)])) (fun t k => oicN X0 hx hby d21_45 (feq hc8).1 (oiloadN X0 hx hby d21_48 rfl (obipush X0 hx hby d21_49 k))) ?_
  refine own_go (U' := s₁.setTop (mkF m 59 (lc28 p1) [(.int 1)])) (fun t k => oicN X0 hx hby d21_51 (teq hc9).2 (oiconst X0 hx hby d21_54 (ogoto (pc := 55) X0 hx hby d21_55 59 (by decide) k))) ?_
  obtain ⟨fs, hr, hrun, hended, hW, hsame⟩ := X0.leave (v := some (.int 1)) (fun h => by rw [Bd.returns] at h; cases h)
  refine own_out ⟨_, _, ?_, hrun, hended, _, _, rfl, ?_, ⟨_, rfl⟩, hW, hsame.mono (by decide) (by decide)⟩
  · exact retN X0 hx (t := .boolean) Bd.returns (by simp) (hb hby d21_59) hr
  · show Q21_36 Z p1 h0 n0 _ s₁.heap _
    rw [e0]
    exact ⟨rfl, N0, rfl⟩
def Q21_37 (Z : State) (p1 : Int32) (h0 : Heap) (n0 : Nat) (v : Option Value) (h : Heap) (L : List Loc) : Prop := v = some (.int 1) ∧ Fr n0 L ∧ h = h0
theorem rm21_37 (l : Launch) {Z : State} {a0 : Array Value} (hw : own_W Z a0) (p1 : Int32) (h0 : Heap) (n0 : Nat) (Z0 : n0 ≤ h0.size) (hc2 : p1 < (97 : Int32)) (hc3 : ¬ (p1 < (65 : Int32))) (hc4 : ¬ ((90 : Int32) < p1)) :
    own_MF l zm18 c_21 1 (some .boolean) (own_R 0 0 0 0) #[(.int p1)] Z h0 (Q21_37 Z p1 h0 n0) := by
  refine own_st (L := (lc28 p1)) (own := zs21) (plainFor_of_name pn_7) rfl (fun m => ef_11 m p1) fun p e s m below meth c s₁ Bd hml hZ hh hx hby hown hnm X0 e0 => ?_
  have N0 := Fr.nil n0
  refine own_go (U' := s₁.setTop (mkF m 3 (lc28 p1) [(.int 97), (.int p1)])) (fun t k => oiloadN X0 hx hby d21_0 rfl (obipush X0 hx hby d21_1 k)) ?_
  refine own_go (U' := s₁.setTop (mkF m 15 (lc28 p1) [(.int 65), (.int p1)])) (fun t k => oicY (pc := 3) X0 hx hby d21_3 12 (tlt hc2).1 (by decide) (oiloadN X0 hx hby d21_12 rfl (obipush X0 hx hby d21_13 k))) ?_
  refine own_go (U' := s₁.setTop (mkF m 21 (lc28 p1) [(.int 90), (.int p1)])) (fun t k => oicN X0 hx hby d21_15 (flt hc3).1 (oiloadN X0 hx hby d21_18 rfl (obipush X0 hx hby d21_19 k))) ?_
  refine own_go (U' := s₁.setTop (mkF m 59 (lc28 p1) [(.int 1)])) (fun t k => oicY (pc := 21) X0 hx hby d21_21 54 (flt hc4).2.2.2 (by decide) (oiconst X0 hx hby d21_54 (ogoto (pc := 55) X0 hx hby d21_55 59 (by decide) k))) ?_
  obtain ⟨fs, hr, hrun, hended, hW, hsame⟩ := X0.leave (v := some (.int 1)) (fun h => by rw [Bd.returns] at h; cases h)
  refine own_out ⟨_, _, ?_, hrun, hended, _, _, rfl, ?_, ⟨_, rfl⟩, hW, hsame.mono (by decide) (by decide)⟩
  · exact retN X0 hx (t := .boolean) Bd.returns (by simp) (hb hby d21_59) hr
  · show Q21_37 Z p1 h0 n0 _ s₁.heap _
    rw [e0]
    exact ⟨rfl, N0, rfl⟩
def Q21_38 (Z : State) (p1 : Int32) (h0 : Heap) (n0 : Nat) (v : Option Value) (h : Heap) (L : List Loc) : Prop := v = some (.int 1) ∧ Fr n0 L ∧ h = h0
theorem rm21_38 (l : Launch) {Z : State} {a0 : Array Value} (hw : own_W Z a0) (p1 : Int32) (h0 : Heap) (n0 : Nat) (Z0 : n0 ≤ h0.size) (hc2 : ¬ (p1 < (97 : Int32))) (hc3 : ¬ ((122 : Int32) < p1)) :
    own_MF l zm18 c_21 1 (some .boolean) (own_R 0 0 0 0) #[(.int p1)] Z h0 (Q21_38 Z p1 h0 n0) := by
  refine own_st (L := (lc28 p1)) (own := zs21) (plainFor_of_name pn_7) rfl (fun m => ef_11 m p1) fun p e s m below meth c s₁ Bd hml hZ hh hx hby hown hnm X0 e0 => ?_
  have N0 := Fr.nil n0
  refine own_go (U' := s₁.setTop (mkF m 3 (lc28 p1) [(.int 97), (.int p1)])) (fun t k => oiloadN X0 hx hby d21_0 rfl (obipush X0 hx hby d21_1 k)) ?_
  refine own_go (U' := s₁.setTop (mkF m 9 (lc28 p1) [(.int 122), (.int p1)])) (fun t k => oicN X0 hx hby d21_3 (flt hc2).1 (oiloadN X0 hx hby d21_6 rfl (obipush X0 hx hby d21_7 k))) ?_
  refine own_go (U' := s₁.setTop (mkF m 59 (lc28 p1) [(.int 1)])) (fun t k => oicY (pc := 9) X0 hx hby d21_9 54 (flt hc3).2.2.2 (by decide) (oiconst X0 hx hby d21_54 (ogoto (pc := 55) X0 hx hby d21_55 59 (by decide) k))) ?_
  obtain ⟨fs, hr, hrun, hended, hW, hsame⟩ := X0.leave (v := some (.int 1)) (fun h => by rw [Bd.returns] at h; cases h)
  refine own_out ⟨_, _, ?_, hrun, hended, _, _, rfl, ?_, ⟨_, rfl⟩, hW, hsame.mono (by decide) (by decide)⟩
  · exact retN X0 hx (t := .boolean) Bd.returns (by simp) (hb hby d21_59) hr
  · show Q21_38 Z p1 h0 n0 _ s₁.heap _
    rw [e0]
    exact ⟨rfl, N0, rfl⟩
def Qmg21_39 (Z : State) (p1 : Int32) (h0 : Heap) (n0 : Nat) (v : Option Value) (h : Heap) (L : List Loc) : Prop := v = some (.int 1) ∧ Fr n0 L ∧ h = h0
theorem mg21_39 (l : Launch) {Z : State} {a0 : Array Value} (hw : own_W Z a0) (p1 : Int32) (h0 : Heap) (n0 : Nat) (Z0 : n0 ≤ h0.size) (hc2 : own_ok p1) (hc3 : ¬ ((122 : Int32) < p1)) :
    own_MF l zm18 c_21 1 (some .boolean) (own_R 0 0 0 0) #[(.int p1)] Z h0 (Qmg21_39 Z p1 h0 n0) := by
  by_cases hm1 : p1 < (97 : Int32)
  · by_cases hm2 : p1 < (65 : Int32)
    · by_cases hm3 : p1 < (48 : Int32)
      · by_cases hm4 : p1 = (46 : Int32)
        · exact rm21_33 l hw p1 h0 n0 Z0 hm1 hm2 hm3 hm4
        · by_cases hm5 : p1 = (45 : Int32)
          · exact rm21_34 l hw p1 h0 n0 Z0 hm1 hm2 hm3 hm4 hm5
          · exact False.elim (by have q := hc2; simp only [own_ok] at q; have := Int32.lt_iff_toInt_lt.mp hm1; have := Int32.lt_iff_toInt_lt.mp hm2; have := Int32.lt_iff_toInt_lt.mp hm3; have : ¬ (p1).toInt = ((46 : Int32)).toInt := fun e => hm4 (Int32.toInt_inj.mp e); have : ¬ (p1).toInt = ((45 : Int32)).toInt := fun e => hm5 (Int32.toInt_inj.mp e); have := rng32 p1; have := (by decide : ((97 : Int32)).toInt = 97); have := (by decide : ((65 : Int32)).toInt = 65); have := (by decide : ((48 : Int32)).toInt = 48); have := (by decide : ((46 : Int32)).toInt = 46); have := (by decide : ((45 : Int32)).toInt = 45); omega)
      · by_cases hm6 : (57 : Int32) < p1
        · exact False.elim (by have q := hc2; simp only [own_ok] at q; have := Int32.lt_iff_toInt_lt.mp hm1; have := Int32.lt_iff_toInt_lt.mp hm2; have : ¬ (p1).toInt < ((48 : Int32)).toInt := fun e => hm3 (Int32.lt_iff_toInt_lt.mpr e); have := Int32.lt_iff_toInt_lt.mp hm6; have := rng32 p1; have := (by decide : ((97 : Int32)).toInt = 97); have := (by decide : ((65 : Int32)).toInt = 65); have := (by decide : ((48 : Int32)).toInt = 48); have := (by decide : ((57 : Int32)).toInt = 57); omega)
        · exact rm21_35 l hw p1 h0 n0 Z0 hm1 hm2 hm3 hm6
    · by_cases hm7 : (90 : Int32) < p1
      · by_cases hm8 : p1 = (95 : Int32)
        · exact rm21_36 l hw p1 h0 n0 Z0 hm1 hm2 hm7 (fun e => by have := Int32.lt_iff_toInt_lt.mp e; have : ¬ (p1).toInt < ((65 : Int32)).toInt := fun e => hm2 (Int32.lt_iff_toInt_lt.mpr e); have := rng32 p1; have := (by decide : ((48 : Int32)).toInt = 48); have := (by decide : ((65 : Int32)).toInt = 65); omega) (Int32.lt_iff_toInt_lt.mpr (by have : ¬ (p1).toInt < ((65 : Int32)).toInt := fun e => hm2 (Int32.lt_iff_toInt_lt.mpr e); have := (by decide : ((57 : Int32)).toInt = 57); have := rng32 p1; have := (by decide : ((65 : Int32)).toInt = 65); omega)) (fun e => by have := congrArg Int32.toInt e; have : ¬ (p1).toInt < ((65 : Int32)).toInt := fun e => hm2 (Int32.lt_iff_toInt_lt.mpr e); have := rng32 p1; have := (by decide : ((46 : Int32)).toInt = 46); have := (by decide : ((65 : Int32)).toInt = 65); omega) (fun e => by have := congrArg Int32.toInt e; have : ¬ (p1).toInt < ((65 : Int32)).toInt := fun e => hm2 (Int32.lt_iff_toInt_lt.mpr e); have := rng32 p1; have := (by decide : ((45 : Int32)).toInt = 45); have := (by decide : ((65 : Int32)).toInt = 65); omega) hm8
        · exact False.elim (by have q := hc2; simp only [own_ok] at q; have := Int32.lt_iff_toInt_lt.mp hm1; have : ¬ (p1).toInt < ((65 : Int32)).toInt := fun e => hm2 (Int32.lt_iff_toInt_lt.mpr e); have := Int32.lt_iff_toInt_lt.mp hm7; have : ¬ (p1).toInt = ((95 : Int32)).toInt := fun e => hm8 (Int32.toInt_inj.mp e); have := rng32 p1; have := (by decide : ((97 : Int32)).toInt = 97); have := (by decide : ((65 : Int32)).toInt = 65); have := (by decide : ((90 : Int32)).toInt = 90); have := (by decide : ((95 : Int32)).toInt = 95); omega)
      · exact rm21_37 l hw p1 h0 n0 Z0 hm1 hm2 hm7
  · exact rm21_38 l hw p1 h0 n0 Z0 hm1 hc3
def Q10_40 (Z : State) (a1 a2 a11 : Addr) (p14 : Int32) (kc15 : ClassId) (p20 : Int32) (vy0 : Value) (h0 : Heap) (n0 : Nat) (v : Option Value) (h : Heap) (L : List Loc) : Prop := v = none ∧ Fr n0 L ∧ Keep h0 h [a1] ∧ Fld Z h a1 zs21 "value" zs23 (.ref a2)
theorem rm10_40 (l : Launch) {Z : State} {a0 : Array Value} (hw : own_W Z a0) (a1 a2 a11 : Addr) (p14 : Int32) (kc15 : ClassId) (p20 : Int32) (vy0 : Value) (h0 : Heap) (n0 : Nat) (Z0 : n0 ≤ h0.size) (F9 : Exa Z h0 a2 zs6) (F12 : Fld Z h0 a2 zs6 "value" "[B" (.ref a11)) (F16 : Arv Z h0 a11 kc15 .byte (1 : Int32) [(.int p14)] (.int (0 : Int32))) (F21 : Sta Z h0 zs6 zs7 "Z" (.int p20)) (hc23 : ¬ (p20 = (0 : Int32))) (F24 : Fld Z h0 a2 zs6 "coder" "B" (.int 0)) (F30 : Sta Z h0 zs16 zs19 zs20 vy0) (hc32 : vy0.isRef = true) (hc33 : ¬ (p14 < (0 : Int32))) (hc34 : p14 < (128 : Int32)) (hc35 : p14 < (65536 : Int32)) (hc38 : own_ok p14) (hc39 : ¬ ((122 : Int32) < p14)) (hc53 : (own_dot1 p14) = (0 : Int32)) (F64 : Fld Z h0 a1 zs21 "value" zs23 .null) (F66 : Exa Z h0 a1 zs21) (g69 : n0 ≤ a1) :
    MetFree l zm19 (head1 [Jvm.Cond.code zm19 c_10 4 none] (own_R 4 6 60 53)) (fun a U => a = #[(.ref a1), (.ref a2)] ∧ Z.Warmed39 U.vm ∧ U.heap = h0 ∧ CHv Z consts_1 U.vm h0 ∧ ∀ x ∈ ([a2] : List Addr), Safe Z consts_1 U.vm h0 x) (fun _ _ _ _ _ => True) (fun _ U o U' => ∃ v L, o = .returned v ∧ Q10_40 Z a1 a2 a11 p14 kc15 p20 vy0 h0 n0 v U'.heap L ∧ CHr Z consts_1 U.vm U.heap U'.vm U'.heap ∧ ReturnedEndW U o U' L (own_R 4 6 60 53).cells (own_R 4 6 60 53).slots) := by
  refine MetFree.of_bodySF (plainFor_of_name pn_7) hisR ?_
  intro p e s m args below meth c s₁ Bd hml0 hP hK
  obtain ⟨rfl, hZ, hh, hC, hSL⟩ := hP
  have C0 := CHr.refl hC
  have hx := Bd.exec
  have hby := Bd.bytes
  have hml : c.maxLocals = 4 := hml0
  have hown : s.vm.findClass zs21 = some m.cls := findClass_of_methodNamed Bd.named
  have hnm := (name_of_methodNamed Bd.named Bd.method).1
  have X0 : Stand p l e (own_R 4 6 60 53) s m #[(.ref a1), (.ref a2)] below meth c s₁ [] 0 0 := Stand.of_body Bd
  have e0 : s₁.heap = h0 := by rw [← hh, Bd.state]; rfl
  have N0 := Fr.nil n0
  refine own_pre (g' := mkF m 0 (lc22 a1 a2) []) (ef_12 m a1 a2) ?_
  obtain ⟨_, T3, L3, X3, hQ3, st3⟩ := ocallI X0 hx hZ zm8 rfl hown (ww hw 55 rfl) (ww hw 56 rfl) (by decide) (ww hw 59 rfl) (ww hw 58 rfl) e0 (rm11_20 l hw a1 h0 n0 Z0 ) (st := [(.ref a1)]) rfl 0 rfl (by decide) (pc := 1) (Ls := (lc22 a1 a2)) hml rfl (lenOf pd_8 rfl) d10_1 hby
  obtain ⟨rfl, N3q, e3⟩ := hQ3
  have N4 := Fr.app N0 N3q
  obtain ⟨b5, T5, h5, k5, bv5, cl5, X5, e5, E5, hS5, hk5, hZ, hown, f5a, f5b, f5c, f5d, lt5, lv5, CR5, -, ns5, st5⟩ := ldcCH (s := s) (vm0 := s.vm) X3 hx hZ hown (ww hw 61 rfl) (own_wS hw) e3 ((State.WarmedH.refl s).since 0) (Nat.zero_le _) (own_EW hw) (List.mem_of_getElem? (i := 0) rfl) C0.1 (vs := [(.int 108), (.int 111), (.int 99), (.int 107), (.int 32), (.int 110), (.int 97), (.int 109), (.int 101)]) (z := 9) ⟨by decide, by decide⟩ (by decide) (by decide) (g := (mkF m 5 (lc22 a1 a2) [(.ref a2)])) rfl (hb hby d10_5) (n := 36) (by decide) (by decide) (by decide) (by decide)
  have C1 := C0.trans CR5
  have Z_1 : n0 ≤ h5.size := Nat.le_trans Z0 E5.1
  obtain ⟨_, T6, L6, X6, hQ6, st6⟩ := ocallS X5 hx hZ zm9 hown (ww hw 62 rfl) (ww hw 63 rfl) (by decide) (ww hw 65 rfl) (ww hw 64 rfl) e5 (rm12_21 l hw a2 b5 h5 n0 Z_1 ) (st := [(.ref b5), (.ref a2)]) rfl 0 rfl (by decide) (pc := 7) (Ls := (lc22 a1 a2)) hml rfl (lenOf pd_9 rfl) d10_7 hby
  obtain ⟨rfl, N6q, e6⟩ := hQ6
  have N7 := Fr.app N4 N6q
  have f10 : Exa Z h5 a2 zs6 := (Exa.ext E5 F9)
  have f13 : Fld Z h5 a2 zs6 "value" "[B" (.ref a11) := (Fld.ext E5 F12)
  have f17 : Arv Z h5 a11 kc15 .byte (1 : Int32) [(.int p14)] (.int (0 : Int32)) := (F16.ext E5)
  obtain ⟨_, T8, L8, X8, hQ8, st8⟩ := ocallV X6 hx hZ zm10 zm10 hown (ww hw 66 rfl) (ww hw 67 rfl) (notFace_of_selects (args := #[]) (mvT hZ (ww hw 69 rfl))) (ww hw 69 rfl) (ww hw 68 rfl) (by decide) (ww hw 70 rfl) (ww hw 8 rfl) e6 f10 (rm13_22 l hw a2 a11 p14 kc15 h5 n0 Z_1 f13 f17) (st := [(.ref a2)]) rfl 0 rfl (by decide) (pc := 12) (Ls := (lc22 a1 a2)) hml rfl (lenOf pd_10 rfl) d10_12 hby
  obtain ⟨rfl, N8q, e8⟩ := hQ8
  have N18 := Fr.app N7 N8q
  refine own_go (U' := T8.setTop (mkF m 15 (lc22 a1 a2) [(.int 0)])) (fun t k => oaloadN X0 hx hby d10_0 rfl rfl (st3 _ (oaloadN X3 hx hby d10_4 rfl rfl (st5 _ (st6 _ (opop X6 hx hby d10_10 rfl (oaloadN X6 hx hby d10_11 rfl rfl (st8 _ k)))))))) ?_
  have f22 : Sta Z h5 zs6 zs7 "Z" (.int p20) := (Sta.ext E5 F21)
  have f25 : Fld Z h5 a2 zs6 "coder" "B" (.int 0) := (Fld.ext E5 F24)
  obtain ⟨_, T19, L19, X19, hQ19, st19⟩ := ocallV X8 hx hZ zm12 zm12 hown (ww hw 71 rfl) (ww hw 72 rfl) (notFace_of_selects (args := #[]) (mvT hZ (ww hw 74 rfl))) (ww hw 74 rfl) (ww hw 73 rfl) (by decide) (ww hw 75 rfl) (ww hw 8 rfl) e8 f10 (rm14_24 l hw a2 a11 1 p20 1 h5 n0 Z_1 f13 (own_lnV f17) f10 f22 hc23 f25 (by decide)) (st := [(.ref a2)]) rfl 0 rfl (by decide) (pc := 19) (Ls := (lc22 a1 a2)) hml rfl (lenOf pd_12 rfl) d10_19 hby
  obtain ⟨rfl, N19q, e19⟩ := hQ19
  have N26 := Fr.app N18 N19q
  refine own_go (U' := T19.setTop (mkF m 25 (lc22 a1 a2) [(.int 255), (.int 1)])) (fun t k => oifN X8 hx hby d10_15 (by decide) (oaloadN X8 hx hby d10_18 rfl rfl (st19 _ (osipush X19 hx hby d10_22 k)))) ?_
  obtain ⟨_, T27, L27, X27, hQ27, st27⟩ := ocallV X19 hx hZ zm12 zm12 hown (ww hw 71 rfl) (ww hw 72 rfl) (notFace_of_selects (args := #[]) (mvT hZ (ww hw 74 rfl))) (ww hw 74 rfl) (ww hw 73 rfl) (by decide) (ww hw 75 rfl) (ww hw 8 rfl) e19 f10 (rm14_24 l hw a2 a11 1 p20 1 h5 n0 Z_1 f13 (own_lnV f17) f10 f22 hc23 f25 (by decide)) (st := [(.ref a2), (.int 0)]) rfl 1 rfl (by decide) (pc := 62) (Ls := (lc24 a1 a2 0)) hml rfl (lenOf pd_12 rfl) d10_62 hby
  obtain ⟨rfl, N27q, e27⟩ := hQ27
  have N28 := Fr.app N26 N27q
  refine own_go (U' := T27.setTop (mkF m 65 (lc24 a1 a2 0) [(.int 1), (.int 0)])) (fun t k => oicY (pc := 25) X19 hx hby d10_25 58 (by decide) (by decide) (oiconst X19 hx hby d10_58 (oistoreN X19 hx hby d10_59 (lc24 a1 a2 0) rfl (oiloadN X19 hx hby d10_60 rfl (oaloadN X19 hx hby d10_61 rfl rfl (st27 _ k)))))) ?_
  have f31 : Sta Z h5 zs16 zs19 zs20 vy0 := (Sta.ext E5 F30)
  obtain ⟨_, T29, L29, X29, hQ29, st29⟩ := ocallV X27 hx hZ zm17 zm17 hown (ww hw 81 rfl) (ww hw 82 rfl) (notFace_of_selects (args := #[]) (mvT hZ (ww hw 84 rfl))) (ww hw 84 rfl) (ww hw 83 rfl) (by decide) (ww hw 85 rfl) (ww hw 8 rfl) e27 f10 (rm16_32 l hw a2 0 p20 a11 1 vy0 p14 h5 n0 Z_1 f10 f22 hc23 f25 f13 (own_lnV f17) f31 hc32 (own_elV (j := (0 : Int32)) f17 (by decide) (by decide) rfl) hc33 hc34 hc35 (by decide)) (st := [(.int 0), (.ref a2)]) rfl 0 rfl (by decide) (pc := 70) (Ls := (lc24 a1 a2 0)) hml rfl (lenOf pd_0 rfl) d10_70 hby
  obtain ⟨rfl, N29q, e29⟩ := hQ29
  have N36 := Fr.app N28 N29q
  obtain ⟨_, T37, L37, X37, hQ37, st37⟩ := ocallS X29 hx hZ zm18 hown (ww hw 102 rfl) (ww hw 103 rfl) (by decide) (ww hw 104 rfl) (ww hw 51 rfl) e29 (mg21_39 l hw p14 h5 n0 Z_1 hc38 hc39) (st := [(.int p14)]) rfl 0 rfl (by decide) (pc := 75) (Ls := (lc27 a1 a2 0 p14)) hml rfl (lenOf pd_16 rfl) d10_75 hby
  obtain ⟨rfl, N37q, e37⟩ := hQ37
  have N40 := Fr.app N36 N37q
  refine own_go (U' := T37.setTop (mkF m 78 (lc27 a1 a2 0 p14) [(.int 1)])) (fun t k => oicN X27 hx hby d10_65 (by decide) (oaloadN X27 hx hby d10_68 rfl rfl (oiloadN X27 hx hby d10_69 rfl (st29 _ (oistoreN X29 hx hby d10_73 (lc27 a1 a2 0 p14) rfl (oiloadN X29 hx hby d10_74 rfl (st37 _ k))))))) ?_
  obtain ⟨_, T41, L41, X41, hQ41, st41⟩ := ocallV X37 hx hZ zm12 zm12 hown (ww hw 71 rfl) (ww hw 72 rfl) (notFace_of_selects (args := #[]) (mvT hZ (ww hw 74 rfl))) (ww hw 74 rfl) (ww hw 73 rfl) (by decide) (ww hw 75 rfl) (ww hw 8 rfl) e37 f10 (rm14_24 l hw a2 a11 1 p20 1 h5 n0 Z_1 f13 (own_lnV f17) f10 f22 hc23 f25 (by decide)) (st := [(.ref a2), (.int 1)]) rfl 1 rfl (by decide) (pc := 62) (Ls := (lc27 a1 a2 1 p14)) hml rfl (lenOf pd_12 rfl) d10_62 hby
  obtain ⟨rfl, N41q, e41⟩ := hQ41
  have N42 := Fr.app N40 N41q
  refine own_go (U' := T41.setTop (mkF m 65 (lc27 a1 a2 1 p14) [(.int 1), (.int 1)])) (fun t k => oifY (pc := 78) X37 hx hby d10_78 116 (by decide) (by decide) (oiinc X37 hx hby d10_116 (lc27 a1 a2 1 p14) rfl rfl (ogoto (pc := 119) X37 hx hby d10_119 60 (by decide) (oiloadN X37 hx hby d10_60 rfl (oaloadN X37 hx hby d10_61 rfl rfl (st41 _ k)))))) ?_
  obtain ⟨b43, T43, h43, k43, bv43, cl43, X43, e43, E43, hS43, hk43, hZ, hown, f43a, f43b, f43c, f43d, lt43, lv43, CR43, -, ns43, st43⟩ := ldcCH (s := s) X41 hx hZ hown (ww hw 105 rfl) (own_wS hw) e41 hS5 hk5 (own_EW hw) (List.mem_of_getElem? (i := 1) rfl) C1.1 (vs := [(.int 46)]) (z := 1) ⟨by decide, by decide⟩ (by decide) (by decide) (g := (mkF m 123 (lc27 a1 a2 1 p14) [(.ref a2)])) rfl (hb hby d10_123) (n := 4) (by decide) (by decide) (by decide) (by decide)
  have C2 := C1.trans CR43
  have f45 : Exa Z h43 a2 zs6 := (Exa.ext E43 f10)
  have sf46 := (CR43.safe (f13.lt) (CR5.safe (F9.lt) (hSL a2 (List.mem_of_getElem? (i := 0) rfl))))
  have ne47 : a2 ≠ b43 := (ns43 a2 sf46).1
  have f48 : Sta Z h43 zs6 zs7 "Z" (.int p20) := (Sta.ext E43 f22)
  have f49 : Fld Z h43 a2 zs6 "coder" "B" (.int 0) := (Fld.ext E43 f25)
  have f50 : Fld Z h43 a2 zs6 "value" "[B" (.ref a11) := (Fld.ext E43 f13)
  have f51 : Arv Z h43 a11 kc15 .byte (1 : Int32) [(.int p14)] (.int (0 : Int32)) := (f17.ext E43)
  have Z_2 : n0 ≤ h43.size := Nat.le_trans Z_1 E43.1
  obtain ⟨_, T44, L44, X44, hQ44, st44⟩ := ocallV X43 hx hZ zm7 zm7 hown (ww hw 106 rfl) (ww hw 39 rfl) (notFace_of_selects (args := #[]) (mvT hZ (ww hw 41 rfl))) (ww hw 41 rfl) (ww hw 40 rfl) (by decide) (ww hw 42 rfl) (ww hw 8 rfl) e43 f45 (mg8_16 l hw a2 b43 p20 a11 bv43 p14 kc15 cl43 h43 n0 Z_2 ne47 f43a f48 hc23 f49 f43b f50 f43c f51 f43d) (st := [(.ref b43), (.ref a2)]) rfl 0 rfl (by decide) (pc := 125) (Ls := (lc27 a1 a2 1 p14)) hml rfl (lenOf pd_7 rfl) d10_125 hby
  obtain ⟨rfl, N44q, e44⟩ := hQ44
  have N52 := Fr.app N42 N44q
  refine own_go (U' := T44.setTop (mkF m 128 (lc27 a1 a2 1 p14) [(.int (own_dot1 p14))])) (fun t k => oicY (pc := 65) X41 hx hby d10_65 122 (by decide) (by decide) (oaloadN X41 hx hby d10_122 rfl rfl (st43 _ (st44 _ k)))) ?_
  obtain ⟨b54, T54, h54, k54, bv54, cl54, X54, e54, E54, hS54, hk54, hZ, hown, f54a, f54b, f54c, f54d, lt54, lv54, CR54, -, ns54, st54⟩ := ldcCH (s := s) X44 hx hZ hown (ww hw 107 rfl) (own_wS hw) e44 hS43 hk43 (own_EW hw) (List.mem_of_getElem? (i := 2) rfl) C2.1 (vs := [(.int 46), (.int 46)]) (z := 2) ⟨by decide, by decide⟩ (by decide) (by decide) (g := (mkF m 132 (lc27 a1 a2 1 p14) [(.ref a2)])) rfl (hb hby d10_132) (n := 8) (by decide) (by decide) (by decide) (by decide)
  have C3 := C2.trans CR54
  have f56 : Exa Z h54 a2 zs6 := (Exa.ext E54 f45)
  have sf57 := (CR54.safe (f50.lt) (CR43.safe (nlt (F9.lt) E5.1) (CR5.safe (F9.lt) (hSL a2 (List.mem_of_getElem? (i := 0) rfl)))))
  have ne58 : a2 ≠ b54 := (ns54 a2 sf57).1
  have f59 : Sta Z h54 zs6 zs7 "Z" (.int p20) := (Sta.ext E54 f48)
  have f60 : Fld Z h54 a2 zs6 "coder" "B" (.int 0) := (Fld.ext E54 f49)
  have f61 : Fld Z h54 a2 zs6 "value" "[B" (.ref a11) := (Fld.ext E54 f50)
  have f62 : Arv Z h54 a11 kc15 .byte (1 : Int32) [(.int p14)] (.int (0 : Int32)) := (f51.ext E54)
  have Z_3 : n0 ≤ h54.size := Nat.le_trans Z_2 E54.1
  obtain ⟨_, T55, L55, X55, hQ55, st55⟩ := ocallV X54 hx hZ zm7 zm7 hown (ww hw 106 rfl) (ww hw 39 rfl) (notFace_of_selects (args := #[]) (mvT hZ (ww hw 41 rfl))) (ww hw 41 rfl) (ww hw 40 rfl) (by decide) (ww hw 42 rfl) (ww hw 8 rfl) e54 f56 (mg8_19 l hw a2 b54 p20 a11 bv54 p14 kc15 cl54 h54 n0 Z_3 ne58 f54a f59 hc23 f60 f54b f61 f54c f62 f54d) (st := [(.ref b54), (.ref a2)]) rfl 0 rfl (by decide) (pc := 134) (Ls := (lc27 a1 a2 1 p14)) hml rfl (lenOf pd_7 rfl) d10_134 hby
  obtain ⟨rfl, N55q, e55⟩ := hQ55
  have N63 := Fr.app N52 N55q
  refine own_go (U' := T55.setTop (mkF m 137 (lc27 a1 a2 1 p14) [(.int 0)])) (fun t k => oifN X44 hx hby d10_128 ((if0 _ _).trans (teq hc53).2) (oaloadN X44 hx hby d10_131 rfl rfl (st54 _ (st55 _ k)))) ?_
  have f65 : Fld Z h54 a1 zs21 "value" zs23 .null := (Fld.ext E54 (Fld.ext E43 (Fld.ext E5 F64)))
  have f67 : Exa Z h54 a1 zs21 := (Exa.ext E54 (Exa.ext E43 (Exa.ext E5 F66)))
  obtain ⟨T68, h68, X68, e68, W68, st68⟩ := putF X55 hx hZ hown (host := "") (Or.inl (ww hw 108 rfl)) Via.refl e55 f65 f67 (Or.inr ⟨(ww hw 109 rfl), rfl, hnm⟩) (ww hw 50 rfl) (ty := (.object zs6)) (by decide) rfl rfl (g := (mkF m 174 (lc27 a1 a2 1 p14) [(.ref a2), (.ref a1)])) rfl rfl (hb hby d10_174)
  have sf70 : Safe Z consts_1 T54.vm h54 a1 := Safe.exa hZ.alike f67 (by decide) (by decide)
  have C4 := C3.trans (CHr.wr W68 sf70 C3.1)
  have N71 := Fr.snoc X68 N63 g69
  have f72 : Fld Z h68 a1 zs21 "value" zs23 (.ref a2) := Fld.same W68 f65
  refine own_go (U' := T68.setTop (mkF m 177 (lc27 a1 a2 1 p14) [])) (fun t k => oifY (pc := 137) X55 hx hby d10_137 172 (by decide) (by decide) (oaloadN X55 hx hby d10_172 rfl rfl (oaloadN X55 hx hby d10_173 rfl rfl (st68 _ k)))) ?_
  obtain ⟨fs, hr, hrun, hended, hW, hsame⟩ := X68.leave (v := none) (fun _ => rfl)
  have hE := hS54.ended hW (by show _ ≤ T68.heap.size; rw [e68]; exact (Nat.le_trans hk54 (Keep.of_wr W68).1)) hsame
  refine own_out ⟨_, _, ?_, hrun, hended, _, _, rfl, ?_, ?_, ⟨_, rfl⟩, hE.1, hE.2.1, hE.2.2.mono (by decide) (by decide)⟩
  · exact X68.returnOut hx Bd.returns (hb hby d10_177) hr
  · show Q10_40 Z a1 a2 a11 p14 kc15 p20 vy0 h0 n0 _ T68.heap _
    rw [e68]
    exact ⟨rfl, N71, (((((Keep.refl h0 [a1]).ext E5).ext E43).ext E54).wr W68 (Or.inl (List.mem_of_getElem? (i := 0) rfl))), f72⟩
  · show CHr Z consts_1 s.vm s.heap T68.vm T68.heap; rw [hh, e68]; exact C4.trans (CHv.at (s := s) X68 hZ (own_EW hw) C4.1)
def Q24_41 (Z : State) (a1 : Addr) (p3 p11 : Int32) (h0 : Heap) (n0 : Nat) (v : Option Value) (h : Heap) (L : List Loc) : Prop := ∃ b7 : Addr, ∃ k7 : ClassId, v = none ∧ Fr n0 L ∧ Keep h0 h [a1] ∧ h0.size ≤ b7 ∧ Fld Z h a1 zs25 "value" "[B" (.ref b7) ∧ Fld Z h a1 zs25 "coder" "B" (.int 0) ∧ Fld Z h a1 zs25 "count" "I" (.int p11) ∧ Exa Z h b7 "[B" ∧ Arv Z h b7 k7 .byte (16 : Int32) [] (.int (0 : Int32))
theorem rm24_41 (l : Launch) {Z : State} {a0 : Array Value} (hw : own_W Z a0) (a1 : Addr) (p3 p11 : Int32) (h0 : Heap) (n0 : Nat) (Z0 : n0 ≤ h0.size) (F4 : Sta Z h0 zs6 zs7 "Z" (.int p3)) (hc6 : ¬ (p3 = (0 : Int32))) (F9 : Fld Z h0 a1 zs25 "value" "[B" .null) (F10 : Fld Z h0 a1 zs25 "coder" "B" (.int 0)) (F12 : Fld Z h0 a1 zs25 "count" "I" (.int p11)) (F14 : Exa Z h0 a1 zs26) (g17 : n0 ≤ a1) :
    own_MF l (⟨zs25, "<init>", "(I)V"⟩ : MethodName) c_24 2 none (own_R 1 1 16 12) #[(.ref a1), (.int 16)] Z h0 (Q24_41 Z a1 p3 p11 h0 n0) := by
  refine own_st (L := (lc17 a1 16)) (own := zs25) (plainFor_of_name pn_8) rfl (fun m => ef_3 m a1 16) fun p e s m below meth c s₁ Bd hml hZ hh hx hby hown hnm X0 e0 => ?_
  have N0 := Fr.nil n0
  obtain ⟨T2, X2, e2, st2⟩ := initO X0 hx hZ hown (ww hw 131 rfl) (ww hw 17 rfl) (ww hw 18 rfl) e0 (g := (mkF m 1 (lc17 a1 16) [(.ref a1)])) rfl (by rw [hml]; rfl) rfl (hb hby d24_1) (by decide) (W := 0) (by show 2 * 0 + _ ≤ _; exact Nat.le_of_eq rfl) (by decide)
  obtain ⟨T5, X5, e5, st5⟩ := getS2 X2 hx hZ hown (host := "") (Or.inl (ww hw 132 rfl)) Via.refl e2 F4 (g := (mkF m 4 (lc17 a1 16) [])) rfl (hb hby d24_4)
  refine own_go (U' := T5.setTop (mkF m 7 (lc17 a1 16) [(.int p3)])) (fun t k => oaloadN X0 hx hby d24_0 rfl rfl (st2 _ (st5 _ k))) ?_
  obtain ⟨T7, h7, k7, X7, e7, E7, A7, B7, st7⟩ := newPE X5 hx hZ (ww hw 24 rfl) e5 (g := (mkF m 12 (lc17 a1 16) [(.int 16), (.ref a1)])) rfl (hb hby d24_12) rfl (by decide) (cap := 16) (by decide) (by decide) (by decide) (by decide) (ad := "[B") (by decide)
  obtain ⟨b7, g7⟩ : ∃ z, z = h0.size := ⟨_, rfl⟩
  rw [← g7] at A7 B7 st7
  have f8 : Arv Z h7 b7 k7 .byte (16 : Int32) [] (.int (0 : Int32)) := Arv.new A7 (by decide)
  have f13 : Fld Z h7 a1 zs25 "value" "[B" .null := (Fld.ext E7 F9)
  have f15 : Exa Z h7 a1 zs26 := (Exa.ext E7 F14)
  obtain ⟨T16, h16, X16, e16, W16, st16⟩ := putF X7 hx hZ hown (host := "") (Or.inl (ww hw 133 rfl)) Via.refl e7 f13 f15 (Or.inl (ww hw 134 rfl)) (ww hw 120 rfl) (ty := (.array .byte)) (by decide) rfl rfl (g := (mkF m 14 (lc17 a1 16) [(.ref b7), (.ref a1)])) rfl rfl (hb hby d24_14)
  have N18 := Fr.snoc X16 N0 g17
  have f19 : Fld Z h16 a1 zs25 "value" "[B" (.ref b7) := Fld.same W16 f13
  have f20 : Fld Z h16 a1 zs25 "coder" "B" (.int 0) := (Fld.other W16 (Fld.ext E7 F10) (Or.inr (slot_ne (Or.inl (ww hw 136 rfl)) (Or.inl (ww hw 134 rfl)) (by decide) (t := .byte) (t' := (.array .byte)) (by decide) (by decide))))
  have f21 : Exa Z h16 a1 zs26 := (Exa.wr W16 f15)
  obtain ⟨T22, h22, X22, e22, W22, st22⟩ := putFN X16 hx hZ hown (ww hw 135 rfl) Via.refl e16 f20 f21 (Or.inl (ww hw 136 rfl)) (ww hw 120 rfl) (ty := .byte) (v' := (.int 0)) (by decide) rfl (by decide) (g := (mkF m 19 (lc17 a1 16) [(.int 0), (.ref a1)])) rfl rfl (hb hby d24_19)
  have N23 := Fr.snoc X22 N18 g17
  have f24 : Fld Z h22 a1 zs25 "coder" "B" (.int 0) := Fld.same W22 f20
  refine own_go (U' := T22.setTop (mkF m 38 (lc17 a1 16) [])) (fun t k => oifN X5 hx hby d24_7 ((if0 _ _).trans (feq hc6).1) (oaloadN X5 hx hby d24_10 rfl rfl (oiloadN X5 hx hby d24_11 rfl (st7 _ (st16 _ (oaloadN X16 hx hby d24_17 rfl rfl (oiconst X16 hx hby d24_18 (st22 _ (ogoto (pc := 22) X22 hx hby d24_22 38 (by decide) k))))))))) ?_
  have f25 : Fld Z h22 a1 zs25 "value" "[B" (.ref b7) := (Fld.other W22 f19 (Or.inr (slot_ne (Or.inl (ww hw 134 rfl)) (Or.inl (ww hw 136 rfl)) (by decide) (t := (.array .byte)) (t' := .byte) (by decide) (by decide))))
  have f26 : Fld Z h22 a1 zs25 "count" "I" (.int p11) := (Fld.other W22 (Fld.other W16 (Fld.ext E7 F12) (Or.inr (slot_ne (Or.inl (ww hw 151 rfl)) (Or.inl (ww hw 134 rfl)) (by decide) (t := .int) (t' := (.array .byte)) (by decide) (by decide)))) (Or.inr (slot_ne (Or.inl (ww hw 151 rfl)) (Or.inl (ww hw 136 rfl)) (by decide) (t := .int) (t' := .byte) (by decide) (by decide))))
  have f27 : Exa Z h22 b7 "[B" := (Exa.wr W22 (Exa.wr W16 B7))
  have ne28 : a1 ≠ b7 := Nat.ne_of_lt (nlt (F9.lt) (Nat.le_of_eq g7.symm))
  have f29 : Arv Z h22 b7 k7 .byte (16 : Int32) [] (.int (0 : Int32)) := ((f8.other W16 (Ne.symm ne28)).other W22 (Ne.symm ne28))
  obtain ⟨fs, hr, hrun, hended, hW, hsame⟩ := X22.leave (v := none) (fun _ => rfl)
  refine own_out ⟨_, _, ?_, hrun, hended, _, _, rfl, ?_, ⟨_, rfl⟩, hW, hsame.mono (by decide) (by decide)⟩
  · exact X22.returnOut hx Bd.returns (hb hby d24_38) hr
  · show Q24_41 Z a1 p3 p11 h0 n0 _ T22.heap _
    rw [e22]
    exact ⟨b7, k7, rfl, N23, ((((Keep.refl h0 [a1]).ext E7).wr W16 (Or.inl (List.mem_of_getElem? (i := 0) rfl))).wr W22 (Or.inl (List.mem_of_getElem? (i := 0) rfl))), (Nat.le_of_eq g7.symm), f25, f24, f26, f27, f29⟩
def Q23_42 (Z : State) (a1 : Addr) (p3 p8 : Int32) (h0 : Heap) (n0 : Nat) (v : Option Value) (h : Heap) (L : List Loc) : Prop := ∃ b12 : Addr, ∃ k13 : ClassId, v = none ∧ Fr n0 L ∧ Keep h0 h [a1] ∧ h0.size ≤ b12 ∧ Fld Z h a1 zs25 "value" "[B" (.ref b12) ∧ Fld Z h a1 zs25 "coder" "B" (.int 0) ∧ Fld Z h a1 zs25 "count" "I" (.int p8) ∧ Exa Z h b12 "[B" ∧ Arv Z h b12 k13 .byte (16 : Int32) [] (.int (0 : Int32))
theorem rm23_42 (l : Launch) {Z : State} {a0 : Array Value} (hw : own_W Z a0) (a1 : Addr) (p3 p8 : Int32) (h0 : Heap) (n0 : Nat) (Z0 : n0 ≤ h0.size) (F4 : Sta Z h0 zs6 zs7 "Z" (.int p3)) (hc5 : ¬ (p3 = (0 : Int32))) (F6 : Fld Z h0 a1 zs25 "value" "[B" .null) (F7 : Fld Z h0 a1 zs25 "coder" "B" (.int 0)) (F9 : Fld Z h0 a1 zs25 "count" "I" (.int p8)) (F10 : Exa Z h0 a1 zs26) (g11 : n0 ≤ a1) :
    own_MF l (⟨zs26, "<init>", "()V"⟩ : MethodName) c_23 1 none (own_R 2 1 16 25) #[(.ref a1)] Z h0 (Q23_42 Z a1 p3 p8 h0 n0) := by
  refine own_st (L := (lc23 a1)) (own := zs26) (plainFor_of_name pn_9) rfl (fun m => ef_7 m a1) fun p e s m below meth c s₁ Bd hml hZ hh hx hby hown hnm X0 e0 => ?_
  have N0 := Fr.nil n0
  obtain ⟨_, T2, L2, X2, hQ2, st2⟩ := ocallI X0 hx hZ (⟨zs25, "<init>", "(I)V"⟩ : MethodName) rfl hown (ww hw 125 rfl) (ww hw 126 rfl) (by decide) (ww hw 130 rfl) (ww hw 129 rfl) e0 (rm24_41 l hw a1 p3 p8 h0 n0 Z0 F4 hc5 F6 F7 F9 F10 g11) (st := [(.int 16), (.ref a1)]) rfl 0 rfl (by decide) (pc := 3) (Ls := (lc23 a1)) hml rfl (lenOf pd_18 rfl) d23_3 hby
  obtain ⟨b12, k13, rfl, N2q, K2, sz14, f15, f16, f17, f18, f19⟩ := hQ2
  have N20 := Fr.app N0 N2q
  refine own_go (U' := T2.setTop (mkF m 6 (lc23 a1) [])) (fun t k => oaloadN X0 hx hby d23_0 rfl rfl (obipush X0 hx hby d23_1 (st2 _ k))) ?_
  obtain ⟨fs, hr, hrun, hended, hW, hsame⟩ := X2.leave (v := none) (fun _ => rfl)
  refine own_out ⟨_, _, ?_, hrun, hended, _, _, rfl, ?_, ⟨_, rfl⟩, hW, hsame.mono (by decide) (by decide)⟩
  · exact X2.returnOut hx Bd.returns (hb hby d23_6) hr
  · show Q23_42 Z a1 p3 p8 h0 n0 _ T2.heap _
    exact ⟨b12, k13, rfl, N20, (Keep.trans (Keep.refl h0 [a1]) K2 (allS (Or.inl (List.mem_of_getElem? (i := 0) rfl)) all0)), sz14, f15, f16, f17, f18, f19⟩
def Q27_43 (Z : State) (a1 : Addr) (p2 : Int32) (a3 : Addr) (l6 : List Value) (kc7 : ClassId) (p8 p13 p15 : Int32) (h0 : Heap) (n0 : Nat) (v : Option Value) (h : Heap) (L : List Loc) : Prop := v = none ∧ Fr n0 L ∧ h = h0
theorem rm27_43 (l : Launch) {Z : State} {a0 : Array Value} (hw : own_W Z a0) (a1 : Addr) (p2 : Int32) (a3 : Addr) (l6 : List Value) (kc7 : ClassId) (p8 p13 p15 : Int32) (h0 : Heap) (n0 : Nat) (Z0 : n0 ≤ h0.size) (F4 : Fld Z h0 a1 zs25 "value" "[B" (.ref a3)) (F9 : Arv Z h0 a3 kc7 .byte p8 l6 (.int (0 : Int32))) (F11 : Fld Z h0 a1 zs25 "coder" "B" (.int 0)) (hv14 : (p8 >>> ((0 : Int32) &&& 31)) = p13) (hv16 : (p2 - p13) = p15) (hc17 : ¬ ((0 : Int32) < p15)) :
    own_MF l (⟨zs25, "ensureCapacityInternal", "(I)V"⟩ : MethodName) c_27 3 none (own_R 0 0 0 0) #[(.ref a1), (.int p2)] Z h0 (Q27_43 Z a1 p2 a3 l6 kc7 p8 p13 p15 h0 n0) := by
  refine own_st (L := (lc32 a1 p2)) (own := zs25) (plainFor_of_name pn_8) rfl (fun m => ef_13 m a1 p2) fun p e s m below meth c s₁ Bd hml hZ hh hx hby hown hnm X0 e0 => ?_
  have N0 := Fr.nil n0
  obtain ⟨T5, X5, e5, st5⟩ := getF X0 hx hZ hown (host := "") (Or.inl (ww hw 133 rfl)) Via.refl e0 F4 (g := (mkF m 1 (lc32 a1 p2) [(.ref a1)])) rfl rfl (hb hby d27_1)
  refine own_go (U' := T5.setTop (mkF m 4 (lc32 a1 p2) [(.ref a3)])) (fun t k => oaloadN X0 hx hby d27_0 rfl rfl (st5 _ k)) ?_
  obtain ⟨cl10, Ar10, q10, S10, N10, H10, G10⟩ := id F9
  refine own_go (fun t k => X5.arraylength hx (own_at e5 Ar10.1) (State.isArrayOf_alike hZ.alike Ar10.2.1) (g := (mkF m 4 (lc32 a1 p2) [(.ref a3)])) rfl rfl (hb hby d27_4) _ k) ?_
  rw [len_of S10 N10]
  obtain ⟨T12, X12, e12, st12⟩ := getF X5 hx hZ hown (host := "") (Or.inl (ww hw 135 rfl)) Via.refl e5 F11 (g := (mkF m 6 (lc32 a1 p2) [(.ref a1), (.int p8)])) rfl rfl (hb hby d27_6)
  refine own_go (U' := T12.setTop (mkF m 10 (lc32 a1 p2) [(.int (p8 >>> ((0 : Int32) &&& 31)))])) (fun t k => oaloadN X5 hx hby d27_5 rfl rfl (st12 _ (oishr X12 hx hby d27_9 k))) ?_
  rw [hv14]
  refine own_go (U' := T12.setTop (mkF m 14 (lc33 a1 p2 p13) [(.int (p2 - p13))])) (fun t k => oistoreN X12 hx hby d27_10 (lc33 a1 p2 p13) rfl (oiloadN X12 hx hby d27_11 rfl (oiloadN X12 hx hby d27_12 rfl (oisub X12 hx hby d27_13 k)))) ?_
  rw [hv16]
  refine own_go (U' := T12.setTop (mkF m 38 (lc33 a1 p2 p13) [])) (fun t k => oifY (pc := 14) X12 hx hby d27_14 38 ((if0 _ _).trans (flt hc17).2.2.2) (by decide) k) ?_
  obtain ⟨fs, hr, hrun, hended, hW, hsame⟩ := X12.leave (v := none) (fun _ => rfl)
  refine own_out ⟨_, _, ?_, hrun, hended, _, _, rfl, ?_, ⟨_, rfl⟩, hW, hsame.mono (by decide) (by decide)⟩
  · exact X12.returnOut hx Bd.returns (hb hby d27_38) hr
  · show Q27_43 Z a1 p2 a3 l6 kc7 p8 p13 p15 h0 n0 _ T12.heap _
    rw [e12]
    exact ⟨rfl, N0, rfl⟩
def Q29_44 (Z : State) (a1 a2 : Addr) (p3 : Int32) (h0 : Heap) (n0 : Nat) (v : Option Value) (h : Heap) (L : List Loc) : Prop := v = none ∧ Fr n0 L ∧ h = h0
theorem rm29_44 (l : Launch) {Z : State} {a0 : Array Value} (hw : own_W Z a0) (a1 a2 : Addr) (p3 : Int32) (h0 : Heap) (n0 : Nat) (Z0 : n0 ≤ h0.size) (F4 : Sta Z h0 zs6 zs7 "Z" (.int p3)) (hc6 : ¬ (p3 = (0 : Int32))) (F7 : Fld Z h0 a1 zs25 "coder" "B" (.int 0)) (F10 : Exa Z h0 a2 zs6) (F11 : Fld Z h0 a2 zs6 "coder" "B" (.int 0)) :
    own_MF l (⟨zs25, "inflateIfNeededFor", zs24⟩ : MethodName) c_29 2 none (own_R 1 0 0 13) #[(.ref a1), (.ref a2)] Z h0 (Q29_44 Z a1 a2 p3 h0 n0) := by
  refine own_st (L := (lc8 a1 a2)) (own := zs25) (plainFor_of_name pn_8) rfl (fun m => ef_5 m a1 a2) fun p e s m below meth c s₁ Bd hml hZ hh hx hby hown hnm X0 e0 => ?_
  have N0 := Fr.nil n0
  obtain ⟨T5, X5, e5, st5⟩ := getS2 X0 hx hZ hown (host := "") (Or.inl (ww hw 132 rfl)) Via.refl e0 F4 (g := (mkF m 0 (lc8 a1 a2) [])) rfl (hb hby d29_0)
  refine own_go (U' := T5.setTop (mkF m 3 (lc8 a1 a2) [(.int p3)])) (fun t k => st5 _ k) ?_
  obtain ⟨T8, X8, e8, st8⟩ := getF X5 hx hZ hown (host := "") (Or.inl (ww hw 135 rfl)) Via.refl e5 F7 (g := (mkF m 7 (lc8 a1 a2) [(.ref a1)])) rfl rfl (hb hby d29_7)
  obtain ⟨_, T9, L9, X9, hQ9, st9⟩ := ocallV X8 hx hZ zm11 zm11 hown (ww hw 167 rfl) (ww hw 77 rfl) (notFace_of_selects (args := #[]) (mvT hZ (ww hw 79 rfl))) (ww hw 79 rfl) (ww hw 78 rfl) (by decide) (ww hw 80 rfl) (ww hw 8 rfl) e8 F10 (rm15_23 l hw a2 p3 h0 n0 Z0 F4 hc6 F11) (st := [(.ref a2), (.int 0)]) rfl 1 rfl (by decide) (pc := 11) (Ls := (lc8 a1 a2)) hml rfl (lenOf pd_11 rfl) d29_11 hby
  obtain ⟨rfl, N9q, e9⟩ := hQ9
  have N12 := Fr.app N0 N9q
  refine own_go (U' := T9.setTop (mkF m 14 (lc8 a1 a2) [(.int 0), (.int 0)])) (fun t k => oifN X5 hx hby d29_3 ((if0 _ _).trans (feq hc6).1) (oaloadN X5 hx hby d29_6 rfl rfl (st8 _ (oaloadN X8 hx hby d29_10 rfl rfl (st9 _ k))))) ?_
  refine own_go (U' := T9.setTop (mkF m 21 (lc8 a1 a2) [])) (fun t k => oicY (pc := 14) X9 hx hby d29_14 21 (by decide) (by decide) k) ?_
  obtain ⟨fs, hr, hrun, hended, hW, hsame⟩ := X9.leave (v := none) (fun _ => rfl)
  refine own_out ⟨_, _, ?_, hrun, hended, _, _, rfl, ?_, ⟨_, rfl⟩, hW, hsame.mono (by decide) (by decide)⟩
  · exact X9.returnOut hx Bd.returns (hb hby d29_21) hr
  · show Q29_44 Z a1 a2 p3 h0 n0 _ T9.heap _
    rw [e9]
    exact ⟨rfl, N12, rfl⟩
def Q30_45 (Z : State) (a1 a2 : Addr) (p3 p6 : Int32) (a11 : Addr) (p14 : Int32) (l17 : List Value) (kc18 : ClassId) (p19 : Int32) (l23 : List Value) (kc24 : ClassId) (p25 : Int32) (h0 : Heap) (n0 : Nat) (v : Option Value) (h : Heap) (L : List Loc) : Prop := v = none ∧ Fr n0 L ∧ Keep h0 h [a2] ∧ Arv Z h a2 kc24 .byte p25 (own_cp l23 (own_us l17 (0 : Int32) p19) p14 p19) (.int (0 : Int32))
theorem rm30_45 (l : Launch) {Z : State} {a0 : Array Value} (hw : own_W Z a0) (a1 a2 : Addr) (p3 p6 : Int32) (a11 : Addr) (p14 : Int32) (l17 : List Value) (kc18 : ClassId) (p19 : Int32) (l23 : List Value) (kc24 : ClassId) (p25 : Int32) (h0 : Heap) (n0 : Nat) (Z0 : n0 ≤ h0.size) (F5 : Exa Z h0 a1 zs6) (F7 : Sta Z h0 zs6 zs7 "Z" (.int p6)) (hc8 : ¬ (p6 = (0 : Int32))) (F9 : Fld Z h0 a1 zs6 "coder" "B" (.int 0)) (F12 : Fld Z h0 a1 zs6 "value" "[B" (.ref a11)) (hv15 : (p3 <<< ((0 : Int32) &&& 31)) = p14) (F20 : Arv Z h0 a11 kc18 .byte p19 l17 (.int (0 : Int32))) (F26 : Arv Z h0 a2 kc24 .byte p25 l23 (.int (0 : Int32))) (hc27 : ¬ (p14 < (0 : Int32))) (hc28 : ¬ (p19 < (0 : Int32))) (hl29 : (0 : Int32).toNatClampNeg + p19.toNatClampNeg ≤ p19.toNatClampNeg) (hl30 : p14.toNatClampNeg + p19.toNatClampNeg ≤ p25.toNatClampNeg) (hl31 : p14.toNatClampNeg + p19.toNatClampNeg ≤ (l23 : List Value).length) (g32 : n0 ≤ a2) :
    own_MF l zm20 c_30 4 none (own_R 1 0 0 18) #[(.ref a1), (.ref a2), (.int p3), (.int 0)] Z h0 (Q30_45 Z a1 a2 p3 p6 a11 p14 l17 kc18 p19 l23 kc24 p25 h0 n0) := by
  refine own_st (L := (lc27 a1 a2 p3 0)) (own := zs6) (plainFor_of_name pn_2) rfl (fun m => ef_14 m a1 a2 p3 0) fun p e s m below meth c s₁ Bd hml hZ hh hx hby hown hnm X0 e0 => ?_
  have N0 := Fr.nil n0
  obtain ⟨_, T4, L4, X4, hQ4, st4⟩ := ocallV X0 hx hZ zm11 zm11 hown (ww hw 76 rfl) (ww hw 77 rfl) (notFace_of_selects (args := #[]) (mvT hZ (ww hw 79 rfl))) (ww hw 79 rfl) (ww hw 78 rfl) (by decide) (ww hw 80 rfl) (ww hw 8 rfl) e0 F5 (rm15_23 l hw a1 p6 h0 n0 Z0 F7 hc8 F9) (st := [(.ref a1)]) rfl 0 rfl (by decide) (pc := 1) (Ls := (lc27 a1 a2 p3 0)) hml rfl (lenOf pd_11 rfl) d30_1 hby
  obtain ⟨rfl, N4q, e4⟩ := hQ4
  have N10 := Fr.app N0 N4q
  refine own_go (U' := T4.setTop (mkF m 5 (lc27 a1 a2 p3 0) [(.int 0), (.int 0)])) (fun t k => oaloadN X0 hx hby d30_0 rfl rfl (st4 _ (oiloadN X4 hx hby d30_4 rfl k))) ?_
  obtain ⟨T13, X13, e13, st13⟩ := getF X4 hx hZ hown (host := "") (Or.inl (ww hw 33 rfl)) Via.refl e4 F12 (g := (mkF m 9 (lc27 a1 a2 p3 0) [(.ref a1)])) rfl rfl (hb hby d30_9)
  refine own_go (U' := T13.setTop (mkF m 17 (lc27 a1 a2 p3 0) [(.int (p3 <<< ((0 : Int32) &&& 31))), (.ref a2), (.int 0), (.ref a11)])) (fun t k => oicN X4 hx hby d30_5 (by decide) (oaloadN X4 hx hby d30_8 rfl rfl (st13 _ (oiconst X13 hx hby d30_12 (oaloadN X13 hx hby d30_13 rfl rfl (oiloadN X13 hx hby d30_14 rfl (oiloadN X13 hx hby d30_15 rfl (oishl X13 hx hby d30_16 k)))))))) ?_
  rw [hv15]
  obtain ⟨T16, X16, e16, st16⟩ := getF X13 hx hZ hown (host := "") (Or.inl (ww hw 33 rfl)) Via.refl e13 F12 (g := (mkF m 18 (lc27 a1 a2 p3 0) [(.ref a1), (.int p14), (.ref a2), (.int 0), (.ref a11)])) rfl rfl (hb hby d30_18)
  refine own_go (U' := T16.setTop (mkF m 21 (lc27 a1 a2 p3 0) [(.ref a11), (.int p14), (.ref a2), (.int 0), (.ref a11)])) (fun t k => oaloadN X13 hx hby d30_17 rfl rfl (st16 _ k)) ?_
  obtain ⟨cl21, Ar21, q21, S21, N21, H21, G21⟩ := id F20
  refine own_go (fun t k => X16.arraylength hx (own_at e16 Ar21.1) (State.isArrayOf_alike hZ.alike Ar21.2.1) (g := (mkF m 21 (lc27 a1 a2 p3 0) [(.ref a11), (.int p14), (.ref a2), (.int 0), (.ref a11)])) rfl rfl (hb hby d30_21) _ k) ?_
  rw [len_of S21 N21]
  obtain ⟨T22, h22, L22, X22, e22, N22, K22, V22, st22⟩ := cpA X16 hx hZ hown (ww hw 173 rfl) (ww hw 176 rfl) (ww hw 174 rfl) (ww hw 175 rfl) e16 (us := (own_us l17 (0 : Int32) p19)) F20 F26 (Or.inl ⟨rfl, rfl⟩) (by decide) hc27 hc28 hl29 hl30 rfl hl31 N10 g32 (g := (mkF m 22 (lc27 a1 a2 p3 0) [(.int p19), (.int p14), (.ref a2), (.int 0), (.ref a11)])) rfl (by rw [hml]; rfl) rfl (hb hby d30_22) (by decide) (W := 0) (by show 2 * 0 + _ ≤ _; exact Nat.le_of_eq rfl) (by decide)
  have f33 : Arv Z h22 a2 kc24 .byte p25 (own_cp l23 (own_us l17 (0 : Int32) p19) p14 p19) (.int (0 : Int32)) := V22
  refine own_go (U' := T22.setTop (mkF m 43 (lc27 a1 a2 p3 0) [])) (fun t k => st22 _ (ogoto (pc := 25) X22 hx hby d30_25 43 (by decide) k)) ?_
  obtain ⟨fs, hr, hrun, hended, hW, hsame⟩ := X22.leave (v := none) (fun _ => rfl)
  refine own_out ⟨_, _, ?_, hrun, hended, _, _, rfl, ?_, ⟨_, rfl⟩, hW, hsame.mono (by decide) (by decide)⟩
  · exact X22.returnOut hx Bd.returns (hb hby d30_43) hr
  · show Q30_45 Z a1 a2 p3 p6 a11 p14 l17 kc18 p19 l23 kc24 p25 h0 n0 _ T22.heap _
    rw [e22]
    exact ⟨rfl, N22, (Keep.trans (Keep.refl h0 [a2]) K22 (allS (Or.inl (List.mem_of_getElem? (i := 0) rfl)) all0)), f33⟩
def Q28_46 (Z : State) (a1 : Addr) (p2 : Int32) (a3 : Addr) (p5 : Int32) (a13 a18 : Addr) (p20 : Int32) (l22 : List Value) (kc23 : ClassId) (p24 : Int32) (l26 : List Value) (kc27 : ClassId) (p28 : Int32) (h0 : Heap) (n0 : Nat) (v : Option Value) (h : Heap) (L : List Loc) : Prop := v = none ∧ Fr n0 L ∧ Keep h0 h [a13] ∧ Arv Z h a13 kc27 .byte p28 (own_cp l26 (own_us l22 (0 : Int32) p24) p20 p24) (.int (0 : Int32))
theorem rm28_46 (l : Launch) {Z : State} {a0 : Array Value} (hw : own_W Z a0) (a1 : Addr) (p2 : Int32) (a3 : Addr) (p5 : Int32) (a13 a18 : Addr) (p20 : Int32) (l22 : List Value) (kc23 : ClassId) (p24 : Int32) (l26 : List Value) (kc27 : ClassId) (p28 : Int32) (h0 : Heap) (n0 : Nat) (Z0 : n0 ≤ h0.size) (F6 : Sta Z h0 zs6 zs7 "Z" (.int p5)) (hc7 : ¬ (p5 = (0 : Int32))) (F8 : Fld Z h0 a1 zs25 "coder" "B" (.int 0)) (F9 : Exa Z h0 a3 zs6) (F10 : Fld Z h0 a3 zs6 "coder" "B" (.int 0)) (F11 : Exa Z h0 a1 zs26) (F14 : Fld Z h0 a1 zs25 "value" "[B" (.ref a13)) (F19 : Fld Z h0 a3 zs6 "value" "[B" (.ref a18)) (hv21 : (p2 <<< ((0 : Int32) &&& 31)) = p20) (F25 : Arv Z h0 a18 kc23 .byte p24 l22 (.int (0 : Int32))) (F29 : Arv Z h0 a13 kc27 .byte p28 l26 (.int (0 : Int32))) (hc30 : ¬ (p20 < (0 : Int32))) (hc31 : ¬ (p24 < (0 : Int32))) (hl32 : (0 : Int32).toNatClampNeg + p24.toNatClampNeg ≤ p24.toNatClampNeg) (hl33 : p20.toNatClampNeg + p24.toNatClampNeg ≤ p28.toNatClampNeg) (hl34 : p20.toNatClampNeg + p24.toNatClampNeg ≤ (l26 : List Value).length) (g35 : n0 ≤ a13) :
    own_MF l (⟨zs25, "putStringAt", "(ILjava/lang/String;)V"⟩ : MethodName) c_28 3 none (own_R 2 0 0 33) #[(.ref a1), (.int p2), (.ref a3)] Z h0 (Q28_46 Z a1 p2 a3 p5 a13 a18 p20 l22 kc23 p24 l26 kc27 p28 h0 n0) := by
  refine own_st (L := (lc34 a1 p2 a3)) (own := zs25) (plainFor_of_name pn_8) rfl (fun m => ef_15 m a1 p2 a3) fun p e s m below meth c s₁ Bd hml hZ hh hx hby hown hnm X0 e0 => ?_
  have N0 := Fr.nil n0
  obtain ⟨_, T4, L4, X4, hQ4, st4⟩ := ocallP X0 hx hZ (⟨zs25, "inflateIfNeededFor", zs24⟩ : MethodName) hown (ww hw 162 rfl) (ww hw 163 rfl) (own_selQ (mvT hZ (ww hw 155 rfl)) rfl (mvP hZ (ww hw 164 rfl)) (mvT hZ (ww hw 163 rfl)) (by decide)) (ww hw 164 rfl) (by decide) (ww hw 166 rfl) (ww hw 129 rfl) e0 F11 (rm29_44 l hw a1 a3 p5 h0 n0 Z0 F6 hc7 F8 F9 F10) (st := [(.ref a3), (.ref a1)]) rfl 0 rfl (by decide) (pc := 2) (Ls := (lc34 a1 p2 a3)) hml rfl (lenOf pd_17 rfl) d28_2 hby
  obtain ⟨rfl, N4q, e4⟩ := hQ4
  have N12 := Fr.app N0 N4q
  obtain ⟨T15, X15, e15, st15⟩ := getF X4 hx hZ hown (host := "") (Or.inl (ww hw 133 rfl)) Via.refl e4 F14 (g := (mkF m 7 (lc34 a1 p2 a3) [(.ref a1), (.ref a3)])) rfl rfl (hb hby d28_7)
  obtain ⟨T16, X16, e16, st16⟩ := getF X15 hx hZ hown (host := "") (Or.inl (ww hw 135 rfl)) Via.refl e15 F8 (g := (mkF m 12 (lc34 a1 p2 a3) [(.ref a1), (.int p2), (.ref a13), (.ref a3)])) rfl rfl (hb hby d28_12)
  obtain ⟨_, T17, L17, X17, hQ17, st17⟩ := ocallV X16 hx hZ zm20 zm20 hown (ww hw 168 rfl) (ww hw 169 rfl) (notFace_of_selects (args := #[]) (mvT hZ (ww hw 171 rfl))) (ww hw 171 rfl) (ww hw 170 rfl) (by decide) (ww hw 172 rfl) (ww hw 8 rfl) e16 F9 (rm30_45 l hw a3 a13 p2 p5 a18 p20 l22 kc23 p24 l26 kc27 p28 h0 n0 Z0 F9 F6 hc7 F10 F19 hv21 F25 F29 hc30 hc31 hl32 hl33 hl34 g35) (st := [(.int 0), (.int p2), (.ref a13), (.ref a3)]) rfl 0 rfl (by decide) (pc := 15) (Ls := (lc34 a1 p2 a3)) hml rfl (lenOf pd_19 rfl) d28_15 hby
  obtain ⟨rfl, N17q, K17, f36⟩ := hQ17
  have N37 := Fr.app N12 N17q
  refine own_go (U' := T17.setTop (mkF m 18 (lc34 a1 p2 a3) [])) (fun t k => oaloadN X0 hx hby d28_0 rfl rfl (oaloadN X0 hx hby d28_1 rfl rfl (st4 _ (oaloadN X4 hx hby d28_5 rfl rfl (oaloadN X4 hx hby d28_6 rfl rfl (st15 _ (oiloadN X15 hx hby d28_10 rfl (oaloadN X15 hx hby d28_11 rfl rfl (st16 _ (st17 _ k)))))))))) ?_
  obtain ⟨fs, hr, hrun, hended, hW, hsame⟩ := X17.leave (v := none) (fun _ => rfl)
  refine own_out ⟨_, _, ?_, hrun, hended, _, _, rfl, ?_, ⟨_, rfl⟩, hW, hsame.mono (by decide) (by decide)⟩
  · exact X17.returnOut hx Bd.returns (hb hby d28_18) hr
  · show Q28_46 Z a1 p2 a3 p5 a13 a18 p20 l22 kc23 p24 l26 kc27 p28 h0 n0 _ T17.heap _
    exact ⟨rfl, N37, (Keep.trans (Keep.refl h0 [a13]) K17 (allS (Or.inl (List.mem_of_getElem? (i := 0) rfl)) all0)), f36⟩
def Q26_47 (Z : State) (a1 a2 a5 : Addr) (l7 : List Value) (kc8 : ClassId) (p9 p11 p15 p18 p21 : Int32) (a24 : Addr) (l26 : List Value) (kc27 : ClassId) (p28 p31 p33 p40 : Int32) (h0 : Heap) (n0 : Nat) (v : Option Value) (h : Heap) (L : List Loc) : Prop := v = some (.ref a1) ∧ Fr n0 L ∧ Keep h0 h [a24, a1] ∧ Arv Z h a24 kc27 .byte p28 (own_cp l26 (own_us l7 (0 : Int32) p9) p40 p9) (.int (0 : Int32)) ∧ Fld Z h a1 zs25 "count" "I" (.int p21) ∧ Fld Z h a1 zs25 "value" "[B" (.ref a24) ∧ Fld Z h a1 zs25 "coder" "B" (.int 0)
theorem rm26_47 (l : Launch) {Z : State} {a0 : Array Value} (hw : own_W Z a0) (a1 a2 a5 : Addr) (l7 : List Value) (kc8 : ClassId) (p9 p11 p15 p18 p21 : Int32) (a24 : Addr) (l26 : List Value) (kc27 : ClassId) (p28 p31 p33 p40 : Int32) (h0 : Heap) (n0 : Nat) (Z0 : n0 ≤ h0.size) (F4 : Exa Z h0 a2 zs6) (F6 : Fld Z h0 a2 zs6 "value" "[B" (.ref a5)) (F10 : Arv Z h0 a5 kc8 .byte p9 l7 (.int (0 : Int32))) (F12 : Sta Z h0 zs6 zs7 "Z" (.int p11)) (hc13 : ¬ (p11 = (0 : Int32))) (F14 : Fld Z h0 a2 zs6 "coder" "B" (.int 0)) (hv16 : (p9 >>> ((0 : Int32) &&& 31)) = p15) (F19 : Fld Z h0 a1 zs25 "count" "I" (.int p18)) (hv22 : (p18 + p15) = p21) (F25 : Fld Z h0 a1 zs25 "value" "[B" (.ref a24)) (F29 : Arv Z h0 a24 kc27 .byte p28 l26 (.int (0 : Int32))) (F30 : Fld Z h0 a1 zs25 "coder" "B" (.int 0)) (hv32 : (p28 >>> ((0 : Int32) &&& 31)) = p31) (hv34 : (p21 - p31) = p33) (hc35 : ¬ ((0 : Int32) < p33)) (F36 : Exa Z h0 a1 zs26) (hv41 : (p18 <<< ((0 : Int32) &&& 31)) = p40) (hc42 : ¬ (p40 < (0 : Int32))) (hc43 : ¬ (p9 < (0 : Int32))) (hl44 : (0 : Int32).toNatClampNeg + p9.toNatClampNeg ≤ p9.toNatClampNeg) (hl45 : p40.toNatClampNeg + p9.toNatClampNeg ≤ p28.toNatClampNeg) (hl46 : p40.toNatClampNeg + p9.toNatClampNeg ≤ (l26 : List Value).length) (g47 : n0 ≤ a24) (ne50 : a1 ≠ a24) (g55 : n0 ≤ a1) :
    own_MF l (⟨zs25, "append", "(Ljava/lang/String;)Ljava/lang/AbstractStringBuilder;"⟩ : MethodName) c_26 3 (some (.object zs25)) (own_R 3 0 0 47) #[(.ref a1), (.ref a2)] Z h0 (Q26_47 Z a1 a2 a5 l7 kc8 p9 p11 p15 p18 p21 a24 l26 kc27 p28 p31 p33 p40 h0 n0) := by
  refine own_st (L := (lc19 a1 a2)) (own := zs25) (plainFor_of_name pn_8) rfl (fun m => ef_6 m a1 a2) fun p e s m below meth c s₁ Bd hml hZ hh hx hby hown hnm X0 e0 => ?_
  have N0 := Fr.nil n0
  obtain ⟨_, T3, L3, X3, hQ3, st3⟩ := ocallV X0 hx hZ zm12 zm12 hown (ww hw 149 rfl) (ww hw 72 rfl) (notFace_of_selects (args := #[]) (mvT hZ (ww hw 74 rfl))) (ww hw 74 rfl) (ww hw 73 rfl) (by decide) (ww hw 75 rfl) (ww hw 8 rfl) e0 F4 (rm14_24 l hw a2 a5 p9 p11 p15 h0 n0 Z0 F6 (own_lnV F10) F4 F12 hc13 F14 hv16) (st := [(.ref a2)]) rfl 0 rfl (by decide) (pc := 10) (Ls := (lc19 a1 a2)) hml rfl (lenOf pd_12 rfl) d26_10 hby
  obtain ⟨rfl, N3q, e3⟩ := hQ3
  have N17 := Fr.app N0 N3q
  obtain ⟨T20, X20, e20, st20⟩ := getF X3 hx hZ hown (host := "") (Or.inl (ww hw 150 rfl)) Via.refl e3 F19 (g := (mkF m 16 (lc21 a1 a2 p15) [(.ref a1), (.ref a1)])) rfl rfl (hb hby d26_16)
  refine own_go (U' := T20.setTop (mkF m 21 (lc21 a1 a2 p15) [(.int (p18 + p15)), (.ref a1)])) (fun t k => oaloadN X0 hx hby d26_0 rfl rfl (onnY (pc := 1) X0 hx hby d26_1 9 (by decide) (oaloadN X0 hx hby d26_9 rfl rfl (st3 _ (oistoreN X3 hx hby d26_13 (lc21 a1 a2 p15) rfl (oaloadN X3 hx hby d26_14 rfl rfl (oaloadN X3 hx hby d26_15 rfl rfl (st20 _ (oiloadN X20 hx hby d26_19 rfl (oiadd X20 hx hby d26_20 k)))))))))) ?_
  rw [hv22]
  obtain ⟨_, T23, L23, X23, hQ23, st23⟩ := ocallP X20 hx hZ (⟨zs25, "ensureCapacityInternal", "(I)V"⟩ : MethodName) hown (ww hw 152 rfl) (ww hw 153 rfl) (own_selQ (mvT hZ (ww hw 155 rfl)) rfl (mvP hZ (ww hw 154 rfl)) (mvT hZ (ww hw 153 rfl)) (by decide)) (ww hw 154 rfl) (by decide) (ww hw 156 rfl) (ww hw 129 rfl) e20 F36 (rm27_43 l hw a1 p21 a24 l26 kc27 p28 p31 p33 h0 n0 Z0 F25 F29 F30 hv32 hv34 hc35) (st := [(.int p21), (.ref a1)]) rfl 0 rfl (by decide) (pc := 21) (Ls := (lc21 a1 a2 p15)) hml rfl (lenOf pd_18 rfl) d26_21 hby
  obtain ⟨rfl, N23q, e23⟩ := hQ23
  have N37 := Fr.app N17 N23q
  obtain ⟨T38, X38, e38, st38⟩ := getF X23 hx hZ hown (host := "") (Or.inl (ww hw 150 rfl)) Via.refl e23 F19 (g := (mkF m 26 (lc21 a1 a2 p15) [(.ref a1), (.ref a1)])) rfl rfl (hb hby d26_26)
  obtain ⟨_, T39, L39, X39, hQ39, st39⟩ := ocallP X38 hx hZ (⟨zs25, "putStringAt", "(ILjava/lang/String;)V"⟩ : MethodName) hown (ww hw 157 rfl) (ww hw 158 rfl) (own_selQ (mvT hZ (ww hw 155 rfl)) rfl (mvP hZ (ww hw 159 rfl)) (mvT hZ (ww hw 158 rfl)) (by decide)) (ww hw 159 rfl) (by decide) (ww hw 161 rfl) (ww hw 129 rfl) e38 F36 (rm28_46 l hw a1 p18 a2 p11 a24 a5 p40 l7 kc8 p9 l26 kc27 p28 h0 n0 Z0 F12 hc13 F30 F4 F14 F36 F25 F6 hv41 F10 F29 hc42 hc43 hl44 hl45 hl46 g47) (st := [(.ref a2), (.int p18), (.ref a1)]) rfl 0 rfl (by decide) (pc := 30) (Ls := (lc21 a1 a2 p15)) hml rfl (lenOf pd_20 rfl) d26_30 hby
  obtain ⟨rfl, N39q, K39, f48⟩ := hQ39
  have N49 := Fr.app N37 N39q
  have f51 : Fld Z T39.heap a1 zs25 "count" "I" (.int p18) := (F19.keep K39 (ninS ne50 nin0))
  obtain ⟨T52, X52, e52, st52⟩ := getF X39 hx hZ hown (host := "") (Or.inl (ww hw 150 rfl)) Via.refl rfl f51 (g := (mkF m 35 (lc21 a1 a2 p15) [(.ref a1), (.ref a1)])) rfl rfl (hb hby d26_35)
  refine own_go (U' := T52.setTop (mkF m 40 (lc21 a1 a2 p15) [(.int (p18 + p15)), (.ref a1)])) (fun t k => st23 _ (oaloadN X23 hx hby d26_24 rfl rfl (oaloadN X23 hx hby d26_25 rfl rfl (st38 _ (oaloadN X38 hx hby d26_29 rfl rfl (st39 _ (oaloadN X39 hx hby d26_33 rfl rfl (odup X39 hx hby d26_34 rfl (st52 _ (oiloadN X52 hx hby d26_38 rfl (oiadd X52 hx hby d26_39 k))))))))))) ?_
  rw [hv22]
  have f53 : Exa Z T39.heap a1 zs26 := (F36.keep K39)
  obtain ⟨T54, h54, X54, e54, W54, st54⟩ := putF X52 hx hZ hown (host := "") (Or.inl (ww hw 150 rfl)) Via.refl e52 f51 f53 (Or.inl (ww hw 151 rfl)) (ww hw 120 rfl) (ty := .int) (by decide) rfl rfl (g := (mkF m 40 (lc21 a1 a2 p15) [(.int p21), (.ref a1)])) rfl rfl (hb hby d26_40)
  have N56 := Fr.snoc X54 N49 g55
  have f57 : Fld Z h54 a1 zs25 "count" "I" (.int p21) := Fld.same W54 f51
  refine own_go (U' := T54.setTop (mkF m 44 (lc21 a1 a2 p15) [(.ref a1)])) (fun t k => st54 _ (oaloadN X54 hx hby d26_43 rfl rfl k)) ?_
  have f58 : Arv Z h54 a24 kc27 .byte p28 (own_cp l26 (own_us l7 (0 : Int32) p9) p40 p9) (.int (0 : Int32)) := (f48.other W54 (Ne.symm ne50))
  have f59 : Fld Z h54 a1 zs25 "value" "[B" (.ref a24) := (Fld.other W54 (F25.keep K39 (ninS ne50 nin0)) (Or.inr (slot_ne (Or.inl (ww hw 134 rfl)) (Or.inl (ww hw 151 rfl)) (by decide) (t := (.array .byte)) (t' := .int) (by decide) (by decide))))
  have f60 : Fld Z h54 a1 zs25 "coder" "B" (.int 0) := (Fld.other W54 (F30.keep K39 (ninS ne50 nin0)) (Or.inr (slot_ne (Or.inl (ww hw 136 rfl)) (Or.inl (ww hw 151 rfl)) (by decide) (t := .byte) (t' := .int) (by decide) (by decide))))
  obtain ⟨fs, hr, hrun, hended, hW, hsame⟩ := X54.leave (v := some (.ref a1)) (fun h => by rw [Bd.returns] at h; cases h)
  refine own_out ⟨_, _, ?_, hrun, hended, _, _, rfl, ?_, ⟨_, rfl⟩, hW, hsame.mono (by decide) (by decide)⟩
  · exact retOut X54 hx Bd.returns rfl (Or.inr (Or.inr (Or.inr (Or.inr ⟨rfl, rfl, rfl⟩)))) (hb hby d26_44) hr
  · show Q26_47 Z a1 a2 a5 l7 kc8 p9 p11 p15 p18 p21 a24 l26 kc27 p28 p31 p33 p40 h0 n0 _ T54.heap _
    rw [e54]
    exact ⟨rfl, N56, ((Keep.trans (Keep.refl h0 [a24, a1]) K39 (allS (Or.inl (List.mem_of_getElem? (i := 0) rfl)) all0)).wr W54 (Or.inl (List.mem_of_getElem? (i := 1) rfl))), f58, f57, f59, f60⟩
def Q25_48 (Z : State) (a1 a2 a5 : Addr) (l7 : List Value) (kc8 : ClassId) (p9 p11 p15 p17 p19 : Int32) (a21 : Addr) (l23 : List Value) (kc24 : ClassId) (p25 p28 p30 p34 : Int32) (h0 : Heap) (n0 : Nat) (v : Option Value) (h : Heap) (L : List Loc) : Prop := v = some (.ref a1) ∧ Fr n0 L ∧ Keep h0 h [a21, a1] ∧ Arv Z h a21 kc24 .byte p25 (own_cp l23 (own_us l7 (0 : Int32) p9) p34 p9) (.int (0 : Int32)) ∧ Fld Z h a1 zs25 "count" "I" (.int p19) ∧ Fld Z h a1 zs25 "value" "[B" (.ref a21) ∧ Fld Z h a1 zs25 "coder" "B" (.int 0)
theorem rm25_48 (l : Launch) {Z : State} {a0 : Array Value} (hw : own_W Z a0) (a1 a2 a5 : Addr) (l7 : List Value) (kc8 : ClassId) (p9 p11 p15 p17 p19 : Int32) (a21 : Addr) (l23 : List Value) (kc24 : ClassId) (p25 p28 p30 p34 : Int32) (h0 : Heap) (n0 : Nat) (Z0 : n0 ≤ h0.size) (F4 : Exa Z h0 a2 zs6) (F6 : Fld Z h0 a2 zs6 "value" "[B" (.ref a5)) (F10 : Arv Z h0 a5 kc8 .byte p9 l7 (.int (0 : Int32))) (F12 : Sta Z h0 zs6 zs7 "Z" (.int p11)) (hc13 : ¬ (p11 = (0 : Int32))) (F14 : Fld Z h0 a2 zs6 "coder" "B" (.int 0)) (hv16 : (p9 >>> ((0 : Int32) &&& 31)) = p15) (F18 : Fld Z h0 a1 zs25 "count" "I" (.int p17)) (hv20 : (p17 + p15) = p19) (F22 : Fld Z h0 a1 zs25 "value" "[B" (.ref a21)) (F26 : Arv Z h0 a21 kc24 .byte p25 l23 (.int (0 : Int32))) (F27 : Fld Z h0 a1 zs25 "coder" "B" (.int 0)) (hv29 : (p25 >>> ((0 : Int32) &&& 31)) = p28) (hv31 : (p19 - p28) = p30) (hc32 : ¬ ((0 : Int32) < p30)) (F33 : Exa Z h0 a1 zs26) (hv35 : (p17 <<< ((0 : Int32) &&& 31)) = p34) (hc36 : ¬ (p34 < (0 : Int32))) (hc37 : ¬ (p9 < (0 : Int32))) (hl38 : (0 : Int32).toNatClampNeg + p9.toNatClampNeg ≤ p9.toNatClampNeg) (hl39 : p34.toNatClampNeg + p9.toNatClampNeg ≤ p25.toNatClampNeg) (hl40 : p34.toNatClampNeg + p9.toNatClampNeg ≤ (l23 : List Value).length) (g41 : n0 ≤ a21) (ne42 : a1 ≠ a21) (g43 : n0 ≤ a1) :
    own_MF l zm21 c_25 2 (some (.object zs26)) (own_R 4 0 0 61) #[(.ref a1), (.ref a2)] Z h0 (Q25_48 Z a1 a2 a5 l7 kc8 p9 p11 p15 p17 p19 a21 l23 kc24 p25 p28 p30 p34 h0 n0) := by
  refine own_st (L := (lc8 a1 a2)) (own := zs26) (plainFor_of_name pn_9) rfl (fun m => ef_5 m a1 a2) fun p e s m below meth c s₁ Bd hml hZ hh hx hby hown hnm X0 e0 => ?_
  have N0 := Fr.nil n0
  obtain ⟨_, T3, L3, X3, hQ3, st3⟩ := ocallX X0 hx hZ (⟨zs25, "append", "(Ljava/lang/String;)Ljava/lang/AbstractStringBuilder;"⟩ : MethodName) hown (ww hw 144 rfl) (own_smM (ww hw 155 rfl) rfl (ww hw 147 rfl) (by decide)) (ww hw 145 rfl) (ww hw 146 rfl) (by decide) (ww hw 148 rfl) (ww hw 129 rfl) e0 (Ins.self F33) (rm26_47 l hw a1 a2 a5 l7 kc8 p9 p11 p15 p17 p19 a21 l23 kc24 p25 p28 p30 p34 h0 n0 Z0 F4 F6 F10 F12 hc13 F14 hv16 F18 hv20 F22 F26 F27 hv29 hv31 hc32 F33 hv35 hc36 hc37 hl38 hl39 hl40 g41 ne42 g43) (st := [(.ref a2), (.ref a1)]) rfl 0 rfl (by decide) (pc := 2) (Ls := (lc8 a1 a2)) hml rfl (lenOf pd_21 rfl) d25_2 hby
  obtain ⟨rfl, N3q, K3, f44, f45, f46, f47⟩ := hQ3
  have N48 := Fr.app N0 N3q
  refine own_go (U' := T3.setTop (mkF m 7 (lc8 a1 a2) [(.ref a1)])) (fun t k => oaloadN X0 hx hby d25_0 rfl rfl (oaloadN X0 hx hby d25_1 rfl rfl (st3 _ (opop X3 hx hby d25_5 rfl (oaloadN X3 hx hby d25_6 rfl rfl k))))) ?_
  obtain ⟨fs, hr, hrun, hended, hW, hsame⟩ := X3.leave (v := some (.ref a1)) (fun h => by rw [Bd.returns] at h; cases h)
  refine own_out ⟨_, _, ?_, hrun, hended, _, _, rfl, ?_, ⟨_, rfl⟩, hW, hsame.mono (by decide) (by decide)⟩
  · exact retOut X3 hx Bd.returns rfl (Or.inr (Or.inr (Or.inr (Or.inr ⟨rfl, rfl, rfl⟩)))) (hb hby d25_7) hr
  · show Q25_48 Z a1 a2 a5 l7 kc8 p9 p11 p15 p17 p19 a21 l23 kc24 p25 p28 p30 p34 h0 n0 _ T3.heap _
    exact ⟨rfl, N48, (Keep.trans (Keep.refl h0 [a21, a1]) K3 (allS (Or.inl (List.mem_of_getElem? (i := 0) rfl)) (allS (Or.inl (List.mem_of_getElem? (i := 1) rfl)) all0))), f44, f45, f46, f47⟩
def Q31_49 (Z : State) (a1 a2 : Addr) (h0 : Heap) (n0 : Nat) (v : Option Value) (h : Heap) (L : List Loc) : Prop := v = some (.ref a2) ∧ Fr n0 L ∧ h = h0
theorem rm31_49 (l : Launch) {Z : State} {a0 : Array Value} (hw : own_W Z a0) (a1 a2 : Addr) (h0 : Heap) (n0 : Nat) (Z0 : n0 ≤ h0.size) (F3 : Fld Z h0 a1 zs21 "value" zs23 (.ref a2)) :
    own_MF l zm22 c_31 1 (some (.object zs6)) (own_R 0 0 0 0) #[(.ref a1)] Z h0 (Q31_49 Z a1 a2 h0 n0) := by
  refine own_st (L := (lc23 a1)) (own := zs21) (plainFor_of_name pn_7) rfl (fun m => ef_7 m a1) fun p e s m below meth c s₁ Bd hml hZ hh hx hby hown hnm X0 e0 => ?_
  have N0 := Fr.nil n0
  obtain ⟨T4, X4, e4, st4⟩ := getF X0 hx hZ hown (host := "") (Or.inl (ww hw 108 rfl)) Via.refl e0 F3 (g := (mkF m 1 (lc23 a1) [(.ref a1)])) rfl rfl (hb hby d31_1)
  refine own_go (U' := T4.setTop (mkF m 4 (lc23 a1) [(.ref a2)])) (fun t k => oaloadN X0 hx hby d31_0 rfl rfl (st4 _ k)) ?_
  obtain ⟨fs, hr, hrun, hended, hW, hsame⟩ := X4.leave (v := some (.ref a2)) (fun h => by rw [Bd.returns] at h; cases h)
  refine own_out ⟨_, _, ?_, hrun, hended, _, _, rfl, ?_, ⟨_, rfl⟩, hW, hsame.mono (by decide) (by decide)⟩
  · exact retOut X4 hx Bd.returns rfl (Or.inr (Or.inr (Or.inr (Or.inr ⟨rfl, rfl, rfl⟩)))) (hb hby d31_4) hr
  · show Q31_49 Z a1 a2 h0 n0 _ T4.heap _
    rw [e4]
    exact ⟨rfl, N0, rfl⟩
def Q35_50 (Z : State) (a1 a2 : Addr) (h0 : Heap) (n0 : Nat) (v : Option Value) (h : Heap) (L : List Loc) : Prop := v = some (.ref a2) ∧ Fr n0 L ∧ h = h0
theorem rm35_50 (l : Launch) {Z : State} {a0 : Array Value} (hw : own_W Z a0) (a1 a2 : Addr) (h0 : Heap) (n0 : Nat) (Z0 : n0 ≤ h0.size) (F3 : Fld Z h0 a1 zs25 "value" "[B" (.ref a2)) :
    own_MF l zm23 c_35 1 (some (.array .byte)) (own_R 0 0 0 0) #[(.ref a1)] Z h0 (Q35_50 Z a1 a2 h0 n0) := by
  refine own_st (L := (lc23 a1)) (own := zs25) (plainFor_of_name pn_8) rfl (fun m => ef_7 m a1) fun p e s m below meth c s₁ Bd hml hZ hh hx hby hown hnm X0 e0 => ?_
  have N0 := Fr.nil n0
  obtain ⟨T4, X4, e4, st4⟩ := getF X0 hx hZ hown (host := "") (Or.inl (ww hw 133 rfl)) Via.refl e0 F3 (g := (mkF m 1 (lc23 a1) [(.ref a1)])) rfl rfl (hb hby d35_1)
  refine own_go (U' := T4.setTop (mkF m 4 (lc23 a1) [(.ref a2)])) (fun t k => oaloadN X0 hx hby d35_0 rfl rfl (st4 _ k)) ?_
  obtain ⟨fs, hr, hrun, hended, hW, hsame⟩ := X4.leave (v := some (.ref a2)) (fun h => by rw [Bd.returns] at h; cases h)
  refine own_out ⟨_, _, ?_, hrun, hended, _, _, rfl, ?_, ⟨_, rfl⟩, hW, hsame.mono (by decide) (by decide)⟩
  · exact retOut X4 hx Bd.returns rfl (Or.inr (Or.inr (Or.inr (Or.inr ⟨rfl, rfl, rfl⟩)))) (hb hby d35_4) hr
  · show Q35_50 Z a1 a2 h0 n0 _ T4.heap _
    rw [e4]
    exact ⟨rfl, N0, rfl⟩
def Q37_51 (Z : State) (a1 : Addr) (p2 : Int32) (h0 : Heap) (n0 : Nat) (v : Option Value) (h : Heap) (L : List Loc) : Prop := v = some (.int p2) ∧ Fr n0 L ∧ h = h0
theorem rm37_51 (l : Launch) {Z : State} {a0 : Array Value} (hw : own_W Z a0) (a1 : Addr) (p2 : Int32) (h0 : Heap) (n0 : Nat) (Z0 : n0 ≤ h0.size) (F3 : Fld Z h0 a1 zs25 "count" "I" (.int p2)) :
    own_MF l zm24 c_37 1 (some .int) (own_R 0 0 0 0) #[(.ref a1)] Z h0 (Q37_51 Z a1 p2 h0 n0) := by
  refine own_st (L := (lc23 a1)) (own := zs25) (plainFor_of_name pn_8) rfl (fun m => ef_7 m a1) fun p e s m below meth c s₁ Bd hml hZ hh hx hby hown hnm X0 e0 => ?_
  have N0 := Fr.nil n0
  obtain ⟨T4, X4, e4, st4⟩ := getF X0 hx hZ hown (host := "") (Or.inl (ww hw 150 rfl)) Via.refl e0 F3 (g := (mkF m 1 (lc23 a1) [(.ref a1)])) rfl rfl (hb hby d37_1)
  refine own_go (U' := T4.setTop (mkF m 4 (lc23 a1) [(.int p2)])) (fun t k => oaloadN X0 hx hby d37_0 rfl rfl (st4 _ k)) ?_
  obtain ⟨fs, hr, hrun, hended, hW, hsame⟩ := X4.leave (v := some (.int p2)) (fun h => by rw [Bd.returns] at h; cases h)
  refine own_out ⟨_, _, ?_, hrun, hended, _, _, rfl, ?_, ⟨_, rfl⟩, hW, hsame.mono (by decide) (by decide)⟩
  · exact retI X4 hx Bd.returns (hb hby d37_4) hr
  · show Q37_51 Z a1 p2 h0 n0 _ T4.heap _
    rw [e4]
    exact ⟨rfl, N0, rfl⟩
def Q36_52 (Z : State) (a1 : Addr) (p3 : Int32) (h0 : Heap) (n0 : Nat) (v : Option Value) (h : Heap) (L : List Loc) : Prop := v = some (.int p3) ∧ Fr n0 L ∧ h = h0
theorem rm36_52 (l : Launch) {Z : State} {a0 : Array Value} (hw : own_W Z a0) (a1 : Addr) (p3 : Int32) (h0 : Heap) (n0 : Nat) (Z0 : n0 ≤ h0.size) (F4 : Fld Z h0 a1 zs25 "count" "I" (.int p3)) (F5 : Exa Z h0 a1 zs26) :
    own_MF l (⟨zs26, "length", "()I"⟩ : MethodName) c_36 1 (some .int) (own_R 1 0 0 12) #[(.ref a1)] Z h0 (Q36_52 Z a1 p3 h0 n0) := by
  refine own_st (L := (lc23 a1)) (own := zs26) (plainFor_of_name pn_9) rfl (fun m => ef_7 m a1) fun p e s m below meth c s₁ Bd hml hZ hh hx hby hown hnm X0 e0 => ?_
  have N0 := Fr.nil n0
  obtain ⟨_, T2, L2, X2, hQ2, st2⟩ := ocallX X0 hx hZ zm24 hown (ww hw 206 rfl) (own_smM (ww hw 155 rfl) rfl (ww hw 201 rfl) (by decide)) (ww hw 202 rfl) (ww hw 146 rfl) (by decide) (ww hw 207 rfl) (ww hw 129 rfl) e0 (Ins.self F5) (rm37_51 l hw a1 p3 h0 n0 Z0 F4) (st := [(.ref a1)]) rfl 0 rfl (by decide) (pc := 1) (Ls := (lc23 a1)) hml rfl (lenOf pd_12 rfl) d36_1 hby
  obtain ⟨rfl, N2q, e2⟩ := hQ2
  have N6 := Fr.app N0 N2q
  refine own_go (U' := T2.setTop (mkF m 4 (lc23 a1) [(.int p3)])) (fun t k => oaloadN X0 hx hby d36_0 rfl rfl (st2 _ k)) ?_
  obtain ⟨fs, hr, hrun, hended, hW, hsame⟩ := X2.leave (v := some (.int p3)) (fun h => by rw [Bd.returns] at h; cases h)
  refine own_out ⟨_, _, ?_, hrun, hended, _, _, rfl, ?_, ⟨_, rfl⟩, hW, hsame.mono (by decide) (by decide)⟩
  · exact retI X2 hx Bd.returns (hb hby d36_4) hr
  · show Q36_52 Z a1 p3 h0 n0 _ T2.heap _
    rw [e2]
    exact ⟨rfl, N6, rfl⟩
def Q38_53 (Z : State) (a1 : Addr) (p2 : Int32) (h0 : Heap) (n0 : Nat) (v : Option Value) (h : Heap) (L : List Loc) : Prop := v = some (.int 1) ∧ Fr n0 L ∧ h = h0
theorem rm38_53 (l : Launch) {Z : State} {a0 : Array Value} (hw : own_W Z a0) (a1 : Addr) (p2 : Int32) (h0 : Heap) (n0 : Nat) (Z0 : n0 ≤ h0.size) (F3 : Sta Z h0 zs6 zs7 "Z" (.int p2)) (hc5 : ¬ (p2 = (0 : Int32))) (F6 : Fld Z h0 a1 zs25 "coder" "B" (.int 0)) :
    own_MF l zm25 c_38 1 (some .boolean) (own_R 0 0 0 0) #[(.ref a1)] Z h0 (Q38_53 Z a1 p2 h0 n0) := by
  refine own_st (L := (lc23 a1)) (own := zs25) (plainFor_of_name pn_8) rfl (fun m => ef_7 m a1) fun p e s m below meth c s₁ Bd hml hZ hh hx hby hown hnm X0 e0 => ?_
  have N0 := Fr.nil n0
  obtain ⟨T4, X4, e4, st4⟩ := getS2 X0 hx hZ hown (host := "") (Or.inl (ww hw 132 rfl)) Via.refl e0 F3 (g := (mkF m 0 (lc23 a1) [])) rfl (hb hby d38_0)
  refine own_go (U' := T4.setTop (mkF m 3 (lc23 a1) [(.int p2)])) (fun t k => st4 _ k) ?_
  obtain ⟨T7, X7, e7, st7⟩ := getF X4 hx hZ hown (host := "") (Or.inl (ww hw 135 rfl)) Via.refl e4 F6 (g := (mkF m 7 (lc23 a1) [(.ref a1)])) rfl rfl (hb hby d38_7)
  refine own_go (U' := T7.setTop (mkF m 10 (lc23 a1) [(.int 0)])) (fun t k => oifN X4 hx hby d38_3 ((if0 _ _).trans (feq hc5).1) (oaloadN X4 hx hby d38_6 rfl rfl (st7 _ k))) ?_
  refine own_go (U' := T7.setTop (mkF m 18 (lc23 a1) [(.int 1)])) (fun t k => oifN X7 hx hby d38_10 (by decide) (oiconst X7 hx hby d38_13 (ogoto (pc := 14) X7 hx hby d38_14 18 (by decide) k))) ?_
  obtain ⟨fs, hr, hrun, hended, hW, hsame⟩ := X7.leave (v := some (.int 1)) (fun h => by rw [Bd.returns] at h; cases h)
  refine own_out ⟨_, _, ?_, hrun, hended, _, _, rfl, ?_, ⟨_, rfl⟩, hW, hsame.mono (by decide) (by decide)⟩
  · exact retN X7 hx (t := .boolean) Bd.returns (by simp) (hb hby d38_18) hr
  · show Q38_53 Z a1 p2 h0 n0 _ T7.heap _
    rw [e7]
    exact ⟨rfl, N0, rfl⟩
def Q41_54 (Z : State) (p1 : Int32) (h0 : Heap) (n0 : Nat) (v : Option Value) (h : Heap) (L : List Loc) : Prop := v = none ∧ Fr n0 L ∧ h = h0
theorem rm41_54 (l : Launch) {Z : State} {a0 : Array Value} (hw : own_W Z a0) (p1 : Int32) (h0 : Heap) (n0 : Nat) (Z0 : n0 ≤ h0.size) (hc2 : ¬ (p1 < (0 : Int32))) :
    own_MF l (⟨zs31, "checkLength", "(II)V"⟩ : MethodName) c_41 2 none (own_R 0 0 0 0) #[(.int 0), (.int p1)] Z h0 (Q41_54 Z p1 h0 n0) := by
  refine own_st (L := (lc3 0 p1)) (own := zs31) (plainFor_of_name pn_10) rfl (fun m => ef_10 m 0 p1) fun p e s m below meth c s₁ Bd hml hZ hh hx hby hown hnm X0 e0 => ?_
  have N0 := Fr.nil n0
  refine own_go (U' := s₁.setTop (mkF m 2 (lc3 0 p1) [(.int 0), (.int p1)])) (fun t k => oiloadN X0 hx hby d41_0 rfl (oiloadN X0 hx hby d41_1 rfl k)) ?_
  refine own_go (U' := s₁.setTop (mkF m 37 (lc3 0 p1) [])) (fun t k => oicY (pc := 2) X0 hx hby d41_2 37 (flt hc2).2.1 (by decide) k) ?_
  obtain ⟨fs, hr, hrun, hended, hW, hsame⟩ := X0.leave (v := none) (fun _ => rfl)
  refine own_out ⟨_, _, ?_, hrun, hended, _, _, rfl, ?_, ⟨_, rfl⟩, hW, hsame.mono (by decide) (by decide)⟩
  · exact X0.returnOut hx Bd.returns (hb hby d41_37) hr
  · show Q41_54 Z p1 h0 n0 _ s₁.heap _
    rw [e0]
    exact ⟨rfl, N0, rfl⟩
def Q42_55 (Z : State) (p1 p2 : Int32) (h0 : Heap) (n0 : Nat) (v : Option Value) (h : Heap) (L : List Loc) : Prop := v = some (.int p2) ∧ Fr n0 L ∧ h = h0
theorem rm42_55 (l : Launch) {Z : State} {a0 : Array Value} (hw : own_W Z a0) (p1 p2 : Int32) (h0 : Heap) (n0 : Nat) (Z0 : n0 ≤ h0.size) (hc3 : p2 < p1) :
    own_MF l (⟨zs32, "min", "(II)I"⟩ : MethodName) c_42 2 (some .int) (own_R 0 0 0 0) #[(.int p1), (.int p2)] Z h0 (Q42_55 Z p1 p2 h0 n0) := by
  refine own_st (L := (lc3 p1 p2)) (own := zs32) (Jvm.Free.JP.mathPlain rfl (by decide +kernel)) rfl (fun m => ef_10 m p1 p2) fun p e s m below meth c s₁ Bd hml hZ hh hx hby hown hnm X0 e0 => ?_
  have N0 := Fr.nil n0
  refine own_go (U' := s₁.setTop (mkF m 2 (lc3 p1 p2) [(.int p2), (.int p1)])) (fun t k => oiloadN X0 hx hby d42_0 rfl (oiloadN X0 hx hby d42_1 rfl k)) ?_
  refine own_go (U' := s₁.setTop (mkF m 10 (lc3 p1 p2) [(.int p2)])) (fun t k => oicY (pc := 2) X0 hx hby d42_2 9 (tlt hc3).2.2.1 (by decide) (oiloadN X0 hx hby d42_9 rfl k)) ?_
  obtain ⟨fs, hr, hrun, hended, hW, hsame⟩ := X0.leave (v := some (.int p2)) (fun h => by rw [Bd.returns] at h; cases h)
  refine own_out ⟨_, _, ?_, hrun, hended, _, _, rfl, ?_, ⟨_, rfl⟩, hW, hsame.mono (by decide) (by decide)⟩
  · exact retI X0 hx Bd.returns (hb hby d42_10) hr
  · show Q42_55 Z p1 p2 h0 n0 _ s₁.heap _
    rw [e0]
    exact ⟨rfl, N0, rfl⟩
def Q40_56 (Z : State) (a1 : Addr) (p2 p6 : Int32) (l12 : List Value) (kc13 : ClassId) (p14 p18 : Int32) (h0 : Heap) (n0 : Nat) (v : Option Value) (h : Heap) (L : List Loc) : Prop := ∃ b8 : Addr, ∃ k8 : ClassId, v = some (.ref b8) ∧ Fr n0 L ∧ Keep h0 h [] ∧ h0.size ≤ b8 ∧ Exa Z h b8 "[B" ∧ Arv Z h b8 k8 .byte p6 (own_cp (own_rep p6) (own_us l12 (0 : Int32) p6) (0 : Int32) p6) (.int (0 : Int32))
theorem rm40_56 (l : Launch) {Z : State} {a0 : Array Value} (hw : own_W Z a0) (a1 : Addr) (p2 p6 : Int32) (l12 : List Value) (kc13 : ClassId) (p14 p18 : Int32) (h0 : Heap) (n0 : Nat) (Z0 : n0 ≤ h0.size) (hc4 : ¬ (p2 < (0 : Int32))) (hv7 : (p2 - (0 : Int32)) = p6) (hc9 : ¬ (p6 < (0 : Int32))) (hl10 : p6.toNatClampNeg ≤ 16) (F15 : Arv Z h0 a1 kc13 .byte p14 l12 (.int (0 : Int32))) (hv19 : (p14 - (0 : Int32)) = p18) (hc21 : p6 < p18) (hl25 : (0 : Int32).toNatClampNeg + p6.toNatClampNeg ≤ p14.toNatClampNeg) (hl26 : (0 : Int32).toNatClampNeg + p6.toNatClampNeg ≤ p6.toNatClampNeg) (hl27 : (0 : Int32).toNatClampNeg + p6.toNatClampNeg ≤ ((own_rep p6) : List Value).length) :
    own_MF l (⟨zs31, "copyOfRangeByte", zs33⟩ : MethodName) c_40 5 (some (.array .byte)) (own_R 1 1 16 18) #[(.ref a1), (.int 0), (.int p2)] Z h0 (Q40_56 Z a1 p2 p6 l12 kc13 p14 p18 h0 n0) := by
  refine own_st (L := (lc38 a1 0 p2)) (own := zs31) (plainFor_of_name pn_10) rfl (fun m => ef_16 m a1 0 p2) fun p e s m below meth c s₁ Bd hml hZ hh hx hby hown hnm X0 e0 => ?_
  have N0 := Fr.nil n0
  obtain ⟨_, T3, L3, X3, hQ3, st3⟩ := ocallS X0 hx hZ (⟨zs31, "checkLength", "(II)V"⟩ : MethodName) hown (ww hw 220 rfl) (ww hw 221 rfl) (by decide) (ww hw 222 rfl) (ww hw 215 rfl) e0 (rm41_54 l hw p2 h0 n0 Z0 hc4) (st := [(.int p2), (.int 0)]) rfl 0 rfl (by decide) (pc := 2) (Ls := (lc38 a1 0 p2)) hml rfl (lenOf pd_14 rfl) d40_2 hby
  obtain ⟨rfl, N3q, e3⟩ := hQ3
  have N5 := Fr.app N0 N3q
  refine own_go (U' := T3.setTop (mkF m 8 (lc38 a1 0 p2) [(.int (p2 - (0 : Int32)))])) (fun t k => oiloadN X0 hx hby d40_0 rfl (oiloadN X0 hx hby d40_1 rfl (st3 _ (oiloadN X3 hx hby d40_5 rfl (oiloadN X3 hx hby d40_6 rfl (oisub X3 hx hby d40_7 k)))))) ?_
  rw [hv7]
  obtain ⟨T8, h8, k8, X8, e8, E8, A8, B8, st8⟩ := newPE X3 hx hZ (ww hw 24 rfl) e3 (g := (mkF m 10 (lc39 a1 0 p2 p6) [(.int p6)])) rfl (hb hby d40_10) rfl hc9 (cap := 16) hl10 (by decide) (by decide) (by decide) (ad := "[B") (by decide)
  obtain ⟨b8, g8⟩ : ∃ z, z = h0.size := ⟨_, rfl⟩
  rw [← g8] at A8 B8 st8
  have f11 : Arv Z h8 b8 k8 .byte p6 [] (.int (0 : Int32)) := Arv.new A8 hc9
  refine own_go (U' := T8.setTop (mkF m 20 (lc40 a1 0 p2 p6 b8) [(.ref a1), (.int 0), (.ref b8), (.int 0), (.ref a1)])) (fun t k => oistoreN X3 hx hby d40_8 (lc39 a1 0 p2 p6) rfl (oiloadN X3 hx hby d40_9 rfl (st8 _ (oastore X8 hx hby d40_12 (lc40 a1 0 p2 p6 b8) rfl rfl (oaloadN X8 hx hby d40_14 rfl rfl (oiloadN X8 hx hby d40_15 rfl (oaload X8 hx hby d40_16 rfl rfl (oiconst X8 hx hby d40_18 (oaloadN X8 hx hby d40_19 rfl rfl k))))))))) ?_
  have f16 : Arv Z h8 a1 kc13 .byte p14 l12 (.int (0 : Int32)) := (F15.ext E8)
  obtain ⟨cl17, Ar17, q17, S17, N17, H17, G17⟩ := id f16
  refine own_go (fun t k => X8.arraylength hx (own_at e8 Ar17.1) (State.isArrayOf_alike hZ.alike Ar17.2.1) (g := (mkF m 20 (lc40 a1 0 p2 p6 b8) [(.ref a1), (.int 0), (.ref b8), (.int 0), (.ref a1)])) rfl rfl (hb hby d40_20) _ k) ?_
  rw [len_of S17 N17]
  refine own_go (U' := T8.setTop (mkF m 23 (lc40 a1 0 p2 p6 b8) [(.int (p14 - (0 : Int32))), (.int 0), (.ref b8), (.int 0), (.ref a1)])) (fun t k => oiloadN X8 hx hby d40_21 rfl (oisub X8 hx hby d40_22 k)) ?_
  rw [hv19]
  have Z_1 : n0 ≤ h8.size := Nat.le_trans Z0 E8.1
  obtain ⟨_, T20, L20, X20, hQ20, st20⟩ := ocallS X8 hx hZ (⟨zs32, "min", "(II)I"⟩ : MethodName) hown (ww hw 223 rfl) (ww hw 224 rfl) (by decide) (ww hw 226 rfl) (ww hw 225 rfl) e8 (rm42_55 l hw p18 p6 h8 n0 Z_1 hc21) (st := [(.int p6), (.int p18), (.int 0), (.ref b8), (.int 0), (.ref a1)]) rfl 4 rfl (by decide) (pc := 24) (Ls := (lc40 a1 0 p2 p6 b8)) hml rfl (lenOf pd_25 rfl) d40_24 hby
  obtain ⟨rfl, N20q, e20⟩ := hQ20
  have N22 := Fr.app N5 N20q
  have f24 : Arv Z h8 b8 k8 .byte p6 (own_rep p6) (.int (0 : Int32)) := f11.pad (pad_rep [] (.int (0 : Int32)) p6.toNatClampNeg)
  have g28 : n0 ≤ b8 := Nat.le_trans Z0 (Nat.le_of_eq g8.symm)
  obtain ⟨T23, h23, L23, X23, e23, N23, K23, V23, st23⟩ := cpA X20 hx hZ hown (ww hw 227 rfl) (ww hw 176 rfl) (ww hw 174 rfl) (ww hw 175 rfl) e20 (us := (own_us l12 (0 : Int32) p6)) f16 f24 (Or.inl ⟨rfl, rfl⟩) (by decide) (by decide) hc9 hl25 hl26 rfl hl27 N22 g28 (g := (mkF m 27 (lc40 a1 0 p2 p6 b8) [(.int p6), (.int 0), (.ref b8), (.int 0), (.ref a1)])) rfl (by rw [hml]; rfl) rfl (hb hby d40_27) (by decide) (W := 0) (by show 2 * 0 + _ ≤ _; exact Nat.le_of_eq rfl) (by decide)
  have f29 : Arv Z h23 b8 k8 .byte p6 (own_cp (own_rep p6) (own_us l12 (0 : Int32) p6) (0 : Int32) p6) (.int (0 : Int32)) := V23
  refine own_go (U' := T23.setTop (mkF m 32 (lc40 a1 0 p2 p6 b8) [(.ref b8)])) (fun t k => oiloadN X8 hx hby d40_23 rfl (st20 _ (st23 _ (oaload X23 hx hby d40_30 rfl rfl k)))) ?_
  have f30 : Exa Z h23 b8 "[B" := (B8.keep K23)
  obtain ⟨fs, hr, hrun, hended, hW, hsame⟩ := X23.leave (v := some (.ref b8)) (fun h => by rw [Bd.returns] at h; cases h)
  refine own_out ⟨_, _, ?_, hrun, hended, _, _, rfl, ?_, ⟨_, rfl⟩, hW, hsame.mono (by decide) (by decide)⟩
  · exact retOut X23 hx Bd.returns rfl (Or.inr (Or.inr (Or.inr (Or.inr ⟨rfl, rfl, rfl⟩)))) (hb hby d40_32) hr
  · show Q40_56 Z a1 p2 p6 l12 kc13 p14 p18 h0 n0 _ T23.heap _
    rw [e23]
    exact ⟨b8, k8, rfl, N23, (Keep.trans ((Keep.refl h0 []).ext E8) K23 (allS (Or.inr (Nat.le_of_eq g8.symm)) all0)), (Nat.le_of_eq g8.symm), f30, f29⟩
def Q39_57 (Z : State) (a1 : Addr) (p2 : Int32) (l3 : List Value) (kc4 : ClassId) (p5 p11 p15 : Int32) (h0 : Heap) (n0 : Nat) (v : Option Value) (h : Heap) (L : List Loc) : Prop := ∃ b21 : Addr, ∃ k22 : ClassId, v = some (.ref b21) ∧ Fr n0 L ∧ Keep h0 h [] ∧ h0.size ≤ b21 ∧ Exa Z h b21 "[B" ∧ Arv Z h b21 k22 .byte p11 (own_cp (own_rep p11) (own_us l3 (0 : Int32) p11) (0 : Int32) p11) (.int (0 : Int32))
theorem rm39_57 (l : Launch) {Z : State} {a0 : Array Value} (hw : own_W Z a0) (a1 : Addr) (p2 : Int32) (l3 : List Value) (kc4 : ClassId) (p5 p11 p15 : Int32) (h0 : Heap) (n0 : Nat) (Z0 : n0 ≤ h0.size) (F6 : Arv Z h0 a1 kc4 .byte p5 l3 (.int (0 : Int32))) (hc8 : ¬ (p2 = p5)) (hc10 : ¬ (p2 < (0 : Int32))) (hv12 : (p2 - (0 : Int32)) = p11) (hc13 : ¬ (p11 < (0 : Int32))) (hl14 : p11.toNatClampNeg ≤ 16) (hv16 : (p5 - (0 : Int32)) = p15) (hc17 : p11 < p15) (hl18 : (0 : Int32).toNatClampNeg + p11.toNatClampNeg ≤ p5.toNatClampNeg) (hl19 : (0 : Int32).toNatClampNeg + p11.toNatClampNeg ≤ p11.toNatClampNeg) (hl20 : (0 : Int32).toNatClampNeg + p11.toNatClampNeg ≤ ((own_rep p11) : List Value).length) :
    own_MF l (⟨zs31, "copyOfRange", zs33⟩ : MethodName) c_39 3 (some (.array .byte)) (own_R 2 1 16 34) #[(.ref a1), (.int 0), (.int p2)] Z h0 (Q39_57 Z a1 p2 l3 kc4 p5 p11 p15 h0 n0) := by
  refine own_st (L := (lc33 a1 0 p2)) (own := zs31) (plainFor_of_name pn_10) rfl (fun m => ef_17 m a1 0 p2) fun p e s m below meth c s₁ Bd hml hZ hh hx hby hown hnm X0 e0 => ?_
  have N0 := Fr.nil n0
  refine own_go (U' := s₁.setTop (mkF m 1 (lc33 a1 0 p2) [(.int 0)])) (fun t k => oiloadN X0 hx hby d39_0 rfl k) ?_
  refine own_go (U' := s₁.setTop (mkF m 6 (lc33 a1 0 p2) [(.ref a1), (.int p2)])) (fun t k => oifN X0 hx hby d39_1 (by decide) (oiloadN X0 hx hby d39_4 rfl (oaloadN X0 hx hby d39_5 rfl rfl k))) ?_
  obtain ⟨cl7, Ar7, q7, S7, N7, H7, G7⟩ := id F6
  refine own_go (fun t k => X0.arraylength hx (own_at e0 Ar7.1) (State.isArrayOf_alike hZ.alike Ar7.2.1) (g := (mkF m 6 (lc33 a1 0 p2) [(.ref a1), (.int p2)])) rfl rfl (hb hby d39_6) _ k) ?_
  rw [len_of S7 N7]
  obtain ⟨_, T9, L9, X9, hQ9, st9⟩ := ocallS X0 hx hZ (⟨zs31, "copyOfRangeByte", zs33⟩ : MethodName) hown (ww hw 217 rfl) (ww hw 218 rfl) (by decide) (ww hw 219 rfl) (ww hw 215 rfl) e0 (rm40_56 l hw a1 p2 p11 l3 kc4 p5 p15 h0 n0 Z0 hc10 hv12 hc13 hl14 F6 hv16 hc17 hl18 hl19 hl20) (st := [(.int p2), (.int 0), (.ref a1)]) rfl 0 rfl (by decide) (pc := 13) (Ls := (lc33 a1 0 p2)) hml rfl (lenOf pd_26 rfl) d39_13 hby
  obtain ⟨b21, k22, rfl, N9q, K9, sz23, f24, f25⟩ := hQ9
  have N26 := Fr.app N0 N9q
  refine own_go (U' := T9.setTop (mkF m 16 (lc33 a1 0 p2) [(.ref b21)])) (fun t k => oicN X0 hx hby d39_7 (feq hc8).1 (oaloadN X0 hx hby d39_10 rfl rfl (oiloadN X0 hx hby d39_11 rfl (oiloadN X0 hx hby d39_12 rfl (st9 _ k))))) ?_
  obtain ⟨fs, hr, hrun, hended, hW, hsame⟩ := X9.leave (v := some (.ref b21)) (fun h => by rw [Bd.returns] at h; cases h)
  refine own_out ⟨_, _, ?_, hrun, hended, _, _, rfl, ?_, ⟨_, rfl⟩, hW, hsame.mono (by decide) (by decide)⟩
  · exact retOut X9 hx Bd.returns rfl (Or.inr (Or.inr (Or.inr (Or.inr ⟨rfl, rfl, rfl⟩)))) (hb hby d39_16) hr
  · show Q39_57 Z a1 p2 l3 kc4 p5 p11 p15 h0 n0 _ T9.heap _
    exact ⟨b21, k22, rfl, N26, (Keep.trans (Keep.refl h0 []) K9 all0), sz23, f24, f25⟩
def Q34_58 (Z : State) (a1 a2 a6 : Addr) (p10 p14 : Int32) (l27 : List Value) (kc28 : ClassId) (p29 p35 p39 : Int32) (h0 : Heap) (n0 : Nat) (v : Option Value) (h : Heap) (L : List Loc) : Prop := ∃ b45 : Addr, ∃ k46 : ClassId, v = none ∧ Fr n0 L ∧ Keep h0 h [a1] ∧ h0.size ≤ b45 ∧ Fld Z h a1 zs6 "coder" "B" (.int 0) ∧ Fld Z h a1 zs6 "value" "[B" (.ref b45) ∧ Exa Z h b45 "[B" ∧ Arv Z h b45 k46 .byte p35 (own_cp (own_rep p35) (own_us l27 (0 : Int32) p35) (0 : Int32) p35) (.int (0 : Int32))
theorem rm34_58 (l : Launch) {Z : State} {a0 : Array Value} (hw : own_W Z a0) (a1 a2 a6 : Addr) (p10 p14 : Int32) (l27 : List Value) (kc28 : ClassId) (p29 p35 p39 : Int32) (h0 : Heap) (n0 : Nat) (Z0 : n0 ≤ h0.size) (F5 : Exa Z h0 a2 zs26) (F7 : Fld Z h0 a2 zs25 "value" "[B" (.ref a6)) (F11 : Fld Z h0 a2 zs25 "count" "I" (.int p10)) (F15 : Sta Z h0 zs6 zs7 "Z" (.int p14)) (hc16 : ¬ (p14 = (0 : Int32))) (F17 : Fld Z h0 a2 zs25 "coder" "B" (.int 0)) (F19 : Fld Z h0 a1 zs6 "coder" "B" (.int 0)) (F20 : Fld Z h0 a1 zs6 "value" "[B" .null) (F21 : Exa Z h0 a1 zs6) (g23 : n0 ≤ a1) (F30 : Arv Z h0 a6 kc28 .byte p29 l27 (.int (0 : Int32))) (ne31 : a6 ≠ a1) (hc33 : ¬ (p10 = p29)) (hc34 : ¬ (p10 < (0 : Int32))) (hv36 : (p10 - (0 : Int32)) = p35) (hc37 : ¬ (p35 < (0 : Int32))) (hl38 : p35.toNatClampNeg ≤ 16) (hv40 : (p29 - (0 : Int32)) = p39) (hc41 : p35 < p39) (hl42 : (0 : Int32).toNatClampNeg + p35.toNatClampNeg ≤ p29.toNatClampNeg) (hl43 : (0 : Int32).toNatClampNeg + p35.toNatClampNeg ≤ p35.toNatClampNeg) (hl44 : (0 : Int32).toNatClampNeg + p35.toNatClampNeg ≤ ((own_rep p35) : List Value).length) :
    own_MF l (⟨zs6, "<init>", "(Ljava/lang/AbstractStringBuilder;Ljava/lang/Void;)V"⟩ : MethodName) c_34 5 none (own_R 3 1 16 49) #[(.ref a1), (.ref a2), .null] Z h0 (Q34_58 Z a1 a2 a6 p10 p14 l27 kc28 p29 p35 p39 h0 n0) := by
  refine own_st (L := (lc35 a1 a2)) (own := zs6) (plainFor_of_name pn_2) rfl (fun m => ef_18 m a1 a2) fun p e s m below meth c s₁ Bd hml hZ hh hx hby hown hnm X0 e0 => ?_
  have N0 := Fr.nil n0
  obtain ⟨T3, X3, e3, st3⟩ := initO X0 hx hZ hown (ww hw 16 rfl) (ww hw 17 rfl) (ww hw 18 rfl) e0 (g := (mkF m 1 (lc35 a1 a2) [(.ref a1)])) rfl (by rw [hml]; rfl) rfl (hb hby d34_1) (by decide) (W := 0) (by show 2 * 0 + _ ≤ _; exact Nat.le_of_eq rfl) (by decide)
  obtain ⟨_, T4, L4, X4, hQ4, st4⟩ := ocallV X3 hx hZ zm23 zm23 hown (ww hw 195 rfl) (ww hw 196 rfl) (notFace_of_selects (args := #[]) (mvT hZ (ww hw 198 rfl))) (ww hw 198 rfl) (ww hw 197 rfl) (by decide) (ww hw 199 rfl) (ww hw 129 rfl) e3 F5 (rm35_50 l hw a2 a6 h0 n0 Z0 F7) (st := [(.ref a2)]) rfl 0 rfl (by decide) (pc := 5) (Ls := (lc35 a1 a2)) hml rfl (lenOf pd_24 rfl) d34_5 hby
  obtain ⟨rfl, N4q, e4⟩ := hQ4
  have N8 := Fr.app N0 N4q
  obtain ⟨_, T9, L9, X9, hQ9, st9⟩ := ocallV X4 hx hZ zm24 (⟨zs26, "length", "()I"⟩ : MethodName) hown (ww hw 200 rfl) (ww hw 201 rfl) (own_nfS (args := #[]) (mvT hZ (ww hw 155 rfl)) rfl) (ww hw 203 rfl) (ww hw 204 rfl) (by decide) (ww hw 205 rfl) (ww hw 121 rfl) e4 F5 (rm36_52 l hw a2 p10 h0 n0 Z0 F11 F5) (st := [(.ref a2)]) rfl 0 rfl (by decide) (pc := 10) (Ls := (lc36 a1 a2 a6)) hml rfl (lenOf pd_12 rfl) d34_10 hby
  obtain ⟨rfl, N9q, e9⟩ := hQ9
  have N12 := Fr.app N8 N9q
  obtain ⟨_, T13, L13, X13, hQ13, st13⟩ := ocallV X9 hx hZ zm25 zm25 hown (ww hw 208 rfl) (ww hw 209 rfl) (notFace_of_selects (args := #[]) (mvT hZ (ww hw 211 rfl))) (ww hw 211 rfl) (ww hw 210 rfl) (by decide) (ww hw 212 rfl) (ww hw 129 rfl) e9 F5 (rm38_53 l hw a2 p14 h0 n0 Z0 F15 hc16 F17) (st := [(.ref a2)]) rfl 0 rfl (by decide) (pc := 16) (Ls := (lc37 a1 a2 a6 p10)) hml rfl (lenOf pd_10 rfl) d34_16 hby
  obtain ⟨rfl, N13q, e13⟩ := hQ13
  have N18 := Fr.app N12 N13q
  refine own_go (U' := T13.setTop (mkF m 19 (lc37 a1 a2 a6 p10) [(.int 1)])) (fun t k => oaloadN X0 hx hby d34_0 rfl rfl (st3 _ (oaloadN X3 hx hby d34_4 rfl rfl (st4 _ (oastoreN X4 hx hby d34_8 (lc36 a1 a2 a6) rfl rfl (oaloadN X4 hx hby d34_9 rfl rfl (st9 _ (oistore X9 hx hby d34_13 (lc37 a1 a2 a6 p10) rfl (oaloadN X9 hx hby d34_15 rfl rfl (st13 _ k)))))))))) ?_
  obtain ⟨T22, h22, X22, e22, W22, st22⟩ := putFN X13 hx hZ hown (ww hw 31 rfl) Via.refl e13 F19 F21 (Or.inr ⟨(ww hw 32 rfl), rfl, hnm⟩) (ww hw 7 rfl) (ty := .byte) (v' := (.int 0)) (by decide) rfl (by decide) (g := (mkF m 24 (lc37 a1 a2 a6 p10) [(.int 0), (.ref a1)])) rfl rfl (hb hby d34_24)
  have N24 := Fr.snoc X22 N18 g23
  have f25 : Fld Z h22 a1 zs6 "coder" "B" (.int 0) := Fld.same W22 F19
  have f32 : Arv Z h22 a6 kc28 .byte p29 l27 (.int (0 : Int32)) := (F30.other W22 ne31)
  have Z_1 : n0 ≤ h22.size := Nat.le_trans Z0 (Keep.of_wr W22).1
  obtain ⟨_, T26, L26, X26, hQ26, st26⟩ := ocallS X22 hx hZ (⟨zs31, "copyOfRange", zs33⟩ : MethodName) hown (ww hw 213 rfl) (ww hw 214 rfl) (by decide) (ww hw 216 rfl) (ww hw 215 rfl) e22 (rm39_57 l hw a6 p10 l27 kc28 p29 p35 p39 h22 n0 Z_1 f32 hc33 hc34 hv36 hc37 hl38 hv40 hc41 hl42 hl43 hl44) (st := [(.int p10), (.int 0), (.ref a6), (.ref a1)]) rfl 1 rfl (by decide) (pc := 32) (Ls := (lc37 a1 a2 a6 p10)) hml rfl (lenOf pd_26 rfl) d34_32 hby
  obtain ⟨b45, k46, rfl, N26q, K26, sz47, f48, f49⟩ := hQ26
  have N50 := Fr.app N24 N26q
  have f51 : Fld Z T26.heap a1 zs6 "value" "[B" .null := ((Fld.other W22 F20 (Or.inr (slot_ne (Or.inr (ww hw 34 rfl)) (Or.inr (ww hw 32 rfl)) (by decide) (t := (.array .byte)) (t' := .byte) (by decide) (by decide)))).keep K26 nin0)
  have f52 : Exa Z T26.heap a1 zs6 := ((Exa.wr W22 F21).keep K26)
  obtain ⟨T53, h53, X53, e53, W53, st53⟩ := putF X26 hx hZ hown (host := "") (Or.inl (ww hw 33 rfl)) Via.refl rfl f51 f52 (Or.inr ⟨(ww hw 34 rfl), rfl, hnm⟩) (ww hw 7 rfl) (ty := (.array .byte)) (by decide) rfl rfl (g := (mkF m 35 (lc37 a1 a2 a6 p10) [(.ref b45), (.ref a1)])) rfl rfl (hb hby d34_35)
  have N54 := Fr.snoc X53 N50 g23
  have f55 : Fld Z h53 a1 zs6 "value" "[B" (.ref b45) := Fld.same W53 f51
  refine own_go (U' := T53.setTop (mkF m 97 (lc37 a1 a2 a6 p10) [])) (fun t k => oifN X13 hx hby d34_19 (by decide) (oaloadN X13 hx hby d34_22 rfl rfl (oiconst X13 hx hby d34_23 (st22 _ (oaloadN X22 hx hby d34_27 rfl rfl (oaloadN X22 hx hby d34_28 rfl rfl (oiconst X22 hx hby d34_29 (oiload X22 hx hby d34_30 rfl (st26 _ (st53 _ (ogoto (pc := 38) X53 hx hby d34_38 97 (by decide) k))))))))))) ?_
  have f56 : Fld Z h53 a1 zs6 "coder" "B" (.int 0) := (Fld.other W53 (f25.keep K26 nin0) (Or.inr (slot_ne (Or.inr (ww hw 32 rfl)) (Or.inr (ww hw 34 rfl)) (by decide) (t := .byte) (t' := (.array .byte)) (by decide) (by decide))))
  have f57 : Exa Z h53 b45 "[B" := (Exa.wr W53 f48)
  have ne58 : a1 ≠ b45 := Nat.ne_of_lt (nlt (nlt (F19.lt) (Keep.of_wr W22).1) sz47)
  have f59 : Arv Z h53 b45 k46 .byte p35 (own_cp (own_rep p35) (own_us l27 (0 : Int32) p35) (0 : Int32) p35) (.int (0 : Int32)) := (f49.other W53 (Ne.symm ne58))
  obtain ⟨fs, hr, hrun, hended, hW, hsame⟩ := X53.leave (v := none) (fun _ => rfl)
  refine own_out ⟨_, _, ?_, hrun, hended, _, _, rfl, ?_, ⟨_, rfl⟩, hW, hsame.mono (by decide) (by decide)⟩
  · exact X53.returnOut hx Bd.returns (hb hby d34_97) hr
  · show Q34_58 Z a1 a2 a6 p10 p14 l27 kc28 p29 p35 p39 h0 n0 _ T53.heap _
    rw [e53]
    exact ⟨b45, k46, rfl, N54, ((Keep.trans ((Keep.refl h0 [a1]).wr W22 (Or.inl (List.mem_of_getElem? (i := 0) rfl))) K26 all0).wr W53 (Or.inl (List.mem_of_getElem? (i := 0) rfl))), (Nat.le_trans (Keep.of_wr W22).1 sz47), f56, f55, f57, f59⟩
def Q33_59 (Z : State) (a1 a2 a5 : Addr) (p7 p9 : Int32) (l17 : List Value) (kc18 : ClassId) (p19 p24 p28 : Int32) (h0 : Heap) (n0 : Nat) (v : Option Value) (h : Heap) (L : List Loc) : Prop := ∃ b34 : Addr, ∃ k35 : ClassId, v = none ∧ Fr n0 L ∧ Keep h0 h [a1] ∧ h0.size ≤ b34 ∧ Fld Z h a1 zs6 "coder" "B" (.int 0) ∧ Fld Z h a1 zs6 "value" "[B" (.ref b34) ∧ Exa Z h b34 "[B" ∧ Arv Z h b34 k35 .byte p24 (own_cp (own_rep p24) (own_us l17 (0 : Int32) p24) (0 : Int32) p24) (.int (0 : Int32))
theorem rm33_59 (l : Launch) {Z : State} {a0 : Array Value} (hw : own_W Z a0) (a1 a2 a5 : Addr) (p7 p9 : Int32) (l17 : List Value) (kc18 : ClassId) (p19 p24 p28 : Int32) (h0 : Heap) (n0 : Nat) (Z0 : n0 ≤ h0.size) (F4 : Exa Z h0 a2 zs26) (F6 : Fld Z h0 a2 zs25 "value" "[B" (.ref a5)) (F8 : Fld Z h0 a2 zs25 "count" "I" (.int p7)) (F10 : Sta Z h0 zs6 zs7 "Z" (.int p9)) (hc11 : ¬ (p9 = (0 : Int32))) (F12 : Fld Z h0 a2 zs25 "coder" "B" (.int 0)) (F13 : Fld Z h0 a1 zs6 "coder" "B" (.int 0)) (F14 : Fld Z h0 a1 zs6 "value" "[B" .null) (F15 : Exa Z h0 a1 zs6) (g16 : n0 ≤ a1) (F20 : Arv Z h0 a5 kc18 .byte p19 l17 (.int (0 : Int32))) (ne21 : a5 ≠ a1) (hc22 : ¬ (p7 = p19)) (hc23 : ¬ (p7 < (0 : Int32))) (hv25 : (p7 - (0 : Int32)) = p24) (hc26 : ¬ (p24 < (0 : Int32))) (hl27 : p24.toNatClampNeg ≤ 16) (hv29 : (p19 - (0 : Int32)) = p28) (hc30 : p24 < p28) (hl31 : (0 : Int32).toNatClampNeg + p24.toNatClampNeg ≤ p19.toNatClampNeg) (hl32 : (0 : Int32).toNatClampNeg + p24.toNatClampNeg ≤ p24.toNatClampNeg) (hl33 : (0 : Int32).toNatClampNeg + p24.toNatClampNeg ≤ ((own_rep p24) : List Value).length) :
    own_MF l (⟨zs6, "<init>", "(Ljava/lang/StringBuilder;)V"⟩ : MethodName) c_33 2 none (own_R 4 1 16 65) #[(.ref a1), (.ref a2)] Z h0 (Q33_59 Z a1 a2 a5 p7 p9 l17 kc18 p19 p24 p28 h0 n0) := by
  refine own_st (L := (lc8 a1 a2)) (own := zs6) (plainFor_of_name pn_2) rfl (fun m => ef_5 m a1 a2) fun p e s m below meth c s₁ Bd hml hZ hh hx hby hown hnm X0 e0 => ?_
  have N0 := Fr.nil n0
  obtain ⟨_, T3, L3, X3, hQ3, st3⟩ := ocallI X0 hx hZ (⟨zs6, "<init>", "(Ljava/lang/AbstractStringBuilder;Ljava/lang/Void;)V"⟩ : MethodName) rfl hown (ww hw 192 rfl) (ww hw 193 rfl) (by decide) (ww hw 194 rfl) (ww hw 8 rfl) e0 (rm34_58 l hw a1 a2 a5 p7 p9 l17 kc18 p19 p24 p28 h0 n0 Z0 F4 F6 F8 F10 hc11 F12 F13 F14 F15 g16 F20 ne21 hc22 hc23 hv25 hc26 hl27 hv29 hc30 hl31 hl32 hl33) (st := [.null, (.ref a2), (.ref a1)]) rfl 0 rfl (by decide) (pc := 3) (Ls := (lc8 a1 a2)) hml rfl (lenOf pd_27 rfl) d33_3 hby
  obtain ⟨b34, k35, rfl, N3q, K3, sz36, f37, f38, f39, f40⟩ := hQ3
  have N41 := Fr.app N0 N3q
  refine own_go (U' := T3.setTop (mkF m 6 (lc8 a1 a2) [])) (fun t k => oaloadN X0 hx hby d33_0 rfl rfl (oaloadN X0 hx hby d33_1 rfl rfl (onull X0 hx hby d33_2 (st3 _ k)))) ?_
  obtain ⟨fs, hr, hrun, hended, hW, hsame⟩ := X3.leave (v := none) (fun _ => rfl)
  refine own_out ⟨_, _, ?_, hrun, hended, _, _, rfl, ?_, ⟨_, rfl⟩, hW, hsame.mono (by decide) (by decide)⟩
  · exact X3.returnOut hx Bd.returns (hb hby d33_6) hr
  · show Q33_59 Z a1 a2 a5 p7 p9 l17 kc18 p19 p24 p28 h0 n0 _ T3.heap _
    exact ⟨b34, k35, rfl, N41, (Keep.trans (Keep.refl h0 [a1]) K3 (allS (Or.inl (List.mem_of_getElem? (i := 0) rfl)) all0)), sz36, f37, f38, f39, f40⟩
def Q32_60 (Z : State) (a1 a8 : Addr) (p11 p14 : Int32) (l21 : List Value) (kc22 : ClassId) (p23 p29 p33 : Int32) (h0 : Heap) (n0 : Nat) (v : Option Value) (h : Heap) (L : List Loc) : Prop := ∃ b2 : Addr, ∃ b39 : Addr, ∃ k40 : ClassId, v = some (.ref b2) ∧ Fr n0 L ∧ Keep h0 h [] ∧ h0.size ≤ b2 ∧ h0.size ≤ b39 ∧ b2 ≠ b39 ∧ Exa Z h b2 zs6 ∧ Fld Z h b2 zs6 "coder" "B" (.int 0) ∧ Fld Z h b2 zs6 "value" "[B" (.ref b39) ∧ Exa Z h b39 "[B" ∧ Arv Z h b39 k40 .byte p29 (own_cp (own_rep p29) (own_us l21 (0 : Int32) p29) (0 : Int32) p29) (.int (0 : Int32))
theorem rm32_60 (l : Launch) {Z : State} {a0 : Array Value} (hw : own_W Z a0) (a1 a8 : Addr) (p11 p14 : Int32) (l21 : List Value) (kc22 : ClassId) (p23 p29 p33 : Int32) (h0 : Heap) (n0 : Nat) (Z0 : n0 ≤ h0.size) (F6 : Exa Z h0 a1 zs26) (F9 : Fld Z h0 a1 zs25 "value" "[B" (.ref a8)) (F12 : Fld Z h0 a1 zs25 "count" "I" (.int p11)) (F15 : Sta Z h0 zs6 zs7 "Z" (.int p14)) (hc17 : ¬ (p14 = (0 : Int32))) (F18 : Fld Z h0 a1 zs25 "coder" "B" (.int 0)) (F24 : Arv Z h0 a8 kc22 .byte p23 l21 (.int (0 : Int32))) (hc27 : ¬ (p11 = p23)) (hc28 : ¬ (p11 < (0 : Int32))) (hv30 : (p11 - (0 : Int32)) = p29) (hc31 : ¬ (p29 < (0 : Int32))) (hl32 : p29.toNatClampNeg ≤ 16) (hv34 : (p23 - (0 : Int32)) = p33) (hc35 : p29 < p33) (hl36 : (0 : Int32).toNatClampNeg + p29.toNatClampNeg ≤ p23.toNatClampNeg) (hl37 : (0 : Int32).toNatClampNeg + p29.toNatClampNeg ≤ p29.toNatClampNeg) (hl38 : (0 : Int32).toNatClampNeg + p29.toNatClampNeg ≤ ((own_rep p29) : List Value).length) :
    own_MF l zm26 c_32 1 (some (.object zs6)) (own_R 5 2 20 79) #[(.ref a1)] Z h0 (Q32_60 Z a1 a8 p11 p14 l21 kc22 p23 p29 p33 h0 n0) := by
  refine own_st (L := (lc23 a1)) (own := zs26) (plainFor_of_name pn_9) rfl (fun m => ef_7 m a1) fun p e s m below meth c s₁ Bd hml hZ hh hx hby hown hnm X0 e0 => ?_
  have N0 := Fr.nil n0
  obtain ⟨T2, h2, X2, e2, E2, A2, D2, -, st2⟩ := newO X0 hx hZ hown (ww hw 188 rfl) (ww hw 7 rfl) (ww hw 8 rfl) e0 (g := (mkF m 0 (lc23 a1) [])) rfl (hb hby d32_0) (by decide) (by decide)
  obtain ⟨b2, g2⟩ : ∃ z, z = h0.size := ⟨_, rfl⟩
  rw [← g2] at A2 D2 st2
  have f3 : Fld Z h2 b2 zs6 "coder" "B" (.int 0) := D2 (Or.inr (ww hw 32 rfl)) (ty := .byte) (by decide)
  have f4 : Fld Z h2 b2 zs6 "value" "[B" .null := D2 (Or.inr (ww hw 34 rfl)) (ty := (.array .byte)) (by decide)
  have f7 : Exa Z h2 a1 zs26 := (Exa.ext E2 F6)
  have f10 : Fld Z h2 a1 zs25 "value" "[B" (.ref a8) := (Fld.ext E2 F9)
  have f13 : Fld Z h2 a1 zs25 "count" "I" (.int p11) := (Fld.ext E2 F12)
  have f16 : Sta Z h2 zs6 zs7 "Z" (.int p14) := (Sta.ext E2 F15)
  have f19 : Fld Z h2 a1 zs25 "coder" "B" (.int 0) := (Fld.ext E2 F18)
  have g20 : n0 ≤ b2 := Nat.le_trans Z0 (Nat.le_of_eq g2.symm)
  have f25 : Arv Z h2 a8 kc22 .byte p23 l21 (.int (0 : Int32)) := (F24.ext E2)
  have ne26 : a8 ≠ b2 := Nat.ne_of_lt (nlt (F24.lt) (Nat.le_of_eq g2.symm))
  have Z_1 : n0 ≤ h2.size := Nat.le_trans Z0 E2.1
  obtain ⟨_, T5, L5, X5, hQ5, st5⟩ := ocallI X2 hx hZ (⟨zs6, "<init>", "(Ljava/lang/StringBuilder;)V"⟩ : MethodName) rfl hown (ww hw 189 rfl) (ww hw 190 rfl) (by decide) (ww hw 191 rfl) (ww hw 8 rfl) e2 (rm33_59 l hw b2 a1 a8 p11 p14 l21 kc22 p23 p29 p33 h2 n0 Z_1 f7 f10 f13 f16 hc17 f19 f3 f4 A2 g20 f25 ne26 hc27 hc28 hv30 hc31 hl32 hv34 hc35 hl36 hl37 hl38) (st := [(.ref a1), (.ref b2), (.ref b2)]) rfl 1 rfl (by decide) (pc := 5) (Ls := (lc23 a1)) hml rfl (lenOf pd_28 rfl) d32_5 hby
  obtain ⟨b39, k40, rfl, N5q, K5, sz41, f42, f43, f44, f45⟩ := hQ5
  have N46 := Fr.app N0 N5q
  refine own_go (U' := T5.setTop (mkF m 8 (lc23 a1) [(.ref b2)])) (fun t k => st2 _ (odup X2 hx hby d32_3 rfl (oaloadN X2 hx hby d32_4 rfl rfl (st5 _ k)))) ?_
  have f47 : Exa Z T5.heap b2 zs6 := (A2.keep K5)
  have ne48 : b2 ≠ b39 := Nat.ne_of_lt (nlt (f3.lt) sz41)
  obtain ⟨fs, hr, hrun, hended, hW, hsame⟩ := X5.leave (v := some (.ref b2)) (fun h => by rw [Bd.returns] at h; cases h)
  refine own_out ⟨_, _, ?_, hrun, hended, _, _, rfl, ?_, ⟨_, rfl⟩, hW, hsame.mono (by decide) (by decide)⟩
  · exact retOut X5 hx Bd.returns rfl (Or.inr (Or.inr (Or.inr (Or.inr ⟨rfl, rfl, rfl⟩)))) (hb hby d32_8) hr
  · show Q32_60 Z a1 a8 p11 p14 l21 kc22 p23 p29 p33 h0 n0 _ T5.heap _
    exact ⟨b2, b39, k40, rfl, N46, (Keep.trans ((Keep.refl h0 []).ext E2) K5 (allS (Or.inr (Nat.le_of_eq g2.symm)) all0)), (Nat.le_of_eq g2.symm), (Nat.le_trans E2.1 sz41), ne48, f47, f42, f43, f44, f45⟩
def Q22_61 (Z : State) (a1 a2 : Addr) (p8 : Int32) (a23 a32 : Addr) (l36 : List Value) (kc37 : ClassId) (p38 p45 p47 p50 p71 p76 p79 : Int32) (a95 a105 : Addr) (l110 : List Value) (kc111 : ClassId) (p112 p120 p122 p124 p127 p146 : Int32) (h0 : Heap) (n0 : Nat) (v : Option Value) (h : Heap) (L : List Loc) : Prop := ∃ b154 : Addr, ∃ b155 : Addr, ∃ k156 : ClassId, v = some (.ref b154) ∧ Fr n0 L ∧ Keep h0 h [] ∧ h0.size ≤ b154 ∧ h0.size ≤ b155 ∧ b154 ≠ b155 ∧ Exa Z h b154 zs6 ∧ Fld Z h b154 zs6 "coder" "B" (.int 0) ∧ Fld Z h b154 zs6 "value" "[B" (.ref b155) ∧ Exa Z h b155 "[B" ∧ Arv Z h b155 k156 .byte p146 (own_cp (own_rep p146) (own_us (own_cp (own_cp (own_cp [(.int 0), (.int 0), (.int 0), (.int 0), (.int 0), (.int 0), (.int 0), (.int 0), (.int 0), (.int 0), (.int 0), (.int 0), (.int 0), (.int 0), (.int 0), (.int 0)] (own_us l36 (0 : Int32) p38) (0 : Int32) p38) (own_us [(.int 32)] (0 : Int32) (1 : Int32)) p79 (1 : Int32)) (own_us l110 (0 : Int32) p112) p127 p112) (0 : Int32) p146) (0 : Int32) p146) (.int (0 : Int32))
theorem rm22_61 (l : Launch) {Z : State} {a0 : Array Value} (hw : own_W Z a0) (a1 a2 : Addr) (p8 : Int32) (a23 a32 : Addr) (l36 : List Value) (kc37 : ClassId) (p38 p45 p47 p50 p71 p76 p79 : Int32) (a95 a105 : Addr) (l110 : List Value) (kc111 : ClassId) (p112 p120 p122 p124 p127 p146 : Int32) (h0 : Heap) (n0 : Nat) (Z0 : n0 ≤ h0.size) (F9 : Sta Z h0 zs6 zs7 "Z" (.int p8)) (hc11 : ¬ (p8 = (0 : Int32))) (F24 : Fld Z h0 a1 zs35 "noun" zs23 (.ref a23)) (F30 : Exa Z h0 a23 zs6) (F33 : Fld Z h0 a23 zs6 "value" "[B" (.ref a32)) (F39 : Arv Z h0 a32 kc37 .byte p38 l36 (.int (0 : Int32))) (F43 : Fld Z h0 a23 zs6 "coder" "B" (.int 0)) (hl54 : (0 : Int32).toNatClampNeg + p38.toNatClampNeg ≤ p38.toNatClampNeg) (hl55 : (0 : Int32).toNatClampNeg + p38.toNatClampNeg ≤ (16 : Int32).toNatClampNeg) (hl56 : (0 : Int32).toNatClampNeg + p38.toNatClampNeg ≤ ([(.int 0), (.int 0), (.int 0), (.int 0), (.int 0), (.int 0), (.int 0), (.int 0), (.int 0), (.int 0), (.int 0), (.int 0), (.int 0), (.int 0), (.int 0), (.int 0)] : List Value).length) (hl82 : (0 : Int32).toNatClampNeg + (1 : Int32).toNatClampNeg ≤ (1 : Int32).toNatClampNeg) (hl83 : p79.toNatClampNeg + (1 : Int32).toNatClampNeg ≤ (16 : Int32).toNatClampNeg) (hl84 : p79.toNatClampNeg + (1 : Int32).toNatClampNeg ≤ ((own_cp [(.int 0), (.int 0), (.int 0), (.int 0), (.int 0), (.int 0), (.int 0), (.int 0), (.int 0), (.int 0), (.int 0), (.int 0), (.int 0), (.int 0), (.int 0), (.int 0)] (own_us l36 (0 : Int32) p38) (0 : Int32) p38) : List Value).length) (F93 : Exa Z h0 a2 zs21) (F96 : Fld Z h0 a2 zs21 "value" zs23 (.ref a95)) (F103 : Exa Z h0 a95 zs6) (F106 : Fld Z h0 a95 zs6 "value" "[B" (.ref a105)) (F113 : Arv Z h0 a105 kc111 .byte p112 l110 (.int (0 : Int32))) (F118 : Fld Z h0 a95 zs6 "coder" "B" (.int 0)) (hl131 : (0 : Int32).toNatClampNeg + p112.toNatClampNeg ≤ p112.toNatClampNeg) (hl132 : p127.toNatClampNeg + p112.toNatClampNeg ≤ (16 : Int32).toNatClampNeg) (hl133 : p127.toNatClampNeg + p112.toNatClampNeg ≤ ((own_cp (own_cp [(.int 0), (.int 0), (.int 0), (.int 0), (.int 0), (.int 0), (.int 0), (.int 0), (.int 0), (.int 0), (.int 0), (.int 0), (.int 0), (.int 0), (.int 0), (.int 0)] (own_us l36 (0 : Int32) p38) (0 : Int32) p38) (own_us [(.int 32)] (0 : Int32) (1 : Int32)) p79 (1 : Int32)) : List Value).length) (hl149 : p146.toNatClampNeg ≤ 16) (hl151 : (0 : Int32).toNatClampNeg + p146.toNatClampNeg ≤ (16 : Int32).toNatClampNeg) (hl152 : (0 : Int32).toNatClampNeg + p146.toNatClampNeg ≤ p146.toNatClampNeg) (hl153 : (0 : Int32).toNatClampNeg + p146.toNatClampNeg ≤ ((own_rep p146) : List Value).length) (hB : (p38 >>> ((0 : Int32) &&& 31)) = p45 ∧ ((0 : Int32) + p45) = p47 ∧ (p47 - (16 : Int32)) = p50 ∧ ¬ ((0 : Int32) < p50) ∧ ¬ (p38 < (0 : Int32)) ∧ (p47 + (1 : Int32)) = p71 ∧ (p71 - (16 : Int32)) = p76 ∧ ¬ ((0 : Int32) < p76) ∧ (p47 <<< ((0 : Int32) &&& 31)) = p79 ∧ ¬ (p79 < (0 : Int32)) ∧ (p112 >>> ((0 : Int32) &&& 31)) = p120 ∧ (p71 + p120) = p122 ∧ (p122 - (16 : Int32)) = p124 ∧ ¬ ((0 : Int32) < p124) ∧ (p71 <<< ((0 : Int32) &&& 31)) = p127 ∧ ¬ (p127 < (0 : Int32)) ∧ ¬ (p112 < (0 : Int32)) ∧ ¬ (p122 = (16 : Int32)) ∧ ¬ (p122 < (0 : Int32)) ∧ (p122 - (0 : Int32)) = p146 ∧ ¬ (p146 < (0 : Int32)) ∧ p146 < (16 : Int32)) :
    MetFree l zm27 (head1 [Jvm.Cond.code zm27 c_22 2 (some (.object zs6))] (own_R 6 6 48 91)) (fun a U => a = #[(.ref a1), (.ref a2)] ∧ Z.Warmed39 U.vm ∧ U.heap = h0 ∧ CHv Z consts_1 U.vm h0 ∧ ∀ x ∈ ([] : List Addr), Safe Z consts_1 U.vm h0 x) (fun _ _ _ _ _ => True) (fun _ U o U' => ∃ v L, o = .returned v ∧ Q22_61 Z a1 a2 p8 a23 a32 l36 kc37 p38 p45 p47 p50 p71 p76 p79 a95 a105 l110 kc111 p112 p120 p122 p124 p127 p146 h0 n0 v U'.heap L ∧ CHr Z consts_1 U.vm U.heap U'.vm U'.heap ∧ ReturnedEndW U o U' L (own_R 6 6 48 91).cells (own_R 6 6 48 91).slots) := by
  refine MetFree.of_bodySF (plainFor_of_name pn_11) hisR ?_
  intro p e s m args below meth c s₁ Bd hml0 hP hK
  obtain ⟨rfl, hZ, hh, hC, hSL⟩ := hP
  have C0 := CHr.refl hC
  have hx := Bd.exec
  have hby := Bd.bytes
  have hml : c.maxLocals = 2 := hml0
  have hown : s.vm.findClass zs35 = some m.cls := findClass_of_methodNamed Bd.named
  have hnm := (name_of_methodNamed Bd.named Bd.method).1
  have X0 : Stand p l e (own_R 6 6 48 91) s m #[(.ref a1), (.ref a2)] below meth c s₁ [] 0 0 := Stand.of_body Bd
  have e0 : s₁.heap = h0 := by rw [← hh, Bd.state]; rfl
  have N0 := Fr.nil n0
  refine own_pre (g' := mkF m 0 (lc8 a1 a2) []) (ef_5 m a1 a2) ?_
  obtain ⟨hv46, hv48, hv51, hc52, hc53, hv72, hv77, hc78, hv80, hc81, hv121, hv123, hv125, hc126, hv128, hc129, hc130, hc144, hc145, hv147, hc148, hc150⟩ := hB
  obtain ⟨T3, h3, X3, e3, E3, A3, D3, -, st3⟩ := newO X0 hx hZ hown (ww hw 119 rfl) (ww hw 120 rfl) (ww hw 121 rfl) e0 (g := (mkF m 0 (lc8 a1 a2) [])) rfl (hb hby d22_0) (by decide) (by decide)
  obtain ⟨b3, g3⟩ : ∃ z, z = h0.size := ⟨_, rfl⟩
  rw [← g3] at A3 D3 st3
  have C1 := C0.trans (CHr.ext E3 C0.1)
  have f4 : Fld Z h3 b3 zs25 "value" "[B" .null := D3 (Or.inl (ww hw 134 rfl)) (ty := (.array .byte)) (by decide)
  have f5 : Fld Z h3 b3 zs25 "coder" "B" (.int 0) := D3 (Or.inl (ww hw 136 rfl)) (ty := .byte) (by decide)
  have f6 : Fld Z h3 b3 zs25 "count" "I" (.int 0) := D3 (Or.inl (ww hw 151 rfl)) (ty := .int) (by decide)
  have f10 : Sta Z h3 zs6 zs7 "Z" (.int p8) := (Sta.ext E3 F9)
  have g12 : n0 ≤ b3 := Nat.le_trans Z0 (Nat.le_of_eq g3.symm)
  have Z_1 : n0 ≤ h3.size := Nat.le_trans Z0 E3.1
  obtain ⟨_, T7, L7, X7, hQ7, st7⟩ := ocallI X3 hx hZ (⟨zs26, "<init>", "()V"⟩ : MethodName) rfl hown (ww hw 122 rfl) (ww hw 123 rfl) (by decide) (ww hw 124 rfl) (ww hw 121 rfl) e3 (rm23_42 l hw b3 p8 0 h3 n0 Z_1 f10 hc11 f4 f5 f6 A3 g12) (st := [(.ref b3), (.ref b3)]) rfl 1 rfl (by decide) (pc := 4) (Ls := (lc8 a1 a2)) hml rfl (lenOf pd_8 rfl) d22_4 hby
  obtain ⟨b13, k14, rfl, N7q, K7, sz15, f16, f17, f18, f19, f20⟩ := hQ7
  have sf21 : Safe Z consts_1 s.vm h3 b3 := Safe.exa hZ.alike A3 (by decide) (by decide)
  have C2 := C1.trans (CHr.keep K7 (allS sf21 all0) C1.1)
  have N22 := Fr.app N0 N7q
  have ne25 : a1 ≠ b3 := Nat.ne_of_lt (nlt (F24.lt) (Nat.le_of_eq g3.symm))
  have f26 : Fld Z T7.heap a1 zs35 "noun" zs23 (.ref a23) := ((Fld.ext E3 F24).keep K7 (ninS ne25 nin0))
  obtain ⟨T27, X27, e27, st27⟩ := getF X7 hx hZ hown (host := "") (Or.inl (ww hw 137 rfl)) Via.refl rfl f26 (g := (mkF m 8 (lc8 a1 a2) [(.ref a1), (.ref b3)])) rfl rfl (hb hby d22_8)
  have f29 : Exa Z T7.heap b3 zs26 := (A3.keep K7)
  have f31 : Exa Z T7.heap a23 zs6 := ((Exa.ext E3 F30).keep K7)
  have ne34 : a23 ≠ b3 := Nat.ne_of_lt (nlt (F33.lt) (Nat.le_of_eq g3.symm))
  have f35 : Fld Z T7.heap a23 zs6 "value" "[B" (.ref a32) := ((Fld.ext E3 F33).keep K7 (ninS ne34 nin0))
  have ne40 : a32 ≠ b3 := Nat.ne_of_lt (nlt (F39.lt) (Nat.le_of_eq g3.symm))
  have f41 : Arv Z T7.heap a32 kc37 .byte p38 l36 (.int (0 : Int32)) := ((F39.ext E3).keep K7 (ninS ne40 nin0))
  have f42 : Sta Z T7.heap zs6 zs7 "Z" (.int p8) := (own_staK f10 K7 (allS (own_nsF f4) all0))
  have f44 : Fld Z T7.heap a23 zs6 "coder" "B" (.int 0) := ((Fld.ext E3 F43).keep K7 (ninS ne34 nin0))
  have f49 : Arv Z T7.heap b13 k14 .byte (16 : Int32) [(.int 0), (.int 0), (.int 0), (.int 0), (.int 0), (.int 0), (.int 0), (.int 0), (.int 0), (.int 0), (.int 0), (.int 0), (.int 0), (.int 0), (.int 0), (.int 0)] (.int (0 : Int32)) := f20.pad (pad_rep [] (.int (0 : Int32)) 16)
  have g57 : n0 ≤ b13 := Nat.le_trans Z_1 sz15
  have ne58 : b3 ≠ b13 := Nat.ne_of_lt (nlt (f4.lt) sz15)
  have Z_2 : n0 ≤ T7.heap.size := Nat.le_trans Z_1 K7.1
  obtain ⟨_, T28, L28, X28, hQ28, st28⟩ := ocallV X27 hx hZ zm21 zm21 hown (ww hw 139 rfl) (ww hw 140 rfl) (notFace_of_selects (args := #[]) (mvT hZ (ww hw 142 rfl))) (ww hw 142 rfl) (ww hw 141 rfl) (by decide) (ww hw 143 rfl) (ww hw 121 rfl) e27 f29 (rm25_48 l hw b3 a23 a32 l36 kc37 p38 p8 p45 0 p47 b13 [(.int 0), (.int 0), (.int 0), (.int 0), (.int 0), (.int 0), (.int 0), (.int 0), (.int 0), (.int 0), (.int 0), (.int 0), (.int 0), (.int 0), (.int 0), (.int 0)] k14 16 16 p50 0 T7.heap n0 Z_2 f31 f35 f41 f42 hc11 f44 hv46 f18 hv48 f16 f49 f17 (by decide) hv51 hc52 f29 (by decide) (by decide) hc53 hl54 hl55 hl56 g57 ne58 g12) (st := [(.ref a23), (.ref b3)]) rfl 0 rfl (by decide) (pc := 11) (Ls := (lc8 a1 a2)) hml rfl (lenOf pd_22 rfl) d22_11 hby
  obtain ⟨rfl, N28q, K28, f59, f60, f61, f62⟩ := hQ28
  have sf63 : Safe Z consts_1 s.vm T7.heap b3 := Safe.exa hZ.alike f29 (by decide) (by decide)
  have sf64 := (Safe.keep K7 (allS sf21 all0) C1.1 (Safe.new sz15))
  have C3 := C2.trans (CHr.keep K28 (allS sf64 (allS sf63 all0)) C2.1)
  have N65 := Fr.app N22 N28q
  obtain ⟨b66, T66, h66, k66, bv66, cl66, X66, e66, E66, hS66, hk66, hZ, hown, f66a, f66b, f66c, f66d, lt66, lv66, CR66, -, ns66, st66⟩ := ldcCH (s := s) (vm0 := s.vm) X28 hx hZ hown (ww hw 177 rfl) (own_wS hw) rfl ((State.WarmedH.refl s).since 0) (Nat.zero_le _) (own_EW hw) (List.mem_of_getElem? (i := 3) rfl) C3.1 (vs := [(.int 32)]) (z := 1) ⟨by decide, by decide⟩ (by decide) (by decide) (g := (mkF m 14 (lc8 a1 a2) [(.ref b3)])) rfl (hb hby d22_14) (n := 4) (by decide) (by decide) (by decide) (by decide)
  have C4 := C3.trans CR66
  have f68 : Exa Z h66 b3 zs26 := (Exa.ext E66 (f29.keep K28))
  have f69 : Sta Z h66 zs6 zs7 "Z" (.int p8) := (Sta.ext E66 (own_staK f42 K28 (allS (own_nsE f19) (allS (own_nsE (A3.keep K7)) all0))))
  have f70 : Fld Z h66 b3 zs25 "count" "I" (.int p47) := (Fld.ext E66 f60)
  have f73 : Fld Z h66 b3 zs25 "value" "[B" (.ref b13) := (Fld.ext E66 f61)
  have f74 : Arv Z h66 b13 k14 .byte (16 : Int32) (own_cp [(.int 0), (.int 0), (.int 0), (.int 0), (.int 0), (.int 0), (.int 0), (.int 0), (.int 0), (.int 0), (.int 0), (.int 0), (.int 0), (.int 0), (.int 0), (.int 0)] (own_us l36 (0 : Int32) p38) (0 : Int32) p38) (.int (0 : Int32)) := (f59.ext E66)
  have f75 : Fld Z h66 b3 zs25 "coder" "B" (.int 0) := (Fld.ext E66 f62)
  have Z_3 : n0 ≤ T28.heap.size := Nat.le_trans Z_2 K28.1
  have Z_4 : n0 ≤ h66.size := Nat.le_trans Z_3 E66.1
  obtain ⟨_, T67, L67, X67, hQ67, st67⟩ := ocallV X66 hx hZ zm21 zm21 hown (ww hw 139 rfl) (ww hw 140 rfl) (notFace_of_selects (args := #[]) (mvT hZ (ww hw 142 rfl))) (ww hw 142 rfl) (ww hw 141 rfl) (by decide) (ww hw 143 rfl) (ww hw 121 rfl) e66 f68 (rm25_48 l hw b3 b66 bv66 [(.int 32)] cl66 1 p8 1 p47 p71 b13 (own_cp [(.int 0), (.int 0), (.int 0), (.int 0), (.int 0), (.int 0), (.int 0), (.int 0), (.int 0), (.int 0), (.int 0), (.int 0), (.int 0), (.int 0), (.int 0), (.int 0)] (own_us l36 (0 : Int32) p38) (0 : Int32) p38) k14 16 16 p76 p79 h66 n0 Z_4 f66a f66c f66d f69 hc11 f66b (by decide) f70 hv72 f73 f74 f75 (by decide) hv77 hc78 f68 hv80 hc81 (by decide) hl82 hl83 hl84 g57 ne58 g12) (st := [(.ref b66), (.ref b3)]) rfl 0 rfl (by decide) (pc := 16) (Ls := (lc8 a1 a2)) hml rfl (lenOf pd_22 rfl) d22_16 hby
  obtain ⟨rfl, N67q, K67, f85, f86, f87, f88⟩ := hQ67
  have sf89 : Safe Z consts_1 T66.vm h66 b3 := Safe.exa hZ.alike f68 (by decide) (by decide)
  have sf90 := (CR66.safe (nlt (f19.lt) K28.1) (Safe.keep K28 (allS sf64 (allS sf63 all0)) C2.1 sf64))
  have C5 := C4.trans (CHr.keep K67 (allS sf90 (allS sf89 all0)) C4.1)
  have N91 := Fr.app N65 N67q
  have f94 : Exa Z T67.heap a2 zs21 := ((Exa.ext E66 (((Exa.ext E3 F93).keep K7).keep K28)).keep K67)
  have ne97 : a2 ≠ b3 := Nat.ne_of_lt (nlt (F96.lt) (Nat.le_of_eq g3.symm))
  have ne98 : a2 ≠ b13 := Nat.ne_of_lt (nlt (nlt (F96.lt) E3.1) sz15)
  have f99 : Fld Z T67.heap a2 zs21 "value" zs23 (.ref a95) := ((Fld.ext E66 (((Fld.ext E3 F96).keep K7 (ninS ne97 nin0)).keep K28 (ninS ne98 (ninS ne97 nin0)))).keep K67 (ninS ne98 (ninS ne97 nin0)))
  have Z_5 : n0 ≤ T67.heap.size := Nat.le_trans Z_4 K67.1
  obtain ⟨_, T92, L92, X92, hQ92, st92⟩ := ocallV X67 hx hZ zm22 zm22 hown (ww hw 178 rfl) (ww hw 179 rfl) (notFace_of_selects (args := #[]) (mvT hZ (ww hw 181 rfl))) (ww hw 181 rfl) (ww hw 180 rfl) (by decide) (ww hw 182 rfl) (ww hw 51 rfl) rfl f94 (rm31_49 l hw a2 a95 T67.heap n0 Z_5 f99) (st := [(.ref a2), (.ref b3)]) rfl 1 rfl (by decide) (pc := 20) (Ls := (lc8 a1 a2)) hml rfl (lenOf pd_23 rfl) d22_20 hby
  obtain ⟨rfl, N92q, e92⟩ := hQ92
  have N100 := Fr.app N91 N92q
  have f102 : Exa Z T67.heap b3 zs26 := (f68.keep K67)
  have f104 : Exa Z T67.heap a95 zs6 := ((Exa.ext E66 (((Exa.ext E3 F103).keep K7).keep K28)).keep K67)
  have ne107 : a95 ≠ b3 := Nat.ne_of_lt (nlt (F106.lt) (Nat.le_of_eq g3.symm))
  have ne108 : a95 ≠ b13 := Nat.ne_of_lt (nlt (nlt (F106.lt) E3.1) sz15)
  have f109 : Fld Z T67.heap a95 zs6 "value" "[B" (.ref a105) := ((Fld.ext E66 (((Fld.ext E3 F106).keep K7 (ninS ne107 nin0)).keep K28 (ninS ne108 (ninS ne107 nin0)))).keep K67 (ninS ne108 (ninS ne107 nin0)))
  have ne114 : a105 ≠ b3 := Nat.ne_of_lt (nlt (F113.lt) (Nat.le_of_eq g3.symm))
  have ne115 : a105 ≠ b13 := Nat.ne_of_lt (nlt (nlt (F113.lt) E3.1) sz15)
  have f116 : Arv Z T67.heap a105 kc111 .byte p112 l110 (.int (0 : Int32)) := (((((F113.ext E3).keep K7 (ninS ne114 nin0)).keep K28 (ninS ne115 (ninS ne114 nin0))).ext E66).keep K67 (ninS ne115 (ninS ne114 nin0)))
  have f117 : Sta Z T67.heap zs6 zs7 "Z" (.int p8) := (own_staK f69 K67 (allS (own_nsE (Exa.ext E66 (f19.keep K28))) (allS (own_nsE (Exa.ext E66 ((A3.keep K7).keep K28))) all0)))
  have f119 : Fld Z T67.heap a95 zs6 "coder" "B" (.int 0) := ((Fld.ext E66 (((Fld.ext E3 F118).keep K7 (ninS ne107 nin0)).keep K28 (ninS ne108 (ninS ne107 nin0)))).keep K67 (ninS ne108 (ninS ne107 nin0)))
  obtain ⟨_, T101, L101, X101, hQ101, st101⟩ := ocallV X92 hx hZ zm21 zm21 hown (ww hw 139 rfl) (ww hw 140 rfl) (notFace_of_selects (args := #[]) (mvT hZ (ww hw 142 rfl))) (ww hw 142 rfl) (ww hw 141 rfl) (by decide) (ww hw 143 rfl) (ww hw 121 rfl) e92 f102 (rm25_48 l hw b3 a95 a105 l110 kc111 p112 p8 p120 p71 p122 b13 (own_cp (own_cp [(.int 0), (.int 0), (.int 0), (.int 0), (.int 0), (.int 0), (.int 0), (.int 0), (.int 0), (.int 0), (.int 0), (.int 0), (.int 0), (.int 0), (.int 0), (.int 0)] (own_us l36 (0 : Int32) p38) (0 : Int32) p38) (own_us [(.int 32)] (0 : Int32) (1 : Int32)) p79 (1 : Int32)) k14 16 16 p124 p127 T67.heap n0 Z_5 f104 f109 f116 f117 hc11 f119 hv121 f86 hv123 f87 f85 f88 (by decide) hv125 hc126 f102 hv128 hc129 hc130 hl131 hl132 hl133 g57 ne58 g12) (st := [(.ref a95), (.ref b3)]) rfl 0 rfl (by decide) (pc := 23) (Ls := (lc8 a1 a2)) hml rfl (lenOf pd_22 rfl) d22_23 hby
  obtain ⟨rfl, N101q, K101, f134, f135, f136, f137⟩ := hQ101
  have sf138 : Safe Z consts_1 T66.vm T67.heap b3 := Safe.exa hZ.alike f102 (by decide) (by decide)
  have sf139 := (Safe.keep K67 (allS sf90 (allS sf89 all0)) C4.1 sf90)
  have C6 := C5.trans (CHr.keep K101 (allS sf139 (allS sf138 all0)) C5.1)
  have N140 := Fr.app N100 N101q
  have f142 : Exa Z T101.heap b3 zs26 := (f102.keep K101)
  have f143 : Sta Z T101.heap zs6 zs7 "Z" (.int p8) := (own_staK f117 K101 (allS (own_nsE ((Exa.ext E66 (f19.keep K28)).keep K67)) (allS (own_nsE ((Exa.ext E66 ((A3.keep K7).keep K28)).keep K67)) all0)))
  have Z_6 : n0 ≤ T101.heap.size := Nat.le_trans Z_5 K101.1
  obtain ⟨_, T141, L141, X141, hQ141, st141⟩ := ocallV X101 hx hZ zm26 zm26 hown (ww hw 183 rfl) (ww hw 184 rfl) (notFace_of_selects (args := #[]) (mvT hZ (ww hw 186 rfl))) (ww hw 186 rfl) (ww hw 185 rfl) (by decide) (ww hw 187 rfl) (ww hw 121 rfl) rfl f142 (rm32_60 l hw b3 b13 p122 p8 (own_cp (own_cp (own_cp [(.int 0), (.int 0), (.int 0), (.int 0), (.int 0), (.int 0), (.int 0), (.int 0), (.int 0), (.int 0), (.int 0), (.int 0), (.int 0), (.int 0), (.int 0), (.int 0)] (own_us l36 (0 : Int32) p38) (0 : Int32) p38) (own_us [(.int 32)] (0 : Int32) (1 : Int32)) p79 (1 : Int32)) (own_us l110 (0 : Int32) p112) p127 p112) k14 16 p146 16 T101.heap n0 Z_6 f142 f136 f135 f143 hc11 f137 f134 hc144 hc145 hv147 hc148 hl149 (by decide) hc150 hl151 hl152 hl153) (st := [(.ref b3)]) rfl 0 rfl (by decide) (pc := 26) (Ls := (lc8 a1 a2)) hml rfl (lenOf pd_23 rfl) d22_26 hby
  obtain ⟨b154, b155, k156, rfl, N141q, K141, sz157, sz158, ne159, f160, f161, f162, f163, f164⟩ := hQ141
  have C7 := C6.trans (CHr.keep K141 all0 C6.1)
  have N165 := Fr.app N140 N141q
  refine own_go (U' := T141.setTop (mkF m 29 (lc8 a1 a2) [(.ref b154)])) (fun t k => st3 _ (odup X3 hx hby d22_3 rfl (st7 _ (oaloadN X7 hx hby d22_7 rfl rfl (st27 _ (st28 _ (st66 _ (st67 _ (oaloadN X67 hx hby d22_19 rfl rfl (st92 _ (st101 _ (st141 _ k)))))))))))) ?_
  obtain ⟨fs, hr, hrun, hended, hW, hsame⟩ := X141.leave (v := some (.ref b154)) (fun h => by rw [Bd.returns] at h; cases h)
  have hE := hS66.ended hW (Nat.le_trans (Nat.le_trans (Nat.le_trans hk66 K67.1) K101.1) K141.1) hsame
  refine own_out ⟨_, _, ?_, hrun, hended, _, _, rfl, ?_, ?_, ⟨_, rfl⟩, hE.1, hE.2.1, hE.2.2.mono (by decide) (by decide)⟩
  · exact retOut X141 hx Bd.returns rfl (Or.inr (Or.inr (Or.inr (Or.inr ⟨rfl, rfl, rfl⟩)))) (hb hby d22_29) hr
  · show Q22_61 Z a1 a2 p8 a23 a32 l36 kc37 p38 p45 p47 p50 p71 p76 p79 a95 a105 l110 kc111 p112 p120 p122 p124 p127 p146 h0 n0 _ T141.heap _
    exact ⟨b154, b155, k156, rfl, N165, (Keep.trans (Keep.trans (Keep.trans ((Keep.trans (Keep.trans ((Keep.refl h0 []).ext E3) K7 (allS (Or.inr (Nat.le_of_eq g3.symm)) all0)) K28 (allS (Or.inr (Nat.le_trans E3.1 sz15)) (allS (Or.inr (Nat.le_of_eq g3.symm)) all0))).ext E66) K67 (allS (Or.inr (Nat.le_trans E3.1 sz15)) (allS (Or.inr (Nat.le_of_eq g3.symm)) all0))) K101 (allS (Or.inr (Nat.le_trans E3.1 sz15)) (allS (Or.inr (Nat.le_of_eq g3.symm)) all0))) K141 all0), (Nat.le_trans E3.1 (Nat.le_trans K7.1 (Nat.le_trans K28.1 (Nat.le_trans E66.1 (Nat.le_trans K67.1 (Nat.le_trans K101.1 sz157)))))), (Nat.le_trans E3.1 (Nat.le_trans K7.1 (Nat.le_trans K28.1 (Nat.le_trans E66.1 (Nat.le_trans K67.1 (Nat.le_trans K101.1 sz158)))))), ne159, f160, f161, f162, f163, f164⟩
  · show CHr Z consts_1 s.vm s.heap T141.vm T141.heap; rw [hh]; exact C7.trans (CHv.at (s := s) X141 hZ (own_EW hw) C7.1)
def Q16_62 (Z : State) (a1 : Addr) (p2 p5 : Int32) (a10 : Addr) (p15 : Int32) (vy0 : Value) (p21 : Int32) (h0 : Heap) (n0 : Nat) (v : Option Value) (h : Heap) (L : List Loc) : Prop := v = some (.int p21) ∧ Fr n0 L ∧ h = h0
theorem rm16_62 (l : Launch) {Z : State} {a0 : Array Value} (hw : own_W Z a0) (a1 : Addr) (p2 p5 : Int32) (a10 : Addr) (p15 : Int32) (vy0 : Value) (p21 : Int32) (h0 : Heap) (n0 : Nat) (Z0 : n0 ≤ h0.size) (F4 : Exa Z h0 a1 zs6) (F6 : Sta Z h0 zs6 zs7 "Z" (.int p5)) (hc7 : ¬ (p5 = (0 : Int32))) (F8 : Fld Z h0 a1 zs6 "coder" "B" (.int 0)) (F11 : Fld Z h0 a1 zs6 "value" "[B" (.ref a10)) (F14 : own_Ln Z h0 a10 p15) (F16 : Sta Z h0 zs16 zs19 zs20 vy0) (hc17 : ¬ (p2 < (0 : Int32))) (hc18 : p2 < p15) (hc19 : vy0.isRef = true) (F20 : own_El Z h0 a10 p2 p21) (hc22 : ¬ (p21 < (0 : Int32))) (hc23 : p21 < (128 : Int32)) (hc24 : p21 < (65536 : Int32)) :
    own_MF l zm17 c_16 2 (some .char) (own_R 3 0 0 40) #[(.ref a1), (.int p2)] Z h0 (Q16_62 Z a1 p2 p5 a10 p15 vy0 p21 h0 n0) := by
  refine own_st (L := (lc17 a1 p2)) (own := zs6) (plainFor_of_name pn_2) rfl (fun m => ef_3 m a1 p2) fun p e s m below meth c s₁ Bd hml hZ hh hx hby hown hnm X0 e0 => ?_
  have N0 := Fr.nil n0
  obtain ⟨_, T3, L3, X3, hQ3, st3⟩ := ocallV X0 hx hZ zm13 zm13 hown (ww hw 86 rfl) (ww hw 87 rfl) (notFace_of_selects (args := #[]) (mvT hZ (ww hw 89 rfl))) (ww hw 89 rfl) (ww hw 88 rfl) (by decide) (ww hw 90 rfl) (ww hw 8 rfl) e0 F4 (rm17_25 l hw a1 p5 h0 n0 Z0 F6 hc7 F8) (st := [(.ref a1)]) rfl 0 rfl (by decide) (pc := 1) (Ls := (lc17 a1 p2)) hml rfl (lenOf pd_10 rfl) d16_1 hby
  obtain ⟨rfl, N3q, e3⟩ := hQ3
  have N9 := Fr.app N0 N3q
  refine own_go (U' := T3.setTop (mkF m 4 (lc17 a1 p2) [(.int 1)])) (fun t k => oaloadN X0 hx hby d16_0 rfl rfl (st3 _ k)) ?_
  obtain ⟨T12, X12, e12, st12⟩ := getF X3 hx hZ hown (host := "") (Or.inl (ww hw 33 rfl)) Via.refl e3 F11 (g := (mkF m 8 (lc17 a1 p2) [(.ref a1)])) rfl rfl (hb hby d16_8)
  obtain ⟨_, T13, L13, X13, hQ13, st13⟩ := ocallS X12 hx hZ zm16 hown (ww hw 91 rfl) (ww hw 92 rfl) (by decide) (ww hw 93 rfl) (ww hw 46 rfl) e12 (rm18_31 l hw a10 p2 p15 vy0 p21 h0 n0 Z0 F14 F16 hc17 hc18 hc19 F20 hc22 hc23 hc24) (st := [(.int p2), (.ref a10)]) rfl 0 rfl (by decide) (pc := 12) (Ls := (lc17 a1 p2)) hml rfl (lenOf pd_15 rfl) d16_12 hby
  obtain ⟨rfl, N13q, e13⟩ := hQ13
  have N25 := Fr.app N9 N13q
  refine own_go (U' := T13.setTop (mkF m 15 (lc17 a1 p2) [(.int p21)])) (fun t k => oifN X3 hx hby d16_4 (by decide) (oaloadN X3 hx hby d16_7 rfl rfl (st12 _ (oiloadN X12 hx hby d16_11 rfl (st13 _ k))))) ?_
  obtain ⟨fs, hr, hrun, hended, hW, hsame⟩ := X13.leave (v := some (.int p21)) (fun h => by rw [Bd.returns] at h; cases h)
  refine own_out ⟨_, _, ?_, hrun, hended, _, _, rfl, ?_, ⟨_, rfl⟩, hW, hsame.mono (by decide) (by decide)⟩
  · exact retOut X13 hx Bd.returns (show narrow .char (.int p21) = _ from congrArg Value.int (own_i2c hc22 hc24)) (Or.inl ⟨rfl, Or.inr (Or.inr (Or.inr (Or.inl rfl))), _, rfl⟩) (hb hby d16_15) hr
  · show Q16_62 Z a1 p2 p5 a10 p15 vy0 p21 h0 n0 _ T13.heap _
    rw [e13]
    exact ⟨rfl, N25, rfl⟩
def Q43_63 (Z : State) (a1 : Addr) (p2 : Int32) (a3 : Addr) (p4 : Int32) (a7 : Addr) (p10 p11 p15 p19 : Int32) (a24 : Addr) (p27 : Int32) (vy0 : Value) (p33 p42 : Int32) (h0 : Heap) (n0 : Nat) (v : Option Value) (h : Heap) (L : List Loc) : Prop := v = some (.int 1) ∧ Fr n0 L ∧ h = h0
theorem rm43_63 (l : Launch) {Z : State} {a0 : Array Value} (hw : own_W Z a0) (a1 : Addr) (p2 : Int32) (a3 : Addr) (p4 : Int32) (a7 : Addr) (p10 p11 p15 p19 : Int32) (a24 : Addr) (p27 : Int32) (vy0 : Value) (p33 p42 : Int32) (h0 : Heap) (n0 : Nat) (Z0 : n0 ≤ h0.size) (F6 : Exa Z h0 a3 zs6) (F8 : Fld Z h0 a3 zs6 "value" "[B" (.ref a7)) (F9 : own_Ln Z h0 a7 p10) (F12 : Sta Z h0 zs6 zs7 "Z" (.int p11)) (hc13 : ¬ (p11 = (0 : Int32))) (F14 : Fld Z h0 a3 zs6 "coder" "B" (.int 0)) (F22 : Exa Z h0 a1 zs6) (F23 : Fld Z h0 a1 zs6 "coder" "B" (.int 0)) (F25 : Fld Z h0 a1 zs6 "value" "[B" (.ref a24)) (F26 : own_Ln Z h0 a24 p27) (F28 : Sta Z h0 zs16 zs19 zs20 vy0) (hc31 : vy0.isRef = true) (F32 : own_El Z h0 a24 p19 p33) (F41 : own_El Z h0 a7 p4 p42) (hB : (p10 >>> ((0 : Int32) &&& 31)) = p15 ∧ p4 < p15 ∧ (p2 + p4) = p19 ∧ ¬ (p19 < (0 : Int32)) ∧ p19 < p27 ∧ ¬ (p33 < (0 : Int32)) ∧ p33 < (128 : Int32) ∧ p33 < (65536 : Int32) ∧ ¬ (p4 < (0 : Int32)) ∧ p4 < p10 ∧ ¬ (p42 < (0 : Int32)) ∧ p42 < (128 : Int32) ∧ p42 < (65536 : Int32) ∧ p33 = p42) :
    own_MF l zm28 c_43 4 (some .boolean) (own_R 4 0 0 54) #[(.ref a1), (.int p2), (.ref a3), (.int p4)] Z h0 (Q43_63 Z a1 p2 a3 p4 a7 p10 p11 p15 p19 a24 p27 vy0 p33 p42 h0 n0) := by
  refine own_st (L := (lc43 a1 p2 a3 p4)) (own := zs0) (plainFor_of_name pn_0) rfl (fun m => ef_19 m a1 p2 a3 p4) fun p e s m below meth c s₁ Bd hml hZ hh hx hby hown hnm X0 e0 => ?_
  have N0 := Fr.nil n0
  obtain ⟨hv16, hc18, hv20, hc29, hc30, hc34, hc35, hc36, hc39, hc40, hc43, hc44, hc45, hc47⟩ := hB
  obtain ⟨_, T5, L5, X5, hQ5, st5⟩ := ocallV X0 hx hZ zm12 zm12 hown (ww hw 228 rfl) (ww hw 72 rfl) (notFace_of_selects (args := #[]) (mvT hZ (ww hw 74 rfl))) (ww hw 74 rfl) (ww hw 73 rfl) (by decide) (ww hw 75 rfl) (ww hw 8 rfl) e0 F6 (rm14_24 l hw a3 a7 p10 p11 p15 h0 n0 Z0 F8 F9 F6 F12 hc13 F14 hv16) (st := [(.ref a3), (.int p4)]) rfl 1 rfl (by decide) (pc := 2) (Ls := (lc43 a1 p2 a3 p4)) hml rfl (lenOf pd_12 rfl) d43_2 hby
  obtain ⟨rfl, N5q, e5⟩ := hQ5
  have N17 := Fr.app N0 N5q
  refine own_go (U' := T5.setTop (mkF m 5 (lc43 a1 p2 a3 p4) [(.int p15), (.int p4)])) (fun t k => oiloadN X0 hx hby d43_0 rfl (oaloadN X0 hx hby d43_1 rfl rfl (st5 _ k))) ?_
  refine own_go (U' := T5.setTop (mkF m 12 (lc43 a1 p2 a3 p4) [(.int (p2 + p4)), (.ref a1)])) (fun t k => oicN X5 hx hby d43_5 (tlt hc18).2.1 (oaloadN X5 hx hby d43_8 rfl rfl (oiloadN X5 hx hby d43_9 rfl (oiloadN X5 hx hby d43_10 rfl (oiadd X5 hx hby d43_11 k))))) ?_
  rw [hv20]
  obtain ⟨_, T21, L21, X21, hQ21, st21⟩ := ocallV X5 hx hZ zm17 zm17 hown (ww hw 232 rfl) (ww hw 82 rfl) (notFace_of_selects (args := #[]) (mvT hZ (ww hw 84 rfl))) (ww hw 84 rfl) (ww hw 83 rfl) (by decide) (ww hw 85 rfl) (ww hw 8 rfl) e5 F22 (rm16_62 l hw a1 p19 p11 a24 p27 vy0 p33 h0 n0 Z0 F22 F12 hc13 F23 F25 F26 F28 hc29 hc30 hc31 F32 hc34 hc35 hc36) (st := [(.int p19), (.ref a1)]) rfl 0 rfl (by decide) (pc := 12) (Ls := (lc43 a1 p2 a3 p4)) hml rfl (lenOf pd_0 rfl) d43_12 hby
  obtain ⟨rfl, N21q, e21⟩ := hQ21
  have N37 := Fr.app N17 N21q
  obtain ⟨_, T38, L38, X38, hQ38, st38⟩ := ocallV X21 hx hZ zm17 zm17 hown (ww hw 232 rfl) (ww hw 82 rfl) (notFace_of_selects (args := #[]) (mvT hZ (ww hw 84 rfl))) (ww hw 84 rfl) (ww hw 83 rfl) (by decide) (ww hw 85 rfl) (ww hw 8 rfl) e21 F6 (rm16_62 l hw a3 p4 p11 a7 p10 vy0 p42 h0 n0 Z0 F6 F12 hc13 F14 F8 F9 F28 hc39 hc40 hc31 F41 hc43 hc44 hc45) (st := [(.int p4), (.ref a3), (.int p33)]) rfl 1 rfl (by decide) (pc := 17) (Ls := (lc43 a1 p2 a3 p4)) hml rfl (lenOf pd_0 rfl) d43_17 hby
  obtain ⟨rfl, N38q, e38⟩ := hQ38
  have N46 := Fr.app N37 N38q
  refine own_go (U' := T38.setTop (mkF m 20 (lc43 a1 p2 a3 p4) [(.int p42), (.int p33)])) (fun t k => st21 _ (oaloadN X21 hx hby d43_15 rfl rfl (oiloadN X21 hx hby d43_16 rfl (st38 _ k)))) ?_
  refine own_go (U' := T38.setTop (mkF m 28 (lc43 a1 p2 a3 p4) [(.int 1)])) (fun t k => oicN X38 hx hby d43_20 (teq hc47).2 (oiconst X38 hx hby d43_23 (ogoto (pc := 24) X38 hx hby d43_24 28 (by decide) k))) ?_
  obtain ⟨fs, hr, hrun, hended, hW, hsame⟩ := X38.leave (v := some (.int 1)) (fun h => by rw [Bd.returns] at h; cases h)
  refine own_out ⟨_, _, ?_, hrun, hended, _, _, rfl, ?_, ⟨_, rfl⟩, hW, hsame.mono (by decide) (by decide)⟩
  · exact retN X38 hx (t := .boolean) Bd.returns (by simp) (hb hby d43_28) hr
  · show Q43_63 Z a1 p2 a3 p4 a7 p10 p11 p15 p19 a24 p27 vy0 p33 p42 h0 n0 _ T38.heap _
    rw [e38]
    exact ⟨rfl, N46, rfl⟩
def Q43_64 (Z : State) (a1 : Addr) (p2 : Int32) (a3 : Addr) (p4 : Int32) (a7 : Addr) (p10 p11 p15 : Int32) (h0 : Heap) (n0 : Nat) (v : Option Value) (h : Heap) (L : List Loc) : Prop := v = some (.int 1) ∧ Fr n0 L ∧ h = h0
theorem rm43_64 (l : Launch) {Z : State} {a0 : Array Value} (hw : own_W Z a0) (a1 : Addr) (p2 : Int32) (a3 : Addr) (p4 : Int32) (a7 : Addr) (p10 p11 p15 : Int32) (h0 : Heap) (n0 : Nat) (Z0 : n0 ≤ h0.size) (F6 : Exa Z h0 a3 zs6) (F8 : Fld Z h0 a3 zs6 "value" "[B" (.ref a7)) (F9 : own_Ln Z h0 a7 p10) (F12 : Sta Z h0 zs6 zs7 "Z" (.int p11)) (hc13 : ¬ (p11 = (0 : Int32))) (F14 : Fld Z h0 a3 zs6 "coder" "B" (.int 0)) (hB : (p10 >>> ((0 : Int32) &&& 31)) = p15 ∧ ¬ (p4 < p15)) :
    own_MF l zm28 c_43 4 (some .boolean) (own_R 2 0 0 26) #[(.ref a1), (.int p2), (.ref a3), (.int p4)] Z h0 (Q43_64 Z a1 p2 a3 p4 a7 p10 p11 p15 h0 n0) := by
  refine own_st (L := (lc43 a1 p2 a3 p4)) (own := zs0) (plainFor_of_name pn_0) rfl (fun m => ef_19 m a1 p2 a3 p4) fun p e s m below meth c s₁ Bd hml hZ hh hx hby hown hnm X0 e0 => ?_
  have N0 := Fr.nil n0
  obtain ⟨hv16, hc18⟩ := hB
  obtain ⟨_, T5, L5, X5, hQ5, st5⟩ := ocallV X0 hx hZ zm12 zm12 hown (ww hw 228 rfl) (ww hw 72 rfl) (notFace_of_selects (args := #[]) (mvT hZ (ww hw 74 rfl))) (ww hw 74 rfl) (ww hw 73 rfl) (by decide) (ww hw 75 rfl) (ww hw 8 rfl) e0 F6 (rm14_24 l hw a3 a7 p10 p11 p15 h0 n0 Z0 F8 F9 F6 F12 hc13 F14 hv16) (st := [(.ref a3), (.int p4)]) rfl 1 rfl (by decide) (pc := 2) (Ls := (lc43 a1 p2 a3 p4)) hml rfl (lenOf pd_12 rfl) d43_2 hby
  obtain ⟨rfl, N5q, e5⟩ := hQ5
  have N17 := Fr.app N0 N5q
  refine own_go (U' := T5.setTop (mkF m 5 (lc43 a1 p2 a3 p4) [(.int p15), (.int p4)])) (fun t k => oiloadN X0 hx hby d43_0 rfl (oaloadN X0 hx hby d43_1 rfl rfl (st5 _ k))) ?_
  refine own_go (U' := T5.setTop (mkF m 28 (lc43 a1 p2 a3 p4) [(.int 1)])) (fun t k => oicY (pc := 5) X5 hx hby d43_5 23 (flt hc18).2.1 (by decide) (oiconst X5 hx hby d43_23 (ogoto (pc := 24) X5 hx hby d43_24 28 (by decide) k))) ?_
  obtain ⟨fs, hr, hrun, hended, hW, hsame⟩ := X5.leave (v := some (.int 1)) (fun h => by rw [Bd.returns] at h; cases h)
  refine own_out ⟨_, _, ?_, hrun, hended, _, _, rfl, ?_, ⟨_, rfl⟩, hW, hsame.mono (by decide) (by decide)⟩
  · exact retN X5 hx (t := .boolean) Bd.returns (by simp) (hb hby d43_28) hr
  · show Q43_64 Z a1 p2 a3 p4 a7 p10 p11 p15 h0 n0 _ T5.heap _
    rw [e5]
    exact ⟨rfl, N17, rfl⟩
def Q16_65 (Z : State) (a1 : Addr) (p2 p5 : Int32) (a10 : Addr) (p15 : Int32) (vy0 : Value) (p21 : Int32) (h0 : Heap) (n0 : Nat) (v : Option Value) (h : Heap) (L : List Loc) : Prop := v = some (.int p21) ∧ Fr n0 L ∧ h = h0
theorem rm16_65 (l : Launch) {Z : State} {a0 : Array Value} (hw : own_W Z a0) (a1 : Addr) (p2 p5 : Int32) (a10 : Addr) (p15 : Int32) (vy0 : Value) (p21 : Int32) (h0 : Heap) (n0 : Nat) (Z0 : n0 ≤ h0.size) (F4 : Exa Z h0 a1 zs6) (F6 : Sta Z h0 zs6 zs7 "Z" (.int p5)) (hc7 : ¬ (p5 = (0 : Int32))) (F8 : Fld Z h0 a1 zs6 "coder" "B" (.int 0)) (F11 : Fld Z h0 a1 zs6 "value" "[B" (.ref a10)) (F14 : own_Ln Z h0 a10 p15) (F16 : Sta Z h0 zs16 zs19 zs20 vy0) (hc19 : vy0.isRef = true) (F20 : own_El Z h0 a10 p2 p21) (hB : ¬ (p2 < (0 : Int32)) ∧ p2 < p15 ∧ ¬ (p21 < (0 : Int32)) ∧ p21 < (128 : Int32) ∧ p21 < (65536 : Int32)) :
    own_MF l zm17 c_16 2 (some .char) (own_R 3 0 0 40) #[(.ref a1), (.int p2)] Z h0 (Q16_65 Z a1 p2 p5 a10 p15 vy0 p21 h0 n0) := by
  refine own_st (L := (lc17 a1 p2)) (own := zs6) (plainFor_of_name pn_2) rfl (fun m => ef_3 m a1 p2) fun p e s m below meth c s₁ Bd hml hZ hh hx hby hown hnm X0 e0 => ?_
  have N0 := Fr.nil n0
  obtain ⟨hc17, hc18, hc22, hc23, hc24⟩ := hB
  obtain ⟨_, T3, L3, X3, hQ3, st3⟩ := ocallV X0 hx hZ zm13 zm13 hown (ww hw 86 rfl) (ww hw 87 rfl) (notFace_of_selects (args := #[]) (mvT hZ (ww hw 89 rfl))) (ww hw 89 rfl) (ww hw 88 rfl) (by decide) (ww hw 90 rfl) (ww hw 8 rfl) e0 F4 (rm17_25 l hw a1 p5 h0 n0 Z0 F6 hc7 F8) (st := [(.ref a1)]) rfl 0 rfl (by decide) (pc := 1) (Ls := (lc17 a1 p2)) hml rfl (lenOf pd_10 rfl) d16_1 hby
  obtain ⟨rfl, N3q, e3⟩ := hQ3
  have N9 := Fr.app N0 N3q
  refine own_go (U' := T3.setTop (mkF m 4 (lc17 a1 p2) [(.int 1)])) (fun t k => oaloadN X0 hx hby d16_0 rfl rfl (st3 _ k)) ?_
  obtain ⟨T12, X12, e12, st12⟩ := getF X3 hx hZ hown (host := "") (Or.inl (ww hw 33 rfl)) Via.refl e3 F11 (g := (mkF m 8 (lc17 a1 p2) [(.ref a1)])) rfl rfl (hb hby d16_8)
  obtain ⟨_, T13, L13, X13, hQ13, st13⟩ := ocallS X12 hx hZ zm16 hown (ww hw 91 rfl) (ww hw 92 rfl) (by decide) (ww hw 93 rfl) (ww hw 46 rfl) e12 (rm18_31 l hw a10 p2 p15 vy0 p21 h0 n0 Z0 F14 F16 hc17 hc18 hc19 F20 hc22 hc23 hc24) (st := [(.int p2), (.ref a10)]) rfl 0 rfl (by decide) (pc := 12) (Ls := (lc17 a1 p2)) hml rfl (lenOf pd_15 rfl) d16_12 hby
  obtain ⟨rfl, N13q, e13⟩ := hQ13
  have N25 := Fr.app N9 N13q
  refine own_go (U' := T13.setTop (mkF m 15 (lc17 a1 p2) [(.int p21)])) (fun t k => oifN X3 hx hby d16_4 (by decide) (oaloadN X3 hx hby d16_7 rfl rfl (st12 _ (oiloadN X12 hx hby d16_11 rfl (st13 _ k))))) ?_
  obtain ⟨fs, hr, hrun, hended, hW, hsame⟩ := X13.leave (v := some (.int p21)) (fun h => by rw [Bd.returns] at h; cases h)
  refine own_out ⟨_, _, ?_, hrun, hended, _, _, rfl, ?_, ⟨_, rfl⟩, hW, hsame.mono (by decide) (by decide)⟩
  · exact retOut X13 hx Bd.returns (show narrow .char (.int p21) = _ from congrArg Value.int (own_i2c hc22 hc24)) (Or.inl ⟨rfl, Or.inr (Or.inr (Or.inr (Or.inl rfl))), _, rfl⟩) (hb hby d16_15) hr
  · show Q16_65 Z a1 p2 p5 a10 p15 vy0 p21 h0 n0 _ T13.heap _
    rw [e13]
    exact ⟨rfl, N25, rfl⟩
def Q43_66 (Z : State) (a1 : Addr) (p2 : Int32) (a3 : Addr) (p4 : Int32) (a7 : Addr) (p10 p11 p15 p19 : Int32) (a24 : Addr) (p27 : Int32) (vy0 : Value) (p33 p42 : Int32) (h0 : Heap) (n0 : Nat) (v : Option Value) (h : Heap) (L : List Loc) : Prop := v = some (.int 1) ∧ Fr n0 L ∧ h = h0
theorem rm43_66 (l : Launch) {Z : State} {a0 : Array Value} (hw : own_W Z a0) (a1 : Addr) (p2 : Int32) (a3 : Addr) (p4 : Int32) (a7 : Addr) (p10 p11 p15 p19 : Int32) (a24 : Addr) (p27 : Int32) (vy0 : Value) (p33 p42 : Int32) (h0 : Heap) (n0 : Nat) (Z0 : n0 ≤ h0.size) (F6 : Exa Z h0 a3 zs6) (F8 : Fld Z h0 a3 zs6 "value" "[B" (.ref a7)) (F9 : own_Ln Z h0 a7 p10) (F12 : Sta Z h0 zs6 zs7 "Z" (.int p11)) (hc13 : ¬ (p11 = (0 : Int32))) (F14 : Fld Z h0 a3 zs6 "coder" "B" (.int 0)) (F22 : Exa Z h0 a1 zs6) (F23 : Fld Z h0 a1 zs6 "coder" "B" (.int 0)) (F25 : Fld Z h0 a1 zs6 "value" "[B" (.ref a24)) (F26 : own_Ln Z h0 a24 p27) (F28 : Sta Z h0 zs16 zs19 zs20 vy0) (hc31 : vy0.isRef = true) (F32 : own_El Z h0 a24 p19 p33) (hc34 : ¬ (p33 < (0 : Int32))) (hc35 : p33 < (128 : Int32)) (hc36 : p33 < (65536 : Int32)) (F41 : own_El Z h0 a7 p4 p42) (hc43 : ¬ (p42 < (0 : Int32))) (hc44 : p42 < (128 : Int32)) (hc45 : p42 < (65536 : Int32)) (hc47 : p33 = p42) (hB : (p10 >>> ((0 : Int32) &&& 31)) = p15 ∧ p4 < p15 ∧ (p2 + p4) = p19 ∧ ¬ (p19 < (0 : Int32)) ∧ p19 < p27 ∧ ¬ (p4 < (0 : Int32)) ∧ p4 < p10) :
    own_MF l zm28 c_43 4 (some .boolean) (own_R 4 0 0 54) #[(.ref a1), (.int p2), (.ref a3), (.int p4)] Z h0 (Q43_66 Z a1 p2 a3 p4 a7 p10 p11 p15 p19 a24 p27 vy0 p33 p42 h0 n0) := by
  refine own_st (L := (lc43 a1 p2 a3 p4)) (own := zs0) (plainFor_of_name pn_0) rfl (fun m => ef_19 m a1 p2 a3 p4) fun p e s m below meth c s₁ Bd hml hZ hh hx hby hown hnm X0 e0 => ?_
  have N0 := Fr.nil n0
  obtain ⟨hv16, hc18, hv20, hc29, hc30, hc39, hc40⟩ := hB
  obtain ⟨_, T5, L5, X5, hQ5, st5⟩ := ocallV X0 hx hZ zm12 zm12 hown (ww hw 228 rfl) (ww hw 72 rfl) (notFace_of_selects (args := #[]) (mvT hZ (ww hw 74 rfl))) (ww hw 74 rfl) (ww hw 73 rfl) (by decide) (ww hw 75 rfl) (ww hw 8 rfl) e0 F6 (rm14_24 l hw a3 a7 p10 p11 p15 h0 n0 Z0 F8 F9 F6 F12 hc13 F14 hv16) (st := [(.ref a3), (.int p4)]) rfl 1 rfl (by decide) (pc := 2) (Ls := (lc43 a1 p2 a3 p4)) hml rfl (lenOf pd_12 rfl) d43_2 hby
  obtain ⟨rfl, N5q, e5⟩ := hQ5
  have N17 := Fr.app N0 N5q
  refine own_go (U' := T5.setTop (mkF m 5 (lc43 a1 p2 a3 p4) [(.int p15), (.int p4)])) (fun t k => oiloadN X0 hx hby d43_0 rfl (oaloadN X0 hx hby d43_1 rfl rfl (st5 _ k))) ?_
  refine own_go (U' := T5.setTop (mkF m 12 (lc43 a1 p2 a3 p4) [(.int (p2 + p4)), (.ref a1)])) (fun t k => oicN X5 hx hby d43_5 (tlt hc18).2.1 (oaloadN X5 hx hby d43_8 rfl rfl (oiloadN X5 hx hby d43_9 rfl (oiloadN X5 hx hby d43_10 rfl (oiadd X5 hx hby d43_11 k))))) ?_
  rw [hv20]
  obtain ⟨_, T21, L21, X21, hQ21, st21⟩ := ocallV X5 hx hZ zm17 zm17 hown (ww hw 232 rfl) (ww hw 82 rfl) (notFace_of_selects (args := #[]) (mvT hZ (ww hw 84 rfl))) (ww hw 84 rfl) (ww hw 83 rfl) (by decide) (ww hw 85 rfl) (ww hw 8 rfl) e5 F22 (rm16_62 l hw a1 p19 p11 a24 p27 vy0 p33 h0 n0 Z0 F22 F12 hc13 F23 F25 F26 F28 hc29 hc30 hc31 F32 hc34 hc35 hc36) (st := [(.int p19), (.ref a1)]) rfl 0 rfl (by decide) (pc := 12) (Ls := (lc43 a1 p2 a3 p4)) hml rfl (lenOf pd_0 rfl) d43_12 hby
  obtain ⟨rfl, N21q, e21⟩ := hQ21
  have N37 := Fr.app N17 N21q
  obtain ⟨_, T38, L38, X38, hQ38, st38⟩ := ocallV X21 hx hZ zm17 zm17 hown (ww hw 232 rfl) (ww hw 82 rfl) (notFace_of_selects (args := #[]) (mvT hZ (ww hw 84 rfl))) (ww hw 84 rfl) (ww hw 83 rfl) (by decide) (ww hw 85 rfl) (ww hw 8 rfl) e21 F6 (rm16_62 l hw a3 p4 p11 a7 p10 vy0 p42 h0 n0 Z0 F6 F12 hc13 F14 F8 F9 F28 hc39 hc40 hc31 F41 hc43 hc44 hc45) (st := [(.int p4), (.ref a3), (.int p33)]) rfl 1 rfl (by decide) (pc := 17) (Ls := (lc43 a1 p2 a3 p4)) hml rfl (lenOf pd_0 rfl) d43_17 hby
  obtain ⟨rfl, N38q, e38⟩ := hQ38
  have N46 := Fr.app N37 N38q
  refine own_go (U' := T38.setTop (mkF m 20 (lc43 a1 p2 a3 p4) [(.int p42), (.int p33)])) (fun t k => st21 _ (oaloadN X21 hx hby d43_15 rfl rfl (oiloadN X21 hx hby d43_16 rfl (st38 _ k)))) ?_
  refine own_go (U' := T38.setTop (mkF m 28 (lc43 a1 p2 a3 p4) [(.int 1)])) (fun t k => oicN X38 hx hby d43_20 (teq hc47).2 (oiconst X38 hx hby d43_23 (ogoto (pc := 24) X38 hx hby d43_24 28 (by decide) k))) ?_
  obtain ⟨fs, hr, hrun, hended, hW, hsame⟩ := X38.leave (v := some (.int 1)) (fun h => by rw [Bd.returns] at h; cases h)
  refine own_out ⟨_, _, ?_, hrun, hended, _, _, rfl, ?_, ⟨_, rfl⟩, hW, hsame.mono (by decide) (by decide)⟩
  · exact retN X38 hx (t := .boolean) Bd.returns (by simp) (hb hby d43_28) hr
  · show Q43_66 Z a1 p2 a3 p4 a7 p10 p11 p15 p19 a24 p27 vy0 p33 p42 h0 n0 _ T38.heap _
    rw [e38]
    exact ⟨rfl, N46, rfl⟩
def Q6_67 (Z : State) (a1 a2 : Addr) (p3 p4 : Int32) (kc5 : ClassId) (kc12 : ClassId) (h0 : Heap) (n0 : Nat) (v : Option Value) (h : Heap) (L : List Loc) : Prop := v = some (.int 2) ∧ Fr n0 L ∧ Keep h0 h [a2] ∧ Arv Z h a2 kc12 .byte (2 : Int32) [(.int p3), (.int p4)] (.int (0 : Int32))
theorem rm6_67 (l : Launch) {Z : State} {a0 : Array Value} (hw : own_W Z a0) (a1 a2 : Addr) (p3 p4 : Int32) (kc5 : ClassId) (kc12 : ClassId) (h0 : Heap) (n0 : Nat) (Z0 : n0 ≤ h0.size) (F6 : Arv Z h0 a1 kc5 .char (2 : Int32) [(.int p3), (.int p4)] (.int (0 : Int32))) (hc9 : ¬ ((255 : Int32) < p3)) (hc10 : ¬ (p3 < (0 : Int32))) (hc11 : p3 < (128 : Int32)) (F13 : Arv Z h0 a2 kc12 .byte (2 : Int32) [] (.int (0 : Int32))) (g17 : n0 ≤ a2) (ne20 : a1 ≠ a2) (hc24 : ¬ ((255 : Int32) < p4)) (hc25 : ¬ (p4 < (0 : Int32))) (hc26 : p4 < (128 : Int32)) :
    own_MF l zm1 c_6 7 (some .int) (own_R 0 0 0 0) #[(.ref a1), (.int 0), (.ref a2), (.int 0), (.int 2)] Z h0 (Q6_67 Z a1 a2 p3 p4 kc5 kc12 h0 n0) := by
  refine own_st (L := (lc14 a1 0 a2 0 2)) (own := zs1) (plainFor_of_name pn_1) rfl (fun m => ef_1 m a1 0 a2 0 2) fun p e s m below meth c s₁ Bd hml hZ hh hx hby hown hnm X0 e0 => ?_
  have N0 := Fr.nil n0
  refine own_go (U' := s₁.setTop (mkF m 7 (lc12 a1 0 a2 0 2 0) [(.int 2), (.int 0)])) (fun t k => oiconst X0 hx hby d6_0 (oistore X0 hx hby d6_1 (lc12 a1 0 a2 0 2 0) rfl (oiload X0 hx hby d6_3 rfl (oiload X0 hx hby d6_5 rfl k)))) ?_
  obtain ⟨cl7, Ar7, q7, S7, N7, H7, G7⟩ := id F6
  have hin8 : ¬ ((0 : Int32) < 0 ∨ cl7.slots.size ≤ ((0 : Int32)).toNatClampNeg) := inb_of S7 ⟨by decide, by decide⟩
  have hat8 : cl7.slots[((0 : Int32)).toNatClampNeg]? = some (.int p3) := Has.at H7 hin8 rfl
  refine own_go (U' := s₁.setTop (mkF m 20 (lc13 a1 0 a2 0 2 0 p3) [(.int 255), (.int p3)])) (fun t k => oicN X0 hx hby d6_7 (by decide) (oaloadN X0 hx hby d6_10 rfl rfl (oiloadN X0 hx hby d6_11 rfl (X0.caload hx (j := (0 : Int32)) (v := (.int p3)) (own_at e0 Ar7.1) (State.isArrayOf_alike hZ.alike Ar7.2.1) Ar7.2.2 hin8 hat8 (g := (mkF m 12 (lc12 a1 0 a2 0 2 0) [(.int 0), (.ref a1)])) rfl rfl (hb hby d6_12) _ (oistore X0 hx hby d6_13 (lc13 a1 0 a2 0 2 0 p3) rfl (oiload X0 hx hby d6_15 rfl (osipush X0 hx hby d6_17 k))))))) ?_
  refine own_go (U' := s₁.setTop (mkF m 31 (lc13 a1 0 a2 0 2 0 p3) [(.int (p3.toInt8.toInt32)), (.int 0), (.ref a2)])) (fun t k => oicY (pc := 20) X0 hx hby d6_20 26 (flt hc9).2.2.2 (by decide) (oaloadN X0 hx hby d6_26 rfl rfl (oiloadN X0 hx hby d6_27 rfl (oiload X0 hx hby d6_28 rfl (oi2b X0 hx hby d6_30 k))))) ?_
  rw [own_i2bs (x := p3) hc10 hc11]
  have f14 : Arv Z h0 a2 kc12 .byte (2 : Int32) [(.int 0)] (.int (0 : Int32)) := F13.pad (pad_rep [] (.int (0 : Int32)) 1)
  obtain ⟨cl15, Ar15, q15, S15, N15, H15, G15⟩ := id f14
  have hin16 : ¬ ((0 : Int32) < 0 ∨ cl15.slots.size ≤ ((0 : Int32)).toNatClampNeg) := inb_of S15 ⟨by decide, by decide⟩
  obtain ⟨T16, h16, X16, e16, W16, st16⟩ := stB X0 hx hZ e0 Ar15 (j := (0 : Int32)) hin16 (g := (mkF m 31 (lc13 a1 0 a2 0 2 0 p3) [(.int p3), (.int 0), (.ref a2)])) rfl rfl (hb hby d6_31)
  rw [show nar .byte p3 = p3 from own_i2bs hc10 hc11] at W16
  have N18 := Fr.snoc X16 N0 g17
  have f19 : Arv Z h16 a2 kc12 .byte (2 : Int32) [(.int p3)] (.int (0 : Int32)) := Arv.set Ar15 q15 S15 N15 H15 G15 (own_fitB hc10 hc11) W16 0 rfl (Nat.le_of_ble_eq_true rfl)
  refine own_go (U' := T16.setTop (mkF m 7 (lc13 a1 1 a2 1 2 1 p3) [(.int 2), (.int 1)])) (fun t k => st16 _ (oiinc X16 hx hby d6_32 (lc13 a1 1 a2 0 2 0 p3) rfl rfl (oiinc X16 hx hby d6_35 (lc13 a1 1 a2 1 2 0 p3) rfl rfl (oiinc X16 hx hby d6_38 (lc13 a1 1 a2 1 2 1 p3) rfl rfl (ogoto (pc := 41) X16 hx hby d6_41 3 (by decide) (oiload X16 hx hby d6_3 rfl (oiload X16 hx hby d6_5 rfl k))))))) ?_
  have f21 : Arv Z h16 a1 kc5 .char (2 : Int32) [(.int p3), (.int p4)] (.int (0 : Int32)) := (F6.other W16 ne20)
  obtain ⟨cl22, Ar22, q22, S22, N22, H22, G22⟩ := id f21
  have hin23 : ¬ ((1 : Int32) < 0 ∨ cl22.slots.size ≤ ((1 : Int32)).toNatClampNeg) := inb_of S22 ⟨by decide, by decide⟩
  have hat23 : cl22.slots[((1 : Int32)).toNatClampNeg]? = some (.int p4) := Has.at H22 hin23 rfl
  refine own_go (U' := T16.setTop (mkF m 20 (lc13 a1 1 a2 1 2 1 p4) [(.int 255), (.int p4)])) (fun t k => oicN X16 hx hby d6_7 (by decide) (oaloadN X16 hx hby d6_10 rfl rfl (oiloadN X16 hx hby d6_11 rfl (X16.caload hx (j := (1 : Int32)) (v := (.int p4)) (own_at e16 Ar22.1) (State.isArrayOf_alike hZ.alike Ar22.2.1) Ar22.2.2 hin23 hat23 (g := (mkF m 12 (lc13 a1 1 a2 1 2 1 p3) [(.int 1), (.ref a1)])) rfl rfl (hb hby d6_12) _ (oistore X16 hx hby d6_13 (lc13 a1 1 a2 1 2 1 p4) rfl (oiload X16 hx hby d6_15 rfl (osipush X16 hx hby d6_17 k))))))) ?_
  refine own_go (U' := T16.setTop (mkF m 31 (lc13 a1 1 a2 1 2 1 p4) [(.int (p4.toInt8.toInt32)), (.int 1), (.ref a2)])) (fun t k => oicY (pc := 20) X16 hx hby d6_20 26 (flt hc24).2.2.2 (by decide) (oaloadN X16 hx hby d6_26 rfl rfl (oiloadN X16 hx hby d6_27 rfl (oiload X16 hx hby d6_28 rfl (oi2b X16 hx hby d6_30 k))))) ?_
  rw [own_i2bs (x := p4) hc25 hc26]
  have f27 : Arv Z h16 a2 kc12 .byte (2 : Int32) [(.int p3), (.int 0)] (.int (0 : Int32)) := f19.pad (pad_rep [(.int p3)] (.int (0 : Int32)) 1)
  obtain ⟨cl28, Ar28, q28, S28, N28, H28, G28⟩ := id f27
  have hin29 : ¬ ((1 : Int32) < 0 ∨ cl28.slots.size ≤ ((1 : Int32)).toNatClampNeg) := inb_of S28 ⟨by decide, by decide⟩
  obtain ⟨T29, h29, X29, e29, W29, st29⟩ := stB X16 hx hZ e16 Ar28 (j := (1 : Int32)) hin29 (g := (mkF m 31 (lc13 a1 1 a2 1 2 1 p4) [(.int p4), (.int 1), (.ref a2)])) rfl rfl (hb hby d6_31)
  rw [show nar .byte p4 = p4 from own_i2bs hc25 hc26] at W29
  have N30 := Fr.snoc X29 N18 g17
  have f31 : Arv Z h29 a2 kc12 .byte (2 : Int32) [(.int p3), (.int p4)] (.int (0 : Int32)) := Arv.set Ar28 q28 S28 N28 H28 G28 (own_fitB hc25 hc26) W29 1 rfl (Nat.le_of_ble_eq_true rfl)
  refine own_go (U' := T29.setTop (mkF m 7 (lc13 a1 2 a2 2 2 2 p4) [(.int 2), (.int 2)])) (fun t k => st29 _ (oiinc X29 hx hby d6_32 (lc13 a1 2 a2 1 2 1 p4) rfl rfl (oiinc X29 hx hby d6_35 (lc13 a1 2 a2 2 2 1 p4) rfl rfl (oiinc X29 hx hby d6_38 (lc13 a1 2 a2 2 2 2 p4) rfl rfl (ogoto (pc := 41) X29 hx hby d6_41 3 (by decide) (oiload X29 hx hby d6_3 rfl (oiload X29 hx hby d6_5 rfl k))))))) ?_
  refine own_go (U' := T29.setTop (mkF m 46 (lc13 a1 2 a2 2 2 2 p4) [(.int 2)])) (fun t k => oicY (pc := 7) X29 hx hby d6_7 44 (by decide) (by decide) (oiload X29 hx hby d6_44 rfl k)) ?_
  obtain ⟨fs, hr, hrun, hended, hW, hsame⟩ := X29.leave (v := some (.int 2)) (fun h => by rw [Bd.returns] at h; cases h)
  refine own_out ⟨_, _, ?_, hrun, hended, _, _, rfl, ?_, ⟨_, rfl⟩, hW, hsame.mono (by decide) (by decide)⟩
  · exact retI X29 hx Bd.returns (hb hby d6_46) hr
  · show Q6_67 Z a1 a2 p3 p4 kc5 kc12 h0 n0 _ T29.heap _
    rw [e29]
    exact ⟨rfl, N30, (((Keep.refl h0 [a2]).wr W16 (Or.inl (List.mem_of_getElem? (i := 0) rfl))).wr W29 (Or.inl (List.mem_of_getElem? (i := 0) rfl))), f31⟩
def Q5_68 (Z : State) (a1 : Addr) (p5 p6 : Int32) (kc7 : ClassId) (h0 : Heap) (n0 : Nat) (v : Option Value) (h : Heap) (L : List Loc) : Prop := ∃ b2 : Addr, ∃ k2 : ClassId, v = some (.ref b2) ∧ Fr n0 L ∧ Keep h0 h [] ∧ h0.size ≤ b2 ∧ Exa Z h b2 "[B" ∧ Arv Z h b2 k2 .byte (2 : Int32) [(.int p5), (.int p6)] (.int (0 : Int32))
theorem rm5_68 (l : Launch) {Z : State} {a0 : Array Value} (hw : own_W Z a0) (a1 : Addr) (p5 p6 : Int32) (kc7 : ClassId) (h0 : Heap) (n0 : Nat) (Z0 : n0 ≤ h0.size) (F8 : Arv Z h0 a1 kc7 .char (2 : Int32) [(.int p5), (.int p6)] (.int (0 : Int32))) (hc10 : ¬ ((255 : Int32) < p5)) (hc11 : ¬ (p5 < (0 : Int32))) (hc12 : p5 < (128 : Int32)) (hc15 : ¬ ((255 : Int32) < p6)) (hc16 : ¬ (p6 < (0 : Int32))) (hc17 : p6 < (128 : Int32)) :
    own_MF l zm2 c_5 6 (some (.array .byte)) (own_R 1 1 2 18) #[(.ref a1), (.int 0), (.int 2)] Z h0 (Q5_68 Z a1 p5 p6 kc7 h0 n0) := by
  refine own_st (L := (lc10 a1 0 2)) (own := zs1) (plainFor_of_name pn_1) rfl (fun m => ef_2 m a1 0 2) fun p e s m below meth c s₁ Bd hml hZ hh hx hby hown hnm X0 e0 => ?_
  have N0 := Fr.nil n0
  obtain ⟨T2, h2, k2, X2, e2, E2, A2, B2, st2⟩ := newPE X0 hx hZ (ww hw 24 rfl) e0 (g := (mkF m 1 (lc10 a1 0 2) [(.int 2)])) rfl (hb hby d5_1) rfl (by decide) (cap := 2) (by decide) (by decide) (by decide) (by decide) (ad := "[B") (by decide)
  obtain ⟨b2, g2⟩ : ∃ z, z = h0.size := ⟨_, rfl⟩
  rw [← g2] at A2 B2 st2
  have f3 : Arv Z h2 b2 k2 .byte (2 : Int32) [] (.int (0 : Int32)) := Arv.new A2 (by decide)
  have f9 : Arv Z h2 a1 kc7 .char (2 : Int32) [(.int p5), (.int p6)] (.int (0 : Int32)) := (F8.ext E2)
  have g13 : n0 ≤ b2 := Nat.le_trans Z0 (Nat.le_of_eq g2.symm)
  have ne14 : a1 ≠ b2 := Nat.ne_of_lt (nlt (F8.lt) (Nat.le_of_eq g2.symm))
  have Z_1 : n0 ≤ h2.size := Nat.le_trans Z0 E2.1
  obtain ⟨_, T4, L4, X4, hQ4, st4⟩ := ocallS X2 hx hZ zm1 hown (ww hw 25 rfl) (ww hw 26 rfl) (by decide) (ww hw 27 rfl) (ww hw 22 rfl) e2 (rm6_67 l hw a1 b2 p5 p6 kc7 k2 h2 n0 Z_1 f9 hc10 hc11 hc12 f3 g13 ne14 hc15 hc16 hc17) (st := [(.int 2), (.int 0), (.ref b2), (.int 0), (.ref a1)]) rfl 0 rfl (by decide) (pc := 9) (Ls := (lc11 a1 0 2 b2)) hml rfl (lenOf pd_1 rfl) d5_9 hby
  obtain ⟨rfl, N4q, K4, f18⟩ := hQ4
  have N19 := Fr.app N0 N4q
  refine own_go (U' := T4.setTop (mkF m 17 (lc15 a1 0 2 b2 2) [(.int 2), (.int 2)])) (fun t k => oiloadN X0 hx hby d5_0 rfl (st2 _ (oastoreN X2 hx hby d5_3 (lc11 a1 0 2 b2) rfl rfl (oaloadN X2 hx hby d5_4 rfl rfl (oiloadN X2 hx hby d5_5 rfl (oaloadN X2 hx hby d5_6 rfl rfl (oiconst X2 hx hby d5_7 (oiloadN X2 hx hby d5_8 rfl (st4 _ (oistore X4 hx hby d5_12 (lc15 a1 0 2 b2 2) rfl (oiload X4 hx hby d5_14 rfl (oiloadN X4 hx hby d5_16 rfl k)))))))))))) ?_
  refine own_go (U' := T4.setTop (mkF m 58 (lc15 a1 0 2 b2 2) [(.ref b2)])) (fun t k => oicY (pc := 17) X4 hx hby d5_17 57 (by decide) (by decide) (oaloadN X4 hx hby d5_57 rfl rfl k)) ?_
  have f20 : Exa Z T4.heap b2 "[B" := (B2.keep K4)
  obtain ⟨fs, hr, hrun, hended, hW, hsame⟩ := X4.leave (v := some (.ref b2)) (fun h => by rw [Bd.returns] at h; cases h)
  refine own_out ⟨_, _, ?_, hrun, hended, _, _, rfl, ?_, ⟨_, rfl⟩, hW, hsame.mono (by decide) (by decide)⟩
  · exact retOut X4 hx Bd.returns rfl (Or.inr (Or.inr (Or.inr (Or.inr ⟨rfl, rfl, rfl⟩)))) (hb hby d5_58) hr
  · show Q5_68 Z a1 p5 p6 kc7 h0 n0 _ T4.heap _
    exact ⟨b2, k2, rfl, N19, (Keep.trans ((Keep.refl h0 []).ext E2) K4 (allS (Or.inr (Nat.le_of_eq g2.symm)) all0)), (Nat.le_of_eq g2.symm), f20, f18⟩
def Q7_69 (Z : State) (a1 : Addr) (p2 p3 : Int32) (kc4 : ClassId) (h0 : Heap) (n0 : Nat) (v : Option Value) (h : Heap) (L : List Loc) : Prop := v = some (.int 0) ∧ Fr n0 L ∧ h = h0
theorem rm7_69 (l : Launch) {Z : State} {a0 : Array Value} (hw : own_W Z a0) (a1 : Addr) (p2 p3 : Int32) (kc4 : ClassId) (h0 : Heap) (n0 : Nat) (Z0 : n0 ≤ h0.size) (F5 : Arv Z h0 a1 kc4 .byte (2 : Int32) [(.int p2), (.int p3)] (.int (0 : Int32))) :
    own_MF l zm3 c_7 2 (some .byte) (own_R 0 0 0 0) #[(.ref a1), (.int 2)] Z h0 (Q7_69 Z a1 p2 p3 kc4 h0 n0) := by
  refine own_st (L := (lc17 a1 2)) (own := zs1) (plainFor_of_name pn_1) rfl (fun m => ef_3 m a1 2) fun p e s m below meth c s₁ Bd hml hZ hh hx hby hown hnm X0 e0 => ?_
  have N0 := Fr.nil n0
  refine own_go (U' := s₁.setTop (mkF m 2 (lc17 a1 2) [(.ref a1), (.int 2)])) (fun t k => oiloadN X0 hx hby d7_0 rfl (oaloadN X0 hx hby d7_1 rfl rfl k)) ?_
  obtain ⟨cl6, Ar6, q6, S6, N6, H6, G6⟩ := id F5
  refine own_go (fun t k => X0.arraylength hx (own_at e0 Ar6.1) (State.isArrayOf_alike hZ.alike Ar6.2.1) (g := (mkF m 2 (lc17 a1 2) [(.ref a1), (.int 2)])) rfl rfl (hb hby d7_2) _ k) ?_
  rw [len_of S6 N6]
  refine own_go (U' := s₁.setTop (mkF m 8 (lc17 a1 2) [(.int 0)])) (fun t k => oisub X0 hx hby d7_3 (obipush X0 hx hby d7_4 (oiushr X0 hx hby d7_6 (oi2b X0 hx hby d7_7 k)))) ?_
  obtain ⟨fs, hr, hrun, hended, hW, hsame⟩ := X0.leave (v := some (.int 0)) (fun h => by rw [Bd.returns] at h; cases h)
  refine own_out ⟨_, _, ?_, hrun, hended, _, _, rfl, ?_, ⟨_, rfl⟩, hW, hsame.mono (by decide) (by decide)⟩
  · exact retN X0 hx (t := .byte) Bd.returns (by simp) (hb hby d7_8) hr
  · show Q7_69 Z a1 p2 p3 kc4 h0 n0 _ s₁.heap _
    rw [e0]
    exact ⟨rfl, N0, rfl⟩
def Q3_70 (Z : State) (a1 a2 : Addr) (p4 p9 p10 : Int32) (kc11 : ClassId) (h0 : Heap) (n0 : Nat) (v : Option Value) (h : Heap) (L : List Loc) : Prop := ∃ b19 : Addr, ∃ k20 : ClassId, v = none ∧ Fr n0 L ∧ Keep h0 h [a1] ∧ h0.size ≤ b19 ∧ Fld Z h a1 zs6 "coder" "B" (.int 0) ∧ Fld Z h a1 zs6 "value" "[B" (.ref b19) ∧ Exa Z h b19 "[B" ∧ Arv Z h b19 k20 .byte (2 : Int32) [(.int p9), (.int p10)] (.int (0 : Int32))
theorem rm3_70 (l : Launch) {Z : State} {a0 : Array Value} (hw : own_W Z a0) (a1 a2 : Addr) (p4 p9 p10 : Int32) (kc11 : ClassId) (h0 : Heap) (n0 : Nat) (Z0 : n0 ≤ h0.size) (F5 : Sta Z h0 zs6 zs7 "Z" (.int p4)) (hc7 : ¬ (p4 = (0 : Int32))) (F12 : Arv Z h0 a2 kc11 .char (2 : Int32) [(.int p9), (.int p10)] (.int (0 : Int32))) (hc13 : ¬ ((255 : Int32) < p9)) (hc14 : ¬ (p9 < (0 : Int32))) (hc15 : p9 < (128 : Int32)) (hc16 : ¬ ((255 : Int32) < p10)) (hc17 : ¬ (p10 < (0 : Int32))) (hc18 : p10 < (128 : Int32)) (F27 : Fld Z h0 a1 zs6 "coder" "B" (.int 0)) (F28 : Fld Z h0 a1 zs6 "value" "[B" .null) (F30 : Exa Z h0 a1 zs6) (g33 : n0 ≤ a1) :
    own_MF l zm4 c_3 6 none (own_R 2 1 2 35) #[(.ref a1), (.ref a2), (.int 0), (.int 2), .null] Z h0 (Q3_70 Z a1 a2 p4 p9 p10 kc11 h0 n0) := by
  refine own_st (L := (lc9 a1 a2 0 2)) (own := zs6) (plainFor_of_name pn_2) rfl (fun m => ef_4 m a1 a2 0 2) fun p e s m below meth c s₁ Bd hml hZ hh hx hby hown hnm X0 e0 => ?_
  have N0 := Fr.nil n0
  obtain ⟨T3, X3, e3, st3⟩ := initO X0 hx hZ hown (ww hw 16 rfl) (ww hw 17 rfl) (ww hw 18 rfl) e0 (g := (mkF m 1 (lc9 a1 a2 0 2) [(.ref a1)])) rfl (by rw [hml]; rfl) rfl (hb hby d3_1) (by decide) (W := 0) (by show 2 * 0 + _ ≤ _; exact Nat.le_of_eq rfl) (by decide)
  refine own_go (U' := T3.setTop (mkF m 5 (lc9 a1 a2 0 2) [(.int 2)])) (fun t k => oaloadN X0 hx hby d3_0 rfl rfl (st3 _ (oiloadN X3 hx hby d3_4 rfl k))) ?_
  obtain ⟨T6, X6, e6, st6⟩ := getS2 X3 hx hZ hown (host := "") (Or.inl (ww hw 19 rfl)) Via.refl e3 F5 (g := (mkF m 27 (lc9 a1 a2 0 2) [])) rfl (hb hby d3_27)
  refine own_go (U' := T6.setTop (mkF m 30 (lc9 a1 a2 0 2) [(.int p4)])) (fun t k => oifY (pc := 5) X3 hx hby d3_5 27 (by decide) (by decide) (st6 _ k)) ?_
  obtain ⟨_, T8, L8, X8, hQ8, st8⟩ := ocallS X6 hx hZ zm2 hown (ww hw 20 rfl) (ww hw 21 rfl) (by decide) (ww hw 23 rfl) (ww hw 22 rfl) e6 (rm5_68 l hw a2 p9 p10 kc11 h0 n0 Z0 F12 hc13 hc14 hc15 hc16 hc17 hc18) (st := [(.int 2), (.int 0), (.ref a2)]) rfl 0 rfl (by decide) (pc := 36) (Ls := (lc9 a1 a2 0 2)) hml rfl (lenOf pd_2 rfl) d3_36 hby
  obtain ⟨b19, k20, rfl, N8q, K8, sz21, f22, f23⟩ := hQ8
  have N24 := Fr.app N0 N8q
  have Z_1 : n0 ≤ T8.heap.size := Nat.le_trans Z0 K8.1
  obtain ⟨_, T25, L25, X25, hQ25, st25⟩ := ocallS X8 hx hZ zm3 hown (ww hw 28 rfl) (ww hw 29 rfl) (by decide) (ww hw 30 rfl) (ww hw 22 rfl) rfl (rm7_69 l hw b19 p9 p10 k20 T8.heap n0 Z_1 f23) (st := [(.int 2), (.ref b19), (.ref a1)]) rfl 1 rfl (by decide) (pc := 45) (Ls := (lc16 a1 a2 0 2 b19)) hml rfl (lenOf pd_3 rfl) d3_45 hby
  obtain ⟨rfl, N25q, e25⟩ := hQ25
  have N26 := Fr.app N24 N25q
  have f29 : Fld Z T8.heap a1 zs6 "coder" "B" (.int 0) := (F27.keep K8 nin0)
  have f31 : Exa Z T8.heap a1 zs6 := (F30.keep K8)
  obtain ⟨T32, h32, X32, e32, W32, st32⟩ := putFN X25 hx hZ hown (ww hw 31 rfl) Via.refl e25 f29 f31 (Or.inr ⟨(ww hw 32 rfl), rfl, hnm⟩) (ww hw 7 rfl) (ty := .byte) (v' := (.int 0)) (by decide) rfl (by decide) (g := (mkF m 48 (lc16 a1 a2 0 2 b19) [(.int 0), (.ref a1)])) rfl rfl (hb hby d3_48)
  have N34 := Fr.snoc X32 N26 g33
  have f35 : Fld Z h32 a1 zs6 "coder" "B" (.int 0) := Fld.same W32 f29
  have f36 : Fld Z h32 a1 zs6 "value" "[B" .null := (Fld.other W32 (F28.keep K8 nin0) (Or.inr (slot_ne (Or.inr (ww hw 34 rfl)) (Or.inr (ww hw 32 rfl)) (by decide) (t := (.array .byte)) (t' := .byte) (by decide) (by decide))))
  have f37 : Exa Z h32 a1 zs6 := (Exa.wr W32 f31)
  obtain ⟨T38, h38, X38, e38, W38, st38⟩ := putF X32 hx hZ hown (host := "") (Or.inl (ww hw 33 rfl)) Via.refl e32 f36 f37 (Or.inr ⟨(ww hw 34 rfl), rfl, hnm⟩) (ww hw 7 rfl) (ty := (.array .byte)) (by decide) rfl rfl (g := (mkF m 54 (lc16 a1 a2 0 2 b19) [(.ref b19), (.ref a1)])) rfl rfl (hb hby d3_54)
  have N39 := Fr.snoc X38 N34 g33
  have f40 : Fld Z h38 a1 zs6 "value" "[B" (.ref b19) := Fld.same W38 f36
  refine own_go (U' := T38.setTop (mkF m 57 (lc16 a1 a2 0 2 b19) [])) (fun t k => oifN X6 hx hby d3_30 ((if0 _ _).trans (feq hc7).1) (oaloadN X6 hx hby d3_33 rfl rfl (oiloadN X6 hx hby d3_34 rfl (oiloadN X6 hx hby d3_35 rfl (st8 _ (oastore X8 hx hby d3_39 (lc16 a1 a2 0 2 b19) rfl rfl (oaloadN X8 hx hby d3_41 rfl rfl (oaload X8 hx hby d3_42 rfl rfl (oiloadN X8 hx hby d3_44 rfl (st25 _ (st32 _ (oaloadN X32 hx hby d3_51 rfl rfl (oaload X32 hx hby d3_52 rfl rfl (st38 _ k)))))))))))))) ?_
  have f41 : Fld Z h38 a1 zs6 "coder" "B" (.int 0) := (Fld.other W38 f35 (Or.inr (slot_ne (Or.inr (ww hw 32 rfl)) (Or.inr (ww hw 34 rfl)) (by decide) (t := .byte) (t' := (.array .byte)) (by decide) (by decide))))
  have f42 : Exa Z h38 b19 "[B" := (Exa.wr W38 (Exa.wr W32 f22))
  have ne43 : a1 ≠ b19 := Nat.ne_of_lt (nlt (F27.lt) sz21)
  have f44 : Arv Z h38 b19 k20 .byte (2 : Int32) [(.int p9), (.int p10)] (.int (0 : Int32)) := ((f23.other W32 (Ne.symm ne43)).other W38 (Ne.symm ne43))
  obtain ⟨fs, hr, hrun, hended, hW, hsame⟩ := X38.leave (v := none) (fun _ => rfl)
  refine own_out ⟨_, _, ?_, hrun, hended, _, _, rfl, ?_, ⟨_, rfl⟩, hW, hsame.mono (by decide) (by decide)⟩
  · exact X38.returnOut hx Bd.returns (hb hby d3_57) hr
  · show Q3_70 Z a1 a2 p4 p9 p10 kc11 h0 n0 _ T38.heap _
    rw [e38]
    exact ⟨b19, k20, rfl, N39, (((Keep.trans (Keep.refl h0 [a1]) K8 all0).wr W32 (Or.inl (List.mem_of_getElem? (i := 0) rfl))).wr W38 (Or.inl (List.mem_of_getElem? (i := 0) rfl))), sz21, f41, f40, f42, f44⟩
def Q2_71 (Z : State) (a1 a2 : Addr) (p3 p4 : Int32) (kc5 : ClassId) (p9 : Int32) (h0 : Heap) (n0 : Nat) (v : Option Value) (h : Heap) (L : List Loc) : Prop := ∃ b22 : Addr, ∃ k23 : ClassId, v = none ∧ Fr n0 L ∧ Keep h0 h [a1] ∧ h0.size ≤ b22 ∧ Fld Z h a1 zs6 "coder" "B" (.int 0) ∧ Fld Z h a1 zs6 "value" "[B" (.ref b22) ∧ Exa Z h b22 "[B" ∧ Arv Z h b22 k23 .byte (2 : Int32) [(.int p3), (.int p4)] (.int (0 : Int32))
theorem rm2_71 (l : Launch) {Z : State} {a0 : Array Value} (hw : own_W Z a0) (a1 a2 : Addr) (p3 p4 : Int32) (kc5 : ClassId) (p9 : Int32) (h0 : Heap) (n0 : Nat) (Z0 : n0 ≤ h0.size) (F6 : Arv Z h0 a2 kc5 .char (2 : Int32) [(.int p3), (.int p4)] (.int (0 : Int32))) (F10 : Sta Z h0 zs6 zs7 "Z" (.int p9)) (hc11 : ¬ (p9 = (0 : Int32))) (hc12 : ¬ ((255 : Int32) < p3)) (hc13 : ¬ (p3 < (0 : Int32))) (hc14 : p3 < (128 : Int32)) (hc15 : ¬ ((255 : Int32) < p4)) (hc16 : ¬ (p4 < (0 : Int32))) (hc17 : p4 < (128 : Int32)) (F18 : Fld Z h0 a1 zs6 "coder" "B" (.int 0)) (F19 : Fld Z h0 a1 zs6 "value" "[B" .null) (F20 : Exa Z h0 a1 zs6) (g21 : n0 ≤ a1) :
    own_MF l zm5 c_2 2 none (own_R 3 1 2 52) #[(.ref a1), (.ref a2)] Z h0 (Q2_71 Z a1 a2 p3 p4 kc5 p9 h0 n0) := by
  refine own_st (L := (lc8 a1 a2)) (own := zs6) (plainFor_of_name pn_2) rfl (fun m => ef_5 m a1 a2) fun p e s m below meth c s₁ Bd hml hZ hh hx hby hown hnm X0 e0 => ?_
  have N0 := Fr.nil n0
  refine own_go (U' := s₁.setTop (mkF m 4 (lc8 a1 a2) [(.ref a2), (.int 0), (.ref a2), (.ref a1)])) (fun t k => oaloadN X0 hx hby d2_0 rfl rfl (oaloadN X0 hx hby d2_1 rfl rfl (oiconst X0 hx hby d2_2 (oaloadN X0 hx hby d2_3 rfl rfl k)))) ?_
  obtain ⟨cl7, Ar7, q7, S7, N7, H7, G7⟩ := id F6
  refine own_go (fun t k => X0.arraylength hx (own_at e0 Ar7.1) (State.isArrayOf_alike hZ.alike Ar7.2.1) (g := (mkF m 4 (lc8 a1 a2) [(.ref a2), (.int 0), (.ref a2), (.ref a1)])) rfl rfl (hb hby d2_4) _ k) ?_
  rw [len_of S7 N7]
  obtain ⟨_, T8, L8, X8, hQ8, st8⟩ := ocallI X0 hx hZ zm4 rfl hown (ww hw 12 rfl) (ww hw 13 rfl) (by decide) (ww hw 15 rfl) (ww hw 8 rfl) e0 (rm3_70 l hw a1 a2 p9 p3 p4 kc5 h0 n0 Z0 F10 hc11 F6 hc12 hc13 hc14 hc15 hc16 hc17 F18 F19 F20 g21) (st := [.null, (.int 2), (.int 0), (.ref a2), (.ref a1)]) rfl 0 rfl (by decide) (pc := 6) (Ls := (lc8 a1 a2)) hml rfl (lenOf pd_4 rfl) d2_6 hby
  obtain ⟨b22, k23, rfl, N8q, K8, sz24, f25, f26, f27, f28⟩ := hQ8
  have N29 := Fr.app N0 N8q
  refine own_go (U' := T8.setTop (mkF m 9 (lc8 a1 a2) [])) (fun t k => onull X0 hx hby d2_5 (st8 _ k)) ?_
  obtain ⟨fs, hr, hrun, hended, hW, hsame⟩ := X8.leave (v := none) (fun _ => rfl)
  refine own_out ⟨_, _, ?_, hrun, hended, _, _, rfl, ?_, ⟨_, rfl⟩, hW, hsame.mono (by decide) (by decide)⟩
  · exact X8.returnOut hx Bd.returns (hb hby d2_9) hr
  · show Q2_71 Z a1 a2 p3 p4 kc5 p9 h0 n0 _ T8.heap _
    exact ⟨b22, k23, rfl, N29, (Keep.trans (Keep.refl h0 [a1]) K8 (allS (Or.inl (List.mem_of_getElem? (i := 0) rfl)) all0)), sz24, f25, f26, f27, f28⟩
def Q9_72 (Z : State) (a1 a2 : Addr) (p3 p4 : Int32) (kc5 : ClassId) (kc8 : ClassId) (h0 : Heap) (n0 : Nat) (v : Option Value) (h : Heap) (L : List Loc) : Prop := v = some (.int 0) ∧ Fr n0 L ∧ h = h0
theorem rm9_72 (l : Launch) {Z : State} {a0 : Array Value} (hw : own_W Z a0) (a1 a2 : Addr) (p3 p4 : Int32) (kc5 : ClassId) (kc8 : ClassId) (h0 : Heap) (n0 : Nat) (Z0 : n0 ≤ h0.size) (F6 : Arv Z h0 a1 kc5 .byte (2 : Int32) [(.int p3), (.int p4)] (.int (0 : Int32))) (F9 : Arv Z h0 a2 kc8 .byte (1 : Int32) [(.int 46)] (.int (0 : Int32))) :
    own_MF l zm6 c_9 3 (some .boolean) (own_R 0 0 0 0) #[(.ref a1), (.ref a2)] Z h0 (Q9_72 Z a1 a2 p3 p4 kc5 kc8 h0 n0) := by
  refine own_st (L := (lc19 a1 a2)) (own := zs9) (plainFor_of_name pn_3) rfl (fun m => ef_6 m a1 a2) fun p e s m below meth c s₁ Bd hml hZ hh hx hby hown hnm X0 e0 => ?_
  have N0 := Fr.nil n0
  refine own_go (U' := s₁.setTop (mkF m 1 (lc19 a1 a2) [(.ref a1)])) (fun t k => oaloadN X0 hx hby d9_0 rfl rfl k) ?_
  obtain ⟨cl7, Ar7, q7, S7, N7, H7, G7⟩ := id F6
  refine own_go (fun t k => X0.arraylength hx (own_at e0 Ar7.1) (State.isArrayOf_alike hZ.alike Ar7.2.1) (g := (mkF m 1 (lc19 a1 a2) [(.ref a1)])) rfl rfl (hb hby d9_1) _ k) ?_
  rw [len_of S7 N7]
  refine own_go (U' := s₁.setTop (mkF m 3 (lc19 a1 a2) [(.ref a2), (.int 2)])) (fun t k => oaloadN X0 hx hby d9_2 rfl rfl k) ?_
  obtain ⟨cl10, Ar10, q10, S10, N10, H10, G10⟩ := id F9
  refine own_go (fun t k => X0.arraylength hx (own_at e0 Ar10.1) (State.isArrayOf_alike hZ.alike Ar10.2.1) (g := (mkF m 3 (lc19 a1 a2) [(.ref a2), (.int 2)])) rfl rfl (hb hby d9_3) _ k) ?_
  rw [len_of S10 N10]
  refine own_go (U' := s₁.setTop (mkF m 35 (lc19 a1 a2) [(.int 0)])) (fun t k => oicY (pc := 4) X0 hx hby d9_4 34 (by decide) (by decide) (oiconst X0 hx hby d9_34 k)) ?_
  obtain ⟨fs, hr, hrun, hended, hW, hsame⟩ := X0.leave (v := some (.int 0)) (fun h => by rw [Bd.returns] at h; cases h)
  refine own_out ⟨_, _, ?_, hrun, hended, _, _, rfl, ?_, ⟨_, rfl⟩, hW, hsame.mono (by decide) (by decide)⟩
  · exact retN X0 hx (t := .boolean) Bd.returns (by simp) (hb hby d9_35) hr
  · show Q9_72 Z a1 a2 p3 p4 kc5 kc8 h0 n0 _ s₁.heap _
    rw [e0]
    exact ⟨rfl, N0, rfl⟩
def Q8_73 (Z : State) (a1 a2 : Addr) (p7 : Int32) (a15 a18 : Addr) (p22 p23 : Int32) (kc24 : ClassId) (kc26 : ClassId) (h0 : Heap) (n0 : Nat) (v : Option Value) (h : Heap) (L : List Loc) : Prop := v = some (.int 0) ∧ Fr n0 L ∧ h = h0
theorem rm8_73 (l : Launch) {Z : State} {a0 : Array Value} (hw : own_W Z a0) (a1 a2 : Addr) (p7 : Int32) (a15 a18 : Addr) (p22 p23 : Int32) (kc24 : ClassId) (kc26 : ClassId) (h0 : Heap) (n0 : Nat) (Z0 : n0 ≤ h0.size) (ha3 : a1 ≠ a2) (F4 : Exa Z h0 a2 zs6) (F8 : Sta Z h0 zs6 zs7 "Z" (.int p7)) (hc10 : ¬ (p7 = (0 : Int32))) (F11 : Fld Z h0 a1 zs6 "coder" "B" (.int 0)) (F13 : Fld Z h0 a2 zs6 "coder" "B" (.int 0)) (F16 : Fld Z h0 a1 zs6 "value" "[B" (.ref a15)) (F19 : Fld Z h0 a2 zs6 "value" "[B" (.ref a18)) (F25 : Arv Z h0 a15 kc24 .byte (2 : Int32) [(.int p22), (.int p23)] (.int (0 : Int32))) (F27 : Arv Z h0 a18 kc26 .byte (1 : Int32) [(.int 46)] (.int (0 : Int32))) :
    own_MF l zm7 c_8 3 (some .boolean) (own_R 1 0 0 14) #[(.ref a1), (.ref a2)] Z h0 (Q8_73 Z a1 a2 p7 a15 a18 p22 p23 kc24 kc26 h0 n0) := by
  refine own_st (L := (lc19 a1 a2)) (own := zs6) (plainFor_of_name pn_2) rfl (fun m => ef_6 m a1 a2) fun p e s m below meth c s₁ Bd hml hZ hh hx hby hown hnm X0 e0 => ?_
  have N0 := Fr.nil n0
  obtain ⟨T5, X5, e5, st5⟩ := instY X0 hx hZ hown (ww hw 43 rfl) e0 (Ins.self F4) (g := (mkF m 8 (lc19 a1 a2) [(.ref a2)])) rfl rfl (hb hby d8_8)
  refine own_go (U' := T5.setTop (mkF m 11 (lc19 a1 a2) [(.int 1)])) (fun t k => oaloadN X0 hx hby d8_0 rfl rfl (oaloadN X0 hx hby d8_1 rfl rfl (oacmp (pc := 2) X0 hx hby d8_2 7 (same := false) rfl rfl (decide_eq_false fun q => ha3 (Value.ref.inj q)) (by decide) (oaloadN X0 hx hby d8_7 rfl rfl (st5 _ k))))) ?_
  obtain ⟨T6, X6, e6, st6⟩ := castY X5 hx hZ hown (ww hw 43 rfl) e5 (Ins.self F4) (g := (mkF m 15 (lc19 a1 a2) [(.ref a2)])) rfl rfl (hb hby d8_15)
  obtain ⟨T9, X9, e9, st9⟩ := getS2 X6 hx hZ hown (host := "") (Or.inl (ww hw 19 rfl)) Via.refl e6 F8 (g := (mkF m 19 (lc20 a1 a2 a2) [])) rfl (hb hby d8_19)
  refine own_go (U' := T9.setTop (mkF m 22 (lc20 a1 a2 a2) [(.int p7)])) (fun t k => oifN X5 hx hby d8_11 (by decide) (oaloadN X5 hx hby d8_14 rfl rfl (st6 _ (oastoreN X6 hx hby d8_18 (lc20 a1 a2 a2) rfl rfl (st9 _ k))))) ?_
  obtain ⟨T12, X12, e12, st12⟩ := getF X9 hx hZ hown (host := "") (Or.inl (ww hw 31 rfl)) Via.refl e9 F11 (g := (mkF m 26 (lc20 a1 a2 a2) [(.ref a1)])) rfl rfl (hb hby d8_26)
  obtain ⟨T14, X14, e14, st14⟩ := getF X12 hx hZ hown (host := "") (Or.inl (ww hw 31 rfl)) Via.refl e12 F13 (g := (mkF m 30 (lc20 a1 a2 a2) [(.ref a2), (.int 0)])) rfl rfl (hb hby d8_30)
  refine own_go (U' := T14.setTop (mkF m 33 (lc20 a1 a2 a2) [(.int 0), (.int 0)])) (fun t k => oifN X9 hx hby d8_22 ((if0 _ _).trans (feq hc10).1) (oaloadN X9 hx hby d8_25 rfl rfl (st12 _ (oaloadN X12 hx hby d8_29 rfl rfl (st14 _ k))))) ?_
  obtain ⟨T17, X17, e17, st17⟩ := getF X14 hx hZ hown (host := "") (Or.inl (ww hw 33 rfl)) Via.refl e14 F16 (g := (mkF m 37 (lc20 a1 a2 a2) [(.ref a1)])) rfl rfl (hb hby d8_37)
  obtain ⟨T20, X20, e20, st20⟩ := getF X17 hx hZ hown (host := "") (Or.inl (ww hw 33 rfl)) Via.refl e17 F19 (g := (mkF m 41 (lc20 a1 a2 a2) [(.ref a2), (.ref a15)])) rfl rfl (hb hby d8_41)
  obtain ⟨_, T21, L21, X21, hQ21, st21⟩ := ocallS X20 hx hZ zm6 hown (ww hw 44 rfl) (ww hw 45 rfl) (by decide) (ww hw 47 rfl) (ww hw 46 rfl) e20 (rm9_72 l hw a15 a18 p22 p23 kc24 kc26 h0 n0 Z0 F25 F27) (st := [(.ref a18), (.ref a15)]) rfl 0 rfl (by decide) (pc := 44) (Ls := (lc20 a1 a2 a2)) hml rfl (lenOf pd_6 rfl) d8_44 hby
  obtain ⟨rfl, N21q, e21⟩ := hQ21
  have N28 := Fr.app N0 N21q
  refine own_go (U' := T21.setTop (mkF m 47 (lc20 a1 a2 a2) [(.int 0)])) (fun t k => oicN X14 hx hby d8_33 (by decide) (oaloadN X14 hx hby d8_36 rfl rfl (st17 _ (oaloadN X17 hx hby d8_40 rfl rfl (st20 _ (st21 _ k)))))) ?_
  refine own_go (U' := T21.setTop (mkF m 55 (lc20 a1 a2 a2) [(.int 0)])) (fun t k => oifY (pc := 47) X21 hx hby d8_47 54 (by decide) (by decide) (oiconst X21 hx hby d8_54 k)) ?_
  obtain ⟨fs, hr, hrun, hended, hW, hsame⟩ := X21.leave (v := some (.int 0)) (fun h => by rw [Bd.returns] at h; cases h)
  refine own_out ⟨_, _, ?_, hrun, hended, _, _, rfl, ?_, ⟨_, rfl⟩, hW, hsame.mono (by decide) (by decide)⟩
  · exact retN X21 hx (t := .boolean) Bd.returns (by simp) (hb hby d8_55) hr
  · show Q8_73 Z a1 a2 p7 a15 a18 p22 p23 kc24 kc26 h0 n0 _ T21.heap _
    rw [e21]
    exact ⟨rfl, N28, rfl⟩
def Qmg8_74 (Z : State) (a1 a2 : Addr) (p5 : Int32) (a10 a12 : Addr) (p14 p15 : Int32) (kc16 : ClassId) (kc18 : ClassId) (h0 : Heap) (n0 : Nat) (v : Option Value) (h : Heap) (L : List Loc) : Prop := v = some (.int 0) ∧ Fr n0 L ∧ h = h0
theorem mg8_74 (l : Launch) {Z : State} {a0 : Array Value} (hw : own_W Z a0) (a1 a2 : Addr) (p5 : Int32) (a10 a12 : Addr) (p14 p15 : Int32) (kc16 : ClassId) (kc18 : ClassId) (h0 : Heap) (n0 : Nat) (Z0 : n0 ≤ h0.size) (ha3 : a1 ≠ a2) (F4 : Exa Z h0 a2 zs6) (F6 : Sta Z h0 zs6 zs7 "Z" (.int p5)) (hc7 : ¬ (p5 = (0 : Int32))) (F8 : Fld Z h0 a1 zs6 "coder" "B" (.int 0)) (F9 : Fld Z h0 a2 zs6 "coder" "B" (.int 0)) (F11 : Fld Z h0 a1 zs6 "value" "[B" (.ref a10)) (F13 : Fld Z h0 a2 zs6 "value" "[B" (.ref a12)) (F17 : Arv Z h0 a10 kc16 .byte (2 : Int32) [(.int p14), (.int p15)] (.int (0 : Int32))) (F19 : Arv Z h0 a12 kc18 .byte (1 : Int32) [(.int 46)] (.int (0 : Int32))) :
    own_MF l zm7 c_8 3 (some .boolean) (own_R 1 0 0 14) #[(.ref a1), (.ref a2)] Z h0 (Qmg8_74 Z a1 a2 p5 a10 a12 p14 p15 kc16 kc18 h0 n0) := by
  exact rm8_73 l hw a1 a2 p5 a10 a12 p14 p15 kc16 kc18 h0 n0 Z0 ha3 F4 F6 hc7 F8 F9 F11 F13 F17 F19
def Q9_75 (Z : State) (a1 a2 : Addr) (p3 p4 : Int32) (kc5 : ClassId) (kc8 : ClassId) (h0 : Heap) (n0 : Nat) (v : Option Value) (h : Heap) (L : List Loc) : Prop := v = some (.int 1) ∧ Fr n0 L ∧ h = h0
theorem rm9_75 (l : Launch) {Z : State} {a0 : Array Value} (hw : own_W Z a0) (a1 a2 : Addr) (p3 p4 : Int32) (kc5 : ClassId) (kc8 : ClassId) (h0 : Heap) (n0 : Nat) (Z0 : n0 ≤ h0.size) (F6 : Arv Z h0 a1 kc5 .byte (2 : Int32) [(.int p3), (.int p4)] (.int (0 : Int32))) (F9 : Arv Z h0 a2 kc8 .byte (2 : Int32) [(.int 46), (.int 46)] (.int (0 : Int32))) (hc16 : p3 = (46 : Int32)) (hc22 : p4 = (46 : Int32)) :
    own_MF l zm6 c_9 3 (some .boolean) (own_R 0 0 0 0) #[(.ref a1), (.ref a2)] Z h0 (Q9_75 Z a1 a2 p3 p4 kc5 kc8 h0 n0) := by
  refine own_st (L := (lc19 a1 a2)) (own := zs9) (plainFor_of_name pn_3) rfl (fun m => ef_6 m a1 a2) fun p e s m below meth c s₁ Bd hml hZ hh hx hby hown hnm X0 e0 => ?_
  have N0 := Fr.nil n0
  refine own_go (U' := s₁.setTop (mkF m 1 (lc19 a1 a2) [(.ref a1)])) (fun t k => oaloadN X0 hx hby d9_0 rfl rfl k) ?_
  obtain ⟨cl7, Ar7, q7, S7, N7, H7, G7⟩ := id F6
  refine own_go (fun t k => X0.arraylength hx (own_at e0 Ar7.1) (State.isArrayOf_alike hZ.alike Ar7.2.1) (g := (mkF m 1 (lc19 a1 a2) [(.ref a1)])) rfl rfl (hb hby d9_1) _ k) ?_
  rw [len_of S7 N7]
  refine own_go (U' := s₁.setTop (mkF m 3 (lc19 a1 a2) [(.ref a2), (.int 2)])) (fun t k => oaloadN X0 hx hby d9_2 rfl rfl k) ?_
  obtain ⟨cl10, Ar10, q10, S10, N10, H10, G10⟩ := id F9
  refine own_go (fun t k => X0.arraylength hx (own_at e0 Ar10.1) (State.isArrayOf_alike hZ.alike Ar10.2.1) (g := (mkF m 3 (lc19 a1 a2) [(.ref a2), (.int 2)])) rfl rfl (hb hby d9_3) _ k) ?_
  rw [len_of S10 N10]
  refine own_go (U' := s₁.setTop (mkF m 11 (lc21 a1 a2 0) [(.ref a1), (.int 0)])) (fun t k => oicN X0 hx hby d9_4 (by decide) (oiconst X0 hx hby d9_7 (oistoreN X0 hx hby d9_8 (lc21 a1 a2 0) rfl (oiloadN X0 hx hby d9_9 rfl (oaloadN X0 hx hby d9_10 rfl rfl k))))) ?_
  obtain ⟨cl11, Ar11, q11, S11, N11, H11, G11⟩ := id F6
  refine own_go (fun t k => X0.arraylength hx (own_at e0 Ar11.1) (State.isArrayOf_alike hZ.alike Ar11.2.1) (g := (mkF m 11 (lc21 a1 a2 0) [(.ref a1), (.int 0)])) rfl rfl (hb hby d9_11) _ k) ?_
  rw [len_of S11 N11]
  obtain ⟨cl12, Ar12, q12, S12, N12, H12, G12⟩ := id F6
  have hin13 : ¬ ((0 : Int32) < 0 ∨ cl12.slots.size ≤ ((0 : Int32)).toNatClampNeg) := inb_of S12 ⟨by decide, by decide⟩
  have hat13 : cl12.slots[((0 : Int32)).toNatClampNeg]? = some (.int p3) := Has.at H12 hin13 rfl
  obtain ⟨cl14, Ar14, q14, S14, N14, H14, G14⟩ := id F9
  have hin15 : ¬ ((0 : Int32) < 0 ∨ cl14.slots.size ≤ ((0 : Int32)).toNatClampNeg) := inb_of S14 ⟨by decide, by decide⟩
  have hat15 : cl14.slots[((0 : Int32)).toNatClampNeg]? = some (.int 46) := Has.at H14 hin15 rfl
  refine own_go (U' := s₁.setTop (mkF m 21 (lc21 a1 a2 0) [(.int 46), (.int p3)])) (fun t k => oicN X0 hx hby d9_12 (by decide) (oaloadN X0 hx hby d9_15 rfl rfl (oiloadN X0 hx hby d9_16 rfl (X0.baloadBytes hx (j := (0 : Int32)) (v := (.int p3)) (own_at e0 Ar12.1) (State.isArrayOf_alike hZ.alike Ar12.2.1) Ar12.2.2 hin13 hat13 (g := (mkF m 17 (lc21 a1 a2 0) [(.int 0), (.ref a1)])) rfl rfl (hb hby d9_17) _ (oaloadN X0 hx hby d9_18 rfl rfl (oiloadN X0 hx hby d9_19 rfl (X0.baloadBytes hx (j := (0 : Int32)) (v := (.int 46)) (own_at e0 Ar14.1) (State.isArrayOf_alike hZ.alike Ar14.2.1) Ar14.2.2 hin15 hat15 (g := (mkF m 20 (lc21 a1 a2 0) [(.int 0), (.ref a2), (.int p3)])) rfl rfl (hb hby d9_20) _ k))))))) ?_
  refine own_go (U' := s₁.setTop (mkF m 11 (lc21 a1 a2 1) [(.ref a1), (.int 1)])) (fun t k => oicY (pc := 21) X0 hx hby d9_21 26 (teq hc16).1 (by decide) (oiinc X0 hx hby d9_26 (lc21 a1 a2 1) rfl rfl (ogoto (pc := 29) X0 hx hby d9_29 9 (by decide) (oiloadN X0 hx hby d9_9 rfl (oaloadN X0 hx hby d9_10 rfl rfl k))))) ?_
  obtain ⟨cl17, Ar17, q17, S17, N17, H17, G17⟩ := id F6
  refine own_go (fun t k => X0.arraylength hx (own_at e0 Ar17.1) (State.isArrayOf_alike hZ.alike Ar17.2.1) (g := (mkF m 11 (lc21 a1 a2 1) [(.ref a1), (.int 1)])) rfl rfl (hb hby d9_11) _ k) ?_
  rw [len_of S17 N17]
  obtain ⟨cl18, Ar18, q18, S18, N18, H18, G18⟩ := id F6
  have hin19 : ¬ ((1 : Int32) < 0 ∨ cl18.slots.size ≤ ((1 : Int32)).toNatClampNeg) := inb_of S18 ⟨by decide, by decide⟩
  have hat19 : cl18.slots[((1 : Int32)).toNatClampNeg]? = some (.int p4) := Has.at H18 hin19 rfl
  obtain ⟨cl20, Ar20, q20, S20, N20, H20, G20⟩ := id F9
  have hin21 : ¬ ((1 : Int32) < 0 ∨ cl20.slots.size ≤ ((1 : Int32)).toNatClampNeg) := inb_of S20 ⟨by decide, by decide⟩
  have hat21 : cl20.slots[((1 : Int32)).toNatClampNeg]? = some (.int 46) := Has.at H20 hin21 rfl
  refine own_go (U' := s₁.setTop (mkF m 21 (lc21 a1 a2 1) [(.int 46), (.int p4)])) (fun t k => oicN X0 hx hby d9_12 (by decide) (oaloadN X0 hx hby d9_15 rfl rfl (oiloadN X0 hx hby d9_16 rfl (X0.baloadBytes hx (j := (1 : Int32)) (v := (.int p4)) (own_at e0 Ar18.1) (State.isArrayOf_alike hZ.alike Ar18.2.1) Ar18.2.2 hin19 hat19 (g := (mkF m 17 (lc21 a1 a2 1) [(.int 1), (.ref a1)])) rfl rfl (hb hby d9_17) _ (oaloadN X0 hx hby d9_18 rfl rfl (oiloadN X0 hx hby d9_19 rfl (X0.baloadBytes hx (j := (1 : Int32)) (v := (.int 46)) (own_at e0 Ar20.1) (State.isArrayOf_alike hZ.alike Ar20.2.1) Ar20.2.2 hin21 hat21 (g := (mkF m 20 (lc21 a1 a2 1) [(.int 1), (.ref a2), (.int p4)])) rfl rfl (hb hby d9_20) _ k))))))) ?_
  refine own_go (U' := s₁.setTop (mkF m 11 (lc21 a1 a2 2) [(.ref a1), (.int 2)])) (fun t k => oicY (pc := 21) X0 hx hby d9_21 26 (teq hc22).1 (by decide) (oiinc X0 hx hby d9_26 (lc21 a1 a2 2) rfl rfl (ogoto (pc := 29) X0 hx hby d9_29 9 (by decide) (oiloadN X0 hx hby d9_9 rfl (oaloadN X0 hx hby d9_10 rfl rfl k))))) ?_
  obtain ⟨cl23, Ar23, q23, S23, N23, H23, G23⟩ := id F6
  refine own_go (fun t k => X0.arraylength hx (own_at e0 Ar23.1) (State.isArrayOf_alike hZ.alike Ar23.2.1) (g := (mkF m 11 (lc21 a1 a2 2) [(.ref a1), (.int 2)])) rfl rfl (hb hby d9_11) _ k) ?_
  rw [len_of S23 N23]
  refine own_go (U' := s₁.setTop (mkF m 33 (lc21 a1 a2 2) [(.int 1)])) (fun t k => oicY (pc := 12) X0 hx hby d9_12 32 (by decide) (by decide) (oiconst X0 hx hby d9_32 k)) ?_
  obtain ⟨fs, hr, hrun, hended, hW, hsame⟩ := X0.leave (v := some (.int 1)) (fun h => by rw [Bd.returns] at h; cases h)
  refine own_out ⟨_, _, ?_, hrun, hended, _, _, rfl, ?_, ⟨_, rfl⟩, hW, hsame.mono (by decide) (by decide)⟩
  · exact retN X0 hx (t := .boolean) Bd.returns (by simp) (hb hby d9_33) hr
  · show Q9_75 Z a1 a2 p3 p4 kc5 kc8 h0 n0 _ s₁.heap _
    rw [e0]
    exact ⟨rfl, N0, rfl⟩
def Q9_76 (Z : State) (a1 a2 : Addr) (p3 p4 : Int32) (kc5 : ClassId) (kc8 : ClassId) (h0 : Heap) (n0 : Nat) (v : Option Value) (h : Heap) (L : List Loc) : Prop := v = some (.int 0) ∧ Fr n0 L ∧ h = h0
theorem rm9_76 (l : Launch) {Z : State} {a0 : Array Value} (hw : own_W Z a0) (a1 a2 : Addr) (p3 p4 : Int32) (kc5 : ClassId) (kc8 : ClassId) (h0 : Heap) (n0 : Nat) (Z0 : n0 ≤ h0.size) (F6 : Arv Z h0 a1 kc5 .byte (2 : Int32) [(.int p3), (.int p4)] (.int (0 : Int32))) (F9 : Arv Z h0 a2 kc8 .byte (2 : Int32) [(.int 46), (.int 46)] (.int (0 : Int32))) (hc16 : p3 = (46 : Int32)) (hc22 : ¬ (p4 = (46 : Int32))) :
    own_MF l zm6 c_9 3 (some .boolean) (own_R 0 0 0 0) #[(.ref a1), (.ref a2)] Z h0 (Q9_76 Z a1 a2 p3 p4 kc5 kc8 h0 n0) := by
  refine own_st (L := (lc19 a1 a2)) (own := zs9) (plainFor_of_name pn_3) rfl (fun m => ef_6 m a1 a2) fun p e s m below meth c s₁ Bd hml hZ hh hx hby hown hnm X0 e0 => ?_
  have N0 := Fr.nil n0
  refine own_go (U' := s₁.setTop (mkF m 1 (lc19 a1 a2) [(.ref a1)])) (fun t k => oaloadN X0 hx hby d9_0 rfl rfl k) ?_
  obtain ⟨cl7, Ar7, q7, S7, N7, H7, G7⟩ := id F6
  refine own_go (fun t k => X0.arraylength hx (own_at e0 Ar7.1) (State.isArrayOf_alike hZ.alike Ar7.2.1) (g := (mkF m 1 (lc19 a1 a2) [(.ref a1)])) rfl rfl (hb hby d9_1) _ k) ?_
  rw [len_of S7 N7]
  refine own_go (U' := s₁.setTop (mkF m 3 (lc19 a1 a2) [(.ref a2), (.int 2)])) (fun t k => oaloadN X0 hx hby d9_2 rfl rfl k) ?_
  obtain ⟨cl10, Ar10, q10, S10, N10, H10, G10⟩ := id F9
  refine own_go (fun t k => X0.arraylength hx (own_at e0 Ar10.1) (State.isArrayOf_alike hZ.alike Ar10.2.1) (g := (mkF m 3 (lc19 a1 a2) [(.ref a2), (.int 2)])) rfl rfl (hb hby d9_3) _ k) ?_
  rw [len_of S10 N10]
  refine own_go (U' := s₁.setTop (mkF m 11 (lc21 a1 a2 0) [(.ref a1), (.int 0)])) (fun t k => oicN X0 hx hby d9_4 (by decide) (oiconst X0 hx hby d9_7 (oistoreN X0 hx hby d9_8 (lc21 a1 a2 0) rfl (oiloadN X0 hx hby d9_9 rfl (oaloadN X0 hx hby d9_10 rfl rfl k))))) ?_
  obtain ⟨cl11, Ar11, q11, S11, N11, H11, G11⟩ := id F6
  refine own_go (fun t k => X0.arraylength hx (own_at e0 Ar11.1) (State.isArrayOf_alike hZ.alike Ar11.2.1) (g := (mkF m 11 (lc21 a1 a2 0) [(.ref a1), (.int 0)])) rfl rfl (hb hby d9_11) _ k) ?_
  rw [len_of S11 N11]
  obtain ⟨cl12, Ar12, q12, S12, N12, H12, G12⟩ := id F6
  have hin13 : ¬ ((0 : Int32) < 0 ∨ cl12.slots.size ≤ ((0 : Int32)).toNatClampNeg) := inb_of S12 ⟨by decide, by decide⟩
  have hat13 : cl12.slots[((0 : Int32)).toNatClampNeg]? = some (.int p3) := Has.at H12 hin13 rfl
  obtain ⟨cl14, Ar14, q14, S14, N14, H14, G14⟩ := id F9
  have hin15 : ¬ ((0 : Int32) < 0 ∨ cl14.slots.size ≤ ((0 : Int32)).toNatClampNeg) := inb_of S14 ⟨by decide, by decide⟩
  have hat15 : cl14.slots[((0 : Int32)).toNatClampNeg]? = some (.int 46) := Has.at H14 hin15 rfl
  refine own_go (U' := s₁.setTop (mkF m 21 (lc21 a1 a2 0) [(.int 46), (.int p3)])) (fun t k => oicN X0 hx hby d9_12 (by decide) (oaloadN X0 hx hby d9_15 rfl rfl (oiloadN X0 hx hby d9_16 rfl (X0.baloadBytes hx (j := (0 : Int32)) (v := (.int p3)) (own_at e0 Ar12.1) (State.isArrayOf_alike hZ.alike Ar12.2.1) Ar12.2.2 hin13 hat13 (g := (mkF m 17 (lc21 a1 a2 0) [(.int 0), (.ref a1)])) rfl rfl (hb hby d9_17) _ (oaloadN X0 hx hby d9_18 rfl rfl (oiloadN X0 hx hby d9_19 rfl (X0.baloadBytes hx (j := (0 : Int32)) (v := (.int 46)) (own_at e0 Ar14.1) (State.isArrayOf_alike hZ.alike Ar14.2.1) Ar14.2.2 hin15 hat15 (g := (mkF m 20 (lc21 a1 a2 0) [(.int 0), (.ref a2), (.int p3)])) rfl rfl (hb hby d9_20) _ k))))))) ?_
  refine own_go (U' := s₁.setTop (mkF m 11 (lc21 a1 a2 1) [(.ref a1), (.int 1)])) (fun t k => oicY (pc := 21) X0 hx hby d9_21 26 (teq hc16).1 (by decide) (oiinc X0 hx hby d9_26 (lc21 a1 a2 1) rfl rfl (ogoto (pc := 29) X0 hx hby d9_29 9 (by decide) (oiloadN X0 hx hby d9_9 rfl (oaloadN X0 hx hby d9_10 rfl rfl k))))) ?_
  obtain ⟨cl17, Ar17, q17, S17, N17, H17, G17⟩ := id F6
  refine own_go (fun t k => X0.arraylength hx (own_at e0 Ar17.1) (State.isArrayOf_alike hZ.alike Ar17.2.1) (g := (mkF m 11 (lc21 a1 a2 1) [(.ref a1), (.int 1)])) rfl rfl (hb hby d9_11) _ k) ?_
  rw [len_of S17 N17]
  obtain ⟨cl18, Ar18, q18, S18, N18, H18, G18⟩ := id F6
  have hin19 : ¬ ((1 : Int32) < 0 ∨ cl18.slots.size ≤ ((1 : Int32)).toNatClampNeg) := inb_of S18 ⟨by decide, by decide⟩
  have hat19 : cl18.slots[((1 : Int32)).toNatClampNeg]? = some (.int p4) := Has.at H18 hin19 rfl
  obtain ⟨cl20, Ar20, q20, S20, N20, H20, G20⟩ := id F9
  have hin21 : ¬ ((1 : Int32) < 0 ∨ cl20.slots.size ≤ ((1 : Int32)).toNatClampNeg) := inb_of S20 ⟨by decide, by decide⟩
  have hat21 : cl20.slots[((1 : Int32)).toNatClampNeg]? = some (.int 46) := Has.at H20 hin21 rfl
  refine own_go (U' := s₁.setTop (mkF m 21 (lc21 a1 a2 1) [(.int 46), (.int p4)])) (fun t k => oicN X0 hx hby d9_12 (by decide) (oaloadN X0 hx hby d9_15 rfl rfl (oiloadN X0 hx hby d9_16 rfl (X0.baloadBytes hx (j := (1 : Int32)) (v := (.int p4)) (own_at e0 Ar18.1) (State.isArrayOf_alike hZ.alike Ar18.2.1) Ar18.2.2 hin19 hat19 (g := (mkF m 17 (lc21 a1 a2 1) [(.int 1), (.ref a1)])) rfl rfl (hb hby d9_17) _ (oaloadN X0 hx hby d9_18 rfl rfl (oiloadN X0 hx hby d9_19 rfl (X0.baloadBytes hx (j := (1 : Int32)) (v := (.int 46)) (own_at e0 Ar20.1) (State.isArrayOf_alike hZ.alike Ar20.2.1) Ar20.2.2 hin21 hat21 (g := (mkF m 20 (lc21 a1 a2 1) [(.int 1), (.ref a2), (.int p4)])) rfl rfl (hb hby d9_20) _ k))))))) ?_
  refine own_go (U' := s₁.setTop (mkF m 25 (lc21 a1 a2 1) [(.int 0)])) (fun t k => oicN X0 hx hby d9_21 (feq hc22).1 (oiconst X0 hx hby d9_24 k)) ?_
  obtain ⟨fs, hr, hrun, hended, hW, hsame⟩ := X0.leave (v := some (.int 0)) (fun h => by rw [Bd.returns] at h; cases h)
  refine own_out ⟨_, _, ?_, hrun, hended, _, _, rfl, ?_, ⟨_, rfl⟩, hW, hsame.mono (by decide) (by decide)⟩
  · exact retN X0 hx (t := .boolean) Bd.returns (by simp) (hb hby d9_25) hr
  · show Q9_76 Z a1 a2 p3 p4 kc5 kc8 h0 n0 _ s₁.heap _
    rw [e0]
    exact ⟨rfl, N0, rfl⟩
def Q9_77 (Z : State) (a1 a2 : Addr) (p3 p4 : Int32) (kc5 : ClassId) (kc8 : ClassId) (h0 : Heap) (n0 : Nat) (v : Option Value) (h : Heap) (L : List Loc) : Prop := v = some (.int 0) ∧ Fr n0 L ∧ h = h0
theorem rm9_77 (l : Launch) {Z : State} {a0 : Array Value} (hw : own_W Z a0) (a1 a2 : Addr) (p3 p4 : Int32) (kc5 : ClassId) (kc8 : ClassId) (h0 : Heap) (n0 : Nat) (Z0 : n0 ≤ h0.size) (F6 : Arv Z h0 a1 kc5 .byte (2 : Int32) [(.int p3), (.int p4)] (.int (0 : Int32))) (F9 : Arv Z h0 a2 kc8 .byte (2 : Int32) [(.int 46), (.int 46)] (.int (0 : Int32))) (hc16 : ¬ (p3 = (46 : Int32))) :
    own_MF l zm6 c_9 3 (some .boolean) (own_R 0 0 0 0) #[(.ref a1), (.ref a2)] Z h0 (Q9_77 Z a1 a2 p3 p4 kc5 kc8 h0 n0) := by
  refine own_st (L := (lc19 a1 a2)) (own := zs9) (plainFor_of_name pn_3) rfl (fun m => ef_6 m a1 a2) fun p e s m below meth c s₁ Bd hml hZ hh hx hby hown hnm X0 e0 => ?_
  have N0 := Fr.nil n0
  refine own_go (U' := s₁.setTop (mkF m 1 (lc19 a1 a2) [(.ref a1)])) (fun t k => oaloadN X0 hx hby d9_0 rfl rfl k) ?_
  obtain ⟨cl7, Ar7, q7, S7, N7, H7, G7⟩ := id F6
  refine own_go (fun t k => X0.arraylength hx (own_at e0 Ar7.1) (State.isArrayOf_alike hZ.alike Ar7.2.1) (g := (mkF m 1 (lc19 a1 a2) [(.ref a1)])) rfl rfl (hb hby d9_1) _ k) ?_
  rw [len_of S7 N7]
  refine own_go (U' := s₁.setTop (mkF m 3 (lc19 a1 a2) [(.ref a2), (.int 2)])) (fun t k => oaloadN X0 hx hby d9_2 rfl rfl k) ?_
  obtain ⟨cl10, Ar10, q10, S10, N10, H10, G10⟩ := id F9
  refine own_go (fun t k => X0.arraylength hx (own_at e0 Ar10.1) (State.isArrayOf_alike hZ.alike Ar10.2.1) (g := (mkF m 3 (lc19 a1 a2) [(.ref a2), (.int 2)])) rfl rfl (hb hby d9_3) _ k) ?_
  rw [len_of S10 N10]
  refine own_go (U' := s₁.setTop (mkF m 11 (lc21 a1 a2 0) [(.ref a1), (.int 0)])) (fun t k => oicN X0 hx hby d9_4 (by decide) (oiconst X0 hx hby d9_7 (oistoreN X0 hx hby d9_8 (lc21 a1 a2 0) rfl (oiloadN X0 hx hby d9_9 rfl (oaloadN X0 hx hby d9_10 rfl rfl k))))) ?_
  obtain ⟨cl11, Ar11, q11, S11, N11, H11, G11⟩ := id F6
  refine own_go (fun t k => X0.arraylength hx (own_at e0 Ar11.1) (State.isArrayOf_alike hZ.alike Ar11.2.1) (g := (mkF m 11 (lc21 a1 a2 0) [(.ref a1), (.int 0)])) rfl rfl (hb hby d9_11) _ k) ?_
  rw [len_of S11 N11]
  obtain ⟨cl12, Ar12, q12, S12, N12, H12, G12⟩ := id F6
  have hin13 : ¬ ((0 : Int32) < 0 ∨ cl12.slots.size ≤ ((0 : Int32)).toNatClampNeg) := inb_of S12 ⟨by decide, by decide⟩
  have hat13 : cl12.slots[((0 : Int32)).toNatClampNeg]? = some (.int p3) := Has.at H12 hin13 rfl
  obtain ⟨cl14, Ar14, q14, S14, N14, H14, G14⟩ := id F9
  have hin15 : ¬ ((0 : Int32) < 0 ∨ cl14.slots.size ≤ ((0 : Int32)).toNatClampNeg) := inb_of S14 ⟨by decide, by decide⟩
  have hat15 : cl14.slots[((0 : Int32)).toNatClampNeg]? = some (.int 46) := Has.at H14 hin15 rfl
  refine own_go (U' := s₁.setTop (mkF m 21 (lc21 a1 a2 0) [(.int 46), (.int p3)])) (fun t k => oicN X0 hx hby d9_12 (by decide) (oaloadN X0 hx hby d9_15 rfl rfl (oiloadN X0 hx hby d9_16 rfl (X0.baloadBytes hx (j := (0 : Int32)) (v := (.int p3)) (own_at e0 Ar12.1) (State.isArrayOf_alike hZ.alike Ar12.2.1) Ar12.2.2 hin13 hat13 (g := (mkF m 17 (lc21 a1 a2 0) [(.int 0), (.ref a1)])) rfl rfl (hb hby d9_17) _ (oaloadN X0 hx hby d9_18 rfl rfl (oiloadN X0 hx hby d9_19 rfl (X0.baloadBytes hx (j := (0 : Int32)) (v := (.int 46)) (own_at e0 Ar14.1) (State.isArrayOf_alike hZ.alike Ar14.2.1) Ar14.2.2 hin15 hat15 (g := (mkF m 20 (lc21 a1 a2 0) [(.int 0), (.ref a2), (.int p3)])) rfl rfl (hb hby d9_20) _ k))))))) ?_
  refine own_go (U' := s₁.setTop (mkF m 25 (lc21 a1 a2 0) [(.int 0)])) (fun t k => oicN X0 hx hby d9_21 (feq hc16).1 (oiconst X0 hx hby d9_24 k)) ?_
  obtain ⟨fs, hr, hrun, hended, hW, hsame⟩ := X0.leave (v := some (.int 0)) (fun h => by rw [Bd.returns] at h; cases h)
  refine own_out ⟨_, _, ?_, hrun, hended, _, _, rfl, ?_, ⟨_, rfl⟩, hW, hsame.mono (by decide) (by decide)⟩
  · exact retN X0 hx (t := .boolean) Bd.returns (by simp) (hb hby d9_25) hr
  · show Q9_77 Z a1 a2 p3 p4 kc5 kc8 h0 n0 _ s₁.heap _
    rw [e0]
    exact ⟨rfl, N0, rfl⟩
def Q8_78 (Z : State) (a1 a2 : Addr) (p7 : Int32) (a15 a18 : Addr) (p22 p23 : Int32) (kc24 : ClassId) (kc26 : ClassId) (h0 : Heap) (n0 : Nat) (v : Option Value) (h : Heap) (L : List Loc) : Prop := v = some (.int (own_dot2 p22 p23)) ∧ Fr n0 L ∧ h = h0
theorem rm8_78 (l : Launch) {Z : State} {a0 : Array Value} (hw : own_W Z a0) (a1 a2 : Addr) (p7 : Int32) (a15 a18 : Addr) (p22 p23 : Int32) (kc24 : ClassId) (kc26 : ClassId) (h0 : Heap) (n0 : Nat) (Z0 : n0 ≤ h0.size) (ha3 : a1 ≠ a2) (F4 : Exa Z h0 a2 zs6) (F8 : Sta Z h0 zs6 zs7 "Z" (.int p7)) (hc10 : ¬ (p7 = (0 : Int32))) (F11 : Fld Z h0 a1 zs6 "coder" "B" (.int 0)) (F13 : Fld Z h0 a2 zs6 "coder" "B" (.int 0)) (F16 : Fld Z h0 a1 zs6 "value" "[B" (.ref a15)) (F19 : Fld Z h0 a2 zs6 "value" "[B" (.ref a18)) (F25 : Arv Z h0 a15 kc24 .byte (2 : Int32) [(.int p22), (.int p23)] (.int (0 : Int32))) (F27 : Arv Z h0 a18 kc26 .byte (2 : Int32) [(.int 46), (.int 46)] (.int (0 : Int32))) (hc28 : p22 = (46 : Int32)) (hc29 : p23 = (46 : Int32)) :
    own_MF l zm7 c_8 3 (some .boolean) (own_R 1 0 0 14) #[(.ref a1), (.ref a2)] Z h0 (Q8_78 Z a1 a2 p7 a15 a18 p22 p23 kc24 kc26 h0 n0) := by
  refine own_st (L := (lc19 a1 a2)) (own := zs6) (plainFor_of_name pn_2) rfl (fun m => ef_6 m a1 a2) fun p e s m below meth c s₁ Bd hml hZ hh hx hby hown hnm X0 e0 => ?_
  have N0 := Fr.nil n0
  obtain ⟨T5, X5, e5, st5⟩ := instY X0 hx hZ hown (ww hw 43 rfl) e0 (Ins.self F4) (g := (mkF m 8 (lc19 a1 a2) [(.ref a2)])) rfl rfl (hb hby d8_8)
  refine own_go (U' := T5.setTop (mkF m 11 (lc19 a1 a2) [(.int 1)])) (fun t k => oaloadN X0 hx hby d8_0 rfl rfl (oaloadN X0 hx hby d8_1 rfl rfl (oacmp (pc := 2) X0 hx hby d8_2 7 (same := false) rfl rfl (decide_eq_false fun q => ha3 (Value.ref.inj q)) (by decide) (oaloadN X0 hx hby d8_7 rfl rfl (st5 _ k))))) ?_
  obtain ⟨T6, X6, e6, st6⟩ := castY X5 hx hZ hown (ww hw 43 rfl) e5 (Ins.self F4) (g := (mkF m 15 (lc19 a1 a2) [(.ref a2)])) rfl rfl (hb hby d8_15)
  obtain ⟨T9, X9, e9, st9⟩ := getS2 X6 hx hZ hown (host := "") (Or.inl (ww hw 19 rfl)) Via.refl e6 F8 (g := (mkF m 19 (lc20 a1 a2 a2) [])) rfl (hb hby d8_19)
  refine own_go (U' := T9.setTop (mkF m 22 (lc20 a1 a2 a2) [(.int p7)])) (fun t k => oifN X5 hx hby d8_11 (by decide) (oaloadN X5 hx hby d8_14 rfl rfl (st6 _ (oastoreN X6 hx hby d8_18 (lc20 a1 a2 a2) rfl rfl (st9 _ k))))) ?_
  obtain ⟨T12, X12, e12, st12⟩ := getF X9 hx hZ hown (host := "") (Or.inl (ww hw 31 rfl)) Via.refl e9 F11 (g := (mkF m 26 (lc20 a1 a2 a2) [(.ref a1)])) rfl rfl (hb hby d8_26)
  obtain ⟨T14, X14, e14, st14⟩ := getF X12 hx hZ hown (host := "") (Or.inl (ww hw 31 rfl)) Via.refl e12 F13 (g := (mkF m 30 (lc20 a1 a2 a2) [(.ref a2), (.int 0)])) rfl rfl (hb hby d8_30)
  refine own_go (U' := T14.setTop (mkF m 33 (lc20 a1 a2 a2) [(.int 0), (.int 0)])) (fun t k => oifN X9 hx hby d8_22 ((if0 _ _).trans (feq hc10).1) (oaloadN X9 hx hby d8_25 rfl rfl (st12 _ (oaloadN X12 hx hby d8_29 rfl rfl (st14 _ k))))) ?_
  obtain ⟨T17, X17, e17, st17⟩ := getF X14 hx hZ hown (host := "") (Or.inl (ww hw 33 rfl)) Via.refl e14 F16 (g := (mkF m 37 (lc20 a1 a2 a2) [(.ref a1)])) rfl rfl (hb hby d8_37)
  obtain ⟨T20, X20, e20, st20⟩ := getF X17 hx hZ hown (host := "") (Or.inl (ww hw 33 rfl)) Via.refl e17 F19 (g := (mkF m 41 (lc20 a1 a2 a2) [(.ref a2), (.ref a15)])) rfl rfl (hb hby d8_41)
  obtain ⟨_, T21, L21, X21, hQ21, st21⟩ := ocallS X20 hx hZ zm6 hown (ww hw 44 rfl) (ww hw 45 rfl) (by decide) (ww hw 47 rfl) (ww hw 46 rfl) e20 (rm9_75 l hw a15 a18 p22 p23 kc24 kc26 h0 n0 Z0 F25 F27 hc28 hc29) (st := [(.ref a18), (.ref a15)]) rfl 0 rfl (by decide) (pc := 44) (Ls := (lc20 a1 a2 a2)) hml rfl (lenOf pd_6 rfl) d8_44 hby
  obtain ⟨rfl, N21q, e21⟩ := hQ21
  have N30 := Fr.app N0 N21q
  refine own_go (U' := T21.setTop (mkF m 47 (lc20 a1 a2 a2) [(.int 1)])) (fun t k => oicN X14 hx hby d8_33 (by decide) (oaloadN X14 hx hby d8_36 rfl rfl (st17 _ (oaloadN X17 hx hby d8_40 rfl rfl (st20 _ (st21 _ k)))))) ?_
  refine own_go (U' := T21.setTop (mkF m 55 (lc20 a1 a2 a2) [(.int 1)])) (fun t k => oifN X21 hx hby d8_47 (by decide) (oiconst X21 hx hby d8_50 (ogoto (pc := 51) X21 hx hby d8_51 55 (by decide) k))) ?_
  obtain ⟨fs, hr, hrun, hended, hW, hsame⟩ := X21.leave (v := some (.int 1)) (fun h => by rw [Bd.returns] at h; cases h)
  refine own_out ⟨_, _, ?_, hrun, hended, _, _, rfl, ?_, ⟨_, rfl⟩, hW, hsame.mono (by decide) (by decide)⟩
  · exact retN X21 hx (t := .boolean) Bd.returns (by simp) (hb hby d8_55) hr
  · show Q8_78 Z a1 a2 p7 a15 a18 p22 p23 kc24 kc26 h0 n0 _ T21.heap _
    rw [e21]
    exact ⟨(by simp [own_dot2, hc10, hc28, hc29]), N30, rfl⟩
def Q8_79 (Z : State) (a1 a2 : Addr) (p7 : Int32) (a15 a18 : Addr) (p22 p23 : Int32) (kc24 : ClassId) (kc26 : ClassId) (h0 : Heap) (n0 : Nat) (v : Option Value) (h : Heap) (L : List Loc) : Prop := v = some (.int (own_dot2 p22 p23)) ∧ Fr n0 L ∧ h = h0
theorem rm8_79 (l : Launch) {Z : State} {a0 : Array Value} (hw : own_W Z a0) (a1 a2 : Addr) (p7 : Int32) (a15 a18 : Addr) (p22 p23 : Int32) (kc24 : ClassId) (kc26 : ClassId) (h0 : Heap) (n0 : Nat) (Z0 : n0 ≤ h0.size) (ha3 : a1 ≠ a2) (F4 : Exa Z h0 a2 zs6) (F8 : Sta Z h0 zs6 zs7 "Z" (.int p7)) (hc10 : ¬ (p7 = (0 : Int32))) (F11 : Fld Z h0 a1 zs6 "coder" "B" (.int 0)) (F13 : Fld Z h0 a2 zs6 "coder" "B" (.int 0)) (F16 : Fld Z h0 a1 zs6 "value" "[B" (.ref a15)) (F19 : Fld Z h0 a2 zs6 "value" "[B" (.ref a18)) (F25 : Arv Z h0 a15 kc24 .byte (2 : Int32) [(.int p22), (.int p23)] (.int (0 : Int32))) (F27 : Arv Z h0 a18 kc26 .byte (2 : Int32) [(.int 46), (.int 46)] (.int (0 : Int32))) (hc28 : p22 = (46 : Int32)) (hc29 : ¬ (p23 = (46 : Int32))) :
    own_MF l zm7 c_8 3 (some .boolean) (own_R 1 0 0 14) #[(.ref a1), (.ref a2)] Z h0 (Q8_79 Z a1 a2 p7 a15 a18 p22 p23 kc24 kc26 h0 n0) := by
  refine own_st (L := (lc19 a1 a2)) (own := zs6) (plainFor_of_name pn_2) rfl (fun m => ef_6 m a1 a2) fun p e s m below meth c s₁ Bd hml hZ hh hx hby hown hnm X0 e0 => ?_
  have N0 := Fr.nil n0
  obtain ⟨T5, X5, e5, st5⟩ := instY X0 hx hZ hown (ww hw 43 rfl) e0 (Ins.self F4) (g := (mkF m 8 (lc19 a1 a2) [(.ref a2)])) rfl rfl (hb hby d8_8)
  refine own_go (U' := T5.setTop (mkF m 11 (lc19 a1 a2) [(.int 1)])) (fun t k => oaloadN X0 hx hby d8_0 rfl rfl (oaloadN X0 hx hby d8_1 rfl rfl (oacmp (pc := 2) X0 hx hby d8_2 7 (same := false) rfl rfl (decide_eq_false fun q => ha3 (Value.ref.inj q)) (by decide) (oaloadN X0 hx hby d8_7 rfl rfl (st5 _ k))))) ?_
  obtain ⟨T6, X6, e6, st6⟩ := castY X5 hx hZ hown (ww hw 43 rfl) e5 (Ins.self F4) (g := (mkF m 15 (lc19 a1 a2) [(.ref a2)])) rfl rfl (hb hby d8_15)
  obtain ⟨T9, X9, e9, st9⟩ := getS2 X6 hx hZ hown (host := "") (Or.inl (ww hw 19 rfl)) Via.refl e6 F8 (g := (mkF m 19 (lc20 a1 a2 a2) [])) rfl (hb hby d8_19)
  refine own_go (U' := T9.setTop (mkF m 22 (lc20 a1 a2 a2) [(.int p7)])) (fun t k => oifN X5 hx hby d8_11 (by decide) (oaloadN X5 hx hby d8_14 rfl rfl (st6 _ (oastoreN X6 hx hby d8_18 (lc20 a1 a2 a2) rfl rfl (st9 _ k))))) ?_
  obtain ⟨T12, X12, e12, st12⟩ := getF X9 hx hZ hown (host := "") (Or.inl (ww hw 31 rfl)) Via.refl e9 F11 (g := (mkF m 26 (lc20 a1 a2 a2) [(.ref a1)])) rfl rfl (hb hby d8_26)
  obtain ⟨T14, X14, e14, st14⟩ := getF X12 hx hZ hown (host := "") (Or.inl (ww hw 31 rfl)) Via.refl e12 F13 (g := (mkF m 30 (lc20 a1 a2 a2) [(.ref a2), (.int 0)])) rfl rfl (hb hby d8_30)
  refine own_go (U' := T14.setTop (mkF m 33 (lc20 a1 a2 a2) [(.int 0), (.int 0)])) (fun t k => oifN X9 hx hby d8_22 ((if0 _ _).trans (feq hc10).1) (oaloadN X9 hx hby d8_25 rfl rfl (st12 _ (oaloadN X12 hx hby d8_29 rfl rfl (st14 _ k))))) ?_
  obtain ⟨T17, X17, e17, st17⟩ := getF X14 hx hZ hown (host := "") (Or.inl (ww hw 33 rfl)) Via.refl e14 F16 (g := (mkF m 37 (lc20 a1 a2 a2) [(.ref a1)])) rfl rfl (hb hby d8_37)
  obtain ⟨T20, X20, e20, st20⟩ := getF X17 hx hZ hown (host := "") (Or.inl (ww hw 33 rfl)) Via.refl e17 F19 (g := (mkF m 41 (lc20 a1 a2 a2) [(.ref a2), (.ref a15)])) rfl rfl (hb hby d8_41)
  obtain ⟨_, T21, L21, X21, hQ21, st21⟩ := ocallS X20 hx hZ zm6 hown (ww hw 44 rfl) (ww hw 45 rfl) (by decide) (ww hw 47 rfl) (ww hw 46 rfl) e20 (rm9_76 l hw a15 a18 p22 p23 kc24 kc26 h0 n0 Z0 F25 F27 hc28 hc29) (st := [(.ref a18), (.ref a15)]) rfl 0 rfl (by decide) (pc := 44) (Ls := (lc20 a1 a2 a2)) hml rfl (lenOf pd_6 rfl) d8_44 hby
  obtain ⟨rfl, N21q, e21⟩ := hQ21
  have N30 := Fr.app N0 N21q
  refine own_go (U' := T21.setTop (mkF m 47 (lc20 a1 a2 a2) [(.int 0)])) (fun t k => oicN X14 hx hby d8_33 (by decide) (oaloadN X14 hx hby d8_36 rfl rfl (st17 _ (oaloadN X17 hx hby d8_40 rfl rfl (st20 _ (st21 _ k)))))) ?_
  refine own_go (U' := T21.setTop (mkF m 55 (lc20 a1 a2 a2) [(.int 0)])) (fun t k => oifY (pc := 47) X21 hx hby d8_47 54 (by decide) (by decide) (oiconst X21 hx hby d8_54 k)) ?_
  obtain ⟨fs, hr, hrun, hended, hW, hsame⟩ := X21.leave (v := some (.int 0)) (fun h => by rw [Bd.returns] at h; cases h)
  refine own_out ⟨_, _, ?_, hrun, hended, _, _, rfl, ?_, ⟨_, rfl⟩, hW, hsame.mono (by decide) (by decide)⟩
  · exact retN X21 hx (t := .boolean) Bd.returns (by simp) (hb hby d8_55) hr
  · show Q8_79 Z a1 a2 p7 a15 a18 p22 p23 kc24 kc26 h0 n0 _ T21.heap _
    rw [e21]
    exact ⟨(by simp [own_dot2, hc10, hc28, hc29]), N30, rfl⟩
def Q8_80 (Z : State) (a1 a2 : Addr) (p7 : Int32) (a15 a18 : Addr) (p22 p23 : Int32) (kc24 : ClassId) (kc26 : ClassId) (h0 : Heap) (n0 : Nat) (v : Option Value) (h : Heap) (L : List Loc) : Prop := v = some (.int (own_dot2 p22 p23)) ∧ Fr n0 L ∧ h = h0
theorem rm8_80 (l : Launch) {Z : State} {a0 : Array Value} (hw : own_W Z a0) (a1 a2 : Addr) (p7 : Int32) (a15 a18 : Addr) (p22 p23 : Int32) (kc24 : ClassId) (kc26 : ClassId) (h0 : Heap) (n0 : Nat) (Z0 : n0 ≤ h0.size) (ha3 : a1 ≠ a2) (F4 : Exa Z h0 a2 zs6) (F8 : Sta Z h0 zs6 zs7 "Z" (.int p7)) (hc10 : ¬ (p7 = (0 : Int32))) (F11 : Fld Z h0 a1 zs6 "coder" "B" (.int 0)) (F13 : Fld Z h0 a2 zs6 "coder" "B" (.int 0)) (F16 : Fld Z h0 a1 zs6 "value" "[B" (.ref a15)) (F19 : Fld Z h0 a2 zs6 "value" "[B" (.ref a18)) (F25 : Arv Z h0 a15 kc24 .byte (2 : Int32) [(.int p22), (.int p23)] (.int (0 : Int32))) (F27 : Arv Z h0 a18 kc26 .byte (2 : Int32) [(.int 46), (.int 46)] (.int (0 : Int32))) (hc28 : ¬ (p22 = (46 : Int32))) :
    own_MF l zm7 c_8 3 (some .boolean) (own_R 1 0 0 14) #[(.ref a1), (.ref a2)] Z h0 (Q8_80 Z a1 a2 p7 a15 a18 p22 p23 kc24 kc26 h0 n0) := by
  refine own_st (L := (lc19 a1 a2)) (own := zs6) (plainFor_of_name pn_2) rfl (fun m => ef_6 m a1 a2) fun p e s m below meth c s₁ Bd hml hZ hh hx hby hown hnm X0 e0 => ?_
  have N0 := Fr.nil n0
  obtain ⟨T5, X5, e5, st5⟩ := instY X0 hx hZ hown (ww hw 43 rfl) e0 (Ins.self F4) (g := (mkF m 8 (lc19 a1 a2) [(.ref a2)])) rfl rfl (hb hby d8_8)
  refine own_go (U' := T5.setTop (mkF m 11 (lc19 a1 a2) [(.int 1)])) (fun t k => oaloadN X0 hx hby d8_0 rfl rfl (oaloadN X0 hx hby d8_1 rfl rfl (oacmp (pc := 2) X0 hx hby d8_2 7 (same := false) rfl rfl (decide_eq_false fun q => ha3 (Value.ref.inj q)) (by decide) (oaloadN X0 hx hby d8_7 rfl rfl (st5 _ k))))) ?_
  obtain ⟨T6, X6, e6, st6⟩ := castY X5 hx hZ hown (ww hw 43 rfl) e5 (Ins.self F4) (g := (mkF m 15 (lc19 a1 a2) [(.ref a2)])) rfl rfl (hb hby d8_15)
  obtain ⟨T9, X9, e9, st9⟩ := getS2 X6 hx hZ hown (host := "") (Or.inl (ww hw 19 rfl)) Via.refl e6 F8 (g := (mkF m 19 (lc20 a1 a2 a2) [])) rfl (hb hby d8_19)
  refine own_go (U' := T9.setTop (mkF m 22 (lc20 a1 a2 a2) [(.int p7)])) (fun t k => oifN X5 hx hby d8_11 (by decide) (oaloadN X5 hx hby d8_14 rfl rfl (st6 _ (oastoreN X6 hx hby d8_18 (lc20 a1 a2 a2) rfl rfl (st9 _ k))))) ?_
  obtain ⟨T12, X12, e12, st12⟩ := getF X9 hx hZ hown (host := "") (Or.inl (ww hw 31 rfl)) Via.refl e9 F11 (g := (mkF m 26 (lc20 a1 a2 a2) [(.ref a1)])) rfl rfl (hb hby d8_26)
  obtain ⟨T14, X14, e14, st14⟩ := getF X12 hx hZ hown (host := "") (Or.inl (ww hw 31 rfl)) Via.refl e12 F13 (g := (mkF m 30 (lc20 a1 a2 a2) [(.ref a2), (.int 0)])) rfl rfl (hb hby d8_30)
  refine own_go (U' := T14.setTop (mkF m 33 (lc20 a1 a2 a2) [(.int 0), (.int 0)])) (fun t k => oifN X9 hx hby d8_22 ((if0 _ _).trans (feq hc10).1) (oaloadN X9 hx hby d8_25 rfl rfl (st12 _ (oaloadN X12 hx hby d8_29 rfl rfl (st14 _ k))))) ?_
  obtain ⟨T17, X17, e17, st17⟩ := getF X14 hx hZ hown (host := "") (Or.inl (ww hw 33 rfl)) Via.refl e14 F16 (g := (mkF m 37 (lc20 a1 a2 a2) [(.ref a1)])) rfl rfl (hb hby d8_37)
  obtain ⟨T20, X20, e20, st20⟩ := getF X17 hx hZ hown (host := "") (Or.inl (ww hw 33 rfl)) Via.refl e17 F19 (g := (mkF m 41 (lc20 a1 a2 a2) [(.ref a2), (.ref a15)])) rfl rfl (hb hby d8_41)
  obtain ⟨_, T21, L21, X21, hQ21, st21⟩ := ocallS X20 hx hZ zm6 hown (ww hw 44 rfl) (ww hw 45 rfl) (by decide) (ww hw 47 rfl) (ww hw 46 rfl) e20 (rm9_77 l hw a15 a18 p22 p23 kc24 kc26 h0 n0 Z0 F25 F27 hc28) (st := [(.ref a18), (.ref a15)]) rfl 0 rfl (by decide) (pc := 44) (Ls := (lc20 a1 a2 a2)) hml rfl (lenOf pd_6 rfl) d8_44 hby
  obtain ⟨rfl, N21q, e21⟩ := hQ21
  have N29 := Fr.app N0 N21q
  refine own_go (U' := T21.setTop (mkF m 47 (lc20 a1 a2 a2) [(.int 0)])) (fun t k => oicN X14 hx hby d8_33 (by decide) (oaloadN X14 hx hby d8_36 rfl rfl (st17 _ (oaloadN X17 hx hby d8_40 rfl rfl (st20 _ (st21 _ k)))))) ?_
  refine own_go (U' := T21.setTop (mkF m 55 (lc20 a1 a2 a2) [(.int 0)])) (fun t k => oifY (pc := 47) X21 hx hby d8_47 54 (by decide) (by decide) (oiconst X21 hx hby d8_54 k)) ?_
  obtain ⟨fs, hr, hrun, hended, hW, hsame⟩ := X21.leave (v := some (.int 0)) (fun h => by rw [Bd.returns] at h; cases h)
  refine own_out ⟨_, _, ?_, hrun, hended, _, _, rfl, ?_, ⟨_, rfl⟩, hW, hsame.mono (by decide) (by decide)⟩
  · exact retN X21 hx (t := .boolean) Bd.returns (by simp) (hb hby d8_55) hr
  · show Q8_80 Z a1 a2 p7 a15 a18 p22 p23 kc24 kc26 h0 n0 _ T21.heap _
    rw [e21]
    exact ⟨(by simp [own_dot2, hc10, hc28]), N29, rfl⟩
def Qmg8_81 (Z : State) (a1 a2 : Addr) (p5 : Int32) (a10 a12 : Addr) (p14 p15 : Int32) (kc16 : ClassId) (kc18 : ClassId) (h0 : Heap) (n0 : Nat) (v : Option Value) (h : Heap) (L : List Loc) : Prop := v = some (.int (own_dot2 p14 p15)) ∧ Fr n0 L ∧ h = h0
theorem mg8_81 (l : Launch) {Z : State} {a0 : Array Value} (hw : own_W Z a0) (a1 a2 : Addr) (p5 : Int32) (a10 a12 : Addr) (p14 p15 : Int32) (kc16 : ClassId) (kc18 : ClassId) (h0 : Heap) (n0 : Nat) (Z0 : n0 ≤ h0.size) (ha3 : a1 ≠ a2) (F4 : Exa Z h0 a2 zs6) (F6 : Sta Z h0 zs6 zs7 "Z" (.int p5)) (hc7 : ¬ (p5 = (0 : Int32))) (F8 : Fld Z h0 a1 zs6 "coder" "B" (.int 0)) (F9 : Fld Z h0 a2 zs6 "coder" "B" (.int 0)) (F11 : Fld Z h0 a1 zs6 "value" "[B" (.ref a10)) (F13 : Fld Z h0 a2 zs6 "value" "[B" (.ref a12)) (F17 : Arv Z h0 a10 kc16 .byte (2 : Int32) [(.int p14), (.int p15)] (.int (0 : Int32))) (F19 : Arv Z h0 a12 kc18 .byte (2 : Int32) [(.int 46), (.int 46)] (.int (0 : Int32))) :
    own_MF l zm7 c_8 3 (some .boolean) (own_R 1 0 0 14) #[(.ref a1), (.ref a2)] Z h0 (Qmg8_81 Z a1 a2 p5 a10 a12 p14 p15 kc16 kc18 h0 n0) := by
  by_cases hm1 : p14 = (46 : Int32)
  · by_cases hm2 : p15 = (46 : Int32)
    · exact rm8_78 l hw a1 a2 p5 a10 a12 p14 p15 kc16 kc18 h0 n0 Z0 ha3 F4 F6 hc7 F8 F9 F11 F13 F17 F19 hm1 hm2
    · exact rm8_79 l hw a1 a2 p5 a10 a12 p14 p15 kc16 kc18 h0 n0 Z0 ha3 F4 F6 hc7 F8 F9 F11 F13 F17 F19 hm1 hm2
  · exact rm8_80 l hw a1 a2 p5 a10 a12 p14 p15 kc16 kc18 h0 n0 Z0 ha3 F4 F6 hc7 F8 F9 F11 F13 F17 F19 hm1
def Q13_82 (Z : State) (a1 a2 : Addr) (p5 p6 : Int32) (kc7 : ClassId) (h0 : Heap) (n0 : Nat) (v : Option Value) (h : Heap) (L : List Loc) : Prop := v = some (.int 0) ∧ Fr n0 L ∧ h = h0
theorem rm13_82 (l : Launch) {Z : State} {a0 : Array Value} (hw : own_W Z a0) (a1 a2 : Addr) (p5 p6 : Int32) (kc7 : ClassId) (h0 : Heap) (n0 : Nat) (Z0 : n0 ≤ h0.size) (F3 : Fld Z h0 a1 zs6 "value" "[B" (.ref a2)) (F8 : Arv Z h0 a2 kc7 .byte (2 : Int32) [(.int p5), (.int p6)] (.int (0 : Int32))) :
    own_MF l zm10 c_13 1 (some .boolean) (own_R 0 0 0 0) #[(.ref a1)] Z h0 (Q13_82 Z a1 a2 p5 p6 kc7 h0 n0) := by
  refine own_st (L := (lc23 a1)) (own := zs6) (plainFor_of_name pn_2) rfl (fun m => ef_7 m a1) fun p e s m below meth c s₁ Bd hml hZ hh hx hby hown hnm X0 e0 => ?_
  have N0 := Fr.nil n0
  obtain ⟨T4, X4, e4, st4⟩ := getF X0 hx hZ hown (host := "") (Or.inl (ww hw 33 rfl)) Via.refl e0 F3 (g := (mkF m 1 (lc23 a1) [(.ref a1)])) rfl rfl (hb hby d13_1)
  refine own_go (U' := T4.setTop (mkF m 4 (lc23 a1) [(.ref a2)])) (fun t k => oaloadN X0 hx hby d13_0 rfl rfl (st4 _ k)) ?_
  obtain ⟨cl9, Ar9, q9, S9, N9, H9, G9⟩ := id F8
  refine own_go (fun t k => X4.arraylength hx (own_at e4 Ar9.1) (State.isArrayOf_alike hZ.alike Ar9.2.1) (g := (mkF m 4 (lc23 a1) [(.ref a2)])) rfl rfl (hb hby d13_4) _ k) ?_
  rw [len_of S9 N9]
  refine own_go (U' := T4.setTop (mkF m 13 (lc23 a1) [(.int 0)])) (fun t k => oifY (pc := 5) X4 hx hby d13_5 12 (by decide) (by decide) (oiconst X4 hx hby d13_12 k)) ?_
  obtain ⟨fs, hr, hrun, hended, hW, hsame⟩ := X4.leave (v := some (.int 0)) (fun h => by rw [Bd.returns] at h; cases h)
  refine own_out ⟨_, _, ?_, hrun, hended, _, _, rfl, ?_, ⟨_, rfl⟩, hW, hsame.mono (by decide) (by decide)⟩
  · exact retN X4 hx (t := .boolean) Bd.returns (by simp) (hb hby d13_13) hr
  · show Q13_82 Z a1 a2 p5 p6 kc7 h0 n0 _ T4.heap _
    rw [e4]
    exact ⟨rfl, N0, rfl⟩
def Q10_83 (Z : State) (a1 a2 a11 : Addr) (p14 p15 : Int32) (kc16 : ClassId) (p21 : Int32) (vy0 : Value) (h0 : Heap) (n0 : Nat) (v : Option Value) (h : Heap) (L : List Loc) : Prop := v = none ∧ Fr n0 L ∧ Keep h0 h [a1] ∧ Fld Z h a1 zs21 "value" zs23 (.ref a2)
theorem rm10_83 (l : Launch) {Z : State} {a0 : Array Value} (hw : own_W Z a0) (a1 a2 a11 : Addr) (p14 p15 : Int32) (kc16 : ClassId) (p21 : Int32) (vy0 : Value) (h0 : Heap) (n0 : Nat) (Z0 : n0 ≤ h0.size) (F9 : Exa Z h0 a2 zs6) (F12 : Fld Z h0 a2 zs6 "value" "[B" (.ref a11)) (F17 : Arv Z h0 a11 kc16 .byte (2 : Int32) [(.int p14), (.int p15)] (.int (0 : Int32))) (F22 : Sta Z h0 zs6 zs7 "Z" (.int p21)) (hc24 : ¬ (p21 = (0 : Int32))) (F25 : Fld Z h0 a2 zs6 "coder" "B" (.int 0)) (F31 : Sta Z h0 zs16 zs19 zs20 vy0) (hc33 : vy0.isRef = true) (hc34 : ¬ (p14 < (0 : Int32))) (hc35 : p14 < (128 : Int32)) (hc36 : p14 < (65536 : Int32)) (hc39 : own_ok p14) (hc40 : ¬ ((122 : Int32) < p14)) (hc45 : ¬ (p15 < (0 : Int32))) (hc46 : p15 < (128 : Int32)) (hc47 : p15 < (65536 : Int32)) (hc50 : own_ok p15) (hc51 : ¬ ((122 : Int32) < p15)) (hc75 : (own_dot2 p14 p15) = (0 : Int32)) (F76 : Fld Z h0 a1 zs21 "value" zs23 .null) (F78 : Exa Z h0 a1 zs21) (g81 : n0 ≤ a1) :
    MetFree l zm19 (head1 [Jvm.Cond.code zm19 c_10 4 none] (own_R 4 6 60 53)) (fun a U => a = #[(.ref a1), (.ref a2)] ∧ Z.Warmed39 U.vm ∧ U.heap = h0 ∧ CHv Z consts_1 U.vm h0 ∧ ∀ x ∈ ([a2] : List Addr), Safe Z consts_1 U.vm h0 x) (fun _ _ _ _ _ => True) (fun _ U o U' => ∃ v L, o = .returned v ∧ Q10_83 Z a1 a2 a11 p14 p15 kc16 p21 vy0 h0 n0 v U'.heap L ∧ CHr Z consts_1 U.vm U.heap U'.vm U'.heap ∧ ReturnedEndW U o U' L (own_R 4 6 60 53).cells (own_R 4 6 60 53).slots) := by
  refine MetFree.of_bodySF (plainFor_of_name pn_7) hisR ?_
  intro p e s m args below meth c s₁ Bd hml0 hP hK
  obtain ⟨rfl, hZ, hh, hC, hSL⟩ := hP
  have C0 := CHr.refl hC
  have hx := Bd.exec
  have hby := Bd.bytes
  have hml : c.maxLocals = 4 := hml0
  have hown : s.vm.findClass zs21 = some m.cls := findClass_of_methodNamed Bd.named
  have hnm := (name_of_methodNamed Bd.named Bd.method).1
  have X0 : Stand p l e (own_R 4 6 60 53) s m #[(.ref a1), (.ref a2)] below meth c s₁ [] 0 0 := Stand.of_body Bd
  have e0 : s₁.heap = h0 := by rw [← hh, Bd.state]; rfl
  have N0 := Fr.nil n0
  refine own_pre (g' := mkF m 0 (lc22 a1 a2) []) (ef_12 m a1 a2) ?_
  obtain ⟨_, T3, L3, X3, hQ3, st3⟩ := ocallI X0 hx hZ zm8 rfl hown (ww hw 55 rfl) (ww hw 56 rfl) (by decide) (ww hw 59 rfl) (ww hw 58 rfl) e0 (rm11_20 l hw a1 h0 n0 Z0 ) (st := [(.ref a1)]) rfl 0 rfl (by decide) (pc := 1) (Ls := (lc22 a1 a2)) hml rfl (lenOf pd_8 rfl) d10_1 hby
  obtain ⟨rfl, N3q, e3⟩ := hQ3
  have N4 := Fr.app N0 N3q
  obtain ⟨b5, T5, h5, k5, bv5, cl5, X5, e5, E5, hS5, hk5, hZ, hown, f5a, f5b, f5c, f5d, lt5, lv5, CR5, -, ns5, st5⟩ := ldcCH (s := s) (vm0 := s.vm) X3 hx hZ hown (ww hw 61 rfl) (own_wS hw) e3 ((State.WarmedH.refl s).since 0) (Nat.zero_le _) (own_EW hw) (List.mem_of_getElem? (i := 0) rfl) C0.1 (vs := [(.int 108), (.int 111), (.int 99), (.int 107), (.int 32), (.int 110), (.int 97), (.int 109), (.int 101)]) (z := 9) ⟨by decide, by decide⟩ (by decide) (by decide) (g := (mkF m 5 (lc22 a1 a2) [(.ref a2)])) rfl (hb hby d10_5) (n := 36) (by decide) (by decide) (by decide) (by decide)
  have C1 := C0.trans CR5
  have Z_1 : n0 ≤ h5.size := Nat.le_trans Z0 E5.1
  obtain ⟨_, T6, L6, X6, hQ6, st6⟩ := ocallS X5 hx hZ zm9 hown (ww hw 62 rfl) (ww hw 63 rfl) (by decide) (ww hw 65 rfl) (ww hw 64 rfl) e5 (rm12_21 l hw a2 b5 h5 n0 Z_1 ) (st := [(.ref b5), (.ref a2)]) rfl 0 rfl (by decide) (pc := 7) (Ls := (lc22 a1 a2)) hml rfl (lenOf pd_9 rfl) d10_7 hby
  obtain ⟨rfl, N6q, e6⟩ := hQ6
  have N7 := Fr.app N4 N6q
  have f10 : Exa Z h5 a2 zs6 := (Exa.ext E5 F9)
  have f13 : Fld Z h5 a2 zs6 "value" "[B" (.ref a11) := (Fld.ext E5 F12)
  have f18 : Arv Z h5 a11 kc16 .byte (2 : Int32) [(.int p14), (.int p15)] (.int (0 : Int32)) := (F17.ext E5)
  obtain ⟨_, T8, L8, X8, hQ8, st8⟩ := ocallV X6 hx hZ zm10 zm10 hown (ww hw 66 rfl) (ww hw 67 rfl) (notFace_of_selects (args := #[]) (mvT hZ (ww hw 69 rfl))) (ww hw 69 rfl) (ww hw 68 rfl) (by decide) (ww hw 70 rfl) (ww hw 8 rfl) e6 f10 (rm13_82 l hw a2 a11 p14 p15 kc16 h5 n0 Z_1 f13 f18) (st := [(.ref a2)]) rfl 0 rfl (by decide) (pc := 12) (Ls := (lc22 a1 a2)) hml rfl (lenOf pd_10 rfl) d10_12 hby
  obtain ⟨rfl, N8q, e8⟩ := hQ8
  have N19 := Fr.app N7 N8q
  refine own_go (U' := T8.setTop (mkF m 15 (lc22 a1 a2) [(.int 0)])) (fun t k => oaloadN X0 hx hby d10_0 rfl rfl (st3 _ (oaloadN X3 hx hby d10_4 rfl rfl (st5 _ (st6 _ (opop X6 hx hby d10_10 rfl (oaloadN X6 hx hby d10_11 rfl rfl (st8 _ k)))))))) ?_
  have f23 : Sta Z h5 zs6 zs7 "Z" (.int p21) := (Sta.ext E5 F22)
  have f26 : Fld Z h5 a2 zs6 "coder" "B" (.int 0) := (Fld.ext E5 F25)
  obtain ⟨_, T20, L20, X20, hQ20, st20⟩ := ocallV X8 hx hZ zm12 zm12 hown (ww hw 71 rfl) (ww hw 72 rfl) (notFace_of_selects (args := #[]) (mvT hZ (ww hw 74 rfl))) (ww hw 74 rfl) (ww hw 73 rfl) (by decide) (ww hw 75 rfl) (ww hw 8 rfl) e8 f10 (rm14_24 l hw a2 a11 2 p21 2 h5 n0 Z_1 f13 (own_lnV f18) f10 f23 hc24 f26 (by decide)) (st := [(.ref a2)]) rfl 0 rfl (by decide) (pc := 19) (Ls := (lc22 a1 a2)) hml rfl (lenOf pd_12 rfl) d10_19 hby
  obtain ⟨rfl, N20q, e20⟩ := hQ20
  have N27 := Fr.app N19 N20q
  refine own_go (U' := T20.setTop (mkF m 25 (lc22 a1 a2) [(.int 255), (.int 2)])) (fun t k => oifN X8 hx hby d10_15 (by decide) (oaloadN X8 hx hby d10_18 rfl rfl (st20 _ (osipush X20 hx hby d10_22 k)))) ?_
  obtain ⟨_, T28, L28, X28, hQ28, st28⟩ := ocallV X20 hx hZ zm12 zm12 hown (ww hw 71 rfl) (ww hw 72 rfl) (notFace_of_selects (args := #[]) (mvT hZ (ww hw 74 rfl))) (ww hw 74 rfl) (ww hw 73 rfl) (by decide) (ww hw 75 rfl) (ww hw 8 rfl) e20 f10 (rm14_24 l hw a2 a11 2 p21 2 h5 n0 Z_1 f13 (own_lnV f18) f10 f23 hc24 f26 (by decide)) (st := [(.ref a2), (.int 0)]) rfl 1 rfl (by decide) (pc := 62) (Ls := (lc24 a1 a2 0)) hml rfl (lenOf pd_12 rfl) d10_62 hby
  obtain ⟨rfl, N28q, e28⟩ := hQ28
  have N29 := Fr.app N27 N28q
  refine own_go (U' := T28.setTop (mkF m 65 (lc24 a1 a2 0) [(.int 2), (.int 0)])) (fun t k => oicY (pc := 25) X20 hx hby d10_25 58 (by decide) (by decide) (oiconst X20 hx hby d10_58 (oistoreN X20 hx hby d10_59 (lc24 a1 a2 0) rfl (oiloadN X20 hx hby d10_60 rfl (oaloadN X20 hx hby d10_61 rfl rfl (st28 _ k)))))) ?_
  have f32 : Sta Z h5 zs16 zs19 zs20 vy0 := (Sta.ext E5 F31)
  obtain ⟨_, T30, L30, X30, hQ30, st30⟩ := ocallV X28 hx hZ zm17 zm17 hown (ww hw 81 rfl) (ww hw 82 rfl) (notFace_of_selects (args := #[]) (mvT hZ (ww hw 84 rfl))) (ww hw 84 rfl) (ww hw 83 rfl) (by decide) (ww hw 85 rfl) (ww hw 8 rfl) e28 f10 (rm16_32 l hw a2 0 p21 a11 2 vy0 p14 h5 n0 Z_1 f10 f23 hc24 f26 f13 (own_lnV f18) f32 hc33 (own_elV (j := (0 : Int32)) f18 (by decide) (by decide) rfl) hc34 hc35 hc36 (by decide)) (st := [(.int 0), (.ref a2)]) rfl 0 rfl (by decide) (pc := 70) (Ls := (lc24 a1 a2 0)) hml rfl (lenOf pd_0 rfl) d10_70 hby
  obtain ⟨rfl, N30q, e30⟩ := hQ30
  have N37 := Fr.app N29 N30q
  obtain ⟨_, T38, L38, X38, hQ38, st38⟩ := ocallS X30 hx hZ zm18 hown (ww hw 102 rfl) (ww hw 103 rfl) (by decide) (ww hw 104 rfl) (ww hw 51 rfl) e30 (mg21_39 l hw p14 h5 n0 Z_1 hc39 hc40) (st := [(.int p14)]) rfl 0 rfl (by decide) (pc := 75) (Ls := (lc27 a1 a2 0 p14)) hml rfl (lenOf pd_16 rfl) d10_75 hby
  obtain ⟨rfl, N38q, e38⟩ := hQ38
  have N41 := Fr.app N37 N38q
  refine own_go (U' := T38.setTop (mkF m 78 (lc27 a1 a2 0 p14) [(.int 1)])) (fun t k => oicN X28 hx hby d10_65 (by decide) (oaloadN X28 hx hby d10_68 rfl rfl (oiloadN X28 hx hby d10_69 rfl (st30 _ (oistoreN X30 hx hby d10_73 (lc27 a1 a2 0 p14) rfl (oiloadN X30 hx hby d10_74 rfl (st38 _ k))))))) ?_
  obtain ⟨_, T42, L42, X42, hQ42, st42⟩ := ocallV X38 hx hZ zm12 zm12 hown (ww hw 71 rfl) (ww hw 72 rfl) (notFace_of_selects (args := #[]) (mvT hZ (ww hw 74 rfl))) (ww hw 74 rfl) (ww hw 73 rfl) (by decide) (ww hw 75 rfl) (ww hw 8 rfl) e38 f10 (rm14_24 l hw a2 a11 2 p21 2 h5 n0 Z_1 f13 (own_lnV f18) f10 f23 hc24 f26 (by decide)) (st := [(.ref a2), (.int 1)]) rfl 1 rfl (by decide) (pc := 62) (Ls := (lc27 a1 a2 1 p14)) hml rfl (lenOf pd_12 rfl) d10_62 hby
  obtain ⟨rfl, N42q, e42⟩ := hQ42
  have N43 := Fr.app N41 N42q
  refine own_go (U' := T42.setTop (mkF m 65 (lc27 a1 a2 1 p14) [(.int 2), (.int 1)])) (fun t k => oifY (pc := 78) X38 hx hby d10_78 116 (by decide) (by decide) (oiinc X38 hx hby d10_116 (lc27 a1 a2 1 p14) rfl rfl (ogoto (pc := 119) X38 hx hby d10_119 60 (by decide) (oiloadN X38 hx hby d10_60 rfl (oaloadN X38 hx hby d10_61 rfl rfl (st42 _ k)))))) ?_
  obtain ⟨_, T44, L44, X44, hQ44, st44⟩ := ocallV X42 hx hZ zm17 zm17 hown (ww hw 81 rfl) (ww hw 82 rfl) (notFace_of_selects (args := #[]) (mvT hZ (ww hw 84 rfl))) (ww hw 84 rfl) (ww hw 83 rfl) (by decide) (ww hw 85 rfl) (ww hw 8 rfl) e42 f10 (rm16_32 l hw a2 1 p21 a11 2 vy0 p15 h5 n0 Z_1 f10 f23 hc24 f26 f13 (own_lnV f18) f32 hc33 (own_elV (j := (1 : Int32)) f18 (by decide) (by decide) rfl) hc45 hc46 hc47 (by decide)) (st := [(.int 1), (.ref a2)]) rfl 0 rfl (by decide) (pc := 70) (Ls := (lc27 a1 a2 1 p14)) hml rfl (lenOf pd_0 rfl) d10_70 hby
  obtain ⟨rfl, N44q, e44⟩ := hQ44
  have N48 := Fr.app N43 N44q
  obtain ⟨_, T49, L49, X49, hQ49, st49⟩ := ocallS X44 hx hZ zm18 hown (ww hw 102 rfl) (ww hw 103 rfl) (by decide) (ww hw 104 rfl) (ww hw 51 rfl) e44 (mg21_39 l hw p15 h5 n0 Z_1 hc50 hc51) (st := [(.int p15)]) rfl 0 rfl (by decide) (pc := 75) (Ls := (lc27 a1 a2 1 p15)) hml rfl (lenOf pd_16 rfl) d10_75 hby
  obtain ⟨rfl, N49q, e49⟩ := hQ49
  have N52 := Fr.app N48 N49q
  refine own_go (U' := T49.setTop (mkF m 78 (lc27 a1 a2 1 p15) [(.int 1)])) (fun t k => oicN X42 hx hby d10_65 (by decide) (oaloadN X42 hx hby d10_68 rfl rfl (oiloadN X42 hx hby d10_69 rfl (st44 _ (oistoreN X44 hx hby d10_73 (lc27 a1 a2 1 p15) rfl (oiloadN X44 hx hby d10_74 rfl (st49 _ k))))))) ?_
  obtain ⟨_, T53, L53, X53, hQ53, st53⟩ := ocallV X49 hx hZ zm12 zm12 hown (ww hw 71 rfl) (ww hw 72 rfl) (notFace_of_selects (args := #[]) (mvT hZ (ww hw 74 rfl))) (ww hw 74 rfl) (ww hw 73 rfl) (by decide) (ww hw 75 rfl) (ww hw 8 rfl) e49 f10 (rm14_24 l hw a2 a11 2 p21 2 h5 n0 Z_1 f13 (own_lnV f18) f10 f23 hc24 f26 (by decide)) (st := [(.ref a2), (.int 2)]) rfl 1 rfl (by decide) (pc := 62) (Ls := (lc27 a1 a2 2 p15)) hml rfl (lenOf pd_12 rfl) d10_62 hby
  obtain ⟨rfl, N53q, e53⟩ := hQ53
  have N54 := Fr.app N52 N53q
  refine own_go (U' := T53.setTop (mkF m 65 (lc27 a1 a2 2 p15) [(.int 2), (.int 2)])) (fun t k => oifY (pc := 78) X49 hx hby d10_78 116 (by decide) (by decide) (oiinc X49 hx hby d10_116 (lc27 a1 a2 2 p15) rfl rfl (ogoto (pc := 119) X49 hx hby d10_119 60 (by decide) (oiloadN X49 hx hby d10_60 rfl (oaloadN X49 hx hby d10_61 rfl rfl (st53 _ k)))))) ?_
  obtain ⟨b55, T55, h55, k55, bv55, cl55, X55, e55, E55, hS55, hk55, hZ, hown, f55a, f55b, f55c, f55d, lt55, lv55, CR55, -, ns55, st55⟩ := ldcCH (s := s) X53 hx hZ hown (ww hw 105 rfl) (own_wS hw) e53 hS5 hk5 (own_EW hw) (List.mem_of_getElem? (i := 1) rfl) C1.1 (vs := [(.int 46)]) (z := 1) ⟨by decide, by decide⟩ (by decide) (by decide) (g := (mkF m 123 (lc27 a1 a2 2 p15) [(.ref a2)])) rfl (hb hby d10_123) (n := 4) (by decide) (by decide) (by decide) (by decide)
  have C2 := C1.trans CR55
  have f57 : Exa Z h55 a2 zs6 := (Exa.ext E55 f10)
  have sf58 := (CR55.safe (f13.lt) (CR5.safe (F9.lt) (hSL a2 (List.mem_of_getElem? (i := 0) rfl))))
  have ne59 : a2 ≠ b55 := (ns55 a2 sf58).1
  have f60 : Sta Z h55 zs6 zs7 "Z" (.int p21) := (Sta.ext E55 f23)
  have f61 : Fld Z h55 a2 zs6 "coder" "B" (.int 0) := (Fld.ext E55 f26)
  have f62 : Fld Z h55 a2 zs6 "value" "[B" (.ref a11) := (Fld.ext E55 f13)
  have f63 : Arv Z h55 a11 kc16 .byte (2 : Int32) [(.int p14), (.int p15)] (.int (0 : Int32)) := (f18.ext E55)
  have Z_2 : n0 ≤ h55.size := Nat.le_trans Z_1 E55.1
  obtain ⟨_, T56, L56, X56, hQ56, st56⟩ := ocallV X55 hx hZ zm7 zm7 hown (ww hw 106 rfl) (ww hw 39 rfl) (notFace_of_selects (args := #[]) (mvT hZ (ww hw 41 rfl))) (ww hw 41 rfl) (ww hw 40 rfl) (by decide) (ww hw 42 rfl) (ww hw 8 rfl) e55 f57 (mg8_74 l hw a2 b55 p21 a11 bv55 p14 p15 kc16 cl55 h55 n0 Z_2 ne59 f55a f60 hc24 f61 f55b f62 f55c f63 f55d) (st := [(.ref b55), (.ref a2)]) rfl 0 rfl (by decide) (pc := 125) (Ls := (lc27 a1 a2 2 p15)) hml rfl (lenOf pd_7 rfl) d10_125 hby
  obtain ⟨rfl, N56q, e56⟩ := hQ56
  have N64 := Fr.app N54 N56q
  refine own_go (U' := T56.setTop (mkF m 128 (lc27 a1 a2 2 p15) [(.int 0)])) (fun t k => oicY (pc := 65) X53 hx hby d10_65 122 (by decide) (by decide) (oaloadN X53 hx hby d10_122 rfl rfl (st55 _ (st56 _ k)))) ?_
  obtain ⟨b65, T65, h65, k65, bv65, cl65, X65, e65, E65, hS65, hk65, hZ, hown, f65a, f65b, f65c, f65d, lt65, lv65, CR65, -, ns65, st65⟩ := ldcCH (s := s) X56 hx hZ hown (ww hw 107 rfl) (own_wS hw) e56 hS55 hk55 (own_EW hw) (List.mem_of_getElem? (i := 2) rfl) C2.1 (vs := [(.int 46), (.int 46)]) (z := 2) ⟨by decide, by decide⟩ (by decide) (by decide) (g := (mkF m 132 (lc27 a1 a2 2 p15) [(.ref a2)])) rfl (hb hby d10_132) (n := 8) (by decide) (by decide) (by decide) (by decide)
  have C3 := C2.trans CR65
  have f67 : Exa Z h65 a2 zs6 := (Exa.ext E65 f57)
  have sf68 := (CR65.safe (f62.lt) (CR55.safe (nlt (F9.lt) E5.1) (CR5.safe (F9.lt) (hSL a2 (List.mem_of_getElem? (i := 0) rfl)))))
  have ne69 : a2 ≠ b65 := (ns65 a2 sf68).1
  have f70 : Sta Z h65 zs6 zs7 "Z" (.int p21) := (Sta.ext E65 f60)
  have f71 : Fld Z h65 a2 zs6 "coder" "B" (.int 0) := (Fld.ext E65 f61)
  have f72 : Fld Z h65 a2 zs6 "value" "[B" (.ref a11) := (Fld.ext E65 f62)
  have f73 : Arv Z h65 a11 kc16 .byte (2 : Int32) [(.int p14), (.int p15)] (.int (0 : Int32)) := (f63.ext E65)
  have Z_3 : n0 ≤ h65.size := Nat.le_trans Z_2 E65.1
  obtain ⟨_, T66, L66, X66, hQ66, st66⟩ := ocallV X65 hx hZ zm7 zm7 hown (ww hw 106 rfl) (ww hw 39 rfl) (notFace_of_selects (args := #[]) (mvT hZ (ww hw 41 rfl))) (ww hw 41 rfl) (ww hw 40 rfl) (by decide) (ww hw 42 rfl) (ww hw 8 rfl) e65 f67 (mg8_81 l hw a2 b65 p21 a11 bv65 p14 p15 kc16 cl65 h65 n0 Z_3 ne69 f65a f70 hc24 f71 f65b f72 f65c f73 f65d) (st := [(.ref b65), (.ref a2)]) rfl 0 rfl (by decide) (pc := 134) (Ls := (lc27 a1 a2 2 p15)) hml rfl (lenOf pd_7 rfl) d10_134 hby
  obtain ⟨rfl, N66q, e66⟩ := hQ66
  have N74 := Fr.app N64 N66q
  refine own_go (U' := T66.setTop (mkF m 137 (lc27 a1 a2 2 p15) [(.int (own_dot2 p14 p15))])) (fun t k => oifN X56 hx hby d10_128 (by decide) (oaloadN X56 hx hby d10_131 rfl rfl (st65 _ (st66 _ k)))) ?_
  have f77 : Fld Z h65 a1 zs21 "value" zs23 .null := (Fld.ext E65 (Fld.ext E55 (Fld.ext E5 F76)))
  have f79 : Exa Z h65 a1 zs21 := (Exa.ext E65 (Exa.ext E55 (Exa.ext E5 F78)))
  obtain ⟨T80, h80, X80, e80, W80, st80⟩ := putF X66 hx hZ hown (host := "") (Or.inl (ww hw 108 rfl)) Via.refl e66 f77 f79 (Or.inr ⟨(ww hw 109 rfl), rfl, hnm⟩) (ww hw 50 rfl) (ty := (.object zs6)) (by decide) rfl rfl (g := (mkF m 174 (lc27 a1 a2 2 p15) [(.ref a2), (.ref a1)])) rfl rfl (hb hby d10_174)
  have sf82 : Safe Z consts_1 T65.vm h65 a1 := Safe.exa hZ.alike f79 (by decide) (by decide)
  have C4 := C3.trans (CHr.wr W80 sf82 C3.1)
  have N83 := Fr.snoc X80 N74 g81
  have f84 : Fld Z h80 a1 zs21 "value" zs23 (.ref a2) := Fld.same W80 f77
  refine own_go (U' := T80.setTop (mkF m 177 (lc27 a1 a2 2 p15) [])) (fun t k => oifY (pc := 137) X66 hx hby d10_137 172 ((if0 _ _).trans (teq hc75).1) (by decide) (oaloadN X66 hx hby d10_172 rfl rfl (oaloadN X66 hx hby d10_173 rfl rfl (st80 _ k)))) ?_
  obtain ⟨fs, hr, hrun, hended, hW, hsame⟩ := X80.leave (v := none) (fun _ => rfl)
  have hE := hS65.ended hW (by show _ ≤ T80.heap.size; rw [e80]; exact (Nat.le_trans hk65 (Keep.of_wr W80).1)) hsame
  refine own_out ⟨_, _, ?_, hrun, hended, _, _, rfl, ?_, ?_, ⟨_, rfl⟩, hE.1, hE.2.1, hE.2.2.mono (by decide) (by decide)⟩
  · exact X80.returnOut hx Bd.returns (hb hby d10_177) hr
  · show Q10_83 Z a1 a2 a11 p14 p15 kc16 p21 vy0 h0 n0 _ T80.heap _
    rw [e80]
    exact ⟨rfl, N83, (((((Keep.refl h0 [a1]).ext E5).ext E55).ext E65).wr W80 (Or.inl (List.mem_of_getElem? (i := 0) rfl))), f84⟩
  · show CHr Z consts_1 s.vm s.heap T80.vm T80.heap; rw [hh, e80]; exact C4.trans (CHv.at (s := s) X80 hZ (own_EW hw) C4.1)
def Q6_84 (Z : State) (a1 a2 : Addr) (p3 p4 p5 : Int32) (kc6 : ClassId) (kc13 : ClassId) (h0 : Heap) (n0 : Nat) (v : Option Value) (h : Heap) (L : List Loc) : Prop := v = some (.int 3) ∧ Fr n0 L ∧ Keep h0 h [a2] ∧ Arv Z h a2 kc13 .byte (3 : Int32) [(.int p3), (.int p4), (.int p5)] (.int (0 : Int32))
theorem rm6_84 (l : Launch) {Z : State} {a0 : Array Value} (hw : own_W Z a0) (a1 a2 : Addr) (p3 p4 p5 : Int32) (kc6 : ClassId) (kc13 : ClassId) (h0 : Heap) (n0 : Nat) (Z0 : n0 ≤ h0.size) (F7 : Arv Z h0 a1 kc6 .char (3 : Int32) [(.int p3), (.int p4), (.int p5)] (.int (0 : Int32))) (hc10 : ¬ ((255 : Int32) < p3)) (hc11 : ¬ (p3 < (0 : Int32))) (hc12 : p3 < (128 : Int32)) (F14 : Arv Z h0 a2 kc13 .byte (3 : Int32) [] (.int (0 : Int32))) (g18 : n0 ≤ a2) (ne21 : a1 ≠ a2) (hc25 : ¬ ((255 : Int32) < p4)) (hc26 : ¬ (p4 < (0 : Int32))) (hc27 : p4 < (128 : Int32)) (hc36 : ¬ ((255 : Int32) < p5)) (hc37 : ¬ (p5 < (0 : Int32))) (hc38 : p5 < (128 : Int32)) :
    own_MF l zm1 c_6 7 (some .int) (own_R 0 0 0 0) #[(.ref a1), (.int 0), (.ref a2), (.int 0), (.int 3)] Z h0 (Q6_84 Z a1 a2 p3 p4 p5 kc6 kc13 h0 n0) := by
  refine own_st (L := (lc14 a1 0 a2 0 3)) (own := zs1) (plainFor_of_name pn_1) rfl (fun m => ef_1 m a1 0 a2 0 3) fun p e s m below meth c s₁ Bd hml hZ hh hx hby hown hnm X0 e0 => ?_
  have N0 := Fr.nil n0
  refine own_go (U' := s₁.setTop (mkF m 7 (lc12 a1 0 a2 0 3 0) [(.int 3), (.int 0)])) (fun t k => oiconst X0 hx hby d6_0 (oistore X0 hx hby d6_1 (lc12 a1 0 a2 0 3 0) rfl (oiload X0 hx hby d6_3 rfl (oiload X0 hx hby d6_5 rfl k)))) ?_
  obtain ⟨cl8, Ar8, q8, S8, N8, H8, G8⟩ := id F7
  have hin9 : ¬ ((0 : Int32) < 0 ∨ cl8.slots.size ≤ ((0 : Int32)).toNatClampNeg) := inb_of S8 ⟨by decide, by decide⟩
  have hat9 : cl8.slots[((0 : Int32)).toNatClampNeg]? = some (.int p3) := Has.at H8 hin9 rfl
  refine own_go (U' := s₁.setTop (mkF m 20 (lc13 a1 0 a2 0 3 0 p3) [(.int 255), (.int p3)])) (fun t k => oicN X0 hx hby d6_7 (by decide) (oaloadN X0 hx hby d6_10 rfl rfl (oiloadN X0 hx hby d6_11 rfl (X0.caload hx (j := (0 : Int32)) (v := (.int p3)) (own_at e0 Ar8.1) (State.isArrayOf_alike hZ.alike Ar8.2.1) Ar8.2.2 hin9 hat9 (g := (mkF m 12 (lc12 a1 0 a2 0 3 0) [(.int 0), (.ref a1)])) rfl rfl (hb hby d6_12) _ (oistore X0 hx hby d6_13 (lc13 a1 0 a2 0 3 0 p3) rfl (oiload X0 hx hby d6_15 rfl (osipush X0 hx hby d6_17 k))))))) ?_
  refine own_go (U' := s₁.setTop (mkF m 31 (lc13 a1 0 a2 0 3 0 p3) [(.int (p3.toInt8.toInt32)), (.int 0), (.ref a2)])) (fun t k => oicY (pc := 20) X0 hx hby d6_20 26 (flt hc10).2.2.2 (by decide) (oaloadN X0 hx hby d6_26 rfl rfl (oiloadN X0 hx hby d6_27 rfl (oiload X0 hx hby d6_28 rfl (oi2b X0 hx hby d6_30 k))))) ?_
  rw [own_i2bs (x := p3) hc11 hc12]
  have f15 : Arv Z h0 a2 kc13 .byte (3 : Int32) [(.int 0)] (.int (0 : Int32)) := F14.pad (pad_rep [] (.int (0 : Int32)) 1)
  obtain ⟨cl16, Ar16, q16, S16, N16, H16, G16⟩ := id f15
  have hin17 : ¬ ((0 : Int32) < 0 ∨ cl16.slots.size ≤ ((0 : Int32)).toNatClampNeg) := inb_of S16 ⟨by decide, by decide⟩
  obtain ⟨T17, h17, X17, e17, W17, st17⟩ := stB X0 hx hZ e0 Ar16 (j := (0 : Int32)) hin17 (g := (mkF m 31 (lc13 a1 0 a2 0 3 0 p3) [(.int p3), (.int 0), (.ref a2)])) rfl rfl (hb hby d6_31)
  rw [show nar .byte p3 = p3 from own_i2bs hc11 hc12] at W17
  have N19 := Fr.snoc X17 N0 g18
  have f20 : Arv Z h17 a2 kc13 .byte (3 : Int32) [(.int p3)] (.int (0 : Int32)) := Arv.set Ar16 q16 S16 N16 H16 G16 (own_fitB hc11 hc12) W17 0 rfl (Nat.le_of_ble_eq_true rfl)
  refine own_go (U' := T17.setTop (mkF m 7 (lc13 a1 1 a2 1 3 1 p3) [(.int 3), (.int 1)])) (fun t k => st17 _ (oiinc X17 hx hby d6_32 (lc13 a1 1 a2 0 3 0 p3) rfl rfl (oiinc X17 hx hby d6_35 (lc13 a1 1 a2 1 3 0 p3) rfl rfl (oiinc X17 hx hby d6_38 (lc13 a1 1 a2 1 3 1 p3) rfl rfl (ogoto (pc := 41) X17 hx hby d6_41 3 (by decide) (oiload X17 hx hby d6_3 rfl (oiload X17 hx hby d6_5 rfl k))))))) ?_
  have f22 : Arv Z h17 a1 kc6 .char (3 : Int32) [(.int p3), (.int p4), (.int p5)] (.int (0 : Int32)) := (F7.other W17 ne21)
  obtain ⟨cl23, Ar23, q23, S23, N23, H23, G23⟩ := id f22
  have hin24 : ¬ ((1 : Int32) < 0 ∨ cl23.slots.size ≤ ((1 : Int32)).toNatClampNeg) := inb_of S23 ⟨by decide, by decide⟩
  have hat24 : cl23.slots[((1 : Int32)).toNatClampNeg]? = some (.int p4) := Has.at H23 hin24 rfl
  refine own_go (U' := T17.setTop (mkF m 20 (lc13 a1 1 a2 1 3 1 p4) [(.int 255), (.int p4)])) (fun t k => oicN X17 hx hby d6_7 (by decide) (oaloadN X17 hx hby d6_10 rfl rfl (oiloadN X17 hx hby d6_11 rfl (X17.caload hx (j := (1 : Int32)) (v := (.int p4)) (own_at e17 Ar23.1) (State.isArrayOf_alike hZ.alike Ar23.2.1) Ar23.2.2 hin24 hat24 (g := (mkF m 12 (lc13 a1 1 a2 1 3 1 p3) [(.int 1), (.ref a1)])) rfl rfl (hb hby d6_12) _ (oistore X17 hx hby d6_13 (lc13 a1 1 a2 1 3 1 p4) rfl (oiload X17 hx hby d6_15 rfl (osipush X17 hx hby d6_17 k))))))) ?_
  refine own_go (U' := T17.setTop (mkF m 31 (lc13 a1 1 a2 1 3 1 p4) [(.int (p4.toInt8.toInt32)), (.int 1), (.ref a2)])) (fun t k => oicY (pc := 20) X17 hx hby d6_20 26 (flt hc25).2.2.2 (by decide) (oaloadN X17 hx hby d6_26 rfl rfl (oiloadN X17 hx hby d6_27 rfl (oiload X17 hx hby d6_28 rfl (oi2b X17 hx hby d6_30 k))))) ?_
  rw [own_i2bs (x := p4) hc26 hc27]
  have f28 : Arv Z h17 a2 kc13 .byte (3 : Int32) [(.int p3), (.int 0)] (.int (0 : Int32)) := f20.pad (pad_rep [(.int p3)] (.int (0 : Int32)) 1)
  obtain ⟨cl29, Ar29, q29, S29, N29, H29, G29⟩ := id f28
  have hin30 : ¬ ((1 : Int32) < 0 ∨ cl29.slots.size ≤ ((1 : Int32)).toNatClampNeg) := inb_of S29 ⟨by decide, by decide⟩
  obtain ⟨T30, h30, X30, e30, W30, st30⟩ := stB X17 hx hZ e17 Ar29 (j := (1 : Int32)) hin30 (g := (mkF m 31 (lc13 a1 1 a2 1 3 1 p4) [(.int p4), (.int 1), (.ref a2)])) rfl rfl (hb hby d6_31)
  rw [show nar .byte p4 = p4 from own_i2bs hc26 hc27] at W30
  have N31 := Fr.snoc X30 N19 g18
  have f32 : Arv Z h30 a2 kc13 .byte (3 : Int32) [(.int p3), (.int p4)] (.int (0 : Int32)) := Arv.set Ar29 q29 S29 N29 H29 G29 (own_fitB hc26 hc27) W30 1 rfl (Nat.le_of_ble_eq_true rfl)
  refine own_go (U' := T30.setTop (mkF m 7 (lc13 a1 2 a2 2 3 2 p4) [(.int 3), (.int 2)])) (fun t k => st30 _ (oiinc X30 hx hby d6_32 (lc13 a1 2 a2 1 3 1 p4) rfl rfl (oiinc X30 hx hby d6_35 (lc13 a1 2 a2 2 3 1 p4) rfl rfl (oiinc X30 hx hby d6_38 (lc13 a1 2 a2 2 3 2 p4) rfl rfl (ogoto (pc := 41) X30 hx hby d6_41 3 (by decide) (oiload X30 hx hby d6_3 rfl (oiload X30 hx hby d6_5 rfl k))))))) ?_
  have f33 : Arv Z h30 a1 kc6 .char (3 : Int32) [(.int p3), (.int p4), (.int p5)] (.int (0 : Int32)) := (f22.other W30 ne21)
  obtain ⟨cl34, Ar34, q34, S34, N34, H34, G34⟩ := id f33
  have hin35 : ¬ ((2 : Int32) < 0 ∨ cl34.slots.size ≤ ((2 : Int32)).toNatClampNeg) := inb_of S34 ⟨by decide, by decide⟩
  have hat35 : cl34.slots[((2 : Int32)).toNatClampNeg]? = some (.int p5) := Has.at H34 hin35 rfl
  refine own_go (U' := T30.setTop (mkF m 20 (lc13 a1 2 a2 2 3 2 p5) [(.int 255), (.int p5)])) (fun t k => oicN X30 hx hby d6_7 (by decide) (oaloadN X30 hx hby d6_10 rfl rfl (oiloadN X30 hx hby d6_11 rfl (X30.caload hx (j := (2 : Int32)) (v := (.int p5)) (own_at e30 Ar34.1) (State.isArrayOf_alike hZ.alike Ar34.2.1) Ar34.2.2 hin35 hat35 (g := (mkF m 12 (lc13 a1 2 a2 2 3 2 p4) [(.int 2), (.ref a1)])) rfl rfl (hb hby d6_12) _ (oistore X30 hx hby d6_13 (lc13 a1 2 a2 2 3 2 p5) rfl (oiload X30 hx hby d6_15 rfl (osipush X30 hx hby d6_17 k))))))) ?_
  refine own_go (U' := T30.setTop (mkF m 31 (lc13 a1 2 a2 2 3 2 p5) [(.int (p5.toInt8.toInt32)), (.int 2), (.ref a2)])) (fun t k => oicY (pc := 20) X30 hx hby d6_20 26 (flt hc36).2.2.2 (by decide) (oaloadN X30 hx hby d6_26 rfl rfl (oiloadN X30 hx hby d6_27 rfl (oiload X30 hx hby d6_28 rfl (oi2b X30 hx hby d6_30 k))))) ?_
  rw [own_i2bs (x := p5) hc37 hc38]
  have f39 : Arv Z h30 a2 kc13 .byte (3 : Int32) [(.int p3), (.int p4), (.int 0)] (.int (0 : Int32)) := f32.pad (pad_rep [(.int p3), (.int p4)] (.int (0 : Int32)) 1)
  obtain ⟨cl40, Ar40, q40, S40, N40, H40, G40⟩ := id f39
  have hin41 : ¬ ((2 : Int32) < 0 ∨ cl40.slots.size ≤ ((2 : Int32)).toNatClampNeg) := inb_of S40 ⟨by decide, by decide⟩
  obtain ⟨T41, h41, X41, e41, W41, st41⟩ := stB X30 hx hZ e30 Ar40 (j := (2 : Int32)) hin41 (g := (mkF m 31 (lc13 a1 2 a2 2 3 2 p5) [(.int p5), (.int 2), (.ref a2)])) rfl rfl (hb hby d6_31)
  rw [show nar .byte p5 = p5 from own_i2bs hc37 hc38] at W41
  have N42 := Fr.snoc X41 N31 g18
  have f43 : Arv Z h41 a2 kc13 .byte (3 : Int32) [(.int p3), (.int p4), (.int p5)] (.int (0 : Int32)) := Arv.set Ar40 q40 S40 N40 H40 G40 (own_fitB hc37 hc38) W41 2 rfl (Nat.le_of_ble_eq_true rfl)
  refine own_go (U' := T41.setTop (mkF m 7 (lc13 a1 3 a2 3 3 3 p5) [(.int 3), (.int 3)])) (fun t k => st41 _ (oiinc X41 hx hby d6_32 (lc13 a1 3 a2 2 3 2 p5) rfl rfl (oiinc X41 hx hby d6_35 (lc13 a1 3 a2 3 3 2 p5) rfl rfl (oiinc X41 hx hby d6_38 (lc13 a1 3 a2 3 3 3 p5) rfl rfl (ogoto (pc := 41) X41 hx hby d6_41 3 (by decide) (oiload X41 hx hby d6_3 rfl (oiload X41 hx hby d6_5 rfl k))))))) ?_
  refine own_go (U' := T41.setTop (mkF m 46 (lc13 a1 3 a2 3 3 3 p5) [(.int 3)])) (fun t k => oicY (pc := 7) X41 hx hby d6_7 44 (by decide) (by decide) (oiload X41 hx hby d6_44 rfl k)) ?_
  obtain ⟨fs, hr, hrun, hended, hW, hsame⟩ := X41.leave (v := some (.int 3)) (fun h => by rw [Bd.returns] at h; cases h)
  refine own_out ⟨_, _, ?_, hrun, hended, _, _, rfl, ?_, ⟨_, rfl⟩, hW, hsame.mono (by decide) (by decide)⟩
  · exact retI X41 hx Bd.returns (hb hby d6_46) hr
  · show Q6_84 Z a1 a2 p3 p4 p5 kc6 kc13 h0 n0 _ T41.heap _
    rw [e41]
    exact ⟨rfl, N42, ((((Keep.refl h0 [a2]).wr W17 (Or.inl (List.mem_of_getElem? (i := 0) rfl))).wr W30 (Or.inl (List.mem_of_getElem? (i := 0) rfl))).wr W41 (Or.inl (List.mem_of_getElem? (i := 0) rfl))), f43⟩
def Q5_85 (Z : State) (a1 : Addr) (p5 p6 p7 : Int32) (kc8 : ClassId) (h0 : Heap) (n0 : Nat) (v : Option Value) (h : Heap) (L : List Loc) : Prop := ∃ b2 : Addr, ∃ k2 : ClassId, v = some (.ref b2) ∧ Fr n0 L ∧ Keep h0 h [] ∧ h0.size ≤ b2 ∧ Exa Z h b2 "[B" ∧ Arv Z h b2 k2 .byte (3 : Int32) [(.int p5), (.int p6), (.int p7)] (.int (0 : Int32))
theorem rm5_85 (l : Launch) {Z : State} {a0 : Array Value} (hw : own_W Z a0) (a1 : Addr) (p5 p6 p7 : Int32) (kc8 : ClassId) (h0 : Heap) (n0 : Nat) (Z0 : n0 ≤ h0.size) (F9 : Arv Z h0 a1 kc8 .char (3 : Int32) [(.int p5), (.int p6), (.int p7)] (.int (0 : Int32))) (hc11 : ¬ ((255 : Int32) < p5)) (hc12 : ¬ (p5 < (0 : Int32))) (hc13 : p5 < (128 : Int32)) (hc16 : ¬ ((255 : Int32) < p6)) (hc17 : ¬ (p6 < (0 : Int32))) (hc18 : p6 < (128 : Int32)) (hc19 : ¬ ((255 : Int32) < p7)) (hc20 : ¬ (p7 < (0 : Int32))) (hc21 : p7 < (128 : Int32)) :
    own_MF l zm2 c_5 6 (some (.array .byte)) (own_R 1 1 3 18) #[(.ref a1), (.int 0), (.int 3)] Z h0 (Q5_85 Z a1 p5 p6 p7 kc8 h0 n0) := by
  refine own_st (L := (lc10 a1 0 3)) (own := zs1) (plainFor_of_name pn_1) rfl (fun m => ef_2 m a1 0 3) fun p e s m below meth c s₁ Bd hml hZ hh hx hby hown hnm X0 e0 => ?_
  have N0 := Fr.nil n0
  obtain ⟨T2, h2, k2, X2, e2, E2, A2, B2, st2⟩ := newPE X0 hx hZ (ww hw 24 rfl) e0 (g := (mkF m 1 (lc10 a1 0 3) [(.int 3)])) rfl (hb hby d5_1) rfl (by decide) (cap := 3) (by decide) (by decide) (by decide) (by decide) (ad := "[B") (by decide)
  obtain ⟨b2, g2⟩ : ∃ z, z = h0.size := ⟨_, rfl⟩
  rw [← g2] at A2 B2 st2
  have f3 : Arv Z h2 b2 k2 .byte (3 : Int32) [] (.int (0 : Int32)) := Arv.new A2 (by decide)
  have f10 : Arv Z h2 a1 kc8 .char (3 : Int32) [(.int p5), (.int p6), (.int p7)] (.int (0 : Int32)) := (F9.ext E2)
  have g14 : n0 ≤ b2 := Nat.le_trans Z0 (Nat.le_of_eq g2.symm)
  have ne15 : a1 ≠ b2 := Nat.ne_of_lt (nlt (F9.lt) (Nat.le_of_eq g2.symm))
  have Z_1 : n0 ≤ h2.size := Nat.le_trans Z0 E2.1
  obtain ⟨_, T4, L4, X4, hQ4, st4⟩ := ocallS X2 hx hZ zm1 hown (ww hw 25 rfl) (ww hw 26 rfl) (by decide) (ww hw 27 rfl) (ww hw 22 rfl) e2 (rm6_84 l hw a1 b2 p5 p6 p7 kc8 k2 h2 n0 Z_1 f10 hc11 hc12 hc13 f3 g14 ne15 hc16 hc17 hc18 hc19 hc20 hc21) (st := [(.int 3), (.int 0), (.ref b2), (.int 0), (.ref a1)]) rfl 0 rfl (by decide) (pc := 9) (Ls := (lc11 a1 0 3 b2)) hml rfl (lenOf pd_1 rfl) d5_9 hby
  obtain ⟨rfl, N4q, K4, f22⟩ := hQ4
  have N23 := Fr.app N0 N4q
  refine own_go (U' := T4.setTop (mkF m 17 (lc15 a1 0 3 b2 3) [(.int 3), (.int 3)])) (fun t k => oiloadN X0 hx hby d5_0 rfl (st2 _ (oastoreN X2 hx hby d5_3 (lc11 a1 0 3 b2) rfl rfl (oaloadN X2 hx hby d5_4 rfl rfl (oiloadN X2 hx hby d5_5 rfl (oaloadN X2 hx hby d5_6 rfl rfl (oiconst X2 hx hby d5_7 (oiloadN X2 hx hby d5_8 rfl (st4 _ (oistore X4 hx hby d5_12 (lc15 a1 0 3 b2 3) rfl (oiload X4 hx hby d5_14 rfl (oiloadN X4 hx hby d5_16 rfl k)))))))))))) ?_
  refine own_go (U' := T4.setTop (mkF m 58 (lc15 a1 0 3 b2 3) [(.ref b2)])) (fun t k => oicY (pc := 17) X4 hx hby d5_17 57 (by decide) (by decide) (oaloadN X4 hx hby d5_57 rfl rfl k)) ?_
  have f24 : Exa Z T4.heap b2 "[B" := (B2.keep K4)
  obtain ⟨fs, hr, hrun, hended, hW, hsame⟩ := X4.leave (v := some (.ref b2)) (fun h => by rw [Bd.returns] at h; cases h)
  refine own_out ⟨_, _, ?_, hrun, hended, _, _, rfl, ?_, ⟨_, rfl⟩, hW, hsame.mono (by decide) (by decide)⟩
  · exact retOut X4 hx Bd.returns rfl (Or.inr (Or.inr (Or.inr (Or.inr ⟨rfl, rfl, rfl⟩)))) (hb hby d5_58) hr
  · show Q5_85 Z a1 p5 p6 p7 kc8 h0 n0 _ T4.heap _
    exact ⟨b2, k2, rfl, N23, (Keep.trans ((Keep.refl h0 []).ext E2) K4 (allS (Or.inr (Nat.le_of_eq g2.symm)) all0)), (Nat.le_of_eq g2.symm), f24, f22⟩
def Q7_86 (Z : State) (a1 : Addr) (p2 p3 p4 : Int32) (kc5 : ClassId) (h0 : Heap) (n0 : Nat) (v : Option Value) (h : Heap) (L : List Loc) : Prop := v = some (.int 0) ∧ Fr n0 L ∧ h = h0
theorem rm7_86 (l : Launch) {Z : State} {a0 : Array Value} (hw : own_W Z a0) (a1 : Addr) (p2 p3 p4 : Int32) (kc5 : ClassId) (h0 : Heap) (n0 : Nat) (Z0 : n0 ≤ h0.size) (F6 : Arv Z h0 a1 kc5 .byte (3 : Int32) [(.int p2), (.int p3), (.int p4)] (.int (0 : Int32))) :
    own_MF l zm3 c_7 2 (some .byte) (own_R 0 0 0 0) #[(.ref a1), (.int 3)] Z h0 (Q7_86 Z a1 p2 p3 p4 kc5 h0 n0) := by
  refine own_st (L := (lc17 a1 3)) (own := zs1) (plainFor_of_name pn_1) rfl (fun m => ef_3 m a1 3) fun p e s m below meth c s₁ Bd hml hZ hh hx hby hown hnm X0 e0 => ?_
  have N0 := Fr.nil n0
  refine own_go (U' := s₁.setTop (mkF m 2 (lc17 a1 3) [(.ref a1), (.int 3)])) (fun t k => oiloadN X0 hx hby d7_0 rfl (oaloadN X0 hx hby d7_1 rfl rfl k)) ?_
  obtain ⟨cl7, Ar7, q7, S7, N7, H7, G7⟩ := id F6
  refine own_go (fun t k => X0.arraylength hx (own_at e0 Ar7.1) (State.isArrayOf_alike hZ.alike Ar7.2.1) (g := (mkF m 2 (lc17 a1 3) [(.ref a1), (.int 3)])) rfl rfl (hb hby d7_2) _ k) ?_
  rw [len_of S7 N7]
  refine own_go (U' := s₁.setTop (mkF m 8 (lc17 a1 3) [(.int 0)])) (fun t k => oisub X0 hx hby d7_3 (obipush X0 hx hby d7_4 (oiushr X0 hx hby d7_6 (oi2b X0 hx hby d7_7 k)))) ?_
  obtain ⟨fs, hr, hrun, hended, hW, hsame⟩ := X0.leave (v := some (.int 0)) (fun h => by rw [Bd.returns] at h; cases h)
  refine own_out ⟨_, _, ?_, hrun, hended, _, _, rfl, ?_, ⟨_, rfl⟩, hW, hsame.mono (by decide) (by decide)⟩
  · exact retN X0 hx (t := .byte) Bd.returns (by simp) (hb hby d7_8) hr
  · show Q7_86 Z a1 p2 p3 p4 kc5 h0 n0 _ s₁.heap _
    rw [e0]
    exact ⟨rfl, N0, rfl⟩
def Q3_87 (Z : State) (a1 a2 : Addr) (p4 p9 p10 p11 : Int32) (kc12 : ClassId) (h0 : Heap) (n0 : Nat) (v : Option Value) (h : Heap) (L : List Loc) : Prop := ∃ b23 : Addr, ∃ k24 : ClassId, v = none ∧ Fr n0 L ∧ Keep h0 h [a1] ∧ h0.size ≤ b23 ∧ Fld Z h a1 zs6 "coder" "B" (.int 0) ∧ Fld Z h a1 zs6 "value" "[B" (.ref b23) ∧ Exa Z h b23 "[B" ∧ Arv Z h b23 k24 .byte (3 : Int32) [(.int p9), (.int p10), (.int p11)] (.int (0 : Int32))
theorem rm3_87 (l : Launch) {Z : State} {a0 : Array Value} (hw : own_W Z a0) (a1 a2 : Addr) (p4 p9 p10 p11 : Int32) (kc12 : ClassId) (h0 : Heap) (n0 : Nat) (Z0 : n0 ≤ h0.size) (F5 : Sta Z h0 zs6 zs7 "Z" (.int p4)) (hc7 : ¬ (p4 = (0 : Int32))) (F13 : Arv Z h0 a2 kc12 .char (3 : Int32) [(.int p9), (.int p10), (.int p11)] (.int (0 : Int32))) (hc14 : ¬ ((255 : Int32) < p9)) (hc15 : ¬ (p9 < (0 : Int32))) (hc16 : p9 < (128 : Int32)) (hc17 : ¬ ((255 : Int32) < p10)) (hc18 : ¬ (p10 < (0 : Int32))) (hc19 : p10 < (128 : Int32)) (hc20 : ¬ ((255 : Int32) < p11)) (hc21 : ¬ (p11 < (0 : Int32))) (hc22 : p11 < (128 : Int32)) (F31 : Fld Z h0 a1 zs6 "coder" "B" (.int 0)) (F32 : Fld Z h0 a1 zs6 "value" "[B" .null) (F34 : Exa Z h0 a1 zs6) (g37 : n0 ≤ a1) :
    own_MF l zm4 c_3 6 none (own_R 2 1 3 35) #[(.ref a1), (.ref a2), (.int 0), (.int 3), .null] Z h0 (Q3_87 Z a1 a2 p4 p9 p10 p11 kc12 h0 n0) := by
  refine own_st (L := (lc9 a1 a2 0 3)) (own := zs6) (plainFor_of_name pn_2) rfl (fun m => ef_4 m a1 a2 0 3) fun p e s m below meth c s₁ Bd hml hZ hh hx hby hown hnm X0 e0 => ?_
  have N0 := Fr.nil n0
  obtain ⟨T3, X3, e3, st3⟩ := initO X0 hx hZ hown (ww hw 16 rfl) (ww hw 17 rfl) (ww hw 18 rfl) e0 (g := (mkF m 1 (lc9 a1 a2 0 3) [(.ref a1)])) rfl (by rw [hml]; rfl) rfl (hb hby d3_1) (by decide) (W := 0) (by show 2 * 0 + _ ≤ _; exact Nat.le_of_eq rfl) (by decide)
  refine own_go (U' := T3.setTop (mkF m 5 (lc9 a1 a2 0 3) [(.int 3)])) (fun t k => oaloadN X0 hx hby d3_0 rfl rfl (st3 _ (oiloadN X3 hx hby d3_4 rfl k))) ?_
  obtain ⟨T6, X6, e6, st6⟩ := getS2 X3 hx hZ hown (host := "") (Or.inl (ww hw 19 rfl)) Via.refl e3 F5 (g := (mkF m 27 (lc9 a1 a2 0 3) [])) rfl (hb hby d3_27)
  refine own_go (U' := T6.setTop (mkF m 30 (lc9 a1 a2 0 3) [(.int p4)])) (fun t k => oifY (pc := 5) X3 hx hby d3_5 27 (by decide) (by decide) (st6 _ k)) ?_
  obtain ⟨_, T8, L8, X8, hQ8, st8⟩ := ocallS X6 hx hZ zm2 hown (ww hw 20 rfl) (ww hw 21 rfl) (by decide) (ww hw 23 rfl) (ww hw 22 rfl) e6 (rm5_85 l hw a2 p9 p10 p11 kc12 h0 n0 Z0 F13 hc14 hc15 hc16 hc17 hc18 hc19 hc20 hc21 hc22) (st := [(.int 3), (.int 0), (.ref a2)]) rfl 0 rfl (by decide) (pc := 36) (Ls := (lc9 a1 a2 0 3)) hml rfl (lenOf pd_2 rfl) d3_36 hby
  obtain ⟨b23, k24, rfl, N8q, K8, sz25, f26, f27⟩ := hQ8
  have N28 := Fr.app N0 N8q
  have Z_1 : n0 ≤ T8.heap.size := Nat.le_trans Z0 K8.1
  obtain ⟨_, T29, L29, X29, hQ29, st29⟩ := ocallS X8 hx hZ zm3 hown (ww hw 28 rfl) (ww hw 29 rfl) (by decide) (ww hw 30 rfl) (ww hw 22 rfl) rfl (rm7_86 l hw b23 p9 p10 p11 k24 T8.heap n0 Z_1 f27) (st := [(.int 3), (.ref b23), (.ref a1)]) rfl 1 rfl (by decide) (pc := 45) (Ls := (lc16 a1 a2 0 3 b23)) hml rfl (lenOf pd_3 rfl) d3_45 hby
  obtain ⟨rfl, N29q, e29⟩ := hQ29
  have N30 := Fr.app N28 N29q
  have f33 : Fld Z T8.heap a1 zs6 "coder" "B" (.int 0) := (F31.keep K8 nin0)
  have f35 : Exa Z T8.heap a1 zs6 := (F34.keep K8)
  obtain ⟨T36, h36, X36, e36, W36, st36⟩ := putFN X29 hx hZ hown (ww hw 31 rfl) Via.refl e29 f33 f35 (Or.inr ⟨(ww hw 32 rfl), rfl, hnm⟩) (ww hw 7 rfl) (ty := .byte) (v' := (.int 0)) (by decide) rfl (by decide) (g := (mkF m 48 (lc16 a1 a2 0 3 b23) [(.int 0), (.ref a1)])) rfl rfl (hb hby d3_48)
  have N38 := Fr.snoc X36 N30 g37
  have f39 : Fld Z h36 a1 zs6 "coder" "B" (.int 0) := Fld.same W36 f33
  have f40 : Fld Z h36 a1 zs6 "value" "[B" .null := (Fld.other W36 (F32.keep K8 nin0) (Or.inr (slot_ne (Or.inr (ww hw 34 rfl)) (Or.inr (ww hw 32 rfl)) (by decide) (t := (.array .byte)) (t' := .byte) (by decide) (by decide))))
  have f41 : Exa Z h36 a1 zs6 := (Exa.wr W36 f35)
  obtain ⟨T42, h42, X42, e42, W42, st42⟩ := putF X36 hx hZ hown (host := "") (Or.inl (ww hw 33 rfl)) Via.refl e36 f40 f41 (Or.inr ⟨(ww hw 34 rfl), rfl, hnm⟩) (ww hw 7 rfl) (ty := (.array .byte)) (by decide) rfl rfl (g := (mkF m 54 (lc16 a1 a2 0 3 b23) [(.ref b23), (.ref a1)])) rfl rfl (hb hby d3_54)
  have N43 := Fr.snoc X42 N38 g37
  have f44 : Fld Z h42 a1 zs6 "value" "[B" (.ref b23) := Fld.same W42 f40
  refine own_go (U' := T42.setTop (mkF m 57 (lc16 a1 a2 0 3 b23) [])) (fun t k => oifN X6 hx hby d3_30 ((if0 _ _).trans (feq hc7).1) (oaloadN X6 hx hby d3_33 rfl rfl (oiloadN X6 hx hby d3_34 rfl (oiloadN X6 hx hby d3_35 rfl (st8 _ (oastore X8 hx hby d3_39 (lc16 a1 a2 0 3 b23) rfl rfl (oaloadN X8 hx hby d3_41 rfl rfl (oaload X8 hx hby d3_42 rfl rfl (oiloadN X8 hx hby d3_44 rfl (st29 _ (st36 _ (oaloadN X36 hx hby d3_51 rfl rfl (oaload X36 hx hby d3_52 rfl rfl (st42 _ k)))))))))))))) ?_
  have f45 : Fld Z h42 a1 zs6 "coder" "B" (.int 0) := (Fld.other W42 f39 (Or.inr (slot_ne (Or.inr (ww hw 32 rfl)) (Or.inr (ww hw 34 rfl)) (by decide) (t := .byte) (t' := (.array .byte)) (by decide) (by decide))))
  have f46 : Exa Z h42 b23 "[B" := (Exa.wr W42 (Exa.wr W36 f26))
  have ne47 : a1 ≠ b23 := Nat.ne_of_lt (nlt (F31.lt) sz25)
  have f48 : Arv Z h42 b23 k24 .byte (3 : Int32) [(.int p9), (.int p10), (.int p11)] (.int (0 : Int32)) := ((f27.other W36 (Ne.symm ne47)).other W42 (Ne.symm ne47))
  obtain ⟨fs, hr, hrun, hended, hW, hsame⟩ := X42.leave (v := none) (fun _ => rfl)
  refine own_out ⟨_, _, ?_, hrun, hended, _, _, rfl, ?_, ⟨_, rfl⟩, hW, hsame.mono (by decide) (by decide)⟩
  · exact X42.returnOut hx Bd.returns (hb hby d3_57) hr
  · show Q3_87 Z a1 a2 p4 p9 p10 p11 kc12 h0 n0 _ T42.heap _
    rw [e42]
    exact ⟨b23, k24, rfl, N43, (((Keep.trans (Keep.refl h0 [a1]) K8 all0).wr W36 (Or.inl (List.mem_of_getElem? (i := 0) rfl))).wr W42 (Or.inl (List.mem_of_getElem? (i := 0) rfl))), sz25, f45, f44, f46, f48⟩
def Q2_88 (Z : State) (a1 a2 : Addr) (p3 p4 p5 : Int32) (kc6 : ClassId) (p10 : Int32) (h0 : Heap) (n0 : Nat) (v : Option Value) (h : Heap) (L : List Loc) : Prop := ∃ b26 : Addr, ∃ k27 : ClassId, v = none ∧ Fr n0 L ∧ Keep h0 h [a1] ∧ h0.size ≤ b26 ∧ Fld Z h a1 zs6 "coder" "B" (.int 0) ∧ Fld Z h a1 zs6 "value" "[B" (.ref b26) ∧ Exa Z h b26 "[B" ∧ Arv Z h b26 k27 .byte (3 : Int32) [(.int p3), (.int p4), (.int p5)] (.int (0 : Int32))
theorem rm2_88 (l : Launch) {Z : State} {a0 : Array Value} (hw : own_W Z a0) (a1 a2 : Addr) (p3 p4 p5 : Int32) (kc6 : ClassId) (p10 : Int32) (h0 : Heap) (n0 : Nat) (Z0 : n0 ≤ h0.size) (F7 : Arv Z h0 a2 kc6 .char (3 : Int32) [(.int p3), (.int p4), (.int p5)] (.int (0 : Int32))) (F11 : Sta Z h0 zs6 zs7 "Z" (.int p10)) (hc12 : ¬ (p10 = (0 : Int32))) (hc13 : ¬ ((255 : Int32) < p3)) (hc14 : ¬ (p3 < (0 : Int32))) (hc15 : p3 < (128 : Int32)) (hc16 : ¬ ((255 : Int32) < p4)) (hc17 : ¬ (p4 < (0 : Int32))) (hc18 : p4 < (128 : Int32)) (hc19 : ¬ ((255 : Int32) < p5)) (hc20 : ¬ (p5 < (0 : Int32))) (hc21 : p5 < (128 : Int32)) (F22 : Fld Z h0 a1 zs6 "coder" "B" (.int 0)) (F23 : Fld Z h0 a1 zs6 "value" "[B" .null) (F24 : Exa Z h0 a1 zs6) (g25 : n0 ≤ a1) :
    own_MF l zm5 c_2 2 none (own_R 3 1 3 52) #[(.ref a1), (.ref a2)] Z h0 (Q2_88 Z a1 a2 p3 p4 p5 kc6 p10 h0 n0) := by
  refine own_st (L := (lc8 a1 a2)) (own := zs6) (plainFor_of_name pn_2) rfl (fun m => ef_5 m a1 a2) fun p e s m below meth c s₁ Bd hml hZ hh hx hby hown hnm X0 e0 => ?_
  have N0 := Fr.nil n0
  refine own_go (U' := s₁.setTop (mkF m 4 (lc8 a1 a2) [(.ref a2), (.int 0), (.ref a2), (.ref a1)])) (fun t k => oaloadN X0 hx hby d2_0 rfl rfl (oaloadN X0 hx hby d2_1 rfl rfl (oiconst X0 hx hby d2_2 (oaloadN X0 hx hby d2_3 rfl rfl k)))) ?_
  obtain ⟨cl8, Ar8, q8, S8, N8, H8, G8⟩ := id F7
  refine own_go (fun t k => X0.arraylength hx (own_at e0 Ar8.1) (State.isArrayOf_alike hZ.alike Ar8.2.1) (g := (mkF m 4 (lc8 a1 a2) [(.ref a2), (.int 0), (.ref a2), (.ref a1)])) rfl rfl (hb hby d2_4) _ k) ?_
  rw [len_of S8 N8]
  obtain ⟨_, T9, L9, X9, hQ9, st9⟩ := ocallI X0 hx hZ zm4 rfl hown (ww hw 12 rfl) (ww hw 13 rfl) (by decide) (ww hw 15 rfl) (ww hw 8 rfl) e0 (rm3_87 l hw a1 a2 p10 p3 p4 p5 kc6 h0 n0 Z0 F11 hc12 F7 hc13 hc14 hc15 hc16 hc17 hc18 hc19 hc20 hc21 F22 F23 F24 g25) (st := [.null, (.int 3), (.int 0), (.ref a2), (.ref a1)]) rfl 0 rfl (by decide) (pc := 6) (Ls := (lc8 a1 a2)) hml rfl (lenOf pd_4 rfl) d2_6 hby
  obtain ⟨b26, k27, rfl, N9q, K9, sz28, f29, f30, f31, f32⟩ := hQ9
  have N33 := Fr.app N0 N9q
  refine own_go (U' := T9.setTop (mkF m 9 (lc8 a1 a2) [])) (fun t k => onull X0 hx hby d2_5 (st9 _ k)) ?_
  obtain ⟨fs, hr, hrun, hended, hW, hsame⟩ := X9.leave (v := none) (fun _ => rfl)
  refine own_out ⟨_, _, ?_, hrun, hended, _, _, rfl, ?_, ⟨_, rfl⟩, hW, hsame.mono (by decide) (by decide)⟩
  · exact X9.returnOut hx Bd.returns (hb hby d2_9) hr
  · show Q2_88 Z a1 a2 p3 p4 p5 kc6 p10 h0 n0 _ T9.heap _
    exact ⟨b26, k27, rfl, N33, (Keep.trans (Keep.refl h0 [a1]) K9 (allS (Or.inl (List.mem_of_getElem? (i := 0) rfl)) all0)), sz28, f29, f30, f31, f32⟩
def Q9_89 (Z : State) (a1 a2 : Addr) (p3 p4 p5 : Int32) (kc6 : ClassId) (kc9 : ClassId) (h0 : Heap) (n0 : Nat) (v : Option Value) (h : Heap) (L : List Loc) : Prop := v = some (.int 0) ∧ Fr n0 L ∧ h = h0
theorem rm9_89 (l : Launch) {Z : State} {a0 : Array Value} (hw : own_W Z a0) (a1 a2 : Addr) (p3 p4 p5 : Int32) (kc6 : ClassId) (kc9 : ClassId) (h0 : Heap) (n0 : Nat) (Z0 : n0 ≤ h0.size) (F7 : Arv Z h0 a1 kc6 .byte (3 : Int32) [(.int p3), (.int p4), (.int p5)] (.int (0 : Int32))) (F10 : Arv Z h0 a2 kc9 .byte (1 : Int32) [(.int 46)] (.int (0 : Int32))) :
    own_MF l zm6 c_9 3 (some .boolean) (own_R 0 0 0 0) #[(.ref a1), (.ref a2)] Z h0 (Q9_89 Z a1 a2 p3 p4 p5 kc6 kc9 h0 n0) := by
  refine own_st (L := (lc19 a1 a2)) (own := zs9) (plainFor_of_name pn_3) rfl (fun m => ef_6 m a1 a2) fun p e s m below meth c s₁ Bd hml hZ hh hx hby hown hnm X0 e0 => ?_
  have N0 := Fr.nil n0
  refine own_go (U' := s₁.setTop (mkF m 1 (lc19 a1 a2) [(.ref a1)])) (fun t k => oaloadN X0 hx hby d9_0 rfl rfl k) ?_
  obtain ⟨cl8, Ar8, q8, S8, N8, H8, G8⟩ := id F7
  refine own_go (fun t k => X0.arraylength hx (own_at e0 Ar8.1) (State.isArrayOf_alike hZ.alike Ar8.2.1) (g := (mkF m 1 (lc19 a1 a2) [(.ref a1)])) rfl rfl (hb hby d9_1) _ k) ?_
  rw [len_of S8 N8]
  refine own_go (U' := s₁.setTop (mkF m 3 (lc19 a1 a2) [(.ref a2), (.int 3)])) (fun t k => oaloadN X0 hx hby d9_2 rfl rfl k) ?_
  obtain ⟨cl11, Ar11, q11, S11, N11, H11, G11⟩ := id F10
  refine own_go (fun t k => X0.arraylength hx (own_at e0 Ar11.1) (State.isArrayOf_alike hZ.alike Ar11.2.1) (g := (mkF m 3 (lc19 a1 a2) [(.ref a2), (.int 3)])) rfl rfl (hb hby d9_3) _ k) ?_
  rw [len_of S11 N11]
  refine own_go (U' := s₁.setTop (mkF m 35 (lc19 a1 a2) [(.int 0)])) (fun t k => oicY (pc := 4) X0 hx hby d9_4 34 (by decide) (by decide) (oiconst X0 hx hby d9_34 k)) ?_
  obtain ⟨fs, hr, hrun, hended, hW, hsame⟩ := X0.leave (v := some (.int 0)) (fun h => by rw [Bd.returns] at h; cases h)
  refine own_out ⟨_, _, ?_, hrun, hended, _, _, rfl, ?_, ⟨_, rfl⟩, hW, hsame.mono (by decide) (by decide)⟩
  · exact retN X0 hx (t := .boolean) Bd.returns (by simp) (hb hby d9_35) hr
  · show Q9_89 Z a1 a2 p3 p4 p5 kc6 kc9 h0 n0 _ s₁.heap _
    rw [e0]
    exact ⟨rfl, N0, rfl⟩
def Q8_90 (Z : State) (a1 a2 : Addr) (p7 : Int32) (a15 a18 : Addr) (p22 p23 p24 : Int32) (kc25 : ClassId) (kc27 : ClassId) (h0 : Heap) (n0 : Nat) (v : Option Value) (h : Heap) (L : List Loc) : Prop := v = some (.int 0) ∧ Fr n0 L ∧ h = h0
theorem rm8_90 (l : Launch) {Z : State} {a0 : Array Value} (hw : own_W Z a0) (a1 a2 : Addr) (p7 : Int32) (a15 a18 : Addr) (p22 p23 p24 : Int32) (kc25 : ClassId) (kc27 : ClassId) (h0 : Heap) (n0 : Nat) (Z0 : n0 ≤ h0.size) (ha3 : a1 ≠ a2) (F4 : Exa Z h0 a2 zs6) (F8 : Sta Z h0 zs6 zs7 "Z" (.int p7)) (hc10 : ¬ (p7 = (0 : Int32))) (F11 : Fld Z h0 a1 zs6 "coder" "B" (.int 0)) (F13 : Fld Z h0 a2 zs6 "coder" "B" (.int 0)) (F16 : Fld Z h0 a1 zs6 "value" "[B" (.ref a15)) (F19 : Fld Z h0 a2 zs6 "value" "[B" (.ref a18)) (F26 : Arv Z h0 a15 kc25 .byte (3 : Int32) [(.int p22), (.int p23), (.int p24)] (.int (0 : Int32))) (F28 : Arv Z h0 a18 kc27 .byte (1 : Int32) [(.int 46)] (.int (0 : Int32))) :
    own_MF l zm7 c_8 3 (some .boolean) (own_R 1 0 0 14) #[(.ref a1), (.ref a2)] Z h0 (Q8_90 Z a1 a2 p7 a15 a18 p22 p23 p24 kc25 kc27 h0 n0) := by
  refine own_st (L := (lc19 a1 a2)) (own := zs6) (plainFor_of_name pn_2) rfl (fun m => ef_6 m a1 a2) fun p e s m below meth c s₁ Bd hml hZ hh hx hby hown hnm X0 e0 => ?_
  have N0 := Fr.nil n0
  obtain ⟨T5, X5, e5, st5⟩ := instY X0 hx hZ hown (ww hw 43 rfl) e0 (Ins.self F4) (g := (mkF m 8 (lc19 a1 a2) [(.ref a2)])) rfl rfl (hb hby d8_8)
  refine own_go (U' := T5.setTop (mkF m 11 (lc19 a1 a2) [(.int 1)])) (fun t k => oaloadN X0 hx hby d8_0 rfl rfl (oaloadN X0 hx hby d8_1 rfl rfl (oacmp (pc := 2) X0 hx hby d8_2 7 (same := false) rfl rfl (decide_eq_false fun q => ha3 (Value.ref.inj q)) (by decide) (oaloadN X0 hx hby d8_7 rfl rfl (st5 _ k))))) ?_
  obtain ⟨T6, X6, e6, st6⟩ := castY X5 hx hZ hown (ww hw 43 rfl) e5 (Ins.self F4) (g := (mkF m 15 (lc19 a1 a2) [(.ref a2)])) rfl rfl (hb hby d8_15)
  obtain ⟨T9, X9, e9, st9⟩ := getS2 X6 hx hZ hown (host := "") (Or.inl (ww hw 19 rfl)) Via.refl e6 F8 (g := (mkF m 19 (lc20 a1 a2 a2) [])) rfl (hb hby d8_19)
  refine own_go (U' := T9.setTop (mkF m 22 (lc20 a1 a2 a2) [(.int p7)])) (fun t k => oifN X5 hx hby d8_11 (by decide) (oaloadN X5 hx hby d8_14 rfl rfl (st6 _ (oastoreN X6 hx hby d8_18 (lc20 a1 a2 a2) rfl rfl (st9 _ k))))) ?_
  obtain ⟨T12, X12, e12, st12⟩ := getF X9 hx hZ hown (host := "") (Or.inl (ww hw 31 rfl)) Via.refl e9 F11 (g := (mkF m 26 (lc20 a1 a2 a2) [(.ref a1)])) rfl rfl (hb hby d8_26)
  obtain ⟨T14, X14, e14, st14⟩ := getF X12 hx hZ hown (host := "") (Or.inl (ww hw 31 rfl)) Via.refl e12 F13 (g := (mkF m 30 (lc20 a1 a2 a2) [(.ref a2), (.int 0)])) rfl rfl (hb hby d8_30)
  refine own_go (U' := T14.setTop (mkF m 33 (lc20 a1 a2 a2) [(.int 0), (.int 0)])) (fun t k => oifN X9 hx hby d8_22 ((if0 _ _).trans (feq hc10).1) (oaloadN X9 hx hby d8_25 rfl rfl (st12 _ (oaloadN X12 hx hby d8_29 rfl rfl (st14 _ k))))) ?_
  obtain ⟨T17, X17, e17, st17⟩ := getF X14 hx hZ hown (host := "") (Or.inl (ww hw 33 rfl)) Via.refl e14 F16 (g := (mkF m 37 (lc20 a1 a2 a2) [(.ref a1)])) rfl rfl (hb hby d8_37)
  obtain ⟨T20, X20, e20, st20⟩ := getF X17 hx hZ hown (host := "") (Or.inl (ww hw 33 rfl)) Via.refl e17 F19 (g := (mkF m 41 (lc20 a1 a2 a2) [(.ref a2), (.ref a15)])) rfl rfl (hb hby d8_41)
  obtain ⟨_, T21, L21, X21, hQ21, st21⟩ := ocallS X20 hx hZ zm6 hown (ww hw 44 rfl) (ww hw 45 rfl) (by decide) (ww hw 47 rfl) (ww hw 46 rfl) e20 (rm9_89 l hw a15 a18 p22 p23 p24 kc25 kc27 h0 n0 Z0 F26 F28) (st := [(.ref a18), (.ref a15)]) rfl 0 rfl (by decide) (pc := 44) (Ls := (lc20 a1 a2 a2)) hml rfl (lenOf pd_6 rfl) d8_44 hby
  obtain ⟨rfl, N21q, e21⟩ := hQ21
  have N29 := Fr.app N0 N21q
  refine own_go (U' := T21.setTop (mkF m 47 (lc20 a1 a2 a2) [(.int 0)])) (fun t k => oicN X14 hx hby d8_33 (by decide) (oaloadN X14 hx hby d8_36 rfl rfl (st17 _ (oaloadN X17 hx hby d8_40 rfl rfl (st20 _ (st21 _ k)))))) ?_
  refine own_go (U' := T21.setTop (mkF m 55 (lc20 a1 a2 a2) [(.int 0)])) (fun t k => oifY (pc := 47) X21 hx hby d8_47 54 (by decide) (by decide) (oiconst X21 hx hby d8_54 k)) ?_
  obtain ⟨fs, hr, hrun, hended, hW, hsame⟩ := X21.leave (v := some (.int 0)) (fun h => by rw [Bd.returns] at h; cases h)
  refine own_out ⟨_, _, ?_, hrun, hended, _, _, rfl, ?_, ⟨_, rfl⟩, hW, hsame.mono (by decide) (by decide)⟩
  · exact retN X21 hx (t := .boolean) Bd.returns (by simp) (hb hby d8_55) hr
  · show Q8_90 Z a1 a2 p7 a15 a18 p22 p23 p24 kc25 kc27 h0 n0 _ T21.heap _
    rw [e21]
    exact ⟨rfl, N29, rfl⟩
def Qmg8_91 (Z : State) (a1 a2 : Addr) (p5 : Int32) (a10 a12 : Addr) (p14 p15 p16 : Int32) (kc17 : ClassId) (kc19 : ClassId) (h0 : Heap) (n0 : Nat) (v : Option Value) (h : Heap) (L : List Loc) : Prop := v = some (.int 0) ∧ Fr n0 L ∧ h = h0
theorem mg8_91 (l : Launch) {Z : State} {a0 : Array Value} (hw : own_W Z a0) (a1 a2 : Addr) (p5 : Int32) (a10 a12 : Addr) (p14 p15 p16 : Int32) (kc17 : ClassId) (kc19 : ClassId) (h0 : Heap) (n0 : Nat) (Z0 : n0 ≤ h0.size) (ha3 : a1 ≠ a2) (F4 : Exa Z h0 a2 zs6) (F6 : Sta Z h0 zs6 zs7 "Z" (.int p5)) (hc7 : ¬ (p5 = (0 : Int32))) (F8 : Fld Z h0 a1 zs6 "coder" "B" (.int 0)) (F9 : Fld Z h0 a2 zs6 "coder" "B" (.int 0)) (F11 : Fld Z h0 a1 zs6 "value" "[B" (.ref a10)) (F13 : Fld Z h0 a2 zs6 "value" "[B" (.ref a12)) (F18 : Arv Z h0 a10 kc17 .byte (3 : Int32) [(.int p14), (.int p15), (.int p16)] (.int (0 : Int32))) (F20 : Arv Z h0 a12 kc19 .byte (1 : Int32) [(.int 46)] (.int (0 : Int32))) :
    own_MF l zm7 c_8 3 (some .boolean) (own_R 1 0 0 14) #[(.ref a1), (.ref a2)] Z h0 (Qmg8_91 Z a1 a2 p5 a10 a12 p14 p15 p16 kc17 kc19 h0 n0) := by
  exact rm8_90 l hw a1 a2 p5 a10 a12 p14 p15 p16 kc17 kc19 h0 n0 Z0 ha3 F4 F6 hc7 F8 F9 F11 F13 F18 F20
def Q9_92 (Z : State) (a1 a2 : Addr) (p3 p4 p5 : Int32) (kc6 : ClassId) (kc9 : ClassId) (h0 : Heap) (n0 : Nat) (v : Option Value) (h : Heap) (L : List Loc) : Prop := v = some (.int 0) ∧ Fr n0 L ∧ h = h0
theorem rm9_92 (l : Launch) {Z : State} {a0 : Array Value} (hw : own_W Z a0) (a1 a2 : Addr) (p3 p4 p5 : Int32) (kc6 : ClassId) (kc9 : ClassId) (h0 : Heap) (n0 : Nat) (Z0 : n0 ≤ h0.size) (F7 : Arv Z h0 a1 kc6 .byte (3 : Int32) [(.int p3), (.int p4), (.int p5)] (.int (0 : Int32))) (F10 : Arv Z h0 a2 kc9 .byte (2 : Int32) [(.int 46), (.int 46)] (.int (0 : Int32))) :
    own_MF l zm6 c_9 3 (some .boolean) (own_R 0 0 0 0) #[(.ref a1), (.ref a2)] Z h0 (Q9_92 Z a1 a2 p3 p4 p5 kc6 kc9 h0 n0) := by
  refine own_st (L := (lc19 a1 a2)) (own := zs9) (plainFor_of_name pn_3) rfl (fun m => ef_6 m a1 a2) fun p e s m below meth c s₁ Bd hml hZ hh hx hby hown hnm X0 e0 => ?_
  have N0 := Fr.nil n0
  refine own_go (U' := s₁.setTop (mkF m 1 (lc19 a1 a2) [(.ref a1)])) (fun t k => oaloadN X0 hx hby d9_0 rfl rfl k) ?_
  obtain ⟨cl8, Ar8, q8, S8, N8, H8, G8⟩ := id F7
  refine own_go (fun t k => X0.arraylength hx (own_at e0 Ar8.1) (State.isArrayOf_alike hZ.alike Ar8.2.1) (g := (mkF m 1 (lc19 a1 a2) [(.ref a1)])) rfl rfl (hb hby d9_1) _ k) ?_
  rw [len_of S8 N8]
  refine own_go (U' := s₁.setTop (mkF m 3 (lc19 a1 a2) [(.ref a2), (.int 3)])) (fun t k => oaloadN X0 hx hby d9_2 rfl rfl k) ?_
  obtain ⟨cl11, Ar11, q11, S11, N11, H11, G11⟩ := id F10
  refine own_go (fun t k => X0.arraylength hx (own_at e0 Ar11.1) (State.isArrayOf_alike hZ.alike Ar11.2.1) (g := (mkF m 3 (lc19 a1 a2) [(.ref a2), (.int 3)])) rfl rfl (hb hby d9_3) _ k) ?_
  rw [len_of S11 N11]
  refine own_go (U' := s₁.setTop (mkF m 35 (lc19 a1 a2) [(.int 0)])) (fun t k => oicY (pc := 4) X0 hx hby d9_4 34 (by decide) (by decide) (oiconst X0 hx hby d9_34 k)) ?_
  obtain ⟨fs, hr, hrun, hended, hW, hsame⟩ := X0.leave (v := some (.int 0)) (fun h => by rw [Bd.returns] at h; cases h)
  refine own_out ⟨_, _, ?_, hrun, hended, _, _, rfl, ?_, ⟨_, rfl⟩, hW, hsame.mono (by decide) (by decide)⟩
  · exact retN X0 hx (t := .boolean) Bd.returns (by simp) (hb hby d9_35) hr
  · show Q9_92 Z a1 a2 p3 p4 p5 kc6 kc9 h0 n0 _ s₁.heap _
    rw [e0]
    exact ⟨rfl, N0, rfl⟩
def Q8_93 (Z : State) (a1 a2 : Addr) (p7 : Int32) (a15 a18 : Addr) (p22 p23 p24 : Int32) (kc25 : ClassId) (kc27 : ClassId) (h0 : Heap) (n0 : Nat) (v : Option Value) (h : Heap) (L : List Loc) : Prop := v = some (.int 0) ∧ Fr n0 L ∧ h = h0
theorem rm8_93 (l : Launch) {Z : State} {a0 : Array Value} (hw : own_W Z a0) (a1 a2 : Addr) (p7 : Int32) (a15 a18 : Addr) (p22 p23 p24 : Int32) (kc25 : ClassId) (kc27 : ClassId) (h0 : Heap) (n0 : Nat) (Z0 : n0 ≤ h0.size) (ha3 : a1 ≠ a2) (F4 : Exa Z h0 a2 zs6) (F8 : Sta Z h0 zs6 zs7 "Z" (.int p7)) (hc10 : ¬ (p7 = (0 : Int32))) (F11 : Fld Z h0 a1 zs6 "coder" "B" (.int 0)) (F13 : Fld Z h0 a2 zs6 "coder" "B" (.int 0)) (F16 : Fld Z h0 a1 zs6 "value" "[B" (.ref a15)) (F19 : Fld Z h0 a2 zs6 "value" "[B" (.ref a18)) (F26 : Arv Z h0 a15 kc25 .byte (3 : Int32) [(.int p22), (.int p23), (.int p24)] (.int (0 : Int32))) (F28 : Arv Z h0 a18 kc27 .byte (2 : Int32) [(.int 46), (.int 46)] (.int (0 : Int32))) :
    own_MF l zm7 c_8 3 (some .boolean) (own_R 1 0 0 14) #[(.ref a1), (.ref a2)] Z h0 (Q8_93 Z a1 a2 p7 a15 a18 p22 p23 p24 kc25 kc27 h0 n0) := by
  refine own_st (L := (lc19 a1 a2)) (own := zs6) (plainFor_of_name pn_2) rfl (fun m => ef_6 m a1 a2) fun p e s m below meth c s₁ Bd hml hZ hh hx hby hown hnm X0 e0 => ?_
  have N0 := Fr.nil n0
  obtain ⟨T5, X5, e5, st5⟩ := instY X0 hx hZ hown (ww hw 43 rfl) e0 (Ins.self F4) (g := (mkF m 8 (lc19 a1 a2) [(.ref a2)])) rfl rfl (hb hby d8_8)
  refine own_go (U' := T5.setTop (mkF m 11 (lc19 a1 a2) [(.int 1)])) (fun t k => oaloadN X0 hx hby d8_0 rfl rfl (oaloadN X0 hx hby d8_1 rfl rfl (oacmp (pc := 2) X0 hx hby d8_2 7 (same := false) rfl rfl (decide_eq_false fun q => ha3 (Value.ref.inj q)) (by decide) (oaloadN X0 hx hby d8_7 rfl rfl (st5 _ k))))) ?_
  obtain ⟨T6, X6, e6, st6⟩ := castY X5 hx hZ hown (ww hw 43 rfl) e5 (Ins.self F4) (g := (mkF m 15 (lc19 a1 a2) [(.ref a2)])) rfl rfl (hb hby d8_15)
  obtain ⟨T9, X9, e9, st9⟩ := getS2 X6 hx hZ hown (host := "") (Or.inl (ww hw 19 rfl)) Via.refl e6 F8 (g := (mkF m 19 (lc20 a1 a2 a2) [])) rfl (hb hby d8_19)
  refine own_go (U' := T9.setTop (mkF m 22 (lc20 a1 a2 a2) [(.int p7)])) (fun t k => oifN X5 hx hby d8_11 (by decide) (oaloadN X5 hx hby d8_14 rfl rfl (st6 _ (oastoreN X6 hx hby d8_18 (lc20 a1 a2 a2) rfl rfl (st9 _ k))))) ?_
  obtain ⟨T12, X12, e12, st12⟩ := getF X9 hx hZ hown (host := "") (Or.inl (ww hw 31 rfl)) Via.refl e9 F11 (g := (mkF m 26 (lc20 a1 a2 a2) [(.ref a1)])) rfl rfl (hb hby d8_26)
  obtain ⟨T14, X14, e14, st14⟩ := getF X12 hx hZ hown (host := "") (Or.inl (ww hw 31 rfl)) Via.refl e12 F13 (g := (mkF m 30 (lc20 a1 a2 a2) [(.ref a2), (.int 0)])) rfl rfl (hb hby d8_30)
  refine own_go (U' := T14.setTop (mkF m 33 (lc20 a1 a2 a2) [(.int 0), (.int 0)])) (fun t k => oifN X9 hx hby d8_22 ((if0 _ _).trans (feq hc10).1) (oaloadN X9 hx hby d8_25 rfl rfl (st12 _ (oaloadN X12 hx hby d8_29 rfl rfl (st14 _ k))))) ?_
  obtain ⟨T17, X17, e17, st17⟩ := getF X14 hx hZ hown (host := "") (Or.inl (ww hw 33 rfl)) Via.refl e14 F16 (g := (mkF m 37 (lc20 a1 a2 a2) [(.ref a1)])) rfl rfl (hb hby d8_37)
  obtain ⟨T20, X20, e20, st20⟩ := getF X17 hx hZ hown (host := "") (Or.inl (ww hw 33 rfl)) Via.refl e17 F19 (g := (mkF m 41 (lc20 a1 a2 a2) [(.ref a2), (.ref a15)])) rfl rfl (hb hby d8_41)
  obtain ⟨_, T21, L21, X21, hQ21, st21⟩ := ocallS X20 hx hZ zm6 hown (ww hw 44 rfl) (ww hw 45 rfl) (by decide) (ww hw 47 rfl) (ww hw 46 rfl) e20 (rm9_92 l hw a15 a18 p22 p23 p24 kc25 kc27 h0 n0 Z0 F26 F28) (st := [(.ref a18), (.ref a15)]) rfl 0 rfl (by decide) (pc := 44) (Ls := (lc20 a1 a2 a2)) hml rfl (lenOf pd_6 rfl) d8_44 hby
  obtain ⟨rfl, N21q, e21⟩ := hQ21
  have N29 := Fr.app N0 N21q
  refine own_go (U' := T21.setTop (mkF m 47 (lc20 a1 a2 a2) [(.int 0)])) (fun t k => oicN X14 hx hby d8_33 (by decide) (oaloadN X14 hx hby d8_36 rfl rfl (st17 _ (oaloadN X17 hx hby d8_40 rfl rfl (st20 _ (st21 _ k)))))) ?_
  refine own_go (U' := T21.setTop (mkF m 55 (lc20 a1 a2 a2) [(.int 0)])) (fun t k => oifY (pc := 47) X21 hx hby d8_47 54 (by decide) (by decide) (oiconst X21 hx hby d8_54 k)) ?_
  obtain ⟨fs, hr, hrun, hended, hW, hsame⟩ := X21.leave (v := some (.int 0)) (fun h => by rw [Bd.returns] at h; cases h)
  refine own_out ⟨_, _, ?_, hrun, hended, _, _, rfl, ?_, ⟨_, rfl⟩, hW, hsame.mono (by decide) (by decide)⟩
  · exact retN X21 hx (t := .boolean) Bd.returns (by simp) (hb hby d8_55) hr
  · show Q8_93 Z a1 a2 p7 a15 a18 p22 p23 p24 kc25 kc27 h0 n0 _ T21.heap _
    rw [e21]
    exact ⟨rfl, N29, rfl⟩
def Qmg8_94 (Z : State) (a1 a2 : Addr) (p5 : Int32) (a10 a12 : Addr) (p14 p15 p16 : Int32) (kc17 : ClassId) (kc19 : ClassId) (h0 : Heap) (n0 : Nat) (v : Option Value) (h : Heap) (L : List Loc) : Prop := v = some (.int 0) ∧ Fr n0 L ∧ h = h0
theorem mg8_94 (l : Launch) {Z : State} {a0 : Array Value} (hw : own_W Z a0) (a1 a2 : Addr) (p5 : Int32) (a10 a12 : Addr) (p14 p15 p16 : Int32) (kc17 : ClassId) (kc19 : ClassId) (h0 : Heap) (n0 : Nat) (Z0 : n0 ≤ h0.size) (ha3 : a1 ≠ a2) (F4 : Exa Z h0 a2 zs6) (F6 : Sta Z h0 zs6 zs7 "Z" (.int p5)) (hc7 : ¬ (p5 = (0 : Int32))) (F8 : Fld Z h0 a1 zs6 "coder" "B" (.int 0)) (F9 : Fld Z h0 a2 zs6 "coder" "B" (.int 0)) (F11 : Fld Z h0 a1 zs6 "value" "[B" (.ref a10)) (F13 : Fld Z h0 a2 zs6 "value" "[B" (.ref a12)) (F18 : Arv Z h0 a10 kc17 .byte (3 : Int32) [(.int p14), (.int p15), (.int p16)] (.int (0 : Int32))) (F20 : Arv Z h0 a12 kc19 .byte (2 : Int32) [(.int 46), (.int 46)] (.int (0 : Int32))) :
    own_MF l zm7 c_8 3 (some .boolean) (own_R 1 0 0 14) #[(.ref a1), (.ref a2)] Z h0 (Qmg8_94 Z a1 a2 p5 a10 a12 p14 p15 p16 kc17 kc19 h0 n0) := by
  exact rm8_93 l hw a1 a2 p5 a10 a12 p14 p15 p16 kc17 kc19 h0 n0 Z0 ha3 F4 F6 hc7 F8 F9 F11 F13 F18 F20
def Q13_95 (Z : State) (a1 a2 : Addr) (p5 p6 p7 : Int32) (kc8 : ClassId) (h0 : Heap) (n0 : Nat) (v : Option Value) (h : Heap) (L : List Loc) : Prop := v = some (.int 0) ∧ Fr n0 L ∧ h = h0
theorem rm13_95 (l : Launch) {Z : State} {a0 : Array Value} (hw : own_W Z a0) (a1 a2 : Addr) (p5 p6 p7 : Int32) (kc8 : ClassId) (h0 : Heap) (n0 : Nat) (Z0 : n0 ≤ h0.size) (F3 : Fld Z h0 a1 zs6 "value" "[B" (.ref a2)) (F9 : Arv Z h0 a2 kc8 .byte (3 : Int32) [(.int p5), (.int p6), (.int p7)] (.int (0 : Int32))) :
    own_MF l zm10 c_13 1 (some .boolean) (own_R 0 0 0 0) #[(.ref a1)] Z h0 (Q13_95 Z a1 a2 p5 p6 p7 kc8 h0 n0) := by
  refine own_st (L := (lc23 a1)) (own := zs6) (plainFor_of_name pn_2) rfl (fun m => ef_7 m a1) fun p e s m below meth c s₁ Bd hml hZ hh hx hby hown hnm X0 e0 => ?_
  have N0 := Fr.nil n0
  obtain ⟨T4, X4, e4, st4⟩ := getF X0 hx hZ hown (host := "") (Or.inl (ww hw 33 rfl)) Via.refl e0 F3 (g := (mkF m 1 (lc23 a1) [(.ref a1)])) rfl rfl (hb hby d13_1)
  refine own_go (U' := T4.setTop (mkF m 4 (lc23 a1) [(.ref a2)])) (fun t k => oaloadN X0 hx hby d13_0 rfl rfl (st4 _ k)) ?_
  obtain ⟨cl10, Ar10, q10, S10, N10, H10, G10⟩ := id F9
  refine own_go (fun t k => X4.arraylength hx (own_at e4 Ar10.1) (State.isArrayOf_alike hZ.alike Ar10.2.1) (g := (mkF m 4 (lc23 a1) [(.ref a2)])) rfl rfl (hb hby d13_4) _ k) ?_
  rw [len_of S10 N10]
  refine own_go (U' := T4.setTop (mkF m 13 (lc23 a1) [(.int 0)])) (fun t k => oifY (pc := 5) X4 hx hby d13_5 12 (by decide) (by decide) (oiconst X4 hx hby d13_12 k)) ?_
  obtain ⟨fs, hr, hrun, hended, hW, hsame⟩ := X4.leave (v := some (.int 0)) (fun h => by rw [Bd.returns] at h; cases h)
  refine own_out ⟨_, _, ?_, hrun, hended, _, _, rfl, ?_, ⟨_, rfl⟩, hW, hsame.mono (by decide) (by decide)⟩
  · exact retN X4 hx (t := .boolean) Bd.returns (by simp) (hb hby d13_13) hr
  · show Q13_95 Z a1 a2 p5 p6 p7 kc8 h0 n0 _ T4.heap _
    rw [e4]
    exact ⟨rfl, N0, rfl⟩
def Q10_96 (Z : State) (a1 a2 a11 : Addr) (p14 p15 p16 : Int32) (kc17 : ClassId) (p22 : Int32) (vy0 : Value) (h0 : Heap) (n0 : Nat) (v : Option Value) (h : Heap) (L : List Loc) : Prop := v = none ∧ Fr n0 L ∧ Keep h0 h [a1] ∧ Fld Z h a1 zs21 "value" zs23 (.ref a2)
theorem rm10_96 (l : Launch) {Z : State} {a0 : Array Value} (hw : own_W Z a0) (a1 a2 a11 : Addr) (p14 p15 p16 : Int32) (kc17 : ClassId) (p22 : Int32) (vy0 : Value) (h0 : Heap) (n0 : Nat) (Z0 : n0 ≤ h0.size) (F9 : Exa Z h0 a2 zs6) (F12 : Fld Z h0 a2 zs6 "value" "[B" (.ref a11)) (F18 : Arv Z h0 a11 kc17 .byte (3 : Int32) [(.int p14), (.int p15), (.int p16)] (.int (0 : Int32))) (F23 : Sta Z h0 zs6 zs7 "Z" (.int p22)) (hc25 : ¬ (p22 = (0 : Int32))) (F26 : Fld Z h0 a2 zs6 "coder" "B" (.int 0)) (F32 : Sta Z h0 zs16 zs19 zs20 vy0) (hc34 : vy0.isRef = true) (hc35 : ¬ (p14 < (0 : Int32))) (hc36 : p14 < (128 : Int32)) (hc37 : p14 < (65536 : Int32)) (hc40 : own_ok p14) (hc41 : ¬ ((122 : Int32) < p14)) (hc46 : ¬ (p15 < (0 : Int32))) (hc47 : p15 < (128 : Int32)) (hc48 : p15 < (65536 : Int32)) (hc51 : own_ok p15) (hc52 : ¬ ((122 : Int32) < p15)) (hc57 : ¬ (p16 < (0 : Int32))) (hc58 : p16 < (128 : Int32)) (hc59 : p16 < (65536 : Int32)) (hc62 : own_ok p16) (hc63 : ¬ ((122 : Int32) < p16)) (F87 : Fld Z h0 a1 zs21 "value" zs23 .null) (F89 : Exa Z h0 a1 zs21) (g92 : n0 ≤ a1) :
    MetFree l zm19 (head1 [Jvm.Cond.code zm19 c_10 4 none] (own_R 4 6 60 53)) (fun a U => a = #[(.ref a1), (.ref a2)] ∧ Z.Warmed39 U.vm ∧ U.heap = h0 ∧ CHv Z consts_1 U.vm h0 ∧ ∀ x ∈ ([a2] : List Addr), Safe Z consts_1 U.vm h0 x) (fun _ _ _ _ _ => True) (fun _ U o U' => ∃ v L, o = .returned v ∧ Q10_96 Z a1 a2 a11 p14 p15 p16 kc17 p22 vy0 h0 n0 v U'.heap L ∧ CHr Z consts_1 U.vm U.heap U'.vm U'.heap ∧ ReturnedEndW U o U' L (own_R 4 6 60 53).cells (own_R 4 6 60 53).slots) := by
  refine MetFree.of_bodySF (plainFor_of_name pn_7) hisR ?_
  intro p e s m args below meth c s₁ Bd hml0 hP hK
  obtain ⟨rfl, hZ, hh, hC, hSL⟩ := hP
  have C0 := CHr.refl hC
  have hx := Bd.exec
  have hby := Bd.bytes
  have hml : c.maxLocals = 4 := hml0
  have hown : s.vm.findClass zs21 = some m.cls := findClass_of_methodNamed Bd.named
  have hnm := (name_of_methodNamed Bd.named Bd.method).1
  have X0 : Stand p l e (own_R 4 6 60 53) s m #[(.ref a1), (.ref a2)] below meth c s₁ [] 0 0 := Stand.of_body Bd
  have e0 : s₁.heap = h0 := by rw [← hh, Bd.state]; rfl
  have N0 := Fr.nil n0
  refine own_pre (g' := mkF m 0 (lc22 a1 a2) []) (ef_12 m a1 a2) ?_
  obtain ⟨_, T3, L3, X3, hQ3, st3⟩ := ocallI X0 hx hZ zm8 rfl hown (ww hw 55 rfl) (ww hw 56 rfl) (by decide) (ww hw 59 rfl) (ww hw 58 rfl) e0 (rm11_20 l hw a1 h0 n0 Z0 ) (st := [(.ref a1)]) rfl 0 rfl (by decide) (pc := 1) (Ls := (lc22 a1 a2)) hml rfl (lenOf pd_8 rfl) d10_1 hby
  obtain ⟨rfl, N3q, e3⟩ := hQ3
  have N4 := Fr.app N0 N3q
  obtain ⟨b5, T5, h5, k5, bv5, cl5, X5, e5, E5, hS5, hk5, hZ, hown, f5a, f5b, f5c, f5d, lt5, lv5, CR5, -, ns5, st5⟩ := ldcCH (s := s) (vm0 := s.vm) X3 hx hZ hown (ww hw 61 rfl) (own_wS hw) e3 ((State.WarmedH.refl s).since 0) (Nat.zero_le _) (own_EW hw) (List.mem_of_getElem? (i := 0) rfl) C0.1 (vs := [(.int 108), (.int 111), (.int 99), (.int 107), (.int 32), (.int 110), (.int 97), (.int 109), (.int 101)]) (z := 9) ⟨by decide, by decide⟩ (by decide) (by decide) (g := (mkF m 5 (lc22 a1 a2) [(.ref a2)])) rfl (hb hby d10_5) (n := 36) (by decide) (by decide) (by decide) (by decide)
  have C1 := C0.trans CR5
  have Z_1 : n0 ≤ h5.size := Nat.le_trans Z0 E5.1
  obtain ⟨_, T6, L6, X6, hQ6, st6⟩ := ocallS X5 hx hZ zm9 hown (ww hw 62 rfl) (ww hw 63 rfl) (by decide) (ww hw 65 rfl) (ww hw 64 rfl) e5 (rm12_21 l hw a2 b5 h5 n0 Z_1 ) (st := [(.ref b5), (.ref a2)]) rfl 0 rfl (by decide) (pc := 7) (Ls := (lc22 a1 a2)) hml rfl (lenOf pd_9 rfl) d10_7 hby
  obtain ⟨rfl, N6q, e6⟩ := hQ6
  have N7 := Fr.app N4 N6q
  have f10 : Exa Z h5 a2 zs6 := (Exa.ext E5 F9)
  have f13 : Fld Z h5 a2 zs6 "value" "[B" (.ref a11) := (Fld.ext E5 F12)
  have f19 : Arv Z h5 a11 kc17 .byte (3 : Int32) [(.int p14), (.int p15), (.int p16)] (.int (0 : Int32)) := (F18.ext E5)
  obtain ⟨_, T8, L8, X8, hQ8, st8⟩ := ocallV X6 hx hZ zm10 zm10 hown (ww hw 66 rfl) (ww hw 67 rfl) (notFace_of_selects (args := #[]) (mvT hZ (ww hw 69 rfl))) (ww hw 69 rfl) (ww hw 68 rfl) (by decide) (ww hw 70 rfl) (ww hw 8 rfl) e6 f10 (rm13_95 l hw a2 a11 p14 p15 p16 kc17 h5 n0 Z_1 f13 f19) (st := [(.ref a2)]) rfl 0 rfl (by decide) (pc := 12) (Ls := (lc22 a1 a2)) hml rfl (lenOf pd_10 rfl) d10_12 hby
  obtain ⟨rfl, N8q, e8⟩ := hQ8
  have N20 := Fr.app N7 N8q
  refine own_go (U' := T8.setTop (mkF m 15 (lc22 a1 a2) [(.int 0)])) (fun t k => oaloadN X0 hx hby d10_0 rfl rfl (st3 _ (oaloadN X3 hx hby d10_4 rfl rfl (st5 _ (st6 _ (opop X6 hx hby d10_10 rfl (oaloadN X6 hx hby d10_11 rfl rfl (st8 _ k)))))))) ?_
  have f24 : Sta Z h5 zs6 zs7 "Z" (.int p22) := (Sta.ext E5 F23)
  have f27 : Fld Z h5 a2 zs6 "coder" "B" (.int 0) := (Fld.ext E5 F26)
  obtain ⟨_, T21, L21, X21, hQ21, st21⟩ := ocallV X8 hx hZ zm12 zm12 hown (ww hw 71 rfl) (ww hw 72 rfl) (notFace_of_selects (args := #[]) (mvT hZ (ww hw 74 rfl))) (ww hw 74 rfl) (ww hw 73 rfl) (by decide) (ww hw 75 rfl) (ww hw 8 rfl) e8 f10 (rm14_24 l hw a2 a11 3 p22 3 h5 n0 Z_1 f13 (own_lnV f19) f10 f24 hc25 f27 (by decide)) (st := [(.ref a2)]) rfl 0 rfl (by decide) (pc := 19) (Ls := (lc22 a1 a2)) hml rfl (lenOf pd_12 rfl) d10_19 hby
  obtain ⟨rfl, N21q, e21⟩ := hQ21
  have N28 := Fr.app N20 N21q
  refine own_go (U' := T21.setTop (mkF m 25 (lc22 a1 a2) [(.int 255), (.int 3)])) (fun t k => oifN X8 hx hby d10_15 (by decide) (oaloadN X8 hx hby d10_18 rfl rfl (st21 _ (osipush X21 hx hby d10_22 k)))) ?_
  obtain ⟨_, T29, L29, X29, hQ29, st29⟩ := ocallV X21 hx hZ zm12 zm12 hown (ww hw 71 rfl) (ww hw 72 rfl) (notFace_of_selects (args := #[]) (mvT hZ (ww hw 74 rfl))) (ww hw 74 rfl) (ww hw 73 rfl) (by decide) (ww hw 75 rfl) (ww hw 8 rfl) e21 f10 (rm14_24 l hw a2 a11 3 p22 3 h5 n0 Z_1 f13 (own_lnV f19) f10 f24 hc25 f27 (by decide)) (st := [(.ref a2), (.int 0)]) rfl 1 rfl (by decide) (pc := 62) (Ls := (lc24 a1 a2 0)) hml rfl (lenOf pd_12 rfl) d10_62 hby
  obtain ⟨rfl, N29q, e29⟩ := hQ29
  have N30 := Fr.app N28 N29q
  refine own_go (U' := T29.setTop (mkF m 65 (lc24 a1 a2 0) [(.int 3), (.int 0)])) (fun t k => oicY (pc := 25) X21 hx hby d10_25 58 (by decide) (by decide) (oiconst X21 hx hby d10_58 (oistoreN X21 hx hby d10_59 (lc24 a1 a2 0) rfl (oiloadN X21 hx hby d10_60 rfl (oaloadN X21 hx hby d10_61 rfl rfl (st29 _ k)))))) ?_
  have f33 : Sta Z h5 zs16 zs19 zs20 vy0 := (Sta.ext E5 F32)
  obtain ⟨_, T31, L31, X31, hQ31, st31⟩ := ocallV X29 hx hZ zm17 zm17 hown (ww hw 81 rfl) (ww hw 82 rfl) (notFace_of_selects (args := #[]) (mvT hZ (ww hw 84 rfl))) (ww hw 84 rfl) (ww hw 83 rfl) (by decide) (ww hw 85 rfl) (ww hw 8 rfl) e29 f10 (rm16_32 l hw a2 0 p22 a11 3 vy0 p14 h5 n0 Z_1 f10 f24 hc25 f27 f13 (own_lnV f19) f33 hc34 (own_elV (j := (0 : Int32)) f19 (by decide) (by decide) rfl) hc35 hc36 hc37 (by decide)) (st := [(.int 0), (.ref a2)]) rfl 0 rfl (by decide) (pc := 70) (Ls := (lc24 a1 a2 0)) hml rfl (lenOf pd_0 rfl) d10_70 hby
  obtain ⟨rfl, N31q, e31⟩ := hQ31
  have N38 := Fr.app N30 N31q
  obtain ⟨_, T39, L39, X39, hQ39, st39⟩ := ocallS X31 hx hZ zm18 hown (ww hw 102 rfl) (ww hw 103 rfl) (by decide) (ww hw 104 rfl) (ww hw 51 rfl) e31 (mg21_39 l hw p14 h5 n0 Z_1 hc40 hc41) (st := [(.int p14)]) rfl 0 rfl (by decide) (pc := 75) (Ls := (lc27 a1 a2 0 p14)) hml rfl (lenOf pd_16 rfl) d10_75 hby
  obtain ⟨rfl, N39q, e39⟩ := hQ39
  have N42 := Fr.app N38 N39q
  refine own_go (U' := T39.setTop (mkF m 78 (lc27 a1 a2 0 p14) [(.int 1)])) (fun t k => oicN X29 hx hby d10_65 (by decide) (oaloadN X29 hx hby d10_68 rfl rfl (oiloadN X29 hx hby d10_69 rfl (st31 _ (oistoreN X31 hx hby d10_73 (lc27 a1 a2 0 p14) rfl (oiloadN X31 hx hby d10_74 rfl (st39 _ k))))))) ?_
  obtain ⟨_, T43, L43, X43, hQ43, st43⟩ := ocallV X39 hx hZ zm12 zm12 hown (ww hw 71 rfl) (ww hw 72 rfl) (notFace_of_selects (args := #[]) (mvT hZ (ww hw 74 rfl))) (ww hw 74 rfl) (ww hw 73 rfl) (by decide) (ww hw 75 rfl) (ww hw 8 rfl) e39 f10 (rm14_24 l hw a2 a11 3 p22 3 h5 n0 Z_1 f13 (own_lnV f19) f10 f24 hc25 f27 (by decide)) (st := [(.ref a2), (.int 1)]) rfl 1 rfl (by decide) (pc := 62) (Ls := (lc27 a1 a2 1 p14)) hml rfl (lenOf pd_12 rfl) d10_62 hby
  obtain ⟨rfl, N43q, e43⟩ := hQ43
  have N44 := Fr.app N42 N43q
  refine own_go (U' := T43.setTop (mkF m 65 (lc27 a1 a2 1 p14) [(.int 3), (.int 1)])) (fun t k => oifY (pc := 78) X39 hx hby d10_78 116 (by decide) (by decide) (oiinc X39 hx hby d10_116 (lc27 a1 a2 1 p14) rfl rfl (ogoto (pc := 119) X39 hx hby d10_119 60 (by decide) (oiloadN X39 hx hby d10_60 rfl (oaloadN X39 hx hby d10_61 rfl rfl (st43 _ k)))))) ?_
  obtain ⟨_, T45, L45, X45, hQ45, st45⟩ := ocallV X43 hx hZ zm17 zm17 hown (ww hw 81 rfl) (ww hw 82 rfl) (notFace_of_selects (args := #[]) (mvT hZ (ww hw 84 rfl))) (ww hw 84 rfl) (ww hw 83 rfl) (by decide) (ww hw 85 rfl) (ww hw 8 rfl) e43 f10 (rm16_32 l hw a2 1 p22 a11 3 vy0 p15 h5 n0 Z_1 f10 f24 hc25 f27 f13 (own_lnV f19) f33 hc34 (own_elV (j := (1 : Int32)) f19 (by decide) (by decide) rfl) hc46 hc47 hc48 (by decide)) (st := [(.int 1), (.ref a2)]) rfl 0 rfl (by decide) (pc := 70) (Ls := (lc27 a1 a2 1 p14)) hml rfl (lenOf pd_0 rfl) d10_70 hby
  obtain ⟨rfl, N45q, e45⟩ := hQ45
  have N49 := Fr.app N44 N45q
  obtain ⟨_, T50, L50, X50, hQ50, st50⟩ := ocallS X45 hx hZ zm18 hown (ww hw 102 rfl) (ww hw 103 rfl) (by decide) (ww hw 104 rfl) (ww hw 51 rfl) e45 (mg21_39 l hw p15 h5 n0 Z_1 hc51 hc52) (st := [(.int p15)]) rfl 0 rfl (by decide) (pc := 75) (Ls := (lc27 a1 a2 1 p15)) hml rfl (lenOf pd_16 rfl) d10_75 hby
  obtain ⟨rfl, N50q, e50⟩ := hQ50
  have N53 := Fr.app N49 N50q
  refine own_go (U' := T50.setTop (mkF m 78 (lc27 a1 a2 1 p15) [(.int 1)])) (fun t k => oicN X43 hx hby d10_65 (by decide) (oaloadN X43 hx hby d10_68 rfl rfl (oiloadN X43 hx hby d10_69 rfl (st45 _ (oistoreN X45 hx hby d10_73 (lc27 a1 a2 1 p15) rfl (oiloadN X45 hx hby d10_74 rfl (st50 _ k))))))) ?_
  obtain ⟨_, T54, L54, X54, hQ54, st54⟩ := ocallV X50 hx hZ zm12 zm12 hown (ww hw 71 rfl) (ww hw 72 rfl) (notFace_of_selects (args := #[]) (mvT hZ (ww hw 74 rfl))) (ww hw 74 rfl) (ww hw 73 rfl) (by decide) (ww hw 75 rfl) (ww hw 8 rfl) e50 f10 (rm14_24 l hw a2 a11 3 p22 3 h5 n0 Z_1 f13 (own_lnV f19) f10 f24 hc25 f27 (by decide)) (st := [(.ref a2), (.int 2)]) rfl 1 rfl (by decide) (pc := 62) (Ls := (lc27 a1 a2 2 p15)) hml rfl (lenOf pd_12 rfl) d10_62 hby
  obtain ⟨rfl, N54q, e54⟩ := hQ54
  have N55 := Fr.app N53 N54q
  refine own_go (U' := T54.setTop (mkF m 65 (lc27 a1 a2 2 p15) [(.int 3), (.int 2)])) (fun t k => oifY (pc := 78) X50 hx hby d10_78 116 (by decide) (by decide) (oiinc X50 hx hby d10_116 (lc27 a1 a2 2 p15) rfl rfl (ogoto (pc := 119) X50 hx hby d10_119 60 (by decide) (oiloadN X50 hx hby d10_60 rfl (oaloadN X50 hx hby d10_61 rfl rfl (st54 _ k)))))) ?_
  obtain ⟨_, T56, L56, X56, hQ56, st56⟩ := ocallV X54 hx hZ zm17 zm17 hown (ww hw 81 rfl) (ww hw 82 rfl) (notFace_of_selects (args := #[]) (mvT hZ (ww hw 84 rfl))) (ww hw 84 rfl) (ww hw 83 rfl) (by decide) (ww hw 85 rfl) (ww hw 8 rfl) e54 f10 (rm16_32 l hw a2 2 p22 a11 3 vy0 p16 h5 n0 Z_1 f10 f24 hc25 f27 f13 (own_lnV f19) f33 hc34 (own_elV (j := (2 : Int32)) f19 (by decide) (by decide) rfl) hc57 hc58 hc59 (by decide)) (st := [(.int 2), (.ref a2)]) rfl 0 rfl (by decide) (pc := 70) (Ls := (lc27 a1 a2 2 p15)) hml rfl (lenOf pd_0 rfl) d10_70 hby
  obtain ⟨rfl, N56q, e56⟩ := hQ56
  have N60 := Fr.app N55 N56q
  obtain ⟨_, T61, L61, X61, hQ61, st61⟩ := ocallS X56 hx hZ zm18 hown (ww hw 102 rfl) (ww hw 103 rfl) (by decide) (ww hw 104 rfl) (ww hw 51 rfl) e56 (mg21_39 l hw p16 h5 n0 Z_1 hc62 hc63) (st := [(.int p16)]) rfl 0 rfl (by decide) (pc := 75) (Ls := (lc27 a1 a2 2 p16)) hml rfl (lenOf pd_16 rfl) d10_75 hby
  obtain ⟨rfl, N61q, e61⟩ := hQ61
  have N64 := Fr.app N60 N61q
  refine own_go (U' := T61.setTop (mkF m 78 (lc27 a1 a2 2 p16) [(.int 1)])) (fun t k => oicN X54 hx hby d10_65 (by decide) (oaloadN X54 hx hby d10_68 rfl rfl (oiloadN X54 hx hby d10_69 rfl (st56 _ (oistoreN X56 hx hby d10_73 (lc27 a1 a2 2 p16) rfl (oiloadN X56 hx hby d10_74 rfl (st61 _ k))))))) ?_
  obtain ⟨_, T65, L65, X65, hQ65, st65⟩ := ocallV X61 hx hZ zm12 zm12 hown (ww hw 71 rfl) (ww hw 72 rfl) (notFace_of_selects (args := #[]) (mvT hZ (ww hw 74 rfl))) (ww hw 74 rfl) (ww hw 73 rfl) (by decide) (ww hw 75 rfl) (ww hw 8 rfl) e61 f10 (rm14_24 l hw a2 a11 3 p22 3 h5 n0 Z_1 f13 (own_lnV f19) f10 f24 hc25 f27 (by decide)) (st := [(.ref a2), (.int 3)]) rfl 1 rfl (by decide) (pc := 62) (Ls := (lc27 a1 a2 3 p16)) hml rfl (lenOf pd_12 rfl) d10_62 hby
  obtain ⟨rfl, N65q, e65⟩ := hQ65
  have N66 := Fr.app N64 N65q
  refine own_go (U' := T65.setTop (mkF m 65 (lc27 a1 a2 3 p16) [(.int 3), (.int 3)])) (fun t k => oifY (pc := 78) X61 hx hby d10_78 116 (by decide) (by decide) (oiinc X61 hx hby d10_116 (lc27 a1 a2 3 p16) rfl rfl (ogoto (pc := 119) X61 hx hby d10_119 60 (by decide) (oiloadN X61 hx hby d10_60 rfl (oaloadN X61 hx hby d10_61 rfl rfl (st65 _ k)))))) ?_
  obtain ⟨b67, T67, h67, k67, bv67, cl67, X67, e67, E67, hS67, hk67, hZ, hown, f67a, f67b, f67c, f67d, lt67, lv67, CR67, -, ns67, st67⟩ := ldcCH (s := s) X65 hx hZ hown (ww hw 105 rfl) (own_wS hw) e65 hS5 hk5 (own_EW hw) (List.mem_of_getElem? (i := 1) rfl) C1.1 (vs := [(.int 46)]) (z := 1) ⟨by decide, by decide⟩ (by decide) (by decide) (g := (mkF m 123 (lc27 a1 a2 3 p16) [(.ref a2)])) rfl (hb hby d10_123) (n := 4) (by decide) (by decide) (by decide) (by decide)
  have C2 := C1.trans CR67
  have f69 : Exa Z h67 a2 zs6 := (Exa.ext E67 f10)
  have sf70 := (CR67.safe (f13.lt) (CR5.safe (F9.lt) (hSL a2 (List.mem_of_getElem? (i := 0) rfl))))
  have ne71 : a2 ≠ b67 := (ns67 a2 sf70).1
  have f72 : Sta Z h67 zs6 zs7 "Z" (.int p22) := (Sta.ext E67 f24)
  have f73 : Fld Z h67 a2 zs6 "coder" "B" (.int 0) := (Fld.ext E67 f27)
  have f74 : Fld Z h67 a2 zs6 "value" "[B" (.ref a11) := (Fld.ext E67 f13)
  have f75 : Arv Z h67 a11 kc17 .byte (3 : Int32) [(.int p14), (.int p15), (.int p16)] (.int (0 : Int32)) := (f19.ext E67)
  have Z_2 : n0 ≤ h67.size := Nat.le_trans Z_1 E67.1
  obtain ⟨_, T68, L68, X68, hQ68, st68⟩ := ocallV X67 hx hZ zm7 zm7 hown (ww hw 106 rfl) (ww hw 39 rfl) (notFace_of_selects (args := #[]) (mvT hZ (ww hw 41 rfl))) (ww hw 41 rfl) (ww hw 40 rfl) (by decide) (ww hw 42 rfl) (ww hw 8 rfl) e67 f69 (mg8_91 l hw a2 b67 p22 a11 bv67 p14 p15 p16 kc17 cl67 h67 n0 Z_2 ne71 f67a f72 hc25 f73 f67b f74 f67c f75 f67d) (st := [(.ref b67), (.ref a2)]) rfl 0 rfl (by decide) (pc := 125) (Ls := (lc27 a1 a2 3 p16)) hml rfl (lenOf pd_7 rfl) d10_125 hby
  obtain ⟨rfl, N68q, e68⟩ := hQ68
  have N76 := Fr.app N66 N68q
  refine own_go (U' := T68.setTop (mkF m 128 (lc27 a1 a2 3 p16) [(.int 0)])) (fun t k => oicY (pc := 65) X65 hx hby d10_65 122 (by decide) (by decide) (oaloadN X65 hx hby d10_122 rfl rfl (st67 _ (st68 _ k)))) ?_
  obtain ⟨b77, T77, h77, k77, bv77, cl77, X77, e77, E77, hS77, hk77, hZ, hown, f77a, f77b, f77c, f77d, lt77, lv77, CR77, -, ns77, st77⟩ := ldcCH (s := s) X68 hx hZ hown (ww hw 107 rfl) (own_wS hw) e68 hS67 hk67 (own_EW hw) (List.mem_of_getElem? (i := 2) rfl) C2.1 (vs := [(.int 46), (.int 46)]) (z := 2) ⟨by decide, by decide⟩ (by decide) (by decide) (g := (mkF m 132 (lc27 a1 a2 3 p16) [(.ref a2)])) rfl (hb hby d10_132) (n := 8) (by decide) (by decide) (by decide) (by decide)
  have C3 := C2.trans CR77
  have f79 : Exa Z h77 a2 zs6 := (Exa.ext E77 f69)
  have sf80 := (CR77.safe (f74.lt) (CR67.safe (nlt (F9.lt) E5.1) (CR5.safe (F9.lt) (hSL a2 (List.mem_of_getElem? (i := 0) rfl)))))
  have ne81 : a2 ≠ b77 := (ns77 a2 sf80).1
  have f82 : Sta Z h77 zs6 zs7 "Z" (.int p22) := (Sta.ext E77 f72)
  have f83 : Fld Z h77 a2 zs6 "coder" "B" (.int 0) := (Fld.ext E77 f73)
  have f84 : Fld Z h77 a2 zs6 "value" "[B" (.ref a11) := (Fld.ext E77 f74)
  have f85 : Arv Z h77 a11 kc17 .byte (3 : Int32) [(.int p14), (.int p15), (.int p16)] (.int (0 : Int32)) := (f75.ext E77)
  have Z_3 : n0 ≤ h77.size := Nat.le_trans Z_2 E77.1
  obtain ⟨_, T78, L78, X78, hQ78, st78⟩ := ocallV X77 hx hZ zm7 zm7 hown (ww hw 106 rfl) (ww hw 39 rfl) (notFace_of_selects (args := #[]) (mvT hZ (ww hw 41 rfl))) (ww hw 41 rfl) (ww hw 40 rfl) (by decide) (ww hw 42 rfl) (ww hw 8 rfl) e77 f79 (mg8_94 l hw a2 b77 p22 a11 bv77 p14 p15 p16 kc17 cl77 h77 n0 Z_3 ne81 f77a f82 hc25 f83 f77b f84 f77c f85 f77d) (st := [(.ref b77), (.ref a2)]) rfl 0 rfl (by decide) (pc := 134) (Ls := (lc27 a1 a2 3 p16)) hml rfl (lenOf pd_7 rfl) d10_134 hby
  obtain ⟨rfl, N78q, e78⟩ := hQ78
  have N86 := Fr.app N76 N78q
  refine own_go (U' := T78.setTop (mkF m 137 (lc27 a1 a2 3 p16) [(.int 0)])) (fun t k => oifN X68 hx hby d10_128 (by decide) (oaloadN X68 hx hby d10_131 rfl rfl (st77 _ (st78 _ k)))) ?_
  have f88 : Fld Z h77 a1 zs21 "value" zs23 .null := (Fld.ext E77 (Fld.ext E67 (Fld.ext E5 F87)))
  have f90 : Exa Z h77 a1 zs21 := (Exa.ext E77 (Exa.ext E67 (Exa.ext E5 F89)))
  obtain ⟨T91, h91, X91, e91, W91, st91⟩ := putF X78 hx hZ hown (host := "") (Or.inl (ww hw 108 rfl)) Via.refl e78 f88 f90 (Or.inr ⟨(ww hw 109 rfl), rfl, hnm⟩) (ww hw 50 rfl) (ty := (.object zs6)) (by decide) rfl rfl (g := (mkF m 174 (lc27 a1 a2 3 p16) [(.ref a2), (.ref a1)])) rfl rfl (hb hby d10_174)
  have sf93 : Safe Z consts_1 T77.vm h77 a1 := Safe.exa hZ.alike f90 (by decide) (by decide)
  have C4 := C3.trans (CHr.wr W91 sf93 C3.1)
  have N94 := Fr.snoc X91 N86 g92
  have f95 : Fld Z h91 a1 zs21 "value" zs23 (.ref a2) := Fld.same W91 f88
  refine own_go (U' := T91.setTop (mkF m 177 (lc27 a1 a2 3 p16) [])) (fun t k => oifY (pc := 137) X78 hx hby d10_137 172 (by decide) (by decide) (oaloadN X78 hx hby d10_172 rfl rfl (oaloadN X78 hx hby d10_173 rfl rfl (st91 _ k)))) ?_
  obtain ⟨fs, hr, hrun, hended, hW, hsame⟩ := X91.leave (v := none) (fun _ => rfl)
  have hE := hS77.ended hW (by show _ ≤ T91.heap.size; rw [e91]; exact (Nat.le_trans hk77 (Keep.of_wr W91).1)) hsame
  refine own_out ⟨_, _, ?_, hrun, hended, _, _, rfl, ?_, ?_, ⟨_, rfl⟩, hE.1, hE.2.1, hE.2.2.mono (by decide) (by decide)⟩
  · exact X91.returnOut hx Bd.returns (hb hby d10_177) hr
  · show Q10_96 Z a1 a2 a11 p14 p15 p16 kc17 p22 vy0 h0 n0 _ T91.heap _
    rw [e91]
    exact ⟨rfl, N94, (((((Keep.refl h0 [a1]).ext E5).ext E67).ext E77).wr W91 (Or.inl (List.mem_of_getElem? (i := 0) rfl))), f95⟩
  · show CHr Z consts_1 s.vm s.heap T91.vm T91.heap; rw [hh, e91]; exact C4.trans (CHv.at (s := s) X91 hZ (own_EW hw) C4.1)
set_option maxRecDepth 65536 in
set_option maxHeartbeats 40000000 in
theorem law_all (l : Launch) (Z : State) (a0 : Array Value) (hw : ∀ d ∈ tables_1, d.before a0 Z = true) (ws : List Jvm.Cond) (i0 i1 i2 i3 i4 : Int32) (w0 w1 w2 w3 w4 w5 w6 w7 w8 w9 w10 w11 : Addr) (kl0 : ClassId) (kl1 : ClassId) (kl2 : ClassId) (kl3 : ClassId) (ci0 : Int32) (vy0 : Value) (h0 : Heap) (n0 : Nat) (Z0 : n0 ≤ h0.size) (S0 : Sta Z h0 "com/example/fair_lock/fairlock/RequestKind" "PLAIN" "Lcom/example/fair_lock/fairlock/RequestKind;" (.ref w0)) (S1 : Exa Z h0 w0 "com/example/fair_lock/fairlock/RequestKind") (S2 : Fld Z h0 w0 "com/example/fair_lock/fairlock/RequestKind" "noun" "Ljava/lang/String;" (.ref w1)) (S3 : Exa Z h0 w1 "java/lang/String") (S4 : Fld Z h0 w1 "java/lang/String" "value" "[B" (.ref w2)) (S5 : Exa Z h0 w2 "[B") (S6 : Fld Z h0 w1 "java/lang/String" "coder" "B" (.int 0)) (S7 : Sta Z h0 "com/example/fair_lock/fairlock/RequestKind" "CANDIDATE" "Lcom/example/fair_lock/fairlock/RequestKind;" (.ref w3)) (S8 : Exa Z h0 w3 "com/example/fair_lock/fairlock/RequestKind") (S9 : Fld Z h0 w3 "com/example/fair_lock/fairlock/RequestKind" "noun" "Ljava/lang/String;" (.ref w4)) (S10 : Exa Z h0 w4 "java/lang/String") (S11 : Fld Z h0 w4 "java/lang/String" "value" "[B" (.ref w5)) (S12 : Exa Z h0 w5 "[B") (S13 : Fld Z h0 w4 "java/lang/String" "coder" "B" (.int 0)) (S14 : Sta Z h0 "com/example/fair_lock/fairlock/RequestKind" "WRITE" "Lcom/example/fair_lock/fairlock/RequestKind;" (.ref w6)) (S15 : Exa Z h0 w6 "com/example/fair_lock/fairlock/RequestKind") (S16 : Fld Z h0 w6 "com/example/fair_lock/fairlock/RequestKind" "noun" "Ljava/lang/String;" (.ref w7)) (S17 : Exa Z h0 w7 "java/lang/String") (S18 : Fld Z h0 w7 "java/lang/String" "value" "[B" (.ref w8)) (S19 : Exa Z h0 w8 "[B") (S20 : Fld Z h0 w7 "java/lang/String" "coder" "B" (.int 0)) (S21 : Sta Z h0 "com/example/fair_lock/fairlock/RequestKind" "READ" "Lcom/example/fair_lock/fairlock/RequestKind;" (.ref w9)) (S22 : Exa Z h0 w9 "com/example/fair_lock/fairlock/RequestKind") (S23 : Fld Z h0 w9 "com/example/fair_lock/fairlock/RequestKind" "noun" "Ljava/lang/String;" (.ref w10)) (S24 : Exa Z h0 w10 "java/lang/String") (S25 : Fld Z h0 w10 "java/lang/String" "value" "[B" (.ref w11)) (S26 : Exa Z h0 w11 "[B") (S27 : Fld Z h0 w10 "java/lang/String" "coder" "B" (.int 0)) (S28 : Sta Z h0 "jdk/internal/util/Preconditions" "SIOOBE_FORMATTER" "Ljava/util/function/BiFunction;" vy0) (hvy0 : vy0.isRef = true) (S30 : Sta Z h0 "java/lang/String" "COMPACT_STRINGS" "Z" (.int ci0)) (hci0 : ¬ (ci0 = (0 : Int32))) (S32 : Arv Z h0 w2 kl0 .byte (4 : Int32) [(.int 108), (.int 111), (.int 99), (.int 107)] (.int (0 : Int32))) (S33 : Arv Z h0 w5 kl1 .byte (8 : Int32) [(.int 101), (.int 108), (.int 101), (.int 99), (.int 116), (.int 105), (.int 111), (.int 110)] (.int (0 : Int32))) (S34 : Arv Z h0 w8 kl2 .byte (10 : Int32) [(.int 119), (.int 114), (.int 105), (.int 116), (.int 101), (.int 32), (.int 108), (.int 111), (.int 99), (.int 107)] (.int (0 : Int32))) (S35 : Arv Z h0 w11 kl3 .byte (9 : Int32) [(.int 114), (.int 101), (.int 97), (.int 100), (.int 32), (.int 108), (.int 111), (.int 99), (.int 107)] (.int (0 : Int32))) :
    MetFree l x (head1 (Jvm.Cond.code x code maxLocals ret :: ws) room_1) (fun a U => a = #[(.int i0), (.int i1), (.int i2), (.int i3), (.int i4)] ∧ Z.Warmed39 U.vm ∧ U.heap = h0 ∧ CHv Z consts_1 U.vm h0 ∧ ∀ x ∈ ([] : List Addr), Safe Z consts_1 U.vm h0 x) (fun _ _ _ _ _ => True) (fun _ U o U' => ∃ v L, o = .returned v ∧ QLaw n0 v U'.heap L ∧ CHr Z consts_1 U.vm U.heap U'.vm U'.heap ∧ ReturnedEndW U o U' L room_1.cells room_1.slots) := by
  refine MetFree.of_bodySF (plainFor_of_name pn_0) hisR ?_
  intro p e s m args below meth c s₁ Bd hml0 hP hK
  obtain ⟨rfl, hZ, hh, hC, hSL⟩ := hP
  have C0 := CHr.refl hC
  have hx := Bd.exec
  have hby := Bd.bytes
  have hml : c.maxLocals = 20 := hml0
  have hown : s.vm.findClass zs0 = some m.cls := findClass_of_methodNamed Bd.named
  have hnm := (name_of_methodNamed Bd.named Bd.method).1
  have X0 : Stand p l e room_1 s m #[(.int i0), (.int i1), (.int i2), (.int i3), (.int i4)] below meth c s₁ [] 0 0 := Stand.of_body Bd
  have e0 : s₁.heap = h0 := by rw [← hh, Bd.state]; rfl
  have N0 := Fr.nil n0
  refine own_pre (g' := mkF m 0 (lc47 i0 i1 i2 i3 i4) []) (ef_20 m i0 i1 i2 i3 i4) ?_
  refine own_go (U' := s₁.setTop (mkF m 5 (lc0 i0 i1 i2 i3 i4 (i0 &&& (3 : Int32))) [])) (fun t k => oiloadN X0 hx hby at_0 rfl (oiconst X0 hx hby at_1 (oiand X0 hx hby at_2 (oistore X0 hx hby at_3 (lc0 i0 i1 i2 i3 i4 (i0 &&& (3 : Int32))) rfl k)))) ?_
  obtain ⟨z1, hz1⟩ : ∃ z, z = (i0 &&& (3 : Int32)) := ⟨_, rfl⟩
  rw [← hz1]
  refine own_go (U' := s₁.setTop (mkF m 12 (lc0 i0 i1 i2 i3 i4 z1) [(.int ((i1 &&& (2147483647 : Int32)) % (3 : Int32))), (.int 1)])) (fun t k => oiconst X0 hx hby at_5 (oiloadN X0 hx hby at_6 rfl (X0.ldcInt hx hown (mvT hZ (ww hw 0 rfl)) (g := (mkF m 7 (lc0 i0 i1 i2 i3 i4 z1) [(.int i1), (.int 1)])) rfl (hb hby at_7) _ (oiand X0 hx hby at_9 (oiconst X0 hx hby at_10 (oirem X0 hx hby at_11 (by decide) k)))))) ?_
  rcases own_m3_2147483647 i1 with hk1 | hk1 | hk1
  · have hv0 : ((i1 &&& (2147483647 : Int32)) % (3 : Int32)) = (0 : Int32) := hk1
    rw [hv0]
    obtain ⟨_, Tr1, Lr1, Xr1, hQr1, str1⟩ := ocallS X0 hx hZ zm0 hown (ww hw 1 rfl) (ww hw 2 rfl) (by decide) (ww hw 4 rfl) (ww hw 3 rfl) e0 (mg1_6 l hw i2 h0 n0 Z0 ) (st := [(.int i2)]) rfl 0 rfl (by decide) (pc := 16) (Ls := (lc1 i0 i1 i2 i3 i4 z1 1)) hml rfl (lenOf pd_0 rfl) at_16 hby
    obtain ⟨rfl, Nr1q, er1⟩ := hQr1
    have N1 := Fr.app N0 Nr1q
    refine own_go (U' := Tr1.setTop (mkF m 21 (lc4 i0 i1 i2 i3 i4 z1 1 (own_pk i2)) [])) (fun t k => oiadd X0 hx hby at_12 (oistore X0 hx hby at_13 (lc1 i0 i1 i2 i3 i4 z1 1) rfl (oiloadN X0 hx hby at_15 rfl (str1 _ (oistore Xr1 hx hby at_19 (lc4 i0 i1 i2 i3 i4 z1 1 (own_pk i2)) rfl k))))) ?_
    obtain ⟨z2, hz2⟩ : ∃ z, z = (own_pk i2) := ⟨_, rfl⟩
    rw [← hz2]
    obtain ⟨_, Tr2, Lr2, Xr2, hQr2, str2⟩ := ocallS Xr1 hx hZ zm0 hown (ww hw 1 rfl) (ww hw 2 rfl) (by decide) (ww hw 4 rfl) (ww hw 3 rfl) er1 (mg1_6 l hw i3 h0 n0 Z0 ) (st := [(.int i3)]) rfl 0 rfl (by decide) (pc := 22) (Ls := (lc4 i0 i1 i2 i3 i4 z1 1 z2)) hml rfl (lenOf pd_0 rfl) at_22 hby
    obtain ⟨rfl, Nr2q, er2⟩ := hQr2
    have N2 := Fr.app N1 Nr2q
    refine own_go (U' := Tr2.setTop (mkF m 27 (lc5 i0 i1 i2 i3 i4 z1 1 z2 (own_pk i3)) [])) (fun t k => oiloadN Xr1 hx hby at_21 rfl (str2 _ (oistore Xr2 hx hby at_25 (lc5 i0 i1 i2 i3 i4 z1 1 z2 (own_pk i3)) rfl k))) ?_
    obtain ⟨z3, hz3⟩ : ∃ z, z = (own_pk i3) := ⟨_, rfl⟩
    rw [← hz3]
    obtain ⟨_, Tr3, Lr3, Xr3, hQr3, str3⟩ := ocallS Xr2 hx hZ zm0 hown (ww hw 1 rfl) (ww hw 2 rfl) (by decide) (ww hw 4 rfl) (ww hw 3 rfl) er2 (mg1_6 l hw i4 h0 n0 Z0 ) (st := [(.int i4)]) rfl 0 rfl (by decide) (pc := 29) (Ls := (lc5 i0 i1 i2 i3 i4 z1 1 z2 z3)) hml rfl (lenOf pd_0 rfl) at_29 hby
    obtain ⟨rfl, Nr3q, er3⟩ := hQr3
    have N3 := Fr.app N2 Nr3q
    refine own_go (U' := Tr3.setTop (mkF m 34 (lc6 i0 i1 i2 i3 i4 z1 1 z2 z3 (own_pk i4)) [])) (fun t k => oiload Xr2 hx hby at_27 rfl (str3 _ (oistore Xr3 hx hby at_32 (lc6 i0 i1 i2 i3 i4 z1 1 z2 z3 (own_pk i4)) rfl k))) ?_
    obtain ⟨z4, hz4⟩ : ∃ z, z = (own_pk i4) := ⟨_, rfl⟩
    rw [← hz4]
    refine own_go (U' := Tr3.setTop (mkF m 37 (lc6 i0 i1 i2 i3 i4 z1 1 z2 z3 z4) [(.int 1), (.int 1)])) (fun t k => oiload Xr3 hx hby at_34 rfl (oiconst Xr3 hx hby at_36 k)) ?_
    obtain ⟨Tr4, hr4, kr4, Xr4, er4, Er4, Ar4, Br4, str4⟩ := newPE Xr3 hx hZ (ww hw 5 rfl) er3 (g := (mkF m 41 (lc6 i0 i1 i2 i3 i4 z1 1 z2 z3 z4) [(.int 1)])) rfl (hb hby at_41) rfl (by decide) (cap := 1) (by decide) (by decide) (by decide) (by decide) (ad := "[C") (by decide)
    obtain ⟨br4, gr4⟩ : ∃ z, z = h0.size := ⟨_, rfl⟩
    rw [← gr4] at Ar4 Br4 str4
    have C1 := C0.trans (CHr.ext Er4 C0.1)
    have f1 : Arv Z hr4 br4 kr4 .char (1 : Int32) [] (.int (0 : Int32)) := Arv.new Ar4 (by decide)
    have f2 : Arv Z hr4 br4 kr4 .char (1 : Int32) [(.int 0)] (.int (0 : Int32)) := f1.pad (pad_rep [] (.int (0 : Int32)) 1)
    obtain ⟨clr5, Arr5, qr5, Sr5, Nr5, Hr5, Gr5⟩ := id f2
    have g1 : n0 ≤ br4 := Nat.le_trans Z0 (Nat.le_of_eq gr4.symm)
    have hinr6 : ¬ ((0 : Int32) < 0 ∨ clr5.slots.size ≤ ((0 : Int32)).toNatClampNeg) := inb_of Sr5 ⟨by decide, by decide⟩
    obtain ⟨Tr6, hr6, Xr6, er6, Wr6, str6⟩ := stC Xr4 hx hZ er4 Arr5 (j := (0 : Int32)) hinr6 (g := (mkF m 47 (lc6 i0 i1 i2 i3 i4 z1 1 z2 z3 z4) [(.int z2), (.int 0), (.ref br4), (.ref br4)])) rfl rfl (hb hby at_47)
    have hc1 : ¬ ((own_pk i2) < (0 : Int32)) := (fun e => by have := Int32.lt_iff_toInt_lt.mp e; have := own_pk_b i2; have := (by decide : ((0 : Int32)).toInt = 0); omega)
    have hs2 : ¬ (z2 < (0 : Int32)) := by rw [hz2]; exact hc1
    have hc3 : (own_pk i2) < (65536 : Int32) := (Int32.lt_iff_toInt_lt.mpr (by have := own_pk_b i2; have := (by decide : ((65536 : Int32)).toInt = 65536); omega))
    have hs4 : z2 < (65536 : Int32) := by rw [hz2]; exact hc3
    rw [show nar .char z2 = z2 from own_i2c hs2 hs4] at Wr6
    have sf1 : Safe Z consts_1 s.vm hr4 br4 := Safe.exa hZ.alike Br4 (by decide) (by decide)
    have C2 := C1.trans (CHr.wr Wr6 sf1 C1.1)
    have N4 := Fr.snoc Xr6 N3 g1
    have f3 : Arv Z hr6 br4 kr4 .char (1 : Int32) [(.int z2)] (.int (0 : Int32)) := Arv.set Arr5 qr5 Sr5 Nr5 Hr5 Gr5 (own_fitC hs2 hs4) Wr6 0 rfl (Nat.le_of_ble_eq_true rfl)
    obtain ⟨Tr7, hr7, Xr7, er7, Er7, Ar7, Dr7, -, str7⟩ := newO Xr6 hx hZ hown (ww hw 6 rfl) (ww hw 7 rfl) (ww hw 8 rfl) er6 (g := (mkF m 97 (lc7 i0 i1 i2 i3 i4 z1 1 z2 z3 z4 br4) [])) rfl (hb hby at_97) (by decide) (by decide)
    obtain ⟨br7, gr7⟩ : ∃ z, z = hr6.size := ⟨_, rfl⟩
    rw [← gr7] at Ar7 Dr7 str7
    have C3 := C2.trans (CHr.ext Er7 C2.1)
    have f4 : Fld Z hr7 br7 zs6 "coder" "B" (.int 0) := Dr7 (Or.inr (ww hw 32 rfl)) (ty := .byte) (by decide)
    have f5 : Fld Z hr7 br7 zs6 "value" "[B" .null := Dr7 (Or.inr (ww hw 34 rfl)) (ty := (.array .byte)) (by decide)
    have f6 : Arv Z hr7 br4 kr4 .char (1 : Int32) [(.int z2)] (.int (0 : Int32)) := (f3.ext Er7)
    have f7 : Sta Z hr7 zs6 zs7 "Z" (.int ci0) := (Sta.ext Er7 (Sta.wr Wr6 (Sta.ext Er4 S30)))
    have Z_1 : n0 ≤ hr4.size := Nat.le_trans Z0 Er4.1
    have Z_2 : n0 ≤ hr6.size := Nat.le_trans Z_1 (Keep.of_wr Wr6).1
    have g2 : n0 ≤ br7 := Nat.le_trans Z_2 (Nat.le_of_eq gr7.symm)
    have Z_3 : n0 ≤ hr7.size := Nat.le_trans Z_2 Er7.1
    have hc5 : ¬ (ci0 = (0 : Int32)) := hci0
    have hc6 : ¬ ((255 : Int32) < (own_pk i2)) := (fun e => by have := Int32.lt_iff_toInt_lt.mp e; have := (by decide : ((255 : Int32)).toInt = 255); have := own_pk_b i2; omega)
    have hs7 : ¬ ((255 : Int32) < z2) := by rw [hz2]; exact hc6
    have hc8 : (own_pk i2) < (128 : Int32) := (Int32.lt_iff_toInt_lt.mpr (by have := own_pk_b i2; have := (by decide : ((128 : Int32)).toInt = 128); omega))
    have hs9 : z2 < (128 : Int32) := by rw [hz2]; exact hc8
    obtain ⟨_, Tr8, Lr8, Xr8, hQr8, str8⟩ := ocallI Xr7 hx hZ zm5 rfl hown (ww hw 9 rfl) (ww hw 10 rfl) (by decide) (ww hw 11 rfl) (ww hw 8 rfl) er7 (rm2_11 l hw br7 br4 z2 kr4 ci0 hr7 n0 Z_3 f6 f7 hc5 hs7 hs2 hs9 f4 f5 Ar7 g2) (st := [(.ref br4), (.ref br7), (.ref br7)]) rfl 1 rfl (by decide) (pc := 103) (Ls := (lc7 i0 i1 i2 i3 i4 z1 1 z2 z3 z4 br4)) hml rfl (lenOf pd_5 rfl) at_103 hby
    obtain ⟨b1, k1, rfl, Nr8q, Kr8, sz1, f8, f9, f10, f11⟩ := hQr8
    have sf2 := (Safe.ext Er7 C2.1 (Safe.new (Nat.le_of_eq gr7.symm)))
    have C4 := C3.trans (CHr.keep Kr8 (allS sf2 all0) C3.1)
    have N5 := Fr.app N4 Nr8q
    obtain ⟨br9, Tr9, hr9, kr9, bvr9, clr9, Xr9, er9, Er9, hSr9, hkr9, hZ, hown, fr9a, fr9b, fr9c, fr9d, ltr9, lvr9, CRr9, -, nsr9, str9⟩ := ldcCH (s := s) (vm0 := s.vm) Xr8 hx hZ hown (ww hw 35 rfl) (own_wS hw) rfl ((State.WarmedH.refl s).since 0) (Nat.zero_le _) (own_EW hw) (List.mem_of_getElem? (i := 4) rfl) C4.1 (vs := [(.int 46)]) (z := 1) ⟨by decide, by decide⟩ (by decide) (by decide) (g := (mkF m 110 (lc18 i0 i1 i2 i3 i4 z1 1 z2 z3 z4 br4 br7) [(.ref br7)])) rfl (hb hby at_110) (n := 4) (by decide) (by decide) (by decide) (by decide)
    have C5 := C4.trans CRr9
    have f12 : Exa Z hr9 br7 zs6 := (Exa.ext Er9 (Ar7.keep Kr8))
    have sf3 := (CRr9.safe (f8.lt) (Safe.keep Kr8 (allS sf2 all0) C3.1 sf2))
    have ne1 : br7 ≠ br9 := (nsr9 br7 sf3).1
    have f13 : Sta Z hr9 zs6 zs7 "Z" (.int ci0) := (Sta.ext Er9 (own_staK f7 Kr8 (allS (own_nsF f4) all0)))
    have f14 : Fld Z hr9 br7 zs6 "coder" "B" (.int 0) := (Fld.ext Er9 f8)
    have f15 : Fld Z hr9 br7 zs6 "value" "[B" (.ref b1) := (Fld.ext Er9 f9)
    have f16 : Arv Z hr9 b1 k1 .byte (1 : Int32) [(.int z2)] (.int (0 : Int32)) := (f11.ext Er9)
    have Z_4 : n0 ≤ Tr8.heap.size := Nat.le_trans Z_3 Kr8.1
    have Z_5 : n0 ≤ hr9.size := Nat.le_trans Z_4 Er9.1
    obtain ⟨_, Tr10, Lr10, Xr10, hQr10, str10⟩ := ocallV Xr9 hx hZ zm7 zm7 hown (ww hw 38 rfl) (ww hw 39 rfl) (notFace_of_selects (args := #[]) (mvT hZ (ww hw 41 rfl))) (ww hw 41 rfl) (ww hw 40 rfl) (by decide) (ww hw 42 rfl) (ww hw 8 rfl) er9 f12 (mg8_16 l hw br7 br9 ci0 b1 bvr9 z2 k1 clr9 hr9 n0 Z_5 ne1 fr9a f13 hc5 f14 fr9b f15 fr9c f16 fr9d) (st := [(.ref br9), (.ref br7)]) rfl 0 rfl (by decide) (pc := 112) (Ls := (lc18 i0 i1 i2 i3 i4 z1 1 z2 z3 z4 br4 br7)) hml rfl (lenOf pd_7 rfl) at_112 hby
    obtain ⟨rfl, Nr10q, er10⟩ := hQr10
    have N6 := Fr.app N5 Nr10q
    refine own_go (U' := Tr10.setTop (mkF m 115 (lc18 i0 i1 i2 i3 i4 z1 1 z2 z3 z4 br4 br7) [(.int (own_dot1 z2))])) (fun t k => oicN Xr3 hx hby at_37 (by decide) (oiconst Xr3 hx hby at_40 (str4 _ (odup Xr4 hx hby at_43 rfl (oiconst Xr4 hx hby at_44 (oiload Xr4 hx hby at_45 rfl (str6 _ (oastore Xr6 hx hby at_48 (lc7 i0 i1 i2 i3 i4 z1 1 z2 z3 z4 br4) rfl rfl (ogoto (pc := 50) Xr6 hx hby at_50 97 (by decide) (str7 _ (odup Xr7 hx hby at_100 rfl (oaload Xr7 hx hby at_101 rfl rfl (str8 _ (oastore Xr8 hx hby at_106 (lc18 i0 i1 i2 i3 i4 z1 1 z2 z3 z4 br4 br7) rfl rfl (oaload Xr8 hx hby at_108 rfl rfl (str9 _ (str10 _ k))))))))))))))))) ?_
    by_cases hk2 : (own_dot1 (own_pk i2)) = (0 : Int32)
    · obtain ⟨br11, Tr11, hr11, kr11, bvr11, clr11, Xr11, er11, Er11, hSr11, hkr11, hZ, hown, fr11a, fr11b, fr11c, fr11d, ltr11, lvr11, CRr11, -, nsr11, str11⟩ := ldcCH (s := s) Xr10 hx hZ hown (ww hw 48 rfl) (own_wS hw) er10 hSr9 hkr9 (own_EW hw) (List.mem_of_getElem? (i := 5) rfl) C5.1 (vs := [(.int 46), (.int 46)]) (z := 2) ⟨by decide, by decide⟩ (by decide) (by decide) (g := (mkF m 120 (lc18 i0 i1 i2 i3 i4 z1 1 z2 z3 z4 br4 br7) [(.ref br7)])) rfl (hb hby at_120) (n := 8) (by decide) (by decide) (by decide) (by decide)
      have C6 := C5.trans CRr11
      have f17 : Exa Z hr11 br7 zs6 := (Exa.ext Er11 f12)
      have sf4 := (CRr11.safe (f14.lt) (CRr9.safe (nlt (f4.lt) Kr8.1) (Safe.keep Kr8 (allS sf2 all0) C3.1 sf2)))
      have ne2 : br7 ≠ br11 := (nsr11 br7 sf4).1
      have f18 : Sta Z hr11 zs6 zs7 "Z" (.int ci0) := (Sta.ext Er11 f13)
      have f19 : Fld Z hr11 br7 zs6 "coder" "B" (.int 0) := (Fld.ext Er11 f14)
      have f20 : Fld Z hr11 br7 zs6 "value" "[B" (.ref b1) := (Fld.ext Er11 f15)
      have f21 : Arv Z hr11 b1 k1 .byte (1 : Int32) [(.int z2)] (.int (0 : Int32)) := (f16.ext Er11)
      have Z_6 : n0 ≤ hr11.size := Nat.le_trans Z_5 Er11.1
      obtain ⟨_, Tr12, Lr12, Xr12, hQr12, str12⟩ := ocallV Xr11 hx hZ zm7 zm7 hown (ww hw 38 rfl) (ww hw 39 rfl) (notFace_of_selects (args := #[]) (mvT hZ (ww hw 41 rfl))) (ww hw 41 rfl) (ww hw 40 rfl) (by decide) (ww hw 42 rfl) (ww hw 8 rfl) er11 f17 (mg8_19 l hw br7 br11 ci0 b1 bvr11 z2 k1 clr11 hr11 n0 Z_6 ne2 fr11a f18 hc5 f19 fr11b f20 fr11c f21 fr11d) (st := [(.ref br11), (.ref br7)]) rfl 0 rfl (by decide) (pc := 122) (Ls := (lc18 i0 i1 i2 i3 i4 z1 1 z2 z3 z4 br4 br7)) hml rfl (lenOf pd_7 rfl) at_122 hby
      obtain ⟨rfl, Nr12q, er12⟩ := hQr12
      have N7 := Fr.app N6 Nr12q
      have hc10 : (own_dot1 (own_pk i2)) = (0 : Int32) := hk2
      have hs11 : (own_dot1 z2) = (0 : Int32) := by rw [hz2]; exact hc10
      refine own_go (U' := Tr12.setTop (mkF m 125 (lc18 i0 i1 i2 i3 i4 z1 1 z2 z3 z4 br4 br7) [(.int 0)])) (fun t k => oifN Xr10 hx hby at_115 ((if0 _ _).trans (teq hs11).2) (oaload Xr10 hx hby at_118 rfl rfl (str11 _ (str12 _ k)))) ?_
      obtain ⟨Tr13, hr13, Xr13, er13, Er13, Ar13, Dr13, -, str13⟩ := newO Xr12 hx hZ hown (ww hw 49 rfl) (ww hw 50 rfl) (ww hw 51 rfl) er12 (g := (mkF m 130 (lc18 i0 i1 i2 i3 i4 z1 1 z2 z3 z4 br4 br7) [])) rfl (hb hby at_130) (by decide) (by decide)
      obtain ⟨br13, gr13⟩ : ∃ z, z = hr11.size := ⟨_, rfl⟩
      rw [← gr13] at Ar13 Dr13 str13
      have C7 := C6.trans (CHr.ext Er13 C6.1)
      have f22 : Fld Z hr13 br13 zs21 "value" zs23 .null := Dr13 (Or.inr (ww hw 109 rfl)) (ty := (.object zs6)) (by decide)
      have f23 : Exa Z hr13 br7 zs6 := (Exa.ext Er13 f17)
      have f24 : Fld Z hr13 br7 zs6 "value" "[B" (.ref b1) := (Fld.ext Er13 f20)
      have f25 : Arv Z hr13 b1 k1 .byte (1 : Int32) [(.int z2)] (.int (0 : Int32)) := (f21.ext Er13)
      have f26 : Sta Z hr13 zs6 zs7 "Z" (.int ci0) := (Sta.ext Er13 f18)
      have f27 : Fld Z hr13 br7 zs6 "coder" "B" (.int 0) := (Fld.ext Er13 f19)
      have f28 : Sta Z hr13 zs16 zs19 zs20 vy0 := (Sta.ext Er13 (Sta.ext Er11 (Sta.ext Er9 (own_staK (Sta.ext Er7 (Sta.wr Wr6 (Sta.ext Er4 S28))) Kr8 (allS (own_nsF f4) all0)))))
      have g3 : n0 ≤ br13 := Nat.le_trans Z_6 (Nat.le_of_eq gr13.symm)
      have Z_7 : n0 ≤ hr13.size := Nat.le_trans Z_6 Er13.1
      have sf5 := (Safe.ext Er13 C6.1 (CRr11.safe (nlt (nlt (f4.lt) Kr8.1) Er9.1) (CRr9.safe (nlt (f4.lt) Kr8.1) (Safe.keep Kr8 (allS sf2 all0) C3.1 sf2))))
      have hc12 : vy0.isRef = true := hvy0
      have hc13 : own_ok (own_pk i2) := (own_pk_ok i2)
      have hs14 : own_ok z2 := by rw [hz2]; exact hc13
      have hc15 : ¬ ((122 : Int32) < (own_pk i2)) := (fun e => by have := Int32.lt_iff_toInt_lt.mp e; have := (by decide : ((122 : Int32)).toInt = 122); have := own_pk_b i2; omega)
      have hs16 : ¬ ((122 : Int32) < z2) := by rw [hz2]; exact hc15
      obtain ⟨_, Tr14, Lr14, Xr14, hQr14, hSr14, hZ, hown, CRr14, str14⟩ := ocallIH (s := s) Xr13 hx hZ zm19 rfl hown (ww hw 52 rfl) (ww hw 53 rfl) (by decide) (ww hw 54 rfl) (ww hw 51 rfl) er13 (rm10_40 l hw br13 br7 b1 z2 k1 ci0 vy0 hr13 n0 Z_7 f23 f24 f25 f26 hc5 f27 f28 hc12 hs2 hs9 hs4 hs14 hs16 hs11 f22 Ar13 g3) (st := [(.ref br7), (.ref br13), (.ref br13)]) rfl 1 rfl (by decide) (pc := 136) (Ls := (lc18 i0 i1 i2 i3 i4 z1 1 z2 z3 z4 br4 br7)) hml rfl (lenOf pd_17 rfl) at_136 hby hSr11 (Nat.le_trans hkr11 Er13.1) (own_EW hw) C7.1 (allS ⟨(f23.lt), sf5⟩ all0)
      obtain ⟨rfl, Nr14q, Kr14, f29⟩ := hQr14
      have C8 := C7.trans CRr14
      have N8 := Fr.app N7 Nr14q
      refine own_go (U' := Tr14.setTop (mkF m 143 (lc29 i0 i1 i2 i3 i4 z1 1 z2 z3 z4 br4 br7 br13) [(.int z1)])) (fun t k => oifY (pc := 125) Xr12 hx hby at_125 130 (by decide) (by decide) (str13 _ (odup Xr13 hx hby at_133 rfl (oaload Xr13 hx hby at_134 rfl rfl (str14 _ (oastore Xr14 hx hby at_139 (lc29 i0 i1 i2 i3 i4 z1 1 z2 z3 z4 br4 br7 br13) rfl rfl (oiload Xr14 hx hby at_141 rfl k))))))) ?_
      by_cases hk3 : (i0 &&& (3 : Int32)) = (0 : Int32)
      · have f30 : Sta Z Tr14.heap zs35 "PLAIN" zs39 (.ref w0) := (own_staK (Sta.ext Er13 (Sta.ext Er11 (Sta.ext Er9 (own_staK (Sta.ext Er7 (Sta.wr Wr6 (Sta.ext Er4 S0))) Kr8 (allS (own_nsF f4) all0))))) Kr14 (allS (own_nsE Ar13) all0))
        obtain ⟨Tr15, Xr15, er15, str15⟩ := getS2 Xr14 hx hZ hown (host := "") (Or.inl (ww hw 110 rfl)) Via.refl rfl f30 (g := (mkF m 146 (lc29 i0 i1 i2 i3 i4 z1 1 z2 z3 z4 br4 br7 br13) [])) rfl (hb hby at_146)
        obtain ⟨br16, Tr16, hr16, kr16, bvr16, clr16, Xr16, er16, Er16, hSr16, hkr16, hZ, hown, fr16a, fr16b, fr16c, fr16d, ltr16, lvr16, CRr16, -, nsr16, str16⟩ := ldcCH (s := s) Xr15 hx hZ hown (ww hw 113 rfl) (own_wS hw) er15 hSr14 (Nat.le_refl _) (own_EW hw) (List.mem_of_getElem? (i := 6) rfl) C8.1 (vs := [(.int 108), (.int 111), (.int 99), (.int 107)]) (z := 4) ⟨by decide, by decide⟩ (by decide) (by decide) (g := (mkF m 151 (lc30 i0 i1 i2 i3 i4 z1 1 z2 z3 z4 br4 br7 br13 w0) [])) rfl (hb hby at_151) (n := 16) (by decide) (by decide) (by decide) (by decide)
        have C9 := C8.trans CRr16
        have f31 : Exa Z hr16 w0 zs35 := (Exa.ext Er16 ((Exa.ext Er13 (Exa.ext Er11 (Exa.ext Er9 ((Exa.ext Er7 (Exa.wr Wr6 (Exa.ext Er4 S1))).keep Kr8)))).keep Kr14))
        have f32 : Sta Z hr16 zs6 zs7 "Z" (.int ci0) := (Sta.ext Er16 (own_staK f26 Kr14 (allS (own_nsE Ar13) all0)))
        have ne3 : w0 ≠ br4 := Nat.ne_of_lt (nlt (S2.lt) (Nat.le_of_eq gr4.symm))
        have ne4 : w0 ≠ br7 := Nat.ne_of_lt (nlt (nlt (nlt (S2.lt) Er4.1) (Keep.of_wr Wr6).1) (Nat.le_of_eq gr7.symm))
        have ne5 : w0 ≠ br13 := Nat.ne_of_lt (nlt (nlt (nlt (nlt (nlt (nlt (nlt (S2.lt) Er4.1) (Keep.of_wr Wr6).1) Er7.1) Kr8.1) Er9.1) Er11.1) (Nat.le_of_eq gr13.symm))
        have f33 : Fld Z hr16 w0 zs35 "noun" zs23 (.ref w1) := (Fld.ext Er16 ((Fld.ext Er13 (Fld.ext Er11 (Fld.ext Er9 ((Fld.ext Er7 (Fld.other Wr6 (Fld.ext Er4 S2) (Or.inl ne3))).keep Kr8 (ninS ne4 nin0))))).keep Kr14 (ninS ne5 nin0)))
        have f34 : Exa Z hr16 w1 zs6 := (Exa.ext Er16 ((Exa.ext Er13 (Exa.ext Er11 (Exa.ext Er9 ((Exa.ext Er7 (Exa.wr Wr6 (Exa.ext Er4 S3))).keep Kr8)))).keep Kr14))
        have ne6 : w1 ≠ br4 := Nat.ne_of_lt (nlt (S4.lt) (Nat.le_of_eq gr4.symm))
        have ne7 : w1 ≠ br7 := Nat.ne_of_lt (nlt (nlt (nlt (S4.lt) Er4.1) (Keep.of_wr Wr6).1) (Nat.le_of_eq gr7.symm))
        have ne8 : w1 ≠ br13 := Nat.ne_of_lt (nlt (nlt (nlt (nlt (nlt (nlt (nlt (S4.lt) Er4.1) (Keep.of_wr Wr6).1) Er7.1) Kr8.1) Er9.1) Er11.1) (Nat.le_of_eq gr13.symm))
        have f35 : Fld Z hr16 w1 zs6 "value" "[B" (.ref w2) := (Fld.ext Er16 ((Fld.ext Er13 (Fld.ext Er11 (Fld.ext Er9 ((Fld.ext Er7 (Fld.other Wr6 (Fld.ext Er4 S4) (Or.inl ne6))).keep Kr8 (ninS ne7 nin0))))).keep Kr14 (ninS ne8 nin0)))
        have ne9 : w2 ≠ br4 := Nat.ne_of_lt (nlt (S32.lt) (Nat.le_of_eq gr4.symm))
        have ne10 : w2 ≠ br7 := Nat.ne_of_lt (nlt (nlt (nlt (S32.lt) Er4.1) (Keep.of_wr Wr6).1) (Nat.le_of_eq gr7.symm))
        have ne11 : w2 ≠ br13 := Nat.ne_of_lt (nlt (nlt (nlt (nlt (nlt (nlt (nlt (S32.lt) Er4.1) (Keep.of_wr Wr6).1) Er7.1) Kr8.1) Er9.1) Er11.1) (Nat.le_of_eq gr13.symm))
        have f36 : Arv Z hr16 w2 kl0 .byte (4 : Int32) [(.int 108), (.int 111), (.int 99), (.int 107)] (.int (0 : Int32)) := (((((((((S32.ext Er4).other Wr6 ne9).ext Er7).keep Kr8 (ninS ne10 nin0)).ext Er9).ext Er11).ext Er13).keep Kr14 (ninS ne11 nin0)).ext Er16)
        have f37 : Fld Z hr16 w1 zs6 "coder" "B" (.int 0) := (Fld.ext Er16 ((Fld.ext Er13 (Fld.ext Er11 (Fld.ext Er9 ((Fld.ext Er7 (Fld.other Wr6 (Fld.ext Er4 S6) (Or.inl ne6))).keep Kr8 (ninS ne7 nin0))))).keep Kr14 (ninS ne8 nin0)))
        have f38 : Exa Z hr16 br13 zs21 := (Exa.ext Er16 (Ar13.keep Kr14))
        have f39 : Fld Z hr16 br13 zs21 "value" zs23 (.ref br7) := (Fld.ext Er16 f29)
        have f40 : Exa Z hr16 br7 zs6 := (Exa.ext Er16 (f23.keep Kr14))
        have ne12 : br7 ≠ br13 := Nat.ne_of_lt (nlt (nlt (nlt (nlt (f4.lt) Kr8.1) Er9.1) Er11.1) (Nat.le_of_eq gr13.symm))
        have f41 : Fld Z hr16 br7 zs6 "value" "[B" (.ref b1) := (Fld.ext Er16 (f24.keep Kr14 (ninS ne12 nin0)))
        have ne13 : b1 ≠ br13 := Nat.ne_of_lt (nlt (nlt (nlt (f10.lt) Er9.1) Er11.1) (Nat.le_of_eq gr13.symm))
        have f42 : Arv Z hr16 b1 k1 .byte (1 : Int32) [(.int z2)] (.int (0 : Int32)) := ((f25.keep Kr14 (ninS ne13 nin0)).ext Er16)
        have f43 : Fld Z hr16 br7 zs6 "coder" "B" (.int 0) := (Fld.ext Er16 (f27.keep Kr14 (ninS ne12 nin0)))
        have Z_8 : n0 ≤ Tr14.heap.size := Nat.le_trans Z_7 Kr14.1
        have Z_9 : n0 ≤ hr16.size := Nat.le_trans Z_8 Er16.1
        obtain ⟨_, Tr17, Lr17, Xr17, hQr17, hSr17, hZ, hown, CRr17, str17⟩ := ocallVH (s := s) Xr16 hx hZ zm27 zm27 hown (ww hw 114 rfl) (ww hw 115 rfl) (notFace_of_selects (args := #[]) (mvT hZ (ww hw 117 rfl))) (ww hw 117 rfl) (ww hw 116 rfl) (by decide) (ww hw 118 rfl) (ww hw 111 rfl) er16 f31 (rm22_61 l hw w0 br13 ci0 w1 w2 [(.int 108), (.int 111), (.int 99), (.int 107)] kl0 4 4 4 (-12) 5 (-11) 4 br7 b1 [(.int z2)] k1 1 1 6 (-10) 5 6 hr16 n0 Z_9 f32 hc5 f33 f34 f35 f36 f37 (Nat.le_of_ble_eq_true rfl) (Nat.le_of_ble_eq_true rfl) (Nat.le_of_ble_eq_true rfl) (Nat.le_of_ble_eq_true rfl) (Nat.le_of_ble_eq_true rfl) (Nat.le_of_ble_eq_true rfl) f38 f39 f40 f41 f42 f43 (Nat.le_of_ble_eq_true rfl) (Nat.le_of_ble_eq_true rfl) (Nat.le_of_ble_eq_true rfl) (Nat.le_of_ble_eq_true rfl) (Nat.le_of_ble_eq_true rfl) (Nat.le_of_ble_eq_true rfl) (Nat.le_of_ble_eq_true rfl) (by decide)) (st := [(.ref br13), (.ref w0)]) rfl 0 rfl (by decide) (pc := 207) (Ls := (lc31 i0 i1 i2 i3 i4 z1 1 z2 z3 z4 br4 br7 br13 w0 br16)) hml rfl (lenOf pd_29 rfl) at_207 hby hSr16 hkr16 (own_EW hw) C9.1 all0
        obtain ⟨b2, b3, k2, rfl, Nr17q, Kr17, sz2, sz3, ne14, f44, f45, f46, f47, f48⟩ := hQr17
        have C10 := C9.trans CRr17
        have f49 : Arv Z Tr17.heap b3 k2 .byte (6 : Int32) [(.int 108), (.int 111), (.int 99), (.int 107), (.int 32), (.int z2)] (.int (0 : Int32)) := f48
        have N9 := Fr.app N8 Nr17q
        have f50 : Exa Z Tr17.heap br16 zs6 := (fr16a.keep Kr17)
        have f51 : Fld Z Tr17.heap br16 zs6 "value" "[B" (.ref bvr16) := (fr16c.keep Kr17 nin0)
        have f52 : Arv Z Tr17.heap bvr16 clr16 .byte (4 : Int32) [(.int 108), (.int 111), (.int 99), (.int 107)] (.int (0 : Int32)) := (fr16d.keep Kr17 nin0)
        have f53 : Sta Z Tr17.heap zs6 zs7 "Z" (.int ci0) := (own_staK f32 Kr17 all0)
        have f54 : Fld Z Tr17.heap br16 zs6 "coder" "B" (.int 0) := (fr16b.keep Kr17 nin0)
        have Z_10 : n0 ≤ Tr17.heap.size := Nat.le_trans Z_9 Kr17.1
        obtain ⟨_, Tr18, Lr18, Xr18, hQr18, str18⟩ := ocallV Xr17 hx hZ zm12 zm12 hown (ww hw 228 rfl) (ww hw 72 rfl) (notFace_of_selects (args := #[]) (mvT hZ (ww hw 74 rfl))) (ww hw 74 rfl) (ww hw 73 rfl) (by decide) (ww hw 75 rfl) (ww hw 8 rfl) rfl f50 (rm14_24 l hw br16 bvr16 4 ci0 4 Tr17.heap n0 Z_10 f51 (own_lnV f52) f50 f53 hc5 f54 (by decide)) (st := [(.ref br16)]) rfl 0 rfl (by decide) (pc := 221) (Ls := (lc41 i0 i1 i2 i3 i4 z1 1 z2 z3 z4 br4 br7 br13 w0 br16 b2)) hml rfl (lenOf pd_12 rfl) at_221 hby
        obtain ⟨rfl, Nr18q, er18⟩ := hQr18
        have N10 := Fr.app N9 Nr18q
        obtain ⟨_, Tr19, Lr19, Xr19, hQr19, str19⟩ := ocallV Xr18 hx hZ zm12 zm12 hown (ww hw 228 rfl) (ww hw 72 rfl) (notFace_of_selects (args := #[]) (mvT hZ (ww hw 74 rfl))) (ww hw 74 rfl) (ww hw 73 rfl) (by decide) (ww hw 75 rfl) (ww hw 8 rfl) er18 f44 (rm14_24 l hw b2 b3 6 ci0 6 Tr17.heap n0 Z_10 f46 (own_lnV f49) f44 f53 hc5 f45 (by decide)) (st := [(.ref b2)]) rfl 0 rfl (by decide) (pc := 228) (Ls := (lc42 i0 i1 i2 i3 i4 z1 1 z2 z3 z4 br4 br7 br13 w0 br16 b2 4)) hml rfl (lenOf pd_12 rfl) at_228 hby
        obtain ⟨rfl, Nr19q, er19⟩ := hQr19
        have N11 := Fr.app N10 Nr19q
        have hc17 : (i0 &&& (3 : Int32)) = (0 : Int32) := hk3
        have hs18 : z1 = (0 : Int32) := by rw [hz1]; exact hc17
        refine own_go (U' := Tr19.setTop (mkF m 238 (lc42 i0 i1 i2 i3 i4 z1 1 z2 z3 z4 br4 br7 br13 w0 br16 b2 4) [(.int 6), (.int 6)])) (fun t k => oifN Xr14 hx hby at_143 ((if0 _ _).trans (teq hs18).2) (str15 _ (oastore Xr15 hx hby at_149 (lc30 i0 i1 i2 i3 i4 z1 1 z2 z3 z4 br4 br7 br13 w0) rfl rfl (str16 _ (oastore Xr16 hx hby at_153 (lc31 i0 i1 i2 i3 i4 z1 1 z2 z3 z4 br4 br7 br13 w0 br16) rfl rfl (ogoto (pc := 155) Xr16 hx hby at_155 203 (by decide) (oaload Xr16 hx hby at_203 rfl rfl (oaload Xr16 hx hby at_205 rfl rfl (str17 _ (oastore Xr17 hx hby at_210 (lc41 i0 i1 i2 i3 i4 z1 1 z2 z3 z4 br4 br7 br13 w0 br16 b2) rfl rfl (oaload Xr17 hx hby at_212 rfl rfl (onnY (pc := 214) Xr17 hx hby at_214 219 (by decide) (oaload Xr17 hx hby at_219 rfl rfl (str18 _ (oistore Xr18 hx hby at_224 (lc42 i0 i1 i2 i3 i4 z1 1 z2 z3 z4 br4 br7 br13 w0 br16 b2 4) rfl (oaload Xr18 hx hby at_226 rfl rfl (str19 _ (oiload Xr19 hx hby at_231 rfl (oiconst Xr19 hx hby at_233 (oiadd Xr19 hx hby at_234 (oiload Xr19 hx hby at_235 rfl (oiadd Xr19 hx hby at_237 k)))))))))))))))))))))) ?_
        have f55 : Sta Z Tr17.heap zs16 zs19 zs20 vy0 := (own_staK (Sta.ext Er16 (own_staK f28 Kr14 (allS (own_nsF f22) all0))) Kr17 all0)
        obtain ⟨_, Tr20, Lr20, Xr20, hQr20, str20⟩ := ocallS Xr19 hx hZ zm28 hown (ww hw 229 rfl) (ww hw 230 rfl) (by decide) (ww hw 231 rfl) (ww hw 3 rfl) er19 (rm43_63 l hw b2 0 br16 0 bvr16 4 ci0 4 0 b3 6 vy0 108 108 Tr17.heap n0 Z_10 f50 f51 (own_lnV f52) f53 hc5 f54 f44 f45 f46 (own_lnV f49) f55 hc12 (own_elV (j := (0 : Int32)) f49 (by decide) (by decide) rfl) (own_elV (j := (0 : Int32)) f52 (by decide) (by decide) rfl) (by decide)) (st := [(.int 0), (.ref br16), (.int 0), (.ref b2)]) rfl 0 rfl (by decide) (pc := 249) (Ls := (lc42 i0 i1 i2 i3 i4 z1 1 z2 z3 z4 br4 br7 br13 w0 br16 b2 4)) hml rfl (lenOf pd_30 rfl) at_249 hby
        obtain ⟨rfl, Nr20q, er20⟩ := hQr20
        have N12 := Fr.app N11 Nr20q
        refine own_go (U' := Tr20.setTop (mkF m 252 (lc42 i0 i1 i2 i3 i4 z1 1 z2 z3 z4 br4 br7 br13 w0 br16 b2 4) [(.int 1)])) (fun t k => oicY (pc := 238) Xr19 hx hby at_238 243 (by decide) (by decide) (oaload Xr19 hx hby at_243 rfl rfl (oiconst Xr19 hx hby at_245 (oaload Xr19 hx hby at_246 rfl rfl (oiconst Xr19 hx hby at_248 (str20 _ k)))))) ?_
        obtain ⟨_, Tr21, Lr21, Xr21, hQr21, str21⟩ := ocallS Xr20 hx hZ zm28 hown (ww hw 229 rfl) (ww hw 230 rfl) (by decide) (ww hw 231 rfl) (ww hw 3 rfl) er20 (rm43_63 l hw b2 0 br16 1 bvr16 4 ci0 4 1 b3 6 vy0 111 111 Tr17.heap n0 Z_10 f50 f51 (own_lnV f52) f53 hc5 f54 f44 f45 f46 (own_lnV f49) f55 hc12 (own_elV (j := (1 : Int32)) f49 (by decide) (by decide) rfl) (own_elV (j := (1 : Int32)) f52 (by decide) (by decide) rfl) (by decide)) (st := [(.int 1), (.ref br16), (.int 0), (.ref b2)]) rfl 0 rfl (by decide) (pc := 261) (Ls := (lc42 i0 i1 i2 i3 i4 z1 1 z2 z3 z4 br4 br7 br13 w0 br16 b2 4)) hml rfl (lenOf pd_30 rfl) at_261 hby
        obtain ⟨rfl, Nr21q, er21⟩ := hQr21
        have N13 := Fr.app N12 Nr21q
        refine own_go (U' := Tr21.setTop (mkF m 264 (lc42 i0 i1 i2 i3 i4 z1 1 z2 z3 z4 br4 br7 br13 w0 br16 b2 4) [(.int 1)])) (fun t k => oifN Xr20 hx hby at_252 (by decide) (oaload Xr20 hx hby at_255 rfl rfl (oiconst Xr20 hx hby at_257 (oaload Xr20 hx hby at_258 rfl rfl (oiconst Xr20 hx hby at_260 (str21 _ k)))))) ?_
        obtain ⟨_, Tr22, Lr22, Xr22, hQr22, str22⟩ := ocallS Xr21 hx hZ zm28 hown (ww hw 229 rfl) (ww hw 230 rfl) (by decide) (ww hw 231 rfl) (ww hw 3 rfl) er21 (rm43_63 l hw b2 0 br16 2 bvr16 4 ci0 4 2 b3 6 vy0 99 99 Tr17.heap n0 Z_10 f50 f51 (own_lnV f52) f53 hc5 f54 f44 f45 f46 (own_lnV f49) f55 hc12 (own_elV (j := (2 : Int32)) f49 (by decide) (by decide) rfl) (own_elV (j := (2 : Int32)) f52 (by decide) (by decide) rfl) (by decide)) (st := [(.int 2), (.ref br16), (.int 0), (.ref b2)]) rfl 0 rfl (by decide) (pc := 273) (Ls := (lc42 i0 i1 i2 i3 i4 z1 1 z2 z3 z4 br4 br7 br13 w0 br16 b2 4)) hml rfl (lenOf pd_30 rfl) at_273 hby
        obtain ⟨rfl, Nr22q, er22⟩ := hQr22
        have N14 := Fr.app N13 Nr22q
        refine own_go (U' := Tr22.setTop (mkF m 276 (lc42 i0 i1 i2 i3 i4 z1 1 z2 z3 z4 br4 br7 br13 w0 br16 b2 4) [(.int 1)])) (fun t k => oifN Xr21 hx hby at_264 (by decide) (oaload Xr21 hx hby at_267 rfl rfl (oiconst Xr21 hx hby at_269 (oaload Xr21 hx hby at_270 rfl rfl (oiconst Xr21 hx hby at_272 (str22 _ k)))))) ?_
        obtain ⟨_, Tr23, Lr23, Xr23, hQr23, str23⟩ := ocallS Xr22 hx hZ zm28 hown (ww hw 229 rfl) (ww hw 230 rfl) (by decide) (ww hw 231 rfl) (ww hw 3 rfl) er22 (rm43_63 l hw b2 0 br16 3 bvr16 4 ci0 4 3 b3 6 vy0 107 107 Tr17.heap n0 Z_10 f50 f51 (own_lnV f52) f53 hc5 f54 f44 f45 f46 (own_lnV f49) f55 hc12 (own_elV (j := (3 : Int32)) f49 (by decide) (by decide) rfl) (own_elV (j := (3 : Int32)) f52 (by decide) (by decide) rfl) (by decide)) (st := [(.int 3), (.ref br16), (.int 0), (.ref b2)]) rfl 0 rfl (by decide) (pc := 285) (Ls := (lc42 i0 i1 i2 i3 i4 z1 1 z2 z3 z4 br4 br7 br13 w0 br16 b2 4)) hml rfl (lenOf pd_30 rfl) at_285 hby
        obtain ⟨rfl, Nr23q, er23⟩ := hQr23
        have N15 := Fr.app N14 Nr23q
        refine own_go (U' := Tr23.setTop (mkF m 288 (lc42 i0 i1 i2 i3 i4 z1 1 z2 z3 z4 br4 br7 br13 w0 br16 b2 4) [(.int 1)])) (fun t k => oifN Xr22 hx hby at_276 (by decide) (oaload Xr22 hx hby at_279 rfl rfl (oiconst Xr22 hx hby at_281 (oaload Xr22 hx hby at_282 rfl rfl (oiconst Xr22 hx hby at_284 (str23 _ k)))))) ?_
        obtain ⟨_, Tr24, Lr24, Xr24, hQr24, str24⟩ := ocallS Xr23 hx hZ zm28 hown (ww hw 229 rfl) (ww hw 230 rfl) (by decide) (ww hw 231 rfl) (ww hw 3 rfl) er23 (rm43_64 l hw b2 0 br16 4 bvr16 4 ci0 4 Tr17.heap n0 Z_10 f50 f51 (own_lnV f52) f53 hc5 f54 (by decide)) (st := [(.int 4), (.ref br16), (.int 0), (.ref b2)]) rfl 0 rfl (by decide) (pc := 297) (Ls := (lc42 i0 i1 i2 i3 i4 z1 1 z2 z3 z4 br4 br7 br13 w0 br16 b2 4)) hml rfl (lenOf pd_30 rfl) at_297 hby
        obtain ⟨rfl, Nr24q, er24⟩ := hQr24
        have N16 := Fr.app N15 Nr24q
        refine own_go (U' := Tr24.setTop (mkF m 300 (lc42 i0 i1 i2 i3 i4 z1 1 z2 z3 z4 br4 br7 br13 w0 br16 b2 4) [(.int 1)])) (fun t k => oifN Xr23 hx hby at_288 (by decide) (oaload Xr23 hx hby at_291 rfl rfl (oiconst Xr23 hx hby at_293 (oaload Xr23 hx hby at_294 rfl rfl (oiconst Xr23 hx hby at_296 (str24 _ k)))))) ?_
        obtain ⟨_, Tr25, Lr25, Xr25, hQr25, str25⟩ := ocallS Xr24 hx hZ zm28 hown (ww hw 229 rfl) (ww hw 230 rfl) (by decide) (ww hw 231 rfl) (ww hw 3 rfl) er24 (rm43_64 l hw b2 0 br16 5 bvr16 4 ci0 4 Tr17.heap n0 Z_10 f50 f51 (own_lnV f52) f53 hc5 f54 (by decide)) (st := [(.int 5), (.ref br16), (.int 0), (.ref b2)]) rfl 0 rfl (by decide) (pc := 309) (Ls := (lc42 i0 i1 i2 i3 i4 z1 1 z2 z3 z4 br4 br7 br13 w0 br16 b2 4)) hml rfl (lenOf pd_30 rfl) at_309 hby
        obtain ⟨rfl, Nr25q, er25⟩ := hQr25
        have N17 := Fr.app N16 Nr25q
        refine own_go (U' := Tr25.setTop (mkF m 312 (lc42 i0 i1 i2 i3 i4 z1 1 z2 z3 z4 br4 br7 br13 w0 br16 b2 4) [(.int 1)])) (fun t k => oifN Xr24 hx hby at_300 (by decide) (oaload Xr24 hx hby at_303 rfl rfl (oiconst Xr24 hx hby at_305 (oaload Xr24 hx hby at_306 rfl rfl (oiconst Xr24 hx hby at_308 (str25 _ k)))))) ?_
        obtain ⟨_, Tr26, Lr26, Xr26, hQr26, str26⟩ := ocallS Xr25 hx hZ zm28 hown (ww hw 229 rfl) (ww hw 230 rfl) (by decide) (ww hw 231 rfl) (ww hw 3 rfl) er25 (rm43_64 l hw b2 0 br16 6 bvr16 4 ci0 4 Tr17.heap n0 Z_10 f50 f51 (own_lnV f52) f53 hc5 f54 (by decide)) (st := [(.int 6), (.ref br16), (.int 0), (.ref b2)]) rfl 0 rfl (by decide) (pc := 322) (Ls := (lc42 i0 i1 i2 i3 i4 z1 1 z2 z3 z4 br4 br7 br13 w0 br16 b2 4)) hml rfl (lenOf pd_30 rfl) at_322 hby
        obtain ⟨rfl, Nr26q, er26⟩ := hQr26
        have N18 := Fr.app N17 Nr26q
        refine own_go (U' := Tr26.setTop (mkF m 325 (lc42 i0 i1 i2 i3 i4 z1 1 z2 z3 z4 br4 br7 br13 w0 br16 b2 4) [(.int 1)])) (fun t k => oifN Xr25 hx hby at_312 (by decide) (oaload Xr25 hx hby at_315 rfl rfl (oiconst Xr25 hx hby at_317 (oaload Xr25 hx hby at_318 rfl rfl (obipush Xr25 hx hby at_320 (str26 _ k)))))) ?_
        obtain ⟨_, Tr27, Lr27, Xr27, hQr27, str27⟩ := ocallS Xr26 hx hZ zm28 hown (ww hw 229 rfl) (ww hw 230 rfl) (by decide) (ww hw 231 rfl) (ww hw 3 rfl) er26 (rm43_64 l hw b2 0 br16 7 bvr16 4 ci0 4 Tr17.heap n0 Z_10 f50 f51 (own_lnV f52) f53 hc5 f54 (by decide)) (st := [(.int 7), (.ref br16), (.int 0), (.ref b2)]) rfl 0 rfl (by decide) (pc := 335) (Ls := (lc42 i0 i1 i2 i3 i4 z1 1 z2 z3 z4 br4 br7 br13 w0 br16 b2 4)) hml rfl (lenOf pd_30 rfl) at_335 hby
        obtain ⟨rfl, Nr27q, er27⟩ := hQr27
        have N19 := Fr.app N18 Nr27q
        refine own_go (U' := Tr27.setTop (mkF m 338 (lc42 i0 i1 i2 i3 i4 z1 1 z2 z3 z4 br4 br7 br13 w0 br16 b2 4) [(.int 1)])) (fun t k => oifN Xr26 hx hby at_325 (by decide) (oaload Xr26 hx hby at_328 rfl rfl (oiconst Xr26 hx hby at_330 (oaload Xr26 hx hby at_331 rfl rfl (obipush Xr26 hx hby at_333 (str27 _ k)))))) ?_
        obtain ⟨_, Tr28, Lr28, Xr28, hQr28, str28⟩ := ocallS Xr27 hx hZ zm28 hown (ww hw 229 rfl) (ww hw 230 rfl) (by decide) (ww hw 231 rfl) (ww hw 3 rfl) er27 (rm43_64 l hw b2 0 br16 8 bvr16 4 ci0 4 Tr17.heap n0 Z_10 f50 f51 (own_lnV f52) f53 hc5 f54 (by decide)) (st := [(.int 8), (.ref br16), (.int 0), (.ref b2)]) rfl 0 rfl (by decide) (pc := 348) (Ls := (lc42 i0 i1 i2 i3 i4 z1 1 z2 z3 z4 br4 br7 br13 w0 br16 b2 4)) hml rfl (lenOf pd_30 rfl) at_348 hby
        obtain ⟨rfl, Nr28q, er28⟩ := hQr28
        have N20 := Fr.app N19 Nr28q
        refine own_go (U' := Tr28.setTop (mkF m 351 (lc42 i0 i1 i2 i3 i4 z1 1 z2 z3 z4 br4 br7 br13 w0 br16 b2 4) [(.int 1)])) (fun t k => oifN Xr27 hx hby at_338 (by decide) (oaload Xr27 hx hby at_341 rfl rfl (oiconst Xr27 hx hby at_343 (oaload Xr27 hx hby at_344 rfl rfl (obipush Xr27 hx hby at_346 (str28 _ k)))))) ?_
        obtain ⟨_, Tr29, Lr29, Xr29, hQr29, str29⟩ := ocallS Xr28 hx hZ zm28 hown (ww hw 229 rfl) (ww hw 230 rfl) (by decide) (ww hw 231 rfl) (ww hw 3 rfl) er28 (rm43_64 l hw b2 0 br16 9 bvr16 4 ci0 4 Tr17.heap n0 Z_10 f50 f51 (own_lnV f52) f53 hc5 f54 (by decide)) (st := [(.int 9), (.ref br16), (.int 0), (.ref b2)]) rfl 0 rfl (by decide) (pc := 361) (Ls := (lc42 i0 i1 i2 i3 i4 z1 1 z2 z3 z4 br4 br7 br13 w0 br16 b2 4)) hml rfl (lenOf pd_30 rfl) at_361 hby
        obtain ⟨rfl, Nr29q, er29⟩ := hQr29
        have N21 := Fr.app N20 Nr29q
        refine own_go (U' := Tr29.setTop (mkF m 364 (lc42 i0 i1 i2 i3 i4 z1 1 z2 z3 z4 br4 br7 br13 w0 br16 b2 4) [(.int 1)])) (fun t k => oifN Xr28 hx hby at_351 (by decide) (oaload Xr28 hx hby at_354 rfl rfl (oiconst Xr28 hx hby at_356 (oaload Xr28 hx hby at_357 rfl rfl (obipush Xr28 hx hby at_359 (str29 _ k)))))) ?_
        obtain ⟨_, Tr30, Lr30, Xr30, hQr30, str30⟩ := ocallV Xr29 hx hZ zm17 zm17 hown (ww hw 232 rfl) (ww hw 82 rfl) (notFace_of_selects (args := #[]) (mvT hZ (ww hw 84 rfl))) (ww hw 84 rfl) (ww hw 83 rfl) (by decide) (ww hw 85 rfl) (ww hw 8 rfl) er29 f44 (rm16_65 l hw b2 4 ci0 b3 6 vy0 32 Tr17.heap n0 Z_10 f44 f53 hc5 f45 f46 (own_lnV f49) f55 hc12 (own_elV (j := (4 : Int32)) f49 (by decide) (by decide) rfl) (by decide)) (st := [(.int 4), (.ref b2)]) rfl 0 rfl (by decide) (pc := 378) (Ls := (lc44 i0 i1 i2 i3 i4 z1 1 z2 z3 z4 br4 br7 br13 w0 br16 b2 4 1)) hml rfl (lenOf pd_0 rfl) at_378 hby
        obtain ⟨rfl, Nr30q, er30⟩ := hQr30
        have N22 := Fr.app N21 Nr30q
        refine own_go (U' := Tr30.setTop (mkF m 383 (lc44 i0 i1 i2 i3 i4 z1 1 z2 z3 z4 br4 br7 br13 w0 br16 b2 4 1) [(.int 32), (.int 32)])) (fun t k => oifN Xr29 hx hby at_364 (by decide) (oiconst Xr29 hx hby at_367 (ogoto (pc := 368) Xr29 hx hby at_368 372 (by decide) (oistore Xr29 hx hby at_372 (lc44 i0 i1 i2 i3 i4 z1 1 z2 z3 z4 br4 br7 br13 w0 br16 b2 4 1) rfl (oaload Xr29 hx hby at_374 rfl rfl (oiload Xr29 hx hby at_376 rfl (str30 _ (obipush Xr30 hx hby at_381 k)))))))) ?_
        refine own_go (U' := Tr30.setTop (mkF m 402 (lc45 i0 i1 i2 i3 i4 z1 1 z2 z3 z4 br4 br7 br13 w0 br16 b2 4 1 1) [(.int 0), (.ref br7), (.int 5), (.ref b2)])) (fun t k => oicN Xr30 hx hby at_383 (by decide) (oiconst Xr30 hx hby at_386 (ogoto (pc := 387) Xr30 hx hby at_387 391 (by decide) (oistore Xr30 hx hby at_391 (lc45 i0 i1 i2 i3 i4 z1 1 z2 z3 z4 br4 br7 br13 w0 br16 b2 4 1 1) rfl (oaload Xr30 hx hby at_393 rfl rfl (oiload Xr30 hx hby at_395 rfl (oiconst Xr30 hx hby at_397 (oiadd Xr30 hx hby at_398 (oaload Xr30 hx hby at_399 rfl rfl (oiconst Xr30 hx hby at_401 k)))))))))) ?_
        have f56 : Exa Z Tr17.heap br7 zs6 := (f40.keep Kr17)
        have f57 : Fld Z Tr17.heap br7 zs6 "value" "[B" (.ref b1) := (f41.keep Kr17 nin0)
        have f58 : Arv Z Tr17.heap b1 k1 .byte (1 : Int32) [(.int z2)] (.int (0 : Int32)) := (f42.keep Kr17 nin0)
        have f59 : Fld Z Tr17.heap br7 zs6 "coder" "B" (.int 0) := (f43.keep Kr17 nin0)
        obtain ⟨_, Tr31, Lr31, Xr31, hQr31, str31⟩ := ocallS Xr30 hx hZ zm28 hown (ww hw 229 rfl) (ww hw 230 rfl) (by decide) (ww hw 231 rfl) (ww hw 3 rfl) er30 (rm43_66 l hw b2 5 br7 0 b1 1 ci0 1 5 b3 6 vy0 z2 z2 Tr17.heap n0 Z_10 f56 f57 (own_lnV f58) f53 hc5 f59 f44 f45 f46 (own_lnV f49) f55 hc12 (own_elV (j := (5 : Int32)) f49 (by decide) (by decide) rfl) hs2 hs9 hs4 (own_elV (j := (0 : Int32)) f58 (by decide) (by decide) rfl) hs2 hs9 hs4 rfl (by decide)) (st := [(.int 0), (.ref br7), (.int 5), (.ref b2)]) rfl 0 rfl (by decide) (pc := 402) (Ls := (lc45 i0 i1 i2 i3 i4 z1 1 z2 z3 z4 br4 br7 br13 w0 br16 b2 4 1 1)) hml rfl (lenOf pd_30 rfl) at_402 hby
        obtain ⟨rfl, Nr31q, er31⟩ := hQr31
        have N23 := Fr.app N22 Nr31q
        refine own_go (U' := Tr31.setTop (mkF m 405 (lc45 i0 i1 i2 i3 i4 z1 1 z2 z3 z4 br4 br7 br13 w0 br16 b2 4 1 1) [(.int 1)])) (fun t k => str31 _ k) ?_
        obtain ⟨_, Tr32, Lr32, Xr32, hQr32, str32⟩ := ocallS Xr31 hx hZ zm28 hown (ww hw 229 rfl) (ww hw 230 rfl) (by decide) (ww hw 231 rfl) (ww hw 3 rfl) er31 (rm43_64 l hw b2 5 br7 1 b1 1 ci0 1 Tr17.heap n0 Z_10 f56 f57 (own_lnV f58) f53 hc5 f59 (by decide)) (st := [(.int 1), (.ref br7), (.int 5), (.ref b2)]) rfl 0 rfl (by decide) (pc := 417) (Ls := (lc45 i0 i1 i2 i3 i4 z1 1 z2 z3 z4 br4 br7 br13 w0 br16 b2 4 1 1)) hml rfl (lenOf pd_30 rfl) at_417 hby
        obtain ⟨rfl, Nr32q, er32⟩ := hQr32
        have N24 := Fr.app N23 Nr32q
        refine own_go (U' := Tr32.setTop (mkF m 420 (lc45 i0 i1 i2 i3 i4 z1 1 z2 z3 z4 br4 br7 br13 w0 br16 b2 4 1 1) [(.int 1)])) (fun t k => oifN Xr31 hx hby at_405 (by decide) (oaload Xr31 hx hby at_408 rfl rfl (oiload Xr31 hx hby at_410 rfl (oiconst Xr31 hx hby at_412 (oiadd Xr31 hx hby at_413 (oaload Xr31 hx hby at_414 rfl rfl (oiconst Xr31 hx hby at_416 (str32 _ k)))))))) ?_
        obtain ⟨_, Tr33, Lr33, Xr33, hQr33, str33⟩ := ocallS Xr32 hx hZ zm28 hown (ww hw 229 rfl) (ww hw 230 rfl) (by decide) (ww hw 231 rfl) (ww hw 3 rfl) er32 (rm43_64 l hw b2 5 br7 2 b1 1 ci0 1 Tr17.heap n0 Z_10 f56 f57 (own_lnV f58) f53 hc5 f59 (by decide)) (st := [(.int 2), (.ref br7), (.int 5), (.ref b2)]) rfl 0 rfl (by decide) (pc := 432) (Ls := (lc45 i0 i1 i2 i3 i4 z1 1 z2 z3 z4 br4 br7 br13 w0 br16 b2 4 1 1)) hml rfl (lenOf pd_30 rfl) at_432 hby
        obtain ⟨rfl, Nr33q, er33⟩ := hQr33
        have N25 := Fr.app N24 Nr33q
        refine own_go (U' := Tr33.setTop (mkF m 435 (lc45 i0 i1 i2 i3 i4 z1 1 z2 z3 z4 br4 br7 br13 w0 br16 b2 4 1 1) [(.int 1)])) (fun t k => oifN Xr32 hx hby at_420 (by decide) (oaload Xr32 hx hby at_423 rfl rfl (oiload Xr32 hx hby at_425 rfl (oiconst Xr32 hx hby at_427 (oiadd Xr32 hx hby at_428 (oaload Xr32 hx hby at_429 rfl rfl (oiconst Xr32 hx hby at_431 (str33 _ k)))))))) ?_
        refine own_go (U' := Tr33.setTop (mkF m 447 (lc46 i0 i1 i2 i3 i4 z1 1 z2 z3 z4 br4 br7 br13 w0 br16 b2 4 1 1 1) [(.int 1)])) (fun t k => oifN Xr33 hx hby at_435 (by decide) (oiconst Xr33 hx hby at_438 (ogoto (pc := 439) Xr33 hx hby at_439 443 (by decide) (oistore Xr33 hx hby at_443 (lc46 i0 i1 i2 i3 i4 z1 1 z2 z3 z4 br4 br7 br13 w0 br16 b2 4 1 1 1) rfl (oiload Xr33 hx hby at_445 rfl k))))) ?_
        refine own_go (U' := Tr33.setTop (mkF m 452 (lc46 i0 i1 i2 i3 i4 z1 1 z2 z3 z4 br4 br7 br13 w0 br16 b2 4 1 1 1) [(.int 1)])) (fun t k => oifN Xr33 hx hby at_447 (by decide) (oiload Xr33 hx hby at_450 rfl k)) ?_
        refine own_go (U' := Tr33.setTop (mkF m 457 (lc46 i0 i1 i2 i3 i4 z1 1 z2 z3 z4 br4 br7 br13 w0 br16 b2 4 1 1 1) [(.int 1)])) (fun t k => oifN Xr33 hx hby at_452 (by decide) (oiload Xr33 hx hby at_455 rfl k)) ?_
        refine own_go (U' := Tr33.setTop (mkF m 465 (lc46 i0 i1 i2 i3 i4 z1 1 z2 z3 z4 br4 br7 br13 w0 br16 b2 4 1 1 1) [(.int 1)])) (fun t k => oifN Xr33 hx hby at_457 (by decide) (oiconst Xr33 hx hby at_460 (ogoto (pc := 461) Xr33 hx hby at_461 465 (by decide) k))) ?_
        obtain ⟨fs, hr, hrun, hended, hW, hsame⟩ := Xr33.leave (v := some (.int 1)) (fun h => by rw [Bd.returns] at h; cases h)
        have hE := hSr17.ended hW (by show _ ≤ Tr33.heap.size; rw [er33]; exact (Nat.le_refl _)) hsame
        refine own_out ⟨_, _, ?_, hrun, hended, _, _, rfl, ?_, ?_, ⟨_, rfl⟩, hE.1, hE.2.1, hE.2.2.mono (by decide) (by decide)⟩
        · exact retN Xr33 hx (t := .boolean) Bd.returns (by simp) (hb hby at_465) hr
        · exact ⟨rfl, N25⟩
        · show CHr Z consts_1 s.vm s.heap Tr33.vm Tr33.heap; rw [hh, er33]; exact C10.trans (CHv.at (s := s) Xr33 hZ (own_EW hw) C10.1)
      · have hc19 : ¬ ((i0 &&& (3 : Int32)) = (0 : Int32)) := hk3
        have hs20 : ¬ (z1 = (0 : Int32)) := by rw [hz1]; exact hc19
        refine own_go (U' := Tr14.setTop (mkF m 161 (lc29 i0 i1 i2 i3 i4 z1 1 z2 z3 z4 br4 br7 br13) [(.int 1), (.int z1)])) (fun t k => oifY (pc := 143) Xr14 hx hby at_143 158 ((if0 _ _).trans (feq hs20).2) (by decide) (oiload Xr14 hx hby at_158 rfl (oiconst Xr14 hx hby at_160 k))) ?_
        by_cases hk4 : (i0 &&& (3 : Int32)) = (1 : Int32)
        · have f30 : Sta Z Tr14.heap zs35 "READ" zs39 (.ref w9) := (own_staK (Sta.ext Er13 (Sta.ext Er11 (Sta.ext Er9 (own_staK (Sta.ext Er7 (Sta.wr Wr6 (Sta.ext Er4 S21))) Kr8 (allS (own_nsF f4) all0))))) Kr14 (allS (own_nsE Ar13) all0))
          obtain ⟨Tr15, Xr15, er15, str15⟩ := getS2 Xr14 hx hZ hown (host := "") (Or.inl (ww hw 239 rfl)) Via.refl rfl f30 (g := (mkF m 164 (lc29 i0 i1 i2 i3 i4 z1 1 z2 z3 z4 br4 br7 br13) [])) rfl (hb hby at_164)
          obtain ⟨br16, Tr16, hr16, kr16, bvr16, clr16, Xr16, er16, Er16, hSr16, hkr16, hZ, hown, fr16a, fr16b, fr16c, fr16d, ltr16, lvr16, CRr16, -, nsr16, str16⟩ := ldcCH (s := s) Xr15 hx hZ hown (ww hw 241 rfl) (own_wS hw) er15 hSr14 (Nat.le_refl _) (own_EW hw) (List.mem_of_getElem? (i := 7) rfl) C8.1 (vs := [(.int 114), (.int 101), (.int 97), (.int 100), (.int 32), (.int 108), (.int 111), (.int 99), (.int 107)]) (z := 9) ⟨by decide, by decide⟩ (by decide) (by decide) (g := (mkF m 169 (lc30 i0 i1 i2 i3 i4 z1 1 z2 z3 z4 br4 br7 br13 w9) [])) rfl (hb hby at_169) (n := 36) (by decide) (by decide) (by decide) (by decide)
          have C9 := C8.trans CRr16
          have f31 : Exa Z hr16 w9 zs35 := (Exa.ext Er16 ((Exa.ext Er13 (Exa.ext Er11 (Exa.ext Er9 ((Exa.ext Er7 (Exa.wr Wr6 (Exa.ext Er4 S22))).keep Kr8)))).keep Kr14))
          have f32 : Sta Z hr16 zs6 zs7 "Z" (.int ci0) := (Sta.ext Er16 (own_staK f26 Kr14 (allS (own_nsE Ar13) all0)))
          have ne3 : w9 ≠ br4 := Nat.ne_of_lt (nlt (S23.lt) (Nat.le_of_eq gr4.symm))
          have ne4 : w9 ≠ br7 := Nat.ne_of_lt (nlt (nlt (nlt (S23.lt) Er4.1) (Keep.of_wr Wr6).1) (Nat.le_of_eq gr7.symm))
          have ne5 : w9 ≠ br13 := Nat.ne_of_lt (nlt (nlt (nlt (nlt (nlt (nlt (nlt (S23.lt) Er4.1) (Keep.of_wr Wr6).1) Er7.1) Kr8.1) Er9.1) Er11.1) (Nat.le_of_eq gr13.symm))
          have f33 : Fld Z hr16 w9 zs35 "noun" zs23 (.ref w10) := (Fld.ext Er16 ((Fld.ext Er13 (Fld.ext Er11 (Fld.ext Er9 ((Fld.ext Er7 (Fld.other Wr6 (Fld.ext Er4 S23) (Or.inl ne3))).keep Kr8 (ninS ne4 nin0))))).keep Kr14 (ninS ne5 nin0)))
          have f34 : Exa Z hr16 w10 zs6 := (Exa.ext Er16 ((Exa.ext Er13 (Exa.ext Er11 (Exa.ext Er9 ((Exa.ext Er7 (Exa.wr Wr6 (Exa.ext Er4 S24))).keep Kr8)))).keep Kr14))
          have ne6 : w10 ≠ br4 := Nat.ne_of_lt (nlt (S25.lt) (Nat.le_of_eq gr4.symm))
          have ne7 : w10 ≠ br7 := Nat.ne_of_lt (nlt (nlt (nlt (S25.lt) Er4.1) (Keep.of_wr Wr6).1) (Nat.le_of_eq gr7.symm))
          have ne8 : w10 ≠ br13 := Nat.ne_of_lt (nlt (nlt (nlt (nlt (nlt (nlt (nlt (S25.lt) Er4.1) (Keep.of_wr Wr6).1) Er7.1) Kr8.1) Er9.1) Er11.1) (Nat.le_of_eq gr13.symm))
          have f35 : Fld Z hr16 w10 zs6 "value" "[B" (.ref w11) := (Fld.ext Er16 ((Fld.ext Er13 (Fld.ext Er11 (Fld.ext Er9 ((Fld.ext Er7 (Fld.other Wr6 (Fld.ext Er4 S25) (Or.inl ne6))).keep Kr8 (ninS ne7 nin0))))).keep Kr14 (ninS ne8 nin0)))
          have ne9 : w11 ≠ br4 := Nat.ne_of_lt (nlt (S35.lt) (Nat.le_of_eq gr4.symm))
          have ne10 : w11 ≠ br7 := Nat.ne_of_lt (nlt (nlt (nlt (S35.lt) Er4.1) (Keep.of_wr Wr6).1) (Nat.le_of_eq gr7.symm))
          have ne11 : w11 ≠ br13 := Nat.ne_of_lt (nlt (nlt (nlt (nlt (nlt (nlt (nlt (S35.lt) Er4.1) (Keep.of_wr Wr6).1) Er7.1) Kr8.1) Er9.1) Er11.1) (Nat.le_of_eq gr13.symm))
          have f36 : Arv Z hr16 w11 kl3 .byte (9 : Int32) [(.int 114), (.int 101), (.int 97), (.int 100), (.int 32), (.int 108), (.int 111), (.int 99), (.int 107)] (.int (0 : Int32)) := (((((((((S35.ext Er4).other Wr6 ne9).ext Er7).keep Kr8 (ninS ne10 nin0)).ext Er9).ext Er11).ext Er13).keep Kr14 (ninS ne11 nin0)).ext Er16)
          have f37 : Fld Z hr16 w10 zs6 "coder" "B" (.int 0) := (Fld.ext Er16 ((Fld.ext Er13 (Fld.ext Er11 (Fld.ext Er9 ((Fld.ext Er7 (Fld.other Wr6 (Fld.ext Er4 S27) (Or.inl ne6))).keep Kr8 (ninS ne7 nin0))))).keep Kr14 (ninS ne8 nin0)))
          have f38 : Exa Z hr16 br13 zs21 := (Exa.ext Er16 (Ar13.keep Kr14))
          have f39 : Fld Z hr16 br13 zs21 "value" zs23 (.ref br7) := (Fld.ext Er16 f29)
          have f40 : Exa Z hr16 br7 zs6 := (Exa.ext Er16 (f23.keep Kr14))
          have ne12 : br7 ≠ br13 := Nat.ne_of_lt (nlt (nlt (nlt (nlt (f4.lt) Kr8.1) Er9.1) Er11.1) (Nat.le_of_eq gr13.symm))
          have f41 : Fld Z hr16 br7 zs6 "value" "[B" (.ref b1) := (Fld.ext Er16 (f24.keep Kr14 (ninS ne12 nin0)))
          have ne13 : b1 ≠ br13 := Nat.ne_of_lt (nlt (nlt (nlt (f10.lt) Er9.1) Er11.1) (Nat.le_of_eq gr13.symm))
          have f42 : Arv Z hr16 b1 k1 .byte (1 : Int32) [(.int z2)] (.int (0 : Int32)) := ((f25.keep Kr14 (ninS ne13 nin0)).ext Er16)
          have f43 : Fld Z hr16 br7 zs6 "coder" "B" (.int 0) := (Fld.ext Er16 (f27.keep Kr14 (ninS ne12 nin0)))
          have Z_8 : n0 ≤ Tr14.heap.size := Nat.le_trans Z_7 Kr14.1
          have Z_9 : n0 ≤ hr16.size := Nat.le_trans Z_8 Er16.1
          obtain ⟨_, Tr17, Lr17, Xr17, hQr17, hSr17, hZ, hown, CRr17, str17⟩ := ocallVH (s := s) Xr16 hx hZ zm27 zm27 hown (ww hw 114 rfl) (ww hw 115 rfl) (notFace_of_selects (args := #[]) (mvT hZ (ww hw 117 rfl))) (ww hw 117 rfl) (ww hw 116 rfl) (by decide) (ww hw 118 rfl) (ww hw 111 rfl) er16 f31 (rm22_61 l hw w9 br13 ci0 w10 w11 [(.int 114), (.int 101), (.int 97), (.int 100), (.int 32), (.int 108), (.int 111), (.int 99), (.int 107)] kl3 9 9 9 (-7) 10 (-6) 9 br7 b1 [(.int z2)] k1 1 1 11 (-5) 10 11 hr16 n0 Z_9 f32 hc5 f33 f34 f35 f36 f37 (Nat.le_of_ble_eq_true rfl) (Nat.le_of_ble_eq_true rfl) (Nat.le_of_ble_eq_true rfl) (Nat.le_of_ble_eq_true rfl) (Nat.le_of_ble_eq_true rfl) (Nat.le_of_ble_eq_true rfl) f38 f39 f40 f41 f42 f43 (Nat.le_of_ble_eq_true rfl) (Nat.le_of_ble_eq_true rfl) (Nat.le_of_ble_eq_true rfl) (Nat.le_of_ble_eq_true rfl) (Nat.le_of_ble_eq_true rfl) (Nat.le_of_ble_eq_true rfl) (Nat.le_of_ble_eq_true rfl) (by decide)) (st := [(.ref br13), (.ref w9)]) rfl 0 rfl (by decide) (pc := 207) (Ls := (lc31 i0 i1 i2 i3 i4 z1 1 z2 z3 z4 br4 br7 br13 w9 br16)) hml rfl (lenOf pd_29 rfl) at_207 hby hSr16 hkr16 (own_EW hw) C9.1 all0
          obtain ⟨b2, b3, k2, rfl, Nr17q, Kr17, sz2, sz3, ne14, f44, f45, f46, f47, f48⟩ := hQr17
          have C10 := C9.trans CRr17
          have f49 : Arv Z Tr17.heap b3 k2 .byte (11 : Int32) [(.int 114), (.int 101), (.int 97), (.int 100), (.int 32), (.int 108), (.int 111), (.int 99), (.int 107), (.int 32), (.int z2)] (.int (0 : Int32)) := f48
          have N9 := Fr.app N8 Nr17q
          have f50 : Exa Z Tr17.heap br16 zs6 := (fr16a.keep Kr17)
          have f51 : Fld Z Tr17.heap br16 zs6 "value" "[B" (.ref bvr16) := (fr16c.keep Kr17 nin0)
          have f52 : Arv Z Tr17.heap bvr16 clr16 .byte (9 : Int32) [(.int 114), (.int 101), (.int 97), (.int 100), (.int 32), (.int 108), (.int 111), (.int 99), (.int 107)] (.int (0 : Int32)) := (fr16d.keep Kr17 nin0)
          have f53 : Sta Z Tr17.heap zs6 zs7 "Z" (.int ci0) := (own_staK f32 Kr17 all0)
          have f54 : Fld Z Tr17.heap br16 zs6 "coder" "B" (.int 0) := (fr16b.keep Kr17 nin0)
          have Z_10 : n0 ≤ Tr17.heap.size := Nat.le_trans Z_9 Kr17.1
          obtain ⟨_, Tr18, Lr18, Xr18, hQr18, str18⟩ := ocallV Xr17 hx hZ zm12 zm12 hown (ww hw 228 rfl) (ww hw 72 rfl) (notFace_of_selects (args := #[]) (mvT hZ (ww hw 74 rfl))) (ww hw 74 rfl) (ww hw 73 rfl) (by decide) (ww hw 75 rfl) (ww hw 8 rfl) rfl f50 (rm14_24 l hw br16 bvr16 9 ci0 9 Tr17.heap n0 Z_10 f51 (own_lnV f52) f50 f53 hc5 f54 (by decide)) (st := [(.ref br16)]) rfl 0 rfl (by decide) (pc := 221) (Ls := (lc41 i0 i1 i2 i3 i4 z1 1 z2 z3 z4 br4 br7 br13 w9 br16 b2)) hml rfl (lenOf pd_12 rfl) at_221 hby
          obtain ⟨rfl, Nr18q, er18⟩ := hQr18
          have N10 := Fr.app N9 Nr18q
          obtain ⟨_, Tr19, Lr19, Xr19, hQr19, str19⟩ := ocallV Xr18 hx hZ zm12 zm12 hown (ww hw 228 rfl) (ww hw 72 rfl) (notFace_of_selects (args := #[]) (mvT hZ (ww hw 74 rfl))) (ww hw 74 rfl) (ww hw 73 rfl) (by decide) (ww hw 75 rfl) (ww hw 8 rfl) er18 f44 (rm14_24 l hw b2 b3 11 ci0 11 Tr17.heap n0 Z_10 f46 (own_lnV f49) f44 f53 hc5 f45 (by decide)) (st := [(.ref b2)]) rfl 0 rfl (by decide) (pc := 228) (Ls := (lc42 i0 i1 i2 i3 i4 z1 1 z2 z3 z4 br4 br7 br13 w9 br16 b2 9)) hml rfl (lenOf pd_12 rfl) at_228 hby
          obtain ⟨rfl, Nr19q, er19⟩ := hQr19
          have N11 := Fr.app N10 Nr19q
          have hc21 : (i0 &&& (3 : Int32)) = (1 : Int32) := hk4
          have hs22 : z1 = (1 : Int32) := by rw [hz1]; exact hc21
          refine own_go (U' := Tr19.setTop (mkF m 238 (lc42 i0 i1 i2 i3 i4 z1 1 z2 z3 z4 br4 br7 br13 w9 br16 b2 9) [(.int 11), (.int 11)])) (fun t k => oicN Xr14 hx hby at_161 (teq hs22).2 (str15 _ (oastore Xr15 hx hby at_167 (lc30 i0 i1 i2 i3 i4 z1 1 z2 z3 z4 br4 br7 br13 w9) rfl rfl (str16 _ (oastore Xr16 hx hby at_171 (lc31 i0 i1 i2 i3 i4 z1 1 z2 z3 z4 br4 br7 br13 w9 br16) rfl rfl (ogoto (pc := 173) Xr16 hx hby at_173 203 (by decide) (oaload Xr16 hx hby at_203 rfl rfl (oaload Xr16 hx hby at_205 rfl rfl (str17 _ (oastore Xr17 hx hby at_210 (lc41 i0 i1 i2 i3 i4 z1 1 z2 z3 z4 br4 br7 br13 w9 br16 b2) rfl rfl (oaload Xr17 hx hby at_212 rfl rfl (onnY (pc := 214) Xr17 hx hby at_214 219 (by decide) (oaload Xr17 hx hby at_219 rfl rfl (str18 _ (oistore Xr18 hx hby at_224 (lc42 i0 i1 i2 i3 i4 z1 1 z2 z3 z4 br4 br7 br13 w9 br16 b2 9) rfl (oaload Xr18 hx hby at_226 rfl rfl (str19 _ (oiload Xr19 hx hby at_231 rfl (oiconst Xr19 hx hby at_233 (oiadd Xr19 hx hby at_234 (oiload Xr19 hx hby at_235 rfl (oiadd Xr19 hx hby at_237 k)))))))))))))))))))))) ?_
          have f55 : Sta Z Tr17.heap zs16 zs19 zs20 vy0 := (own_staK (Sta.ext Er16 (own_staK f28 Kr14 (allS (own_nsF f22) all0))) Kr17 all0)
          obtain ⟨_, Tr20, Lr20, Xr20, hQr20, str20⟩ := ocallS Xr19 hx hZ zm28 hown (ww hw 229 rfl) (ww hw 230 rfl) (by decide) (ww hw 231 rfl) (ww hw 3 rfl) er19 (rm43_63 l hw b2 0 br16 0 bvr16 9 ci0 9 0 b3 11 vy0 114 114 Tr17.heap n0 Z_10 f50 f51 (own_lnV f52) f53 hc5 f54 f44 f45 f46 (own_lnV f49) f55 hc12 (own_elV (j := (0 : Int32)) f49 (by decide) (by decide) rfl) (own_elV (j := (0 : Int32)) f52 (by decide) (by decide) rfl) (by decide)) (st := [(.int 0), (.ref br16), (.int 0), (.ref b2)]) rfl 0 rfl (by decide) (pc := 249) (Ls := (lc42 i0 i1 i2 i3 i4 z1 1 z2 z3 z4 br4 br7 br13 w9 br16 b2 9)) hml rfl (lenOf pd_30 rfl) at_249 hby
          obtain ⟨rfl, Nr20q, er20⟩ := hQr20
          have N12 := Fr.app N11 Nr20q
          refine own_go (U' := Tr20.setTop (mkF m 252 (lc42 i0 i1 i2 i3 i4 z1 1 z2 z3 z4 br4 br7 br13 w9 br16 b2 9) [(.int 1)])) (fun t k => oicY (pc := 238) Xr19 hx hby at_238 243 (by decide) (by decide) (oaload Xr19 hx hby at_243 rfl rfl (oiconst Xr19 hx hby at_245 (oaload Xr19 hx hby at_246 rfl rfl (oiconst Xr19 hx hby at_248 (str20 _ k)))))) ?_
          obtain ⟨_, Tr21, Lr21, Xr21, hQr21, str21⟩ := ocallS Xr20 hx hZ zm28 hown (ww hw 229 rfl) (ww hw 230 rfl) (by decide) (ww hw 231 rfl) (ww hw 3 rfl) er20 (rm43_63 l hw b2 0 br16 1 bvr16 9 ci0 9 1 b3 11 vy0 101 101 Tr17.heap n0 Z_10 f50 f51 (own_lnV f52) f53 hc5 f54 f44 f45 f46 (own_lnV f49) f55 hc12 (own_elV (j := (1 : Int32)) f49 (by decide) (by decide) rfl) (own_elV (j := (1 : Int32)) f52 (by decide) (by decide) rfl) (by decide)) (st := [(.int 1), (.ref br16), (.int 0), (.ref b2)]) rfl 0 rfl (by decide) (pc := 261) (Ls := (lc42 i0 i1 i2 i3 i4 z1 1 z2 z3 z4 br4 br7 br13 w9 br16 b2 9)) hml rfl (lenOf pd_30 rfl) at_261 hby
          obtain ⟨rfl, Nr21q, er21⟩ := hQr21
          have N13 := Fr.app N12 Nr21q
          refine own_go (U' := Tr21.setTop (mkF m 264 (lc42 i0 i1 i2 i3 i4 z1 1 z2 z3 z4 br4 br7 br13 w9 br16 b2 9) [(.int 1)])) (fun t k => oifN Xr20 hx hby at_252 (by decide) (oaload Xr20 hx hby at_255 rfl rfl (oiconst Xr20 hx hby at_257 (oaload Xr20 hx hby at_258 rfl rfl (oiconst Xr20 hx hby at_260 (str21 _ k)))))) ?_
          obtain ⟨_, Tr22, Lr22, Xr22, hQr22, str22⟩ := ocallS Xr21 hx hZ zm28 hown (ww hw 229 rfl) (ww hw 230 rfl) (by decide) (ww hw 231 rfl) (ww hw 3 rfl) er21 (rm43_63 l hw b2 0 br16 2 bvr16 9 ci0 9 2 b3 11 vy0 97 97 Tr17.heap n0 Z_10 f50 f51 (own_lnV f52) f53 hc5 f54 f44 f45 f46 (own_lnV f49) f55 hc12 (own_elV (j := (2 : Int32)) f49 (by decide) (by decide) rfl) (own_elV (j := (2 : Int32)) f52 (by decide) (by decide) rfl) (by decide)) (st := [(.int 2), (.ref br16), (.int 0), (.ref b2)]) rfl 0 rfl (by decide) (pc := 273) (Ls := (lc42 i0 i1 i2 i3 i4 z1 1 z2 z3 z4 br4 br7 br13 w9 br16 b2 9)) hml rfl (lenOf pd_30 rfl) at_273 hby
          obtain ⟨rfl, Nr22q, er22⟩ := hQr22
          have N14 := Fr.app N13 Nr22q
          refine own_go (U' := Tr22.setTop (mkF m 276 (lc42 i0 i1 i2 i3 i4 z1 1 z2 z3 z4 br4 br7 br13 w9 br16 b2 9) [(.int 1)])) (fun t k => oifN Xr21 hx hby at_264 (by decide) (oaload Xr21 hx hby at_267 rfl rfl (oiconst Xr21 hx hby at_269 (oaload Xr21 hx hby at_270 rfl rfl (oiconst Xr21 hx hby at_272 (str22 _ k)))))) ?_
          obtain ⟨_, Tr23, Lr23, Xr23, hQr23, str23⟩ := ocallS Xr22 hx hZ zm28 hown (ww hw 229 rfl) (ww hw 230 rfl) (by decide) (ww hw 231 rfl) (ww hw 3 rfl) er22 (rm43_63 l hw b2 0 br16 3 bvr16 9 ci0 9 3 b3 11 vy0 100 100 Tr17.heap n0 Z_10 f50 f51 (own_lnV f52) f53 hc5 f54 f44 f45 f46 (own_lnV f49) f55 hc12 (own_elV (j := (3 : Int32)) f49 (by decide) (by decide) rfl) (own_elV (j := (3 : Int32)) f52 (by decide) (by decide) rfl) (by decide)) (st := [(.int 3), (.ref br16), (.int 0), (.ref b2)]) rfl 0 rfl (by decide) (pc := 285) (Ls := (lc42 i0 i1 i2 i3 i4 z1 1 z2 z3 z4 br4 br7 br13 w9 br16 b2 9)) hml rfl (lenOf pd_30 rfl) at_285 hby
          obtain ⟨rfl, Nr23q, er23⟩ := hQr23
          have N15 := Fr.app N14 Nr23q
          refine own_go (U' := Tr23.setTop (mkF m 288 (lc42 i0 i1 i2 i3 i4 z1 1 z2 z3 z4 br4 br7 br13 w9 br16 b2 9) [(.int 1)])) (fun t k => oifN Xr22 hx hby at_276 (by decide) (oaload Xr22 hx hby at_279 rfl rfl (oiconst Xr22 hx hby at_281 (oaload Xr22 hx hby at_282 rfl rfl (oiconst Xr22 hx hby at_284 (str23 _ k)))))) ?_
          obtain ⟨_, Tr24, Lr24, Xr24, hQr24, str24⟩ := ocallS Xr23 hx hZ zm28 hown (ww hw 229 rfl) (ww hw 230 rfl) (by decide) (ww hw 231 rfl) (ww hw 3 rfl) er23 (rm43_63 l hw b2 0 br16 4 bvr16 9 ci0 9 4 b3 11 vy0 32 32 Tr17.heap n0 Z_10 f50 f51 (own_lnV f52) f53 hc5 f54 f44 f45 f46 (own_lnV f49) f55 hc12 (own_elV (j := (4 : Int32)) f49 (by decide) (by decide) rfl) (own_elV (j := (4 : Int32)) f52 (by decide) (by decide) rfl) (by decide)) (st := [(.int 4), (.ref br16), (.int 0), (.ref b2)]) rfl 0 rfl (by decide) (pc := 297) (Ls := (lc42 i0 i1 i2 i3 i4 z1 1 z2 z3 z4 br4 br7 br13 w9 br16 b2 9)) hml rfl (lenOf pd_30 rfl) at_297 hby
          obtain ⟨rfl, Nr24q, er24⟩ := hQr24
          have N16 := Fr.app N15 Nr24q
          refine own_go (U' := Tr24.setTop (mkF m 300 (lc42 i0 i1 i2 i3 i4 z1 1 z2 z3 z4 br4 br7 br13 w9 br16 b2 9) [(.int 1)])) (fun t k => oifN Xr23 hx hby at_288 (by decide) (oaload Xr23 hx hby at_291 rfl rfl (oiconst Xr23 hx hby at_293 (oaload Xr23 hx hby at_294 rfl rfl (oiconst Xr23 hx hby at_296 (str24 _ k)))))) ?_
          obtain ⟨_, Tr25, Lr25, Xr25, hQr25, str25⟩ := ocallS Xr24 hx hZ zm28 hown (ww hw 229 rfl) (ww hw 230 rfl) (by decide) (ww hw 231 rfl) (ww hw 3 rfl) er24 (rm43_63 l hw b2 0 br16 5 bvr16 9 ci0 9 5 b3 11 vy0 108 108 Tr17.heap n0 Z_10 f50 f51 (own_lnV f52) f53 hc5 f54 f44 f45 f46 (own_lnV f49) f55 hc12 (own_elV (j := (5 : Int32)) f49 (by decide) (by decide) rfl) (own_elV (j := (5 : Int32)) f52 (by decide) (by decide) rfl) (by decide)) (st := [(.int 5), (.ref br16), (.int 0), (.ref b2)]) rfl 0 rfl (by decide) (pc := 309) (Ls := (lc42 i0 i1 i2 i3 i4 z1 1 z2 z3 z4 br4 br7 br13 w9 br16 b2 9)) hml rfl (lenOf pd_30 rfl) at_309 hby
          obtain ⟨rfl, Nr25q, er25⟩ := hQr25
          have N17 := Fr.app N16 Nr25q
          refine own_go (U' := Tr25.setTop (mkF m 312 (lc42 i0 i1 i2 i3 i4 z1 1 z2 z3 z4 br4 br7 br13 w9 br16 b2 9) [(.int 1)])) (fun t k => oifN Xr24 hx hby at_300 (by decide) (oaload Xr24 hx hby at_303 rfl rfl (oiconst Xr24 hx hby at_305 (oaload Xr24 hx hby at_306 rfl rfl (oiconst Xr24 hx hby at_308 (str25 _ k)))))) ?_
          obtain ⟨_, Tr26, Lr26, Xr26, hQr26, str26⟩ := ocallS Xr25 hx hZ zm28 hown (ww hw 229 rfl) (ww hw 230 rfl) (by decide) (ww hw 231 rfl) (ww hw 3 rfl) er25 (rm43_63 l hw b2 0 br16 6 bvr16 9 ci0 9 6 b3 11 vy0 111 111 Tr17.heap n0 Z_10 f50 f51 (own_lnV f52) f53 hc5 f54 f44 f45 f46 (own_lnV f49) f55 hc12 (own_elV (j := (6 : Int32)) f49 (by decide) (by decide) rfl) (own_elV (j := (6 : Int32)) f52 (by decide) (by decide) rfl) (by decide)) (st := [(.int 6), (.ref br16), (.int 0), (.ref b2)]) rfl 0 rfl (by decide) (pc := 322) (Ls := (lc42 i0 i1 i2 i3 i4 z1 1 z2 z3 z4 br4 br7 br13 w9 br16 b2 9)) hml rfl (lenOf pd_30 rfl) at_322 hby
          obtain ⟨rfl, Nr26q, er26⟩ := hQr26
          have N18 := Fr.app N17 Nr26q
          refine own_go (U' := Tr26.setTop (mkF m 325 (lc42 i0 i1 i2 i3 i4 z1 1 z2 z3 z4 br4 br7 br13 w9 br16 b2 9) [(.int 1)])) (fun t k => oifN Xr25 hx hby at_312 (by decide) (oaload Xr25 hx hby at_315 rfl rfl (oiconst Xr25 hx hby at_317 (oaload Xr25 hx hby at_318 rfl rfl (obipush Xr25 hx hby at_320 (str26 _ k)))))) ?_
          obtain ⟨_, Tr27, Lr27, Xr27, hQr27, str27⟩ := ocallS Xr26 hx hZ zm28 hown (ww hw 229 rfl) (ww hw 230 rfl) (by decide) (ww hw 231 rfl) (ww hw 3 rfl) er26 (rm43_63 l hw b2 0 br16 7 bvr16 9 ci0 9 7 b3 11 vy0 99 99 Tr17.heap n0 Z_10 f50 f51 (own_lnV f52) f53 hc5 f54 f44 f45 f46 (own_lnV f49) f55 hc12 (own_elV (j := (7 : Int32)) f49 (by decide) (by decide) rfl) (own_elV (j := (7 : Int32)) f52 (by decide) (by decide) rfl) (by decide)) (st := [(.int 7), (.ref br16), (.int 0), (.ref b2)]) rfl 0 rfl (by decide) (pc := 335) (Ls := (lc42 i0 i1 i2 i3 i4 z1 1 z2 z3 z4 br4 br7 br13 w9 br16 b2 9)) hml rfl (lenOf pd_30 rfl) at_335 hby
          obtain ⟨rfl, Nr27q, er27⟩ := hQr27
          have N19 := Fr.app N18 Nr27q
          refine own_go (U' := Tr27.setTop (mkF m 338 (lc42 i0 i1 i2 i3 i4 z1 1 z2 z3 z4 br4 br7 br13 w9 br16 b2 9) [(.int 1)])) (fun t k => oifN Xr26 hx hby at_325 (by decide) (oaload Xr26 hx hby at_328 rfl rfl (oiconst Xr26 hx hby at_330 (oaload Xr26 hx hby at_331 rfl rfl (obipush Xr26 hx hby at_333 (str27 _ k)))))) ?_
          obtain ⟨_, Tr28, Lr28, Xr28, hQr28, str28⟩ := ocallS Xr27 hx hZ zm28 hown (ww hw 229 rfl) (ww hw 230 rfl) (by decide) (ww hw 231 rfl) (ww hw 3 rfl) er27 (rm43_63 l hw b2 0 br16 8 bvr16 9 ci0 9 8 b3 11 vy0 107 107 Tr17.heap n0 Z_10 f50 f51 (own_lnV f52) f53 hc5 f54 f44 f45 f46 (own_lnV f49) f55 hc12 (own_elV (j := (8 : Int32)) f49 (by decide) (by decide) rfl) (own_elV (j := (8 : Int32)) f52 (by decide) (by decide) rfl) (by decide)) (st := [(.int 8), (.ref br16), (.int 0), (.ref b2)]) rfl 0 rfl (by decide) (pc := 348) (Ls := (lc42 i0 i1 i2 i3 i4 z1 1 z2 z3 z4 br4 br7 br13 w9 br16 b2 9)) hml rfl (lenOf pd_30 rfl) at_348 hby
          obtain ⟨rfl, Nr28q, er28⟩ := hQr28
          have N20 := Fr.app N19 Nr28q
          refine own_go (U' := Tr28.setTop (mkF m 351 (lc42 i0 i1 i2 i3 i4 z1 1 z2 z3 z4 br4 br7 br13 w9 br16 b2 9) [(.int 1)])) (fun t k => oifN Xr27 hx hby at_338 (by decide) (oaload Xr27 hx hby at_341 rfl rfl (oiconst Xr27 hx hby at_343 (oaload Xr27 hx hby at_344 rfl rfl (obipush Xr27 hx hby at_346 (str28 _ k)))))) ?_
          obtain ⟨_, Tr29, Lr29, Xr29, hQr29, str29⟩ := ocallS Xr28 hx hZ zm28 hown (ww hw 229 rfl) (ww hw 230 rfl) (by decide) (ww hw 231 rfl) (ww hw 3 rfl) er28 (rm43_64 l hw b2 0 br16 9 bvr16 9 ci0 9 Tr17.heap n0 Z_10 f50 f51 (own_lnV f52) f53 hc5 f54 (by decide)) (st := [(.int 9), (.ref br16), (.int 0), (.ref b2)]) rfl 0 rfl (by decide) (pc := 361) (Ls := (lc42 i0 i1 i2 i3 i4 z1 1 z2 z3 z4 br4 br7 br13 w9 br16 b2 9)) hml rfl (lenOf pd_30 rfl) at_361 hby
          obtain ⟨rfl, Nr29q, er29⟩ := hQr29
          have N21 := Fr.app N20 Nr29q
          refine own_go (U' := Tr29.setTop (mkF m 364 (lc42 i0 i1 i2 i3 i4 z1 1 z2 z3 z4 br4 br7 br13 w9 br16 b2 9) [(.int 1)])) (fun t k => oifN Xr28 hx hby at_351 (by decide) (oaload Xr28 hx hby at_354 rfl rfl (oiconst Xr28 hx hby at_356 (oaload Xr28 hx hby at_357 rfl rfl (obipush Xr28 hx hby at_359 (str29 _ k)))))) ?_
          obtain ⟨_, Tr30, Lr30, Xr30, hQr30, str30⟩ := ocallV Xr29 hx hZ zm17 zm17 hown (ww hw 232 rfl) (ww hw 82 rfl) (notFace_of_selects (args := #[]) (mvT hZ (ww hw 84 rfl))) (ww hw 84 rfl) (ww hw 83 rfl) (by decide) (ww hw 85 rfl) (ww hw 8 rfl) er29 f44 (rm16_65 l hw b2 9 ci0 b3 11 vy0 32 Tr17.heap n0 Z_10 f44 f53 hc5 f45 f46 (own_lnV f49) f55 hc12 (own_elV (j := (9 : Int32)) f49 (by decide) (by decide) rfl) (by decide)) (st := [(.int 9), (.ref b2)]) rfl 0 rfl (by decide) (pc := 378) (Ls := (lc44 i0 i1 i2 i3 i4 z1 1 z2 z3 z4 br4 br7 br13 w9 br16 b2 9 1)) hml rfl (lenOf pd_0 rfl) at_378 hby
          obtain ⟨rfl, Nr30q, er30⟩ := hQr30
          have N22 := Fr.app N21 Nr30q
          refine own_go (U' := Tr30.setTop (mkF m 383 (lc44 i0 i1 i2 i3 i4 z1 1 z2 z3 z4 br4 br7 br13 w9 br16 b2 9 1) [(.int 32), (.int 32)])) (fun t k => oifN Xr29 hx hby at_364 (by decide) (oiconst Xr29 hx hby at_367 (ogoto (pc := 368) Xr29 hx hby at_368 372 (by decide) (oistore Xr29 hx hby at_372 (lc44 i0 i1 i2 i3 i4 z1 1 z2 z3 z4 br4 br7 br13 w9 br16 b2 9 1) rfl (oaload Xr29 hx hby at_374 rfl rfl (oiload Xr29 hx hby at_376 rfl (str30 _ (obipush Xr30 hx hby at_381 k)))))))) ?_
          refine own_go (U' := Tr30.setTop (mkF m 402 (lc45 i0 i1 i2 i3 i4 z1 1 z2 z3 z4 br4 br7 br13 w9 br16 b2 9 1 1) [(.int 0), (.ref br7), (.int 10), (.ref b2)])) (fun t k => oicN Xr30 hx hby at_383 (by decide) (oiconst Xr30 hx hby at_386 (ogoto (pc := 387) Xr30 hx hby at_387 391 (by decide) (oistore Xr30 hx hby at_391 (lc45 i0 i1 i2 i3 i4 z1 1 z2 z3 z4 br4 br7 br13 w9 br16 b2 9 1 1) rfl (oaload Xr30 hx hby at_393 rfl rfl (oiload Xr30 hx hby at_395 rfl (oiconst Xr30 hx hby at_397 (oiadd Xr30 hx hby at_398 (oaload Xr30 hx hby at_399 rfl rfl (oiconst Xr30 hx hby at_401 k)))))))))) ?_
          have f56 : Exa Z Tr17.heap br7 zs6 := (f40.keep Kr17)
          have f57 : Fld Z Tr17.heap br7 zs6 "value" "[B" (.ref b1) := (f41.keep Kr17 nin0)
          have f58 : Arv Z Tr17.heap b1 k1 .byte (1 : Int32) [(.int z2)] (.int (0 : Int32)) := (f42.keep Kr17 nin0)
          have f59 : Fld Z Tr17.heap br7 zs6 "coder" "B" (.int 0) := (f43.keep Kr17 nin0)
          obtain ⟨_, Tr31, Lr31, Xr31, hQr31, str31⟩ := ocallS Xr30 hx hZ zm28 hown (ww hw 229 rfl) (ww hw 230 rfl) (by decide) (ww hw 231 rfl) (ww hw 3 rfl) er30 (rm43_66 l hw b2 10 br7 0 b1 1 ci0 1 10 b3 11 vy0 z2 z2 Tr17.heap n0 Z_10 f56 f57 (own_lnV f58) f53 hc5 f59 f44 f45 f46 (own_lnV f49) f55 hc12 (own_elV (j := (10 : Int32)) f49 (by decide) (by decide) rfl) hs2 hs9 hs4 (own_elV (j := (0 : Int32)) f58 (by decide) (by decide) rfl) hs2 hs9 hs4 rfl (by decide)) (st := [(.int 0), (.ref br7), (.int 10), (.ref b2)]) rfl 0 rfl (by decide) (pc := 402) (Ls := (lc45 i0 i1 i2 i3 i4 z1 1 z2 z3 z4 br4 br7 br13 w9 br16 b2 9 1 1)) hml rfl (lenOf pd_30 rfl) at_402 hby
          obtain ⟨rfl, Nr31q, er31⟩ := hQr31
          have N23 := Fr.app N22 Nr31q
          refine own_go (U' := Tr31.setTop (mkF m 405 (lc45 i0 i1 i2 i3 i4 z1 1 z2 z3 z4 br4 br7 br13 w9 br16 b2 9 1 1) [(.int 1)])) (fun t k => str31 _ k) ?_
          obtain ⟨_, Tr32, Lr32, Xr32, hQr32, str32⟩ := ocallS Xr31 hx hZ zm28 hown (ww hw 229 rfl) (ww hw 230 rfl) (by decide) (ww hw 231 rfl) (ww hw 3 rfl) er31 (rm43_64 l hw b2 10 br7 1 b1 1 ci0 1 Tr17.heap n0 Z_10 f56 f57 (own_lnV f58) f53 hc5 f59 (by decide)) (st := [(.int 1), (.ref br7), (.int 10), (.ref b2)]) rfl 0 rfl (by decide) (pc := 417) (Ls := (lc45 i0 i1 i2 i3 i4 z1 1 z2 z3 z4 br4 br7 br13 w9 br16 b2 9 1 1)) hml rfl (lenOf pd_30 rfl) at_417 hby
          obtain ⟨rfl, Nr32q, er32⟩ := hQr32
          have N24 := Fr.app N23 Nr32q
          refine own_go (U' := Tr32.setTop (mkF m 420 (lc45 i0 i1 i2 i3 i4 z1 1 z2 z3 z4 br4 br7 br13 w9 br16 b2 9 1 1) [(.int 1)])) (fun t k => oifN Xr31 hx hby at_405 (by decide) (oaload Xr31 hx hby at_408 rfl rfl (oiload Xr31 hx hby at_410 rfl (oiconst Xr31 hx hby at_412 (oiadd Xr31 hx hby at_413 (oaload Xr31 hx hby at_414 rfl rfl (oiconst Xr31 hx hby at_416 (str32 _ k)))))))) ?_
          obtain ⟨_, Tr33, Lr33, Xr33, hQr33, str33⟩ := ocallS Xr32 hx hZ zm28 hown (ww hw 229 rfl) (ww hw 230 rfl) (by decide) (ww hw 231 rfl) (ww hw 3 rfl) er32 (rm43_64 l hw b2 10 br7 2 b1 1 ci0 1 Tr17.heap n0 Z_10 f56 f57 (own_lnV f58) f53 hc5 f59 (by decide)) (st := [(.int 2), (.ref br7), (.int 10), (.ref b2)]) rfl 0 rfl (by decide) (pc := 432) (Ls := (lc45 i0 i1 i2 i3 i4 z1 1 z2 z3 z4 br4 br7 br13 w9 br16 b2 9 1 1)) hml rfl (lenOf pd_30 rfl) at_432 hby
          obtain ⟨rfl, Nr33q, er33⟩ := hQr33
          have N25 := Fr.app N24 Nr33q
          refine own_go (U' := Tr33.setTop (mkF m 435 (lc45 i0 i1 i2 i3 i4 z1 1 z2 z3 z4 br4 br7 br13 w9 br16 b2 9 1 1) [(.int 1)])) (fun t k => oifN Xr32 hx hby at_420 (by decide) (oaload Xr32 hx hby at_423 rfl rfl (oiload Xr32 hx hby at_425 rfl (oiconst Xr32 hx hby at_427 (oiadd Xr32 hx hby at_428 (oaload Xr32 hx hby at_429 rfl rfl (oiconst Xr32 hx hby at_431 (str33 _ k)))))))) ?_
          refine own_go (U' := Tr33.setTop (mkF m 447 (lc46 i0 i1 i2 i3 i4 z1 1 z2 z3 z4 br4 br7 br13 w9 br16 b2 9 1 1 1) [(.int 1)])) (fun t k => oifN Xr33 hx hby at_435 (by decide) (oiconst Xr33 hx hby at_438 (ogoto (pc := 439) Xr33 hx hby at_439 443 (by decide) (oistore Xr33 hx hby at_443 (lc46 i0 i1 i2 i3 i4 z1 1 z2 z3 z4 br4 br7 br13 w9 br16 b2 9 1 1 1) rfl (oiload Xr33 hx hby at_445 rfl k))))) ?_
          refine own_go (U' := Tr33.setTop (mkF m 452 (lc46 i0 i1 i2 i3 i4 z1 1 z2 z3 z4 br4 br7 br13 w9 br16 b2 9 1 1 1) [(.int 1)])) (fun t k => oifN Xr33 hx hby at_447 (by decide) (oiload Xr33 hx hby at_450 rfl k)) ?_
          refine own_go (U' := Tr33.setTop (mkF m 457 (lc46 i0 i1 i2 i3 i4 z1 1 z2 z3 z4 br4 br7 br13 w9 br16 b2 9 1 1 1) [(.int 1)])) (fun t k => oifN Xr33 hx hby at_452 (by decide) (oiload Xr33 hx hby at_455 rfl k)) ?_
          refine own_go (U' := Tr33.setTop (mkF m 465 (lc46 i0 i1 i2 i3 i4 z1 1 z2 z3 z4 br4 br7 br13 w9 br16 b2 9 1 1 1) [(.int 1)])) (fun t k => oifN Xr33 hx hby at_457 (by decide) (oiconst Xr33 hx hby at_460 (ogoto (pc := 461) Xr33 hx hby at_461 465 (by decide) k))) ?_
          obtain ⟨fs, hr, hrun, hended, hW, hsame⟩ := Xr33.leave (v := some (.int 1)) (fun h => by rw [Bd.returns] at h; cases h)
          have hE := hSr17.ended hW (by show _ ≤ Tr33.heap.size; rw [er33]; exact (Nat.le_refl _)) hsame
          refine own_out ⟨_, _, ?_, hrun, hended, _, _, rfl, ?_, ?_, ⟨_, rfl⟩, hE.1, hE.2.1, hE.2.2.mono (by decide) (by decide)⟩
          · exact retN Xr33 hx (t := .boolean) Bd.returns (by simp) (hb hby at_465) hr
          · exact ⟨rfl, N25⟩
          · show CHr Z consts_1 s.vm s.heap Tr33.vm Tr33.heap; rw [hh, er33]; exact C10.trans (CHv.at (s := s) Xr33 hZ (own_EW hw) C10.1)
        · have hc23 : ¬ ((i0 &&& (3 : Int32)) = (1 : Int32)) := hk4
          have hs24 : ¬ (z1 = (1 : Int32)) := by rw [hz1]; exact hc23
          refine own_go (U' := Tr14.setTop (mkF m 179 (lc29 i0 i1 i2 i3 i4 z1 1 z2 z3 z4 br4 br7 br13) [(.int 2), (.int z1)])) (fun t k => oicY (pc := 161) Xr14 hx hby at_161 176 (feq hs24).2 (by decide) (oiload Xr14 hx hby at_176 rfl (oiconst Xr14 hx hby at_178 k))) ?_
          by_cases hk5 : (i0 &&& (3 : Int32)) = (2 : Int32)
          · have f30 : Sta Z Tr14.heap zs35 "WRITE" zs39 (.ref w6) := (own_staK (Sta.ext Er13 (Sta.ext Er11 (Sta.ext Er9 (own_staK (Sta.ext Er7 (Sta.wr Wr6 (Sta.ext Er4 S14))) Kr8 (allS (own_nsF f4) all0))))) Kr14 (allS (own_nsE Ar13) all0))
            obtain ⟨Tr15, Xr15, er15, str15⟩ := getS2 Xr14 hx hZ hown (host := "") (Or.inl (ww hw 236 rfl)) Via.refl rfl f30 (g := (mkF m 182 (lc29 i0 i1 i2 i3 i4 z1 1 z2 z3 z4 br4 br7 br13) [])) rfl (hb hby at_182)
            obtain ⟨br16, Tr16, hr16, kr16, bvr16, clr16, Xr16, er16, Er16, hSr16, hkr16, hZ, hown, fr16a, fr16b, fr16c, fr16d, ltr16, lvr16, CRr16, -, nsr16, str16⟩ := ldcCH (s := s) Xr15 hx hZ hown (ww hw 238 rfl) (own_wS hw) er15 hSr14 (Nat.le_refl _) (own_EW hw) (List.mem_of_getElem? (i := 8) rfl) C8.1 (vs := [(.int 119), (.int 114), (.int 105), (.int 116), (.int 101), (.int 32), (.int 108), (.int 111), (.int 99), (.int 107)]) (z := 10) ⟨by decide, by decide⟩ (by decide) (by decide) (g := (mkF m 187 (lc30 i0 i1 i2 i3 i4 z1 1 z2 z3 z4 br4 br7 br13 w6) [])) rfl (hb hby at_187) (n := 40) (by decide) (by decide) (by decide) (by decide)
            have C9 := C8.trans CRr16
            have f31 : Exa Z hr16 w6 zs35 := (Exa.ext Er16 ((Exa.ext Er13 (Exa.ext Er11 (Exa.ext Er9 ((Exa.ext Er7 (Exa.wr Wr6 (Exa.ext Er4 S15))).keep Kr8)))).keep Kr14))
            have f32 : Sta Z hr16 zs6 zs7 "Z" (.int ci0) := (Sta.ext Er16 (own_staK f26 Kr14 (allS (own_nsE Ar13) all0)))
            have ne3 : w6 ≠ br4 := Nat.ne_of_lt (nlt (S16.lt) (Nat.le_of_eq gr4.symm))
            have ne4 : w6 ≠ br7 := Nat.ne_of_lt (nlt (nlt (nlt (S16.lt) Er4.1) (Keep.of_wr Wr6).1) (Nat.le_of_eq gr7.symm))
            have ne5 : w6 ≠ br13 := Nat.ne_of_lt (nlt (nlt (nlt (nlt (nlt (nlt (nlt (S16.lt) Er4.1) (Keep.of_wr Wr6).1) Er7.1) Kr8.1) Er9.1) Er11.1) (Nat.le_of_eq gr13.symm))
            have f33 : Fld Z hr16 w6 zs35 "noun" zs23 (.ref w7) := (Fld.ext Er16 ((Fld.ext Er13 (Fld.ext Er11 (Fld.ext Er9 ((Fld.ext Er7 (Fld.other Wr6 (Fld.ext Er4 S16) (Or.inl ne3))).keep Kr8 (ninS ne4 nin0))))).keep Kr14 (ninS ne5 nin0)))
            have f34 : Exa Z hr16 w7 zs6 := (Exa.ext Er16 ((Exa.ext Er13 (Exa.ext Er11 (Exa.ext Er9 ((Exa.ext Er7 (Exa.wr Wr6 (Exa.ext Er4 S17))).keep Kr8)))).keep Kr14))
            have ne6 : w7 ≠ br4 := Nat.ne_of_lt (nlt (S18.lt) (Nat.le_of_eq gr4.symm))
            have ne7 : w7 ≠ br7 := Nat.ne_of_lt (nlt (nlt (nlt (S18.lt) Er4.1) (Keep.of_wr Wr6).1) (Nat.le_of_eq gr7.symm))
            have ne8 : w7 ≠ br13 := Nat.ne_of_lt (nlt (nlt (nlt (nlt (nlt (nlt (nlt (S18.lt) Er4.1) (Keep.of_wr Wr6).1) Er7.1) Kr8.1) Er9.1) Er11.1) (Nat.le_of_eq gr13.symm))
            have f35 : Fld Z hr16 w7 zs6 "value" "[B" (.ref w8) := (Fld.ext Er16 ((Fld.ext Er13 (Fld.ext Er11 (Fld.ext Er9 ((Fld.ext Er7 (Fld.other Wr6 (Fld.ext Er4 S18) (Or.inl ne6))).keep Kr8 (ninS ne7 nin0))))).keep Kr14 (ninS ne8 nin0)))
            have ne9 : w8 ≠ br4 := Nat.ne_of_lt (nlt (S34.lt) (Nat.le_of_eq gr4.symm))
            have ne10 : w8 ≠ br7 := Nat.ne_of_lt (nlt (nlt (nlt (S34.lt) Er4.1) (Keep.of_wr Wr6).1) (Nat.le_of_eq gr7.symm))
            have ne11 : w8 ≠ br13 := Nat.ne_of_lt (nlt (nlt (nlt (nlt (nlt (nlt (nlt (S34.lt) Er4.1) (Keep.of_wr Wr6).1) Er7.1) Kr8.1) Er9.1) Er11.1) (Nat.le_of_eq gr13.symm))
            have f36 : Arv Z hr16 w8 kl2 .byte (10 : Int32) [(.int 119), (.int 114), (.int 105), (.int 116), (.int 101), (.int 32), (.int 108), (.int 111), (.int 99), (.int 107)] (.int (0 : Int32)) := (((((((((S34.ext Er4).other Wr6 ne9).ext Er7).keep Kr8 (ninS ne10 nin0)).ext Er9).ext Er11).ext Er13).keep Kr14 (ninS ne11 nin0)).ext Er16)
            have f37 : Fld Z hr16 w7 zs6 "coder" "B" (.int 0) := (Fld.ext Er16 ((Fld.ext Er13 (Fld.ext Er11 (Fld.ext Er9 ((Fld.ext Er7 (Fld.other Wr6 (Fld.ext Er4 S20) (Or.inl ne6))).keep Kr8 (ninS ne7 nin0))))).keep Kr14 (ninS ne8 nin0)))
            have f38 : Exa Z hr16 br13 zs21 := (Exa.ext Er16 (Ar13.keep Kr14))
            have f39 : Fld Z hr16 br13 zs21 "value" zs23 (.ref br7) := (Fld.ext Er16 f29)
            have f40 : Exa Z hr16 br7 zs6 := (Exa.ext Er16 (f23.keep Kr14))
            have ne12 : br7 ≠ br13 := Nat.ne_of_lt (nlt (nlt (nlt (nlt (f4.lt) Kr8.1) Er9.1) Er11.1) (Nat.le_of_eq gr13.symm))
            have f41 : Fld Z hr16 br7 zs6 "value" "[B" (.ref b1) := (Fld.ext Er16 (f24.keep Kr14 (ninS ne12 nin0)))
            have ne13 : b1 ≠ br13 := Nat.ne_of_lt (nlt (nlt (nlt (f10.lt) Er9.1) Er11.1) (Nat.le_of_eq gr13.symm))
            have f42 : Arv Z hr16 b1 k1 .byte (1 : Int32) [(.int z2)] (.int (0 : Int32)) := ((f25.keep Kr14 (ninS ne13 nin0)).ext Er16)
            have f43 : Fld Z hr16 br7 zs6 "coder" "B" (.int 0) := (Fld.ext Er16 (f27.keep Kr14 (ninS ne12 nin0)))
            have Z_8 : n0 ≤ Tr14.heap.size := Nat.le_trans Z_7 Kr14.1
            have Z_9 : n0 ≤ hr16.size := Nat.le_trans Z_8 Er16.1
            obtain ⟨_, Tr17, Lr17, Xr17, hQr17, hSr17, hZ, hown, CRr17, str17⟩ := ocallVH (s := s) Xr16 hx hZ zm27 zm27 hown (ww hw 114 rfl) (ww hw 115 rfl) (notFace_of_selects (args := #[]) (mvT hZ (ww hw 117 rfl))) (ww hw 117 rfl) (ww hw 116 rfl) (by decide) (ww hw 118 rfl) (ww hw 111 rfl) er16 f31 (rm22_61 l hw w6 br13 ci0 w7 w8 [(.int 119), (.int 114), (.int 105), (.int 116), (.int 101), (.int 32), (.int 108), (.int 111), (.int 99), (.int 107)] kl2 10 10 10 (-6) 11 (-5) 10 br7 b1 [(.int z2)] k1 1 1 12 (-4) 11 12 hr16 n0 Z_9 f32 hc5 f33 f34 f35 f36 f37 (Nat.le_of_ble_eq_true rfl) (Nat.le_of_ble_eq_true rfl) (Nat.le_of_ble_eq_true rfl) (Nat.le_of_ble_eq_true rfl) (Nat.le_of_ble_eq_true rfl) (Nat.le_of_ble_eq_true rfl) f38 f39 f40 f41 f42 f43 (Nat.le_of_ble_eq_true rfl) (Nat.le_of_ble_eq_true rfl) (Nat.le_of_ble_eq_true rfl) (Nat.le_of_ble_eq_true rfl) (Nat.le_of_ble_eq_true rfl) (Nat.le_of_ble_eq_true rfl) (Nat.le_of_ble_eq_true rfl) (by decide)) (st := [(.ref br13), (.ref w6)]) rfl 0 rfl (by decide) (pc := 207) (Ls := (lc31 i0 i1 i2 i3 i4 z1 1 z2 z3 z4 br4 br7 br13 w6 br16)) hml rfl (lenOf pd_29 rfl) at_207 hby hSr16 hkr16 (own_EW hw) C9.1 all0
            obtain ⟨b2, b3, k2, rfl, Nr17q, Kr17, sz2, sz3, ne14, f44, f45, f46, f47, f48⟩ := hQr17
            have C10 := C9.trans CRr17
            have f49 : Arv Z Tr17.heap b3 k2 .byte (12 : Int32) [(.int 119), (.int 114), (.int 105), (.int 116), (.int 101), (.int 32), (.int 108), (.int 111), (.int 99), (.int 107), (.int 32), (.int z2)] (.int (0 : Int32)) := f48
            have N9 := Fr.app N8 Nr17q
            have f50 : Exa Z Tr17.heap br16 zs6 := (fr16a.keep Kr17)
            have f51 : Fld Z Tr17.heap br16 zs6 "value" "[B" (.ref bvr16) := (fr16c.keep Kr17 nin0)
            have f52 : Arv Z Tr17.heap bvr16 clr16 .byte (10 : Int32) [(.int 119), (.int 114), (.int 105), (.int 116), (.int 101), (.int 32), (.int 108), (.int 111), (.int 99), (.int 107)] (.int (0 : Int32)) := (fr16d.keep Kr17 nin0)
            have f53 : Sta Z Tr17.heap zs6 zs7 "Z" (.int ci0) := (own_staK f32 Kr17 all0)
            have f54 : Fld Z Tr17.heap br16 zs6 "coder" "B" (.int 0) := (fr16b.keep Kr17 nin0)
            have Z_10 : n0 ≤ Tr17.heap.size := Nat.le_trans Z_9 Kr17.1
            obtain ⟨_, Tr18, Lr18, Xr18, hQr18, str18⟩ := ocallV Xr17 hx hZ zm12 zm12 hown (ww hw 228 rfl) (ww hw 72 rfl) (notFace_of_selects (args := #[]) (mvT hZ (ww hw 74 rfl))) (ww hw 74 rfl) (ww hw 73 rfl) (by decide) (ww hw 75 rfl) (ww hw 8 rfl) rfl f50 (rm14_24 l hw br16 bvr16 10 ci0 10 Tr17.heap n0 Z_10 f51 (own_lnV f52) f50 f53 hc5 f54 (by decide)) (st := [(.ref br16)]) rfl 0 rfl (by decide) (pc := 221) (Ls := (lc41 i0 i1 i2 i3 i4 z1 1 z2 z3 z4 br4 br7 br13 w6 br16 b2)) hml rfl (lenOf pd_12 rfl) at_221 hby
            obtain ⟨rfl, Nr18q, er18⟩ := hQr18
            have N10 := Fr.app N9 Nr18q
            obtain ⟨_, Tr19, Lr19, Xr19, hQr19, str19⟩ := ocallV Xr18 hx hZ zm12 zm12 hown (ww hw 228 rfl) (ww hw 72 rfl) (notFace_of_selects (args := #[]) (mvT hZ (ww hw 74 rfl))) (ww hw 74 rfl) (ww hw 73 rfl) (by decide) (ww hw 75 rfl) (ww hw 8 rfl) er18 f44 (rm14_24 l hw b2 b3 12 ci0 12 Tr17.heap n0 Z_10 f46 (own_lnV f49) f44 f53 hc5 f45 (by decide)) (st := [(.ref b2)]) rfl 0 rfl (by decide) (pc := 228) (Ls := (lc42 i0 i1 i2 i3 i4 z1 1 z2 z3 z4 br4 br7 br13 w6 br16 b2 10)) hml rfl (lenOf pd_12 rfl) at_228 hby
            obtain ⟨rfl, Nr19q, er19⟩ := hQr19
            have N11 := Fr.app N10 Nr19q
            have hc25 : (i0 &&& (3 : Int32)) = (2 : Int32) := hk5
            have hs26 : z1 = (2 : Int32) := by rw [hz1]; exact hc25
            refine own_go (U' := Tr19.setTop (mkF m 238 (lc42 i0 i1 i2 i3 i4 z1 1 z2 z3 z4 br4 br7 br13 w6 br16 b2 10) [(.int 12), (.int 12)])) (fun t k => oicN Xr14 hx hby at_179 (teq hs26).2 (str15 _ (oastore Xr15 hx hby at_185 (lc30 i0 i1 i2 i3 i4 z1 1 z2 z3 z4 br4 br7 br13 w6) rfl rfl (str16 _ (oastore Xr16 hx hby at_189 (lc31 i0 i1 i2 i3 i4 z1 1 z2 z3 z4 br4 br7 br13 w6 br16) rfl rfl (ogoto (pc := 191) Xr16 hx hby at_191 203 (by decide) (oaload Xr16 hx hby at_203 rfl rfl (oaload Xr16 hx hby at_205 rfl rfl (str17 _ (oastore Xr17 hx hby at_210 (lc41 i0 i1 i2 i3 i4 z1 1 z2 z3 z4 br4 br7 br13 w6 br16 b2) rfl rfl (oaload Xr17 hx hby at_212 rfl rfl (onnY (pc := 214) Xr17 hx hby at_214 219 (by decide) (oaload Xr17 hx hby at_219 rfl rfl (str18 _ (oistore Xr18 hx hby at_224 (lc42 i0 i1 i2 i3 i4 z1 1 z2 z3 z4 br4 br7 br13 w6 br16 b2 10) rfl (oaload Xr18 hx hby at_226 rfl rfl (str19 _ (oiload Xr19 hx hby at_231 rfl (oiconst Xr19 hx hby at_233 (oiadd Xr19 hx hby at_234 (oiload Xr19 hx hby at_235 rfl (oiadd Xr19 hx hby at_237 k)))))))))))))))))))))) ?_
            have f55 : Sta Z Tr17.heap zs16 zs19 zs20 vy0 := (own_staK (Sta.ext Er16 (own_staK f28 Kr14 (allS (own_nsF f22) all0))) Kr17 all0)
            obtain ⟨_, Tr20, Lr20, Xr20, hQr20, str20⟩ := ocallS Xr19 hx hZ zm28 hown (ww hw 229 rfl) (ww hw 230 rfl) (by decide) (ww hw 231 rfl) (ww hw 3 rfl) er19 (rm43_63 l hw b2 0 br16 0 bvr16 10 ci0 10 0 b3 12 vy0 119 119 Tr17.heap n0 Z_10 f50 f51 (own_lnV f52) f53 hc5 f54 f44 f45 f46 (own_lnV f49) f55 hc12 (own_elV (j := (0 : Int32)) f49 (by decide) (by decide) rfl) (own_elV (j := (0 : Int32)) f52 (by decide) (by decide) rfl) (by decide)) (st := [(.int 0), (.ref br16), (.int 0), (.ref b2)]) rfl 0 rfl (by decide) (pc := 249) (Ls := (lc42 i0 i1 i2 i3 i4 z1 1 z2 z3 z4 br4 br7 br13 w6 br16 b2 10)) hml rfl (lenOf pd_30 rfl) at_249 hby
            obtain ⟨rfl, Nr20q, er20⟩ := hQr20
            have N12 := Fr.app N11 Nr20q
            refine own_go (U' := Tr20.setTop (mkF m 252 (lc42 i0 i1 i2 i3 i4 z1 1 z2 z3 z4 br4 br7 br13 w6 br16 b2 10) [(.int 1)])) (fun t k => oicY (pc := 238) Xr19 hx hby at_238 243 (by decide) (by decide) (oaload Xr19 hx hby at_243 rfl rfl (oiconst Xr19 hx hby at_245 (oaload Xr19 hx hby at_246 rfl rfl (oiconst Xr19 hx hby at_248 (str20 _ k)))))) ?_
            obtain ⟨_, Tr21, Lr21, Xr21, hQr21, str21⟩ := ocallS Xr20 hx hZ zm28 hown (ww hw 229 rfl) (ww hw 230 rfl) (by decide) (ww hw 231 rfl) (ww hw 3 rfl) er20 (rm43_63 l hw b2 0 br16 1 bvr16 10 ci0 10 1 b3 12 vy0 114 114 Tr17.heap n0 Z_10 f50 f51 (own_lnV f52) f53 hc5 f54 f44 f45 f46 (own_lnV f49) f55 hc12 (own_elV (j := (1 : Int32)) f49 (by decide) (by decide) rfl) (own_elV (j := (1 : Int32)) f52 (by decide) (by decide) rfl) (by decide)) (st := [(.int 1), (.ref br16), (.int 0), (.ref b2)]) rfl 0 rfl (by decide) (pc := 261) (Ls := (lc42 i0 i1 i2 i3 i4 z1 1 z2 z3 z4 br4 br7 br13 w6 br16 b2 10)) hml rfl (lenOf pd_30 rfl) at_261 hby
            obtain ⟨rfl, Nr21q, er21⟩ := hQr21
            have N13 := Fr.app N12 Nr21q
            refine own_go (U' := Tr21.setTop (mkF m 264 (lc42 i0 i1 i2 i3 i4 z1 1 z2 z3 z4 br4 br7 br13 w6 br16 b2 10) [(.int 1)])) (fun t k => oifN Xr20 hx hby at_252 (by decide) (oaload Xr20 hx hby at_255 rfl rfl (oiconst Xr20 hx hby at_257 (oaload Xr20 hx hby at_258 rfl rfl (oiconst Xr20 hx hby at_260 (str21 _ k)))))) ?_
            obtain ⟨_, Tr22, Lr22, Xr22, hQr22, str22⟩ := ocallS Xr21 hx hZ zm28 hown (ww hw 229 rfl) (ww hw 230 rfl) (by decide) (ww hw 231 rfl) (ww hw 3 rfl) er21 (rm43_63 l hw b2 0 br16 2 bvr16 10 ci0 10 2 b3 12 vy0 105 105 Tr17.heap n0 Z_10 f50 f51 (own_lnV f52) f53 hc5 f54 f44 f45 f46 (own_lnV f49) f55 hc12 (own_elV (j := (2 : Int32)) f49 (by decide) (by decide) rfl) (own_elV (j := (2 : Int32)) f52 (by decide) (by decide) rfl) (by decide)) (st := [(.int 2), (.ref br16), (.int 0), (.ref b2)]) rfl 0 rfl (by decide) (pc := 273) (Ls := (lc42 i0 i1 i2 i3 i4 z1 1 z2 z3 z4 br4 br7 br13 w6 br16 b2 10)) hml rfl (lenOf pd_30 rfl) at_273 hby
            obtain ⟨rfl, Nr22q, er22⟩ := hQr22
            have N14 := Fr.app N13 Nr22q
            refine own_go (U' := Tr22.setTop (mkF m 276 (lc42 i0 i1 i2 i3 i4 z1 1 z2 z3 z4 br4 br7 br13 w6 br16 b2 10) [(.int 1)])) (fun t k => oifN Xr21 hx hby at_264 (by decide) (oaload Xr21 hx hby at_267 rfl rfl (oiconst Xr21 hx hby at_269 (oaload Xr21 hx hby at_270 rfl rfl (oiconst Xr21 hx hby at_272 (str22 _ k)))))) ?_
            obtain ⟨_, Tr23, Lr23, Xr23, hQr23, str23⟩ := ocallS Xr22 hx hZ zm28 hown (ww hw 229 rfl) (ww hw 230 rfl) (by decide) (ww hw 231 rfl) (ww hw 3 rfl) er22 (rm43_63 l hw b2 0 br16 3 bvr16 10 ci0 10 3 b3 12 vy0 116 116 Tr17.heap n0 Z_10 f50 f51 (own_lnV f52) f53 hc5 f54 f44 f45 f46 (own_lnV f49) f55 hc12 (own_elV (j := (3 : Int32)) f49 (by decide) (by decide) rfl) (own_elV (j := (3 : Int32)) f52 (by decide) (by decide) rfl) (by decide)) (st := [(.int 3), (.ref br16), (.int 0), (.ref b2)]) rfl 0 rfl (by decide) (pc := 285) (Ls := (lc42 i0 i1 i2 i3 i4 z1 1 z2 z3 z4 br4 br7 br13 w6 br16 b2 10)) hml rfl (lenOf pd_30 rfl) at_285 hby
            obtain ⟨rfl, Nr23q, er23⟩ := hQr23
            have N15 := Fr.app N14 Nr23q
            refine own_go (U' := Tr23.setTop (mkF m 288 (lc42 i0 i1 i2 i3 i4 z1 1 z2 z3 z4 br4 br7 br13 w6 br16 b2 10) [(.int 1)])) (fun t k => oifN Xr22 hx hby at_276 (by decide) (oaload Xr22 hx hby at_279 rfl rfl (oiconst Xr22 hx hby at_281 (oaload Xr22 hx hby at_282 rfl rfl (oiconst Xr22 hx hby at_284 (str23 _ k)))))) ?_
            obtain ⟨_, Tr24, Lr24, Xr24, hQr24, str24⟩ := ocallS Xr23 hx hZ zm28 hown (ww hw 229 rfl) (ww hw 230 rfl) (by decide) (ww hw 231 rfl) (ww hw 3 rfl) er23 (rm43_63 l hw b2 0 br16 4 bvr16 10 ci0 10 4 b3 12 vy0 101 101 Tr17.heap n0 Z_10 f50 f51 (own_lnV f52) f53 hc5 f54 f44 f45 f46 (own_lnV f49) f55 hc12 (own_elV (j := (4 : Int32)) f49 (by decide) (by decide) rfl) (own_elV (j := (4 : Int32)) f52 (by decide) (by decide) rfl) (by decide)) (st := [(.int 4), (.ref br16), (.int 0), (.ref b2)]) rfl 0 rfl (by decide) (pc := 297) (Ls := (lc42 i0 i1 i2 i3 i4 z1 1 z2 z3 z4 br4 br7 br13 w6 br16 b2 10)) hml rfl (lenOf pd_30 rfl) at_297 hby
            obtain ⟨rfl, Nr24q, er24⟩ := hQr24
            have N16 := Fr.app N15 Nr24q
            refine own_go (U' := Tr24.setTop (mkF m 300 (lc42 i0 i1 i2 i3 i4 z1 1 z2 z3 z4 br4 br7 br13 w6 br16 b2 10) [(.int 1)])) (fun t k => oifN Xr23 hx hby at_288 (by decide) (oaload Xr23 hx hby at_291 rfl rfl (oiconst Xr23 hx hby at_293 (oaload Xr23 hx hby at_294 rfl rfl (oiconst Xr23 hx hby at_296 (str24 _ k)))))) ?_
            obtain ⟨_, Tr25, Lr25, Xr25, hQr25, str25⟩ := ocallS Xr24 hx hZ zm28 hown (ww hw 229 rfl) (ww hw 230 rfl) (by decide) (ww hw 231 rfl) (ww hw 3 rfl) er24 (rm43_63 l hw b2 0 br16 5 bvr16 10 ci0 10 5 b3 12 vy0 32 32 Tr17.heap n0 Z_10 f50 f51 (own_lnV f52) f53 hc5 f54 f44 f45 f46 (own_lnV f49) f55 hc12 (own_elV (j := (5 : Int32)) f49 (by decide) (by decide) rfl) (own_elV (j := (5 : Int32)) f52 (by decide) (by decide) rfl) (by decide)) (st := [(.int 5), (.ref br16), (.int 0), (.ref b2)]) rfl 0 rfl (by decide) (pc := 309) (Ls := (lc42 i0 i1 i2 i3 i4 z1 1 z2 z3 z4 br4 br7 br13 w6 br16 b2 10)) hml rfl (lenOf pd_30 rfl) at_309 hby
            obtain ⟨rfl, Nr25q, er25⟩ := hQr25
            have N17 := Fr.app N16 Nr25q
            refine own_go (U' := Tr25.setTop (mkF m 312 (lc42 i0 i1 i2 i3 i4 z1 1 z2 z3 z4 br4 br7 br13 w6 br16 b2 10) [(.int 1)])) (fun t k => oifN Xr24 hx hby at_300 (by decide) (oaload Xr24 hx hby at_303 rfl rfl (oiconst Xr24 hx hby at_305 (oaload Xr24 hx hby at_306 rfl rfl (oiconst Xr24 hx hby at_308 (str25 _ k)))))) ?_
            obtain ⟨_, Tr26, Lr26, Xr26, hQr26, str26⟩ := ocallS Xr25 hx hZ zm28 hown (ww hw 229 rfl) (ww hw 230 rfl) (by decide) (ww hw 231 rfl) (ww hw 3 rfl) er25 (rm43_63 l hw b2 0 br16 6 bvr16 10 ci0 10 6 b3 12 vy0 108 108 Tr17.heap n0 Z_10 f50 f51 (own_lnV f52) f53 hc5 f54 f44 f45 f46 (own_lnV f49) f55 hc12 (own_elV (j := (6 : Int32)) f49 (by decide) (by decide) rfl) (own_elV (j := (6 : Int32)) f52 (by decide) (by decide) rfl) (by decide)) (st := [(.int 6), (.ref br16), (.int 0), (.ref b2)]) rfl 0 rfl (by decide) (pc := 322) (Ls := (lc42 i0 i1 i2 i3 i4 z1 1 z2 z3 z4 br4 br7 br13 w6 br16 b2 10)) hml rfl (lenOf pd_30 rfl) at_322 hby
            obtain ⟨rfl, Nr26q, er26⟩ := hQr26
            have N18 := Fr.app N17 Nr26q
            refine own_go (U' := Tr26.setTop (mkF m 325 (lc42 i0 i1 i2 i3 i4 z1 1 z2 z3 z4 br4 br7 br13 w6 br16 b2 10) [(.int 1)])) (fun t k => oifN Xr25 hx hby at_312 (by decide) (oaload Xr25 hx hby at_315 rfl rfl (oiconst Xr25 hx hby at_317 (oaload Xr25 hx hby at_318 rfl rfl (obipush Xr25 hx hby at_320 (str26 _ k)))))) ?_
            obtain ⟨_, Tr27, Lr27, Xr27, hQr27, str27⟩ := ocallS Xr26 hx hZ zm28 hown (ww hw 229 rfl) (ww hw 230 rfl) (by decide) (ww hw 231 rfl) (ww hw 3 rfl) er26 (rm43_63 l hw b2 0 br16 7 bvr16 10 ci0 10 7 b3 12 vy0 111 111 Tr17.heap n0 Z_10 f50 f51 (own_lnV f52) f53 hc5 f54 f44 f45 f46 (own_lnV f49) f55 hc12 (own_elV (j := (7 : Int32)) f49 (by decide) (by decide) rfl) (own_elV (j := (7 : Int32)) f52 (by decide) (by decide) rfl) (by decide)) (st := [(.int 7), (.ref br16), (.int 0), (.ref b2)]) rfl 0 rfl (by decide) (pc := 335) (Ls := (lc42 i0 i1 i2 i3 i4 z1 1 z2 z3 z4 br4 br7 br13 w6 br16 b2 10)) hml rfl (lenOf pd_30 rfl) at_335 hby
            obtain ⟨rfl, Nr27q, er27⟩ := hQr27
            have N19 := Fr.app N18 Nr27q
            refine own_go (U' := Tr27.setTop (mkF m 338 (lc42 i0 i1 i2 i3 i4 z1 1 z2 z3 z4 br4 br7 br13 w6 br16 b2 10) [(.int 1)])) (fun t k => oifN Xr26 hx hby at_325 (by decide) (oaload Xr26 hx hby at_328 rfl rfl (oiconst Xr26 hx hby at_330 (oaload Xr26 hx hby at_331 rfl rfl (obipush Xr26 hx hby at_333 (str27 _ k)))))) ?_
            obtain ⟨_, Tr28, Lr28, Xr28, hQr28, str28⟩ := ocallS Xr27 hx hZ zm28 hown (ww hw 229 rfl) (ww hw 230 rfl) (by decide) (ww hw 231 rfl) (ww hw 3 rfl) er27 (rm43_63 l hw b2 0 br16 8 bvr16 10 ci0 10 8 b3 12 vy0 99 99 Tr17.heap n0 Z_10 f50 f51 (own_lnV f52) f53 hc5 f54 f44 f45 f46 (own_lnV f49) f55 hc12 (own_elV (j := (8 : Int32)) f49 (by decide) (by decide) rfl) (own_elV (j := (8 : Int32)) f52 (by decide) (by decide) rfl) (by decide)) (st := [(.int 8), (.ref br16), (.int 0), (.ref b2)]) rfl 0 rfl (by decide) (pc := 348) (Ls := (lc42 i0 i1 i2 i3 i4 z1 1 z2 z3 z4 br4 br7 br13 w6 br16 b2 10)) hml rfl (lenOf pd_30 rfl) at_348 hby
            obtain ⟨rfl, Nr28q, er28⟩ := hQr28
            have N20 := Fr.app N19 Nr28q
            refine own_go (U' := Tr28.setTop (mkF m 351 (lc42 i0 i1 i2 i3 i4 z1 1 z2 z3 z4 br4 br7 br13 w6 br16 b2 10) [(.int 1)])) (fun t k => oifN Xr27 hx hby at_338 (by decide) (oaload Xr27 hx hby at_341 rfl rfl (oiconst Xr27 hx hby at_343 (oaload Xr27 hx hby at_344 rfl rfl (obipush Xr27 hx hby at_346 (str28 _ k)))))) ?_
            obtain ⟨_, Tr29, Lr29, Xr29, hQr29, str29⟩ := ocallS Xr28 hx hZ zm28 hown (ww hw 229 rfl) (ww hw 230 rfl) (by decide) (ww hw 231 rfl) (ww hw 3 rfl) er28 (rm43_63 l hw b2 0 br16 9 bvr16 10 ci0 10 9 b3 12 vy0 107 107 Tr17.heap n0 Z_10 f50 f51 (own_lnV f52) f53 hc5 f54 f44 f45 f46 (own_lnV f49) f55 hc12 (own_elV (j := (9 : Int32)) f49 (by decide) (by decide) rfl) (own_elV (j := (9 : Int32)) f52 (by decide) (by decide) rfl) (by decide)) (st := [(.int 9), (.ref br16), (.int 0), (.ref b2)]) rfl 0 rfl (by decide) (pc := 361) (Ls := (lc42 i0 i1 i2 i3 i4 z1 1 z2 z3 z4 br4 br7 br13 w6 br16 b2 10)) hml rfl (lenOf pd_30 rfl) at_361 hby
            obtain ⟨rfl, Nr29q, er29⟩ := hQr29
            have N21 := Fr.app N20 Nr29q
            refine own_go (U' := Tr29.setTop (mkF m 364 (lc42 i0 i1 i2 i3 i4 z1 1 z2 z3 z4 br4 br7 br13 w6 br16 b2 10) [(.int 1)])) (fun t k => oifN Xr28 hx hby at_351 (by decide) (oaload Xr28 hx hby at_354 rfl rfl (oiconst Xr28 hx hby at_356 (oaload Xr28 hx hby at_357 rfl rfl (obipush Xr28 hx hby at_359 (str29 _ k)))))) ?_
            obtain ⟨_, Tr30, Lr30, Xr30, hQr30, str30⟩ := ocallV Xr29 hx hZ zm17 zm17 hown (ww hw 232 rfl) (ww hw 82 rfl) (notFace_of_selects (args := #[]) (mvT hZ (ww hw 84 rfl))) (ww hw 84 rfl) (ww hw 83 rfl) (by decide) (ww hw 85 rfl) (ww hw 8 rfl) er29 f44 (rm16_65 l hw b2 10 ci0 b3 12 vy0 32 Tr17.heap n0 Z_10 f44 f53 hc5 f45 f46 (own_lnV f49) f55 hc12 (own_elV (j := (10 : Int32)) f49 (by decide) (by decide) rfl) (by decide)) (st := [(.int 10), (.ref b2)]) rfl 0 rfl (by decide) (pc := 378) (Ls := (lc44 i0 i1 i2 i3 i4 z1 1 z2 z3 z4 br4 br7 br13 w6 br16 b2 10 1)) hml rfl (lenOf pd_0 rfl) at_378 hby
            obtain ⟨rfl, Nr30q, er30⟩ := hQr30
            have N22 := Fr.app N21 Nr30q
            refine own_go (U' := Tr30.setTop (mkF m 383 (lc44 i0 i1 i2 i3 i4 z1 1 z2 z3 z4 br4 br7 br13 w6 br16 b2 10 1) [(.int 32), (.int 32)])) (fun t k => oifN Xr29 hx hby at_364 (by decide) (oiconst Xr29 hx hby at_367 (ogoto (pc := 368) Xr29 hx hby at_368 372 (by decide) (oistore Xr29 hx hby at_372 (lc44 i0 i1 i2 i3 i4 z1 1 z2 z3 z4 br4 br7 br13 w6 br16 b2 10 1) rfl (oaload Xr29 hx hby at_374 rfl rfl (oiload Xr29 hx hby at_376 rfl (str30 _ (obipush Xr30 hx hby at_381 k)))))))) ?_
            refine own_go (U' := Tr30.setTop (mkF m 402 (lc45 i0 i1 i2 i3 i4 z1 1 z2 z3 z4 br4 br7 br13 w6 br16 b2 10 1 1) [(.int 0), (.ref br7), (.int 11), (.ref b2)])) (fun t k => oicN Xr30 hx hby at_383 (by decide) (oiconst Xr30 hx hby at_386 (ogoto (pc := 387) Xr30 hx hby at_387 391 (by decide) (oistore Xr30 hx hby at_391 (lc45 i0 i1 i2 i3 i4 z1 1 z2 z3 z4 br4 br7 br13 w6 br16 b2 10 1 1) rfl (oaload Xr30 hx hby at_393 rfl rfl (oiload Xr30 hx hby at_395 rfl (oiconst Xr30 hx hby at_397 (oiadd Xr30 hx hby at_398 (oaload Xr30 hx hby at_399 rfl rfl (oiconst Xr30 hx hby at_401 k)))))))))) ?_
            have f56 : Exa Z Tr17.heap br7 zs6 := (f40.keep Kr17)
            have f57 : Fld Z Tr17.heap br7 zs6 "value" "[B" (.ref b1) := (f41.keep Kr17 nin0)
            have f58 : Arv Z Tr17.heap b1 k1 .byte (1 : Int32) [(.int z2)] (.int (0 : Int32)) := (f42.keep Kr17 nin0)
            have f59 : Fld Z Tr17.heap br7 zs6 "coder" "B" (.int 0) := (f43.keep Kr17 nin0)
            obtain ⟨_, Tr31, Lr31, Xr31, hQr31, str31⟩ := ocallS Xr30 hx hZ zm28 hown (ww hw 229 rfl) (ww hw 230 rfl) (by decide) (ww hw 231 rfl) (ww hw 3 rfl) er30 (rm43_66 l hw b2 11 br7 0 b1 1 ci0 1 11 b3 12 vy0 z2 z2 Tr17.heap n0 Z_10 f56 f57 (own_lnV f58) f53 hc5 f59 f44 f45 f46 (own_lnV f49) f55 hc12 (own_elV (j := (11 : Int32)) f49 (by decide) (by decide) rfl) hs2 hs9 hs4 (own_elV (j := (0 : Int32)) f58 (by decide) (by decide) rfl) hs2 hs9 hs4 rfl (by decide)) (st := [(.int 0), (.ref br7), (.int 11), (.ref b2)]) rfl 0 rfl (by decide) (pc := 402) (Ls := (lc45 i0 i1 i2 i3 i4 z1 1 z2 z3 z4 br4 br7 br13 w6 br16 b2 10 1 1)) hml rfl (lenOf pd_30 rfl) at_402 hby
            obtain ⟨rfl, Nr31q, er31⟩ := hQr31
            have N23 := Fr.app N22 Nr31q
            refine own_go (U' := Tr31.setTop (mkF m 405 (lc45 i0 i1 i2 i3 i4 z1 1 z2 z3 z4 br4 br7 br13 w6 br16 b2 10 1 1) [(.int 1)])) (fun t k => str31 _ k) ?_
            obtain ⟨_, Tr32, Lr32, Xr32, hQr32, str32⟩ := ocallS Xr31 hx hZ zm28 hown (ww hw 229 rfl) (ww hw 230 rfl) (by decide) (ww hw 231 rfl) (ww hw 3 rfl) er31 (rm43_64 l hw b2 11 br7 1 b1 1 ci0 1 Tr17.heap n0 Z_10 f56 f57 (own_lnV f58) f53 hc5 f59 (by decide)) (st := [(.int 1), (.ref br7), (.int 11), (.ref b2)]) rfl 0 rfl (by decide) (pc := 417) (Ls := (lc45 i0 i1 i2 i3 i4 z1 1 z2 z3 z4 br4 br7 br13 w6 br16 b2 10 1 1)) hml rfl (lenOf pd_30 rfl) at_417 hby
            obtain ⟨rfl, Nr32q, er32⟩ := hQr32
            have N24 := Fr.app N23 Nr32q
            refine own_go (U' := Tr32.setTop (mkF m 420 (lc45 i0 i1 i2 i3 i4 z1 1 z2 z3 z4 br4 br7 br13 w6 br16 b2 10 1 1) [(.int 1)])) (fun t k => oifN Xr31 hx hby at_405 (by decide) (oaload Xr31 hx hby at_408 rfl rfl (oiload Xr31 hx hby at_410 rfl (oiconst Xr31 hx hby at_412 (oiadd Xr31 hx hby at_413 (oaload Xr31 hx hby at_414 rfl rfl (oiconst Xr31 hx hby at_416 (str32 _ k)))))))) ?_
            obtain ⟨_, Tr33, Lr33, Xr33, hQr33, str33⟩ := ocallS Xr32 hx hZ zm28 hown (ww hw 229 rfl) (ww hw 230 rfl) (by decide) (ww hw 231 rfl) (ww hw 3 rfl) er32 (rm43_64 l hw b2 11 br7 2 b1 1 ci0 1 Tr17.heap n0 Z_10 f56 f57 (own_lnV f58) f53 hc5 f59 (by decide)) (st := [(.int 2), (.ref br7), (.int 11), (.ref b2)]) rfl 0 rfl (by decide) (pc := 432) (Ls := (lc45 i0 i1 i2 i3 i4 z1 1 z2 z3 z4 br4 br7 br13 w6 br16 b2 10 1 1)) hml rfl (lenOf pd_30 rfl) at_432 hby
            obtain ⟨rfl, Nr33q, er33⟩ := hQr33
            have N25 := Fr.app N24 Nr33q
            refine own_go (U' := Tr33.setTop (mkF m 435 (lc45 i0 i1 i2 i3 i4 z1 1 z2 z3 z4 br4 br7 br13 w6 br16 b2 10 1 1) [(.int 1)])) (fun t k => oifN Xr32 hx hby at_420 (by decide) (oaload Xr32 hx hby at_423 rfl rfl (oiload Xr32 hx hby at_425 rfl (oiconst Xr32 hx hby at_427 (oiadd Xr32 hx hby at_428 (oaload Xr32 hx hby at_429 rfl rfl (oiconst Xr32 hx hby at_431 (str33 _ k)))))))) ?_
            refine own_go (U' := Tr33.setTop (mkF m 447 (lc46 i0 i1 i2 i3 i4 z1 1 z2 z3 z4 br4 br7 br13 w6 br16 b2 10 1 1 1) [(.int 1)])) (fun t k => oifN Xr33 hx hby at_435 (by decide) (oiconst Xr33 hx hby at_438 (ogoto (pc := 439) Xr33 hx hby at_439 443 (by decide) (oistore Xr33 hx hby at_443 (lc46 i0 i1 i2 i3 i4 z1 1 z2 z3 z4 br4 br7 br13 w6 br16 b2 10 1 1 1) rfl (oiload Xr33 hx hby at_445 rfl k))))) ?_
            refine own_go (U' := Tr33.setTop (mkF m 452 (lc46 i0 i1 i2 i3 i4 z1 1 z2 z3 z4 br4 br7 br13 w6 br16 b2 10 1 1 1) [(.int 1)])) (fun t k => oifN Xr33 hx hby at_447 (by decide) (oiload Xr33 hx hby at_450 rfl k)) ?_
            refine own_go (U' := Tr33.setTop (mkF m 457 (lc46 i0 i1 i2 i3 i4 z1 1 z2 z3 z4 br4 br7 br13 w6 br16 b2 10 1 1 1) [(.int 1)])) (fun t k => oifN Xr33 hx hby at_452 (by decide) (oiload Xr33 hx hby at_455 rfl k)) ?_
            refine own_go (U' := Tr33.setTop (mkF m 465 (lc46 i0 i1 i2 i3 i4 z1 1 z2 z3 z4 br4 br7 br13 w6 br16 b2 10 1 1 1) [(.int 1)])) (fun t k => oifN Xr33 hx hby at_457 (by decide) (oiconst Xr33 hx hby at_460 (ogoto (pc := 461) Xr33 hx hby at_461 465 (by decide) k))) ?_
            obtain ⟨fs, hr, hrun, hended, hW, hsame⟩ := Xr33.leave (v := some (.int 1)) (fun h => by rw [Bd.returns] at h; cases h)
            have hE := hSr17.ended hW (by show _ ≤ Tr33.heap.size; rw [er33]; exact (Nat.le_refl _)) hsame
            refine own_out ⟨_, _, ?_, hrun, hended, _, _, rfl, ?_, ?_, ⟨_, rfl⟩, hE.1, hE.2.1, hE.2.2.mono (by decide) (by decide)⟩
            · exact retN Xr33 hx (t := .boolean) Bd.returns (by simp) (hb hby at_465) hr
            · exact ⟨rfl, N25⟩
            · show CHr Z consts_1 s.vm s.heap Tr33.vm Tr33.heap; rw [hh, er33]; exact C10.trans (CHv.at (s := s) Xr33 hZ (own_EW hw) C10.1)
          · have f30 : Sta Z Tr14.heap zs35 zs40 zs39 (.ref w3) := (own_staK (Sta.ext Er13 (Sta.ext Er11 (Sta.ext Er9 (own_staK (Sta.ext Er7 (Sta.wr Wr6 (Sta.ext Er4 S7))) Kr8 (allS (own_nsF f4) all0))))) Kr14 (allS (own_nsE Ar13) all0))
            obtain ⟨Tr15, Xr15, er15, str15⟩ := getS2 Xr14 hx hZ hown (host := "") (Or.inl (ww hw 233 rfl)) Via.refl rfl f30 (g := (mkF m 194 (lc29 i0 i1 i2 i3 i4 z1 1 z2 z3 z4 br4 br7 br13) [])) rfl (hb hby at_194)
            obtain ⟨br16, Tr16, hr16, kr16, bvr16, clr16, Xr16, er16, Er16, hSr16, hkr16, hZ, hown, fr16a, fr16b, fr16c, fr16d, ltr16, lvr16, CRr16, -, nsr16, str16⟩ := ldcCH (s := s) Xr15 hx hZ hown (ww hw 235 rfl) (own_wS hw) er15 hSr14 (Nat.le_refl _) (own_EW hw) (List.mem_of_getElem? (i := 9) rfl) C8.1 (vs := [(.int 101), (.int 108), (.int 101), (.int 99), (.int 116), (.int 105), (.int 111), (.int 110)]) (z := 8) ⟨by decide, by decide⟩ (by decide) (by decide) (g := (mkF m 199 (lc30 i0 i1 i2 i3 i4 z1 1 z2 z3 z4 br4 br7 br13 w3) [])) rfl (hb hby at_199) (n := 32) (by decide) (by decide) (by decide) (by decide)
            have C9 := C8.trans CRr16
            have f31 : Exa Z hr16 w3 zs35 := (Exa.ext Er16 ((Exa.ext Er13 (Exa.ext Er11 (Exa.ext Er9 ((Exa.ext Er7 (Exa.wr Wr6 (Exa.ext Er4 S8))).keep Kr8)))).keep Kr14))
            have f32 : Sta Z hr16 zs6 zs7 "Z" (.int ci0) := (Sta.ext Er16 (own_staK f26 Kr14 (allS (own_nsE Ar13) all0)))
            have ne3 : w3 ≠ br4 := Nat.ne_of_lt (nlt (S9.lt) (Nat.le_of_eq gr4.symm))
            have ne4 : w3 ≠ br7 := Nat.ne_of_lt (nlt (nlt (nlt (S9.lt) Er4.1) (Keep.of_wr Wr6).1) (Nat.le_of_eq gr7.symm))
            have ne5 : w3 ≠ br13 := Nat.ne_of_lt (nlt (nlt (nlt (nlt (nlt (nlt (nlt (S9.lt) Er4.1) (Keep.of_wr Wr6).1) Er7.1) Kr8.1) Er9.1) Er11.1) (Nat.le_of_eq gr13.symm))
            have f33 : Fld Z hr16 w3 zs35 "noun" zs23 (.ref w4) := (Fld.ext Er16 ((Fld.ext Er13 (Fld.ext Er11 (Fld.ext Er9 ((Fld.ext Er7 (Fld.other Wr6 (Fld.ext Er4 S9) (Or.inl ne3))).keep Kr8 (ninS ne4 nin0))))).keep Kr14 (ninS ne5 nin0)))
            have f34 : Exa Z hr16 w4 zs6 := (Exa.ext Er16 ((Exa.ext Er13 (Exa.ext Er11 (Exa.ext Er9 ((Exa.ext Er7 (Exa.wr Wr6 (Exa.ext Er4 S10))).keep Kr8)))).keep Kr14))
            have ne6 : w4 ≠ br4 := Nat.ne_of_lt (nlt (S11.lt) (Nat.le_of_eq gr4.symm))
            have ne7 : w4 ≠ br7 := Nat.ne_of_lt (nlt (nlt (nlt (S11.lt) Er4.1) (Keep.of_wr Wr6).1) (Nat.le_of_eq gr7.symm))
            have ne8 : w4 ≠ br13 := Nat.ne_of_lt (nlt (nlt (nlt (nlt (nlt (nlt (nlt (S11.lt) Er4.1) (Keep.of_wr Wr6).1) Er7.1) Kr8.1) Er9.1) Er11.1) (Nat.le_of_eq gr13.symm))
            have f35 : Fld Z hr16 w4 zs6 "value" "[B" (.ref w5) := (Fld.ext Er16 ((Fld.ext Er13 (Fld.ext Er11 (Fld.ext Er9 ((Fld.ext Er7 (Fld.other Wr6 (Fld.ext Er4 S11) (Or.inl ne6))).keep Kr8 (ninS ne7 nin0))))).keep Kr14 (ninS ne8 nin0)))
            have ne9 : w5 ≠ br4 := Nat.ne_of_lt (nlt (S33.lt) (Nat.le_of_eq gr4.symm))
            have ne10 : w5 ≠ br7 := Nat.ne_of_lt (nlt (nlt (nlt (S33.lt) Er4.1) (Keep.of_wr Wr6).1) (Nat.le_of_eq gr7.symm))
            have ne11 : w5 ≠ br13 := Nat.ne_of_lt (nlt (nlt (nlt (nlt (nlt (nlt (nlt (S33.lt) Er4.1) (Keep.of_wr Wr6).1) Er7.1) Kr8.1) Er9.1) Er11.1) (Nat.le_of_eq gr13.symm))
            have f36 : Arv Z hr16 w5 kl1 .byte (8 : Int32) [(.int 101), (.int 108), (.int 101), (.int 99), (.int 116), (.int 105), (.int 111), (.int 110)] (.int (0 : Int32)) := (((((((((S33.ext Er4).other Wr6 ne9).ext Er7).keep Kr8 (ninS ne10 nin0)).ext Er9).ext Er11).ext Er13).keep Kr14 (ninS ne11 nin0)).ext Er16)
            have f37 : Fld Z hr16 w4 zs6 "coder" "B" (.int 0) := (Fld.ext Er16 ((Fld.ext Er13 (Fld.ext Er11 (Fld.ext Er9 ((Fld.ext Er7 (Fld.other Wr6 (Fld.ext Er4 S13) (Or.inl ne6))).keep Kr8 (ninS ne7 nin0))))).keep Kr14 (ninS ne8 nin0)))
            have f38 : Exa Z hr16 br13 zs21 := (Exa.ext Er16 (Ar13.keep Kr14))
            have f39 : Fld Z hr16 br13 zs21 "value" zs23 (.ref br7) := (Fld.ext Er16 f29)
            have f40 : Exa Z hr16 br7 zs6 := (Exa.ext Er16 (f23.keep Kr14))
            have ne12 : br7 ≠ br13 := Nat.ne_of_lt (nlt (nlt (nlt (nlt (f4.lt) Kr8.1) Er9.1) Er11.1) (Nat.le_of_eq gr13.symm))
            have f41 : Fld Z hr16 br7 zs6 "value" "[B" (.ref b1) := (Fld.ext Er16 (f24.keep Kr14 (ninS ne12 nin0)))
            have ne13 : b1 ≠ br13 := Nat.ne_of_lt (nlt (nlt (nlt (f10.lt) Er9.1) Er11.1) (Nat.le_of_eq gr13.symm))
            have f42 : Arv Z hr16 b1 k1 .byte (1 : Int32) [(.int z2)] (.int (0 : Int32)) := ((f25.keep Kr14 (ninS ne13 nin0)).ext Er16)
            have f43 : Fld Z hr16 br7 zs6 "coder" "B" (.int 0) := (Fld.ext Er16 (f27.keep Kr14 (ninS ne12 nin0)))
            have Z_8 : n0 ≤ Tr14.heap.size := Nat.le_trans Z_7 Kr14.1
            have Z_9 : n0 ≤ hr16.size := Nat.le_trans Z_8 Er16.1
            obtain ⟨_, Tr17, Lr17, Xr17, hQr17, hSr17, hZ, hown, CRr17, str17⟩ := ocallVH (s := s) Xr16 hx hZ zm27 zm27 hown (ww hw 114 rfl) (ww hw 115 rfl) (notFace_of_selects (args := #[]) (mvT hZ (ww hw 117 rfl))) (ww hw 117 rfl) (ww hw 116 rfl) (by decide) (ww hw 118 rfl) (ww hw 111 rfl) er16 f31 (rm22_61 l hw w3 br13 ci0 w4 w5 [(.int 101), (.int 108), (.int 101), (.int 99), (.int 116), (.int 105), (.int 111), (.int 110)] kl1 8 8 8 (-8) 9 (-7) 8 br7 b1 [(.int z2)] k1 1 1 10 (-6) 9 10 hr16 n0 Z_9 f32 hc5 f33 f34 f35 f36 f37 (Nat.le_of_ble_eq_true rfl) (Nat.le_of_ble_eq_true rfl) (Nat.le_of_ble_eq_true rfl) (Nat.le_of_ble_eq_true rfl) (Nat.le_of_ble_eq_true rfl) (Nat.le_of_ble_eq_true rfl) f38 f39 f40 f41 f42 f43 (Nat.le_of_ble_eq_true rfl) (Nat.le_of_ble_eq_true rfl) (Nat.le_of_ble_eq_true rfl) (Nat.le_of_ble_eq_true rfl) (Nat.le_of_ble_eq_true rfl) (Nat.le_of_ble_eq_true rfl) (Nat.le_of_ble_eq_true rfl) (by decide)) (st := [(.ref br13), (.ref w3)]) rfl 0 rfl (by decide) (pc := 207) (Ls := (lc31 i0 i1 i2 i3 i4 z1 1 z2 z3 z4 br4 br7 br13 w3 br16)) hml rfl (lenOf pd_29 rfl) at_207 hby hSr16 hkr16 (own_EW hw) C9.1 all0
            obtain ⟨b2, b3, k2, rfl, Nr17q, Kr17, sz2, sz3, ne14, f44, f45, f46, f47, f48⟩ := hQr17
            have C10 := C9.trans CRr17
            have f49 : Arv Z Tr17.heap b3 k2 .byte (10 : Int32) [(.int 101), (.int 108), (.int 101), (.int 99), (.int 116), (.int 105), (.int 111), (.int 110), (.int 32), (.int z2)] (.int (0 : Int32)) := f48
            have N9 := Fr.app N8 Nr17q
            have f50 : Exa Z Tr17.heap br16 zs6 := (fr16a.keep Kr17)
            have f51 : Fld Z Tr17.heap br16 zs6 "value" "[B" (.ref bvr16) := (fr16c.keep Kr17 nin0)
            have f52 : Arv Z Tr17.heap bvr16 clr16 .byte (8 : Int32) [(.int 101), (.int 108), (.int 101), (.int 99), (.int 116), (.int 105), (.int 111), (.int 110)] (.int (0 : Int32)) := (fr16d.keep Kr17 nin0)
            have f53 : Sta Z Tr17.heap zs6 zs7 "Z" (.int ci0) := (own_staK f32 Kr17 all0)
            have f54 : Fld Z Tr17.heap br16 zs6 "coder" "B" (.int 0) := (fr16b.keep Kr17 nin0)
            have Z_10 : n0 ≤ Tr17.heap.size := Nat.le_trans Z_9 Kr17.1
            obtain ⟨_, Tr18, Lr18, Xr18, hQr18, str18⟩ := ocallV Xr17 hx hZ zm12 zm12 hown (ww hw 228 rfl) (ww hw 72 rfl) (notFace_of_selects (args := #[]) (mvT hZ (ww hw 74 rfl))) (ww hw 74 rfl) (ww hw 73 rfl) (by decide) (ww hw 75 rfl) (ww hw 8 rfl) rfl f50 (rm14_24 l hw br16 bvr16 8 ci0 8 Tr17.heap n0 Z_10 f51 (own_lnV f52) f50 f53 hc5 f54 (by decide)) (st := [(.ref br16)]) rfl 0 rfl (by decide) (pc := 221) (Ls := (lc41 i0 i1 i2 i3 i4 z1 1 z2 z3 z4 br4 br7 br13 w3 br16 b2)) hml rfl (lenOf pd_12 rfl) at_221 hby
            obtain ⟨rfl, Nr18q, er18⟩ := hQr18
            have N10 := Fr.app N9 Nr18q
            obtain ⟨_, Tr19, Lr19, Xr19, hQr19, str19⟩ := ocallV Xr18 hx hZ zm12 zm12 hown (ww hw 228 rfl) (ww hw 72 rfl) (notFace_of_selects (args := #[]) (mvT hZ (ww hw 74 rfl))) (ww hw 74 rfl) (ww hw 73 rfl) (by decide) (ww hw 75 rfl) (ww hw 8 rfl) er18 f44 (rm14_24 l hw b2 b3 10 ci0 10 Tr17.heap n0 Z_10 f46 (own_lnV f49) f44 f53 hc5 f45 (by decide)) (st := [(.ref b2)]) rfl 0 rfl (by decide) (pc := 228) (Ls := (lc42 i0 i1 i2 i3 i4 z1 1 z2 z3 z4 br4 br7 br13 w3 br16 b2 8)) hml rfl (lenOf pd_12 rfl) at_228 hby
            obtain ⟨rfl, Nr19q, er19⟩ := hQr19
            have N11 := Fr.app N10 Nr19q
            have hc27 : ¬ ((i0 &&& (3 : Int32)) = (2 : Int32)) := hk5
            have hs28 : ¬ (z1 = (2 : Int32)) := by rw [hz1]; exact hc27
            refine own_go (U' := Tr19.setTop (mkF m 238 (lc42 i0 i1 i2 i3 i4 z1 1 z2 z3 z4 br4 br7 br13 w3 br16 b2 8) [(.int 10), (.int 10)])) (fun t k => oicY (pc := 179) Xr14 hx hby at_179 194 (feq hs28).2 (by decide) (str15 _ (oastore Xr15 hx hby at_197 (lc30 i0 i1 i2 i3 i4 z1 1 z2 z3 z4 br4 br7 br13 w3) rfl rfl (str16 _ (oastore Xr16 hx hby at_201 (lc31 i0 i1 i2 i3 i4 z1 1 z2 z3 z4 br4 br7 br13 w3 br16) rfl rfl (oaload Xr16 hx hby at_203 rfl rfl (oaload Xr16 hx hby at_205 rfl rfl (str17 _ (oastore Xr17 hx hby at_210 (lc41 i0 i1 i2 i3 i4 z1 1 z2 z3 z4 br4 br7 br13 w3 br16 b2) rfl rfl (oaload Xr17 hx hby at_212 rfl rfl (onnY (pc := 214) Xr17 hx hby at_214 219 (by decide) (oaload Xr17 hx hby at_219 rfl rfl (str18 _ (oistore Xr18 hx hby at_224 (lc42 i0 i1 i2 i3 i4 z1 1 z2 z3 z4 br4 br7 br13 w3 br16 b2 8) rfl (oaload Xr18 hx hby at_226 rfl rfl (str19 _ (oiload Xr19 hx hby at_231 rfl (oiconst Xr19 hx hby at_233 (oiadd Xr19 hx hby at_234 (oiload Xr19 hx hby at_235 rfl (oiadd Xr19 hx hby at_237 k))))))))))))))))))))) ?_
            have f55 : Sta Z Tr17.heap zs16 zs19 zs20 vy0 := (own_staK (Sta.ext Er16 (own_staK f28 Kr14 (allS (own_nsF f22) all0))) Kr17 all0)
            obtain ⟨_, Tr20, Lr20, Xr20, hQr20, str20⟩ := ocallS Xr19 hx hZ zm28 hown (ww hw 229 rfl) (ww hw 230 rfl) (by decide) (ww hw 231 rfl) (ww hw 3 rfl) er19 (rm43_63 l hw b2 0 br16 0 bvr16 8 ci0 8 0 b3 10 vy0 101 101 Tr17.heap n0 Z_10 f50 f51 (own_lnV f52) f53 hc5 f54 f44 f45 f46 (own_lnV f49) f55 hc12 (own_elV (j := (0 : Int32)) f49 (by decide) (by decide) rfl) (own_elV (j := (0 : Int32)) f52 (by decide) (by decide) rfl) (by decide)) (st := [(.int 0), (.ref br16), (.int 0), (.ref b2)]) rfl 0 rfl (by decide) (pc := 249) (Ls := (lc42 i0 i1 i2 i3 i4 z1 1 z2 z3 z4 br4 br7 br13 w3 br16 b2 8)) hml rfl (lenOf pd_30 rfl) at_249 hby
            obtain ⟨rfl, Nr20q, er20⟩ := hQr20
            have N12 := Fr.app N11 Nr20q
            refine own_go (U' := Tr20.setTop (mkF m 252 (lc42 i0 i1 i2 i3 i4 z1 1 z2 z3 z4 br4 br7 br13 w3 br16 b2 8) [(.int 1)])) (fun t k => oicY (pc := 238) Xr19 hx hby at_238 243 (by decide) (by decide) (oaload Xr19 hx hby at_243 rfl rfl (oiconst Xr19 hx hby at_245 (oaload Xr19 hx hby at_246 rfl rfl (oiconst Xr19 hx hby at_248 (str20 _ k)))))) ?_
            obtain ⟨_, Tr21, Lr21, Xr21, hQr21, str21⟩ := ocallS Xr20 hx hZ zm28 hown (ww hw 229 rfl) (ww hw 230 rfl) (by decide) (ww hw 231 rfl) (ww hw 3 rfl) er20 (rm43_63 l hw b2 0 br16 1 bvr16 8 ci0 8 1 b3 10 vy0 108 108 Tr17.heap n0 Z_10 f50 f51 (own_lnV f52) f53 hc5 f54 f44 f45 f46 (own_lnV f49) f55 hc12 (own_elV (j := (1 : Int32)) f49 (by decide) (by decide) rfl) (own_elV (j := (1 : Int32)) f52 (by decide) (by decide) rfl) (by decide)) (st := [(.int 1), (.ref br16), (.int 0), (.ref b2)]) rfl 0 rfl (by decide) (pc := 261) (Ls := (lc42 i0 i1 i2 i3 i4 z1 1 z2 z3 z4 br4 br7 br13 w3 br16 b2 8)) hml rfl (lenOf pd_30 rfl) at_261 hby
            obtain ⟨rfl, Nr21q, er21⟩ := hQr21
            have N13 := Fr.app N12 Nr21q
            refine own_go (U' := Tr21.setTop (mkF m 264 (lc42 i0 i1 i2 i3 i4 z1 1 z2 z3 z4 br4 br7 br13 w3 br16 b2 8) [(.int 1)])) (fun t k => oifN Xr20 hx hby at_252 (by decide) (oaload Xr20 hx hby at_255 rfl rfl (oiconst Xr20 hx hby at_257 (oaload Xr20 hx hby at_258 rfl rfl (oiconst Xr20 hx hby at_260 (str21 _ k)))))) ?_
            obtain ⟨_, Tr22, Lr22, Xr22, hQr22, str22⟩ := ocallS Xr21 hx hZ zm28 hown (ww hw 229 rfl) (ww hw 230 rfl) (by decide) (ww hw 231 rfl) (ww hw 3 rfl) er21 (rm43_63 l hw b2 0 br16 2 bvr16 8 ci0 8 2 b3 10 vy0 101 101 Tr17.heap n0 Z_10 f50 f51 (own_lnV f52) f53 hc5 f54 f44 f45 f46 (own_lnV f49) f55 hc12 (own_elV (j := (2 : Int32)) f49 (by decide) (by decide) rfl) (own_elV (j := (2 : Int32)) f52 (by decide) (by decide) rfl) (by decide)) (st := [(.int 2), (.ref br16), (.int 0), (.ref b2)]) rfl 0 rfl (by decide) (pc := 273) (Ls := (lc42 i0 i1 i2 i3 i4 z1 1 z2 z3 z4 br4 br7 br13 w3 br16 b2 8)) hml rfl (lenOf pd_30 rfl) at_273 hby
            obtain ⟨rfl, Nr22q, er22⟩ := hQr22
            have N14 := Fr.app N13 Nr22q
            refine own_go (U' := Tr22.setTop (mkF m 276 (lc42 i0 i1 i2 i3 i4 z1 1 z2 z3 z4 br4 br7 br13 w3 br16 b2 8) [(.int 1)])) (fun t k => oifN Xr21 hx hby at_264 (by decide) (oaload Xr21 hx hby at_267 rfl rfl (oiconst Xr21 hx hby at_269 (oaload Xr21 hx hby at_270 rfl rfl (oiconst Xr21 hx hby at_272 (str22 _ k)))))) ?_
            obtain ⟨_, Tr23, Lr23, Xr23, hQr23, str23⟩ := ocallS Xr22 hx hZ zm28 hown (ww hw 229 rfl) (ww hw 230 rfl) (by decide) (ww hw 231 rfl) (ww hw 3 rfl) er22 (rm43_63 l hw b2 0 br16 3 bvr16 8 ci0 8 3 b3 10 vy0 99 99 Tr17.heap n0 Z_10 f50 f51 (own_lnV f52) f53 hc5 f54 f44 f45 f46 (own_lnV f49) f55 hc12 (own_elV (j := (3 : Int32)) f49 (by decide) (by decide) rfl) (own_elV (j := (3 : Int32)) f52 (by decide) (by decide) rfl) (by decide)) (st := [(.int 3), (.ref br16), (.int 0), (.ref b2)]) rfl 0 rfl (by decide) (pc := 285) (Ls := (lc42 i0 i1 i2 i3 i4 z1 1 z2 z3 z4 br4 br7 br13 w3 br16 b2 8)) hml rfl (lenOf pd_30 rfl) at_285 hby
            obtain ⟨rfl, Nr23q, er23⟩ := hQr23
            have N15 := Fr.app N14 Nr23q
            refine own_go (U' := Tr23.setTop (mkF m 288 (lc42 i0 i1 i2 i3 i4 z1 1 z2 z3 z4 br4 br7 br13 w3 br16 b2 8) [(.int 1)])) (fun t k => oifN Xr22 hx hby at_276 (by decide) (oaload Xr22 hx hby at_279 rfl rfl (oiconst Xr22 hx hby at_281 (oaload Xr22 hx hby at_282 rfl rfl (oiconst Xr22 hx hby at_284 (str23 _ k)))))) ?_
            obtain ⟨_, Tr24, Lr24, Xr24, hQr24, str24⟩ := ocallS Xr23 hx hZ zm28 hown (ww hw 229 rfl) (ww hw 230 rfl) (by decide) (ww hw 231 rfl) (ww hw 3 rfl) er23 (rm43_63 l hw b2 0 br16 4 bvr16 8 ci0 8 4 b3 10 vy0 116 116 Tr17.heap n0 Z_10 f50 f51 (own_lnV f52) f53 hc5 f54 f44 f45 f46 (own_lnV f49) f55 hc12 (own_elV (j := (4 : Int32)) f49 (by decide) (by decide) rfl) (own_elV (j := (4 : Int32)) f52 (by decide) (by decide) rfl) (by decide)) (st := [(.int 4), (.ref br16), (.int 0), (.ref b2)]) rfl 0 rfl (by decide) (pc := 297) (Ls := (lc42 i0 i1 i2 i3 i4 z1 1 z2 z3 z4 br4 br7 br13 w3 br16 b2 8)) hml rfl (lenOf pd_30 rfl) at_297 hby
            obtain ⟨rfl, Nr24q, er24⟩ := hQr24
            have N16 := Fr.app N15 Nr24q
            refine own_go (U' := Tr24.setTop (mkF m 300 (lc42 i0 i1 i2 i3 i4 z1 1 z2 z3 z4 br4 br7 br13 w3 br16 b2 8) [(.int 1)])) (fun t k => oifN Xr23 hx hby at_288 (by decide) (oaload Xr23 hx hby at_291 rfl rfl (oiconst Xr23 hx hby at_293 (oaload Xr23 hx hby at_294 rfl rfl (oiconst Xr23 hx hby at_296 (str24 _ k)))))) ?_
            obtain ⟨_, Tr25, Lr25, Xr25, hQr25, str25⟩ := ocallS Xr24 hx hZ zm28 hown (ww hw 229 rfl) (ww hw 230 rfl) (by decide) (ww hw 231 rfl) (ww hw 3 rfl) er24 (rm43_63 l hw b2 0 br16 5 bvr16 8 ci0 8 5 b3 10 vy0 105 105 Tr17.heap n0 Z_10 f50 f51 (own_lnV f52) f53 hc5 f54 f44 f45 f46 (own_lnV f49) f55 hc12 (own_elV (j := (5 : Int32)) f49 (by decide) (by decide) rfl) (own_elV (j := (5 : Int32)) f52 (by decide) (by decide) rfl) (by decide)) (st := [(.int 5), (.ref br16), (.int 0), (.ref b2)]) rfl 0 rfl (by decide) (pc := 309) (Ls := (lc42 i0 i1 i2 i3 i4 z1 1 z2 z3 z4 br4 br7 br13 w3 br16 b2 8)) hml rfl (lenOf pd_30 rfl) at_309 hby
            obtain ⟨rfl, Nr25q, er25⟩ := hQr25
            have N17 := Fr.app N16 Nr25q
            refine own_go (U' := Tr25.setTop (mkF m 312 (lc42 i0 i1 i2 i3 i4 z1 1 z2 z3 z4 br4 br7 br13 w3 br16 b2 8) [(.int 1)])) (fun t k => oifN Xr24 hx hby at_300 (by decide) (oaload Xr24 hx hby at_303 rfl rfl (oiconst Xr24 hx hby at_305 (oaload Xr24 hx hby at_306 rfl rfl (oiconst Xr24 hx hby at_308 (str25 _ k)))))) ?_
            obtain ⟨_, Tr26, Lr26, Xr26, hQr26, str26⟩ := ocallS Xr25 hx hZ zm28 hown (ww hw 229 rfl) (ww hw 230 rfl) (by decide) (ww hw 231 rfl) (ww hw 3 rfl) er25 (rm43_63 l hw b2 0 br16 6 bvr16 8 ci0 8 6 b3 10 vy0 111 111 Tr17.heap n0 Z_10 f50 f51 (own_lnV f52) f53 hc5 f54 f44 f45 f46 (own_lnV f49) f55 hc12 (own_elV (j := (6 : Int32)) f49 (by decide) (by decide) rfl) (own_elV (j := (6 : Int32)) f52 (by decide) (by decide) rfl) (by decide)) (st := [(.int 6), (.ref br16), (.int 0), (.ref b2)]) rfl 0 rfl (by decide) (pc := 322) (Ls := (lc42 i0 i1 i2 i3 i4 z1 1 z2 z3 z4 br4 br7 br13 w3 br16 b2 8)) hml rfl (lenOf pd_30 rfl) at_322 hby
            obtain ⟨rfl, Nr26q, er26⟩ := hQr26
            have N18 := Fr.app N17 Nr26q
            refine own_go (U' := Tr26.setTop (mkF m 325 (lc42 i0 i1 i2 i3 i4 z1 1 z2 z3 z4 br4 br7 br13 w3 br16 b2 8) [(.int 1)])) (fun t k => oifN Xr25 hx hby at_312 (by decide) (oaload Xr25 hx hby at_315 rfl rfl (oiconst Xr25 hx hby at_317 (oaload Xr25 hx hby at_318 rfl rfl (obipush Xr25 hx hby at_320 (str26 _ k)))))) ?_
            obtain ⟨_, Tr27, Lr27, Xr27, hQr27, str27⟩ := ocallS Xr26 hx hZ zm28 hown (ww hw 229 rfl) (ww hw 230 rfl) (by decide) (ww hw 231 rfl) (ww hw 3 rfl) er26 (rm43_63 l hw b2 0 br16 7 bvr16 8 ci0 8 7 b3 10 vy0 110 110 Tr17.heap n0 Z_10 f50 f51 (own_lnV f52) f53 hc5 f54 f44 f45 f46 (own_lnV f49) f55 hc12 (own_elV (j := (7 : Int32)) f49 (by decide) (by decide) rfl) (own_elV (j := (7 : Int32)) f52 (by decide) (by decide) rfl) (by decide)) (st := [(.int 7), (.ref br16), (.int 0), (.ref b2)]) rfl 0 rfl (by decide) (pc := 335) (Ls := (lc42 i0 i1 i2 i3 i4 z1 1 z2 z3 z4 br4 br7 br13 w3 br16 b2 8)) hml rfl (lenOf pd_30 rfl) at_335 hby
            obtain ⟨rfl, Nr27q, er27⟩ := hQr27
            have N19 := Fr.app N18 Nr27q
            refine own_go (U' := Tr27.setTop (mkF m 338 (lc42 i0 i1 i2 i3 i4 z1 1 z2 z3 z4 br4 br7 br13 w3 br16 b2 8) [(.int 1)])) (fun t k => oifN Xr26 hx hby at_325 (by decide) (oaload Xr26 hx hby at_328 rfl rfl (oiconst Xr26 hx hby at_330 (oaload Xr26 hx hby at_331 rfl rfl (obipush Xr26 hx hby at_333 (str27 _ k)))))) ?_
            obtain ⟨_, Tr28, Lr28, Xr28, hQr28, str28⟩ := ocallS Xr27 hx hZ zm28 hown (ww hw 229 rfl) (ww hw 230 rfl) (by decide) (ww hw 231 rfl) (ww hw 3 rfl) er27 (rm43_64 l hw b2 0 br16 8 bvr16 8 ci0 8 Tr17.heap n0 Z_10 f50 f51 (own_lnV f52) f53 hc5 f54 (by decide)) (st := [(.int 8), (.ref br16), (.int 0), (.ref b2)]) rfl 0 rfl (by decide) (pc := 348) (Ls := (lc42 i0 i1 i2 i3 i4 z1 1 z2 z3 z4 br4 br7 br13 w3 br16 b2 8)) hml rfl (lenOf pd_30 rfl) at_348 hby
            obtain ⟨rfl, Nr28q, er28⟩ := hQr28
            have N20 := Fr.app N19 Nr28q
            refine own_go (U' := Tr28.setTop (mkF m 351 (lc42 i0 i1 i2 i3 i4 z1 1 z2 z3 z4 br4 br7 br13 w3 br16 b2 8) [(.int 1)])) (fun t k => oifN Xr27 hx hby at_338 (by decide) (oaload Xr27 hx hby at_341 rfl rfl (oiconst Xr27 hx hby at_343 (oaload Xr27 hx hby at_344 rfl rfl (obipush Xr27 hx hby at_346 (str28 _ k)))))) ?_
            obtain ⟨_, Tr29, Lr29, Xr29, hQr29, str29⟩ := ocallS Xr28 hx hZ zm28 hown (ww hw 229 rfl) (ww hw 230 rfl) (by decide) (ww hw 231 rfl) (ww hw 3 rfl) er28 (rm43_64 l hw b2 0 br16 9 bvr16 8 ci0 8 Tr17.heap n0 Z_10 f50 f51 (own_lnV f52) f53 hc5 f54 (by decide)) (st := [(.int 9), (.ref br16), (.int 0), (.ref b2)]) rfl 0 rfl (by decide) (pc := 361) (Ls := (lc42 i0 i1 i2 i3 i4 z1 1 z2 z3 z4 br4 br7 br13 w3 br16 b2 8)) hml rfl (lenOf pd_30 rfl) at_361 hby
            obtain ⟨rfl, Nr29q, er29⟩ := hQr29
            have N21 := Fr.app N20 Nr29q
            refine own_go (U' := Tr29.setTop (mkF m 364 (lc42 i0 i1 i2 i3 i4 z1 1 z2 z3 z4 br4 br7 br13 w3 br16 b2 8) [(.int 1)])) (fun t k => oifN Xr28 hx hby at_351 (by decide) (oaload Xr28 hx hby at_354 rfl rfl (oiconst Xr28 hx hby at_356 (oaload Xr28 hx hby at_357 rfl rfl (obipush Xr28 hx hby at_359 (str29 _ k)))))) ?_
            obtain ⟨_, Tr30, Lr30, Xr30, hQr30, str30⟩ := ocallV Xr29 hx hZ zm17 zm17 hown (ww hw 232 rfl) (ww hw 82 rfl) (notFace_of_selects (args := #[]) (mvT hZ (ww hw 84 rfl))) (ww hw 84 rfl) (ww hw 83 rfl) (by decide) (ww hw 85 rfl) (ww hw 8 rfl) er29 f44 (rm16_65 l hw b2 8 ci0 b3 10 vy0 32 Tr17.heap n0 Z_10 f44 f53 hc5 f45 f46 (own_lnV f49) f55 hc12 (own_elV (j := (8 : Int32)) f49 (by decide) (by decide) rfl) (by decide)) (st := [(.int 8), (.ref b2)]) rfl 0 rfl (by decide) (pc := 378) (Ls := (lc44 i0 i1 i2 i3 i4 z1 1 z2 z3 z4 br4 br7 br13 w3 br16 b2 8 1)) hml rfl (lenOf pd_0 rfl) at_378 hby
            obtain ⟨rfl, Nr30q, er30⟩ := hQr30
            have N22 := Fr.app N21 Nr30q
            refine own_go (U' := Tr30.setTop (mkF m 383 (lc44 i0 i1 i2 i3 i4 z1 1 z2 z3 z4 br4 br7 br13 w3 br16 b2 8 1) [(.int 32), (.int 32)])) (fun t k => oifN Xr29 hx hby at_364 (by decide) (oiconst Xr29 hx hby at_367 (ogoto (pc := 368) Xr29 hx hby at_368 372 (by decide) (oistore Xr29 hx hby at_372 (lc44 i0 i1 i2 i3 i4 z1 1 z2 z3 z4 br4 br7 br13 w3 br16 b2 8 1) rfl (oaload Xr29 hx hby at_374 rfl rfl (oiload Xr29 hx hby at_376 rfl (str30 _ (obipush Xr30 hx hby at_381 k)))))))) ?_
            refine own_go (U' := Tr30.setTop (mkF m 402 (lc45 i0 i1 i2 i3 i4 z1 1 z2 z3 z4 br4 br7 br13 w3 br16 b2 8 1 1) [(.int 0), (.ref br7), (.int 9), (.ref b2)])) (fun t k => oicN Xr30 hx hby at_383 (by decide) (oiconst Xr30 hx hby at_386 (ogoto (pc := 387) Xr30 hx hby at_387 391 (by decide) (oistore Xr30 hx hby at_391 (lc45 i0 i1 i2 i3 i4 z1 1 z2 z3 z4 br4 br7 br13 w3 br16 b2 8 1 1) rfl (oaload Xr30 hx hby at_393 rfl rfl (oiload Xr30 hx hby at_395 rfl (oiconst Xr30 hx hby at_397 (oiadd Xr30 hx hby at_398 (oaload Xr30 hx hby at_399 rfl rfl (oiconst Xr30 hx hby at_401 k)))))))))) ?_
            have f56 : Exa Z Tr17.heap br7 zs6 := (f40.keep Kr17)
            have f57 : Fld Z Tr17.heap br7 zs6 "value" "[B" (.ref b1) := (f41.keep Kr17 nin0)
            have f58 : Arv Z Tr17.heap b1 k1 .byte (1 : Int32) [(.int z2)] (.int (0 : Int32)) := (f42.keep Kr17 nin0)
            have f59 : Fld Z Tr17.heap br7 zs6 "coder" "B" (.int 0) := (f43.keep Kr17 nin0)
            obtain ⟨_, Tr31, Lr31, Xr31, hQr31, str31⟩ := ocallS Xr30 hx hZ zm28 hown (ww hw 229 rfl) (ww hw 230 rfl) (by decide) (ww hw 231 rfl) (ww hw 3 rfl) er30 (rm43_66 l hw b2 9 br7 0 b1 1 ci0 1 9 b3 10 vy0 z2 z2 Tr17.heap n0 Z_10 f56 f57 (own_lnV f58) f53 hc5 f59 f44 f45 f46 (own_lnV f49) f55 hc12 (own_elV (j := (9 : Int32)) f49 (by decide) (by decide) rfl) hs2 hs9 hs4 (own_elV (j := (0 : Int32)) f58 (by decide) (by decide) rfl) hs2 hs9 hs4 rfl (by decide)) (st := [(.int 0), (.ref br7), (.int 9), (.ref b2)]) rfl 0 rfl (by decide) (pc := 402) (Ls := (lc45 i0 i1 i2 i3 i4 z1 1 z2 z3 z4 br4 br7 br13 w3 br16 b2 8 1 1)) hml rfl (lenOf pd_30 rfl) at_402 hby
            obtain ⟨rfl, Nr31q, er31⟩ := hQr31
            have N23 := Fr.app N22 Nr31q
            refine own_go (U' := Tr31.setTop (mkF m 405 (lc45 i0 i1 i2 i3 i4 z1 1 z2 z3 z4 br4 br7 br13 w3 br16 b2 8 1 1) [(.int 1)])) (fun t k => str31 _ k) ?_
            obtain ⟨_, Tr32, Lr32, Xr32, hQr32, str32⟩ := ocallS Xr31 hx hZ zm28 hown (ww hw 229 rfl) (ww hw 230 rfl) (by decide) (ww hw 231 rfl) (ww hw 3 rfl) er31 (rm43_64 l hw b2 9 br7 1 b1 1 ci0 1 Tr17.heap n0 Z_10 f56 f57 (own_lnV f58) f53 hc5 f59 (by decide)) (st := [(.int 1), (.ref br7), (.int 9), (.ref b2)]) rfl 0 rfl (by decide) (pc := 417) (Ls := (lc45 i0 i1 i2 i3 i4 z1 1 z2 z3 z4 br4 br7 br13 w3 br16 b2 8 1 1)) hml rfl (lenOf pd_30 rfl) at_417 hby
            obtain ⟨rfl, Nr32q, er32⟩ := hQr32
            have N24 := Fr.app N23 Nr32q
            refine own_go (U' := Tr32.setTop (mkF m 420 (lc45 i0 i1 i2 i3 i4 z1 1 z2 z3 z4 br4 br7 br13 w3 br16 b2 8 1 1) [(.int 1)])) (fun t k => oifN Xr31 hx hby at_405 (by decide) (oaload Xr31 hx hby at_408 rfl rfl (oiload Xr31 hx hby at_410 rfl (oiconst Xr31 hx hby at_412 (oiadd Xr31 hx hby at_413 (oaload Xr31 hx hby at_414 rfl rfl (oiconst Xr31 hx hby at_416 (str32 _ k)))))))) ?_
            obtain ⟨_, Tr33, Lr33, Xr33, hQr33, str33⟩ := ocallS Xr32 hx hZ zm28 hown (ww hw 229 rfl) (ww hw 230 rfl) (by decide) (ww hw 231 rfl) (ww hw 3 rfl) er32 (rm43_64 l hw b2 9 br7 2 b1 1 ci0 1 Tr17.heap n0 Z_10 f56 f57 (own_lnV f58) f53 hc5 f59 (by decide)) (st := [(.int 2), (.ref br7), (.int 9), (.ref b2)]) rfl 0 rfl (by decide) (pc := 432) (Ls := (lc45 i0 i1 i2 i3 i4 z1 1 z2 z3 z4 br4 br7 br13 w3 br16 b2 8 1 1)) hml rfl (lenOf pd_30 rfl) at_432 hby
            obtain ⟨rfl, Nr33q, er33⟩ := hQr33
            have N25 := Fr.app N24 Nr33q
            refine own_go (U' := Tr33.setTop (mkF m 435 (lc45 i0 i1 i2 i3 i4 z1 1 z2 z3 z4 br4 br7 br13 w3 br16 b2 8 1 1) [(.int 1)])) (fun t k => oifN Xr32 hx hby at_420 (by decide) (oaload Xr32 hx hby at_423 rfl rfl (oiload Xr32 hx hby at_425 rfl (oiconst Xr32 hx hby at_427 (oiadd Xr32 hx hby at_428 (oaload Xr32 hx hby at_429 rfl rfl (oiconst Xr32 hx hby at_431 (str33 _ k)))))))) ?_
            refine own_go (U' := Tr33.setTop (mkF m 447 (lc46 i0 i1 i2 i3 i4 z1 1 z2 z3 z4 br4 br7 br13 w3 br16 b2 8 1 1 1) [(.int 1)])) (fun t k => oifN Xr33 hx hby at_435 (by decide) (oiconst Xr33 hx hby at_438 (ogoto (pc := 439) Xr33 hx hby at_439 443 (by decide) (oistore Xr33 hx hby at_443 (lc46 i0 i1 i2 i3 i4 z1 1 z2 z3 z4 br4 br7 br13 w3 br16 b2 8 1 1 1) rfl (oiload Xr33 hx hby at_445 rfl k))))) ?_
            refine own_go (U' := Tr33.setTop (mkF m 452 (lc46 i0 i1 i2 i3 i4 z1 1 z2 z3 z4 br4 br7 br13 w3 br16 b2 8 1 1 1) [(.int 1)])) (fun t k => oifN Xr33 hx hby at_447 (by decide) (oiload Xr33 hx hby at_450 rfl k)) ?_
            refine own_go (U' := Tr33.setTop (mkF m 457 (lc46 i0 i1 i2 i3 i4 z1 1 z2 z3 z4 br4 br7 br13 w3 br16 b2 8 1 1 1) [(.int 1)])) (fun t k => oifN Xr33 hx hby at_452 (by decide) (oiload Xr33 hx hby at_455 rfl k)) ?_
            refine own_go (U' := Tr33.setTop (mkF m 465 (lc46 i0 i1 i2 i3 i4 z1 1 z2 z3 z4 br4 br7 br13 w3 br16 b2 8 1 1 1) [(.int 1)])) (fun t k => oifN Xr33 hx hby at_457 (by decide) (oiconst Xr33 hx hby at_460 (ogoto (pc := 461) Xr33 hx hby at_461 465 (by decide) k))) ?_
            obtain ⟨fs, hr, hrun, hended, hW, hsame⟩ := Xr33.leave (v := some (.int 1)) (fun h => by rw [Bd.returns] at h; cases h)
            have hE := hSr17.ended hW (by show _ ≤ Tr33.heap.size; rw [er33]; exact (Nat.le_refl _)) hsame
            refine own_out ⟨_, _, ?_, hrun, hended, _, _, rfl, ?_, ?_, ⟨_, rfl⟩, hE.1, hE.2.1, hE.2.2.mono (by decide) (by decide)⟩
            · exact retN Xr33 hx (t := .boolean) Bd.returns (by simp) (hb hby at_465) hr
            · exact ⟨rfl, N25⟩
            · show CHr Z consts_1 s.vm s.heap Tr33.vm Tr33.heap; rw [hh, er33]; exact C10.trans (CHv.at (s := s) Xr33 hZ (own_EW hw) C10.1)
    · have hc29 : ¬ ((own_dot1 (own_pk i2)) = (0 : Int32)) := hk2
      have hs30 : ¬ ((own_dot1 z2) = (0 : Int32)) := by rw [hz2]; exact hc29
      refine own_go (U' := Tr10.setTop (mkF m 129 (lc18 i0 i1 i2 i3 i4 z1 1 z2 z3 z4 br4 br7) [(.int 1)])) (fun t k => oifY (pc := 115) Xr10 hx hby at_115 128 ((if0 _ _).trans (feq hs30).2) (by decide) (oiconst Xr10 hx hby at_128 k)) ?_
      obtain ⟨fs, hr, hrun, hended, hW, hsame⟩ := Xr10.leave (v := some (.int 1)) (fun h => by rw [Bd.returns] at h; cases h)
      have hE := hSr9.ended hW (by show _ ≤ Tr10.heap.size; rw [er10]; exact hkr9) hsame
      refine own_out ⟨_, _, ?_, hrun, hended, _, _, rfl, ?_, ?_, ⟨_, rfl⟩, hE.1, hE.2.1, hE.2.2.mono (by decide) (by decide)⟩
      · exact retN Xr10 hx (t := .boolean) Bd.returns (by simp) (hb hby at_129) hr
      · exact ⟨rfl, N6⟩
      · show CHr Z consts_1 s.vm s.heap Tr10.vm Tr10.heap; rw [hh, er10]; exact C5.trans (CHv.at (s := s) Xr10 hZ (own_EW hw) C5.1)
  · have hv31 : ((i1 &&& (2147483647 : Int32)) % (3 : Int32)) = (1 : Int32) := hk1
    rw [hv31]
    obtain ⟨_, Tr1, Lr1, Xr1, hQr1, str1⟩ := ocallS X0 hx hZ zm0 hown (ww hw 1 rfl) (ww hw 2 rfl) (by decide) (ww hw 4 rfl) (ww hw 3 rfl) e0 (mg1_6 l hw i2 h0 n0 Z0 ) (st := [(.int i2)]) rfl 0 rfl (by decide) (pc := 16) (Ls := (lc1 i0 i1 i2 i3 i4 z1 2)) hml rfl (lenOf pd_0 rfl) at_16 hby
    obtain ⟨rfl, Nr1q, er1⟩ := hQr1
    have N1 := Fr.app N0 Nr1q
    refine own_go (U' := Tr1.setTop (mkF m 21 (lc4 i0 i1 i2 i3 i4 z1 2 (own_pk i2)) [])) (fun t k => oiadd X0 hx hby at_12 (oistore X0 hx hby at_13 (lc1 i0 i1 i2 i3 i4 z1 2) rfl (oiloadN X0 hx hby at_15 rfl (str1 _ (oistore Xr1 hx hby at_19 (lc4 i0 i1 i2 i3 i4 z1 2 (own_pk i2)) rfl k))))) ?_
    obtain ⟨z2, hz2⟩ : ∃ z, z = (own_pk i2) := ⟨_, rfl⟩
    rw [← hz2]
    obtain ⟨_, Tr2, Lr2, Xr2, hQr2, str2⟩ := ocallS Xr1 hx hZ zm0 hown (ww hw 1 rfl) (ww hw 2 rfl) (by decide) (ww hw 4 rfl) (ww hw 3 rfl) er1 (mg1_6 l hw i3 h0 n0 Z0 ) (st := [(.int i3)]) rfl 0 rfl (by decide) (pc := 22) (Ls := (lc4 i0 i1 i2 i3 i4 z1 2 z2)) hml rfl (lenOf pd_0 rfl) at_22 hby
    obtain ⟨rfl, Nr2q, er2⟩ := hQr2
    have N2 := Fr.app N1 Nr2q
    refine own_go (U' := Tr2.setTop (mkF m 27 (lc5 i0 i1 i2 i3 i4 z1 2 z2 (own_pk i3)) [])) (fun t k => oiloadN Xr1 hx hby at_21 rfl (str2 _ (oistore Xr2 hx hby at_25 (lc5 i0 i1 i2 i3 i4 z1 2 z2 (own_pk i3)) rfl k))) ?_
    obtain ⟨z3, hz3⟩ : ∃ z, z = (own_pk i3) := ⟨_, rfl⟩
    rw [← hz3]
    obtain ⟨_, Tr3, Lr3, Xr3, hQr3, str3⟩ := ocallS Xr2 hx hZ zm0 hown (ww hw 1 rfl) (ww hw 2 rfl) (by decide) (ww hw 4 rfl) (ww hw 3 rfl) er2 (mg1_6 l hw i4 h0 n0 Z0 ) (st := [(.int i4)]) rfl 0 rfl (by decide) (pc := 29) (Ls := (lc5 i0 i1 i2 i3 i4 z1 2 z2 z3)) hml rfl (lenOf pd_0 rfl) at_29 hby
    obtain ⟨rfl, Nr3q, er3⟩ := hQr3
    have N3 := Fr.app N2 Nr3q
    refine own_go (U' := Tr3.setTop (mkF m 34 (lc6 i0 i1 i2 i3 i4 z1 2 z2 z3 (own_pk i4)) [])) (fun t k => oiload Xr2 hx hby at_27 rfl (str3 _ (oistore Xr3 hx hby at_32 (lc6 i0 i1 i2 i3 i4 z1 2 z2 z3 (own_pk i4)) rfl k))) ?_
    obtain ⟨z4, hz4⟩ : ∃ z, z = (own_pk i4) := ⟨_, rfl⟩
    rw [← hz4]
    refine own_go (U' := Tr3.setTop (mkF m 37 (lc6 i0 i1 i2 i3 i4 z1 2 z2 z3 z4) [(.int 1), (.int 2)])) (fun t k => oiload Xr3 hx hby at_34 rfl (oiconst Xr3 hx hby at_36 k)) ?_
    refine own_go (U' := Tr3.setTop (mkF m 56 (lc6 i0 i1 i2 i3 i4 z1 2 z2 z3 z4) [(.int 2), (.int 2)])) (fun t k => oicY (pc := 37) Xr3 hx hby at_37 53 (by decide) (by decide) (oiload Xr3 hx hby at_53 rfl (oiconst Xr3 hx hby at_55 k))) ?_
    obtain ⟨Tr4, hr4, kr4, Xr4, er4, Er4, Ar4, Br4, str4⟩ := newPE Xr3 hx hZ (ww hw 5 rfl) er3 (g := (mkF m 60 (lc6 i0 i1 i2 i3 i4 z1 2 z2 z3 z4) [(.int 2)])) rfl (hb hby at_60) rfl (by decide) (cap := 2) (by decide) (by decide) (by decide) (by decide) (ad := "[C") (by decide)
    obtain ⟨br4, gr4⟩ : ∃ z, z = h0.size := ⟨_, rfl⟩
    rw [← gr4] at Ar4 Br4 str4
    have C1 := C0.trans (CHr.ext Er4 C0.1)
    have f1 : Arv Z hr4 br4 kr4 .char (2 : Int32) [] (.int (0 : Int32)) := Arv.new Ar4 (by decide)
    have f2 : Arv Z hr4 br4 kr4 .char (2 : Int32) [(.int 0)] (.int (0 : Int32)) := f1.pad (pad_rep [] (.int (0 : Int32)) 1)
    obtain ⟨clr5, Arr5, qr5, Sr5, Nr5, Hr5, Gr5⟩ := id f2
    have g1 : n0 ≤ br4 := Nat.le_trans Z0 (Nat.le_of_eq gr4.symm)
    have hinr6 : ¬ ((0 : Int32) < 0 ∨ clr5.slots.size ≤ ((0 : Int32)).toNatClampNeg) := inb_of Sr5 ⟨by decide, by decide⟩
    obtain ⟨Tr6, hr6, Xr6, er6, Wr6, str6⟩ := stC Xr4 hx hZ er4 Arr5 (j := (0 : Int32)) hinr6 (g := (mkF m 66 (lc6 i0 i1 i2 i3 i4 z1 2 z2 z3 z4) [(.int z2), (.int 0), (.ref br4), (.ref br4)])) rfl rfl (hb hby at_66)
    have hc1 : ¬ ((own_pk i2) < (0 : Int32)) := (fun e => by have := Int32.lt_iff_toInt_lt.mp e; have := own_pk_b i2; have := (by decide : ((0 : Int32)).toInt = 0); omega)
    have hs2 : ¬ (z2 < (0 : Int32)) := by rw [hz2]; exact hc1
    have hc3 : (own_pk i2) < (65536 : Int32) := (Int32.lt_iff_toInt_lt.mpr (by have := own_pk_b i2; have := (by decide : ((65536 : Int32)).toInt = 65536); omega))
    have hs4 : z2 < (65536 : Int32) := by rw [hz2]; exact hc3
    rw [show nar .char z2 = z2 from own_i2c hs2 hs4] at Wr6
    have sf1 : Safe Z consts_1 s.vm hr4 br4 := Safe.exa hZ.alike Br4 (by decide) (by decide)
    have C2 := C1.trans (CHr.wr Wr6 sf1 C1.1)
    have N4 := Fr.snoc Xr6 N3 g1
    have f3 : Arv Z hr6 br4 kr4 .char (2 : Int32) [(.int z2)] (.int (0 : Int32)) := Arv.set Arr5 qr5 Sr5 Nr5 Hr5 Gr5 (own_fitC hs2 hs4) Wr6 0 rfl (Nat.le_of_ble_eq_true rfl)
    have f4 : Arv Z hr6 br4 kr4 .char (2 : Int32) [(.int z2), (.int 0)] (.int (0 : Int32)) := f3.pad (pad_rep [(.int z2)] (.int (0 : Int32)) 1)
    obtain ⟨clr7, Arr7, qr7, Sr7, Nr7, Hr7, Gr7⟩ := id f4
    have hinr8 : ¬ ((1 : Int32) < 0 ∨ clr7.slots.size ≤ ((1 : Int32)).toNatClampNeg) := inb_of Sr7 ⟨by decide, by decide⟩
    obtain ⟨Tr8, hr8, Xr8, er8, Wr8, str8⟩ := stC Xr6 hx hZ er6 Arr7 (j := (1 : Int32)) hinr8 (g := (mkF m 71 (lc6 i0 i1 i2 i3 i4 z1 2 z2 z3 z4) [(.int z3), (.int 1), (.ref br4), (.ref br4)])) rfl rfl (hb hby at_71)
    have hc32 : ¬ ((own_pk i3) < (0 : Int32)) := (fun e => by have := Int32.lt_iff_toInt_lt.mp e; have := own_pk_b i3; have := (by decide : ((0 : Int32)).toInt = 0); omega)
    have hs33 : ¬ (z3 < (0 : Int32)) := by rw [hz3]; exact hc32
    have hc34 : (own_pk i3) < (65536 : Int32) := (Int32.lt_iff_toInt_lt.mpr (by have := own_pk_b i3; have := (by decide : ((65536 : Int32)).toInt = 65536); omega))
    have hs35 : z3 < (65536 : Int32) := by rw [hz3]; exact hc34
    rw [show nar .char z3 = z3 from own_i2c hs33 hs35] at Wr8
    have f5 : Exa Z hr6 br4 "[C" := (Exa.wr Wr6 Br4)
    have sf2 : Safe Z consts_1 s.vm hr6 br4 := Safe.exa hZ.alike f5 (by decide) (by decide)
    have C3 := C2.trans (CHr.wr Wr8 sf2 C2.1)
    have N5 := Fr.snoc Xr8 N4 g1
    have f6 : Arv Z hr8 br4 kr4 .char (2 : Int32) [(.int z2), (.int z3)] (.int (0 : Int32)) := Arv.set Arr7 qr7 Sr7 Nr7 Hr7 Gr7 (own_fitC hs33 hs35) Wr8 1 rfl (Nat.le_of_ble_eq_true rfl)
    obtain ⟨Tr9, hr9, Xr9, er9, Er9, Ar9, Dr9, -, str9⟩ := newO Xr8 hx hZ hown (ww hw 6 rfl) (ww hw 7 rfl) (ww hw 8 rfl) er8 (g := (mkF m 97 (lc7 i0 i1 i2 i3 i4 z1 2 z2 z3 z4 br4) [])) rfl (hb hby at_97) (by decide) (by decide)
    obtain ⟨br9, gr9⟩ : ∃ z, z = hr8.size := ⟨_, rfl⟩
    rw [← gr9] at Ar9 Dr9 str9
    have C4 := C3.trans (CHr.ext Er9 C3.1)
    have f7 : Fld Z hr9 br9 zs6 "coder" "B" (.int 0) := Dr9 (Or.inr (ww hw 32 rfl)) (ty := .byte) (by decide)
    have f8 : Fld Z hr9 br9 zs6 "value" "[B" .null := Dr9 (Or.inr (ww hw 34 rfl)) (ty := (.array .byte)) (by decide)
    have f9 : Arv Z hr9 br4 kr4 .char (2 : Int32) [(.int z2), (.int z3)] (.int (0 : Int32)) := (f6.ext Er9)
    have f10 : Sta Z hr9 zs6 zs7 "Z" (.int ci0) := (Sta.ext Er9 (Sta.wr Wr8 (Sta.wr Wr6 (Sta.ext Er4 S30))))
    have Z_1 : n0 ≤ hr4.size := Nat.le_trans Z0 Er4.1
    have Z_2 : n0 ≤ hr6.size := Nat.le_trans Z_1 (Keep.of_wr Wr6).1
    have Z_3 : n0 ≤ hr8.size := Nat.le_trans Z_2 (Keep.of_wr Wr8).1
    have g2 : n0 ≤ br9 := Nat.le_trans Z_3 (Nat.le_of_eq gr9.symm)
    have Z_4 : n0 ≤ hr9.size := Nat.le_trans Z_3 Er9.1
    have hc5 : ¬ (ci0 = (0 : Int32)) := hci0
    have hc6 : ¬ ((255 : Int32) < (own_pk i2)) := (fun e => by have := Int32.lt_iff_toInt_lt.mp e; have := (by decide : ((255 : Int32)).toInt = 255); have := own_pk_b i2; omega)
    have hs7 : ¬ ((255 : Int32) < z2) := by rw [hz2]; exact hc6
    have hc8 : (own_pk i2) < (128 : Int32) := (Int32.lt_iff_toInt_lt.mpr (by have := own_pk_b i2; have := (by decide : ((128 : Int32)).toInt = 128); omega))
    have hs9 : z2 < (128 : Int32) := by rw [hz2]; exact hc8
    have hc36 : ¬ ((255 : Int32) < (own_pk i3)) := (fun e => by have := Int32.lt_iff_toInt_lt.mp e; have := (by decide : ((255 : Int32)).toInt = 255); have := own_pk_b i3; omega)
    have hs37 : ¬ ((255 : Int32) < z3) := by rw [hz3]; exact hc36
    have hc38 : (own_pk i3) < (128 : Int32) := (Int32.lt_iff_toInt_lt.mpr (by have := own_pk_b i3; have := (by decide : ((128 : Int32)).toInt = 128); omega))
    have hs39 : z3 < (128 : Int32) := by rw [hz3]; exact hc38
    obtain ⟨_, Tr10, Lr10, Xr10, hQr10, str10⟩ := ocallI Xr9 hx hZ zm5 rfl hown (ww hw 9 rfl) (ww hw 10 rfl) (by decide) (ww hw 11 rfl) (ww hw 8 rfl) er9 (rm2_71 l hw br9 br4 z2 z3 kr4 ci0 hr9 n0 Z_4 f9 f10 hc5 hs7 hs2 hs9 hs37 hs33 hs39 f7 f8 Ar9 g2) (st := [(.ref br4), (.ref br9), (.ref br9)]) rfl 1 rfl (by decide) (pc := 103) (Ls := (lc7 i0 i1 i2 i3 i4 z1 2 z2 z3 z4 br4)) hml rfl (lenOf pd_5 rfl) at_103 hby
    obtain ⟨b1, k1, rfl, Nr10q, Kr10, sz1, f11, f12, f13, f14⟩ := hQr10
    have sf3 := (Safe.ext Er9 C3.1 (Safe.new (Nat.le_of_eq gr9.symm)))
    have C5 := C4.trans (CHr.keep Kr10 (allS sf3 all0) C4.1)
    have N6 := Fr.app N5 Nr10q
    obtain ⟨br11, Tr11, hr11, kr11, bvr11, clr11, Xr11, er11, Er11, hSr11, hkr11, hZ, hown, fr11a, fr11b, fr11c, fr11d, ltr11, lvr11, CRr11, -, nsr11, str11⟩ := ldcCH (s := s) (vm0 := s.vm) Xr10 hx hZ hown (ww hw 35 rfl) (own_wS hw) rfl ((State.WarmedH.refl s).since 0) (Nat.zero_le _) (own_EW hw) (List.mem_of_getElem? (i := 4) rfl) C5.1 (vs := [(.int 46)]) (z := 1) ⟨by decide, by decide⟩ (by decide) (by decide) (g := (mkF m 110 (lc18 i0 i1 i2 i3 i4 z1 2 z2 z3 z4 br4 br9) [(.ref br9)])) rfl (hb hby at_110) (n := 4) (by decide) (by decide) (by decide) (by decide)
    have C6 := C5.trans CRr11
    have f15 : Exa Z hr11 br9 zs6 := (Exa.ext Er11 (Ar9.keep Kr10))
    have sf4 := (CRr11.safe (f11.lt) (Safe.keep Kr10 (allS sf3 all0) C4.1 sf3))
    have ne1 : br9 ≠ br11 := (nsr11 br9 sf4).1
    have f16 : Sta Z hr11 zs6 zs7 "Z" (.int ci0) := (Sta.ext Er11 (own_staK f10 Kr10 (allS (own_nsF f7) all0)))
    have f17 : Fld Z hr11 br9 zs6 "coder" "B" (.int 0) := (Fld.ext Er11 f11)
    have f18 : Fld Z hr11 br9 zs6 "value" "[B" (.ref b1) := (Fld.ext Er11 f12)
    have f19 : Arv Z hr11 b1 k1 .byte (2 : Int32) [(.int z2), (.int z3)] (.int (0 : Int32)) := (f14.ext Er11)
    have Z_5 : n0 ≤ Tr10.heap.size := Nat.le_trans Z_4 Kr10.1
    have Z_6 : n0 ≤ hr11.size := Nat.le_trans Z_5 Er11.1
    obtain ⟨_, Tr12, Lr12, Xr12, hQr12, str12⟩ := ocallV Xr11 hx hZ zm7 zm7 hown (ww hw 38 rfl) (ww hw 39 rfl) (notFace_of_selects (args := #[]) (mvT hZ (ww hw 41 rfl))) (ww hw 41 rfl) (ww hw 40 rfl) (by decide) (ww hw 42 rfl) (ww hw 8 rfl) er11 f15 (mg8_74 l hw br9 br11 ci0 b1 bvr11 z2 z3 k1 clr11 hr11 n0 Z_6 ne1 fr11a f16 hc5 f17 fr11b f18 fr11c f19 fr11d) (st := [(.ref br11), (.ref br9)]) rfl 0 rfl (by decide) (pc := 112) (Ls := (lc18 i0 i1 i2 i3 i4 z1 2 z2 z3 z4 br4 br9)) hml rfl (lenOf pd_7 rfl) at_112 hby
    obtain ⟨rfl, Nr12q, er12⟩ := hQr12
    have N7 := Fr.app N6 Nr12q
    refine own_go (U' := Tr12.setTop (mkF m 115 (lc18 i0 i1 i2 i3 i4 z1 2 z2 z3 z4 br4 br9) [(.int 0)])) (fun t k => oicN Xr3 hx hby at_56 (by decide) (oiconst Xr3 hx hby at_59 (str4 _ (odup Xr4 hx hby at_62 rfl (oiconst Xr4 hx hby at_63 (oiload Xr4 hx hby at_64 rfl (str6 _ (odup Xr6 hx hby at_67 rfl (oiconst Xr6 hx hby at_68 (oiload Xr6 hx hby at_69 rfl (str8 _ (oastore Xr8 hx hby at_72 (lc7 i0 i1 i2 i3 i4 z1 2 z2 z3 z4 br4) rfl rfl (ogoto (pc := 74) Xr8 hx hby at_74 97 (by decide) (str9 _ (odup Xr9 hx hby at_100 rfl (oaload Xr9 hx hby at_101 rfl rfl (str10 _ (oastore Xr10 hx hby at_106 (lc18 i0 i1 i2 i3 i4 z1 2 z2 z3 z4 br4 br9) rfl rfl (oaload Xr10 hx hby at_108 rfl rfl (str11 _ (str12 _ k))))))))))))))))))))) ?_
    obtain ⟨br13, Tr13, hr13, kr13, bvr13, clr13, Xr13, er13, Er13, hSr13, hkr13, hZ, hown, fr13a, fr13b, fr13c, fr13d, ltr13, lvr13, CRr13, -, nsr13, str13⟩ := ldcCH (s := s) Xr12 hx hZ hown (ww hw 48 rfl) (own_wS hw) er12 hSr11 hkr11 (own_EW hw) (List.mem_of_getElem? (i := 5) rfl) C6.1 (vs := [(.int 46), (.int 46)]) (z := 2) ⟨by decide, by decide⟩ (by decide) (by decide) (g := (mkF m 120 (lc18 i0 i1 i2 i3 i4 z1 2 z2 z3 z4 br4 br9) [(.ref br9)])) rfl (hb hby at_120) (n := 8) (by decide) (by decide) (by decide) (by decide)
    have C7 := C6.trans CRr13
    have f20 : Exa Z hr13 br9 zs6 := (Exa.ext Er13 f15)
    have sf5 := (CRr13.safe (f17.lt) (CRr11.safe (nlt (f7.lt) Kr10.1) (Safe.keep Kr10 (allS sf3 all0) C4.1 sf3)))
    have ne2 : br9 ≠ br13 := (nsr13 br9 sf5).1
    have f21 : Sta Z hr13 zs6 zs7 "Z" (.int ci0) := (Sta.ext Er13 f16)
    have f22 : Fld Z hr13 br9 zs6 "coder" "B" (.int 0) := (Fld.ext Er13 f17)
    have f23 : Fld Z hr13 br9 zs6 "value" "[B" (.ref b1) := (Fld.ext Er13 f18)
    have f24 : Arv Z hr13 b1 k1 .byte (2 : Int32) [(.int z2), (.int z3)] (.int (0 : Int32)) := (f19.ext Er13)
    have Z_7 : n0 ≤ hr13.size := Nat.le_trans Z_6 Er13.1
    obtain ⟨_, Tr14, Lr14, Xr14, hQr14, str14⟩ := ocallV Xr13 hx hZ zm7 zm7 hown (ww hw 38 rfl) (ww hw 39 rfl) (notFace_of_selects (args := #[]) (mvT hZ (ww hw 41 rfl))) (ww hw 41 rfl) (ww hw 40 rfl) (by decide) (ww hw 42 rfl) (ww hw 8 rfl) er13 f20 (mg8_81 l hw br9 br13 ci0 b1 bvr13 z2 z3 k1 clr13 hr13 n0 Z_7 ne2 fr13a f21 hc5 f22 fr13b f23 fr13c f24 fr13d) (st := [(.ref br13), (.ref br9)]) rfl 0 rfl (by decide) (pc := 122) (Ls := (lc18 i0 i1 i2 i3 i4 z1 2 z2 z3 z4 br4 br9)) hml rfl (lenOf pd_7 rfl) at_122 hby
    obtain ⟨rfl, Nr14q, er14⟩ := hQr14
    have N8 := Fr.app N7 Nr14q
    refine own_go (U' := Tr14.setTop (mkF m 125 (lc18 i0 i1 i2 i3 i4 z1 2 z2 z3 z4 br4 br9) [(.int (own_dot2 z2 z3))])) (fun t k => oifN Xr12 hx hby at_115 (by decide) (oaload Xr12 hx hby at_118 rfl rfl (str13 _ (str14 _ k)))) ?_
    by_cases hk6 : (own_dot2 (own_pk i2) (own_pk i3)) = (0 : Int32)
    · obtain ⟨Tr15, hr15, Xr15, er15, Er15, Ar15, Dr15, -, str15⟩ := newO Xr14 hx hZ hown (ww hw 49 rfl) (ww hw 50 rfl) (ww hw 51 rfl) er14 (g := (mkF m 130 (lc18 i0 i1 i2 i3 i4 z1 2 z2 z3 z4 br4 br9) [])) rfl (hb hby at_130) (by decide) (by decide)
      obtain ⟨br15, gr15⟩ : ∃ z, z = hr13.size := ⟨_, rfl⟩
      rw [← gr15] at Ar15 Dr15 str15
      have C8 := C7.trans (CHr.ext Er15 C7.1)
      have f25 : Fld Z hr15 br15 zs21 "value" zs23 .null := Dr15 (Or.inr (ww hw 109 rfl)) (ty := (.object zs6)) (by decide)
      have f26 : Exa Z hr15 br9 zs6 := (Exa.ext Er15 f20)
      have f27 : Fld Z hr15 br9 zs6 "value" "[B" (.ref b1) := (Fld.ext Er15 f23)
      have f28 : Arv Z hr15 b1 k1 .byte (2 : Int32) [(.int z2), (.int z3)] (.int (0 : Int32)) := (f24.ext Er15)
      have f29 : Sta Z hr15 zs6 zs7 "Z" (.int ci0) := (Sta.ext Er15 f21)
      have f30 : Fld Z hr15 br9 zs6 "coder" "B" (.int 0) := (Fld.ext Er15 f22)
      have f31 : Sta Z hr15 zs16 zs19 zs20 vy0 := (Sta.ext Er15 (Sta.ext Er13 (Sta.ext Er11 (own_staK (Sta.ext Er9 (Sta.wr Wr8 (Sta.wr Wr6 (Sta.ext Er4 S28)))) Kr10 (allS (own_nsF f7) all0)))))
      have g3 : n0 ≤ br15 := Nat.le_trans Z_7 (Nat.le_of_eq gr15.symm)
      have Z_8 : n0 ≤ hr15.size := Nat.le_trans Z_7 Er15.1
      have sf6 := (Safe.ext Er15 C7.1 (CRr13.safe (nlt (nlt (f7.lt) Kr10.1) Er11.1) (CRr11.safe (nlt (f7.lt) Kr10.1) (Safe.keep Kr10 (allS sf3 all0) C4.1 sf3))))
      have hc12 : vy0.isRef = true := hvy0
      have hc13 : own_ok (own_pk i2) := (own_pk_ok i2)
      have hs14 : own_ok z2 := by rw [hz2]; exact hc13
      have hc15 : ¬ ((122 : Int32) < (own_pk i2)) := (fun e => by have := Int32.lt_iff_toInt_lt.mp e; have := (by decide : ((122 : Int32)).toInt = 122); have := own_pk_b i2; omega)
      have hs16 : ¬ ((122 : Int32) < z2) := by rw [hz2]; exact hc15
      have hc42 : own_ok (own_pk i3) := (own_pk_ok i3)
      have hs43 : own_ok z3 := by rw [hz3]; exact hc42
      have hc44 : ¬ ((122 : Int32) < (own_pk i3)) := (fun e => by have := Int32.lt_iff_toInt_lt.mp e; have := (by decide : ((122 : Int32)).toInt = 122); have := own_pk_b i3; omega)
      have hs45 : ¬ ((122 : Int32) < z3) := by rw [hz3]; exact hc44
      have hc40 : (own_dot2 (own_pk i2) (own_pk i3)) = (0 : Int32) := hk6
      have hs41 : (own_dot2 z2 z3) = (0 : Int32) := by rw [hz3, hz2]; exact hc40
      obtain ⟨_, Tr16, Lr16, Xr16, hQr16, hSr16, hZ, hown, CRr16, str16⟩ := ocallIH (s := s) Xr15 hx hZ zm19 rfl hown (ww hw 52 rfl) (ww hw 53 rfl) (by decide) (ww hw 54 rfl) (ww hw 51 rfl) er15 (rm10_83 l hw br15 br9 b1 z2 z3 k1 ci0 vy0 hr15 n0 Z_8 f26 f27 f28 f29 hc5 f30 f31 hc12 hs2 hs9 hs4 hs14 hs16 hs33 hs39 hs35 hs43 hs45 hs41 f25 Ar15 g3) (st := [(.ref br9), (.ref br15), (.ref br15)]) rfl 1 rfl (by decide) (pc := 136) (Ls := (lc18 i0 i1 i2 i3 i4 z1 2 z2 z3 z4 br4 br9)) hml rfl (lenOf pd_17 rfl) at_136 hby hSr13 (Nat.le_trans hkr13 Er15.1) (own_EW hw) C8.1 (allS ⟨(f26.lt), sf6⟩ all0)
      obtain ⟨rfl, Nr16q, Kr16, f32⟩ := hQr16
      have C9 := C8.trans CRr16
      have N9 := Fr.app N8 Nr16q
      refine own_go (U' := Tr16.setTop (mkF m 143 (lc29 i0 i1 i2 i3 i4 z1 2 z2 z3 z4 br4 br9 br15) [(.int z1)])) (fun t k => oifY (pc := 125) Xr14 hx hby at_125 130 ((if0 _ _).trans (teq hs41).1) (by decide) (str15 _ (odup Xr15 hx hby at_133 rfl (oaload Xr15 hx hby at_134 rfl rfl (str16 _ (oastore Xr16 hx hby at_139 (lc29 i0 i1 i2 i3 i4 z1 2 z2 z3 z4 br4 br9 br15) rfl rfl (oiload Xr16 hx hby at_141 rfl k))))))) ?_
      by_cases hk7 : (i0 &&& (3 : Int32)) = (0 : Int32)
      · have f33 : Sta Z Tr16.heap zs35 "PLAIN" zs39 (.ref w0) := (own_staK (Sta.ext Er15 (Sta.ext Er13 (Sta.ext Er11 (own_staK (Sta.ext Er9 (Sta.wr Wr8 (Sta.wr Wr6 (Sta.ext Er4 S0)))) Kr10 (allS (own_nsF f7) all0))))) Kr16 (allS (own_nsE Ar15) all0))
        obtain ⟨Tr17, Xr17, er17, str17⟩ := getS2 Xr16 hx hZ hown (host := "") (Or.inl (ww hw 110 rfl)) Via.refl rfl f33 (g := (mkF m 146 (lc29 i0 i1 i2 i3 i4 z1 2 z2 z3 z4 br4 br9 br15) [])) rfl (hb hby at_146)
        obtain ⟨br18, Tr18, hr18, kr18, bvr18, clr18, Xr18, er18, Er18, hSr18, hkr18, hZ, hown, fr18a, fr18b, fr18c, fr18d, ltr18, lvr18, CRr18, -, nsr18, str18⟩ := ldcCH (s := s) Xr17 hx hZ hown (ww hw 113 rfl) (own_wS hw) er17 hSr16 (Nat.le_refl _) (own_EW hw) (List.mem_of_getElem? (i := 6) rfl) C9.1 (vs := [(.int 108), (.int 111), (.int 99), (.int 107)]) (z := 4) ⟨by decide, by decide⟩ (by decide) (by decide) (g := (mkF m 151 (lc30 i0 i1 i2 i3 i4 z1 2 z2 z3 z4 br4 br9 br15 w0) [])) rfl (hb hby at_151) (n := 16) (by decide) (by decide) (by decide) (by decide)
        have C10 := C9.trans CRr18
        have f34 : Exa Z hr18 w0 zs35 := (Exa.ext Er18 ((Exa.ext Er15 (Exa.ext Er13 (Exa.ext Er11 ((Exa.ext Er9 (Exa.wr Wr8 (Exa.wr Wr6 (Exa.ext Er4 S1)))).keep Kr10)))).keep Kr16))
        have f35 : Sta Z hr18 zs6 zs7 "Z" (.int ci0) := (Sta.ext Er18 (own_staK f29 Kr16 (allS (own_nsE Ar15) all0)))
        have ne3 : w0 ≠ br4 := Nat.ne_of_lt (nlt (S2.lt) (Nat.le_of_eq gr4.symm))
        have ne4 : w0 ≠ br9 := Nat.ne_of_lt (nlt (nlt (nlt (nlt (S2.lt) Er4.1) (Keep.of_wr Wr6).1) (Keep.of_wr Wr8).1) (Nat.le_of_eq gr9.symm))
        have ne5 : w0 ≠ br15 := Nat.ne_of_lt (nlt (nlt (nlt (nlt (nlt (nlt (nlt (nlt (S2.lt) Er4.1) (Keep.of_wr Wr6).1) (Keep.of_wr Wr8).1) Er9.1) Kr10.1) Er11.1) Er13.1) (Nat.le_of_eq gr15.symm))
        have f36 : Fld Z hr18 w0 zs35 "noun" zs23 (.ref w1) := (Fld.ext Er18 ((Fld.ext Er15 (Fld.ext Er13 (Fld.ext Er11 ((Fld.ext Er9 (Fld.other Wr8 (Fld.other Wr6 (Fld.ext Er4 S2) (Or.inl ne3)) (Or.inl ne3))).keep Kr10 (ninS ne4 nin0))))).keep Kr16 (ninS ne5 nin0)))
        have f37 : Exa Z hr18 w1 zs6 := (Exa.ext Er18 ((Exa.ext Er15 (Exa.ext Er13 (Exa.ext Er11 ((Exa.ext Er9 (Exa.wr Wr8 (Exa.wr Wr6 (Exa.ext Er4 S3)))).keep Kr10)))).keep Kr16))
        have ne6 : w1 ≠ br4 := Nat.ne_of_lt (nlt (S4.lt) (Nat.le_of_eq gr4.symm))
        have ne7 : w1 ≠ br9 := Nat.ne_of_lt (nlt (nlt (nlt (nlt (S4.lt) Er4.1) (Keep.of_wr Wr6).1) (Keep.of_wr Wr8).1) (Nat.le_of_eq gr9.symm))
        have ne8 : w1 ≠ br15 := Nat.ne_of_lt (nlt (nlt (nlt (nlt (nlt (nlt (nlt (nlt (S4.lt) Er4.1) (Keep.of_wr Wr6).1) (Keep.of_wr Wr8).1) Er9.1) Kr10.1) Er11.1) Er13.1) (Nat.le_of_eq gr15.symm))
        have f38 : Fld Z hr18 w1 zs6 "value" "[B" (.ref w2) := (Fld.ext Er18 ((Fld.ext Er15 (Fld.ext Er13 (Fld.ext Er11 ((Fld.ext Er9 (Fld.other Wr8 (Fld.other Wr6 (Fld.ext Er4 S4) (Or.inl ne6)) (Or.inl ne6))).keep Kr10 (ninS ne7 nin0))))).keep Kr16 (ninS ne8 nin0)))
        have ne9 : w2 ≠ br4 := Nat.ne_of_lt (nlt (S32.lt) (Nat.le_of_eq gr4.symm))
        have ne10 : w2 ≠ br9 := Nat.ne_of_lt (nlt (nlt (nlt (nlt (S32.lt) Er4.1) (Keep.of_wr Wr6).1) (Keep.of_wr Wr8).1) (Nat.le_of_eq gr9.symm))
        have ne11 : w2 ≠ br15 := Nat.ne_of_lt (nlt (nlt (nlt (nlt (nlt (nlt (nlt (nlt (S32.lt) Er4.1) (Keep.of_wr Wr6).1) (Keep.of_wr Wr8).1) Er9.1) Kr10.1) Er11.1) Er13.1) (Nat.le_of_eq gr15.symm))
        have f39 : Arv Z hr18 w2 kl0 .byte (4 : Int32) [(.int 108), (.int 111), (.int 99), (.int 107)] (.int (0 : Int32)) := ((((((((((S32.ext Er4).other Wr6 ne9).other Wr8 ne9).ext Er9).keep Kr10 (ninS ne10 nin0)).ext Er11).ext Er13).ext Er15).keep Kr16 (ninS ne11 nin0)).ext Er18)
        have f40 : Fld Z hr18 w1 zs6 "coder" "B" (.int 0) := (Fld.ext Er18 ((Fld.ext Er15 (Fld.ext Er13 (Fld.ext Er11 ((Fld.ext Er9 (Fld.other Wr8 (Fld.other Wr6 (Fld.ext Er4 S6) (Or.inl ne6)) (Or.inl ne6))).keep Kr10 (ninS ne7 nin0))))).keep Kr16 (ninS ne8 nin0)))
        have f41 : Exa Z hr18 br15 zs21 := (Exa.ext Er18 (Ar15.keep Kr16))
        have f42 : Fld Z hr18 br15 zs21 "value" zs23 (.ref br9) := (Fld.ext Er18 f32)
        have f43 : Exa Z hr18 br9 zs6 := (Exa.ext Er18 (f26.keep Kr16))
        have ne12 : br9 ≠ br15 := Nat.ne_of_lt (nlt (nlt (nlt (nlt (f7.lt) Kr10.1) Er11.1) Er13.1) (Nat.le_of_eq gr15.symm))
        have f44 : Fld Z hr18 br9 zs6 "value" "[B" (.ref b1) := (Fld.ext Er18 (f27.keep Kr16 (ninS ne12 nin0)))
        have ne13 : b1 ≠ br15 := Nat.ne_of_lt (nlt (nlt (nlt (f13.lt) Er11.1) Er13.1) (Nat.le_of_eq gr15.symm))
        have f45 : Arv Z hr18 b1 k1 .byte (2 : Int32) [(.int z2), (.int z3)] (.int (0 : Int32)) := ((f28.keep Kr16 (ninS ne13 nin0)).ext Er18)
        have f46 : Fld Z hr18 br9 zs6 "coder" "B" (.int 0) := (Fld.ext Er18 (f30.keep Kr16 (ninS ne12 nin0)))
        have Z_9 : n0 ≤ Tr16.heap.size := Nat.le_trans Z_8 Kr16.1
        have Z_10 : n0 ≤ hr18.size := Nat.le_trans Z_9 Er18.1
        obtain ⟨_, Tr19, Lr19, Xr19, hQr19, hSr19, hZ, hown, CRr19, str19⟩ := ocallVH (s := s) Xr18 hx hZ zm27 zm27 hown (ww hw 114 rfl) (ww hw 115 rfl) (notFace_of_selects (args := #[]) (mvT hZ (ww hw 117 rfl))) (ww hw 117 rfl) (ww hw 116 rfl) (by decide) (ww hw 118 rfl) (ww hw 111 rfl) er18 f34 (rm22_61 l hw w0 br15 ci0 w1 w2 [(.int 108), (.int 111), (.int 99), (.int 107)] kl0 4 4 4 (-12) 5 (-11) 4 br9 b1 [(.int z2), (.int z3)] k1 2 2 7 (-9) 5 7 hr18 n0 Z_10 f35 hc5 f36 f37 f38 f39 f40 (Nat.le_of_ble_eq_true rfl) (Nat.le_of_ble_eq_true rfl) (Nat.le_of_ble_eq_true rfl) (Nat.le_of_ble_eq_true rfl) (Nat.le_of_ble_eq_true rfl) (Nat.le_of_ble_eq_true rfl) f41 f42 f43 f44 f45 f46 (Nat.le_of_ble_eq_true rfl) (Nat.le_of_ble_eq_true rfl) (Nat.le_of_ble_eq_true rfl) (Nat.le_of_ble_eq_true rfl) (Nat.le_of_ble_eq_true rfl) (Nat.le_of_ble_eq_true rfl) (Nat.le_of_ble_eq_true rfl) (by decide)) (st := [(.ref br15), (.ref w0)]) rfl 0 rfl (by decide) (pc := 207) (Ls := (lc31 i0 i1 i2 i3 i4 z1 2 z2 z3 z4 br4 br9 br15 w0 br18)) hml rfl (lenOf pd_29 rfl) at_207 hby hSr18 hkr18 (own_EW hw) C10.1 all0
        obtain ⟨b2, b3, k2, rfl, Nr19q, Kr19, sz2, sz3, ne14, f47, f48, f49, f50, f51⟩ := hQr19
        have C11 := C10.trans CRr19
        have f52 : Arv Z Tr19.heap b3 k2 .byte (7 : Int32) [(.int 108), (.int 111), (.int 99), (.int 107), (.int 32), (.int z2), (.int z3)] (.int (0 : Int32)) := f51
        have N10 := Fr.app N9 Nr19q
        have f53 : Exa Z Tr19.heap br18 zs6 := (fr18a.keep Kr19)
        have f54 : Fld Z Tr19.heap br18 zs6 "value" "[B" (.ref bvr18) := (fr18c.keep Kr19 nin0)
        have f55 : Arv Z Tr19.heap bvr18 clr18 .byte (4 : Int32) [(.int 108), (.int 111), (.int 99), (.int 107)] (.int (0 : Int32)) := (fr18d.keep Kr19 nin0)
        have f56 : Sta Z Tr19.heap zs6 zs7 "Z" (.int ci0) := (own_staK f35 Kr19 all0)
        have f57 : Fld Z Tr19.heap br18 zs6 "coder" "B" (.int 0) := (fr18b.keep Kr19 nin0)
        have Z_11 : n0 ≤ Tr19.heap.size := Nat.le_trans Z_10 Kr19.1
        obtain ⟨_, Tr20, Lr20, Xr20, hQr20, str20⟩ := ocallV Xr19 hx hZ zm12 zm12 hown (ww hw 228 rfl) (ww hw 72 rfl) (notFace_of_selects (args := #[]) (mvT hZ (ww hw 74 rfl))) (ww hw 74 rfl) (ww hw 73 rfl) (by decide) (ww hw 75 rfl) (ww hw 8 rfl) rfl f53 (rm14_24 l hw br18 bvr18 4 ci0 4 Tr19.heap n0 Z_11 f54 (own_lnV f55) f53 f56 hc5 f57 (by decide)) (st := [(.ref br18)]) rfl 0 rfl (by decide) (pc := 221) (Ls := (lc41 i0 i1 i2 i3 i4 z1 2 z2 z3 z4 br4 br9 br15 w0 br18 b2)) hml rfl (lenOf pd_12 rfl) at_221 hby
        obtain ⟨rfl, Nr20q, er20⟩ := hQr20
        have N11 := Fr.app N10 Nr20q
        obtain ⟨_, Tr21, Lr21, Xr21, hQr21, str21⟩ := ocallV Xr20 hx hZ zm12 zm12 hown (ww hw 228 rfl) (ww hw 72 rfl) (notFace_of_selects (args := #[]) (mvT hZ (ww hw 74 rfl))) (ww hw 74 rfl) (ww hw 73 rfl) (by decide) (ww hw 75 rfl) (ww hw 8 rfl) er20 f47 (rm14_24 l hw b2 b3 7 ci0 7 Tr19.heap n0 Z_11 f49 (own_lnV f52) f47 f56 hc5 f48 (by decide)) (st := [(.ref b2)]) rfl 0 rfl (by decide) (pc := 228) (Ls := (lc42 i0 i1 i2 i3 i4 z1 2 z2 z3 z4 br4 br9 br15 w0 br18 b2 4)) hml rfl (lenOf pd_12 rfl) at_228 hby
        obtain ⟨rfl, Nr21q, er21⟩ := hQr21
        have N12 := Fr.app N11 Nr21q
        have hc17 : (i0 &&& (3 : Int32)) = (0 : Int32) := hk7
        have hs18 : z1 = (0 : Int32) := by rw [hz1]; exact hc17
        refine own_go (U' := Tr21.setTop (mkF m 238 (lc42 i0 i1 i2 i3 i4 z1 2 z2 z3 z4 br4 br9 br15 w0 br18 b2 4) [(.int 7), (.int 7)])) (fun t k => oifN Xr16 hx hby at_143 ((if0 _ _).trans (teq hs18).2) (str17 _ (oastore Xr17 hx hby at_149 (lc30 i0 i1 i2 i3 i4 z1 2 z2 z3 z4 br4 br9 br15 w0) rfl rfl (str18 _ (oastore Xr18 hx hby at_153 (lc31 i0 i1 i2 i3 i4 z1 2 z2 z3 z4 br4 br9 br15 w0 br18) rfl rfl (ogoto (pc := 155) Xr18 hx hby at_155 203 (by decide) (oaload Xr18 hx hby at_203 rfl rfl (oaload Xr18 hx hby at_205 rfl rfl (str19 _ (oastore Xr19 hx hby at_210 (lc41 i0 i1 i2 i3 i4 z1 2 z2 z3 z4 br4 br9 br15 w0 br18 b2) rfl rfl (oaload Xr19 hx hby at_212 rfl rfl (onnY (pc := 214) Xr19 hx hby at_214 219 (by decide) (oaload Xr19 hx hby at_219 rfl rfl (str20 _ (oistore Xr20 hx hby at_224 (lc42 i0 i1 i2 i3 i4 z1 2 z2 z3 z4 br4 br9 br15 w0 br18 b2 4) rfl (oaload Xr20 hx hby at_226 rfl rfl (str21 _ (oiload Xr21 hx hby at_231 rfl (oiconst Xr21 hx hby at_233 (oiadd Xr21 hx hby at_234 (oiload Xr21 hx hby at_235 rfl (oiadd Xr21 hx hby at_237 k)))))))))))))))))))))) ?_
        have f58 : Sta Z Tr19.heap zs16 zs19 zs20 vy0 := (own_staK (Sta.ext Er18 (own_staK f31 Kr16 (allS (own_nsF f25) all0))) Kr19 all0)
        obtain ⟨_, Tr22, Lr22, Xr22, hQr22, str22⟩ := ocallS Xr21 hx hZ zm28 hown (ww hw 229 rfl) (ww hw 230 rfl) (by decide) (ww hw 231 rfl) (ww hw 3 rfl) er21 (rm43_63 l hw b2 0 br18 0 bvr18 4 ci0 4 0 b3 7 vy0 108 108 Tr19.heap n0 Z_11 f53 f54 (own_lnV f55) f56 hc5 f57 f47 f48 f49 (own_lnV f52) f58 hc12 (own_elV (j := (0 : Int32)) f52 (by decide) (by decide) rfl) (own_elV (j := (0 : Int32)) f55 (by decide) (by decide) rfl) (by decide)) (st := [(.int 0), (.ref br18), (.int 0), (.ref b2)]) rfl 0 rfl (by decide) (pc := 249) (Ls := (lc42 i0 i1 i2 i3 i4 z1 2 z2 z3 z4 br4 br9 br15 w0 br18 b2 4)) hml rfl (lenOf pd_30 rfl) at_249 hby
        obtain ⟨rfl, Nr22q, er22⟩ := hQr22
        have N13 := Fr.app N12 Nr22q
        refine own_go (U' := Tr22.setTop (mkF m 252 (lc42 i0 i1 i2 i3 i4 z1 2 z2 z3 z4 br4 br9 br15 w0 br18 b2 4) [(.int 1)])) (fun t k => oicY (pc := 238) Xr21 hx hby at_238 243 (by decide) (by decide) (oaload Xr21 hx hby at_243 rfl rfl (oiconst Xr21 hx hby at_245 (oaload Xr21 hx hby at_246 rfl rfl (oiconst Xr21 hx hby at_248 (str22 _ k)))))) ?_
        obtain ⟨_, Tr23, Lr23, Xr23, hQr23, str23⟩ := ocallS Xr22 hx hZ zm28 hown (ww hw 229 rfl) (ww hw 230 rfl) (by decide) (ww hw 231 rfl) (ww hw 3 rfl) er22 (rm43_63 l hw b2 0 br18 1 bvr18 4 ci0 4 1 b3 7 vy0 111 111 Tr19.heap n0 Z_11 f53 f54 (own_lnV f55) f56 hc5 f57 f47 f48 f49 (own_lnV f52) f58 hc12 (own_elV (j := (1 : Int32)) f52 (by decide) (by decide) rfl) (own_elV (j := (1 : Int32)) f55 (by decide) (by decide) rfl) (by decide)) (st := [(.int 1), (.ref br18), (.int 0), (.ref b2)]) rfl 0 rfl (by decide) (pc := 261) (Ls := (lc42 i0 i1 i2 i3 i4 z1 2 z2 z3 z4 br4 br9 br15 w0 br18 b2 4)) hml rfl (lenOf pd_30 rfl) at_261 hby
        obtain ⟨rfl, Nr23q, er23⟩ := hQr23
        have N14 := Fr.app N13 Nr23q
        refine own_go (U' := Tr23.setTop (mkF m 264 (lc42 i0 i1 i2 i3 i4 z1 2 z2 z3 z4 br4 br9 br15 w0 br18 b2 4) [(.int 1)])) (fun t k => oifN Xr22 hx hby at_252 (by decide) (oaload Xr22 hx hby at_255 rfl rfl (oiconst Xr22 hx hby at_257 (oaload Xr22 hx hby at_258 rfl rfl (oiconst Xr22 hx hby at_260 (str23 _ k)))))) ?_
        obtain ⟨_, Tr24, Lr24, Xr24, hQr24, str24⟩ := ocallS Xr23 hx hZ zm28 hown (ww hw 229 rfl) (ww hw 230 rfl) (by decide) (ww hw 231 rfl) (ww hw 3 rfl) er23 (rm43_63 l hw b2 0 br18 2 bvr18 4 ci0 4 2 b3 7 vy0 99 99 Tr19.heap n0 Z_11 f53 f54 (own_lnV f55) f56 hc5 f57 f47 f48 f49 (own_lnV f52) f58 hc12 (own_elV (j := (2 : Int32)) f52 (by decide) (by decide) rfl) (own_elV (j := (2 : Int32)) f55 (by decide) (by decide) rfl) (by decide)) (st := [(.int 2), (.ref br18), (.int 0), (.ref b2)]) rfl 0 rfl (by decide) (pc := 273) (Ls := (lc42 i0 i1 i2 i3 i4 z1 2 z2 z3 z4 br4 br9 br15 w0 br18 b2 4)) hml rfl (lenOf pd_30 rfl) at_273 hby
        obtain ⟨rfl, Nr24q, er24⟩ := hQr24
        have N15 := Fr.app N14 Nr24q
        refine own_go (U' := Tr24.setTop (mkF m 276 (lc42 i0 i1 i2 i3 i4 z1 2 z2 z3 z4 br4 br9 br15 w0 br18 b2 4) [(.int 1)])) (fun t k => oifN Xr23 hx hby at_264 (by decide) (oaload Xr23 hx hby at_267 rfl rfl (oiconst Xr23 hx hby at_269 (oaload Xr23 hx hby at_270 rfl rfl (oiconst Xr23 hx hby at_272 (str24 _ k)))))) ?_
        obtain ⟨_, Tr25, Lr25, Xr25, hQr25, str25⟩ := ocallS Xr24 hx hZ zm28 hown (ww hw 229 rfl) (ww hw 230 rfl) (by decide) (ww hw 231 rfl) (ww hw 3 rfl) er24 (rm43_63 l hw b2 0 br18 3 bvr18 4 ci0 4 3 b3 7 vy0 107 107 Tr19.heap n0 Z_11 f53 f54 (own_lnV f55) f56 hc5 f57 f47 f48 f49 (own_lnV f52) f58 hc12 (own_elV (j := (3 : Int32)) f52 (by decide) (by decide) rfl) (own_elV (j := (3 : Int32)) f55 (by decide) (by decide) rfl) (by decide)) (st := [(.int 3), (.ref br18), (.int 0), (.ref b2)]) rfl 0 rfl (by decide) (pc := 285) (Ls := (lc42 i0 i1 i2 i3 i4 z1 2 z2 z3 z4 br4 br9 br15 w0 br18 b2 4)) hml rfl (lenOf pd_30 rfl) at_285 hby
        obtain ⟨rfl, Nr25q, er25⟩ := hQr25
        have N16 := Fr.app N15 Nr25q
        refine own_go (U' := Tr25.setTop (mkF m 288 (lc42 i0 i1 i2 i3 i4 z1 2 z2 z3 z4 br4 br9 br15 w0 br18 b2 4) [(.int 1)])) (fun t k => oifN Xr24 hx hby at_276 (by decide) (oaload Xr24 hx hby at_279 rfl rfl (oiconst Xr24 hx hby at_281 (oaload Xr24 hx hby at_282 rfl rfl (oiconst Xr24 hx hby at_284 (str25 _ k)))))) ?_
        obtain ⟨_, Tr26, Lr26, Xr26, hQr26, str26⟩ := ocallS Xr25 hx hZ zm28 hown (ww hw 229 rfl) (ww hw 230 rfl) (by decide) (ww hw 231 rfl) (ww hw 3 rfl) er25 (rm43_64 l hw b2 0 br18 4 bvr18 4 ci0 4 Tr19.heap n0 Z_11 f53 f54 (own_lnV f55) f56 hc5 f57 (by decide)) (st := [(.int 4), (.ref br18), (.int 0), (.ref b2)]) rfl 0 rfl (by decide) (pc := 297) (Ls := (lc42 i0 i1 i2 i3 i4 z1 2 z2 z3 z4 br4 br9 br15 w0 br18 b2 4)) hml rfl (lenOf pd_30 rfl) at_297 hby
        obtain ⟨rfl, Nr26q, er26⟩ := hQr26
        have N17 := Fr.app N16 Nr26q
        refine own_go (U' := Tr26.setTop (mkF m 300 (lc42 i0 i1 i2 i3 i4 z1 2 z2 z3 z4 br4 br9 br15 w0 br18 b2 4) [(.int 1)])) (fun t k => oifN Xr25 hx hby at_288 (by decide) (oaload Xr25 hx hby at_291 rfl rfl (oiconst Xr25 hx hby at_293 (oaload Xr25 hx hby at_294 rfl rfl (oiconst Xr25 hx hby at_296 (str26 _ k)))))) ?_
        obtain ⟨_, Tr27, Lr27, Xr27, hQr27, str27⟩ := ocallS Xr26 hx hZ zm28 hown (ww hw 229 rfl) (ww hw 230 rfl) (by decide) (ww hw 231 rfl) (ww hw 3 rfl) er26 (rm43_64 l hw b2 0 br18 5 bvr18 4 ci0 4 Tr19.heap n0 Z_11 f53 f54 (own_lnV f55) f56 hc5 f57 (by decide)) (st := [(.int 5), (.ref br18), (.int 0), (.ref b2)]) rfl 0 rfl (by decide) (pc := 309) (Ls := (lc42 i0 i1 i2 i3 i4 z1 2 z2 z3 z4 br4 br9 br15 w0 br18 b2 4)) hml rfl (lenOf pd_30 rfl) at_309 hby
        obtain ⟨rfl, Nr27q, er27⟩ := hQr27
        have N18 := Fr.app N17 Nr27q
        refine own_go (U' := Tr27.setTop (mkF m 312 (lc42 i0 i1 i2 i3 i4 z1 2 z2 z3 z4 br4 br9 br15 w0 br18 b2 4) [(.int 1)])) (fun t k => oifN Xr26 hx hby at_300 (by decide) (oaload Xr26 hx hby at_303 rfl rfl (oiconst Xr26 hx hby at_305 (oaload Xr26 hx hby at_306 rfl rfl (oiconst Xr26 hx hby at_308 (str27 _ k)))))) ?_
        obtain ⟨_, Tr28, Lr28, Xr28, hQr28, str28⟩ := ocallS Xr27 hx hZ zm28 hown (ww hw 229 rfl) (ww hw 230 rfl) (by decide) (ww hw 231 rfl) (ww hw 3 rfl) er27 (rm43_64 l hw b2 0 br18 6 bvr18 4 ci0 4 Tr19.heap n0 Z_11 f53 f54 (own_lnV f55) f56 hc5 f57 (by decide)) (st := [(.int 6), (.ref br18), (.int 0), (.ref b2)]) rfl 0 rfl (by decide) (pc := 322) (Ls := (lc42 i0 i1 i2 i3 i4 z1 2 z2 z3 z4 br4 br9 br15 w0 br18 b2 4)) hml rfl (lenOf pd_30 rfl) at_322 hby
        obtain ⟨rfl, Nr28q, er28⟩ := hQr28
        have N19 := Fr.app N18 Nr28q
        refine own_go (U' := Tr28.setTop (mkF m 325 (lc42 i0 i1 i2 i3 i4 z1 2 z2 z3 z4 br4 br9 br15 w0 br18 b2 4) [(.int 1)])) (fun t k => oifN Xr27 hx hby at_312 (by decide) (oaload Xr27 hx hby at_315 rfl rfl (oiconst Xr27 hx hby at_317 (oaload Xr27 hx hby at_318 rfl rfl (obipush Xr27 hx hby at_320 (str28 _ k)))))) ?_
        obtain ⟨_, Tr29, Lr29, Xr29, hQr29, str29⟩ := ocallS Xr28 hx hZ zm28 hown (ww hw 229 rfl) (ww hw 230 rfl) (by decide) (ww hw 231 rfl) (ww hw 3 rfl) er28 (rm43_64 l hw b2 0 br18 7 bvr18 4 ci0 4 Tr19.heap n0 Z_11 f53 f54 (own_lnV f55) f56 hc5 f57 (by decide)) (st := [(.int 7), (.ref br18), (.int 0), (.ref b2)]) rfl 0 rfl (by decide) (pc := 335) (Ls := (lc42 i0 i1 i2 i3 i4 z1 2 z2 z3 z4 br4 br9 br15 w0 br18 b2 4)) hml rfl (lenOf pd_30 rfl) at_335 hby
        obtain ⟨rfl, Nr29q, er29⟩ := hQr29
        have N20 := Fr.app N19 Nr29q
        refine own_go (U' := Tr29.setTop (mkF m 338 (lc42 i0 i1 i2 i3 i4 z1 2 z2 z3 z4 br4 br9 br15 w0 br18 b2 4) [(.int 1)])) (fun t k => oifN Xr28 hx hby at_325 (by decide) (oaload Xr28 hx hby at_328 rfl rfl (oiconst Xr28 hx hby at_330 (oaload Xr28 hx hby at_331 rfl rfl (obipush Xr28 hx hby at_333 (str29 _ k)))))) ?_
        obtain ⟨_, Tr30, Lr30, Xr30, hQr30, str30⟩ := ocallS Xr29 hx hZ zm28 hown (ww hw 229 rfl) (ww hw 230 rfl) (by decide) (ww hw 231 rfl) (ww hw 3 rfl) er29 (rm43_64 l hw b2 0 br18 8 bvr18 4 ci0 4 Tr19.heap n0 Z_11 f53 f54 (own_lnV f55) f56 hc5 f57 (by decide)) (st := [(.int 8), (.ref br18), (.int 0), (.ref b2)]) rfl 0 rfl (by decide) (pc := 348) (Ls := (lc42 i0 i1 i2 i3 i4 z1 2 z2 z3 z4 br4 br9 br15 w0 br18 b2 4)) hml rfl (lenOf pd_30 rfl) at_348 hby
        obtain ⟨rfl, Nr30q, er30⟩ := hQr30
        have N21 := Fr.app N20 Nr30q
        refine own_go (U' := Tr30.setTop (mkF m 351 (lc42 i0 i1 i2 i3 i4 z1 2 z2 z3 z4 br4 br9 br15 w0 br18 b2 4) [(.int 1)])) (fun t k => oifN Xr29 hx hby at_338 (by decide) (oaload Xr29 hx hby at_341 rfl rfl (oiconst Xr29 hx hby at_343 (oaload Xr29 hx hby at_344 rfl rfl (obipush Xr29 hx hby at_346 (str30 _ k)))))) ?_
        obtain ⟨_, Tr31, Lr31, Xr31, hQr31, str31⟩ := ocallS Xr30 hx hZ zm28 hown (ww hw 229 rfl) (ww hw 230 rfl) (by decide) (ww hw 231 rfl) (ww hw 3 rfl) er30 (rm43_64 l hw b2 0 br18 9 bvr18 4 ci0 4 Tr19.heap n0 Z_11 f53 f54 (own_lnV f55) f56 hc5 f57 (by decide)) (st := [(.int 9), (.ref br18), (.int 0), (.ref b2)]) rfl 0 rfl (by decide) (pc := 361) (Ls := (lc42 i0 i1 i2 i3 i4 z1 2 z2 z3 z4 br4 br9 br15 w0 br18 b2 4)) hml rfl (lenOf pd_30 rfl) at_361 hby
        obtain ⟨rfl, Nr31q, er31⟩ := hQr31
        have N22 := Fr.app N21 Nr31q
        refine own_go (U' := Tr31.setTop (mkF m 364 (lc42 i0 i1 i2 i3 i4 z1 2 z2 z3 z4 br4 br9 br15 w0 br18 b2 4) [(.int 1)])) (fun t k => oifN Xr30 hx hby at_351 (by decide) (oaload Xr30 hx hby at_354 rfl rfl (oiconst Xr30 hx hby at_356 (oaload Xr30 hx hby at_357 rfl rfl (obipush Xr30 hx hby at_359 (str31 _ k)))))) ?_
        obtain ⟨_, Tr32, Lr32, Xr32, hQr32, str32⟩ := ocallV Xr31 hx hZ zm17 zm17 hown (ww hw 232 rfl) (ww hw 82 rfl) (notFace_of_selects (args := #[]) (mvT hZ (ww hw 84 rfl))) (ww hw 84 rfl) (ww hw 83 rfl) (by decide) (ww hw 85 rfl) (ww hw 8 rfl) er31 f47 (rm16_65 l hw b2 4 ci0 b3 7 vy0 32 Tr19.heap n0 Z_11 f47 f56 hc5 f48 f49 (own_lnV f52) f58 hc12 (own_elV (j := (4 : Int32)) f52 (by decide) (by decide) rfl) (by decide)) (st := [(.int 4), (.ref b2)]) rfl 0 rfl (by decide) (pc := 378) (Ls := (lc44 i0 i1 i2 i3 i4 z1 2 z2 z3 z4 br4 br9 br15 w0 br18 b2 4 1)) hml rfl (lenOf pd_0 rfl) at_378 hby
        obtain ⟨rfl, Nr32q, er32⟩ := hQr32
        have N23 := Fr.app N22 Nr32q
        refine own_go (U' := Tr32.setTop (mkF m 383 (lc44 i0 i1 i2 i3 i4 z1 2 z2 z3 z4 br4 br9 br15 w0 br18 b2 4 1) [(.int 32), (.int 32)])) (fun t k => oifN Xr31 hx hby at_364 (by decide) (oiconst Xr31 hx hby at_367 (ogoto (pc := 368) Xr31 hx hby at_368 372 (by decide) (oistore Xr31 hx hby at_372 (lc44 i0 i1 i2 i3 i4 z1 2 z2 z3 z4 br4 br9 br15 w0 br18 b2 4 1) rfl (oaload Xr31 hx hby at_374 rfl rfl (oiload Xr31 hx hby at_376 rfl (str32 _ (obipush Xr32 hx hby at_381 k)))))))) ?_
        refine own_go (U' := Tr32.setTop (mkF m 402 (lc45 i0 i1 i2 i3 i4 z1 2 z2 z3 z4 br4 br9 br15 w0 br18 b2 4 1 1) [(.int 0), (.ref br9), (.int 5), (.ref b2)])) (fun t k => oicN Xr32 hx hby at_383 (by decide) (oiconst Xr32 hx hby at_386 (ogoto (pc := 387) Xr32 hx hby at_387 391 (by decide) (oistore Xr32 hx hby at_391 (lc45 i0 i1 i2 i3 i4 z1 2 z2 z3 z4 br4 br9 br15 w0 br18 b2 4 1 1) rfl (oaload Xr32 hx hby at_393 rfl rfl (oiload Xr32 hx hby at_395 rfl (oiconst Xr32 hx hby at_397 (oiadd Xr32 hx hby at_398 (oaload Xr32 hx hby at_399 rfl rfl (oiconst Xr32 hx hby at_401 k)))))))))) ?_
        have f59 : Exa Z Tr19.heap br9 zs6 := (f43.keep Kr19)
        have f60 : Fld Z Tr19.heap br9 zs6 "value" "[B" (.ref b1) := (f44.keep Kr19 nin0)
        have f61 : Arv Z Tr19.heap b1 k1 .byte (2 : Int32) [(.int z2), (.int z3)] (.int (0 : Int32)) := (f45.keep Kr19 nin0)
        have f62 : Fld Z Tr19.heap br9 zs6 "coder" "B" (.int 0) := (f46.keep Kr19 nin0)
        obtain ⟨_, Tr33, Lr33, Xr33, hQr33, str33⟩ := ocallS Xr32 hx hZ zm28 hown (ww hw 229 rfl) (ww hw 230 rfl) (by decide) (ww hw 231 rfl) (ww hw 3 rfl) er32 (rm43_66 l hw b2 5 br9 0 b1 2 ci0 2 5 b3 7 vy0 z2 z2 Tr19.heap n0 Z_11 f59 f60 (own_lnV f61) f56 hc5 f62 f47 f48 f49 (own_lnV f52) f58 hc12 (own_elV (j := (5 : Int32)) f52 (by decide) (by decide) rfl) hs2 hs9 hs4 (own_elV (j := (0 : Int32)) f61 (by decide) (by decide) rfl) hs2 hs9 hs4 rfl (by decide)) (st := [(.int 0), (.ref br9), (.int 5), (.ref b2)]) rfl 0 rfl (by decide) (pc := 402) (Ls := (lc45 i0 i1 i2 i3 i4 z1 2 z2 z3 z4 br4 br9 br15 w0 br18 b2 4 1 1)) hml rfl (lenOf pd_30 rfl) at_402 hby
        obtain ⟨rfl, Nr33q, er33⟩ := hQr33
        have N24 := Fr.app N23 Nr33q
        refine own_go (U' := Tr33.setTop (mkF m 405 (lc45 i0 i1 i2 i3 i4 z1 2 z2 z3 z4 br4 br9 br15 w0 br18 b2 4 1 1) [(.int 1)])) (fun t k => str33 _ k) ?_
        obtain ⟨_, Tr34, Lr34, Xr34, hQr34, str34⟩ := ocallS Xr33 hx hZ zm28 hown (ww hw 229 rfl) (ww hw 230 rfl) (by decide) (ww hw 231 rfl) (ww hw 3 rfl) er33 (rm43_66 l hw b2 5 br9 1 b1 2 ci0 2 6 b3 7 vy0 z3 z3 Tr19.heap n0 Z_11 f59 f60 (own_lnV f61) f56 hc5 f62 f47 f48 f49 (own_lnV f52) f58 hc12 (own_elV (j := (6 : Int32)) f52 (by decide) (by decide) rfl) hs33 hs39 hs35 (own_elV (j := (1 : Int32)) f61 (by decide) (by decide) rfl) hs33 hs39 hs35 rfl (by decide)) (st := [(.int 1), (.ref br9), (.int 5), (.ref b2)]) rfl 0 rfl (by decide) (pc := 417) (Ls := (lc45 i0 i1 i2 i3 i4 z1 2 z2 z3 z4 br4 br9 br15 w0 br18 b2 4 1 1)) hml rfl (lenOf pd_30 rfl) at_417 hby
        obtain ⟨rfl, Nr34q, er34⟩ := hQr34
        have N25 := Fr.app N24 Nr34q
        refine own_go (U' := Tr34.setTop (mkF m 420 (lc45 i0 i1 i2 i3 i4 z1 2 z2 z3 z4 br4 br9 br15 w0 br18 b2 4 1 1) [(.int 1)])) (fun t k => oifN Xr33 hx hby at_405 (by decide) (oaload Xr33 hx hby at_408 rfl rfl (oiload Xr33 hx hby at_410 rfl (oiconst Xr33 hx hby at_412 (oiadd Xr33 hx hby at_413 (oaload Xr33 hx hby at_414 rfl rfl (oiconst Xr33 hx hby at_416 (str34 _ k)))))))) ?_
        obtain ⟨_, Tr35, Lr35, Xr35, hQr35, str35⟩ := ocallS Xr34 hx hZ zm28 hown (ww hw 229 rfl) (ww hw 230 rfl) (by decide) (ww hw 231 rfl) (ww hw 3 rfl) er34 (rm43_64 l hw b2 5 br9 2 b1 2 ci0 2 Tr19.heap n0 Z_11 f59 f60 (own_lnV f61) f56 hc5 f62 (by decide)) (st := [(.int 2), (.ref br9), (.int 5), (.ref b2)]) rfl 0 rfl (by decide) (pc := 432) (Ls := (lc45 i0 i1 i2 i3 i4 z1 2 z2 z3 z4 br4 br9 br15 w0 br18 b2 4 1 1)) hml rfl (lenOf pd_30 rfl) at_432 hby
        obtain ⟨rfl, Nr35q, er35⟩ := hQr35
        have N26 := Fr.app N25 Nr35q
        refine own_go (U' := Tr35.setTop (mkF m 435 (lc45 i0 i1 i2 i3 i4 z1 2 z2 z3 z4 br4 br9 br15 w0 br18 b2 4 1 1) [(.int 1)])) (fun t k => oifN Xr34 hx hby at_420 (by decide) (oaload Xr34 hx hby at_423 rfl rfl (oiload Xr34 hx hby at_425 rfl (oiconst Xr34 hx hby at_427 (oiadd Xr34 hx hby at_428 (oaload Xr34 hx hby at_429 rfl rfl (oiconst Xr34 hx hby at_431 (str35 _ k)))))))) ?_
        refine own_go (U' := Tr35.setTop (mkF m 447 (lc46 i0 i1 i2 i3 i4 z1 2 z2 z3 z4 br4 br9 br15 w0 br18 b2 4 1 1 1) [(.int 1)])) (fun t k => oifN Xr35 hx hby at_435 (by decide) (oiconst Xr35 hx hby at_438 (ogoto (pc := 439) Xr35 hx hby at_439 443 (by decide) (oistore Xr35 hx hby at_443 (lc46 i0 i1 i2 i3 i4 z1 2 z2 z3 z4 br4 br9 br15 w0 br18 b2 4 1 1 1) rfl (oiload Xr35 hx hby at_445 rfl k))))) ?_
        refine own_go (U' := Tr35.setTop (mkF m 452 (lc46 i0 i1 i2 i3 i4 z1 2 z2 z3 z4 br4 br9 br15 w0 br18 b2 4 1 1 1) [(.int 1)])) (fun t k => oifN Xr35 hx hby at_447 (by decide) (oiload Xr35 hx hby at_450 rfl k)) ?_
        refine own_go (U' := Tr35.setTop (mkF m 457 (lc46 i0 i1 i2 i3 i4 z1 2 z2 z3 z4 br4 br9 br15 w0 br18 b2 4 1 1 1) [(.int 1)])) (fun t k => oifN Xr35 hx hby at_452 (by decide) (oiload Xr35 hx hby at_455 rfl k)) ?_
        refine own_go (U' := Tr35.setTop (mkF m 465 (lc46 i0 i1 i2 i3 i4 z1 2 z2 z3 z4 br4 br9 br15 w0 br18 b2 4 1 1 1) [(.int 1)])) (fun t k => oifN Xr35 hx hby at_457 (by decide) (oiconst Xr35 hx hby at_460 (ogoto (pc := 461) Xr35 hx hby at_461 465 (by decide) k))) ?_
        obtain ⟨fs, hr, hrun, hended, hW, hsame⟩ := Xr35.leave (v := some (.int 1)) (fun h => by rw [Bd.returns] at h; cases h)
        have hE := hSr19.ended hW (by show _ ≤ Tr35.heap.size; rw [er35]; exact (Nat.le_refl _)) hsame
        refine own_out ⟨_, _, ?_, hrun, hended, _, _, rfl, ?_, ?_, ⟨_, rfl⟩, hE.1, hE.2.1, hE.2.2.mono (by decide) (by decide)⟩
        · exact retN Xr35 hx (t := .boolean) Bd.returns (by simp) (hb hby at_465) hr
        · exact ⟨rfl, N26⟩
        · show CHr Z consts_1 s.vm s.heap Tr35.vm Tr35.heap; rw [hh, er35]; exact C11.trans (CHv.at (s := s) Xr35 hZ (own_EW hw) C11.1)
      · have hc19 : ¬ ((i0 &&& (3 : Int32)) = (0 : Int32)) := hk7
        have hs20 : ¬ (z1 = (0 : Int32)) := by rw [hz1]; exact hc19
        refine own_go (U' := Tr16.setTop (mkF m 161 (lc29 i0 i1 i2 i3 i4 z1 2 z2 z3 z4 br4 br9 br15) [(.int 1), (.int z1)])) (fun t k => oifY (pc := 143) Xr16 hx hby at_143 158 ((if0 _ _).trans (feq hs20).2) (by decide) (oiload Xr16 hx hby at_158 rfl (oiconst Xr16 hx hby at_160 k))) ?_
        by_cases hk8 : (i0 &&& (3 : Int32)) = (1 : Int32)
        · have f33 : Sta Z Tr16.heap zs35 "READ" zs39 (.ref w9) := (own_staK (Sta.ext Er15 (Sta.ext Er13 (Sta.ext Er11 (own_staK (Sta.ext Er9 (Sta.wr Wr8 (Sta.wr Wr6 (Sta.ext Er4 S21)))) Kr10 (allS (own_nsF f7) all0))))) Kr16 (allS (own_nsE Ar15) all0))
          obtain ⟨Tr17, Xr17, er17, str17⟩ := getS2 Xr16 hx hZ hown (host := "") (Or.inl (ww hw 239 rfl)) Via.refl rfl f33 (g := (mkF m 164 (lc29 i0 i1 i2 i3 i4 z1 2 z2 z3 z4 br4 br9 br15) [])) rfl (hb hby at_164)
          obtain ⟨br18, Tr18, hr18, kr18, bvr18, clr18, Xr18, er18, Er18, hSr18, hkr18, hZ, hown, fr18a, fr18b, fr18c, fr18d, ltr18, lvr18, CRr18, -, nsr18, str18⟩ := ldcCH (s := s) Xr17 hx hZ hown (ww hw 241 rfl) (own_wS hw) er17 hSr16 (Nat.le_refl _) (own_EW hw) (List.mem_of_getElem? (i := 7) rfl) C9.1 (vs := [(.int 114), (.int 101), (.int 97), (.int 100), (.int 32), (.int 108), (.int 111), (.int 99), (.int 107)]) (z := 9) ⟨by decide, by decide⟩ (by decide) (by decide) (g := (mkF m 169 (lc30 i0 i1 i2 i3 i4 z1 2 z2 z3 z4 br4 br9 br15 w9) [])) rfl (hb hby at_169) (n := 36) (by decide) (by decide) (by decide) (by decide)
          have C10 := C9.trans CRr18
          have f34 : Exa Z hr18 w9 zs35 := (Exa.ext Er18 ((Exa.ext Er15 (Exa.ext Er13 (Exa.ext Er11 ((Exa.ext Er9 (Exa.wr Wr8 (Exa.wr Wr6 (Exa.ext Er4 S22)))).keep Kr10)))).keep Kr16))
          have f35 : Sta Z hr18 zs6 zs7 "Z" (.int ci0) := (Sta.ext Er18 (own_staK f29 Kr16 (allS (own_nsE Ar15) all0)))
          have ne3 : w9 ≠ br4 := Nat.ne_of_lt (nlt (S23.lt) (Nat.le_of_eq gr4.symm))
          have ne4 : w9 ≠ br9 := Nat.ne_of_lt (nlt (nlt (nlt (nlt (S23.lt) Er4.1) (Keep.of_wr Wr6).1) (Keep.of_wr Wr8).1) (Nat.le_of_eq gr9.symm))
          have ne5 : w9 ≠ br15 := Nat.ne_of_lt (nlt (nlt (nlt (nlt (nlt (nlt (nlt (nlt (S23.lt) Er4.1) (Keep.of_wr Wr6).1) (Keep.of_wr Wr8).1) Er9.1) Kr10.1) Er11.1) Er13.1) (Nat.le_of_eq gr15.symm))
          have f36 : Fld Z hr18 w9 zs35 "noun" zs23 (.ref w10) := (Fld.ext Er18 ((Fld.ext Er15 (Fld.ext Er13 (Fld.ext Er11 ((Fld.ext Er9 (Fld.other Wr8 (Fld.other Wr6 (Fld.ext Er4 S23) (Or.inl ne3)) (Or.inl ne3))).keep Kr10 (ninS ne4 nin0))))).keep Kr16 (ninS ne5 nin0)))
          have f37 : Exa Z hr18 w10 zs6 := (Exa.ext Er18 ((Exa.ext Er15 (Exa.ext Er13 (Exa.ext Er11 ((Exa.ext Er9 (Exa.wr Wr8 (Exa.wr Wr6 (Exa.ext Er4 S24)))).keep Kr10)))).keep Kr16))
          have ne6 : w10 ≠ br4 := Nat.ne_of_lt (nlt (S25.lt) (Nat.le_of_eq gr4.symm))
          have ne7 : w10 ≠ br9 := Nat.ne_of_lt (nlt (nlt (nlt (nlt (S25.lt) Er4.1) (Keep.of_wr Wr6).1) (Keep.of_wr Wr8).1) (Nat.le_of_eq gr9.symm))
          have ne8 : w10 ≠ br15 := Nat.ne_of_lt (nlt (nlt (nlt (nlt (nlt (nlt (nlt (nlt (S25.lt) Er4.1) (Keep.of_wr Wr6).1) (Keep.of_wr Wr8).1) Er9.1) Kr10.1) Er11.1) Er13.1) (Nat.le_of_eq gr15.symm))
          have f38 : Fld Z hr18 w10 zs6 "value" "[B" (.ref w11) := (Fld.ext Er18 ((Fld.ext Er15 (Fld.ext Er13 (Fld.ext Er11 ((Fld.ext Er9 (Fld.other Wr8 (Fld.other Wr6 (Fld.ext Er4 S25) (Or.inl ne6)) (Or.inl ne6))).keep Kr10 (ninS ne7 nin0))))).keep Kr16 (ninS ne8 nin0)))
          have ne9 : w11 ≠ br4 := Nat.ne_of_lt (nlt (S35.lt) (Nat.le_of_eq gr4.symm))
          have ne10 : w11 ≠ br9 := Nat.ne_of_lt (nlt (nlt (nlt (nlt (S35.lt) Er4.1) (Keep.of_wr Wr6).1) (Keep.of_wr Wr8).1) (Nat.le_of_eq gr9.symm))
          have ne11 : w11 ≠ br15 := Nat.ne_of_lt (nlt (nlt (nlt (nlt (nlt (nlt (nlt (nlt (S35.lt) Er4.1) (Keep.of_wr Wr6).1) (Keep.of_wr Wr8).1) Er9.1) Kr10.1) Er11.1) Er13.1) (Nat.le_of_eq gr15.symm))
          have f39 : Arv Z hr18 w11 kl3 .byte (9 : Int32) [(.int 114), (.int 101), (.int 97), (.int 100), (.int 32), (.int 108), (.int 111), (.int 99), (.int 107)] (.int (0 : Int32)) := ((((((((((S35.ext Er4).other Wr6 ne9).other Wr8 ne9).ext Er9).keep Kr10 (ninS ne10 nin0)).ext Er11).ext Er13).ext Er15).keep Kr16 (ninS ne11 nin0)).ext Er18)
          have f40 : Fld Z hr18 w10 zs6 "coder" "B" (.int 0) := (Fld.ext Er18 ((Fld.ext Er15 (Fld.ext Er13 (Fld.ext Er11 ((Fld.ext Er9 (Fld.other Wr8 (Fld.other Wr6 (Fld.ext Er4 S27) (Or.inl ne6)) (Or.inl ne6))).keep Kr10 (ninS ne7 nin0))))).keep Kr16 (ninS ne8 nin0)))
          have f41 : Exa Z hr18 br15 zs21 := (Exa.ext Er18 (Ar15.keep Kr16))
          have f42 : Fld Z hr18 br15 zs21 "value" zs23 (.ref br9) := (Fld.ext Er18 f32)
          have f43 : Exa Z hr18 br9 zs6 := (Exa.ext Er18 (f26.keep Kr16))
          have ne12 : br9 ≠ br15 := Nat.ne_of_lt (nlt (nlt (nlt (nlt (f7.lt) Kr10.1) Er11.1) Er13.1) (Nat.le_of_eq gr15.symm))
          have f44 : Fld Z hr18 br9 zs6 "value" "[B" (.ref b1) := (Fld.ext Er18 (f27.keep Kr16 (ninS ne12 nin0)))
          have ne13 : b1 ≠ br15 := Nat.ne_of_lt (nlt (nlt (nlt (f13.lt) Er11.1) Er13.1) (Nat.le_of_eq gr15.symm))
          have f45 : Arv Z hr18 b1 k1 .byte (2 : Int32) [(.int z2), (.int z3)] (.int (0 : Int32)) := ((f28.keep Kr16 (ninS ne13 nin0)).ext Er18)
          have f46 : Fld Z hr18 br9 zs6 "coder" "B" (.int 0) := (Fld.ext Er18 (f30.keep Kr16 (ninS ne12 nin0)))
          have Z_9 : n0 ≤ Tr16.heap.size := Nat.le_trans Z_8 Kr16.1
          have Z_10 : n0 ≤ hr18.size := Nat.le_trans Z_9 Er18.1
          obtain ⟨_, Tr19, Lr19, Xr19, hQr19, hSr19, hZ, hown, CRr19, str19⟩ := ocallVH (s := s) Xr18 hx hZ zm27 zm27 hown (ww hw 114 rfl) (ww hw 115 rfl) (notFace_of_selects (args := #[]) (mvT hZ (ww hw 117 rfl))) (ww hw 117 rfl) (ww hw 116 rfl) (by decide) (ww hw 118 rfl) (ww hw 111 rfl) er18 f34 (rm22_61 l hw w9 br15 ci0 w10 w11 [(.int 114), (.int 101), (.int 97), (.int 100), (.int 32), (.int 108), (.int 111), (.int 99), (.int 107)] kl3 9 9 9 (-7) 10 (-6) 9 br9 b1 [(.int z2), (.int z3)] k1 2 2 12 (-4) 10 12 hr18 n0 Z_10 f35 hc5 f36 f37 f38 f39 f40 (Nat.le_of_ble_eq_true rfl) (Nat.le_of_ble_eq_true rfl) (Nat.le_of_ble_eq_true rfl) (Nat.le_of_ble_eq_true rfl) (Nat.le_of_ble_eq_true rfl) (Nat.le_of_ble_eq_true rfl) f41 f42 f43 f44 f45 f46 (Nat.le_of_ble_eq_true rfl) (Nat.le_of_ble_eq_true rfl) (Nat.le_of_ble_eq_true rfl) (Nat.le_of_ble_eq_true rfl) (Nat.le_of_ble_eq_true rfl) (Nat.le_of_ble_eq_true rfl) (Nat.le_of_ble_eq_true rfl) (by decide)) (st := [(.ref br15), (.ref w9)]) rfl 0 rfl (by decide) (pc := 207) (Ls := (lc31 i0 i1 i2 i3 i4 z1 2 z2 z3 z4 br4 br9 br15 w9 br18)) hml rfl (lenOf pd_29 rfl) at_207 hby hSr18 hkr18 (own_EW hw) C10.1 all0
          obtain ⟨b2, b3, k2, rfl, Nr19q, Kr19, sz2, sz3, ne14, f47, f48, f49, f50, f51⟩ := hQr19
          have C11 := C10.trans CRr19
          have f52 : Arv Z Tr19.heap b3 k2 .byte (12 : Int32) [(.int 114), (.int 101), (.int 97), (.int 100), (.int 32), (.int 108), (.int 111), (.int 99), (.int 107), (.int 32), (.int z2), (.int z3)] (.int (0 : Int32)) := f51
          have N10 := Fr.app N9 Nr19q
          have f53 : Exa Z Tr19.heap br18 zs6 := (fr18a.keep Kr19)
          have f54 : Fld Z Tr19.heap br18 zs6 "value" "[B" (.ref bvr18) := (fr18c.keep Kr19 nin0)
          have f55 : Arv Z Tr19.heap bvr18 clr18 .byte (9 : Int32) [(.int 114), (.int 101), (.int 97), (.int 100), (.int 32), (.int 108), (.int 111), (.int 99), (.int 107)] (.int (0 : Int32)) := (fr18d.keep Kr19 nin0)
          have f56 : Sta Z Tr19.heap zs6 zs7 "Z" (.int ci0) := (own_staK f35 Kr19 all0)
          have f57 : Fld Z Tr19.heap br18 zs6 "coder" "B" (.int 0) := (fr18b.keep Kr19 nin0)
          have Z_11 : n0 ≤ Tr19.heap.size := Nat.le_trans Z_10 Kr19.1
          obtain ⟨_, Tr20, Lr20, Xr20, hQr20, str20⟩ := ocallV Xr19 hx hZ zm12 zm12 hown (ww hw 228 rfl) (ww hw 72 rfl) (notFace_of_selects (args := #[]) (mvT hZ (ww hw 74 rfl))) (ww hw 74 rfl) (ww hw 73 rfl) (by decide) (ww hw 75 rfl) (ww hw 8 rfl) rfl f53 (rm14_24 l hw br18 bvr18 9 ci0 9 Tr19.heap n0 Z_11 f54 (own_lnV f55) f53 f56 hc5 f57 (by decide)) (st := [(.ref br18)]) rfl 0 rfl (by decide) (pc := 221) (Ls := (lc41 i0 i1 i2 i3 i4 z1 2 z2 z3 z4 br4 br9 br15 w9 br18 b2)) hml rfl (lenOf pd_12 rfl) at_221 hby
          obtain ⟨rfl, Nr20q, er20⟩ := hQr20
          have N11 := Fr.app N10 Nr20q
          obtain ⟨_, Tr21, Lr21, Xr21, hQr21, str21⟩ := ocallV Xr20 hx hZ zm12 zm12 hown (ww hw 228 rfl) (ww hw 72 rfl) (notFace_of_selects (args := #[]) (mvT hZ (ww hw 74 rfl))) (ww hw 74 rfl) (ww hw 73 rfl) (by decide) (ww hw 75 rfl) (ww hw 8 rfl) er20 f47 (rm14_24 l hw b2 b3 12 ci0 12 Tr19.heap n0 Z_11 f49 (own_lnV f52) f47 f56 hc5 f48 (by decide)) (st := [(.ref b2)]) rfl 0 rfl (by decide) (pc := 228) (Ls := (lc42 i0 i1 i2 i3 i4 z1 2 z2 z3 z4 br4 br9 br15 w9 br18 b2 9)) hml rfl (lenOf pd_12 rfl) at_228 hby
          obtain ⟨rfl, Nr21q, er21⟩ := hQr21
          have N12 := Fr.app N11 Nr21q
          have hc21 : (i0 &&& (3 : Int32)) = (1 : Int32) := hk8
          have hs22 : z1 = (1 : Int32) := by rw [hz1]; exact hc21
          refine own_go (U' := Tr21.setTop (mkF m 238 (lc42 i0 i1 i2 i3 i4 z1 2 z2 z3 z4 br4 br9 br15 w9 br18 b2 9) [(.int 12), (.int 12)])) (fun t k => oicN Xr16 hx hby at_161 (teq hs22).2 (str17 _ (oastore Xr17 hx hby at_167 (lc30 i0 i1 i2 i3 i4 z1 2 z2 z3 z4 br4 br9 br15 w9) rfl rfl (str18 _ (oastore Xr18 hx hby at_171 (lc31 i0 i1 i2 i3 i4 z1 2 z2 z3 z4 br4 br9 br15 w9 br18) rfl rfl (ogoto (pc := 173) Xr18 hx hby at_173 203 (by decide) (oaload Xr18 hx hby at_203 rfl rfl (oaload Xr18 hx hby at_205 rfl rfl (str19 _ (oastore Xr19 hx hby at_210 (lc41 i0 i1 i2 i3 i4 z1 2 z2 z3 z4 br4 br9 br15 w9 br18 b2) rfl rfl (oaload Xr19 hx hby at_212 rfl rfl (onnY (pc := 214) Xr19 hx hby at_214 219 (by decide) (oaload Xr19 hx hby at_219 rfl rfl (str20 _ (oistore Xr20 hx hby at_224 (lc42 i0 i1 i2 i3 i4 z1 2 z2 z3 z4 br4 br9 br15 w9 br18 b2 9) rfl (oaload Xr20 hx hby at_226 rfl rfl (str21 _ (oiload Xr21 hx hby at_231 rfl (oiconst Xr21 hx hby at_233 (oiadd Xr21 hx hby at_234 (oiload Xr21 hx hby at_235 rfl (oiadd Xr21 hx hby at_237 k)))))))))))))))))))))) ?_
          have f58 : Sta Z Tr19.heap zs16 zs19 zs20 vy0 := (own_staK (Sta.ext Er18 (own_staK f31 Kr16 (allS (own_nsF f25) all0))) Kr19 all0)
          obtain ⟨_, Tr22, Lr22, Xr22, hQr22, str22⟩ := ocallS Xr21 hx hZ zm28 hown (ww hw 229 rfl) (ww hw 230 rfl) (by decide) (ww hw 231 rfl) (ww hw 3 rfl) er21 (rm43_63 l hw b2 0 br18 0 bvr18 9 ci0 9 0 b3 12 vy0 114 114 Tr19.heap n0 Z_11 f53 f54 (own_lnV f55) f56 hc5 f57 f47 f48 f49 (own_lnV f52) f58 hc12 (own_elV (j := (0 : Int32)) f52 (by decide) (by decide) rfl) (own_elV (j := (0 : Int32)) f55 (by decide) (by decide) rfl) (by decide)) (st := [(.int 0), (.ref br18), (.int 0), (.ref b2)]) rfl 0 rfl (by decide) (pc := 249) (Ls := (lc42 i0 i1 i2 i3 i4 z1 2 z2 z3 z4 br4 br9 br15 w9 br18 b2 9)) hml rfl (lenOf pd_30 rfl) at_249 hby
          obtain ⟨rfl, Nr22q, er22⟩ := hQr22
          have N13 := Fr.app N12 Nr22q
          refine own_go (U' := Tr22.setTop (mkF m 252 (lc42 i0 i1 i2 i3 i4 z1 2 z2 z3 z4 br4 br9 br15 w9 br18 b2 9) [(.int 1)])) (fun t k => oicY (pc := 238) Xr21 hx hby at_238 243 (by decide) (by decide) (oaload Xr21 hx hby at_243 rfl rfl (oiconst Xr21 hx hby at_245 (oaload Xr21 hx hby at_246 rfl rfl (oiconst Xr21 hx hby at_248 (str22 _ k)))))) ?_
          obtain ⟨_, Tr23, Lr23, Xr23, hQr23, str23⟩ := ocallS Xr22 hx hZ zm28 hown (ww hw 229 rfl) (ww hw 230 rfl) (by decide) (ww hw 231 rfl) (ww hw 3 rfl) er22 (rm43_63 l hw b2 0 br18 1 bvr18 9 ci0 9 1 b3 12 vy0 101 101 Tr19.heap n0 Z_11 f53 f54 (own_lnV f55) f56 hc5 f57 f47 f48 f49 (own_lnV f52) f58 hc12 (own_elV (j := (1 : Int32)) f52 (by decide) (by decide) rfl) (own_elV (j := (1 : Int32)) f55 (by decide) (by decide) rfl) (by decide)) (st := [(.int 1), (.ref br18), (.int 0), (.ref b2)]) rfl 0 rfl (by decide) (pc := 261) (Ls := (lc42 i0 i1 i2 i3 i4 z1 2 z2 z3 z4 br4 br9 br15 w9 br18 b2 9)) hml rfl (lenOf pd_30 rfl) at_261 hby
          obtain ⟨rfl, Nr23q, er23⟩ := hQr23
          have N14 := Fr.app N13 Nr23q
          refine own_go (U' := Tr23.setTop (mkF m 264 (lc42 i0 i1 i2 i3 i4 z1 2 z2 z3 z4 br4 br9 br15 w9 br18 b2 9) [(.int 1)])) (fun t k => oifN Xr22 hx hby at_252 (by decide) (oaload Xr22 hx hby at_255 rfl rfl (oiconst Xr22 hx hby at_257 (oaload Xr22 hx hby at_258 rfl rfl (oiconst Xr22 hx hby at_260 (str23 _ k)))))) ?_
          obtain ⟨_, Tr24, Lr24, Xr24, hQr24, str24⟩ := ocallS Xr23 hx hZ zm28 hown (ww hw 229 rfl) (ww hw 230 rfl) (by decide) (ww hw 231 rfl) (ww hw 3 rfl) er23 (rm43_63 l hw b2 0 br18 2 bvr18 9 ci0 9 2 b3 12 vy0 97 97 Tr19.heap n0 Z_11 f53 f54 (own_lnV f55) f56 hc5 f57 f47 f48 f49 (own_lnV f52) f58 hc12 (own_elV (j := (2 : Int32)) f52 (by decide) (by decide) rfl) (own_elV (j := (2 : Int32)) f55 (by decide) (by decide) rfl) (by decide)) (st := [(.int 2), (.ref br18), (.int 0), (.ref b2)]) rfl 0 rfl (by decide) (pc := 273) (Ls := (lc42 i0 i1 i2 i3 i4 z1 2 z2 z3 z4 br4 br9 br15 w9 br18 b2 9)) hml rfl (lenOf pd_30 rfl) at_273 hby
          obtain ⟨rfl, Nr24q, er24⟩ := hQr24
          have N15 := Fr.app N14 Nr24q
          refine own_go (U' := Tr24.setTop (mkF m 276 (lc42 i0 i1 i2 i3 i4 z1 2 z2 z3 z4 br4 br9 br15 w9 br18 b2 9) [(.int 1)])) (fun t k => oifN Xr23 hx hby at_264 (by decide) (oaload Xr23 hx hby at_267 rfl rfl (oiconst Xr23 hx hby at_269 (oaload Xr23 hx hby at_270 rfl rfl (oiconst Xr23 hx hby at_272 (str24 _ k)))))) ?_
          obtain ⟨_, Tr25, Lr25, Xr25, hQr25, str25⟩ := ocallS Xr24 hx hZ zm28 hown (ww hw 229 rfl) (ww hw 230 rfl) (by decide) (ww hw 231 rfl) (ww hw 3 rfl) er24 (rm43_63 l hw b2 0 br18 3 bvr18 9 ci0 9 3 b3 12 vy0 100 100 Tr19.heap n0 Z_11 f53 f54 (own_lnV f55) f56 hc5 f57 f47 f48 f49 (own_lnV f52) f58 hc12 (own_elV (j := (3 : Int32)) f52 (by decide) (by decide) rfl) (own_elV (j := (3 : Int32)) f55 (by decide) (by decide) rfl) (by decide)) (st := [(.int 3), (.ref br18), (.int 0), (.ref b2)]) rfl 0 rfl (by decide) (pc := 285) (Ls := (lc42 i0 i1 i2 i3 i4 z1 2 z2 z3 z4 br4 br9 br15 w9 br18 b2 9)) hml rfl (lenOf pd_30 rfl) at_285 hby
          obtain ⟨rfl, Nr25q, er25⟩ := hQr25
          have N16 := Fr.app N15 Nr25q
          refine own_go (U' := Tr25.setTop (mkF m 288 (lc42 i0 i1 i2 i3 i4 z1 2 z2 z3 z4 br4 br9 br15 w9 br18 b2 9) [(.int 1)])) (fun t k => oifN Xr24 hx hby at_276 (by decide) (oaload Xr24 hx hby at_279 rfl rfl (oiconst Xr24 hx hby at_281 (oaload Xr24 hx hby at_282 rfl rfl (oiconst Xr24 hx hby at_284 (str25 _ k)))))) ?_
          obtain ⟨_, Tr26, Lr26, Xr26, hQr26, str26⟩ := ocallS Xr25 hx hZ zm28 hown (ww hw 229 rfl) (ww hw 230 rfl) (by decide) (ww hw 231 rfl) (ww hw 3 rfl) er25 (rm43_63 l hw b2 0 br18 4 bvr18 9 ci0 9 4 b3 12 vy0 32 32 Tr19.heap n0 Z_11 f53 f54 (own_lnV f55) f56 hc5 f57 f47 f48 f49 (own_lnV f52) f58 hc12 (own_elV (j := (4 : Int32)) f52 (by decide) (by decide) rfl) (own_elV (j := (4 : Int32)) f55 (by decide) (by decide) rfl) (by decide)) (st := [(.int 4), (.ref br18), (.int 0), (.ref b2)]) rfl 0 rfl (by decide) (pc := 297) (Ls := (lc42 i0 i1 i2 i3 i4 z1 2 z2 z3 z4 br4 br9 br15 w9 br18 b2 9)) hml rfl (lenOf pd_30 rfl) at_297 hby
          obtain ⟨rfl, Nr26q, er26⟩ := hQr26
          have N17 := Fr.app N16 Nr26q
          refine own_go (U' := Tr26.setTop (mkF m 300 (lc42 i0 i1 i2 i3 i4 z1 2 z2 z3 z4 br4 br9 br15 w9 br18 b2 9) [(.int 1)])) (fun t k => oifN Xr25 hx hby at_288 (by decide) (oaload Xr25 hx hby at_291 rfl rfl (oiconst Xr25 hx hby at_293 (oaload Xr25 hx hby at_294 rfl rfl (oiconst Xr25 hx hby at_296 (str26 _ k)))))) ?_
          obtain ⟨_, Tr27, Lr27, Xr27, hQr27, str27⟩ := ocallS Xr26 hx hZ zm28 hown (ww hw 229 rfl) (ww hw 230 rfl) (by decide) (ww hw 231 rfl) (ww hw 3 rfl) er26 (rm43_63 l hw b2 0 br18 5 bvr18 9 ci0 9 5 b3 12 vy0 108 108 Tr19.heap n0 Z_11 f53 f54 (own_lnV f55) f56 hc5 f57 f47 f48 f49 (own_lnV f52) f58 hc12 (own_elV (j := (5 : Int32)) f52 (by decide) (by decide) rfl) (own_elV (j := (5 : Int32)) f55 (by decide) (by decide) rfl) (by decide)) (st := [(.int 5), (.ref br18), (.int 0), (.ref b2)]) rfl 0 rfl (by decide) (pc := 309) (Ls := (lc42 i0 i1 i2 i3 i4 z1 2 z2 z3 z4 br4 br9 br15 w9 br18 b2 9)) hml rfl (lenOf pd_30 rfl) at_309 hby
          obtain ⟨rfl, Nr27q, er27⟩ := hQr27
          have N18 := Fr.app N17 Nr27q
          refine own_go (U' := Tr27.setTop (mkF m 312 (lc42 i0 i1 i2 i3 i4 z1 2 z2 z3 z4 br4 br9 br15 w9 br18 b2 9) [(.int 1)])) (fun t k => oifN Xr26 hx hby at_300 (by decide) (oaload Xr26 hx hby at_303 rfl rfl (oiconst Xr26 hx hby at_305 (oaload Xr26 hx hby at_306 rfl rfl (oiconst Xr26 hx hby at_308 (str27 _ k)))))) ?_
          obtain ⟨_, Tr28, Lr28, Xr28, hQr28, str28⟩ := ocallS Xr27 hx hZ zm28 hown (ww hw 229 rfl) (ww hw 230 rfl) (by decide) (ww hw 231 rfl) (ww hw 3 rfl) er27 (rm43_63 l hw b2 0 br18 6 bvr18 9 ci0 9 6 b3 12 vy0 111 111 Tr19.heap n0 Z_11 f53 f54 (own_lnV f55) f56 hc5 f57 f47 f48 f49 (own_lnV f52) f58 hc12 (own_elV (j := (6 : Int32)) f52 (by decide) (by decide) rfl) (own_elV (j := (6 : Int32)) f55 (by decide) (by decide) rfl) (by decide)) (st := [(.int 6), (.ref br18), (.int 0), (.ref b2)]) rfl 0 rfl (by decide) (pc := 322) (Ls := (lc42 i0 i1 i2 i3 i4 z1 2 z2 z3 z4 br4 br9 br15 w9 br18 b2 9)) hml rfl (lenOf pd_30 rfl) at_322 hby
          obtain ⟨rfl, Nr28q, er28⟩ := hQr28
          have N19 := Fr.app N18 Nr28q
          refine own_go (U' := Tr28.setTop (mkF m 325 (lc42 i0 i1 i2 i3 i4 z1 2 z2 z3 z4 br4 br9 br15 w9 br18 b2 9) [(.int 1)])) (fun t k => oifN Xr27 hx hby at_312 (by decide) (oaload Xr27 hx hby at_315 rfl rfl (oiconst Xr27 hx hby at_317 (oaload Xr27 hx hby at_318 rfl rfl (obipush Xr27 hx hby at_320 (str28 _ k)))))) ?_
          obtain ⟨_, Tr29, Lr29, Xr29, hQr29, str29⟩ := ocallS Xr28 hx hZ zm28 hown (ww hw 229 rfl) (ww hw 230 rfl) (by decide) (ww hw 231 rfl) (ww hw 3 rfl) er28 (rm43_63 l hw b2 0 br18 7 bvr18 9 ci0 9 7 b3 12 vy0 99 99 Tr19.heap n0 Z_11 f53 f54 (own_lnV f55) f56 hc5 f57 f47 f48 f49 (own_lnV f52) f58 hc12 (own_elV (j := (7 : Int32)) f52 (by decide) (by decide) rfl) (own_elV (j := (7 : Int32)) f55 (by decide) (by decide) rfl) (by decide)) (st := [(.int 7), (.ref br18), (.int 0), (.ref b2)]) rfl 0 rfl (by decide) (pc := 335) (Ls := (lc42 i0 i1 i2 i3 i4 z1 2 z2 z3 z4 br4 br9 br15 w9 br18 b2 9)) hml rfl (lenOf pd_30 rfl) at_335 hby
          obtain ⟨rfl, Nr29q, er29⟩ := hQr29
          have N20 := Fr.app N19 Nr29q
          refine own_go (U' := Tr29.setTop (mkF m 338 (lc42 i0 i1 i2 i3 i4 z1 2 z2 z3 z4 br4 br9 br15 w9 br18 b2 9) [(.int 1)])) (fun t k => oifN Xr28 hx hby at_325 (by decide) (oaload Xr28 hx hby at_328 rfl rfl (oiconst Xr28 hx hby at_330 (oaload Xr28 hx hby at_331 rfl rfl (obipush Xr28 hx hby at_333 (str29 _ k)))))) ?_
          obtain ⟨_, Tr30, Lr30, Xr30, hQr30, str30⟩ := ocallS Xr29 hx hZ zm28 hown (ww hw 229 rfl) (ww hw 230 rfl) (by decide) (ww hw 231 rfl) (ww hw 3 rfl) er29 (rm43_63 l hw b2 0 br18 8 bvr18 9 ci0 9 8 b3 12 vy0 107 107 Tr19.heap n0 Z_11 f53 f54 (own_lnV f55) f56 hc5 f57 f47 f48 f49 (own_lnV f52) f58 hc12 (own_elV (j := (8 : Int32)) f52 (by decide) (by decide) rfl) (own_elV (j := (8 : Int32)) f55 (by decide) (by decide) rfl) (by decide)) (st := [(.int 8), (.ref br18), (.int 0), (.ref b2)]) rfl 0 rfl (by decide) (pc := 348) (Ls := (lc42 i0 i1 i2 i3 i4 z1 2 z2 z3 z4 br4 br9 br15 w9 br18 b2 9)) hml rfl (lenOf pd_30 rfl) at_348 hby
          obtain ⟨rfl, Nr30q, er30⟩ := hQr30
          have N21 := Fr.app N20 Nr30q
          refine own_go (U' := Tr30.setTop (mkF m 351 (lc42 i0 i1 i2 i3 i4 z1 2 z2 z3 z4 br4 br9 br15 w9 br18 b2 9) [(.int 1)])) (fun t k => oifN Xr29 hx hby at_338 (by decide) (oaload Xr29 hx hby at_341 rfl rfl (oiconst Xr29 hx hby at_343 (oaload Xr29 hx hby at_344 rfl rfl (obipush Xr29 hx hby at_346 (str30 _ k)))))) ?_
          obtain ⟨_, Tr31, Lr31, Xr31, hQr31, str31⟩ := ocallS Xr30 hx hZ zm28 hown (ww hw 229 rfl) (ww hw 230 rfl) (by decide) (ww hw 231 rfl) (ww hw 3 rfl) er30 (rm43_64 l hw b2 0 br18 9 bvr18 9 ci0 9 Tr19.heap n0 Z_11 f53 f54 (own_lnV f55) f56 hc5 f57 (by decide)) (st := [(.int 9), (.ref br18), (.int 0), (.ref b2)]) rfl 0 rfl (by decide) (pc := 361) (Ls := (lc42 i0 i1 i2 i3 i4 z1 2 z2 z3 z4 br4 br9 br15 w9 br18 b2 9)) hml rfl (lenOf pd_30 rfl) at_361 hby
          obtain ⟨rfl, Nr31q, er31⟩ := hQr31
          have N22 := Fr.app N21 Nr31q
          refine own_go (U' := Tr31.setTop (mkF m 364 (lc42 i0 i1 i2 i3 i4 z1 2 z2 z3 z4 br4 br9 br15 w9 br18 b2 9) [(.int 1)])) (fun t k => oifN Xr30 hx hby at_351 (by decide) (oaload Xr30 hx hby at_354 rfl rfl (oiconst Xr30 hx hby at_356 (oaload Xr30 hx hby at_357 rfl rfl (obipush Xr30 hx hby at_359 (str31 _ k)))))) ?_
          obtain ⟨_, Tr32, Lr32, Xr32, hQr32, str32⟩ := ocallV Xr31 hx hZ zm17 zm17 hown (ww hw 232 rfl) (ww hw 82 rfl) (notFace_of_selects (args := #[]) (mvT hZ (ww hw 84 rfl))) (ww hw 84 rfl) (ww hw 83 rfl) (by decide) (ww hw 85 rfl) (ww hw 8 rfl) er31 f47 (rm16_65 l hw b2 9 ci0 b3 12 vy0 32 Tr19.heap n0 Z_11 f47 f56 hc5 f48 f49 (own_lnV f52) f58 hc12 (own_elV (j := (9 : Int32)) f52 (by decide) (by decide) rfl) (by decide)) (st := [(.int 9), (.ref b2)]) rfl 0 rfl (by decide) (pc := 378) (Ls := (lc44 i0 i1 i2 i3 i4 z1 2 z2 z3 z4 br4 br9 br15 w9 br18 b2 9 1)) hml rfl (lenOf pd_0 rfl) at_378 hby
          obtain ⟨rfl, Nr32q, er32⟩ := hQr32
          have N23 := Fr.app N22 Nr32q
          refine own_go (U' := Tr32.setTop (mkF m 383 (lc44 i0 i1 i2 i3 i4 z1 2 z2 z3 z4 br4 br9 br15 w9 br18 b2 9 1) [(.int 32), (.int 32)])) (fun t k => oifN Xr31 hx hby at_364 (by decide) (oiconst Xr31 hx hby at_367 (ogoto (pc := 368) Xr31 hx hby at_368 372 (by decide) (oistore Xr31 hx hby at_372 (lc44 i0 i1 i2 i3 i4 z1 2 z2 z3 z4 br4 br9 br15 w9 br18 b2 9 1) rfl (oaload Xr31 hx hby at_374 rfl rfl (oiload Xr31 hx hby at_376 rfl (str32 _ (obipush Xr32 hx hby at_381 k)))))))) ?_
          refine own_go (U' := Tr32.setTop (mkF m 402 (lc45 i0 i1 i2 i3 i4 z1 2 z2 z3 z4 br4 br9 br15 w9 br18 b2 9 1 1) [(.int 0), (.ref br9), (.int 10), (.ref b2)])) (fun t k => oicN Xr32 hx hby at_383 (by decide) (oiconst Xr32 hx hby at_386 (ogoto (pc := 387) Xr32 hx hby at_387 391 (by decide) (oistore Xr32 hx hby at_391 (lc45 i0 i1 i2 i3 i4 z1 2 z2 z3 z4 br4 br9 br15 w9 br18 b2 9 1 1) rfl (oaload Xr32 hx hby at_393 rfl rfl (oiload Xr32 hx hby at_395 rfl (oiconst Xr32 hx hby at_397 (oiadd Xr32 hx hby at_398 (oaload Xr32 hx hby at_399 rfl rfl (oiconst Xr32 hx hby at_401 k)))))))))) ?_
          have f59 : Exa Z Tr19.heap br9 zs6 := (f43.keep Kr19)
          have f60 : Fld Z Tr19.heap br9 zs6 "value" "[B" (.ref b1) := (f44.keep Kr19 nin0)
          have f61 : Arv Z Tr19.heap b1 k1 .byte (2 : Int32) [(.int z2), (.int z3)] (.int (0 : Int32)) := (f45.keep Kr19 nin0)
          have f62 : Fld Z Tr19.heap br9 zs6 "coder" "B" (.int 0) := (f46.keep Kr19 nin0)
          obtain ⟨_, Tr33, Lr33, Xr33, hQr33, str33⟩ := ocallS Xr32 hx hZ zm28 hown (ww hw 229 rfl) (ww hw 230 rfl) (by decide) (ww hw 231 rfl) (ww hw 3 rfl) er32 (rm43_66 l hw b2 10 br9 0 b1 2 ci0 2 10 b3 12 vy0 z2 z2 Tr19.heap n0 Z_11 f59 f60 (own_lnV f61) f56 hc5 f62 f47 f48 f49 (own_lnV f52) f58 hc12 (own_elV (j := (10 : Int32)) f52 (by decide) (by decide) rfl) hs2 hs9 hs4 (own_elV (j := (0 : Int32)) f61 (by decide) (by decide) rfl) hs2 hs9 hs4 rfl (by decide)) (st := [(.int 0), (.ref br9), (.int 10), (.ref b2)]) rfl 0 rfl (by decide) (pc := 402) (Ls := (lc45 i0 i1 i2 i3 i4 z1 2 z2 z3 z4 br4 br9 br15 w9 br18 b2 9 1 1)) hml rfl (lenOf pd_30 rfl) at_402 hby
          obtain ⟨rfl, Nr33q, er33⟩ := hQr33
          have N24 := Fr.app N23 Nr33q
          refine own_go (U' := Tr33.setTop (mkF m 405 (lc45 i0 i1 i2 i3 i4 z1 2 z2 z3 z4 br4 br9 br15 w9 br18 b2 9 1 1) [(.int 1)])) (fun t k => str33 _ k) ?_
          obtain ⟨_, Tr34, Lr34, Xr34, hQr34, str34⟩ := ocallS Xr33 hx hZ zm28 hown (ww hw 229 rfl) (ww hw 230 rfl) (by decide) (ww hw 231 rfl) (ww hw 3 rfl) er33 (rm43_66 l hw b2 10 br9 1 b1 2 ci0 2 11 b3 12 vy0 z3 z3 Tr19.heap n0 Z_11 f59 f60 (own_lnV f61) f56 hc5 f62 f47 f48 f49 (own_lnV f52) f58 hc12 (own_elV (j := (11 : Int32)) f52 (by decide) (by decide) rfl) hs33 hs39 hs35 (own_elV (j := (1 : Int32)) f61 (by decide) (by decide) rfl) hs33 hs39 hs35 rfl (by decide)) (st := [(.int 1), (.ref br9), (.int 10), (.ref b2)]) rfl 0 rfl (by decide) (pc := 417) (Ls := (lc45 i0 i1 i2 i3 i4 z1 2 z2 z3 z4 br4 br9 br15 w9 br18 b2 9 1 1)) hml rfl (lenOf pd_30 rfl) at_417 hby
          obtain ⟨rfl, Nr34q, er34⟩ := hQr34
          have N25 := Fr.app N24 Nr34q
          refine own_go (U' := Tr34.setTop (mkF m 420 (lc45 i0 i1 i2 i3 i4 z1 2 z2 z3 z4 br4 br9 br15 w9 br18 b2 9 1 1) [(.int 1)])) (fun t k => oifN Xr33 hx hby at_405 (by decide) (oaload Xr33 hx hby at_408 rfl rfl (oiload Xr33 hx hby at_410 rfl (oiconst Xr33 hx hby at_412 (oiadd Xr33 hx hby at_413 (oaload Xr33 hx hby at_414 rfl rfl (oiconst Xr33 hx hby at_416 (str34 _ k)))))))) ?_
          obtain ⟨_, Tr35, Lr35, Xr35, hQr35, str35⟩ := ocallS Xr34 hx hZ zm28 hown (ww hw 229 rfl) (ww hw 230 rfl) (by decide) (ww hw 231 rfl) (ww hw 3 rfl) er34 (rm43_64 l hw b2 10 br9 2 b1 2 ci0 2 Tr19.heap n0 Z_11 f59 f60 (own_lnV f61) f56 hc5 f62 (by decide)) (st := [(.int 2), (.ref br9), (.int 10), (.ref b2)]) rfl 0 rfl (by decide) (pc := 432) (Ls := (lc45 i0 i1 i2 i3 i4 z1 2 z2 z3 z4 br4 br9 br15 w9 br18 b2 9 1 1)) hml rfl (lenOf pd_30 rfl) at_432 hby
          obtain ⟨rfl, Nr35q, er35⟩ := hQr35
          have N26 := Fr.app N25 Nr35q
          refine own_go (U' := Tr35.setTop (mkF m 435 (lc45 i0 i1 i2 i3 i4 z1 2 z2 z3 z4 br4 br9 br15 w9 br18 b2 9 1 1) [(.int 1)])) (fun t k => oifN Xr34 hx hby at_420 (by decide) (oaload Xr34 hx hby at_423 rfl rfl (oiload Xr34 hx hby at_425 rfl (oiconst Xr34 hx hby at_427 (oiadd Xr34 hx hby at_428 (oaload Xr34 hx hby at_429 rfl rfl (oiconst Xr34 hx hby at_431 (str35 _ k)))))))) ?_
          refine own_go (U' := Tr35.setTop (mkF m 447 (lc46 i0 i1 i2 i3 i4 z1 2 z2 z3 z4 br4 br9 br15 w9 br18 b2 9 1 1 1) [(.int 1)])) (fun t k => oifN Xr35 hx hby at_435 (by decide) (oiconst Xr35 hx hby at_438 (ogoto (pc := 439) Xr35 hx hby at_439 443 (by decide) (oistore Xr35 hx hby at_443 (lc46 i0 i1 i2 i3 i4 z1 2 z2 z3 z4 br4 br9 br15 w9 br18 b2 9 1 1 1) rfl (oiload Xr35 hx hby at_445 rfl k))))) ?_
          refine own_go (U' := Tr35.setTop (mkF m 452 (lc46 i0 i1 i2 i3 i4 z1 2 z2 z3 z4 br4 br9 br15 w9 br18 b2 9 1 1 1) [(.int 1)])) (fun t k => oifN Xr35 hx hby at_447 (by decide) (oiload Xr35 hx hby at_450 rfl k)) ?_
          refine own_go (U' := Tr35.setTop (mkF m 457 (lc46 i0 i1 i2 i3 i4 z1 2 z2 z3 z4 br4 br9 br15 w9 br18 b2 9 1 1 1) [(.int 1)])) (fun t k => oifN Xr35 hx hby at_452 (by decide) (oiload Xr35 hx hby at_455 rfl k)) ?_
          refine own_go (U' := Tr35.setTop (mkF m 465 (lc46 i0 i1 i2 i3 i4 z1 2 z2 z3 z4 br4 br9 br15 w9 br18 b2 9 1 1 1) [(.int 1)])) (fun t k => oifN Xr35 hx hby at_457 (by decide) (oiconst Xr35 hx hby at_460 (ogoto (pc := 461) Xr35 hx hby at_461 465 (by decide) k))) ?_
          obtain ⟨fs, hr, hrun, hended, hW, hsame⟩ := Xr35.leave (v := some (.int 1)) (fun h => by rw [Bd.returns] at h; cases h)
          have hE := hSr19.ended hW (by show _ ≤ Tr35.heap.size; rw [er35]; exact (Nat.le_refl _)) hsame
          refine own_out ⟨_, _, ?_, hrun, hended, _, _, rfl, ?_, ?_, ⟨_, rfl⟩, hE.1, hE.2.1, hE.2.2.mono (by decide) (by decide)⟩
          · exact retN Xr35 hx (t := .boolean) Bd.returns (by simp) (hb hby at_465) hr
          · exact ⟨rfl, N26⟩
          · show CHr Z consts_1 s.vm s.heap Tr35.vm Tr35.heap; rw [hh, er35]; exact C11.trans (CHv.at (s := s) Xr35 hZ (own_EW hw) C11.1)
        · have hc23 : ¬ ((i0 &&& (3 : Int32)) = (1 : Int32)) := hk8
          have hs24 : ¬ (z1 = (1 : Int32)) := by rw [hz1]; exact hc23
          refine own_go (U' := Tr16.setTop (mkF m 179 (lc29 i0 i1 i2 i3 i4 z1 2 z2 z3 z4 br4 br9 br15) [(.int 2), (.int z1)])) (fun t k => oicY (pc := 161) Xr16 hx hby at_161 176 (feq hs24).2 (by decide) (oiload Xr16 hx hby at_176 rfl (oiconst Xr16 hx hby at_178 k))) ?_
          by_cases hk9 : (i0 &&& (3 : Int32)) = (2 : Int32)
          · have f33 : Sta Z Tr16.heap zs35 "WRITE" zs39 (.ref w6) := (own_staK (Sta.ext Er15 (Sta.ext Er13 (Sta.ext Er11 (own_staK (Sta.ext Er9 (Sta.wr Wr8 (Sta.wr Wr6 (Sta.ext Er4 S14)))) Kr10 (allS (own_nsF f7) all0))))) Kr16 (allS (own_nsE Ar15) all0))
            obtain ⟨Tr17, Xr17, er17, str17⟩ := getS2 Xr16 hx hZ hown (host := "") (Or.inl (ww hw 236 rfl)) Via.refl rfl f33 (g := (mkF m 182 (lc29 i0 i1 i2 i3 i4 z1 2 z2 z3 z4 br4 br9 br15) [])) rfl (hb hby at_182)
            obtain ⟨br18, Tr18, hr18, kr18, bvr18, clr18, Xr18, er18, Er18, hSr18, hkr18, hZ, hown, fr18a, fr18b, fr18c, fr18d, ltr18, lvr18, CRr18, -, nsr18, str18⟩ := ldcCH (s := s) Xr17 hx hZ hown (ww hw 238 rfl) (own_wS hw) er17 hSr16 (Nat.le_refl _) (own_EW hw) (List.mem_of_getElem? (i := 8) rfl) C9.1 (vs := [(.int 119), (.int 114), (.int 105), (.int 116), (.int 101), (.int 32), (.int 108), (.int 111), (.int 99), (.int 107)]) (z := 10) ⟨by decide, by decide⟩ (by decide) (by decide) (g := (mkF m 187 (lc30 i0 i1 i2 i3 i4 z1 2 z2 z3 z4 br4 br9 br15 w6) [])) rfl (hb hby at_187) (n := 40) (by decide) (by decide) (by decide) (by decide)
            have C10 := C9.trans CRr18
            have f34 : Exa Z hr18 w6 zs35 := (Exa.ext Er18 ((Exa.ext Er15 (Exa.ext Er13 (Exa.ext Er11 ((Exa.ext Er9 (Exa.wr Wr8 (Exa.wr Wr6 (Exa.ext Er4 S15)))).keep Kr10)))).keep Kr16))
            have f35 : Sta Z hr18 zs6 zs7 "Z" (.int ci0) := (Sta.ext Er18 (own_staK f29 Kr16 (allS (own_nsE Ar15) all0)))
            have ne3 : w6 ≠ br4 := Nat.ne_of_lt (nlt (S16.lt) (Nat.le_of_eq gr4.symm))
            have ne4 : w6 ≠ br9 := Nat.ne_of_lt (nlt (nlt (nlt (nlt (S16.lt) Er4.1) (Keep.of_wr Wr6).1) (Keep.of_wr Wr8).1) (Nat.le_of_eq gr9.symm))
            have ne5 : w6 ≠ br15 := Nat.ne_of_lt (nlt (nlt (nlt (nlt (nlt (nlt (nlt (nlt (S16.lt) Er4.1) (Keep.of_wr Wr6).1) (Keep.of_wr Wr8).1) Er9.1) Kr10.1) Er11.1) Er13.1) (Nat.le_of_eq gr15.symm))
            have f36 : Fld Z hr18 w6 zs35 "noun" zs23 (.ref w7) := (Fld.ext Er18 ((Fld.ext Er15 (Fld.ext Er13 (Fld.ext Er11 ((Fld.ext Er9 (Fld.other Wr8 (Fld.other Wr6 (Fld.ext Er4 S16) (Or.inl ne3)) (Or.inl ne3))).keep Kr10 (ninS ne4 nin0))))).keep Kr16 (ninS ne5 nin0)))
            have f37 : Exa Z hr18 w7 zs6 := (Exa.ext Er18 ((Exa.ext Er15 (Exa.ext Er13 (Exa.ext Er11 ((Exa.ext Er9 (Exa.wr Wr8 (Exa.wr Wr6 (Exa.ext Er4 S17)))).keep Kr10)))).keep Kr16))
            have ne6 : w7 ≠ br4 := Nat.ne_of_lt (nlt (S18.lt) (Nat.le_of_eq gr4.symm))
            have ne7 : w7 ≠ br9 := Nat.ne_of_lt (nlt (nlt (nlt (nlt (S18.lt) Er4.1) (Keep.of_wr Wr6).1) (Keep.of_wr Wr8).1) (Nat.le_of_eq gr9.symm))
            have ne8 : w7 ≠ br15 := Nat.ne_of_lt (nlt (nlt (nlt (nlt (nlt (nlt (nlt (nlt (S18.lt) Er4.1) (Keep.of_wr Wr6).1) (Keep.of_wr Wr8).1) Er9.1) Kr10.1) Er11.1) Er13.1) (Nat.le_of_eq gr15.symm))
            have f38 : Fld Z hr18 w7 zs6 "value" "[B" (.ref w8) := (Fld.ext Er18 ((Fld.ext Er15 (Fld.ext Er13 (Fld.ext Er11 ((Fld.ext Er9 (Fld.other Wr8 (Fld.other Wr6 (Fld.ext Er4 S18) (Or.inl ne6)) (Or.inl ne6))).keep Kr10 (ninS ne7 nin0))))).keep Kr16 (ninS ne8 nin0)))
            have ne9 : w8 ≠ br4 := Nat.ne_of_lt (nlt (S34.lt) (Nat.le_of_eq gr4.symm))
            have ne10 : w8 ≠ br9 := Nat.ne_of_lt (nlt (nlt (nlt (nlt (S34.lt) Er4.1) (Keep.of_wr Wr6).1) (Keep.of_wr Wr8).1) (Nat.le_of_eq gr9.symm))
            have ne11 : w8 ≠ br15 := Nat.ne_of_lt (nlt (nlt (nlt (nlt (nlt (nlt (nlt (nlt (S34.lt) Er4.1) (Keep.of_wr Wr6).1) (Keep.of_wr Wr8).1) Er9.1) Kr10.1) Er11.1) Er13.1) (Nat.le_of_eq gr15.symm))
            have f39 : Arv Z hr18 w8 kl2 .byte (10 : Int32) [(.int 119), (.int 114), (.int 105), (.int 116), (.int 101), (.int 32), (.int 108), (.int 111), (.int 99), (.int 107)] (.int (0 : Int32)) := ((((((((((S34.ext Er4).other Wr6 ne9).other Wr8 ne9).ext Er9).keep Kr10 (ninS ne10 nin0)).ext Er11).ext Er13).ext Er15).keep Kr16 (ninS ne11 nin0)).ext Er18)
            have f40 : Fld Z hr18 w7 zs6 "coder" "B" (.int 0) := (Fld.ext Er18 ((Fld.ext Er15 (Fld.ext Er13 (Fld.ext Er11 ((Fld.ext Er9 (Fld.other Wr8 (Fld.other Wr6 (Fld.ext Er4 S20) (Or.inl ne6)) (Or.inl ne6))).keep Kr10 (ninS ne7 nin0))))).keep Kr16 (ninS ne8 nin0)))
            have f41 : Exa Z hr18 br15 zs21 := (Exa.ext Er18 (Ar15.keep Kr16))
            have f42 : Fld Z hr18 br15 zs21 "value" zs23 (.ref br9) := (Fld.ext Er18 f32)
            have f43 : Exa Z hr18 br9 zs6 := (Exa.ext Er18 (f26.keep Kr16))
            have ne12 : br9 ≠ br15 := Nat.ne_of_lt (nlt (nlt (nlt (nlt (f7.lt) Kr10.1) Er11.1) Er13.1) (Nat.le_of_eq gr15.symm))
            have f44 : Fld Z hr18 br9 zs6 "value" "[B" (.ref b1) := (Fld.ext Er18 (f27.keep Kr16 (ninS ne12 nin0)))
            have ne13 : b1 ≠ br15 := Nat.ne_of_lt (nlt (nlt (nlt (f13.lt) Er11.1) Er13.1) (Nat.le_of_eq gr15.symm))
            have f45 : Arv Z hr18 b1 k1 .byte (2 : Int32) [(.int z2), (.int z3)] (.int (0 : Int32)) := ((f28.keep Kr16 (ninS ne13 nin0)).ext Er18)
            have f46 : Fld Z hr18 br9 zs6 "coder" "B" (.int 0) := (Fld.ext Er18 (f30.keep Kr16 (ninS ne12 nin0)))
            have Z_9 : n0 ≤ Tr16.heap.size := Nat.le_trans Z_8 Kr16.1
            have Z_10 : n0 ≤ hr18.size := Nat.le_trans Z_9 Er18.1
            obtain ⟨_, Tr19, Lr19, Xr19, hQr19, hSr19, hZ, hown, CRr19, str19⟩ := ocallVH (s := s) Xr18 hx hZ zm27 zm27 hown (ww hw 114 rfl) (ww hw 115 rfl) (notFace_of_selects (args := #[]) (mvT hZ (ww hw 117 rfl))) (ww hw 117 rfl) (ww hw 116 rfl) (by decide) (ww hw 118 rfl) (ww hw 111 rfl) er18 f34 (rm22_61 l hw w6 br15 ci0 w7 w8 [(.int 119), (.int 114), (.int 105), (.int 116), (.int 101), (.int 32), (.int 108), (.int 111), (.int 99), (.int 107)] kl2 10 10 10 (-6) 11 (-5) 10 br9 b1 [(.int z2), (.int z3)] k1 2 2 13 (-3) 11 13 hr18 n0 Z_10 f35 hc5 f36 f37 f38 f39 f40 (Nat.le_of_ble_eq_true rfl) (Nat.le_of_ble_eq_true rfl) (Nat.le_of_ble_eq_true rfl) (Nat.le_of_ble_eq_true rfl) (Nat.le_of_ble_eq_true rfl) (Nat.le_of_ble_eq_true rfl) f41 f42 f43 f44 f45 f46 (Nat.le_of_ble_eq_true rfl) (Nat.le_of_ble_eq_true rfl) (Nat.le_of_ble_eq_true rfl) (Nat.le_of_ble_eq_true rfl) (Nat.le_of_ble_eq_true rfl) (Nat.le_of_ble_eq_true rfl) (Nat.le_of_ble_eq_true rfl) (by decide)) (st := [(.ref br15), (.ref w6)]) rfl 0 rfl (by decide) (pc := 207) (Ls := (lc31 i0 i1 i2 i3 i4 z1 2 z2 z3 z4 br4 br9 br15 w6 br18)) hml rfl (lenOf pd_29 rfl) at_207 hby hSr18 hkr18 (own_EW hw) C10.1 all0
            obtain ⟨b2, b3, k2, rfl, Nr19q, Kr19, sz2, sz3, ne14, f47, f48, f49, f50, f51⟩ := hQr19
            have C11 := C10.trans CRr19
            have f52 : Arv Z Tr19.heap b3 k2 .byte (13 : Int32) [(.int 119), (.int 114), (.int 105), (.int 116), (.int 101), (.int 32), (.int 108), (.int 111), (.int 99), (.int 107), (.int 32), (.int z2), (.int z3)] (.int (0 : Int32)) := f51
            have N10 := Fr.app N9 Nr19q
            have f53 : Exa Z Tr19.heap br18 zs6 := (fr18a.keep Kr19)
            have f54 : Fld Z Tr19.heap br18 zs6 "value" "[B" (.ref bvr18) := (fr18c.keep Kr19 nin0)
            have f55 : Arv Z Tr19.heap bvr18 clr18 .byte (10 : Int32) [(.int 119), (.int 114), (.int 105), (.int 116), (.int 101), (.int 32), (.int 108), (.int 111), (.int 99), (.int 107)] (.int (0 : Int32)) := (fr18d.keep Kr19 nin0)
            have f56 : Sta Z Tr19.heap zs6 zs7 "Z" (.int ci0) := (own_staK f35 Kr19 all0)
            have f57 : Fld Z Tr19.heap br18 zs6 "coder" "B" (.int 0) := (fr18b.keep Kr19 nin0)
            have Z_11 : n0 ≤ Tr19.heap.size := Nat.le_trans Z_10 Kr19.1
            obtain ⟨_, Tr20, Lr20, Xr20, hQr20, str20⟩ := ocallV Xr19 hx hZ zm12 zm12 hown (ww hw 228 rfl) (ww hw 72 rfl) (notFace_of_selects (args := #[]) (mvT hZ (ww hw 74 rfl))) (ww hw 74 rfl) (ww hw 73 rfl) (by decide) (ww hw 75 rfl) (ww hw 8 rfl) rfl f53 (rm14_24 l hw br18 bvr18 10 ci0 10 Tr19.heap n0 Z_11 f54 (own_lnV f55) f53 f56 hc5 f57 (by decide)) (st := [(.ref br18)]) rfl 0 rfl (by decide) (pc := 221) (Ls := (lc41 i0 i1 i2 i3 i4 z1 2 z2 z3 z4 br4 br9 br15 w6 br18 b2)) hml rfl (lenOf pd_12 rfl) at_221 hby
            obtain ⟨rfl, Nr20q, er20⟩ := hQr20
            have N11 := Fr.app N10 Nr20q
            obtain ⟨_, Tr21, Lr21, Xr21, hQr21, str21⟩ := ocallV Xr20 hx hZ zm12 zm12 hown (ww hw 228 rfl) (ww hw 72 rfl) (notFace_of_selects (args := #[]) (mvT hZ (ww hw 74 rfl))) (ww hw 74 rfl) (ww hw 73 rfl) (by decide) (ww hw 75 rfl) (ww hw 8 rfl) er20 f47 (rm14_24 l hw b2 b3 13 ci0 13 Tr19.heap n0 Z_11 f49 (own_lnV f52) f47 f56 hc5 f48 (by decide)) (st := [(.ref b2)]) rfl 0 rfl (by decide) (pc := 228) (Ls := (lc42 i0 i1 i2 i3 i4 z1 2 z2 z3 z4 br4 br9 br15 w6 br18 b2 10)) hml rfl (lenOf pd_12 rfl) at_228 hby
            obtain ⟨rfl, Nr21q, er21⟩ := hQr21
            have N12 := Fr.app N11 Nr21q
            have hc25 : (i0 &&& (3 : Int32)) = (2 : Int32) := hk9
            have hs26 : z1 = (2 : Int32) := by rw [hz1]; exact hc25
            refine own_go (U' := Tr21.setTop (mkF m 238 (lc42 i0 i1 i2 i3 i4 z1 2 z2 z3 z4 br4 br9 br15 w6 br18 b2 10) [(.int 13), (.int 13)])) (fun t k => oicN Xr16 hx hby at_179 (teq hs26).2 (str17 _ (oastore Xr17 hx hby at_185 (lc30 i0 i1 i2 i3 i4 z1 2 z2 z3 z4 br4 br9 br15 w6) rfl rfl (str18 _ (oastore Xr18 hx hby at_189 (lc31 i0 i1 i2 i3 i4 z1 2 z2 z3 z4 br4 br9 br15 w6 br18) rfl rfl (ogoto (pc := 191) Xr18 hx hby at_191 203 (by decide) (oaload Xr18 hx hby at_203 rfl rfl (oaload Xr18 hx hby at_205 rfl rfl (str19 _ (oastore Xr19 hx hby at_210 (lc41 i0 i1 i2 i3 i4 z1 2 z2 z3 z4 br4 br9 br15 w6 br18 b2) rfl rfl (oaload Xr19 hx hby at_212 rfl rfl (onnY (pc := 214) Xr19 hx hby at_214 219 (by decide) (oaload Xr19 hx hby at_219 rfl rfl (str20 _ (oistore Xr20 hx hby at_224 (lc42 i0 i1 i2 i3 i4 z1 2 z2 z3 z4 br4 br9 br15 w6 br18 b2 10) rfl (oaload Xr20 hx hby at_226 rfl rfl (str21 _ (oiload Xr21 hx hby at_231 rfl (oiconst Xr21 hx hby at_233 (oiadd Xr21 hx hby at_234 (oiload Xr21 hx hby at_235 rfl (oiadd Xr21 hx hby at_237 k)))))))))))))))))))))) ?_
            have f58 : Sta Z Tr19.heap zs16 zs19 zs20 vy0 := (own_staK (Sta.ext Er18 (own_staK f31 Kr16 (allS (own_nsF f25) all0))) Kr19 all0)
            obtain ⟨_, Tr22, Lr22, Xr22, hQr22, str22⟩ := ocallS Xr21 hx hZ zm28 hown (ww hw 229 rfl) (ww hw 230 rfl) (by decide) (ww hw 231 rfl) (ww hw 3 rfl) er21 (rm43_63 l hw b2 0 br18 0 bvr18 10 ci0 10 0 b3 13 vy0 119 119 Tr19.heap n0 Z_11 f53 f54 (own_lnV f55) f56 hc5 f57 f47 f48 f49 (own_lnV f52) f58 hc12 (own_elV (j := (0 : Int32)) f52 (by decide) (by decide) rfl) (own_elV (j := (0 : Int32)) f55 (by decide) (by decide) rfl) (by decide)) (st := [(.int 0), (.ref br18), (.int 0), (.ref b2)]) rfl 0 rfl (by decide) (pc := 249) (Ls := (lc42 i0 i1 i2 i3 i4 z1 2 z2 z3 z4 br4 br9 br15 w6 br18 b2 10)) hml rfl (lenOf pd_30 rfl) at_249 hby
            obtain ⟨rfl, Nr22q, er22⟩ := hQr22
            have N13 := Fr.app N12 Nr22q
            refine own_go (U' := Tr22.setTop (mkF m 252 (lc42 i0 i1 i2 i3 i4 z1 2 z2 z3 z4 br4 br9 br15 w6 br18 b2 10) [(.int 1)])) (fun t k => oicY (pc := 238) Xr21 hx hby at_238 243 (by decide) (by decide) (oaload Xr21 hx hby at_243 rfl rfl (oiconst Xr21 hx hby at_245 (oaload Xr21 hx hby at_246 rfl rfl (oiconst Xr21 hx hby at_248 (str22 _ k)))))) ?_
            obtain ⟨_, Tr23, Lr23, Xr23, hQr23, str23⟩ := ocallS Xr22 hx hZ zm28 hown (ww hw 229 rfl) (ww hw 230 rfl) (by decide) (ww hw 231 rfl) (ww hw 3 rfl) er22 (rm43_63 l hw b2 0 br18 1 bvr18 10 ci0 10 1 b3 13 vy0 114 114 Tr19.heap n0 Z_11 f53 f54 (own_lnV f55) f56 hc5 f57 f47 f48 f49 (own_lnV f52) f58 hc12 (own_elV (j := (1 : Int32)) f52 (by decide) (by decide) rfl) (own_elV (j := (1 : Int32)) f55 (by decide) (by decide) rfl) (by decide)) (st := [(.int 1), (.ref br18), (.int 0), (.ref b2)]) rfl 0 rfl (by decide) (pc := 261) (Ls := (lc42 i0 i1 i2 i3 i4 z1 2 z2 z3 z4 br4 br9 br15 w6 br18 b2 10)) hml rfl (lenOf pd_30 rfl) at_261 hby
            obtain ⟨rfl, Nr23q, er23⟩ := hQr23
            have N14 := Fr.app N13 Nr23q
            refine own_go (U' := Tr23.setTop (mkF m 264 (lc42 i0 i1 i2 i3 i4 z1 2 z2 z3 z4 br4 br9 br15 w6 br18 b2 10) [(.int 1)])) (fun t k => oifN Xr22 hx hby at_252 (by decide) (oaload Xr22 hx hby at_255 rfl rfl (oiconst Xr22 hx hby at_257 (oaload Xr22 hx hby at_258 rfl rfl (oiconst Xr22 hx hby at_260 (str23 _ k)))))) ?_
            obtain ⟨_, Tr24, Lr24, Xr24, hQr24, str24⟩ := ocallS Xr23 hx hZ zm28 hown (ww hw 229 rfl) (ww hw 230 rfl) (by decide) (ww hw 231 rfl) (ww hw 3 rfl) er23 (rm43_63 l hw b2 0 br18 2 bvr18 10 ci0 10 2 b3 13 vy0 105 105 Tr19.heap n0 Z_11 f53 f54 (own_lnV f55) f56 hc5 f57 f47 f48 f49 (own_lnV f52) f58 hc12 (own_elV (j := (2 : Int32)) f52 (by decide) (by decide) rfl) (own_elV (j := (2 : Int32)) f55 (by decide) (by decide) rfl) (by decide)) (st := [(.int 2), (.ref br18), (.int 0), (.ref b2)]) rfl 0 rfl (by decide) (pc := 273) (Ls := (lc42 i0 i1 i2 i3 i4 z1 2 z2 z3 z4 br4 br9 br15 w6 br18 b2 10)) hml rfl (lenOf pd_30 rfl) at_273 hby
            obtain ⟨rfl, Nr24q, er24⟩ := hQr24
            have N15 := Fr.app N14 Nr24q
            refine own_go (U' := Tr24.setTop (mkF m 276 (lc42 i0 i1 i2 i3 i4 z1 2 z2 z3 z4 br4 br9 br15 w6 br18 b2 10) [(.int 1)])) (fun t k => oifN Xr23 hx hby at_264 (by decide) (oaload Xr23 hx hby at_267 rfl rfl (oiconst Xr23 hx hby at_269 (oaload Xr23 hx hby at_270 rfl rfl (oiconst Xr23 hx hby at_272 (str24 _ k)))))) ?_
            obtain ⟨_, Tr25, Lr25, Xr25, hQr25, str25⟩ := ocallS Xr24 hx hZ zm28 hown (ww hw 229 rfl) (ww hw 230 rfl) (by decide) (ww hw 231 rfl) (ww hw 3 rfl) er24 (rm43_63 l hw b2 0 br18 3 bvr18 10 ci0 10 3 b3 13 vy0 116 116 Tr19.heap n0 Z_11 f53 f54 (own_lnV f55) f56 hc5 f57 f47 f48 f49 (own_lnV f52) f58 hc12 (own_elV (j := (3 : Int32)) f52 (by decide) (by decide) rfl) (own_elV (j := (3 : Int32)) f55 (by decide) (by decide) rfl) (by decide)) (st := [(.int 3), (.ref br18), (.int 0), (.ref b2)]) rfl 0 rfl (by decide) (pc := 285) (Ls := (lc42 i0 i1 i2 i3 i4 z1 2 z2 z3 z4 br4 br9 br15 w6 br18 b2 10)) hml rfl (lenOf pd_30 rfl) at_285 hby
            obtain ⟨rfl, Nr25q, er25⟩ := hQr25
            have N16 := Fr.app N15 Nr25q
            refine own_go (U' := Tr25.setTop (mkF m 288 (lc42 i0 i1 i2 i3 i4 z1 2 z2 z3 z4 br4 br9 br15 w6 br18 b2 10) [(.int 1)])) (fun t k => oifN Xr24 hx hby at_276 (by decide) (oaload Xr24 hx hby at_279 rfl rfl (oiconst Xr24 hx hby at_281 (oaload Xr24 hx hby at_282 rfl rfl (oiconst Xr24 hx hby at_284 (str25 _ k)))))) ?_
            obtain ⟨_, Tr26, Lr26, Xr26, hQr26, str26⟩ := ocallS Xr25 hx hZ zm28 hown (ww hw 229 rfl) (ww hw 230 rfl) (by decide) (ww hw 231 rfl) (ww hw 3 rfl) er25 (rm43_63 l hw b2 0 br18 4 bvr18 10 ci0 10 4 b3 13 vy0 101 101 Tr19.heap n0 Z_11 f53 f54 (own_lnV f55) f56 hc5 f57 f47 f48 f49 (own_lnV f52) f58 hc12 (own_elV (j := (4 : Int32)) f52 (by decide) (by decide) rfl) (own_elV (j := (4 : Int32)) f55 (by decide) (by decide) rfl) (by decide)) (st := [(.int 4), (.ref br18), (.int 0), (.ref b2)]) rfl 0 rfl (by decide) (pc := 297) (Ls := (lc42 i0 i1 i2 i3 i4 z1 2 z2 z3 z4 br4 br9 br15 w6 br18 b2 10)) hml rfl (lenOf pd_30 rfl) at_297 hby
            obtain ⟨rfl, Nr26q, er26⟩ := hQr26
            have N17 := Fr.app N16 Nr26q
            refine own_go (U' := Tr26.setTop (mkF m 300 (lc42 i0 i1 i2 i3 i4 z1 2 z2 z3 z4 br4 br9 br15 w6 br18 b2 10) [(.int 1)])) (fun t k => oifN Xr25 hx hby at_288 (by decide) (oaload Xr25 hx hby at_291 rfl rfl (oiconst Xr25 hx hby at_293 (oaload Xr25 hx hby at_294 rfl rfl (oiconst Xr25 hx hby at_296 (str26 _ k)))))) ?_
            obtain ⟨_, Tr27, Lr27, Xr27, hQr27, str27⟩ := ocallS Xr26 hx hZ zm28 hown (ww hw 229 rfl) (ww hw 230 rfl) (by decide) (ww hw 231 rfl) (ww hw 3 rfl) er26 (rm43_63 l hw b2 0 br18 5 bvr18 10 ci0 10 5 b3 13 vy0 32 32 Tr19.heap n0 Z_11 f53 f54 (own_lnV f55) f56 hc5 f57 f47 f48 f49 (own_lnV f52) f58 hc12 (own_elV (j := (5 : Int32)) f52 (by decide) (by decide) rfl) (own_elV (j := (5 : Int32)) f55 (by decide) (by decide) rfl) (by decide)) (st := [(.int 5), (.ref br18), (.int 0), (.ref b2)]) rfl 0 rfl (by decide) (pc := 309) (Ls := (lc42 i0 i1 i2 i3 i4 z1 2 z2 z3 z4 br4 br9 br15 w6 br18 b2 10)) hml rfl (lenOf pd_30 rfl) at_309 hby
            obtain ⟨rfl, Nr27q, er27⟩ := hQr27
            have N18 := Fr.app N17 Nr27q
            refine own_go (U' := Tr27.setTop (mkF m 312 (lc42 i0 i1 i2 i3 i4 z1 2 z2 z3 z4 br4 br9 br15 w6 br18 b2 10) [(.int 1)])) (fun t k => oifN Xr26 hx hby at_300 (by decide) (oaload Xr26 hx hby at_303 rfl rfl (oiconst Xr26 hx hby at_305 (oaload Xr26 hx hby at_306 rfl rfl (oiconst Xr26 hx hby at_308 (str27 _ k)))))) ?_
            obtain ⟨_, Tr28, Lr28, Xr28, hQr28, str28⟩ := ocallS Xr27 hx hZ zm28 hown (ww hw 229 rfl) (ww hw 230 rfl) (by decide) (ww hw 231 rfl) (ww hw 3 rfl) er27 (rm43_63 l hw b2 0 br18 6 bvr18 10 ci0 10 6 b3 13 vy0 108 108 Tr19.heap n0 Z_11 f53 f54 (own_lnV f55) f56 hc5 f57 f47 f48 f49 (own_lnV f52) f58 hc12 (own_elV (j := (6 : Int32)) f52 (by decide) (by decide) rfl) (own_elV (j := (6 : Int32)) f55 (by decide) (by decide) rfl) (by decide)) (st := [(.int 6), (.ref br18), (.int 0), (.ref b2)]) rfl 0 rfl (by decide) (pc := 322) (Ls := (lc42 i0 i1 i2 i3 i4 z1 2 z2 z3 z4 br4 br9 br15 w6 br18 b2 10)) hml rfl (lenOf pd_30 rfl) at_322 hby
            obtain ⟨rfl, Nr28q, er28⟩ := hQr28
            have N19 := Fr.app N18 Nr28q
            refine own_go (U' := Tr28.setTop (mkF m 325 (lc42 i0 i1 i2 i3 i4 z1 2 z2 z3 z4 br4 br9 br15 w6 br18 b2 10) [(.int 1)])) (fun t k => oifN Xr27 hx hby at_312 (by decide) (oaload Xr27 hx hby at_315 rfl rfl (oiconst Xr27 hx hby at_317 (oaload Xr27 hx hby at_318 rfl rfl (obipush Xr27 hx hby at_320 (str28 _ k)))))) ?_
            obtain ⟨_, Tr29, Lr29, Xr29, hQr29, str29⟩ := ocallS Xr28 hx hZ zm28 hown (ww hw 229 rfl) (ww hw 230 rfl) (by decide) (ww hw 231 rfl) (ww hw 3 rfl) er28 (rm43_63 l hw b2 0 br18 7 bvr18 10 ci0 10 7 b3 13 vy0 111 111 Tr19.heap n0 Z_11 f53 f54 (own_lnV f55) f56 hc5 f57 f47 f48 f49 (own_lnV f52) f58 hc12 (own_elV (j := (7 : Int32)) f52 (by decide) (by decide) rfl) (own_elV (j := (7 : Int32)) f55 (by decide) (by decide) rfl) (by decide)) (st := [(.int 7), (.ref br18), (.int 0), (.ref b2)]) rfl 0 rfl (by decide) (pc := 335) (Ls := (lc42 i0 i1 i2 i3 i4 z1 2 z2 z3 z4 br4 br9 br15 w6 br18 b2 10)) hml rfl (lenOf pd_30 rfl) at_335 hby
            obtain ⟨rfl, Nr29q, er29⟩ := hQr29
            have N20 := Fr.app N19 Nr29q
            refine own_go (U' := Tr29.setTop (mkF m 338 (lc42 i0 i1 i2 i3 i4 z1 2 z2 z3 z4 br4 br9 br15 w6 br18 b2 10) [(.int 1)])) (fun t k => oifN Xr28 hx hby at_325 (by decide) (oaload Xr28 hx hby at_328 rfl rfl (oiconst Xr28 hx hby at_330 (oaload Xr28 hx hby at_331 rfl rfl (obipush Xr28 hx hby at_333 (str29 _ k)))))) ?_
            obtain ⟨_, Tr30, Lr30, Xr30, hQr30, str30⟩ := ocallS Xr29 hx hZ zm28 hown (ww hw 229 rfl) (ww hw 230 rfl) (by decide) (ww hw 231 rfl) (ww hw 3 rfl) er29 (rm43_63 l hw b2 0 br18 8 bvr18 10 ci0 10 8 b3 13 vy0 99 99 Tr19.heap n0 Z_11 f53 f54 (own_lnV f55) f56 hc5 f57 f47 f48 f49 (own_lnV f52) f58 hc12 (own_elV (j := (8 : Int32)) f52 (by decide) (by decide) rfl) (own_elV (j := (8 : Int32)) f55 (by decide) (by decide) rfl) (by decide)) (st := [(.int 8), (.ref br18), (.int 0), (.ref b2)]) rfl 0 rfl (by decide) (pc := 348) (Ls := (lc42 i0 i1 i2 i3 i4 z1 2 z2 z3 z4 br4 br9 br15 w6 br18 b2 10)) hml rfl (lenOf pd_30 rfl) at_348 hby
            obtain ⟨rfl, Nr30q, er30⟩ := hQr30
            have N21 := Fr.app N20 Nr30q
            refine own_go (U' := Tr30.setTop (mkF m 351 (lc42 i0 i1 i2 i3 i4 z1 2 z2 z3 z4 br4 br9 br15 w6 br18 b2 10) [(.int 1)])) (fun t k => oifN Xr29 hx hby at_338 (by decide) (oaload Xr29 hx hby at_341 rfl rfl (oiconst Xr29 hx hby at_343 (oaload Xr29 hx hby at_344 rfl rfl (obipush Xr29 hx hby at_346 (str30 _ k)))))) ?_
            obtain ⟨_, Tr31, Lr31, Xr31, hQr31, str31⟩ := ocallS Xr30 hx hZ zm28 hown (ww hw 229 rfl) (ww hw 230 rfl) (by decide) (ww hw 231 rfl) (ww hw 3 rfl) er30 (rm43_63 l hw b2 0 br18 9 bvr18 10 ci0 10 9 b3 13 vy0 107 107 Tr19.heap n0 Z_11 f53 f54 (own_lnV f55) f56 hc5 f57 f47 f48 f49 (own_lnV f52) f58 hc12 (own_elV (j := (9 : Int32)) f52 (by decide) (by decide) rfl) (own_elV (j := (9 : Int32)) f55 (by decide) (by decide) rfl) (by decide)) (st := [(.int 9), (.ref br18), (.int 0), (.ref b2)]) rfl 0 rfl (by decide) (pc := 361) (Ls := (lc42 i0 i1 i2 i3 i4 z1 2 z2 z3 z4 br4 br9 br15 w6 br18 b2 10)) hml rfl (lenOf pd_30 rfl) at_361 hby
            obtain ⟨rfl, Nr31q, er31⟩ := hQr31
            have N22 := Fr.app N21 Nr31q
            refine own_go (U' := Tr31.setTop (mkF m 364 (lc42 i0 i1 i2 i3 i4 z1 2 z2 z3 z4 br4 br9 br15 w6 br18 b2 10) [(.int 1)])) (fun t k => oifN Xr30 hx hby at_351 (by decide) (oaload Xr30 hx hby at_354 rfl rfl (oiconst Xr30 hx hby at_356 (oaload Xr30 hx hby at_357 rfl rfl (obipush Xr30 hx hby at_359 (str31 _ k)))))) ?_
            obtain ⟨_, Tr32, Lr32, Xr32, hQr32, str32⟩ := ocallV Xr31 hx hZ zm17 zm17 hown (ww hw 232 rfl) (ww hw 82 rfl) (notFace_of_selects (args := #[]) (mvT hZ (ww hw 84 rfl))) (ww hw 84 rfl) (ww hw 83 rfl) (by decide) (ww hw 85 rfl) (ww hw 8 rfl) er31 f47 (rm16_65 l hw b2 10 ci0 b3 13 vy0 32 Tr19.heap n0 Z_11 f47 f56 hc5 f48 f49 (own_lnV f52) f58 hc12 (own_elV (j := (10 : Int32)) f52 (by decide) (by decide) rfl) (by decide)) (st := [(.int 10), (.ref b2)]) rfl 0 rfl (by decide) (pc := 378) (Ls := (lc44 i0 i1 i2 i3 i4 z1 2 z2 z3 z4 br4 br9 br15 w6 br18 b2 10 1)) hml rfl (lenOf pd_0 rfl) at_378 hby
            obtain ⟨rfl, Nr32q, er32⟩ := hQr32
            have N23 := Fr.app N22 Nr32q
            refine own_go (U' := Tr32.setTop (mkF m 383 (lc44 i0 i1 i2 i3 i4 z1 2 z2 z3 z4 br4 br9 br15 w6 br18 b2 10 1) [(.int 32), (.int 32)])) (fun t k => oifN Xr31 hx hby at_364 (by decide) (oiconst Xr31 hx hby at_367 (ogoto (pc := 368) Xr31 hx hby at_368 372 (by decide) (oistore Xr31 hx hby at_372 (lc44 i0 i1 i2 i3 i4 z1 2 z2 z3 z4 br4 br9 br15 w6 br18 b2 10 1) rfl (oaload Xr31 hx hby at_374 rfl rfl (oiload Xr31 hx hby at_376 rfl (str32 _ (obipush Xr32 hx hby at_381 k)))))))) ?_
            refine own_go (U' := Tr32.setTop (mkF m 402 (lc45 i0 i1 i2 i3 i4 z1 2 z2 z3 z4 br4 br9 br15 w6 br18 b2 10 1 1) [(.int 0), (.ref br9), (.int 11), (.ref b2)])) (fun t k => oicN Xr32 hx hby at_383 (by decide) (oiconst Xr32 hx hby at_386 (ogoto (pc := 387) Xr32 hx hby at_387 391 (by decide) (oistore Xr32 hx hby at_391 (lc45 i0 i1 i2 i3 i4 z1 2 z2 z3 z4 br4 br9 br15 w6 br18 b2 10 1 1) rfl (oaload Xr32 hx hby at_393 rfl rfl (oiload Xr32 hx hby at_395 rfl (oiconst Xr32 hx hby at_397 (oiadd Xr32 hx hby at_398 (oaload Xr32 hx hby at_399 rfl rfl (oiconst Xr32 hx hby at_401 k)))))))))) ?_
            have f59 : Exa Z Tr19.heap br9 zs6 := (f43.keep Kr19)
            have f60 : Fld Z Tr19.heap br9 zs6 "value" "[B" (.ref b1) := (f44.keep Kr19 nin0)
            have f61 : Arv Z Tr19.heap b1 k1 .byte (2 : Int32) [(.int z2), (.int z3)] (.int (0 : Int32)) := (f45.keep Kr19 nin0)
            have f62 : Fld Z Tr19.heap br9 zs6 "coder" "B" (.int 0) := (f46.keep Kr19 nin0)
            obtain ⟨_, Tr33, Lr33, Xr33, hQr33, str33⟩ := ocallS Xr32 hx hZ zm28 hown (ww hw 229 rfl) (ww hw 230 rfl) (by decide) (ww hw 231 rfl) (ww hw 3 rfl) er32 (rm43_66 l hw b2 11 br9 0 b1 2 ci0 2 11 b3 13 vy0 z2 z2 Tr19.heap n0 Z_11 f59 f60 (own_lnV f61) f56 hc5 f62 f47 f48 f49 (own_lnV f52) f58 hc12 (own_elV (j := (11 : Int32)) f52 (by decide) (by decide) rfl) hs2 hs9 hs4 (own_elV (j := (0 : Int32)) f61 (by decide) (by decide) rfl) hs2 hs9 hs4 rfl (by decide)) (st := [(.int 0), (.ref br9), (.int 11), (.ref b2)]) rfl 0 rfl (by decide) (pc := 402) (Ls := (lc45 i0 i1 i2 i3 i4 z1 2 z2 z3 z4 br4 br9 br15 w6 br18 b2 10 1 1)) hml rfl (lenOf pd_30 rfl) at_402 hby
            obtain ⟨rfl, Nr33q, er33⟩ := hQr33
            have N24 := Fr.app N23 Nr33q
            refine own_go (U' := Tr33.setTop (mkF m 405 (lc45 i0 i1 i2 i3 i4 z1 2 z2 z3 z4 br4 br9 br15 w6 br18 b2 10 1 1) [(.int 1)])) (fun t k => str33 _ k) ?_
            obtain ⟨_, Tr34, Lr34, Xr34, hQr34, str34⟩ := ocallS Xr33 hx hZ zm28 hown (ww hw 229 rfl) (ww hw 230 rfl) (by decide) (ww hw 231 rfl) (ww hw 3 rfl) er33 (rm43_66 l hw b2 11 br9 1 b1 2 ci0 2 12 b3 13 vy0 z3 z3 Tr19.heap n0 Z_11 f59 f60 (own_lnV f61) f56 hc5 f62 f47 f48 f49 (own_lnV f52) f58 hc12 (own_elV (j := (12 : Int32)) f52 (by decide) (by decide) rfl) hs33 hs39 hs35 (own_elV (j := (1 : Int32)) f61 (by decide) (by decide) rfl) hs33 hs39 hs35 rfl (by decide)) (st := [(.int 1), (.ref br9), (.int 11), (.ref b2)]) rfl 0 rfl (by decide) (pc := 417) (Ls := (lc45 i0 i1 i2 i3 i4 z1 2 z2 z3 z4 br4 br9 br15 w6 br18 b2 10 1 1)) hml rfl (lenOf pd_30 rfl) at_417 hby
            obtain ⟨rfl, Nr34q, er34⟩ := hQr34
            have N25 := Fr.app N24 Nr34q
            refine own_go (U' := Tr34.setTop (mkF m 420 (lc45 i0 i1 i2 i3 i4 z1 2 z2 z3 z4 br4 br9 br15 w6 br18 b2 10 1 1) [(.int 1)])) (fun t k => oifN Xr33 hx hby at_405 (by decide) (oaload Xr33 hx hby at_408 rfl rfl (oiload Xr33 hx hby at_410 rfl (oiconst Xr33 hx hby at_412 (oiadd Xr33 hx hby at_413 (oaload Xr33 hx hby at_414 rfl rfl (oiconst Xr33 hx hby at_416 (str34 _ k)))))))) ?_
            obtain ⟨_, Tr35, Lr35, Xr35, hQr35, str35⟩ := ocallS Xr34 hx hZ zm28 hown (ww hw 229 rfl) (ww hw 230 rfl) (by decide) (ww hw 231 rfl) (ww hw 3 rfl) er34 (rm43_64 l hw b2 11 br9 2 b1 2 ci0 2 Tr19.heap n0 Z_11 f59 f60 (own_lnV f61) f56 hc5 f62 (by decide)) (st := [(.int 2), (.ref br9), (.int 11), (.ref b2)]) rfl 0 rfl (by decide) (pc := 432) (Ls := (lc45 i0 i1 i2 i3 i4 z1 2 z2 z3 z4 br4 br9 br15 w6 br18 b2 10 1 1)) hml rfl (lenOf pd_30 rfl) at_432 hby
            obtain ⟨rfl, Nr35q, er35⟩ := hQr35
            have N26 := Fr.app N25 Nr35q
            refine own_go (U' := Tr35.setTop (mkF m 435 (lc45 i0 i1 i2 i3 i4 z1 2 z2 z3 z4 br4 br9 br15 w6 br18 b2 10 1 1) [(.int 1)])) (fun t k => oifN Xr34 hx hby at_420 (by decide) (oaload Xr34 hx hby at_423 rfl rfl (oiload Xr34 hx hby at_425 rfl (oiconst Xr34 hx hby at_427 (oiadd Xr34 hx hby at_428 (oaload Xr34 hx hby at_429 rfl rfl (oiconst Xr34 hx hby at_431 (str35 _ k)))))))) ?_
            refine own_go (U' := Tr35.setTop (mkF m 447 (lc46 i0 i1 i2 i3 i4 z1 2 z2 z3 z4 br4 br9 br15 w6 br18 b2 10 1 1 1) [(.int 1)])) (fun t k => oifN Xr35 hx hby at_435 (by decide) (oiconst Xr35 hx hby at_438 (ogoto (pc := 439) Xr35 hx hby at_439 443 (by decide) (oistore Xr35 hx hby at_443 (lc46 i0 i1 i2 i3 i4 z1 2 z2 z3 z4 br4 br9 br15 w6 br18 b2 10 1 1 1) rfl (oiload Xr35 hx hby at_445 rfl k))))) ?_
            refine own_go (U' := Tr35.setTop (mkF m 452 (lc46 i0 i1 i2 i3 i4 z1 2 z2 z3 z4 br4 br9 br15 w6 br18 b2 10 1 1 1) [(.int 1)])) (fun t k => oifN Xr35 hx hby at_447 (by decide) (oiload Xr35 hx hby at_450 rfl k)) ?_
            refine own_go (U' := Tr35.setTop (mkF m 457 (lc46 i0 i1 i2 i3 i4 z1 2 z2 z3 z4 br4 br9 br15 w6 br18 b2 10 1 1 1) [(.int 1)])) (fun t k => oifN Xr35 hx hby at_452 (by decide) (oiload Xr35 hx hby at_455 rfl k)) ?_
            refine own_go (U' := Tr35.setTop (mkF m 465 (lc46 i0 i1 i2 i3 i4 z1 2 z2 z3 z4 br4 br9 br15 w6 br18 b2 10 1 1 1) [(.int 1)])) (fun t k => oifN Xr35 hx hby at_457 (by decide) (oiconst Xr35 hx hby at_460 (ogoto (pc := 461) Xr35 hx hby at_461 465 (by decide) k))) ?_
            obtain ⟨fs, hr, hrun, hended, hW, hsame⟩ := Xr35.leave (v := some (.int 1)) (fun h => by rw [Bd.returns] at h; cases h)
            have hE := hSr19.ended hW (by show _ ≤ Tr35.heap.size; rw [er35]; exact (Nat.le_refl _)) hsame
            refine own_out ⟨_, _, ?_, hrun, hended, _, _, rfl, ?_, ?_, ⟨_, rfl⟩, hE.1, hE.2.1, hE.2.2.mono (by decide) (by decide)⟩
            · exact retN Xr35 hx (t := .boolean) Bd.returns (by simp) (hb hby at_465) hr
            · exact ⟨rfl, N26⟩
            · show CHr Z consts_1 s.vm s.heap Tr35.vm Tr35.heap; rw [hh, er35]; exact C11.trans (CHv.at (s := s) Xr35 hZ (own_EW hw) C11.1)
          · have f33 : Sta Z Tr16.heap zs35 zs40 zs39 (.ref w3) := (own_staK (Sta.ext Er15 (Sta.ext Er13 (Sta.ext Er11 (own_staK (Sta.ext Er9 (Sta.wr Wr8 (Sta.wr Wr6 (Sta.ext Er4 S7)))) Kr10 (allS (own_nsF f7) all0))))) Kr16 (allS (own_nsE Ar15) all0))
            obtain ⟨Tr17, Xr17, er17, str17⟩ := getS2 Xr16 hx hZ hown (host := "") (Or.inl (ww hw 233 rfl)) Via.refl rfl f33 (g := (mkF m 194 (lc29 i0 i1 i2 i3 i4 z1 2 z2 z3 z4 br4 br9 br15) [])) rfl (hb hby at_194)
            obtain ⟨br18, Tr18, hr18, kr18, bvr18, clr18, Xr18, er18, Er18, hSr18, hkr18, hZ, hown, fr18a, fr18b, fr18c, fr18d, ltr18, lvr18, CRr18, -, nsr18, str18⟩ := ldcCH (s := s) Xr17 hx hZ hown (ww hw 235 rfl) (own_wS hw) er17 hSr16 (Nat.le_refl _) (own_EW hw) (List.mem_of_getElem? (i := 9) rfl) C9.1 (vs := [(.int 101), (.int 108), (.int 101), (.int 99), (.int 116), (.int 105), (.int 111), (.int 110)]) (z := 8) ⟨by decide, by decide⟩ (by decide) (by decide) (g := (mkF m 199 (lc30 i0 i1 i2 i3 i4 z1 2 z2 z3 z4 br4 br9 br15 w3) [])) rfl (hb hby at_199) (n := 32) (by decide) (by decide) (by decide) (by decide)
            have C10 := C9.trans CRr18
            have f34 : Exa Z hr18 w3 zs35 := (Exa.ext Er18 ((Exa.ext Er15 (Exa.ext Er13 (Exa.ext Er11 ((Exa.ext Er9 (Exa.wr Wr8 (Exa.wr Wr6 (Exa.ext Er4 S8)))).keep Kr10)))).keep Kr16))
            have f35 : Sta Z hr18 zs6 zs7 "Z" (.int ci0) := (Sta.ext Er18 (own_staK f29 Kr16 (allS (own_nsE Ar15) all0)))
            have ne3 : w3 ≠ br4 := Nat.ne_of_lt (nlt (S9.lt) (Nat.le_of_eq gr4.symm))
            have ne4 : w3 ≠ br9 := Nat.ne_of_lt (nlt (nlt (nlt (nlt (S9.lt) Er4.1) (Keep.of_wr Wr6).1) (Keep.of_wr Wr8).1) (Nat.le_of_eq gr9.symm))
            have ne5 : w3 ≠ br15 := Nat.ne_of_lt (nlt (nlt (nlt (nlt (nlt (nlt (nlt (nlt (S9.lt) Er4.1) (Keep.of_wr Wr6).1) (Keep.of_wr Wr8).1) Er9.1) Kr10.1) Er11.1) Er13.1) (Nat.le_of_eq gr15.symm))
            have f36 : Fld Z hr18 w3 zs35 "noun" zs23 (.ref w4) := (Fld.ext Er18 ((Fld.ext Er15 (Fld.ext Er13 (Fld.ext Er11 ((Fld.ext Er9 (Fld.other Wr8 (Fld.other Wr6 (Fld.ext Er4 S9) (Or.inl ne3)) (Or.inl ne3))).keep Kr10 (ninS ne4 nin0))))).keep Kr16 (ninS ne5 nin0)))
            have f37 : Exa Z hr18 w4 zs6 := (Exa.ext Er18 ((Exa.ext Er15 (Exa.ext Er13 (Exa.ext Er11 ((Exa.ext Er9 (Exa.wr Wr8 (Exa.wr Wr6 (Exa.ext Er4 S10)))).keep Kr10)))).keep Kr16))
            have ne6 : w4 ≠ br4 := Nat.ne_of_lt (nlt (S11.lt) (Nat.le_of_eq gr4.symm))
            have ne7 : w4 ≠ br9 := Nat.ne_of_lt (nlt (nlt (nlt (nlt (S11.lt) Er4.1) (Keep.of_wr Wr6).1) (Keep.of_wr Wr8).1) (Nat.le_of_eq gr9.symm))
            have ne8 : w4 ≠ br15 := Nat.ne_of_lt (nlt (nlt (nlt (nlt (nlt (nlt (nlt (nlt (S11.lt) Er4.1) (Keep.of_wr Wr6).1) (Keep.of_wr Wr8).1) Er9.1) Kr10.1) Er11.1) Er13.1) (Nat.le_of_eq gr15.symm))
            have f38 : Fld Z hr18 w4 zs6 "value" "[B" (.ref w5) := (Fld.ext Er18 ((Fld.ext Er15 (Fld.ext Er13 (Fld.ext Er11 ((Fld.ext Er9 (Fld.other Wr8 (Fld.other Wr6 (Fld.ext Er4 S11) (Or.inl ne6)) (Or.inl ne6))).keep Kr10 (ninS ne7 nin0))))).keep Kr16 (ninS ne8 nin0)))
            have ne9 : w5 ≠ br4 := Nat.ne_of_lt (nlt (S33.lt) (Nat.le_of_eq gr4.symm))
            have ne10 : w5 ≠ br9 := Nat.ne_of_lt (nlt (nlt (nlt (nlt (S33.lt) Er4.1) (Keep.of_wr Wr6).1) (Keep.of_wr Wr8).1) (Nat.le_of_eq gr9.symm))
            have ne11 : w5 ≠ br15 := Nat.ne_of_lt (nlt (nlt (nlt (nlt (nlt (nlt (nlt (nlt (S33.lt) Er4.1) (Keep.of_wr Wr6).1) (Keep.of_wr Wr8).1) Er9.1) Kr10.1) Er11.1) Er13.1) (Nat.le_of_eq gr15.symm))
            have f39 : Arv Z hr18 w5 kl1 .byte (8 : Int32) [(.int 101), (.int 108), (.int 101), (.int 99), (.int 116), (.int 105), (.int 111), (.int 110)] (.int (0 : Int32)) := ((((((((((S33.ext Er4).other Wr6 ne9).other Wr8 ne9).ext Er9).keep Kr10 (ninS ne10 nin0)).ext Er11).ext Er13).ext Er15).keep Kr16 (ninS ne11 nin0)).ext Er18)
            have f40 : Fld Z hr18 w4 zs6 "coder" "B" (.int 0) := (Fld.ext Er18 ((Fld.ext Er15 (Fld.ext Er13 (Fld.ext Er11 ((Fld.ext Er9 (Fld.other Wr8 (Fld.other Wr6 (Fld.ext Er4 S13) (Or.inl ne6)) (Or.inl ne6))).keep Kr10 (ninS ne7 nin0))))).keep Kr16 (ninS ne8 nin0)))
            have f41 : Exa Z hr18 br15 zs21 := (Exa.ext Er18 (Ar15.keep Kr16))
            have f42 : Fld Z hr18 br15 zs21 "value" zs23 (.ref br9) := (Fld.ext Er18 f32)
            have f43 : Exa Z hr18 br9 zs6 := (Exa.ext Er18 (f26.keep Kr16))
            have ne12 : br9 ≠ br15 := Nat.ne_of_lt (nlt (nlt (nlt (nlt (f7.lt) Kr10.1) Er11.1) Er13.1) (Nat.le_of_eq gr15.symm))
            have f44 : Fld Z hr18 br9 zs6 "value" "[B" (.ref b1) := (Fld.ext Er18 (f27.keep Kr16 (ninS ne12 nin0)))
            have ne13 : b1 ≠ br15 := Nat.ne_of_lt (nlt (nlt (nlt (f13.lt) Er11.1) Er13.1) (Nat.le_of_eq gr15.symm))
            have f45 : Arv Z hr18 b1 k1 .byte (2 : Int32) [(.int z2), (.int z3)] (.int (0 : Int32)) := ((f28.keep Kr16 (ninS ne13 nin0)).ext Er18)
            have f46 : Fld Z hr18 br9 zs6 "coder" "B" (.int 0) := (Fld.ext Er18 (f30.keep Kr16 (ninS ne12 nin0)))
            have Z_9 : n0 ≤ Tr16.heap.size := Nat.le_trans Z_8 Kr16.1
            have Z_10 : n0 ≤ hr18.size := Nat.le_trans Z_9 Er18.1
            obtain ⟨_, Tr19, Lr19, Xr19, hQr19, hSr19, hZ, hown, CRr19, str19⟩ := ocallVH (s := s) Xr18 hx hZ zm27 zm27 hown (ww hw 114 rfl) (ww hw 115 rfl) (notFace_of_selects (args := #[]) (mvT hZ (ww hw 117 rfl))) (ww hw 117 rfl) (ww hw 116 rfl) (by decide) (ww hw 118 rfl) (ww hw 111 rfl) er18 f34 (rm22_61 l hw w3 br15 ci0 w4 w5 [(.int 101), (.int 108), (.int 101), (.int 99), (.int 116), (.int 105), (.int 111), (.int 110)] kl1 8 8 8 (-8) 9 (-7) 8 br9 b1 [(.int z2), (.int z3)] k1 2 2 11 (-5) 9 11 hr18 n0 Z_10 f35 hc5 f36 f37 f38 f39 f40 (Nat.le_of_ble_eq_true rfl) (Nat.le_of_ble_eq_true rfl) (Nat.le_of_ble_eq_true rfl) (Nat.le_of_ble_eq_true rfl) (Nat.le_of_ble_eq_true rfl) (Nat.le_of_ble_eq_true rfl) f41 f42 f43 f44 f45 f46 (Nat.le_of_ble_eq_true rfl) (Nat.le_of_ble_eq_true rfl) (Nat.le_of_ble_eq_true rfl) (Nat.le_of_ble_eq_true rfl) (Nat.le_of_ble_eq_true rfl) (Nat.le_of_ble_eq_true rfl) (Nat.le_of_ble_eq_true rfl) (by decide)) (st := [(.ref br15), (.ref w3)]) rfl 0 rfl (by decide) (pc := 207) (Ls := (lc31 i0 i1 i2 i3 i4 z1 2 z2 z3 z4 br4 br9 br15 w3 br18)) hml rfl (lenOf pd_29 rfl) at_207 hby hSr18 hkr18 (own_EW hw) C10.1 all0
            obtain ⟨b2, b3, k2, rfl, Nr19q, Kr19, sz2, sz3, ne14, f47, f48, f49, f50, f51⟩ := hQr19
            have C11 := C10.trans CRr19
            have f52 : Arv Z Tr19.heap b3 k2 .byte (11 : Int32) [(.int 101), (.int 108), (.int 101), (.int 99), (.int 116), (.int 105), (.int 111), (.int 110), (.int 32), (.int z2), (.int z3)] (.int (0 : Int32)) := f51
            have N10 := Fr.app N9 Nr19q
            have f53 : Exa Z Tr19.heap br18 zs6 := (fr18a.keep Kr19)
            have f54 : Fld Z Tr19.heap br18 zs6 "value" "[B" (.ref bvr18) := (fr18c.keep Kr19 nin0)
            have f55 : Arv Z Tr19.heap bvr18 clr18 .byte (8 : Int32) [(.int 101), (.int 108), (.int 101), (.int 99), (.int 116), (.int 105), (.int 111), (.int 110)] (.int (0 : Int32)) := (fr18d.keep Kr19 nin0)
            have f56 : Sta Z Tr19.heap zs6 zs7 "Z" (.int ci0) := (own_staK f35 Kr19 all0)
            have f57 : Fld Z Tr19.heap br18 zs6 "coder" "B" (.int 0) := (fr18b.keep Kr19 nin0)
            have Z_11 : n0 ≤ Tr19.heap.size := Nat.le_trans Z_10 Kr19.1
            obtain ⟨_, Tr20, Lr20, Xr20, hQr20, str20⟩ := ocallV Xr19 hx hZ zm12 zm12 hown (ww hw 228 rfl) (ww hw 72 rfl) (notFace_of_selects (args := #[]) (mvT hZ (ww hw 74 rfl))) (ww hw 74 rfl) (ww hw 73 rfl) (by decide) (ww hw 75 rfl) (ww hw 8 rfl) rfl f53 (rm14_24 l hw br18 bvr18 8 ci0 8 Tr19.heap n0 Z_11 f54 (own_lnV f55) f53 f56 hc5 f57 (by decide)) (st := [(.ref br18)]) rfl 0 rfl (by decide) (pc := 221) (Ls := (lc41 i0 i1 i2 i3 i4 z1 2 z2 z3 z4 br4 br9 br15 w3 br18 b2)) hml rfl (lenOf pd_12 rfl) at_221 hby
            obtain ⟨rfl, Nr20q, er20⟩ := hQr20
            have N11 := Fr.app N10 Nr20q
            obtain ⟨_, Tr21, Lr21, Xr21, hQr21, str21⟩ := ocallV Xr20 hx hZ zm12 zm12 hown (ww hw 228 rfl) (ww hw 72 rfl) (notFace_of_selects (args := #[]) (mvT hZ (ww hw 74 rfl))) (ww hw 74 rfl) (ww hw 73 rfl) (by decide) (ww hw 75 rfl) (ww hw 8 rfl) er20 f47 (rm14_24 l hw b2 b3 11 ci0 11 Tr19.heap n0 Z_11 f49 (own_lnV f52) f47 f56 hc5 f48 (by decide)) (st := [(.ref b2)]) rfl 0 rfl (by decide) (pc := 228) (Ls := (lc42 i0 i1 i2 i3 i4 z1 2 z2 z3 z4 br4 br9 br15 w3 br18 b2 8)) hml rfl (lenOf pd_12 rfl) at_228 hby
            obtain ⟨rfl, Nr21q, er21⟩ := hQr21
            have N12 := Fr.app N11 Nr21q
            have hc27 : ¬ ((i0 &&& (3 : Int32)) = (2 : Int32)) := hk9
            have hs28 : ¬ (z1 = (2 : Int32)) := by rw [hz1]; exact hc27
            refine own_go (U' := Tr21.setTop (mkF m 238 (lc42 i0 i1 i2 i3 i4 z1 2 z2 z3 z4 br4 br9 br15 w3 br18 b2 8) [(.int 11), (.int 11)])) (fun t k => oicY (pc := 179) Xr16 hx hby at_179 194 (feq hs28).2 (by decide) (str17 _ (oastore Xr17 hx hby at_197 (lc30 i0 i1 i2 i3 i4 z1 2 z2 z3 z4 br4 br9 br15 w3) rfl rfl (str18 _ (oastore Xr18 hx hby at_201 (lc31 i0 i1 i2 i3 i4 z1 2 z2 z3 z4 br4 br9 br15 w3 br18) rfl rfl (oaload Xr18 hx hby at_203 rfl rfl (oaload Xr18 hx hby at_205 rfl rfl (str19 _ (oastore Xr19 hx hby at_210 (lc41 i0 i1 i2 i3 i4 z1 2 z2 z3 z4 br4 br9 br15 w3 br18 b2) rfl rfl (oaload Xr19 hx hby at_212 rfl rfl (onnY (pc := 214) Xr19 hx hby at_214 219 (by decide) (oaload Xr19 hx hby at_219 rfl rfl (str20 _ (oistore Xr20 hx hby at_224 (lc42 i0 i1 i2 i3 i4 z1 2 z2 z3 z4 br4 br9 br15 w3 br18 b2 8) rfl (oaload Xr20 hx hby at_226 rfl rfl (str21 _ (oiload Xr21 hx hby at_231 rfl (oiconst Xr21 hx hby at_233 (oiadd Xr21 hx hby at_234 (oiload Xr21 hx hby at_235 rfl (oiadd Xr21 hx hby at_237 k))))))))))))))))))))) ?_
            have f58 : Sta Z Tr19.heap zs16 zs19 zs20 vy0 := (own_staK (Sta.ext Er18 (own_staK f31 Kr16 (allS (own_nsF f25) all0))) Kr19 all0)
            obtain ⟨_, Tr22, Lr22, Xr22, hQr22, str22⟩ := ocallS Xr21 hx hZ zm28 hown (ww hw 229 rfl) (ww hw 230 rfl) (by decide) (ww hw 231 rfl) (ww hw 3 rfl) er21 (rm43_63 l hw b2 0 br18 0 bvr18 8 ci0 8 0 b3 11 vy0 101 101 Tr19.heap n0 Z_11 f53 f54 (own_lnV f55) f56 hc5 f57 f47 f48 f49 (own_lnV f52) f58 hc12 (own_elV (j := (0 : Int32)) f52 (by decide) (by decide) rfl) (own_elV (j := (0 : Int32)) f55 (by decide) (by decide) rfl) (by decide)) (st := [(.int 0), (.ref br18), (.int 0), (.ref b2)]) rfl 0 rfl (by decide) (pc := 249) (Ls := (lc42 i0 i1 i2 i3 i4 z1 2 z2 z3 z4 br4 br9 br15 w3 br18 b2 8)) hml rfl (lenOf pd_30 rfl) at_249 hby
            obtain ⟨rfl, Nr22q, er22⟩ := hQr22
            have N13 := Fr.app N12 Nr22q
            refine own_go (U' := Tr22.setTop (mkF m 252 (lc42 i0 i1 i2 i3 i4 z1 2 z2 z3 z4 br4 br9 br15 w3 br18 b2 8) [(.int 1)])) (fun t k => oicY (pc := 238) Xr21 hx hby at_238 243 (by decide) (by decide) (oaload Xr21 hx hby at_243 rfl rfl (oiconst Xr21 hx hby at_245 (oaload Xr21 hx hby at_246 rfl rfl (oiconst Xr21 hx hby at_248 (str22 _ k)))))) ?_
            obtain ⟨_, Tr23, Lr23, Xr23, hQr23, str23⟩ := ocallS Xr22 hx hZ zm28 hown (ww hw 229 rfl) (ww hw 230 rfl) (by decide) (ww hw 231 rfl) (ww hw 3 rfl) er22 (rm43_63 l hw b2 0 br18 1 bvr18 8 ci0 8 1 b3 11 vy0 108 108 Tr19.heap n0 Z_11 f53 f54 (own_lnV f55) f56 hc5 f57 f47 f48 f49 (own_lnV f52) f58 hc12 (own_elV (j := (1 : Int32)) f52 (by decide) (by decide) rfl) (own_elV (j := (1 : Int32)) f55 (by decide) (by decide) rfl) (by decide)) (st := [(.int 1), (.ref br18), (.int 0), (.ref b2)]) rfl 0 rfl (by decide) (pc := 261) (Ls := (lc42 i0 i1 i2 i3 i4 z1 2 z2 z3 z4 br4 br9 br15 w3 br18 b2 8)) hml rfl (lenOf pd_30 rfl) at_261 hby
            obtain ⟨rfl, Nr23q, er23⟩ := hQr23
            have N14 := Fr.app N13 Nr23q
            refine own_go (U' := Tr23.setTop (mkF m 264 (lc42 i0 i1 i2 i3 i4 z1 2 z2 z3 z4 br4 br9 br15 w3 br18 b2 8) [(.int 1)])) (fun t k => oifN Xr22 hx hby at_252 (by decide) (oaload Xr22 hx hby at_255 rfl rfl (oiconst Xr22 hx hby at_257 (oaload Xr22 hx hby at_258 rfl rfl (oiconst Xr22 hx hby at_260 (str23 _ k)))))) ?_
            obtain ⟨_, Tr24, Lr24, Xr24, hQr24, str24⟩ := ocallS Xr23 hx hZ zm28 hown (ww hw 229 rfl) (ww hw 230 rfl) (by decide) (ww hw 231 rfl) (ww hw 3 rfl) er23 (rm43_63 l hw b2 0 br18 2 bvr18 8 ci0 8 2 b3 11 vy0 101 101 Tr19.heap n0 Z_11 f53 f54 (own_lnV f55) f56 hc5 f57 f47 f48 f49 (own_lnV f52) f58 hc12 (own_elV (j := (2 : Int32)) f52 (by decide) (by decide) rfl) (own_elV (j := (2 : Int32)) f55 (by decide) (by decide) rfl) (by decide)) (st := [(.int 2), (.ref br18), (.int 0), (.ref b2)]) rfl 0 rfl (by decide) (pc := 273) (Ls := (lc42 i0 i1 i2 i3 i4 z1 2 z2 z3 z4 br4 br9 br15 w3 br18 b2 8)) hml rfl (lenOf pd_30 rfl) at_273 hby
            obtain ⟨rfl, Nr24q, er24⟩ := hQr24
            have N15 := Fr.app N14 Nr24q
            refine own_go (U' := Tr24.setTop (mkF m 276 (lc42 i0 i1 i2 i3 i4 z1 2 z2 z3 z4 br4 br9 br15 w3 br18 b2 8) [(.int 1)])) (fun t k => oifN Xr23 hx hby at_264 (by decide) (oaload Xr23 hx hby at_267 rfl rfl (oiconst Xr23 hx hby at_269 (oaload Xr23 hx hby at_270 rfl rfl (oiconst Xr23 hx hby at_272 (str24 _ k)))))) ?_
            obtain ⟨_, Tr25, Lr25, Xr25, hQr25, str25⟩ := ocallS Xr24 hx hZ zm28 hown (ww hw 229 rfl) (ww hw 230 rfl) (by decide) (ww hw 231 rfl) (ww hw 3 rfl) er24 (rm43_63 l hw b2 0 br18 3 bvr18 8 ci0 8 3 b3 11 vy0 99 99 Tr19.heap n0 Z_11 f53 f54 (own_lnV f55) f56 hc5 f57 f47 f48 f49 (own_lnV f52) f58 hc12 (own_elV (j := (3 : Int32)) f52 (by decide) (by decide) rfl) (own_elV (j := (3 : Int32)) f55 (by decide) (by decide) rfl) (by decide)) (st := [(.int 3), (.ref br18), (.int 0), (.ref b2)]) rfl 0 rfl (by decide) (pc := 285) (Ls := (lc42 i0 i1 i2 i3 i4 z1 2 z2 z3 z4 br4 br9 br15 w3 br18 b2 8)) hml rfl (lenOf pd_30 rfl) at_285 hby
            obtain ⟨rfl, Nr25q, er25⟩ := hQr25
            have N16 := Fr.app N15 Nr25q
            refine own_go (U' := Tr25.setTop (mkF m 288 (lc42 i0 i1 i2 i3 i4 z1 2 z2 z3 z4 br4 br9 br15 w3 br18 b2 8) [(.int 1)])) (fun t k => oifN Xr24 hx hby at_276 (by decide) (oaload Xr24 hx hby at_279 rfl rfl (oiconst Xr24 hx hby at_281 (oaload Xr24 hx hby at_282 rfl rfl (oiconst Xr24 hx hby at_284 (str25 _ k)))))) ?_
            obtain ⟨_, Tr26, Lr26, Xr26, hQr26, str26⟩ := ocallS Xr25 hx hZ zm28 hown (ww hw 229 rfl) (ww hw 230 rfl) (by decide) (ww hw 231 rfl) (ww hw 3 rfl) er25 (rm43_63 l hw b2 0 br18 4 bvr18 8 ci0 8 4 b3 11 vy0 116 116 Tr19.heap n0 Z_11 f53 f54 (own_lnV f55) f56 hc5 f57 f47 f48 f49 (own_lnV f52) f58 hc12 (own_elV (j := (4 : Int32)) f52 (by decide) (by decide) rfl) (own_elV (j := (4 : Int32)) f55 (by decide) (by decide) rfl) (by decide)) (st := [(.int 4), (.ref br18), (.int 0), (.ref b2)]) rfl 0 rfl (by decide) (pc := 297) (Ls := (lc42 i0 i1 i2 i3 i4 z1 2 z2 z3 z4 br4 br9 br15 w3 br18 b2 8)) hml rfl (lenOf pd_30 rfl) at_297 hby
            obtain ⟨rfl, Nr26q, er26⟩ := hQr26
            have N17 := Fr.app N16 Nr26q
            refine own_go (U' := Tr26.setTop (mkF m 300 (lc42 i0 i1 i2 i3 i4 z1 2 z2 z3 z4 br4 br9 br15 w3 br18 b2 8) [(.int 1)])) (fun t k => oifN Xr25 hx hby at_288 (by decide) (oaload Xr25 hx hby at_291 rfl rfl (oiconst Xr25 hx hby at_293 (oaload Xr25 hx hby at_294 rfl rfl (oiconst Xr25 hx hby at_296 (str26 _ k)))))) ?_
            obtain ⟨_, Tr27, Lr27, Xr27, hQr27, str27⟩ := ocallS Xr26 hx hZ zm28 hown (ww hw 229 rfl) (ww hw 230 rfl) (by decide) (ww hw 231 rfl) (ww hw 3 rfl) er26 (rm43_63 l hw b2 0 br18 5 bvr18 8 ci0 8 5 b3 11 vy0 105 105 Tr19.heap n0 Z_11 f53 f54 (own_lnV f55) f56 hc5 f57 f47 f48 f49 (own_lnV f52) f58 hc12 (own_elV (j := (5 : Int32)) f52 (by decide) (by decide) rfl) (own_elV (j := (5 : Int32)) f55 (by decide) (by decide) rfl) (by decide)) (st := [(.int 5), (.ref br18), (.int 0), (.ref b2)]) rfl 0 rfl (by decide) (pc := 309) (Ls := (lc42 i0 i1 i2 i3 i4 z1 2 z2 z3 z4 br4 br9 br15 w3 br18 b2 8)) hml rfl (lenOf pd_30 rfl) at_309 hby
            obtain ⟨rfl, Nr27q, er27⟩ := hQr27
            have N18 := Fr.app N17 Nr27q
            refine own_go (U' := Tr27.setTop (mkF m 312 (lc42 i0 i1 i2 i3 i4 z1 2 z2 z3 z4 br4 br9 br15 w3 br18 b2 8) [(.int 1)])) (fun t k => oifN Xr26 hx hby at_300 (by decide) (oaload Xr26 hx hby at_303 rfl rfl (oiconst Xr26 hx hby at_305 (oaload Xr26 hx hby at_306 rfl rfl (oiconst Xr26 hx hby at_308 (str27 _ k)))))) ?_
            obtain ⟨_, Tr28, Lr28, Xr28, hQr28, str28⟩ := ocallS Xr27 hx hZ zm28 hown (ww hw 229 rfl) (ww hw 230 rfl) (by decide) (ww hw 231 rfl) (ww hw 3 rfl) er27 (rm43_63 l hw b2 0 br18 6 bvr18 8 ci0 8 6 b3 11 vy0 111 111 Tr19.heap n0 Z_11 f53 f54 (own_lnV f55) f56 hc5 f57 f47 f48 f49 (own_lnV f52) f58 hc12 (own_elV (j := (6 : Int32)) f52 (by decide) (by decide) rfl) (own_elV (j := (6 : Int32)) f55 (by decide) (by decide) rfl) (by decide)) (st := [(.int 6), (.ref br18), (.int 0), (.ref b2)]) rfl 0 rfl (by decide) (pc := 322) (Ls := (lc42 i0 i1 i2 i3 i4 z1 2 z2 z3 z4 br4 br9 br15 w3 br18 b2 8)) hml rfl (lenOf pd_30 rfl) at_322 hby
            obtain ⟨rfl, Nr28q, er28⟩ := hQr28
            have N19 := Fr.app N18 Nr28q
            refine own_go (U' := Tr28.setTop (mkF m 325 (lc42 i0 i1 i2 i3 i4 z1 2 z2 z3 z4 br4 br9 br15 w3 br18 b2 8) [(.int 1)])) (fun t k => oifN Xr27 hx hby at_312 (by decide) (oaload Xr27 hx hby at_315 rfl rfl (oiconst Xr27 hx hby at_317 (oaload Xr27 hx hby at_318 rfl rfl (obipush Xr27 hx hby at_320 (str28 _ k)))))) ?_
            obtain ⟨_, Tr29, Lr29, Xr29, hQr29, str29⟩ := ocallS Xr28 hx hZ zm28 hown (ww hw 229 rfl) (ww hw 230 rfl) (by decide) (ww hw 231 rfl) (ww hw 3 rfl) er28 (rm43_63 l hw b2 0 br18 7 bvr18 8 ci0 8 7 b3 11 vy0 110 110 Tr19.heap n0 Z_11 f53 f54 (own_lnV f55) f56 hc5 f57 f47 f48 f49 (own_lnV f52) f58 hc12 (own_elV (j := (7 : Int32)) f52 (by decide) (by decide) rfl) (own_elV (j := (7 : Int32)) f55 (by decide) (by decide) rfl) (by decide)) (st := [(.int 7), (.ref br18), (.int 0), (.ref b2)]) rfl 0 rfl (by decide) (pc := 335) (Ls := (lc42 i0 i1 i2 i3 i4 z1 2 z2 z3 z4 br4 br9 br15 w3 br18 b2 8)) hml rfl (lenOf pd_30 rfl) at_335 hby
            obtain ⟨rfl, Nr29q, er29⟩ := hQr29
            have N20 := Fr.app N19 Nr29q
            refine own_go (U' := Tr29.setTop (mkF m 338 (lc42 i0 i1 i2 i3 i4 z1 2 z2 z3 z4 br4 br9 br15 w3 br18 b2 8) [(.int 1)])) (fun t k => oifN Xr28 hx hby at_325 (by decide) (oaload Xr28 hx hby at_328 rfl rfl (oiconst Xr28 hx hby at_330 (oaload Xr28 hx hby at_331 rfl rfl (obipush Xr28 hx hby at_333 (str29 _ k)))))) ?_
            obtain ⟨_, Tr30, Lr30, Xr30, hQr30, str30⟩ := ocallS Xr29 hx hZ zm28 hown (ww hw 229 rfl) (ww hw 230 rfl) (by decide) (ww hw 231 rfl) (ww hw 3 rfl) er29 (rm43_64 l hw b2 0 br18 8 bvr18 8 ci0 8 Tr19.heap n0 Z_11 f53 f54 (own_lnV f55) f56 hc5 f57 (by decide)) (st := [(.int 8), (.ref br18), (.int 0), (.ref b2)]) rfl 0 rfl (by decide) (pc := 348) (Ls := (lc42 i0 i1 i2 i3 i4 z1 2 z2 z3 z4 br4 br9 br15 w3 br18 b2 8)) hml rfl (lenOf pd_30 rfl) at_348 hby
            obtain ⟨rfl, Nr30q, er30⟩ := hQr30
            have N21 := Fr.app N20 Nr30q
            refine own_go (U' := Tr30.setTop (mkF m 351 (lc42 i0 i1 i2 i3 i4 z1 2 z2 z3 z4 br4 br9 br15 w3 br18 b2 8) [(.int 1)])) (fun t k => oifN Xr29 hx hby at_338 (by decide) (oaload Xr29 hx hby at_341 rfl rfl (oiconst Xr29 hx hby at_343 (oaload Xr29 hx hby at_344 rfl rfl (obipush Xr29 hx hby at_346 (str30 _ k)))))) ?_
            obtain ⟨_, Tr31, Lr31, Xr31, hQr31, str31⟩ := ocallS Xr30 hx hZ zm28 hown (ww hw 229 rfl) (ww hw 230 rfl) (by decide) (ww hw 231 rfl) (ww hw 3 rfl) er30 (rm43_64 l hw b2 0 br18 9 bvr18 8 ci0 8 Tr19.heap n0 Z_11 f53 f54 (own_lnV f55) f56 hc5 f57 (by decide)) (st := [(.int 9), (.ref br18), (.int 0), (.ref b2)]) rfl 0 rfl (by decide) (pc := 361) (Ls := (lc42 i0 i1 i2 i3 i4 z1 2 z2 z3 z4 br4 br9 br15 w3 br18 b2 8)) hml rfl (lenOf pd_30 rfl) at_361 hby
            obtain ⟨rfl, Nr31q, er31⟩ := hQr31
            have N22 := Fr.app N21 Nr31q
            refine own_go (U' := Tr31.setTop (mkF m 364 (lc42 i0 i1 i2 i3 i4 z1 2 z2 z3 z4 br4 br9 br15 w3 br18 b2 8) [(.int 1)])) (fun t k => oifN Xr30 hx hby at_351 (by decide) (oaload Xr30 hx hby at_354 rfl rfl (oiconst Xr30 hx hby at_356 (oaload Xr30 hx hby at_357 rfl rfl (obipush Xr30 hx hby at_359 (str31 _ k)))))) ?_
            obtain ⟨_, Tr32, Lr32, Xr32, hQr32, str32⟩ := ocallV Xr31 hx hZ zm17 zm17 hown (ww hw 232 rfl) (ww hw 82 rfl) (notFace_of_selects (args := #[]) (mvT hZ (ww hw 84 rfl))) (ww hw 84 rfl) (ww hw 83 rfl) (by decide) (ww hw 85 rfl) (ww hw 8 rfl) er31 f47 (rm16_65 l hw b2 8 ci0 b3 11 vy0 32 Tr19.heap n0 Z_11 f47 f56 hc5 f48 f49 (own_lnV f52) f58 hc12 (own_elV (j := (8 : Int32)) f52 (by decide) (by decide) rfl) (by decide)) (st := [(.int 8), (.ref b2)]) rfl 0 rfl (by decide) (pc := 378) (Ls := (lc44 i0 i1 i2 i3 i4 z1 2 z2 z3 z4 br4 br9 br15 w3 br18 b2 8 1)) hml rfl (lenOf pd_0 rfl) at_378 hby
            obtain ⟨rfl, Nr32q, er32⟩ := hQr32
            have N23 := Fr.app N22 Nr32q
            refine own_go (U' := Tr32.setTop (mkF m 383 (lc44 i0 i1 i2 i3 i4 z1 2 z2 z3 z4 br4 br9 br15 w3 br18 b2 8 1) [(.int 32), (.int 32)])) (fun t k => oifN Xr31 hx hby at_364 (by decide) (oiconst Xr31 hx hby at_367 (ogoto (pc := 368) Xr31 hx hby at_368 372 (by decide) (oistore Xr31 hx hby at_372 (lc44 i0 i1 i2 i3 i4 z1 2 z2 z3 z4 br4 br9 br15 w3 br18 b2 8 1) rfl (oaload Xr31 hx hby at_374 rfl rfl (oiload Xr31 hx hby at_376 rfl (str32 _ (obipush Xr32 hx hby at_381 k)))))))) ?_
            refine own_go (U' := Tr32.setTop (mkF m 402 (lc45 i0 i1 i2 i3 i4 z1 2 z2 z3 z4 br4 br9 br15 w3 br18 b2 8 1 1) [(.int 0), (.ref br9), (.int 9), (.ref b2)])) (fun t k => oicN Xr32 hx hby at_383 (by decide) (oiconst Xr32 hx hby at_386 (ogoto (pc := 387) Xr32 hx hby at_387 391 (by decide) (oistore Xr32 hx hby at_391 (lc45 i0 i1 i2 i3 i4 z1 2 z2 z3 z4 br4 br9 br15 w3 br18 b2 8 1 1) rfl (oaload Xr32 hx hby at_393 rfl rfl (oiload Xr32 hx hby at_395 rfl (oiconst Xr32 hx hby at_397 (oiadd Xr32 hx hby at_398 (oaload Xr32 hx hby at_399 rfl rfl (oiconst Xr32 hx hby at_401 k)))))))))) ?_
            have f59 : Exa Z Tr19.heap br9 zs6 := (f43.keep Kr19)
            have f60 : Fld Z Tr19.heap br9 zs6 "value" "[B" (.ref b1) := (f44.keep Kr19 nin0)
            have f61 : Arv Z Tr19.heap b1 k1 .byte (2 : Int32) [(.int z2), (.int z3)] (.int (0 : Int32)) := (f45.keep Kr19 nin0)
            have f62 : Fld Z Tr19.heap br9 zs6 "coder" "B" (.int 0) := (f46.keep Kr19 nin0)
            obtain ⟨_, Tr33, Lr33, Xr33, hQr33, str33⟩ := ocallS Xr32 hx hZ zm28 hown (ww hw 229 rfl) (ww hw 230 rfl) (by decide) (ww hw 231 rfl) (ww hw 3 rfl) er32 (rm43_66 l hw b2 9 br9 0 b1 2 ci0 2 9 b3 11 vy0 z2 z2 Tr19.heap n0 Z_11 f59 f60 (own_lnV f61) f56 hc5 f62 f47 f48 f49 (own_lnV f52) f58 hc12 (own_elV (j := (9 : Int32)) f52 (by decide) (by decide) rfl) hs2 hs9 hs4 (own_elV (j := (0 : Int32)) f61 (by decide) (by decide) rfl) hs2 hs9 hs4 rfl (by decide)) (st := [(.int 0), (.ref br9), (.int 9), (.ref b2)]) rfl 0 rfl (by decide) (pc := 402) (Ls := (lc45 i0 i1 i2 i3 i4 z1 2 z2 z3 z4 br4 br9 br15 w3 br18 b2 8 1 1)) hml rfl (lenOf pd_30 rfl) at_402 hby
            obtain ⟨rfl, Nr33q, er33⟩ := hQr33
            have N24 := Fr.app N23 Nr33q
            refine own_go (U' := Tr33.setTop (mkF m 405 (lc45 i0 i1 i2 i3 i4 z1 2 z2 z3 z4 br4 br9 br15 w3 br18 b2 8 1 1) [(.int 1)])) (fun t k => str33 _ k) ?_
            obtain ⟨_, Tr34, Lr34, Xr34, hQr34, str34⟩ := ocallS Xr33 hx hZ zm28 hown (ww hw 229 rfl) (ww hw 230 rfl) (by decide) (ww hw 231 rfl) (ww hw 3 rfl) er33 (rm43_66 l hw b2 9 br9 1 b1 2 ci0 2 10 b3 11 vy0 z3 z3 Tr19.heap n0 Z_11 f59 f60 (own_lnV f61) f56 hc5 f62 f47 f48 f49 (own_lnV f52) f58 hc12 (own_elV (j := (10 : Int32)) f52 (by decide) (by decide) rfl) hs33 hs39 hs35 (own_elV (j := (1 : Int32)) f61 (by decide) (by decide) rfl) hs33 hs39 hs35 rfl (by decide)) (st := [(.int 1), (.ref br9), (.int 9), (.ref b2)]) rfl 0 rfl (by decide) (pc := 417) (Ls := (lc45 i0 i1 i2 i3 i4 z1 2 z2 z3 z4 br4 br9 br15 w3 br18 b2 8 1 1)) hml rfl (lenOf pd_30 rfl) at_417 hby
            obtain ⟨rfl, Nr34q, er34⟩ := hQr34
            have N25 := Fr.app N24 Nr34q
            refine own_go (U' := Tr34.setTop (mkF m 420 (lc45 i0 i1 i2 i3 i4 z1 2 z2 z3 z4 br4 br9 br15 w3 br18 b2 8 1 1) [(.int 1)])) (fun t k => oifN Xr33 hx hby at_405 (by decide) (oaload Xr33 hx hby at_408 rfl rfl (oiload Xr33 hx hby at_410 rfl (oiconst Xr33 hx hby at_412 (oiadd Xr33 hx hby at_413 (oaload Xr33 hx hby at_414 rfl rfl (oiconst Xr33 hx hby at_416 (str34 _ k)))))))) ?_
            obtain ⟨_, Tr35, Lr35, Xr35, hQr35, str35⟩ := ocallS Xr34 hx hZ zm28 hown (ww hw 229 rfl) (ww hw 230 rfl) (by decide) (ww hw 231 rfl) (ww hw 3 rfl) er34 (rm43_64 l hw b2 9 br9 2 b1 2 ci0 2 Tr19.heap n0 Z_11 f59 f60 (own_lnV f61) f56 hc5 f62 (by decide)) (st := [(.int 2), (.ref br9), (.int 9), (.ref b2)]) rfl 0 rfl (by decide) (pc := 432) (Ls := (lc45 i0 i1 i2 i3 i4 z1 2 z2 z3 z4 br4 br9 br15 w3 br18 b2 8 1 1)) hml rfl (lenOf pd_30 rfl) at_432 hby
            obtain ⟨rfl, Nr35q, er35⟩ := hQr35
            have N26 := Fr.app N25 Nr35q
            refine own_go (U' := Tr35.setTop (mkF m 435 (lc45 i0 i1 i2 i3 i4 z1 2 z2 z3 z4 br4 br9 br15 w3 br18 b2 8 1 1) [(.int 1)])) (fun t k => oifN Xr34 hx hby at_420 (by decide) (oaload Xr34 hx hby at_423 rfl rfl (oiload Xr34 hx hby at_425 rfl (oiconst Xr34 hx hby at_427 (oiadd Xr34 hx hby at_428 (oaload Xr34 hx hby at_429 rfl rfl (oiconst Xr34 hx hby at_431 (str35 _ k)))))))) ?_
            refine own_go (U' := Tr35.setTop (mkF m 447 (lc46 i0 i1 i2 i3 i4 z1 2 z2 z3 z4 br4 br9 br15 w3 br18 b2 8 1 1 1) [(.int 1)])) (fun t k => oifN Xr35 hx hby at_435 (by decide) (oiconst Xr35 hx hby at_438 (ogoto (pc := 439) Xr35 hx hby at_439 443 (by decide) (oistore Xr35 hx hby at_443 (lc46 i0 i1 i2 i3 i4 z1 2 z2 z3 z4 br4 br9 br15 w3 br18 b2 8 1 1 1) rfl (oiload Xr35 hx hby at_445 rfl k))))) ?_
            refine own_go (U' := Tr35.setTop (mkF m 452 (lc46 i0 i1 i2 i3 i4 z1 2 z2 z3 z4 br4 br9 br15 w3 br18 b2 8 1 1 1) [(.int 1)])) (fun t k => oifN Xr35 hx hby at_447 (by decide) (oiload Xr35 hx hby at_450 rfl k)) ?_
            refine own_go (U' := Tr35.setTop (mkF m 457 (lc46 i0 i1 i2 i3 i4 z1 2 z2 z3 z4 br4 br9 br15 w3 br18 b2 8 1 1 1) [(.int 1)])) (fun t k => oifN Xr35 hx hby at_452 (by decide) (oiload Xr35 hx hby at_455 rfl k)) ?_
            refine own_go (U' := Tr35.setTop (mkF m 465 (lc46 i0 i1 i2 i3 i4 z1 2 z2 z3 z4 br4 br9 br15 w3 br18 b2 8 1 1 1) [(.int 1)])) (fun t k => oifN Xr35 hx hby at_457 (by decide) (oiconst Xr35 hx hby at_460 (ogoto (pc := 461) Xr35 hx hby at_461 465 (by decide) k))) ?_
            obtain ⟨fs, hr, hrun, hended, hW, hsame⟩ := Xr35.leave (v := some (.int 1)) (fun h => by rw [Bd.returns] at h; cases h)
            have hE := hSr19.ended hW (by show _ ≤ Tr35.heap.size; rw [er35]; exact (Nat.le_refl _)) hsame
            refine own_out ⟨_, _, ?_, hrun, hended, _, _, rfl, ?_, ?_, ⟨_, rfl⟩, hE.1, hE.2.1, hE.2.2.mono (by decide) (by decide)⟩
            · exact retN Xr35 hx (t := .boolean) Bd.returns (by simp) (hb hby at_465) hr
            · exact ⟨rfl, N26⟩
            · show CHr Z consts_1 s.vm s.heap Tr35.vm Tr35.heap; rw [hh, er35]; exact C11.trans (CHv.at (s := s) Xr35 hZ (own_EW hw) C11.1)
    · have hc46 : ¬ ((own_dot2 (own_pk i2) (own_pk i3)) = (0 : Int32)) := hk6
      have hs47 : ¬ ((own_dot2 z2 z3) = (0 : Int32)) := by rw [hz3, hz2]; exact hc46
      refine own_go (U' := Tr14.setTop (mkF m 129 (lc18 i0 i1 i2 i3 i4 z1 2 z2 z3 z4 br4 br9) [(.int 1)])) (fun t k => oifN Xr14 hx hby at_125 ((if0 _ _).trans (feq hs47).1) (oiconst Xr14 hx hby at_128 k)) ?_
      obtain ⟨fs, hr, hrun, hended, hW, hsame⟩ := Xr14.leave (v := some (.int 1)) (fun h => by rw [Bd.returns] at h; cases h)
      have hE := hSr13.ended hW (by show _ ≤ Tr14.heap.size; rw [er14]; exact hkr13) hsame
      refine own_out ⟨_, _, ?_, hrun, hended, _, _, rfl, ?_, ?_, ⟨_, rfl⟩, hE.1, hE.2.1, hE.2.2.mono (by decide) (by decide)⟩
      · exact retN Xr14 hx (t := .boolean) Bd.returns (by simp) (hb hby at_129) hr
      · exact ⟨rfl, N8⟩
      · show CHr Z consts_1 s.vm s.heap Tr14.vm Tr14.heap; rw [hh, er14]; exact C7.trans (CHv.at (s := s) Xr14 hZ (own_EW hw) C7.1)
  · have hv48 : ((i1 &&& (2147483647 : Int32)) % (3 : Int32)) = (2 : Int32) := hk1
    rw [hv48]
    obtain ⟨_, Tr1, Lr1, Xr1, hQr1, str1⟩ := ocallS X0 hx hZ zm0 hown (ww hw 1 rfl) (ww hw 2 rfl) (by decide) (ww hw 4 rfl) (ww hw 3 rfl) e0 (mg1_6 l hw i2 h0 n0 Z0 ) (st := [(.int i2)]) rfl 0 rfl (by decide) (pc := 16) (Ls := (lc1 i0 i1 i2 i3 i4 z1 3)) hml rfl (lenOf pd_0 rfl) at_16 hby
    obtain ⟨rfl, Nr1q, er1⟩ := hQr1
    have N1 := Fr.app N0 Nr1q
    refine own_go (U' := Tr1.setTop (mkF m 21 (lc4 i0 i1 i2 i3 i4 z1 3 (own_pk i2)) [])) (fun t k => oiadd X0 hx hby at_12 (oistore X0 hx hby at_13 (lc1 i0 i1 i2 i3 i4 z1 3) rfl (oiloadN X0 hx hby at_15 rfl (str1 _ (oistore Xr1 hx hby at_19 (lc4 i0 i1 i2 i3 i4 z1 3 (own_pk i2)) rfl k))))) ?_
    obtain ⟨z2, hz2⟩ : ∃ z, z = (own_pk i2) := ⟨_, rfl⟩
    rw [← hz2]
    obtain ⟨_, Tr2, Lr2, Xr2, hQr2, str2⟩ := ocallS Xr1 hx hZ zm0 hown (ww hw 1 rfl) (ww hw 2 rfl) (by decide) (ww hw 4 rfl) (ww hw 3 rfl) er1 (mg1_6 l hw i3 h0 n0 Z0 ) (st := [(.int i3)]) rfl 0 rfl (by decide) (pc := 22) (Ls := (lc4 i0 i1 i2 i3 i4 z1 3 z2)) hml rfl (lenOf pd_0 rfl) at_22 hby
    obtain ⟨rfl, Nr2q, er2⟩ := hQr2
    have N2 := Fr.app N1 Nr2q
    refine own_go (U' := Tr2.setTop (mkF m 27 (lc5 i0 i1 i2 i3 i4 z1 3 z2 (own_pk i3)) [])) (fun t k => oiloadN Xr1 hx hby at_21 rfl (str2 _ (oistore Xr2 hx hby at_25 (lc5 i0 i1 i2 i3 i4 z1 3 z2 (own_pk i3)) rfl k))) ?_
    obtain ⟨z3, hz3⟩ : ∃ z, z = (own_pk i3) := ⟨_, rfl⟩
    rw [← hz3]
    obtain ⟨_, Tr3, Lr3, Xr3, hQr3, str3⟩ := ocallS Xr2 hx hZ zm0 hown (ww hw 1 rfl) (ww hw 2 rfl) (by decide) (ww hw 4 rfl) (ww hw 3 rfl) er2 (mg1_6 l hw i4 h0 n0 Z0 ) (st := [(.int i4)]) rfl 0 rfl (by decide) (pc := 29) (Ls := (lc5 i0 i1 i2 i3 i4 z1 3 z2 z3)) hml rfl (lenOf pd_0 rfl) at_29 hby
    obtain ⟨rfl, Nr3q, er3⟩ := hQr3
    have N3 := Fr.app N2 Nr3q
    refine own_go (U' := Tr3.setTop (mkF m 34 (lc6 i0 i1 i2 i3 i4 z1 3 z2 z3 (own_pk i4)) [])) (fun t k => oiload Xr2 hx hby at_27 rfl (str3 _ (oistore Xr3 hx hby at_32 (lc6 i0 i1 i2 i3 i4 z1 3 z2 z3 (own_pk i4)) rfl k))) ?_
    obtain ⟨z4, hz4⟩ : ∃ z, z = (own_pk i4) := ⟨_, rfl⟩
    rw [← hz4]
    refine own_go (U' := Tr3.setTop (mkF m 37 (lc6 i0 i1 i2 i3 i4 z1 3 z2 z3 z4) [(.int 1), (.int 3)])) (fun t k => oiload Xr3 hx hby at_34 rfl (oiconst Xr3 hx hby at_36 k)) ?_
    refine own_go (U' := Tr3.setTop (mkF m 56 (lc6 i0 i1 i2 i3 i4 z1 3 z2 z3 z4) [(.int 2), (.int 3)])) (fun t k => oicY (pc := 37) Xr3 hx hby at_37 53 (by decide) (by decide) (oiload Xr3 hx hby at_53 rfl (oiconst Xr3 hx hby at_55 k))) ?_
    obtain ⟨Tr4, hr4, kr4, Xr4, er4, Er4, Ar4, Br4, str4⟩ := newPE Xr3 hx hZ (ww hw 5 rfl) er3 (g := (mkF m 78 (lc6 i0 i1 i2 i3 i4 z1 3 z2 z3 z4) [(.int 3)])) rfl (hb hby at_78) rfl (by decide) (cap := 3) (by decide) (by decide) (by decide) (by decide) (ad := "[C") (by decide)
    obtain ⟨br4, gr4⟩ : ∃ z, z = h0.size := ⟨_, rfl⟩
    rw [← gr4] at Ar4 Br4 str4
    have C1 := C0.trans (CHr.ext Er4 C0.1)
    have f1 : Arv Z hr4 br4 kr4 .char (3 : Int32) [] (.int (0 : Int32)) := Arv.new Ar4 (by decide)
    have f2 : Arv Z hr4 br4 kr4 .char (3 : Int32) [(.int 0)] (.int (0 : Int32)) := f1.pad (pad_rep [] (.int (0 : Int32)) 1)
    obtain ⟨clr5, Arr5, qr5, Sr5, Nr5, Hr5, Gr5⟩ := id f2
    have g1 : n0 ≤ br4 := Nat.le_trans Z0 (Nat.le_of_eq gr4.symm)
    have hinr6 : ¬ ((0 : Int32) < 0 ∨ clr5.slots.size ≤ ((0 : Int32)).toNatClampNeg) := inb_of Sr5 ⟨by decide, by decide⟩
    obtain ⟨Tr6, hr6, Xr6, er6, Wr6, str6⟩ := stC Xr4 hx hZ er4 Arr5 (j := (0 : Int32)) hinr6 (g := (mkF m 84 (lc6 i0 i1 i2 i3 i4 z1 3 z2 z3 z4) [(.int z2), (.int 0), (.ref br4), (.ref br4)])) rfl rfl (hb hby at_84)
    have hc1 : ¬ ((own_pk i2) < (0 : Int32)) := (fun e => by have := Int32.lt_iff_toInt_lt.mp e; have := own_pk_b i2; have := (by decide : ((0 : Int32)).toInt = 0); omega)
    have hs2 : ¬ (z2 < (0 : Int32)) := by rw [hz2]; exact hc1
    have hc3 : (own_pk i2) < (65536 : Int32) := (Int32.lt_iff_toInt_lt.mpr (by have := own_pk_b i2; have := (by decide : ((65536 : Int32)).toInt = 65536); omega))
    have hs4 : z2 < (65536 : Int32) := by rw [hz2]; exact hc3
    rw [show nar .char z2 = z2 from own_i2c hs2 hs4] at Wr6
    have sf1 : Safe Z consts_1 s.vm hr4 br4 := Safe.exa hZ.alike Br4 (by decide) (by decide)
    have C2 := C1.trans (CHr.wr Wr6 sf1 C1.1)
    have N4 := Fr.snoc Xr6 N3 g1
    have f3 : Arv Z hr6 br4 kr4 .char (3 : Int32) [(.int z2)] (.int (0 : Int32)) := Arv.set Arr5 qr5 Sr5 Nr5 Hr5 Gr5 (own_fitC hs2 hs4) Wr6 0 rfl (Nat.le_of_ble_eq_true rfl)
    have f4 : Arv Z hr6 br4 kr4 .char (3 : Int32) [(.int z2), (.int 0)] (.int (0 : Int32)) := f3.pad (pad_rep [(.int z2)] (.int (0 : Int32)) 1)
    obtain ⟨clr7, Arr7, qr7, Sr7, Nr7, Hr7, Gr7⟩ := id f4
    have hinr8 : ¬ ((1 : Int32) < 0 ∨ clr7.slots.size ≤ ((1 : Int32)).toNatClampNeg) := inb_of Sr7 ⟨by decide, by decide⟩
    obtain ⟨Tr8, hr8, Xr8, er8, Wr8, str8⟩ := stC Xr6 hx hZ er6 Arr7 (j := (1 : Int32)) hinr8 (g := (mkF m 89 (lc6 i0 i1 i2 i3 i4 z1 3 z2 z3 z4) [(.int z3), (.int 1), (.ref br4), (.ref br4)])) rfl rfl (hb hby at_89)
    have hc32 : ¬ ((own_pk i3) < (0 : Int32)) := (fun e => by have := Int32.lt_iff_toInt_lt.mp e; have := own_pk_b i3; have := (by decide : ((0 : Int32)).toInt = 0); omega)
    have hs33 : ¬ (z3 < (0 : Int32)) := by rw [hz3]; exact hc32
    have hc34 : (own_pk i3) < (65536 : Int32) := (Int32.lt_iff_toInt_lt.mpr (by have := own_pk_b i3; have := (by decide : ((65536 : Int32)).toInt = 65536); omega))
    have hs35 : z3 < (65536 : Int32) := by rw [hz3]; exact hc34
    rw [show nar .char z3 = z3 from own_i2c hs33 hs35] at Wr8
    have f5 : Exa Z hr6 br4 "[C" := (Exa.wr Wr6 Br4)
    have sf2 : Safe Z consts_1 s.vm hr6 br4 := Safe.exa hZ.alike f5 (by decide) (by decide)
    have C3 := C2.trans (CHr.wr Wr8 sf2 C2.1)
    have N5 := Fr.snoc Xr8 N4 g1
    have f6 : Arv Z hr8 br4 kr4 .char (3 : Int32) [(.int z2), (.int z3)] (.int (0 : Int32)) := Arv.set Arr7 qr7 Sr7 Nr7 Hr7 Gr7 (own_fitC hs33 hs35) Wr8 1 rfl (Nat.le_of_ble_eq_true rfl)
    have f7 : Arv Z hr8 br4 kr4 .char (3 : Int32) [(.int z2), (.int z3), (.int 0)] (.int (0 : Int32)) := f6.pad (pad_rep [(.int z2), (.int z3)] (.int (0 : Int32)) 1)
    obtain ⟨clr9, Arr9, qr9, Sr9, Nr9, Hr9, Gr9⟩ := id f7
    have hinr10 : ¬ ((2 : Int32) < 0 ∨ clr9.slots.size ≤ ((2 : Int32)).toNatClampNeg) := inb_of Sr9 ⟨by decide, by decide⟩
    obtain ⟨Tr10, hr10, Xr10, er10, Wr10, str10⟩ := stC Xr8 hx hZ er8 Arr9 (j := (2 : Int32)) hinr10 (g := (mkF m 94 (lc6 i0 i1 i2 i3 i4 z1 3 z2 z3 z4) [(.int z4), (.int 2), (.ref br4), (.ref br4)])) rfl rfl (hb hby at_94)
    have hc49 : ¬ ((own_pk i4) < (0 : Int32)) := (fun e => by have := Int32.lt_iff_toInt_lt.mp e; have := own_pk_b i4; have := (by decide : ((0 : Int32)).toInt = 0); omega)
    have hs50 : ¬ (z4 < (0 : Int32)) := by rw [hz4]; exact hc49
    have hc51 : (own_pk i4) < (65536 : Int32) := (Int32.lt_iff_toInt_lt.mpr (by have := own_pk_b i4; have := (by decide : ((65536 : Int32)).toInt = 65536); omega))
    have hs52 : z4 < (65536 : Int32) := by rw [hz4]; exact hc51
    rw [show nar .char z4 = z4 from own_i2c hs50 hs52] at Wr10
    have f8 : Exa Z hr8 br4 "[C" := (Exa.wr Wr8 f5)
    have sf3 : Safe Z consts_1 s.vm hr8 br4 := Safe.exa hZ.alike f8 (by decide) (by decide)
    have C4 := C3.trans (CHr.wr Wr10 sf3 C3.1)
    have N6 := Fr.snoc Xr10 N5 g1
    have f9 : Arv Z hr10 br4 kr4 .char (3 : Int32) [(.int z2), (.int z3), (.int z4)] (.int (0 : Int32)) := Arv.set Arr9 qr9 Sr9 Nr9 Hr9 Gr9 (own_fitC hs50 hs52) Wr10 2 rfl (Nat.le_of_ble_eq_true rfl)
    obtain ⟨Tr11, hr11, Xr11, er11, Er11, Ar11, Dr11, -, str11⟩ := newO Xr10 hx hZ hown (ww hw 6 rfl) (ww hw 7 rfl) (ww hw 8 rfl) er10 (g := (mkF m 97 (lc7 i0 i1 i2 i3 i4 z1 3 z2 z3 z4 br4) [])) rfl (hb hby at_97) (by decide) (by decide)
    obtain ⟨br11, gr11⟩ : ∃ z, z = hr10.size := ⟨_, rfl⟩
    rw [← gr11] at Ar11 Dr11 str11
    have C5 := C4.trans (CHr.ext Er11 C4.1)
    have f10 : Fld Z hr11 br11 zs6 "coder" "B" (.int 0) := Dr11 (Or.inr (ww hw 32 rfl)) (ty := .byte) (by decide)
    have f11 : Fld Z hr11 br11 zs6 "value" "[B" .null := Dr11 (Or.inr (ww hw 34 rfl)) (ty := (.array .byte)) (by decide)
    have f12 : Arv Z hr11 br4 kr4 .char (3 : Int32) [(.int z2), (.int z3), (.int z4)] (.int (0 : Int32)) := (f9.ext Er11)
    have f13 : Sta Z hr11 zs6 zs7 "Z" (.int ci0) := (Sta.ext Er11 (Sta.wr Wr10 (Sta.wr Wr8 (Sta.wr Wr6 (Sta.ext Er4 S30)))))
    have Z_1 : n0 ≤ hr4.size := Nat.le_trans Z0 Er4.1
    have Z_2 : n0 ≤ hr6.size := Nat.le_trans Z_1 (Keep.of_wr Wr6).1
    have Z_3 : n0 ≤ hr8.size := Nat.le_trans Z_2 (Keep.of_wr Wr8).1
    have Z_4 : n0 ≤ hr10.size := Nat.le_trans Z_3 (Keep.of_wr Wr10).1
    have g2 : n0 ≤ br11 := Nat.le_trans Z_4 (Nat.le_of_eq gr11.symm)
    have Z_5 : n0 ≤ hr11.size := Nat.le_trans Z_4 Er11.1
    have hc5 : ¬ (ci0 = (0 : Int32)) := hci0
    have hc6 : ¬ ((255 : Int32) < (own_pk i2)) := (fun e => by have := Int32.lt_iff_toInt_lt.mp e; have := (by decide : ((255 : Int32)).toInt = 255); have := own_pk_b i2; omega)
    have hs7 : ¬ ((255 : Int32) < z2) := by rw [hz2]; exact hc6
    have hc8 : (own_pk i2) < (128 : Int32) := (Int32.lt_iff_toInt_lt.mpr (by have := own_pk_b i2; have := (by decide : ((128 : Int32)).toInt = 128); omega))
    have hs9 : z2 < (128 : Int32) := by rw [hz2]; exact hc8
    have hc36 : ¬ ((255 : Int32) < (own_pk i3)) := (fun e => by have := Int32.lt_iff_toInt_lt.mp e; have := (by decide : ((255 : Int32)).toInt = 255); have := own_pk_b i3; omega)
    have hs37 : ¬ ((255 : Int32) < z3) := by rw [hz3]; exact hc36
    have hc38 : (own_pk i3) < (128 : Int32) := (Int32.lt_iff_toInt_lt.mpr (by have := own_pk_b i3; have := (by decide : ((128 : Int32)).toInt = 128); omega))
    have hs39 : z3 < (128 : Int32) := by rw [hz3]; exact hc38
    have hc53 : ¬ ((255 : Int32) < (own_pk i4)) := (fun e => by have := Int32.lt_iff_toInt_lt.mp e; have := (by decide : ((255 : Int32)).toInt = 255); have := own_pk_b i4; omega)
    have hs54 : ¬ ((255 : Int32) < z4) := by rw [hz4]; exact hc53
    have hc55 : (own_pk i4) < (128 : Int32) := (Int32.lt_iff_toInt_lt.mpr (by have := own_pk_b i4; have := (by decide : ((128 : Int32)).toInt = 128); omega))
    have hs56 : z4 < (128 : Int32) := by rw [hz4]; exact hc55
    obtain ⟨_, Tr12, Lr12, Xr12, hQr12, str12⟩ := ocallI Xr11 hx hZ zm5 rfl hown (ww hw 9 rfl) (ww hw 10 rfl) (by decide) (ww hw 11 rfl) (ww hw 8 rfl) er11 (rm2_88 l hw br11 br4 z2 z3 z4 kr4 ci0 hr11 n0 Z_5 f12 f13 hc5 hs7 hs2 hs9 hs37 hs33 hs39 hs54 hs50 hs56 f10 f11 Ar11 g2) (st := [(.ref br4), (.ref br11), (.ref br11)]) rfl 1 rfl (by decide) (pc := 103) (Ls := (lc7 i0 i1 i2 i3 i4 z1 3 z2 z3 z4 br4)) hml rfl (lenOf pd_5 rfl) at_103 hby
    obtain ⟨b1, k1, rfl, Nr12q, Kr12, sz1, f14, f15, f16, f17⟩ := hQr12
    have sf4 := (Safe.ext Er11 C4.1 (Safe.new (Nat.le_of_eq gr11.symm)))
    have C6 := C5.trans (CHr.keep Kr12 (allS sf4 all0) C5.1)
    have N7 := Fr.app N6 Nr12q
    obtain ⟨br13, Tr13, hr13, kr13, bvr13, clr13, Xr13, er13, Er13, hSr13, hkr13, hZ, hown, fr13a, fr13b, fr13c, fr13d, ltr13, lvr13, CRr13, -, nsr13, str13⟩ := ldcCH (s := s) (vm0 := s.vm) Xr12 hx hZ hown (ww hw 35 rfl) (own_wS hw) rfl ((State.WarmedH.refl s).since 0) (Nat.zero_le _) (own_EW hw) (List.mem_of_getElem? (i := 4) rfl) C6.1 (vs := [(.int 46)]) (z := 1) ⟨by decide, by decide⟩ (by decide) (by decide) (g := (mkF m 110 (lc18 i0 i1 i2 i3 i4 z1 3 z2 z3 z4 br4 br11) [(.ref br11)])) rfl (hb hby at_110) (n := 4) (by decide) (by decide) (by decide) (by decide)
    have C7 := C6.trans CRr13
    have f18 : Exa Z hr13 br11 zs6 := (Exa.ext Er13 (Ar11.keep Kr12))
    have sf5 := (CRr13.safe (f14.lt) (Safe.keep Kr12 (allS sf4 all0) C5.1 sf4))
    have ne1 : br11 ≠ br13 := (nsr13 br11 sf5).1
    have f19 : Sta Z hr13 zs6 zs7 "Z" (.int ci0) := (Sta.ext Er13 (own_staK f13 Kr12 (allS (own_nsF f10) all0)))
    have f20 : Fld Z hr13 br11 zs6 "coder" "B" (.int 0) := (Fld.ext Er13 f14)
    have f21 : Fld Z hr13 br11 zs6 "value" "[B" (.ref b1) := (Fld.ext Er13 f15)
    have f22 : Arv Z hr13 b1 k1 .byte (3 : Int32) [(.int z2), (.int z3), (.int z4)] (.int (0 : Int32)) := (f17.ext Er13)
    have Z_6 : n0 ≤ Tr12.heap.size := Nat.le_trans Z_5 Kr12.1
    have Z_7 : n0 ≤ hr13.size := Nat.le_trans Z_6 Er13.1
    obtain ⟨_, Tr14, Lr14, Xr14, hQr14, str14⟩ := ocallV Xr13 hx hZ zm7 zm7 hown (ww hw 38 rfl) (ww hw 39 rfl) (notFace_of_selects (args := #[]) (mvT hZ (ww hw 41 rfl))) (ww hw 41 rfl) (ww hw 40 rfl) (by decide) (ww hw 42 rfl) (ww hw 8 rfl) er13 f18 (mg8_91 l hw br11 br13 ci0 b1 bvr13 z2 z3 z4 k1 clr13 hr13 n0 Z_7 ne1 fr13a f19 hc5 f20 fr13b f21 fr13c f22 fr13d) (st := [(.ref br13), (.ref br11)]) rfl 0 rfl (by decide) (pc := 112) (Ls := (lc18 i0 i1 i2 i3 i4 z1 3 z2 z3 z4 br4 br11)) hml rfl (lenOf pd_7 rfl) at_112 hby
    obtain ⟨rfl, Nr14q, er14⟩ := hQr14
    have N8 := Fr.app N7 Nr14q
    refine own_go (U' := Tr14.setTop (mkF m 115 (lc18 i0 i1 i2 i3 i4 z1 3 z2 z3 z4 br4 br11) [(.int 0)])) (fun t k => oicY (pc := 56) Xr3 hx hby at_56 77 (by decide) (by decide) (oiconst Xr3 hx hby at_77 (str4 _ (odup Xr4 hx hby at_80 rfl (oiconst Xr4 hx hby at_81 (oiload Xr4 hx hby at_82 rfl (str6 _ (odup Xr6 hx hby at_85 rfl (oiconst Xr6 hx hby at_86 (oiload Xr6 hx hby at_87 rfl (str8 _ (odup Xr8 hx hby at_90 rfl (oiconst Xr8 hx hby at_91 (oiload Xr8 hx hby at_92 rfl (str10 _ (oastore Xr10 hx hby at_95 (lc7 i0 i1 i2 i3 i4 z1 3 z2 z3 z4 br4) rfl rfl (str11 _ (odup Xr11 hx hby at_100 rfl (oaload Xr11 hx hby at_101 rfl rfl (str12 _ (oastore Xr12 hx hby at_106 (lc18 i0 i1 i2 i3 i4 z1 3 z2 z3 z4 br4 br11) rfl rfl (oaload Xr12 hx hby at_108 rfl rfl (str13 _ (str14 _ k)))))))))))))))))))))))) ?_
    obtain ⟨br15, Tr15, hr15, kr15, bvr15, clr15, Xr15, er15, Er15, hSr15, hkr15, hZ, hown, fr15a, fr15b, fr15c, fr15d, ltr15, lvr15, CRr15, -, nsr15, str15⟩ := ldcCH (s := s) Xr14 hx hZ hown (ww hw 48 rfl) (own_wS hw) er14 hSr13 hkr13 (own_EW hw) (List.mem_of_getElem? (i := 5) rfl) C7.1 (vs := [(.int 46), (.int 46)]) (z := 2) ⟨by decide, by decide⟩ (by decide) (by decide) (g := (mkF m 120 (lc18 i0 i1 i2 i3 i4 z1 3 z2 z3 z4 br4 br11) [(.ref br11)])) rfl (hb hby at_120) (n := 8) (by decide) (by decide) (by decide) (by decide)
    have C8 := C7.trans CRr15
    have f23 : Exa Z hr15 br11 zs6 := (Exa.ext Er15 f18)
    have sf6 := (CRr15.safe (f20.lt) (CRr13.safe (nlt (f10.lt) Kr12.1) (Safe.keep Kr12 (allS sf4 all0) C5.1 sf4)))
    have ne2 : br11 ≠ br15 := (nsr15 br11 sf6).1
    have f24 : Sta Z hr15 zs6 zs7 "Z" (.int ci0) := (Sta.ext Er15 f19)
    have f25 : Fld Z hr15 br11 zs6 "coder" "B" (.int 0) := (Fld.ext Er15 f20)
    have f26 : Fld Z hr15 br11 zs6 "value" "[B" (.ref b1) := (Fld.ext Er15 f21)
    have f27 : Arv Z hr15 b1 k1 .byte (3 : Int32) [(.int z2), (.int z3), (.int z4)] (.int (0 : Int32)) := (f22.ext Er15)
    have Z_8 : n0 ≤ hr15.size := Nat.le_trans Z_7 Er15.1
    obtain ⟨_, Tr16, Lr16, Xr16, hQr16, str16⟩ := ocallV Xr15 hx hZ zm7 zm7 hown (ww hw 38 rfl) (ww hw 39 rfl) (notFace_of_selects (args := #[]) (mvT hZ (ww hw 41 rfl))) (ww hw 41 rfl) (ww hw 40 rfl) (by decide) (ww hw 42 rfl) (ww hw 8 rfl) er15 f23 (mg8_94 l hw br11 br15 ci0 b1 bvr15 z2 z3 z4 k1 clr15 hr15 n0 Z_8 ne2 fr15a f24 hc5 f25 fr15b f26 fr15c f27 fr15d) (st := [(.ref br15), (.ref br11)]) rfl 0 rfl (by decide) (pc := 122) (Ls := (lc18 i0 i1 i2 i3 i4 z1 3 z2 z3 z4 br4 br11)) hml rfl (lenOf pd_7 rfl) at_122 hby
    obtain ⟨rfl, Nr16q, er16⟩ := hQr16
    have N9 := Fr.app N8 Nr16q
    refine own_go (U' := Tr16.setTop (mkF m 125 (lc18 i0 i1 i2 i3 i4 z1 3 z2 z3 z4 br4 br11) [(.int 0)])) (fun t k => oifN Xr14 hx hby at_115 (by decide) (oaload Xr14 hx hby at_118 rfl rfl (str15 _ (str16 _ k)))) ?_
    obtain ⟨Tr17, hr17, Xr17, er17, Er17, Ar17, Dr17, -, str17⟩ := newO Xr16 hx hZ hown (ww hw 49 rfl) (ww hw 50 rfl) (ww hw 51 rfl) er16 (g := (mkF m 130 (lc18 i0 i1 i2 i3 i4 z1 3 z2 z3 z4 br4 br11) [])) rfl (hb hby at_130) (by decide) (by decide)
    obtain ⟨br17, gr17⟩ : ∃ z, z = hr15.size := ⟨_, rfl⟩
    rw [← gr17] at Ar17 Dr17 str17
    have C9 := C8.trans (CHr.ext Er17 C8.1)
    have f28 : Fld Z hr17 br17 zs21 "value" zs23 .null := Dr17 (Or.inr (ww hw 109 rfl)) (ty := (.object zs6)) (by decide)
    have f29 : Exa Z hr17 br11 zs6 := (Exa.ext Er17 f23)
    have f30 : Fld Z hr17 br11 zs6 "value" "[B" (.ref b1) := (Fld.ext Er17 f26)
    have f31 : Arv Z hr17 b1 k1 .byte (3 : Int32) [(.int z2), (.int z3), (.int z4)] (.int (0 : Int32)) := (f27.ext Er17)
    have f32 : Sta Z hr17 zs6 zs7 "Z" (.int ci0) := (Sta.ext Er17 f24)
    have f33 : Fld Z hr17 br11 zs6 "coder" "B" (.int 0) := (Fld.ext Er17 f25)
    have f34 : Sta Z hr17 zs16 zs19 zs20 vy0 := (Sta.ext Er17 (Sta.ext Er15 (Sta.ext Er13 (own_staK (Sta.ext Er11 (Sta.wr Wr10 (Sta.wr Wr8 (Sta.wr Wr6 (Sta.ext Er4 S28))))) Kr12 (allS (own_nsF f10) all0)))))
    have g3 : n0 ≤ br17 := Nat.le_trans Z_8 (Nat.le_of_eq gr17.symm)
    have Z_9 : n0 ≤ hr17.size := Nat.le_trans Z_8 Er17.1
    have sf7 := (Safe.ext Er17 C8.1 (CRr15.safe (nlt (nlt (f10.lt) Kr12.1) Er13.1) (CRr13.safe (nlt (f10.lt) Kr12.1) (Safe.keep Kr12 (allS sf4 all0) C5.1 sf4))))
    have hc12 : vy0.isRef = true := hvy0
    have hc13 : own_ok (own_pk i2) := (own_pk_ok i2)
    have hs14 : own_ok z2 := by rw [hz2]; exact hc13
    have hc15 : ¬ ((122 : Int32) < (own_pk i2)) := (fun e => by have := Int32.lt_iff_toInt_lt.mp e; have := (by decide : ((122 : Int32)).toInt = 122); have := own_pk_b i2; omega)
    have hs16 : ¬ ((122 : Int32) < z2) := by rw [hz2]; exact hc15
    have hc42 : own_ok (own_pk i3) := (own_pk_ok i3)
    have hs43 : own_ok z3 := by rw [hz3]; exact hc42
    have hc44 : ¬ ((122 : Int32) < (own_pk i3)) := (fun e => by have := Int32.lt_iff_toInt_lt.mp e; have := (by decide : ((122 : Int32)).toInt = 122); have := own_pk_b i3; omega)
    have hs45 : ¬ ((122 : Int32) < z3) := by rw [hz3]; exact hc44
    have hc57 : own_ok (own_pk i4) := (own_pk_ok i4)
    have hs58 : own_ok z4 := by rw [hz4]; exact hc57
    have hc59 : ¬ ((122 : Int32) < (own_pk i4)) := (fun e => by have := Int32.lt_iff_toInt_lt.mp e; have := (by decide : ((122 : Int32)).toInt = 122); have := own_pk_b i4; omega)
    have hs60 : ¬ ((122 : Int32) < z4) := by rw [hz4]; exact hc59
    obtain ⟨_, Tr18, Lr18, Xr18, hQr18, hSr18, hZ, hown, CRr18, str18⟩ := ocallIH (s := s) Xr17 hx hZ zm19 rfl hown (ww hw 52 rfl) (ww hw 53 rfl) (by decide) (ww hw 54 rfl) (ww hw 51 rfl) er17 (rm10_96 l hw br17 br11 b1 z2 z3 z4 k1 ci0 vy0 hr17 n0 Z_9 f29 f30 f31 f32 hc5 f33 f34 hc12 hs2 hs9 hs4 hs14 hs16 hs33 hs39 hs35 hs43 hs45 hs50 hs56 hs52 hs58 hs60 f28 Ar17 g3) (st := [(.ref br11), (.ref br17), (.ref br17)]) rfl 1 rfl (by decide) (pc := 136) (Ls := (lc18 i0 i1 i2 i3 i4 z1 3 z2 z3 z4 br4 br11)) hml rfl (lenOf pd_17 rfl) at_136 hby hSr15 (Nat.le_trans hkr15 Er17.1) (own_EW hw) C9.1 (allS ⟨(f29.lt), sf7⟩ all0)
    obtain ⟨rfl, Nr18q, Kr18, f35⟩ := hQr18
    have C10 := C9.trans CRr18
    have N10 := Fr.app N9 Nr18q
    refine own_go (U' := Tr18.setTop (mkF m 143 (lc29 i0 i1 i2 i3 i4 z1 3 z2 z3 z4 br4 br11 br17) [(.int z1)])) (fun t k => oifY (pc := 125) Xr16 hx hby at_125 130 (by decide) (by decide) (str17 _ (odup Xr17 hx hby at_133 rfl (oaload Xr17 hx hby at_134 rfl rfl (str18 _ (oastore Xr18 hx hby at_139 (lc29 i0 i1 i2 i3 i4 z1 3 z2 z3 z4 br4 br11 br17) rfl rfl (oiload Xr18 hx hby at_141 rfl k))))))) ?_
    by_cases hk10 : (i0 &&& (3 : Int32)) = (0 : Int32)
    · have f36 : Sta Z Tr18.heap zs35 "PLAIN" zs39 (.ref w0) := (own_staK (Sta.ext Er17 (Sta.ext Er15 (Sta.ext Er13 (own_staK (Sta.ext Er11 (Sta.wr Wr10 (Sta.wr Wr8 (Sta.wr Wr6 (Sta.ext Er4 S0))))) Kr12 (allS (own_nsF f10) all0))))) Kr18 (allS (own_nsE Ar17) all0))
      obtain ⟨Tr19, Xr19, er19, str19⟩ := getS2 Xr18 hx hZ hown (host := "") (Or.inl (ww hw 110 rfl)) Via.refl rfl f36 (g := (mkF m 146 (lc29 i0 i1 i2 i3 i4 z1 3 z2 z3 z4 br4 br11 br17) [])) rfl (hb hby at_146)
      obtain ⟨br20, Tr20, hr20, kr20, bvr20, clr20, Xr20, er20, Er20, hSr20, hkr20, hZ, hown, fr20a, fr20b, fr20c, fr20d, ltr20, lvr20, CRr20, -, nsr20, str20⟩ := ldcCH (s := s) Xr19 hx hZ hown (ww hw 113 rfl) (own_wS hw) er19 hSr18 (Nat.le_refl _) (own_EW hw) (List.mem_of_getElem? (i := 6) rfl) C10.1 (vs := [(.int 108), (.int 111), (.int 99), (.int 107)]) (z := 4) ⟨by decide, by decide⟩ (by decide) (by decide) (g := (mkF m 151 (lc30 i0 i1 i2 i3 i4 z1 3 z2 z3 z4 br4 br11 br17 w0) [])) rfl (hb hby at_151) (n := 16) (by decide) (by decide) (by decide) (by decide)
      have C11 := C10.trans CRr20
      have f37 : Exa Z hr20 w0 zs35 := (Exa.ext Er20 ((Exa.ext Er17 (Exa.ext Er15 (Exa.ext Er13 ((Exa.ext Er11 (Exa.wr Wr10 (Exa.wr Wr8 (Exa.wr Wr6 (Exa.ext Er4 S1))))).keep Kr12)))).keep Kr18))
      have f38 : Sta Z hr20 zs6 zs7 "Z" (.int ci0) := (Sta.ext Er20 (own_staK f32 Kr18 (allS (own_nsE Ar17) all0)))
      have ne3 : w0 ≠ br4 := Nat.ne_of_lt (nlt (S2.lt) (Nat.le_of_eq gr4.symm))
      have ne4 : w0 ≠ br11 := Nat.ne_of_lt (nlt (nlt (nlt (nlt (nlt (S2.lt) Er4.1) (Keep.of_wr Wr6).1) (Keep.of_wr Wr8).1) (Keep.of_wr Wr10).1) (Nat.le_of_eq gr11.symm))
      have ne5 : w0 ≠ br17 := Nat.ne_of_lt (nlt (nlt (nlt (nlt (nlt (nlt (nlt (nlt (nlt (S2.lt) Er4.1) (Keep.of_wr Wr6).1) (Keep.of_wr Wr8).1) (Keep.of_wr Wr10).1) Er11.1) Kr12.1) Er13.1) Er15.1) (Nat.le_of_eq gr17.symm))
      have f39 : Fld Z hr20 w0 zs35 "noun" zs23 (.ref w1) := (Fld.ext Er20 ((Fld.ext Er17 (Fld.ext Er15 (Fld.ext Er13 ((Fld.ext Er11 (Fld.other Wr10 (Fld.other Wr8 (Fld.other Wr6 (Fld.ext Er4 S2) (Or.inl ne3)) (Or.inl ne3)) (Or.inl ne3))).keep Kr12 (ninS ne4 nin0))))).keep Kr18 (ninS ne5 nin0)))
      have f40 : Exa Z hr20 w1 zs6 := (Exa.ext Er20 ((Exa.ext Er17 (Exa.ext Er15 (Exa.ext Er13 ((Exa.ext Er11 (Exa.wr Wr10 (Exa.wr Wr8 (Exa.wr Wr6 (Exa.ext Er4 S3))))).keep Kr12)))).keep Kr18))
      have ne6 : w1 ≠ br4 := Nat.ne_of_lt (nlt (S4.lt) (Nat.le_of_eq gr4.symm))
      have ne7 : w1 ≠ br11 := Nat.ne_of_lt (nlt (nlt (nlt (nlt (nlt (S4.lt) Er4.1) (Keep.of_wr Wr6).1) (Keep.of_wr Wr8).1) (Keep.of_wr Wr10).1) (Nat.le_of_eq gr11.symm))
      have ne8 : w1 ≠ br17 := Nat.ne_of_lt (nlt (nlt (nlt (nlt (nlt (nlt (nlt (nlt (nlt (S4.lt) Er4.1) (Keep.of_wr Wr6).1) (Keep.of_wr Wr8).1) (Keep.of_wr Wr10).1) Er11.1) Kr12.1) Er13.1) Er15.1) (Nat.le_of_eq gr17.symm))
      have f41 : Fld Z hr20 w1 zs6 "value" "[B" (.ref w2) := (Fld.ext Er20 ((Fld.ext Er17 (Fld.ext Er15 (Fld.ext Er13 ((Fld.ext Er11 (Fld.other Wr10 (Fld.other Wr8 (Fld.other Wr6 (Fld.ext Er4 S4) (Or.inl ne6)) (Or.inl ne6)) (Or.inl ne6))).keep Kr12 (ninS ne7 nin0))))).keep Kr18 (ninS ne8 nin0)))
      have ne9 : w2 ≠ br4 := Nat.ne_of_lt (nlt (S32.lt) (Nat.le_of_eq gr4.symm))
      have ne10 : w2 ≠ br11 := Nat.ne_of_lt (nlt (nlt (nlt (nlt (nlt (S32.lt) Er4.1) (Keep.of_wr Wr6).1) (Keep.of_wr Wr8).1) (Keep.of_wr Wr10).1) (Nat.le_of_eq gr11.symm))
      have ne11 : w2 ≠ br17 := Nat.ne_of_lt (nlt (nlt (nlt (nlt (nlt (nlt (nlt (nlt (nlt (S32.lt) Er4.1) (Keep.of_wr Wr6).1) (Keep.of_wr Wr8).1) (Keep.of_wr Wr10).1) Er11.1) Kr12.1) Er13.1) Er15.1) (Nat.le_of_eq gr17.symm))
      have f42 : Arv Z hr20 w2 kl0 .byte (4 : Int32) [(.int 108), (.int 111), (.int 99), (.int 107)] (.int (0 : Int32)) := (((((((((((S32.ext Er4).other Wr6 ne9).other Wr8 ne9).other Wr10 ne9).ext Er11).keep Kr12 (ninS ne10 nin0)).ext Er13).ext Er15).ext Er17).keep Kr18 (ninS ne11 nin0)).ext Er20)
      have f43 : Fld Z hr20 w1 zs6 "coder" "B" (.int 0) := (Fld.ext Er20 ((Fld.ext Er17 (Fld.ext Er15 (Fld.ext Er13 ((Fld.ext Er11 (Fld.other Wr10 (Fld.other Wr8 (Fld.other Wr6 (Fld.ext Er4 S6) (Or.inl ne6)) (Or.inl ne6)) (Or.inl ne6))).keep Kr12 (ninS ne7 nin0))))).keep Kr18 (ninS ne8 nin0)))
      have f44 : Exa Z hr20 br17 zs21 := (Exa.ext Er20 (Ar17.keep Kr18))
      have f45 : Fld Z hr20 br17 zs21 "value" zs23 (.ref br11) := (Fld.ext Er20 f35)
      have f46 : Exa Z hr20 br11 zs6 := (Exa.ext Er20 (f29.keep Kr18))
      have ne12 : br11 ≠ br17 := Nat.ne_of_lt (nlt (nlt (nlt (nlt (f10.lt) Kr12.1) Er13.1) Er15.1) (Nat.le_of_eq gr17.symm))
      have f47 : Fld Z hr20 br11 zs6 "value" "[B" (.ref b1) := (Fld.ext Er20 (f30.keep Kr18 (ninS ne12 nin0)))
      have ne13 : b1 ≠ br17 := Nat.ne_of_lt (nlt (nlt (nlt (f16.lt) Er13.1) Er15.1) (Nat.le_of_eq gr17.symm))
      have f48 : Arv Z hr20 b1 k1 .byte (3 : Int32) [(.int z2), (.int z3), (.int z4)] (.int (0 : Int32)) := ((f31.keep Kr18 (ninS ne13 nin0)).ext Er20)
      have f49 : Fld Z hr20 br11 zs6 "coder" "B" (.int 0) := (Fld.ext Er20 (f33.keep Kr18 (ninS ne12 nin0)))
      have Z_10 : n0 ≤ Tr18.heap.size := Nat.le_trans Z_9 Kr18.1
      have Z_11 : n0 ≤ hr20.size := Nat.le_trans Z_10 Er20.1
      obtain ⟨_, Tr21, Lr21, Xr21, hQr21, hSr21, hZ, hown, CRr21, str21⟩ := ocallVH (s := s) Xr20 hx hZ zm27 zm27 hown (ww hw 114 rfl) (ww hw 115 rfl) (notFace_of_selects (args := #[]) (mvT hZ (ww hw 117 rfl))) (ww hw 117 rfl) (ww hw 116 rfl) (by decide) (ww hw 118 rfl) (ww hw 111 rfl) er20 f37 (rm22_61 l hw w0 br17 ci0 w1 w2 [(.int 108), (.int 111), (.int 99), (.int 107)] kl0 4 4 4 (-12) 5 (-11) 4 br11 b1 [(.int z2), (.int z3), (.int z4)] k1 3 3 8 (-8) 5 8 hr20 n0 Z_11 f38 hc5 f39 f40 f41 f42 f43 (Nat.le_of_ble_eq_true rfl) (Nat.le_of_ble_eq_true rfl) (Nat.le_of_ble_eq_true rfl) (Nat.le_of_ble_eq_true rfl) (Nat.le_of_ble_eq_true rfl) (Nat.le_of_ble_eq_true rfl) f44 f45 f46 f47 f48 f49 (Nat.le_of_ble_eq_true rfl) (Nat.le_of_ble_eq_true rfl) (Nat.le_of_ble_eq_true rfl) (Nat.le_of_ble_eq_true rfl) (Nat.le_of_ble_eq_true rfl) (Nat.le_of_ble_eq_true rfl) (Nat.le_of_ble_eq_true rfl) (by decide)) (st := [(.ref br17), (.ref w0)]) rfl 0 rfl (by decide) (pc := 207) (Ls := (lc31 i0 i1 i2 i3 i4 z1 3 z2 z3 z4 br4 br11 br17 w0 br20)) hml rfl (lenOf pd_29 rfl) at_207 hby hSr20 hkr20 (own_EW hw) C11.1 all0
      obtain ⟨b2, b3, k2, rfl, Nr21q, Kr21, sz2, sz3, ne14, f50, f51, f52, f53, f54⟩ := hQr21
      have C12 := C11.trans CRr21
      have f55 : Arv Z Tr21.heap b3 k2 .byte (8 : Int32) [(.int 108), (.int 111), (.int 99), (.int 107), (.int 32), (.int z2), (.int z3), (.int z4)] (.int (0 : Int32)) := f54
      have N11 := Fr.app N10 Nr21q
      have f56 : Exa Z Tr21.heap br20 zs6 := (fr20a.keep Kr21)
      have f57 : Fld Z Tr21.heap br20 zs6 "value" "[B" (.ref bvr20) := (fr20c.keep Kr21 nin0)
      have f58 : Arv Z Tr21.heap bvr20 clr20 .byte (4 : Int32) [(.int 108), (.int 111), (.int 99), (.int 107)] (.int (0 : Int32)) := (fr20d.keep Kr21 nin0)
      have f59 : Sta Z Tr21.heap zs6 zs7 "Z" (.int ci0) := (own_staK f38 Kr21 all0)
      have f60 : Fld Z Tr21.heap br20 zs6 "coder" "B" (.int 0) := (fr20b.keep Kr21 nin0)
      have Z_12 : n0 ≤ Tr21.heap.size := Nat.le_trans Z_11 Kr21.1
      obtain ⟨_, Tr22, Lr22, Xr22, hQr22, str22⟩ := ocallV Xr21 hx hZ zm12 zm12 hown (ww hw 228 rfl) (ww hw 72 rfl) (notFace_of_selects (args := #[]) (mvT hZ (ww hw 74 rfl))) (ww hw 74 rfl) (ww hw 73 rfl) (by decide) (ww hw 75 rfl) (ww hw 8 rfl) rfl f56 (rm14_24 l hw br20 bvr20 4 ci0 4 Tr21.heap n0 Z_12 f57 (own_lnV f58) f56 f59 hc5 f60 (by decide)) (st := [(.ref br20)]) rfl 0 rfl (by decide) (pc := 221) (Ls := (lc41 i0 i1 i2 i3 i4 z1 3 z2 z3 z4 br4 br11 br17 w0 br20 b2)) hml rfl (lenOf pd_12 rfl) at_221 hby
      obtain ⟨rfl, Nr22q, er22⟩ := hQr22
      have N12 := Fr.app N11 Nr22q
      obtain ⟨_, Tr23, Lr23, Xr23, hQr23, str23⟩ := ocallV Xr22 hx hZ zm12 zm12 hown (ww hw 228 rfl) (ww hw 72 rfl) (notFace_of_selects (args := #[]) (mvT hZ (ww hw 74 rfl))) (ww hw 74 rfl) (ww hw 73 rfl) (by decide) (ww hw 75 rfl) (ww hw 8 rfl) er22 f50 (rm14_24 l hw b2 b3 8 ci0 8 Tr21.heap n0 Z_12 f52 (own_lnV f55) f50 f59 hc5 f51 (by decide)) (st := [(.ref b2)]) rfl 0 rfl (by decide) (pc := 228) (Ls := (lc42 i0 i1 i2 i3 i4 z1 3 z2 z3 z4 br4 br11 br17 w0 br20 b2 4)) hml rfl (lenOf pd_12 rfl) at_228 hby
      obtain ⟨rfl, Nr23q, er23⟩ := hQr23
      have N13 := Fr.app N12 Nr23q
      have hc17 : (i0 &&& (3 : Int32)) = (0 : Int32) := hk10
      have hs18 : z1 = (0 : Int32) := by rw [hz1]; exact hc17
      refine own_go (U' := Tr23.setTop (mkF m 238 (lc42 i0 i1 i2 i3 i4 z1 3 z2 z3 z4 br4 br11 br17 w0 br20 b2 4) [(.int 8), (.int 8)])) (fun t k => oifN Xr18 hx hby at_143 ((if0 _ _).trans (teq hs18).2) (str19 _ (oastore Xr19 hx hby at_149 (lc30 i0 i1 i2 i3 i4 z1 3 z2 z3 z4 br4 br11 br17 w0) rfl rfl (str20 _ (oastore Xr20 hx hby at_153 (lc31 i0 i1 i2 i3 i4 z1 3 z2 z3 z4 br4 br11 br17 w0 br20) rfl rfl (ogoto (pc := 155) Xr20 hx hby at_155 203 (by decide) (oaload Xr20 hx hby at_203 rfl rfl (oaload Xr20 hx hby at_205 rfl rfl (str21 _ (oastore Xr21 hx hby at_210 (lc41 i0 i1 i2 i3 i4 z1 3 z2 z3 z4 br4 br11 br17 w0 br20 b2) rfl rfl (oaload Xr21 hx hby at_212 rfl rfl (onnY (pc := 214) Xr21 hx hby at_214 219 (by decide) (oaload Xr21 hx hby at_219 rfl rfl (str22 _ (oistore Xr22 hx hby at_224 (lc42 i0 i1 i2 i3 i4 z1 3 z2 z3 z4 br4 br11 br17 w0 br20 b2 4) rfl (oaload Xr22 hx hby at_226 rfl rfl (str23 _ (oiload Xr23 hx hby at_231 rfl (oiconst Xr23 hx hby at_233 (oiadd Xr23 hx hby at_234 (oiload Xr23 hx hby at_235 rfl (oiadd Xr23 hx hby at_237 k)))))))))))))))))))))) ?_
      have f61 : Sta Z Tr21.heap zs16 zs19 zs20 vy0 := (own_staK (Sta.ext Er20 (own_staK f34 Kr18 (allS (own_nsF f28) all0))) Kr21 all0)
      obtain ⟨_, Tr24, Lr24, Xr24, hQr24, str24⟩ := ocallS Xr23 hx hZ zm28 hown (ww hw 229 rfl) (ww hw 230 rfl) (by decide) (ww hw 231 rfl) (ww hw 3 rfl) er23 (rm43_63 l hw b2 0 br20 0 bvr20 4 ci0 4 0 b3 8 vy0 108 108 Tr21.heap n0 Z_12 f56 f57 (own_lnV f58) f59 hc5 f60 f50 f51 f52 (own_lnV f55) f61 hc12 (own_elV (j := (0 : Int32)) f55 (by decide) (by decide) rfl) (own_elV (j := (0 : Int32)) f58 (by decide) (by decide) rfl) (by decide)) (st := [(.int 0), (.ref br20), (.int 0), (.ref b2)]) rfl 0 rfl (by decide) (pc := 249) (Ls := (lc42 i0 i1 i2 i3 i4 z1 3 z2 z3 z4 br4 br11 br17 w0 br20 b2 4)) hml rfl (lenOf pd_30 rfl) at_249 hby
      obtain ⟨rfl, Nr24q, er24⟩ := hQr24
      have N14 := Fr.app N13 Nr24q
      refine own_go (U' := Tr24.setTop (mkF m 252 (lc42 i0 i1 i2 i3 i4 z1 3 z2 z3 z4 br4 br11 br17 w0 br20 b2 4) [(.int 1)])) (fun t k => oicY (pc := 238) Xr23 hx hby at_238 243 (by decide) (by decide) (oaload Xr23 hx hby at_243 rfl rfl (oiconst Xr23 hx hby at_245 (oaload Xr23 hx hby at_246 rfl rfl (oiconst Xr23 hx hby at_248 (str24 _ k)))))) ?_
      obtain ⟨_, Tr25, Lr25, Xr25, hQr25, str25⟩ := ocallS Xr24 hx hZ zm28 hown (ww hw 229 rfl) (ww hw 230 rfl) (by decide) (ww hw 231 rfl) (ww hw 3 rfl) er24 (rm43_63 l hw b2 0 br20 1 bvr20 4 ci0 4 1 b3 8 vy0 111 111 Tr21.heap n0 Z_12 f56 f57 (own_lnV f58) f59 hc5 f60 f50 f51 f52 (own_lnV f55) f61 hc12 (own_elV (j := (1 : Int32)) f55 (by decide) (by decide) rfl) (own_elV (j := (1 : Int32)) f58 (by decide) (by decide) rfl) (by decide)) (st := [(.int 1), (.ref br20), (.int 0), (.ref b2)]) rfl 0 rfl (by decide) (pc := 261) (Ls := (lc42 i0 i1 i2 i3 i4 z1 3 z2 z3 z4 br4 br11 br17 w0 br20 b2 4)) hml rfl (lenOf pd_30 rfl) at_261 hby
      obtain ⟨rfl, Nr25q, er25⟩ := hQr25
      have N15 := Fr.app N14 Nr25q
      refine own_go (U' := Tr25.setTop (mkF m 264 (lc42 i0 i1 i2 i3 i4 z1 3 z2 z3 z4 br4 br11 br17 w0 br20 b2 4) [(.int 1)])) (fun t k => oifN Xr24 hx hby at_252 (by decide) (oaload Xr24 hx hby at_255 rfl rfl (oiconst Xr24 hx hby at_257 (oaload Xr24 hx hby at_258 rfl rfl (oiconst Xr24 hx hby at_260 (str25 _ k)))))) ?_
      obtain ⟨_, Tr26, Lr26, Xr26, hQr26, str26⟩ := ocallS Xr25 hx hZ zm28 hown (ww hw 229 rfl) (ww hw 230 rfl) (by decide) (ww hw 231 rfl) (ww hw 3 rfl) er25 (rm43_63 l hw b2 0 br20 2 bvr20 4 ci0 4 2 b3 8 vy0 99 99 Tr21.heap n0 Z_12 f56 f57 (own_lnV f58) f59 hc5 f60 f50 f51 f52 (own_lnV f55) f61 hc12 (own_elV (j := (2 : Int32)) f55 (by decide) (by decide) rfl) (own_elV (j := (2 : Int32)) f58 (by decide) (by decide) rfl) (by decide)) (st := [(.int 2), (.ref br20), (.int 0), (.ref b2)]) rfl 0 rfl (by decide) (pc := 273) (Ls := (lc42 i0 i1 i2 i3 i4 z1 3 z2 z3 z4 br4 br11 br17 w0 br20 b2 4)) hml rfl (lenOf pd_30 rfl) at_273 hby
      obtain ⟨rfl, Nr26q, er26⟩ := hQr26
      have N16 := Fr.app N15 Nr26q
      refine own_go (U' := Tr26.setTop (mkF m 276 (lc42 i0 i1 i2 i3 i4 z1 3 z2 z3 z4 br4 br11 br17 w0 br20 b2 4) [(.int 1)])) (fun t k => oifN Xr25 hx hby at_264 (by decide) (oaload Xr25 hx hby at_267 rfl rfl (oiconst Xr25 hx hby at_269 (oaload Xr25 hx hby at_270 rfl rfl (oiconst Xr25 hx hby at_272 (str26 _ k)))))) ?_
      obtain ⟨_, Tr27, Lr27, Xr27, hQr27, str27⟩ := ocallS Xr26 hx hZ zm28 hown (ww hw 229 rfl) (ww hw 230 rfl) (by decide) (ww hw 231 rfl) (ww hw 3 rfl) er26 (rm43_63 l hw b2 0 br20 3 bvr20 4 ci0 4 3 b3 8 vy0 107 107 Tr21.heap n0 Z_12 f56 f57 (own_lnV f58) f59 hc5 f60 f50 f51 f52 (own_lnV f55) f61 hc12 (own_elV (j := (3 : Int32)) f55 (by decide) (by decide) rfl) (own_elV (j := (3 : Int32)) f58 (by decide) (by decide) rfl) (by decide)) (st := [(.int 3), (.ref br20), (.int 0), (.ref b2)]) rfl 0 rfl (by decide) (pc := 285) (Ls := (lc42 i0 i1 i2 i3 i4 z1 3 z2 z3 z4 br4 br11 br17 w0 br20 b2 4)) hml rfl (lenOf pd_30 rfl) at_285 hby
      obtain ⟨rfl, Nr27q, er27⟩ := hQr27
      have N17 := Fr.app N16 Nr27q
      refine own_go (U' := Tr27.setTop (mkF m 288 (lc42 i0 i1 i2 i3 i4 z1 3 z2 z3 z4 br4 br11 br17 w0 br20 b2 4) [(.int 1)])) (fun t k => oifN Xr26 hx hby at_276 (by decide) (oaload Xr26 hx hby at_279 rfl rfl (oiconst Xr26 hx hby at_281 (oaload Xr26 hx hby at_282 rfl rfl (oiconst Xr26 hx hby at_284 (str27 _ k)))))) ?_
      obtain ⟨_, Tr28, Lr28, Xr28, hQr28, str28⟩ := ocallS Xr27 hx hZ zm28 hown (ww hw 229 rfl) (ww hw 230 rfl) (by decide) (ww hw 231 rfl) (ww hw 3 rfl) er27 (rm43_64 l hw b2 0 br20 4 bvr20 4 ci0 4 Tr21.heap n0 Z_12 f56 f57 (own_lnV f58) f59 hc5 f60 (by decide)) (st := [(.int 4), (.ref br20), (.int 0), (.ref b2)]) rfl 0 rfl (by decide) (pc := 297) (Ls := (lc42 i0 i1 i2 i3 i4 z1 3 z2 z3 z4 br4 br11 br17 w0 br20 b2 4)) hml rfl (lenOf pd_30 rfl) at_297 hby
      obtain ⟨rfl, Nr28q, er28⟩ := hQr28
      have N18 := Fr.app N17 Nr28q
      refine own_go (U' := Tr28.setTop (mkF m 300 (lc42 i0 i1 i2 i3 i4 z1 3 z2 z3 z4 br4 br11 br17 w0 br20 b2 4) [(.int 1)])) (fun t k => oifN Xr27 hx hby at_288 (by decide) (oaload Xr27 hx hby at_291 rfl rfl (oiconst Xr27 hx hby at_293 (oaload Xr27 hx hby at_294 rfl rfl (oiconst Xr27 hx hby at_296 (str28 _ k)))))) ?_
      obtain ⟨_, Tr29, Lr29, Xr29, hQr29, str29⟩ := ocallS Xr28 hx hZ zm28 hown (ww hw 229 rfl) (ww hw 230 rfl) (by decide) (ww hw 231 rfl) (ww hw 3 rfl) er28 (rm43_64 l hw b2 0 br20 5 bvr20 4 ci0 4 Tr21.heap n0 Z_12 f56 f57 (own_lnV f58) f59 hc5 f60 (by decide)) (st := [(.int 5), (.ref br20), (.int 0), (.ref b2)]) rfl 0 rfl (by decide) (pc := 309) (Ls := (lc42 i0 i1 i2 i3 i4 z1 3 z2 z3 z4 br4 br11 br17 w0 br20 b2 4)) hml rfl (lenOf pd_30 rfl) at_309 hby
      obtain ⟨rfl, Nr29q, er29⟩ := hQr29
      have N19 := Fr.app N18 Nr29q
      refine own_go (U' := Tr29.setTop (mkF m 312 (lc42 i0 i1 i2 i3 i4 z1 3 z2 z3 z4 br4 br11 br17 w0 br20 b2 4) [(.int 1)])) (fun t k => oifN Xr28 hx hby at_300 (by decide) (oaload Xr28 hx hby at_303 rfl rfl (oiconst Xr28 hx hby at_305 (oaload Xr28 hx hby at_306 rfl rfl (oiconst Xr28 hx hby at_308 (str29 _ k)))))) ?_
      obtain ⟨_, Tr30, Lr30, Xr30, hQr30, str30⟩ := ocallS Xr29 hx hZ zm28 hown (ww hw 229 rfl) (ww hw 230 rfl) (by decide) (ww hw 231 rfl) (ww hw 3 rfl) er29 (rm43_64 l hw b2 0 br20 6 bvr20 4 ci0 4 Tr21.heap n0 Z_12 f56 f57 (own_lnV f58) f59 hc5 f60 (by decide)) (st := [(.int 6), (.ref br20), (.int 0), (.ref b2)]) rfl 0 rfl (by decide) (pc := 322) (Ls := (lc42 i0 i1 i2 i3 i4 z1 3 z2 z3 z4 br4 br11 br17 w0 br20 b2 4)) hml rfl (lenOf pd_30 rfl) at_322 hby
      obtain ⟨rfl, Nr30q, er30⟩ := hQr30
      have N20 := Fr.app N19 Nr30q
      refine own_go (U' := Tr30.setTop (mkF m 325 (lc42 i0 i1 i2 i3 i4 z1 3 z2 z3 z4 br4 br11 br17 w0 br20 b2 4) [(.int 1)])) (fun t k => oifN Xr29 hx hby at_312 (by decide) (oaload Xr29 hx hby at_315 rfl rfl (oiconst Xr29 hx hby at_317 (oaload Xr29 hx hby at_318 rfl rfl (obipush Xr29 hx hby at_320 (str30 _ k)))))) ?_
      obtain ⟨_, Tr31, Lr31, Xr31, hQr31, str31⟩ := ocallS Xr30 hx hZ zm28 hown (ww hw 229 rfl) (ww hw 230 rfl) (by decide) (ww hw 231 rfl) (ww hw 3 rfl) er30 (rm43_64 l hw b2 0 br20 7 bvr20 4 ci0 4 Tr21.heap n0 Z_12 f56 f57 (own_lnV f58) f59 hc5 f60 (by decide)) (st := [(.int 7), (.ref br20), (.int 0), (.ref b2)]) rfl 0 rfl (by decide) (pc := 335) (Ls := (lc42 i0 i1 i2 i3 i4 z1 3 z2 z3 z4 br4 br11 br17 w0 br20 b2 4)) hml rfl (lenOf pd_30 rfl) at_335 hby
      obtain ⟨rfl, Nr31q, er31⟩ := hQr31
      have N21 := Fr.app N20 Nr31q
      refine own_go (U' := Tr31.setTop (mkF m 338 (lc42 i0 i1 i2 i3 i4 z1 3 z2 z3 z4 br4 br11 br17 w0 br20 b2 4) [(.int 1)])) (fun t k => oifN Xr30 hx hby at_325 (by decide) (oaload Xr30 hx hby at_328 rfl rfl (oiconst Xr30 hx hby at_330 (oaload Xr30 hx hby at_331 rfl rfl (obipush Xr30 hx hby at_333 (str31 _ k)))))) ?_
      obtain ⟨_, Tr32, Lr32, Xr32, hQr32, str32⟩ := ocallS Xr31 hx hZ zm28 hown (ww hw 229 rfl) (ww hw 230 rfl) (by decide) (ww hw 231 rfl) (ww hw 3 rfl) er31 (rm43_64 l hw b2 0 br20 8 bvr20 4 ci0 4 Tr21.heap n0 Z_12 f56 f57 (own_lnV f58) f59 hc5 f60 (by decide)) (st := [(.int 8), (.ref br20), (.int 0), (.ref b2)]) rfl 0 rfl (by decide) (pc := 348) (Ls := (lc42 i0 i1 i2 i3 i4 z1 3 z2 z3 z4 br4 br11 br17 w0 br20 b2 4)) hml rfl (lenOf pd_30 rfl) at_348 hby
      obtain ⟨rfl, Nr32q, er32⟩ := hQr32
      have N22 := Fr.app N21 Nr32q
      refine own_go (U' := Tr32.setTop (mkF m 351 (lc42 i0 i1 i2 i3 i4 z1 3 z2 z3 z4 br4 br11 br17 w0 br20 b2 4) [(.int 1)])) (fun t k => oifN Xr31 hx hby at_338 (by decide) (oaload Xr31 hx hby at_341 rfl rfl (oiconst Xr31 hx hby at_343 (oaload Xr31 hx hby at_344 rfl rfl (obipush Xr31 hx hby at_346 (str32 _ k)))))) ?_
      obtain ⟨_, Tr33, Lr33, Xr33, hQr33, str33⟩ := ocallS Xr32 hx hZ zm28 hown (ww hw 229 rfl) (ww hw 230 rfl) (by decide) (ww hw 231 rfl) (ww hw 3 rfl) er32 (rm43_64 l hw b2 0 br20 9 bvr20 4 ci0 4 Tr21.heap n0 Z_12 f56 f57 (own_lnV f58) f59 hc5 f60 (by decide)) (st := [(.int 9), (.ref br20), (.int 0), (.ref b2)]) rfl 0 rfl (by decide) (pc := 361) (Ls := (lc42 i0 i1 i2 i3 i4 z1 3 z2 z3 z4 br4 br11 br17 w0 br20 b2 4)) hml rfl (lenOf pd_30 rfl) at_361 hby
      obtain ⟨rfl, Nr33q, er33⟩ := hQr33
      have N23 := Fr.app N22 Nr33q
      refine own_go (U' := Tr33.setTop (mkF m 364 (lc42 i0 i1 i2 i3 i4 z1 3 z2 z3 z4 br4 br11 br17 w0 br20 b2 4) [(.int 1)])) (fun t k => oifN Xr32 hx hby at_351 (by decide) (oaload Xr32 hx hby at_354 rfl rfl (oiconst Xr32 hx hby at_356 (oaload Xr32 hx hby at_357 rfl rfl (obipush Xr32 hx hby at_359 (str33 _ k)))))) ?_
      obtain ⟨_, Tr34, Lr34, Xr34, hQr34, str34⟩ := ocallV Xr33 hx hZ zm17 zm17 hown (ww hw 232 rfl) (ww hw 82 rfl) (notFace_of_selects (args := #[]) (mvT hZ (ww hw 84 rfl))) (ww hw 84 rfl) (ww hw 83 rfl) (by decide) (ww hw 85 rfl) (ww hw 8 rfl) er33 f50 (rm16_65 l hw b2 4 ci0 b3 8 vy0 32 Tr21.heap n0 Z_12 f50 f59 hc5 f51 f52 (own_lnV f55) f61 hc12 (own_elV (j := (4 : Int32)) f55 (by decide) (by decide) rfl) (by decide)) (st := [(.int 4), (.ref b2)]) rfl 0 rfl (by decide) (pc := 378) (Ls := (lc44 i0 i1 i2 i3 i4 z1 3 z2 z3 z4 br4 br11 br17 w0 br20 b2 4 1)) hml rfl (lenOf pd_0 rfl) at_378 hby
      obtain ⟨rfl, Nr34q, er34⟩ := hQr34
      have N24 := Fr.app N23 Nr34q
      refine own_go (U' := Tr34.setTop (mkF m 383 (lc44 i0 i1 i2 i3 i4 z1 3 z2 z3 z4 br4 br11 br17 w0 br20 b2 4 1) [(.int 32), (.int 32)])) (fun t k => oifN Xr33 hx hby at_364 (by decide) (oiconst Xr33 hx hby at_367 (ogoto (pc := 368) Xr33 hx hby at_368 372 (by decide) (oistore Xr33 hx hby at_372 (lc44 i0 i1 i2 i3 i4 z1 3 z2 z3 z4 br4 br11 br17 w0 br20 b2 4 1) rfl (oaload Xr33 hx hby at_374 rfl rfl (oiload Xr33 hx hby at_376 rfl (str34 _ (obipush Xr34 hx hby at_381 k)))))))) ?_
      refine own_go (U' := Tr34.setTop (mkF m 402 (lc45 i0 i1 i2 i3 i4 z1 3 z2 z3 z4 br4 br11 br17 w0 br20 b2 4 1 1) [(.int 0), (.ref br11), (.int 5), (.ref b2)])) (fun t k => oicN Xr34 hx hby at_383 (by decide) (oiconst Xr34 hx hby at_386 (ogoto (pc := 387) Xr34 hx hby at_387 391 (by decide) (oistore Xr34 hx hby at_391 (lc45 i0 i1 i2 i3 i4 z1 3 z2 z3 z4 br4 br11 br17 w0 br20 b2 4 1 1) rfl (oaload Xr34 hx hby at_393 rfl rfl (oiload Xr34 hx hby at_395 rfl (oiconst Xr34 hx hby at_397 (oiadd Xr34 hx hby at_398 (oaload Xr34 hx hby at_399 rfl rfl (oiconst Xr34 hx hby at_401 k)))))))))) ?_
      have f62 : Exa Z Tr21.heap br11 zs6 := (f46.keep Kr21)
      have f63 : Fld Z Tr21.heap br11 zs6 "value" "[B" (.ref b1) := (f47.keep Kr21 nin0)
      have f64 : Arv Z Tr21.heap b1 k1 .byte (3 : Int32) [(.int z2), (.int z3), (.int z4)] (.int (0 : Int32)) := (f48.keep Kr21 nin0)
      have f65 : Fld Z Tr21.heap br11 zs6 "coder" "B" (.int 0) := (f49.keep Kr21 nin0)
      obtain ⟨_, Tr35, Lr35, Xr35, hQr35, str35⟩ := ocallS Xr34 hx hZ zm28 hown (ww hw 229 rfl) (ww hw 230 rfl) (by decide) (ww hw 231 rfl) (ww hw 3 rfl) er34 (rm43_66 l hw b2 5 br11 0 b1 3 ci0 3 5 b3 8 vy0 z2 z2 Tr21.heap n0 Z_12 f62 f63 (own_lnV f64) f59 hc5 f65 f50 f51 f52 (own_lnV f55) f61 hc12 (own_elV (j := (5 : Int32)) f55 (by decide) (by decide) rfl) hs2 hs9 hs4 (own_elV (j := (0 : Int32)) f64 (by decide) (by decide) rfl) hs2 hs9 hs4 rfl (by decide)) (st := [(.int 0), (.ref br11), (.int 5), (.ref b2)]) rfl 0 rfl (by decide) (pc := 402) (Ls := (lc45 i0 i1 i2 i3 i4 z1 3 z2 z3 z4 br4 br11 br17 w0 br20 b2 4 1 1)) hml rfl (lenOf pd_30 rfl) at_402 hby
      obtain ⟨rfl, Nr35q, er35⟩ := hQr35
      have N25 := Fr.app N24 Nr35q
      refine own_go (U' := Tr35.setTop (mkF m 405 (lc45 i0 i1 i2 i3 i4 z1 3 z2 z3 z4 br4 br11 br17 w0 br20 b2 4 1 1) [(.int 1)])) (fun t k => str35 _ k) ?_
      obtain ⟨_, Tr36, Lr36, Xr36, hQr36, str36⟩ := ocallS Xr35 hx hZ zm28 hown (ww hw 229 rfl) (ww hw 230 rfl) (by decide) (ww hw 231 rfl) (ww hw 3 rfl) er35 (rm43_66 l hw b2 5 br11 1 b1 3 ci0 3 6 b3 8 vy0 z3 z3 Tr21.heap n0 Z_12 f62 f63 (own_lnV f64) f59 hc5 f65 f50 f51 f52 (own_lnV f55) f61 hc12 (own_elV (j := (6 : Int32)) f55 (by decide) (by decide) rfl) hs33 hs39 hs35 (own_elV (j := (1 : Int32)) f64 (by decide) (by decide) rfl) hs33 hs39 hs35 rfl (by decide)) (st := [(.int 1), (.ref br11), (.int 5), (.ref b2)]) rfl 0 rfl (by decide) (pc := 417) (Ls := (lc45 i0 i1 i2 i3 i4 z1 3 z2 z3 z4 br4 br11 br17 w0 br20 b2 4 1 1)) hml rfl (lenOf pd_30 rfl) at_417 hby
      obtain ⟨rfl, Nr36q, er36⟩ := hQr36
      have N26 := Fr.app N25 Nr36q
      refine own_go (U' := Tr36.setTop (mkF m 420 (lc45 i0 i1 i2 i3 i4 z1 3 z2 z3 z4 br4 br11 br17 w0 br20 b2 4 1 1) [(.int 1)])) (fun t k => oifN Xr35 hx hby at_405 (by decide) (oaload Xr35 hx hby at_408 rfl rfl (oiload Xr35 hx hby at_410 rfl (oiconst Xr35 hx hby at_412 (oiadd Xr35 hx hby at_413 (oaload Xr35 hx hby at_414 rfl rfl (oiconst Xr35 hx hby at_416 (str36 _ k)))))))) ?_
      obtain ⟨_, Tr37, Lr37, Xr37, hQr37, str37⟩ := ocallS Xr36 hx hZ zm28 hown (ww hw 229 rfl) (ww hw 230 rfl) (by decide) (ww hw 231 rfl) (ww hw 3 rfl) er36 (rm43_66 l hw b2 5 br11 2 b1 3 ci0 3 7 b3 8 vy0 z4 z4 Tr21.heap n0 Z_12 f62 f63 (own_lnV f64) f59 hc5 f65 f50 f51 f52 (own_lnV f55) f61 hc12 (own_elV (j := (7 : Int32)) f55 (by decide) (by decide) rfl) hs50 hs56 hs52 (own_elV (j := (2 : Int32)) f64 (by decide) (by decide) rfl) hs50 hs56 hs52 rfl (by decide)) (st := [(.int 2), (.ref br11), (.int 5), (.ref b2)]) rfl 0 rfl (by decide) (pc := 432) (Ls := (lc45 i0 i1 i2 i3 i4 z1 3 z2 z3 z4 br4 br11 br17 w0 br20 b2 4 1 1)) hml rfl (lenOf pd_30 rfl) at_432 hby
      obtain ⟨rfl, Nr37q, er37⟩ := hQr37
      have N27 := Fr.app N26 Nr37q
      refine own_go (U' := Tr37.setTop (mkF m 435 (lc45 i0 i1 i2 i3 i4 z1 3 z2 z3 z4 br4 br11 br17 w0 br20 b2 4 1 1) [(.int 1)])) (fun t k => oifN Xr36 hx hby at_420 (by decide) (oaload Xr36 hx hby at_423 rfl rfl (oiload Xr36 hx hby at_425 rfl (oiconst Xr36 hx hby at_427 (oiadd Xr36 hx hby at_428 (oaload Xr36 hx hby at_429 rfl rfl (oiconst Xr36 hx hby at_431 (str37 _ k)))))))) ?_
      refine own_go (U' := Tr37.setTop (mkF m 447 (lc46 i0 i1 i2 i3 i4 z1 3 z2 z3 z4 br4 br11 br17 w0 br20 b2 4 1 1 1) [(.int 1)])) (fun t k => oifN Xr37 hx hby at_435 (by decide) (oiconst Xr37 hx hby at_438 (ogoto (pc := 439) Xr37 hx hby at_439 443 (by decide) (oistore Xr37 hx hby at_443 (lc46 i0 i1 i2 i3 i4 z1 3 z2 z3 z4 br4 br11 br17 w0 br20 b2 4 1 1 1) rfl (oiload Xr37 hx hby at_445 rfl k))))) ?_
      refine own_go (U' := Tr37.setTop (mkF m 452 (lc46 i0 i1 i2 i3 i4 z1 3 z2 z3 z4 br4 br11 br17 w0 br20 b2 4 1 1 1) [(.int 1)])) (fun t k => oifN Xr37 hx hby at_447 (by decide) (oiload Xr37 hx hby at_450 rfl k)) ?_
      refine own_go (U' := Tr37.setTop (mkF m 457 (lc46 i0 i1 i2 i3 i4 z1 3 z2 z3 z4 br4 br11 br17 w0 br20 b2 4 1 1 1) [(.int 1)])) (fun t k => oifN Xr37 hx hby at_452 (by decide) (oiload Xr37 hx hby at_455 rfl k)) ?_
      refine own_go (U' := Tr37.setTop (mkF m 465 (lc46 i0 i1 i2 i3 i4 z1 3 z2 z3 z4 br4 br11 br17 w0 br20 b2 4 1 1 1) [(.int 1)])) (fun t k => oifN Xr37 hx hby at_457 (by decide) (oiconst Xr37 hx hby at_460 (ogoto (pc := 461) Xr37 hx hby at_461 465 (by decide) k))) ?_
      obtain ⟨fs, hr, hrun, hended, hW, hsame⟩ := Xr37.leave (v := some (.int 1)) (fun h => by rw [Bd.returns] at h; cases h)
      have hE := hSr21.ended hW (by show _ ≤ Tr37.heap.size; rw [er37]; exact (Nat.le_refl _)) hsame
      refine own_out ⟨_, _, ?_, hrun, hended, _, _, rfl, ?_, ?_, ⟨_, rfl⟩, hE.1, hE.2.1, hE.2.2.mono (by decide) (by decide)⟩
      · exact retN Xr37 hx (t := .boolean) Bd.returns (by simp) (hb hby at_465) hr
      · exact ⟨rfl, N27⟩
      · show CHr Z consts_1 s.vm s.heap Tr37.vm Tr37.heap; rw [hh, er37]; exact C12.trans (CHv.at (s := s) Xr37 hZ (own_EW hw) C12.1)
    · have hc19 : ¬ ((i0 &&& (3 : Int32)) = (0 : Int32)) := hk10
      have hs20 : ¬ (z1 = (0 : Int32)) := by rw [hz1]; exact hc19
      refine own_go (U' := Tr18.setTop (mkF m 161 (lc29 i0 i1 i2 i3 i4 z1 3 z2 z3 z4 br4 br11 br17) [(.int 1), (.int z1)])) (fun t k => oifY (pc := 143) Xr18 hx hby at_143 158 ((if0 _ _).trans (feq hs20).2) (by decide) (oiload Xr18 hx hby at_158 rfl (oiconst Xr18 hx hby at_160 k))) ?_
      by_cases hk11 : (i0 &&& (3 : Int32)) = (1 : Int32)
      · have f36 : Sta Z Tr18.heap zs35 "READ" zs39 (.ref w9) := (own_staK (Sta.ext Er17 (Sta.ext Er15 (Sta.ext Er13 (own_staK (Sta.ext Er11 (Sta.wr Wr10 (Sta.wr Wr8 (Sta.wr Wr6 (Sta.ext Er4 S21))))) Kr12 (allS (own_nsF f10) all0))))) Kr18 (allS (own_nsE Ar17) all0))
        obtain ⟨Tr19, Xr19, er19, str19⟩ := getS2 Xr18 hx hZ hown (host := "") (Or.inl (ww hw 239 rfl)) Via.refl rfl f36 (g := (mkF m 164 (lc29 i0 i1 i2 i3 i4 z1 3 z2 z3 z4 br4 br11 br17) [])) rfl (hb hby at_164)
        obtain ⟨br20, Tr20, hr20, kr20, bvr20, clr20, Xr20, er20, Er20, hSr20, hkr20, hZ, hown, fr20a, fr20b, fr20c, fr20d, ltr20, lvr20, CRr20, -, nsr20, str20⟩ := ldcCH (s := s) Xr19 hx hZ hown (ww hw 241 rfl) (own_wS hw) er19 hSr18 (Nat.le_refl _) (own_EW hw) (List.mem_of_getElem? (i := 7) rfl) C10.1 (vs := [(.int 114), (.int 101), (.int 97), (.int 100), (.int 32), (.int 108), (.int 111), (.int 99), (.int 107)]) (z := 9) ⟨by decide, by decide⟩ (by decide) (by decide) (g := (mkF m 169 (lc30 i0 i1 i2 i3 i4 z1 3 z2 z3 z4 br4 br11 br17 w9) [])) rfl (hb hby at_169) (n := 36) (by decide) (by decide) (by decide) (by decide)
        have C11 := C10.trans CRr20
        have f37 : Exa Z hr20 w9 zs35 := (Exa.ext Er20 ((Exa.ext Er17 (Exa.ext Er15 (Exa.ext Er13 ((Exa.ext Er11 (Exa.wr Wr10 (Exa.wr Wr8 (Exa.wr Wr6 (Exa.ext Er4 S22))))).keep Kr12)))).keep Kr18))
        have f38 : Sta Z hr20 zs6 zs7 "Z" (.int ci0) := (Sta.ext Er20 (own_staK f32 Kr18 (allS (own_nsE Ar17) all0)))
        have ne3 : w9 ≠ br4 := Nat.ne_of_lt (nlt (S23.lt) (Nat.le_of_eq gr4.symm))
        have ne4 : w9 ≠ br11 := Nat.ne_of_lt (nlt (nlt (nlt (nlt (nlt (S23.lt) Er4.1) (Keep.of_wr Wr6).1) (Keep.of_wr Wr8).1) (Keep.of_wr Wr10).1) (Nat.le_of_eq gr11.symm))
        have ne5 : w9 ≠ br17 := Nat.ne_of_lt (nlt (nlt (nlt (nlt (nlt (nlt (nlt (nlt (nlt (S23.lt) Er4.1) (Keep.of_wr Wr6).1) (Keep.of_wr Wr8).1) (Keep.of_wr Wr10).1) Er11.1) Kr12.1) Er13.1) Er15.1) (Nat.le_of_eq gr17.symm))
        have f39 : Fld Z hr20 w9 zs35 "noun" zs23 (.ref w10) := (Fld.ext Er20 ((Fld.ext Er17 (Fld.ext Er15 (Fld.ext Er13 ((Fld.ext Er11 (Fld.other Wr10 (Fld.other Wr8 (Fld.other Wr6 (Fld.ext Er4 S23) (Or.inl ne3)) (Or.inl ne3)) (Or.inl ne3))).keep Kr12 (ninS ne4 nin0))))).keep Kr18 (ninS ne5 nin0)))
        have f40 : Exa Z hr20 w10 zs6 := (Exa.ext Er20 ((Exa.ext Er17 (Exa.ext Er15 (Exa.ext Er13 ((Exa.ext Er11 (Exa.wr Wr10 (Exa.wr Wr8 (Exa.wr Wr6 (Exa.ext Er4 S24))))).keep Kr12)))).keep Kr18))
        have ne6 : w10 ≠ br4 := Nat.ne_of_lt (nlt (S25.lt) (Nat.le_of_eq gr4.symm))
        have ne7 : w10 ≠ br11 := Nat.ne_of_lt (nlt (nlt (nlt (nlt (nlt (S25.lt) Er4.1) (Keep.of_wr Wr6).1) (Keep.of_wr Wr8).1) (Keep.of_wr Wr10).1) (Nat.le_of_eq gr11.symm))
        have ne8 : w10 ≠ br17 := Nat.ne_of_lt (nlt (nlt (nlt (nlt (nlt (nlt (nlt (nlt (nlt (S25.lt) Er4.1) (Keep.of_wr Wr6).1) (Keep.of_wr Wr8).1) (Keep.of_wr Wr10).1) Er11.1) Kr12.1) Er13.1) Er15.1) (Nat.le_of_eq gr17.symm))
        have f41 : Fld Z hr20 w10 zs6 "value" "[B" (.ref w11) := (Fld.ext Er20 ((Fld.ext Er17 (Fld.ext Er15 (Fld.ext Er13 ((Fld.ext Er11 (Fld.other Wr10 (Fld.other Wr8 (Fld.other Wr6 (Fld.ext Er4 S25) (Or.inl ne6)) (Or.inl ne6)) (Or.inl ne6))).keep Kr12 (ninS ne7 nin0))))).keep Kr18 (ninS ne8 nin0)))
        have ne9 : w11 ≠ br4 := Nat.ne_of_lt (nlt (S35.lt) (Nat.le_of_eq gr4.symm))
        have ne10 : w11 ≠ br11 := Nat.ne_of_lt (nlt (nlt (nlt (nlt (nlt (S35.lt) Er4.1) (Keep.of_wr Wr6).1) (Keep.of_wr Wr8).1) (Keep.of_wr Wr10).1) (Nat.le_of_eq gr11.symm))
        have ne11 : w11 ≠ br17 := Nat.ne_of_lt (nlt (nlt (nlt (nlt (nlt (nlt (nlt (nlt (nlt (S35.lt) Er4.1) (Keep.of_wr Wr6).1) (Keep.of_wr Wr8).1) (Keep.of_wr Wr10).1) Er11.1) Kr12.1) Er13.1) Er15.1) (Nat.le_of_eq gr17.symm))
        have f42 : Arv Z hr20 w11 kl3 .byte (9 : Int32) [(.int 114), (.int 101), (.int 97), (.int 100), (.int 32), (.int 108), (.int 111), (.int 99), (.int 107)] (.int (0 : Int32)) := (((((((((((S35.ext Er4).other Wr6 ne9).other Wr8 ne9).other Wr10 ne9).ext Er11).keep Kr12 (ninS ne10 nin0)).ext Er13).ext Er15).ext Er17).keep Kr18 (ninS ne11 nin0)).ext Er20)
        have f43 : Fld Z hr20 w10 zs6 "coder" "B" (.int 0) := (Fld.ext Er20 ((Fld.ext Er17 (Fld.ext Er15 (Fld.ext Er13 ((Fld.ext Er11 (Fld.other Wr10 (Fld.other Wr8 (Fld.other Wr6 (Fld.ext Er4 S27) (Or.inl ne6)) (Or.inl ne6)) (Or.inl ne6))).keep Kr12 (ninS ne7 nin0))))).keep Kr18 (ninS ne8 nin0)))
        have f44 : Exa Z hr20 br17 zs21 := (Exa.ext Er20 (Ar17.keep Kr18))
        have f45 : Fld Z hr20 br17 zs21 "value" zs23 (.ref br11) := (Fld.ext Er20 f35)
        have f46 : Exa Z hr20 br11 zs6 := (Exa.ext Er20 (f29.keep Kr18))
        have ne12 : br11 ≠ br17 := Nat.ne_of_lt (nlt (nlt (nlt (nlt (f10.lt) Kr12.1) Er13.1) Er15.1) (Nat.le_of_eq gr17.symm))
        have f47 : Fld Z hr20 br11 zs6 "value" "[B" (.ref b1) := (Fld.ext Er20 (f30.keep Kr18 (ninS ne12 nin0)))
        have ne13 : b1 ≠ br17 := Nat.ne_of_lt (nlt (nlt (nlt (f16.lt) Er13.1) Er15.1) (Nat.le_of_eq gr17.symm))
        have f48 : Arv Z hr20 b1 k1 .byte (3 : Int32) [(.int z2), (.int z3), (.int z4)] (.int (0 : Int32)) := ((f31.keep Kr18 (ninS ne13 nin0)).ext Er20)
        have f49 : Fld Z hr20 br11 zs6 "coder" "B" (.int 0) := (Fld.ext Er20 (f33.keep Kr18 (ninS ne12 nin0)))
        have Z_10 : n0 ≤ Tr18.heap.size := Nat.le_trans Z_9 Kr18.1
        have Z_11 : n0 ≤ hr20.size := Nat.le_trans Z_10 Er20.1
        obtain ⟨_, Tr21, Lr21, Xr21, hQr21, hSr21, hZ, hown, CRr21, str21⟩ := ocallVH (s := s) Xr20 hx hZ zm27 zm27 hown (ww hw 114 rfl) (ww hw 115 rfl) (notFace_of_selects (args := #[]) (mvT hZ (ww hw 117 rfl))) (ww hw 117 rfl) (ww hw 116 rfl) (by decide) (ww hw 118 rfl) (ww hw 111 rfl) er20 f37 (rm22_61 l hw w9 br17 ci0 w10 w11 [(.int 114), (.int 101), (.int 97), (.int 100), (.int 32), (.int 108), (.int 111), (.int 99), (.int 107)] kl3 9 9 9 (-7) 10 (-6) 9 br11 b1 [(.int z2), (.int z3), (.int z4)] k1 3 3 13 (-3) 10 13 hr20 n0 Z_11 f38 hc5 f39 f40 f41 f42 f43 (Nat.le_of_ble_eq_true rfl) (Nat.le_of_ble_eq_true rfl) (Nat.le_of_ble_eq_true rfl) (Nat.le_of_ble_eq_true rfl) (Nat.le_of_ble_eq_true rfl) (Nat.le_of_ble_eq_true rfl) f44 f45 f46 f47 f48 f49 (Nat.le_of_ble_eq_true rfl) (Nat.le_of_ble_eq_true rfl) (Nat.le_of_ble_eq_true rfl) (Nat.le_of_ble_eq_true rfl) (Nat.le_of_ble_eq_true rfl) (Nat.le_of_ble_eq_true rfl) (Nat.le_of_ble_eq_true rfl) (by decide)) (st := [(.ref br17), (.ref w9)]) rfl 0 rfl (by decide) (pc := 207) (Ls := (lc31 i0 i1 i2 i3 i4 z1 3 z2 z3 z4 br4 br11 br17 w9 br20)) hml rfl (lenOf pd_29 rfl) at_207 hby hSr20 hkr20 (own_EW hw) C11.1 all0
        obtain ⟨b2, b3, k2, rfl, Nr21q, Kr21, sz2, sz3, ne14, f50, f51, f52, f53, f54⟩ := hQr21
        have C12 := C11.trans CRr21
        have f55 : Arv Z Tr21.heap b3 k2 .byte (13 : Int32) [(.int 114), (.int 101), (.int 97), (.int 100), (.int 32), (.int 108), (.int 111), (.int 99), (.int 107), (.int 32), (.int z2), (.int z3), (.int z4)] (.int (0 : Int32)) := f54
        have N11 := Fr.app N10 Nr21q
        have f56 : Exa Z Tr21.heap br20 zs6 := (fr20a.keep Kr21)
        have f57 : Fld Z Tr21.heap br20 zs6 "value" "[B" (.ref bvr20) := (fr20c.keep Kr21 nin0)
        have f58 : Arv Z Tr21.heap bvr20 clr20 .byte (9 : Int32) [(.int 114), (.int 101), (.int 97), (.int 100), (.int 32), (.int 108), (.int 111), (.int 99), (.int 107)] (.int (0 : Int32)) := (fr20d.keep Kr21 nin0)
        have f59 : Sta Z Tr21.heap zs6 zs7 "Z" (.int ci0) := (own_staK f38 Kr21 all0)
        have f60 : Fld Z Tr21.heap br20 zs6 "coder" "B" (.int 0) := (fr20b.keep Kr21 nin0)
        have Z_12 : n0 ≤ Tr21.heap.size := Nat.le_trans Z_11 Kr21.1
        obtain ⟨_, Tr22, Lr22, Xr22, hQr22, str22⟩ := ocallV Xr21 hx hZ zm12 zm12 hown (ww hw 228 rfl) (ww hw 72 rfl) (notFace_of_selects (args := #[]) (mvT hZ (ww hw 74 rfl))) (ww hw 74 rfl) (ww hw 73 rfl) (by decide) (ww hw 75 rfl) (ww hw 8 rfl) rfl f56 (rm14_24 l hw br20 bvr20 9 ci0 9 Tr21.heap n0 Z_12 f57 (own_lnV f58) f56 f59 hc5 f60 (by decide)) (st := [(.ref br20)]) rfl 0 rfl (by decide) (pc := 221) (Ls := (lc41 i0 i1 i2 i3 i4 z1 3 z2 z3 z4 br4 br11 br17 w9 br20 b2)) hml rfl (lenOf pd_12 rfl) at_221 hby
        obtain ⟨rfl, Nr22q, er22⟩ := hQr22
        have N12 := Fr.app N11 Nr22q
        obtain ⟨_, Tr23, Lr23, Xr23, hQr23, str23⟩ := ocallV Xr22 hx hZ zm12 zm12 hown (ww hw 228 rfl) (ww hw 72 rfl) (notFace_of_selects (args := #[]) (mvT hZ (ww hw 74 rfl))) (ww hw 74 rfl) (ww hw 73 rfl) (by decide) (ww hw 75 rfl) (ww hw 8 rfl) er22 f50 (rm14_24 l hw b2 b3 13 ci0 13 Tr21.heap n0 Z_12 f52 (own_lnV f55) f50 f59 hc5 f51 (by decide)) (st := [(.ref b2)]) rfl 0 rfl (by decide) (pc := 228) (Ls := (lc42 i0 i1 i2 i3 i4 z1 3 z2 z3 z4 br4 br11 br17 w9 br20 b2 9)) hml rfl (lenOf pd_12 rfl) at_228 hby
        obtain ⟨rfl, Nr23q, er23⟩ := hQr23
        have N13 := Fr.app N12 Nr23q
        have hc21 : (i0 &&& (3 : Int32)) = (1 : Int32) := hk11
        have hs22 : z1 = (1 : Int32) := by rw [hz1]; exact hc21
        refine own_go (U' := Tr23.setTop (mkF m 238 (lc42 i0 i1 i2 i3 i4 z1 3 z2 z3 z4 br4 br11 br17 w9 br20 b2 9) [(.int 13), (.int 13)])) (fun t k => oicN Xr18 hx hby at_161 (teq hs22).2 (str19 _ (oastore Xr19 hx hby at_167 (lc30 i0 i1 i2 i3 i4 z1 3 z2 z3 z4 br4 br11 br17 w9) rfl rfl (str20 _ (oastore Xr20 hx hby at_171 (lc31 i0 i1 i2 i3 i4 z1 3 z2 z3 z4 br4 br11 br17 w9 br20) rfl rfl (ogoto (pc := 173) Xr20 hx hby at_173 203 (by decide) (oaload Xr20 hx hby at_203 rfl rfl (oaload Xr20 hx hby at_205 rfl rfl (str21 _ (oastore Xr21 hx hby at_210 (lc41 i0 i1 i2 i3 i4 z1 3 z2 z3 z4 br4 br11 br17 w9 br20 b2) rfl rfl (oaload Xr21 hx hby at_212 rfl rfl (onnY (pc := 214) Xr21 hx hby at_214 219 (by decide) (oaload Xr21 hx hby at_219 rfl rfl (str22 _ (oistore Xr22 hx hby at_224 (lc42 i0 i1 i2 i3 i4 z1 3 z2 z3 z4 br4 br11 br17 w9 br20 b2 9) rfl (oaload Xr22 hx hby at_226 rfl rfl (str23 _ (oiload Xr23 hx hby at_231 rfl (oiconst Xr23 hx hby at_233 (oiadd Xr23 hx hby at_234 (oiload Xr23 hx hby at_235 rfl (oiadd Xr23 hx hby at_237 k)))))))))))))))))))))) ?_
        have f61 : Sta Z Tr21.heap zs16 zs19 zs20 vy0 := (own_staK (Sta.ext Er20 (own_staK f34 Kr18 (allS (own_nsF f28) all0))) Kr21 all0)
        obtain ⟨_, Tr24, Lr24, Xr24, hQr24, str24⟩ := ocallS Xr23 hx hZ zm28 hown (ww hw 229 rfl) (ww hw 230 rfl) (by decide) (ww hw 231 rfl) (ww hw 3 rfl) er23 (rm43_63 l hw b2 0 br20 0 bvr20 9 ci0 9 0 b3 13 vy0 114 114 Tr21.heap n0 Z_12 f56 f57 (own_lnV f58) f59 hc5 f60 f50 f51 f52 (own_lnV f55) f61 hc12 (own_elV (j := (0 : Int32)) f55 (by decide) (by decide) rfl) (own_elV (j := (0 : Int32)) f58 (by decide) (by decide) rfl) (by decide)) (st := [(.int 0), (.ref br20), (.int 0), (.ref b2)]) rfl 0 rfl (by decide) (pc := 249) (Ls := (lc42 i0 i1 i2 i3 i4 z1 3 z2 z3 z4 br4 br11 br17 w9 br20 b2 9)) hml rfl (lenOf pd_30 rfl) at_249 hby
        obtain ⟨rfl, Nr24q, er24⟩ := hQr24
        have N14 := Fr.app N13 Nr24q
        refine own_go (U' := Tr24.setTop (mkF m 252 (lc42 i0 i1 i2 i3 i4 z1 3 z2 z3 z4 br4 br11 br17 w9 br20 b2 9) [(.int 1)])) (fun t k => oicY (pc := 238) Xr23 hx hby at_238 243 (by decide) (by decide) (oaload Xr23 hx hby at_243 rfl rfl (oiconst Xr23 hx hby at_245 (oaload Xr23 hx hby at_246 rfl rfl (oiconst Xr23 hx hby at_248 (str24 _ k)))))) ?_
        obtain ⟨_, Tr25, Lr25, Xr25, hQr25, str25⟩ := ocallS Xr24 hx hZ zm28 hown (ww hw 229 rfl) (ww hw 230 rfl) (by decide) (ww hw 231 rfl) (ww hw 3 rfl) er24 (rm43_63 l hw b2 0 br20 1 bvr20 9 ci0 9 1 b3 13 vy0 101 101 Tr21.heap n0 Z_12 f56 f57 (own_lnV f58) f59 hc5 f60 f50 f51 f52 (own_lnV f55) f61 hc12 (own_elV (j := (1 : Int32)) f55 (by decide) (by decide) rfl) (own_elV (j := (1 : Int32)) f58 (by decide) (by decide) rfl) (by decide)) (st := [(.int 1), (.ref br20), (.int 0), (.ref b2)]) rfl 0 rfl (by decide) (pc := 261) (Ls := (lc42 i0 i1 i2 i3 i4 z1 3 z2 z3 z4 br4 br11 br17 w9 br20 b2 9)) hml rfl (lenOf pd_30 rfl) at_261 hby
        obtain ⟨rfl, Nr25q, er25⟩ := hQr25
        have N15 := Fr.app N14 Nr25q
        refine own_go (U' := Tr25.setTop (mkF m 264 (lc42 i0 i1 i2 i3 i4 z1 3 z2 z3 z4 br4 br11 br17 w9 br20 b2 9) [(.int 1)])) (fun t k => oifN Xr24 hx hby at_252 (by decide) (oaload Xr24 hx hby at_255 rfl rfl (oiconst Xr24 hx hby at_257 (oaload Xr24 hx hby at_258 rfl rfl (oiconst Xr24 hx hby at_260 (str25 _ k)))))) ?_
        obtain ⟨_, Tr26, Lr26, Xr26, hQr26, str26⟩ := ocallS Xr25 hx hZ zm28 hown (ww hw 229 rfl) (ww hw 230 rfl) (by decide) (ww hw 231 rfl) (ww hw 3 rfl) er25 (rm43_63 l hw b2 0 br20 2 bvr20 9 ci0 9 2 b3 13 vy0 97 97 Tr21.heap n0 Z_12 f56 f57 (own_lnV f58) f59 hc5 f60 f50 f51 f52 (own_lnV f55) f61 hc12 (own_elV (j := (2 : Int32)) f55 (by decide) (by decide) rfl) (own_elV (j := (2 : Int32)) f58 (by decide) (by decide) rfl) (by decide)) (st := [(.int 2), (.ref br20), (.int 0), (.ref b2)]) rfl 0 rfl (by decide) (pc := 273) (Ls := (lc42 i0 i1 i2 i3 i4 z1 3 z2 z3 z4 br4 br11 br17 w9 br20 b2 9)) hml rfl (lenOf pd_30 rfl) at_273 hby
        obtain ⟨rfl, Nr26q, er26⟩ := hQr26
        have N16 := Fr.app N15 Nr26q
        refine own_go (U' := Tr26.setTop (mkF m 276 (lc42 i0 i1 i2 i3 i4 z1 3 z2 z3 z4 br4 br11 br17 w9 br20 b2 9) [(.int 1)])) (fun t k => oifN Xr25 hx hby at_264 (by decide) (oaload Xr25 hx hby at_267 rfl rfl (oiconst Xr25 hx hby at_269 (oaload Xr25 hx hby at_270 rfl rfl (oiconst Xr25 hx hby at_272 (str26 _ k)))))) ?_
        obtain ⟨_, Tr27, Lr27, Xr27, hQr27, str27⟩ := ocallS Xr26 hx hZ zm28 hown (ww hw 229 rfl) (ww hw 230 rfl) (by decide) (ww hw 231 rfl) (ww hw 3 rfl) er26 (rm43_63 l hw b2 0 br20 3 bvr20 9 ci0 9 3 b3 13 vy0 100 100 Tr21.heap n0 Z_12 f56 f57 (own_lnV f58) f59 hc5 f60 f50 f51 f52 (own_lnV f55) f61 hc12 (own_elV (j := (3 : Int32)) f55 (by decide) (by decide) rfl) (own_elV (j := (3 : Int32)) f58 (by decide) (by decide) rfl) (by decide)) (st := [(.int 3), (.ref br20), (.int 0), (.ref b2)]) rfl 0 rfl (by decide) (pc := 285) (Ls := (lc42 i0 i1 i2 i3 i4 z1 3 z2 z3 z4 br4 br11 br17 w9 br20 b2 9)) hml rfl (lenOf pd_30 rfl) at_285 hby
        obtain ⟨rfl, Nr27q, er27⟩ := hQr27
        have N17 := Fr.app N16 Nr27q
        refine own_go (U' := Tr27.setTop (mkF m 288 (lc42 i0 i1 i2 i3 i4 z1 3 z2 z3 z4 br4 br11 br17 w9 br20 b2 9) [(.int 1)])) (fun t k => oifN Xr26 hx hby at_276 (by decide) (oaload Xr26 hx hby at_279 rfl rfl (oiconst Xr26 hx hby at_281 (oaload Xr26 hx hby at_282 rfl rfl (oiconst Xr26 hx hby at_284 (str27 _ k)))))) ?_
        obtain ⟨_, Tr28, Lr28, Xr28, hQr28, str28⟩ := ocallS Xr27 hx hZ zm28 hown (ww hw 229 rfl) (ww hw 230 rfl) (by decide) (ww hw 231 rfl) (ww hw 3 rfl) er27 (rm43_63 l hw b2 0 br20 4 bvr20 9 ci0 9 4 b3 13 vy0 32 32 Tr21.heap n0 Z_12 f56 f57 (own_lnV f58) f59 hc5 f60 f50 f51 f52 (own_lnV f55) f61 hc12 (own_elV (j := (4 : Int32)) f55 (by decide) (by decide) rfl) (own_elV (j := (4 : Int32)) f58 (by decide) (by decide) rfl) (by decide)) (st := [(.int 4), (.ref br20), (.int 0), (.ref b2)]) rfl 0 rfl (by decide) (pc := 297) (Ls := (lc42 i0 i1 i2 i3 i4 z1 3 z2 z3 z4 br4 br11 br17 w9 br20 b2 9)) hml rfl (lenOf pd_30 rfl) at_297 hby
        obtain ⟨rfl, Nr28q, er28⟩ := hQr28
        have N18 := Fr.app N17 Nr28q
        refine own_go (U' := Tr28.setTop (mkF m 300 (lc42 i0 i1 i2 i3 i4 z1 3 z2 z3 z4 br4 br11 br17 w9 br20 b2 9) [(.int 1)])) (fun t k => oifN Xr27 hx hby at_288 (by decide) (oaload Xr27 hx hby at_291 rfl rfl (oiconst Xr27 hx hby at_293 (oaload Xr27 hx hby at_294 rfl rfl (oiconst Xr27 hx hby at_296 (str28 _ k)))))) ?_
        obtain ⟨_, Tr29, Lr29, Xr29, hQr29, str29⟩ := ocallS Xr28 hx hZ zm28 hown (ww hw 229 rfl) (ww hw 230 rfl) (by decide) (ww hw 231 rfl) (ww hw 3 rfl) er28 (rm43_63 l hw b2 0 br20 5 bvr20 9 ci0 9 5 b3 13 vy0 108 108 Tr21.heap n0 Z_12 f56 f57 (own_lnV f58) f59 hc5 f60 f50 f51 f52 (own_lnV f55) f61 hc12 (own_elV (j := (5 : Int32)) f55 (by decide) (by decide) rfl) (own_elV (j := (5 : Int32)) f58 (by decide) (by decide) rfl) (by decide)) (st := [(.int 5), (.ref br20), (.int 0), (.ref b2)]) rfl 0 rfl (by decide) (pc := 309) (Ls := (lc42 i0 i1 i2 i3 i4 z1 3 z2 z3 z4 br4 br11 br17 w9 br20 b2 9)) hml rfl (lenOf pd_30 rfl) at_309 hby
        obtain ⟨rfl, Nr29q, er29⟩ := hQr29
        have N19 := Fr.app N18 Nr29q
        refine own_go (U' := Tr29.setTop (mkF m 312 (lc42 i0 i1 i2 i3 i4 z1 3 z2 z3 z4 br4 br11 br17 w9 br20 b2 9) [(.int 1)])) (fun t k => oifN Xr28 hx hby at_300 (by decide) (oaload Xr28 hx hby at_303 rfl rfl (oiconst Xr28 hx hby at_305 (oaload Xr28 hx hby at_306 rfl rfl (oiconst Xr28 hx hby at_308 (str29 _ k)))))) ?_
        obtain ⟨_, Tr30, Lr30, Xr30, hQr30, str30⟩ := ocallS Xr29 hx hZ zm28 hown (ww hw 229 rfl) (ww hw 230 rfl) (by decide) (ww hw 231 rfl) (ww hw 3 rfl) er29 (rm43_63 l hw b2 0 br20 6 bvr20 9 ci0 9 6 b3 13 vy0 111 111 Tr21.heap n0 Z_12 f56 f57 (own_lnV f58) f59 hc5 f60 f50 f51 f52 (own_lnV f55) f61 hc12 (own_elV (j := (6 : Int32)) f55 (by decide) (by decide) rfl) (own_elV (j := (6 : Int32)) f58 (by decide) (by decide) rfl) (by decide)) (st := [(.int 6), (.ref br20), (.int 0), (.ref b2)]) rfl 0 rfl (by decide) (pc := 322) (Ls := (lc42 i0 i1 i2 i3 i4 z1 3 z2 z3 z4 br4 br11 br17 w9 br20 b2 9)) hml rfl (lenOf pd_30 rfl) at_322 hby
        obtain ⟨rfl, Nr30q, er30⟩ := hQr30
        have N20 := Fr.app N19 Nr30q
        refine own_go (U' := Tr30.setTop (mkF m 325 (lc42 i0 i1 i2 i3 i4 z1 3 z2 z3 z4 br4 br11 br17 w9 br20 b2 9) [(.int 1)])) (fun t k => oifN Xr29 hx hby at_312 (by decide) (oaload Xr29 hx hby at_315 rfl rfl (oiconst Xr29 hx hby at_317 (oaload Xr29 hx hby at_318 rfl rfl (obipush Xr29 hx hby at_320 (str30 _ k)))))) ?_
        obtain ⟨_, Tr31, Lr31, Xr31, hQr31, str31⟩ := ocallS Xr30 hx hZ zm28 hown (ww hw 229 rfl) (ww hw 230 rfl) (by decide) (ww hw 231 rfl) (ww hw 3 rfl) er30 (rm43_63 l hw b2 0 br20 7 bvr20 9 ci0 9 7 b3 13 vy0 99 99 Tr21.heap n0 Z_12 f56 f57 (own_lnV f58) f59 hc5 f60 f50 f51 f52 (own_lnV f55) f61 hc12 (own_elV (j := (7 : Int32)) f55 (by decide) (by decide) rfl) (own_elV (j := (7 : Int32)) f58 (by decide) (by decide) rfl) (by decide)) (st := [(.int 7), (.ref br20), (.int 0), (.ref b2)]) rfl 0 rfl (by decide) (pc := 335) (Ls := (lc42 i0 i1 i2 i3 i4 z1 3 z2 z3 z4 br4 br11 br17 w9 br20 b2 9)) hml rfl (lenOf pd_30 rfl) at_335 hby
        obtain ⟨rfl, Nr31q, er31⟩ := hQr31
        have N21 := Fr.app N20 Nr31q
        refine own_go (U' := Tr31.setTop (mkF m 338 (lc42 i0 i1 i2 i3 i4 z1 3 z2 z3 z4 br4 br11 br17 w9 br20 b2 9) [(.int 1)])) (fun t k => oifN Xr30 hx hby at_325 (by decide) (oaload Xr30 hx hby at_328 rfl rfl (oiconst Xr30 hx hby at_330 (oaload Xr30 hx hby at_331 rfl rfl (obipush Xr30 hx hby at_333 (str31 _ k)))))) ?_
        obtain ⟨_, Tr32, Lr32, Xr32, hQr32, str32⟩ := ocallS Xr31 hx hZ zm28 hown (ww hw 229 rfl) (ww hw 230 rfl) (by decide) (ww hw 231 rfl) (ww hw 3 rfl) er31 (rm43_63 l hw b2 0 br20 8 bvr20 9 ci0 9 8 b3 13 vy0 107 107 Tr21.heap n0 Z_12 f56 f57 (own_lnV f58) f59 hc5 f60 f50 f51 f52 (own_lnV f55) f61 hc12 (own_elV (j := (8 : Int32)) f55 (by decide) (by decide) rfl) (own_elV (j := (8 : Int32)) f58 (by decide) (by decide) rfl) (by decide)) (st := [(.int 8), (.ref br20), (.int 0), (.ref b2)]) rfl 0 rfl (by decide) (pc := 348) (Ls := (lc42 i0 i1 i2 i3 i4 z1 3 z2 z3 z4 br4 br11 br17 w9 br20 b2 9)) hml rfl (lenOf pd_30 rfl) at_348 hby
        obtain ⟨rfl, Nr32q, er32⟩ := hQr32
        have N22 := Fr.app N21 Nr32q
        refine own_go (U' := Tr32.setTop (mkF m 351 (lc42 i0 i1 i2 i3 i4 z1 3 z2 z3 z4 br4 br11 br17 w9 br20 b2 9) [(.int 1)])) (fun t k => oifN Xr31 hx hby at_338 (by decide) (oaload Xr31 hx hby at_341 rfl rfl (oiconst Xr31 hx hby at_343 (oaload Xr31 hx hby at_344 rfl rfl (obipush Xr31 hx hby at_346 (str32 _ k)))))) ?_
        obtain ⟨_, Tr33, Lr33, Xr33, hQr33, str33⟩ := ocallS Xr32 hx hZ zm28 hown (ww hw 229 rfl) (ww hw 230 rfl) (by decide) (ww hw 231 rfl) (ww hw 3 rfl) er32 (rm43_64 l hw b2 0 br20 9 bvr20 9 ci0 9 Tr21.heap n0 Z_12 f56 f57 (own_lnV f58) f59 hc5 f60 (by decide)) (st := [(.int 9), (.ref br20), (.int 0), (.ref b2)]) rfl 0 rfl (by decide) (pc := 361) (Ls := (lc42 i0 i1 i2 i3 i4 z1 3 z2 z3 z4 br4 br11 br17 w9 br20 b2 9)) hml rfl (lenOf pd_30 rfl) at_361 hby
        obtain ⟨rfl, Nr33q, er33⟩ := hQr33
        have N23 := Fr.app N22 Nr33q
        refine own_go (U' := Tr33.setTop (mkF m 364 (lc42 i0 i1 i2 i3 i4 z1 3 z2 z3 z4 br4 br11 br17 w9 br20 b2 9) [(.int 1)])) (fun t k => oifN Xr32 hx hby at_351 (by decide) (oaload Xr32 hx hby at_354 rfl rfl (oiconst Xr32 hx hby at_356 (oaload Xr32 hx hby at_357 rfl rfl (obipush Xr32 hx hby at_359 (str33 _ k)))))) ?_
        obtain ⟨_, Tr34, Lr34, Xr34, hQr34, str34⟩ := ocallV Xr33 hx hZ zm17 zm17 hown (ww hw 232 rfl) (ww hw 82 rfl) (notFace_of_selects (args := #[]) (mvT hZ (ww hw 84 rfl))) (ww hw 84 rfl) (ww hw 83 rfl) (by decide) (ww hw 85 rfl) (ww hw 8 rfl) er33 f50 (rm16_65 l hw b2 9 ci0 b3 13 vy0 32 Tr21.heap n0 Z_12 f50 f59 hc5 f51 f52 (own_lnV f55) f61 hc12 (own_elV (j := (9 : Int32)) f55 (by decide) (by decide) rfl) (by decide)) (st := [(.int 9), (.ref b2)]) rfl 0 rfl (by decide) (pc := 378) (Ls := (lc44 i0 i1 i2 i3 i4 z1 3 z2 z3 z4 br4 br11 br17 w9 br20 b2 9 1)) hml rfl (lenOf pd_0 rfl) at_378 hby
        obtain ⟨rfl, Nr34q, er34⟩ := hQr34
        have N24 := Fr.app N23 Nr34q
        refine own_go (U' := Tr34.setTop (mkF m 383 (lc44 i0 i1 i2 i3 i4 z1 3 z2 z3 z4 br4 br11 br17 w9 br20 b2 9 1) [(.int 32), (.int 32)])) (fun t k => oifN Xr33 hx hby at_364 (by decide) (oiconst Xr33 hx hby at_367 (ogoto (pc := 368) Xr33 hx hby at_368 372 (by decide) (oistore Xr33 hx hby at_372 (lc44 i0 i1 i2 i3 i4 z1 3 z2 z3 z4 br4 br11 br17 w9 br20 b2 9 1) rfl (oaload Xr33 hx hby at_374 rfl rfl (oiload Xr33 hx hby at_376 rfl (str34 _ (obipush Xr34 hx hby at_381 k)))))))) ?_
        refine own_go (U' := Tr34.setTop (mkF m 402 (lc45 i0 i1 i2 i3 i4 z1 3 z2 z3 z4 br4 br11 br17 w9 br20 b2 9 1 1) [(.int 0), (.ref br11), (.int 10), (.ref b2)])) (fun t k => oicN Xr34 hx hby at_383 (by decide) (oiconst Xr34 hx hby at_386 (ogoto (pc := 387) Xr34 hx hby at_387 391 (by decide) (oistore Xr34 hx hby at_391 (lc45 i0 i1 i2 i3 i4 z1 3 z2 z3 z4 br4 br11 br17 w9 br20 b2 9 1 1) rfl (oaload Xr34 hx hby at_393 rfl rfl (oiload Xr34 hx hby at_395 rfl (oiconst Xr34 hx hby at_397 (oiadd Xr34 hx hby at_398 (oaload Xr34 hx hby at_399 rfl rfl (oiconst Xr34 hx hby at_401 k)))))))))) ?_
        have f62 : Exa Z Tr21.heap br11 zs6 := (f46.keep Kr21)
        have f63 : Fld Z Tr21.heap br11 zs6 "value" "[B" (.ref b1) := (f47.keep Kr21 nin0)
        have f64 : Arv Z Tr21.heap b1 k1 .byte (3 : Int32) [(.int z2), (.int z3), (.int z4)] (.int (0 : Int32)) := (f48.keep Kr21 nin0)
        have f65 : Fld Z Tr21.heap br11 zs6 "coder" "B" (.int 0) := (f49.keep Kr21 nin0)
        obtain ⟨_, Tr35, Lr35, Xr35, hQr35, str35⟩ := ocallS Xr34 hx hZ zm28 hown (ww hw 229 rfl) (ww hw 230 rfl) (by decide) (ww hw 231 rfl) (ww hw 3 rfl) er34 (rm43_66 l hw b2 10 br11 0 b1 3 ci0 3 10 b3 13 vy0 z2 z2 Tr21.heap n0 Z_12 f62 f63 (own_lnV f64) f59 hc5 f65 f50 f51 f52 (own_lnV f55) f61 hc12 (own_elV (j := (10 : Int32)) f55 (by decide) (by decide) rfl) hs2 hs9 hs4 (own_elV (j := (0 : Int32)) f64 (by decide) (by decide) rfl) hs2 hs9 hs4 rfl (by decide)) (st := [(.int 0), (.ref br11), (.int 10), (.ref b2)]) rfl 0 rfl (by decide) (pc := 402) (Ls := (lc45 i0 i1 i2 i3 i4 z1 3 z2 z3 z4 br4 br11 br17 w9 br20 b2 9 1 1)) hml rfl (lenOf pd_30 rfl) at_402 hby
        obtain ⟨rfl, Nr35q, er35⟩ := hQr35
        have N25 := Fr.app N24 Nr35q
        refine own_go (U' := Tr35.setTop (mkF m 405 (lc45 i0 i1 i2 i3 i4 z1 3 z2 z3 z4 br4 br11 br17 w9 br20 b2 9 1 1) [(.int 1)])) (fun t k => str35 _ k) ?_
        obtain ⟨_, Tr36, Lr36, Xr36, hQr36, str36⟩ := ocallS Xr35 hx hZ zm28 hown (ww hw 229 rfl) (ww hw 230 rfl) (by decide) (ww hw 231 rfl) (ww hw 3 rfl) er35 (rm43_66 l hw b2 10 br11 1 b1 3 ci0 3 11 b3 13 vy0 z3 z3 Tr21.heap n0 Z_12 f62 f63 (own_lnV f64) f59 hc5 f65 f50 f51 f52 (own_lnV f55) f61 hc12 (own_elV (j := (11 : Int32)) f55 (by decide) (by decide) rfl) hs33 hs39 hs35 (own_elV (j := (1 : Int32)) f64 (by decide) (by decide) rfl) hs33 hs39 hs35 rfl (by decide)) (st := [(.int 1), (.ref br11), (.int 10), (.ref b2)]) rfl 0 rfl (by decide) (pc := 417) (Ls := (lc45 i0 i1 i2 i3 i4 z1 3 z2 z3 z4 br4 br11 br17 w9 br20 b2 9 1 1)) hml rfl (lenOf pd_30 rfl) at_417 hby
        obtain ⟨rfl, Nr36q, er36⟩ := hQr36
        have N26 := Fr.app N25 Nr36q
        refine own_go (U' := Tr36.setTop (mkF m 420 (lc45 i0 i1 i2 i3 i4 z1 3 z2 z3 z4 br4 br11 br17 w9 br20 b2 9 1 1) [(.int 1)])) (fun t k => oifN Xr35 hx hby at_405 (by decide) (oaload Xr35 hx hby at_408 rfl rfl (oiload Xr35 hx hby at_410 rfl (oiconst Xr35 hx hby at_412 (oiadd Xr35 hx hby at_413 (oaload Xr35 hx hby at_414 rfl rfl (oiconst Xr35 hx hby at_416 (str36 _ k)))))))) ?_
        obtain ⟨_, Tr37, Lr37, Xr37, hQr37, str37⟩ := ocallS Xr36 hx hZ zm28 hown (ww hw 229 rfl) (ww hw 230 rfl) (by decide) (ww hw 231 rfl) (ww hw 3 rfl) er36 (rm43_66 l hw b2 10 br11 2 b1 3 ci0 3 12 b3 13 vy0 z4 z4 Tr21.heap n0 Z_12 f62 f63 (own_lnV f64) f59 hc5 f65 f50 f51 f52 (own_lnV f55) f61 hc12 (own_elV (j := (12 : Int32)) f55 (by decide) (by decide) rfl) hs50 hs56 hs52 (own_elV (j := (2 : Int32)) f64 (by decide) (by decide) rfl) hs50 hs56 hs52 rfl (by decide)) (st := [(.int 2), (.ref br11), (.int 10), (.ref b2)]) rfl 0 rfl (by decide) (pc := 432) (Ls := (lc45 i0 i1 i2 i3 i4 z1 3 z2 z3 z4 br4 br11 br17 w9 br20 b2 9 1 1)) hml rfl (lenOf pd_30 rfl) at_432 hby
        obtain ⟨rfl, Nr37q, er37⟩ := hQr37
        have N27 := Fr.app N26 Nr37q
        refine own_go (U' := Tr37.setTop (mkF m 435 (lc45 i0 i1 i2 i3 i4 z1 3 z2 z3 z4 br4 br11 br17 w9 br20 b2 9 1 1) [(.int 1)])) (fun t k => oifN Xr36 hx hby at_420 (by decide) (oaload Xr36 hx hby at_423 rfl rfl (oiload Xr36 hx hby at_425 rfl (oiconst Xr36 hx hby at_427 (oiadd Xr36 hx hby at_428 (oaload Xr36 hx hby at_429 rfl rfl (oiconst Xr36 hx hby at_431 (str37 _ k)))))))) ?_
        refine own_go (U' := Tr37.setTop (mkF m 447 (lc46 i0 i1 i2 i3 i4 z1 3 z2 z3 z4 br4 br11 br17 w9 br20 b2 9 1 1 1) [(.int 1)])) (fun t k => oifN Xr37 hx hby at_435 (by decide) (oiconst Xr37 hx hby at_438 (ogoto (pc := 439) Xr37 hx hby at_439 443 (by decide) (oistore Xr37 hx hby at_443 (lc46 i0 i1 i2 i3 i4 z1 3 z2 z3 z4 br4 br11 br17 w9 br20 b2 9 1 1 1) rfl (oiload Xr37 hx hby at_445 rfl k))))) ?_
        refine own_go (U' := Tr37.setTop (mkF m 452 (lc46 i0 i1 i2 i3 i4 z1 3 z2 z3 z4 br4 br11 br17 w9 br20 b2 9 1 1 1) [(.int 1)])) (fun t k => oifN Xr37 hx hby at_447 (by decide) (oiload Xr37 hx hby at_450 rfl k)) ?_
        refine own_go (U' := Tr37.setTop (mkF m 457 (lc46 i0 i1 i2 i3 i4 z1 3 z2 z3 z4 br4 br11 br17 w9 br20 b2 9 1 1 1) [(.int 1)])) (fun t k => oifN Xr37 hx hby at_452 (by decide) (oiload Xr37 hx hby at_455 rfl k)) ?_
        refine own_go (U' := Tr37.setTop (mkF m 465 (lc46 i0 i1 i2 i3 i4 z1 3 z2 z3 z4 br4 br11 br17 w9 br20 b2 9 1 1 1) [(.int 1)])) (fun t k => oifN Xr37 hx hby at_457 (by decide) (oiconst Xr37 hx hby at_460 (ogoto (pc := 461) Xr37 hx hby at_461 465 (by decide) k))) ?_
        obtain ⟨fs, hr, hrun, hended, hW, hsame⟩ := Xr37.leave (v := some (.int 1)) (fun h => by rw [Bd.returns] at h; cases h)
        have hE := hSr21.ended hW (by show _ ≤ Tr37.heap.size; rw [er37]; exact (Nat.le_refl _)) hsame
        refine own_out ⟨_, _, ?_, hrun, hended, _, _, rfl, ?_, ?_, ⟨_, rfl⟩, hE.1, hE.2.1, hE.2.2.mono (by decide) (by decide)⟩
        · exact retN Xr37 hx (t := .boolean) Bd.returns (by simp) (hb hby at_465) hr
        · exact ⟨rfl, N27⟩
        · show CHr Z consts_1 s.vm s.heap Tr37.vm Tr37.heap; rw [hh, er37]; exact C12.trans (CHv.at (s := s) Xr37 hZ (own_EW hw) C12.1)
      · have hc23 : ¬ ((i0 &&& (3 : Int32)) = (1 : Int32)) := hk11
        have hs24 : ¬ (z1 = (1 : Int32)) := by rw [hz1]; exact hc23
        refine own_go (U' := Tr18.setTop (mkF m 179 (lc29 i0 i1 i2 i3 i4 z1 3 z2 z3 z4 br4 br11 br17) [(.int 2), (.int z1)])) (fun t k => oicY (pc := 161) Xr18 hx hby at_161 176 (feq hs24).2 (by decide) (oiload Xr18 hx hby at_176 rfl (oiconst Xr18 hx hby at_178 k))) ?_
        by_cases hk12 : (i0 &&& (3 : Int32)) = (2 : Int32)
        · have f36 : Sta Z Tr18.heap zs35 "WRITE" zs39 (.ref w6) := (own_staK (Sta.ext Er17 (Sta.ext Er15 (Sta.ext Er13 (own_staK (Sta.ext Er11 (Sta.wr Wr10 (Sta.wr Wr8 (Sta.wr Wr6 (Sta.ext Er4 S14))))) Kr12 (allS (own_nsF f10) all0))))) Kr18 (allS (own_nsE Ar17) all0))
          obtain ⟨Tr19, Xr19, er19, str19⟩ := getS2 Xr18 hx hZ hown (host := "") (Or.inl (ww hw 236 rfl)) Via.refl rfl f36 (g := (mkF m 182 (lc29 i0 i1 i2 i3 i4 z1 3 z2 z3 z4 br4 br11 br17) [])) rfl (hb hby at_182)
          obtain ⟨br20, Tr20, hr20, kr20, bvr20, clr20, Xr20, er20, Er20, hSr20, hkr20, hZ, hown, fr20a, fr20b, fr20c, fr20d, ltr20, lvr20, CRr20, -, nsr20, str20⟩ := ldcCH (s := s) Xr19 hx hZ hown (ww hw 238 rfl) (own_wS hw) er19 hSr18 (Nat.le_refl _) (own_EW hw) (List.mem_of_getElem? (i := 8) rfl) C10.1 (vs := [(.int 119), (.int 114), (.int 105), (.int 116), (.int 101), (.int 32), (.int 108), (.int 111), (.int 99), (.int 107)]) (z := 10) ⟨by decide, by decide⟩ (by decide) (by decide) (g := (mkF m 187 (lc30 i0 i1 i2 i3 i4 z1 3 z2 z3 z4 br4 br11 br17 w6) [])) rfl (hb hby at_187) (n := 40) (by decide) (by decide) (by decide) (by decide)
          have C11 := C10.trans CRr20
          have f37 : Exa Z hr20 w6 zs35 := (Exa.ext Er20 ((Exa.ext Er17 (Exa.ext Er15 (Exa.ext Er13 ((Exa.ext Er11 (Exa.wr Wr10 (Exa.wr Wr8 (Exa.wr Wr6 (Exa.ext Er4 S15))))).keep Kr12)))).keep Kr18))
          have f38 : Sta Z hr20 zs6 zs7 "Z" (.int ci0) := (Sta.ext Er20 (own_staK f32 Kr18 (allS (own_nsE Ar17) all0)))
          have ne3 : w6 ≠ br4 := Nat.ne_of_lt (nlt (S16.lt) (Nat.le_of_eq gr4.symm))
          have ne4 : w6 ≠ br11 := Nat.ne_of_lt (nlt (nlt (nlt (nlt (nlt (S16.lt) Er4.1) (Keep.of_wr Wr6).1) (Keep.of_wr Wr8).1) (Keep.of_wr Wr10).1) (Nat.le_of_eq gr11.symm))
          have ne5 : w6 ≠ br17 := Nat.ne_of_lt (nlt (nlt (nlt (nlt (nlt (nlt (nlt (nlt (nlt (S16.lt) Er4.1) (Keep.of_wr Wr6).1) (Keep.of_wr Wr8).1) (Keep.of_wr Wr10).1) Er11.1) Kr12.1) Er13.1) Er15.1) (Nat.le_of_eq gr17.symm))
          have f39 : Fld Z hr20 w6 zs35 "noun" zs23 (.ref w7) := (Fld.ext Er20 ((Fld.ext Er17 (Fld.ext Er15 (Fld.ext Er13 ((Fld.ext Er11 (Fld.other Wr10 (Fld.other Wr8 (Fld.other Wr6 (Fld.ext Er4 S16) (Or.inl ne3)) (Or.inl ne3)) (Or.inl ne3))).keep Kr12 (ninS ne4 nin0))))).keep Kr18 (ninS ne5 nin0)))
          have f40 : Exa Z hr20 w7 zs6 := (Exa.ext Er20 ((Exa.ext Er17 (Exa.ext Er15 (Exa.ext Er13 ((Exa.ext Er11 (Exa.wr Wr10 (Exa.wr Wr8 (Exa.wr Wr6 (Exa.ext Er4 S17))))).keep Kr12)))).keep Kr18))
          have ne6 : w7 ≠ br4 := Nat.ne_of_lt (nlt (S18.lt) (Nat.le_of_eq gr4.symm))
          have ne7 : w7 ≠ br11 := Nat.ne_of_lt (nlt (nlt (nlt (nlt (nlt (S18.lt) Er4.1) (Keep.of_wr Wr6).1) (Keep.of_wr Wr8).1) (Keep.of_wr Wr10).1) (Nat.le_of_eq gr11.symm))
          have ne8 : w7 ≠ br17 := Nat.ne_of_lt (nlt (nlt (nlt (nlt (nlt (nlt (nlt (nlt (nlt (S18.lt) Er4.1) (Keep.of_wr Wr6).1) (Keep.of_wr Wr8).1) (Keep.of_wr Wr10).1) Er11.1) Kr12.1) Er13.1) Er15.1) (Nat.le_of_eq gr17.symm))
          have f41 : Fld Z hr20 w7 zs6 "value" "[B" (.ref w8) := (Fld.ext Er20 ((Fld.ext Er17 (Fld.ext Er15 (Fld.ext Er13 ((Fld.ext Er11 (Fld.other Wr10 (Fld.other Wr8 (Fld.other Wr6 (Fld.ext Er4 S18) (Or.inl ne6)) (Or.inl ne6)) (Or.inl ne6))).keep Kr12 (ninS ne7 nin0))))).keep Kr18 (ninS ne8 nin0)))
          have ne9 : w8 ≠ br4 := Nat.ne_of_lt (nlt (S34.lt) (Nat.le_of_eq gr4.symm))
          have ne10 : w8 ≠ br11 := Nat.ne_of_lt (nlt (nlt (nlt (nlt (nlt (S34.lt) Er4.1) (Keep.of_wr Wr6).1) (Keep.of_wr Wr8).1) (Keep.of_wr Wr10).1) (Nat.le_of_eq gr11.symm))
          have ne11 : w8 ≠ br17 := Nat.ne_of_lt (nlt (nlt (nlt (nlt (nlt (nlt (nlt (nlt (nlt (S34.lt) Er4.1) (Keep.of_wr Wr6).1) (Keep.of_wr Wr8).1) (Keep.of_wr Wr10).1) Er11.1) Kr12.1) Er13.1) Er15.1) (Nat.le_of_eq gr17.symm))
          have f42 : Arv Z hr20 w8 kl2 .byte (10 : Int32) [(.int 119), (.int 114), (.int 105), (.int 116), (.int 101), (.int 32), (.int 108), (.int 111), (.int 99), (.int 107)] (.int (0 : Int32)) := (((((((((((S34.ext Er4).other Wr6 ne9).other Wr8 ne9).other Wr10 ne9).ext Er11).keep Kr12 (ninS ne10 nin0)).ext Er13).ext Er15).ext Er17).keep Kr18 (ninS ne11 nin0)).ext Er20)
          have f43 : Fld Z hr20 w7 zs6 "coder" "B" (.int 0) := (Fld.ext Er20 ((Fld.ext Er17 (Fld.ext Er15 (Fld.ext Er13 ((Fld.ext Er11 (Fld.other Wr10 (Fld.other Wr8 (Fld.other Wr6 (Fld.ext Er4 S20) (Or.inl ne6)) (Or.inl ne6)) (Or.inl ne6))).keep Kr12 (ninS ne7 nin0))))).keep Kr18 (ninS ne8 nin0)))
          have f44 : Exa Z hr20 br17 zs21 := (Exa.ext Er20 (Ar17.keep Kr18))
          have f45 : Fld Z hr20 br17 zs21 "value" zs23 (.ref br11) := (Fld.ext Er20 f35)
          have f46 : Exa Z hr20 br11 zs6 := (Exa.ext Er20 (f29.keep Kr18))
          have ne12 : br11 ≠ br17 := Nat.ne_of_lt (nlt (nlt (nlt (nlt (f10.lt) Kr12.1) Er13.1) Er15.1) (Nat.le_of_eq gr17.symm))
          have f47 : Fld Z hr20 br11 zs6 "value" "[B" (.ref b1) := (Fld.ext Er20 (f30.keep Kr18 (ninS ne12 nin0)))
          have ne13 : b1 ≠ br17 := Nat.ne_of_lt (nlt (nlt (nlt (f16.lt) Er13.1) Er15.1) (Nat.le_of_eq gr17.symm))
          have f48 : Arv Z hr20 b1 k1 .byte (3 : Int32) [(.int z2), (.int z3), (.int z4)] (.int (0 : Int32)) := ((f31.keep Kr18 (ninS ne13 nin0)).ext Er20)
          have f49 : Fld Z hr20 br11 zs6 "coder" "B" (.int 0) := (Fld.ext Er20 (f33.keep Kr18 (ninS ne12 nin0)))
          have Z_10 : n0 ≤ Tr18.heap.size := Nat.le_trans Z_9 Kr18.1
          have Z_11 : n0 ≤ hr20.size := Nat.le_trans Z_10 Er20.1
          obtain ⟨_, Tr21, Lr21, Xr21, hQr21, hSr21, hZ, hown, CRr21, str21⟩ := ocallVH (s := s) Xr20 hx hZ zm27 zm27 hown (ww hw 114 rfl) (ww hw 115 rfl) (notFace_of_selects (args := #[]) (mvT hZ (ww hw 117 rfl))) (ww hw 117 rfl) (ww hw 116 rfl) (by decide) (ww hw 118 rfl) (ww hw 111 rfl) er20 f37 (rm22_61 l hw w6 br17 ci0 w7 w8 [(.int 119), (.int 114), (.int 105), (.int 116), (.int 101), (.int 32), (.int 108), (.int 111), (.int 99), (.int 107)] kl2 10 10 10 (-6) 11 (-5) 10 br11 b1 [(.int z2), (.int z3), (.int z4)] k1 3 3 14 (-2) 11 14 hr20 n0 Z_11 f38 hc5 f39 f40 f41 f42 f43 (Nat.le_of_ble_eq_true rfl) (Nat.le_of_ble_eq_true rfl) (Nat.le_of_ble_eq_true rfl) (Nat.le_of_ble_eq_true rfl) (Nat.le_of_ble_eq_true rfl) (Nat.le_of_ble_eq_true rfl) f44 f45 f46 f47 f48 f49 (Nat.le_of_ble_eq_true rfl) (Nat.le_of_ble_eq_true rfl) (Nat.le_of_ble_eq_true rfl) (Nat.le_of_ble_eq_true rfl) (Nat.le_of_ble_eq_true rfl) (Nat.le_of_ble_eq_true rfl) (Nat.le_of_ble_eq_true rfl) (by decide)) (st := [(.ref br17), (.ref w6)]) rfl 0 rfl (by decide) (pc := 207) (Ls := (lc31 i0 i1 i2 i3 i4 z1 3 z2 z3 z4 br4 br11 br17 w6 br20)) hml rfl (lenOf pd_29 rfl) at_207 hby hSr20 hkr20 (own_EW hw) C11.1 all0
          obtain ⟨b2, b3, k2, rfl, Nr21q, Kr21, sz2, sz3, ne14, f50, f51, f52, f53, f54⟩ := hQr21
          have C12 := C11.trans CRr21
          have f55 : Arv Z Tr21.heap b3 k2 .byte (14 : Int32) [(.int 119), (.int 114), (.int 105), (.int 116), (.int 101), (.int 32), (.int 108), (.int 111), (.int 99), (.int 107), (.int 32), (.int z2), (.int z3), (.int z4)] (.int (0 : Int32)) := f54
          have N11 := Fr.app N10 Nr21q
          have f56 : Exa Z Tr21.heap br20 zs6 := (fr20a.keep Kr21)
          have f57 : Fld Z Tr21.heap br20 zs6 "value" "[B" (.ref bvr20) := (fr20c.keep Kr21 nin0)
          have f58 : Arv Z Tr21.heap bvr20 clr20 .byte (10 : Int32) [(.int 119), (.int 114), (.int 105), (.int 116), (.int 101), (.int 32), (.int 108), (.int 111), (.int 99), (.int 107)] (.int (0 : Int32)) := (fr20d.keep Kr21 nin0)
          have f59 : Sta Z Tr21.heap zs6 zs7 "Z" (.int ci0) := (own_staK f38 Kr21 all0)
          have f60 : Fld Z Tr21.heap br20 zs6 "coder" "B" (.int 0) := (fr20b.keep Kr21 nin0)
          have Z_12 : n0 ≤ Tr21.heap.size := Nat.le_trans Z_11 Kr21.1
          obtain ⟨_, Tr22, Lr22, Xr22, hQr22, str22⟩ := ocallV Xr21 hx hZ zm12 zm12 hown (ww hw 228 rfl) (ww hw 72 rfl) (notFace_of_selects (args := #[]) (mvT hZ (ww hw 74 rfl))) (ww hw 74 rfl) (ww hw 73 rfl) (by decide) (ww hw 75 rfl) (ww hw 8 rfl) rfl f56 (rm14_24 l hw br20 bvr20 10 ci0 10 Tr21.heap n0 Z_12 f57 (own_lnV f58) f56 f59 hc5 f60 (by decide)) (st := [(.ref br20)]) rfl 0 rfl (by decide) (pc := 221) (Ls := (lc41 i0 i1 i2 i3 i4 z1 3 z2 z3 z4 br4 br11 br17 w6 br20 b2)) hml rfl (lenOf pd_12 rfl) at_221 hby
          obtain ⟨rfl, Nr22q, er22⟩ := hQr22
          have N12 := Fr.app N11 Nr22q
          obtain ⟨_, Tr23, Lr23, Xr23, hQr23, str23⟩ := ocallV Xr22 hx hZ zm12 zm12 hown (ww hw 228 rfl) (ww hw 72 rfl) (notFace_of_selects (args := #[]) (mvT hZ (ww hw 74 rfl))) (ww hw 74 rfl) (ww hw 73 rfl) (by decide) (ww hw 75 rfl) (ww hw 8 rfl) er22 f50 (rm14_24 l hw b2 b3 14 ci0 14 Tr21.heap n0 Z_12 f52 (own_lnV f55) f50 f59 hc5 f51 (by decide)) (st := [(.ref b2)]) rfl 0 rfl (by decide) (pc := 228) (Ls := (lc42 i0 i1 i2 i3 i4 z1 3 z2 z3 z4 br4 br11 br17 w6 br20 b2 10)) hml rfl (lenOf pd_12 rfl) at_228 hby
          obtain ⟨rfl, Nr23q, er23⟩ := hQr23
          have N13 := Fr.app N12 Nr23q
          have hc25 : (i0 &&& (3 : Int32)) = (2 : Int32) := hk12
          have hs26 : z1 = (2 : Int32) := by rw [hz1]; exact hc25
          refine own_go (U' := Tr23.setTop (mkF m 238 (lc42 i0 i1 i2 i3 i4 z1 3 z2 z3 z4 br4 br11 br17 w6 br20 b2 10) [(.int 14), (.int 14)])) (fun t k => oicN Xr18 hx hby at_179 (teq hs26).2 (str19 _ (oastore Xr19 hx hby at_185 (lc30 i0 i1 i2 i3 i4 z1 3 z2 z3 z4 br4 br11 br17 w6) rfl rfl (str20 _ (oastore Xr20 hx hby at_189 (lc31 i0 i1 i2 i3 i4 z1 3 z2 z3 z4 br4 br11 br17 w6 br20) rfl rfl (ogoto (pc := 191) Xr20 hx hby at_191 203 (by decide) (oaload Xr20 hx hby at_203 rfl rfl (oaload Xr20 hx hby at_205 rfl rfl (str21 _ (oastore Xr21 hx hby at_210 (lc41 i0 i1 i2 i3 i4 z1 3 z2 z3 z4 br4 br11 br17 w6 br20 b2) rfl rfl (oaload Xr21 hx hby at_212 rfl rfl (onnY (pc := 214) Xr21 hx hby at_214 219 (by decide) (oaload Xr21 hx hby at_219 rfl rfl (str22 _ (oistore Xr22 hx hby at_224 (lc42 i0 i1 i2 i3 i4 z1 3 z2 z3 z4 br4 br11 br17 w6 br20 b2 10) rfl (oaload Xr22 hx hby at_226 rfl rfl (str23 _ (oiload Xr23 hx hby at_231 rfl (oiconst Xr23 hx hby at_233 (oiadd Xr23 hx hby at_234 (oiload Xr23 hx hby at_235 rfl (oiadd Xr23 hx hby at_237 k)))))))))))))))))))))) ?_
          have f61 : Sta Z Tr21.heap zs16 zs19 zs20 vy0 := (own_staK (Sta.ext Er20 (own_staK f34 Kr18 (allS (own_nsF f28) all0))) Kr21 all0)
          obtain ⟨_, Tr24, Lr24, Xr24, hQr24, str24⟩ := ocallS Xr23 hx hZ zm28 hown (ww hw 229 rfl) (ww hw 230 rfl) (by decide) (ww hw 231 rfl) (ww hw 3 rfl) er23 (rm43_63 l hw b2 0 br20 0 bvr20 10 ci0 10 0 b3 14 vy0 119 119 Tr21.heap n0 Z_12 f56 f57 (own_lnV f58) f59 hc5 f60 f50 f51 f52 (own_lnV f55) f61 hc12 (own_elV (j := (0 : Int32)) f55 (by decide) (by decide) rfl) (own_elV (j := (0 : Int32)) f58 (by decide) (by decide) rfl) (by decide)) (st := [(.int 0), (.ref br20), (.int 0), (.ref b2)]) rfl 0 rfl (by decide) (pc := 249) (Ls := (lc42 i0 i1 i2 i3 i4 z1 3 z2 z3 z4 br4 br11 br17 w6 br20 b2 10)) hml rfl (lenOf pd_30 rfl) at_249 hby
          obtain ⟨rfl, Nr24q, er24⟩ := hQr24
          have N14 := Fr.app N13 Nr24q
          refine own_go (U' := Tr24.setTop (mkF m 252 (lc42 i0 i1 i2 i3 i4 z1 3 z2 z3 z4 br4 br11 br17 w6 br20 b2 10) [(.int 1)])) (fun t k => oicY (pc := 238) Xr23 hx hby at_238 243 (by decide) (by decide) (oaload Xr23 hx hby at_243 rfl rfl (oiconst Xr23 hx hby at_245 (oaload Xr23 hx hby at_246 rfl rfl (oiconst Xr23 hx hby at_248 (str24 _ k)))))) ?_
          obtain ⟨_, Tr25, Lr25, Xr25, hQr25, str25⟩ := ocallS Xr24 hx hZ zm28 hown (ww hw 229 rfl) (ww hw 230 rfl) (by decide) (ww hw 231 rfl) (ww hw 3 rfl) er24 (rm43_63 l hw b2 0 br20 1 bvr20 10 ci0 10 1 b3 14 vy0 114 114 Tr21.heap n0 Z_12 f56 f57 (own_lnV f58) f59 hc5 f60 f50 f51 f52 (own_lnV f55) f61 hc12 (own_elV (j := (1 : Int32)) f55 (by decide) (by decide) rfl) (own_elV (j := (1 : Int32)) f58 (by decide) (by decide) rfl) (by decide)) (st := [(.int 1), (.ref br20), (.int 0), (.ref b2)]) rfl 0 rfl (by decide) (pc := 261) (Ls := (lc42 i0 i1 i2 i3 i4 z1 3 z2 z3 z4 br4 br11 br17 w6 br20 b2 10)) hml rfl (lenOf pd_30 rfl) at_261 hby
          obtain ⟨rfl, Nr25q, er25⟩ := hQr25
          have N15 := Fr.app N14 Nr25q
          refine own_go (U' := Tr25.setTop (mkF m 264 (lc42 i0 i1 i2 i3 i4 z1 3 z2 z3 z4 br4 br11 br17 w6 br20 b2 10) [(.int 1)])) (fun t k => oifN Xr24 hx hby at_252 (by decide) (oaload Xr24 hx hby at_255 rfl rfl (oiconst Xr24 hx hby at_257 (oaload Xr24 hx hby at_258 rfl rfl (oiconst Xr24 hx hby at_260 (str25 _ k)))))) ?_
          obtain ⟨_, Tr26, Lr26, Xr26, hQr26, str26⟩ := ocallS Xr25 hx hZ zm28 hown (ww hw 229 rfl) (ww hw 230 rfl) (by decide) (ww hw 231 rfl) (ww hw 3 rfl) er25 (rm43_63 l hw b2 0 br20 2 bvr20 10 ci0 10 2 b3 14 vy0 105 105 Tr21.heap n0 Z_12 f56 f57 (own_lnV f58) f59 hc5 f60 f50 f51 f52 (own_lnV f55) f61 hc12 (own_elV (j := (2 : Int32)) f55 (by decide) (by decide) rfl) (own_elV (j := (2 : Int32)) f58 (by decide) (by decide) rfl) (by decide)) (st := [(.int 2), (.ref br20), (.int 0), (.ref b2)]) rfl 0 rfl (by decide) (pc := 273) (Ls := (lc42 i0 i1 i2 i3 i4 z1 3 z2 z3 z4 br4 br11 br17 w6 br20 b2 10)) hml rfl (lenOf pd_30 rfl) at_273 hby
          obtain ⟨rfl, Nr26q, er26⟩ := hQr26
          have N16 := Fr.app N15 Nr26q
          refine own_go (U' := Tr26.setTop (mkF m 276 (lc42 i0 i1 i2 i3 i4 z1 3 z2 z3 z4 br4 br11 br17 w6 br20 b2 10) [(.int 1)])) (fun t k => oifN Xr25 hx hby at_264 (by decide) (oaload Xr25 hx hby at_267 rfl rfl (oiconst Xr25 hx hby at_269 (oaload Xr25 hx hby at_270 rfl rfl (oiconst Xr25 hx hby at_272 (str26 _ k)))))) ?_
          obtain ⟨_, Tr27, Lr27, Xr27, hQr27, str27⟩ := ocallS Xr26 hx hZ zm28 hown (ww hw 229 rfl) (ww hw 230 rfl) (by decide) (ww hw 231 rfl) (ww hw 3 rfl) er26 (rm43_63 l hw b2 0 br20 3 bvr20 10 ci0 10 3 b3 14 vy0 116 116 Tr21.heap n0 Z_12 f56 f57 (own_lnV f58) f59 hc5 f60 f50 f51 f52 (own_lnV f55) f61 hc12 (own_elV (j := (3 : Int32)) f55 (by decide) (by decide) rfl) (own_elV (j := (3 : Int32)) f58 (by decide) (by decide) rfl) (by decide)) (st := [(.int 3), (.ref br20), (.int 0), (.ref b2)]) rfl 0 rfl (by decide) (pc := 285) (Ls := (lc42 i0 i1 i2 i3 i4 z1 3 z2 z3 z4 br4 br11 br17 w6 br20 b2 10)) hml rfl (lenOf pd_30 rfl) at_285 hby
          obtain ⟨rfl, Nr27q, er27⟩ := hQr27
          have N17 := Fr.app N16 Nr27q
          refine own_go (U' := Tr27.setTop (mkF m 288 (lc42 i0 i1 i2 i3 i4 z1 3 z2 z3 z4 br4 br11 br17 w6 br20 b2 10) [(.int 1)])) (fun t k => oifN Xr26 hx hby at_276 (by decide) (oaload Xr26 hx hby at_279 rfl rfl (oiconst Xr26 hx hby at_281 (oaload Xr26 hx hby at_282 rfl rfl (oiconst Xr26 hx hby at_284 (str27 _ k)))))) ?_
          obtain ⟨_, Tr28, Lr28, Xr28, hQr28, str28⟩ := ocallS Xr27 hx hZ zm28 hown (ww hw 229 rfl) (ww hw 230 rfl) (by decide) (ww hw 231 rfl) (ww hw 3 rfl) er27 (rm43_63 l hw b2 0 br20 4 bvr20 10 ci0 10 4 b3 14 vy0 101 101 Tr21.heap n0 Z_12 f56 f57 (own_lnV f58) f59 hc5 f60 f50 f51 f52 (own_lnV f55) f61 hc12 (own_elV (j := (4 : Int32)) f55 (by decide) (by decide) rfl) (own_elV (j := (4 : Int32)) f58 (by decide) (by decide) rfl) (by decide)) (st := [(.int 4), (.ref br20), (.int 0), (.ref b2)]) rfl 0 rfl (by decide) (pc := 297) (Ls := (lc42 i0 i1 i2 i3 i4 z1 3 z2 z3 z4 br4 br11 br17 w6 br20 b2 10)) hml rfl (lenOf pd_30 rfl) at_297 hby
          obtain ⟨rfl, Nr28q, er28⟩ := hQr28
          have N18 := Fr.app N17 Nr28q
          refine own_go (U' := Tr28.setTop (mkF m 300 (lc42 i0 i1 i2 i3 i4 z1 3 z2 z3 z4 br4 br11 br17 w6 br20 b2 10) [(.int 1)])) (fun t k => oifN Xr27 hx hby at_288 (by decide) (oaload Xr27 hx hby at_291 rfl rfl (oiconst Xr27 hx hby at_293 (oaload Xr27 hx hby at_294 rfl rfl (oiconst Xr27 hx hby at_296 (str28 _ k)))))) ?_
          obtain ⟨_, Tr29, Lr29, Xr29, hQr29, str29⟩ := ocallS Xr28 hx hZ zm28 hown (ww hw 229 rfl) (ww hw 230 rfl) (by decide) (ww hw 231 rfl) (ww hw 3 rfl) er28 (rm43_63 l hw b2 0 br20 5 bvr20 10 ci0 10 5 b3 14 vy0 32 32 Tr21.heap n0 Z_12 f56 f57 (own_lnV f58) f59 hc5 f60 f50 f51 f52 (own_lnV f55) f61 hc12 (own_elV (j := (5 : Int32)) f55 (by decide) (by decide) rfl) (own_elV (j := (5 : Int32)) f58 (by decide) (by decide) rfl) (by decide)) (st := [(.int 5), (.ref br20), (.int 0), (.ref b2)]) rfl 0 rfl (by decide) (pc := 309) (Ls := (lc42 i0 i1 i2 i3 i4 z1 3 z2 z3 z4 br4 br11 br17 w6 br20 b2 10)) hml rfl (lenOf pd_30 rfl) at_309 hby
          obtain ⟨rfl, Nr29q, er29⟩ := hQr29
          have N19 := Fr.app N18 Nr29q
          refine own_go (U' := Tr29.setTop (mkF m 312 (lc42 i0 i1 i2 i3 i4 z1 3 z2 z3 z4 br4 br11 br17 w6 br20 b2 10) [(.int 1)])) (fun t k => oifN Xr28 hx hby at_300 (by decide) (oaload Xr28 hx hby at_303 rfl rfl (oiconst Xr28 hx hby at_305 (oaload Xr28 hx hby at_306 rfl rfl (oiconst Xr28 hx hby at_308 (str29 _ k)))))) ?_
          obtain ⟨_, Tr30, Lr30, Xr30, hQr30, str30⟩ := ocallS Xr29 hx hZ zm28 hown (ww hw 229 rfl) (ww hw 230 rfl) (by decide) (ww hw 231 rfl) (ww hw 3 rfl) er29 (rm43_63 l hw b2 0 br20 6 bvr20 10 ci0 10 6 b3 14 vy0 108 108 Tr21.heap n0 Z_12 f56 f57 (own_lnV f58) f59 hc5 f60 f50 f51 f52 (own_lnV f55) f61 hc12 (own_elV (j := (6 : Int32)) f55 (by decide) (by decide) rfl) (own_elV (j := (6 : Int32)) f58 (by decide) (by decide) rfl) (by decide)) (st := [(.int 6), (.ref br20), (.int 0), (.ref b2)]) rfl 0 rfl (by decide) (pc := 322) (Ls := (lc42 i0 i1 i2 i3 i4 z1 3 z2 z3 z4 br4 br11 br17 w6 br20 b2 10)) hml rfl (lenOf pd_30 rfl) at_322 hby
          obtain ⟨rfl, Nr30q, er30⟩ := hQr30
          have N20 := Fr.app N19 Nr30q
          refine own_go (U' := Tr30.setTop (mkF m 325 (lc42 i0 i1 i2 i3 i4 z1 3 z2 z3 z4 br4 br11 br17 w6 br20 b2 10) [(.int 1)])) (fun t k => oifN Xr29 hx hby at_312 (by decide) (oaload Xr29 hx hby at_315 rfl rfl (oiconst Xr29 hx hby at_317 (oaload Xr29 hx hby at_318 rfl rfl (obipush Xr29 hx hby at_320 (str30 _ k)))))) ?_
          obtain ⟨_, Tr31, Lr31, Xr31, hQr31, str31⟩ := ocallS Xr30 hx hZ zm28 hown (ww hw 229 rfl) (ww hw 230 rfl) (by decide) (ww hw 231 rfl) (ww hw 3 rfl) er30 (rm43_63 l hw b2 0 br20 7 bvr20 10 ci0 10 7 b3 14 vy0 111 111 Tr21.heap n0 Z_12 f56 f57 (own_lnV f58) f59 hc5 f60 f50 f51 f52 (own_lnV f55) f61 hc12 (own_elV (j := (7 : Int32)) f55 (by decide) (by decide) rfl) (own_elV (j := (7 : Int32)) f58 (by decide) (by decide) rfl) (by decide)) (st := [(.int 7), (.ref br20), (.int 0), (.ref b2)]) rfl 0 rfl (by decide) (pc := 335) (Ls := (lc42 i0 i1 i2 i3 i4 z1 3 z2 z3 z4 br4 br11 br17 w6 br20 b2 10)) hml rfl (lenOf pd_30 rfl) at_335 hby
          obtain ⟨rfl, Nr31q, er31⟩ := hQr31
          have N21 := Fr.app N20 Nr31q
          refine own_go (U' := Tr31.setTop (mkF m 338 (lc42 i0 i1 i2 i3 i4 z1 3 z2 z3 z4 br4 br11 br17 w6 br20 b2 10) [(.int 1)])) (fun t k => oifN Xr30 hx hby at_325 (by decide) (oaload Xr30 hx hby at_328 rfl rfl (oiconst Xr30 hx hby at_330 (oaload Xr30 hx hby at_331 rfl rfl (obipush Xr30 hx hby at_333 (str31 _ k)))))) ?_
          obtain ⟨_, Tr32, Lr32, Xr32, hQr32, str32⟩ := ocallS Xr31 hx hZ zm28 hown (ww hw 229 rfl) (ww hw 230 rfl) (by decide) (ww hw 231 rfl) (ww hw 3 rfl) er31 (rm43_63 l hw b2 0 br20 8 bvr20 10 ci0 10 8 b3 14 vy0 99 99 Tr21.heap n0 Z_12 f56 f57 (own_lnV f58) f59 hc5 f60 f50 f51 f52 (own_lnV f55) f61 hc12 (own_elV (j := (8 : Int32)) f55 (by decide) (by decide) rfl) (own_elV (j := (8 : Int32)) f58 (by decide) (by decide) rfl) (by decide)) (st := [(.int 8), (.ref br20), (.int 0), (.ref b2)]) rfl 0 rfl (by decide) (pc := 348) (Ls := (lc42 i0 i1 i2 i3 i4 z1 3 z2 z3 z4 br4 br11 br17 w6 br20 b2 10)) hml rfl (lenOf pd_30 rfl) at_348 hby
          obtain ⟨rfl, Nr32q, er32⟩ := hQr32
          have N22 := Fr.app N21 Nr32q
          refine own_go (U' := Tr32.setTop (mkF m 351 (lc42 i0 i1 i2 i3 i4 z1 3 z2 z3 z4 br4 br11 br17 w6 br20 b2 10) [(.int 1)])) (fun t k => oifN Xr31 hx hby at_338 (by decide) (oaload Xr31 hx hby at_341 rfl rfl (oiconst Xr31 hx hby at_343 (oaload Xr31 hx hby at_344 rfl rfl (obipush Xr31 hx hby at_346 (str32 _ k)))))) ?_
          obtain ⟨_, Tr33, Lr33, Xr33, hQr33, str33⟩ := ocallS Xr32 hx hZ zm28 hown (ww hw 229 rfl) (ww hw 230 rfl) (by decide) (ww hw 231 rfl) (ww hw 3 rfl) er32 (rm43_63 l hw b2 0 br20 9 bvr20 10 ci0 10 9 b3 14 vy0 107 107 Tr21.heap n0 Z_12 f56 f57 (own_lnV f58) f59 hc5 f60 f50 f51 f52 (own_lnV f55) f61 hc12 (own_elV (j := (9 : Int32)) f55 (by decide) (by decide) rfl) (own_elV (j := (9 : Int32)) f58 (by decide) (by decide) rfl) (by decide)) (st := [(.int 9), (.ref br20), (.int 0), (.ref b2)]) rfl 0 rfl (by decide) (pc := 361) (Ls := (lc42 i0 i1 i2 i3 i4 z1 3 z2 z3 z4 br4 br11 br17 w6 br20 b2 10)) hml rfl (lenOf pd_30 rfl) at_361 hby
          obtain ⟨rfl, Nr33q, er33⟩ := hQr33
          have N23 := Fr.app N22 Nr33q
          refine own_go (U' := Tr33.setTop (mkF m 364 (lc42 i0 i1 i2 i3 i4 z1 3 z2 z3 z4 br4 br11 br17 w6 br20 b2 10) [(.int 1)])) (fun t k => oifN Xr32 hx hby at_351 (by decide) (oaload Xr32 hx hby at_354 rfl rfl (oiconst Xr32 hx hby at_356 (oaload Xr32 hx hby at_357 rfl rfl (obipush Xr32 hx hby at_359 (str33 _ k)))))) ?_
          obtain ⟨_, Tr34, Lr34, Xr34, hQr34, str34⟩ := ocallV Xr33 hx hZ zm17 zm17 hown (ww hw 232 rfl) (ww hw 82 rfl) (notFace_of_selects (args := #[]) (mvT hZ (ww hw 84 rfl))) (ww hw 84 rfl) (ww hw 83 rfl) (by decide) (ww hw 85 rfl) (ww hw 8 rfl) er33 f50 (rm16_65 l hw b2 10 ci0 b3 14 vy0 32 Tr21.heap n0 Z_12 f50 f59 hc5 f51 f52 (own_lnV f55) f61 hc12 (own_elV (j := (10 : Int32)) f55 (by decide) (by decide) rfl) (by decide)) (st := [(.int 10), (.ref b2)]) rfl 0 rfl (by decide) (pc := 378) (Ls := (lc44 i0 i1 i2 i3 i4 z1 3 z2 z3 z4 br4 br11 br17 w6 br20 b2 10 1)) hml rfl (lenOf pd_0 rfl) at_378 hby
          obtain ⟨rfl, Nr34q, er34⟩ := hQr34
          have N24 := Fr.app N23 Nr34q
          refine own_go (U' := Tr34.setTop (mkF m 383 (lc44 i0 i1 i2 i3 i4 z1 3 z2 z3 z4 br4 br11 br17 w6 br20 b2 10 1) [(.int 32), (.int 32)])) (fun t k => oifN Xr33 hx hby at_364 (by decide) (oiconst Xr33 hx hby at_367 (ogoto (pc := 368) Xr33 hx hby at_368 372 (by decide) (oistore Xr33 hx hby at_372 (lc44 i0 i1 i2 i3 i4 z1 3 z2 z3 z4 br4 br11 br17 w6 br20 b2 10 1) rfl (oaload Xr33 hx hby at_374 rfl rfl (oiload Xr33 hx hby at_376 rfl (str34 _ (obipush Xr34 hx hby at_381 k)))))))) ?_
          refine own_go (U' := Tr34.setTop (mkF m 402 (lc45 i0 i1 i2 i3 i4 z1 3 z2 z3 z4 br4 br11 br17 w6 br20 b2 10 1 1) [(.int 0), (.ref br11), (.int 11), (.ref b2)])) (fun t k => oicN Xr34 hx hby at_383 (by decide) (oiconst Xr34 hx hby at_386 (ogoto (pc := 387) Xr34 hx hby at_387 391 (by decide) (oistore Xr34 hx hby at_391 (lc45 i0 i1 i2 i3 i4 z1 3 z2 z3 z4 br4 br11 br17 w6 br20 b2 10 1 1) rfl (oaload Xr34 hx hby at_393 rfl rfl (oiload Xr34 hx hby at_395 rfl (oiconst Xr34 hx hby at_397 (oiadd Xr34 hx hby at_398 (oaload Xr34 hx hby at_399 rfl rfl (oiconst Xr34 hx hby at_401 k)))))))))) ?_
          have f62 : Exa Z Tr21.heap br11 zs6 := (f46.keep Kr21)
          have f63 : Fld Z Tr21.heap br11 zs6 "value" "[B" (.ref b1) := (f47.keep Kr21 nin0)
          have f64 : Arv Z Tr21.heap b1 k1 .byte (3 : Int32) [(.int z2), (.int z3), (.int z4)] (.int (0 : Int32)) := (f48.keep Kr21 nin0)
          have f65 : Fld Z Tr21.heap br11 zs6 "coder" "B" (.int 0) := (f49.keep Kr21 nin0)
          obtain ⟨_, Tr35, Lr35, Xr35, hQr35, str35⟩ := ocallS Xr34 hx hZ zm28 hown (ww hw 229 rfl) (ww hw 230 rfl) (by decide) (ww hw 231 rfl) (ww hw 3 rfl) er34 (rm43_66 l hw b2 11 br11 0 b1 3 ci0 3 11 b3 14 vy0 z2 z2 Tr21.heap n0 Z_12 f62 f63 (own_lnV f64) f59 hc5 f65 f50 f51 f52 (own_lnV f55) f61 hc12 (own_elV (j := (11 : Int32)) f55 (by decide) (by decide) rfl) hs2 hs9 hs4 (own_elV (j := (0 : Int32)) f64 (by decide) (by decide) rfl) hs2 hs9 hs4 rfl (by decide)) (st := [(.int 0), (.ref br11), (.int 11), (.ref b2)]) rfl 0 rfl (by decide) (pc := 402) (Ls := (lc45 i0 i1 i2 i3 i4 z1 3 z2 z3 z4 br4 br11 br17 w6 br20 b2 10 1 1)) hml rfl (lenOf pd_30 rfl) at_402 hby
          obtain ⟨rfl, Nr35q, er35⟩ := hQr35
          have N25 := Fr.app N24 Nr35q
          refine own_go (U' := Tr35.setTop (mkF m 405 (lc45 i0 i1 i2 i3 i4 z1 3 z2 z3 z4 br4 br11 br17 w6 br20 b2 10 1 1) [(.int 1)])) (fun t k => str35 _ k) ?_
          obtain ⟨_, Tr36, Lr36, Xr36, hQr36, str36⟩ := ocallS Xr35 hx hZ zm28 hown (ww hw 229 rfl) (ww hw 230 rfl) (by decide) (ww hw 231 rfl) (ww hw 3 rfl) er35 (rm43_66 l hw b2 11 br11 1 b1 3 ci0 3 12 b3 14 vy0 z3 z3 Tr21.heap n0 Z_12 f62 f63 (own_lnV f64) f59 hc5 f65 f50 f51 f52 (own_lnV f55) f61 hc12 (own_elV (j := (12 : Int32)) f55 (by decide) (by decide) rfl) hs33 hs39 hs35 (own_elV (j := (1 : Int32)) f64 (by decide) (by decide) rfl) hs33 hs39 hs35 rfl (by decide)) (st := [(.int 1), (.ref br11), (.int 11), (.ref b2)]) rfl 0 rfl (by decide) (pc := 417) (Ls := (lc45 i0 i1 i2 i3 i4 z1 3 z2 z3 z4 br4 br11 br17 w6 br20 b2 10 1 1)) hml rfl (lenOf pd_30 rfl) at_417 hby
          obtain ⟨rfl, Nr36q, er36⟩ := hQr36
          have N26 := Fr.app N25 Nr36q
          refine own_go (U' := Tr36.setTop (mkF m 420 (lc45 i0 i1 i2 i3 i4 z1 3 z2 z3 z4 br4 br11 br17 w6 br20 b2 10 1 1) [(.int 1)])) (fun t k => oifN Xr35 hx hby at_405 (by decide) (oaload Xr35 hx hby at_408 rfl rfl (oiload Xr35 hx hby at_410 rfl (oiconst Xr35 hx hby at_412 (oiadd Xr35 hx hby at_413 (oaload Xr35 hx hby at_414 rfl rfl (oiconst Xr35 hx hby at_416 (str36 _ k)))))))) ?_
          obtain ⟨_, Tr37, Lr37, Xr37, hQr37, str37⟩ := ocallS Xr36 hx hZ zm28 hown (ww hw 229 rfl) (ww hw 230 rfl) (by decide) (ww hw 231 rfl) (ww hw 3 rfl) er36 (rm43_66 l hw b2 11 br11 2 b1 3 ci0 3 13 b3 14 vy0 z4 z4 Tr21.heap n0 Z_12 f62 f63 (own_lnV f64) f59 hc5 f65 f50 f51 f52 (own_lnV f55) f61 hc12 (own_elV (j := (13 : Int32)) f55 (by decide) (by decide) rfl) hs50 hs56 hs52 (own_elV (j := (2 : Int32)) f64 (by decide) (by decide) rfl) hs50 hs56 hs52 rfl (by decide)) (st := [(.int 2), (.ref br11), (.int 11), (.ref b2)]) rfl 0 rfl (by decide) (pc := 432) (Ls := (lc45 i0 i1 i2 i3 i4 z1 3 z2 z3 z4 br4 br11 br17 w6 br20 b2 10 1 1)) hml rfl (lenOf pd_30 rfl) at_432 hby
          obtain ⟨rfl, Nr37q, er37⟩ := hQr37
          have N27 := Fr.app N26 Nr37q
          refine own_go (U' := Tr37.setTop (mkF m 435 (lc45 i0 i1 i2 i3 i4 z1 3 z2 z3 z4 br4 br11 br17 w6 br20 b2 10 1 1) [(.int 1)])) (fun t k => oifN Xr36 hx hby at_420 (by decide) (oaload Xr36 hx hby at_423 rfl rfl (oiload Xr36 hx hby at_425 rfl (oiconst Xr36 hx hby at_427 (oiadd Xr36 hx hby at_428 (oaload Xr36 hx hby at_429 rfl rfl (oiconst Xr36 hx hby at_431 (str37 _ k)))))))) ?_
          refine own_go (U' := Tr37.setTop (mkF m 447 (lc46 i0 i1 i2 i3 i4 z1 3 z2 z3 z4 br4 br11 br17 w6 br20 b2 10 1 1 1) [(.int 1)])) (fun t k => oifN Xr37 hx hby at_435 (by decide) (oiconst Xr37 hx hby at_438 (ogoto (pc := 439) Xr37 hx hby at_439 443 (by decide) (oistore Xr37 hx hby at_443 (lc46 i0 i1 i2 i3 i4 z1 3 z2 z3 z4 br4 br11 br17 w6 br20 b2 10 1 1 1) rfl (oiload Xr37 hx hby at_445 rfl k))))) ?_
          refine own_go (U' := Tr37.setTop (mkF m 452 (lc46 i0 i1 i2 i3 i4 z1 3 z2 z3 z4 br4 br11 br17 w6 br20 b2 10 1 1 1) [(.int 1)])) (fun t k => oifN Xr37 hx hby at_447 (by decide) (oiload Xr37 hx hby at_450 rfl k)) ?_
          refine own_go (U' := Tr37.setTop (mkF m 457 (lc46 i0 i1 i2 i3 i4 z1 3 z2 z3 z4 br4 br11 br17 w6 br20 b2 10 1 1 1) [(.int 1)])) (fun t k => oifN Xr37 hx hby at_452 (by decide) (oiload Xr37 hx hby at_455 rfl k)) ?_
          refine own_go (U' := Tr37.setTop (mkF m 465 (lc46 i0 i1 i2 i3 i4 z1 3 z2 z3 z4 br4 br11 br17 w6 br20 b2 10 1 1 1) [(.int 1)])) (fun t k => oifN Xr37 hx hby at_457 (by decide) (oiconst Xr37 hx hby at_460 (ogoto (pc := 461) Xr37 hx hby at_461 465 (by decide) k))) ?_
          obtain ⟨fs, hr, hrun, hended, hW, hsame⟩ := Xr37.leave (v := some (.int 1)) (fun h => by rw [Bd.returns] at h; cases h)
          have hE := hSr21.ended hW (by show _ ≤ Tr37.heap.size; rw [er37]; exact (Nat.le_refl _)) hsame
          refine own_out ⟨_, _, ?_, hrun, hended, _, _, rfl, ?_, ?_, ⟨_, rfl⟩, hE.1, hE.2.1, hE.2.2.mono (by decide) (by decide)⟩
          · exact retN Xr37 hx (t := .boolean) Bd.returns (by simp) (hb hby at_465) hr
          · exact ⟨rfl, N27⟩
          · show CHr Z consts_1 s.vm s.heap Tr37.vm Tr37.heap; rw [hh, er37]; exact C12.trans (CHv.at (s := s) Xr37 hZ (own_EW hw) C12.1)
        · have f36 : Sta Z Tr18.heap zs35 zs40 zs39 (.ref w3) := (own_staK (Sta.ext Er17 (Sta.ext Er15 (Sta.ext Er13 (own_staK (Sta.ext Er11 (Sta.wr Wr10 (Sta.wr Wr8 (Sta.wr Wr6 (Sta.ext Er4 S7))))) Kr12 (allS (own_nsF f10) all0))))) Kr18 (allS (own_nsE Ar17) all0))
          obtain ⟨Tr19, Xr19, er19, str19⟩ := getS2 Xr18 hx hZ hown (host := "") (Or.inl (ww hw 233 rfl)) Via.refl rfl f36 (g := (mkF m 194 (lc29 i0 i1 i2 i3 i4 z1 3 z2 z3 z4 br4 br11 br17) [])) rfl (hb hby at_194)
          obtain ⟨br20, Tr20, hr20, kr20, bvr20, clr20, Xr20, er20, Er20, hSr20, hkr20, hZ, hown, fr20a, fr20b, fr20c, fr20d, ltr20, lvr20, CRr20, -, nsr20, str20⟩ := ldcCH (s := s) Xr19 hx hZ hown (ww hw 235 rfl) (own_wS hw) er19 hSr18 (Nat.le_refl _) (own_EW hw) (List.mem_of_getElem? (i := 9) rfl) C10.1 (vs := [(.int 101), (.int 108), (.int 101), (.int 99), (.int 116), (.int 105), (.int 111), (.int 110)]) (z := 8) ⟨by decide, by decide⟩ (by decide) (by decide) (g := (mkF m 199 (lc30 i0 i1 i2 i3 i4 z1 3 z2 z3 z4 br4 br11 br17 w3) [])) rfl (hb hby at_199) (n := 32) (by decide) (by decide) (by decide) (by decide)
          have C11 := C10.trans CRr20
          have f37 : Exa Z hr20 w3 zs35 := (Exa.ext Er20 ((Exa.ext Er17 (Exa.ext Er15 (Exa.ext Er13 ((Exa.ext Er11 (Exa.wr Wr10 (Exa.wr Wr8 (Exa.wr Wr6 (Exa.ext Er4 S8))))).keep Kr12)))).keep Kr18))
          have f38 : Sta Z hr20 zs6 zs7 "Z" (.int ci0) := (Sta.ext Er20 (own_staK f32 Kr18 (allS (own_nsE Ar17) all0)))
          have ne3 : w3 ≠ br4 := Nat.ne_of_lt (nlt (S9.lt) (Nat.le_of_eq gr4.symm))
          have ne4 : w3 ≠ br11 := Nat.ne_of_lt (nlt (nlt (nlt (nlt (nlt (S9.lt) Er4.1) (Keep.of_wr Wr6).1) (Keep.of_wr Wr8).1) (Keep.of_wr Wr10).1) (Nat.le_of_eq gr11.symm))
          have ne5 : w3 ≠ br17 := Nat.ne_of_lt (nlt (nlt (nlt (nlt (nlt (nlt (nlt (nlt (nlt (S9.lt) Er4.1) (Keep.of_wr Wr6).1) (Keep.of_wr Wr8).1) (Keep.of_wr Wr10).1) Er11.1) Kr12.1) Er13.1) Er15.1) (Nat.le_of_eq gr17.symm))
          have f39 : Fld Z hr20 w3 zs35 "noun" zs23 (.ref w4) := (Fld.ext Er20 ((Fld.ext Er17 (Fld.ext Er15 (Fld.ext Er13 ((Fld.ext Er11 (Fld.other Wr10 (Fld.other Wr8 (Fld.other Wr6 (Fld.ext Er4 S9) (Or.inl ne3)) (Or.inl ne3)) (Or.inl ne3))).keep Kr12 (ninS ne4 nin0))))).keep Kr18 (ninS ne5 nin0)))
          have f40 : Exa Z hr20 w4 zs6 := (Exa.ext Er20 ((Exa.ext Er17 (Exa.ext Er15 (Exa.ext Er13 ((Exa.ext Er11 (Exa.wr Wr10 (Exa.wr Wr8 (Exa.wr Wr6 (Exa.ext Er4 S10))))).keep Kr12)))).keep Kr18))
          have ne6 : w4 ≠ br4 := Nat.ne_of_lt (nlt (S11.lt) (Nat.le_of_eq gr4.symm))
          have ne7 : w4 ≠ br11 := Nat.ne_of_lt (nlt (nlt (nlt (nlt (nlt (S11.lt) Er4.1) (Keep.of_wr Wr6).1) (Keep.of_wr Wr8).1) (Keep.of_wr Wr10).1) (Nat.le_of_eq gr11.symm))
          have ne8 : w4 ≠ br17 := Nat.ne_of_lt (nlt (nlt (nlt (nlt (nlt (nlt (nlt (nlt (nlt (S11.lt) Er4.1) (Keep.of_wr Wr6).1) (Keep.of_wr Wr8).1) (Keep.of_wr Wr10).1) Er11.1) Kr12.1) Er13.1) Er15.1) (Nat.le_of_eq gr17.symm))
          have f41 : Fld Z hr20 w4 zs6 "value" "[B" (.ref w5) := (Fld.ext Er20 ((Fld.ext Er17 (Fld.ext Er15 (Fld.ext Er13 ((Fld.ext Er11 (Fld.other Wr10 (Fld.other Wr8 (Fld.other Wr6 (Fld.ext Er4 S11) (Or.inl ne6)) (Or.inl ne6)) (Or.inl ne6))).keep Kr12 (ninS ne7 nin0))))).keep Kr18 (ninS ne8 nin0)))
          have ne9 : w5 ≠ br4 := Nat.ne_of_lt (nlt (S33.lt) (Nat.le_of_eq gr4.symm))
          have ne10 : w5 ≠ br11 := Nat.ne_of_lt (nlt (nlt (nlt (nlt (nlt (S33.lt) Er4.1) (Keep.of_wr Wr6).1) (Keep.of_wr Wr8).1) (Keep.of_wr Wr10).1) (Nat.le_of_eq gr11.symm))
          have ne11 : w5 ≠ br17 := Nat.ne_of_lt (nlt (nlt (nlt (nlt (nlt (nlt (nlt (nlt (nlt (S33.lt) Er4.1) (Keep.of_wr Wr6).1) (Keep.of_wr Wr8).1) (Keep.of_wr Wr10).1) Er11.1) Kr12.1) Er13.1) Er15.1) (Nat.le_of_eq gr17.symm))
          have f42 : Arv Z hr20 w5 kl1 .byte (8 : Int32) [(.int 101), (.int 108), (.int 101), (.int 99), (.int 116), (.int 105), (.int 111), (.int 110)] (.int (0 : Int32)) := (((((((((((S33.ext Er4).other Wr6 ne9).other Wr8 ne9).other Wr10 ne9).ext Er11).keep Kr12 (ninS ne10 nin0)).ext Er13).ext Er15).ext Er17).keep Kr18 (ninS ne11 nin0)).ext Er20)
          have f43 : Fld Z hr20 w4 zs6 "coder" "B" (.int 0) := (Fld.ext Er20 ((Fld.ext Er17 (Fld.ext Er15 (Fld.ext Er13 ((Fld.ext Er11 (Fld.other Wr10 (Fld.other Wr8 (Fld.other Wr6 (Fld.ext Er4 S13) (Or.inl ne6)) (Or.inl ne6)) (Or.inl ne6))).keep Kr12 (ninS ne7 nin0))))).keep Kr18 (ninS ne8 nin0)))
          have f44 : Exa Z hr20 br17 zs21 := (Exa.ext Er20 (Ar17.keep Kr18))
          have f45 : Fld Z hr20 br17 zs21 "value" zs23 (.ref br11) := (Fld.ext Er20 f35)
          have f46 : Exa Z hr20 br11 zs6 := (Exa.ext Er20 (f29.keep Kr18))
          have ne12 : br11 ≠ br17 := Nat.ne_of_lt (nlt (nlt (nlt (nlt (f10.lt) Kr12.1) Er13.1) Er15.1) (Nat.le_of_eq gr17.symm))
          have f47 : Fld Z hr20 br11 zs6 "value" "[B" (.ref b1) := (Fld.ext Er20 (f30.keep Kr18 (ninS ne12 nin0)))
          have ne13 : b1 ≠ br17 := Nat.ne_of_lt (nlt (nlt (nlt (f16.lt) Er13.1) Er15.1) (Nat.le_of_eq gr17.symm))
          have f48 : Arv Z hr20 b1 k1 .byte (3 : Int32) [(.int z2), (.int z3), (.int z4)] (.int (0 : Int32)) := ((f31.keep Kr18 (ninS ne13 nin0)).ext Er20)
          have f49 : Fld Z hr20 br11 zs6 "coder" "B" (.int 0) := (Fld.ext Er20 (f33.keep Kr18 (ninS ne12 nin0)))
          have Z_10 : n0 ≤ Tr18.heap.size := Nat.le_trans Z_9 Kr18.1
          have Z_11 : n0 ≤ hr20.size := Nat.le_trans Z_10 Er20.1
          obtain ⟨_, Tr21, Lr21, Xr21, hQr21, hSr21, hZ, hown, CRr21, str21⟩ := ocallVH (s := s) Xr20 hx hZ zm27 zm27 hown (ww hw 114 rfl) (ww hw 115 rfl) (notFace_of_selects (args := #[]) (mvT hZ (ww hw 117 rfl))) (ww hw 117 rfl) (ww hw 116 rfl) (by decide) (ww hw 118 rfl) (ww hw 111 rfl) er20 f37 (rm22_61 l hw w3 br17 ci0 w4 w5 [(.int 101), (.int 108), (.int 101), (.int 99), (.int 116), (.int 105), (.int 111), (.int 110)] kl1 8 8 8 (-8) 9 (-7) 8 br11 b1 [(.int z2), (.int z3), (.int z4)] k1 3 3 12 (-4) 9 12 hr20 n0 Z_11 f38 hc5 f39 f40 f41 f42 f43 (Nat.le_of_ble_eq_true rfl) (Nat.le_of_ble_eq_true rfl) (Nat.le_of_ble_eq_true rfl) (Nat.le_of_ble_eq_true rfl) (Nat.le_of_ble_eq_true rfl) (Nat.le_of_ble_eq_true rfl) f44 f45 f46 f47 f48 f49 (Nat.le_of_ble_eq_true rfl) (Nat.le_of_ble_eq_true rfl) (Nat.le_of_ble_eq_true rfl) (Nat.le_of_ble_eq_true rfl) (Nat.le_of_ble_eq_true rfl) (Nat.le_of_ble_eq_true rfl) (Nat.le_of_ble_eq_true rfl) (by decide)) (st := [(.ref br17), (.ref w3)]) rfl 0 rfl (by decide) (pc := 207) (Ls := (lc31 i0 i1 i2 i3 i4 z1 3 z2 z3 z4 br4 br11 br17 w3 br20)) hml rfl (lenOf pd_29 rfl) at_207 hby hSr20 hkr20 (own_EW hw) C11.1 all0
          obtain ⟨b2, b3, k2, rfl, Nr21q, Kr21, sz2, sz3, ne14, f50, f51, f52, f53, f54⟩ := hQr21
          have C12 := C11.trans CRr21
          have f55 : Arv Z Tr21.heap b3 k2 .byte (12 : Int32) [(.int 101), (.int 108), (.int 101), (.int 99), (.int 116), (.int 105), (.int 111), (.int 110), (.int 32), (.int z2), (.int z3), (.int z4)] (.int (0 : Int32)) := f54
          have N11 := Fr.app N10 Nr21q
          have f56 : Exa Z Tr21.heap br20 zs6 := (fr20a.keep Kr21)
          have f57 : Fld Z Tr21.heap br20 zs6 "value" "[B" (.ref bvr20) := (fr20c.keep Kr21 nin0)
          have f58 : Arv Z Tr21.heap bvr20 clr20 .byte (8 : Int32) [(.int 101), (.int 108), (.int 101), (.int 99), (.int 116), (.int 105), (.int 111), (.int 110)] (.int (0 : Int32)) := (fr20d.keep Kr21 nin0)
          have f59 : Sta Z Tr21.heap zs6 zs7 "Z" (.int ci0) := (own_staK f38 Kr21 all0)
          have f60 : Fld Z Tr21.heap br20 zs6 "coder" "B" (.int 0) := (fr20b.keep Kr21 nin0)
          have Z_12 : n0 ≤ Tr21.heap.size := Nat.le_trans Z_11 Kr21.1
          obtain ⟨_, Tr22, Lr22, Xr22, hQr22, str22⟩ := ocallV Xr21 hx hZ zm12 zm12 hown (ww hw 228 rfl) (ww hw 72 rfl) (notFace_of_selects (args := #[]) (mvT hZ (ww hw 74 rfl))) (ww hw 74 rfl) (ww hw 73 rfl) (by decide) (ww hw 75 rfl) (ww hw 8 rfl) rfl f56 (rm14_24 l hw br20 bvr20 8 ci0 8 Tr21.heap n0 Z_12 f57 (own_lnV f58) f56 f59 hc5 f60 (by decide)) (st := [(.ref br20)]) rfl 0 rfl (by decide) (pc := 221) (Ls := (lc41 i0 i1 i2 i3 i4 z1 3 z2 z3 z4 br4 br11 br17 w3 br20 b2)) hml rfl (lenOf pd_12 rfl) at_221 hby
          obtain ⟨rfl, Nr22q, er22⟩ := hQr22
          have N12 := Fr.app N11 Nr22q
          obtain ⟨_, Tr23, Lr23, Xr23, hQr23, str23⟩ := ocallV Xr22 hx hZ zm12 zm12 hown (ww hw 228 rfl) (ww hw 72 rfl) (notFace_of_selects (args := #[]) (mvT hZ (ww hw 74 rfl))) (ww hw 74 rfl) (ww hw 73 rfl) (by decide) (ww hw 75 rfl) (ww hw 8 rfl) er22 f50 (rm14_24 l hw b2 b3 12 ci0 12 Tr21.heap n0 Z_12 f52 (own_lnV f55) f50 f59 hc5 f51 (by decide)) (st := [(.ref b2)]) rfl 0 rfl (by decide) (pc := 228) (Ls := (lc42 i0 i1 i2 i3 i4 z1 3 z2 z3 z4 br4 br11 br17 w3 br20 b2 8)) hml rfl (lenOf pd_12 rfl) at_228 hby
          obtain ⟨rfl, Nr23q, er23⟩ := hQr23
          have N13 := Fr.app N12 Nr23q
          have hc27 : ¬ ((i0 &&& (3 : Int32)) = (2 : Int32)) := hk12
          have hs28 : ¬ (z1 = (2 : Int32)) := by rw [hz1]; exact hc27
          refine own_go (U' := Tr23.setTop (mkF m 238 (lc42 i0 i1 i2 i3 i4 z1 3 z2 z3 z4 br4 br11 br17 w3 br20 b2 8) [(.int 12), (.int 12)])) (fun t k => oicY (pc := 179) Xr18 hx hby at_179 194 (feq hs28).2 (by decide) (str19 _ (oastore Xr19 hx hby at_197 (lc30 i0 i1 i2 i3 i4 z1 3 z2 z3 z4 br4 br11 br17 w3) rfl rfl (str20 _ (oastore Xr20 hx hby at_201 (lc31 i0 i1 i2 i3 i4 z1 3 z2 z3 z4 br4 br11 br17 w3 br20) rfl rfl (oaload Xr20 hx hby at_203 rfl rfl (oaload Xr20 hx hby at_205 rfl rfl (str21 _ (oastore Xr21 hx hby at_210 (lc41 i0 i1 i2 i3 i4 z1 3 z2 z3 z4 br4 br11 br17 w3 br20 b2) rfl rfl (oaload Xr21 hx hby at_212 rfl rfl (onnY (pc := 214) Xr21 hx hby at_214 219 (by decide) (oaload Xr21 hx hby at_219 rfl rfl (str22 _ (oistore Xr22 hx hby at_224 (lc42 i0 i1 i2 i3 i4 z1 3 z2 z3 z4 br4 br11 br17 w3 br20 b2 8) rfl (oaload Xr22 hx hby at_226 rfl rfl (str23 _ (oiload Xr23 hx hby at_231 rfl (oiconst Xr23 hx hby at_233 (oiadd Xr23 hx hby at_234 (oiload Xr23 hx hby at_235 rfl (oiadd Xr23 hx hby at_237 k))))))))))))))))))))) ?_
          have f61 : Sta Z Tr21.heap zs16 zs19 zs20 vy0 := (own_staK (Sta.ext Er20 (own_staK f34 Kr18 (allS (own_nsF f28) all0))) Kr21 all0)
          obtain ⟨_, Tr24, Lr24, Xr24, hQr24, str24⟩ := ocallS Xr23 hx hZ zm28 hown (ww hw 229 rfl) (ww hw 230 rfl) (by decide) (ww hw 231 rfl) (ww hw 3 rfl) er23 (rm43_63 l hw b2 0 br20 0 bvr20 8 ci0 8 0 b3 12 vy0 101 101 Tr21.heap n0 Z_12 f56 f57 (own_lnV f58) f59 hc5 f60 f50 f51 f52 (own_lnV f55) f61 hc12 (own_elV (j := (0 : Int32)) f55 (by decide) (by decide) rfl) (own_elV (j := (0 : Int32)) f58 (by decide) (by decide) rfl) (by decide)) (st := [(.int 0), (.ref br20), (.int 0), (.ref b2)]) rfl 0 rfl (by decide) (pc := 249) (Ls := (lc42 i0 i1 i2 i3 i4 z1 3 z2 z3 z4 br4 br11 br17 w3 br20 b2 8)) hml rfl (lenOf pd_30 rfl) at_249 hby
          obtain ⟨rfl, Nr24q, er24⟩ := hQr24
          have N14 := Fr.app N13 Nr24q
          refine own_go (U' := Tr24.setTop (mkF m 252 (lc42 i0 i1 i2 i3 i4 z1 3 z2 z3 z4 br4 br11 br17 w3 br20 b2 8) [(.int 1)])) (fun t k => oicY (pc := 238) Xr23 hx hby at_238 243 (by decide) (by decide) (oaload Xr23 hx hby at_243 rfl rfl (oiconst Xr23 hx hby at_245 (oaload Xr23 hx hby at_246 rfl rfl (oiconst Xr23 hx hby at_248 (str24 _ k)))))) ?_
          obtain ⟨_, Tr25, Lr25, Xr25, hQr25, str25⟩ := ocallS Xr24 hx hZ zm28 hown (ww hw 229 rfl) (ww hw 230 rfl) (by decide) (ww hw 231 rfl) (ww hw 3 rfl) er24 (rm43_63 l hw b2 0 br20 1 bvr20 8 ci0 8 1 b3 12 vy0 108 108 Tr21.heap n0 Z_12 f56 f57 (own_lnV f58) f59 hc5 f60 f50 f51 f52 (own_lnV f55) f61 hc12 (own_elV (j := (1 : Int32)) f55 (by decide) (by decide) rfl) (own_elV (j := (1 : Int32)) f58 (by decide) (by decide) rfl) (by decide)) (st := [(.int 1), (.ref br20), (.int 0), (.ref b2)]) rfl 0 rfl (by decide) (pc := 261) (Ls := (lc42 i0 i1 i2 i3 i4 z1 3 z2 z3 z4 br4 br11 br17 w3 br20 b2 8)) hml rfl (lenOf pd_30 rfl) at_261 hby
          obtain ⟨rfl, Nr25q, er25⟩ := hQr25
          have N15 := Fr.app N14 Nr25q
          refine own_go (U' := Tr25.setTop (mkF m 264 (lc42 i0 i1 i2 i3 i4 z1 3 z2 z3 z4 br4 br11 br17 w3 br20 b2 8) [(.int 1)])) (fun t k => oifN Xr24 hx hby at_252 (by decide) (oaload Xr24 hx hby at_255 rfl rfl (oiconst Xr24 hx hby at_257 (oaload Xr24 hx hby at_258 rfl rfl (oiconst Xr24 hx hby at_260 (str25 _ k)))))) ?_
          obtain ⟨_, Tr26, Lr26, Xr26, hQr26, str26⟩ := ocallS Xr25 hx hZ zm28 hown (ww hw 229 rfl) (ww hw 230 rfl) (by decide) (ww hw 231 rfl) (ww hw 3 rfl) er25 (rm43_63 l hw b2 0 br20 2 bvr20 8 ci0 8 2 b3 12 vy0 101 101 Tr21.heap n0 Z_12 f56 f57 (own_lnV f58) f59 hc5 f60 f50 f51 f52 (own_lnV f55) f61 hc12 (own_elV (j := (2 : Int32)) f55 (by decide) (by decide) rfl) (own_elV (j := (2 : Int32)) f58 (by decide) (by decide) rfl) (by decide)) (st := [(.int 2), (.ref br20), (.int 0), (.ref b2)]) rfl 0 rfl (by decide) (pc := 273) (Ls := (lc42 i0 i1 i2 i3 i4 z1 3 z2 z3 z4 br4 br11 br17 w3 br20 b2 8)) hml rfl (lenOf pd_30 rfl) at_273 hby
          obtain ⟨rfl, Nr26q, er26⟩ := hQr26
          have N16 := Fr.app N15 Nr26q
          refine own_go (U' := Tr26.setTop (mkF m 276 (lc42 i0 i1 i2 i3 i4 z1 3 z2 z3 z4 br4 br11 br17 w3 br20 b2 8) [(.int 1)])) (fun t k => oifN Xr25 hx hby at_264 (by decide) (oaload Xr25 hx hby at_267 rfl rfl (oiconst Xr25 hx hby at_269 (oaload Xr25 hx hby at_270 rfl rfl (oiconst Xr25 hx hby at_272 (str26 _ k)))))) ?_
          obtain ⟨_, Tr27, Lr27, Xr27, hQr27, str27⟩ := ocallS Xr26 hx hZ zm28 hown (ww hw 229 rfl) (ww hw 230 rfl) (by decide) (ww hw 231 rfl) (ww hw 3 rfl) er26 (rm43_63 l hw b2 0 br20 3 bvr20 8 ci0 8 3 b3 12 vy0 99 99 Tr21.heap n0 Z_12 f56 f57 (own_lnV f58) f59 hc5 f60 f50 f51 f52 (own_lnV f55) f61 hc12 (own_elV (j := (3 : Int32)) f55 (by decide) (by decide) rfl) (own_elV (j := (3 : Int32)) f58 (by decide) (by decide) rfl) (by decide)) (st := [(.int 3), (.ref br20), (.int 0), (.ref b2)]) rfl 0 rfl (by decide) (pc := 285) (Ls := (lc42 i0 i1 i2 i3 i4 z1 3 z2 z3 z4 br4 br11 br17 w3 br20 b2 8)) hml rfl (lenOf pd_30 rfl) at_285 hby
          obtain ⟨rfl, Nr27q, er27⟩ := hQr27
          have N17 := Fr.app N16 Nr27q
          refine own_go (U' := Tr27.setTop (mkF m 288 (lc42 i0 i1 i2 i3 i4 z1 3 z2 z3 z4 br4 br11 br17 w3 br20 b2 8) [(.int 1)])) (fun t k => oifN Xr26 hx hby at_276 (by decide) (oaload Xr26 hx hby at_279 rfl rfl (oiconst Xr26 hx hby at_281 (oaload Xr26 hx hby at_282 rfl rfl (oiconst Xr26 hx hby at_284 (str27 _ k)))))) ?_
          obtain ⟨_, Tr28, Lr28, Xr28, hQr28, str28⟩ := ocallS Xr27 hx hZ zm28 hown (ww hw 229 rfl) (ww hw 230 rfl) (by decide) (ww hw 231 rfl) (ww hw 3 rfl) er27 (rm43_63 l hw b2 0 br20 4 bvr20 8 ci0 8 4 b3 12 vy0 116 116 Tr21.heap n0 Z_12 f56 f57 (own_lnV f58) f59 hc5 f60 f50 f51 f52 (own_lnV f55) f61 hc12 (own_elV (j := (4 : Int32)) f55 (by decide) (by decide) rfl) (own_elV (j := (4 : Int32)) f58 (by decide) (by decide) rfl) (by decide)) (st := [(.int 4), (.ref br20), (.int 0), (.ref b2)]) rfl 0 rfl (by decide) (pc := 297) (Ls := (lc42 i0 i1 i2 i3 i4 z1 3 z2 z3 z4 br4 br11 br17 w3 br20 b2 8)) hml rfl (lenOf pd_30 rfl) at_297 hby
          obtain ⟨rfl, Nr28q, er28⟩ := hQr28
          have N18 := Fr.app N17 Nr28q
          refine own_go (U' := Tr28.setTop (mkF m 300 (lc42 i0 i1 i2 i3 i4 z1 3 z2 z3 z4 br4 br11 br17 w3 br20 b2 8) [(.int 1)])) (fun t k => oifN Xr27 hx hby at_288 (by decide) (oaload Xr27 hx hby at_291 rfl rfl (oiconst Xr27 hx hby at_293 (oaload Xr27 hx hby at_294 rfl rfl (oiconst Xr27 hx hby at_296 (str28 _ k)))))) ?_
          obtain ⟨_, Tr29, Lr29, Xr29, hQr29, str29⟩ := ocallS Xr28 hx hZ zm28 hown (ww hw 229 rfl) (ww hw 230 rfl) (by decide) (ww hw 231 rfl) (ww hw 3 rfl) er28 (rm43_63 l hw b2 0 br20 5 bvr20 8 ci0 8 5 b3 12 vy0 105 105 Tr21.heap n0 Z_12 f56 f57 (own_lnV f58) f59 hc5 f60 f50 f51 f52 (own_lnV f55) f61 hc12 (own_elV (j := (5 : Int32)) f55 (by decide) (by decide) rfl) (own_elV (j := (5 : Int32)) f58 (by decide) (by decide) rfl) (by decide)) (st := [(.int 5), (.ref br20), (.int 0), (.ref b2)]) rfl 0 rfl (by decide) (pc := 309) (Ls := (lc42 i0 i1 i2 i3 i4 z1 3 z2 z3 z4 br4 br11 br17 w3 br20 b2 8)) hml rfl (lenOf pd_30 rfl) at_309 hby
          obtain ⟨rfl, Nr29q, er29⟩ := hQr29
          have N19 := Fr.app N18 Nr29q
          refine own_go (U' := Tr29.setTop (mkF m 312 (lc42 i0 i1 i2 i3 i4 z1 3 z2 z3 z4 br4 br11 br17 w3 br20 b2 8) [(.int 1)])) (fun t k => oifN Xr28 hx hby at_300 (by decide) (oaload Xr28 hx hby at_303 rfl rfl (oiconst Xr28 hx hby at_305 (oaload Xr28 hx hby at_306 rfl rfl (oiconst Xr28 hx hby at_308 (str29 _ k)))))) ?_
          obtain ⟨_, Tr30, Lr30, Xr30, hQr30, str30⟩ := ocallS Xr29 hx hZ zm28 hown (ww hw 229 rfl) (ww hw 230 rfl) (by decide) (ww hw 231 rfl) (ww hw 3 rfl) er29 (rm43_63 l hw b2 0 br20 6 bvr20 8 ci0 8 6 b3 12 vy0 111 111 Tr21.heap n0 Z_12 f56 f57 (own_lnV f58) f59 hc5 f60 f50 f51 f52 (own_lnV f55) f61 hc12 (own_elV (j := (6 : Int32)) f55 (by decide) (by decide) rfl) (own_elV (j := (6 : Int32)) f58 (by decide) (by decide) rfl) (by decide)) (st := [(.int 6), (.ref br20), (.int 0), (.ref b2)]) rfl 0 rfl (by decide) (pc := 322) (Ls := (lc42 i0 i1 i2 i3 i4 z1 3 z2 z3 z4 br4 br11 br17 w3 br20 b2 8)) hml rfl (lenOf pd_30 rfl) at_322 hby
          obtain ⟨rfl, Nr30q, er30⟩ := hQr30
          have N20 := Fr.app N19 Nr30q
          refine own_go (U' := Tr30.setTop (mkF m 325 (lc42 i0 i1 i2 i3 i4 z1 3 z2 z3 z4 br4 br11 br17 w3 br20 b2 8) [(.int 1)])) (fun t k => oifN Xr29 hx hby at_312 (by decide) (oaload Xr29 hx hby at_315 rfl rfl (oiconst Xr29 hx hby at_317 (oaload Xr29 hx hby at_318 rfl rfl (obipush Xr29 hx hby at_320 (str30 _ k)))))) ?_
          obtain ⟨_, Tr31, Lr31, Xr31, hQr31, str31⟩ := ocallS Xr30 hx hZ zm28 hown (ww hw 229 rfl) (ww hw 230 rfl) (by decide) (ww hw 231 rfl) (ww hw 3 rfl) er30 (rm43_63 l hw b2 0 br20 7 bvr20 8 ci0 8 7 b3 12 vy0 110 110 Tr21.heap n0 Z_12 f56 f57 (own_lnV f58) f59 hc5 f60 f50 f51 f52 (own_lnV f55) f61 hc12 (own_elV (j := (7 : Int32)) f55 (by decide) (by decide) rfl) (own_elV (j := (7 : Int32)) f58 (by decide) (by decide) rfl) (by decide)) (st := [(.int 7), (.ref br20), (.int 0), (.ref b2)]) rfl 0 rfl (by decide) (pc := 335) (Ls := (lc42 i0 i1 i2 i3 i4 z1 3 z2 z3 z4 br4 br11 br17 w3 br20 b2 8)) hml rfl (lenOf pd_30 rfl) at_335 hby
          obtain ⟨rfl, Nr31q, er31⟩ := hQr31
          have N21 := Fr.app N20 Nr31q
          refine own_go (U' := Tr31.setTop (mkF m 338 (lc42 i0 i1 i2 i3 i4 z1 3 z2 z3 z4 br4 br11 br17 w3 br20 b2 8) [(.int 1)])) (fun t k => oifN Xr30 hx hby at_325 (by decide) (oaload Xr30 hx hby at_328 rfl rfl (oiconst Xr30 hx hby at_330 (oaload Xr30 hx hby at_331 rfl rfl (obipush Xr30 hx hby at_333 (str31 _ k)))))) ?_
          obtain ⟨_, Tr32, Lr32, Xr32, hQr32, str32⟩ := ocallS Xr31 hx hZ zm28 hown (ww hw 229 rfl) (ww hw 230 rfl) (by decide) (ww hw 231 rfl) (ww hw 3 rfl) er31 (rm43_64 l hw b2 0 br20 8 bvr20 8 ci0 8 Tr21.heap n0 Z_12 f56 f57 (own_lnV f58) f59 hc5 f60 (by decide)) (st := [(.int 8), (.ref br20), (.int 0), (.ref b2)]) rfl 0 rfl (by decide) (pc := 348) (Ls := (lc42 i0 i1 i2 i3 i4 z1 3 z2 z3 z4 br4 br11 br17 w3 br20 b2 8)) hml rfl (lenOf pd_30 rfl) at_348 hby
          obtain ⟨rfl, Nr32q, er32⟩ := hQr32
          have N22 := Fr.app N21 Nr32q
          refine own_go (U' := Tr32.setTop (mkF m 351 (lc42 i0 i1 i2 i3 i4 z1 3 z2 z3 z4 br4 br11 br17 w3 br20 b2 8) [(.int 1)])) (fun t k => oifN Xr31 hx hby at_338 (by decide) (oaload Xr31 hx hby at_341 rfl rfl (oiconst Xr31 hx hby at_343 (oaload Xr31 hx hby at_344 rfl rfl (obipush Xr31 hx hby at_346 (str32 _ k)))))) ?_
          obtain ⟨_, Tr33, Lr33, Xr33, hQr33, str33⟩ := ocallS Xr32 hx hZ zm28 hown (ww hw 229 rfl) (ww hw 230 rfl) (by decide) (ww hw 231 rfl) (ww hw 3 rfl) er32 (rm43_64 l hw b2 0 br20 9 bvr20 8 ci0 8 Tr21.heap n0 Z_12 f56 f57 (own_lnV f58) f59 hc5 f60 (by decide)) (st := [(.int 9), (.ref br20), (.int 0), (.ref b2)]) rfl 0 rfl (by decide) (pc := 361) (Ls := (lc42 i0 i1 i2 i3 i4 z1 3 z2 z3 z4 br4 br11 br17 w3 br20 b2 8)) hml rfl (lenOf pd_30 rfl) at_361 hby
          obtain ⟨rfl, Nr33q, er33⟩ := hQr33
          have N23 := Fr.app N22 Nr33q
          refine own_go (U' := Tr33.setTop (mkF m 364 (lc42 i0 i1 i2 i3 i4 z1 3 z2 z3 z4 br4 br11 br17 w3 br20 b2 8) [(.int 1)])) (fun t k => oifN Xr32 hx hby at_351 (by decide) (oaload Xr32 hx hby at_354 rfl rfl (oiconst Xr32 hx hby at_356 (oaload Xr32 hx hby at_357 rfl rfl (obipush Xr32 hx hby at_359 (str33 _ k)))))) ?_
          obtain ⟨_, Tr34, Lr34, Xr34, hQr34, str34⟩ := ocallV Xr33 hx hZ zm17 zm17 hown (ww hw 232 rfl) (ww hw 82 rfl) (notFace_of_selects (args := #[]) (mvT hZ (ww hw 84 rfl))) (ww hw 84 rfl) (ww hw 83 rfl) (by decide) (ww hw 85 rfl) (ww hw 8 rfl) er33 f50 (rm16_65 l hw b2 8 ci0 b3 12 vy0 32 Tr21.heap n0 Z_12 f50 f59 hc5 f51 f52 (own_lnV f55) f61 hc12 (own_elV (j := (8 : Int32)) f55 (by decide) (by decide) rfl) (by decide)) (st := [(.int 8), (.ref b2)]) rfl 0 rfl (by decide) (pc := 378) (Ls := (lc44 i0 i1 i2 i3 i4 z1 3 z2 z3 z4 br4 br11 br17 w3 br20 b2 8 1)) hml rfl (lenOf pd_0 rfl) at_378 hby
          obtain ⟨rfl, Nr34q, er34⟩ := hQr34
          have N24 := Fr.app N23 Nr34q
          refine own_go (U' := Tr34.setTop (mkF m 383 (lc44 i0 i1 i2 i3 i4 z1 3 z2 z3 z4 br4 br11 br17 w3 br20 b2 8 1) [(.int 32), (.int 32)])) (fun t k => oifN Xr33 hx hby at_364 (by decide) (oiconst Xr33 hx hby at_367 (ogoto (pc := 368) Xr33 hx hby at_368 372 (by decide) (oistore Xr33 hx hby at_372 (lc44 i0 i1 i2 i3 i4 z1 3 z2 z3 z4 br4 br11 br17 w3 br20 b2 8 1) rfl (oaload Xr33 hx hby at_374 rfl rfl (oiload Xr33 hx hby at_376 rfl (str34 _ (obipush Xr34 hx hby at_381 k)))))))) ?_
          refine own_go (U' := Tr34.setTop (mkF m 402 (lc45 i0 i1 i2 i3 i4 z1 3 z2 z3 z4 br4 br11 br17 w3 br20 b2 8 1 1) [(.int 0), (.ref br11), (.int 9), (.ref b2)])) (fun t k => oicN Xr34 hx hby at_383 (by decide) (oiconst Xr34 hx hby at_386 (ogoto (pc := 387) Xr34 hx hby at_387 391 (by decide) (oistore Xr34 hx hby at_391 (lc45 i0 i1 i2 i3 i4 z1 3 z2 z3 z4 br4 br11 br17 w3 br20 b2 8 1 1) rfl (oaload Xr34 hx hby at_393 rfl rfl (oiload Xr34 hx hby at_395 rfl (oiconst Xr34 hx hby at_397 (oiadd Xr34 hx hby at_398 (oaload Xr34 hx hby at_399 rfl rfl (oiconst Xr34 hx hby at_401 k)))))))))) ?_
          have f62 : Exa Z Tr21.heap br11 zs6 := (f46.keep Kr21)
          have f63 : Fld Z Tr21.heap br11 zs6 "value" "[B" (.ref b1) := (f47.keep Kr21 nin0)
          have f64 : Arv Z Tr21.heap b1 k1 .byte (3 : Int32) [(.int z2), (.int z3), (.int z4)] (.int (0 : Int32)) := (f48.keep Kr21 nin0)
          have f65 : Fld Z Tr21.heap br11 zs6 "coder" "B" (.int 0) := (f49.keep Kr21 nin0)
          obtain ⟨_, Tr35, Lr35, Xr35, hQr35, str35⟩ := ocallS Xr34 hx hZ zm28 hown (ww hw 229 rfl) (ww hw 230 rfl) (by decide) (ww hw 231 rfl) (ww hw 3 rfl) er34 (rm43_66 l hw b2 9 br11 0 b1 3 ci0 3 9 b3 12 vy0 z2 z2 Tr21.heap n0 Z_12 f62 f63 (own_lnV f64) f59 hc5 f65 f50 f51 f52 (own_lnV f55) f61 hc12 (own_elV (j := (9 : Int32)) f55 (by decide) (by decide) rfl) hs2 hs9 hs4 (own_elV (j := (0 : Int32)) f64 (by decide) (by decide) rfl) hs2 hs9 hs4 rfl (by decide)) (st := [(.int 0), (.ref br11), (.int 9), (.ref b2)]) rfl 0 rfl (by decide) (pc := 402) (Ls := (lc45 i0 i1 i2 i3 i4 z1 3 z2 z3 z4 br4 br11 br17 w3 br20 b2 8 1 1)) hml rfl (lenOf pd_30 rfl) at_402 hby
          obtain ⟨rfl, Nr35q, er35⟩ := hQr35
          have N25 := Fr.app N24 Nr35q
          refine own_go (U' := Tr35.setTop (mkF m 405 (lc45 i0 i1 i2 i3 i4 z1 3 z2 z3 z4 br4 br11 br17 w3 br20 b2 8 1 1) [(.int 1)])) (fun t k => str35 _ k) ?_
          obtain ⟨_, Tr36, Lr36, Xr36, hQr36, str36⟩ := ocallS Xr35 hx hZ zm28 hown (ww hw 229 rfl) (ww hw 230 rfl) (by decide) (ww hw 231 rfl) (ww hw 3 rfl) er35 (rm43_66 l hw b2 9 br11 1 b1 3 ci0 3 10 b3 12 vy0 z3 z3 Tr21.heap n0 Z_12 f62 f63 (own_lnV f64) f59 hc5 f65 f50 f51 f52 (own_lnV f55) f61 hc12 (own_elV (j := (10 : Int32)) f55 (by decide) (by decide) rfl) hs33 hs39 hs35 (own_elV (j := (1 : Int32)) f64 (by decide) (by decide) rfl) hs33 hs39 hs35 rfl (by decide)) (st := [(.int 1), (.ref br11), (.int 9), (.ref b2)]) rfl 0 rfl (by decide) (pc := 417) (Ls := (lc45 i0 i1 i2 i3 i4 z1 3 z2 z3 z4 br4 br11 br17 w3 br20 b2 8 1 1)) hml rfl (lenOf pd_30 rfl) at_417 hby
          obtain ⟨rfl, Nr36q, er36⟩ := hQr36
          have N26 := Fr.app N25 Nr36q
          refine own_go (U' := Tr36.setTop (mkF m 420 (lc45 i0 i1 i2 i3 i4 z1 3 z2 z3 z4 br4 br11 br17 w3 br20 b2 8 1 1) [(.int 1)])) (fun t k => oifN Xr35 hx hby at_405 (by decide) (oaload Xr35 hx hby at_408 rfl rfl (oiload Xr35 hx hby at_410 rfl (oiconst Xr35 hx hby at_412 (oiadd Xr35 hx hby at_413 (oaload Xr35 hx hby at_414 rfl rfl (oiconst Xr35 hx hby at_416 (str36 _ k)))))))) ?_
          obtain ⟨_, Tr37, Lr37, Xr37, hQr37, str37⟩ := ocallS Xr36 hx hZ zm28 hown (ww hw 229 rfl) (ww hw 230 rfl) (by decide) (ww hw 231 rfl) (ww hw 3 rfl) er36 (rm43_66 l hw b2 9 br11 2 b1 3 ci0 3 11 b3 12 vy0 z4 z4 Tr21.heap n0 Z_12 f62 f63 (own_lnV f64) f59 hc5 f65 f50 f51 f52 (own_lnV f55) f61 hc12 (own_elV (j := (11 : Int32)) f55 (by decide) (by decide) rfl) hs50 hs56 hs52 (own_elV (j := (2 : Int32)) f64 (by decide) (by decide) rfl) hs50 hs56 hs52 rfl (by decide)) (st := [(.int 2), (.ref br11), (.int 9), (.ref b2)]) rfl 0 rfl (by decide) (pc := 432) (Ls := (lc45 i0 i1 i2 i3 i4 z1 3 z2 z3 z4 br4 br11 br17 w3 br20 b2 8 1 1)) hml rfl (lenOf pd_30 rfl) at_432 hby
          obtain ⟨rfl, Nr37q, er37⟩ := hQr37
          have N27 := Fr.app N26 Nr37q
          refine own_go (U' := Tr37.setTop (mkF m 435 (lc45 i0 i1 i2 i3 i4 z1 3 z2 z3 z4 br4 br11 br17 w3 br20 b2 8 1 1) [(.int 1)])) (fun t k => oifN Xr36 hx hby at_420 (by decide) (oaload Xr36 hx hby at_423 rfl rfl (oiload Xr36 hx hby at_425 rfl (oiconst Xr36 hx hby at_427 (oiadd Xr36 hx hby at_428 (oaload Xr36 hx hby at_429 rfl rfl (oiconst Xr36 hx hby at_431 (str37 _ k)))))))) ?_
          refine own_go (U' := Tr37.setTop (mkF m 447 (lc46 i0 i1 i2 i3 i4 z1 3 z2 z3 z4 br4 br11 br17 w3 br20 b2 8 1 1 1) [(.int 1)])) (fun t k => oifN Xr37 hx hby at_435 (by decide) (oiconst Xr37 hx hby at_438 (ogoto (pc := 439) Xr37 hx hby at_439 443 (by decide) (oistore Xr37 hx hby at_443 (lc46 i0 i1 i2 i3 i4 z1 3 z2 z3 z4 br4 br11 br17 w3 br20 b2 8 1 1 1) rfl (oiload Xr37 hx hby at_445 rfl k))))) ?_
          refine own_go (U' := Tr37.setTop (mkF m 452 (lc46 i0 i1 i2 i3 i4 z1 3 z2 z3 z4 br4 br11 br17 w3 br20 b2 8 1 1 1) [(.int 1)])) (fun t k => oifN Xr37 hx hby at_447 (by decide) (oiload Xr37 hx hby at_450 rfl k)) ?_
          refine own_go (U' := Tr37.setTop (mkF m 457 (lc46 i0 i1 i2 i3 i4 z1 3 z2 z3 z4 br4 br11 br17 w3 br20 b2 8 1 1 1) [(.int 1)])) (fun t k => oifN Xr37 hx hby at_452 (by decide) (oiload Xr37 hx hby at_455 rfl k)) ?_
          refine own_go (U' := Tr37.setTop (mkF m 465 (lc46 i0 i1 i2 i3 i4 z1 3 z2 z3 z4 br4 br11 br17 w3 br20 b2 8 1 1 1) [(.int 1)])) (fun t k => oifN Xr37 hx hby at_457 (by decide) (oiconst Xr37 hx hby at_460 (ogoto (pc := 461) Xr37 hx hby at_461 465 (by decide) k))) ?_
          obtain ⟨fs, hr, hrun, hended, hW, hsame⟩ := Xr37.leave (v := some (.int 1)) (fun h => by rw [Bd.returns] at h; cases h)
          have hE := hSr21.ended hW (by show _ ≤ Tr37.heap.size; rw [er37]; exact (Nat.le_refl _)) hsame
          refine own_out ⟨_, _, ?_, hrun, hended, _, _, rfl, ?_, ?_, ⟨_, rfl⟩, hE.1, hE.2.1, hE.2.2.mono (by decide) (by decide)⟩
          · exact retN Xr37 hx (t := .boolean) Bd.returns (by simp) (hb hby at_465) hr
          · exact ⟨rfl, N27⟩
          · show CHr Z consts_1 s.vm s.heap Tr37.vm Tr37.heap; rw [hh, er37]; exact C12.trans (CHv.at (s := s) Xr37 hZ (own_EW hw) C12.1)
set_option maxRecDepth 65536 in
set_option maxHeartbeats 40000000 in
theorem comes_1 {Post : Tables → Env → Array Value → State → Outcome → State → Prop} (hpost : ∀ tb e args s v u, (limb_1_1.after args s (.returned v) u = true ∧ limb_1_2.after args s (.returned v) u = true ∧ True) → ReturnedEndW s (.returned v) u (Jvm.fieldLocs frame_1_writes args s ++ Jvm.arrayLocs frame_1_arrays args s ++ Jvm.staticLocs frame_1_statics s) 48 10496 → Post tb e args s (.returned v) u) :
    ArmFor flags0 classFile x code maxLocals ret World_1 tables_1 room_1 Calls_1 rest_1 Pre_1 Post := by
  intro l hfl _ _ p e ha hc hk s m args below hf hA hF happ hP
  obtain ⟨hcalls, hrest, hpre⟩ := hP
  obtain ⟨-, -, -, hnamed, -, -, -, hat⟩ := (Spec.applies_iff hf).mp happ
  obtain ⟨hg, hn⟩ := and_e (Cond.before_iff.mp (show (Jvm.Cond.and given_1 narrow_1).before args s = true from hpre))
  obtain ⟨g13, g14⟩ := and_e hg
  obtain ⟨g15, g16⟩ := and_e g14
  obtain ⟨g17, g18⟩ := and_e g16
  obtain ⟨g19, g20⟩ := and_e g18
  obtain ⟨g21, g22⟩ := and_e g20
  obtain ⟨v0, v1, v2, v3, v4, rfl⟩ : ∃ v0 v1 v2 v3 v4 : Value, args = #[v0, v1, v2, v3, v4] := by
    have hs : args.size = 5 := by simpa [Cond.value, given_1] using g13
    obtain ⟨L⟩ := args
    match L, hs with
    | [v0, v1, v2, v3, v4], _ => exact ⟨v0, v1, v2, v3, v4, rfl⟩
  have hw := fun d (hd : d ∈ tables_1) => atoms_spec (ws := Jvm.Cond.code x code maxLocals ret :: tables_1) hat d (List.mem_cons_of_mem _ hd)
  obtain ⟨i0, ei0⟩ := is_v g15
  obtain rfl : v0 = (.int i0) := Option.some.inj ei0
  obtain ⟨i1, ei1⟩ := is_v g17
  obtain rfl : v1 = (.int i1) := Option.some.inj ei1
  obtain ⟨i2, ei2⟩ := is_v g19
  obtain rfl : v2 = (.int i2) := Option.some.inj ei2
  obtain ⟨i3, ei3⟩ := is_v g21
  obtain rfl : v3 = (.int i3) := Option.some.inj ei3
  obtain ⟨i4, ei4⟩ := is_v g22
  obtain rfl : v4 = (.int i4) := Option.some.inj ei4
  have hfit : Fit s := fun {y c} hc i hi => by
    obtain ⟨ha, rfl⟩ := Array.getElem?_eq_some_iff.mp hc
    have q := List.all_eq_true.mp ((Array.all_eq_true_iff_forall_mem.mp hF) _ (Array.getElem_mem ha)) i (List.mem_range.mpr hi)
    simpa [Array.getElem?_eq_getElem hi] using q
  obtain ⟨hsets, hown0⟩ := atoms_of _ (rest_1_c_eq ▸ (show rest_1_c.before _ s = true from hrest))
  obtain ⟨g23, g24⟩ := and_e hn
  have c0 := g23
  obtain ⟨g25, g26⟩ := and_e g24
  have c1 := g25
  obtain ⟨g27, g28⟩ := and_e g26
  have c2 := g27
  obtain ⟨g29, g30⟩ := and_e g28
  have c3 := g29
  obtain ⟨g31, g32⟩ := and_e g30
  have c4 := g31
  obtain ⟨g33, g34⟩ := and_e g32
  have c5 := g33
  obtain ⟨g35, g36⟩ := and_e g34
  have c6 := g35
  obtain ⟨g37, g38⟩ := and_e g36
  have c7 := g37
  obtain ⟨g39, g40⟩ := and_e g38
  have c8 := g39
  obtain ⟨g41, g42⟩ := and_e g40
  have c9 := g41
  obtain ⟨g43, g44⟩ := and_e g42
  have c10 := g43
  obtain ⟨g45, g46⟩ := and_e g44
  have c11 := g45
  obtain ⟨g47, g48⟩ := and_e g46
  have c12 := g47
  obtain ⟨g49, g50⟩ := and_e g48
  have c13 := g49
  obtain ⟨g51, g52⟩ := and_e g50
  have c14 := g51
  obtain ⟨g53, g54⟩ := and_e g52
  have c15 := g53
  obtain ⟨g55, g56⟩ := and_e g54
  have c16 := g55
  obtain ⟨g57, g58⟩ := and_e g56
  have c17 := g57
  obtain ⟨g59, g60⟩ := and_e g58
  have c18 := g59
  obtain ⟨g61, g62⟩ := and_e g60
  have c19 := g61
  obtain ⟨g63, g64⟩ := and_e g62
  have c20 := g63
  obtain ⟨g65, g66⟩ := and_e g64
  have c21 := g65
  obtain ⟨g67, g68⟩ := and_e g66
  have c22 := g67
  obtain ⟨g69, g70⟩ := and_e g68
  have c23 := g69
  obtain ⟨g71, g72⟩ := and_e g70
  have c24 := g71
  obtain ⟨g73, g74⟩ := and_e g72
  have c25 := g73
  obtain ⟨g75, g76⟩ := and_e g74
  have c26 := g75
  obtain ⟨g77, g78⟩ := and_e g76
  have c27 := g77
  obtain ⟨g79, g80⟩ := and_e g78
  have c28 := g79
  obtain ⟨g81, g82⟩ := and_e g80
  have c29 := g81
  obtain ⟨g83, g84⟩ := and_e g82
  have c30 := g83
  obtain ⟨g85, g86⟩ := and_e g84
  have c31 := g85
  obtain ⟨g87, g88⟩ := and_e g86
  have c32 := g87
  obtain ⟨g89, g90⟩ := and_e g88
  have c33 := g89
  obtain ⟨g91, g92⟩ := and_e g90
  have c34 := g91
  obtain ⟨g93, g94⟩ := and_e g92
  have c35 := g93
  obtain ⟨g95, g96⟩ := and_e g94
  have c36 := g95
  obtain ⟨g97, g98⟩ := and_e g96
  have c37 := g97
  obtain ⟨g99, g100⟩ := and_e g98
  have c38 := g99
  obtain ⟨g101, g102⟩ := and_e g100
  have c39 := g101
  obtain ⟨g103, g104⟩ := and_e g102
  have c40 := g103
  obtain ⟨g105, g106⟩ := and_e g104
  have c41 := g105
  obtain ⟨g107, g108⟩ := and_e g106
  have c42 := g107
  obtain ⟨g109, g110⟩ := and_e g108
  have c43 := g109
  obtain ⟨g111, g112⟩ := and_e g110
  have c44 := g111
  obtain ⟨g113, g114⟩ := and_e g112
  have c45 := g113
  obtain ⟨g115, g116⟩ := and_e g114
  have c46 := g115
  obtain ⟨g117, g118⟩ := and_e g116
  have c47 := g117
  obtain ⟨g119, g120⟩ := and_e g118
  have c48 := g119
  obtain ⟨g121, g122⟩ := and_e g120
  have c49 := g121
  obtain ⟨g123, g124⟩ := and_e g122
  have c50 := g123
  obtain ⟨g125, g126⟩ := and_e g124
  have c51 := g125
  obtain ⟨g127, g128⟩ := and_e g126
  have c52 := g127
  obtain ⟨g129, g130⟩ := and_e g128
  have c53 := g129
  have c54 := g130
  obtain ⟨w0, ew0⟩ := exa_v c0
  have S0 := Sta.start ew0 (Or.inr ⟨(ww hw 111 rfl), (ww hw 112 rfl)⟩)
  have S1 := Exa.start ew0 c0
  obtain ⟨w1, ew1⟩ := exa_v c1
  have S2 := own_fldR ew0 ew1
  have S3 := Exa.start ew1 c1
  obtain ⟨w2, ew2⟩ := exa_v c3
  have S4 := own_fldR ew1 ew2
  have S5 := Exa.start ew2 c3
  have S6 := own_fldI ew1 c5
  obtain ⟨w3, ew3⟩ := exa_v c10
  have S7 := Sta.start ew3 (Or.inr ⟨(ww hw 111 rfl), (ww hw 234 rfl)⟩)
  have S8 := Exa.start ew3 c10
  obtain ⟨w4, ew4⟩ := exa_v c11
  have S9 := own_fldR ew3 ew4
  have S10 := Exa.start ew4 c11
  obtain ⟨w5, ew5⟩ := exa_v c13
  have S11 := own_fldR ew4 ew5
  have S12 := Exa.start ew5 c13
  have S13 := own_fldI ew4 c15
  obtain ⟨w6, ew6⟩ := exa_v c16
  have S14 := Sta.start ew6 (Or.inr ⟨(ww hw 111 rfl), (ww hw 237 rfl)⟩)
  have S15 := Exa.start ew6 c16
  obtain ⟨w7, ew7⟩ := exa_v c17
  have S16 := own_fldR ew6 ew7
  have S17 := Exa.start ew7 c17
  obtain ⟨w8, ew8⟩ := exa_v c19
  have S18 := own_fldR ew7 ew8
  have S19 := Exa.start ew8 c19
  have S20 := own_fldI ew7 c21
  obtain ⟨w9, ew9⟩ := exa_v c22
  have S21 := Sta.start ew9 (Or.inr ⟨(ww hw 111 rfl), (ww hw 240 rfl)⟩)
  have S22 := Exa.start ew9 c22
  obtain ⟨w10, ew10⟩ := exa_v c23
  have S23 := own_fldR ew9 ew10
  have S24 := Exa.start ew10 c23
  obtain ⟨w11, ew11⟩ := exa_v c25
  have S25 := own_fldR ew10 ew11
  have S26 := Exa.start ew11 c25
  have S27 := own_fldI ew10 c27
  obtain ⟨vy0, evy0, hvy0⟩ := own_isR (Cond.before_iff.mp (hsets _ (List.mem_of_getElem? (i := 8) rfl)))
  have S28 := Sta.start evy0 (Or.inl (hsets _ (List.mem_of_getElem? (i := 7) rfl)))
  obtain ⟨ci0, eci0⟩ := is_v (Cond.before_iff.mp (hsets _ (List.mem_of_getElem? (i := 1) rfl)))
  have S30 := Sta.start eci0 (Or.inl (hsets _ (List.mem_of_getElem? (i := 0) rfl)))
  have hci0 := own_neI eci0 (Cond.before_iff.mp (hsets _ (List.mem_of_getElem? (i := 2) rfl)))
  obtain ⟨cl0, A0⟩ := Arr.start ew2 c2
  have L0 := own_len ew2 A0 c4
  have el0_0 := own_elI ew2 A0 c6
  have el0_1 := own_elI ew2 A0 c7
  have el0_2 := own_elI ew2 A0 c8
  have el0_3 := own_elI ew2 A0 c9
  have S32 : Arv s s.heap w2 cl0.cls .byte (4 : Int32) [(.int 108), (.int 111), (.int 99), (.int 107)] (.int (0 : Int32)) := Arv.start hfit A0 L0.1 L0.2 (by decide) (show (4 : Int32).toNatClampNeg = 4 from by decide) ⟨el0_0, el0_1, el0_2, el0_3, trivial⟩
  obtain ⟨cl1, A1⟩ := Arr.start ew5 c12
  have L1 := own_len ew5 A1 c14
  have el1_0 := own_elI ew5 A1 c28
  have el1_1 := own_elI ew5 A1 c29
  have el1_2 := own_elI ew5 A1 c30
  have el1_3 := own_elI ew5 A1 c31
  have el1_4 := own_elI ew5 A1 c32
  have el1_5 := own_elI ew5 A1 c33
  have el1_6 := own_elI ew5 A1 c34
  have el1_7 := own_elI ew5 A1 c35
  have S33 : Arv s s.heap w5 cl1.cls .byte (8 : Int32) [(.int 101), (.int 108), (.int 101), (.int 99), (.int 116), (.int 105), (.int 111), (.int 110)] (.int (0 : Int32)) := Arv.start hfit A1 L1.1 L1.2 (by decide) (show (8 : Int32).toNatClampNeg = 8 from by decide) ⟨el1_0, el1_1, el1_2, el1_3, el1_4, el1_5, el1_6, el1_7, trivial⟩
  obtain ⟨cl2, A2⟩ := Arr.start ew8 c18
  have L2 := own_len ew8 A2 c20
  have el2_0 := own_elI ew8 A2 c36
  have el2_1 := own_elI ew8 A2 c37
  have el2_2 := own_elI ew8 A2 c38
  have el2_3 := own_elI ew8 A2 c39
  have el2_4 := own_elI ew8 A2 c40
  have el2_5 := own_elI ew8 A2 c41
  have el2_6 := own_elI ew8 A2 c42
  have el2_7 := own_elI ew8 A2 c43
  have el2_8 := own_elI ew8 A2 c44
  have el2_9 := own_elI ew8 A2 c45
  have S34 : Arv s s.heap w8 cl2.cls .byte (10 : Int32) [(.int 119), (.int 114), (.int 105), (.int 116), (.int 101), (.int 32), (.int 108), (.int 111), (.int 99), (.int 107)] (.int (0 : Int32)) := Arv.start hfit A2 L2.1 L2.2 (by decide) (show (10 : Int32).toNatClampNeg = 10 from by decide) ⟨el2_0, el2_1, el2_2, el2_3, el2_4, el2_5, el2_6, el2_7, el2_8, el2_9, trivial⟩
  obtain ⟨cl3, A3⟩ := Arr.start ew11 c24
  have L3 := own_len ew11 A3 c26
  have el3_0 := own_elI ew11 A3 c46
  have el3_1 := own_elI ew11 A3 c47
  have el3_2 := own_elI ew11 A3 c48
  have el3_3 := own_elI ew11 A3 c49
  have el3_4 := own_elI ew11 A3 c50
  have el3_5 := own_elI ew11 A3 c51
  have el3_6 := own_elI ew11 A3 c52
  have el3_7 := own_elI ew11 A3 c53
  have el3_8 := own_elI ew11 A3 c54
  have S35 : Arv s s.heap w11 cl3.cls .byte (9 : Int32) [(.int 114), (.int 101), (.int 97), (.int 100), (.int 32), (.int 108), (.int 111), (.int 99), (.int 107)] (.int (0 : Int32)) := Arv.start hfit A3 L3.1 L3.2 (by decide) (show (9 : Int32).toNatClampNeg = 9 from by decide) ⟨el3_0, el3_1, el3_2, el3_3, el3_4, el3_5, el3_6, el3_7, el3_8, trivial⟩
  obtain ⟨n, o, h1, h2, h3, _, L, rfl, ⟨rfl, N⟩, -, hq⟩ := law_all l s _ hw tables_1 i0 i1 i2 i3 i4 w0 w1 w2 w3 w4 w5 w6 w7 w8 w9 w10 w11 cl0.cls cl1.cls cl2.cls cl3.cls ci0 vy0 s.heap s.heap.size (Nat.le_refl _) S0 S1 S2 S3 S4 S5 S6 S7 S8 S9 S10 S11 S12 S13 S14 S15 S16 S17 S18 S19 S20 S21 S22 S23 S24 S25 S26 S27 S28 hvy0 S30 hci0 S32 S33 S34 S35 p e ha hc hk s m _ below hf ((Spec.applies_iff_loose hf).mp happ).1 ⟨rfl, State.Warmed39.refl s, rfl, CHv.start (own_EW hw) (fun p hp => hcalls.1 p hp) (hsets _ (List.mem_of_getElem? (i := 2) rfl)) (ww hw 24 rfl) (ww hw 7 rfl), all0⟩ trivial
  refine ⟨n, _, h1, h2, h3, hpost _ _ _ _ _ _ ⟨Cond.after_iff.mpr rfl, Cond.after_iff.mpr (eq_i res_at (Term.int_eval (1)) rfl), trivial⟩ ⟨hq.1, hq.2.1, hq.2.2.1, (hq.2.2.2.sift fun y hy => Or.inr (N y hy)).mono (by decide) (by decide)⟩⟩
theorem main_1_1 : Claimed_1_1 := comes_1 fun _ _ _ _ _ _ h hF => ⟨h.1, hF⟩
theorem main_1_2 : Claimed_1_2 := comes_1 fun _ _ _ _ _ _ h hF => ⟨h.2.1, hF⟩
end Jvm.Pilot.@@N@@
namespace Jvm.Pilot.@@N@@
open Jvm Jvm.ClassFile Sem Op Lib Jvm.Free Jvm.Stand Jvm.Pilot.@@N@@.Jvm.D
/-! MADE BY PROGRAM (witnessworld.py) out of the Statement's table words and the real class files: 28 classes; the members and pool entries that the words name. The judged class is class 1, her method 1. -/
namespace start1
open Jvm.ClassFile
def u (s : String) : CpInfo := .utf8 (stringToUtf16 s)
/-- a pool by its gaps: so many unusable entries, then the entry; so many at the end -/
def gap : Nat → List CpInfo → List CpInfo
  | 0, r => r
  | n + 1, r => .unusable :: gap n r
def poolList (es : List (Nat × CpInfo)) (last : Nat) : List CpInfo := es.foldr (fun e r => gap e.1 (e.2 :: r)) (gap last [])
def pool (es : List (Nat × CpInfo)) (last : Nat) : Array CpInfo := ⟨poolList es last⟩
def fileOf (pool : Array CpInfo) (this : Nat) (attrs : Array Attribute := #[]) (ms : Array MethodInfo := #[]) (fl : Nat := 33) (sup : Nat := 0) (ifs : Array Nat := #[]) (fds : Array FieldInfo := #[]) : ClassFile where
  minorVersion := 0
  majorVersion := 65
  constantPool := pool
  accessFlags := fl
  thisClass := this
  superClass := sup
  interfaces := ifs
  fields := fds
  methods := ms
  attributes := attrs
def plain (name : String) (sup : Option ClassId) : Class where
  name := name
  kind := .ordinary
  loader := none
  accessFlags := 33
  super := sup
  interfaces := #[]
  cf := none
  fields := #[]
  methods := #[]
  instanceTypes := #[]
  staticTypes := #[]
  resolved := #[]
  callSites := []
  init := .initialized
  statics := none
  mirror := none

def pool0 : Array CpInfo := pool [(5, u "<init>"), (0, u "()V"), (1, .class_ 10), (1, u "java/lang/Object")] 113

def k0c0 : Code := { maxStack := 0, maxLocals := 1, code := object_method_1_code, exceptionTable := #[], attributes := #[] }
def k0m0 : Method := { name := "<init>", desc := "()V", sig := { parameters := [], returnType := none }, accessFlags := 1, code := some k0c0 }
/-- java/lang/Object -/
def k0 : Class := { plain "java/lang/Object" none with
  accessFlags := 33
  interfaces := #[]
  cf := some (fileOf pool0 8 #[] #[{ accessFlags := 1, nameIndex := 5, descriptorIndex := 6, attributes := #[] }] 33 0 #[] #[])
  fields := #[]
  methods := #[k0m0]
  instanceTypes := #[]
  staticTypes := #[]
  resolved := Array.replicate 124 none
  statics := none }

def pool1 : Array CpInfo := pool [(2, .class_ 4), (1, u "java/lang/Object"), (0, u "<init>"), (0, u "()V"), (0, .integer 2147483647), (0, .methodref 9 10), (0, .class_ 11), (0, .nameAndType 12 13), (0, u "com/example/fair_lock/fairlock/RequestKindDescribePinLaw"), (0, u "pick"), (0, u "(I)C"), (0, .class_ 15), (0, u "java/lang/String"), (0, .methodref 14 17), (0, .nameAndType 5 18), (0, u "([C)V"), (0, .string 20), (0, u "."), (0, .methodref 14 22), (0, .nameAndType 23 24), (0, u "equals"), (0, u "(Ljava/lang/Object;)Z"), (0, .string 26), (0, u ".."), (0, .class_ 28), (0, u "com/example/fair_lock/fairlock/LockName"), (0, .methodref 27 30), (0, .nameAndType 5 31), (0, u "(Ljava/lang/String;)V"), (0, .fieldref 33 34), (0, .class_ 35), (0, .nameAndType 36 37), (0, u "com/example/fair_lock/fairlock/RequestKind"), (0, u "PLAIN"), (0, u "Lcom/example/fair_lock/fairlock/RequestKind;"), (0, .string 39), (0, u "lock"), (0, .fieldref 33 41), (0, .nameAndType 42 37), (0, u "READ"), (0, .string 44), (0, u "read lock"), (0, .fieldref 33 46), (0, .nameAndType 47 37), (0, u "WRITE"), (0, .string 49), (0, u "write lock"), (0, .fieldref 33 51), (0, .nameAndType 52 37), (0, u "CANDIDATE"), (0, .string 54), (0, u "election"), (0, .methodref 33 56), (0, .nameAndType 57 58), (0, u "describe"), (0, u "(Lcom/example/fair_lock/fairlock/LockName;)Ljava/lang/String;"), (0, .methodref 14 60), (0, .nameAndType 61 62), (0, u "length"), (0, u "()I"), (0, .methodref 9 64), (0, .nameAndType 65 66), (0, u "same"), (0, u "(Ljava/lang/String;ILjava/lang/String;I)Z"), (0, .methodref 14 68), (0, .nameAndType 69 13), (0, u "charAt"), (2, u "law"), (0, u "(IIIII)Z")] 5

def k1m0 : Method := { name := "<init>", desc := "()V", sig := { parameters := [], returnType := none }, accessFlags := 1, code := none }
def k1c1 : Code := { maxStack := 4, maxLocals := 20, code := code, exceptionTable := #[], attributes := #[] }
def k1m1 : Method := { name := "law", desc := "(IIIII)Z", sig := { parameters := [.int, .int, .int, .int, .int], returnType := some .boolean }, accessFlags := 9, code := some k1c1 }
def k1c2 : Code := { maxStack := 3, maxLocals := 4, code := method_3_code, exceptionTable := #[], attributes := #[] }
def k1m2 : Method := { name := "same", desc := "(Ljava/lang/String;ILjava/lang/String;I)Z", sig := { parameters := [(.object "java/lang/String"), .int, (.object "java/lang/String"), .int], returnType := some .boolean }, accessFlags := 10, code := some k1c2 }
def k1c3 : Code := { maxStack := 3, maxLocals := 2, code := method_4_code, exceptionTable := #[], attributes := #[] }
def k1m3 : Method := { name := "pick", desc := "(I)C", sig := { parameters := [.int], returnType := some .char }, accessFlags := 10, code := some k1c3 }
/-- com/example/fair_lock/fairlock/RequestKindDescribePinLaw -/
def k1 : Class := { plain "com/example/fair_lock/fairlock/RequestKindDescribePinLaw" (some 0) with
  accessFlags := 49
  interfaces := #[]
  cf := some (fileOf pool1 9 #[] #[{ accessFlags := 1, nameIndex := 5, descriptorIndex := 6, attributes := #[] }, { accessFlags := 9, nameIndex := 72, descriptorIndex := 73, attributes := #[] }, { accessFlags := 10, nameIndex := 65, descriptorIndex := 66, attributes := #[] }, { accessFlags := 10, nameIndex := 12, descriptorIndex := 13, attributes := #[] }] 49 2 #[] #[])
  fields := #[]
  methods := #[k1m0, k1m1, k1m2, k1m3]
  instanceTypes := #[]
  staticTypes := #[]
  resolved := Array.replicate 79 none
  statics := none }

def pool2 : Array CpInfo := pool [(1, .class_ 2), (0, u "java/io/Serializable"), (0, .class_ 4), (0, u "java/lang/Object")] 2

/-- java/io/Serializable -/
def k2 : Class := { plain "java/io/Serializable" (some 0) with
  accessFlags := 1537
  interfaces := #[]
  cf := some (fileOf pool2 1 #[] #[] 1537 3 #[] #[])
  fields := #[]
  methods := #[]
  instanceTypes := #[]
  staticTypes := #[]
  resolved := Array.replicate 7 none
  statics := none }

def pool3 : Array CpInfo := pool [(1, .class_ 2), (0, u "java/lang/Comparable"), (0, .class_ 4), (0, u "java/lang/Object")] 7

/-- java/lang/Comparable -/
def k3 : Class := { plain "java/lang/Comparable" (some 0) with
  accessFlags := 1537
  interfaces := #[]
  cf := some (fileOf pool3 1 #[] #[] 1537 3 #[] #[])
  fields := #[]
  methods := #[]
  instanceTypes := #[]
  staticTypes := #[]
  resolved := Array.replicate 12 none
  statics := none }

def pool4 : Array CpInfo := pool [(2, .class_ 4), (1, u "java/lang/CharSequence"), (42, .class_ 48), (0, u "java/lang/CharSequence$1CodePointIterator"), (10, .class_ 60), (0, u "java/lang/CharSequence$1CharIterator"), (5, .class_ 67), (0, u "java/lang/Object")] 63

/-- java/lang/CharSequence -/
def k4 : Class := { plain "java/lang/CharSequence" (some 0) with
  accessFlags := 1537
  interfaces := #[]
  cf := some (fileOf pool4 2 #[.nestMembers #[47, 59]] #[] 1537 66 #[] #[])
  fields := #[]
  methods := #[]
  instanceTypes := #[]
  staticTypes := #[]
  resolved := Array.replicate 131 none
  statics := none }

def pool5 : Array CpInfo := pool [(1, .class_ 2), (0, u "java/lang/constant/Constable"), (0, .class_ 4), (0, u "java/lang/Object")] 6

/-- java/lang/constant/Constable -/
def k5 : Class := { plain "java/lang/constant/Constable" (some 0) with
  accessFlags := 1537
  interfaces := #[]
  cf := some (fileOf pool5 1 #[] #[] 1537 3 #[] #[])
  fields := #[]
  methods := #[]
  instanceTypes := #[]
  staticTypes := #[]
  resolved := Array.replicate 11 none
  statics := none }

def pool6 : Array CpInfo := pool [(1, .class_ 2), (0, u "java/lang/constant/ConstantDesc"), (0, .class_ 4), (0, u "java/lang/Object")] 32

/-- java/lang/constant/ConstantDesc -/
def k6 : Class := { plain "java/lang/constant/ConstantDesc" (some 0) with
  accessFlags := 1537
  interfaces := #[]
  cf := some (fileOf pool6 1 #[] #[] 1537 3 #[] #[])
  fields := #[]
  methods := #[]
  instanceTypes := #[]
  staticTypes := #[]
  resolved := Array.replicate 37 none
  statics := none }

def pool7 : Array CpInfo := pool [(1, .methodref 2 3), (0, .class_ 4), (0, .nameAndType 5 6), (0, u "java/lang/Object"), (0, u "<init>"), (0, u "()V"), (2, .fieldref 10 11), (0, .class_ 12), (0, .nameAndType 13 14), (0, u "java/lang/String"), (0, u "value"), (0, u "[B"), (0, .fieldref 10 16), (0, .nameAndType 17 18), (0, u "coder"), (0, u "B"), (2, u "hash"), (0, u "I"), (2, u "hashIsZero"), (0, u "Z"), (0, .methodref 10 28), (0, .nameAndType 5 29), (0, u "([CIILjava/lang/Void;)V"), (8, .fieldref 10 39), (0, .nameAndType 40 26), (0, u "COMPACT_STRINGS"), (1, .class_ 44), (1, u "java/lang/StringUTF16"), (0, u "compress"), (1, .methodref 42 48), (0, .nameAndType 49 50), (0, u "coderFromArrayLen"), (0, u "([BI)B"), (3, .methodref 55 56), (0, .class_ 57), (0, .nameAndType 58 59), (0, u "java/util/Arrays"), (0, u "copyOfRange"), (0, u "([BII)[B"), (47, .class_ 109), (1, u "java/lang/StringLatin1"), (32, u "()Z"), (34, .methodref 42 178), (0, .nameAndType 45 179), (0, u "([CII)[B"), (13, .class_ 195), (1, u "java/lang/System"), (16, .methodref 193 213), (0, .nameAndType 214 215), (0, u "arraycopy"), (0, u "(Ljava/lang/Object;ILjava/lang/Object;II)V"), (118, u "()I"), (0, .methodref 10 336), (0, .nameAndType 17 337), (0, u "()B"), (2, u "()[B"), (22, u "([BI)C"), (27, u "(II)V"), (35, u "(I)C"), (61, .methodref 10 490), (0, .nameAndType 5 491), (0, u "(Ljava/lang/AbstractStringBuilder;Ljava/lang/Void;)V"), (0, .methodref 10 493), (0, .nameAndType 494 142), (0, u "isLatin1"), (0, .methodref 107 496), (0, .nameAndType 497 363), (0, u "charAt"), (3, u "checkIndex"), (4, .nameAndType 507 334), (0, u "length"), (24, u "getBytes"), (8, .methodref 107 542), (0, .nameAndType 543 544), (0, u "equals"), (0, u "([B[B)Z"), (4, .methodref 550 506), (0, .class_ 551), (0, u "java/lang/AbstractStringBuilder"), (0, .methodref 550 553), (0, .nameAndType 554 340), (0, u "getValue"), (18, u "(Ljava/lang/Object;)Z"), (1, .class_ 576), (0, u "java/lang/CharSequence"), (22, u "CASE_INSENSITIVE_ORDER"), (0, u "Ljava/util/Comparator;"), (91, u "isEmpty"), (128, u "([BIB)V"), (188, u "([C)V"), (36, .methodref 550 493), (5, .fieldref 1054 1055), (0, .class_ 1056), (0, .nameAndType 1057 1058), (0, u "jdk/internal/util/Preconditions"), (0, u "SIOOBE_FORMATTER"), (0, u "Ljava/util/function/BiFunction;"), (0, .methodref 1054 1060), (0, .nameAndType 501 1061), (0, u "(IILjava/util/function/BiFunction;)I"), (39, u "serialPersistentFields"), (0, u "[Ljava/io/ObjectStreamField;"), (0, .class_ 1104), (0, u "java/lang/String$CaseInsensitiveComparator"), (1, .class_ 1107), (0, u "java/io/Serializable"), (0, .class_ 1109), (0, u "java/lang/Comparable"), (0, .class_ 1111), (0, u "java/lang/constant/Constable"), (0, .class_ 1113), (0, u "java/lang/constant/ConstantDesc"), (2, u "serialVersionUID"), (0, u "J"), (3, u "REPL"), (0, u "C"), (2, u "LATIN1"), (1, u "UTF16"), (105, u "(Ljava/lang/StringBuilder;)V")] 217

def k7m0 : Method := { name := "<init>", desc := "()V", sig := { parameters := [], returnType := none }, accessFlags := 1, code := none }
def k7c1 : Code := { maxStack := 5, maxLocals := 2, code := jdk_42_method_3_code, exceptionTable := #[], attributes := #[] }
def k7m1 : Method := { name := "<init>", desc := "([C)V", sig := { parameters := [(.array .char)], returnType := none }, accessFlags := 1, code := some k7c1 }
def k7c2 : Code := { maxStack := 3, maxLocals := 2, code := jdk_42_method_53_code, exceptionTable := #[], attributes := #[] }
def k7m2 : Method := { name := "<init>", desc := "(Ljava/lang/StringBuilder;)V", sig := { parameters := [(.object "java/lang/StringBuilder")], returnType := none }, accessFlags := 1, code := some k7c2 }
def k7c3 : Code := { maxStack := 2, maxLocals := 1, code := jdk_42_method_54_code, exceptionTable := #[], attributes := #[] }
def k7m3 : Method := { name := "length", desc := "()I", sig := { parameters := [], returnType := some .int }, accessFlags := 1, code := some k7c3 }
def k7c4 : Code := { maxStack := 1, maxLocals := 1, code := jdk_42_method_55_code, exceptionTable := #[], attributes := #[] }
def k7m4 : Method := { name := "isEmpty", desc := "()Z", sig := { parameters := [], returnType := some .boolean }, accessFlags := 1, code := some k7c4 }
def k7c5 : Code := { maxStack := 2, maxLocals := 2, code := jdk_42_method_56_code, exceptionTable := #[], attributes := #[] }
def k7m5 : Method := { name := "charAt", desc := "(I)C", sig := { parameters := [.int], returnType := some .char }, accessFlags := 1, code := some k7c5 }
def k7c6 : Code := { maxStack := 2, maxLocals := 3, code := jdk_42_method_66_code, exceptionTable := #[], attributes := #[] }
def k7m6 : Method := { name := "equals", desc := "(Ljava/lang/Object;)Z", sig := { parameters := [(.object "java/lang/Object")], returnType := some .boolean }, accessFlags := 1, code := some k7c6 }
def k7c7 : Code := { maxStack := 5, maxLocals := 4, code := jdk_42_method_147_code, exceptionTable := #[], attributes := #[] }
def k7m7 : Method := { name := "getBytes", desc := "([BIB)V", sig := { parameters := [(.array .byte), .int, .byte], returnType := none }, accessFlags := 0, code := some k7c7 }
def k7c8 : Code := { maxStack := 4, maxLocals := 6, code := jdk_42_method_149_code, exceptionTable := #[], attributes := #[] }
def k7m8 : Method := { name := "<init>", desc := "([CIILjava/lang/Void;)V", sig := { parameters := [(.array .char), .int, .int, (.object "java/lang/Void")], returnType := none }, accessFlags := 2, code := some k7c8 }
def k7c9 : Code := { maxStack := 5, maxLocals := 5, code := jdk_42_method_150_code, exceptionTable := #[], attributes := #[] }
def k7m9 : Method := { name := "<init>", desc := "(Ljava/lang/AbstractStringBuilder;Ljava/lang/Void;)V", sig := { parameters := [(.object "java/lang/AbstractStringBuilder"), (.object "java/lang/Void")], returnType := none }, accessFlags := 0, code := some k7c9 }
def k7c10 : Code := { maxStack := 1, maxLocals := 1, code := jdk_42_method_152_code, exceptionTable := #[], attributes := #[] }
def k7m10 : Method := { name := "coder", desc := "()B", sig := { parameters := [], returnType := some .byte }, accessFlags := 0, code := some k7c10 }
def k7c11 : Code := { maxStack := 1, maxLocals := 1, code := jdk_42_method_154_code, exceptionTable := #[], attributes := #[] }
def k7m11 : Method := { name := "isLatin1", desc := "()Z", sig := { parameters := [], returnType := some .boolean }, accessFlags := 0, code := some k7c11 }
def k7c12 : Code := { maxStack := 3, maxLocals := 2, code := jdk_42_method_155_code, exceptionTable := #[], attributes := #[] }
def k7m12 : Method := { name := "checkIndex", desc := "(II)V", sig := { parameters := [.int, .int], returnType := none }, accessFlags := 8, code := some k7c12 }
/-- java/lang/String -/
def k7 : Class := { plain "java/lang/String" (some 0) with
  accessFlags := 49
  interfaces := #[2, 3, 4, 5, 6]
  cf := some (fileOf pool7 10 #[.nestMembers #[1103]] #[{ accessFlags := 1, nameIndex := 5, descriptorIndex := 6, attributes := #[] }, { accessFlags := 1, nameIndex := 5, descriptorIndex := 1010, attributes := #[] }, { accessFlags := 1, nameIndex := 5, descriptorIndex := 1233, attributes := #[] }, { accessFlags := 1, nameIndex := 507, descriptorIndex := 334, attributes := #[] }, { accessFlags := 1, nameIndex := 692, descriptorIndex := 142, attributes := #[] }, { accessFlags := 1, nameIndex := 497, descriptorIndex := 427, attributes := #[] }, { accessFlags := 1, nameIndex := 543, descriptorIndex := 573, attributes := #[] }, { accessFlags := 0, nameIndex := 532, descriptorIndex := 821, attributes := #[] }, { accessFlags := 2, nameIndex := 5, descriptorIndex := 29, attributes := #[] }, { accessFlags := 0, nameIndex := 5, descriptorIndex := 491, attributes := #[] }, { accessFlags := 0, nameIndex := 17, descriptorIndex := 337, attributes := #[] }, { accessFlags := 0, nameIndex := 494, descriptorIndex := 142, attributes := #[] }, { accessFlags := 8, nameIndex := 501, descriptorIndex := 391, attributes := #[] }] 49 2 #[1106, 1108, 575, 1110, 1112] #[{ accessFlags := 18, nameIndex := 13, descriptorIndex := 14, attributes := #[] }, { accessFlags := 18, nameIndex := 17, descriptorIndex := 18, attributes := #[] }, { accessFlags := 2, nameIndex := 21, descriptorIndex := 22, attributes := #[] }, { accessFlags := 2, nameIndex := 25, descriptorIndex := 26, attributes := #[] }, { accessFlags := 26, nameIndex := 1116, descriptorIndex := 1117, attributes := #[] }, { accessFlags := 24, nameIndex := 40, descriptorIndex := 26, attributes := #[] }, { accessFlags := 26, nameIndex := 1101, descriptorIndex := 1102, attributes := #[] }, { accessFlags := 26, nameIndex := 1121, descriptorIndex := 1122, attributes := #[] }, { accessFlags := 25, nameIndex := 599, descriptorIndex := 600, attributes := #[] }, { accessFlags := 24, nameIndex := 1125, descriptorIndex := 18, attributes := #[] }, { accessFlags := 24, nameIndex := 1127, descriptorIndex := 18, attributes := #[] }])
  fields := #[{ name := "value", type := (.array .byte), accessFlags := 18, slot := 0, constantValue := 0 }, { name := "coder", type := .byte, accessFlags := 18, slot := 1, constantValue := 0 }, { name := "hash", type := .int, accessFlags := 2, slot := 2, constantValue := 0 }, { name := "hashIsZero", type := .boolean, accessFlags := 2, slot := 3, constantValue := 0 }, { name := "serialVersionUID", type := .long, accessFlags := 26, slot := 0, constantValue := 0 }, { name := "COMPACT_STRINGS", type := .boolean, accessFlags := 24, slot := 1, constantValue := 0 }, { name := "serialPersistentFields", type := (.array (.object "java/io/ObjectStreamField")), accessFlags := 26, slot := 2, constantValue := 0 }, { name := "REPL", type := .char, accessFlags := 26, slot := 3, constantValue := 0 }, { name := "CASE_INSENSITIVE_ORDER", type := (.object "java/util/Comparator"), accessFlags := 25, slot := 4, constantValue := 0 }, { name := "LATIN1", type := .byte, accessFlags := 24, slot := 5, constantValue := 0 }, { name := "UTF16", type := .byte, accessFlags := 24, slot := 6, constantValue := 0 }]
  methods := #[k7m0, k7m1, k7m2, k7m3, k7m4, k7m5, k7m6, k7m7, k7m8, k7m9, k7m10, k7m11, k7m12]
  instanceTypes := #[(.array .byte), .byte, .int, .boolean]
  staticTypes := #[.long, .boolean, (.array (.object "java/io/ObjectStreamField")), .char, (.object "java/util/Comparator"), .byte, .byte]
  resolved := Array.replicate 1451 none
  statics := some 0 }

def pool8 : Array CpInfo := pool [(6, .class_ 8), (1, u "java/lang/Object"), (0, u "<init>"), (0, u "()V"), (1, .class_ 14), (1, u "java/lang/StringUTF16"), (31, u "$assertionsDisabled"), (0, u "Z"), (13, u "HI_BYTE_SHIFT"), (0, u "I"), (2, u "LO_BYTE_SHIFT"), (49, .methodref 12 116), (0, .nameAndType 117 118), (0, u "compress"), (0, u "([CI[BII)I"), (3, u "([CII)[B"), (138, u "coderFromArrayLen"), (0, u "([BI)B"), (106, .class_ 371), (1, u "java/lang/StringUTF16$LinesSpliterator"), (58, u "MAX_LENGTH"), (196, .class_ 628), (0, u "java/lang/StringUTF16$CodePointsSpliterator"), (0, .class_ 630), (0, u "java/lang/StringUTF16$CharsSpliterator")] 4

def k8m0 : Method := { name := "<init>", desc := "()V", sig := { parameters := [], returnType := none }, accessFlags := 0, code := none }
def k8c1 : Code := { maxStack := 2, maxLocals := 2, code := jdk_52_method_15_code, exceptionTable := #[], attributes := #[] }
def k8m1 : Method := { name := "coderFromArrayLen", desc := "([BI)B", sig := { parameters := [(.array .byte), .int], returnType := some .byte }, accessFlags := 8, code := some k8c1 }
def k8c2 : Code := { maxStack := 5, maxLocals := 6, code := jdk_52_method_16_code, exceptionTable := #[], attributes := #[] }
def k8m2 : Method := { name := "compress", desc := "([CII)[B", sig := { parameters := [(.array .char), .int, .int], returnType := some (.array .byte) }, accessFlags := 9, code := some k8c2 }
def k8c3 : Code := { maxStack := 3, maxLocals := 7, code := jdk_52_method_21_code, exceptionTable := #[], attributes := #[] }
def k8m3 : Method := { name := "compress", desc := "([CI[BII)I", sig := { parameters := [(.array .char), .int, (.array .byte), .int, .int], returnType := some .int }, accessFlags := 9, code := some k8c3 }
/-- java/lang/StringUTF16 -/
def k8 : Class := { plain "java/lang/StringUTF16" (some 0) with
  accessFlags := 48
  interfaces := #[]
  cf := some (fileOf pool8 12 #[.nestMembers #[627, 629, 369]] #[{ accessFlags := 0, nameIndex := 9, descriptorIndex := 10, attributes := #[] }, { accessFlags := 8, nameIndex := 261, descriptorIndex := 262, attributes := #[] }, { accessFlags := 9, nameIndex := 117, descriptorIndex := 122, attributes := #[] }, { accessFlags := 9, nameIndex := 117, descriptorIndex := 118, attributes := #[] }] 48 6 #[] #[{ accessFlags := 26, nameIndex := 61, descriptorIndex := 62, attributes := #[] }, { accessFlags := 26, nameIndex := 65, descriptorIndex := 62, attributes := #[] }, { accessFlags := 24, nameIndex := 430, descriptorIndex := 62, attributes := #[] }, { accessFlags := 4120, nameIndex := 46, descriptorIndex := 47, attributes := #[] }])
  fields := #[{ name := "HI_BYTE_SHIFT", type := .int, accessFlags := 26, slot := 0, constantValue := 0 }, { name := "LO_BYTE_SHIFT", type := .int, accessFlags := 26, slot := 1, constantValue := 0 }, { name := "MAX_LENGTH", type := .int, accessFlags := 24, slot := 2, constantValue := 0 }, { name := "$assertionsDisabled", type := .boolean, accessFlags := 4120, slot := 3, constantValue := 0 }]
  methods := #[k8m0, k8m1, k8m2, k8m3]
  instanceTypes := #[]
  staticTypes := #[.int, .int, .int, .boolean]
  resolved := Array.replicate 635 none
  statics := none }

def pool9 : Array CpInfo := pool [(1, .class_ 2), (0, u "java/lang/String"), (1, .class_ 6), (1, u "java/lang/Object"), (0, u "<init>"), (0, u "()V"), (0, .methodref 1 10), (0, .nameAndType 11 12), (0, u "checkIndex"), (0, u "(II)V"), (1, .class_ 16), (1, u "java/lang/StringLatin1"), (36, u "([BI)C"), (67, u "$assertionsDisabled"), (0, u "Z"), (98, .class_ 223), (1, u "java/lang/StringLatin1$LinesSpliterator"), (28, u "charAt"), (28, u "equals"), (0, u "([B[B)Z"), (107, .class_ 391), (0, u "java/lang/StringLatin1$CharsSpliterator")] 3

def k9m0 : Method := { name := "<init>", desc := "()V", sig := { parameters := [], returnType := none }, accessFlags := 0, code := none }
def k9c1 : Code := { maxStack := 2, maxLocals := 2, code := jdk_43_method_2_code, exceptionTable := #[], attributes := #[] }
def k9m1 : Method := { name := "charAt", desc := "([BI)C", sig := { parameters := [(.array .byte), .int], returnType := some .char }, accessFlags := 9, code := some k9c1 }
def k9c2 : Code := { maxStack := 3, maxLocals := 3, code := jdk_43_method_13_code, exceptionTable := #[], attributes := #[] }
def k9m2 : Method := { name := "equals", desc := "([B[B)Z", sig := { parameters := [(.array .byte), (.array .byte)], returnType := some .boolean }, accessFlags := 9, code := some k9c2 }
/-- java/lang/StringLatin1 -/
def k9 : Class := { plain "java/lang/StringLatin1" (some 0) with
  accessFlags := 48
  interfaces := #[]
  cf := some (fileOf pool9 14 #[.nestMembers #[390, 221]] #[{ accessFlags := 0, nameIndex := 7, descriptorIndex := 8, attributes := #[] }, { accessFlags := 9, nameIndex := 252, descriptorIndex := 53, attributes := #[] }, { accessFlags := 9, nameIndex := 281, descriptorIndex := 282, attributes := #[] }] 48 4 #[] #[{ accessFlags := 4120, nameIndex := 121, descriptorIndex := 122, attributes := #[] }])
  fields := #[{ name := "$assertionsDisabled", type := .boolean, accessFlags := 4120, slot := 0, constantValue := 0 }]
  methods := #[k9m0, k9m1, k9m2]
  instanceTypes := #[]
  staticTypes := #[.boolean]
  resolved := Array.replicate 395 none
  statics := none }

def pool10 : Array CpInfo := pool [(1, .methodref 2 3), (0, .class_ 4), (0, .nameAndType 5 6), (0, u "java/lang/Object"), (0, u "<init>"), (0, u "()V"), (0, .class_ 8), (0, u "java/lang/Record")] 13

def k10c0 : Code := { maxStack := 1, maxLocals := 1, code := jdk_30_method_1_code, exceptionTable := #[], attributes := #[] }
def k10m0 : Method := { name := "<init>", desc := "()V", sig := { parameters := [], returnType := none }, accessFlags := 4, code := some k10c0 }
/-- java/lang/Record -/
def k10 : Class := { plain "java/lang/Record" (some 0) with
  accessFlags := 1057
  interfaces := #[]
  cf := some (fileOf pool10 7 #[] #[{ accessFlags := 4, nameIndex := 5, descriptorIndex := 6, attributes := #[] }] 1057 2 #[] #[])
  fields := #[]
  methods := #[k10m0]
  instanceTypes := #[]
  staticTypes := #[]
  resolved := Array.replicate 22 none
  statics := none }

def pool11 : Array CpInfo := pool [(1, .methodref 2 3), (0, .class_ 4), (0, .nameAndType 5 6), (0, u "java/lang/Record"), (0, u "<init>"), (0, u "()V"), (0, .string 8), (0, u "lock name"), (0, .methodref 10 11), (0, .class_ 12), (0, .nameAndType 13 14), (0, u "java/util/Objects"), (0, u "requireNonNull"), (0, u "(Ljava/lang/Object;Ljava/lang/String;)Ljava/lang/Object;"), (0, .methodref 16 17), (0, .class_ 18), (0, .nameAndType 19 20), (0, u "java/lang/String"), (0, u "isEmpty"), (0, u "()Z"), (0, .methodref 16 22), (0, .nameAndType 23 24), (0, u "length"), (0, u "()I"), (0, .class_ 26), (0, u "com/example/fair_lock/fairlock/LockName"), (17, u "()Ljava/lang/String;"), (2, u "(Ljava/lang/String;)V"), (0, .methodref 16 49), (0, .nameAndType 50 51), (0, u "charAt"), (0, u "(I)C"), (0, .methodref 25 53), (0, .nameAndType 54 55), (0, u "isAllowed"), (0, u "(C)Z"), (14, .string 71), (0, u "."), (0, .methodref 16 73), (0, .nameAndType 74 75), (0, u "equals"), (0, u "(Ljava/lang/Object;)Z"), (0, .string 77), (0, u ".."), (4, .fieldref 25 83), (0, .nameAndType 84 85), (0, u "value"), (0, u "Ljava/lang/String;"), (10, u "MAX_LENGTH"), (0, u "I")] 25

def k11c0 : Code := { maxStack := 7, maxLocals := 4, code := prog_5_method_1_code, exceptionTable := #[], attributes := #[] }
def k11m0 : Method := { name := "<init>", desc := "(Ljava/lang/String;)V", sig := { parameters := [(.object "java/lang/String")], returnType := none }, accessFlags := 0, code := some k11c0 }
def k11c1 : Code := { maxStack := 2, maxLocals := 1, code := prog_5_method_2_code, exceptionTable := #[], attributes := #[] }
def k11m1 : Method := { name := "isAllowed", desc := "(C)Z", sig := { parameters := [.char], returnType := some .boolean }, accessFlags := 10, code := some k11c1 }
def k11c2 : Code := { maxStack := 1, maxLocals := 1, code := prog_5_method_6_code, exceptionTable := #[], attributes := #[] }
def k11m2 : Method := { name := "value", desc := "()Ljava/lang/String;", sig := { parameters := [], returnType := some (.object "java/lang/String") }, accessFlags := 1, code := some k11c2 }
/-- com/example/fair_lock/fairlock/LockName -/
def k11 : Class := { plain "com/example/fair_lock/fairlock/LockName" (some 10) with
  accessFlags := 48
  interfaces := #[]
  cf := some (fileOf pool11 25 #[] #[{ accessFlags := 0, nameIndex := 5, descriptorIndex := 47, attributes := #[] }, { accessFlags := 10, nameIndex := 54, descriptorIndex := 55, attributes := #[] }, { accessFlags := 1, nameIndex := 84, descriptorIndex := 44, attributes := #[] }] 48 2 #[] #[{ accessFlags := 18, nameIndex := 84, descriptorIndex := 85, attributes := #[] }, { accessFlags := 24, nameIndex := 96, descriptorIndex := 97, attributes := #[] }])
  fields := #[{ name := "value", type := (.object "java/lang/String"), accessFlags := 18, slot := 0, constantValue := 0 }, { name := "MAX_LENGTH", type := .int, accessFlags := 24, slot := 0, constantValue := 0 }]
  methods := #[k11m0, k11m1, k11m2]
  instanceTypes := #[(.object "java/lang/String")]
  staticTypes := #[.int]
  resolved := Array.replicate 123 none
  statics := none }

def pool12 : Array CpInfo := pool [(2, .class_ 4), (1, u "java/lang/Object"), (0, u "<init>"), (0, u "()V"), (35, .class_ 44), (1, u "java/util/Objects"), (0, u "requireNonNull"), (48, u "(Ljava/lang/Object;Ljava/lang/String;)Ljava/lang/Object;")] 89

def k12m0 : Method := { name := "<init>", desc := "()V", sig := { parameters := [], returnType := none }, accessFlags := 2, code := none }
def k12c1 : Code := { maxStack := 3, maxLocals := 2, code := jdk_31_method_11_code, exceptionTable := #[], attributes := #[] }
def k12m1 : Method := { name := "requireNonNull", desc := "(Ljava/lang/Object;Ljava/lang/String;)Ljava/lang/Object;", sig := { parameters := [(.object "java/lang/Object"), (.object "java/lang/String")], returnType := some (.object "java/lang/Object") }, accessFlags := 9, code := some k12c1 }
/-- java/util/Objects -/
def k12 : Class := { plain "java/util/Objects" (some 0) with
  accessFlags := 49
  interfaces := #[]
  cf := some (fileOf pool12 42 #[] #[{ accessFlags := 2, nameIndex := 5, descriptorIndex := 6, attributes := #[] }, { accessFlags := 9, nameIndex := 45, descriptorIndex := 94, attributes := #[] }] 49 2 #[] #[])
  fields := #[]
  methods := #[k12m0, k12m1]
  instanceTypes := #[]
  staticTypes := #[]
  resolved := Array.replicate 184 none
  statics := none }

def pool13 : Array CpInfo := pool [(2, .class_ 4), (1, u "java/lang/Object"), (0, u "<init>"), (0, u "()V"), (17, .class_ 26), (1, u "jdk/internal/util/Preconditions"), (6, u "checkIndex"), (21, .class_ 56), (0, u "jdk/internal/util/Preconditions$4"), (57, .class_ 115), (0, u "jdk/internal/util/Preconditions$1"), (7, u "SIOOBE_FORMATTER"), (0, u "Ljava/util/function/BiFunction;"), (0, .class_ 126), (0, u "jdk/internal/util/Preconditions$2"), (3, u "AIOOBE_FORMATTER"), (0, .class_ 132), (0, u "jdk/internal/util/Preconditions$3"), (3, u "IOOBE_FORMATTER"), (41, u "(IILjava/util/function/BiFunction;)I")] 15

def k13m0 : Method := { name := "<init>", desc := "()V", sig := { parameters := [], returnType := none }, accessFlags := 1, code := none }
def k13c1 : Code := { maxStack := 3, maxLocals := 3, code := jdk_41_method_11_code, exceptionTable := #[], attributes := #[] }
def k13m1 : Method := { name := "checkIndex", desc := "(IILjava/util/function/BiFunction;)I", sig := { parameters := [.int, .int, (.object "java/util/function/BiFunction")], returnType := some .int }, accessFlags := 9, code := some k13c1 }
/-- jdk/internal/util/Preconditions -/
def k13 : Class := { plain "jdk/internal/util/Preconditions" (some 0) with
  accessFlags := 33
  interfaces := #[]
  cf := some (fileOf pool13 24 #[.nestMembers #[55, 131, 125, 114]] #[{ accessFlags := 1, nameIndex := 5, descriptorIndex := 6, attributes := #[] }, { accessFlags := 9, nameIndex := 33, descriptorIndex := 178, attributes := #[] }] 33 2 #[] #[{ accessFlags := 25, nameIndex := 123, descriptorIndex := 124, attributes := #[] }, { accessFlags := 25, nameIndex := 130, descriptorIndex := 124, attributes := #[] }, { accessFlags := 25, nameIndex := 136, descriptorIndex := 124, attributes := #[] }])
  fields := #[{ name := "SIOOBE_FORMATTER", type := (.object "java/util/function/BiFunction"), accessFlags := 25, slot := 0, constantValue := 0 }, { name := "AIOOBE_FORMATTER", type := (.object "java/util/function/BiFunction"), accessFlags := 25, slot := 1, constantValue := 0 }, { name := "IOOBE_FORMATTER", type := (.object "java/util/function/BiFunction"), accessFlags := 25, slot := 2, constantValue := 0 }]
  methods := #[k13m0, k13m1]
  instanceTypes := #[]
  staticTypes := #[(.object "java/util/function/BiFunction"), (.object "java/util/function/BiFunction"), (.object "java/util/function/BiFunction")]
  resolved := Array.replicate 194 none
  statics := some 1 }

def pool14 : Array CpInfo := pool [(2, .class_ 4), (1, u "java/lang/Enum"), (0, u "name"), (0, u "Ljava/lang/String;"), (2, u "ordinal"), (0, u "I"), (1, .class_ 14), (1, u "java/lang/Object"), (4, u "hash"), (86, .class_ 108), (1, u "java/lang/Enum$EnumDesc"), (2, .class_ 112), (0, u "java/lang/constant/Constable"), (0, .class_ 114), (0, u "java/lang/Comparable"), (0, .class_ 116), (0, u "java/io/Serializable")] 87

/-- java/lang/Enum -/
def k14 : Class := { plain "java/lang/Enum" (some 0) with
  accessFlags := 1057
  interfaces := #[5, 3, 2]
  cf := some (fileOf pool14 2 #[.nestMembers #[106]] #[] 1057 12 #[111, 113, 115] #[{ accessFlags := 18, nameIndex := 5, descriptorIndex := 6, attributes := #[] }, { accessFlags := 18, nameIndex := 9, descriptorIndex := 10, attributes := #[] }, { accessFlags := 2, nameIndex := 19, descriptorIndex := 10, attributes := #[] }])
  fields := #[{ name := "name", type := (.object "java/lang/String"), accessFlags := 18, slot := 0, constantValue := 0 }, { name := "ordinal", type := .int, accessFlags := 18, slot := 1, constantValue := 0 }, { name := "hash", type := .int, accessFlags := 2, slot := 2, constantValue := 0 }]
  methods := #[]
  instanceTypes := #[(.object "java/lang/String"), .int, .int]
  staticTypes := #[]
  resolved := Array.replicate 204 none
  statics := none }

def pool15 : Array CpInfo := pool [(1, .class_ 2), (0, u "com/example/fair_lock/fairlock/RequestKind"), (2, u "PLAIN"), (0, u "Lcom/example/fair_lock/fairlock/RequestKind;"), (2, u "READ"), (2, u "WRITE"), (2, u "CANDIDATE"), (2, u "$VALUES"), (0, u "[Lcom/example/fair_lock/fairlock/RequestKind;"), (6, .class_ 28), (1, u "java/lang/Enum"), (4, u "<init>"), (1, .fieldref 1 36), (0, .nameAndType 37 38), (0, u "noun"), (0, u "Ljava/lang/String;"), (2, u "shared"), (0, u "Z"), (0, .class_ 44), (0, u "java/lang/StringBuilder"), (0, .methodref 43 46), (0, .nameAndType 33 47), (0, u "()V"), (0, .methodref 43 49), (0, .nameAndType 50 51), (0, u "append"), (0, u "(Ljava/lang/String;)Ljava/lang/StringBuilder;"), (0, .string 53), (0, u " "), (0, .methodref 55 56), (0, .class_ 57), (0, .nameAndType 58 59), (0, u "com/example/fair_lock/fairlock/LockName"), (0, u "value"), (0, u "()Ljava/lang/String;"), (0, .methodref 43 61), (0, .nameAndType 62 59), (0, u "toString"), (30, u "describe"), (0, u "(Lcom/example/fair_lock/fairlock/LockName;)Ljava/lang/String;")] 4

def k15c0 : Code := { maxStack := 2, maxLocals := 2, code := prog_7_method_6_code, exceptionTable := #[], attributes := #[] }
def k15m0 : Method := { name := "describe", desc := "(Lcom/example/fair_lock/fairlock/LockName;)Ljava/lang/String;", sig := { parameters := [(.object "com/example/fair_lock/fairlock/LockName")], returnType := some (.object "java/lang/String") }, accessFlags := 0, code := some k15c0 }
/-- com/example/fair_lock/fairlock/RequestKind -/
def k15 : Class := { plain "com/example/fair_lock/fairlock/RequestKind" (some 14) with
  accessFlags := 16432
  interfaces := #[]
  cf := some (fileOf pool15 1 #[] #[{ accessFlags := 0, nameIndex := 93, descriptorIndex := 94, attributes := #[] }] 16432 26 #[] #[{ accessFlags := 16409, nameIndex := 5, descriptorIndex := 6, attributes := #[] }, { accessFlags := 16409, nameIndex := 9, descriptorIndex := 6, attributes := #[] }, { accessFlags := 16409, nameIndex := 12, descriptorIndex := 6, attributes := #[] }, { accessFlags := 16409, nameIndex := 15, descriptorIndex := 6, attributes := #[] }, { accessFlags := 18, nameIndex := 37, descriptorIndex := 38, attributes := #[] }, { accessFlags := 18, nameIndex := 41, descriptorIndex := 42, attributes := #[] }, { accessFlags := 4122, nameIndex := 18, descriptorIndex := 19, attributes := #[] }])
  fields := #[{ name := "PLAIN", type := (.object "com/example/fair_lock/fairlock/RequestKind"), accessFlags := 16409, slot := 0, constantValue := 0 }, { name := "READ", type := (.object "com/example/fair_lock/fairlock/RequestKind"), accessFlags := 16409, slot := 1, constantValue := 0 }, { name := "WRITE", type := (.object "com/example/fair_lock/fairlock/RequestKind"), accessFlags := 16409, slot := 2, constantValue := 0 }, { name := "CANDIDATE", type := (.object "com/example/fair_lock/fairlock/RequestKind"), accessFlags := 16409, slot := 3, constantValue := 0 }, { name := "noun", type := (.object "java/lang/String"), accessFlags := 18, slot := 3, constantValue := 0 }, { name := "shared", type := .boolean, accessFlags := 18, slot := 4, constantValue := 0 }, { name := "$VALUES", type := (.array (.object "com/example/fair_lock/fairlock/RequestKind")), accessFlags := 4122, slot := 4, constantValue := 0 }]
  methods := #[k15m0]
  instanceTypes := #[(.object "java/lang/String"), .int, .int, (.object "java/lang/String"), .boolean]
  staticTypes := #[(.object "com/example/fair_lock/fairlock/RequestKind"), (.object "com/example/fair_lock/fairlock/RequestKind"), (.object "com/example/fair_lock/fairlock/RequestKind"), (.object "com/example/fair_lock/fairlock/RequestKind"), (.array (.object "com/example/fair_lock/fairlock/RequestKind"))]
  resolved := Array.replicate 99 none
  statics := some 2 }

def pool16 : Array CpInfo := pool [(1, .class_ 2), (0, u "java/lang/Appendable"), (0, .class_ 4), (0, u "java/lang/Object")] 9

/-- java/lang/Appendable -/
def k16 : Class := { plain "java/lang/Appendable" (some 0) with
  accessFlags := 1537
  interfaces := #[]
  cf := some (fileOf pool16 1 #[] #[] 1537 3 #[] #[])
  fields := #[]
  methods := #[]
  instanceTypes := #[]
  staticTypes := #[]
  resolved := Array.replicate 14 none
  statics := none }

def pool17 : Array CpInfo := pool [(1, .class_ 2), (0, u "java/lang/String"), (0, .methodref 4 5), (0, .class_ 6), (0, .nameAndType 7 8), (0, u "java/lang/Object"), (0, u "<init>"), (0, u "()V"), (1, .class_ 12), (1, u "java/lang/AbstractStringBuilder"), (0, u "EMPTYVALUE"), (0, u "[B"), (0, .fieldref 10 16), (0, .nameAndType 17 14), (0, u "value"), (0, .fieldref 1 19), (0, .nameAndType 20 21), (0, u "COMPACT_STRINGS"), (0, u "Z"), (0, .fieldref 10 23), (0, .nameAndType 24 25), (0, u "coder"), (0, u "B"), (6, .methodref 1 33), (0, .nameAndType 34 35), (0, u "length"), (0, u "()I"), (4, .methodref 1 41), (0, .nameAndType 24 42), (0, u "()B"), (2, u "append"), (0, u "(Ljava/lang/String;)Ljava/lang/AbstractStringBuilder;"), (1, .class_ 49), (0, u "java/lang/CharSequence"), (19, u "(Ljava/lang/String;)V"), (5, u "maybeLatin1"), (3, .fieldref 10 80), (0, .nameAndType 81 82), (0, u "count"), (0, u "I"), (2, u "isLatin1"), (0, u "()Z"), (13, .methodref 10 101), (0, .nameAndType 102 103), (0, u "ensureCapacityInternal"), (0, u "(I)V"), (104, .methodref 10 209), (0, .nameAndType 210 211), (0, u "putStringAt"), (0, u "(ILjava/lang/String;)V"), (5, u "inflateIfNeededFor"), (2, .nameAndType 221 222), (0, u "getBytes"), (0, u "([BIB)V"), (174, .methodref 10 398), (0, .nameAndType 217 69), (0, .methodref 1 220), (3, u "()[B"), (40, .class_ 445), (0, u "java/lang/Appendable"), (106, u "getValue")] 56

def k17m0 : Method := { name := "<init>", desc := "()V", sig := { parameters := [], returnType := none }, accessFlags := 0, code := none }
def k17c1 : Code := { maxStack := 2, maxLocals := 2, code := jdk_68_method_2_code, exceptionTable := #[], attributes := #[] }
def k17m1 : Method := { name := "<init>", desc := "(I)V", sig := { parameters := [.int], returnType := none }, accessFlags := 0, code := some k17c1 }
def k17c2 : Code := { maxStack := 1, maxLocals := 1, code := jdk_68_method_6_code, exceptionTable := #[], attributes := #[] }
def k17m2 : Method := { name := "length", desc := "()I", sig := { parameters := [], returnType := some .int }, accessFlags := 1, code := some k17c2 }
def k17c3 : Code := { maxStack := 4, maxLocals := 3, code := jdk_68_method_9_code, exceptionTable := #[], attributes := #[] }
def k17m3 : Method := { name := "ensureCapacityInternal", desc := "(I)V", sig := { parameters := [.int], returnType := none }, accessFlags := 2, code := some k17c3 }
def k17c4 : Code := { maxStack := 3, maxLocals := 3, code := jdk_68_method_22_code, exceptionTable := #[], attributes := #[] }
def k17m4 : Method := { name := "append", desc := "(Ljava/lang/String;)Ljava/lang/AbstractStringBuilder;", sig := { parameters := [(.object "java/lang/String")], returnType := some (.object "java/lang/AbstractStringBuilder") }, accessFlags := 1, code := some k17c4 }
def k17c5 : Code := { maxStack := 1, maxLocals := 1, code := jdk_68_method_64_code, exceptionTable := #[], attributes := #[] }
def k17m5 : Method := { name := "getValue", desc := "()[B", sig := { parameters := [], returnType := some (.array .byte) }, accessFlags := 16, code := some k17c5 }
def k17c6 : Code := { maxStack := 1, maxLocals := 1, code := jdk_68_method_68_code, exceptionTable := #[], attributes := #[] }
def k17m6 : Method := { name := "isLatin1", desc := "()Z", sig := { parameters := [], returnType := some .boolean }, accessFlags := 16, code := some k17c6 }
def k17c7 : Code := { maxStack := 2, maxLocals := 2, code := jdk_68_method_71_code, exceptionTable := #[], attributes := #[] }
def k17m7 : Method := { name := "inflateIfNeededFor", desc := "(Ljava/lang/String;)V", sig := { parameters := [(.object "java/lang/String")], returnType := none }, accessFlags := 2, code := some k17c7 }
def k17c8 : Code := { maxStack := 4, maxLocals := 3, code := jdk_68_method_73_code, exceptionTable := #[], attributes := #[] }
def k17m8 : Method := { name := "putStringAt", desc := "(ILjava/lang/String;)V", sig := { parameters := [.int, (.object "java/lang/String")], returnType := none }, accessFlags := 2, code := some k17c8 }
/-- java/lang/AbstractStringBuilder -/
def k17 : Class := { plain "java/lang/AbstractStringBuilder" (some 0) with
  accessFlags := 1056
  interfaces := #[16, 4]
  cf := some (fileOf pool17 10 #[] #[{ accessFlags := 0, nameIndex := 7, descriptorIndex := 8, attributes := #[] }, { accessFlags := 0, nameIndex := 7, descriptorIndex := 103, attributes := #[] }, { accessFlags := 1, nameIndex := 34, descriptorIndex := 35, attributes := #[] }, { accessFlags := 2, nameIndex := 102, descriptorIndex := 103, attributes := #[] }, { accessFlags := 1, nameIndex := 45, descriptorIndex := 46, attributes := #[] }, { accessFlags := 16, nameIndex := 552, descriptorIndex := 403, attributes := #[] }, { accessFlags := 16, nameIndex := 85, descriptorIndex := 86, attributes := #[] }, { accessFlags := 2, nameIndex := 217, descriptorIndex := 69, attributes := #[] }, { accessFlags := 2, nameIndex := 210, descriptorIndex := 211, attributes := #[] }] 1056 4 #[444, 48] #[{ accessFlags := 0, nameIndex := 17, descriptorIndex := 14, attributes := #[] }, { accessFlags := 0, nameIndex := 24, descriptorIndex := 25, attributes := #[] }, { accessFlags := 0, nameIndex := 75, descriptorIndex := 21, attributes := #[] }, { accessFlags := 0, nameIndex := 81, descriptorIndex := 82, attributes := #[] }, { accessFlags := 26, nameIndex := 13, descriptorIndex := 14, attributes := #[] }])
  fields := #[{ name := "value", type := (.array .byte), accessFlags := 0, slot := 0, constantValue := 0 }, { name := "coder", type := .byte, accessFlags := 0, slot := 1, constantValue := 0 }, { name := "maybeLatin1", type := .boolean, accessFlags := 0, slot := 2, constantValue := 0 }, { name := "count", type := .int, accessFlags := 0, slot := 3, constantValue := 0 }, { name := "EMPTYVALUE", type := (.array .byte), accessFlags := 26, slot := 0, constantValue := 0 }]
  methods := #[k17m0, k17m1, k17m2, k17m3, k17m4, k17m5, k17m6, k17m7, k17m8]
  instanceTypes := #[(.array .byte), .byte, .boolean, .int]
  staticTypes := #[(.array .byte)]
  resolved := Array.replicate 609 none
  statics := none }

def pool18 : Array CpInfo := pool [(1, .methodref 2 3), (0, .class_ 4), (0, .nameAndType 5 6), (0, u "java/lang/AbstractStringBuilder"), (0, u "<init>"), (0, u "(I)V"), (11, .class_ 20), (1, u "java/lang/String"), (3, .class_ 26), (1, u "java/lang/StringBuilder"), (0, u "append"), (0, u "(Ljava/lang/String;)Ljava/lang/StringBuilder;"), (0, .methodref 2 30), (0, .nameAndType 27 31), (0, u "(Ljava/lang/String;)Ljava/lang/AbstractStringBuilder;"), (105, .methodref 18 138), (0, .nameAndType 5 139), (0, u "(Ljava/lang/StringBuilder;)V"), (5, u "()V"), (10, u "()I"), (186, .methodref 2 344), (0, .nameAndType 345 156), (0, u "length"), (3, .class_ 350), (0, u "java/lang/Appendable"), (0, .class_ 352), (0, u "java/io/Serializable"), (0, .class_ 354), (0, u "java/lang/Comparable"), (0, .class_ 356), (0, u "java/lang/CharSequence"), (0, u "serialVersionUID"), (0, u "J"), (40, u "toString"), (0, u "()Ljava/lang/String;")] 21

def k18c0 : Code := { maxStack := 2, maxLocals := 1, code := jdk_67_method_1_code, exceptionTable := #[], attributes := #[] }
def k18m0 : Method := { name := "<init>", desc := "()V", sig := { parameters := [], returnType := none }, accessFlags := 1, code := some k18c0 }
def k18c1 : Code := { maxStack := 2, maxLocals := 2, code := jdk_67_method_7_code, exceptionTable := #[], attributes := #[] }
def k18m1 : Method := { name := "append", desc := "(Ljava/lang/String;)Ljava/lang/StringBuilder;", sig := { parameters := [(.object "java/lang/String")], returnType := some (.object "java/lang/StringBuilder") }, accessFlags := 1, code := some k18c1 }
def k18c2 : Code := { maxStack := 3, maxLocals := 1, code := jdk_67_method_42_code, exceptionTable := #[], attributes := #[] }
def k18m2 : Method := { name := "toString", desc := "()Ljava/lang/String;", sig := { parameters := [], returnType := some (.object "java/lang/String") }, accessFlags := 1, code := some k18c2 }
def k18c3 : Code := { maxStack := 1, maxLocals := 1, code := jdk_67_method_93_code, exceptionTable := #[], attributes := #[] }
def k18m3 : Method := { name := "length", desc := "()I", sig := { parameters := [], returnType := some .int }, accessFlags := 4161, code := some k18c3 }
/-- java/lang/StringBuilder -/
def k18 : Class := { plain "java/lang/StringBuilder" (some 17) with
  accessFlags := 49
  interfaces := #[16, 2, 3, 4]
  cf := some (fileOf pool18 24 #[] #[{ accessFlags := 1, nameIndex := 5, descriptorIndex := 145, attributes := #[] }, { accessFlags := 1, nameIndex := 27, descriptorIndex := 28, attributes := #[] }, { accessFlags := 1, nameIndex := 399, descriptorIndex := 400, attributes := #[] }, { accessFlags := 4161, nameIndex := 345, descriptorIndex := 156, attributes := #[] }] 49 2 #[349, 351, 353, 355] #[{ accessFlags := 24, nameIndex := 357, descriptorIndex := 358, attributes := #[] }])
  fields := #[{ name := "serialVersionUID", type := .long, accessFlags := 24, slot := 0, constantValue := 0 }]
  methods := #[k18m0, k18m1, k18m2, k18m3]
  instanceTypes := #[(.array .byte), .byte, .boolean, .int]
  staticTypes := #[.long]
  resolved := Array.replicate 422 none
  statics := none }

def pool19 : Array CpInfo := pool [(2, .class_ 4), (1, u "java/lang/Object"), (0, u "<init>"), (0, u "()V"), (1, .class_ 10), (1, u "java/lang/System"), (0, u "allowSecurityManager"), (0, u "I"), (16, u "cons"), (0, u "Ljava/io/Console;"), (77, .class_ 110), (1, u "java/lang/System$CallersHolder"), (43, u "initialErrStream"), (0, u "Ljava/io/PrintStream;"), (19, u "security"), (0, u "Ljava/lang/SecurityManager;"), (31, .class_ 209), (0, u "java/lang/System$1"), (7, u "props"), (0, u "Ljava/util/Properties;"), (2, u "lineSeparator"), (0, u "Ljava/lang/String;"), (96, .class_ 321), (1, u "java/lang/System$LoggerFinder"), (5, .class_ 328), (0, u "java/lang/System$Logger"), (67, u "err"), (2, u "out"), (91, u "notSupportedJnuEncoding"), (15, u "in"), (17, u "initialIn"), (0, u "Ljava/io/InputStream;"), (35, u "bootLayer"), (0, u "Ljava/lang/ModuleLayer;"), (99, .class_ 664), (0, u "java/lang/System$2"), (9, u "NEVER"), (2, u "MAYBE"), (49, u "arraycopy"), (0, u "(Ljava/lang/Object;ILjava/lang/Object;II)V"), (72, .class_ 802), (0, u "java/lang/System$Logger$Level")] 31

def k19m0 : Method := { name := "<init>", desc := "()V", sig := { parameters := [], returnType := none }, accessFlags := 2, code := none }
def k19m1 : Method := { name := "arraycopy", desc := "(Ljava/lang/Object;ILjava/lang/Object;II)V", sig := { parameters := [(.object "java/lang/Object"), .int, (.object "java/lang/Object"), .int, .int], returnType := none }, accessFlags := 265, code := none }
/-- java/lang/System -/
def k19 : Class := { plain "java/lang/System" (some 0) with
  accessFlags := 49
  interfaces := #[]
  cf := some (fileOf pool19 8 #[.nestMembers #[319, 327, 801, 108, 663, 208]] #[{ accessFlags := 2, nameIndex := 5, descriptorIndex := 6, attributes := #[] }, { accessFlags := 265, nameIndex := 727, descriptorIndex := 728, attributes := #[] }] 49 2 #[] #[{ accessFlags := 25, nameIndex := 507, descriptorIndex := 526, attributes := #[] }, { accessFlags := 25, nameIndex := 399, descriptorIndex := 155, attributes := #[] }, { accessFlags := 25, nameIndex := 396, descriptorIndex := 155, attributes := #[] }, { accessFlags := 10, nameIndex := 525, descriptorIndex := 526, attributes := #[] }, { accessFlags := 26, nameIndex := 674, descriptorIndex := 12, attributes := #[] }, { accessFlags := 26, nameIndex := 677, descriptorIndex := 12, attributes := #[] }, { accessFlags := 10, nameIndex := 11, descriptorIndex := 12, attributes := #[] }, { accessFlags := 74, nameIndex := 175, descriptorIndex := 176, attributes := #[] }, { accessFlags := 10, nameIndex := 491, descriptorIndex := 222, attributes := #[] }, { accessFlags := 74, nameIndex := 29, descriptorIndex := 30, attributes := #[] }, { accessFlags := 74, nameIndex := 154, descriptorIndex := 155, attributes := #[] }, { accessFlags := 10, nameIndex := 217, descriptorIndex := 218, attributes := #[] }, { accessFlags := 10, nameIndex := 221, descriptorIndex := 222, attributes := #[] }, { accessFlags := 8, nameIndex := 562, descriptorIndex := 563, attributes := #[] }])
  fields := #[{ name := "in", type := (.object "java/io/InputStream"), accessFlags := 25, slot := 0, constantValue := 0 }, { name := "out", type := (.object "java/io/PrintStream"), accessFlags := 25, slot := 1, constantValue := 0 }, { name := "err", type := (.object "java/io/PrintStream"), accessFlags := 25, slot := 2, constantValue := 0 }, { name := "initialIn", type := (.object "java/io/InputStream"), accessFlags := 10, slot := 3, constantValue := 0 }, { name := "NEVER", type := .int, accessFlags := 26, slot := 4, constantValue := 0 }, { name := "MAYBE", type := .int, accessFlags := 26, slot := 5, constantValue := 0 }, { name := "allowSecurityManager", type := .int, accessFlags := 10, slot := 6, constantValue := 0 }, { name := "security", type := (.object "java/lang/SecurityManager"), accessFlags := 74, slot := 7, constantValue := 0 }, { name := "notSupportedJnuEncoding", type := (.object "java/lang/String"), accessFlags := 10, slot := 8, constantValue := 0 }, { name := "cons", type := (.object "java/io/Console"), accessFlags := 74, slot := 9, constantValue := 0 }, { name := "initialErrStream", type := (.object "java/io/PrintStream"), accessFlags := 74, slot := 10, constantValue := 0 }, { name := "props", type := (.object "java/util/Properties"), accessFlags := 10, slot := 11, constantValue := 0 }, { name := "lineSeparator", type := (.object "java/lang/String"), accessFlags := 10, slot := 12, constantValue := 0 }, { name := "bootLayer", type := (.object "java/lang/ModuleLayer"), accessFlags := 8, slot := 13, constantValue := 0 }]
  methods := #[k19m0, k19m1]
  instanceTypes := #[]
  staticTypes := #[(.object "java/io/InputStream"), (.object "java/io/PrintStream"), (.object "java/io/PrintStream"), (.object "java/io/InputStream"), .int, .int, .int, (.object "java/lang/SecurityManager"), (.object "java/lang/String"), (.object "java/io/Console"), (.object "java/io/PrintStream"), (.object "java/util/Properties"), (.object "java/lang/String"), (.object "java/lang/ModuleLayer")]
  resolved := Array.replicate 834 none
  statics := none }

def pool20 : Array CpInfo := pool [(2, .class_ 4), (1, u "java/lang/Object"), (0, u "<init>"), (0, u "()V"), (7, .class_ 16), (1, u "java/util/Arrays"), (57, .class_ 76), (1, u "java/util/Arrays$NaturalOrder"), (36, .class_ 115), (1, u "java/util/Arrays$LegacyMergeSort"), (1, u "Z"), (21, u "copyOfRange"), (10, .methodref 151 152), (0, .class_ 153), (0, .nameAndType 154 155), (0, u "java/lang/System"), (0, u "arraycopy"), (0, u "(Ljava/lang/Object;ILjava/lang/Object;II)V"), (148, .methodref 305 306), (0, .class_ 307), (0, .nameAndType 308 309), (0, u "java/lang/Math"), (0, u "min"), (0, u "(II)I"), (29, .methodref 14 340), (0, .nameAndType 341 342), (0, u "copyOfRangeByte"), (0, u "([BII)[B"), (0, .methodref 14 344), (0, .nameAndType 345 346), (0, u "checkLength"), (0, u "(II)V"), (28, .class_ 376), (0, u "java/util/Arrays$ArrayList"), (68, u "$assertionsDisabled"), (269, u "MIN_ARRAY_SORT_GRAN"), (0, u "I"), (2, u "INSERTIONSORT_THRESHOLD"), (255, .class_ 976), (0, u "java/util/Arrays$ArrayItr")] 52

def k20m0 : Method := { name := "<init>", desc := "()V", sig := { parameters := [], returnType := none }, accessFlags := 2, code := none }
def k20c1 : Code := { maxStack := 4, maxLocals := 2, code := jdk_65_method_131_code, exceptionTable := #[], attributes := #[] }
def k20m1 : Method := { name := "checkLength", desc := "(II)V", sig := { parameters := [.int, .int], returnType := none }, accessFlags := 10, code := some k20c1 }
def k20c2 : Code := { maxStack := 3, maxLocals := 3, code := jdk_65_method_132_code, exceptionTable := #[], attributes := #[] }
def k20m2 : Method := { name := "copyOfRange", desc := "([BII)[B", sig := { parameters := [(.array .byte), .int, .int], returnType := some (.array .byte) }, accessFlags := 9, code := some k20c2 }
def k20c3 : Code := { maxStack := 6, maxLocals := 5, code := jdk_65_method_133_code, exceptionTable := #[], attributes := #[] }
def k20m3 : Method := { name := "copyOfRangeByte", desc := "([BII)[B", sig := { parameters := [(.array .byte), .int, .int], returnType := some (.array .byte) }, accessFlags := 10, code := some k20c3 }
/-- java/util/Arrays -/
def k20 : Class := { plain "java/util/Arrays" (some 0) with
  accessFlags := 49
  interfaces := #[]
  cf := some (fileOf pool20 14 #[.nestMembers #[975, 375, 113, 74]] #[{ accessFlags := 2, nameIndex := 5, descriptorIndex := 6, attributes := #[] }, { accessFlags := 10, nameIndex := 345, descriptorIndex := 346, attributes := #[] }, { accessFlags := 9, nameIndex := 139, descriptorIndex := 342, attributes := #[] }, { accessFlags := 10, nameIndex := 341, descriptorIndex := 342, attributes := #[] }] 49 2 #[] #[{ accessFlags := 26, nameIndex := 715, descriptorIndex := 716, attributes := #[] }, { accessFlags := 26, nameIndex := 719, descriptorIndex := 716, attributes := #[] }, { accessFlags := 4120, nameIndex := 445, descriptorIndex := 117, attributes := #[] }])
  fields := #[{ name := "MIN_ARRAY_SORT_GRAN", type := .int, accessFlags := 26, slot := 0, constantValue := 0 }, { name := "INSERTIONSORT_THRESHOLD", type := .int, accessFlags := 26, slot := 1, constantValue := 0 }, { name := "$assertionsDisabled", type := .boolean, accessFlags := 4120, slot := 2, constantValue := 0 }]
  methods := #[k20m0, k20m1, k20m2, k20m3]
  instanceTypes := #[]
  staticTypes := #[.int, .int, .boolean]
  resolved := Array.replicate 1029 none
  statics := none }

def pool21 : Array CpInfo := pool [(1, .class_ 2), (0, u "java/lang/Math"), (1, .class_ 6), (1, u "java/lang/Object"), (0, u "<init>"), (0, u "()V"), (89, .class_ 100), (1, u "java/lang/Math$RandomNumberGeneratorHolder"), (71, u "negativeZeroFloatBits"), (0, u "J"), (2, u "negativeZeroDoubleBits"), (24, u "min"), (43, u "$assertionsDisabled"), (0, u "Z"), (88, u "(II)I"), (2, u "twoToTheDoubleScaleDown"), (0, u "D"), (4, u "twoToTheDoubleScaleUp"), (9, u "E"), (3, u "PI"), (2, u "TAU"), (2, u "DEGREES_TO_RADIANS"), (0, u "RADIANS_TO_DEGREES")] 94

def k21m0 : Method := { name := "<init>", desc := "()V", sig := { parameters := [], returnType := none }, accessFlags := 2, code := none }
def k21c1 : Code := { maxStack := 2, maxLocals := 2, code := jdk_29_method_69_code, exceptionTable := #[], attributes := #[] }
def k21m1 : Method := { name := "min", desc := "(II)I", sig := { parameters := [.int, .int], returnType := some .int }, accessFlags := 9, code := some k21c1 }
/-- java/lang/Math -/
def k21 : Class := { plain "java/lang/Math" (some 0) with
  accessFlags := 49
  interfaces := #[]
  cf := some (fileOf pool21 1 #[.nestMembers #[98]] #[{ accessFlags := 2, nameIndex := 7, descriptorIndex := 8, attributes := #[] }, { accessFlags := 9, nameIndex := 201, descriptorIndex := 335, attributes := #[] }] 49 4 #[] #[{ accessFlags := 25, nameIndex := 354, descriptorIndex := 339, attributes := #[] }, { accessFlags := 25, nameIndex := 358, descriptorIndex := 339, attributes := #[] }, { accessFlags := 25, nameIndex := 361, descriptorIndex := 339, attributes := #[] }, { accessFlags := 26, nameIndex := 364, descriptorIndex := 339, attributes := #[] }, { accessFlags := 26, nameIndex := 365, descriptorIndex := 339, attributes := #[] }, { accessFlags := 26, nameIndex := 172, descriptorIndex := 173, attributes := #[] }, { accessFlags := 26, nameIndex := 176, descriptorIndex := 173, attributes := #[] }, { accessFlags := 8, nameIndex := 344, descriptorIndex := 339, attributes := #[] }, { accessFlags := 8, nameIndex := 338, descriptorIndex := 339, attributes := #[] }, { accessFlags := 4120, nameIndex := 245, descriptorIndex := 246, attributes := #[] }])
  fields := #[{ name := "E", type := .double, accessFlags := 25, slot := 0, constantValue := 0 }, { name := "PI", type := .double, accessFlags := 25, slot := 1, constantValue := 0 }, { name := "TAU", type := .double, accessFlags := 25, slot := 2, constantValue := 0 }, { name := "DEGREES_TO_RADIANS", type := .double, accessFlags := 26, slot := 3, constantValue := 0 }, { name := "RADIANS_TO_DEGREES", type := .double, accessFlags := 26, slot := 4, constantValue := 0 }, { name := "negativeZeroFloatBits", type := .long, accessFlags := 26, slot := 5, constantValue := 0 }, { name := "negativeZeroDoubleBits", type := .long, accessFlags := 26, slot := 6, constantValue := 0 }, { name := "twoToTheDoubleScaleUp", type := .double, accessFlags := 8, slot := 7, constantValue := 0 }, { name := "twoToTheDoubleScaleDown", type := .double, accessFlags := 8, slot := 8, constantValue := 0 }, { name := "$assertionsDisabled", type := .boolean, accessFlags := 4120, slot := 9, constantValue := 0 }]
  methods := #[k21m0, k21m1]
  instanceTypes := #[]
  staticTypes := #[.double, .double, .double, .double, .double, .long, .long, .double, .double, .boolean]
  resolved := Array.replicate 460 none
  statics := none }

def pool22 : Array CpInfo := pool [(9, u "<init>"), (6, .class_ 18), (1, u "java/lang/Object"), (0, u "()V"), (1, .class_ 23), (1, u "jdk/internal/util/ArraysSupport"), (0, u "LOG2_ARRAY_LONG_INDEX_SCALE"), (0, u "I"), (2, u "U"), (0, u "Ljdk/internal/misc/Unsafe;"), (8, u "BIG_ENDIAN"), (0, u "Z"), (8, u "LOG2_BYTE_BIT_SIZE"), (4, u "LOG2_ARRAY_INT_INDEX_SCALE"), (54, u "JLA"), (0, u "Ljdk/internal/access/JavaLangAccess;"), (11, u "LOG2_ARRAY_BOOLEAN_INDEX_SCALE"), (9, u "LOG2_ARRAY_BYTE_INDEX_SCALE"), (5, u "LOG2_ARRAY_CHAR_INDEX_SCALE"), (5, u "LOG2_ARRAY_SHORT_INDEX_SCALE"), (18, u "LOG2_ARRAY_FLOAT_INDEX_SCALE"), (24, u "LOG2_ARRAY_DOUBLE_INDEX_SCALE"), (89, u "T_BOOLEAN"), (2, u "T_CHAR"), (1, u "T_FLOAT"), (1, u "T_DOUBLE"), (1, u "T_BYTE"), (1, u "T_SHORT"), (1, u "T_INT"), (1, u "T_LONG"), (1, u "SOFT_MAX_ARRAY_LENGTH")] 83

def k22m0 : Method := { name := "<init>", desc := "()V", sig := { parameters := [], returnType := none }, accessFlags := 2, code := none }
/-- jdk/internal/util/ArraysSupport -/
def k22 : Class := { plain "jdk/internal/util/ArraysSupport" (some 0) with
  accessFlags := 33
  interfaces := #[]
  cf := some (fileOf pool22 21 #[] #[{ accessFlags := 2, nameIndex := 9, descriptorIndex := 19, attributes := #[] }] 33 16 #[] #[{ accessFlags := 24, nameIndex := 28, descriptorIndex := 29, attributes := #[] }, { accessFlags := 26, nameIndex := 38, descriptorIndex := 39, attributes := #[] }, { accessFlags := 25, nameIndex := 121, descriptorIndex := 25, attributes := #[] }, { accessFlags := 25, nameIndex := 131, descriptorIndex := 25, attributes := #[] }, { accessFlags := 25, nameIndex := 137, descriptorIndex := 25, attributes := #[] }, { accessFlags := 25, nameIndex := 143, descriptorIndex := 25, attributes := #[] }, { accessFlags := 25, nameIndex := 53, descriptorIndex := 25, attributes := #[] }, { accessFlags := 25, nameIndex := 24, descriptorIndex := 25, attributes := #[] }, { accessFlags := 25, nameIndex := 162, descriptorIndex := 25, attributes := #[] }, { accessFlags := 25, nameIndex := 187, descriptorIndex := 25, attributes := #[] }, { accessFlags := 26, nameIndex := 48, descriptorIndex := 25, attributes := #[] }, { accessFlags := 25, nameIndex := 277, descriptorIndex := 25, attributes := #[] }, { accessFlags := 25, nameIndex := 280, descriptorIndex := 25, attributes := #[] }, { accessFlags := 25, nameIndex := 282, descriptorIndex := 25, attributes := #[] }, { accessFlags := 25, nameIndex := 284, descriptorIndex := 25, attributes := #[] }, { accessFlags := 25, nameIndex := 286, descriptorIndex := 25, attributes := #[] }, { accessFlags := 25, nameIndex := 288, descriptorIndex := 25, attributes := #[] }, { accessFlags := 25, nameIndex := 290, descriptorIndex := 25, attributes := #[] }, { accessFlags := 25, nameIndex := 292, descriptorIndex := 25, attributes := #[] }, { accessFlags := 26, nameIndex := 108, descriptorIndex := 109, attributes := #[] }, { accessFlags := 25, nameIndex := 294, descriptorIndex := 25, attributes := #[] }])
  fields := #[{ name := "U", type := (.object "jdk/internal/misc/Unsafe"), accessFlags := 24, slot := 0, constantValue := 0 }, { name := "BIG_ENDIAN", type := .boolean, accessFlags := 26, slot := 1, constantValue := 0 }, { name := "LOG2_ARRAY_BOOLEAN_INDEX_SCALE", type := .int, accessFlags := 25, slot := 2, constantValue := 0 }, { name := "LOG2_ARRAY_BYTE_INDEX_SCALE", type := .int, accessFlags := 25, slot := 3, constantValue := 0 }, { name := "LOG2_ARRAY_CHAR_INDEX_SCALE", type := .int, accessFlags := 25, slot := 4, constantValue := 0 }, { name := "LOG2_ARRAY_SHORT_INDEX_SCALE", type := .int, accessFlags := 25, slot := 5, constantValue := 0 }, { name := "LOG2_ARRAY_INT_INDEX_SCALE", type := .int, accessFlags := 25, slot := 6, constantValue := 0 }, { name := "LOG2_ARRAY_LONG_INDEX_SCALE", type := .int, accessFlags := 25, slot := 7, constantValue := 0 }, { name := "LOG2_ARRAY_FLOAT_INDEX_SCALE", type := .int, accessFlags := 25, slot := 8, constantValue := 0 }, { name := "LOG2_ARRAY_DOUBLE_INDEX_SCALE", type := .int, accessFlags := 25, slot := 9, constantValue := 0 }, { name := "LOG2_BYTE_BIT_SIZE", type := .int, accessFlags := 26, slot := 10, constantValue := 0 }, { name := "T_BOOLEAN", type := .int, accessFlags := 25, slot := 11, constantValue := 0 }, { name := "T_CHAR", type := .int, accessFlags := 25, slot := 12, constantValue := 0 }, { name := "T_FLOAT", type := .int, accessFlags := 25, slot := 13, constantValue := 0 }, { name := "T_DOUBLE", type := .int, accessFlags := 25, slot := 14, constantValue := 0 }, { name := "T_BYTE", type := .int, accessFlags := 25, slot := 15, constantValue := 0 }, { name := "T_SHORT", type := .int, accessFlags := 25, slot := 16, constantValue := 0 }, { name := "T_INT", type := .int, accessFlags := 25, slot := 17, constantValue := 0 }, { name := "T_LONG", type := .int, accessFlags := 25, slot := 18, constantValue := 0 }, { name := "JLA", type := (.object "jdk/internal/access/JavaLangAccess"), accessFlags := 26, slot := 19, constantValue := 0 }, { name := "SOFT_MAX_ARRAY_LENGTH", type := .int, accessFlags := 25, slot := 20, constantValue := 0 }]
  methods := #[k22m0]
  instanceTypes := #[]
  staticTypes := #[(.object "jdk/internal/misc/Unsafe"), .boolean, .int, .int, .int, .int, .int, .int, .int, .int, .int, .int, .int, .int, .int, .int, .int, .int, .int, (.object "jdk/internal/access/JavaLangAccess"), .int]
  resolved := Array.replicate 378 none
  statics := none }

def pool23 : Array CpInfo := pool [(1, u "java/lang/Cloneable"), (0, .class_ 1), (0, u "java/lang/Object"), (0, .class_ 3)] 3

/-- java/lang/Cloneable -/
def k23 : Class := { plain "java/lang/Cloneable" (some 0) with
  accessFlags := 1537
  interfaces := #[]
  cf := some (fileOf pool23 2 #[] #[] 1537 4 #[] #[])
  fields := #[]
  methods := #[]
  instanceTypes := #[]
  staticTypes := #[]
  resolved := Array.replicate 8 none
  statics := none }

/-- the primitive byte -/
def k24 : Class := { plain "byte" none with kind := .primitive 'B', accessFlags := 0x411 }
/-- [B -/
def k25 : Class := { plain "[B" (some 0) with kind := .array 24 .byte, interfaces := #[23, 2], accessFlags := 1041 }

/-- the primitive char -/
def k26 : Class := { plain "char" none with kind := .primitive 'C', accessFlags := 0x411 }
/-- [C -/
def k27 : Class := { plain "[C" (some 0) with kind := .array 26 .char, interfaces := #[23, 2], accessFlags := 1041 }

def heap : Heap := #[{ cls := 7, slots := #[.long 0, .int 1, .null, .int 0, .null, .int 0, .int 0], vm := .statics 7 },
  { cls := 13, slots := #[.null, .null, .null], vm := .statics 13 },
  { cls := 15, slots := #[.ref 3, .ref 12, .ref 9, .ref 6, .null], vm := .statics 15 },
  { cls := 15, slots := #[.null, .int 0, .int 0, .ref 4, .int 0], vm := .none },
  { cls := 7, slots := #[.ref 5, .int 0, .int 0, .int 0], vm := .none },
  { cls := 25, slots := #[.int 108, .int 111, .int 99, .int 107], vm := .none },
  { cls := 15, slots := #[.null, .int 0, .int 0, .ref 7, .int 0], vm := .none },
  { cls := 7, slots := #[.ref 8, .int 0, .int 0, .int 0], vm := .none },
  { cls := 25, slots := #[.int 101, .int 108, .int 101, .int 99, .int 116, .int 105, .int 111, .int 110], vm := .none },
  { cls := 15, slots := #[.null, .int 0, .int 0, .ref 10, .int 0], vm := .none },
  { cls := 7, slots := #[.ref 11, .int 0, .int 0, .int 0], vm := .none },
  { cls := 25, slots := #[.int 119, .int 114, .int 105, .int 116, .int 101, .int 32, .int 108, .int 111, .int 99, .int 107], vm := .none },
  { cls := 15, slots := #[.null, .int 0, .int 0, .ref 13, .int 0], vm := .none },
  { cls := 7, slots := #[.ref 14, .int 0, .int 0, .int 0], vm := .none },
  { cls := 25, slots := #[.int 114, .int 101, .int 97, .int 100, .int 32, .int 108, .int 111, .int 99, .int 107], vm := .none }]
def classes : Array Class := #[k0, k1, k2, k3, k4, k5, k6, k7, k8, k9, k10, k11, k12, k13, k14, k15, k16, k17, k18, k19, k20, k21, k22, k23, k24, k25, k26, k27]
def interned : List (Array UInt16 × Addr) := []
def slotsUsed : Nat := 82
def theMethod : MethodId := ⟨1, 1⟩
def args0 : Array Value := #[.int 5, .int 5, .int 5, .int 5, .int 5]
def aboutOver (below : List Frame) : State where
  vm := { classes := classes, interned := interned.toArray }
  heap := heap
  slotsUsed := slotsUsed
  threads := #[{ frames := .invoking theMethod args0 :: below }]
def below0 : List Frame := [.native { method := ⟨0, 0⟩, args := #[] }]
def about1 : State := aboutOver below0
def p0 : Program := .bare "" "" ""
def e0 : Env := launch0.env 0 0 0
theorem w_frames : about1.frames = Frame.invoking theMethod args0 :: below0 := rfl
set_option maxRecDepth 65536 in
theorem w_args : argsFit about1.vm theMethod args0 = true := by decide +kernel
set_option maxRecDepth 65536 in
theorem w_heap : heapFits about1 = true := by decide +kernel
set_option maxRecDepth 65536 in
theorem w_runnable : about1.curStatus? = some .runnable := by decide +kernel
set_option maxRecDepth 65536 in
theorem w_alone : about1.alone = true := by decide +kernel
set_option maxRecDepth 65536 in
theorem w_named : about1.methodNamed? x = some theMethod := by decide +kernel
set_option maxRecDepth 65536 in
theorem w_hears : about1.hears theMethod below0 = true := by decide +kernel
set_option maxRecDepth 65536 in
theorem w_ripe : about1.ripe theMethod args0 below0 = true := by decide +kernel
theorem w_running : about1.status = .running := rfl
set_option maxRecDepth 65536 in
theorem w_room : about1.hasRoom e0.platform room_1 = true :=
  launch0.hasRoom_least _ room_1 (by decide +kernel) (by decide +kernel) (by decide +kernel) (by decide +kernel) (by decide +kernel) (by decide +kernel)
theorem allAtoms_all (ts : List Jvm.Cond) (a : Array Jvm.Value) (st : Jvm.State) : (allAtoms ts).before a st = ts.all (fun c => c.before a st) := by
  induction ts with
  | nil => rfl
  | cons c t ih =>
    show (Jvm.Cond.and c (allAtoms t)).before a st = _
    rw [Jvm.Cond.before_and, ih, List.all_cons]
def words1 : List Jvm.Cond := Jvm.Cond.code x code maxLocals ret :: tables_1
/-- a 'code' word, met by the world's own term for the bytes: nothing is compared byte by byte -/
theorem code_word {y : MethodName} {bytes : ByteArray} {mx : Nat} {rt : Option FieldType} {a : Array Value} {s : State} {m : MethodId} {meth : Method} {c : Code} (h1 : s.methodNamed? y = some m) (h2 : s.vm.method? m = some meth) (h3 : meth.code = some c) (h4 : c.code = bytes)
    (h5 : (c.maxLocals == mx && c.exceptionTable.isEmpty && decide (c.maxStack ≤ mostOperands) && decide (meth.sig.returnType = rt) && !meth.locks && decide (parseMethodDescriptor y.desc = some meth.sig)) = true) : (Jvm.Cond.code y bytes mx rt).before a s = true := by
  simp only [Bool.and_eq_true, beq_iff_eq, Bool.not_eq_true', decide_eq_true_eq] at h5
  obtain ⟨⟨⟨⟨⟨g1, g2⟩, g3⟩, g4⟩, g5⟩, g6⟩ := h5
  simp [Cond.before, Cond.holds, Cond.value, h1, h2, h3, h4, g1, g2, g3, g4, g5, g6]
def isCode : Jvm.Cond → Bool
  | .code _ _ _ _ => true
  | _ => false
theorem all_split {L : List Jvm.Cond} {P : Jvm.Cond → Bool} (h1 : L.all (fun c => isCode c || P c) = true) (h2 : ∀ c ∈ L.filter isCode, P c = true) : L.all P = true := by
  refine List.all_eq_true.mpr fun c hc => ?_
  have h := List.all_eq_true.mp h1 c hc
  rcases Bool.eq_false_or_eq_true (isCode c) with hi | hi
  · exact h2 c (List.mem_filter.mpr ⟨hc, hi⟩)
  · simpa [hi] using h
set_option maxRecDepth 65536 in
theorem w_c0 : (Jvm.Cond.code x code maxLocals ret).before args0 about1 = true := code_word (m := ⟨1, 1⟩) (meth := k1m1) (c := k1c1) (by decide +kernel) rfl rfl rfl (by decide +kernel)
set_option maxRecDepth 65536 in
theorem w_c1 : (Jvm.Cond.code ({ cls := "com/example/fair_lock/fairlock/RequestKindDescribePinLaw", name := "pick", desc := "(I)C" } : Jvm.MethodName) method_4_code (2 : Nat) (Option.some Jvm.ClassFile.FieldType.char)).before args0 about1 = true := code_word (m := ⟨1, 3⟩) (meth := k1m3) (c := k1c3) (by decide +kernel) rfl rfl rfl (by decide +kernel)
set_option maxRecDepth 65536 in
theorem w_c2 : (Jvm.Cond.code ({ cls := "java/lang/String", name := "<init>", desc := "([C)V" } : Jvm.MethodName) jdk_42_method_3_code (2 : Nat) (Option.none : Option Jvm.ClassFile.FieldType)).before args0 about1 = true := code_word (m := ⟨7, 1⟩) (meth := k7m1) (c := k7c1) (by decide +kernel) rfl rfl rfl (by decide +kernel)
set_option maxRecDepth 65536 in
theorem w_c3 : (Jvm.Cond.code ({ cls := "java/lang/String", name := "<init>", desc := "([CIILjava/lang/Void;)V" } : Jvm.MethodName) jdk_42_method_149_code (6 : Nat) (Option.none : Option Jvm.ClassFile.FieldType)).before args0 about1 = true := code_word (m := ⟨7, 8⟩) (meth := k7m8) (c := k7c8) (by decide +kernel) rfl rfl rfl (by decide +kernel)
set_option maxRecDepth 65536 in
theorem w_c4 : (Jvm.Cond.code ({ cls := "java/lang/Object", name := "<init>", desc := "()V" } : Jvm.MethodName) object_method_1_code (1 : Nat) (Option.none : Option Jvm.ClassFile.FieldType)).before args0 about1 = true := code_word (m := ⟨0, 0⟩) (meth := k0m0) (c := k0c0) (by decide +kernel) rfl rfl rfl (by decide +kernel)
set_option maxRecDepth 65536 in
theorem w_c5 : (Jvm.Cond.code ({ cls := "java/lang/StringUTF16", name := "compress", desc := "([CII)[B" } : Jvm.MethodName) jdk_52_method_16_code (6 : Nat) (Option.some (Jvm.ClassFile.FieldType.array Jvm.ClassFile.FieldType.byte))).before args0 about1 = true := code_word (m := ⟨8, 2⟩) (meth := k8m2) (c := k8c2) (by decide +kernel) rfl rfl rfl (by decide +kernel)
set_option maxRecDepth 65536 in
theorem w_c6 : (Jvm.Cond.code ({ cls := "java/lang/StringUTF16", name := "compress", desc := "([CI[BII)I" } : Jvm.MethodName) jdk_52_method_21_code (7 : Nat) (Option.some Jvm.ClassFile.FieldType.int)).before args0 about1 = true := code_word (m := ⟨8, 3⟩) (meth := k8m3) (c := k8c3) (by decide +kernel) rfl rfl rfl (by decide +kernel)
set_option maxRecDepth 65536 in
theorem w_c7 : (Jvm.Cond.code ({ cls := "java/lang/StringUTF16", name := "coderFromArrayLen", desc := "([BI)B" } : Jvm.MethodName) jdk_52_method_15_code (2 : Nat) (Option.some Jvm.ClassFile.FieldType.byte)).before args0 about1 = true := code_word (m := ⟨8, 1⟩) (meth := k8m1) (c := k8c1) (by decide +kernel) rfl rfl rfl (by decide +kernel)
set_option maxRecDepth 65536 in
theorem w_c8 : (Jvm.Cond.code ({ cls := "java/lang/String", name := "equals", desc := "(Ljava/lang/Object;)Z" } : Jvm.MethodName) jdk_42_method_66_code (3 : Nat) (Option.some Jvm.ClassFile.FieldType.boolean)).before args0 about1 = true := code_word (m := ⟨7, 6⟩) (meth := k7m6) (c := k7c6) (by decide +kernel) rfl rfl rfl (by decide +kernel)
set_option maxRecDepth 65536 in
theorem w_c9 : (Jvm.Cond.code ({ cls := "java/lang/StringLatin1", name := "equals", desc := "([B[B)Z" } : Jvm.MethodName) jdk_43_method_13_code (3 : Nat) (Option.some Jvm.ClassFile.FieldType.boolean)).before args0 about1 = true := code_word (m := ⟨9, 2⟩) (meth := k9m2) (c := k9c2) (by decide +kernel) rfl rfl rfl (by decide +kernel)
set_option maxRecDepth 65536 in
theorem w_c10 : (Jvm.Cond.code ({ cls := "com/example/fair_lock/fairlock/LockName", name := "<init>", desc := "(Ljava/lang/String;)V" } : Jvm.MethodName) prog_5_method_1_code (4 : Nat) (Option.none : Option Jvm.ClassFile.FieldType)).before args0 about1 = true := code_word (m := ⟨11, 0⟩) (meth := k11m0) (c := k11c0) (by decide +kernel) rfl rfl rfl (by decide +kernel)
set_option maxRecDepth 65536 in
theorem w_c11 : (Jvm.Cond.code ({ cls := "java/lang/Record", name := "<init>", desc := "()V" } : Jvm.MethodName) jdk_30_method_1_code (1 : Nat) (Option.none : Option Jvm.ClassFile.FieldType)).before args0 about1 = true := code_word (m := ⟨10, 0⟩) (meth := k10m0) (c := k10c0) (by decide +kernel) rfl rfl rfl (by decide +kernel)
set_option maxRecDepth 65536 in
theorem w_c12 : (Jvm.Cond.code ({ cls := "java/util/Objects", name := "requireNonNull", desc := "(Ljava/lang/Object;Ljava/lang/String;)Ljava/lang/Object;" } : Jvm.MethodName) jdk_31_method_11_code (2 : Nat) (Option.some (Jvm.ClassFile.FieldType.object "java/lang/Object"))).before args0 about1 = true := code_word (m := ⟨12, 1⟩) (meth := k12m1) (c := k12c1) (by decide +kernel) rfl rfl rfl (by decide +kernel)
set_option maxRecDepth 65536 in
theorem w_c13 : (Jvm.Cond.code ({ cls := "java/lang/String", name := "isEmpty", desc := "()Z" } : Jvm.MethodName) jdk_42_method_55_code (1 : Nat) (Option.some Jvm.ClassFile.FieldType.boolean)).before args0 about1 = true := code_word (m := ⟨7, 4⟩) (meth := k7m4) (c := k7c4) (by decide +kernel) rfl rfl rfl (by decide +kernel)
set_option maxRecDepth 65536 in
theorem w_c14 : (Jvm.Cond.code ({ cls := "java/lang/String", name := "length", desc := "()I" } : Jvm.MethodName) jdk_42_method_54_code (1 : Nat) (Option.some Jvm.ClassFile.FieldType.int)).before args0 about1 = true := code_word (m := ⟨7, 3⟩) (meth := k7m3) (c := k7c3) (by decide +kernel) rfl rfl rfl (by decide +kernel)
set_option maxRecDepth 65536 in
theorem w_c15 : (Jvm.Cond.code ({ cls := "java/lang/String", name := "coder", desc := "()B" } : Jvm.MethodName) jdk_42_method_152_code (1 : Nat) (Option.some Jvm.ClassFile.FieldType.byte)).before args0 about1 = true := code_word (m := ⟨7, 10⟩) (meth := k7m10) (c := k7c10) (by decide +kernel) rfl rfl rfl (by decide +kernel)
set_option maxRecDepth 65536 in
theorem w_c16 : (Jvm.Cond.code ({ cls := "java/lang/String", name := "charAt", desc := "(I)C" } : Jvm.MethodName) jdk_42_method_56_code (2 : Nat) (Option.some Jvm.ClassFile.FieldType.char)).before args0 about1 = true := code_word (m := ⟨7, 5⟩) (meth := k7m5) (c := k7c5) (by decide +kernel) rfl rfl rfl (by decide +kernel)
set_option maxRecDepth 65536 in
theorem w_c17 : (Jvm.Cond.code ({ cls := "java/lang/String", name := "isLatin1", desc := "()Z" } : Jvm.MethodName) jdk_42_method_154_code (1 : Nat) (Option.some Jvm.ClassFile.FieldType.boolean)).before args0 about1 = true := code_word (m := ⟨7, 11⟩) (meth := k7m11) (c := k7c11) (by decide +kernel) rfl rfl rfl (by decide +kernel)
set_option maxRecDepth 65536 in
theorem w_c18 : (Jvm.Cond.code ({ cls := "java/lang/StringLatin1", name := "charAt", desc := "([BI)C" } : Jvm.MethodName) jdk_43_method_2_code (2 : Nat) (Option.some Jvm.ClassFile.FieldType.char)).before args0 about1 = true := code_word (m := ⟨9, 1⟩) (meth := k9m1) (c := k9c1) (by decide +kernel) rfl rfl rfl (by decide +kernel)
set_option maxRecDepth 65536 in
theorem w_c19 : (Jvm.Cond.code ({ cls := "java/lang/String", name := "checkIndex", desc := "(II)V" } : Jvm.MethodName) jdk_42_method_155_code (2 : Nat) (Option.none : Option Jvm.ClassFile.FieldType)).before args0 about1 = true := code_word (m := ⟨7, 12⟩) (meth := k7m12) (c := k7c12) (by decide +kernel) rfl rfl rfl (by decide +kernel)
set_option maxRecDepth 65536 in
theorem w_c20 : (Jvm.Cond.code ({ cls := "jdk/internal/util/Preconditions", name := "checkIndex", desc := "(IILjava/util/function/BiFunction;)I" } : Jvm.MethodName) jdk_41_method_11_code (3 : Nat) (Option.some Jvm.ClassFile.FieldType.int)).before args0 about1 = true := code_word (m := ⟨13, 1⟩) (meth := k13m1) (c := k13c1) (by decide +kernel) rfl rfl rfl (by decide +kernel)
set_option maxRecDepth 65536 in
theorem w_c21 : (Jvm.Cond.code ({ cls := "com/example/fair_lock/fairlock/LockName", name := "isAllowed", desc := "(C)Z" } : Jvm.MethodName) prog_5_method_2_code (1 : Nat) (Option.some Jvm.ClassFile.FieldType.boolean)).before args0 about1 = true := code_word (m := ⟨11, 1⟩) (meth := k11m1) (c := k11c1) (by decide +kernel) rfl rfl rfl (by decide +kernel)
set_option maxRecDepth 65536 in
theorem w_c22 : (Jvm.Cond.code ({ cls := "com/example/fair_lock/fairlock/RequestKind", name := "describe", desc := "(Lcom/example/fair_lock/fairlock/LockName;)Ljava/lang/String;" } : Jvm.MethodName) prog_7_method_6_code (2 : Nat) (Option.some (Jvm.ClassFile.FieldType.object "java/lang/String"))).before args0 about1 = true := code_word (m := ⟨15, 0⟩) (meth := k15m0) (c := k15c0) (by decide +kernel) rfl rfl rfl (by decide +kernel)
set_option maxRecDepth 65536 in
theorem w_c23 : (Jvm.Cond.code ({ cls := "java/lang/StringBuilder", name := "<init>", desc := "()V" } : Jvm.MethodName) jdk_67_method_1_code (1 : Nat) (Option.none : Option Jvm.ClassFile.FieldType)).before args0 about1 = true := code_word (m := ⟨18, 0⟩) (meth := k18m0) (c := k18c0) (by decide +kernel) rfl rfl rfl (by decide +kernel)
set_option maxRecDepth 65536 in
theorem w_c24 : (Jvm.Cond.code ({ cls := "java/lang/AbstractStringBuilder", name := "<init>", desc := "(I)V" } : Jvm.MethodName) jdk_68_method_2_code (2 : Nat) (Option.none : Option Jvm.ClassFile.FieldType)).before args0 about1 = true := code_word (m := ⟨17, 1⟩) (meth := k17m1) (c := k17c1) (by decide +kernel) rfl rfl rfl (by decide +kernel)
set_option maxRecDepth 65536 in
theorem w_c25 : (Jvm.Cond.code ({ cls := "java/lang/StringBuilder", name := "append", desc := "(Ljava/lang/String;)Ljava/lang/StringBuilder;" } : Jvm.MethodName) jdk_67_method_7_code (2 : Nat) (Option.some (Jvm.ClassFile.FieldType.object "java/lang/StringBuilder"))).before args0 about1 = true := code_word (m := ⟨18, 1⟩) (meth := k18m1) (c := k18c1) (by decide +kernel) rfl rfl rfl (by decide +kernel)
set_option maxRecDepth 65536 in
theorem w_c26 : (Jvm.Cond.code ({ cls := "java/lang/AbstractStringBuilder", name := "append", desc := "(Ljava/lang/String;)Ljava/lang/AbstractStringBuilder;" } : Jvm.MethodName) jdk_68_method_22_code (3 : Nat) (Option.some (Jvm.ClassFile.FieldType.object "java/lang/AbstractStringBuilder"))).before args0 about1 = true := code_word (m := ⟨17, 4⟩) (meth := k17m4) (c := k17c4) (by decide +kernel) rfl rfl rfl (by decide +kernel)
set_option maxRecDepth 65536 in
theorem w_c27 : (Jvm.Cond.code ({ cls := "java/lang/AbstractStringBuilder", name := "ensureCapacityInternal", desc := "(I)V" } : Jvm.MethodName) jdk_68_method_9_code (3 : Nat) (Option.none : Option Jvm.ClassFile.FieldType)).before args0 about1 = true := code_word (m := ⟨17, 3⟩) (meth := k17m3) (c := k17c3) (by decide +kernel) rfl rfl rfl (by decide +kernel)
set_option maxRecDepth 65536 in
theorem w_c28 : (Jvm.Cond.code ({ cls := "java/lang/AbstractStringBuilder", name := "putStringAt", desc := "(ILjava/lang/String;)V" } : Jvm.MethodName) jdk_68_method_73_code (3 : Nat) (Option.none : Option Jvm.ClassFile.FieldType)).before args0 about1 = true := code_word (m := ⟨17, 8⟩) (meth := k17m8) (c := k17c8) (by decide +kernel) rfl rfl rfl (by decide +kernel)
set_option maxRecDepth 65536 in
theorem w_c29 : (Jvm.Cond.code ({ cls := "java/lang/AbstractStringBuilder", name := "inflateIfNeededFor", desc := "(Ljava/lang/String;)V" } : Jvm.MethodName) jdk_68_method_71_code (2 : Nat) (Option.none : Option Jvm.ClassFile.FieldType)).before args0 about1 = true := code_word (m := ⟨17, 7⟩) (meth := k17m7) (c := k17c7) (by decide +kernel) rfl rfl rfl (by decide +kernel)
set_option maxRecDepth 65536 in
theorem w_c30 : (Jvm.Cond.code ({ cls := "java/lang/String", name := "getBytes", desc := "([BIB)V" } : Jvm.MethodName) jdk_42_method_147_code (4 : Nat) (Option.none : Option Jvm.ClassFile.FieldType)).before args0 about1 = true := code_word (m := ⟨7, 7⟩) (meth := k7m7) (c := k7c7) (by decide +kernel) rfl rfl rfl (by decide +kernel)
set_option maxRecDepth 65536 in
theorem w_c31 : (Jvm.Cond.code ({ cls := "com/example/fair_lock/fairlock/LockName", name := "value", desc := "()Ljava/lang/String;" } : Jvm.MethodName) prog_5_method_6_code (1 : Nat) (Option.some (Jvm.ClassFile.FieldType.object "java/lang/String"))).before args0 about1 = true := code_word (m := ⟨11, 2⟩) (meth := k11m2) (c := k11c2) (by decide +kernel) rfl rfl rfl (by decide +kernel)
set_option maxRecDepth 65536 in
theorem w_c32 : (Jvm.Cond.code ({ cls := "java/lang/StringBuilder", name := "toString", desc := "()Ljava/lang/String;" } : Jvm.MethodName) jdk_67_method_42_code (1 : Nat) (Option.some (Jvm.ClassFile.FieldType.object "java/lang/String"))).before args0 about1 = true := code_word (m := ⟨18, 2⟩) (meth := k18m2) (c := k18c2) (by decide +kernel) rfl rfl rfl (by decide +kernel)
set_option maxRecDepth 65536 in
theorem w_c33 : (Jvm.Cond.code ({ cls := "java/lang/String", name := "<init>", desc := "(Ljava/lang/StringBuilder;)V" } : Jvm.MethodName) jdk_42_method_53_code (2 : Nat) (Option.none : Option Jvm.ClassFile.FieldType)).before args0 about1 = true := code_word (m := ⟨7, 2⟩) (meth := k7m2) (c := k7c2) (by decide +kernel) rfl rfl rfl (by decide +kernel)
set_option maxRecDepth 65536 in
theorem w_c34 : (Jvm.Cond.code ({ cls := "java/lang/String", name := "<init>", desc := "(Ljava/lang/AbstractStringBuilder;Ljava/lang/Void;)V" } : Jvm.MethodName) jdk_42_method_150_code (5 : Nat) (Option.none : Option Jvm.ClassFile.FieldType)).before args0 about1 = true := code_word (m := ⟨7, 9⟩) (meth := k7m9) (c := k7c9) (by decide +kernel) rfl rfl rfl (by decide +kernel)
set_option maxRecDepth 65536 in
theorem w_c35 : (Jvm.Cond.code ({ cls := "java/lang/AbstractStringBuilder", name := "getValue", desc := "()[B" } : Jvm.MethodName) jdk_68_method_64_code (1 : Nat) (Option.some (Jvm.ClassFile.FieldType.array Jvm.ClassFile.FieldType.byte))).before args0 about1 = true := code_word (m := ⟨17, 5⟩) (meth := k17m5) (c := k17c5) (by decide +kernel) rfl rfl rfl (by decide +kernel)
set_option maxRecDepth 65536 in
theorem w_c36 : (Jvm.Cond.code ({ cls := "java/lang/StringBuilder", name := "length", desc := "()I" } : Jvm.MethodName) jdk_67_method_93_code (1 : Nat) (Option.some Jvm.ClassFile.FieldType.int)).before args0 about1 = true := code_word (m := ⟨18, 3⟩) (meth := k18m3) (c := k18c3) (by decide +kernel) rfl rfl rfl (by decide +kernel)
set_option maxRecDepth 65536 in
theorem w_c37 : (Jvm.Cond.code ({ cls := "java/lang/AbstractStringBuilder", name := "length", desc := "()I" } : Jvm.MethodName) jdk_68_method_6_code (1 : Nat) (Option.some Jvm.ClassFile.FieldType.int)).before args0 about1 = true := code_word (m := ⟨17, 2⟩) (meth := k17m2) (c := k17c2) (by decide +kernel) rfl rfl rfl (by decide +kernel)
set_option maxRecDepth 65536 in
theorem w_c38 : (Jvm.Cond.code ({ cls := "java/lang/AbstractStringBuilder", name := "isLatin1", desc := "()Z" } : Jvm.MethodName) jdk_68_method_68_code (1 : Nat) (Option.some Jvm.ClassFile.FieldType.boolean)).before args0 about1 = true := code_word (m := ⟨17, 6⟩) (meth := k17m6) (c := k17c6) (by decide +kernel) rfl rfl rfl (by decide +kernel)
set_option maxRecDepth 65536 in
theorem w_c39 : (Jvm.Cond.code ({ cls := "java/util/Arrays", name := "copyOfRange", desc := "([BII)[B" } : Jvm.MethodName) jdk_65_method_132_code (3 : Nat) (Option.some (Jvm.ClassFile.FieldType.array Jvm.ClassFile.FieldType.byte))).before args0 about1 = true := code_word (m := ⟨20, 2⟩) (meth := k20m2) (c := k20c2) (by decide +kernel) rfl rfl rfl (by decide +kernel)
set_option maxRecDepth 65536 in
theorem w_c40 : (Jvm.Cond.code ({ cls := "java/util/Arrays", name := "copyOfRangeByte", desc := "([BII)[B" } : Jvm.MethodName) jdk_65_method_133_code (5 : Nat) (Option.some (Jvm.ClassFile.FieldType.array Jvm.ClassFile.FieldType.byte))).before args0 about1 = true := code_word (m := ⟨20, 3⟩) (meth := k20m3) (c := k20c3) (by decide +kernel) rfl rfl rfl (by decide +kernel)
set_option maxRecDepth 65536 in
theorem w_c41 : (Jvm.Cond.code ({ cls := "java/util/Arrays", name := "checkLength", desc := "(II)V" } : Jvm.MethodName) jdk_65_method_131_code (2 : Nat) (Option.none : Option Jvm.ClassFile.FieldType)).before args0 about1 = true := code_word (m := ⟨20, 1⟩) (meth := k20m1) (c := k20c1) (by decide +kernel) rfl rfl rfl (by decide +kernel)
set_option maxRecDepth 65536 in
theorem w_c42 : (Jvm.Cond.code ({ cls := "java/lang/Math", name := "min", desc := "(II)I" } : Jvm.MethodName) jdk_29_method_69_code (2 : Nat) (Option.some Jvm.ClassFile.FieldType.int)).before args0 about1 = true := code_word (m := ⟨21, 1⟩) (meth := k21m1) (c := k21c1) (by decide +kernel) rfl rfl rfl (by decide +kernel)
set_option maxRecDepth 65536 in
theorem w_c43 : (Jvm.Cond.code ({ cls := "com/example/fair_lock/fairlock/RequestKindDescribePinLaw", name := "same", desc := "(Ljava/lang/String;ILjava/lang/String;I)Z" } : Jvm.MethodName) method_3_code (4 : Nat) (Option.some Jvm.ClassFile.FieldType.boolean)).before args0 about1 = true := code_word (m := ⟨1, 2⟩) (meth := k1m2) (c := k1c2) (by decide +kernel) rfl rfl rfl (by decide +kernel)
def codes1 : List Jvm.Cond := [Jvm.Cond.code x code maxLocals ret, Jvm.Cond.code ({ cls := "com/example/fair_lock/fairlock/RequestKindDescribePinLaw", name := "pick", desc := "(I)C" } : Jvm.MethodName) method_4_code (2 : Nat) (Option.some Jvm.ClassFile.FieldType.char), Jvm.Cond.code ({ cls := "java/lang/String", name := "<init>", desc := "([C)V" } : Jvm.MethodName) jdk_42_method_3_code (2 : Nat) (Option.none : Option Jvm.ClassFile.FieldType), Jvm.Cond.code ({ cls := "java/lang/String", name := "<init>", desc := "([CIILjava/lang/Void;)V" } : Jvm.MethodName) jdk_42_method_149_code (6 : Nat) (Option.none : Option Jvm.ClassFile.FieldType), Jvm.Cond.code ({ cls := "java/lang/Object", name := "<init>", desc := "()V" } : Jvm.MethodName) object_method_1_code (1 : Nat) (Option.none : Option Jvm.ClassFile.FieldType), Jvm.Cond.code ({ cls := "java/lang/StringUTF16", name := "compress", desc := "([CII)[B" } : Jvm.MethodName) jdk_52_method_16_code (6 : Nat) (Option.some (Jvm.ClassFile.FieldType.array Jvm.ClassFile.FieldType.byte)), Jvm.Cond.code ({ cls := "java/lang/StringUTF16", name := "compress", desc := "([CI[BII)I" } : Jvm.MethodName) jdk_52_method_21_code (7 : Nat) (Option.some Jvm.ClassFile.FieldType.int), Jvm.Cond.code ({ cls := "java/lang/StringUTF16", name := "coderFromArrayLen", desc := "([BI)B" } : Jvm.MethodName) jdk_52_method_15_code (2 : Nat) (Option.some Jvm.ClassFile.FieldType.byte), Jvm.Cond.code ({ cls := "java/lang/String", name := "equals", desc := "(Ljava/lang/Object;)Z" } : Jvm.MethodName) jdk_42_method_66_code (3 : Nat) (Option.some Jvm.ClassFile.FieldType.boolean), Jvm.Cond.code ({ cls := "java/lang/StringLatin1", name := "equals", desc := "([B[B)Z" } : Jvm.MethodName) jdk_43_method_13_code (3 : Nat) (Option.some Jvm.ClassFile.FieldType.boolean), Jvm.Cond.code ({ cls := "com/example/fair_lock/fairlock/LockName", name := "<init>", desc := "(Ljava/lang/String;)V" } : Jvm.MethodName) prog_5_method_1_code (4 : Nat) (Option.none : Option Jvm.ClassFile.FieldType), Jvm.Cond.code ({ cls := "java/lang/Record", name := "<init>", desc := "()V" } : Jvm.MethodName) jdk_30_method_1_code (1 : Nat) (Option.none : Option Jvm.ClassFile.FieldType), Jvm.Cond.code ({ cls := "java/util/Objects", name := "requireNonNull", desc := "(Ljava/lang/Object;Ljava/lang/String;)Ljava/lang/Object;" } : Jvm.MethodName) jdk_31_method_11_code (2 : Nat) (Option.some (Jvm.ClassFile.FieldType.object "java/lang/Object")), Jvm.Cond.code ({ cls := "java/lang/String", name := "isEmpty", desc := "()Z" } : Jvm.MethodName) jdk_42_method_55_code (1 : Nat) (Option.some Jvm.ClassFile.FieldType.boolean), Jvm.Cond.code ({ cls := "java/lang/String", name := "length", desc := "()I" } : Jvm.MethodName) jdk_42_method_54_code (1 : Nat) (Option.some Jvm.ClassFile.FieldType.int), Jvm.Cond.code ({ cls := "java/lang/String", name := "coder", desc := "()B" } : Jvm.MethodName) jdk_42_method_152_code (1 : Nat) (Option.some Jvm.ClassFile.FieldType.byte), Jvm.Cond.code ({ cls := "java/lang/String", name := "charAt", desc := "(I)C" } : Jvm.MethodName) jdk_42_method_56_code (2 : Nat) (Option.some Jvm.ClassFile.FieldType.char), Jvm.Cond.code ({ cls := "java/lang/String", name := "isLatin1", desc := "()Z" } : Jvm.MethodName) jdk_42_method_154_code (1 : Nat) (Option.some Jvm.ClassFile.FieldType.boolean), Jvm.Cond.code ({ cls := "java/lang/StringLatin1", name := "charAt", desc := "([BI)C" } : Jvm.MethodName) jdk_43_method_2_code (2 : Nat) (Option.some Jvm.ClassFile.FieldType.char), Jvm.Cond.code ({ cls := "java/lang/String", name := "checkIndex", desc := "(II)V" } : Jvm.MethodName) jdk_42_method_155_code (2 : Nat) (Option.none : Option Jvm.ClassFile.FieldType), Jvm.Cond.code ({ cls := "jdk/internal/util/Preconditions", name := "checkIndex", desc := "(IILjava/util/function/BiFunction;)I" } : Jvm.MethodName) jdk_41_method_11_code (3 : Nat) (Option.some Jvm.ClassFile.FieldType.int), Jvm.Cond.code ({ cls := "com/example/fair_lock/fairlock/LockName", name := "isAllowed", desc := "(C)Z" } : Jvm.MethodName) prog_5_method_2_code (1 : Nat) (Option.some Jvm.ClassFile.FieldType.boolean), Jvm.Cond.code ({ cls := "com/example/fair_lock/fairlock/RequestKind", name := "describe", desc := "(Lcom/example/fair_lock/fairlock/LockName;)Ljava/lang/String;" } : Jvm.MethodName) prog_7_method_6_code (2 : Nat) (Option.some (Jvm.ClassFile.FieldType.object "java/lang/String")), Jvm.Cond.code ({ cls := "java/lang/StringBuilder", name := "<init>", desc := "()V" } : Jvm.MethodName) jdk_67_method_1_code (1 : Nat) (Option.none : Option Jvm.ClassFile.FieldType), Jvm.Cond.code ({ cls := "java/lang/AbstractStringBuilder", name := "<init>", desc := "(I)V" } : Jvm.MethodName) jdk_68_method_2_code (2 : Nat) (Option.none : Option Jvm.ClassFile.FieldType), Jvm.Cond.code ({ cls := "java/lang/StringBuilder", name := "append", desc := "(Ljava/lang/String;)Ljava/lang/StringBuilder;" } : Jvm.MethodName) jdk_67_method_7_code (2 : Nat) (Option.some (Jvm.ClassFile.FieldType.object "java/lang/StringBuilder")), Jvm.Cond.code ({ cls := "java/lang/AbstractStringBuilder", name := "append", desc := "(Ljava/lang/String;)Ljava/lang/AbstractStringBuilder;" } : Jvm.MethodName) jdk_68_method_22_code (3 : Nat) (Option.some (Jvm.ClassFile.FieldType.object "java/lang/AbstractStringBuilder")), Jvm.Cond.code ({ cls := "java/lang/AbstractStringBuilder", name := "ensureCapacityInternal", desc := "(I)V" } : Jvm.MethodName) jdk_68_method_9_code (3 : Nat) (Option.none : Option Jvm.ClassFile.FieldType), Jvm.Cond.code ({ cls := "java/lang/AbstractStringBuilder", name := "putStringAt", desc := "(ILjava/lang/String;)V" } : Jvm.MethodName) jdk_68_method_73_code (3 : Nat) (Option.none : Option Jvm.ClassFile.FieldType), Jvm.Cond.code ({ cls := "java/lang/AbstractStringBuilder", name := "inflateIfNeededFor", desc := "(Ljava/lang/String;)V" } : Jvm.MethodName) jdk_68_method_71_code (2 : Nat) (Option.none : Option Jvm.ClassFile.FieldType), Jvm.Cond.code ({ cls := "java/lang/String", name := "getBytes", desc := "([BIB)V" } : Jvm.MethodName) jdk_42_method_147_code (4 : Nat) (Option.none : Option Jvm.ClassFile.FieldType), Jvm.Cond.code ({ cls := "com/example/fair_lock/fairlock/LockName", name := "value", desc := "()Ljava/lang/String;" } : Jvm.MethodName) prog_5_method_6_code (1 : Nat) (Option.some (Jvm.ClassFile.FieldType.object "java/lang/String")), Jvm.Cond.code ({ cls := "java/lang/StringBuilder", name := "toString", desc := "()Ljava/lang/String;" } : Jvm.MethodName) jdk_67_method_42_code (1 : Nat) (Option.some (Jvm.ClassFile.FieldType.object "java/lang/String")), Jvm.Cond.code ({ cls := "java/lang/String", name := "<init>", desc := "(Ljava/lang/StringBuilder;)V" } : Jvm.MethodName) jdk_42_method_53_code (2 : Nat) (Option.none : Option Jvm.ClassFile.FieldType), Jvm.Cond.code ({ cls := "java/lang/String", name := "<init>", desc := "(Ljava/lang/AbstractStringBuilder;Ljava/lang/Void;)V" } : Jvm.MethodName) jdk_42_method_150_code (5 : Nat) (Option.none : Option Jvm.ClassFile.FieldType), Jvm.Cond.code ({ cls := "java/lang/AbstractStringBuilder", name := "getValue", desc := "()[B" } : Jvm.MethodName) jdk_68_method_64_code (1 : Nat) (Option.some (Jvm.ClassFile.FieldType.array Jvm.ClassFile.FieldType.byte)), Jvm.Cond.code ({ cls := "java/lang/StringBuilder", name := "length", desc := "()I" } : Jvm.MethodName) jdk_67_method_93_code (1 : Nat) (Option.some Jvm.ClassFile.FieldType.int), Jvm.Cond.code ({ cls := "java/lang/AbstractStringBuilder", name := "length", desc := "()I" } : Jvm.MethodName) jdk_68_method_6_code (1 : Nat) (Option.some Jvm.ClassFile.FieldType.int), Jvm.Cond.code ({ cls := "java/lang/AbstractStringBuilder", name := "isLatin1", desc := "()Z" } : Jvm.MethodName) jdk_68_method_68_code (1 : Nat) (Option.some Jvm.ClassFile.FieldType.boolean), Jvm.Cond.code ({ cls := "java/util/Arrays", name := "copyOfRange", desc := "([BII)[B" } : Jvm.MethodName) jdk_65_method_132_code (3 : Nat) (Option.some (Jvm.ClassFile.FieldType.array Jvm.ClassFile.FieldType.byte)), Jvm.Cond.code ({ cls := "java/util/Arrays", name := "copyOfRangeByte", desc := "([BII)[B" } : Jvm.MethodName) jdk_65_method_133_code (5 : Nat) (Option.some (Jvm.ClassFile.FieldType.array Jvm.ClassFile.FieldType.byte)), Jvm.Cond.code ({ cls := "java/util/Arrays", name := "checkLength", desc := "(II)V" } : Jvm.MethodName) jdk_65_method_131_code (2 : Nat) (Option.none : Option Jvm.ClassFile.FieldType), Jvm.Cond.code ({ cls := "java/lang/Math", name := "min", desc := "(II)I" } : Jvm.MethodName) jdk_29_method_69_code (2 : Nat) (Option.some Jvm.ClassFile.FieldType.int), Jvm.Cond.code ({ cls := "com/example/fair_lock/fairlock/RequestKindDescribePinLaw", name := "same", desc := "(Ljava/lang/String;ILjava/lang/String;I)Z" } : Jvm.MethodName) method_3_code (4 : Nat) (Option.some Jvm.ClassFile.FieldType.boolean)]
set_option maxRecDepth 65536 in
theorem codes_eq : words1.filter isCode = codes1 := rfl
theorem w_codes : ∀ c ∈ words1.filter isCode, c.before args0 about1 = true := by
  rw [codes_eq]
  intro c hc
  simp only [codes1, List.mem_cons, List.not_mem_nil, or_false] at hc
  rcases hc with rfl | rfl | rfl | rfl | rfl | rfl | rfl | rfl | rfl | rfl | rfl | rfl | rfl | rfl | rfl | rfl | rfl | rfl | rfl | rfl | rfl | rfl | rfl | rfl | rfl | rfl | rfl | rfl | rfl | rfl | rfl | rfl | rfl | rfl | rfl | rfl | rfl | rfl | rfl | rfl | rfl | rfl | rfl | rfl
  · exact w_c0
  · exact w_c1
  · exact w_c2
  · exact w_c3
  · exact w_c4
  · exact w_c5
  · exact w_c6
  · exact w_c7
  · exact w_c8
  · exact w_c9
  · exact w_c10
  · exact w_c11
  · exact w_c12
  · exact w_c13
  · exact w_c14
  · exact w_c15
  · exact w_c16
  · exact w_c17
  · exact w_c18
  · exact w_c19
  · exact w_c20
  · exact w_c21
  · exact w_c22
  · exact w_c23
  · exact w_c24
  · exact w_c25
  · exact w_c26
  · exact w_c27
  · exact w_c28
  · exact w_c29
  · exact w_c30
  · exact w_c31
  · exact w_c32
  · exact w_c33
  · exact w_c34
  · exact w_c35
  · exact w_c36
  · exact w_c37
  · exact w_c38
  · exact w_c39
  · exact w_c40
  · exact w_c41
  · exact w_c42
  · exact w_c43
set_option maxRecDepth 65536 in
theorem w_t1 : (words1.take 24).all (fun c => isCode c || c.before args0 about1) = true := by decide +kernel
set_option maxRecDepth 65536 in
theorem w_t2 : ((words1.drop 24).take 24).all (fun c => isCode c || c.before args0 about1) = true := by decide +kernel
set_option maxRecDepth 65536 in
theorem w_t3 : (((words1.drop 24).drop 24).take 24).all (fun c => isCode c || c.before args0 about1) = true := by decide +kernel
set_option maxRecDepth 65536 in
theorem w_t4 : ((((words1.drop 24).drop 24).drop 24).take 24).all (fun c => isCode c || c.before args0 about1) = true := by decide +kernel
set_option maxRecDepth 65536 in
theorem w_t5 : (((((words1.drop 24).drop 24).drop 24).drop 24).take 24).all (fun c => isCode c || c.before args0 about1) = true := by decide +kernel
set_option maxRecDepth 65536 in
theorem w_t6 : ((((((words1.drop 24).drop 24).drop 24).drop 24).drop 24).take 24).all (fun c => isCode c || c.before args0 about1) = true := by decide +kernel
set_option maxRecDepth 65536 in
theorem w_t7 : (((((((words1.drop 24).drop 24).drop 24).drop 24).drop 24).drop 24).take 24).all (fun c => isCode c || c.before args0 about1) = true := by decide +kernel
set_option maxRecDepth 65536 in
theorem w_t8 : ((((((((words1.drop 24).drop 24).drop 24).drop 24).drop 24).drop 24).drop 24).take 24).all (fun c => isCode c || c.before args0 about1) = true := by decide +kernel
set_option maxRecDepth 65536 in
theorem w_t9 : (((((((((words1.drop 24).drop 24).drop 24).drop 24).drop 24).drop 24).drop 24).drop 24).take 24).all (fun c => isCode c || c.before args0 about1) = true := by decide +kernel
set_option maxRecDepth 65536 in
theorem w_t10 : ((((((((((words1.drop 24).drop 24).drop 24).drop 24).drop 24).drop 24).drop 24).drop 24).drop 24).take 24).all (fun c => isCode c || c.before args0 about1) = true := by decide +kernel
set_option maxRecDepth 65536 in
theorem w_t11 : ((((((((((words1.drop 24).drop 24).drop 24).drop 24).drop 24).drop 24).drop 24).drop 24).drop 24).drop 24).all (fun c => isCode c || c.before args0 about1) = true := by decide +kernel
theorem w_tables : (allAtoms (Jvm.Cond.code x code maxLocals ret :: tables_1)).before args0 about1 = true := by
  rw [allAtoms_all]
  show words1.all (fun c => c.before args0 about1) = true
  refine all_split ?_ w_codes
  rw [← List.take_append_drop 24 words1, List.all_append, w_t1, ← List.take_append_drop 24 (words1.drop 24), List.all_append, w_t2, ← List.take_append_drop 24 ((words1.drop 24).drop 24), List.all_append, w_t3, ← List.take_append_drop 24 (((words1.drop 24).drop 24).drop 24), List.all_append, w_t4, ← List.take_append_drop 24 ((((words1.drop 24).drop 24).drop 24).drop 24), List.all_append, w_t5, ← List.take_append_drop 24 (((((words1.drop 24).drop 24).drop 24).drop 24).drop 24), List.all_append, w_t6, ← List.take_append_drop 24 ((((((words1.drop 24).drop 24).drop 24).drop 24).drop 24).drop 24), List.all_append, w_t7, ← List.take_append_drop 24 (((((((words1.drop 24).drop 24).drop 24).drop 24).drop 24).drop 24).drop 24), List.all_append, w_t8, ← List.take_append_drop 24 ((((((((words1.drop 24).drop 24).drop 24).drop 24).drop 24).drop 24).drop 24).drop 24), List.all_append, w_t9, ← List.take_append_drop 24 (((((((((words1.drop 24).drop 24).drop 24).drop 24).drop 24).drop 24).drop 24).drop 24).drop 24), List.all_append, w_t10, w_t11]
  rfl
set_option maxRecDepth 65536 in
theorem w_rest : rest_1_c.before args0 about1 = true := by decide +kernel
set_option maxRecDepth 65536 in
theorem w_case : (Jvm.Cond.and given_1 narrow_1).before args0 about1 = true := by decide +kernel
set_option maxRecDepth 65536 in
theorem w_consts : constsHeld consts_1 about1 := Jvm.Lit.constsHeldB_iff.mp (by decide +kernel)
theorem w_applies : (headSpec (Jvm.Cond.code x code maxLocals ret :: tables_1) room_1).applies x e0.platform about1 = true :=
  (Spec.applies_iff w_frames).mpr ⟨w_running, w_runnable, w_alone, w_named, w_hears, w_ripe, w_room, w_tables⟩
theorem atStart : AtStart classFile x code maxLocals ret World_1 tables_1 room_1 Calls_1 rest_1 Pre_1 launch0 p0 e0 about1 theMethod args0 below0 :=
  ⟨lists_1, trivial, launch0.admits_env _ _ _, launch0.least_env, fairChoices_fair.cas, fairChoices_fair.clock, w_frames, w_args, w_heap, w_applies, ⟨w_consts, trivial⟩, w_rest, w_case⟩
end start1
theorem witness_1 : WitnessClaimed_1 := ⟨start1.p0, start1.e0, start1.about1, start1.theMethod, start1.args0, start1.below0, start1.atStart⟩
end Jvm.Pilot.@@N@@
